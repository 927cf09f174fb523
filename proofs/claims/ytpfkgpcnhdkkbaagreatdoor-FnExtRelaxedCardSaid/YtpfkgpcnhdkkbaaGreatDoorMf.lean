/- A value of BSON as the program holds it: a tree by depth, and what it is that slots and cells read as one. -/
import Derived.Test.YtpfkgpcnhdkkbaaGreatDoorMg
import Derived.Test.YtpfkgpcnhdkkbaaGreatDoorB6
import Derived.Deep.MidRow
import Derived.Handy
namespace Go.Proofs.YtpfkgpcnhdkkbaaGreatDoor
open Go.RowKit
set_option linter.unusedVariables false
set_option linter.unusedSimpArgs false

/-- One level of a value: its fields, its kids over K. -/
structure VR (K : Type) where
  kind : Int
  text : ByteArray
  more : ByteArray
  n : Int
  bits : Nat
  high : Nat
  b : List UInt8
  kids : List (ByteArray × K)
/-- Values of depth below d. -/
def VT : Nat → Type
  | 0 => Empty
  | d + 1 => VR (VT d)

/-- A slice of bytes. -/
def BytesV (w : World) (v : Value) (l : List UInt8) : Prop := ∃ A c, v = .slice A l.length c ∧ l.length ≤ c ∧ c ≤ 140737488351232 ∧ RB w A l
/-- A slice of elements: nine cells each. -/
def KidsV {K : Type} (w : World) (R : K → List Value → Prop) (v : Value) (l : List (ByteArray × K)) : Prop :=
  ∃ A c, v = .slice A l.length c ∧ l.length ≤ c ∧ c ≤ 140737488351232 ∧ ∀ i name k, l[i]? = some (name, k) → name.size ≤ 140737488351232 ∧ ∃ ad cs, A = some ad ∧ R k cs ∧ cs.length = 8 ∧ ∀ j u, (Value.string name :: cs)[j]? = some u → w.cell? (ad.add (9 * i + j)) = some u
def IsR {K : Type} (w : World) (R : K → List Value → Prop) (t : VR K) (cs : List Value) : Prop :=
  ∃ bv kv, cs = [.int .i64 t.kind, .string t.text, .string t.more, .int .i64 t.n, .int .u64 t.bits, .int .u64 t.high, bv, kv] ∧ I64 t.kind ∧ I64 t.n ∧ t.bits < 18446744073709551616 ∧ t.high < 18446744073709551616 ∧ t.text.size ≤ 140737488351232 ∧ t.more.size ≤ 140737488351232 ∧ BytesV w bv t.b ∧ KidsV w R kv t.kids
/-- Eight cells read as a value. -/
def IsV (w : World) : (d : Nat) → VT d → List Value → Prop
  | 0, t, _ => t.elim
  | d + 1, t, cs => IsR w (IsV w d) t cs

theorem cell_later {w w' : World} (h : Below w.heap.size w w') {p : Addr} {u : Value} (hc : w.cell? p = some u) : w'.cell? p = some u :=
  (h.cell (World.block_lt_of_cell? w _ hc)).trans hc
theorem RB.later {w w' : World} (h : Below w.heap.size w w') {A : Option Addr} {l : List UInt8} (hr : RB w A l) : RB w' A l := fun hl => by
  obtain ⟨ad, e, hc⟩ := hr hl
  exact ⟨ad, e, fun j b hb => cell_later h (hc j b hb)⟩
theorem BytesV.later {w w' : World} (h : Below w.heap.size w w') {v : Value} {l : List UInt8} (hb : BytesV w v l) : BytesV w' v l := by
  obtain ⟨A, c, e, hc, hc2, hr⟩ := hb
  exact ⟨A, c, e, hc, hc2, hr.later h⟩
theorem KidsV.later {K : Type} {w w' : World} (h : Below w.heap.size w w') {R R' : K → List Value → Prop} (hR : ∀ k cs, R k cs → R' k cs) {v : Value} {l : List (ByteArray × K)} (hk : KidsV w R v l) : KidsV w' R' v l := by
  obtain ⟨A, c, e, hc, hc2, hr⟩ := hk
  refine ⟨A, c, e, hc, hc2, fun i name k hi => ?_⟩
  obtain ⟨hn, ad, cs, e2, h1, h2, h3⟩ := hr i name k hi
  exact ⟨hn, ad, cs, e2, hR k cs h1, h2, fun j u hu => cell_later h (h3 j u hu)⟩
theorem IsV.later {w w' : World} (h : Below w.heap.size w w') : ∀ (d : Nat) (t : VT d) (cs : List Value), IsV w d t cs → IsV w' d t cs
  | 0, t, _, _ => t.elim
  | d + 1, t, cs, hv => by
    obtain ⟨bv, kv, e, h1, h2, h3, h4, h7, h8, h5, h6⟩ := hv
    exact ⟨bv, kv, e, h1, h2, h3, h4, h7, h8, h5.later h, h6.later h (fun k cs => IsV.later h d k cs)⟩
theorem IsV.len {w : World} {d : Nat} {t : VT d} {cs : List Value} (h : IsV w d t cs) : cs.length = 8 := by
  cases d with
  | zero => exact t.elim
  | succ d =>
    obtain ⟨bv, kv, e, _⟩ := h
    subst e
    rfl
theorem lt_alloc1 (w : World) (o : Obj) : w.heap.size < (w.alloc o).heap.size := by
  show w.heap.size < (w.heap.push o).size
  rw [Array.size_push]
  omega
set_option maxHeartbeats 800000 in
set_option maxRecDepth 100000 in
theorem writeJavascript_any {g B wb : Nat} {canon esc : Bool} {buf : List UInt8} {modes : List Int} {m : Int} {w : World} (s : ByteArray)  (h : IsEW g B wb canon esc buf (modes ++ [m]) w) (hp : 0 < modes.length) (hm : m = 4 ∨ m = 5) (hl : Room buf.length) (hT : Tabs w) (h17 : 17 ≤ B) (hs : s.size ≤ 10000000) :
    Calls Tryz.prog 158 #[.pointer (some ⟨g, 0, none⟩), .string s] w fun e w' => e = .returned .nilIface ∧ IsEW g B wb canon esc (buf ++ ([123, 34, 36, 99, 111, 100, 101, 34, 58] ++ jout esc s ++ [125, 44])) modes w' ∧ EStep B w w' := by
  have hB := Lib.hid h.lt
  go_enter Tryz.func158, Tryz.ntmps158
  have HT := Lib.hid hT
  clear hT
  go_wp2_with (go_at_call 66; refine (ensure_ew h hm _ _ _).mono ?_; rintro e w1 ⟨rfl, h1, s1⟩; refine Hid.out ?_)
  refine Lib.hid ?_
  have S1 := Lib.hid (EStep.of_below (B := B) s1 (by have := hB.out; omega))
  have H1 := Lib.hid h1
  have hlt1 := h1.lt.2
  have hB1 : B ≤ w1.heap.size := by have := h1.lt; omega
  have g5 := h1.flags.2
  obtain ⟨bv1, hv1⟩ := h1.buf
  clear h s1 h1
  have h171 : 17 ≤ w1.heap.size := by omega
  have X1 := Lib.hid (fresh_b w1)
  have Y1 := Lib.hid (below_allocB w1 (.cells #[.slice none 0 0, .int .i64 0, .int .i8 0] 64))
  have hZ1 : ([] : List UInt8).length ≤ 0 := Nat.le_refl _
  go_wp2_with (go_at_call 96; refine (wse_any s esc w1.heap.size w1.heap.size _ _ ((HT.out.below S1.out.1 h17).below Y1.out h171) h171 X1.out Y1.out.size (by simp only [List.length_append, List.length_cons, List.length_nil, len_bs, ByteArray.size_append, size_lit, List.size_toArray]; omega) (by omega)).mono ?_; rintro e w2 ⟨rfl, h2, b2⟩; refine Hid.out ?_)
  refine Lib.hid ?_
  have X2 := Lib.hid h2
  have Y2 := Lib.hid (Y1.out.trans b2)
  clear h2 b2 X1 Y1
  have S3 := Lib.hid (EStep.of_below (B := B) Y2.out hB1)
  have H3 := Lib.hid (H1.out.below Y2.out)
  go_wp2_with (go_at_call 42; refine (Tryz.Buffer_String w1.heap.size w1.heap.size _ _ X2.out).mono ?_; rintro e w' ⟨rfl, nq, rfl⟩; refine Hid.out ?_)
  refine Lib.hid ?_
  have S3 := Lib.hid (S3.out.drewN nq)
  clear H1 X2 Y2
  go_wp2_with (go_at_call 217; refine (single_n ⟨#[99, 111, 100, 101]⟩ _ (H3.out.drewN nq) (hl) (by decide) (by show (List.toArray _).size ≤ _; rw [List.size_toArray]; have j1 := jout_len esc s; (try simp only [List.length_append, List.length_cons, List.length_nil, len_bs, ByteArray.size_append, size_lit, List.size_toArray]); omega)).mono ?_; rintro e w4 ⟨rfl, h4, S4⟩; refine Hid.out ?_)
  refine Lib.hid ?_
  have H4 := Lib.hid h4
  have S4 := Lib.hid S4
  obtain ⟨bv4, hv4⟩ := h4.buf
  clear H3 h4
  go_wp2_with (with_reducible show wpList _ _ _ (⟨some 27, _, _, _, _, _⟩ :: _) _ _; refine Hid.out ?_)
  refine Lib.hid ?_
  refine ew_tail (N := 32) (bv := bv4) [44] rfl rfl rfl rfl rfl (by decide) H4.out hv4 (Joins.below_alloc1 _ _) (rb_new _ _ _ rfl _ _ _ rfl) (hl.le (by have j1 := jout_len esc s; simp only [List.length_append, List.length_cons, List.length_nil, len_bs, ByteArray.size_append, size_lit, List.size_toArray]; omega)) ?_
  intro bv5 w5 hv5 H5 S5
  clear H4 hv4
  go_wp2_with (go_at_call 103; refine (pop_one H5.out hp hm).mono ?_; rintro e w6 ⟨rfl, h6, S6⟩; refine Hid.out ?_)
  refine Lib.hid ?_
  have H6 := Lib.hid h6
  have S6 := Lib.hid S6
  clear h6
  go_wp2
  go_ret
  exact ⟨rfl, by have := H6.out; simpa using this, S1.out.trans (S3.out.trans (S4.out.trans (S5.out.trans (S6.out))))⟩
set_option maxHeartbeats 800000 in
set_option maxRecDepth 100000 in
theorem writeSymbol_any {g B wb : Nat} {canon esc : Bool} {buf : List UInt8} {modes : List Int} {m : Int} {w : World} (s : ByteArray)  (h : IsEW g B wb canon esc buf (modes ++ [m]) w) (hp : 0 < modes.length) (hm : m = 4 ∨ m = 5) (hl : Room buf.length) (hT : Tabs w) (h17 : 17 ≤ B) (hs : s.size ≤ 10000000) :
    Calls Tryz.prog 159 #[.pointer (some ⟨g, 0, none⟩), .string s] w fun e w' => e = .returned .nilIface ∧ IsEW g B wb canon esc (buf ++ ([123, 34, 36, 115, 121, 109, 98, 111, 108, 34, 58] ++ jout esc s ++ [125, 44])) modes w' ∧ EStep B w w' := by
  have hB := Lib.hid h.lt
  go_enter Tryz.func159, Tryz.ntmps159
  have HT := Lib.hid hT
  clear hT
  go_wp2_with (go_at_call 66; refine (ensure_ew h hm _ _ _).mono ?_; rintro e w1 ⟨rfl, h1, s1⟩; refine Hid.out ?_)
  refine Lib.hid ?_
  have S1 := Lib.hid (EStep.of_below (B := B) s1 (by have := hB.out; omega))
  have H1 := Lib.hid h1
  have hlt1 := h1.lt.2
  have hB1 : B ≤ w1.heap.size := by have := h1.lt; omega
  have g5 := h1.flags.2
  obtain ⟨bv1, hv1⟩ := h1.buf
  clear h s1 h1
  have h171 : 17 ≤ w1.heap.size := by omega
  have X1 := Lib.hid (fresh_b w1)
  have Y1 := Lib.hid (below_allocB w1 (.cells #[.slice none 0 0, .int .i64 0, .int .i8 0] 64))
  have hZ1 : ([] : List UInt8).length ≤ 0 := Nat.le_refl _
  go_wp2_with (go_at_call 96; refine (wse_any s esc w1.heap.size w1.heap.size _ _ ((HT.out.below S1.out.1 h17).below Y1.out h171) h171 X1.out Y1.out.size (by simp only [List.length_append, List.length_cons, List.length_nil, len_bs, ByteArray.size_append, size_lit, List.size_toArray]; omega) (by omega)).mono ?_; rintro e w2 ⟨rfl, h2, b2⟩; refine Hid.out ?_)
  refine Lib.hid ?_
  have X2 := Lib.hid h2
  have Y2 := Lib.hid (Y1.out.trans b2)
  clear h2 b2 X1 Y1
  have S3 := Lib.hid (EStep.of_below (B := B) Y2.out hB1)
  have H3 := Lib.hid (H1.out.below Y2.out)
  go_wp2_with (go_at_call 42; refine (Tryz.Buffer_String w1.heap.size w1.heap.size _ _ X2.out).mono ?_; rintro e w' ⟨rfl, nq, rfl⟩; refine Hid.out ?_)
  refine Lib.hid ?_
  have S3 := Lib.hid (S3.out.drewN nq)
  clear H1 X2 Y2
  go_wp2_with (go_at_call 217; refine (single_n ⟨#[115, 121, 109, 98, 111, 108]⟩ _ (H3.out.drewN nq) (hl) (by decide) (by show (List.toArray _).size ≤ _; rw [List.size_toArray]; have j1 := jout_len esc s; (try simp only [List.length_append, List.length_cons, List.length_nil, len_bs, ByteArray.size_append, size_lit, List.size_toArray]); omega)).mono ?_; rintro e w4 ⟨rfl, h4, S4⟩; refine Hid.out ?_)
  refine Lib.hid ?_
  have H4 := Lib.hid h4
  have S4 := Lib.hid S4
  obtain ⟨bv4, hv4⟩ := h4.buf
  clear H3 h4
  go_wp2_with (with_reducible show wpList _ _ _ (⟨some 27, _, _, _, _, _⟩ :: _) _ _; refine Hid.out ?_)
  refine Lib.hid ?_
  refine ew_tail (N := 32) (bv := bv4) [44] rfl rfl rfl rfl rfl (by decide) H4.out hv4 (Joins.below_alloc1 _ _) (rb_new _ _ _ rfl _ _ _ rfl) (hl.le (by have j1 := jout_len esc s; simp only [List.length_append, List.length_cons, List.length_nil, len_bs, ByteArray.size_append, size_lit, List.size_toArray]; omega)) ?_
  intro bv5 w5 hv5 H5 S5
  clear H4 hv4
  go_wp2_with (go_at_call 103; refine (pop_one H5.out hp hm).mono ?_; rintro e w6 ⟨rfl, h6, S6⟩; refine Hid.out ?_)
  refine Lib.hid ?_
  have H6 := Lib.hid h6
  have S6 := Lib.hid S6
  clear h6
  go_wp2
  go_ret
  exact ⟨rfl, by have := H6.out; simpa using this, S1.out.trans (S3.out.trans (S4.out.trans (S5.out.trans (S6.out))))⟩
set_option maxHeartbeats 800000 in
set_option maxRecDepth 100000 in
theorem writeRegex_any {g B wb : Nat} {canon esc : Bool} {buf : List UInt8} {modes : List Int} {m : Int} {w : World} (s o so : ByteArray)  (h : IsEW g B wb canon esc buf (modes ++ [m]) w) (hp : 0 < modes.length) (hm : m = 4 ∨ m = 5) (hl : Room buf.length) (hT : Tabs w) (h17 : 17 ≤ B) (hs : s.size ≤ 10000000) (ho : so.size ≤ 10000000) (hso : ∀ W, 17 ≤ W.heap.size → Calls Tryz.prog 221 #[.string o] W fun e w' => e = .returned (.string so) ∧ Below W.heap.size W w') :
    Calls Tryz.prog 156 #[.pointer (some ⟨g, 0, none⟩), .string s, .string o] w fun e w' => e = .returned .nilIface ∧ IsEW g B wb canon esc (buf ++ ([123, 34, 36, 114, 101, 103, 117, 108, 97, 114, 69, 120, 112, 114, 101, 115, 115, 105, 111, 110, 34, 58, 123, 34, 112, 97, 116, 116, 101, 114, 110, 34, 58] ++ jout esc s ++ [44, 34, 111, 112, 116, 105, 111, 110, 115, 34, 58] ++ jout esc so ++ [125, 125, 44])) modes w' ∧ EStep B w w' := by
  have hB := Lib.hid h.lt
  go_enter Tryz.func156, Tryz.ntmps156
  have HT := Lib.hid hT
  clear hT
  go_wp2_with (go_at_call 66; refine (ensure_ew h hm _ _ _).mono ?_; rintro e w1 ⟨rfl, h1, s1⟩; refine Hid.out ?_)
  refine Lib.hid ?_
  have S1 := Lib.hid (EStep.of_below (B := B) s1 (by have := hB.out; omega))
  have H1 := Lib.hid h1
  have hlt1 := h1.lt.2
  have hB1 : B ≤ w1.heap.size := by have := h1.lt; omega
  obtain ⟨bv1, hv1⟩ := h1.buf
  clear h s1 h1
  have h171 : 17 ≤ w1.heap.size := by omega
  go_wp2_with (go_at_call 221; refine (hso w1 h171).mono ?_; rintro e w0 ⟨rfl, s0⟩; refine Hid.out ?_)
  refine Lib.hid ?_
  have S0 := Lib.hid (S1.out.trans (EStep.of_below (B := B) s0 hB1))
  have H0 := Lib.hid (H1.out.below s0)
  have HB0 : B ≤ w0.heap.size := by have := H0.out.lt; omega
  clear S1 H1 hv1 s0 hB1 hlt1 h171
  have S1 := S0
  have H1 := H0
  have hB1 := HB0
  have hlt1 := H0.out.lt.2
  obtain ⟨bv1, hv1⟩ := H0.out.buf
  clear S0 H0 HB0
  have h171 : 17 ≤ w0.heap.size := by omega
  have X1 := Lib.hid (fresh_b w0)
  have Y1 := Lib.hid (below_allocB w0 (.cells #[.slice none 0 0, .int .i64 0, .int .i8 0] 64))
  have hZ1 : ([] : List UInt8).length ≤ 0 := Nat.le_refl _
  go_wp2_with (go_at_call 144; refine (ws X1.out ⟨#[123, 34, 36, 114, 101, 103, 117, 108, 97, 114, 69, 120, 112, 114, 101, 115, 115, 105, 111, 110, 34, 58, 123, 34, 112, 97, 116, 116, 101, 114, 110, 34, 58]⟩ Y1.out.size (by simp only [List.length_append, List.length_cons, List.length_nil, len_bs, ByteArray.size_append, size_lit, List.size_toArray]; omega)).mono ?_; rintro e w2 ⟨rfl, h2, b2⟩; refine Hid.out ?_)
  refine Lib.hid ?_
  have X2 := Lib.hid h2
  have Y2 := Lib.hid (Y1.out.trans b2)
  clear h2 b2 X1 Y1
  have g5 := (H1.out.below Y2.out).flags.2
  go_wp2_with (go_at_call 96; refine (wse_any s esc w0.heap.size w0.heap.size _ _ ((HT.out.below S1.out.1 h17).below Y2.out h171) h171 X2.out Y2.out.size (by simp only [List.length_append, List.length_cons, List.length_nil, len_bs, ByteArray.size_append, size_lit, List.size_toArray]; omega) (by omega)).mono ?_; rintro e w3 ⟨rfl, h3, b3⟩; refine Hid.out ?_)
  refine Lib.hid ?_
  have X3 := Lib.hid h3
  have Y3 := Lib.hid (Y2.out.trans b3)
  clear h3 b3 X2 Y2
  go_wp2_with (go_at_call 144; refine (ws X3.out ⟨#[44, 34, 111, 112, 116, 105, 111, 110, 115, 34, 58]⟩ Y3.out.size (by have j1 := jout_len esc s; simp only [List.length_append, List.length_cons, List.length_nil, len_bs, ByteArray.size_append, size_lit, List.size_toArray]; omega)).mono ?_; rintro e w4 ⟨rfl, h4, b4⟩; refine Hid.out ?_)
  refine Lib.hid ?_
  have X4 := Lib.hid h4
  have Y4 := Lib.hid (Y3.out.trans b4)
  clear h4 b4 X3 Y3
  have g5 := (H1.out.below Y4.out).flags.2
  go_wp2_with (go_at_call 96; refine (wse_any so esc w0.heap.size w0.heap.size _ _ ((HT.out.below S1.out.1 h17).below Y4.out h171) h171 X4.out Y4.out.size (by have j1 := jout_len esc s; simp only [List.length_append, List.length_cons, List.length_nil, len_bs, ByteArray.size_append, size_lit, List.size_toArray]; omega) (by omega)).mono ?_; rintro e w5 ⟨rfl, h5, b5⟩; refine Hid.out ?_)
  refine Lib.hid ?_
  have X5 := Lib.hid h5
  have Y5 := Lib.hid (Y4.out.trans b5)
  clear h5 b5 X4 Y4
  go_wp2_with (go_at_call 144; refine (ws X5.out ⟨#[125, 125, 44]⟩ Y5.out.size (by have j1 := jout_len esc s; have j2 := jout_len esc so; simp only [List.length_append, List.length_cons, List.length_nil, len_bs, ByteArray.size_append, size_lit, List.size_toArray]; omega)).mono ?_; rintro e w6 ⟨rfl, h6, b6⟩; refine Hid.out ?_)
  refine Lib.hid ?_
  have X6 := Lib.hid h6
  have Y6 := Lib.hid (Y5.out.trans b6)
  clear h6 b6 X5 Y5
  have S7a := Lib.hid (EStep.of_below (B := B) Y6.out hB1)
  have H7a := Lib.hid (H1.out.below Y6.out)
  obtain ⟨bA, bc, hRB, hBy⟩ := bytes_x X6.out
  obtain ⟨bv7a, hv7a⟩ := H7a.out.buf
  clear H1 X6 Y6
  go_wp2
  refine wp_region_quiet_tail1 6 (.pointer (some ⟨g, 0, none⟩)) (by kernel_rfl) (by kernel_rfl) (.inl ⟨rfl, fun _ => rfl⟩) ?_
  simp only [List.take_succ_cons, List.take_zero, List.drop_succ_cons, List.drop_zero]
  repeat (quiet_step (exact hBy _))
  refine wpQuiet_nil ?_
  intro w' hw'
  obtain ⟨nq, rfl⟩ := hw'
  refine ew_tail (N := 42) (bv := bv7a) _ rfl rfl rfl rfl rfl (by decide) H7a.out hv7a (below_dr _ _) hRB (hl.le (by have j1 := jout_len esc s; have j2 := jout_len esc so; simp only [List.length_append, List.length_cons, List.length_nil, len_bs, ByteArray.size_append, size_lit, List.size_toArray]; omega)) ?_
  intro bv7 w7 hv7 H7 S7
  clear H7a hv7a hBy hRB
  unfold onlyN
  go_wp2_with (go_at_call 103; refine (pop_one H7.out hp hm).mono ?_; rintro e w8 ⟨rfl, h8, S8⟩; refine Hid.out ?_)
  refine Lib.hid ?_
  have H8 := Lib.hid h8
  have S8 := Lib.hid S8
  clear h8
  go_wp2
  go_ret
  exact ⟨rfl, by have := H8.out; simpa using this, S1.out.trans (S7a.out.trans (S7.out.trans (S8.out)))⟩
set_option maxHeartbeats 800000 in
set_option maxRecDepth 100000 in
theorem writeDBPointer_any {g B wb : Nat} {canon esc : Bool} {buf : List UInt8} {modes : List Int} {m : Int} {w : World} (s hx : ByteArray) (o0 o1 o2 o3 o4 o5 o6 o7 o8 o9 o10 o11 : Int)  (h : IsEW g B wb canon esc buf (modes ++ [m]) w) (hp : 0 < modes.length) (hm : m = 4 ∨ m = 5) (hl : Room buf.length) (hT : Tabs w) (h17 : 17 ≤ B) (hs : s.size ≤ 10000000) (hhx : hx.size ≤ 1000) (hhex : ∀ W, 17 ≤ W.heap.size → Calls Tryz.prog 220 #[.agg #[.int .u8 o0, .int .u8 o1, .int .u8 o2, .int .u8 o3, .int .u8 o4, .int .u8 o5, .int .u8 o6, .int .u8 o7, .int .u8 o8, .int .u8 o9, .int .u8 o10, .int .u8 o11]] W fun e w' => e = .returned (.string hx) ∧ Below W.heap.size W w') :
    Calls Tryz.prog 157 #[.pointer (some ⟨g, 0, none⟩), .string s, .agg #[.int .u8 o0, .int .u8 o1, .int .u8 o2, .int .u8 o3, .int .u8 o4, .int .u8 o5, .int .u8 o6, .int .u8 o7, .int .u8 o8, .int .u8 o9, .int .u8 o10, .int .u8 o11]] w fun e w' => e = .returned .nilIface ∧ IsEW g B wb canon esc (buf ++ ([123, 34, 36, 100, 98, 80, 111, 105, 110, 116, 101, 114, 34, 58, 123, 34, 36, 114, 101, 102, 34, 58, 34] ++ s.data.toList ++ [34, 44, 34, 36, 105, 100, 34, 58, 123, 34, 36, 111, 105, 100, 34, 58, 34] ++ hx.data.toList ++ [34, 125, 125, 125, 44])) modes w' ∧ EStep B w w' := by
  have hB := Lib.hid h.lt
  go_enter Tryz.func157, Tryz.ntmps157
  have HT := Lib.hid hT
  clear hT
  go_wp2_with (go_at_call 66; refine (ensure_ew (h.below (below_allocB w _)) hm _ _ _).mono ?_; rintro e w1 ⟨rfl, h1, s1⟩; refine Hid.out ?_)
  refine Lib.hid ?_
  have hbk1 := (s1.block w.heap.size (lt_alloc1 _ _)).trans (heap_alloc_new w _)
  have S1 := Lib.hid (EStep.of_below (B := B) ((below_allocB w _).trans (s1.mono (Nat.le_of_lt (lt_alloc1 _ _)))) (by have := hB.out; omega))
  have hbl : w.heap.size < w1.heap.size := blk_lt hbk1
  have H1 := Lib.hid h1
  have hlt1 := h1.lt.2
  have hB1 : B ≤ w1.heap.size := by have := h1.lt; omega
  obtain ⟨bv1, hv1⟩ := h1.buf
  clear h s1 h1
  have h171 : 17 ≤ w1.heap.size := by omega
  have X1 := Lib.hid (fresh_b w1)
  have Y1 := Lib.hid (below_allocB w1 (.cells #[.slice none 0 0, .int .i64 0, .int .i8 0] 64))
  have hZ1 : ([] : List UInt8).length ≤ 0 := Nat.le_refl _
  go_wp2_with (go_at_call 144; refine (ws X1.out ⟨#[123, 34, 36, 100, 98, 80, 111, 105, 110, 116, 101, 114, 34, 58, 123, 34, 36, 114, 101, 102, 34, 58, 34]⟩ Y1.out.size (by simp only [List.length_append, List.length_cons, List.length_nil, len_bs, ByteArray.size_append, size_lit, List.size_toArray]; omega)).mono ?_; rintro e w2 ⟨rfl, h2, b2⟩; refine Hid.out ?_)
  refine Lib.hid ?_
  have X2 := Lib.hid h2
  have Y2 := Lib.hid (Y1.out.trans b2)
  clear h2 b2 X1 Y1
  go_wp2_with (go_at_call 144; refine (ws X2.out s Y2.out.size (by simp only [List.length_append, List.length_cons, List.length_nil, len_bs, ByteArray.size_append, size_lit, List.size_toArray]; omega)).mono ?_; rintro e w3 ⟨rfl, h3, b3⟩; refine Hid.out ?_)
  refine Lib.hid ?_
  have X3 := Lib.hid h3
  have Y3 := Lib.hid (Y2.out.trans b3)
  clear h3 b3 X2 Y2
  go_wp2_with (go_at_call 144; refine (ws X3.out ⟨#[34, 44, 34, 36, 105, 100, 34, 58, 123, 34, 36, 111, 105, 100, 34, 58, 34]⟩ Y3.out.size (by simp only [List.length_append, List.length_cons, List.length_nil, len_bs, ByteArray.size_append, size_lit, List.size_toArray]; omega)).mono ?_; rintro e w4 ⟨rfl, h4, b4⟩; refine Hid.out ?_)
  refine Lib.hid ?_
  have X4 := Lib.hid h4
  have Y4 := Lib.hid (Y3.out.trans b4)
  clear h4 b4 X3 Y3
  have hbk4c := (Y4.out.block _ hbl).trans hbk1
  have cx0 : w4.cell? ⟨w.heap.size, 0, none⟩ = some (.int .u8 o0) := by rw [blk_cell hbk4c]; rfl
  have cx1 : w4.cell? ⟨w.heap.size, 1, none⟩ = some (.int .u8 o1) := by rw [blk_cell hbk4c]; rfl
  have cx2 : w4.cell? ⟨w.heap.size, 2, none⟩ = some (.int .u8 o2) := by rw [blk_cell hbk4c]; rfl
  have cx3 : w4.cell? ⟨w.heap.size, 3, none⟩ = some (.int .u8 o3) := by rw [blk_cell hbk4c]; rfl
  have cx4 : w4.cell? ⟨w.heap.size, 4, none⟩ = some (.int .u8 o4) := by rw [blk_cell hbk4c]; rfl
  have cx5 : w4.cell? ⟨w.heap.size, 5, none⟩ = some (.int .u8 o5) := by rw [blk_cell hbk4c]; rfl
  have cx6 : w4.cell? ⟨w.heap.size, 6, none⟩ = some (.int .u8 o6) := by rw [blk_cell hbk4c]; rfl
  have cx7 : w4.cell? ⟨w.heap.size, 7, none⟩ = some (.int .u8 o7) := by rw [blk_cell hbk4c]; rfl
  have cx8 : w4.cell? ⟨w.heap.size, 8, none⟩ = some (.int .u8 o8) := by rw [blk_cell hbk4c]; rfl
  have cx9 : w4.cell? ⟨w.heap.size, 9, none⟩ = some (.int .u8 o9) := by rw [blk_cell hbk4c]; rfl
  have cx10 : w4.cell? ⟨w.heap.size, 10, none⟩ = some (.int .u8 o10) := by rw [blk_cell hbk4c]; rfl
  have cx11 : w4.cell? ⟨w.heap.size, 11, none⟩ = some (.int .u8 o11) := by rw [blk_cell hbk4c]; rfl
  clear hbk4c
  go_wp2_with (go_at_call 220; refine (hhex _ (Nat.le_trans h171 Y4.out.size)).mono ?_; rintro e w5 ⟨rfl, b5⟩; refine Hid.out ?_)
  refine Lib.hid ?_
  have X5 := Lib.hid (X4.out.below b5)
  have Y5 := Lib.hid (Y4.out.trans (b5.mono Y4.out.size))
  clear b5 X4 Y4
  go_wp2_with (go_at_call 144; refine (ws X5.out hx Y5.out.size (by simp only [List.length_append, List.length_cons, List.length_nil, len_bs, ByteArray.size_append, size_lit, List.size_toArray]; omega)).mono ?_; rintro e w6 ⟨rfl, h6, b6⟩; refine Hid.out ?_)
  refine Lib.hid ?_
  have X6 := Lib.hid h6
  have Y6 := Lib.hid (Y5.out.trans b6)
  clear h6 b6 X5 Y5
  go_wp2_with (go_at_call 144; refine (ws X6.out ⟨#[34, 125, 125, 125, 44]⟩ Y6.out.size (by simp only [List.length_append, List.length_cons, List.length_nil, len_bs, ByteArray.size_append, size_lit, List.size_toArray]; omega)).mono ?_; rintro e w7 ⟨rfl, h7, b7⟩; refine Hid.out ?_)
  refine Lib.hid ?_
  have X7 := Lib.hid h7
  have Y7 := Lib.hid (Y6.out.trans b7)
  clear h7 b7 X6 Y6
  have S8a := Lib.hid (EStep.of_below (B := B) Y7.out hB1)
  have H8a := Lib.hid (H1.out.below Y7.out)
  obtain ⟨bA, bc, hRB, hBy⟩ := bytes_x X7.out
  obtain ⟨bv8a, hv8a⟩ := H8a.out.buf
  clear H1 X7 Y7
  go_wp2
  refine wp_region_quiet_tail1 6 (.pointer (some ⟨g, 0, none⟩)) (by kernel_rfl) (by kernel_rfl) (.inl ⟨rfl, fun _ => rfl⟩) ?_
  simp only [List.take_succ_cons, List.take_zero, List.drop_succ_cons, List.drop_zero]
  repeat (quiet_step (exact hBy _))
  refine wpQuiet_nil ?_
  intro w' hw'
  obtain ⟨nq, rfl⟩ := hw'
  refine ew_tail (N := 33) (bv := bv8a) _ rfl rfl rfl rfl rfl (by decide) H8a.out hv8a (below_dr _ _) hRB (hl.le (by simp only [List.length_append, List.length_cons, List.length_nil, len_bs, ByteArray.size_append, size_lit, List.size_toArray]; omega)) ?_
  intro bv8 w8 hv8 H8 S8
  clear H8a hv8a hBy hRB
  unfold onlyN
  go_wp2_with (go_at_call 103; refine (pop_one H8.out hp hm).mono ?_; rintro e w9 ⟨rfl, h9, S9⟩; refine Hid.out ?_)
  refine Lib.hid ?_
  have H9 := Lib.hid h9
  have S9 := Lib.hid S9
  clear h9
  go_wp2
  go_ret
  exact ⟨rfl, by have := H9.out; simpa using this, S1.out.trans (S8a.out.trans (S8.out.trans (S9.out)))⟩
set_option maxHeartbeats 800000 in
set_option maxRecDepth 100000 in
theorem writeObjectID_any {g B wb : Nat} {canon esc : Bool} {buf : List UInt8} {modes : List Int} {m : Int} {w : World} (hx : ByteArray) (o0 o1 o2 o3 o4 o5 o6 o7 o8 o9 o10 o11 : Int)  (h : IsEW g B wb canon esc buf (modes ++ [m]) w) (hp : 0 < modes.length) (hm : m = 4 ∨ m = 5) (hl : Room buf.length) (hT : Tabs w) (h17 : 17 ≤ B) (hhx : hx.size ≤ 1000) (hhex : ∀ W, 17 ≤ W.heap.size → Calls Tryz.prog 220 #[.agg #[.int .u8 o0, .int .u8 o1, .int .u8 o2, .int .u8 o3, .int .u8 o4, .int .u8 o5, .int .u8 o6, .int .u8 o7, .int .u8 o8, .int .u8 o9, .int .u8 o10, .int .u8 o11]] W fun e w' => e = .returned (.string hx) ∧ Below W.heap.size W w') :
    Calls Tryz.prog 151 #[.pointer (some ⟨g, 0, none⟩), .agg #[.int .u8 o0, .int .u8 o1, .int .u8 o2, .int .u8 o3, .int .u8 o4, .int .u8 o5, .int .u8 o6, .int .u8 o7, .int .u8 o8, .int .u8 o9, .int .u8 o10, .int .u8 o11]] w fun e w' => e = .returned .nilIface ∧ IsEW g B wb canon esc (buf ++ ([123, 34, 36, 111, 105, 100, 34, 58, 34] ++ hx.data.toList ++ [34, 125, 44])) modes w' ∧ EStep B w w' := by
  have hB := Lib.hid h.lt
  go_enter Tryz.func151, Tryz.ntmps151
  go_wp2_with (go_at_call 66; refine (ensure_ew (h.below (below_allocB w _)) hm _ _ _).mono ?_; rintro e w1 ⟨rfl, h1, s1⟩; refine Hid.out ?_)
  refine Lib.hid ?_
  have hbk1 := (s1.block w.heap.size (lt_alloc1 _ _)).trans (heap_alloc_new w _)
  have S1 := Lib.hid (EStep.of_below (B := B) ((below_allocB w _).trans (s1.mono (Nat.le_of_lt (lt_alloc1 _ _)))) (by have := hB.out; omega))
  have hbl : w.heap.size < w1.heap.size := blk_lt hbk1
  have H1 := Lib.hid h1
  have hlt1 := h1.lt.2
  have hB1 : B ≤ w1.heap.size := by have := h1.lt; omega
  obtain ⟨bv1, hv1⟩ := h1.buf
  clear h s1 h1
  have hbk1c := hbk1
  have cx0 : w1.cell? ⟨w.heap.size, 0, none⟩ = some (.int .u8 o0) := by rw [blk_cell hbk1c]; rfl
  have cx1 : w1.cell? ⟨w.heap.size, 1, none⟩ = some (.int .u8 o1) := by rw [blk_cell hbk1c]; rfl
  have cx2 : w1.cell? ⟨w.heap.size, 2, none⟩ = some (.int .u8 o2) := by rw [blk_cell hbk1c]; rfl
  have cx3 : w1.cell? ⟨w.heap.size, 3, none⟩ = some (.int .u8 o3) := by rw [blk_cell hbk1c]; rfl
  have cx4 : w1.cell? ⟨w.heap.size, 4, none⟩ = some (.int .u8 o4) := by rw [blk_cell hbk1c]; rfl
  have cx5 : w1.cell? ⟨w.heap.size, 5, none⟩ = some (.int .u8 o5) := by rw [blk_cell hbk1c]; rfl
  have cx6 : w1.cell? ⟨w.heap.size, 6, none⟩ = some (.int .u8 o6) := by rw [blk_cell hbk1c]; rfl
  have cx7 : w1.cell? ⟨w.heap.size, 7, none⟩ = some (.int .u8 o7) := by rw [blk_cell hbk1c]; rfl
  have cx8 : w1.cell? ⟨w.heap.size, 8, none⟩ = some (.int .u8 o8) := by rw [blk_cell hbk1c]; rfl
  have cx9 : w1.cell? ⟨w.heap.size, 9, none⟩ = some (.int .u8 o9) := by rw [blk_cell hbk1c]; rfl
  have cx10 : w1.cell? ⟨w.heap.size, 10, none⟩ = some (.int .u8 o10) := by rw [blk_cell hbk1c]; rfl
  have cx11 : w1.cell? ⟨w.heap.size, 11, none⟩ = some (.int .u8 o11) := by rw [blk_cell hbk1c]; rfl
  clear hbk1c
  go_wp2_with (go_at_call 220; refine (hhex _ (by omega)).mono ?_; rintro e w2 ⟨rfl, s2⟩; refine Hid.out ?_)
  refine Lib.hid ?_
  have S2 := Lib.hid (EStep.of_below (B := B) s2 hB1)
  have H2 := Lib.hid (H1.out.below s2)
  have hlt2 := H2.out.lt.2
  have hB2 : B ≤ w2.heap.size := by have := H2.out.lt; omega
  obtain ⟨bv2, hv2⟩ := H2.out.buf
  clear H1 hv1 s2
  go_wp2_with (go_at_call 217; refine (single_q ⟨#[111, 105, 100]⟩ _ H2.out (hl) (by decide) (by omega)).mono ?_; rintro e w3 ⟨rfl, h3, S3⟩; refine Hid.out ?_)
  refine Lib.hid ?_
  have H3 := Lib.hid h3
  have S3 := Lib.hid S3
  obtain ⟨bv3, hv3⟩ := h3.buf
  clear H2 hv2 h3
  go_wp2_with (with_reducible show wpList _ _ _ (⟨some 21, _, _, _, _, _⟩ :: _) _ _; refine Hid.out ?_)
  refine Lib.hid ?_
  refine ew_tail (N := 26) (bv := bv3) [44] rfl rfl rfl rfl rfl (by decide) H3.out hv3 (Joins.below_alloc1 _ _) (rb_new _ _ _ rfl _ _ _ rfl) (hl.le (by simp only [List.length_append, List.length_cons, List.length_nil, len_bs, ByteArray.size_append, size_lit, List.size_toArray]; omega)) ?_
  intro bv4 w4 hv4 H4 S4
  clear H3 hv3
  go_wp2_with (go_at_call 103; refine (pop_one H4.out hp hm).mono ?_; rintro e w5 ⟨rfl, h5, S5⟩; refine Hid.out ?_)
  refine Lib.hid ?_
  have H5 := Lib.hid h5
  have S5 := Lib.hid S5
  clear h5
  go_wp2
  go_ret
  exact ⟨rfl, by have := H5.out; simpa using this, S1.out.trans (S2.out.trans (S3.out.trans (S4.out.trans (S5.out))))⟩
set_option maxHeartbeats 800000 in
set_option maxRecDepth 100000 in
theorem writeBinary_any {g B wb : Nat} {canon esc : Bool} {buf : List UInt8} {modes : List Int} {m : Int} {w : World} (bsl : Value) (n : Int) (b64 h2 : ByteArray)  (h : IsEW g B wb canon esc buf (modes ++ [m]) w) (hp : 0 < modes.length) (hm : m = 4 ∨ m = 5) (hl : Room buf.length) (hT : Tabs w) (h17 : 17 ≤ B) (hb64 : b64.size ≤ 10000000) (hh2 : h2.size ≤ 10) (c64 : ∀ W, Below w.heap.size w W → Calls Tryz.prog 218 #[bsl] W fun e w' => e = .returned (.string b64) ∧ Below W.heap.size W w') (ch2 : ∀ W, 17 ≤ W.heap.size → Calls Tryz.prog 219 #[.int .u8 n] W fun e w' => e = .returned (.string h2) ∧ Below W.heap.size W w') :
    Calls Tryz.prog 149 #[.pointer (some ⟨g, 0, none⟩), bsl, .int .u8 n] w fun e w' => e = .returned .nilIface ∧ IsEW g B wb canon esc (buf ++ ([123, 34, 36, 98, 105, 110, 97, 114, 121, 34, 58, 123, 34, 98, 97, 115, 101, 54, 52, 34, 58, 34] ++ b64.data.toList ++ ([34, 44, 34, 115, 117, 98, 84, 121, 112, 101, 34, 58, 34] ++ h2.data.toList ++ [34, 125, 125, 44]))) modes w' ∧ EStep B w w' := by
  have hB := Lib.hid h.lt
  go_enter Tryz.func149, Tryz.ntmps149
  have HT := Lib.hid hT
  clear hT
  go_wp2_with (go_at_call 66; refine (ensure_ew h hm _ _ _).mono ?_; rintro e w1 ⟨rfl, h1, s1⟩; refine Hid.out ?_)
  refine Lib.hid ?_
  have S1 := Lib.hid (EStep.of_below (B := B) s1 (by have := hB.out; omega))
  have Z1 := Lib.hid s1
  have H1 := Lib.hid h1
  have hlt1 := h1.lt.2
  have hB1 : B ≤ w1.heap.size := by have := h1.lt; omega
  obtain ⟨bv1, hv1⟩ := h1.buf
  clear h s1 h1
  have h171 : 17 ≤ w1.heap.size := by omega
  have X1 := Lib.hid (fresh_b w1)
  have Y1 := Lib.hid (below_allocB w1 (.cells #[.slice none 0 0, .int .i64 0, .int .i8 0] 64))
  have hZ1 : ([] : List UInt8).length ≤ 0 := Nat.le_refl _
  go_wp2_with (go_at_call 144; refine (ws X1.out ⟨#[123, 34, 36, 98, 105, 110, 97, 114, 121, 34, 58, 123, 34, 98, 97, 115, 101, 54, 52, 34, 58, 34]⟩ Y1.out.size (by simp only [List.length_append, List.length_cons, List.length_nil, len_bs, ByteArray.size_append, size_lit, List.size_toArray]; omega)).mono ?_; rintro e w2 ⟨rfl, h2, b2⟩; refine Hid.out ?_)
  refine Lib.hid ?_
  have X2 := Lib.hid h2
  have Y2 := Lib.hid (Y1.out.trans b2)
  clear h2 b2 X1 Y1
  go_wp2_with (go_at_call 218; refine (c64 _ (Z1.out.trans (Y2.out.mono Z1.out.size))).mono ?_; rintro e w3 ⟨rfl, b3⟩; refine Hid.out ?_)
  refine Lib.hid ?_
  have X3 := Lib.hid (X2.out.below b3)
  have Y3 := Lib.hid (Y2.out.trans (b3.mono Y2.out.size))
  clear b3 X2 Y2
  go_wp2_with (go_at_call 144; refine (ws X3.out b64 Y3.out.size (by simp only [List.length_append, List.length_cons, List.length_nil, len_bs, ByteArray.size_append, size_lit, List.size_toArray]; omega)).mono ?_; rintro e w4 ⟨rfl, h4, b4⟩; refine Hid.out ?_)
  refine Lib.hid ?_
  have X4 := Lib.hid h4
  have Y4 := Lib.hid (Y3.out.trans b4)
  clear h4 b4 X3 Y3
  go_wp2_with (go_at_call 219; refine (ch2 _ (Nat.le_trans h171 Y4.out.size)).mono ?_; rintro e w5 ⟨rfl, b5⟩; refine Hid.out ?_)
  refine Lib.hid ?_
  have X5 := Lib.hid (X4.out.below b5)
  have Y5 := Lib.hid (Y4.out.trans (b5.mono Y4.out.size))
  clear b5 X4 Y4
  go_wp2_with (go_at_call 144; refine (ws X5.out _ Y5.out.size (by simp only [List.length_append, List.length_cons, List.length_nil, len_bs, ByteArray.size_append, size_lit, List.size_toArray]; omega)).mono ?_; rintro e w6 ⟨rfl, h6, b6⟩; refine Hid.out ?_)
  refine Lib.hid ?_
  have X6 := Lib.hid h6
  have Y6 := Lib.hid (Y5.out.trans b6)
  clear h6 b6 X5 Y5
  have S7a := Lib.hid (EStep.of_below (B := B) Y6.out hB1)
  have H7a := Lib.hid (H1.out.below Y6.out)
  obtain ⟨bA, bc, hRB, hBy⟩ := bytes_x X6.out
  obtain ⟨bv7a, hv7a⟩ := H7a.out.buf
  clear H1 X6 Y6
  go_wp2
  refine wp_region_quiet_tail1 6 (.pointer (some ⟨g, 0, none⟩)) (by kernel_rfl) (by kernel_rfl) (.inl ⟨rfl, fun _ => rfl⟩) ?_
  simp only [List.take_succ_cons, List.take_zero, List.drop_succ_cons, List.drop_zero]
  repeat (quiet_step (exact hBy _))
  refine wpQuiet_nil ?_
  intro w' hw'
  obtain ⟨nq, rfl⟩ := hw'
  refine ew_tail (N := 34) (bv := bv7a) _ rfl rfl rfl rfl rfl (by decide) H7a.out hv7a (below_dr _ _) hRB (hl.le (by simp only [List.length_append, List.length_cons, List.length_nil, len_bs, ByteArray.size_append, size_lit, List.size_toArray]; omega)) ?_
  intro bv7 w7 hv7 H7 S7
  clear H7a hv7a hBy hRB
  unfold onlyN
  go_wp2_with (go_at_call 103; refine (pop_one H7.out hp hm).mono ?_; rintro e w8 ⟨rfl, h8, S8⟩; refine Hid.out ?_)
  refine Lib.hid ?_
  have H8 := Lib.hid h8
  have S8 := Lib.hid S8
  clear h8
  go_wp2
  go_ret
  exact ⟨rfl, by have := H8.out; simpa [ByteArray.data_append] using this, S1.out.trans (S7a.out.trans (S7.out.trans (S8.out)))⟩
set_option maxHeartbeats 800000 in
set_option maxRecDepth 100000 in
theorem writeTimestamp_any {g B wb : Nat} {canon esc : Bool} {buf : List UInt8} {modes : List Int} {m : Int} {w : World} (t i : Int) (tS iS : ByteArray)  (h : IsEW g B wb canon esc buf (modes ++ [m]) w) (hp : 0 < modes.length) (hm : m = 4 ∨ m = 5) (hl : Room buf.length) (hT : Tabs w) (h17 : 17 ≤ B) (ht0 : 0 ≤ t) (ht1 : t < 4294967296) (hi0 : 0 ≤ i) (hi1 : i < 4294967296) (htS : tS.size ≤ 1000) (hiS : iS.size ≤ 1000) (ct : ∀ W, Tabs W → Calls Tryz.prog 36 #[.int .u64 t, .int .i64 10] W fun e w' => e = .returned (.string tS) ∧ Below W.heap.size W w') (ci : ∀ W, Tabs W → Calls Tryz.prog 36 #[.int .u64 i, .int .i64 10] W fun e w' => e = .returned (.string iS) ∧ Below W.heap.size W w') :
    Calls Tryz.prog 161 #[.pointer (some ⟨g, 0, none⟩), .int .u32 t, .int .u32 i] w fun e w' => e = .returned .nilIface ∧ IsEW g B wb canon esc (buf ++ ([123, 34, 36, 116, 105, 109, 101, 115, 116, 97, 109, 112, 34, 58, 123, 34, 116, 34, 58] ++ tS.data.toList ++ [44, 34, 105, 34, 58] ++ iS.data.toList ++ [125, 125, 44])) modes w' ∧ EStep B w w' := by
  have hB := Lib.hid h.lt
  go_enter Tryz.func161, Tryz.ntmps161
  have HT := Lib.hid hT
  clear hT
  go_wp2_with (go_at_call 66; refine (ensure_ew h hm _ _ _).mono ?_; rintro e w1 ⟨rfl, h1, s1⟩; refine Hid.out ?_)
  refine Lib.hid ?_
  have S1 := Lib.hid (EStep.of_below (B := B) s1 (by have := hB.out; omega))
  have H1 := Lib.hid h1
  have hlt1 := h1.lt.2
  have hB1 : B ≤ w1.heap.size := by have := h1.lt; omega
  obtain ⟨bv1, hv1⟩ := h1.buf
  clear h s1 h1
  have h171 : 17 ≤ w1.heap.size := by omega
  have X1 := Lib.hid (fresh_b w1)
  have Y1 := Lib.hid (below_allocB w1 (.cells #[.slice none 0 0, .int .i64 0, .int .i8 0] 64))
  have hZ1 : ([] : List UInt8).length ≤ 0 := Nat.le_refl _
  go_wp2_with (go_at_call 144; refine (ws X1.out ⟨#[123, 34, 36, 116, 105, 109, 101, 115, 116, 97, 109, 112, 34, 58, 123, 34, 116, 34, 58]⟩ Y1.out.size (by simp only [List.length_append, List.length_cons, List.length_nil, len_bs, ByteArray.size_append, size_lit, List.size_toArray]; omega)).mono ?_; rintro e w2 ⟨rfl, h2, b2⟩; refine Hid.out ?_)
  refine Lib.hid ?_
  have X2 := Lib.hid h2
  have Y2 := Lib.hid (Y1.out.trans b2)
  clear h2 b2 X1 Y1
  go_wp2_with (go_at_call 36; refine (ct _ ((HT.out.below S1.out.1 h17).below Y2.out h171)).mono ?_; rintro e w3 ⟨rfl, b3⟩; refine Hid.out ?_)
  refine Lib.hid ?_
  have X3 := Lib.hid (X2.out.below b3)
  have Y3 := Lib.hid (Y2.out.trans (b3.mono Y2.out.size))
  clear b3 X2 Y2
  go_wp2_with (go_at_call 144; refine (ws X3.out tS Y3.out.size (by simp only [List.length_append, List.length_cons, List.length_nil, len_bs, ByteArray.size_append, size_lit, List.size_toArray]; omega)).mono ?_; rintro e w4 ⟨rfl, h4, b4⟩; refine Hid.out ?_)
  refine Lib.hid ?_
  have X4 := Lib.hid h4
  have Y4 := Lib.hid (Y3.out.trans b4)
  clear h4 b4 X3 Y3
  go_wp2_with (go_at_call 144; refine (ws X4.out ⟨#[44, 34, 105, 34, 58]⟩ Y4.out.size (by simp only [List.length_append, List.length_cons, List.length_nil, len_bs, ByteArray.size_append, size_lit, List.size_toArray]; omega)).mono ?_; rintro e w5 ⟨rfl, h5, b5⟩; refine Hid.out ?_)
  refine Lib.hid ?_
  have X5 := Lib.hid h5
  have Y5 := Lib.hid (Y4.out.trans b5)
  clear h5 b5 X4 Y4
  go_wp2_with (go_at_call 36; refine (ci _ ((HT.out.below S1.out.1 h17).below Y5.out h171)).mono ?_; rintro e w6 ⟨rfl, b6⟩; refine Hid.out ?_)
  refine Lib.hid ?_
  have X6 := Lib.hid (X5.out.below b6)
  have Y6 := Lib.hid (Y5.out.trans (b6.mono Y5.out.size))
  clear b6 X5 Y5
  go_wp2_with (go_at_call 144; refine (ws X6.out iS Y6.out.size (by simp only [List.length_append, List.length_cons, List.length_nil, len_bs, ByteArray.size_append, size_lit, List.size_toArray]; omega)).mono ?_; rintro e w7 ⟨rfl, h7, b7⟩; refine Hid.out ?_)
  refine Lib.hid ?_
  have X7 := Lib.hid h7
  have Y7 := Lib.hid (Y6.out.trans b7)
  clear h7 b7 X6 Y6
  go_wp2_with (go_at_call 144; refine (ws X7.out ⟨#[125, 125, 44]⟩ Y7.out.size (by simp only [List.length_append, List.length_cons, List.length_nil, len_bs, ByteArray.size_append, size_lit, List.size_toArray]; omega)).mono ?_; rintro e w8 ⟨rfl, h8, b8⟩; refine Hid.out ?_)
  refine Lib.hid ?_
  have X8 := Lib.hid h8
  have Y8 := Lib.hid (Y7.out.trans b8)
  clear h8 b8 X7 Y7
  have S9a := Lib.hid (EStep.of_below (B := B) Y8.out hB1)
  have H9a := Lib.hid (H1.out.below Y8.out)
  obtain ⟨bA, bc, hRB, hBy⟩ := bytes_x X8.out
  obtain ⟨bv9a, hv9a⟩ := H9a.out.buf
  clear H1 X8 Y8
  go_wp2
  refine wp_region_quiet_tail1 6 (.pointer (some ⟨g, 0, none⟩)) (by kernel_rfl) (by kernel_rfl) (.inl ⟨rfl, fun _ => rfl⟩) ?_
  simp only [List.take_succ_cons, List.take_zero, List.drop_succ_cons, List.drop_zero]
  repeat (quiet_step (exact hBy _))
  refine wpQuiet_nil ?_
  intro w' hw'
  obtain ⟨nq, rfl⟩ := hw'
  refine ew_tail (N := 36) (bv := bv9a) _ rfl rfl rfl rfl rfl (by decide) H9a.out hv9a (below_dr _ _) hRB (hl.le (by simp only [List.length_append, List.length_cons, List.length_nil, len_bs, ByteArray.size_append, size_lit, List.size_toArray]; omega)) ?_
  intro bv9 w9 hv9 H9 S9
  clear H9a hv9a hBy hRB
  unfold onlyN
  go_wp2_with (go_at_call 103; refine (pop_one H9.out hp hm).mono ?_; rintro e w10 ⟨rfl, h10, S10⟩; refine Hid.out ?_)
  refine Lib.hid ?_
  have H10 := Lib.hid h10
  have S10 := Lib.hid S10
  clear h10
  go_wp2
  go_ret
  exact ⟨rfl, by have := H10.out; simpa using this, S1.out.trans (S9a.out.trans (S9.out.trans (S10.out)))⟩
set_option maxHeartbeats 800000 in
set_option maxRecDepth 100000 in
theorem writeDecimal_any {g B wb : Nat} {canon esc : Bool} {buf : List UInt8} {modes : List Int} {m : Int} {w : World} (hi lo : Int) (ds : ByteArray)  (h : IsEW g B wb canon esc buf (modes ++ [m]) w) (hp : 0 < modes.length) (hm : m = 4 ∨ m = 5) (hl : Room buf.length) (hT : Tabs w) (h17 : 17 ≤ B) (hds : ds.size ≤ 10000) (cd : ∀ W, Tabs W → 17 ≤ W.heap.size → Calls Tryz.prog 222 #[.agg #[.int .u64 hi, .int .u64 lo]] W fun e w' => e = .returned (.string ds) ∧ Below W.heap.size W w') :
    Calls Tryz.prog 163 #[.pointer (some ⟨g, 0, none⟩), .agg #[.int .u64 hi, .int .u64 lo]] w fun e w' => e = .returned .nilIface ∧ IsEW g B wb canon esc (buf ++ ([123, 34, 36, 110, 117, 109, 98, 101, 114, 68, 101, 99, 105, 109, 97, 108, 34, 58, 34] ++ ds.data.toList ++ [34, 125, 44])) modes w' ∧ EStep B w w' := by
  have hB := Lib.hid h.lt
  go_enter Tryz.func163, Tryz.ntmps163
  have HT := Lib.hid hT
  clear hT
  go_wp2_with (go_at_call 66; refine (ensure_ew (h.below (below_allocB w _)) hm _ _ _).mono ?_; rintro e w1 ⟨rfl, h1, s1⟩; refine Hid.out ?_)
  refine Lib.hid ?_
  have hbk1 := (s1.block w.heap.size (lt_alloc1 _ _)).trans (heap_alloc_new w _)
  have S1 := Lib.hid (EStep.of_below (B := B) ((below_allocB w _).trans (s1.mono (Nat.le_of_lt (lt_alloc1 _ _)))) (by have := hB.out; omega))
  have hbl : w.heap.size < w1.heap.size := blk_lt hbk1
  have H1 := Lib.hid h1
  have hlt1 := h1.lt.2
  have hB1 : B ≤ w1.heap.size := by have := h1.lt; omega
  obtain ⟨bv1, hv1⟩ := h1.buf
  clear h s1 h1
  have hbk1c := hbk1
  have cx0 : w1.cell? ⟨w.heap.size, 0, none⟩ = some (.int .u64 hi) := by rw [blk_cell hbk1c]; rfl
  have cx1 : w1.cell? ⟨w.heap.size, 1, none⟩ = some (.int .u64 lo) := by rw [blk_cell hbk1c]; rfl
  clear hbk1c
  go_wp2_with (go_at_call 222; refine (cd _ (HT.out.below S1.out.1 h17) (by omega)).mono ?_; rintro e w2 ⟨rfl, s2⟩; refine Hid.out ?_)
  refine Lib.hid ?_
  have S2 := Lib.hid (EStep.of_below (B := B) s2 hB1)
  have H2 := Lib.hid (H1.out.below s2)
  have hlt2 := H2.out.lt.2
  have hB2 : B ≤ w2.heap.size := by have := H2.out.lt; omega
  obtain ⟨bv2, hv2⟩ := H2.out.buf
  clear H1 hv1 s2
  go_wp2_with (go_at_call 217; refine (single_q ⟨#[110, 117, 109, 98, 101, 114, 68, 101, 99, 105, 109, 97, 108]⟩ _ H2.out (hl) (by decide) (by omega)).mono ?_; rintro e w3 ⟨rfl, h3, S3⟩; refine Hid.out ?_)
  refine Lib.hid ?_
  have H3 := Lib.hid h3
  have S3 := Lib.hid S3
  obtain ⟨bv3, hv3⟩ := h3.buf
  clear H2 hv2 h3
  go_wp2_with (with_reducible show wpList _ _ _ (⟨some 21, _, _, _, _, _⟩ :: _) _ _; refine Hid.out ?_)
  refine Lib.hid ?_
  refine ew_tail (N := 26) (bv := bv3) [44] rfl rfl rfl rfl rfl (by decide) H3.out hv3 (Joins.below_alloc1 _ _) (rb_new _ _ _ rfl _ _ _ rfl) (hl.le (by simp only [List.length_append, List.length_cons, List.length_nil, len_bs, ByteArray.size_append, size_lit, List.size_toArray]; omega)) ?_
  intro bv4 w4 hv4 H4 S4
  clear H3 hv3
  go_wp2_with (go_at_call 103; refine (pop_one H4.out hp hm).mono ?_; rintro e w5 ⟨rfl, h5, S5⟩; refine Hid.out ?_)
  refine Lib.hid ?_
  have H5 := Lib.hid h5
  have S5 := Lib.hid S5
  clear h5
  go_wp2
  go_ret
  exact ⟨rfl, by have := H5.out; simpa using this, S1.out.trans (S2.out.trans (S3.out.trans (S4.out.trans (S5.out))))⟩
theorem wpAny_seq_drop {P : Program} {md : Region.Mode} {Q : Exit → Act → World → Prop} {l : List Oper} (k : Nat) {fuel : Nat} {listed : Array Bool} {a : Act} {w : World} (hf : (l.drop k).length = fuel) (hB : Region.seqB md l.toArray fuel k listed = true)
    (h : wpList P l.toArray Q (l.drop k) a w) : wpAny P md l.toArray Q fuel listed a w := by
  subst hf
  exact wpAny_of_seq (l.drop k) k listed a w (fun j => by rw [List.getElem?_drop]; simp) hB h
theorem ne_lit (x : ByteArray) (l : List UInt8) (h : ¬ x = ⟨l.toArray⟩) : (x.toList == l) = false := by
  refine beq_eq_false_iff_ne.2 fun e => h ?_
  rw [ByteArray.toList_eq] at e
  rw [← e]
theorem fmtBool_any (b : Bool) (w : World) : Calls Tryz.prog 121 #[.bool b] w fun e w' => e = .returned (.string ⟨(Lib.formatBool b).toArray⟩) ∧ w' = w := Tryz.strconv_FormatBool b w
theorem bytesWorld_cell_old {w : World} {g i : Nat} {u : Value} (s : ByteArray) (h : w.cell? ⟨g, i, none⟩ = some u) (hlt : g < w.heap.size) : (Lib.bytesWorld w.drew 5 s).cell? ⟨g, i, none⟩ = some u :=
  ((Joins.below_bytesWorld w.heap.size w.drew 5 s (Nat.le_refl _)).cell (p := ⟨g, i, none⟩) hlt).trans h
theorem below_bwd (w : World) (s : ByteArray) : Below w.heap.size w (Lib.bytesWorld w.drew 5 s) := (below_dr w 1).trans (Joins.below_bytesWorld _ _ _ _ (Nat.le_refl _))
set_option maxHeartbeats 800000 in
set_option maxRecDepth 100000 in
theorem writeBool_any {g B wb : Nat} {canon esc : Bool} {buf : List UInt8} {modes : List Int} {m : Int} {w : World} (b : Bool)  (h : IsEW g B wb canon esc buf (modes ++ [m]) w) (hp : 0 < modes.length) (hm : m = 4 ∨ m = 5) (hl : Room buf.length)  :
    Calls Tryz.prog 153 #[.pointer (some ⟨g, 0, none⟩), .bool b] w fun e w' => e = .returned .nilIface ∧ IsEW g B wb canon esc (buf ++ (Lib.formatBool b ++ [44])) modes w' ∧ EStep B w w' := by
  have hB := Lib.hid h.lt
  go_enter Tryz.func153, Tryz.ntmps153
  have hfb : (Lib.formatBool b).length ≤ 5 := by cases b <;> decide
  go_wp2_with (go_at_call 66; refine (ensure_ew h hm _ _ _).mono ?_; rintro e w1 ⟨rfl, h1, s1⟩; refine Hid.out ?_)
  refine Lib.hid ?_
  have S1 := Lib.hid (EStep.of_below (B := B) s1 (by have := hB.out; omega))
  have H1 := Lib.hid h1
  have hlt1 := h1.lt.2
  have hB1 : B ≤ w1.heap.size := by have := h1.lt; omega
  obtain ⟨bv1, hv1⟩ := h1.buf
  clear h s1 h1
  have hvs := bytesWorld_cell_old ⟨(Lib.formatBool b).toArray⟩ hv1 hlt1
  go_wp2
  refine wp_region_any (by kernel_rfl) ?_
  try (change wpAny _ _ _ _ _ _ _ (World.drew _))
  refine wpAny_take (i := 0) (v := .pointer (some ⟨g, 0, none⟩)) rfl (by kernel_rfl) (by kernel_rfl) (by kernel_rfl) (fun _ _ _ h => h) (Or.inl ⟨by rfl, fun w => ?_⟩) ?_
  · go_simp
  refine wpAny_take (i := 1) (v := .pointer (some ⟨g, 0, none⟩)) rfl (by kernel_rfl) (by kernel_rfl) (by kernel_rfl) (fun _ _ _ h => h) (Or.inl ⟨by rfl, fun w => ?_⟩) ?_
  · go_simp
  refine wpAny_take (i := 2) (v := .pointer (some ⟨g, 0, none⟩)) rfl (by kernel_rfl) (by kernel_rfl) (by kernel_rfl) (fun _ _ _ h => h) (Or.inl ⟨by rfl, fun w => ?_⟩) ?_
  · go_simp
  refine wpAny_take (i := 3) (v := .pointer (some ⟨g, 1, none⟩)) rfl (by kernel_rfl) (by kernel_rfl) (by kernel_rfl) (fun _ _ _ h => h) (Or.inl ⟨by rfl, fun w => ?_⟩) ?_
  · go_simp
  refine wpAny_take (i := 5) (v := .bool b) rfl (by kernel_rfl) (by kernel_rfl) (by kernel_rfl) (fun _ _ _ h => h) (Or.inl ⟨by rfl, fun w => ?_⟩) ?_
  · go_simp
  refine wpAny_ready (rs := [4, 6]) (by kernel_rfl) (by simp) ?_
  refine AllReady.cons rfl (fun K hK => ?_) ?_
  · go_simp
    refine hK _ _ ?_
    clear hK K
    refine wpAny_seq_drop 6 rfl (by kernel_rfl) ?_
    simp only [List.drop_succ_cons, List.drop_zero]
    go_wp2_with (go_at_call 121; refine (fmtBool_any b _).mono ?_; rintro e w' ⟨rfl, rfl⟩; refine Hid.out ?_)
    refine Lib.hid ?_
    go_wp2_with (with_reducible show wpList _ _ _ (⟨some 19, _, _, _, _, _⟩ :: _) _ _; refine Hid.out ?_)
    refine Lib.hid ?_
    refine ew_tail (N := 33) (bv := bv1) (Lib.formatBool b) rfl rfl rfl (by cases b <;> rfl) rfl (by decide) H1.out hv1 (below_bwd w1 ⟨(Lib.formatBool b).toArray⟩) (rb_bytes w1.drew ⟨(Lib.formatBool b).toArray⟩ _ rfl) (hl.le (by omega)) ?_
    intro bv2 w2 hv2 H2 S2
    clear H1 hv1 hvs
    go_wp2_with (with_reducible show wpList _ _ _ (⟨some 28, _, _, _, _, _⟩ :: _) _ _; refine Hid.out ?_)
    refine Lib.hid ?_
    refine ew_tail (N := 33) (bv := bv2) [44] rfl rfl rfl rfl rfl (by decide) H2.out hv2 (Joins.below_alloc1 _ _) (rb_new _ _ _ rfl _ _ _ rfl) (hl.le (by simp only [List.length_append, List.length_cons, List.length_nil]; omega)) ?_
    intro bv3 w3 hv3 H3 S3
    clear H2 hv2
    go_wp2_with (go_at_call 103; refine (pop_one H3.out hp hm).mono ?_; rintro e w4 ⟨rfl, h4, S4⟩; refine Hid.out ?_)
    refine Lib.hid ?_
    have H4 := Lib.hid h4
    have S4 := Lib.hid S4
    clear h4
    go_wp2
    go_ret
    exact ⟨rfl, by have := H4.out; simpa using this, S1.out.trans (S2.out.trans (S3.out.trans (S4.out)))⟩
  refine AllReady.cons rfl (fun K hK => ?_) ?_
  · go_simp
    refine (fmtBool_any b _).mono ?_
    rintro e w' ⟨rfl, rfl⟩
    refine hK _ _ ?_
    clear hK K
    refine wpAny_ready (rs := [4, 7]) (by kernel_rfl) (by simp) ?_
    refine AllReady.cons rfl (fun K hK => ?_) ?_
    · go_simp
      refine hK _ _ ?_
      clear hK K
      refine wpAny_seq_drop 7 rfl (by kernel_rfl) ?_
      simp only [List.drop_succ_cons, List.drop_zero]
      go_wp2_with (with_reducible show wpList _ _ _ (⟨some 19, _, _, _, _, _⟩ :: _) _ _; refine Hid.out ?_)
      refine Lib.hid ?_
      refine ew_tail (N := 33) (bv := bv1) (Lib.formatBool b) rfl rfl rfl (by cases b <;> rfl) rfl (by decide) H1.out hv1 (below_bwd w1 ⟨(Lib.formatBool b).toArray⟩) (rb_bytes w1.drew ⟨(Lib.formatBool b).toArray⟩ _ rfl) (hl.le (by omega)) ?_
      intro bv2 w2 hv2 H2 S2
      clear H1 hv1 hvs
      go_wp2_with (with_reducible show wpList _ _ _ (⟨some 28, _, _, _, _, _⟩ :: _) _ _; refine Hid.out ?_)
      refine Lib.hid ?_
      refine ew_tail (N := 33) (bv := bv2) [44] rfl rfl rfl rfl rfl (by decide) H2.out hv2 (Joins.below_alloc1 _ _) (rb_new _ _ _ rfl _ _ _ rfl) (hl.le (by simp only [List.length_append, List.length_cons, List.length_nil]; omega)) ?_
      intro bv3 w3 hv3 H3 S3
      clear H2 hv2
      go_wp2_with (go_at_call 103; refine (pop_one H3.out hp hm).mono ?_; rintro e w4 ⟨rfl, h4, S4⟩; refine Hid.out ?_)
      refine Lib.hid ?_
      have H4 := Lib.hid h4
      have S4 := Lib.hid S4
      clear h4
      go_wp2
      go_ret
      exact ⟨rfl, by have := H4.out; simpa using this, S1.out.trans (S2.out.trans (S3.out.trans (S4.out)))⟩
    refine AllReady.cons rfl (fun K hK => ?_) ?_
    · go_simp
      refine hK _ _ ?_
      clear hK K
      refine wpAny_ready (rs := [4]) (by kernel_rfl) (by simp) ?_
      refine AllReady.cons rfl (fun K hK => ?_) ?_
      · go_simp
        refine hK _ _ ?_
        clear hK K
        refine wpAny_seq_drop 8 rfl (by kernel_rfl) ?_
        simp only [List.drop_succ_cons, List.drop_zero]
        refine ew_tail (N := 33) (bv := bv1) (Lib.formatBool b) rfl rfl rfl (by cases b <;> rfl) rfl (by decide) H1.out hv1 (below_bwd w1 ⟨(Lib.formatBool b).toArray⟩) (rb_bytes w1.drew ⟨(Lib.formatBool b).toArray⟩ _ rfl) (hl.le (by omega)) ?_
        intro bv2 w2 hv2 H2 S2
        clear H1 hv1 hvs
        go_wp2_with (with_reducible show wpList _ _ _ (⟨some 28, _, _, _, _, _⟩ :: _) _ _; refine Hid.out ?_)
        refine Lib.hid ?_
        refine ew_tail (N := 33) (bv := bv2) [44] rfl rfl rfl rfl rfl (by decide) H2.out hv2 (Joins.below_alloc1 _ _) (rb_new _ _ _ rfl _ _ _ rfl) (hl.le (by simp only [List.length_append, List.length_cons, List.length_nil]; omega)) ?_
        intro bv3 w3 hv3 H3 S3
        clear H2 hv2
        go_wp2_with (go_at_call 103; refine (pop_one H3.out hp hm).mono ?_; rintro e w4 ⟨rfl, h4, S4⟩; refine Hid.out ?_)
        refine Lib.hid ?_
        have H4 := Lib.hid h4
        have S4 := Lib.hid S4
        clear h4
        go_wp2
        go_ret
        exact ⟨rfl, by have := H4.out; simpa using this, S1.out.trans (S2.out.trans (S3.out.trans (S4.out)))⟩
      exact AllReady.nil
    exact AllReady.nil
  exact AllReady.nil
set_option maxHeartbeats 800000 in
set_option maxRecDepth 100000 in
theorem writeDouble_plain {g B wb : Nat} {esc : Bool} {buf : List UInt8} {modes : List Int} {m : Int} {w : World} (bits : Nat) (x : ByteArray)  (h : IsEW g B wb false esc buf (modes ++ [m]) w) (hp : 0 < modes.length) (hm : m = 4 ∨ m = 5) (hl : Room buf.length) (hT : Tabs w) (h17 : 17 ≤ B) (hx : x.size ≤ 10000) (h1x : ¬ x = ⟨#[73, 110, 102, 105, 110, 105, 116, 121]⟩) (h2x : ¬ x = ⟨#[45, 73, 110, 102, 105, 110, 105, 116, 121]⟩) (h3x : ¬ x = ⟨#[78, 97, 78]⟩) (cx : ∀ W, Tabs W → 17 ≤ W.heap.size → Calls Tryz.prog 216 #[.float .f64 bits] W fun e w' => e = .returned (.string x) ∧ Below W.heap.size W w') :
    Calls Tryz.prog 147 #[.pointer (some ⟨g, 0, none⟩), .float .f64 bits] w fun e w' => e = .returned .nilIface ∧ IsEW g B wb false esc (buf ++ (x.data.toList ++ [44])) modes w' ∧ EStep B w w' := by
  have hB := Lib.hid h.lt
  go_enter Tryz.func147, Tryz.ntmps147
  have HT := Lib.hid hT
  clear hT
  go_wp2_with (go_at_call 66; refine (ensure_ew h hm _ _ _).mono ?_; rintro e w1 ⟨rfl, h1, s1⟩; refine Hid.out ?_)
  refine Lib.hid ?_
  have S1 := Lib.hid (EStep.of_below (B := B) s1 (by have := hB.out; omega))
  have H1 := Lib.hid h1
  have hlt1 := h1.lt.2
  have hB1 : B ≤ w1.heap.size := by have := h1.lt; omega
  have g4 := h1.flags.1
  obtain ⟨bv1, hv1⟩ := h1.buf
  clear h s1 h1
  go_wp2_with (go_at_call 216; refine (cx _ (HT.out.below S1.out.1 h17) (by omega)).mono ?_; rintro e w2 ⟨rfl, s2⟩; refine Hid.out ?_)
  refine Lib.hid ?_
  have S2 := Lib.hid (EStep.of_below (B := B) s2 hB1)
  have H2 := Lib.hid (H1.out.below s2)
  have hlt2 := H2.out.lt.2
  have hB2 : B ≤ w2.heap.size := by have := H2.out.lt; omega
  obtain ⟨bv2, hv2⟩ := H2.out.buf
  clear H1 hv1 s2
  have g4 := H2.out.flags.1
  have q1 := ne_lit _ _ h1x
  have q2 := ne_lit _ _ h2x
  have q3 := ne_lit _ _ h3x
  clear h1x h2x h3x
  go_wp2_with (with_reducible show wpList _ _ _ (⟨some 38, _, _, _, _, _⟩ :: _) _ _; refine Hid.out ?_)
  refine Lib.hid ?_
  refine ew_tail (N := 52) (bv := bv2) (x).data.toList rfl rfl rfl (len_bs _) rfl (by decide) H2.out hv2 (Joins.below_bytesWorld _ _ _ _ (Nat.le_refl _)) (rb_bytes _ _ _ rfl) (hl.le (by rw [len_bs]; omega)) ?_
  intro bv3 w3 hv3 H3 S3
  clear H2 hv2
  go_wp2_with (with_reducible show wpList _ _ _ (⟨some 47, _, _, _, _, _⟩ :: _) _ _; refine Hid.out ?_)
  refine Lib.hid ?_
  refine ew_tail (N := 52) (bv := bv3) [44] rfl rfl rfl rfl rfl (by decide) H3.out hv3 (Joins.below_alloc1 _ _) (rb_new _ _ _ rfl _ _ _ rfl) (hl.le (by simp only [List.length_append, List.length_cons, List.length_nil, len_bs, ByteArray.size_append, size_lit, List.size_toArray]; omega)) ?_
  intro bv4 w4 hv4 H4 S4
  clear H3 hv3
  go_wp2_with (go_at_call 103; refine (pop_one H4.out hp hm).mono ?_; rintro e w5 ⟨rfl, h5, S5⟩; refine Hid.out ?_)
  refine Lib.hid ?_
  have H5 := Lib.hid h5
  have S5 := Lib.hid S5
  clear h5
  go_wp2
  go_ret
  exact ⟨rfl, by have := H5.out; simpa using this, S1.out.trans (S2.out.trans (S3.out.trans (S4.out.trans (S5.out))))⟩
set_option maxHeartbeats 800000 in
set_option maxRecDepth 100000 in
theorem writeDouble_inf {g B wb : Nat} {esc : Bool} {buf : List UInt8} {modes : List Int} {m : Int} {w : World} (bits : Nat)  (h : IsEW g B wb false esc buf (modes ++ [m]) w) (hp : 0 < modes.length) (hm : m = 4 ∨ m = 5) (hl : Room buf.length) (hT : Tabs w) (h17 : 17 ≤ B) (cx : ∀ W, Tabs W → 17 ≤ W.heap.size → Calls Tryz.prog 216 #[.float .f64 bits] W fun e w' => e = .returned (.string ⟨#[73, 110, 102, 105, 110, 105, 116, 121]⟩) ∧ Below W.heap.size W w') :
    Calls Tryz.prog 147 #[.pointer (some ⟨g, 0, none⟩), .float .f64 bits] w fun e w' => e = .returned .nilIface ∧ IsEW g B wb false esc (buf ++ [123, 34, 36, 110, 117, 109, 98, 101, 114, 68, 111, 117, 98, 108, 101, 34, 58, 34, 73, 110, 102, 105, 110, 105, 116, 121, 34, 125, 44]) modes w' ∧ EStep B w w' := by
  have hB := Lib.hid h.lt
  go_enter Tryz.func147, Tryz.ntmps147
  have HT := Lib.hid hT
  clear hT
  go_wp2_with (go_at_call 66; refine (ensure_ew h hm _ _ _).mono ?_; rintro e w1 ⟨rfl, h1, s1⟩; refine Hid.out ?_)
  refine Lib.hid ?_
  have S1 := Lib.hid (EStep.of_below (B := B) s1 (by have := hB.out; omega))
  have H1 := Lib.hid h1
  have hlt1 := h1.lt.2
  have hB1 : B ≤ w1.heap.size := by have := h1.lt; omega
  have g4 := h1.flags.1
  obtain ⟨bv1, hv1⟩ := h1.buf
  clear h s1 h1
  go_wp2_with (go_at_call 216; refine (cx _ (HT.out.below S1.out.1 h17) (by omega)).mono ?_; rintro e w2 ⟨rfl, s2⟩; refine Hid.out ?_)
  refine Lib.hid ?_
  have S2 := Lib.hid (EStep.of_below (B := B) s2 hB1)
  have H2 := Lib.hid (H1.out.below s2)
  have hlt2 := H2.out.lt.2
  have hB2 : B ≤ w2.heap.size := by have := H2.out.lt; omega
  obtain ⟨bv2, hv2⟩ := H2.out.buf
  clear H1 hv1 s2
  have g4 := H2.out.flags.1
  go_wp2_with (with_reducible show wpList _ _ _ (⟨some 38, _, _, _, _, _⟩ :: _) _ _; refine Hid.out ?_)
  refine Lib.hid ?_
  refine ew_tail (N := 52) (bv := bv2) ((⟨#[123, 34, 36, 110, 117, 109, 98, 101, 114, 68, 111, 117, 98, 108, 101, 34, 58, 34]⟩ : ByteArray) ++ (⟨#[73, 110, 102, 105, 110, 105, 116, 121]⟩ : ByteArray) ++ (⟨#[34, 125]⟩ : ByteArray)).data.toList rfl rfl rfl (rfl) rfl (by decide) H2.out hv2 (Joins.below_bytesWorld _ _ _ _ (Nat.le_refl _)) (rb_bytes _ _ _ rfl) (hl.le (by simp only [List.length_append, List.length_cons, List.length_nil, len_bs, ByteArray.size_append, size_lit, List.size_toArray]; omega)) ?_
  intro bv3 w3 hv3 H3 S3
  clear H2 hv2
  go_wp2_with (with_reducible show wpList _ _ _ (⟨some 47, _, _, _, _, _⟩ :: _) _ _; refine Hid.out ?_)
  refine Lib.hid ?_
  refine ew_tail (N := 52) (bv := bv3) [44] rfl rfl rfl rfl rfl (by decide) H3.out hv3 (Joins.below_alloc1 _ _) (rb_new _ _ _ rfl _ _ _ rfl) (hl.le (by simp only [List.length_append, List.length_cons, List.length_nil, len_bs, ByteArray.size_append, size_lit, List.size_toArray]; omega)) ?_
  intro bv4 w4 hv4 H4 S4
  clear H3 hv3
  go_wp2_with (go_at_call 103; refine (pop_one H4.out hp hm).mono ?_; rintro e w5 ⟨rfl, h5, S5⟩; refine Hid.out ?_)
  refine Lib.hid ?_
  have H5 := Lib.hid h5
  have S5 := Lib.hid S5
  clear h5
  go_wp2
  go_ret
  exact ⟨rfl, by have := H5.out; simpa [ByteArray.data_append] using this, S1.out.trans (S2.out.trans (S3.out.trans (S4.out.trans (S5.out))))⟩
set_option maxHeartbeats 800000 in
set_option maxRecDepth 100000 in
theorem writeDouble_ninf {g B wb : Nat} {esc : Bool} {buf : List UInt8} {modes : List Int} {m : Int} {w : World} (bits : Nat)  (h : IsEW g B wb false esc buf (modes ++ [m]) w) (hp : 0 < modes.length) (hm : m = 4 ∨ m = 5) (hl : Room buf.length) (hT : Tabs w) (h17 : 17 ≤ B) (cx : ∀ W, Tabs W → 17 ≤ W.heap.size → Calls Tryz.prog 216 #[.float .f64 bits] W fun e w' => e = .returned (.string ⟨#[45, 73, 110, 102, 105, 110, 105, 116, 121]⟩) ∧ Below W.heap.size W w') :
    Calls Tryz.prog 147 #[.pointer (some ⟨g, 0, none⟩), .float .f64 bits] w fun e w' => e = .returned .nilIface ∧ IsEW g B wb false esc (buf ++ [123, 34, 36, 110, 117, 109, 98, 101, 114, 68, 111, 117, 98, 108, 101, 34, 58, 34, 45, 73, 110, 102, 105, 110, 105, 116, 121, 34, 125, 44]) modes w' ∧ EStep B w w' := by
  have hB := Lib.hid h.lt
  go_enter Tryz.func147, Tryz.ntmps147
  have HT := Lib.hid hT
  clear hT
  go_wp2_with (go_at_call 66; refine (ensure_ew h hm _ _ _).mono ?_; rintro e w1 ⟨rfl, h1, s1⟩; refine Hid.out ?_)
  refine Lib.hid ?_
  have S1 := Lib.hid (EStep.of_below (B := B) s1 (by have := hB.out; omega))
  have H1 := Lib.hid h1
  have hlt1 := h1.lt.2
  have hB1 : B ≤ w1.heap.size := by have := h1.lt; omega
  have g4 := h1.flags.1
  obtain ⟨bv1, hv1⟩ := h1.buf
  clear h s1 h1
  go_wp2_with (go_at_call 216; refine (cx _ (HT.out.below S1.out.1 h17) (by omega)).mono ?_; rintro e w2 ⟨rfl, s2⟩; refine Hid.out ?_)
  refine Lib.hid ?_
  have S2 := Lib.hid (EStep.of_below (B := B) s2 hB1)
  have H2 := Lib.hid (H1.out.below s2)
  have hlt2 := H2.out.lt.2
  have hB2 : B ≤ w2.heap.size := by have := H2.out.lt; omega
  obtain ⟨bv2, hv2⟩ := H2.out.buf
  clear H1 hv1 s2
  have g4 := H2.out.flags.1
  go_wp2_with (with_reducible show wpList _ _ _ (⟨some 38, _, _, _, _, _⟩ :: _) _ _; refine Hid.out ?_)
  refine Lib.hid ?_
  refine ew_tail (N := 52) (bv := bv2) ((⟨#[123, 34, 36, 110, 117, 109, 98, 101, 114, 68, 111, 117, 98, 108, 101, 34, 58, 34]⟩ : ByteArray) ++ (⟨#[45, 73, 110, 102, 105, 110, 105, 116, 121]⟩ : ByteArray) ++ (⟨#[34, 125]⟩ : ByteArray)).data.toList rfl rfl rfl (rfl) rfl (by decide) H2.out hv2 (Joins.below_bytesWorld _ _ _ _ (Nat.le_refl _)) (rb_bytes _ _ _ rfl) (hl.le (by simp only [List.length_append, List.length_cons, List.length_nil, len_bs, ByteArray.size_append, size_lit, List.size_toArray]; omega)) ?_
  intro bv3 w3 hv3 H3 S3
  clear H2 hv2
  go_wp2_with (with_reducible show wpList _ _ _ (⟨some 47, _, _, _, _, _⟩ :: _) _ _; refine Hid.out ?_)
  refine Lib.hid ?_
  refine ew_tail (N := 52) (bv := bv3) [44] rfl rfl rfl rfl rfl (by decide) H3.out hv3 (Joins.below_alloc1 _ _) (rb_new _ _ _ rfl _ _ _ rfl) (hl.le (by simp only [List.length_append, List.length_cons, List.length_nil, len_bs, ByteArray.size_append, size_lit, List.size_toArray]; omega)) ?_
  intro bv4 w4 hv4 H4 S4
  clear H3 hv3
  go_wp2_with (go_at_call 103; refine (pop_one H4.out hp hm).mono ?_; rintro e w5 ⟨rfl, h5, S5⟩; refine Hid.out ?_)
  refine Lib.hid ?_
  have H5 := Lib.hid h5
  have S5 := Lib.hid S5
  clear h5
  go_wp2
  go_ret
  exact ⟨rfl, by have := H5.out; simpa [ByteArray.data_append] using this, S1.out.trans (S2.out.trans (S3.out.trans (S4.out.trans (S5.out))))⟩
set_option maxHeartbeats 800000 in
set_option maxRecDepth 100000 in
theorem writeDouble_nan {g B wb : Nat} {esc : Bool} {buf : List UInt8} {modes : List Int} {m : Int} {w : World} (bits : Nat)  (h : IsEW g B wb false esc buf (modes ++ [m]) w) (hp : 0 < modes.length) (hm : m = 4 ∨ m = 5) (hl : Room buf.length) (hT : Tabs w) (h17 : 17 ≤ B) (cx : ∀ W, Tabs W → 17 ≤ W.heap.size → Calls Tryz.prog 216 #[.float .f64 bits] W fun e w' => e = .returned (.string ⟨#[78, 97, 78]⟩) ∧ Below W.heap.size W w') :
    Calls Tryz.prog 147 #[.pointer (some ⟨g, 0, none⟩), .float .f64 bits] w fun e w' => e = .returned .nilIface ∧ IsEW g B wb false esc (buf ++ [123, 34, 36, 110, 117, 109, 98, 101, 114, 68, 111, 117, 98, 108, 101, 34, 58, 34, 78, 97, 78, 34, 125, 44]) modes w' ∧ EStep B w w' := by
  have hB := Lib.hid h.lt
  go_enter Tryz.func147, Tryz.ntmps147
  have HT := Lib.hid hT
  clear hT
  go_wp2_with (go_at_call 66; refine (ensure_ew h hm _ _ _).mono ?_; rintro e w1 ⟨rfl, h1, s1⟩; refine Hid.out ?_)
  refine Lib.hid ?_
  have S1 := Lib.hid (EStep.of_below (B := B) s1 (by have := hB.out; omega))
  have H1 := Lib.hid h1
  have hlt1 := h1.lt.2
  have hB1 : B ≤ w1.heap.size := by have := h1.lt; omega
  have g4 := h1.flags.1
  obtain ⟨bv1, hv1⟩ := h1.buf
  clear h s1 h1
  go_wp2_with (go_at_call 216; refine (cx _ (HT.out.below S1.out.1 h17) (by omega)).mono ?_; rintro e w2 ⟨rfl, s2⟩; refine Hid.out ?_)
  refine Lib.hid ?_
  have S2 := Lib.hid (EStep.of_below (B := B) s2 hB1)
  have H2 := Lib.hid (H1.out.below s2)
  have hlt2 := H2.out.lt.2
  have hB2 : B ≤ w2.heap.size := by have := H2.out.lt; omega
  obtain ⟨bv2, hv2⟩ := H2.out.buf
  clear H1 hv1 s2
  have g4 := H2.out.flags.1
  go_wp2_with (with_reducible show wpList _ _ _ (⟨some 38, _, _, _, _, _⟩ :: _) _ _; refine Hid.out ?_)
  refine Lib.hid ?_
  refine ew_tail (N := 52) (bv := bv2) ((⟨#[123, 34, 36, 110, 117, 109, 98, 101, 114, 68, 111, 117, 98, 108, 101, 34, 58, 34]⟩ : ByteArray) ++ (⟨#[78, 97, 78]⟩ : ByteArray) ++ (⟨#[34, 125]⟩ : ByteArray)).data.toList rfl rfl rfl (rfl) rfl (by decide) H2.out hv2 (Joins.below_bytesWorld _ _ _ _ (Nat.le_refl _)) (rb_bytes _ _ _ rfl) (hl.le (by simp only [List.length_append, List.length_cons, List.length_nil, len_bs, ByteArray.size_append, size_lit, List.size_toArray]; omega)) ?_
  intro bv3 w3 hv3 H3 S3
  clear H2 hv2
  go_wp2_with (with_reducible show wpList _ _ _ (⟨some 47, _, _, _, _, _⟩ :: _) _ _; refine Hid.out ?_)
  refine Lib.hid ?_
  refine ew_tail (N := 52) (bv := bv3) [44] rfl rfl rfl rfl rfl (by decide) H3.out hv3 (Joins.below_alloc1 _ _) (rb_new _ _ _ rfl _ _ _ rfl) (hl.le (by simp only [List.length_append, List.length_cons, List.length_nil, len_bs, ByteArray.size_append, size_lit, List.size_toArray]; omega)) ?_
  intro bv4 w4 hv4 H4 S4
  clear H3 hv3
  go_wp2_with (go_at_call 103; refine (pop_one H4.out hp hm).mono ?_; rintro e w5 ⟨rfl, h5, S5⟩; refine Hid.out ?_)
  refine Lib.hid ?_
  have H5 := Lib.hid h5
  have S5 := Lib.hid S5
  clear h5
  go_wp2
  go_ret
  exact ⟨rfl, by have := H5.out; simpa [ByteArray.data_append] using this, S1.out.trans (S2.out.trans (S3.out.trans (S4.out.trans (S5.out))))⟩
/-- Twelve bytes in hexadecimal digits. -/
def hexB (l : List UInt8) : ByteArray := ⟨(Lib.Hx.encode l).toArray⟩
theorem hexB_size (l : List UInt8) : (hexB l).size = 2 * l.length := by
  show (Lib.Hx.encode l).toArray.size = _
  rw [List.size_toArray, Lib.Hx.encode_length]
theorem hexB_conv {w : World} {b : Nat} {T : TypeId} {l : List UInt8} (hl : l.length = 12) (h : w.rowIs b T 24 (Lib.Hx.row (fun _ => .int .u8 0) 0 l 12)) :
    (convert 23 9 (.slice (some ⟨b, 0, none⟩) 24 24)).run Tryz.prog w = .ok (.string (hexB l)) w := by
  have hs : (hexB l).size = 24 := by rw [hexB_size]; omega
  have := Lib.run_convert_whole (P := Tryz.prog) w 23 5 9 Tryz.underlying23 Tryz.underlying5 Tryz.underlying9 b 0 (hexB l) (by
    intro i hi
    have hi' : i < 24 := by omega
    rw [Nat.zero_add, h.cell hi']
    unfold Lib.Hx.row
    rw [if_pos (by omega), Nat.sub_zero]
    have hlt : i < (Lib.Hx.encode l).length := by rw [Lib.Hx.encode_length]; omega
    rw [List.getElem?_eq_getElem hlt]
    rfl) 24
  rw [hs] at this
  exact this
theorem two_alloc (w : World) (x y : Obj) : ((w.alloc x).alloc y).drew.heap[w.heap.size]? = some x ∧ ((w.alloc x).alloc y).drew.heap[w.heap.size + 1]? = some y ∧ Below w.heap.size w ((w.alloc x).alloc y).drew := by
  have h1 : (w.alloc x).heap.size = w.heap.size + 1 := by show (w.heap.push x).size = _; rw [Array.size_push]
  refine ⟨?_, ?_, ?_⟩
  · show ((w.alloc x).alloc y).heap[w.heap.size]? = _
    exact (Below.heap_alloc (w.alloc x) y w.heap.size (by omega)).trans (heap_alloc_new w x)
  · show ((w.alloc x).alloc y).heap[w.heap.size + 1]? = _
    rw [← h1]
    exact heap_alloc_new (w.alloc x) y
  · exact ((below_allocB w x).trans ((below_allocB (w.alloc x) y).mono (by omega))).trans ⟨rfl, rfl, rfl, Nat.le_refl _, fun _ _ => rfl⟩
set_option maxRecDepth 100000 in
theorem hex_core (xs : List Int) (c0 c1 c2 c3 c4 c5 c6 c7 c8 c9 c10 c11 : Int) (hxs : xs = [c0, c1, c2, c3, c4, c5, c6, c7, c8, c9, c10, c11]) (hr : ∀ i, i < 12 → 0 ≤ xs.getD i 0 ∧ xs.getD i 0 < 256) (w : World) : Calls Tryz.prog 220 #[.agg #[.int .u8 c0, .int .u8 c1, .int .u8 c2, .int .u8 c3, .int .u8 c4, .int .u8 c5, .int .u8 c6, .int .u8 c7, .int .u8 c8, .int .u8 c9, .int .u8 c10, .int .u8 c11]] w fun e w' => e = .returned (.string (hexB (Lib.bytesOf xs))) ∧ Below w.heap.size w w' := by
  have HXS := Lib.hid hxs
  have hlen : (Lib.bytesOf xs).length = 12 := by rw [hxs]; rfl
  clear hxs
  go_enter Tryz.func220, Tryz.ntmps220
  go_wp2
  refine wp_region_any (by kernel_rfl) ?_
  try (change wpAny _ _ _ _ _ _ _ (World.drew _))
  obtain ⟨h1, h2, h3⟩ := two_alloc w (Obj.cells #[.int .u8 c0, .int .u8 c1, .int .u8 c2, .int .u8 c3, .int .u8 c4, .int .u8 c5, .int .u8 c6, .int .u8 c7, .int .u8 c8, .int .u8 c9, .int .u8 c10, .int .u8 c11] 285 (0, 0)) (Obj.cells #[.int .u8 0, .int .u8 0, .int .u8 0, .int .u8 0, .int .u8 0, .int .u8 0, .int .u8 0, .int .u8 0, .int .u8 0, .int .u8 0, .int .u8 0, .int .u8 0, .int .u8 0, .int .u8 0, .int .u8 0, .int .u8 0, .int .u8 0, .int .u8 0, .int .u8 0, .int .u8 0, .int .u8 0, .int .u8 0, .int .u8 0, .int .u8 0] 134 (0, 0))
  generalize (((w.alloc (Obj.cells #[.int .u8 c0, .int .u8 c1, .int .u8 c2, .int .u8 c3, .int .u8 c4, .int .u8 c5, .int .u8 c6, .int .u8 c7, .int .u8 c8, .int .u8 c9, .int .u8 c10, .int .u8 c11] 285 (0, 0))).alloc (Obj.cells #[.int .u8 0, .int .u8 0, .int .u8 0, .int .u8 0, .int .u8 0, .int .u8 0, .int .u8 0, .int .u8 0, .int .u8 0, .int .u8 0, .int .u8 0, .int .u8 0, .int .u8 0, .int .u8 0, .int .u8 0, .int .u8 0, .int .u8 0, .int .u8 0, .int .u8 0, .int .u8 0, .int .u8 0, .int .u8 0, .int .u8 0, .int .u8 0] 134 (0, 0))).drew) = W at h1 h2 h3 ⊢
  refine wpAny_take (i := 0) (v := .slice (some ⟨w.heap.size + 1, 0, none⟩) 24 24) rfl (by kernel_rfl) (by kernel_rfl) (by kernel_rfl) (fun _ _ _ h => h) (Or.inl ⟨by rfl, fun w => ?_⟩) ?_
  · go_simp
  refine wpAny_take (i := 1) (v := .slice (some ⟨w.heap.size, 0, none⟩) 12 12) rfl (by kernel_rfl) (by kernel_rfl) (by kernel_rfl) (fun _ _ _ h => h) (Or.inl ⟨by rfl, fun w => ?_⟩) ?_
  · go_simp
  refine wpAny_ready (rs := [2]) (by kernel_rfl) (by simp) ?_
  refine AllReady.cons rfl (fun K hK => ?_) AllReady.nil
  go_simp
  have hcall : Calls Tryz.prog 182 #[.slice (some ⟨w.heap.size + 1, 0, none⟩) 24 24, .slice (some ⟨w.heap.size, 0, none⟩) 12 12] W fun e w' => e = .returned (.int .i64 (((12 : Nat) : Int) * 2)) ∧ w'.rowIs (w.heap.size + 1) 134 24 (Lib.Hx.row (fun _ => .int .u8 0) 0 (Lib.bytesOf xs) 12) ∧ W.grownBy w' (some (w.heap.size + 1)) :=
    Tryz.hex_Encode_tag 134 (w.heap.size + 1) 0 24 24 24 (fun _ => .int .u8 0) w.heap.size 0 12 12 xs W (by rw [HXS.out]; rfl) hr (by
      intro i hi
      rw [Nat.zero_add, blk_cell h1, HXS.out]
      match i, hi with
      | 0, _ | 1, _ | 2, _ | 3, _ | 4, _ | 5, _ | 6, _ | 7, _ | 8, _ | 9, _ | 10, _ | 11, _ => rfl
      | n + 12, h => exact absurd h (by omega)) ⟨_, h2, rfl, by
      intro i hi
      match i, hi with
      | 0, _ | 1, _ | 2, _ | 3, _ | 4, _ | 5, _ | 6, _ | 7, _ | 8, _ | 9, _ | 10, _ | 11, _ | 12, _ | 13, _ | 14, _ | 15, _ | 16, _ | 17, _ | 18, _ | 19, _ | 20, _ | 21, _ | 22, _ | 23, _ => rfl
      | n + 24, h => exact absurd h (by omega)⟩ (by omega) (by omega) (by omega) (by omega)
  refine hcall.mono ?_
  rintro e w3 ⟨rfl, hrow, hgr⟩
  refine hK _ _ ?_
  clear hK K hcall
  refine wpAny_done (by kernel_rfl) ?_ _
  have hconv : (convert 23 9 (.slice (some ⟨w.heap.size + 1, 0, none⟩) 24 24)).run Tryz.prog w3 = .ok (.string (hexB (Lib.bytesOf xs))) w3 := hexB_conv hlen hrow
  have hb3 : Below w.heap.size w w3 := h3.trans ((Below.refl w.heap.size W).grown hgr h3.size (fun k hk => by cases hk; omega))
  clear hrow hgr h1 h2 h3
  go_wp2
  go_ret
  exact ⟨rfl, hb3⟩
open Go.RowKit Go.Sort
theorem Tabs.tab {w : World} (h : Tabs w) : Lib.TabIs Tryz.prog w "internal/strconv.uint64pow10" .u64 Lib.pow10Tab := h.p10
theorem fmtUint_any (u : Nat) (hu64 : u < 18446744073709551616) (w : World) (hT : Tabs w) : Calls Tryz.prog 36 #[.int .u64 (u : Int), .int .i64 10] w fun e w' => e = .returned (.string (decB u)) ∧ Below w.heap.size w w' := fmtUint_c u hu64 w hT.c
/-- The texts whose makers are walked apart: a float's by its bits, a decimal's by its halves, base 64, sorted options. -/
structure Aux where
  dbl : Nat → ByteArray
  dec : Nat → Nat → ByteArray
  b64 : List UInt8 → ByteArray
  srt : ByteArray → ByteArray
def isNum (x : ByteArray) : Prop := ¬ x = ⟨#[73, 110, 102, 105, 110, 105, 116, 121]⟩ ∧ ¬ x = ⟨#[45, 73, 110, 102, 105, 110, 105, 116, 121]⟩ ∧ ¬ x = ⟨#[78, 97, 78]⟩
instance (x : ByteArray) : Decidable (isNum x) := by unfold isNum; infer_instance
def dblOut (x : ByteArray) : List UInt8 := if isNum x then x.data.toList else [123, 34, 36, 110, 117, 109, 98, 101, 114, 68, 111, 117, 98, 108, 101, 34, 58, 34] ++ x.data.toList ++ [34, 125]
/-- Members, each with a comma behind it. -/
def memOut (esc : Bool) {K : Type} (f : K → List UInt8) (l : List (ByteArray × K)) : List UInt8 := l.flatMap fun p => jout esc p.1 ++ [58] ++ f p.2 ++ [44]
def itemOut {K : Type} (f : K → List UInt8) (l : List (ByteArray × K)) : List UInt8 := l.flatMap fun p => f p.2 ++ [44]
/-- The last comma turned to the closing sign; the sign behind what has none. -/
def closed (l : List UInt8) (c : UInt8) : List UInt8 := if l.getLast? = some 44 then l.dropLast ++ [c] else l ++ [c]
def docOut (esc : Bool) {K : Type} (f : K → List UInt8) (l : List (ByteArray × K)) : List UInt8 := closed (123 :: memOut esc f l) 125
def arrOut {K : Type} (f : K → List UInt8) (l : List (ByteArray × K)) : List UInt8 := closed (91 :: itemOut f l) 93
/-- One level. -/
def outR (a : Aux) (esc : Bool) {K : Type} (f : K → List UInt8) (t : VR K) : List UInt8 :=
  if t.kind = 1 then dblOut (a.dbl t.bits)
  else if t.kind = 2 then jout esc t.text
  else if t.kind = 3 then docOut esc f t.kids
  else if t.kind = 4 then arrOut f t.kids
  else if t.kind = 5 then [123, 34, 36, 98, 105, 110, 97, 114, 121, 34, 58, 123, 34, 98, 97, 115, 101, 54, 52, 34, 58, 34] ++ (a.b64 t.b).data.toList ++ [34, 44, 34, 115, 117, 98, 84, 121, 112, 101, 34, 58, 34] ++ (hex2B (t.n % 256).toNat).data.toList ++ [34, 125, 125]
  else if t.kind = 6 then [123, 34, 36, 117, 110, 100, 101, 102, 105, 110, 101, 100, 34, 58, 116, 114, 117, 101, 125]
  else if t.kind = 7 then [123, 34, 36, 111, 105, 100, 34, 58, 34] ++ (hexB t.b).data.toList ++ [34, 125]
  else if t.kind = 8 then Lib.formatBool (decide (t.n ≠ 0))
  else if t.kind = 9 then [123, 34, 36, 100, 97, 116, 101, 34, 58, 123, 34, 36, 110, 117, 109, 98, 101, 114, 76, 111, 110, 103, 34, 58, 34] ++ Lib.itoa t.n ++ [34, 125, 125]
  else if t.kind = 10 then [110, 117, 108, 108]
  else if t.kind = 11 then [123, 34, 36, 114, 101, 103, 117, 108, 97, 114, 69, 120, 112, 114, 101, 115, 115, 105, 111, 110, 34, 58, 123, 34, 112, 97, 116, 116, 101, 114, 110, 34, 58] ++ jout esc t.text ++ [44, 34, 111, 112, 116, 105, 111, 110, 115, 34, 58] ++ jout esc (a.srt t.more) ++ [125, 125]
  else if t.kind = 12 then [123, 34, 36, 100, 98, 80, 111, 105, 110, 116, 101, 114, 34, 58, 123, 34, 36, 114, 101, 102, 34, 58, 34] ++ t.text.data.toList ++ [34, 44, 34, 36, 105, 100, 34, 58, 123, 34, 36, 111, 105, 100, 34, 58, 34] ++ (hexB t.b).data.toList ++ [34, 125, 125, 125]
  else if t.kind = 13 then [123, 34, 36, 99, 111, 100, 101, 34, 58] ++ jout esc t.text ++ [125]
  else if t.kind = 14 then [123, 34, 36, 115, 121, 109, 98, 111, 108, 34, 58] ++ jout esc t.text ++ [125]
  else if t.kind = 15 then [123, 34, 36, 99, 111, 100, 101, 34, 58] ++ jout esc t.text ++ [44, 34, 36, 115, 99, 111, 112, 101, 34, 58] ++ docOut esc f t.kids ++ [125]
  else if t.kind = 16 then Lib.itoa t.n
  else if t.kind = 17 then [123, 34, 36, 116, 105, 109, 101, 115, 116, 97, 109, 112, 34, 58, 123, 34, 116, 34, 58] ++ (decB (t.bits / 4294967296)).data.toList ++ [44, 34, 105, 34, 58] ++ (decB (t.bits % 4294967296)).data.toList ++ [125, 125]
  else if t.kind = 18 then Lib.itoa t.n
  else if t.kind = 19 then [123, 34, 36, 110, 117, 109, 98, 101, 114, 68, 101, 99, 105, 109, 97, 108, 34, 58, 34] ++ (a.dec t.high t.bits).data.toList ++ [34, 125]
  else if t.kind = 255 then [123, 34, 36, 109, 105, 110, 75, 101, 121, 34, 58, 49, 125]
  else [123, 34, 36, 109, 97, 120, 75, 101, 121, 34, 58, 49, 125]
def outV (a : Aux) (esc : Bool) : (d : Nat) → VT d → List UInt8
  | 0, t => t.elim
  | d + 1, t => outR a esc (outV a esc d) t
set_option maxRecDepth 100000
theorem info38s : (Tryz.prog.info? 38).map (·.size) = some 9 := by kernel_rfl
/-- Eight cells of a value, written out. -/
def Cells8 (cs : List Value) : Prop := ∃ (k : Int) (tx mr : ByteArray) (n : Int) (b h : Nat) (A1 A2 : Option Addr) (n1 c1 n2 c2 : Nat), cs = [.int .i64 k, .string tx, .string mr, .int .i64 n, .int .u64 (b : Int), .int .u64 (h : Int), .slice A1 n1 c1, .slice A2 n2 c2]
theorem IsV.form {w : World} : ∀ {d : Nat} {t : VT d} {cs : List Value}, IsV w d t cs → Cells8 cs
  | 0, t, _, _ => t.elim
  | d + 1, t, cs, ⟨bv, kv, e, _, _, _, _, _, _, ⟨A1, c1, e1, _⟩, ⟨A2, c2, e2, _⟩⟩ => by
    subst e1 e2
    exact ⟨_, _, _, _, _, _, _, _, _, _, _, _, e⟩
/-- An element of a slice of elements. -/
theorem KidsV.elem {K : Type} {w : World} {R : K → List Value → Prop} {A : Option Addr} {n c : Nat} {l : List (ByteArray × K)} (h : KidsV w R (.slice A n c) l) {i : Nat} (hi : i < l.length) :
    ∃ (name : ByteArray) (k : K) (b o : Nat) (cs : List Value), l[i]? = some (name, k) ∧ A = some ⟨b, o, none⟩ ∧ R k cs ∧ cs.length = 8 ∧ w.rangeAt b (o + i * 9) (.string name :: cs) := by
  obtain ⟨A', c', e, hc, hc2, hr⟩ := h
  injection e with e1 e2 e3
  subst e1
  obtain ⟨⟨name, k⟩, hk⟩ : ∃ p, l[i]? = some p := ⟨_, List.getElem?_eq_getElem hi⟩
  obtain ⟨hn, ad, cs, rfl, h1, h2, h3⟩ := hr i name k hk
  obtain ⟨⟨n0, k0⟩, hk0⟩ : ∃ p, l[0]? = some p := ⟨_, List.getElem?_eq_getElem (by omega)⟩
  obtain ⟨hn0, ad0, cs0, e0, _, _, h30⟩ := hr 0 n0 k0 hk0
  obtain rfl := Option.some.inj e0
  have hs := spot_none (h30 0 (.string n0) rfl)
  obtain ⟨b, o, sp⟩ := ad
  have hs' : (⟨b, o, sp⟩ : Addr).spot = none := hs
  simp only at hs'
  subst hs'
  refine ⟨name, k, b, o, cs, hk, rfl, h1, h2, fun j v hv => ?_⟩
  have := h3 j v hv
  rw [addrP] at this
  rw [show o + i * 9 + j = o + (9 * i + j) from by omega]
  exact this
theorem rangeAt_later {w w' : World} {b o : Nat} {cs : List Value} (hr : w.rangeAt b o cs) (h : Below w.heap.size w w') : w'.rangeAt b o cs := fun j v hv =>
  (h.cell (World.block_lt_of_cell? w _ (hr j v hv))).trans (hr j v hv)
theorem info5s : (Tryz.prog.info? 5).map (·.size) = some 1 := by kernel_rfl
theorem setCell_id {w : World} {g i : Nat} {cs : Array Value} {t : TypeId} {fr : Nat × Nat} {u : Value} (h : w.heap[g]? = some (.cells cs t fr)) (hc : cs[i]? = some u) : w.setCell ⟨g, i, none⟩ u = w := by
  have hh : (w.setCell ⟨g, i, none⟩ u).heap = w.heap := by
    apply Array.ext_getElem?
    intro k
    by_cases hk : k = g
    · subst hk
      rw [blk_set h, h]
      have hi := (Array.getElem?_eq_some_iff.1 hc)
      congr 2
      apply Array.ext_getElem?
      intro j
      rw [Array.getElem?_setIfInBounds]
      split
      · rename_i hj
        subst hj
        rw [if_pos hi.1, hc]
      · rfl
    · exact Below.heap_setCell w _ u k hk
  cases w
  simp only [World.setCell] at hh ⊢
  rw [hh]
set_option maxRecDepth 100000 in
theorem id_core (b0 b1 b2 b3 b4 b5 b6 b7 b8 b9 b10 b11 : UInt8) (A : Option Addr) (c : Nat) (w : World) (hr : RB w A [b0, b1, b2, b3, b4, b5, b6, b7, b8, b9, b10, b11]) :
    Calls Tryz.prog 152 #[.slice A 12 c] w fun e w' => e = .returned (.agg #[.int .u8 (b0.toNat : Int), .int .u8 (b1.toNat : Int), .int .u8 (b2.toNat : Int), .int .u8 (b3.toNat : Int), .int .u8 (b4.toNat : Int), .int .u8 (b5.toNat : Int), .int .u8 (b6.toNat : Int), .int .u8 (b7.toNat : Int), .int .u8 (b8.toNat : Int), .int .u8 (b9.toNat : Int), .int .u8 (b10.toNat : Int), .int .u8 (b11.toNat : Int)]) ∧ Below w.heap.size w w' := by
  have HR := Lib.hid hr
  clear hr
  go_enter Tryz.func152, Tryz.ntmps152
  go_wp2_with (with_reducible show wpList _ _ _ (⟨some 5, _, _, _, _, _⟩ :: _) _ _; refine Hid.out ?_)
  refine Lib.hid ?_
  refine wpList_copy_splice rfl (.tmp 3) (.tmp 4) 23 23 rfl 5 Tryz.underlying23 info5s _ _ _ _ _ _ rfl rfl w.heap.size 0 ((List.replicate 12 (0 : Int)).map (Value.int .u8)) 165 ?c1 (Lib.byteCells [b0, b1, b2, b3, b4, b5, b6, b7, b8, b9, b10, b11]) ?c2 ?c3 ?c4 ?c5 w.heap.size w ?c6 (Nat.le_refl _) ?_
  case c1 => exact heap_alloc_new w _
  case c2 => rfl
  case c3 =>
    intro _
    obtain ⟨ad, hA, hc⟩ := HR.out (by simp)
    refine ⟨rfl, ad, hA, fun j v hv => ?_⟩
    simp only [Lib.byteCells, List.getElem?_map, Option.map_eq_some_iff] at hv
    obtain ⟨b, hb, rfl⟩ := hv
    exact cell_later (below_allocB w _) (hc j b hb)
  case c4 => simp [Lib.byteCells]
  case c5 => intro v hv; simp only [Lib.byteCells, List.mem_map] at hv; obtain ⟨q, _, rfl⟩ := hv; rfl
  case c6 => exact below_allocB w _
  intro w1 hw1 hb1
  have hk : w1.heap[w.heap.size]? = some (.cells #[.int .u8 (b0.toNat : Int), .int .u8 (b1.toNat : Int), .int .u8 (b2.toNat : Int), .int .u8 (b3.toNat : Int), .int .u8 (b4.toNat : Int), .int .u8 (b5.toNat : Int), .int .u8 (b6.toNat : Int), .int .u8 (b7.toNat : Int), .int .u8 (b8.toNat : Int), .int .u8 (b9.toNat : Int), .int .u8 (b10.toNat : Int), .int .u8 (b11.toNat : Int)] 165 (0, 0)) := hw1.out
  have HB := Lib.hid hb1
  clear hw1 hb1
  have q0 : w1.cell? ⟨w.heap.size, 0, none⟩ = some (.int .u8 (b0.toNat : Int)) := by rw [blk_cell hk]; rfl
  have q1 : w1.cell? ⟨w.heap.size, 1, none⟩ = some (.int .u8 (b1.toNat : Int)) := by rw [blk_cell hk]; rfl
  have q2 : w1.cell? ⟨w.heap.size, 2, none⟩ = some (.int .u8 (b2.toNat : Int)) := by rw [blk_cell hk]; rfl
  have q3 : w1.cell? ⟨w.heap.size, 3, none⟩ = some (.int .u8 (b3.toNat : Int)) := by rw [blk_cell hk]; rfl
  have q4 : w1.cell? ⟨w.heap.size, 4, none⟩ = some (.int .u8 (b4.toNat : Int)) := by rw [blk_cell hk]; rfl
  have q5 : w1.cell? ⟨w.heap.size, 5, none⟩ = some (.int .u8 (b5.toNat : Int)) := by rw [blk_cell hk]; rfl
  have q6 : w1.cell? ⟨w.heap.size, 6, none⟩ = some (.int .u8 (b6.toNat : Int)) := by rw [blk_cell hk]; rfl
  have q7 : w1.cell? ⟨w.heap.size, 7, none⟩ = some (.int .u8 (b7.toNat : Int)) := by rw [blk_cell hk]; rfl
  have q8 : w1.cell? ⟨w.heap.size, 8, none⟩ = some (.int .u8 (b8.toNat : Int)) := by rw [blk_cell hk]; rfl
  have q9 : w1.cell? ⟨w.heap.size, 9, none⟩ = some (.int .u8 (b9.toNat : Int)) := by rw [blk_cell hk]; rfl
  have q10 : w1.cell? ⟨w.heap.size, 10, none⟩ = some (.int .u8 (b10.toNat : Int)) := by rw [blk_cell hk]; rfl
  have q11 : w1.cell? ⟨w.heap.size, 11, none⟩ = some (.int .u8 (b11.toNat : Int)) := by rw [blk_cell hk]; rfl
  have z := fun i => blk_frozen hk i
  go_wp2
  rw [setCell_id hk (i := 0) (u := .int .u8 (b0.toNat : Int)) rfl, setCell_id hk (i := 1) (u := .int .u8 (b1.toNat : Int)) rfl, setCell_id hk (i := 2) (u := .int .u8 (b2.toNat : Int)) rfl, setCell_id hk (i := 3) (u := .int .u8 (b3.toNat : Int)) rfl, setCell_id hk (i := 4) (u := .int .u8 (b4.toNat : Int)) rfl, setCell_id hk (i := 5) (u := .int .u8 (b5.toNat : Int)) rfl, setCell_id hk (i := 6) (u := .int .u8 (b6.toNat : Int)) rfl, setCell_id hk (i := 7) (u := .int .u8 (b7.toNat : Int)) rfl, setCell_id hk (i := 8) (u := .int .u8 (b8.toNat : Int)) rfl, setCell_id hk (i := 9) (u := .int .u8 (b9.toNat : Int)) rfl, setCell_id hk (i := 10) (u := .int .u8 (b10.toNat : Int)) rfl, setCell_id hk (i := 11) (u := .int .u8 (b11.toNat : Int)) rfl]
  refine bodyPost_ret (by simp [results, Tryz.results152, go_sem, q0, q1, q2, q3, q4, q5, q6, q7, q8, q9, q10, q11]; try rfl) rfl ?_
  exact ⟨rfl, HB.out⟩
set_option maxRecDepth 100000 in
theorem new_core (wb : Nat) (canon esc : Bool) (w : World) : Calls Tryz.prog 65 #[.iface 67 (.pointer (some ⟨wb, 0, none⟩)), .bool canon, .bool esc, .bool true] w fun e w' => ∃ g, e = .returned (.pointer (some ⟨g, 0, none⟩)) ∧ IsEW g w.heap.size wb canon esc [] [1] w' ∧ Below w.heap.size w w' := by
  have hmk : ∀ W : World, (Instr.makeSlice 102 (.int .i64 1) (.int .i64 5)).run Tryz.prog W = .ok (.slice (some ⟨W.heap.size, 0, none⟩) 1 5) (W.alloc (.cells #[.int .i64 0, .int .i64 0, .int .i64 0, .int .i64 0, .int .i64 0] 101)) := fun W => by
    obtain ⟨i, hi, hzz⟩ := Option.map_eq_some_iff.1 info101
    simp only [Prod.mk.injEq] at hzz
    obtain ⟨hz, hs, hb⟩ := hzz
    have := run_make (P := Tryz.prog) W 102 101 i _ Tryz.underlying102 hi hz .i64 .i64 1 5 (by omega) (by omega) (by rw [hb]; omega) (by omega)
    rw [hs] at this
    have hc : madeCells #[Value.int .i64 0] 5 = #[.int .i64 0, .int .i64 0, .int .i64 0, .int .i64 0, .int .i64 0] := (madeCells_int .i64 5).trans rfl
    rw [this]
    show Result.ok _ (W.alloc (.cells (madeCells #[Value.int .i64 0] 5) 101)) = _
    rw [hc]
    rfl
  go_enter Tryz.func65, Tryz.ntmps65
  go_wp2
  go_ret
  have e1 : ∀ (W : World) (o : Obj), (W.alloc o).heap.size = W.heap.size + 1 := fun W o => by show (W.heap.push o).size = _; rw [Array.size_push]
  refine ⟨_, rfl, ⟨by omega, .slice (some ⟨w.heap.size + 1, 0, none⟩) 0 0, w.heap.size, 1, 5, [1, 0, 0, 0, 0], ?_, ⟨rfl, .inr ⟨w.heap.size + 1, 0, #[], rfl, by omega, ?_, Nat.le_refl _, by decide, by decide, rfl⟩⟩, Nat.le_refl _, ?_, rfl, by decide, by decide, by decide, by decide, by decide, ?_⟩, ?_⟩
  · rw [show w.heap.size + 1 + 1 = ((w.alloc (.cells #[.int .i64 1, .int .i64 0, .int .i64 0, .int .i64 0, .int .i64 0] 101)).alloc (.cells #[] 5)).heap.size by rw [e1, e1]]
    exact heap_alloc_new _ _
  · refine (Below.heap_alloc _ _ (w.heap.size + 1) (by rw [e1, e1]; omega)).trans ?_
    rw [show w.heap.size + 1 = (w.alloc (.cells #[.int .i64 1, .int .i64 0, .int .i64 0, .int .i64 0, .int .i64 0] 101)).heap.size by rw [e1]]
    exact heap_alloc_new _ _
  · refine (Below.heap_alloc _ _ w.heap.size (by rw [e1, e1]; omega)).trans ((Below.heap_alloc _ _ w.heap.size (by rw [e1]; omega)).trans (heap_alloc_new _ _))
  · intro i hi
    match i, hi with
    | 0, _ => rfl
  · exact (below_allocB w _).trans (((below_allocB (w.alloc _) _).mono (by rw [e1]; omega)).trans ((below_allocB ((w.alloc _).alloc _) _).mono (by rw [e1, e1]; omega)))
theorem new_any (wb : Nat) (canon esc : Bool) (w : World) : Calls Tryz.prog 39 #[.iface 67 (.pointer (some ⟨wb, 0, none⟩)), .bool canon, .bool esc] w fun e w' => ∃ g, e = .returned (.pointer (some ⟨g, 0, none⟩)) ∧ IsEW g w.heap.size wb canon esc [] [1] w' ∧ Below w.heap.size w w' := by
  go_enter Tryz.func39, Tryz.ntmps39
  go_wp2_with (go_at_call 65; refine (new_core wb canon esc w).mono ?_; rintro e w1 ⟨g, rfl, h1, s1⟩; refine Hid.out ?_)
  refine Lib.hid ?_
  have H1 := Lib.hid h1
  have S1 := Lib.hid s1
  clear h1 s1
  go_wp2
  go_ret
  exact ⟨g, rfl, H1.out, S1.out⟩
end Go.Proofs.YtpfkgpcnhdkkbaaGreatDoor
