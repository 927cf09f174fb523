import Derived.Test.YtpfkgpcnhdkkbaaGreatDoorEa
import Derived.Lib.SlBytesConst
namespace Go.Proofs.YtpfkgpcnhdkkbaaGreatDoor
open Go.RowKit
set_option linter.unusedVariables false
set_option linter.unusedSimpArgs false
theorem rb_at (W : World) (l : List UInt8) (k : Nat) (e : TypeId) (fr : Nat × Nat) (cs : Array Value) (h : W.heap[k]? = some (.cells cs e fr)) (hc : ∀ (j : Nat) (b : UInt8), l[j]? = some b → cs[j]? = some (Value.int .u8 (b.toNat : Int))) : RB W (some ⟨k, 0, none⟩) l := by
  intro _
  refine ⟨_, rfl, fun j b hb => ?_⟩
  rw [Lib.addr_add, Nat.zero_add, blk_cell h]
  exact hc j b hb
theorem rb_new (W : World) (l : List UInt8) (k : Nat) (hk : k = W.heap.size) (e : TypeId) (fr : Nat × Nat) (cs : Array Value) (hc : cs = (Lib.byteCells l).toArray) : RB (W.alloc (.cells cs e fr)) (some ⟨k, 0, none⟩) l := by
  subst hk hc
  exact rb_at _ l _ e fr _ (heap_alloc_new W _) (fun j b hb => by simp [Lib.byteCells, hb])
theorem rb_bytes (W : World) (s : ByteArray) (k : Nat) (hk : k = W.heap.size) : RB (Lib.bytesWorld W 5 s) (some ⟨k, 0, none⟩) s.data.toList := by
  subst hk
  intro _
  refine ⟨_, rfl, fun j b hb => ?_⟩
  have hj : j < s.size := by
    rcases Nat.lt_or_ge j s.data.toList.length with h | h
    · rwa [Array.length_toList] at h
    · simp [List.getElem?_eq_none h] at hb
  rw [Lib.addr_add, Nat.zero_add, Lib.bytesWorld_cell W 5 s j hj]
  rw [List.getD_eq_getElem?_getD, hb]
  rfl
@[go_sem] theorem conv23 (W : World) (C : Array Value) (n c g : Nat) (hg : g = W.heap.size) :
    (convert 23 23 (.slice (some ⟨g, 0, none⟩) n c)).run Tryz.prog (W.alloc (.cells C 5)) = .ok (.slice (some ⟨g, 0, none⟩) n c) (W.alloc (.cells C 5 (C.size, C.size + 1))) :=
  Joins.run_convert_bytes_const_at W 23 5 C n c g hg Tryz.underlying23 Tryz.underlying5
@[go_sem] theorem conv923 (W : World) (s : ByteArray) :
    (convert 9 23 (.string s)).run Tryz.prog W = .ok (.slice (some ⟨W.heap.size, 0, none⟩) s.size (grownCap W s.size 0 5)) (Lib.bytesWorld W 5 s) :=
  Lib.run_convert_string_bytes W 9 23 5 s Tryz.underlying9 Tryz.underlying23 Tryz.underlying5
theorem ensure_ew {g B wb : Nat} {canon esc : Bool} {buf : List UInt8} {modes : List Int} {m : Int} {w : World} (h : IsEW g B wb canon esc buf (modes ++ [m]) w) (hm : m = 4 ∨ m = 5) (d : Int) (s : ByteArray) (v : Value) :
    Calls Tryz.prog 66 #[.pointer (some ⟨g, 0, none⟩), .int .i64 d, .string s, v] w fun e w' => e = .returned .nilIface ∧ IsEW g B wb canon esc buf (modes ++ [m]) w' ∧ Below w.heap.size w w' :=
  (ensure_any h hm d s v).mono fun e w' ⟨he, n, hw⟩ => by subst hw; exact ⟨he, h, below_dr w n⟩
/-- Far below what a slice may take. -/
def Room (n : Nat) : Prop := n ≤ 1099511627776
theorem Room.le {n m : Nat} (h : Room n) (hm : m ≤ n + 1000000000) : m ≤ 140737488355328 := by unfold Room at h; omega
theorem Room.mono {n m : Nat} (h : Room n) (hm : m ≤ n) : Room m := by unfold Room at *; omega
set_option maxHeartbeats 800000 in
set_option maxRecDepth 100000 in
theorem writeNull_any {g B wb : Nat} {canon esc : Bool} {buf : List UInt8} {modes : List Int} {m : Int} {w : World} (h : IsEW g B wb canon esc buf (modes ++ [m]) w) (hp : 0 < modes.length) (hm : m = 4 ∨ m = 5) (hl : Room buf.length) :
    Calls Tryz.prog 155 #[.pointer (some ⟨g, 0, none⟩)] w fun e w' => e = .returned .nilIface ∧ IsEW g B wb canon esc (buf ++ [110, 117, 108, 108, 44]) modes w' ∧ EStep B w w' := by
  have hB := Lib.hid h.lt
  go_enter Tryz.func155, Tryz.ntmps155
  go_wp2_with (go_at_call 66; refine (ensure_ew h hm _ _ _).mono ?_; rintro e w1 ⟨rfl, h1, s1⟩; refine Hid.out ?_)
  refine Lib.hid ?_
  have S1 := Lib.hid (EStep.of_below (B := B) s1 (by have := hB.out; omega))
  have H1 := Lib.hid h1
  obtain ⟨bv, hbv⟩ := h1.buf
  clear h s1 h1
  go_wp2_with (with_reducible show wpList _ _ _ (⟨some 16, _, _, _, _, _⟩ :: _) _ _; refine Hid.out ?_)
  refine Lib.hid ?_
  refine ew_tail (N := 30) (bv := bv) [110, 117, 108, 108] rfl rfl rfl rfl rfl (by decide) H1.out hbv (Joins.below_alloc1 _ _) (rb_new _ _ _ rfl _ _ _ rfl) (hl.le (by simp)) ?_
  intro v2 w2 hv2 H2 S2
  clear H1 hbv
  go_wp2_with (with_reducible show wpList _ _ _ (⟨some 25, _, _, _, _, _⟩ :: _) _ _; refine Hid.out ?_)
  refine Lib.hid ?_
  refine ew_tail (N := 30) (bv := v2) [44] rfl rfl rfl rfl rfl (by decide) H2.out hv2 (Joins.below_alloc1 _ _) (rb_new _ _ _ rfl _ _ _ rfl) (hl.le (by simp)) ?_
  intro v3 w3 hv3 H3 S3
  go_wp2_with (go_at_call 103; refine (pop_one H3.out hp hm).mono ?_; rintro e w4 ⟨rfl, h4, s4⟩; refine Hid.out ?_)
  refine Lib.hid ?_
  have H4 := Lib.hid h4
  have S4 := Lib.hid s4
  clear h4 s4
  go_wp2
  go_ret
  exact ⟨rfl, by have := H4.out; simpa using this, S1.out.trans (S2.out.trans (S3.out.trans S4.out))⟩
theorem cat5 (a b c d e : ByteArray) : (a ++ b ++ c ++ d ++ e).size = a.size + b.size + c.size + d.size + e.size := by simp only [ByteArray.size_append]
theorem len_bs (s : ByteArray) : s.data.toList.length = s.size := Array.length_toList
set_option maxHeartbeats 800000 in
set_option maxRecDepth 100000 in
theorem single_q {g B wb : Nat} {canon esc : Bool} {buf : List UInt8} {modes : List Int} {w : World} (key val : ByteArray) (h : IsEW g B wb canon esc buf modes w) (hl : Room buf.length) (hk : key.size ≤ 100) (hv : val.size ≤ 100000000) :
    Calls Tryz.prog 217 #[.pointer (some ⟨g, 0, none⟩), .string key, .string val, .bool true] w fun e w' => e = .returned (.tuple #[]) ∧
      IsEW g B wb canon esc (buf ++ ([123, 34, 36] ++ key.data.toList ++ [34, 58, 34] ++ val.data.toList ++ [34, 125])) modes w' ∧ EStep B w w' := by
  have H1 := Lib.hid h
  obtain ⟨bv, hbv⟩ := h.buf
  clear h
  go_enter Tryz.func217, Tryz.ntmps217
  go_wp2_with (with_reducible show wpList _ _ _ (⟨some 29, _, _, _, _, _⟩ :: _) _ _; refine Hid.out ?_)
  refine Lib.hid ?_
  refine ew_tail (N := 32) (bv := bv) _ rfl rfl rfl ((len_bs _).trans (cat5 _ _ _ _ _)) rfl (by decide) H1.out hbv (Joins.below_bytesWorld _ _ _ _ (Nat.le_refl _)) (rb_bytes _ _ _ rfl) (hl.le (by rw [len_bs, cat5]; show _ + (3 + _ + 3 + _ + 2) ≤ _; omega)) ?_
  intro v2 w2 hv2 H2 S2
  clear H1 hbv
  go_wp2
  go_end0
  refine ⟨rfl, ?_, S2.out⟩
  have := H2.out
  simpa [ByteArray.data_append] using this
set_option maxHeartbeats 800000 in
set_option maxRecDepth 100000 in
theorem single_n {g B wb : Nat} {canon esc : Bool} {buf : List UInt8} {modes : List Int} {w : World} (key val : ByteArray) (h : IsEW g B wb canon esc buf modes w) (hl : Room buf.length) (hk : key.size ≤ 100) (hv : val.size ≤ 100000000) :
    Calls Tryz.prog 217 #[.pointer (some ⟨g, 0, none⟩), .string key, .string val, .bool false] w fun e w' => e = .returned (.tuple #[]) ∧
      IsEW g B wb canon esc (buf ++ ([123, 34, 36] ++ key.data.toList ++ [34, 58] ++ val.data.toList ++ [125])) modes w' ∧ EStep B w w' := by
  have H1 := Lib.hid h
  obtain ⟨bv, hbv⟩ := h.buf
  clear h
  go_enter Tryz.func217, Tryz.ntmps217
  go_wp2_with (with_reducible show wpList _ _ _ (⟨some 29, _, _, _, _, _⟩ :: _) _ _; refine Hid.out ?_)
  refine Lib.hid ?_
  refine ew_tail (N := 32) (bv := bv) _ rfl rfl rfl ((len_bs _).trans (cat5 _ _ _ _ _)) rfl (by decide) H1.out hbv (Joins.below_bytesWorld _ _ _ _ (Nat.le_refl _)) (rb_bytes _ _ _ rfl) (hl.le (by rw [len_bs, cat5]; show _ + (3 + _ + 2 + _ + 1) ≤ _; omega)) ?_
  intro v2 w2 hv2 H2 S2
  clear H1 hbv
  go_wp2
  go_end0
  refine ⟨rfl, ?_, S2.out⟩
  have := H2.out
  simpa [ByteArray.data_append] using this
end Go.Proofs.YtpfkgpcnhdkkbaaGreatDoor
