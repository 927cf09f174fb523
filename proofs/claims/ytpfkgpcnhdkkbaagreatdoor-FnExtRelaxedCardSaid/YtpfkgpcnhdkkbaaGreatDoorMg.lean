import Derived.Test.YtpfkgpcnhdkkbaaGreatDoorEb
import Derived.Test.YtpfkgpcnhdkkbaaGreatDoorHx
import Derived.Test.YtpfkgpcnhdkkbaaGreatDoorJs
import Derived.Test.YtpfkgpcnhdkkbaaGreatDoorQu
import Derived.Test.YtpfkgpcnhdkkbaaGreatDoorFm
import Derived.Lib.ItoaLen
import Derived.Lib.AppendIntMem
namespace Go.Proofs.YtpfkgpcnhdkkbaaGreatDoor
open Go.RowKit
set_option linter.unusedVariables false
set_option linter.unusedSimpArgs false
theorem bytes_core (b g n c : Nat) (w : World) (hc0 : w.cell? ⟨b, 0, none⟩ = some (.slice (some ⟨g, 0, none⟩) n c)) (hc1 : w.cell? ⟨b, 1, none⟩ = some (.int .i64 0)) (hn : n ≤ c) :
    Calls Tryz.prog 146 #[.pointer (some ⟨b, 0, none⟩)] w fun e w' => e = .returned (.slice (some ⟨g, 0, none⟩) n c) ∧ ∃ m, w' = w.drewN m := by
  go_enter Tryz.func146, Tryz.ntmps146
  go_wp2
  go_quiet (fail)
  go_wp2
  go_ret
  exact ⟨rfl, _, rfl⟩
theorem bytes_core0 (b : Nat) (w : World) (hc0 : w.cell? ⟨b, 0, none⟩ = some (.slice none 0 0)) (hc1 : w.cell? ⟨b, 1, none⟩ = some (.int .i64 0)) :
    Calls Tryz.prog 146 #[.pointer (some ⟨b, 0, none⟩)] w fun e w' => e = .returned (.slice none 0 0) ∧ ∃ m, w' = w.drewN m := by
  go_enter Tryz.func146, Tryz.ntmps146
  go_wp2
  go_quiet (fail)
  go_wp2
  go_ret
  exact ⟨rfl, _, rfl⟩
theorem bytes_x {B b : Nat} {l : List UInt8} {w : World} (h : IsB B b l w) : ∃ A c, RB w A l ∧ ∀ n, Calls Tryz.prog 146 #[.pointer (some ⟨b, 0, none⟩)] (w.drewN n) fun e w' => e = .returned (.slice A l.length c) ∧ ∃ m, w' = w.drewN m := by
  obtain ⟨hB, v, lr, hbk, hown, hne⟩ := h
  rcases hown.2 with ⟨rfl, hn⟩ | ⟨g, cap, cur, rfl, hg, hh, hnc, hcap, hr⟩
  · rw [Lib.byteCells_length] at hn
    have hl : l = [] := List.eq_nil_of_length_eq_zero hn
    subst hl
    exact ⟨none, 0, fun h => absurd h (by simp), fun n => Calls.quiet_of (bytes_core0 b _ (by show w.cell? _ = _; rw [blk_cell hbk]; rfl) (by show w.cell? _ = _; rw [blk_cell hbk]; rfl))⟩
  · rw [Lib.byteCells_length] at hnc hbk
    refine ⟨some ⟨g, 0, none⟩, cap, ?_, fun n => Calls.quiet_of (bytes_core b g l.length cap _ (by show w.cell? _ = _; rw [blk_cell hbk]; rfl) (by show w.cell? _ = _; rw [blk_cell hbk]; rfl) (by omega))⟩
    refine rb_at w l g _ _ cur hh (fun j b hb => ?_)
    have hj : j < l.length := by
      rcases Nat.lt_or_ge j l.length with h | h
      · exact h
      · simp [List.getElem?_eq_none h] at hb
    have h2 := hr.2
    rw [Nat.mul_one, Lib.byteCells_length] at h2
    have h3 : (List.take l.length cur.toList)[j]? = some (Value.int .u8 (b.toNat : Int)) := by rw [h2]; simp [Lib.byteCells, hb]
    rw [List.getElem?_take_of_lt hj] at h3
    simpa using h3
theorem fresh_b (w : World) : IsB w.heap.size w.heap.size [] (w.alloc (.cells #[.slice none 0 0, .int .i64 0, .int .i8 0] 64)) := Lib.fresh_isBuffer 64 5 w
theorem wse_fresh (s : ByteArray) (esc : Bool) (w : World) (hT : Tabs w) (h17 : 17 ≤ w.heap.size) (hs : s.size ≤ 1000000000) :
    Calls Tryz.prog 96 #[.string s, .pointer (some ⟨w.heap.size, 0, none⟩), .bool esc] (w.alloc (.cells #[.slice none 0 0, .int .i64 0, .int .i8 0] 64)) fun e w' => e = .returned (.tuple #[]) ∧ IsB w.heap.size w.heap.size (jout esc s) w' ∧ Below w.heap.size w w' :=
  (wse_any s esc w.heap.size w.heap.size [] _ (hT.below (below_allocB w _) h17) h17 (fresh_b w) (below_allocB w _).size (by simp) hs).mono fun e w' ⟨h1, h2, h3⟩ => ⟨h1, by simpa using h2, (below_allocB w _).trans h3⟩
theorem IsB.drewN {B b : Nat} {l : List UInt8} {w : World} (h : IsB B b l w) (n : Nat) : IsB B b l (w.drewN n) := h
theorem IsEW.flags {g B wb : Nat} {canon esc : Bool} {buf : List UInt8} {modes : List Int} {w : World} (h : IsEW g B wb canon esc buf modes w) : w.cell? ⟨g, 4, none⟩ = some (.bool canon) ∧ w.cell? ⟨g, 5, none⟩ = some (.bool esc) := by
  obtain ⟨hB, bv, sb, len, cap, ms, hg, _⟩ := h
  exact ⟨by rw [blk_cell hg]; rfl, by rw [blk_cell hg]; rfl⟩
set_option maxHeartbeats 800000 in
set_option maxRecDepth 100000 in
theorem writeString_any {g B wb : Nat} {canon esc : Bool} {buf : List UInt8} {modes : List Int} {m : Int} {w : World} (s : ByteArray) (h : IsEW g B wb canon esc buf (modes ++ [m]) w) (hp : 0 < modes.length) (hm : m = 4 ∨ m = 5) (hl : Room buf.length) (hT : Tabs w) (h17 : 17 ≤ B) (hs : s.size ≤ 100000000) :
    Calls Tryz.prog 148 #[.pointer (some ⟨g, 0, none⟩), .string s] w fun e w' => e = .returned .nilIface ∧ IsEW g B wb canon esc (buf ++ (jout esc s ++ [44])) modes w' ∧ EStep B w w' := by
  have hB := Lib.hid h.lt
  have HT := Lib.hid hT
  go_enter Tryz.func148, Tryz.ntmps148
  go_wp2_with (go_at_call 66; refine (ensure_ew h hm _ _ _).mono ?_; rintro e w1 ⟨rfl, h1, s1⟩; refine Hid.out ?_)
  refine Lib.hid ?_
  have S1 := Lib.hid (EStep.of_below (B := B) s1 (by have := hB.out; omega))
  have H1 := Lib.hid h1
  have g5 := h1.flags.2
  have hlt := h1.lt.2
  have hB1 : B ≤ w1.heap.size := by have := h1.lt; omega
  clear h h1 hT s1
  go_wp2_with (go_at_call 96; refine (wse_fresh s esc w1 (HT.out.below S1.out.1 h17) (by omega) (by omega)).mono ?_; rintro e w2 ⟨rfl, hb2, s2⟩; refine Hid.out ?_)
  refine Lib.hid ?_
  have S2 := Lib.hid (EStep.of_below (B := B) s2 (by omega))
  have H2 := Lib.hid (H1.out.below s2)
  obtain ⟨A, c, hRB, hBy⟩ := bytes_x hb2
  obtain ⟨bv, hbv⟩ := H2.out.buf
  clear H1 g5 hb2 s2
  go_wp2
  refine wp_region_quiet_tail1 6 (.pointer (some ⟨g, 0, none⟩)) (by kernel_rfl) (by kernel_rfl) (.inl ⟨rfl, fun _ => rfl⟩) ?_
  simp only [List.take_succ_cons, List.take_zero, List.drop_succ_cons, List.drop_zero]
  repeat (quiet_step (exact hBy _))
  refine wpQuiet_nil ?_
  intro w' hw'
  obtain ⟨nq, rfl⟩ := hw'
  refine ew_tail (N := 38) (bv := bv) (jout esc s) rfl rfl rfl rfl rfl (by decide) H2.out hbv (below_dr _ _) hRB (hl.le (by have := jout_len esc s; omega)) ?_
  intro v3 w3 hv3 H3 S3
  clear H2 hbv hBy hRB
  unfold onlyN
  go_wp2_with (with_reducible show wpList _ _ _ (⟨some 33, _, _, _, _, _⟩ :: _) _ _; refine Hid.out ?_)
  refine Lib.hid ?_
  refine ew_tail (N := 38) (bv := v3) [44] rfl rfl rfl rfl rfl (by decide) H3.out hv3 (Joins.below_alloc1 _ _) (rb_new _ _ _ rfl _ _ _ rfl) (hl.le (by have := jout_len esc s; simp only [List.length_append, List.length_cons, List.length_nil]; omega)) ?_
  intro v4 w4 hv4 H4 S4
  clear H3 hv3
  go_wp2_with (go_at_call 103; refine (pop_one H4.out hp hm).mono ?_; rintro e w5 ⟨rfl, h5, s5⟩; refine Hid.out ?_)
  refine Lib.hid ?_
  have H5 := Lib.hid h5
  have S5 := Lib.hid s5
  clear h5 s5
  go_wp2
  go_ret
  exact ⟨rfl, by have := H5.out; simpa using this, S1.out.trans (S2.out.trans (S3.out.trans (S4.out.trans S5.out)))⟩
theorem size_lit (a : Array UInt8) : (ByteArray.mk a).size = a.size := rfl
theorem fmtInt_any (n : Int) (w : World) (h : I64 n) (hT : Tabs w) : Calls Tryz.prog 34 #[.int .i64 n, .int .i64 10] w fun e w' => e = .returned (.string (itoaB n)) ∧ Below w.heap.size w w' := fmtInt_c n w h hT.c
set_option maxHeartbeats 800000 in
set_option maxRecDepth 100000 in
theorem writeUndefined_any {g B wb : Nat} {canon esc : Bool} {buf : List UInt8} {modes : List Int} {m : Int} {w : World}  (h : IsEW g B wb canon esc buf (modes ++ [m]) w) (hp : 0 < modes.length) (hm : m = 4 ∨ m = 5) (hl : Room buf.length)  :
    Calls Tryz.prog 150 #[.pointer (some ⟨g, 0, none⟩)] w fun e w' => e = .returned .nilIface ∧ IsEW g B wb canon esc (buf ++ [123, 34, 36, 117, 110, 100, 101, 102, 105, 110, 101, 100, 34, 58, 116, 114, 117, 101, 125, 44]) modes w' ∧ EStep B w w' := by
  have hB := Lib.hid h.lt
  go_enter Tryz.func150, Tryz.ntmps150
  go_wp2_with (go_at_call 66; refine (ensure_ew h hm _ _ _).mono ?_; rintro e w1 ⟨rfl, h1, s1⟩; refine Hid.out ?_)
  refine Lib.hid ?_
  have S1 := Lib.hid (EStep.of_below (B := B) s1 (by have := hB.out; omega))
  have H1 := Lib.hid h1
  have hlt1 := h1.lt.2
  have hB1 : B ≤ w1.heap.size := by have := h1.lt; omega
  obtain ⟨bv1, hv1⟩ := h1.buf
  clear h s1 h1
  go_wp2_with (go_at_call 217; refine (single_n ⟨#[117, 110, 100, 101, 102, 105, 110, 101, 100]⟩ ⟨#[116, 114, 117, 101]⟩ H1.out (hl) (by decide) (by decide)).mono ?_; rintro e w2 ⟨rfl, h2, S2⟩; refine Hid.out ?_)
  refine Lib.hid ?_
  have H2 := Lib.hid h2
  have S2 := Lib.hid S2
  obtain ⟨bv2, hv2⟩ := h2.buf
  clear H1 hv1 h2
  go_wp2_with (with_reducible show wpList _ _ _ (⟨some 17, _, _, _, _, _⟩ :: _) _ _; refine Hid.out ?_)
  refine Lib.hid ?_
  refine ew_tail (N := 22) (bv := bv2) [44] rfl rfl rfl rfl rfl (by decide) H2.out hv2 (Joins.below_alloc1 _ _) (rb_new _ _ _ rfl _ _ _ rfl) (hl.le (by simp)) ?_
  intro bv3 w3 hv3 H3 S3
  clear H2 hv2
  go_wp2_with (go_at_call 103; refine (pop_one H3.out hp hm).mono ?_; rintro e w4 ⟨rfl, h4, S4⟩; refine Hid.out ?_)
  refine Lib.hid ?_
  have H4 := Lib.hid h4
  have S4 := Lib.hid S4
  clear h4
  go_wp2
  go_ret
  exact ⟨rfl, by have := H4.out; simpa using this, S1.out.trans (S2.out.trans (S3.out.trans (S4.out)))⟩
set_option maxHeartbeats 800000 in
set_option maxRecDepth 100000 in
theorem writeMinKey_any {g B wb : Nat} {canon esc : Bool} {buf : List UInt8} {modes : List Int} {m : Int} {w : World}  (h : IsEW g B wb canon esc buf (modes ++ [m]) w) (hp : 0 < modes.length) (hm : m = 4 ∨ m = 5) (hl : Room buf.length)  :
    Calls Tryz.prog 165 #[.pointer (some ⟨g, 0, none⟩)] w fun e w' => e = .returned .nilIface ∧ IsEW g B wb canon esc (buf ++ [123, 34, 36, 109, 105, 110, 75, 101, 121, 34, 58, 49, 125, 44]) modes w' ∧ EStep B w w' := by
  have hB := Lib.hid h.lt
  go_enter Tryz.func165, Tryz.ntmps165
  go_wp2_with (go_at_call 66; refine (ensure_ew h hm _ _ _).mono ?_; rintro e w1 ⟨rfl, h1, s1⟩; refine Hid.out ?_)
  refine Lib.hid ?_
  have S1 := Lib.hid (EStep.of_below (B := B) s1 (by have := hB.out; omega))
  have H1 := Lib.hid h1
  have hlt1 := h1.lt.2
  have hB1 : B ≤ w1.heap.size := by have := h1.lt; omega
  obtain ⟨bv1, hv1⟩ := h1.buf
  clear h s1 h1
  go_wp2_with (go_at_call 217; refine (single_n ⟨#[109, 105, 110, 75, 101, 121]⟩ ⟨#[49]⟩ H1.out (hl) (by decide) (by decide)).mono ?_; rintro e w2 ⟨rfl, h2, S2⟩; refine Hid.out ?_)
  refine Lib.hid ?_
  have H2 := Lib.hid h2
  have S2 := Lib.hid S2
  obtain ⟨bv2, hv2⟩ := h2.buf
  clear H1 hv1 h2
  go_wp2_with (with_reducible show wpList _ _ _ (⟨some 17, _, _, _, _, _⟩ :: _) _ _; refine Hid.out ?_)
  refine Lib.hid ?_
  refine ew_tail (N := 22) (bv := bv2) [44] rfl rfl rfl rfl rfl (by decide) H2.out hv2 (Joins.below_alloc1 _ _) (rb_new _ _ _ rfl _ _ _ rfl) (hl.le (by simp)) ?_
  intro bv3 w3 hv3 H3 S3
  clear H2 hv2
  go_wp2_with (go_at_call 103; refine (pop_one H3.out hp hm).mono ?_; rintro e w4 ⟨rfl, h4, S4⟩; refine Hid.out ?_)
  refine Lib.hid ?_
  have H4 := Lib.hid h4
  have S4 := Lib.hid S4
  clear h4
  go_wp2
  go_ret
  exact ⟨rfl, by have := H4.out; simpa using this, S1.out.trans (S2.out.trans (S3.out.trans (S4.out)))⟩
set_option maxHeartbeats 800000 in
set_option maxRecDepth 100000 in
theorem writeMaxKey_any {g B wb : Nat} {canon esc : Bool} {buf : List UInt8} {modes : List Int} {m : Int} {w : World}  (h : IsEW g B wb canon esc buf (modes ++ [m]) w) (hp : 0 < modes.length) (hm : m = 4 ∨ m = 5) (hl : Room buf.length)  :
    Calls Tryz.prog 166 #[.pointer (some ⟨g, 0, none⟩)] w fun e w' => e = .returned .nilIface ∧ IsEW g B wb canon esc (buf ++ [123, 34, 36, 109, 97, 120, 75, 101, 121, 34, 58, 49, 125, 44]) modes w' ∧ EStep B w w' := by
  have hB := Lib.hid h.lt
  go_enter Tryz.func166, Tryz.ntmps166
  go_wp2_with (go_at_call 66; refine (ensure_ew h hm _ _ _).mono ?_; rintro e w1 ⟨rfl, h1, s1⟩; refine Hid.out ?_)
  refine Lib.hid ?_
  have S1 := Lib.hid (EStep.of_below (B := B) s1 (by have := hB.out; omega))
  have H1 := Lib.hid h1
  have hlt1 := h1.lt.2
  have hB1 : B ≤ w1.heap.size := by have := h1.lt; omega
  obtain ⟨bv1, hv1⟩ := h1.buf
  clear h s1 h1
  go_wp2_with (go_at_call 217; refine (single_n ⟨#[109, 97, 120, 75, 101, 121]⟩ ⟨#[49]⟩ H1.out (hl) (by decide) (by decide)).mono ?_; rintro e w2 ⟨rfl, h2, S2⟩; refine Hid.out ?_)
  refine Lib.hid ?_
  have H2 := Lib.hid h2
  have S2 := Lib.hid S2
  obtain ⟨bv2, hv2⟩ := h2.buf
  clear H1 hv1 h2
  go_wp2_with (with_reducible show wpList _ _ _ (⟨some 17, _, _, _, _, _⟩ :: _) _ _; refine Hid.out ?_)
  refine Lib.hid ?_
  refine ew_tail (N := 22) (bv := bv2) [44] rfl rfl rfl rfl rfl (by decide) H2.out hv2 (Joins.below_alloc1 _ _) (rb_new _ _ _ rfl _ _ _ rfl) (hl.le (by simp)) ?_
  intro bv3 w3 hv3 H3 S3
  clear H2 hv2
  go_wp2_with (go_at_call 103; refine (pop_one H3.out hp hm).mono ?_; rintro e w4 ⟨rfl, h4, S4⟩; refine Hid.out ?_)
  refine Lib.hid ?_
  have H4 := Lib.hid h4
  have S4 := Lib.hid S4
  clear h4
  go_wp2
  go_ret
  exact ⟨rfl, by have := H4.out; simpa using this, S1.out.trans (S2.out.trans (S3.out.trans (S4.out)))⟩
set_option maxHeartbeats 800000 in
set_option maxRecDepth 100000 in
theorem writeInt32_any {g B wb : Nat} {esc : Bool} {buf : List UInt8} {modes : List Int} {m : Int} {w : World} (n : Int)  (h : IsEW g B wb false esc buf (modes ++ [m]) w) (hp : 0 < modes.length) (hm : m = 4 ∨ m = 5) (hl : Room buf.length) (hn : -2147483648 ≤ n ∧ n ≤ 2147483647) (hT : Tabs w) (h17 : 17 ≤ B) :
    Calls Tryz.prog 160 #[.pointer (some ⟨g, 0, none⟩), .int .i32 n] w fun e w' => e = .returned .nilIface ∧ IsEW g B wb false esc (buf ++ ((Lib.itoa n) ++ [44])) modes w' ∧ EStep B w w' := by
  have hB := Lib.hid h.lt
  go_enter Tryz.func160, Tryz.ntmps160
  have hI : I64 n := ⟨by omega, by omega⟩
  have hw := Lib.hid hI
  have HT := Lib.hid hT
  clear hT
  go_wp2_with (go_at_call 66; refine (ensure_ew h hm _ _ _).mono ?_; rintro e w1 ⟨rfl, h1, s1⟩; refine Hid.out ?_)
  refine Lib.hid ?_
  have S1 := Lib.hid (EStep.of_below (B := B) s1 (by have := hB.out; omega))
  have H1 := Lib.hid h1
  have hlt1 := h1.lt.2
  have hB1 : B ≤ w1.heap.size := by have := h1.lt; omega
  have g4 := h1.flags.1
  obtain ⟨bv1, hv1⟩ := h1.buf
  clear h s1 h1
  go_wp2_with (go_at_call 34; refine (fmtInt_any n _ hw.out (HT.out.below S1.out.1 h17)).mono ?_; rintro e w2 ⟨rfl, s2⟩; refine Hid.out ?_)
  refine Lib.hid ?_
  have S2 := Lib.hid (EStep.of_below (B := B) s2 hB1)
  have H2 := Lib.hid (H1.out.below s2)
  have hlt2 := H2.out.lt.2
  have hB2 : B ≤ w2.heap.size := by have := H2.out.lt; omega
  obtain ⟨bv2, hv2⟩ := H2.out.buf
  clear H1 hv1 s2
  have g4 := H2.out.flags.1
  go_wp2_with (with_reducible show wpList _ _ _ (⟨some 29, _, _, _, _, _⟩ :: _) _ _; refine Hid.out ?_)
  refine Lib.hid ?_
  refine ew_tail (N := 43) (bv := bv2) (itoaB n).data.toList rfl rfl rfl (len_bs _) rfl (by decide) H2.out hv2 (Joins.below_bytesWorld _ _ _ _ (Nat.le_refl _)) (rb_bytes _ _ _ rfl) (hl.le (by rw [len_bs]; have := itoaB_size n hw.out; omega)) ?_
  intro bv3 w3 hv3 H3 S3
  clear H2 hv2
  go_wp2_with (with_reducible show wpList _ _ _ (⟨some 38, _, _, _, _, _⟩ :: _) _ _; refine Hid.out ?_)
  refine Lib.hid ?_
  refine ew_tail (N := 43) (bv := bv3) [44] rfl rfl rfl rfl rfl (by decide) H3.out hv3 (Joins.below_alloc1 _ _) (rb_new _ _ _ rfl _ _ _ rfl) (hl.le (by rw [List.length_append, len_bs]; have := itoaB_size n hw.out; simp; omega)) ?_
  intro bv4 w4 hv4 H4 S4
  clear H3 hv3
  go_wp2_with (go_at_call 103; refine (pop_one H4.out hp hm).mono ?_; rintro e w5 ⟨rfl, h5, S5⟩; refine Hid.out ?_)
  refine Lib.hid ?_
  have H5 := Lib.hid h5
  have S5 := Lib.hid S5
  clear h5
  go_wp2
  go_ret
  exact ⟨rfl, by have := H5.out; simpa [itoaB] using this, S1.out.trans (S2.out.trans (S3.out.trans (S4.out.trans (S5.out))))⟩
set_option maxHeartbeats 800000 in
set_option maxRecDepth 100000 in
theorem writeInt64_any {g B wb : Nat} {esc : Bool} {buf : List UInt8} {modes : List Int} {m : Int} {w : World} (n : Int)  (h : IsEW g B wb false esc buf (modes ++ [m]) w) (hp : 0 < modes.length) (hm : m = 4 ∨ m = 5) (hl : Room buf.length) (hn : I64 n) (hT : Tabs w) (h17 : 17 ≤ B) :
    Calls Tryz.prog 162 #[.pointer (some ⟨g, 0, none⟩), .int .i64 n] w fun e w' => e = .returned .nilIface ∧ IsEW g B wb false esc (buf ++ ((Lib.itoa n) ++ [44])) modes w' ∧ EStep B w w' := by
  have hB := Lib.hid h.lt
  go_enter Tryz.func162, Tryz.ntmps162
  have hw := Lib.hid hn
  have HT := Lib.hid hT
  clear hT
  go_wp2_with (go_at_call 66; refine (ensure_ew h hm _ _ _).mono ?_; rintro e w1 ⟨rfl, h1, s1⟩; refine Hid.out ?_)
  refine Lib.hid ?_
  have S1 := Lib.hid (EStep.of_below (B := B) s1 (by have := hB.out; omega))
  have H1 := Lib.hid h1
  have hlt1 := h1.lt.2
  have hB1 : B ≤ w1.heap.size := by have := h1.lt; omega
  have g4 := h1.flags.1
  obtain ⟨bv1, hv1⟩ := h1.buf
  clear h s1 h1
  go_wp2_with (go_at_call 34; refine (fmtInt_any n _ hw.out (HT.out.below S1.out.1 h17)).mono ?_; rintro e w2 ⟨rfl, s2⟩; refine Hid.out ?_)
  refine Lib.hid ?_
  have S2 := Lib.hid (EStep.of_below (B := B) s2 hB1)
  have H2 := Lib.hid (H1.out.below s2)
  have hlt2 := H2.out.lt.2
  have hB2 : B ≤ w2.heap.size := by have := H2.out.lt; omega
  obtain ⟨bv2, hv2⟩ := H2.out.buf
  clear H1 hv1 s2
  have g4 := H2.out.flags.1
  go_wp2_with (with_reducible show wpList _ _ _ (⟨some 28, _, _, _, _, _⟩ :: _) _ _; refine Hid.out ?_)
  refine Lib.hid ?_
  refine ew_tail (N := 42) (bv := bv2) (itoaB n).data.toList rfl rfl rfl (len_bs _) rfl (by decide) H2.out hv2 (Joins.below_bytesWorld _ _ _ _ (Nat.le_refl _)) (rb_bytes _ _ _ rfl) (hl.le (by rw [len_bs]; have := itoaB_size n hw.out; omega)) ?_
  intro bv3 w3 hv3 H3 S3
  clear H2 hv2
  go_wp2_with (with_reducible show wpList _ _ _ (⟨some 37, _, _, _, _, _⟩ :: _) _ _; refine Hid.out ?_)
  refine Lib.hid ?_
  refine ew_tail (N := 42) (bv := bv3) [44] rfl rfl rfl rfl rfl (by decide) H3.out hv3 (Joins.below_alloc1 _ _) (rb_new _ _ _ rfl _ _ _ rfl) (hl.le (by rw [List.length_append, len_bs]; have := itoaB_size n hw.out; simp; omega)) ?_
  intro bv4 w4 hv4 H4 S4
  clear H3 hv3
  go_wp2_with (go_at_call 103; refine (pop_one H4.out hp hm).mono ?_; rintro e w5 ⟨rfl, h5, S5⟩; refine Hid.out ?_)
  refine Lib.hid ?_
  have H5 := Lib.hid h5
  have S5 := Lib.hid S5
  clear h5
  go_wp2
  go_ret
  exact ⟨rfl, by have := H5.out; simpa [itoaB] using this, S1.out.trans (S2.out.trans (S3.out.trans (S4.out.trans (S5.out))))⟩
set_option maxHeartbeats 800000 in
set_option maxRecDepth 100000 in
theorem writeDateTime_any {g B wb : Nat} {canon esc : Bool} {buf : List UInt8} {modes : List Int} {m : Int} {w : World} (n : Int)  (h : IsEW g B wb canon esc buf (modes ++ [m]) w) (hp : 0 < modes.length) (hm : m = 4 ∨ m = 5) (hl : Room buf.length) (hn : I64 n) (hT : Tabs w) (h17 : 17 ≤ B) :
    Calls Tryz.prog 154 #[.pointer (some ⟨g, 0, none⟩), .int .i64 n] w fun e w' => e = .returned .nilIface ∧ IsEW g B wb canon esc (buf ++ ([123, 34, 36, 100, 97, 116, 101, 34, 58, 123, 34, 36, 110, 117, 109, 98, 101, 114, 76, 111, 110, 103, 34, 58, 34] ++ Lib.itoa n ++ [34, 125, 125, 44])) modes w' ∧ EStep B w w' := by
  have hB := Lib.hid h.lt
  go_enter Tryz.func154, Tryz.ntmps154
  have hw := Lib.hid hn
  have HT := Lib.hid hT
  clear hT hn
  go_wp2_with (go_at_call 66; refine (ensure_ew h hm _ _ _).mono ?_; rintro e w1 ⟨rfl, h1, s1⟩; refine Hid.out ?_)
  refine Lib.hid ?_
  have S1 := Lib.hid (EStep.of_below (B := B) s1 (by have := hB.out; omega))
  have H1 := Lib.hid h1
  have hlt1 := h1.lt.2
  have hB1 : B ≤ w1.heap.size := by have := h1.lt; omega
  obtain ⟨bv1, hv1⟩ := h1.buf
  clear h s1 h1
  go_wp2_with (go_at_call 34; refine (fmtInt_any n _ hw.out (HT.out.below S1.out.1 h17)).mono ?_; rintro e w2 ⟨rfl, s2⟩; refine Hid.out ?_)
  refine Lib.hid ?_
  have S2 := Lib.hid (EStep.of_below (B := B) s2 hB1)
  have H2 := Lib.hid (H1.out.below s2)
  have hlt2 := H2.out.lt.2
  have hB2 : B ≤ w2.heap.size := by have := H2.out.lt; omega
  obtain ⟨bv2, hv2⟩ := H2.out.buf
  clear H1 hv1 s2
  have hz := itoaB_size n hw.out
  go_wp2_with (go_at_call 217; refine (single_n ⟨#[100, 97, 116, 101]⟩ _ H2.out (hl) (by decide) (by simp only [ByteArray.size_append]; show 16 + _ + 2 ≤ _; omega)).mono ?_; rintro e w3 ⟨rfl, h3, S3⟩; refine Hid.out ?_)
  refine Lib.hid ?_
  have H3 := Lib.hid h3
  have S3 := Lib.hid S3
  obtain ⟨bv3, hv3⟩ := h3.buf
  clear H2 hv2 h3
  go_wp2_with (with_reducible show wpList _ _ _ (⟨some 25, _, _, _, _, _⟩ :: _) _ _; refine Hid.out ?_)
  refine Lib.hid ?_
  refine ew_tail (N := 30) (bv := bv3) [44] rfl rfl rfl rfl rfl (by decide) H3.out hv3 (Joins.below_alloc1 _ _) (rb_new _ _ _ rfl _ _ _ rfl) (hl.le (by simp only [List.length_append, List.length_cons, List.length_nil, len_bs, ByteArray.size_append, size_lit, List.size_toArray]; omega)) ?_
  intro bv4 w4 hv4 H4 S4
  clear H3 hv3
  go_wp2_with (go_at_call 103; refine (pop_one H4.out hp hm).mono ?_; rintro e w5 ⟨rfl, h5, S5⟩; refine Hid.out ?_)
  refine Lib.hid ?_
  have H5 := Lib.hid h5
  have S5 := Lib.hid S5
  clear h5
  go_wp2
  go_ret
  exact ⟨rfl, by have := H5.out; simpa [itoaB, ByteArray.data_append] using this, S1.out.trans (S2.out.trans (S3.out.trans (S4.out.trans (S5.out))))⟩
end Go.Proofs.YtpfkgpcnhdkkbaaGreatDoor
