/- Integers to base ten, over the tables that both packages read. -/
import Derived.Test.YtpfkgpcnhdkkbaaGreatDoorATabs
import Derived.Lib.ItoaLen
import Derived.Lib.AppendIntMem
namespace Go.Proofs.YtpfkgpcnhdkkbaaGreatDoor
open Go.RowKit Go.Sort
set_option linter.unusedVariables false
set_option linter.unusedSimpArgs false
def itoaB (n : Int) : ByteArray := ⟨(Lib.itoa n).toArray⟩
def I64 (n : Int) : Prop := -9223372036854775808 ≤ n ∧ n ≤ 9223372036854775807
theorem itoaB_size (n : Int) (h : I64 n) : (itoaB n).size ≤ 21 := by
 have := Lib.itoa_length_le n h.1 h.2
 simpa [itoaB, ByteArray.size] using this
theorem fmtInt_c (n : Int) (w : World) (h : I64 n) (hT : TabC w) : Calls Tryz.prog 34 #[.int .i64 n, .int .i64 10] w fun e w' => e = .returned (.string (itoaB n)) ∧ Below w.heap.size w w' :=
 (Tryz.strconv_FormatInt_10 n h.1 h.2 w hT.p10).mono fun e w' ⟨h1, k, os, h2⟩ => ⟨h1, by subst h2; exact Lib.below_grow _ w (Nat.le_refl _) k os⟩
def decB (u : Nat) : ByteArray := ⟨(Lib.decDigits u).toArray⟩
set_option maxRecDepth 100000 in
theorem fmtUintIn_c (u : Nat) (hu64 : u < 18446744073709551616) (w : World) (hT : TabC w) : Calls Tryz.prog 62 #[.int .u64 (u : Int), .int .i64 10] w fun e w' => e = .returned (.string (decB u)) ∧ Below w.heap.size w w' := by
 by_cases h100 : u < 100
 ·go_enter Tryz.func62, Tryz.ntmps62
  go_wp2_with (go_at_call 89; refine (Tryz.internal_strconv_small u h100 _).mono ?_; rintro e w' ⟨rfl, rfl⟩; refine Hid.out ?_)
  refine LH ?_
  go_wp2
  go_ret
  exact ⟨rfl, Below.refl _ _⟩
 ·have hu1 : 1 ≤ u := by omega
  have hnd20 : Lib.nDigits u ≤ 20 := by have := Lib.numDigits_eq u hu1 hu64; split at this <;> omega
  have hb3 : Lib.nDigits u ≤ 24 := by omega
  have hal : Tryz.prog.arrayLen 134 = 24 := by simp [Program.arrayLen, Tryz.underlying134]
  have hsl1 : ∀ W, (Instr.sliceAt 134 (.pointer (some ⟨w.heap.size, 0, none⟩)) none (some (.int .i64 (Lib.nDigits u : Int))) none).run Tryz.prog W = .ok (.slice (some ⟨w.heap.size, 0, none⟩) (Lib.nDigits u) 24) W := fun W => by
   rw [run_sliceAt_array_h W 134 ⟨w.heap.size, 0, none⟩ (by simp [Program.arrayLen, Program.elem, Tryz.underlying134]) .i64 (Lib.nDigits u : Int) (by omega) (by rw [hal]; omega), hal]
   go_simp
  have hH0 := Lib.holds_zero0 w 134 (Lib.nDigits u) (by omega)
  have hfmt := Tryz.internal_strconv_formatBase10 w.heap.size 0 24 u (Array.replicate (Lib.nDigits u) 0) (w.alloc (.cells Lib.zeros24 134)) hH0 (by rw [Array.size_replicate]; exact Lib.lt_pow_nDigits u) hu64 (by rw [Array.size_replicate]; omega)
  rw [Array.size_replicate] at hfmt
  have HH0 := LH hH0
  have htab := hT.p10
  clear hH0 hal hT
  go_enter Tryz.func62, Tryz.ntmps62
  go_wp2_with (go_at_call 90; refine (Tryz.internal_strconv_numDigits u hu1 hu64 _ (Lib.tabIs_alloc htab _)).mono ?_; rintro e w' ⟨rfl, rfl⟩)
  refine hfmt.mono ?_
  rintro e w' ⟨rfl, k, v', dk, rfl, hF⟩
  have hcv : (convert 23 9 (.slice (some ⟨w.heap.size, 0, none⟩) (Lib.nDigits u) 24)).run Tryz.prog ((putRow (fun (b : UInt8) => Value.int .u8 (b.toNat : Int)) (w.alloc (.cells Lib.zeros24 134)) w.heap.size 0 dk).drewN k) = .ok (.string ⟨(Lib.decDigits u).toArray⟩) ((putRow (fun (b : UInt8) => Value.int .u8 (b.toNat : Int)) (w.alloc (.cells Lib.zeros24 134)) w.heap.size 0 dk).drewN k) := by
   have h := run_convert_bytes_back (P := Tryz.prog) ((putRow (fun (b : UInt8) => Value.int .u8 (b.toNat : Int)) (w.alloc (.cells Lib.zeros24 134)) w.heap.size 0 dk).drewN k) 23 9 5 ⟨w.heap.size, 0, none⟩ 24 (Lib.decDigits u) Tryz.underlying23 Tryz.underlying5 Tryz.underlying9 (fun j hj => by
    rw [Lib.row_is_numeral hF j hj, Lib.add_plain, World.cell?_drewN]
    exact cell?_putRow (fun (b : UInt8) => Value.int .u8 (b.toNat : Int)) _ w.heap.size 0 _ dk HH0.out (by rw [hF.size, Array.size_replicate]) j (by rw [hF.size]; rw [Lib.decDigits_length] at hj; exact hj))
   rw [Lib.decDigits_length] at h
   exact h
  go_wp2
  go_ret
  obtain ⟨os, eo⟩ := Lib.fin_at w (.cells Lib.zeros24 134) dk k 0
  refine ⟨rfl, ?_⟩
  have hb := Lib.below_grow w.heap.size w (Nat.le_refl _) k os
  rw [← eo] at hb
  exact hb
theorem fmtUint_c (u : Nat) (hu64 : u < 18446744073709551616) (w : World) (hT : TabC w) : Calls Tryz.prog 36 #[.int .u64 (u : Int), .int .i64 10] w fun e w' => e = .returned (.string (decB u)) ∧ Below w.heap.size w w' := by
 have HT := LH hT
 clear hT
 go_enter Tryz.func36, Tryz.ntmps36
 go_wp2_with (go_at_call 62; refine (fmtUintIn_c u hu64 _ HT.out).mono ?_; rintro e w1 ⟨rfl, s1⟩; refine Hid.out ?_)
 refine LH ?_
 have S1 := LH s1
 clear s1
 go_wp2
 go_ret
 exact ⟨rfl, S1.out⟩
end Go.Proofs.YtpfkgpcnhdkkbaaGreatDoor
