/- Plain laws of decimal numbers: what the loop of decimal128.String lays is the text that the reference tells. -/
import Derived.Lib.ItoaNum
import Derived.Test.YtpfkgpcnhdkkbaaGreatDoorAGl
import Derived.Lib.ItoaLen
import Derived.RegionTactic
namespace Go.Proofs.YtpfkgpcnhdkkbaaGreatDoor
set_option linter.unusedVariables false
set_option linter.unusedSimpArgs false
def dStep (k : Nat → Nat → Int → Int → Nat → List UInt8 → Int × List UInt8) (R i : Nat) (dot e : Int) (last : Nat) (t : List UInt8) : Int × List UInt8 :=
 if R / 10 = 0 ∧ i = 48 ∧ (dot < 42 ∨ 0 < e) then (e, UInt8.ofNat (48 + R % 10) :: t)
 else if (i : Int) - 1 < dot ∧ R / 10 = 0 then (e, (UInt8.ofNat (48 + R % 10) :: t).drop ((if R % 10 = 0 then last else i - 1) - (i - 1)))
 else k (R / 10) (i - 1) dot e (if R % 10 = 0 then last else i - 1) (UInt8.ofNat (48 + R % 10) :: t)
def dPoint (R i : Nat) (dot e : Int) : Prop := i < 48 ∧ (dot = i ∨ (1 ≤ R ∧ R < 10 ∧ (dot < (i : Int) - 6 ∨ 0 < e)))
instance (R i : Nat) (dot e : Int) : Decidable (dPoint R i dot e) := by unfold dPoint; infer_instance
def dRun : Nat → Nat → Nat → Int → Int → Nat → List UInt8 → Int × List UInt8
 | 0, _, i, _, e, last, t => (e, t.drop (last - i))
 | f + 1, R, i, dot, e, last, t =>
  if dPoint R i dot e then dStep (dRun f) R (i - 1) 48 (e + (48 - i)) (i - 2) (46 :: t) else dStep (dRun f) R i dot e last t
def padD (C : Nat) : Nat → List UInt8
 | 0 => []
 | k + 1 => UInt8.ofNat (48 + C / 10 ^ k % 10) :: padD C k
theorem padD_length (C : Nat) : ∀ k, (padD C k).length = k
 | 0 => rfl
 | k + 1 => by simp [padD, padD_length C k]
theorem decDigits_big {u : Nat} (h : ¬ u < 10) : Lib.decDigits u = Lib.decDigits (u / 10) ++ [UInt8.ofNat (48 + u % 10)] := by rw [Lib.decDigits, dif_neg h]
theorem nd_le (u : Nat) : ∀ j, 1 ≤ j → u < 10 ^ j → Lib.nDigits u ≤ j := by
 induction u using Nat.strongRecOn with
 | _ u ih =>
  intro j h1 hj
  by_cases hu : u < 10
  ·rw [Lib.nDigits_small hu]; exact h1
  ·rw [Lib.nDigits_big hu]
   obtain ⟨j, rfl⟩ : ∃ g, j = g + 1 := ⟨j - 1, by omega⟩
   rw [Nat.pow_succ] at hj
   have hj1 : 1 ≤ j := by
    rcases j with _ | j
    ·simp at hj; omega
    ·omega
   have := ih (u / 10) (by omega) j hj1 (by omega)
   omega
theorem pow_le_of_nd (u : Nat) : ∀ j, j + 1 ≤ Lib.nDigits u → u = 0 ∨ 10 ^ j ≤ u := by
 intro j hj
 rcases Nat.lt_or_ge u (10 ^ j) with h | h
 ·rcases j with _ | j
  ·left; simp at h; exact h
  ·have := nd_le u (j + 1) (by omega) h
   omega
 ·exact .inr h
theorem nd_div (C k : Nat) : Lib.nDigits (C / 10 ^ k) ≤ Lib.nDigits C - k ∨ C / 10 ^ k = 0 := by
 have h1 := Lib.lt_pow_nDigits C
 by_cases hkn : k + 1 ≤ Lib.nDigits C
 ·left
  refine nd_le _ _ (by omega) ?_
  rw [Nat.div_lt_iff_lt_mul (Nat.pow_pos (by omega)), ← Nat.pow_add, show Lib.nDigits C - k + k = Lib.nDigits C from by omega]
  exact h1
 ·right
  exact Nat.div_eq_of_lt (Nat.lt_of_lt_of_le h1 (Nat.pow_le_pow_right (by omega) (by omega)))
theorem div_step (C k : Nat) : C / 10 ^ k / 10 = C / 10 ^ (k + 1) := by rw [Nat.div_div_eq_div_mul, ← Nat.pow_succ]
theorem small_nd {C k : Nat} (h : C / 10 ^ k < 10) : Lib.nDigits C ≤ k + 1 := by
 refine nd_le C (k + 1) (by omega) ?_
 have := (Nat.div_lt_iff_lt_mul (Nat.pow_pos (by omega : 0 < 10) (n := k))).1 h
 rw [Nat.pow_succ]; omega
theorem runB : ∀ (f R i last : Nat) (t : List UInt8), 0 < R → Lib.nDigits R ≤ f → Lib.nDigits R ≤ i → i ≤ 48 → dRun f R i 48 0 last t = (0, Lib.decDigits R ++ t)
 | 0, R, i, last, t, hR, hf, _, _ => by have := Lib.nDigits_pos R; omega
 | f + 1, R, i, last, t, hR, hf, hi, h48 => by
  have hp := Lib.nDigits_pos R
  have hnp : ¬ dPoint R i 48 0 := by unfold dPoint; omega
  rw [dRun, if_neg hnp]
  unfold dStep
  rw [if_neg (by omega)]
  by_cases h : R < 10
  ·rw [if_pos ⟨by omega, by omega⟩, if_neg (by omega), Nat.sub_self, Lib.decDigits_one h, Nat.mod_eq_of_lt h]
   rfl
  ·have hn := Lib.nDigits_big h
   have hp2 := Lib.nDigits_pos (R / 10)
   rw [if_neg (by omega), runB f (R / 10) (i - 1) _ _ (by omega) (by omega) (by omega) (by omega), decDigits_big h]
   simp
theorem runP (C m : Nat) (hm : 1 ≤ m) (hm6 : m ≤ Lib.nDigits C + 5) : ∀ (d f k last : Nat), k + d = m → 45 ≤ f + k → Lib.nDigits C ≤ 40 → m ≤ 40 →
  dRun f (C / 10 ^ k) (48 - k) (48 - m) (-m) last (padD C k) = (0, Lib.decDigits (C / 10 ^ m) ++ 46 :: padD C m)
 | 0, f, k, last, hk, hf, hn, hmm => by
  obtain rfl : k = m := by omega
  obtain ⟨f, rfl⟩ : ∃ g, f = g + 1 := ⟨f - 1, by omega⟩
  have hp : dPoint (C / 10 ^ k) (48 - k) (48 - k) (-k) := by unfold dPoint; exact ⟨by omega, .inl (by omega)⟩
  have hnd := nd_div C (k + 1)
  rw [← div_step] at hnd
  generalize C / 10 ^ k = R at hp hnd ⊢
  rw [dRun, if_pos hp]
  unfold dStep
  rw [if_neg (by omega), show (-(k : Int)) + (48 - ((48 - k : Nat) : Int)) = 0 from by omega, show 48 - k - 1 - 1 = 48 - k - 2 from by omega, ite_self]
  by_cases h0 : R < 10
  ·rw [if_pos ⟨by omega, by omega⟩, Nat.sub_self, List.drop_zero, Lib.decDigits_one h0, Nat.mod_eq_of_lt h0]
   rfl
  ·rw [if_neg (by omega), runB f _ _ _ _ (by omega) (by omega) (by omega) (by omega), decDigits_big h0]
   simp
 | d + 1, f, k, last, hk, hf, hn, hmm => by
  obtain ⟨f, rfl⟩ : ∃ g, f = g + 1 := ⟨f - 1, by omega⟩
  have hsmall : C / 10 ^ k < 10 → m ≤ k + 6 := by
   intro h
   have := small_nd h
   omega
  have ih := runP C m hm hm6 d f (k + 1) 
  have hpd : UInt8.ofNat (48 + C / 10 ^ k % 10) :: padD C k = padD C (k + 1) := rfl
  rw [← div_step] at ih
  rw [← hpd] at ih
  generalize C / 10 ^ k = R at hsmall ih ⊢
  have hnp : ¬ dPoint R (48 - k) (48 - m) (-m) := by
   unfold dPoint
   rintro ⟨h1, h2 | ⟨h3, h4, h5⟩⟩
   ·omega
   ·have := hsmall h4
    omega
  rw [dRun, if_neg hnp]
  unfold dStep
  rw [if_neg (by
   rintro ⟨h1, h2, h3⟩
   have := hsmall (by omega)
   omega), if_neg (by omega), show 48 - k - 1 = 48 - (k + 1) from by omega]
  exact ih _ (by omega) (by omega) hn hmm
theorem runS (C : Nat) (e : Int) (hC : 10 ≤ C) (he : 0 < e ∨ e + Lib.nDigits C - 1 < -6) (hn : Lib.nDigits C ≤ 40) : ∀ (d f k last : Nat), k + d + 1 = Lib.nDigits C → 45 ≤ f + k →
  dRun f (C / 10 ^ k) (48 - k) (48 + e) e last (padD C k) = (e + Lib.nDigits C - 1, UInt8.ofNat (48 + C / 10 ^ (Lib.nDigits C - 1) % 10) :: 46 :: padD C (Lib.nDigits C - 1))
 | 0, f, k, last, hk, hf => by
  obtain ⟨f, rfl⟩ : ∃ g, f = g + 1 := ⟨f - 1, by omega⟩
  have h2 : 2 ≤ Lib.nDigits C := by rw [Lib.nDigits_big (by omega)]; have := Lib.nDigits_pos (C / 10); omega
  have hlt := Lib.lt_pow_nDigits C
  have hge : 10 ^ k ≤ C := (pow_le_of_nd C k (by omega)).resolve_left (by omega)
  have hR1 : 1 ≤ C / 10 ^ k := (Nat.le_div_iff_mul_le (Nat.pow_pos (by omega))).2 (by omega)
  have hR2 : C / 10 ^ k < 10 := by rw [Nat.div_lt_iff_lt_mul (Nat.pow_pos (by omega)), Nat.mul_comm, ← Nat.pow_succ, show k.succ = Lib.nDigits C from by omega]; exact hlt
  rw [show Lib.nDigits C - 1 = k from by omega]
  generalize C / 10 ^ k = R at hR1 hR2 ⊢
  have hp : dPoint R (48 - k) (48 + e) e := by unfold dPoint; exact ⟨by omega, .inr ⟨hR1, hR2, by omega⟩⟩
  rw [dRun, if_pos hp]
  unfold dStep
  rw [if_neg (by omega), if_pos ⟨by omega, by omega⟩, if_neg (by omega), Nat.sub_self, List.drop_zero]
  congr 1
  omega
 | d + 1, f, k, last, hk, hf => by
  obtain ⟨f, rfl⟩ : ∃ g, f = g + 1 := ⟨f - 1, by omega⟩
  have hge : 10 ^ (k + 1) ≤ C := (pow_le_of_nd C (k + 1) (by omega)).resolve_left (by omega)
  have hR1 : 10 ≤ C / 10 ^ k := (Nat.le_div_iff_mul_le (Nat.pow_pos (by omega))).2 (by rw [Nat.pow_succ] at hge; omega)
  have ih := runS C e hC he hn d f (k + 1)
  have hpd : UInt8.ofNat (48 + C / 10 ^ k % 10) :: padD C k = padD C (k + 1) := rfl
  rw [← div_step] at ih
  rw [← hpd] at ih
  generalize C / 10 ^ k = R at hR1 ih ⊢
  have hnp : ¬ dPoint R (48 - k) (48 + e) e := by unfold dPoint; omega
  rw [dRun, if_neg hnp]
  unfold dStep
  rw [if_neg (by omega), if_neg (by omega), show 48 - k - 1 = 48 - (k + 1) from by omega]
  exact ih _ (by omega) (by omega)
theorem runS1 (C : Nat) (e : Int) (hC : C < 10) (he : 0 < e ∨ e < -6) (last : Nat) : dRun 45 C 48 (48 + e) e last [] = (e, Lib.decDigits C) := by
 have hnp : ¬ dPoint C 48 (48 + e) e := by unfold dPoint; omega
 rw [show (45 : Nat) = 44 + 1 from rfl, dRun, if_neg hnp]
 unfold dStep
 rw [if_pos ⟨by omega, rfl, by omega⟩, Lib.decDigits_one hC, Nat.mod_eq_of_lt hC]

def decBody (C : Nat) (e : Int) : Int × List UInt8 :=
 if 0 < e ∨ e + Lib.nDigits C - 1 < -6 then (e + Lib.nDigits C - 1, if C < 10 then Lib.decDigits C else UInt8.ofNat (48 + C / 10 ^ (Lib.nDigits C - 1) % 10) :: 46 :: padD C (Lib.nDigits C - 1))
 else if e = 0 then (0, Lib.decDigits C) else (0, Lib.decDigits (C / 10 ^ e.natAbs) ++ 46 :: padD C e.natAbs)
theorem dRun_body (C : Nat) (e : Int) (hn : Lib.nDigits C ≤ 35) (h0 : ¬ (C = 0 ∧ e = 0)) : dRun 45 C 48 (48 + e) e 48 [] = decBody C e := by
 have hp := Lib.nDigits_pos C
 unfold decBody
 by_cases h1 : 0 < e ∨ e + Lib.nDigits C - 1 < -6
 ·rw [if_pos h1]
  by_cases hC : C < 10
  ·have := Lib.nDigits_small hC
   rw [if_pos hC, runS1 C e hC (by omega), this]
   congr 1
   omega
  ·have := runS C e (by omega) h1 (by omega) (Lib.nDigits C - 1) 45 0 48 (by omega) (by omega)
   rw [if_neg hC]
   simpa [padD] using this
 ·rw [if_neg h1]
  by_cases h2 : e = 0
  ·subst h2
   rw [if_pos rfl]
   have hC : 0 < C := by omega
   have := runB 45 C 48 48 [] hC (by omega) (by omega) (by omega)
   simpa using this
  ·rw [if_neg h2]
   have := runP C e.natAbs (by omega) (by omega) e.natAbs 45 0 48 (by omega) (by omega) (by omega) (by omega)
   rw [show (48 : Int) - (e.natAbs : Int) = 48 + e from by omega, show -(e.natAbs : Int) = e from by omega] at this
   simpa [padD] using this
def decExpT (e : Int) : List UInt8 := if 0 < e then [69, 43] ++ Lib.itoa e else if e < 0 then [69] ++ Lib.itoa e else []
def decFin (neg : Bool) (C : Nat) (e : Int) : List UInt8 := (if neg then [45] else []) ++ ((decBody C e).2 ++ decExpT (decBody C e).1)
def refFin (neg : Bool) (s : List UInt8) (e : Int) : List UInt8 :=
 (if neg then [45] else []) ++ (if 0 < e ∨ e + s.length - 1 < -6 then
  (if 1 < s.length then s.take 1 ++ 46 :: s.drop 1 else s.take 1) ++ (if 0 ≤ e + s.length - 1 then [69, 43] ++ Lib.itoa (e + s.length - 1) else [69] ++ Lib.itoa (e + s.length - 1))
 else if e = 0 then s
 else ((List.replicate (e.natAbs + 1 - s.length) 48 ++ s).take (max s.length (e.natAbs + 1) - e.natAbs)) ++ 46 :: ((List.replicate (e.natAbs + 1 - s.length) 48 ++ s).drop (max s.length (e.natAbs + 1) - e.natAbs)))
theorem padD_split (C : Nat) : ∀ k j, padD C (k + j) = padD (C / 10 ^ j) k ++ padD C j
 | 0, j => by simp [padD]
 | k + 1, j => by
  rw [show k + 1 + j = (k + j) + 1 from by omega, padD, padD, padD_split C k j, Nat.div_div_eq_div_mul, ← Nat.pow_add, Nat.add_comm j k]
  rfl
theorem padD_dec (C : Nat) : ∀ n, Lib.nDigits C = n → Lib.decDigits C = padD C n := by
 induction C using Nat.strongRecOn with
 | _ C ih =>
  intro n hn
  by_cases h : C < 10
  ·rw [Lib.nDigits_small h] at hn
   subst hn
   simp [padD, Lib.decDigits_one h, Nat.mod_eq_of_lt h]
  ·rw [Lib.nDigits_big h] at hn
   subst hn
   rw [decDigits_big h, ih (C / 10) (by omega) _ rfl, padD_split C _ 1]
   simp [padD]
theorem padD_zero : ∀ k, padD 0 k = List.replicate k 48
 | 0 => rfl
 | k + 1 => by rw [padD, padD_zero k, Nat.zero_div]; rfl
theorem padD_more (C n k : Nat) (hn : Lib.nDigits C = n) : padD C (k + n) = List.replicate k 48 ++ Lib.decDigits C := by
 rw [padD_split, padD_dec C n hn]
 have : C / 10 ^ n = 0 := Nat.div_eq_of_lt (by have := Lib.lt_pow_nDigits C; rw [hn] at this; exact this)
 rw [this, padD_zero]
theorem refFin_eq (neg : Bool) (C : Nat) (e : Int) : refFin neg (Lib.decDigits C) e = decFin neg C e := by
 have hl := Lib.decDigits_length C
 have hp := Lib.nDigits_pos C
 unfold refFin decFin decBody
 congr 1
 rw [hl]
 obtain ⟨n, hn⟩ : ∃ n, Lib.nDigits C = n := ⟨_, rfl⟩
 rw [hn] at hp hl ⊢
 by_cases h1 : 0 < e ∨ e + n - 1 < -6
 ·rw [if_pos h1, if_pos h1]
  congr 1
  ·by_cases hC : C < 10
   ·have := Lib.nDigits_small hC
    rw [if_pos hC, if_neg (by omega), List.take_of_length_le (by omega)]
   ·have := Lib.nDigits_big hC
    have := Lib.nDigits_pos (C / 10)
    rw [if_neg hC, if_pos (by omega), padD_dec C n hn]
    obtain ⟨k, rfl⟩ : ∃ k, n = k + 1 := ⟨n - 1, by omega⟩
    simp [padD]
  ·unfold decExpT
   by_cases h2 : 0 ≤ e + n - 1
   ·rw [if_pos h2, if_pos (by show 0 < e + n - 1; omega)]
   ·rw [if_neg h2, if_neg (by show ¬ 0 < e + n - 1; omega), if_pos (by show e + n - 1 < 0; omega)]
 ·rw [if_neg h1, if_neg h1]
  by_cases h2 : e = 0
  ·rw [if_pos h2, if_pos h2]
   simp [decExpT]
  ·rw [if_neg h2, if_neg h2]
   obtain ⟨m, hm⟩ : ∃ m, e.natAbs = m := ⟨_, rfl⟩
   rw [hm]
   simp only [decExpT, Int.lt_irrefl, if_false, List.append_nil]
   by_cases h3 : n ≤ m
   ·have hz : C / 10 ^ m = 0 := Nat.div_eq_of_lt (by have := Lib.lt_pow_nDigits C; rw [hn] at this; exact Nat.lt_of_lt_of_le this (Nat.pow_le_pow_right (by omega) h3))
    have h4 : List.replicate (m + 1 - n) 48 ++ Lib.decDigits C = 48 :: padD C m := by
     rw [show m = (m - n) + n from by omega, padD_more C n (m - n) hn, show m - n + n + 1 - n = (m - n) + 1 from by omega, List.replicate_succ]
     rfl
    rw [h4, show max n (m + 1) - m = 1 from by omega, hz, Lib.decDigits_one (by omega)]
    rfl
   ·have hq : Lib.nDigits (C / 10 ^ m) = n - m := by
     have h5 : 10 ^ (n - 1) ≤ C := by
      rcases pow_le_of_nd C (n - 1) (by omega) with h | h
      ·subst h; rw [Lib.nDigits_small (by omega)] at hn; subst hn; omega
      ·exact h
     rw [show n - m = (n - m - 1) + 1 from by omega]
     refine Lib.nDigits_unique _ _ ?_ ?_
     ·rw [Nat.le_div_iff_mul_le (Nat.pow_pos (by omega)), ← Nat.pow_add, show n - m - 1 + m = n - 1 from by omega]
      exact h5
     ·rw [Nat.div_lt_iff_lt_mul (Nat.pow_pos (by omega)), ← Nat.pow_add, show n - m - 1 + 1 + m = n from by omega]
      have := Lib.lt_pow_nDigits C; rw [hn] at this; exact this
    rw [show m + 1 - n = 0 from by omega, List.replicate_zero, List.nil_append, show max n (m + 1) - m = n - m from by omega, padD_dec C n hn, padD_dec _ _ hq, show n = (n - m) + m from by omega, padD_split C (n - m) m, show n - m + m - m = n - m from by omega, List.take_left' (padD_length _ _), List.drop_left' (padD_length _ _)]
set_option maxHeartbeats 8000000
open Go.RowKit
set_option maxRecDepth 100000
theorem conv_one (W : World) (g : Nat) (c : UInt8) (h : W.cell? ⟨g, 0, none⟩ = some (.int .u8 (c.toNat : Int))) : (convert 23 9 (.slice (some ⟨g, 0, none⟩) 1 1)).run Tryz.prog W = .ok (.string ⟨#[c]⟩) W := by
 refine Lib.run_convert_whole (P := Tryz.prog) _ 23 5 9 Tryz.underlying23 Tryz.underlying5 Tryz.underlying9 g 0 ⟨#[c]⟩ ?_ 1
 intro i hi
 have hi' : i < 1 := hi
 obtain rfl : i = 0 := by omega
 exact h
theorem dig_cat (u : Nat) (l : List UInt8) (h : Lib.decDigits (u / 10) = l) (c : UInt8) : ((⟨l.toArray⟩ : ByteArray) ++ ⟨#[c]⟩) = ⟨(l ++ [c]).toArray⟩ := by
 apply ByteArray.ext
 simp
theorem decNum_small (u : Nat) (h : u < 10) (w : World) : Calls Tryz.prog 63 #[.int .i64 (u : Int)] w fun e w' => e = .returned (.string ⟨(Lib.decDigits u).toArray⟩) ∧ Below w.heap.size w w' := by
 obtain ⟨c, hc⟩ : ∃ c, UInt8.ofNat (48 + u) = c := ⟨_, rfl⟩
 have hcz : (c.toNat : Int) = 48 + u := by rw [← hc, UInt8.toNat_ofNat']; omega
 have h1 : (48 + (u : Int)) % 256 = 48 + u := by omega
 have hconv := fun W g => conv_one W g c
 rw [hcz] at hconv
 rw [Lib.decDigits_one h, hc]
 clear hcz hc
 go_enter Tryz.func63, Tryz.ntmps63
 go_wp2_with fail
 go_ret
 exact ⟨rfl, below_allocB w _⟩
theorem decNum_big (u : Nat) (h : 10 ≤ u) (hb : u < 1000000000000000000) (d q : Nat) (hd : u % 10 = d) (hq : u / 10 = q) (c : UInt8) (hcz : (c.toNat : Int) = 48 + d) (hd10 : d < 10) (tx : ByteArray) (w : World) (ih : ∀ W : World, Calls Tryz.prog 63 #[.int .i64 (q : Int)] W fun e w' => e = .returned (.string tx) ∧ Below W.heap.size W w')
  (hlen : tx.size ≤ 100) : Calls Tryz.prog 63 #[.int .i64 (u : Int)] w fun e w' => e = .returned (.string (tx ++ ⟨#[c]⟩)) ∧ Below w.heap.size w w' := by
 have h1 : (48 + (d : Int)) % 256 = 48 + d := by omega
 have hm : (u : Int) % 10 = (d : Int) := by omega
 have hqz : (u : Int) / 10 = (q : Int) := by omega
 have hw1 : IntKind.i64.wrap (48 + (d : Int)) = 48 + d := by rw [IntKind.wrap_i64]; omega
 have hwt : (u : Int).tmod 10 = (d : Int) := (show (u : Int).tmod 10 = ((u % 10 : Nat) : Int) from rfl).trans (by omega)
 have hw3 : IntKind.u8.wrap (48 + (d : Int)) = 48 + d := by rw [IntKind.wrap_u8]; omega
 have hts : tx.size ≤ 9223372036854775806 := by omega
 have hw2 : IntKind.i64.wrap (q : Int) = q := by rw [IntKind.wrap_i64]; omega
 have hconv := fun W g => conv_one W g c
 rw [hcz] at hconv
 have HI := LH ih
 clear hcz hd hq ih
 go_enter Tryz.func63, Tryz.ntmps63
 go_wp2_with fail
 refine wp_region_any (by kernel_rfl) ?_
 try (change wpAny _ _ _ _ _ _ _ (World.drew _))
 refine wpAny_take (i := 0) (v := .int .i64 (u : Int)) rfl (by kernel_rfl) (by kernel_rfl) (by kernel_rfl) (fun _ _ _ h => h) (Or.inl ⟨by rfl, fun w => ?_⟩) ?_
 ·go_simp
 refine wpAny_take (i := 1) (v := .int .i64 (q : Int)) rfl (by kernel_rfl) (by kernel_rfl) (by kernel_rfl) (fun _ _ _ h => h) (Or.inl ⟨by rfl, fun w => ?_⟩) ?_
 ·go_simp
 refine wpAny_take (i := 3) (v := .int .i64 (u : Int)) rfl (by kernel_rfl) (by kernel_rfl) (by kernel_rfl) (fun _ _ _ h => h) (Or.inl ⟨by rfl, fun w => ?_⟩) ?_
 ·go_simp
 refine wpAny_take (i := 4) (v := .int .i64 (d : Int)) rfl (by kernel_rfl) (by kernel_rfl) (by kernel_rfl) (fun _ _ _ h => h) (Or.inl ⟨by rfl, fun w => ?_⟩) ?_
 ·go_simp
 refine wpAny_take (i := 5) (v := .int .i64 (48 + d : Int)) rfl (by kernel_rfl) (by kernel_rfl) (by kernel_rfl) (fun _ _ _ h => h) (Or.inl ⟨by rfl, fun w => ?_⟩) ?_
 ·go_simp
 refine wpAny_take (i := 6) (v := .int .u8 (48 + d : Int)) rfl (by kernel_rfl) (by kernel_rfl) (by kernel_rfl) (fun _ _ _ h => h) (Or.inl ⟨by rfl, fun w => ?_⟩) ?_
 ·go_simp
 refine wpAny_ready (rs := [2, 7]) (by kernel_rfl) (by simp) ?_
 refine AllReady.cons rfl (fun K hK => ?_) ?_
 ·skip
  go_wp2_with (go_at_call 63; refine (HI.out _).mono ?_; rintro e w1 ⟨rfl, hb1⟩; refine Hid.out ?_)
  refine LH ?_
  refine hK _ _ ?_
  clear hK K
  refine wpAny_ready (rs := [7]) (by kernel_rfl) (by simp) ?_
  refine AllReady.cons rfl (fun K hK => ?_) AllReady.nil
  go_simp
  refine hK _ _ ?_
  clear hK K
  refine wpAny_ready (rs := [8]) (by kernel_rfl) (by simp) ?_
  refine AllReady.cons rfl (fun K hK => ?_) AllReady.nil
  have c1 : (w1.alloc (.cells #[.int .u8 (48 + d : Int)] 5)).cell? ⟨w1.heap.size, 0, none⟩ = some (.int .u8 (48 + d : Int)) := by rw [blk_cell (heap_alloc_new w1 _)]; rfl
  have e1 := hconv _ _ c1
  go_simp
  refine hK _ _ ?_
  clear hK K
  refine wpAny_take (i := 9) (v := .string (tx ++ ⟨#[c]⟩)) rfl (by kernel_rfl) (by kernel_rfl) (by kernel_rfl) (fun _ _ _ h => h) (Or.inl ⟨by rfl, fun w => ?_⟩) ?_
  ·go_simp
  refine wpAny_take (i := 10) (v := .string (tx ++ ⟨#[c]⟩)) rfl (by kernel_rfl) (by kernel_rfl) (by kernel_rfl) (fun _ _ _ h => h) (Or.inl ⟨by rfl, fun w => ?_⟩) ?_
  ·go_simp
  refine wpAny_done (by kernel_rfl) ?_ _
  go_wp2_with fail
  go_ret
  exact ⟨rfl, (((below_dr w 1).trans hb1).trans ((below_allocB w1 _).mono hb1.size))⟩
 ·refine AllReady.cons rfl (fun K hK => ?_) AllReady.nil
  go_simp
  refine hK _ _ ?_
  clear hK K
  refine wpAny_ready (rs := [2, 8]) (by kernel_rfl) (by simp) ?_
  refine AllReady.cons rfl (fun K hK => ?_) ?_
  ·skip
   go_wp2_with (go_at_call 63; refine (HI.out _).mono ?_; rintro e w1 ⟨rfl, hb1⟩; refine Hid.out ?_)
   refine LH ?_
   refine hK _ _ ?_
   clear hK K
   refine wpAny_ready (rs := [8]) (by kernel_rfl) (by simp) ?_
   refine AllReady.cons rfl (fun K hK => ?_) AllReady.nil
   have hlt : w.heap.size < (World.drew w |>.alloc (.cells #[.int .u8 (48 + d : Int)] 5)).heap.size := by simp
   have c1 : w1.cell? ⟨w.heap.size, 0, none⟩ = some (.int .u8 (48 + d : Int)) := by rw [hb1.cell (p := ⟨w.heap.size, 0, none⟩) hlt]; exact (blk_cell (heap_alloc_new (World.drew w) _) 0).trans rfl
   have e1 := hconv _ _ c1
   go_simp
   refine hK _ _ ?_
   clear hK K
   refine wpAny_take (i := 9) (v := .string (tx ++ ⟨#[c]⟩)) rfl (by kernel_rfl) (by kernel_rfl) (by kernel_rfl) (fun _ _ _ h => h) (Or.inl ⟨by rfl, fun w => ?_⟩) ?_
   ·go_simp
   refine wpAny_take (i := 10) (v := .string (tx ++ ⟨#[c]⟩)) rfl (by kernel_rfl) (by kernel_rfl) (by kernel_rfl) (fun _ _ _ h => h) (Or.inl ⟨by rfl, fun w => ?_⟩) ?_
   ·go_simp
   refine wpAny_done (by kernel_rfl) ?_ _
   go_wp2_with fail
   go_ret
   exact ⟨rfl, ((below_dr w 1).trans (below_allocB (World.drew w) _)).trans (hb1.mono (by simp))⟩
  ·refine AllReady.cons rfl (fun K hK => ?_) AllReady.nil
   have c1 : (World.drew w |>.alloc (.cells #[.int .u8 (48 + d : Int)] 5)).cell? ⟨w.heap.size, 0, none⟩ = some (.int .u8 (48 + d : Int)) := (blk_cell (heap_alloc_new (World.drew w) _) 0).trans rfl
   have e1 := hconv _ _ c1
   go_simp
   refine hK _ _ ?_
   clear hK K
   refine wpAny_ready (rs := [2]) (by kernel_rfl) (by simp) ?_
   refine AllReady.cons rfl (fun K hK => ?_) AllReady.nil
   go_wp2_with (go_at_call 63; refine (HI.out _).mono ?_; rintro e w1 ⟨rfl, hb1⟩; refine Hid.out ?_)
   refine LH ?_
   refine hK _ _ ?_
   clear hK K
   refine wpAny_take (i := 9) (v := .string (tx ++ ⟨#[c]⟩)) rfl (by kernel_rfl) (by kernel_rfl) (by kernel_rfl) (fun _ _ _ h => h) (Or.inl ⟨by rfl, fun w => ?_⟩) ?_
   ·go_simp
   refine wpAny_take (i := 10) (v := .string (tx ++ ⟨#[c]⟩)) rfl (by kernel_rfl) (by kernel_rfl) (by kernel_rfl) (fun _ _ _ h => h) (Or.inl ⟨by rfl, fun w => ?_⟩) ?_
   ·go_simp
   refine wpAny_done (by kernel_rfl) ?_ _
   go_wp2_with fail
   go_ret
   exact ⟨rfl, ((below_dr w 1).trans (below_allocB (World.drew w) _)).trans (hb1.mono (by simp))⟩
theorem decNum_nat (u : Nat) (hb : u < 1000000000000000000) (w : World) : Calls Tryz.prog 63 #[.int .i64 (u : Int)] w fun e w' => e = .returned (.string ⟨(Lib.decDigits u).toArray⟩) ∧ Below w.heap.size w w' := by
  induction u using Nat.strongRecOn generalizing w with
  | _ u ih =>
    by_cases h : u < 10
    · exact decNum_small u h w
    · have hc : ((UInt8.ofNat (48 + u % 10)).toNat : Int) = 48 + (u % 10 : Nat) := by rw [UInt8.toNat_ofNat']; omega
      have hl : (⟨(Lib.decDigits (u / 10)).toArray⟩ : ByteArray).size ≤ 100 := by
        have h1 := Lib.decDigits_length (u / 10)
        have h2 := nd_le (u / 10) 20 (by decide) (by have : (10 : Nat) ^ 20 = 100000000000000000000 := by decide
                                                     omega)
        show (Lib.decDigits (u / 10)).toArray.size ≤ 100
        rw [List.size_toArray]
        omega
      have := decNum_big u (by omega) hb (u % 10) (u / 10) rfl rfl _ hc (by omega) _ w (fun W => ih (u / 10) (by omega) (by omega) W) hl
      rw [dig_cat u _ rfl, ← decDigits_big h] at this
      exact this
theorem docDig_small (u : Nat) (h : u < 10) (w : World) : Calls Tryz.prog 87 #[.int .i64 (u : Int)] w fun e w' => e = .returned (.string ⟨(Lib.decDigits u).toArray⟩) ∧ Below w.heap.size w w' := by
 obtain ⟨c, hc⟩ : ∃ c, UInt8.ofNat (48 + u) = c := ⟨_, rfl⟩
 have hcz : (c.toNat : Int) = 48 + u := by rw [← hc, UInt8.toNat_ofNat']; omega
 have h1 : (48 + (u : Int)) % 256 = 48 + u := by omega
 have hconv := fun W g => conv_one W g c
 rw [hcz] at hconv
 rw [Lib.decDigits_one h, hc]
 clear hcz hc
 go_enter Tryz.func87, Tryz.ntmps87
 go_wp2_with fail
 go_ret
 exact ⟨rfl, below_allocB w _⟩
theorem docDig_big (u : Nat) (h : 10 ≤ u) (hb : u < 1000000000000000000) (d q : Nat) (hd : u % 10 = d) (hq : u / 10 = q) (c : UInt8) (hcz : (c.toNat : Int) = 48 + d) (hd10 : d < 10) (tx : ByteArray) (w : World) (ih : ∀ W : World, Calls Tryz.prog 87 #[.int .i64 (q : Int)] W fun e w' => e = .returned (.string tx) ∧ Below W.heap.size W w')
  (hlen : tx.size ≤ 100) : Calls Tryz.prog 87 #[.int .i64 (u : Int)] w fun e w' => e = .returned (.string (tx ++ ⟨#[c]⟩)) ∧ Below w.heap.size w w' := by
 have h1 : (48 + (d : Int)) % 256 = 48 + d := by omega
 have hm : (u : Int) % 10 = (d : Int) := by omega
 have hqz : (u : Int) / 10 = (q : Int) := by omega
 have hw1 : IntKind.i64.wrap (48 + (d : Int)) = 48 + d := by rw [IntKind.wrap_i64]; omega
 have hwt : (u : Int).tmod 10 = (d : Int) := (show (u : Int).tmod 10 = ((u % 10 : Nat) : Int) from rfl).trans (by omega)
 have hw3 : IntKind.u8.wrap (48 + (d : Int)) = 48 + d := by rw [IntKind.wrap_u8]; omega
 have hts : tx.size ≤ 9223372036854775806 := by omega
 have hw2 : IntKind.i64.wrap (q : Int) = q := by rw [IntKind.wrap_i64]; omega
 have hconv := fun W g => conv_one W g c
 rw [hcz] at hconv
 have HI := LH ih
 clear hcz hd hq ih
 go_enter Tryz.func87, Tryz.ntmps87
 go_wp2_with fail
 refine wp_region_any (by kernel_rfl) ?_
 try (change wpAny _ _ _ _ _ _ _ (World.drew _))
 refine wpAny_take (i := 0) (v := .int .i64 (u : Int)) rfl (by kernel_rfl) (by kernel_rfl) (by kernel_rfl) (fun _ _ _ h => h) (Or.inl ⟨by rfl, fun w => ?_⟩) ?_
 ·go_simp
 refine wpAny_take (i := 1) (v := .int .i64 (q : Int)) rfl (by kernel_rfl) (by kernel_rfl) (by kernel_rfl) (fun _ _ _ h => h) (Or.inl ⟨by rfl, fun w => ?_⟩) ?_
 ·go_simp
 refine wpAny_take (i := 3) (v := .int .i64 (u : Int)) rfl (by kernel_rfl) (by kernel_rfl) (by kernel_rfl) (fun _ _ _ h => h) (Or.inl ⟨by rfl, fun w => ?_⟩) ?_
 ·go_simp
 refine wpAny_take (i := 4) (v := .int .i64 (d : Int)) rfl (by kernel_rfl) (by kernel_rfl) (by kernel_rfl) (fun _ _ _ h => h) (Or.inl ⟨by rfl, fun w => ?_⟩) ?_
 ·go_simp
 refine wpAny_take (i := 5) (v := .int .i64 (48 + d : Int)) rfl (by kernel_rfl) (by kernel_rfl) (by kernel_rfl) (fun _ _ _ h => h) (Or.inl ⟨by rfl, fun w => ?_⟩) ?_
 ·go_simp
 refine wpAny_take (i := 6) (v := .int .u8 (48 + d : Int)) rfl (by kernel_rfl) (by kernel_rfl) (by kernel_rfl) (fun _ _ _ h => h) (Or.inl ⟨by rfl, fun w => ?_⟩) ?_
 ·go_simp
 refine wpAny_ready (rs := [2, 7]) (by kernel_rfl) (by simp) ?_
 refine AllReady.cons rfl (fun K hK => ?_) ?_
 ·skip
  go_wp2_with (go_at_call 87; refine (HI.out _).mono ?_; rintro e w1 ⟨rfl, hb1⟩; refine Hid.out ?_)
  refine LH ?_
  refine hK _ _ ?_
  clear hK K
  refine wpAny_ready (rs := [7]) (by kernel_rfl) (by simp) ?_
  refine AllReady.cons rfl (fun K hK => ?_) AllReady.nil
  go_simp
  refine hK _ _ ?_
  clear hK K
  refine wpAny_ready (rs := [8]) (by kernel_rfl) (by simp) ?_
  refine AllReady.cons rfl (fun K hK => ?_) AllReady.nil
  have c1 : (w1.alloc (.cells #[.int .u8 (48 + d : Int)] 5)).cell? ⟨w1.heap.size, 0, none⟩ = some (.int .u8 (48 + d : Int)) := by rw [blk_cell (heap_alloc_new w1 _)]; rfl
  have e1 := hconv _ _ c1
  go_simp
  refine hK _ _ ?_
  clear hK K
  refine wpAny_take (i := 9) (v := .string (tx ++ ⟨#[c]⟩)) rfl (by kernel_rfl) (by kernel_rfl) (by kernel_rfl) (fun _ _ _ h => h) (Or.inl ⟨by rfl, fun w => ?_⟩) ?_
  ·go_simp
  refine wpAny_take (i := 10) (v := .string (tx ++ ⟨#[c]⟩)) rfl (by kernel_rfl) (by kernel_rfl) (by kernel_rfl) (fun _ _ _ h => h) (Or.inl ⟨by rfl, fun w => ?_⟩) ?_
  ·go_simp
  refine wpAny_done (by kernel_rfl) ?_ _
  go_wp2_with fail
  go_ret
  exact ⟨rfl, (((below_dr w 1).trans hb1).trans ((below_allocB w1 _).mono hb1.size))⟩
 ·refine AllReady.cons rfl (fun K hK => ?_) AllReady.nil
  go_simp
  refine hK _ _ ?_
  clear hK K
  refine wpAny_ready (rs := [2, 8]) (by kernel_rfl) (by simp) ?_
  refine AllReady.cons rfl (fun K hK => ?_) ?_
  ·skip
   go_wp2_with (go_at_call 87; refine (HI.out _).mono ?_; rintro e w1 ⟨rfl, hb1⟩; refine Hid.out ?_)
   refine LH ?_
   refine hK _ _ ?_
   clear hK K
   refine wpAny_ready (rs := [8]) (by kernel_rfl) (by simp) ?_
   refine AllReady.cons rfl (fun K hK => ?_) AllReady.nil
   have hlt : w.heap.size < (World.drew w |>.alloc (.cells #[.int .u8 (48 + d : Int)] 5)).heap.size := by simp
   have c1 : w1.cell? ⟨w.heap.size, 0, none⟩ = some (.int .u8 (48 + d : Int)) := by rw [hb1.cell (p := ⟨w.heap.size, 0, none⟩) hlt]; exact (blk_cell (heap_alloc_new (World.drew w) _) 0).trans rfl
   have e1 := hconv _ _ c1
   go_simp
   refine hK _ _ ?_
   clear hK K
   refine wpAny_take (i := 9) (v := .string (tx ++ ⟨#[c]⟩)) rfl (by kernel_rfl) (by kernel_rfl) (by kernel_rfl) (fun _ _ _ h => h) (Or.inl ⟨by rfl, fun w => ?_⟩) ?_
   ·go_simp
   refine wpAny_take (i := 10) (v := .string (tx ++ ⟨#[c]⟩)) rfl (by kernel_rfl) (by kernel_rfl) (by kernel_rfl) (fun _ _ _ h => h) (Or.inl ⟨by rfl, fun w => ?_⟩) ?_
   ·go_simp
   refine wpAny_done (by kernel_rfl) ?_ _
   go_wp2_with fail
   go_ret
   exact ⟨rfl, ((below_dr w 1).trans (below_allocB (World.drew w) _)).trans (hb1.mono (by simp))⟩
  ·refine AllReady.cons rfl (fun K hK => ?_) AllReady.nil
   have c1 : (World.drew w |>.alloc (.cells #[.int .u8 (48 + d : Int)] 5)).cell? ⟨w.heap.size, 0, none⟩ = some (.int .u8 (48 + d : Int)) := (blk_cell (heap_alloc_new (World.drew w) _) 0).trans rfl
   have e1 := hconv _ _ c1
   go_simp
   refine hK _ _ ?_
   clear hK K
   refine wpAny_ready (rs := [2]) (by kernel_rfl) (by simp) ?_
   refine AllReady.cons rfl (fun K hK => ?_) AllReady.nil
   go_wp2_with (go_at_call 87; refine (HI.out _).mono ?_; rintro e w1 ⟨rfl, hb1⟩; refine Hid.out ?_)
   refine LH ?_
   refine hK _ _ ?_
   clear hK K
   refine wpAny_take (i := 9) (v := .string (tx ++ ⟨#[c]⟩)) rfl (by kernel_rfl) (by kernel_rfl) (by kernel_rfl) (fun _ _ _ h => h) (Or.inl ⟨by rfl, fun w => ?_⟩) ?_
   ·go_simp
   refine wpAny_take (i := 10) (v := .string (tx ++ ⟨#[c]⟩)) rfl (by kernel_rfl) (by kernel_rfl) (by kernel_rfl) (fun _ _ _ h => h) (Or.inl ⟨by rfl, fun w => ?_⟩) ?_
   ·go_simp
   refine wpAny_done (by kernel_rfl) ?_ _
   go_wp2_with fail
   go_ret
   exact ⟨rfl, ((below_dr w 1).trans (below_allocB (World.drew w) _)).trans (hb1.mono (by simp))⟩
theorem docDig_nat (u : Nat) (hb : u < 1000000000000000000) (w : World) : Calls Tryz.prog 87 #[.int .i64 (u : Int)] w fun e w' => e = .returned (.string ⟨(Lib.decDigits u).toArray⟩) ∧ Below w.heap.size w w' := by
  induction u using Nat.strongRecOn generalizing w with
  | _ u ih =>
    by_cases h : u < 10
    · exact docDig_small u h w
    · have hc : ((UInt8.ofNat (48 + u % 10)).toNat : Int) = 48 + (u % 10 : Nat) := by rw [UInt8.toNat_ofNat']; omega
      have hl : (⟨(Lib.decDigits (u / 10)).toArray⟩ : ByteArray).size ≤ 100 := by
        have h1 := Lib.decDigits_length (u / 10)
        have h2 := nd_le (u / 10) 20 (by decide) (by have : (10 : Nat) ^ 20 = 100000000000000000000 := by decide
                                                     omega)
        show (Lib.decDigits (u / 10)).toArray.size ≤ 100
        rw [List.size_toArray]
        omega
      have := docDig_big u (by omega) hb (u % 10) (u / 10) rfl rfl _ hc (by omega) _ w (fun W => ih (u / 10) (by omega) (by omega) W) hl
      rw [dig_cat u _ rfl, ← decDigits_big h] at this
      exact this
theorem decNum_any (n : Int) (h0 : -1000000 ≤ n) (h1 : n ≤ 1000000) (w : World) : Calls Tryz.prog 63 #[.int .i64 n] w fun e w' => e = .returned (.string ⟨(Lib.itoa n).toArray⟩) ∧ Below w.heap.size w w' := by
  by_cases hn : n < 0
  · obtain ⟨u, rfl, hu⟩ : ∃ u : Nat, n = -(u : Int) ∧ 1 ≤ u := ⟨n.natAbs, by omega, by omega⟩
    have hc := fun W => decNum_nat u (by omega) W
    have HC := LH hc
    have hl : (⟨(Lib.decDigits u).toArray⟩ : ByteArray).size ≤ 100 := by
      have h1 := Lib.decDigits_length u
      have h2 := nd_le u 20 (by decide) (by have : (10 : Nat) ^ 20 = 100000000000000000000 := by decide
                                            omega)
      show (Lib.decDigits u).toArray.size ≤ 100
      rw [List.size_toArray]
      omega
    have HE := LH (show ((⟨#[45]⟩ : ByteArray) ++ ⟨(Lib.decDigits u).toArray⟩) = ⟨(Lib.itoa (-(u : Int))).toArray⟩ by rw [Lib.itoa_neg u hu]; apply ByteArray.ext; simp)
    generalize (⟨(Lib.decDigits u).toArray⟩ : ByteArray) = tx at HC hl HE
    clear hc
    go_enter Tryz.func63, Tryz.ntmps63
    go_wp2_with (go_at_call 63; refine (HC.out _).mono ?_; rintro e w1 ⟨rfl, hb1⟩)
    go_ret
    exact ⟨congrArg (fun x => Ending.returned (.string x)) HE.out, hb1⟩
  · obtain ⟨u, rfl⟩ : ∃ u : Nat, n = (u : Int) := ⟨n.toNat, by omega⟩
    rw [Lib.itoa_nonneg]
    exact decNum_nat u (by omega) w
end Go.Proofs.YtpfkgpcnhdkkbaaGreatDoor
