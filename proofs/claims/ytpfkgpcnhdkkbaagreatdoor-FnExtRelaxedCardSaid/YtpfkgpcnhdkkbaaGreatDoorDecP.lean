/- Plain laws of decimal numbers: what the loop of decimal128.String lays is the text that the reference tells. -/
import Derived.Lib.ItoaNum
namespace Go.Proofs.YtpfkgpcnhdkkbaaGreatDoor
set_option linter.unusedVariables false
set_option linter.unusedSimpArgs false
/-- A digit laid: whether a point is laid ahead of it is decided already. -/
def dStep (k : Nat → Nat → Int → Int → Nat → List UInt8 → Int × List UInt8) (R i : Nat) (dot e : Int) (last : Nat) (t : List UInt8) : Int × List UInt8 :=
  if R / 10 = 0 ∧ i = 48 ∧ (dot < 42 ∨ 0 < e) then (e, UInt8.ofNat (48 + R % 10) :: t)
  else if (i : Int) - 1 < dot ∧ R / 10 = 0 then (e, (UInt8.ofNat (48 + R % 10) :: t).drop ((if R % 10 = 0 then last else i - 1) - (i - 1)))
  else k (R / 10) (i - 1) dot e (if R % 10 = 0 then last else i - 1) (UInt8.ofNat (48 + R % 10) :: t)
def dPoint (R i : Nat) (dot e : Int) : Prop := i < 48 ∧ (dot = i ∨ (1 ≤ R ∧ R < 10 ∧ (dot < (i : Int) - 6 ∨ 0 < e)))
instance (R i : Nat) (dot e : Int) : Decidable (dPoint R i dot e) := by unfold dPoint; infer_instance
/-- The digits from the last on. -/
def dRun : Nat → Nat → Nat → Int → Int → Nat → List UInt8 → Int × List UInt8
  | 0, _, i, _, e, last, t => (e, t.drop (last - i))
  | f + 1, R, i, dot, e, last, t =>
    if dPoint R i dot e then dStep (dRun f) R (i - 1) 48 (e + (48 - i)) (i - 2) (46 :: t) else dStep (dRun f) R i dot e last t
/-- The last k digits of C. -/
def padD (C : Nat) : Nat → List UInt8
  | 0 => []
  | k + 1 => UInt8.ofNat (48 + C / 10 ^ k % 10) :: padD C k
theorem padD_length (C : Nat) : ∀ k, (padD C k).length = k
  | 0 => rfl
  | k + 1 => by simp [padD, padD_length C k]
theorem decDigits_big {u : Nat} (h : ¬ u < 10) : Lib.decDigits u = Lib.decDigits (u / 10) ++ [UInt8.ofNat (48 + u % 10)] := by rw [Lib.decDigits, dif_neg h]
theorem nd_le (u : Nat) : ∀ j, 1 ≤ j → u < 10 ^ j → Lib.nDigits u ≤ j := by
  induction u using Nat.strongRecOn with
  | _ u ih =>
    intro j h1 hj
    by_cases hu : u < 10
    · rw [Lib.nDigits_small hu]; exact h1
    · rw [Lib.nDigits_big hu]
      obtain ⟨j, rfl⟩ : ∃ g, j = g + 1 := ⟨j - 1, by omega⟩
      rw [Nat.pow_succ] at hj
      have hj1 : 1 ≤ j := by
        rcases j with _ | j
        · simp at hj; omega
        · omega
      have := ih (u / 10) (by omega) j hj1 (by omega)
      omega
theorem pow_le_of_nd (u : Nat) : ∀ j, j + 1 ≤ Lib.nDigits u → u = 0 ∨ 10 ^ j ≤ u := by
  intro j hj
  rcases Nat.lt_or_ge u (10 ^ j) with h | h
  · rcases j with _ | j
    · left; simp at h; exact h
    · have := nd_le u (j + 1) (by omega) h
      omega
  · exact .inr h
theorem nd_div (C k : Nat) : Lib.nDigits (C / 10 ^ k) ≤ Lib.nDigits C - k ∨ C / 10 ^ k = 0 := by
  have h1 := Lib.lt_pow_nDigits C
  by_cases hkn : k + 1 ≤ Lib.nDigits C
  · left
    refine nd_le _ _ (by omega) ?_
    rw [Nat.div_lt_iff_lt_mul (Nat.pow_pos (by omega)), ← Nat.pow_add, show Lib.nDigits C - k + k = Lib.nDigits C from by omega]
    exact h1
  · right
    exact Nat.div_eq_of_lt (Nat.lt_of_lt_of_le h1 (Nat.pow_le_pow_right (by omega) (by omega)))
theorem div_step (C k : Nat) : C / 10 ^ k / 10 = C / 10 ^ (k + 1) := by rw [Nat.div_div_eq_div_mul, ← Nat.pow_succ]
theorem small_nd {C k : Nat} (h : C / 10 ^ k < 10) : Lib.nDigits C ≤ k + 1 := by
  refine nd_le C (k + 1) (by omega) ?_
  have := (Nat.div_lt_iff_lt_mul (Nat.pow_pos (by omega : 0 < 10) (n := k))).1 h
  rw [Nat.pow_succ]; omega
theorem runB : ∀ (f R i last : Nat) (t : List UInt8), 0 < R → Lib.nDigits R ≤ f → Lib.nDigits R ≤ i → i ≤ 48 → dRun f R i 48 0 last t = (0, Lib.decDigits R ++ t)
  | 0, R, i, last, t, hR, hf, _, _ => by have := Lib.nDigits_pos R; omega
  | f + 1, R, i, last, t, hR, hf, hi, h48 => by
    have hp := Lib.nDigits_pos R
    have hnp : ¬ dPoint R i 48 0 := by unfold dPoint; omega
    rw [dRun, if_neg hnp]
    unfold dStep
    rw [if_neg (by omega)]
    by_cases h : R < 10
    · rw [if_pos ⟨by omega, by omega⟩, if_neg (by omega), Nat.sub_self, Lib.decDigits_one h, Nat.mod_eq_of_lt h]
      rfl
    · have hn := Lib.nDigits_big h
      have hp2 := Lib.nDigits_pos (R / 10)
      rw [if_neg (by omega), runB f (R / 10) (i - 1) _ _ (by omega) (by omega) (by omega) (by omega), decDigits_big h]
      simp
/-- With a point: from the k-th digit on. -/
theorem runP (C m : Nat) (hm : 1 ≤ m) (hm6 : m ≤ Lib.nDigits C + 5) : ∀ (d f k last : Nat), k + d = m → 45 ≤ f + k → Lib.nDigits C ≤ 40 → m ≤ 40 →
    dRun f (C / 10 ^ k) (48 - k) (48 - m) (-m) last (padD C k) = (0, Lib.decDigits (C / 10 ^ m) ++ 46 :: padD C m)
  | 0, f, k, last, hk, hf, hn, hmm => by
    obtain rfl : k = m := by omega
    obtain ⟨f, rfl⟩ : ∃ g, f = g + 1 := ⟨f - 1, by omega⟩
    have hp : dPoint (C / 10 ^ k) (48 - k) (48 - k) (-k) := by unfold dPoint; exact ⟨by omega, .inl (by omega)⟩
    have hnd := nd_div C (k + 1)
    rw [← div_step] at hnd
    generalize C / 10 ^ k = R at hp hnd ⊢
    rw [dRun, if_pos hp]
    unfold dStep
    rw [if_neg (by omega), show (-(k : Int)) + (48 - ((48 - k : Nat) : Int)) = 0 from by omega, show 48 - k - 1 - 1 = 48 - k - 2 from by omega, ite_self]
    by_cases h0 : R < 10
    · rw [if_pos ⟨by omega, by omega⟩, Nat.sub_self, List.drop_zero, Lib.decDigits_one h0, Nat.mod_eq_of_lt h0]
      rfl
    · rw [if_neg (by omega), runB f _ _ _ _ (by omega) (by omega) (by omega) (by omega), decDigits_big h0]
      simp
  | d + 1, f, k, last, hk, hf, hn, hmm => by
    obtain ⟨f, rfl⟩ : ∃ g, f = g + 1 := ⟨f - 1, by omega⟩
    have hsmall : C / 10 ^ k < 10 → m ≤ k + 6 := by
      intro h
      have := small_nd h
      omega
    have ih := runP C m hm hm6 d f (k + 1) 
    have hpd : UInt8.ofNat (48 + C / 10 ^ k % 10) :: padD C k = padD C (k + 1) := rfl
    rw [← div_step] at ih
    rw [← hpd] at ih
    generalize C / 10 ^ k = R at hsmall ih ⊢
    have hnp : ¬ dPoint R (48 - k) (48 - m) (-m) := by
      unfold dPoint
      rintro ⟨h1, h2 | ⟨h3, h4, h5⟩⟩
      · omega
      · have := hsmall h4
        omega
    rw [dRun, if_neg hnp]
    unfold dStep
    rw [if_neg (by
      rintro ⟨h1, h2, h3⟩
      have := hsmall (by omega)
      omega), if_neg (by omega), show 48 - k - 1 = 48 - (k + 1) from by omega]
    exact ih _ (by omega) (by omega) hn hmm
/-- With an exponent, two digits or more. -/
theorem runS (C : Nat) (e : Int) (hC : 10 ≤ C) (he : 0 < e ∨ e + Lib.nDigits C - 1 < -6) (hn : Lib.nDigits C ≤ 40) : ∀ (d f k last : Nat), k + d + 1 = Lib.nDigits C → 45 ≤ f + k →
    dRun f (C / 10 ^ k) (48 - k) (48 + e) e last (padD C k) = (e + Lib.nDigits C - 1, UInt8.ofNat (48 + C / 10 ^ (Lib.nDigits C - 1) % 10) :: 46 :: padD C (Lib.nDigits C - 1))
  | 0, f, k, last, hk, hf => by
    obtain ⟨f, rfl⟩ : ∃ g, f = g + 1 := ⟨f - 1, by omega⟩
    have h2 : 2 ≤ Lib.nDigits C := by rw [Lib.nDigits_big (by omega)]; have := Lib.nDigits_pos (C / 10); omega
    have hlt := Lib.lt_pow_nDigits C
    have hge : 10 ^ k ≤ C := (pow_le_of_nd C k (by omega)).resolve_left (by omega)
    have hR1 : 1 ≤ C / 10 ^ k := (Nat.le_div_iff_mul_le (Nat.pow_pos (by omega))).2 (by omega)
    have hR2 : C / 10 ^ k < 10 := by rw [Nat.div_lt_iff_lt_mul (Nat.pow_pos (by omega)), Nat.mul_comm, ← Nat.pow_succ, show k.succ = Lib.nDigits C from by omega]; exact hlt
    rw [show Lib.nDigits C - 1 = k from by omega]
    generalize C / 10 ^ k = R at hR1 hR2 ⊢
    have hp : dPoint R (48 - k) (48 + e) e := by unfold dPoint; exact ⟨by omega, .inr ⟨hR1, hR2, by omega⟩⟩
    rw [dRun, if_pos hp]
    unfold dStep
    rw [if_neg (by omega), if_pos ⟨by omega, by omega⟩, if_neg (by omega), Nat.sub_self, List.drop_zero]
    congr 1
    omega
  | d + 1, f, k, last, hk, hf => by
    obtain ⟨f, rfl⟩ : ∃ g, f = g + 1 := ⟨f - 1, by omega⟩
    have hge : 10 ^ (k + 1) ≤ C := (pow_le_of_nd C (k + 1) (by omega)).resolve_left (by omega)
    have hR1 : 10 ≤ C / 10 ^ k := (Nat.le_div_iff_mul_le (Nat.pow_pos (by omega))).2 (by rw [Nat.pow_succ] at hge; omega)
    have ih := runS C e hC he hn d f (k + 1)
    have hpd : UInt8.ofNat (48 + C / 10 ^ k % 10) :: padD C k = padD C (k + 1) := rfl
    rw [← div_step] at ih
    rw [← hpd] at ih
    generalize C / 10 ^ k = R at hR1 ih ⊢
    have hnp : ¬ dPoint R (48 - k) (48 + e) e := by unfold dPoint; omega
    rw [dRun, if_neg hnp]
    unfold dStep
    rw [if_neg (by omega), if_neg (by omega), show 48 - k - 1 = 48 - (k + 1) from by omega]
    exact ih _ (by omega) (by omega)
theorem runS1 (C : Nat) (e : Int) (hC : C < 10) (he : 0 < e ∨ e < -6) (last : Nat) : dRun 45 C 48 (48 + e) e last [] = (e, Lib.decDigits C) := by
  have hnp : ¬ dPoint C 48 (48 + e) e := by unfold dPoint; omega
  rw [show (45 : Nat) = 44 + 1 from rfl, dRun, if_neg hnp]
  unfold dStep
  rw [if_pos ⟨by omega, rfl, by omega⟩, Lib.decDigits_one hC, Nat.mod_eq_of_lt hC]

/-- The digits and the exponent of the text. -/
def decBody (C : Nat) (e : Int) : Int × List UInt8 :=
  if 0 < e ∨ e + Lib.nDigits C - 1 < -6 then (e + Lib.nDigits C - 1, if C < 10 then Lib.decDigits C else UInt8.ofNat (48 + C / 10 ^ (Lib.nDigits C - 1) % 10) :: 46 :: padD C (Lib.nDigits C - 1))
  else if e = 0 then (0, Lib.decDigits C) else (0, Lib.decDigits (C / 10 ^ e.natAbs) ++ 46 :: padD C e.natAbs)
theorem dRun_body (C : Nat) (e : Int) (hn : Lib.nDigits C ≤ 35) (h0 : ¬ (C = 0 ∧ e = 0)) : dRun 45 C 48 (48 + e) e 48 [] = decBody C e := by
  have hp := Lib.nDigits_pos C
  unfold decBody
  by_cases h1 : 0 < e ∨ e + Lib.nDigits C - 1 < -6
  · rw [if_pos h1]
    by_cases hC : C < 10
    · have := Lib.nDigits_small hC
      rw [if_pos hC, runS1 C e hC (by omega), this]
      congr 1
      omega
    · have := runS C e (by omega) h1 (by omega) (Lib.nDigits C - 1) 45 0 48 (by omega) (by omega)
      rw [if_neg hC]
      simpa [padD] using this
  · rw [if_neg h1]
    by_cases h2 : e = 0
    · subst h2
      rw [if_pos rfl]
      have hC : 0 < C := by omega
      have := runB 45 C 48 48 [] hC (by omega) (by omega) (by omega)
      simpa using this
    · rw [if_neg h2]
      have := runP C e.natAbs (by omega) (by omega) e.natAbs 45 0 48 (by omega) (by omega) (by omega) (by omega)
      rw [show (48 : Int) - (e.natAbs : Int) = 48 + e from by omega, show -(e.natAbs : Int) = e from by omega] at this
      simpa [padD] using this
/-- A decimal's text: its sign, its coefficient and its exponent. -/
def decExpT (e : Int) : List UInt8 := if 0 < e then [69, 43] ++ Lib.itoa e else if e < 0 then [69] ++ Lib.itoa e else []
def decFin (neg : Bool) (C : Nat) (e : Int) : List UInt8 := (if neg then [45] else []) ++ ((decBody C e).2 ++ decExpT (decBody C e).1)
/-- As the reference tells it. -/
def refFin (neg : Bool) (s : List UInt8) (e : Int) : List UInt8 :=
  (if neg then [45] else []) ++ (if 0 < e ∨ e + s.length - 1 < -6 then
    (if 1 < s.length then s.take 1 ++ 46 :: s.drop 1 else s.take 1) ++ (if 0 ≤ e + s.length - 1 then [69, 43] ++ Lib.itoa (e + s.length - 1) else [69] ++ Lib.itoa (e + s.length - 1))
  else if e = 0 then s
  else ((List.replicate (e.natAbs + 1 - s.length) 48 ++ s).take (max s.length (e.natAbs + 1) - e.natAbs)) ++ 46 :: ((List.replicate (e.natAbs + 1 - s.length) 48 ++ s).drop (max s.length (e.natAbs + 1) - e.natAbs)))
theorem padD_split (C : Nat) : ∀ k j, padD C (k + j) = padD (C / 10 ^ j) k ++ padD C j
  | 0, j => by simp [padD]
  | k + 1, j => by
    rw [show k + 1 + j = (k + j) + 1 from by omega, padD, padD, padD_split C k j, Nat.div_div_eq_div_mul, ← Nat.pow_add, Nat.add_comm j k]
    rfl
theorem padD_dec (C : Nat) : ∀ n, Lib.nDigits C = n → Lib.decDigits C = padD C n := by
  induction C using Nat.strongRecOn with
  | _ C ih =>
    intro n hn
    by_cases h : C < 10
    · rw [Lib.nDigits_small h] at hn
      subst hn
      simp [padD, Lib.decDigits_one h, Nat.mod_eq_of_lt h]
    · rw [Lib.nDigits_big h] at hn
      subst hn
      rw [decDigits_big h, ih (C / 10) (by omega) _ rfl, padD_split C _ 1]
      simp [padD]
theorem padD_zero : ∀ k, padD 0 k = List.replicate k 48
  | 0 => rfl
  | k + 1 => by rw [padD, padD_zero k, Nat.zero_div]; rfl
theorem padD_more (C n k : Nat) (hn : Lib.nDigits C = n) : padD C (k + n) = List.replicate k 48 ++ Lib.decDigits C := by
  rw [padD_split, padD_dec C n hn]
  have : C / 10 ^ n = 0 := Nat.div_eq_of_lt (by have := Lib.lt_pow_nDigits C; rw [hn] at this; exact this)
  rw [this, padD_zero]
theorem refFin_eq (neg : Bool) (C : Nat) (e : Int) : refFin neg (Lib.decDigits C) e = decFin neg C e := by
  have hl := Lib.decDigits_length C
  have hp := Lib.nDigits_pos C
  unfold refFin decFin decBody
  congr 1
  rw [hl]
  obtain ⟨n, hn⟩ : ∃ n, Lib.nDigits C = n := ⟨_, rfl⟩
  rw [hn] at hp hl ⊢
  by_cases h1 : 0 < e ∨ e + n - 1 < -6
  · rw [if_pos h1, if_pos h1]
    congr 1
    · by_cases hC : C < 10
      · have := Lib.nDigits_small hC
        rw [if_pos hC, if_neg (by omega), List.take_of_length_le (by omega)]
      · have := Lib.nDigits_big hC
        have := Lib.nDigits_pos (C / 10)
        rw [if_neg hC, if_pos (by omega), padD_dec C n hn]
        obtain ⟨k, rfl⟩ : ∃ k, n = k + 1 := ⟨n - 1, by omega⟩
        simp [padD]
    · unfold decExpT
      by_cases h2 : 0 ≤ e + n - 1
      · rw [if_pos h2, if_pos (by show 0 < e + n - 1; omega)]
      · rw [if_neg h2, if_neg (by show ¬ 0 < e + n - 1; omega), if_pos (by show e + n - 1 < 0; omega)]
  · rw [if_neg h1, if_neg h1]
    by_cases h2 : e = 0
    · rw [if_pos h2, if_pos h2]
      simp [decExpT]
    · rw [if_neg h2, if_neg h2]
      obtain ⟨m, hm⟩ : ∃ m, e.natAbs = m := ⟨_, rfl⟩
      rw [hm]
      simp only [decExpT, Int.lt_irrefl, if_false, List.append_nil]
      by_cases h3 : n ≤ m
      · have hz : C / 10 ^ m = 0 := Nat.div_eq_of_lt (by have := Lib.lt_pow_nDigits C; rw [hn] at this; exact Nat.lt_of_lt_of_le this (Nat.pow_le_pow_right (by omega) h3))
        have h4 : List.replicate (m + 1 - n) 48 ++ Lib.decDigits C = 48 :: padD C m := by
          rw [show m = (m - n) + n from by omega, padD_more C n (m - n) hn, show m - n + n + 1 - n = (m - n) + 1 from by omega, List.replicate_succ]
          rfl
        rw [h4, show max n (m + 1) - m = 1 from by omega, hz, Lib.decDigits_one (by omega)]
        rfl
      · have hq : Lib.nDigits (C / 10 ^ m) = n - m := by
          have h5 : 10 ^ (n - 1) ≤ C := by
            rcases pow_le_of_nd C (n - 1) (by omega) with h | h
            · subst h; rw [Lib.nDigits_small (by omega)] at hn; subst hn; omega
            · exact h
          rw [show n - m = (n - m - 1) + 1 from by omega]
          refine Lib.nDigits_unique _ _ ?_ ?_
          · rw [Nat.le_div_iff_mul_le (Nat.pow_pos (by omega)), ← Nat.pow_add, show n - m - 1 + m = n - 1 from by omega]
            exact h5
          · rw [Nat.div_lt_iff_lt_mul (Nat.pow_pos (by omega)), ← Nat.pow_add, show n - m - 1 + 1 + m = n from by omega]
            have := Lib.lt_pow_nDigits C; rw [hn] at this; exact this
        rw [show m + 1 - n = 0 from by omega, List.replicate_zero, List.nil_append, show max n (m + 1) - m = n - m from by omega, padD_dec C n hn, padD_dec _ _ hq, show n = (n - m) + m from by omega, padD_split C (n - m) m, show n - m + m - m = n - m from by omega, List.take_left' (padD_length _ _), List.drop_left' (padD_length _ _)]
end Go.Proofs.YtpfkgpcnhdkkbaaGreatDoor
