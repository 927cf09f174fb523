/- Decimals: the bits, both texts. -/
import Derived.Test.YtpfkgpcnhdkkbaaGreatDoorAMi
import Derived.Test.YtpfkgpcnhdkkbaaGreatDoorAMp
import Derived.Test.YtpfkgpcnhdkkbaaGreatDoorAD3
import Derived.Test.YtpfkgpcnhdkkbaaGreatDoorAGi
namespace Go.Proofs.YtpfkgpcnhdkkbaaGreatDoor
set_option maxHeartbeats 8000000
open Go.RowKit
set_option linter.unusedVariables false
set_option linter.unusedSimpArgs false
set_option maxRecDepth 100000
theorem and_5 (a : Nat) (ha : a < 18446744073709551616) : bits .and .u64 (a : Int) 31 = ((a % 32 : Nat) : Int) := by
 have := bits_mask .u64 64 (by decide) (fun n h₀ h₁ => by rw [IntKind.wrap_u64]; omega) 5 (by decide) (a : Int) (by omega) (by omega)
 rw [show (2 : Int) ^ 5 - 1 = 31 from rfl, show (2 : Int) ^ 5 = 32 from rfl] at this
 rw [this]; omega
theorem and_2 (a : Nat) (ha : a < 18446744073709551616) : bits .and .u64 (a : Int) 3 = ((a % 4 : Nat) : Int) := by
 have := bits_mask .u64 64 (by decide) (fun n h₀ h₁ => by rw [IntKind.wrap_u64]; omega) 2 (by decide) (a : Int) (by omega) (by omega)
 rw [show (2 : Int) ^ 2 - 1 = 3 from rfl, show (2 : Int) ^ 2 = 4 from rfl] at this
 rw [this]; omega
theorem and_1 (a : Nat) (ha : a < 18446744073709551616) : bits .and .u64 (a : Int) 1 = ((a % 2 : Nat) : Int) := by
 have := bits_mask .u64 64 (by decide) (fun n h₀ h₁ => by rw [IntKind.wrap_u64]; omega) 1 (by decide) (a : Int) (by omega) (by omega)
 rw [show (2 : Int) ^ 1 - 1 = 1 from rfl, show (2 : Int) ^ 1 = 2 from rfl] at this
 rw [this]; omega
theorem and_14 (a : Nat) (ha : a < 18446744073709551616) : bits .and .u64 (a : Int) 16383 = ((a % 16384 : Nat) : Int) := by
 have := bits_mask .u64 64 (by decide) (fun n h₀ h₁ => by rw [IntKind.wrap_u64]; omega) 14 (by decide) (a : Int) (by omega) (by omega)
 rw [show (2 : Int) ^ 14 - 1 = 16383 from rfl, show (2 : Int) ^ 14 = 16384 from rfl] at this
 rw [this]; omega
theorem and_49 (a : Nat) (ha : a < 18446744073709551616) : bits .and .u64 (a : Int) 562949953421311 = ((a % 562949953421312 : Nat) : Int) := by
 have := bits_mask .u64 64 (by decide) (fun n h₀ h₁ => by rw [IntKind.wrap_u64]; omega) 49 (by decide) (a : Int) (by omega) (by omega)
 rw [show (2 : Int) ^ 49 - 1 = 562949953421311 from rfl, show (2 : Int) ^ 49 = 562949953421312 from rfl] at this
 rw [this]; omega
theorem nd_113 (C : Nat) (h : C < 10384593717069655257060992658440192) : Lib.nDigits C ≤ 35 :=
 nd_le C 35 (by decide) (Nat.lt_of_lt_of_le h (by decide))
theorem sgB_inf (neg : Bool) : sgB neg ++ ⟨#[73, 110, 102, 105, 110, 105, 116, 121]⟩ = (⟨((if neg then ([45] : List UInt8) else []) ++ [73, 110, 102, 105, 110, 105, 116, 121]).toArray⟩ : ByteArray) := by
 cases neg <;> rfl
theorem sgB_data (neg : Bool) : (sgB neg).data.toList = if neg then [45] else [] := by cases neg <;> rfl
theorem zsB_data (ds : ByteArray) (k : Nat) : (zsB ds k).data.toList = List.replicate k 48 ++ ds.data.toList := by simp [zsB]
theorem decText_fin (neg : Bool) (C : Nat) (e : Int) (hC : Lib.nDigits C ≤ 35) (he : -7000 ≤ e ∧ e ≤ 11000) (w : World) :
  Calls Tryz.prog 37 #[decV 0 neg ⟨(Lib.decDigits C).toArray⟩ e] w fun en w' => en = .returned (.string ⟨(decFin neg C e).toArray⟩) ∧ Below w.heap.size w w' := by
 have hp := Lib.nDigits_pos C
 have hl := Lib.decDigits_length C
 obtain ⟨s, hs⟩ : ∃ s, Lib.decDigits C = s := ⟨_, rfl⟩
 have href := refFin_eq neg C e
 rw [hs] at hl href ⊢
 obtain ⟨ds, hds⟩ : ∃ ds : ByteArray, (⟨s.toArray⟩ : ByteArray) = ds := ⟨_, rfl⟩
 have hsz : ds.size = s.length := by rw [← hds]; show s.toArray.size = _; simp
 have hdl : ds.data.toList = s := by rw [← hds]
 rw [hds, ← href]
 obtain ⟨n, hn⟩ : ∃ n, s.length = n := ⟨_, rfl⟩
 rw [hn] at hsz hl
 by_cases hx : 0 < e ∨ e + (n : Int) - 1 < -6
 ·refine (decText_exp neg ds e (e + n - 1) n hsz (by omega) (by omega) he rfl hx w).mono ?_
  rintro en w' ⟨rfl, hb⟩
  refine ⟨congrArg (fun x => Ending.returned (.string x)) ?_, hb⟩
  apply ByteArray.ext
  apply Array.ext'
  unfold refFin
  rw [hn, if_pos hx]
  by_cases h1 : 1 < n
  ·by_cases h2 : 0 ≤ e + (n : Int) - 1
   ·rw [if_pos h1, if_pos h1, if_pos h2, if_pos h2]
    simp only [ByteArray.data_append, Array.toList_append, sgB_data, Lib.extract_data, hdl, hsz]
    rw [List.take_of_length_le (l := s.drop 1) (by simp; omega)]
    simp
   ·rw [if_pos h1, if_pos h1, if_neg h2, if_neg h2]
    simp only [ByteArray.data_append, Array.toList_append, sgB_data, Lib.extract_data, hdl, hsz]
    rw [List.take_of_length_le (l := s.drop 1) (by simp; omega)]
    simp
  ·by_cases h2 : 0 ≤ e + (n : Int) - 1
   ·rw [if_neg h1, if_neg h1, if_pos h2, if_pos h2]
    simp only [ByteArray.data_append, Array.toList_append, sgB_data, Lib.extract_data, hdl, hsz]
    simp
   ·rw [if_neg h1, if_neg h1, if_neg h2, if_neg h2]
    simp only [ByteArray.data_append, Array.toList_append, sgB_data, Lib.extract_data, hdl, hsz]
    simp
 ·by_cases h0 : e = 0
  ·subst h0
   refine (decText_zero neg ds (by omega) (by omega) w).mono ?_
   rintro en w' ⟨rfl, hb⟩
   refine ⟨congrArg (fun x => Ending.returned (.string x)) ?_, hb⟩
   apply ByteArray.ext
   apply Array.ext'
   unfold refFin
   rw [hn, if_neg hx, if_pos rfl]
   simp only [ByteArray.data_append, Array.toList_append, sgB_data, hdl]
  ·obtain ⟨m, rfl⟩ : ∃ m : Nat, e = -(m : Int) := ⟨e.natAbs, by omega⟩
   refine (decText_point neg ds m n hsz (by omega) (by omega) (by omega) (by omega) w).mono ?_
   rintro en w' ⟨rfl, hb⟩
   refine ⟨congrArg (fun x => Ending.returned (.string x)) ?_, hb⟩
   apply ByteArray.ext
   apply Array.ext'
   unfold refFin
   rw [hn, if_neg hx, if_neg h0]
   simp only [ByteArray.data_append, Array.toList_append, sgB_data, Lib.extract_data, zsB_data, hdl, Int.natAbs_neg, Int.natAbs_natCast]
   have hlen : (List.replicate (m + 1 - n) 48 ++ s).length = max n (m + 1) := by rw [List.length_append, List.length_replicate, hn]; omega
   generalize List.replicate (m + 1 - n) 48 ++ s = t at hlen ⊢
   generalize max n (m + 1) = q at hlen ⊢
   rw [List.take_of_length_le (i := q - (q - m)) (by rw [List.length_drop]; omega)]
   simp
theorem decOf_ex (H L : Nat) (hH : H < 18446744073709551616) (hL : L < 18446744073709551616) : ∃ (kind : Int) (neg : Bool) (ds : ByteArray) (e : Int),
  (kind = 0 ∨ kind = 1 ∨ kind = 2) ∧ ds.size ≤ 40 ∧ (-7000 ≤ e ∧ e ≤ 11000) ∧ (kind = 0 → 1 ≤ ds.size) ∧
  (∀ w, Calls Tryz.prog 38 #[.int .u64 (H : Int), .int .u64 (L : Int)] w fun en w' => en = .returned (decV kind neg ds e) ∧ Below w.heap.size w w') ∧
  (∀ w, Calls Tryz.prog 37 #[decV kind neg ds e] w fun en w' => en = .returned (.string ⟨(decT H L).toArray⟩) ∧ Below w.heap.size w w') := by
 have hn : ((H : Int) / 9223372036854775808 == 1) = decide (H / 9223372036854775808 % 2 = 1) := by
  rw [Bool.eq_iff_iff]; simp; omega
 have hk : bits .and .u64 ((H : Int) / 288230376151711744) 31 = ((H / 288230376151711744 % 32 : Nat) : Int) := and_5 (H / 288230376151711744) (by omega)
 have h3 : bits .and .u64 ((H : Int) / 2305843009213693952) 3 = ((H / 2305843009213693952 % 4 : Nat) : Int) := and_2 (H / 2305843009213693952) (by omega)
 have he1 : bits .and .u64 ((H : Int) / 140737488355328) 16383 = ((H / 140737488355328 % 16384 : Nat) : Int) := and_14 (H / 140737488355328) (by omega)
 have he2 : bits .and .u64 ((H : Int) / 562949953421312) 16383 = ((H / 562949953421312 % 16384 : Nat) : Int) := and_14 (H / 562949953421312) (by omega)
 have hHn := and_49 H hH
 by_cases k31 : H / 288230376151711744 % 32 = 31
 ·refine ⟨2, _, ⟨#[]⟩, 0, .inr (.inr rfl), by decide, by omega, by omega, fun w => decOf_nan H L _ hH hL hn (by rw [hk, k31]; rfl) w, fun w => ?_⟩
  unfold decT
  rw [if_pos k31]
  exact decText_nan _ _ _ w
 ·by_cases k30 : H / 288230376151711744 % 32 = 30
  ·refine ⟨1, _, ⟨#[]⟩, 0, .inr (.inl rfl), by decide, by omega, by omega, fun w => decOf_inf H L _ hH hL hn (by rw [hk, k30]; rfl) w, fun w => ?_⟩
   unfold decT
   rw [if_neg k31, if_pos k30]
   have := decText_inf (decide (H / 9223372036854775808 % 2 = 1)) ⟨#[]⟩ 0 w
   rw [sgB_inf] at this
   simpa using this
  ·by_cases k3 : H / 2305843009213693952 % 4 = 3
   ·refine ⟨0, _, ⟨#[48]⟩, _, .inl rfl, by decide, by omega, fun _ => by decide, fun w => decOf_big H L _ hH hL hn _ hk (by simp; omega) (by simp; omega) (by rw [h3, k3]; rfl) _ he1 (by omega) w, fun w => ?_⟩
    unfold decT
    rw [if_neg k31, if_neg k30, if_pos k3]
    have := decText_fin (decide (H / 9223372036854775808 % 2 = 1)) 0 ((H / 140737488355328 % 16384 : Nat) - 6176) (by rw [Lib.nDigits_small (by omega)]; omega) (by omega) w
    rw [Lib.decDigits_one (by omega)] at this
    exact this
   ·have hCl : H % 562949953421312 * 18446744073709551616 + L < 10384593717069655257060992658440192 := by omega
    have hnd := nd_113 _ hCl
    have hl := Lib.decDigits_length (H % 562949953421312 * 18446744073709551616 + L)
    have hp := Lib.nDigits_pos (H % 562949953421312 * 18446744073709551616 + L)
    refine ⟨0, _, ⟨(Lib.decDigits (H % 562949953421312 * 18446744073709551616 + L)).toArray⟩, _, .inl rfl, ?_, by omega, fun _ => ?_, fun w => decOf_fin H L _ _ hH hL hn _ hk (by simp; omega) (by simp; omega) _ h3 (by simp; omega) _ he2 (by omega) hHn (by omega) w, fun w => ?_⟩
    ·show (Lib.decDigits _).toArray.size ≤ 40; rw [List.size_toArray, hl]; omega
    ·show 1 ≤ (Lib.decDigits _).toArray.size; rw [List.size_toArray, hl]; omega
    ·unfold decT
     rw [if_neg k31, if_neg k30, if_neg k3]
     exact decText_fin (decide (H / 9223372036854775808 % 2 = 1)) _ _ hnd (by omega) w
theorem decStr_nan (H L : Nat) (hH : H < 18446744073709551616) (hL : L < 18446744073709551616) (b : Int) (hb : bits .and .u64 ((H : Int) / 9223372036854775808) 1 = b) (hk : bits .and .u64 ((H : Int) / 288230376151711744) 31 = 31) (w : World) :
  Calls Tryz.prog 133 #[.int .u64 (H : Int), .int .u64 (L : Int)] w fun en w' => en = .returned (.string ⟨#[78, 97, 78]⟩) ∧ Below w.heap.size w w' := by
 by_cases h0 : b = 0
 ·have h1 : (b == 0) = true := by simp [h0]
  go_enter Tryz.func133, Tryz.ntmps133
  go_wp2_with fail
  go_step3
  go_wp2_with fail
  first | go_ret | (rw [Exit.noGoto_ret]; go_ret)
  exact ⟨rfl, Below.refl _ _⟩
 ·have h1 : (b == 0) = false := by simp [h0]
  go_enter Tryz.func133, Tryz.ntmps133
  go_wp2_with fail
  go_step3
  go_wp2_with fail
  first | go_ret | (rw [Exit.noGoto_ret]; go_ret)
  exact ⟨rfl, Below.refl _ _⟩
theorem decStr_inf (H L : Nat) (hH : H < 18446744073709551616) (hL : L < 18446744073709551616) (b : Nat) (hb : bits .and .u64 ((H : Int) / 9223372036854775808) 1 = (b : Int)) (hb2 : b < 2) (hk : bits .and .u64 ((H : Int) / 288230376151711744) 31 = 30) (w : World) :
  Calls Tryz.prog 133 #[.int .u64 (H : Int), .int .u64 (L : Int)] w fun en w' => en = .returned (.string ⟨((if b = 1 then ([45] : List UInt8) else []) ++ [73, 110, 102, 105, 110, 105, 116, 121]).toArray⟩) ∧ Below w.heap.size w w' := by
 by_cases h0 : b = 0
 ·subst h0
  have h1 : ((0 : Int) == 0) = true := rfl
  go_enter Tryz.func133, Tryz.ntmps133
  go_wp2_with fail
  go_step3
  go_wp2_with fail
  first | go_ret | (rw [Exit.noGoto_ret]; go_ret)
  exact ⟨rfl, Below.refl _ _⟩
 ·obtain rfl : b = 1 := by omega
  go_enter Tryz.func133, Tryz.ntmps133
  go_wp2_with fail
  go_step3
  go_wp2_with fail
  first | go_ret | (rw [Exit.noGoto_ret]; go_ret)
  exact ⟨rfl, Below.refl _ _⟩
theorem decStr_any (H L : Nat) (hH : H < 18446744073709551616) (hL : L < 18446744073709551616) (w : World) (hT : TabC w) (h17 : 17 ≤ w.heap.size) :
  Calls Tryz.prog 133 #[.int .u64 (H : Int), .int .u64 (L : Int)] w fun en w' => en = .returned (.string ⟨(decT H L).toArray⟩) ∧ Below w.heap.size w w' := by
 have hs : bits .and .u64 ((H : Int) / 9223372036854775808) 1 = ((H / 9223372036854775808 % 2 : Nat) : Int) := and_1 (H / 9223372036854775808) (by omega)
 have hk : bits .and .u64 ((H : Int) / 288230376151711744) 31 = ((H / 288230376151711744 % 32 : Nat) : Int) := and_5 (H / 288230376151711744) (by omega)
 have h3 : bits .and .u64 ((H : Int) / 2305843009213693952) 3 = ((H / 2305843009213693952 % 4 : Nat) : Int) := and_2 (H / 2305843009213693952) (by omega)
 have he1 : bits .and .u64 ((H : Int) / 140737488355328) 16383 = ((H / 140737488355328 % 16384 : Nat) : Int) := and_14 (H / 140737488355328) (by omega)
 have he2 : bits .and .u64 ((H : Int) / 562949953421312) 16383 = ((H / 562949953421312 % 16384 : Nat) : Int) := and_14 (H / 562949953421312) (by omega)
 have hHn := and_49 H hH
 have hneg : (bits .and .u64 ((H : Int) / 9223372036854775808) 1 == 0) = !decide (H / 9223372036854775808 % 2 = 1) := by
  rw [hs, Bool.eq_iff_iff]; simp; omega
 unfold decT
 by_cases k31 : H / 288230376151711744 % 32 = 31
 ·rw [if_pos k31]
  exact decStr_nan H L hH hL _ hs (by rw [hk, k31]; rfl) w
 ·by_cases k30 : H / 288230376151711744 % 32 = 30
  ·rw [if_neg k31, if_pos k30]
   exact decStr_inf H L hH hL _ hs (by omega) (by rw [hk, k30]; rfl) w
  ·have f31 : (bits .and .u64 ((H : Int) / 288230376151711744) 31 == 31) = false := by rw [hk]; simp; omega
   have f30 : (bits .and .u64 ((H : Int) / 288230376151711744) 31 == 30) = false := by rw [hk]; simp; omega
   by_cases k3 : H / 2305843009213693952 % 4 = 3
   ·rw [if_neg k31, if_neg k30, if_pos k3]
    have := decStr_fin H L 0 0 ((H / 140737488355328 % 16384 : Nat) - 6176) true _ hH hL hneg f31 f30 (by rw [h3, k3]; rfl) rfl rfl (by rw [he1]; rfl) (by omega) (by omega) (by omega) w hT h17
    simpa using this
   ·rw [if_neg k31, if_neg k30, if_neg k3]
    exact decStr_fin H L (H % 562949953421312) L ((H / 562949953421312 % 16384 : Nat) - 6176) false _ hH hL hneg f31 f30 (by rw [h3]; simp; omega) (by rw [hHn]; rfl) rfl (by rw [he2]; rfl) (by omega) (by omega) hL w hT h17
set_option maxHeartbeats 8000000
def U3Post (w : World) (e : Ending) (w' : World) : Prop := ∃ (a b : Int) (c : Bool), e = .returned (.tuple #[.int .u64 a, .int .u64 b, .bool c]) ∧ Below w.heap.size w w'
theorem times_any (a b c : Int) (w : World) : Calls Tryz.prog 135 #[.int .u64 a, .int .u64 b, .int .u64 c] w (U3Post w) := by
 go_enter Tryz.func135, Tryz.ntmps135
 go_wp2
 refine wp_loop_rounds 5 ?_
 rw [rounds_succ]
 go_wp2
 rw [rounds_succ]
 go_wp2
 rw [rounds_succ]
 go_wp2
 rw [rounds_succ]
 go_wp2
 rw [rounds_succ]
 go_wp2
 go_quiet (fail)
 go_wp2
 refine bodyPost_ret (v := .tuple #[_, _, _]) (by simp [results, Tryz.results135, go_sem]; exact ⟨rfl, rfl, rfl⟩) rfl ⟨_, _, _, rfl, ?_⟩
 exact below_drn ((Below.refl _ _).alloc (Nat.le_refl _) _) _
def U2Post (w : World) (e : Ending) (w' : World) : Prop := ∃ (a b : Int), e = .returned (.tuple #[.int .u64 a, .int .u64 b]) ∧ Below w.heap.size w w'
theorem decBits_any (kind : Int) (neg : Bool) (ds : ByteArray) (e : Int) (hk : kind = 0 ∨ kind = 1 ∨ kind = 2) (hds : ds.size ≤ 40) (he : -7000 ≤ e ∧ e ≤ 11000) (w : World) : Calls Tryz.prog 83 #[decV kind neg ds e] w (U2Post w) := by
 unfold decV
 obtain ⟨X, hX⟩ : ∃ X, w.alloc (.cells #[.int .i64 kind, .bool neg, .string ds, .int .i64 e] 59) = X := ⟨_, rfl⟩
 have hXb : Below w.heap.size w X := hX ▸ below_allocB w _
 have hXc : ∀ W, Below X.heap.size X W → ∀ i, W.cell? ⟨w.heap.size, i, none⟩ = (#[.int .i64 kind, .bool neg, .string ds, .int .i64 e] : Array Value)[i]? := by
  intro W hW i
  have hs : X.heap.size = w.heap.size + 1 := by rw [← hX]; simp
  rw [hW.cell (p := ⟨w.heap.size, i, none⟩) (by rw [hs]; show w.heap.size < _; omega), ← hX]
  exact blk_cell (heap_alloc_new w _) i
 have HXB := LH hXb
 have HXC := LH hXc
 have HX := LH hX
 have HT := LH times_any
 clear hXb hXc hX
 rcases hk with rfl | rfl | rfl
 ·cases neg
  all_goals
   go_enter Tryz.func83, Tryz.ntmps83
   go_wp2_with fail
   rw [HX.out]
   go_loopw [5, 6, 7] (fun a b i wr => ∃ (k : Nat) (x y : Int), k ≤ ds.size ∧ a = .int .u64 x ∧ b = .int .u64 y ∧ i = .int .i64 k ∧ Hid (Below X.heap.size X wr)) (fun _ _ i _ => ds.size - (intOf i).toNat)
   case atStart => exact ⟨0, 0, 0, Nat.zero_le _, rfl, rfl, rfl, Below.refl _ _⟩
   case round =>
    obtain ⟨k, x, y, hkk, rfl, rfl, rfl, HB⟩ := hrel
    have c2 : wr.cell? ⟨w.heap.size, 2, none⟩ = some (.string ds) := HXC.out wr HB.out 2
    have c3 : wr.cell? ⟨w.heap.size, 3, none⟩ = some (.int .i64 e) := HXC.out wr HB.out 3
    by_cases hlt : k < ds.size
    ·go_wp2_with (go_at_call 135; refine (HT.out _ _ _ _).mono ?_; rintro e' w2 ⟨r1, r2, r3, rfl, hb2⟩)
     go_roundw
     case rel => exact ⟨k + 1, r1, r2, by omega, rfl, rfl, by go_num, HB.out.trans (hb2.mono HB.out.size)⟩
     case measure => simp [intOf]; omega
    ·go_wp2_with fail
     go_ret2
     exact ⟨_, _, rfl, HXB.out.trans (HB.out.mono HXB.out.size)⟩
 ·cases neg
  all_goals
   go_enter Tryz.func83, Tryz.ntmps83
   go_wp2_with fail
   rw [HX.out]
   go_ret2
   exact ⟨_, _, rfl, HXB.out⟩
 ·cases neg
  all_goals
   go_enter Tryz.func83, Tryz.ntmps83
   go_wp2_with fail
   rw [HX.out]
   go_ret2
   exact ⟨_, _, rfl, HXB.out⟩
set_option maxHeartbeats 8000000
def BPost (w : World) (e : Ending) (w' : World) : Prop := ∃ v : Bool, e = .returned (.bool v) ∧ Below w.heap.size w w'
theorem decIs_any (kind : Int) (neg : Bool) (ds : ByteArray) (e : Int) (hk : kind = 0 ∨ kind = 1 ∨ kind = 2) (hds : ds.size ≤ 40) (he : -7000 ≤ e ∧ e ≤ 11000) (w : World) : Calls Tryz.prog 82 #[decV kind neg ds e] w (BPost w) := by
  unfold decV
  obtain ⟨X, hX⟩ : ∃ X, w.alloc (.cells #[.int .i64 kind, .bool neg, .string ds, .int .i64 e] 59) = X := ⟨_, rfl⟩
  have hXb : Below w.heap.size w X := hX ▸ below_allocB w _
  have hXc : X.cell? ⟨w.heap.size, 2, none⟩ = some (.string ds) := by
    rw [← hX]
    exact blk_cell (heap_alloc_new w _) 2
  have HXB := LH hXb
  have HXC := LH hXc
  have HX := LH hX
  have hx0 : ∀ h : 0 < ds.size, ((ds[0]'h).toNat : Int) = (byA ds 0 : Int) := fun h => byA_at ds 0 h
  generalize byA ds 0 = z0 at hx0
  have hbyte : ∀ k, ∃ z : Nat, ∀ h : k < ds.size, ((ds[k]'h).toNat : Int) = (z : Int) := fun k => ⟨byA ds k, fun h => byA_at ds k h⟩
  have HBY := LH hbyte
  clear hXb hXc hX hbyte
  rcases hk with rfl | rfl | rfl
  · have hcase : (ds.size < 1) ∨ (34 < ds.size) ∨ (1 < ds.size ∧ ds.size ≤ 34 ∧ z0 = 48) ∨ (ds.size = 1 ∧ e < -6176) ∨ (1 < ds.size ∧ ds.size ≤ 34 ∧ ¬ z0 = 48 ∧ e < -6176) ∨ (ds.size = 1 ∧ 6111 < e) ∨ (1 < ds.size ∧ ds.size ≤ 34 ∧ ¬ z0 = 48 ∧ 6111 < e) ∨ (ds.size = 1 ∧ -6176 ≤ e ∧ e ≤ 6111) ∨ (1 < ds.size ∧ ds.size ≤ 34 ∧ ¬ z0 = 48 ∧ -6176 ≤ e ∧ e ≤ 6111) := by omega
    rcases hcase with q | q | ⟨q1, q2, q3⟩ | ⟨q1, q2⟩ | ⟨q1, q2, q3, q4⟩ | ⟨q1, q2⟩ | ⟨q1, q2, q3, q4⟩ | ⟨q1, q2, q4⟩ | ⟨q1, q2, q3, q4, q5⟩
    all_goals
      first
        | (have hz : ((z0 : Int) == 48) = false := by simp; omega)
        | (have hz : ((z0 : Int) == 48) = true := by simp; omega)
        | skip
      go_enter Tryz.func82, Tryz.ntmps82
      go_wp2_with fail
      first
        | (go_ret; exact ⟨_, rfl, HX.out ▸ HXB.out⟩)
        | (rw [HX.out]
           go_loopw [3] (fun i wr => ∃ k : Nat, k ≤ ds.size ∧ i = .int .i64 k ∧ Hid (X = wr)) (fun i _ => ds.size - (intOf i).toNat)
           case atStart => exact ⟨0, Nat.zero_le _, rfl, rfl⟩
           case round =>
             obtain ⟨k, hkk, rfl, HW⟩ := hrel
             have c2 := HXC.out
             rw [HW.out] at c2
             by_cases hlt : k < ds.size
             · obtain ⟨z, hxk⟩ := HBY.out k
               by_cases d1 : z < 48
               · go_wp2_with fail
                 go_ret
                 exact ⟨_, rfl, HW.out ▸ HXB.out⟩
               · by_cases d2 : 57 < z
                 · go_wp2_with fail
                   go_ret
                   exact ⟨_, rfl, HW.out ▸ HXB.out⟩
                 · go_wp2_with fail
                   go_roundw
                   case rel => exact ⟨k + 1, by omega, by go_num, HW⟩
                   case measure => simp [intOf]; omega
             · go_wp2_with fail
               go_ret
               exact ⟨_, rfl, HW.out ▸ HXB.out⟩)
  · go_enter Tryz.func82, Tryz.ntmps82
    go_wp2_with fail
    go_ret
    exact ⟨_, rfl, HX.out ▸ HXB.out⟩
  · go_enter Tryz.func82, Tryz.ntmps82
    go_wp2_with fail
    go_ret
    exact ⟨_, rfl, HX.out ▸ HXB.out⟩
theorem decFits_any (H L : Nat) (hH : H < 18446744073709551616) (hL : L < 18446744073709551616) (w : World) : Calls Tryz.prog 57 #[.int .u64 (H : Int), .int .u64 (L : Int)] w (BPost w) := by
  obtain ⟨kind, neg, ds, e, h1, h2, h3, _, hc, _⟩ := decOf_ex H L hH hL
  have HC := LH hc
  have HI := LH (decIs_any kind neg ds e h1 h2 h3)
  have HB := LH (decBits_any kind neg ds e h1 h2 h3)
  unfold decV at HC HI HB
  clear hc h2 h3
  cases hc3 : (bits .and .u64 ((H : Int) / 2305843009213693952) 3 == 3) <;> rcases h1 with rfl | rfl | rfl
  all_goals
    go_enter Tryz.func57, Tryz.ntmps57
    go_wp2_with (first | (go_at_call 38; refine (HC.out _).mono ?_; rintro e' w2 ⟨rfl, hb2⟩; have HB2 := LH hb2; clear hb2) | (go_at_call 82; refine (HI.out _).mono ?_; rintro e' w3 ⟨v, rfl, hb3⟩; refine Hid.out ?_))
    refine LH ?_
    have hc4 : w3.cell? ⟨w2.heap.size, 0, none⟩ = _ := (hb3.cell (p := ⟨w2.heap.size, 0, none⟩) (by simp)).trans (blk_cell (heap_alloc_new w2 _) 0)
    have hc5 : w3.cell? ⟨w2.heap.size, 1, none⟩ = _ := (hb3.cell (p := ⟨w2.heap.size, 1, none⟩) (by simp)).trans (blk_cell (heap_alloc_new w2 _) 1)
    have hc6 : w3.cell? ⟨w2.heap.size, 2, none⟩ = _ := (hb3.cell (p := ⟨w2.heap.size, 2, none⟩) (by simp)).trans (blk_cell (heap_alloc_new w2 _) 2)
    have hc7 : w3.cell? ⟨w2.heap.size, 3, none⟩ = _ := (hb3.cell (p := ⟨w2.heap.size, 3, none⟩) (by simp)).trans (blk_cell (heap_alloc_new w2 _) 3)
    simp only [List.getElem?_toArray, List.getElem?_cons_zero, List.getElem?_cons_succ] at hc4 hc5 hc6 hc7
    have HB3' := LH ((HB2.out.trans ((below_allocB w2 _).mono HB2.out.size)).trans (hb3.mono (by have := HB2.out.size; simp; omega)))
    clear hb3 HB2
    cases v
    · go_wp2_with fail
      go_ret
      exact ⟨_, rfl, HB3'.out⟩
    · first
        | (go_wp2_with (go_at_call 83; refine (HB.out _).mono ?_; rintro e' w4 ⟨a, b, rfl, hb4⟩; refine Hid.out ?_)
           refine LH ?_
           have HB4 := LH (HB3'.out.trans (hb4.mono HB3'.out.size))
           clear hb4
           cases ha : (a == (H : Int)) <;> cases hb : (b == (L : Int)) <;> (go_wp2_with fail; go_ret; exact ⟨_, rfl, HB4.out⟩))
        | (go_wp2_with fail
           go_ret
           exact ⟨_, rfl, HB3'.out⟩)
open Classical in
noncomputable def utB (s : ByteArray) : Bool := decide (UT s)
theorem utB_true (s : ByteArray) : utB s = true ↔ UT s := by unfold utB; simp
theorem utB_false (s : ByteArray) : utB s = false ↔ ¬ UT s := by unfold utB; simp
theorem extUTF8_ex (s : ByteArray) (w : World) (hs : s.size ≤ 4611686018427387904) : Calls Tryz.prog 81 #[.string s] w fun e w' => e = .returned (.bool (utB s)) ∧ w = w' := by
 go_enter Tryz.func81, Tryz.ntmps81
 go_wp2
 go_loop [3] (fun i => ∃ (q f : Nat), i = .int .i64 q ∧ q ≤ s.size ∧ s.size ≤ q + f ∧ Hid (u8At s f q ↔ UT s)) (fun i => s.size - (intOf i).toNat)
 case atStart => exact ⟨0, s.size, rfl, by omega, by omega, Iff.rfl⟩
 case round =>
  obtain ⟨q, f, rfl, hq, hf, HI⟩ := hrel
  by_cases hlt : q < s.size
  ·have hle := xrA_le s q hlt
   have hcall := extRune_at s q w
   obtain ⟨f, rfl⟩ : ∃ g, f = g + 1 := ⟨f - 1, by omega⟩
   have HJ := LH (show (1 ≤ (xrA s q).1 ∧ u8At s f (q + (xrA s q).1)) ↔ UT s from ⟨fun h1 => HI.out.1 (.inr h1), fun h => (HI.out.2 h).resolve_left (by omega)⟩)
   clear HI
   generalize (xrA s q).2 = c at hcall
   generalize (xrA s q).1 = n at hle hcall HJ
   have HC := LH hcall
   clear hcall
   by_cases hn : n = 0
   ·have hb : ((n : Int) == 0) = true := by simp [hn]
    have HN := LH hn
    clear hn
    go_wp2_with (go_at_call 53; refine HC.out.mono ?_; rintro e w' ⟨rfl, rfl⟩)
    go_ret
    refine ⟨congrArg (fun b => Ending.returned (Value.bool b)) ?_, rfl⟩
    symm
    rw [utB_false, ← HJ.out]
    have := HN.out
    omega
   ·have hb : ((n : Int) == 0) = false := by simp [hn]
    have hn1 : 1 ≤ n := by omega
    clear hn
    go_wp2_with (go_at_call 53; refine HC.out.mono ?_; rintro e w' ⟨rfl, rfl⟩)
    go_round
    case rel => exact ⟨q + n, f, by go_num, hle, by omega, ⟨fun h => HJ.out.1 ⟨hn1, h⟩, fun h => (HJ.out.2 h).2⟩⟩
    case measure => simp [intOf]; omega
  ·go_wp2
   go_ret
   refine ⟨congrArg (fun b => Ending.returned (Value.bool b)) ?_, rfl⟩
   symm
   rw [utB_true, ← HI.out]
   cases f with
   | zero => show s.size ≤ q; omega
   | succ f => exact .inl (by omega)
open Classical in
noncomputable def textB (s : ByteArray) : Bool := decide (s.size ≤ 300 ∧ UT s)
theorem textB_true {s : ByteArray} (h : textB s = true) : s.size ≤ 300 ∧ UT s := by unfold textB at h; simpa using h
theorem text_ex (s : ByteArray) (hs : s.size ≤ 4611686018427387904) (w : World) : Calls Tryz.prog 54 #[.string s] w fun e w' => e = .returned (.bool (textB s)) ∧ w = w' := by
 by_cases h : s.size ≤ 300
 ·have hcall := extUTF8_ex s w hs
  have ht : utB s = textB s := by unfold utB textB; simp [h]
  rw [ht] at hcall
  have HC := LH hcall
  clear hcall ht
  generalize textB s = b at HC ⊢
  go_enter Tryz.func54, Tryz.ntmps54
  go_wp2_with (go_at_call 81; refine HC.out.mono ?_; rintro e w' ⟨rfl, rfl⟩)
  go_ret
  exact ⟨rfl, rfl⟩
 ·have hd : decide ((s.size : Int) ≤ 300) = false := by simp; omega
  have ht : textB s = false := by unfold textB; simp [h]
  rw [ht]
  clear ht
  go_enter Tryz.func54, Tryz.ntmps54
  go_wp2
  go_ret
  exact ⟨rfl, rfl⟩
end Go.Proofs.YtpfkgpcnhdkkbaaGreatDoor
