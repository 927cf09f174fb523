/- The reference's reading of one character of UTF-8, as a function; texts of UTF-8. -/
import Derived.Lib.DecodeN
import Derived.Test.YtpfkgpcnhdkkbaaGreatDoorABase
import Derived.Handy
import Derived.Laws.BitsLemmas
import Derived.Lib.FieldsU
namespace Go.Proofs.YtpfkgpcnhdkkbaaGreatDoor
set_option maxHeartbeats 8000000
set_option linter.unusedVariables false
set_option linter.unusedSimpArgs false
def xrN (n b0 b1 b2 b3 : Nat) : Nat × Nat := if n = 0 then (0, 0) else if Lib.decodeN n b0 b1 b2 b3 = (65533, 1) then (0, 0) else ((Lib.decodeN n b0 b1 b2 b3).2, (Lib.decodeN n b0 b1 b2 b3).1)
theorem xrN_one (n b0 b1 b2 b3 : Nat) (hn : 1 ≤ n) (h : b0 < 128) : xrN n b0 b1 b2 b3 = (1, b0) := by
 unfold xrN Lib.decodeN
 rw [if_neg (by omega), if_pos h, if_neg (by simp only [Prod.mk.injEq]; omega)]

theorem xrN_bad (n b0 b1 b2 b3 : Nat) (hb : 128 ≤ b0) (h256 : b0 < 256) (h : ¬ (194 ≤ b0 ∧ b0 < 245)) : xrN n b0 b1 b2 b3 = (0, 0) := by
 have hd : Lib.decodeN n b0 b1 b2 b3 = (65533, 1) := by
  unfold Lib.decodeN
  repeat' split
  all_goals first | (exfalso; omega) | rfl
 unfold xrN
 rw [hd, if_pos rfl, ite_self]
theorem xrN_short2 (n b0 b1 b2 b3 : Nat) (h : 194 ≤ b0 ∧ b0 < 224) (hn : n < 2) : xrN n b0 b1 b2 b3 = (0, 0) := by
 have hd : Lib.decodeN n b0 b1 b2 b3 = (65533, 1) := by
  unfold Lib.decodeN
  repeat' split
  all_goals first | (exfalso; omega) | rfl
 unfold xrN
 rw [hd, if_pos rfl, ite_self]
theorem xrN_short3 (n b0 b1 b2 b3 : Nat) (h : 224 ≤ b0 ∧ b0 < 240) (hn : n < 3) : xrN n b0 b1 b2 b3 = (0, 0) := by
 have hd : Lib.decodeN n b0 b1 b2 b3 = (65533, 1) := by
  unfold Lib.decodeN
  repeat' split
  all_goals first | (exfalso; omega) | rfl
 unfold xrN
 rw [hd, if_pos rfl, ite_self]
theorem xrN_short4 (n b0 b1 b2 b3 : Nat) (h : 240 ≤ b0 ∧ b0 < 245) (hn : n < 4) : xrN n b0 b1 b2 b3 = (0, 0) := by
 have hd : Lib.decodeN n b0 b1 b2 b3 = (65533, 1) := by
  unfold Lib.decodeN
  repeat' split
  all_goals first | (exfalso; omega) | rfl
 unfold xrN
 rw [hd, if_pos rfl, ite_self]
theorem xrN_bad2 (n b0 b1 b2 b3 : Nat) (h : 194 ≤ b0 ∧ b0 < 224) (h1 : ¬ b1 / 64 = 2) : xrN n b0 b1 b2 b3 = (0, 0) := by
 have hd : Lib.decodeN n b0 b1 b2 b3 = (65533, 1) := by
  unfold Lib.decodeN
  repeat' split
  all_goals first | (exfalso; omega) | rfl
 unfold xrN
 rw [hd, if_pos rfl, ite_self]
theorem xrN_bad3 (n b0 b1 b2 b3 : Nat) (h : 224 ≤ b0 ∧ b0 < 240) (h1 : ¬ (b1 / 64 = 2 ∧ b2 / 64 = 2 ∧ 2048 ≤ b0 % 16 * 4096 + b1 % 64 * 64 + b2 % 64 ∧ (b0 % 16 * 4096 + b1 % 64 * 64 + b2 % 64 < 55296 ∨ 57344 ≤ b0 % 16 * 4096 + b1 % 64 * 64 + b2 % 64))) : xrN n b0 b1 b2 b3 = (0, 0) := by
 have hd : Lib.decodeN n b0 b1 b2 b3 = (65533, 1) := by
  unfold Lib.decodeN
  repeat' split
  all_goals first | (exfalso; omega) | rfl
 unfold xrN
 rw [hd, if_pos rfl, ite_self]
theorem xrN_bad4 (n b0 b1 b2 b3 : Nat) (h : 240 ≤ b0 ∧ b0 < 245) (h1 : ¬ (b1 / 64 = 2 ∧ b2 / 64 = 2 ∧ b3 / 64 = 2 ∧ 65536 ≤ b0 % 8 * 262144 + b1 % 64 * 4096 + b2 % 64 * 64 + b3 % 64 ∧ b0 % 8 * 262144 + b1 % 64 * 4096 + b2 % 64 * 64 + b3 % 64 ≤ 1114111)) : xrN n b0 b1 b2 b3 = (0, 0) := by
 have hd : Lib.decodeN n b0 b1 b2 b3 = (65533, 1) := by
  unfold Lib.decodeN
  repeat' split
  all_goals first | (exfalso; omega) | rfl
 unfold xrN
 rw [hd, if_pos rfl, ite_self]
theorem xrN_good2 (n b0 b1 b2 b3 : Nat) (h : 194 ≤ b0 ∧ b0 < 224) (hn : 2 ≤ n) (h1 : b1 / 64 = 2) : xrN n b0 b1 b2 b3 = (2, b0 % 32 * 64 + b1 % 64) := by
 have hd : Lib.decodeN n b0 b1 b2 b3 = (b0 % 32 * 64 + b1 % 64, 2) := by
  unfold Lib.decodeN
  repeat' split
  all_goals first | (exfalso; omega) | rfl
 unfold xrN
 rw [hd, if_neg (by omega), if_neg (by simp)]
theorem xrN_good3 (n b0 b1 b2 b3 : Nat) (h : 224 ≤ b0 ∧ b0 < 240) (hn : 3 ≤ n) (h1 : b1 / 64 = 2) (h2 : b2 / 64 = 2) (h3 : 2048 ≤ b0 % 16 * 4096 + b1 % 64 * 64 + b2 % 64) (h4 : b0 % 16 * 4096 + b1 % 64 * 64 + b2 % 64 < 55296 ∨ 57344 ≤ b0 % 16 * 4096 + b1 % 64 * 64 + b2 % 64) : xrN n b0 b1 b2 b3 = (3, b0 % 16 * 4096 + b1 % 64 * 64 + b2 % 64) := by
 have hd : Lib.decodeN n b0 b1 b2 b3 = (b0 % 16 * 4096 + b1 % 64 * 64 + b2 % 64, 3) := by
  unfold Lib.decodeN
  repeat' split
  all_goals first | (exfalso; omega) | rfl
 unfold xrN
 rw [hd, if_neg (by omega), if_neg (by simp)]
theorem xrN_good4 (n b0 b1 b2 b3 : Nat) (h : 240 ≤ b0 ∧ b0 < 245) (hn : 4 ≤ n) (h1 : b1 / 64 = 2) (h2 : b2 / 64 = 2) (h3 : b3 / 64 = 2) (h4 : 65536 ≤ b0 % 8 * 262144 + b1 % 64 * 4096 + b2 % 64 * 64 + b3 % 64) (h5 : b0 % 8 * 262144 + b1 % 64 * 4096 + b2 % 64 * 64 + b3 % 64 ≤ 1114111) : xrN n b0 b1 b2 b3 = (4, b0 % 8 * 262144 + b1 % 64 * 4096 + b2 % 64 * 64 + b3 % 64) := by
 have hd : Lib.decodeN n b0 b1 b2 b3 = (b0 % 8 * 262144 + b1 % 64 * 4096 + b2 % 64 * 64 + b3 % 64, 4) := by
  unfold Lib.decodeN
  repeat' split
  all_goals first | (exfalso; omega) | rfl
 unfold xrN
 rw [hd, if_neg (by omega), if_neg (by simp)]
def xrL (l : List UInt8) : Nat × Nat := xrN l.length (l.getD 0 0).toNat (l.getD 1 0).toNat (l.getD 2 0).toNat (l.getD 3 0).toNat
theorem xrN_cases (n b0 b1 b2 b3 : Nat) (h : xrN n b0 b1 b2 b3 ≠ (0, 0)) : 1 ≤ n ∧ xrN n b0 b1 b2 b3 = ((Lib.decodeN n b0 b1 b2 b3).2, (Lib.decodeN n b0 b1 b2 b3).1) ∧ Lib.decodeN n b0 b1 b2 b3 ≠ (65533, 1) := by
 unfold xrN at h ⊢
 split at h
 ·exact absurd rfl h
 ·rename_i h1
  split at h
  ·exact absurd rfl h
  ·rename_i h2
   rw [if_neg h1, if_neg h2]
   exact ⟨by omega, rfl, h2⟩
def u8F : Nat → List UInt8 → Prop
 | _, [] => True
 | 0, _ :: _ => False
 | f + 1, l@(_ :: _) => 1 ≤ (xrL l).1 ∧ u8F f (l.drop (xrL l).1)
def U8 (l : List UInt8) : Prop := u8F l.length l
open Go.RowKit
set_option maxRecDepth 100000
def byA (s : ByteArray) (i : Nat) : Nat := (s.data.toList.getD i 0).toNat
theorem byA_lt (s : ByteArray) (i : Nat) : byA s i < 256 := UInt8.toNat_lt _
theorem byA_at (s : ByteArray) (i : Nat) (h : i < s.size) : ((s[i]'h).toNat : Int) = (byA s i : Int) := by
 have h' : i < s.data.toList.length := by rw [Array.length_toList]; exact h
 unfold byA
 rw [List.getD_eq_getElem?_getD, List.getElem?_eq_getElem h']
 rfl
def xrS (s : ByteArray) : Nat × Nat := xrN s.size (byA s 0) (byA s 1) (byA s 2) (byA s 3)
theorem empty_of_size {s : ByteArray} (h : s.size = 0) : s.toList.isEmpty = true := by
 rw [ByteArray.toList_eq]
 have : s.data.toList.length = 0 := by rw [Array.length_toList]; exact h
 rw [List.length_eq_zero_iff.1 this]
 rfl
theorem full_of_size {s : ByteArray} (h : 1 ≤ s.size) : s.toList.isEmpty = false := by
 rw [ByteArray.toList_eq]
 cases hs : s.data.toList with
 | nil =>
  have : s.data.toList.length = 0 := by rw [hs]; rfl
  rw [Array.length_toList] at this
  exact absurd this (by show ¬ s.size = 0; omega)
 | cons a l => rfl
theorem extRune_nil (s : ByteArray) (w : World) (h : s.size = 0) : Calls Tryz.prog 53 #[.string s] w fun e w' => e = .returned (.tuple #[.int .i64 0, .int .i64 0]) ∧ w = w' := by
 have h1 := empty_of_size h
 clear h
 go_enter Tryz.func53, Tryz.ntmps53
 go_wp2
 go_ret2
 exact ⟨rfl, rfl⟩
theorem extRune_one (s : ByteArray) (w : World) (h : 1 ≤ s.size) (b0 : Nat) (h0 : byA s 0 = b0) (hb : b0 < 128) : Calls Tryz.prog 53 #[.string s] w fun e w' => e = .returned (.tuple #[.int .i64 1, .int .i64 b0]) ∧ w = w' := by
 have h1 := full_of_size h
 have hx : ∀ h : 0 < s.size, ((s[0]'h).toNat : Int) = b0 := fun h => by rw [byA_at, h0]
 have H0 := LH h0
 clear h0
 go_enter Tryz.func53, Tryz.ntmps53
 go_wp2
 go_ret2
 exact ⟨rfl, rfl⟩
theorem extRune_bad (s : ByteArray) (w : World) (h : 1 ≤ s.size) (b0 : Nat) (h0 : byA s 0 = b0) (hb : 128 ≤ b0) (h256 : b0 < 256) (hb2 : b0 < 194 ∨ 245 ≤ b0) : Calls Tryz.prog 53 #[.string s] w fun e w' => e = .returned (.tuple #[.int .i64 0, .int .i64 0]) ∧ w = w' := by
 have h1 := full_of_size h
 have hx : ∀ h : 0 < s.size, ((s[0]'h).toNat : Int) = b0 := fun h => by rw [byA_at, h0]
 have H0 := LH h0
 clear h0
 rcases hb2 with hb2 | hb2
 all_goals
  go_enter Tryz.func53, Tryz.ntmps53
  go_wp2
  go_ret2
  exact ⟨rfl, rfl⟩
theorem extRune_short (s : ByteArray) (w : World) (h : 1 ≤ s.size) (b0 : Nat) (h0 : byA s 0 = b0) (hb : (194 ≤ b0 ∧ b0 < 224 ∧ s.size < 2) ∨ (224 ≤ b0 ∧ b0 < 240 ∧ s.size < 3) ∨ (240 ≤ b0 ∧ b0 < 245 ∧ s.size < 4)) : Calls Tryz.prog 53 #[.string s] w fun e w' => e = .returned (.tuple #[.int .i64 0, .int .i64 0]) ∧ w = w' := by
 have h1 := full_of_size h
 have hx : ∀ h : 0 < s.size, ((s[0]'h).toNat : Int) = b0 := fun h => by rw [byA_at, h0]
 have H0 := LH h0
 clear h0
 rcases hb with ⟨hb, hb2, hb3⟩ | ⟨hb, hb2, hb3⟩ | ⟨hb, hb2, hb3⟩
 all_goals
  go_enter Tryz.func53, Tryz.ntmps53
  go_wp2
  go_ret2
  exact ⟨rfl, rfl⟩
theorem wraps_i64_62 (n : Int) (h₀ : 0 ≤ n) (h₁ : n < 2 ^ 62) : IntKind.i64.wrap n = n := by rw [IntKind.wrap_i64]; omega
theorem and31 (a : Nat) (h : a < 256) : bits .and .i64 (a : Int) 31 = ((a % 32 : Nat) : Int) := by
 have := bits_mask .i64 62 (by decide) wraps_i64_62 5 (by decide) (a : Int) (by omega) (by omega)
 rw [show (2 : Int) ^ 5 - 1 = 31 from rfl, show (2 : Int) ^ 5 = 32 from rfl] at this
 rw [this]; omega
theorem and15 (a : Nat) (h : a < 256) : bits .and .i64 (a : Int) 15 = ((a % 16 : Nat) : Int) := by
 have := bits_mask .i64 62 (by decide) wraps_i64_62 4 (by decide) (a : Int) (by omega) (by omega)
 rw [show (2 : Int) ^ 4 - 1 = 15 from rfl, show (2 : Int) ^ 4 = 16 from rfl] at this
 rw [this]; omega
theorem and7 (a : Nat) (h : a < 256) : bits .and .i64 (a : Int) 7 = ((a % 8 : Nat) : Int) := by
 have := bits_mask .i64 62 (by decide) wraps_i64_62 3 (by decide) (a : Int) (by omega) (by omega)
 rw [show (2 : Int) ^ 3 - 1 = 7 from rfl, show (2 : Int) ^ 3 = 8 from rfl] at this
 rw [this]; omega
theorem or64 (a b v : Nat) (ha : a < 1000000) (hv : a * 64 + b % 64 = v) : bits .or .i64 ((a : Int) * 64) ((b : Int) % 64) = (v : Int) := by
 rw [bits_join .i64 62 (by decide) wraps_i64_62 6 _ _ (by omega) (by rw [show (2 : Int) ^ 6 = 64 from rfl]; omega) (by omega) (by omega) (by rw [show (2 : Int) ^ 6 = 64 from rfl]; omega) (by omega)]
 omega
theorem extRune_good2 (s : ByteArray) (w : World) (b0 b1 v : Nat) (h0 : byA s 0 = b0) (h1 : byA s 1 = b1) (hb : 194 ≤ b0) (hb2 : b0 < 224) (h : 2 ≤ s.size) (l1 : b1 < 256) (hk1 : b1 / 64 = 2) (hv : b0 % 32 * 64 + b1 % 64 = v) : Calls Tryz.prog 53 #[.string s] w fun e w' => e = .returned (.tuple #[.int .i64 2, .int .i64 v]) ∧ w = w' := by
 have hs1 := full_of_size (show 1 ≤ s.size by omega)
 have hx0 : ∀ h : 0 < s.size, ((s[0]'h).toNat : Int) = b0 := fun h => by rw [byA_at, h0]
 have H0 := LH h0
 have hx1 : ∀ h : 1 < s.size, ((s[1]'h).toNat : Int) = b1 := fun h => by rw [byA_at, h1]
 have H1 := LH h1
 have q1 : ((b1 : Int) / 64 != 2) = false := by simp; omega
 have m0 := and31 b0 (by omega)
 obtain ⟨c0, hc0⟩ : ∃ c0, b0 % 32 = c0 := ⟨_, rfl⟩
 rw [hc0] at m0
 have c0lt : c0 < 32 := by omega
 obtain ⟨c1, hc1⟩ : ∃ c, c0 * 64 + b1 % 64 = c := ⟨_, rfl⟩
 have m1 := or64 c0 b1 c1 (by omega) hc1
 have c1lt : c1 < 2048 := by omega
 have hvc : c1 = v := by omega
 have g1 : 128 ≤ v := by omega
 have g2 : v < 55296 := by omega
 subst hvc
 clear hc0 hc1 h0 h1 hk1 hv
 go_enter Tryz.func53, Tryz.ntmps53
 go_wp2
 refine wp_loop_rounds 2 ?_
 rw [rounds_succ]
 go_wp2
 rw [rounds_succ]
 go_wp2
 go_ret2
 exact ⟨rfl, rfl⟩
theorem extRune_good3 (s : ByteArray) (w : World) (b0 b1 b2 v : Nat) (h0 : byA s 0 = b0) (h1 : byA s 1 = b1) (h2 : byA s 2 = b2) (hb : 224 ≤ b0) (hb2 : b0 < 240) (h : 3 ≤ s.size) (l1 : b1 < 256) (l2 : b2 < 256) (hk1 : b1 / 64 = 2) (hk2 : b2 / 64 = 2) (hv : b0 % 16 * 4096 + b1 % 64 * 64 + b2 % 64 = v) (g1 : 2048 ≤ v) (g2 : v < 55296 ∨ 57344 ≤ v) : Calls Tryz.prog 53 #[.string s] w fun e w' => e = .returned (.tuple #[.int .i64 3, .int .i64 v]) ∧ w = w' := by
 have hs1 := full_of_size (show 1 ≤ s.size by omega)
 have hx0 : ∀ h : 0 < s.size, ((s[0]'h).toNat : Int) = b0 := fun h => by rw [byA_at, h0]
 have H0 := LH h0
 have hx1 : ∀ h : 1 < s.size, ((s[1]'h).toNat : Int) = b1 := fun h => by rw [byA_at, h1]
 have H1 := LH h1
 have hx2 : ∀ h : 2 < s.size, ((s[2]'h).toNat : Int) = b2 := fun h => by rw [byA_at, h2]
 have H2 := LH h2
 have q1 : ((b1 : Int) / 64 != 2) = false := by simp; omega
 have q2 : ((b2 : Int) / 64 != 2) = false := by simp; omega
 have m0 := and15 b0 (by omega)
 obtain ⟨c0, hc0⟩ : ∃ c0, b0 % 16 = c0 := ⟨_, rfl⟩
 rw [hc0] at m0
 have c0lt : c0 < 16 := by omega
 obtain ⟨c1, hc1⟩ : ∃ c, c0 * 64 + b1 % 64 = c := ⟨_, rfl⟩
 have m1 := or64 c0 b1 c1 (by omega) hc1
 have c1lt : c1 < 1024 := by omega
 obtain ⟨c2, hc2⟩ : ∃ c, c1 * 64 + b2 % 64 = c := ⟨_, rfl⟩
 have m2 := or64 c1 b2 c2 (by omega) hc2
 have c2lt : c2 < 65536 := by omega
 have hvc : c2 = v := by omega
 subst hvc
 clear hc0 hc1 hc2 h0 h1 h2 hk1 hk2 hv
 rcases g2 with g2 | g2
 all_goals
  go_enter Tryz.func53, Tryz.ntmps53
  go_wp2
  refine wp_loop_rounds 3 ?_
  rw [rounds_succ]
  go_wp2
  rw [rounds_succ]
  go_wp2
  rw [rounds_succ]
  go_wp2
  go_ret2
  exact ⟨rfl, rfl⟩
theorem extRune_good4 (s : ByteArray) (w : World) (b0 b1 b2 b3 v : Nat) (h0 : byA s 0 = b0) (h1 : byA s 1 = b1) (h2 : byA s 2 = b2) (h3 : byA s 3 = b3) (hb : 240 ≤ b0) (hb2 : b0 < 245) (h : 4 ≤ s.size) (l1 : b1 < 256) (l2 : b2 < 256) (l3 : b3 < 256) (hk1 : b1 / 64 = 2) (hk2 : b2 / 64 = 2) (hk3 : b3 / 64 = 2) (hv : b0 % 8 * 262144 + b1 % 64 * 4096 + b2 % 64 * 64 + b3 % 64 = v) (g1 : 65536 ≤ v) (g2 : v ≤ 1114111) : Calls Tryz.prog 53 #[.string s] w fun e w' => e = .returned (.tuple #[.int .i64 4, .int .i64 v]) ∧ w = w' := by
 have hs1 := full_of_size (show 1 ≤ s.size by omega)
 have hx0 : ∀ h : 0 < s.size, ((s[0]'h).toNat : Int) = b0 := fun h => by rw [byA_at, h0]
 have H0 := LH h0
 have hx1 : ∀ h : 1 < s.size, ((s[1]'h).toNat : Int) = b1 := fun h => by rw [byA_at, h1]
 have H1 := LH h1
 have hx2 : ∀ h : 2 < s.size, ((s[2]'h).toNat : Int) = b2 := fun h => by rw [byA_at, h2]
 have H2 := LH h2
 have hx3 : ∀ h : 3 < s.size, ((s[3]'h).toNat : Int) = b3 := fun h => by rw [byA_at, h3]
 have H3 := LH h3
 have q1 : ((b1 : Int) / 64 != 2) = false := by simp; omega
 have q2 : ((b2 : Int) / 64 != 2) = false := by simp; omega
 have q3 : ((b3 : Int) / 64 != 2) = false := by simp; omega
 have m0 := and7 b0 (by omega)
 obtain ⟨c0, hc0⟩ : ∃ c0, b0 % 8 = c0 := ⟨_, rfl⟩
 rw [hc0] at m0
 have c0lt : c0 < 8 := by omega
 obtain ⟨c1, hc1⟩ : ∃ c, c0 * 64 + b1 % 64 = c := ⟨_, rfl⟩
 have m1 := or64 c0 b1 c1 (by omega) hc1
 have c1lt : c1 < 512 := by omega
 obtain ⟨c2, hc2⟩ : ∃ c, c1 * 64 + b2 % 64 = c := ⟨_, rfl⟩
 have m2 := or64 c1 b2 c2 (by omega) hc2
 have c2lt : c2 < 32768 := by omega
 obtain ⟨c3, hc3⟩ : ∃ c, c2 * 64 + b3 % 64 = c := ⟨_, rfl⟩
 have m3 := or64 c2 b3 c3 (by omega) hc3
 have c3lt : c3 < 2097152 := by omega
 have hvc : c3 = v := by omega
 have g3 : 57344 ≤ v := by omega
 subst hvc
 clear hc0 hc1 hc2 hc3 h0 h1 h2 h3 hk1 hk2 hk3 hv
 go_enter Tryz.func53, Tryz.ntmps53
 go_wp2
 refine wp_loop_rounds 4 ?_
 rw [rounds_succ]
 go_wp2
 rw [rounds_succ]
 go_wp2
 rw [rounds_succ]
 go_wp2
 rw [rounds_succ]
 go_wp2
 go_ret2
 exact ⟨rfl, rfl⟩
theorem extRune_b2_1 (s : ByteArray) (w : World) (b0 b1 : Nat) (h0 : byA s 0 = b0) (h1 : byA s 1 = b1) (hb : 194 ≤ b0) (hb2 : b0 < 224) (h : 2 ≤ s.size) (l1 : b1 < 256)  (hk1 : ¬ b1 / 64 = 2) : Calls Tryz.prog 53 #[.string s] w fun e w' => e = .returned (.tuple #[.int .i64 0, .int .i64 0]) ∧ w = w' := by
 have hs1 := full_of_size (show 1 ≤ s.size by omega)
 have hx0 : ∀ h : 0 < s.size, ((s[0]'h).toNat : Int) = b0 := fun h => by rw [byA_at, h0]
 have H0 := LH h0
 have hx1 : ∀ h : 1 < s.size, ((s[1]'h).toNat : Int) = b1 := fun h => by rw [byA_at, h1]
 have H1 := LH h1
 have q1 : ((b1 : Int) / 64 != 2) = true := by simp; omega
 have m0 := and31 b0 (by omega)
 obtain ⟨c0, hc0⟩ : ∃ c0, b0 % 32 = c0 := ⟨_, rfl⟩
 rw [hc0] at m0
 have c0lt : c0 < 32 := by omega
 clear hc0  h0 h1 hk1
 go_enter Tryz.func53, Tryz.ntmps53
 go_wp2
 refine wp_loop_rounds 1 ?_
 rw [rounds_succ]
 go_wp2
 go_ret2
 exact ⟨rfl, rfl⟩
theorem extRune_b3_1 (s : ByteArray) (w : World) (b0 b1 : Nat) (h0 : byA s 0 = b0) (h1 : byA s 1 = b1) (hb : 224 ≤ b0) (hb2 : b0 < 240) (h : 3 ≤ s.size) (l1 : b1 < 256)  (hk1 : ¬ b1 / 64 = 2) : Calls Tryz.prog 53 #[.string s] w fun e w' => e = .returned (.tuple #[.int .i64 0, .int .i64 0]) ∧ w = w' := by
 have hs1 := full_of_size (show 1 ≤ s.size by omega)
 have hx0 : ∀ h : 0 < s.size, ((s[0]'h).toNat : Int) = b0 := fun h => by rw [byA_at, h0]
 have H0 := LH h0
 have hx1 : ∀ h : 1 < s.size, ((s[1]'h).toNat : Int) = b1 := fun h => by rw [byA_at, h1]
 have H1 := LH h1
 have q1 : ((b1 : Int) / 64 != 2) = true := by simp; omega
 have m0 := and15 b0 (by omega)
 obtain ⟨c0, hc0⟩ : ∃ c0, b0 % 16 = c0 := ⟨_, rfl⟩
 rw [hc0] at m0
 have c0lt : c0 < 16 := by omega
 clear hc0  h0 h1 hk1
 go_enter Tryz.func53, Tryz.ntmps53
 go_wp2
 refine wp_loop_rounds 1 ?_
 rw [rounds_succ]
 go_wp2
 go_ret2
 exact ⟨rfl, rfl⟩
theorem extRune_b3_2 (s : ByteArray) (w : World) (b0 b1 b2 : Nat) (h0 : byA s 0 = b0) (h1 : byA s 1 = b1) (h2 : byA s 2 = b2) (hb : 224 ≤ b0) (hb2 : b0 < 240) (h : 3 ≤ s.size) (l1 : b1 < 256) (l2 : b2 < 256) (hk1 : b1 / 64 = 2) (hk2 : ¬ b2 / 64 = 2) : Calls Tryz.prog 53 #[.string s] w fun e w' => e = .returned (.tuple #[.int .i64 0, .int .i64 0]) ∧ w = w' := by
 have hs1 := full_of_size (show 1 ≤ s.size by omega)
 have hx0 : ∀ h : 0 < s.size, ((s[0]'h).toNat : Int) = b0 := fun h => by rw [byA_at, h0]
 have H0 := LH h0
 have hx1 : ∀ h : 1 < s.size, ((s[1]'h).toNat : Int) = b1 := fun h => by rw [byA_at, h1]
 have H1 := LH h1
 have hx2 : ∀ h : 2 < s.size, ((s[2]'h).toNat : Int) = b2 := fun h => by rw [byA_at, h2]
 have H2 := LH h2
 have q1 : ((b1 : Int) / 64 != 2) = false := by simp; omega
 have q2 : ((b2 : Int) / 64 != 2) = true := by simp; omega
 have m0 := and15 b0 (by omega)
 obtain ⟨c0, hc0⟩ : ∃ c0, b0 % 16 = c0 := ⟨_, rfl⟩
 rw [hc0] at m0
 have c0lt : c0 < 16 := by omega
 obtain ⟨c1, hc1⟩ : ∃ c, c0 * 64 + b1 % 64 = c := ⟨_, rfl⟩
 have m1 := or64 c0 b1 c1 (by omega) hc1
 have c1lt : c1 < 1024 := by omega
 clear hc0 hc1 h0 h1 h2 hk1 hk2
 go_enter Tryz.func53, Tryz.ntmps53
 go_wp2
 refine wp_loop_rounds 2 ?_
 rw [rounds_succ]
 go_wp2
 rw [rounds_succ]
 go_wp2
 go_ret2
 exact ⟨rfl, rfl⟩
theorem extRune_b4_1 (s : ByteArray) (w : World) (b0 b1 : Nat) (h0 : byA s 0 = b0) (h1 : byA s 1 = b1) (hb : 240 ≤ b0) (hb2 : b0 < 245) (h : 4 ≤ s.size) (l1 : b1 < 256)  (hk1 : ¬ b1 / 64 = 2) : Calls Tryz.prog 53 #[.string s] w fun e w' => e = .returned (.tuple #[.int .i64 0, .int .i64 0]) ∧ w = w' := by
 have hs1 := full_of_size (show 1 ≤ s.size by omega)
 have hx0 : ∀ h : 0 < s.size, ((s[0]'h).toNat : Int) = b0 := fun h => by rw [byA_at, h0]
 have H0 := LH h0
 have hx1 : ∀ h : 1 < s.size, ((s[1]'h).toNat : Int) = b1 := fun h => by rw [byA_at, h1]
 have H1 := LH h1
 have q1 : ((b1 : Int) / 64 != 2) = true := by simp; omega
 have m0 := and7 b0 (by omega)
 obtain ⟨c0, hc0⟩ : ∃ c0, b0 % 8 = c0 := ⟨_, rfl⟩
 rw [hc0] at m0
 have c0lt : c0 < 8 := by omega
 clear hc0  h0 h1 hk1
 go_enter Tryz.func53, Tryz.ntmps53
 go_wp2
 refine wp_loop_rounds 1 ?_
 rw [rounds_succ]
 go_wp2
 go_ret2
 exact ⟨rfl, rfl⟩
theorem extRune_b4_2 (s : ByteArray) (w : World) (b0 b1 b2 : Nat) (h0 : byA s 0 = b0) (h1 : byA s 1 = b1) (h2 : byA s 2 = b2) (hb : 240 ≤ b0) (hb2 : b0 < 245) (h : 4 ≤ s.size) (l1 : b1 < 256) (l2 : b2 < 256) (hk1 : b1 / 64 = 2) (hk2 : ¬ b2 / 64 = 2) : Calls Tryz.prog 53 #[.string s] w fun e w' => e = .returned (.tuple #[.int .i64 0, .int .i64 0]) ∧ w = w' := by
 have hs1 := full_of_size (show 1 ≤ s.size by omega)
 have hx0 : ∀ h : 0 < s.size, ((s[0]'h).toNat : Int) = b0 := fun h => by rw [byA_at, h0]
 have H0 := LH h0
 have hx1 : ∀ h : 1 < s.size, ((s[1]'h).toNat : Int) = b1 := fun h => by rw [byA_at, h1]
 have H1 := LH h1
 have hx2 : ∀ h : 2 < s.size, ((s[2]'h).toNat : Int) = b2 := fun h => by rw [byA_at, h2]
 have H2 := LH h2
 have q1 : ((b1 : Int) / 64 != 2) = false := by simp; omega
 have q2 : ((b2 : Int) / 64 != 2) = true := by simp; omega
 have m0 := and7 b0 (by omega)
 obtain ⟨c0, hc0⟩ : ∃ c0, b0 % 8 = c0 := ⟨_, rfl⟩
 rw [hc0] at m0
 have c0lt : c0 < 8 := by omega
 obtain ⟨c1, hc1⟩ : ∃ c, c0 * 64 + b1 % 64 = c := ⟨_, rfl⟩
 have m1 := or64 c0 b1 c1 (by omega) hc1
 have c1lt : c1 < 512 := by omega
 clear hc0 hc1 h0 h1 h2 hk1 hk2
 go_enter Tryz.func53, Tryz.ntmps53
 go_wp2
 refine wp_loop_rounds 2 ?_
 rw [rounds_succ]
 go_wp2
 rw [rounds_succ]
 go_wp2
 go_ret2
 exact ⟨rfl, rfl⟩
theorem extRune_b4_3 (s : ByteArray) (w : World) (b0 b1 b2 b3 : Nat) (h0 : byA s 0 = b0) (h1 : byA s 1 = b1) (h2 : byA s 2 = b2) (h3 : byA s 3 = b3) (hb : 240 ≤ b0) (hb2 : b0 < 245) (h : 4 ≤ s.size) (l1 : b1 < 256) (l2 : b2 < 256) (l3 : b3 < 256) (hk1 : b1 / 64 = 2) (hk2 : b2 / 64 = 2) (hk3 : ¬ b3 / 64 = 2) : Calls Tryz.prog 53 #[.string s] w fun e w' => e = .returned (.tuple #[.int .i64 0, .int .i64 0]) ∧ w = w' := by
 have hs1 := full_of_size (show 1 ≤ s.size by omega)
 have hx0 : ∀ h : 0 < s.size, ((s[0]'h).toNat : Int) = b0 := fun h => by rw [byA_at, h0]
 have H0 := LH h0
 have hx1 : ∀ h : 1 < s.size, ((s[1]'h).toNat : Int) = b1 := fun h => by rw [byA_at, h1]
 have H1 := LH h1
 have hx2 : ∀ h : 2 < s.size, ((s[2]'h).toNat : Int) = b2 := fun h => by rw [byA_at, h2]
 have H2 := LH h2
 have hx3 : ∀ h : 3 < s.size, ((s[3]'h).toNat : Int) = b3 := fun h => by rw [byA_at, h3]
 have H3 := LH h3
 have q1 : ((b1 : Int) / 64 != 2) = false := by simp; omega
 have q2 : ((b2 : Int) / 64 != 2) = false := by simp; omega
 have q3 : ((b3 : Int) / 64 != 2) = true := by simp; omega
 have m0 := and7 b0 (by omega)
 obtain ⟨c0, hc0⟩ : ∃ c0, b0 % 8 = c0 := ⟨_, rfl⟩
 rw [hc0] at m0
 have c0lt : c0 < 8 := by omega
 obtain ⟨c1, hc1⟩ : ∃ c, c0 * 64 + b1 % 64 = c := ⟨_, rfl⟩
 have m1 := or64 c0 b1 c1 (by omega) hc1
 have c1lt : c1 < 512 := by omega
 obtain ⟨c2, hc2⟩ : ∃ c, c1 * 64 + b2 % 64 = c := ⟨_, rfl⟩
 have m2 := or64 c1 b2 c2 (by omega) hc2
 have c2lt : c2 < 32768 := by omega
 clear hc0 hc1 hc2 h0 h1 h2 h3 hk1 hk2 hk3
 go_enter Tryz.func53, Tryz.ntmps53
 go_wp2
 refine wp_loop_rounds 3 ?_
 rw [rounds_succ]
 go_wp2
 rw [rounds_succ]
 go_wp2
 rw [rounds_succ]
 go_wp2
 go_ret2
 exact ⟨rfl, rfl⟩
theorem extRune_b3_3l (s : ByteArray) (w : World) (b0 b1 b2 : Nat) (h0 : byA s 0 = b0) (h1 : byA s 1 = b1) (h2 : byA s 2 = b2) (hb : 224 ≤ b0) (hb2 : b0 < 240) (h : 3 ≤ s.size) (l1 : b1 < 256) (l2 : b2 < 256) (hk1 : b1 / 64 = 2) (hk2 : b2 / 64 = 2) (v : Nat) (hv : b0 % 16 * 4096 + b1 % 64 * 64 + b2 % 64 = v) (g1 : v < 2048) : Calls Tryz.prog 53 #[.string s] w fun e w' => e = .returned (.tuple #[.int .i64 0, .int .i64 0]) ∧ w = w' := by
 have hs1 := full_of_size (show 1 ≤ s.size by omega)
 have hx0 : ∀ h : 0 < s.size, ((s[0]'h).toNat : Int) = b0 := fun h => by rw [byA_at, h0]
 have H0 := LH h0
 have hx1 : ∀ h : 1 < s.size, ((s[1]'h).toNat : Int) = b1 := fun h => by rw [byA_at, h1]
 have H1 := LH h1
 have hx2 : ∀ h : 2 < s.size, ((s[2]'h).toNat : Int) = b2 := fun h => by rw [byA_at, h2]
 have H2 := LH h2
 have q1 : ((b1 : Int) / 64 != 2) = false := by simp; omega
 have q2 : ((b2 : Int) / 64 != 2) = false := by simp; omega
 have m0 := and15 b0 (by omega)
 obtain ⟨c0, hc0⟩ : ∃ c0, b0 % 16 = c0 := ⟨_, rfl⟩
 rw [hc0] at m0
 have c0lt : c0 < 16 := by omega
 obtain ⟨c1, hc1⟩ : ∃ c, c0 * 64 + b1 % 64 = c := ⟨_, rfl⟩
 have m1 := or64 c0 b1 c1 (by omega) hc1
 have c1lt : c1 < 1024 := by omega
 obtain ⟨c2, hc2⟩ : ∃ c, c1 * 64 + b2 % 64 = c := ⟨_, rfl⟩
 have m2 := or64 c1 b2 c2 (by omega) hc2
 have c2lt : c2 < 65536 := by omega
 have hvc : c2 = v := by omega
 subst hvc
 clear hc0 hc1 hc2 h0 h1 h2 hk1 hk2 hv
 go_enter Tryz.func53, Tryz.ntmps53
 go_wp2
 refine wp_loop_rounds 3 ?_
 rw [rounds_succ]
 go_wp2
 rw [rounds_succ]
 go_wp2
 rw [rounds_succ]
 go_wp2
 go_ret2
 exact ⟨rfl, rfl⟩
theorem extRune_b3_3s (s : ByteArray) (w : World) (b0 b1 b2 : Nat) (h0 : byA s 0 = b0) (h1 : byA s 1 = b1) (h2 : byA s 2 = b2) (hb : 224 ≤ b0) (hb2 : b0 < 240) (h : 3 ≤ s.size) (l1 : b1 < 256) (l2 : b2 < 256) (hk1 : b1 / 64 = 2) (hk2 : b2 / 64 = 2) (v : Nat) (hv : b0 % 16 * 4096 + b1 % 64 * 64 + b2 % 64 = v) (g0 : 2048 ≤ v) (g1 : 55296 ≤ v) (g2 : v < 57344) : Calls Tryz.prog 53 #[.string s] w fun e w' => e = .returned (.tuple #[.int .i64 0, .int .i64 0]) ∧ w = w' := by
 have hs1 := full_of_size (show 1 ≤ s.size by omega)
 have hx0 : ∀ h : 0 < s.size, ((s[0]'h).toNat : Int) = b0 := fun h => by rw [byA_at, h0]
 have H0 := LH h0
 have hx1 : ∀ h : 1 < s.size, ((s[1]'h).toNat : Int) = b1 := fun h => by rw [byA_at, h1]
 have H1 := LH h1
 have hx2 : ∀ h : 2 < s.size, ((s[2]'h).toNat : Int) = b2 := fun h => by rw [byA_at, h2]
 have H2 := LH h2
 have q1 : ((b1 : Int) / 64 != 2) = false := by simp; omega
 have q2 : ((b2 : Int) / 64 != 2) = false := by simp; omega
 have m0 := and15 b0 (by omega)
 obtain ⟨c0, hc0⟩ : ∃ c0, b0 % 16 = c0 := ⟨_, rfl⟩
 rw [hc0] at m0
 have c0lt : c0 < 16 := by omega
 obtain ⟨c1, hc1⟩ : ∃ c, c0 * 64 + b1 % 64 = c := ⟨_, rfl⟩
 have m1 := or64 c0 b1 c1 (by omega) hc1
 have c1lt : c1 < 1024 := by omega
 obtain ⟨c2, hc2⟩ : ∃ c, c1 * 64 + b2 % 64 = c := ⟨_, rfl⟩
 have m2 := or64 c1 b2 c2 (by omega) hc2
 have c2lt : c2 < 65536 := by omega
 have hvc : c2 = v := by omega
 subst hvc
 clear hc0 hc1 hc2 h0 h1 h2 hk1 hk2 hv
 go_enter Tryz.func53, Tryz.ntmps53
 go_wp2
 refine wp_loop_rounds 3 ?_
 rw [rounds_succ]
 go_wp2
 rw [rounds_succ]
 go_wp2
 rw [rounds_succ]
 go_wp2
 go_ret2
 exact ⟨rfl, rfl⟩
theorem extRune_b4_4l (s : ByteArray) (w : World) (b0 b1 b2 b3 : Nat) (h0 : byA s 0 = b0) (h1 : byA s 1 = b1) (h2 : byA s 2 = b2) (h3 : byA s 3 = b3) (hb : 240 ≤ b0) (hb2 : b0 < 245) (h : 4 ≤ s.size) (l1 : b1 < 256) (l2 : b2 < 256) (l3 : b3 < 256) (hk1 : b1 / 64 = 2) (hk2 : b2 / 64 = 2) (hk3 : b3 / 64 = 2) (v : Nat) (hv : b0 % 8 * 262144 + b1 % 64 * 4096 + b2 % 64 * 64 + b3 % 64 = v) (g1 : v < 65536) : Calls Tryz.prog 53 #[.string s] w fun e w' => e = .returned (.tuple #[.int .i64 0, .int .i64 0]) ∧ w = w' := by
 have hs1 := full_of_size (show 1 ≤ s.size by omega)
 have hx0 : ∀ h : 0 < s.size, ((s[0]'h).toNat : Int) = b0 := fun h => by rw [byA_at, h0]
 have H0 := LH h0
 have hx1 : ∀ h : 1 < s.size, ((s[1]'h).toNat : Int) = b1 := fun h => by rw [byA_at, h1]
 have H1 := LH h1
 have hx2 : ∀ h : 2 < s.size, ((s[2]'h).toNat : Int) = b2 := fun h => by rw [byA_at, h2]
 have H2 := LH h2
 have hx3 : ∀ h : 3 < s.size, ((s[3]'h).toNat : Int) = b3 := fun h => by rw [byA_at, h3]
 have H3 := LH h3
 have q1 : ((b1 : Int) / 64 != 2) = false := by simp; omega
 have q2 : ((b2 : Int) / 64 != 2) = false := by simp; omega
 have q3 : ((b3 : Int) / 64 != 2) = false := by simp; omega
 have m0 := and7 b0 (by omega)
 obtain ⟨c0, hc0⟩ : ∃ c0, b0 % 8 = c0 := ⟨_, rfl⟩
 rw [hc0] at m0
 have c0lt : c0 < 8 := by omega
 obtain ⟨c1, hc1⟩ : ∃ c, c0 * 64 + b1 % 64 = c := ⟨_, rfl⟩
 have m1 := or64 c0 b1 c1 (by omega) hc1
 have c1lt : c1 < 512 := by omega
 obtain ⟨c2, hc2⟩ : ∃ c, c1 * 64 + b2 % 64 = c := ⟨_, rfl⟩
 have m2 := or64 c1 b2 c2 (by omega) hc2
 have c2lt : c2 < 32768 := by omega
 obtain ⟨c3, hc3⟩ : ∃ c, c2 * 64 + b3 % 64 = c := ⟨_, rfl⟩
 have m3 := or64 c2 b3 c3 (by omega) hc3
 have c3lt : c3 < 2097152 := by omega
 have hvc : c3 = v := by omega
 subst hvc
 clear hc0 hc1 hc2 hc3 h0 h1 h2 h3 hk1 hk2 hk3 hv
 go_enter Tryz.func53, Tryz.ntmps53
 go_wp2
 refine wp_loop_rounds 4 ?_
 rw [rounds_succ]
 go_wp2
 rw [rounds_succ]
 go_wp2
 rw [rounds_succ]
 go_wp2
 rw [rounds_succ]
 go_wp2
 go_ret2
 exact ⟨rfl, rfl⟩
theorem extRune_b4_4s (s : ByteArray) (w : World) (b0 b1 b2 b3 : Nat) (h0 : byA s 0 = b0) (h1 : byA s 1 = b1) (h2 : byA s 2 = b2) (h3 : byA s 3 = b3) (hb : 240 ≤ b0) (hb2 : b0 < 245) (h : 4 ≤ s.size) (l1 : b1 < 256) (l2 : b2 < 256) (l3 : b3 < 256) (hk1 : b1 / 64 = 2) (hk2 : b2 / 64 = 2) (hk3 : b3 / 64 = 2) (v : Nat) (hv : b0 % 8 * 262144 + b1 % 64 * 4096 + b2 % 64 * 64 + b3 % 64 = v) (g0 : 65536 ≤ v) (g1 : 1114111 < v) : Calls Tryz.prog 53 #[.string s] w fun e w' => e = .returned (.tuple #[.int .i64 0, .int .i64 0]) ∧ w = w' := by
 have hs1 := full_of_size (show 1 ≤ s.size by omega)
 have hx0 : ∀ h : 0 < s.size, ((s[0]'h).toNat : Int) = b0 := fun h => by rw [byA_at, h0]
 have H0 := LH h0
 have hx1 : ∀ h : 1 < s.size, ((s[1]'h).toNat : Int) = b1 := fun h => by rw [byA_at, h1]
 have H1 := LH h1
 have hx2 : ∀ h : 2 < s.size, ((s[2]'h).toNat : Int) = b2 := fun h => by rw [byA_at, h2]
 have H2 := LH h2
 have hx3 : ∀ h : 3 < s.size, ((s[3]'h).toNat : Int) = b3 := fun h => by rw [byA_at, h3]
 have H3 := LH h3
 have q1 : ((b1 : Int) / 64 != 2) = false := by simp; omega
 have q2 : ((b2 : Int) / 64 != 2) = false := by simp; omega
 have q3 : ((b3 : Int) / 64 != 2) = false := by simp; omega
 have m0 := and7 b0 (by omega)
 obtain ⟨c0, hc0⟩ : ∃ c0, b0 % 8 = c0 := ⟨_, rfl⟩
 rw [hc0] at m0
 have c0lt : c0 < 8 := by omega
 obtain ⟨c1, hc1⟩ : ∃ c, c0 * 64 + b1 % 64 = c := ⟨_, rfl⟩
 have m1 := or64 c0 b1 c1 (by omega) hc1
 have c1lt : c1 < 512 := by omega
 obtain ⟨c2, hc2⟩ : ∃ c, c1 * 64 + b2 % 64 = c := ⟨_, rfl⟩
 have m2 := or64 c1 b2 c2 (by omega) hc2
 have c2lt : c2 < 32768 := by omega
 obtain ⟨c3, hc3⟩ : ∃ c, c2 * 64 + b3 % 64 = c := ⟨_, rfl⟩
 have m3 := or64 c2 b3 c3 (by omega) hc3
 have c3lt : c3 < 2097152 := by omega
 have hvc : c3 = v := by omega
 subst hvc
 clear hc0 hc1 hc2 hc3 h0 h1 h2 h3 hk1 hk2 hk3 hv
 go_enter Tryz.func53, Tryz.ntmps53
 go_wp2
 refine wp_loop_rounds 4 ?_
 rw [rounds_succ]
 go_wp2
 rw [rounds_succ]
 go_wp2
 rw [rounds_succ]
 go_wp2
 rw [rounds_succ]
 go_wp2
 go_ret2
 exact ⟨rfl, rfl⟩
theorem extRune_any (s : ByteArray) (w : World) : Calls Tryz.prog 53 #[.string s] w fun e w' => e = .returned (.tuple #[.int .i64 ((xrS s).1 : Int), .int .i64 ((xrS s).2 : Int)]) ∧ w = w' := by
 have l0 := byA_lt s 0
 have l1 := byA_lt s 1
 have l2 := byA_lt s 2
 have l3 := byA_lt s 3
 unfold xrS
 by_cases h0 : s.size = 0
 ·rw [h0]; exact extRune_nil s w h0
 by_cases h1 : byA s 0 < 128
 ·rw [xrN_one _ _ _ _ _ (by omega) h1]; exact extRune_one s w (by omega) _ rfl h1
 by_cases h2 : ¬ (194 ≤ byA s 0 ∧ byA s 0 < 245)
 ·rw [xrN_bad _ _ _ _ _ (by omega) l0 h2]; exact extRune_bad s w (by omega) _ rfl (by omega) l0 (by omega)
 have h3 := Decidable.not_not.1 h2
 by_cases c2 : byA s 0 < 224
 ·by_cases hn : s.size < 2
  ·rw [xrN_short2 _ _ _ _ _ ⟨h3.1, c2⟩ hn]; exact extRune_short s w (by omega) _ rfl (by omega)
  ·by_cases k1 : byA s 1 / 64 = 2
   ·rw [xrN_good2 _ _ _ _ _ ⟨h3.1, c2⟩ (by omega) k1]; exact extRune_good2 s w _ _ _ rfl rfl h3.1 c2 (by omega) l1 k1 rfl
   ·rw [xrN_bad2 _ _ _ _ _ ⟨h3.1, c2⟩ k1]; exact extRune_b2_1 s w _ _ rfl rfl h3.1 c2 (by omega) l1 k1
 by_cases c3 : byA s 0 < 240
 ·by_cases hn : s.size < 3
  ·rw [xrN_short3 _ _ _ _ _ ⟨by omega, c3⟩ hn]; exact extRune_short s w (by omega) _ rfl (by omega)
  ·by_cases k1 : byA s 1 / 64 = 2
   ·by_cases k2 : byA s 2 / 64 = 2
    ·by_cases v1 : byA s 0 % 16 * 4096 + byA s 1 % 64 * 64 + byA s 2 % 64 < 2048
     ·rw [xrN_bad3 _ _ _ _ _ ⟨by omega, c3⟩ (by omega)]; exact extRune_b3_3l s w _ _ _ rfl rfl rfl (by omega) c3 (by omega) l1 l2 k1 k2 _ rfl v1
     ·by_cases v2 : 55296 ≤ byA s 0 % 16 * 4096 + byA s 1 % 64 * 64 + byA s 2 % 64 ∧ byA s 0 % 16 * 4096 + byA s 1 % 64 * 64 + byA s 2 % 64 < 57344
      ·rw [xrN_bad3 _ _ _ _ _ ⟨by omega, c3⟩ (by omega)]; exact extRune_b3_3s s w _ _ _ rfl rfl rfl (by omega) c3 (by omega) l1 l2 k1 k2 _ rfl (by omega) v2.1 v2.2
      ·rw [xrN_good3 _ _ _ _ _ ⟨by omega, c3⟩ (by omega) k1 k2 (by omega) (by omega)]; exact extRune_good3 s w _ _ _ _ rfl rfl rfl (by omega) c3 (by omega) l1 l2 k1 k2 rfl (by omega) (by omega)
    ·rw [xrN_bad3 _ _ _ _ _ ⟨by omega, c3⟩ (by omega)]; exact extRune_b3_2 s w _ _ _ rfl rfl rfl (by omega) c3 (by omega) l1 l2 k1 k2
   ·rw [xrN_bad3 _ _ _ _ _ ⟨by omega, c3⟩ (by omega)]; exact extRune_b3_1 s w _ _ rfl rfl (by omega) c3 (by omega) l1 k1
 ·by_cases hn : s.size < 4
  ·rw [xrN_short4 _ _ _ _ _ ⟨by omega, by omega⟩ hn]; exact extRune_short s w (by omega) _ rfl (by omega)
  ·by_cases k1 : byA s 1 / 64 = 2
   ·by_cases k2 : byA s 2 / 64 = 2
    ·by_cases k3 : byA s 3 / 64 = 2
     ·by_cases v1 : byA s 0 % 8 * 262144 + byA s 1 % 64 * 4096 + byA s 2 % 64 * 64 + byA s 3 % 64 < 65536
      ·rw [xrN_bad4 _ _ _ _ _ ⟨by omega, by omega⟩ (by omega)]; exact extRune_b4_4l s w _ _ _ _ rfl rfl rfl rfl (by omega) (by omega) (by omega) l1 l2 l3 k1 k2 k3 _ rfl v1
      ·by_cases v2 : 1114111 < byA s 0 % 8 * 262144 + byA s 1 % 64 * 4096 + byA s 2 % 64 * 64 + byA s 3 % 64
       ·rw [xrN_bad4 _ _ _ _ _ ⟨by omega, by omega⟩ (by omega)]; exact extRune_b4_4s s w _ _ _ _ rfl rfl rfl rfl (by omega) (by omega) (by omega) l1 l2 l3 k1 k2 k3 _ rfl (by omega) v2
       ·rw [xrN_good4 _ _ _ _ _ ⟨by omega, by omega⟩ (by omega) k1 k2 k3 (by omega) (by omega)]; exact extRune_good4 s w _ _ _ _ _ rfl rfl rfl rfl (by omega) (by omega) (by omega) l1 l2 l3 k1 k2 k3 rfl (by omega) (by omega)
     ·rw [xrN_bad4 _ _ _ _ _ ⟨by omega, by omega⟩ (by omega)]; exact extRune_b4_3 s w _ _ _ _ rfl rfl rfl rfl (by omega) (by omega) (by omega) l1 l2 l3 k1 k2 k3
    ·rw [xrN_bad4 _ _ _ _ _ ⟨by omega, by omega⟩ (by omega)]; exact extRune_b4_2 s w _ _ _ rfl rfl rfl (by omega) (by omega) (by omega) l1 l2 k1 k2
   ·rw [xrN_bad4 _ _ _ _ _ ⟨by omega, by omega⟩ (by omega)]; exact extRune_b4_1 s w _ _ rfl rfl (by omega) (by omega) (by omega) l1 k1
def xrA (s : ByteArray) (i : Nat) : Nat × Nat := xrN (s.size - i) (byA s i) (byA s (i + 1)) (byA s (i + 2)) (byA s (i + 3))
theorem ex_size (s : ByteArray) (i : Nat) : (s.extract i s.size).size = s.size - i := by simp [ByteArray.size_extract]
theorem ex_byA (s : ByteArray) (i j : Nat) : byA (s.extract i s.size) j = byA s (i + j) := by
 unfold byA
 rw [Lib.extract_data, show (s.data.toList.drop i).take (s.size - i) = s.data.toList.drop i from List.take_of_length_le (by rw [List.length_drop, Array.length_toList]; show s.size - i ≤ s.size - i; omega)]
 simp [List.getD_eq_getElem?_getD, List.getElem?_drop]
theorem xrA_eq (s : ByteArray) (i : Nat) : xrS (s.extract i s.size) = xrA s i := by
 unfold xrS xrA
 rw [ex_size, ex_byA, ex_byA, ex_byA, ex_byA, Nat.add_zero]
theorem xrA_le (s : ByteArray) (i : Nat) (h : i < s.size) : i + (xrA s i).1 ≤ s.size := by
 unfold xrA xrN
 rw [if_neg (by omega)]
 split
 ·show i + 0 ≤ _; omega
 ·have := Lib.decodeN_le_n' (s.size - i) (byA s i) (byA s (i + 1)) (byA s (i + 2)) (byA s (i + 3)) (by omega)
  show i + (Lib.decodeN _ _ _ _ _).2 ≤ _
  omega
def u8At (s : ByteArray) : Nat → Nat → Prop
 | 0, i => s.size ≤ i
 | f + 1, i => s.size ≤ i ∨ (1 ≤ (xrA s i).1 ∧ u8At s f (i + (xrA s i).1))
def UT (s : ByteArray) : Prop := u8At s s.size 0
theorem extRune_at (s : ByteArray) (i : Nat) (w : World) : Calls Tryz.prog 53 #[.string (s.extract i s.size)] w fun e w' => e = .returned (.tuple #[.int .i64 ((xrA s i).1 : Int), .int .i64 ((xrA s i).2 : Int)]) ∧ w = w' := by
 have := extRune_any (s.extract i s.size) w
 rw [xrA_eq] at this
 exact this
def U8Post (s : ByteArray) (w : World) (e : Ending) (w' : World) : Prop := ∃ b : Bool, e = .returned (.bool b) ∧ w = w' ∧ (b = true → UT s)
def TextPost (s : ByteArray) (w : World) (e : Ending) (w' : World) : Prop := ∃ b : Bool, e = .returned (.bool b) ∧ w = w' ∧ (b = true → s.size ≤ 300 ∧ UT s)
def bk (l : List UInt8) : Nat → Nat
 | 0 => 0
 | i + 1 => if (l.getD (i + 1) 0).toNat / 64 = 2 then bk l i else i + 1
def cutL (l : List UInt8) (n : Nat) : List UInt8 := if l.length ≤ n then l else l.take (bk l n)
def hdOk (l : List UInt8) : Prop := (l.getD 0 0).toNat / 64 ≠ 2
theorem bk_le (l : List UInt8) : ∀ i, bk l i ≤ i
 | 0 => Nat.le_refl 0
 | i + 1 => by
  unfold bk
  split
  ·exact Nat.le_succ_of_le (bk_le l i)
  ·exact Nat.le_refl _
theorem getD_lo (a b : List UInt8) (i : Nat) (h : i < a.length) : (a ++ b).getD i 0 = a.getD i 0 := by
 rw [List.getD_eq_getElem?_getD, List.getD_eq_getElem?_getD, List.getElem?_append_left h]
theorem getD_hi (a b : List UInt8) (i : Nat) : (a ++ b).getD (a.length + i) 0 = b.getD i 0 := by
 rw [List.getD_eq_getElem?_getD, List.getD_eq_getElem?_getD, List.getElem?_append_right (by omega), Nat.add_sub_cancel_left]
theorem bk_lo (a b : List UInt8) : ∀ i, i < a.length → bk (a ++ b) i = bk a i
 | 0, _ => rfl
 | i + 1, h => by
  unfold bk
  rw [getD_lo a b _ h, bk_lo a b i (by omega)]
theorem bk_hi (a b : List UInt8) (hb : hdOk b) : ∀ j, bk (a ++ b) (a.length + j) = a.length + bk b j
 | 0 => by
  cases ha : a.length with
  | zero => rfl
  | succ i =>
   have h0 := getD_hi a b 0
   rw [ha] at h0
   show bk (a ++ b) (i + 1) = _
   unfold bk
   rw [show (a ++ b).getD (i + 1) 0 = b.getD 0 0 from h0, if_neg hb]
 | j + 1 => by
  show bk (a ++ b) ((a.length + j) + 1) = _
  unfold bk
  rw [show (a.length + j) + 1 = a.length + (j + 1) from rfl, getD_hi a b (j + 1), bk_hi a b hb j]
  split <;> omega
theorem cut_all (l : List UInt8) (n : Nat) (h : l.length ≤ n) : cutL l n = l := if_pos h
theorem cut_zero (l : List UInt8) : cutL l 0 = [] := by
 unfold cutL
 split
 ·exact List.length_eq_zero_iff.1 (by omega)
 ·rfl
theorem cut_le (l : List UInt8) (n : Nat) : (cutL l n).length ≤ n := by
 unfold cutL
 split
 ·assumption
 ·rw [List.length_take]; have := bk_le l n; omega
theorem cut_lo (a b : List UInt8) (n : Nat) (h : n < a.length) : cutL (a ++ b) n = cutL a n := by
 unfold cutL
 rw [if_neg (by rw [List.length_append]; omega), if_neg (by omega), bk_lo a b n h]
 exact List.take_append_of_le_length (by have := bk_le a n; omega)
theorem cut_hi (a b : List UInt8) (n : Nat) (hb : hdOk b) (h : a.length ≤ n) : cutL (a ++ b) n = a ++ cutL b (n - a.length) := by
 obtain ⟨j, rfl⟩ : ∃ j, n = a.length + j := ⟨n - a.length, by omega⟩
 unfold cutL
 rw [Nat.add_sub_cancel_left, List.length_append, bk_hi a b hb j]
 by_cases hj : b.length ≤ j
 ·rw [if_pos (by omega), if_pos hj]
 ·rw [if_neg (by omega), if_neg hj, List.take_append]
  rw [List.take_of_length_le (by omega), Nat.add_sub_cancel_left]
structure Rn (r : List UInt8) : Prop where
 pos : 1 ≤ r.length
 dec : ∀ t, (xrL (r ++ t)).1 = r.length
 head : hdOk r
 tail : ∀ i, 1 ≤ i → i < r.length → (r.getD i 0).toNat / 64 = 2
inductive VU : List UInt8 → Prop
 | nil : VU []
 | cons (r l : List UInt8) : Rn r → VU l → VU (r ++ l)
theorem VU.append {a b : List UInt8} (ha : VU a) (hb : VU b) : VU (a ++ b) := by
 induction ha with
 | nil => exact hb
 | cons r l hr _ ih => rw [List.append_assoc]; exact .cons r _ hr ih
theorem rn_one (x : UInt8) (h : x.toNat < 128) : Rn [x] := by
 refine ⟨Nat.le_refl 1, fun t => ?_, ?_, fun i h1 h2 => ?_⟩
 ·have := xrN_one (t.length + 1) x.toNat ((x :: t).getD 1 0).toNat ((x :: t).getD 2 0).toNat ((x :: t).getD 3 0).toNat (by omega) h
  exact congrArg Prod.fst this
 ·unfold hdOk
  show x.toNat / 64 ≠ 2
  omega
 ·simp only [List.length_cons, List.length_nil] at h2
  omega
theorem VU.one (x : UInt8) (h : x.toNat < 128) {l : List UInt8} (hl : VU l) : VU (x :: l) := .cons [x] l (rn_one x h) hl
theorem VU.asc : ∀ (l : List UInt8), (∀ b ∈ l, b.toNat < 128) → VU l
 | [], _ => .nil
 | x :: l, h => .one x (h x (by simp)) (VU.asc l (fun b hb => h b (by simp [hb])))
theorem VU.hd {l : List UInt8} (h : VU l) : hdOk l := by
 cases h with
 | nil => unfold hdOk; decide
 | cons r l hr _ =>
  have := hr.head
  have hp := hr.pos
  unfold hdOk at this ⊢
  rwa [getD_lo r l 0 (by omega)]
theorem rn_of (l : List UInt8) (k c : Nat) (h : xrL l = (k, c)) (hk : 1 ≤ k) : Rn (l.take k) ∧ k ≤ l.length := by
 have hne : ∀ q : Nat × Nat, xrL l = q → q ≠ (0, 0) := fun q hq e => by rw [hq.symm.trans h] at e; injection e with e1 _; omega
 rcases l with _ | ⟨x0, l⟩
 ·exact absurd (show xrL [] = (0, 0) from rfl) (fun e => hne _ e rfl)
 have hx0 := x0.toNat_lt
 by_cases a1 : x0.toNat < 128
 ·have := xrN_one (l.length + 1) x0.toNat ((x0 :: l).getD 1 0).toNat ((x0 :: l).getD 2 0).toNat ((x0 :: l).getD 3 0).toNat (by omega) a1
  have e : xrL (x0 :: l) = (1, x0.toNat) := this
  rw [e] at h
  injection h with h1 h2
  subst h1
  exact ⟨rn_one x0 a1, by simp⟩
 by_cases a2 : 194 ≤ x0.toNat ∧ x0.toNat < 224
 ·rcases l with _ | ⟨x1, l⟩
  ·exact absurd (xrN_short2 1 x0.toNat 0 0 0 a2 (by omega)) (fun e => hne _ e rfl)
  by_cases b1 : x1.toNat / 64 = 2
  ·have e : ∀ t : List UInt8, xrL (x0 :: x1 :: t) = (2, _) := fun t => xrN_good2 (t.length + 2) x0.toNat x1.toNat ((x0 :: x1 :: t).getD 2 0).toNat ((x0 :: x1 :: t).getD 3 0).toNat a2 (by omega) b1
   rw [e l] at h
   injection h with h1 h2
   subst h1
   refine ⟨⟨by simp, fun t => congrArg Prod.fst (e t), by unfold hdOk; show x0.toNat / 64 ≠ 2; omega, fun i i1 i2 => ?_⟩, by simp⟩
   match i, i1, i2 with
   | 1, _, _ => exact b1
   | i + 2, _, i2 => (have i3 : i + 2 < 2 := i2); omega
  ·exact absurd (xrN_bad2 (l.length + 2) x0.toNat x1.toNat ((x0 :: x1 :: l).getD 2 0).toNat ((x0 :: x1 :: l).getD 3 0).toNat a2 b1) (fun e => hne _ e rfl)
 by_cases a3 : 224 ≤ x0.toNat ∧ x0.toNat < 240
 ·rcases l with _ | ⟨x1, _ | ⟨x2, l⟩⟩
  ·exact absurd (xrN_short3 1 x0.toNat 0 0 0 a3 (by omega)) (fun e => hne _ e rfl)
  ·exact absurd (xrN_short3 2 x0.toNat x1.toNat 0 0 a3 (by omega)) (fun e => hne _ e rfl)
  by_cases b1 : x1.toNat / 64 = 2 ∧ x2.toNat / 64 = 2 ∧ 2048 ≤ x0.toNat % 16 * 4096 + x1.toNat % 64 * 64 + x2.toNat % 64 ∧ (x0.toNat % 16 * 4096 + x1.toNat % 64 * 64 + x2.toNat % 64 < 55296 ∨ 57344 ≤ x0.toNat % 16 * 4096 + x1.toNat % 64 * 64 + x2.toNat % 64)
  ·have e : ∀ t : List UInt8, xrL (x0 :: x1 :: x2 :: t) = (3, _) := fun t => xrN_good3 (t.length + 3) x0.toNat x1.toNat x2.toNat ((x0 :: x1 :: x2 :: t).getD 3 0).toNat a3 (by omega) b1.1 b1.2.1 b1.2.2.1 b1.2.2.2
   rw [e l] at h
   injection h with h1 h2
   subst h1
   refine ⟨⟨by simp, fun t => congrArg Prod.fst (e t), by unfold hdOk; show x0.toNat / 64 ≠ 2; omega, fun i i1 i2 => ?_⟩, by simp⟩
   match i, i1, i2 with
   | 1, _, _ => exact b1.1
   | 2, _, _ => exact b1.2.1
   | i + 3, _, i2 => (have i3 : i + 3 < 3 := i2); omega
  ·exact absurd (xrN_bad3 (l.length + 3) x0.toNat x1.toNat x2.toNat ((x0 :: x1 :: x2 :: l).getD 3 0).toNat a3 b1) (fun e => hne _ e rfl)
 by_cases a4 : 240 ≤ x0.toNat ∧ x0.toNat < 245
 ·rcases l with _ | ⟨x1, _ | ⟨x2, _ | ⟨x3, l⟩⟩⟩
  ·exact absurd (xrN_short4 1 x0.toNat 0 0 0 a4 (by omega)) (fun e => hne _ e rfl)
  ·exact absurd (xrN_short4 2 x0.toNat x1.toNat 0 0 a4 (by omega)) (fun e => hne _ e rfl)
  ·exact absurd (xrN_short4 3 x0.toNat x1.toNat x2.toNat 0 a4 (by omega)) (fun e => hne _ e rfl)
  by_cases b1 : x1.toNat / 64 = 2 ∧ x2.toNat / 64 = 2 ∧ x3.toNat / 64 = 2 ∧ 65536 ≤ x0.toNat % 8 * 262144 + x1.toNat % 64 * 4096 + x2.toNat % 64 * 64 + x3.toNat % 64 ∧ x0.toNat % 8 * 262144 + x1.toNat % 64 * 4096 + x2.toNat % 64 * 64 + x3.toNat % 64 ≤ 1114111
  ·have e : ∀ t : List UInt8, xrL (x0 :: x1 :: x2 :: x3 :: t) = (4, _) := fun t => xrN_good4 (t.length + 4) x0.toNat x1.toNat x2.toNat x3.toNat a4 (by omega) b1.1 b1.2.1 b1.2.2.1 b1.2.2.2.1 b1.2.2.2.2
   rw [e l] at h
   injection h with h1 h2
   subst h1
   refine ⟨⟨by simp, fun t => congrArg Prod.fst (e t), by unfold hdOk; show x0.toNat / 64 ≠ 2; omega, fun i i1 i2 => ?_⟩, by simp⟩
   match i, i1, i2 with
   | 1, _, _ => exact b1.1
   | 2, _, _ => exact b1.2.1
   | 3, _, _ => exact b1.2.2.1
   | i + 4, _, i2 => (have i3 : i + 4 < 4 := i2); omega
  ·exact absurd (xrN_bad4 (l.length + 4) x0.toNat x1.toNat x2.toNat x3.toNat a4 b1) (fun e => hne _ e rfl)
 ·exact absurd (xrN_bad (l.length + 1) x0.toNat ((x0 :: l).getD 1 0).toNat ((x0 :: l).getD 2 0).toNat ((x0 :: l).getD 3 0).toNat (by omega) (by omega) (by omega)) (fun e => hne _ e rfl)
theorem xrA_L (s : ByteArray) (i : Nat) : xrA s i = xrL (s.data.toList.drop i) := by
 have hl : s.data.toList.length = s.size := Array.length_toList
 unfold xrA xrL byA
 simp only [List.length_drop, hl, List.getD_eq_getElem?_getD, List.getElem?_drop, Nat.add_zero]
theorem VU.of_ut (s : ByteArray) : ∀ f i, u8At s f i → VU (s.data.toList.drop i)
 | 0, i, h => by
  rw [List.drop_of_length_le (by rw [Array.length_toList]; exact h)]
  exact .nil
 | f + 1, i, h => by
  rcases h with h | ⟨h1, h2⟩
  ·rw [List.drop_of_length_le (by rw [Array.length_toList]; exact h)]
   exact .nil
  ·have ih := VU.of_ut s f _ h2
   rw [xrA_L] at h1 ih
   obtain ⟨q, hq⟩ : ∃ q, xrL (s.data.toList.drop i) = q := ⟨_, rfl⟩
   rw [hq] at h1 ih
   obtain ⟨k, c⟩ := q
   have hr := rn_of _ k c hq h1
   rw [← List.take_append_drop k (s.data.toList.drop i), List.drop_drop]
   exact .cons _ _ hr.1 ih
theorem UT.vu {s : ByteArray} (h : UT s) : VU s.data.toList := by
 have := VU.of_ut s _ 0 h
 rwa [List.drop_zero] at this
theorem cut_step (a r l : List UInt8) (n : Nat) (hr : Rn r) (ha : a.length ≤ n) (h : n < a.length + r.length) : cutL (a ++ (r ++ l)) n = a := by
 have hp := hr.pos
 have hh : hdOk (r ++ l) := by
  have := hr.head
  unfold hdOk at this ⊢
  rwa [getD_lo r l 0 (by omega)]
 rw [cut_hi a _ n hh ha, cut_lo r l _ (by omega)]
 have hz : ∀ i, i < r.length → bk r i = 0 := by
  intro i
  induction i with
  | zero => exact fun _ => rfl
  | succ i ih =>
   intro hi
   unfold bk
   rw [if_pos (hr.tail (i + 1) (by omega) hi)]
   exact ih (by omega)
 unfold cutL
 rw [if_neg (by omega), hz _ (by omega)]
 simp
end Go.Proofs.YtpfkgpcnhdkkbaaGreatDoor
