/- The reference's reading of one character of UTF-8, as a function; texts of UTF-8. -/
import Derived.Lib.DecodeN
namespace Go.Proofs.YtpfkgpcnhdkkbaaGreatDoor
set_option linter.unusedVariables false
set_option linter.unusedSimpArgs false
/-- spec.extRune: how many bytes, and which character; 0 0 if there is none. -/
def xrN (n b0 b1 b2 b3 : Nat) : Nat × Nat := if n = 0 then (0, 0) else if Lib.decodeN n b0 b1 b2 b3 = (65533, 1) then (0, 0) else ((Lib.decodeN n b0 b1 b2 b3).2, (Lib.decodeN n b0 b1 b2 b3).1)
set_option maxHeartbeats 2000000 in
theorem xrN_one (n b0 b1 b2 b3 : Nat) (hn : 1 ≤ n) (h : b0 < 128) : xrN n b0 b1 b2 b3 = (1, b0) := by
  unfold xrN Lib.decodeN
  rw [if_neg (by omega), if_pos h, if_neg (by simp only [Prod.mk.injEq]; omega)]
set_option maxHeartbeats 2000000 in

set_option maxHeartbeats 2000000 in
theorem xrN_bad (n b0 b1 b2 b3 : Nat) (hb : 128 ≤ b0) (h256 : b0 < 256) (h : ¬ (194 ≤ b0 ∧ b0 < 245)) : xrN n b0 b1 b2 b3 = (0, 0) := by
  have hd : Lib.decodeN n b0 b1 b2 b3 = (65533, 1) := by
    unfold Lib.decodeN
    repeat' split
    all_goals first | (exfalso; omega) | rfl
  unfold xrN
  rw [hd, if_pos rfl, ite_self]
set_option maxHeartbeats 2000000 in
theorem xrN_short2 (n b0 b1 b2 b3 : Nat) (h : 194 ≤ b0 ∧ b0 < 224) (hn : n < 2) : xrN n b0 b1 b2 b3 = (0, 0) := by
  have hd : Lib.decodeN n b0 b1 b2 b3 = (65533, 1) := by
    unfold Lib.decodeN
    repeat' split
    all_goals first | (exfalso; omega) | rfl
  unfold xrN
  rw [hd, if_pos rfl, ite_self]
set_option maxHeartbeats 2000000 in
theorem xrN_short3 (n b0 b1 b2 b3 : Nat) (h : 224 ≤ b0 ∧ b0 < 240) (hn : n < 3) : xrN n b0 b1 b2 b3 = (0, 0) := by
  have hd : Lib.decodeN n b0 b1 b2 b3 = (65533, 1) := by
    unfold Lib.decodeN
    repeat' split
    all_goals first | (exfalso; omega) | rfl
  unfold xrN
  rw [hd, if_pos rfl, ite_self]
set_option maxHeartbeats 2000000 in
theorem xrN_short4 (n b0 b1 b2 b3 : Nat) (h : 240 ≤ b0 ∧ b0 < 245) (hn : n < 4) : xrN n b0 b1 b2 b3 = (0, 0) := by
  have hd : Lib.decodeN n b0 b1 b2 b3 = (65533, 1) := by
    unfold Lib.decodeN
    repeat' split
    all_goals first | (exfalso; omega) | rfl
  unfold xrN
  rw [hd, if_pos rfl, ite_self]
set_option maxHeartbeats 2000000 in
theorem xrN_bad2 (n b0 b1 b2 b3 : Nat) (h : 194 ≤ b0 ∧ b0 < 224) (h1 : ¬ b1 / 64 = 2) : xrN n b0 b1 b2 b3 = (0, 0) := by
  have hd : Lib.decodeN n b0 b1 b2 b3 = (65533, 1) := by
    unfold Lib.decodeN
    repeat' split
    all_goals first | (exfalso; omega) | rfl
  unfold xrN
  rw [hd, if_pos rfl, ite_self]
set_option maxHeartbeats 2000000 in
theorem xrN_bad3 (n b0 b1 b2 b3 : Nat) (h : 224 ≤ b0 ∧ b0 < 240) (h1 : ¬ (b1 / 64 = 2 ∧ b2 / 64 = 2 ∧ 2048 ≤ b0 % 16 * 4096 + b1 % 64 * 64 + b2 % 64 ∧ (b0 % 16 * 4096 + b1 % 64 * 64 + b2 % 64 < 55296 ∨ 57344 ≤ b0 % 16 * 4096 + b1 % 64 * 64 + b2 % 64))) : xrN n b0 b1 b2 b3 = (0, 0) := by
  have hd : Lib.decodeN n b0 b1 b2 b3 = (65533, 1) := by
    unfold Lib.decodeN
    repeat' split
    all_goals first | (exfalso; omega) | rfl
  unfold xrN
  rw [hd, if_pos rfl, ite_self]
set_option maxHeartbeats 2000000 in
theorem xrN_bad4 (n b0 b1 b2 b3 : Nat) (h : 240 ≤ b0 ∧ b0 < 245) (h1 : ¬ (b1 / 64 = 2 ∧ b2 / 64 = 2 ∧ b3 / 64 = 2 ∧ 65536 ≤ b0 % 8 * 262144 + b1 % 64 * 4096 + b2 % 64 * 64 + b3 % 64 ∧ b0 % 8 * 262144 + b1 % 64 * 4096 + b2 % 64 * 64 + b3 % 64 ≤ 1114111)) : xrN n b0 b1 b2 b3 = (0, 0) := by
  have hd : Lib.decodeN n b0 b1 b2 b3 = (65533, 1) := by
    unfold Lib.decodeN
    repeat' split
    all_goals first | (exfalso; omega) | rfl
  unfold xrN
  rw [hd, if_pos rfl, ite_self]
set_option maxHeartbeats 2000000 in
theorem xrN_good2 (n b0 b1 b2 b3 : Nat) (h : 194 ≤ b0 ∧ b0 < 224) (hn : 2 ≤ n) (h1 : b1 / 64 = 2) : xrN n b0 b1 b2 b3 = (2, b0 % 32 * 64 + b1 % 64) := by
  have hd : Lib.decodeN n b0 b1 b2 b3 = (b0 % 32 * 64 + b1 % 64, 2) := by
    unfold Lib.decodeN
    repeat' split
    all_goals first | (exfalso; omega) | rfl
  unfold xrN
  rw [hd, if_neg (by omega), if_neg (by simp)]
set_option maxHeartbeats 2000000 in
theorem xrN_good3 (n b0 b1 b2 b3 : Nat) (h : 224 ≤ b0 ∧ b0 < 240) (hn : 3 ≤ n) (h1 : b1 / 64 = 2) (h2 : b2 / 64 = 2) (h3 : 2048 ≤ b0 % 16 * 4096 + b1 % 64 * 64 + b2 % 64) (h4 : b0 % 16 * 4096 + b1 % 64 * 64 + b2 % 64 < 55296 ∨ 57344 ≤ b0 % 16 * 4096 + b1 % 64 * 64 + b2 % 64) : xrN n b0 b1 b2 b3 = (3, b0 % 16 * 4096 + b1 % 64 * 64 + b2 % 64) := by
  have hd : Lib.decodeN n b0 b1 b2 b3 = (b0 % 16 * 4096 + b1 % 64 * 64 + b2 % 64, 3) := by
    unfold Lib.decodeN
    repeat' split
    all_goals first | (exfalso; omega) | rfl
  unfold xrN
  rw [hd, if_neg (by omega), if_neg (by simp)]
set_option maxHeartbeats 2000000 in
theorem xrN_good4 (n b0 b1 b2 b3 : Nat) (h : 240 ≤ b0 ∧ b0 < 245) (hn : 4 ≤ n) (h1 : b1 / 64 = 2) (h2 : b2 / 64 = 2) (h3 : b3 / 64 = 2) (h4 : 65536 ≤ b0 % 8 * 262144 + b1 % 64 * 4096 + b2 % 64 * 64 + b3 % 64) (h5 : b0 % 8 * 262144 + b1 % 64 * 4096 + b2 % 64 * 64 + b3 % 64 ≤ 1114111) : xrN n b0 b1 b2 b3 = (4, b0 % 8 * 262144 + b1 % 64 * 4096 + b2 % 64 * 64 + b3 % 64) := by
  have hd : Lib.decodeN n b0 b1 b2 b3 = (b0 % 8 * 262144 + b1 % 64 * 4096 + b2 % 64 * 64 + b3 % 64, 4) := by
    unfold Lib.decodeN
    repeat' split
    all_goals first | (exfalso; omega) | rfl
  unfold xrN
  rw [hd, if_neg (by omega), if_neg (by simp)]
def xrL (l : List UInt8) : Nat × Nat := xrN l.length (l.getD 0 0).toNat (l.getD 1 0).toNat (l.getD 2 0).toNat (l.getD 3 0).toNat
theorem xrN_cases (n b0 b1 b2 b3 : Nat) (h : xrN n b0 b1 b2 b3 ≠ (0, 0)) : 1 ≤ n ∧ xrN n b0 b1 b2 b3 = ((Lib.decodeN n b0 b1 b2 b3).2, (Lib.decodeN n b0 b1 b2 b3).1) ∧ Lib.decodeN n b0 b1 b2 b3 ≠ (65533, 1) := by
  unfold xrN at h ⊢
  split at h
  · exact absurd rfl h
  · rename_i h1
    split at h
    · exact absurd rfl h
    · rename_i h2
      rw [if_neg h1, if_neg h2]
      exact ⟨by omega, rfl, h2⟩
/-- A text of UTF-8, with fuel. -/
def u8F : Nat → List UInt8 → Prop
  | _, [] => True
  | 0, _ :: _ => False
  | f + 1, l@(_ :: _) => 1 ≤ (xrL l).1 ∧ u8F f (l.drop (xrL l).1)
def U8 (l : List UInt8) : Prop := u8F l.length l
end Go.Proofs.YtpfkgpcnhdkkbaaGreatDoor
