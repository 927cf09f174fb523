/- docBare, DocKnown, DocPlain: the very answers; no condition but on sizes. -/
import Derived.Test.YtpfkgpcnhdkkbaaGreatDoorXr
import Derived.Test.YtpfkgpcnhdkkbaaGreatDoorHx
namespace Go.Proofs.YtpfkgpcnhdkkbaaGreatDoor
open Go.RowKit
set_option linter.unusedVariables false
set_option linter.unusedSimpArgs false
set_option maxRecDepth 100000
/-- The eight cells of a value in a slot. -/
def valV (kind : Int) (text more : ByteArray) (n : Int) (bits high : Nat) (bv kv : Value) : Value := .agg #[.int .i64 kind, .string text, .string more, .int .i64 n, .int .u64 (bits : Int), .int .u64 (high : Int), bv, kv]
def knownB (k : Int) : Bool := decide ((1 ≤ k ∧ k ≤ 19) ∨ k = 127 ∨ k = 255)
theorem known_ex (k : Int) (w : World) : Calls Tryz.prog 84 #[.int .i64 k] w fun e w' => e = .returned (.bool (knownB k)) ∧ w = w' := by
  obtain ⟨v, hv⟩ : ∃ v, knownB k = v := ⟨_, rfl⟩
  rw [hv]
  go_enter Tryz.func84, Tryz.ntmps84
  by_cases h1 : 1 ≤ k <;> by_cases h2 : k ≤ 19 <;> by_cases h3 : k = 255 <;> by_cases h4 : k = 127 <;> (first | (exfalso; omega) | (go_wp2_with fail; go_ret; refine ⟨?_, rfl⟩; refine congrArg (fun b => Ending.returned (Value.bool b)) ?_; rw [← hv]; unfold knownB; symm; first | (rw [decide_eq_true_eq]; omega) | (rw [decide_eq_false_iff_not]; omega) | (rw [Bool.eq_iff_iff]; simp; omega)))
def plainB (s : ByteArray) : Bool := s.data.toList.all (fun b => b != 0)
theorem plain_ex (s : ByteArray) (hs : s.size ≤ 9223372036854775000) (w : World) : Calls Tryz.prog 86 #[.string s] w fun e w' => e = .returned (.bool (plainB s)) ∧ w = w' := by
  go_enter Tryz.func86, Tryz.ntmps86
  go_wp2_with fail
  go_loopw [3] (fun i wr => ∃ k : Nat, k ≤ s.size ∧ i = .int .i64 k ∧ Hid (w = wr) ∧ Hid (∀ j b, j < k → s.data.toList[j]? = some b → b ≠ 0)) (fun i _ => s.size - (intOf i).toNat)
  case atStart => exact ⟨0, Nat.zero_le _, rfl, rfl, fun j b hj => absurd hj (Nat.not_lt_zero _)⟩
  case round =>
    obtain ⟨k, hk, rfl, HW, HP⟩ := hrel
    by_cases hlt : k < s.size
    · have hll : k < s.data.toList.length := by rw [Array.length_toList]; exact hlt
      have hx : ∀ h : k < s.size, ((s[k]'h).toNat : Int) = (byA s k : Int) := fun h => byA_at s k h
      have hb : s.data.toList[k]? = some (s.data.toList[k]'hll) := List.getElem?_eq_getElem hll
      have hbA : byA s k = (s.data.toList[k]'hll).toNat := by unfold byA; rw [List.getD_eq_getElem?_getD, hb]; rfl
      have HB := Lib.hid hb
      have HBA := Lib.hid hbA
      generalize byA s k = z at hx HBA
      clear hb hbA
      by_cases hz : z = 0
      · have hz1 : ((z : Int) == 0) = true := by simp [hz]
        have HZ := Lib.hid hz
        clear hz
        go_wp2_with fail
        go_ret
        refine ⟨?_, HW.out⟩
        refine congrArg (fun b => Ending.returned (Value.bool b)) ?_
        symm
        unfold plainB
        rw [List.all_eq_false]
        refine ⟨_, List.mem_of_getElem? HB.out, ?_⟩
        have h1 := HBA.out
        rw [HZ.out] at h1
        have h2 : (s.data.toList[k]'hll) = 0 := UInt8.toNat_inj.1 h1.symm
        simp [h2]
      · have hz1 : ((z : Int) == 0) = false := by simp; omega
        have HZ := Lib.hid hz
        clear hz
        go_wp2_with fail
        go_roundw
        case rel =>
          refine ⟨k + 1, by omega, by go_num, HW, fun j b hj hg => ?_⟩
          by_cases e : j = k
          · subst e
            rw [HB.out] at hg
            injection hg with hg
            intro h0
            subst hg
            have h1 := HBA.out
            rw [h0] at h1
            exact HZ.out h1
          · exact HP.out j b (by omega) hg
        case measure => simp [intOf]; omega
    · go_wp2_with fail
      go_ret
      refine ⟨?_, HW.out⟩
      refine congrArg (fun b => Ending.returned (Value.bool b)) ?_
      symm
      unfold plainB
      rw [List.all_eq_true]
      intro b hb
      obtain ⟨j, hj, rfl⟩ := List.getElem_of_mem hb
      have hj2 : j < k := by rw [Array.length_toList] at hj; have : s.size ≤ k := by omega
                             exact Nat.lt_of_lt_of_le hj this
      have := HP.out j _ hj2 (List.getElem?_eq_getElem hj)
      simpa using this
def kTx (k : Int) : Bool := k == 2 || k == 13 || k == 14 || k == 11 || k == 12 || k == 15
def kMr (k : Int) : Bool := k == 11
def kN (k : Int) : Bool := k == 5 || k == 8 || k == 9 || k == 16 || k == 18
def kBits (k : Int) : Bool := k == 1 || k == 17 || k == 19
def kHigh (k : Int) : Bool := k == 19
def kB (k : Int) : Bool := k == 5 || k == 7 || k == 12
def kKids (k : Int) : Bool := k == 3 || k == 4 || k == 15
/-- The fields that its kind does not name are empty. -/
def bareOk (k : Int) (text more : ByteArray) (n : Int) (bits high : Nat) (m m2 : Nat) : Prop :=
  (kTx k = false → text.size = 0) ∧ (kMr k = false → more.size = 0) ∧ (kN k = false → n = 0) ∧ (kBits k = false → bits = 0) ∧ (kHigh k = false → high = 0) ∧ (kB k = false → m = 0) ∧ (kKids k = false → m2 = 0)
set_option maxHeartbeats 4000000 in
theorem bare_ex (k : Int) (hk : knownB k = true) (text more : ByteArray) (n : Int) (bits high : Nat) (A B : Option Addr) (m c m2 c2 : Nat) :
    ∃ (tx mr : ByteArray) (n' b' h' : Int) (A' B' : Option Addr) (m' c' m2' c2' : Nat),
      (∀ w, Calls Tryz.prog 85 #[valV k text more n bits high (.slice A m c) (.slice B m2 c2)] w fun e w' => e = .returned (.agg #[.int .i64 k, .string tx, .string mr, .int .i64 n', .int .u64 b', .int .u64 h', .slice A' m' c', .slice B' m2' c2']) ∧ Below w.heap.size w w') ∧
      (bareOk k text more n bits high m m2 ↔ tx.size = 0 ∧ mr.size = 0 ∧ n' = 0 ∧ b' = 0 ∧ h' = 0 ∧ m' = 0 ∧ m2' = 0) ∧ (m' = m ∨ m' = 0) ∧ (m2' = m2 ∨ m2' = 0) := by
  have hk2 : (1 ≤ k ∧ k ≤ 19) ∨ k = 127 ∨ k = 255 := by unfold knownB at hk; simpa using hk
  have hcase : k = 1 ∨ k = 2 ∨ k = 3 ∨ k = 4 ∨ k = 5 ∨ k = 6 ∨ k = 7 ∨ k = 8 ∨ k = 9 ∨ k = 10 ∨ k = 11 ∨ k = 12 ∨ k = 13 ∨ k = 14 ∨ k = 15 ∨ k = 16 ∨ k = 17 ∨ k = 18 ∨ k = 19 ∨ k = 127 ∨ k = 255 := by omega
  clear hk hk2
  refine ⟨if kTx k then ⟨#[]⟩ else text, if kMr k then ⟨#[]⟩ else more, if kN k then 0 else n, if kBits k then 0 else (bits : Int), if kHigh k then 0 else (high : Int), if kB k then none else A, if kKids k then none else B, if kB k then 0 else m, if kB k then 0 else c, if kKids k then 0 else m2, if kKids k then 0 else c2, ?_, ?_, ?_, ?_⟩
  · unfold valV
    rcases hcase with rfl | rfl | rfl | rfl | rfl | rfl | rfl | rfl | rfl | rfl | rfl | rfl | rfl | rfl | rfl | rfl | rfl | rfl | rfl | rfl | rfl
    all_goals
      intro w
      go_enter Tryz.func85, Tryz.ntmps85
      go_wp2_with fail
      exact bodyPost_ret (by simp [results, Tryz.results85, go_sem]) rfl ⟨rfl, (below_allocB w _).trans ((below_allocB _ _).mono (by simp))⟩
  · unfold bareOk
    have e0 : (⟨#[]⟩ : ByteArray).size = 0 := rfl
    constructor
    · rintro ⟨a1, a2, a3, a4, a5, a6, a7⟩
      refine ⟨?_, ?_, ?_, ?_, ?_, ?_, ?_⟩ <;> split <;> simp_all
    · rintro ⟨a1, a2, a3, a4, a5, a6, a7⟩
      refine ⟨?_, ?_, ?_, ?_, ?_, ?_, ?_⟩ <;> intro h <;> simp_all
  · split <;> simp
  · split <;> simp
end Go.Proofs.YtpfkgpcnhdkkbaaGreatDoor
