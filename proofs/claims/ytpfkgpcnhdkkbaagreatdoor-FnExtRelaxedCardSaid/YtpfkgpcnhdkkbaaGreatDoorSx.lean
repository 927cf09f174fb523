/- The reference's texts: ExtUTF8, and what the statements ask of a text. -/
import Derived.Test.YtpfkgpcnhdkkbaaGreatDoorXr
import Derived.Lib.FieldsU
namespace Go.Proofs.YtpfkgpcnhdkkbaaGreatDoor
open Go.RowKit
set_option linter.unusedVariables false
set_option linter.unusedSimpArgs false
set_option maxRecDepth 100000
/-- The character at a place. -/
def xrA (s : ByteArray) (i : Nat) : Nat × Nat := xrN (s.size - i) (byA s i) (byA s (i + 1)) (byA s (i + 2)) (byA s (i + 3))
theorem ex_size (s : ByteArray) (i : Nat) : (s.extract i s.size).size = s.size - i := by simp [ByteArray.size_extract]
theorem ex_byA (s : ByteArray) (i j : Nat) : byA (s.extract i s.size) j = byA s (i + j) := by
  unfold byA
  rw [Lib.extract_data, show (s.data.toList.drop i).take (s.size - i) = s.data.toList.drop i from List.take_of_length_le (by rw [List.length_drop, Array.length_toList]; show s.size - i ≤ s.size - i; omega)]
  simp [List.getD_eq_getElem?_getD, List.getElem?_drop]
theorem xrA_eq (s : ByteArray) (i : Nat) : xrS (s.extract i s.size) = xrA s i := by
  unfold xrS xrA
  rw [ex_size, ex_byA, ex_byA, ex_byA, ex_byA, Nat.add_zero]
theorem xrA_le (s : ByteArray) (i : Nat) (h : i < s.size) : i + (xrA s i).1 ≤ s.size := by
  unfold xrA xrN
  rw [if_neg (by omega)]
  split
  · show i + 0 ≤ _; omega
  · have := Lib.decodeN_le_n' (s.size - i) (byA s i) (byA s (i + 1)) (byA s (i + 2)) (byA s (i + 3)) (by omega)
    show i + (Lib.decodeN _ _ _ _ _).2 ≤ _
    omega
/-- From place i on the text is UTF-8. -/
def u8At (s : ByteArray) : Nat → Nat → Prop
  | 0, i => s.size ≤ i
  | f + 1, i => s.size ≤ i ∨ (1 ≤ (xrA s i).1 ∧ u8At s f (i + (xrA s i).1))
def UT (s : ByteArray) : Prop := u8At s s.size 0
theorem extRune_at (s : ByteArray) (i : Nat) (w : World) : Calls Tryz.prog 53 #[.string (s.extract i s.size)] w fun e w' => e = .returned (.tuple #[.int .i64 ((xrA s i).1 : Int), .int .i64 ((xrA s i).2 : Int)]) ∧ w = w' := by
  have := extRune_any (s.extract i s.size) w
  rw [xrA_eq] at this
  exact this
def U8Post (s : ByteArray) (w : World) (e : Ending) (w' : World) : Prop := ∃ b : Bool, e = .returned (.bool b) ∧ w = w' ∧ (b = true → UT s)
theorem extUTF8_any (s : ByteArray) (w : World) (hs : s.size ≤ 4611686018427387904) : Calls Tryz.prog 81 #[.string s] w (U8Post s w) := by
  go_enter Tryz.func81, Tryz.ntmps81
  go_wp2
  go_loop [3] (fun i => ∃ (q f : Nat), i = .int .i64 q ∧ q ≤ s.size ∧ s.size ≤ q + f ∧ Hid (u8At s f q → UT s)) (fun i => s.size - (intOf i).toNat)
  case atStart => exact ⟨0, s.size, rfl, by omega, by omega, fun h => h⟩
  case round =>
    obtain ⟨q, f, rfl, hq, hf, HI⟩ := hrel
    by_cases hlt : q < s.size
    · have hle := xrA_le s q hlt
      have hcall := extRune_at s q w
      obtain ⟨f, rfl⟩ : ∃ g, f = g + 1 := ⟨f - 1, by omega⟩
      have HJ := Lib.hid (show 1 ≤ (xrA s q).1 → u8At s f (q + (xrA s q).1) → UT s from fun h1 h2 => HI.out (.inr ⟨h1, h2⟩))
      clear HI
      generalize (xrA s q).2 = c at hcall
      generalize (xrA s q).1 = n at hle hcall HJ
      have HC := Lib.hid hcall
      clear hcall
      by_cases hn : n = 0
      · have hb : ((n : Int) == 0) = true := by simp [hn]
        have HN := Lib.hid hn
        clear hn
        go_wp2_with (go_at_call 53; refine HC.out.mono ?_; rintro e w' ⟨rfl, rfl⟩)
        go_ret
        exact ⟨false, rfl, rfl, fun h => by cases h⟩
      · have hb : ((n : Int) == 0) = false := by simp [hn]
        have hn1 : 1 ≤ n := by omega
        clear hn
        go_wp2_with (go_at_call 53; refine HC.out.mono ?_; rintro e w' ⟨rfl, rfl⟩)
        go_round
        case rel => exact ⟨q + n, f, by go_num, hle, by omega, fun h => HJ.out hn1 h⟩
        case measure => simp [intOf]; omega
    · go_wp2
      go_ret
      refine ⟨true, rfl, rfl, fun _ => HI.out ?_⟩
      cases f with
      | zero => show s.size ≤ q; omega
      | succ f => exact .inl (by omega)
def TextPost (s : ByteArray) (w : World) (e : Ending) (w' : World) : Prop := ∃ b : Bool, e = .returned (.bool b) ∧ w = w' ∧ (b = true → s.size ≤ 300 ∧ UT s)
theorem extText_any (s : ByteArray) (w : World) (hs : s.size ≤ 4611686018427387904) : Calls Tryz.prog 54 #[.string s] w (TextPost s w) := by
  by_cases h : s.size ≤ 300
  · have hcall := extUTF8_any s w hs
    have HC := Lib.hid hcall
    clear hcall
    go_enter Tryz.func54, Tryz.ntmps54
    go_wp2_with (go_at_call 81; refine HC.out.mono ?_; rintro e w' ⟨b, rfl, rfl, hb⟩; have HB := Lib.hid hb; clear hb)
    go_ret
    exact ⟨b, rfl, rfl, fun hb => ⟨h, HB.out hb⟩⟩
  · have hd : decide ((s.size : Int) ≤ 300) = false := by simp; omega
    go_enter Tryz.func54, Tryz.ntmps54
    go_wp2
    go_ret
    exact ⟨false, rfl, rfl, fun h => by cases h⟩
end Go.Proofs.YtpfkgpcnhdkkbaaGreatDoor
