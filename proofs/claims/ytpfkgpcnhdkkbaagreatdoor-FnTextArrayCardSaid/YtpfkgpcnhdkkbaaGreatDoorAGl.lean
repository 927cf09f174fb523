/- spec.ExtString: a text as a string of JSON. -/
import Derived.Test.YtpfkgpcnhdkkbaaGreatDoorAGi
import Derived.Test.YtpfkgpcnhdkkbaaGreatDoorAOb
import Derived.Deep.CutRange
import Derived.Deep.LoopGhost
import Derived.Test.YtpfkgpcnhdkkbaaGreatDoorAShelf
import Derived.Laws.RangeString
import Derived.Laws.Cover4
import Derived.Sort.LotA
namespace Go.Proofs.YtpfkgpcnhdkkbaaGreatDoor
set_option maxHeartbeats 8000000
open Go.RowKit
set_option linter.unusedVariables false
set_option linter.unusedSimpArgs false
set_option maxRecDepth 100000
def esLet (c : Nat) : UInt8 := if c = 8 then 98 else if c = 9 then 116 else if c = 10 then 110 else if c = 12 then 102 else 114
def sstep (esc : Bool) (s : ByteArray) (i : Nat) : List UInt8 × Nat :=
 (if (xrA s i).2 = 34 ∨ (xrA s i).2 = 92 then [92, UInt8.ofNat (xrA s i).2]
  else if (xrA s i).2 = 8 ∨ (xrA s i).2 = 9 ∨ (xrA s i).2 = 10 ∨ (xrA s i).2 = 12 ∨ (xrA s i).2 = 13 then [92, esLet (xrA s i).2]
  else if (xrA s i).2 < 32 ∨ (esc = true ∧ ((xrA s i).2 = 60 ∨ (xrA s i).2 = 62 ∨ (xrA s i).2 = 38)) then [92, 117, 48, 48, hexd ((xrA s i).2 / 16), hexd ((xrA s i).2 % 16)]
  else if (xrA s i).2 = 8232 ∨ (xrA s i).2 = 8233 then [92, 117, 50, 48, 50, UInt8.ofNat ((xrA s i).2 - 8176)]
  else (s.data.toList.drop i).take (xrA s i).1, (xrA s i).1)
def sfrom (esc : Bool) (s : ByteArray) : Nat → Nat → List UInt8
 | 0, _ => []
 | f + 1, i => if i < s.size then (sstep esc s i).1 ++ sfrom esc s f (i + (sstep esc s i).2) else []
def sout (esc : Bool) (s : ByteArray) : List UInt8 := 34 :: (sfrom esc s s.size 0 ++ [34])
def soutB (esc : Bool) (s : ByteArray) : ByteArray := ⟨(sout esc s).toArray⟩
theorem xrA_rune (s : ByteArray) (i : Nat) : (xrA s i).2 ≤ 1114111 := by
 unfold xrA xrN
 split
 ·show 0 ≤ _; omega
 ·split
  ·show 0 ≤ _; omega
  ·show (Lib.decodeN _ _ _ _ _).1 ≤ _
   have := byA_lt s i
   unfold Lib.decodeN
   repeat' split
   all_goals (show _ ≤ _; first | omega | (simp only; omega))
theorem sf_step {esc : Bool} {s : ByteArray} {q f n : Nat} {acc tot o : List UInt8} (hlt : q < s.size) (h : sstep esc s q = (o, n)) (HE : acc ++ sfrom esc s (f + 1) q = tot) : (acc ++ o) ++ sfrom esc s f (q + n) = tot := by
 rw [← HE, sfrom, if_pos hlt, h, List.append_assoc]
theorem sf_end {esc : Bool} {s : ByteArray} {q f : Nat} {acc tot : List UInt8} (hlt : ¬ q < s.size) (HE : acc ++ sfrom esc s f q = tot) : acc = tot := by
 cases f with
 | zero => simpa [sfrom] using HE
 | succ f => rw [sfrom, if_neg hlt] at HE; simpa using HE
theorem xcut (s : ByteArray) (p q : Nat) (hq : q ≤ s.size) : (s.extract p q).data.toList = (s.data.toList.drop p).take (q - p) := Lib.extract_data s p q
theorem extString_any (s : ByteArray) (esc : Bool) (w : World) (hs : s.size ≤ 1000000000) (hu : UT s) : Calls Tryz.prog 24 #[.string s, .bool esc] w fun e w' => e = .returned (.string (soutB esc s)) ∧ Below w.heap.size w w' := by
 have HU := LH hu
 have H0 := LH (OB.lit w [34] (by simp) (by simp))
 clear hu
 go_enter Tryz.func24, Tryz.ntmps24
 go_wp2
 go_loopg [5, 6] s.size (fun k v i wr => ∃ (q f : Nat) (acc : List UInt8), i = .int .i64 q ∧ q ≤ s.size ∧ s.size ≤ q + f ∧ s.size - q ≤ k ∧ Hid (acc.length ≤ 6 * q) ∧ Hid (acc ++ sfrom esc s f q = sfrom esc s s.size 0) ∧ Hid (u8At s f q) ∧ Hid (OB w.heap.size v (34 :: acc) w wr))
 case atStart => exact ⟨0, s.size, [], rfl, by omega, by omega, by omega, by show _ ≤ _; simp, by show _ = _; simp, HU, H0⟩
 case round =>
  obtain ⟨q, f, acc, rfl, hqs, hqf, hqk, HA, HE, HV, HB⟩ := hrel
  by_cases hlt : q < s.size
  ·have hle := xrA_le s q hlt
   have hcall := extRune_at s q wr
   have hc1 := xrA_rune s q
   obtain ⟨f, rfl⟩ : ∃ g, f = g + 1 := ⟨f - 1, by omega⟩
   have hv : 1 ≤ (xrA s q).1 ∧ u8At s f (q + (xrA s q).1) := HV.out.resolve_left (by omega)
   have hst : sstep esc s q = ((sstep esc s q).1, (xrA s q).1) := rfl
   have hstep : (sstep esc s q).1 = _ := rfl
   unfold sstep at hstep
   simp only at hstep
   obtain ⟨o, ho⟩ : ∃ o, (sstep esc s q).1 = o := ⟨_, rfl⟩
   rw [ho] at hst
   unfold sstep at ho
   simp only at ho
   clear hstep HV
   generalize (xrA s q).2 = c at hcall hc1 ho hst
   generalize (xrA s q).1 = n at hle hcall hv ho hst
   obtain ⟨hn1, hv2⟩ := hv
   have HC := LH hcall
   have HV := LH hv2
   have HST := LH hst
   have HO := LH ho
   clear hcall hv2 hst ho
   have hb0 : ((n : Int) == 0) = false := by simp; omega
   by_cases hk : c = 34
   ·subst hk
    have HST2 := LH (show sstep esc s q = ([92, 34], n) by rw [HST.out, ← HO.out]; rfl)
    clear HST HO
    go_wp2_with (first | (go_at_call 53; refine HC.out.mono ?_; rintro e w' ⟨rfl, rfl⟩) | (at_builtin; refine ob_two rfl _ _ rfl rfl 92 34 _ _ rfl rfl HB.out rfl (by have h_1 := HA.out; simp only [List.length_cons]; omega) ?_; intro v1 w1 hb1; have HB1 := LH hb1; clear hb1))
    go_roundg (s.size - (q + n))
    case rel => exact ⟨q + n, f, acc ++ [92, 34], by go_num, by omega, by omega, by omega, by have h_1 := HA.out; show (_ : List UInt8).length ≤ _; simp only [List.length_append, List.length_cons, List.length_nil, List.toList_toArray]; omega, sf_step hlt HST2.out HE.out, HV, by have := HB1.out; show OB _ _ _ _ _; simpa using this⟩
    case measure => omega
   ·have hne34 : ((c : Int) == 34) = false := by simp; omega
    have hd34 := hk
    clear hk
    by_cases hk : c = 92
    ·subst hk
     have HST2 := LH (show sstep esc s q = ([92, 92], n) by rw [HST.out, ← HO.out]; rfl)
     clear HST HO
     go_wp2_with (first | (go_at_call 53; refine HC.out.mono ?_; rintro e w' ⟨rfl, rfl⟩) | (at_builtin; refine ob_two rfl _ _ rfl rfl 92 92 _ _ rfl rfl HB.out rfl (by have h_1 := HA.out; simp only [List.length_cons]; omega) ?_; intro v1 w1 hb1; have HB1 := LH hb1; clear hb1))
     go_roundg (s.size - (q + n))
     case rel => exact ⟨q + n, f, acc ++ [92, 92], by go_num, by omega, by omega, by omega, by have h_1 := HA.out; show (_ : List UInt8).length ≤ _; simp only [List.length_append, List.length_cons, List.length_nil, List.toList_toArray]; omega, sf_step hlt HST2.out HE.out, HV, by have := HB1.out; show OB _ _ _ _ _; simpa using this⟩
     case measure => omega
    ·have hne92 : ((c : Int) == 92) = false := by simp; omega
     have hd92 := hk
     clear hk
     by_cases hk : c = 8
     ·subst hk
      have HST2 := LH (show sstep esc s q = ([92, 98], n) by rw [HST.out, ← HO.out]; rfl)
      clear HST HO
      go_wp2_with (first | (go_at_call 53; refine HC.out.mono ?_; rintro e w' ⟨rfl, rfl⟩) | (at_builtin; refine ob_two rfl _ _ rfl rfl 92 98 _ _ rfl rfl HB.out rfl (by have h_1 := HA.out; simp only [List.length_cons]; omega) ?_; intro v1 w1 hb1; have HB1 := LH hb1; clear hb1))
      go_roundg (s.size - (q + n))
      case rel => exact ⟨q + n, f, acc ++ [92, 98], by go_num, by omega, by omega, by omega, by have h_1 := HA.out; show (_ : List UInt8).length ≤ _; simp only [List.length_append, List.length_cons, List.length_nil, List.toList_toArray]; omega, sf_step hlt HST2.out HE.out, HV, by have := HB1.out; show OB _ _ _ _ _; simpa using this⟩
      case measure => omega
     ·have hne8 : ((c : Int) == 8) = false := by simp; omega
      have hd8 := hk
      clear hk
      by_cases hk : c = 9
      ·subst hk
       have HST2 := LH (show sstep esc s q = ([92, 116], n) by rw [HST.out, ← HO.out]; rfl)
       clear HST HO
       go_wp2_with (first | (go_at_call 53; refine HC.out.mono ?_; rintro e w' ⟨rfl, rfl⟩) | (at_builtin; refine ob_two rfl _ _ rfl rfl 92 116 _ _ rfl rfl HB.out rfl (by have h_1 := HA.out; simp only [List.length_cons]; omega) ?_; intro v1 w1 hb1; have HB1 := LH hb1; clear hb1))
       go_roundg (s.size - (q + n))
       case rel => exact ⟨q + n, f, acc ++ [92, 116], by go_num, by omega, by omega, by omega, by have h_1 := HA.out; show (_ : List UInt8).length ≤ _; simp only [List.length_append, List.length_cons, List.length_nil, List.toList_toArray]; omega, sf_step hlt HST2.out HE.out, HV, by have := HB1.out; show OB _ _ _ _ _; simpa using this⟩
       case measure => omega
      ·have hne9 : ((c : Int) == 9) = false := by simp; omega
       have hd9 := hk
       clear hk
       by_cases hk : c = 10
       ·subst hk
        have HST2 := LH (show sstep esc s q = ([92, 110], n) by rw [HST.out, ← HO.out]; rfl)
        clear HST HO
        go_wp2_with (first | (go_at_call 53; refine HC.out.mono ?_; rintro e w' ⟨rfl, rfl⟩) | (at_builtin; refine ob_two rfl _ _ rfl rfl 92 110 _ _ rfl rfl HB.out rfl (by have h_1 := HA.out; simp only [List.length_cons]; omega) ?_; intro v1 w1 hb1; have HB1 := LH hb1; clear hb1))
        go_roundg (s.size - (q + n))
        case rel => exact ⟨q + n, f, acc ++ [92, 110], by go_num, by omega, by omega, by omega, by have h_1 := HA.out; show (_ : List UInt8).length ≤ _; simp only [List.length_append, List.length_cons, List.length_nil, List.toList_toArray]; omega, sf_step hlt HST2.out HE.out, HV, by have := HB1.out; show OB _ _ _ _ _; simpa using this⟩
        case measure => omega
       ·have hne10 : ((c : Int) == 10) = false := by simp; omega
        have hd10 := hk
        clear hk
        by_cases hk : c = 12
        ·subst hk
         have HST2 := LH (show sstep esc s q = ([92, 102], n) by rw [HST.out, ← HO.out]; rfl)
         clear HST HO
         go_wp2_with (first | (go_at_call 53; refine HC.out.mono ?_; rintro e w' ⟨rfl, rfl⟩) | (at_builtin; refine ob_two rfl _ _ rfl rfl 92 102 _ _ rfl rfl HB.out rfl (by have h_1 := HA.out; simp only [List.length_cons]; omega) ?_; intro v1 w1 hb1; have HB1 := LH hb1; clear hb1))
         go_roundg (s.size - (q + n))
         case rel => exact ⟨q + n, f, acc ++ [92, 102], by go_num, by omega, by omega, by omega, by have h_1 := HA.out; show (_ : List UInt8).length ≤ _; simp only [List.length_append, List.length_cons, List.length_nil, List.toList_toArray]; omega, sf_step hlt HST2.out HE.out, HV, by have := HB1.out; show OB _ _ _ _ _; simpa using this⟩
         case measure => omega
        ·have hne12 : ((c : Int) == 12) = false := by simp; omega
         have hd12 := hk
         clear hk
         by_cases hk : c = 13
         ·subst hk
          have HST2 := LH (show sstep esc s q = ([92, 114], n) by rw [HST.out, ← HO.out]; rfl)
          clear HST HO
          go_wp2_with (first | (go_at_call 53; refine HC.out.mono ?_; rintro e w' ⟨rfl, rfl⟩) | (at_builtin; refine ob_two rfl _ _ rfl rfl 92 114 _ _ rfl rfl HB.out rfl (by have h_1 := HA.out; simp only [List.length_cons]; omega) ?_; intro v1 w1 hb1; have HB1 := LH hb1; clear hb1))
          go_roundg (s.size - (q + n))
          case rel => exact ⟨q + n, f, acc ++ [92, 114], by go_num, by omega, by omega, by omega, by have h_1 := HA.out; show (_ : List UInt8).length ≤ _; simp only [List.length_append, List.length_cons, List.length_nil, List.toList_toArray]; omega, sf_step hlt HST2.out HE.out, HV, by have := HB1.out; show OB _ _ _ _ _; simpa using this⟩
          case measure => omega
         ·have hne13 : ((c : Int) == 13) = false := by simp; omega
          have hd13 := hk
          clear hk
          by_cases hk : c < 32
          ·have hc256 : c < 256 := by omega
           have HST2 := LH (show sstep esc s q = ([92, 117, 48, 48, hexd (c / 16), hexd (c % 16)], n) by rw [HST.out, ← HO.out, if_neg (by omega), if_neg (by omega), if_pos (by omega)])
           clear HST HO
           go_wp2_with (first | (go_at_call 53; refine HC.out.mono ?_; rintro e w' ⟨rfl, rfl⟩) | (go_at_call 32; refine (extHex_any c hc256 _).mono ?_; rintro e w2 ⟨rfl, b2⟩; have HB2 := LH (HB1.out.later b2); clear b2 HB1) | (at_builtin; refine ob_text rfl _ _ rfl rfl _ HB.out rfl (by have h_1 := HA.out; simp only [List.length_cons, List.length_append, List.length_nil, List.toList_toArray]; show _ + 4 ≤ _; omega) ?_; intro v1 w1 hb1; have HB1 := LH hb1; clear hb1 HB) | (at_builtin; refine ob_text rfl _ _ rfl rfl _ HB2.out rfl (by have h_1 := HA.out; simp only [List.length_cons, List.length_append, List.length_nil, List.toList_toArray]; show _ + 2 ≤ _; omega) ?_; intro v3 w3 hb3; have HB3 := LH hb3; clear hb3 HB2))
           go_roundg (s.size - (q + n))
           case rel => exact ⟨q + n, f, acc ++ [92, 117, 48, 48, hexd (c / 16), hexd (c % 16)], by go_num, by omega, by omega, by omega, by have h_1 := HA.out; show (_ : List UInt8).length ≤ _; simp only [List.length_append, List.length_cons, List.length_nil, List.toList_toArray]; omega, sf_step hlt HST2.out HE.out, HV, by have := HB3.out; show OB _ _ _ _ _; simpa [hex2B] using this⟩
           case measure => omega
          ·have hl : decide ((c : Int) < 32) = false := by simp; omega
           by_cases hk2 : esc = true ∧ (c = 60 ∨ c = 62 ∨ c = 38)
           ·obtain ⟨rfl, hk3⟩ := hk2
            rcases hk3 with hk3 | hk3 | hk3
            ·have k1 : ((c : Int) == 60) = true := by simp; omega
             have HK := LH hk3
             have hc256 : c < 256 := by omega
             clear hk3
             have HST2 := LH (show sstep true s q = ([92, 117, 48, 48, hexd (c / 16), hexd (c % 16)], n) by rw [HST.out, ← HO.out, if_neg (by omega), if_neg (by omega), if_pos (by have := HK.out; exact .inr ⟨rfl, by omega⟩)])
             clear HST HO
             go_wp2_with (first | (go_at_call 53; refine HC.out.mono ?_; rintro e w' ⟨rfl, rfl⟩) | (go_at_call 32; refine (extHex_any c hc256 _).mono ?_; rintro e w2 ⟨rfl, b2⟩; have HB2 := LH (HB1.out.later b2); clear b2 HB1) | (at_builtin; refine ob_text rfl _ _ rfl rfl _ HB.out rfl (by have h_1 := HA.out; simp only [List.length_cons, List.length_append, List.length_nil, List.toList_toArray]; show _ + 4 ≤ _; omega) ?_; intro v1 w1 hb1; have HB1 := LH hb1; clear hb1 HB) | (at_builtin; refine ob_text rfl _ _ rfl rfl _ HB2.out rfl (by have h_1 := HA.out; simp only [List.length_cons, List.length_append, List.length_nil, List.toList_toArray]; show _ + 2 ≤ _; omega) ?_; intro v3 w3 hb3; have HB3 := LH hb3; clear hb3 HB2))
             go_roundg (s.size - (q + n))
             case rel => exact ⟨q + n, f, acc ++ [92, 117, 48, 48, hexd (c / 16), hexd (c % 16)], by go_num, by omega, by omega, by omega, by have h_1 := HA.out; show (_ : List UInt8).length ≤ _; simp only [List.length_append, List.length_cons, List.length_nil, List.toList_toArray]; omega, sf_step hlt HST2.out HE.out, HV, by have := HB3.out; show OB _ _ _ _ _; simpa [hex2B] using this⟩
             case measure => omega
            ·have k1 : ((c : Int) == 60) = false := by simp; omega
             have k2 : ((c : Int) == 62) = true := by simp; omega
             have HK := LH hk3
             have hc256 : c < 256 := by omega
             clear hk3
             have HST2 := LH (show sstep true s q = ([92, 117, 48, 48, hexd (c / 16), hexd (c % 16)], n) by rw [HST.out, ← HO.out, if_neg (by omega), if_neg (by omega), if_pos (by have := HK.out; exact .inr ⟨rfl, by omega⟩)])
             clear HST HO
             go_wp2_with (first | (go_at_call 53; refine HC.out.mono ?_; rintro e w' ⟨rfl, rfl⟩) | (go_at_call 32; refine (extHex_any c hc256 _).mono ?_; rintro e w2 ⟨rfl, b2⟩; have HB2 := LH (HB1.out.later b2); clear b2 HB1) | (at_builtin; refine ob_text rfl _ _ rfl rfl _ HB.out rfl (by have h_1 := HA.out; simp only [List.length_cons, List.length_append, List.length_nil, List.toList_toArray]; show _ + 4 ≤ _; omega) ?_; intro v1 w1 hb1; have HB1 := LH hb1; clear hb1 HB) | (at_builtin; refine ob_text rfl _ _ rfl rfl _ HB2.out rfl (by have h_1 := HA.out; simp only [List.length_cons, List.length_append, List.length_nil, List.toList_toArray]; show _ + 2 ≤ _; omega) ?_; intro v3 w3 hb3; have HB3 := LH hb3; clear hb3 HB2))
             go_roundg (s.size - (q + n))
             case rel => exact ⟨q + n, f, acc ++ [92, 117, 48, 48, hexd (c / 16), hexd (c % 16)], by go_num, by omega, by omega, by omega, by have h_1 := HA.out; show (_ : List UInt8).length ≤ _; simp only [List.length_append, List.length_cons, List.length_nil, List.toList_toArray]; omega, sf_step hlt HST2.out HE.out, HV, by have := HB3.out; show OB _ _ _ _ _; simpa [hex2B] using this⟩
             case measure => omega
            ·have k1 : ((c : Int) == 60) = false := by simp; omega
             have k2 : ((c : Int) == 62) = false := by simp; omega
             have k3 : ((c : Int) == 38) = true := by simp; omega
             have HK := LH hk3
             have hc256 : c < 256 := by omega
             clear hk3
             have HST2 := LH (show sstep true s q = ([92, 117, 48, 48, hexd (c / 16), hexd (c % 16)], n) by rw [HST.out, ← HO.out, if_neg (by omega), if_neg (by omega), if_pos (by have := HK.out; exact .inr ⟨rfl, by omega⟩)])
             clear HST HO
             go_wp2_with (first | (go_at_call 53; refine HC.out.mono ?_; rintro e w' ⟨rfl, rfl⟩) | (go_at_call 32; refine (extHex_any c hc256 _).mono ?_; rintro e w2 ⟨rfl, b2⟩; have HB2 := LH (HB1.out.later b2); clear b2 HB1) | (at_builtin; refine ob_text rfl _ _ rfl rfl _ HB.out rfl (by have h_1 := HA.out; simp only [List.length_cons, List.length_append, List.length_nil, List.toList_toArray]; show _ + 4 ≤ _; omega) ?_; intro v1 w1 hb1; have HB1 := LH hb1; clear hb1 HB) | (at_builtin; refine ob_text rfl _ _ rfl rfl _ HB2.out rfl (by have h_1 := HA.out; simp only [List.length_cons, List.length_append, List.length_nil, List.toList_toArray]; show _ + 2 ≤ _; omega) ?_; intro v3 w3 hb3; have HB3 := LH hb3; clear hb3 HB2))
             go_roundg (s.size - (q + n))
             case rel => exact ⟨q + n, f, acc ++ [92, 117, 48, 48, hexd (c / 16), hexd (c % 16)], by go_num, by omega, by omega, by omega, by have h_1 := HA.out; show (_ : List UInt8).length ≤ _; simp only [List.length_append, List.length_cons, List.length_nil, List.toList_toArray]; omega, sf_step hlt HST2.out HE.out, HV, by have := HB3.out; show OB _ _ _ _ _; simpa [hex2B] using this⟩
             case measure => omega
           ·have HK2 := LH hk2
            obtain ⟨bb, hbb⟩ : ∃ bb, bb = esc := ⟨_, rfl⟩
            by_cases hk3 : c = 8232
            ·subst hk3
             have HST2 := LH (show sstep esc s q = ([92, 117, 50, 48, 50, 56], n) by rw [HST.out, ← HO.out, if_neg (by omega), if_neg (by omega), if_neg (by omega), if_pos (by omega)]; rfl)
             clear HST HO HK2 hbb
             cases esc
             all_goals
              go_wp2_with (first | (go_at_call 53; refine HC.out.mono ?_; rintro e w' ⟨rfl, rfl⟩) | (at_builtin; refine ob_text rfl _ _ rfl rfl _ HB.out rfl (by have h_1 := HA.out; simp only [List.length_cons, List.length_append, List.length_nil, List.toList_toArray]; show _ + 5 ≤ _; omega) ?_; intro v1 w1 hb1; have HB1 := LH hb1; clear hb1 HB) | (at_builtin; refine ob_byte rfl _ _ rfl rfl 56 _ rfl HB1.out rfl (by have h_1 := HA.out; simp only [List.length_cons, List.length_append, List.length_nil, List.toList_toArray]; omega) ?_; intro v3 w3 hb3; have HB3 := LH hb3; clear hb3))
              go_roundg (s.size - (q + n))
              case rel => exact ⟨q + n, f, acc ++ [92, 117, 50, 48, 50, 56], by go_num, by omega, by omega, by omega, by have h_1 := HA.out; show (_ : List UInt8).length ≤ _; simp only [List.length_append, List.length_cons, List.length_nil, List.toList_toArray]; omega, sf_step hlt HST2.out HE.out, HV, by have := HB3.out; show OB _ _ _ _ _; simpa using this⟩
              case measure => omega
            by_cases hk3 : c = 8233
            ·subst hk3
             have HST2 := LH (show sstep esc s q = ([92, 117, 50, 48, 50, 57], n) by rw [HST.out, ← HO.out, if_neg (by omega), if_neg (by omega), if_neg (by omega), if_pos (by omega)]; rfl)
             clear HST HO HK2 hbb
             cases esc
             all_goals
              go_wp2_with (first | (go_at_call 53; refine HC.out.mono ?_; rintro e w' ⟨rfl, rfl⟩) | (at_builtin; refine ob_text rfl _ _ rfl rfl _ HB.out rfl (by have h_1 := HA.out; simp only [List.length_cons, List.length_append, List.length_nil, List.toList_toArray]; show _ + 5 ≤ _; omega) ?_; intro v1 w1 hb1; have HB1 := LH hb1; clear hb1 HB) | (at_builtin; refine ob_byte rfl _ _ rfl rfl 57 _ rfl HB1.out rfl (by have h_1 := HA.out; simp only [List.length_cons, List.length_append, List.length_nil, List.toList_toArray]; omega) ?_; intro v3 w3 hb3; have HB3 := LH hb3; clear hb3))
              go_roundg (s.size - (q + n))
              case rel => exact ⟨q + n, f, acc ++ [92, 117, 50, 48, 50, 57], by go_num, by omega, by omega, by omega, by have h_1 := HA.out; show (_ : List UInt8).length ≤ _; simp only [List.length_append, List.length_cons, List.length_nil, List.toList_toArray]; omega, sf_step hlt HST2.out HE.out, HV, by have := HB3.out; show OB _ _ _ _ _; simpa using this⟩
              case measure => omega
            have HST2 := LH (show sstep esc s q = ((s.data.toList.drop q).take n, n) by rw [HST.out, ← HO.out, if_neg (by omega), if_neg (by omega), if_neg (by have h2 := HK2.out; rintro (h | h); omega; exact h2 h), if_neg (by omega)])
            have l1 : ((c : Int) == 8232) = false := by simp; omega
            have l2 : ((c : Int) == 8233) = false := by simp; omega
            clear HST HO
            cases esc
            ·clear HK2 hbb
             go_wp2_with (first | (go_at_call 53; refine HC.out.mono ?_; rintro e w' ⟨rfl, rfl⟩) | (at_builtin; refine ob_text rfl _ _ rfl rfl (s.extract q (q + n)) HB.out rfl (by have h_1 := HA.out; simp only [List.length_cons, ByteArray.size_extract]; omega) ?_; intro v1 w1 hb1; have HB1 := LH hb1; clear hb1 HB))
             go_roundg (s.size - (q + n))
             case rel => exact ⟨q + n, f, acc ++ (s.data.toList.drop q).take n, by go_num, by omega, by omega, by omega, by have h_1 := HA.out; show (_ : List UInt8).length ≤ _; simp only [List.length_append, List.length_take, List.length_drop]; omega, sf_step hlt HST2.out HE.out, HV, by have := HB1.out; rw [xcut s q (q + n) hle, show q + n - q = n from by omega] at this; show OB _ _ _ _ _; simpa using this⟩
             case measure => omega
            ·have k1 : ((c : Int) == 60) = false := by have := HK2.out; simp at this ⊢; omega
             have k2 : ((c : Int) == 62) = false := by have := HK2.out; simp at this ⊢; omega
             have k3 : ((c : Int) == 38) = false := by have := HK2.out; simp at this ⊢; omega
             clear HK2 hbb
             go_wp2_with (first | (go_at_call 53; refine HC.out.mono ?_; rintro e w' ⟨rfl, rfl⟩) | (at_builtin; refine ob_text rfl _ _ rfl rfl (s.extract q (q + n)) HB.out rfl (by have h_1 := HA.out; simp only [List.length_cons, ByteArray.size_extract]; omega) ?_; intro v1 w1 hb1; have HB1 := LH hb1; clear hb1 HB))
             go_roundg (s.size - (q + n))
             case rel => exact ⟨q + n, f, acc ++ (s.data.toList.drop q).take n, by go_num, by omega, by omega, by omega, by have h_1 := HA.out; show (_ : List UInt8).length ≤ _; simp only [List.length_append, List.length_take, List.length_drop]; omega, sf_step hlt HST2.out HE.out, HV, by have := HB1.out; rw [xcut s q (q + n) hle, show q + n - q = n from by omega] at this; show OB _ _ _ _ _; simpa using this⟩
             case measure => omega
  ·go_wp2_with (at_builtin; refine ob_byte rfl _ _ rfl rfl 34 _ rfl HB.out rfl (by have h_1 := HA.out; simp only [List.length_cons]; omega) ?_; intro v1 w1 hb1; have hstr := hb1.str; have HB1 := LH hb1; clear hb1)
   go_ret
   refine ⟨?_, HB1.out.below⟩
   have he := sf_end hlt HE.out
   unfold soutB sout
   rw [← he]
   rfl
def Rising (l : List UInt8) : Prop := (∀ b ∈ l, 97 ≤ b.toNat ∧ b.toNat ≤ 122) ∧ l.Pairwise fun a b => a.toNat ≤ b.toNat
theorem Rising.low {l : List UInt8} (h : Rising l) : ∀ b ∈ l, b.toNat < 128 := fun b hb => by have := h.1 b hb; omega
def intsOf (l : List UInt8) : Array Int := (l.map fun b => (b.toNat : Int)).toArray
theorem intsOf_size (l : List UInt8) : (intsOf l).size = l.length := by simp [intsOf]
theorem runes_ascii (s : ByteArray) (ha : ∀ b ∈ s.data.toList, b.toNat < 128) : ∀ (f i : Nat) (acc : Array Value), s.size ≤ i + f → Conv.runesFrom s f i acc = acc ++ ((s.data.toList.drop i).map fun b => Value.int .i32 (b.toNat : Int)).toArray
 | 0, i, acc, h => by
  rw [List.drop_of_length_le (by rw [Array.length_toList]; exact h)]
  simp [Conv.runesFrom]
 | f + 1, i, acc, h => by
  unfold Conv.runesFrom
  by_cases hlt : i < s.size
  ·have hl : i < s.data.toList.length := by rw [Array.length_toList]; exact hlt
   have hb : (s[i]'hlt) = s.data.toList[i]'hl := by simp; rfl
   have hm : (s[i]'hlt).toNat < 128 := by rw [hb]; exact ha _ (List.getElem_mem hl)
   rw [if_pos hlt, decode_ascii s i hlt hm]
   simp only
   rw [runes_ascii s ha f (i + 1) _ (by omega), List.drop_eq_getElem_cons hl, ← hb]
   apply Array.ext'
   simp
  ·rw [if_neg hlt, List.drop_of_length_le (by rw [Array.length_toList]; show s.size ≤ i; omega)]
   simp
theorem runes_str (s : ByteArray) (ha : ∀ b ∈ s.data.toList, b.toNat < 128) : Conv.runesFrom s s.size 0 #[] = (intsOf s.data.toList).map (Value.int .i32) := by
 rw [runes_ascii s ha s.size 0 #[] (by omega)]
 apply Array.ext'
 simp [intsOf]
theorem enc_ascii (b : UInt8) (h : b.toNat < 128) : Utf8.encode (b.toNat : Int) = ⟨#[b]⟩ := by
  unfold Utf8.encode Utf8.valid
  have h1 : ((b.toNat : Int)).toNat = b.toNat := by simp
  have h2 : (b.toNat : Int) < 128 := by omega
  simp only [h1]
  have h3 : (if (decide (0 ≤ (b.toNat : Int)) && (decide ((b.toNat : Int) < 55296) || decide (57344 ≤ (b.toNat : Int)) && decide ((b.toNat : Int) ≤ 1114111))) = true then b.toNat else Utf8.runeError) = b.toNat := by
    rw [if_pos]
    simp
    omega
  first
    | (rw [h3]; simp [h])
    | (split
       · simp [h]
       · rename_i hv; exfalso; apply hv; simp; omega)
theorem fold_ascii : ∀ (l : List UInt8) (s : ByteArray), (∀ b ∈ l, b.toNat < 128) → (l.map fun b => (b.toNat : Int)).foldl (fun r n => r ++ Utf8.encode n) s = ⟨(s.data.toList ++ l).toArray⟩
 | [], s, _ => by apply ByteArray.ext; simp
 | b :: l, s, h => by
  rw [List.map_cons, List.foldl_cons, enc_ascii b (h b (by simp)), fold_ascii l _ (fun c hc => h c (by simp [hc]))]
  apply ByteArray.ext
  simp
theorem bytes_ascii (l : List UInt8) (h : ∀ b ∈ l, b.toNat < 128) : runesBytes (l.map fun b => (b.toNat : Int)) = ⟨l.toArray⟩ := by
 unfold runesBytes
 rw [fold_ascii l _ h]
 rfl
theorem sorted_same (l : List UInt8) (hr : Rising l) (d' : Array Int) (hp : Go.Sort.PermIn 0 l.length (intsOf l) d') (hs : Go.Sort.SortedIn Go.Sort.ltInt 0 l.length d') : d' = intsOf l := by
 obtain ⟨h1, _, h2⟩ := hp
 rw [intsOf_size] at h1
 have e1 : d'.extract 0 l.length = d' := by rw [← h1]; simp
 have e2 : (intsOf l).extract 0 l.length = intsOf l := by rw [← intsOf_size l]; simp
 rw [e1, e2] at h2
 apply Array.ext'
 refine List.Perm.eq_of_pairwise (le := fun a b : Int => a ≤ b) (fun a b _ _ h3 h4 => by omega) ?_ ?_ h2
 ·rw [List.pairwise_iff_getElem]
  intro i j hi hj hij
  have := hs i j (Nat.zero_le _) hij (by rw [← h1]; simpa using hj)
  simp only [Go.Sort.ltInt, decide_eq_false_iff_not] at this
  have hi' : i < d'.size := by simpa using hi
  have hj' : j < d'.size := by simpa using hj
  rw [getElem!_pos d' i hi', getElem!_pos d' j hj'] at this
  simp only [Array.getElem_toList]
  omega
 ·unfold intsOf
  simp only [List.pairwise_map]
  exact hr.2.imp fun h => by omega
theorem OB.rb {B : Nat} {v : Value} {l : List UInt8} {W0 w : World} (h : OB B v l W0 w) : ∃ A c, v = .slice A l.length c ∧ RB w A l := by
 obtain ⟨h1, h2⟩ := h.1.1
 rcases h2 with ⟨rfl, hn⟩ | ⟨k, cap, cur, fr, rfl, hg, hh, hfz, hcap, hm, hsz, htake⟩
 ·have hl : l = [] := by
   cases l with
   | nil => rfl
   | cons a r => simp at hn
  subst hl
  exact ⟨none, 0, rfl, fun h => by simp at h⟩
 ·refine ⟨some ⟨k, 0, none⟩, cap, rfl, fun _ => ⟨_, rfl, fun i b hi => ?_⟩⟩
  have hi' : i < l.length := (List.getElem?_eq_some_iff.1 hi).1
  rw [addr0, blk_cell hh]
  have h3 : (cur.toList.take (l.length * 1))[i]? = (Lib.byteCells l)[i]? := by rw [htake]
  rw [List.getElem?_take, if_pos (by omega), Array.getElem?_toList] at h3
  rw [h3]
  simp [Lib.byteCells, hi]
theorem RB.lat {w w' : World} (h : Below w.heap.size w w') {A : Option Addr} {l : List UInt8} (hr : RB w A l) : RB w' A l := fun hl => by
 obtain ⟨ad, e, hc⟩ := hr hl
 exact ⟨ad, e, fun j b hb => (h.cell (World.block_lt_of_cell? w _ (hc j b hb))).trans (hc j b hb)⟩
theorem run_append_nil {w : World} {B : Nat} {v : Value} {n : Nat} {xs : List Value} (ty : TypeId) (c : Nat) (hown : w.ownsRowF B 5 1 v n xs) :
  (Builtin.append_ #[23, 23] ty #[v, .slice none 0 c]).run Tryz.prog w = .ok v w := by
 obtain ⟨i0, hi, hz0, hz1, hz2⟩ := info_parts info5
 rcases hown.2 with ⟨rfl, h⟩ | ⟨k, cap, cur, fr, rfl, hg, hh, hfz, hnc, r⟩
 ·simp [Builtin.append_, run_underlying Tryz.underlying23, sizeOf, typeInfo, hi, Builtin.lenOf, Builtin.firstCells]
 ·simp [Builtin.append_, run_underlying Tryz.underlying23, sizeOf, typeInfo, hi, Builtin.lenOf, Builtin.firstCells, hnc, storeCells]
theorem ob_any {ops : Array Oper} {rest : List Oper} {o : Oper} {a : Act} {Q : Exit → Act → World → Prop} (hgd : o.guard = none) (s x : Operand)
  (ho : o.op = .call { callee := .builtin .append, args := #[s, x], argTypes := #[23, 23] })
  {B : Nat} {v : Value} {l : List UInt8} (hs : a.eval s = v) {W0 w : World} (hb : OB B v l W0 w) {A : Option Addr} {c : Nat} (t : List UInt8)
  (hx : a.eval x = .slice A t.length c) (hR : RB w A t) (hlen : l.length + t.length ≤ 140737488355328)
  (h : ∀ v' w', OB B v' (l ++ t) W0 w' → wpList Tryz.prog ops Q rest (a.put o.dst v') w') : wpList Tryz.prog ops Q (o :: rest) a w := by
 rcases Nat.eq_zero_or_pos t.length with h0 | h0
 ·have ht : t = [] := List.eq_nil_of_length_eq_zero h0
  subst ht
  rcases A with _ | ad
  ·refine wpList_plain hgd fun K hK => ?_
   have hrun := run_append_nil (w := w) o.type c hb.1.1
   unfold Oper.wp execOp
   simp only [ho, resolve, invoke, builtin, Sem.run_bind, Sem.run_pure, Result.andThen_ok, List.map_toArray, List.map_cons, List.map_nil, hs, hx, List.length_nil, hrun]
   exact hK _ _ (h v w (by simpa using hb))
  ·exact ob_slice hgd s x ho hs hb [] rfl hx (fun j b hj => by simp at hj) hlen (fun v' w' hb' _ => h v' w' hb')
 ·obtain ⟨ad, rfl, hc⟩ := hR h0
  exact ob_slice hgd s x ho hs hb t rfl hx hc hlen (fun v' w' hb' _ => h v' w' hb')
theorem ob_front {ops : Array Oper} {rest : List Oper} {o : Oper} {a : Act} {Q : Exit → Act → World → Prop} (hgd : o.guard = none) (s x : Operand)
  (ho : o.op = .call { callee := .builtin .append, args := #[s, x], argTypes := #[23, 23] })
  {B : Nat} {v : Value} {l : List UInt8} {W0 w0 : World} (c : UInt8) (z : Int) (hz : z = (c.toNat : Int)) (hb : OB B v l W0 w0)
  (hs : a.eval s = .slice (some ⟨w0.heap.size, 0, none⟩) 1 1) (hx : a.eval x = v) (hlen : l.length + 1 ≤ 140737488355328)
  (h : ∀ v' w', OB B v' (c :: l) W0 w' → wpList Tryz.prog ops Q rest (a.put o.dst v') w') : wpList Tryz.prog ops Q (o :: rest) a (w0.alloc (.cells #[.int .u8 z] 5)) := by
 subst hz
 obtain ⟨A, cap, rfl, hr⟩ := hb.rb
 have hL := OB.lit w0 [c] (by simp) (by simp)
 refine ob_any hgd s x ho hs (W0 := w0) hL l hx (hr.lat (below_allocB w0 _)) (by simp; omega) (fun v' w' hb' => h v' w' ?_)
 have h1 := hb'.low hb.base
 exact h1.since hb.below hb.kept
end Go.Proofs.YtpfkgpcnhdkkbaaGreatDoor
