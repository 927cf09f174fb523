/- decimal128.String: its text is the one that DecP tells; no condition. -/
import Derived.Test.YtpfkgpcnhdkkbaaGreatDoorAMj
import Derived.Test.YtpfkgpcnhdkkbaaGreatDoorAFm
import Derived.Test.YtpfkgpcnhdkkbaaGreatDoorAMq
import Derived.Test.YtpfkgpcnhdkkbaaGreatDoorAMl
import Derived.LoopTactic
import Derived.Deep.LoopGhost
import Derived.Deep.CutRange
import Derived.Deep.CutBlock
import Derived.Deep.DeepCutAuto
namespace Go.Proofs.YtpfkgpcnhdkkbaaGreatDoor
set_option maxHeartbeats 8000000
open Go.RowKit
set_option linter.unusedVariables false
set_option linter.unusedSimpArgs false
set_option maxRecDepth 100000
theorem decBody_pos (C : Nat) (e : Int) : 1 ≤ (decBody C e).2.length := by
 have h := Lib.nDigits_pos C
 have h1 := Lib.decDigits_length C
 unfold decBody
 split
 ·split <;> simp <;> omega
 ·split <;> simp <;> omega
theorem decBody_exp (C : Nat) (e : Int) (hC : Lib.nDigits C ≤ 35) (he : -6176 ≤ e ∧ e ≤ 11000) : -20000 ≤ (decBody C e).1 ∧ (decBody C e).1 ≤ 20000 := by
 have h := Lib.nDigits_pos C
 unfold decBody
 split
 ·show _ ≤ e + _ - 1 ∧ e + _ - 1 ≤ _
  omega
 ·split <;> simp
theorem dR_small (N r j : Nat) (hj : j < 9) : N * 10 ^ (9 - j) + r < 10 ↔ N = 0 ∧ r < 10 := by
 obtain ⟨k, hk⟩ : ∃ k, 9 - j = k + 1 := ⟨8 - j, by omega⟩
 rw [hk, Nat.pow_succ, ← Nat.mul_assoc]
 have := Nat.pow_pos (n := k) (show 0 < 10 by omega)
 constructor
 ·intro h
  rcases Nat.eq_zero_or_pos N with h1 | h1
  ·exact ⟨h1, by rw [h1] at h; omega⟩
  ·have := Nat.mul_le_mul h1 this
   omega
 ·rintro ⟨rfl, h⟩
  simp
  exact h
theorem divmod_ex (hn ln : Nat) (h1 : hn < 18446744073709551616) (h2 : ln < 18446744073709551616) : ∃ h2 l2 r2 : Nat, h2 < 18446744073709551616 ∧ l2 < 18446744073709551616 ∧ r2 < 1000000000 ∧ hn * 18446744073709551616 + ln = (h2 * 18446744073709551616 + l2) * 10 ^ 9 + r2 ∧
  ∀ w, Calls Tryz.prog 196 #[.int .u64 (hn : Int), .int .u64 (ln : Int), .int .u32 1000000000] w fun e w' => e = .returned (.tuple #[.int .u64 (h2 : Int), .int .u64 (l2 : Int), .int .u32 (r2 : Int)]) ∧ w' = w :=
 ⟨_, _, _, by omega, by omega, by omega, by omega, fun w => divmod_any hn ln h1 h2 w⟩
def zero48 : Array Value := #[.int .u8 0, .int .u8 0, .int .u8 0, .int .u8 0, .int .u8 0, .int .u8 0, .int .u8 0, .int .u8 0, .int .u8 0, .int .u8 0, .int .u8 0, .int .u8 0, .int .u8 0, .int .u8 0, .int .u8 0, .int .u8 0, .int .u8 0, .int .u8 0, .int .u8 0, .int .u8 0, .int .u8 0, .int .u8 0, .int .u8 0, .int .u8 0, .int .u8 0, .int .u8 0, .int .u8 0, .int .u8 0, .int .u8 0, .int .u8 0, .int .u8 0, .int .u8 0, .int .u8 0, .int .u8 0, .int .u8 0, .int .u8 0, .int .u8 0, .int .u8 0, .int .u8 0, .int .u8 0, .int .u8 0, .int .u8 0, .int .u8 0, .int .u8 0, .int .u8 0, .int .u8 0, .int .u8 0, .int .u8 0]
theorem decStr_fin (H L Hn Ln : Nat) (e : Int) (b3 neg : Bool) (hH : H < 18446744073709551616) (hL : L < 18446744073709551616) (hs : (bits .and .u64 ((H : Int) / 9223372036854775808) 1 == 0) = !neg)
  (h31 : (bits .and .u64 ((H : Int) / 288230376151711744) 31 == 31) = false) (h30 : (bits .and .u64 ((H : Int) / 288230376151711744) 31 == 30) = false) (h3 : (bits .and .u64 ((H : Int) / 2305843009213693952) 3 == 3) = b3)
  (hHn : (if b3 then 0 else bits .and .u64 (H : Int) 562949953421311) = (Hn : Int)) (hLn : (if b3 then 0 else (L : Int)) = (Ln : Int))
  (he : (if b3 then bits .and .u64 ((H : Int) / 140737488355328) 16383 else bits .and .u64 ((H : Int) / 562949953421312) 16383) - 6176 = e) (he1 : -6176 ≤ e ∧ e ≤ 11000)
  (hHn1 : Hn < 562949953421312) (hLn1 : Ln < 18446744073709551616) (w : World) (hT : TabC w) (h17 : 17 ≤ w.heap.size) :
  Calls Tryz.prog 133 #[.int .u64 (H : Int), .int .u64 (L : Int)] w fun en w' => en = .returned (.string ⟨(decFin neg (Hn * 18446744073709551616 + Ln) e).toArray⟩) ∧ Below w.heap.size w w' := by
 obtain ⟨pz, hpz⟩ : ∃ pz : Int, pz = if neg then 0 else 1 := ⟨_, rfl⟩
 have HPZ := LH hpz
 have HTB := LH hT
 clear hT
 go_enter Tryz.func133, Tryz.ntmps133
 go_wp2_with fail
 go_step3
 go_upto_if 20 with fail
 go_cut [5] from 17 to 17 (fun ps wx => ps = .int .i64 pz ∧ wx = w)
 case first =>
  cases neg
  ·simp only [Bool.not_false] at hs
   obtain rfl := hpz
   go_wp2_with fail
   go_meet
   exact ⟨rfl, rfl⟩
  ·simp only [Bool.not_true] at hs
   obtain rfl := hpz
   go_wp2_with fail
   go_meet
   exact ⟨rfl, rfl⟩
 case rest =>
  obtain ⟨rfl, hwc⟩ := hcut
  obtain rfl := hwc.symm
  clear hs hpz
  go_upto_if 34 with fail
  go_cut [6, 7, 8] from 17 to 17 (fun ex h l wx => ex = .int .i64 (e + 6176) ∧ h = .int .u64 Hn ∧ l = .int .u64 Ln ∧ wx = w)
  case first =>
   cases b3
   ·simp only [Bool.false_eq_true, if_false] at hHn hLn he
    obtain ⟨x, hx⟩ : ∃ x, bits BinOp.and IntKind.u64 ((H : Int) / 562949953421312) 16383 = x := ⟨_, rfl⟩
    rw [hx] at he
    obtain rfl : x = e + 6176 := by omega
    obtain rfl : Ln = L := by omega
    clear he hLn
    go_wp2_with fail
    go_meet
    exact ⟨rfl, rfl, rfl, rfl⟩
   ·simp only [if_true] at hHn hLn he
    obtain ⟨x, hx⟩ : ∃ x, bits BinOp.and IntKind.u64 ((H : Int) / 140737488355328) 16383 = x := ⟨_, rfl⟩
    rw [hx] at he
    obtain rfl : x = e + 6176 := by omega
    obtain rfl : Ln = 0 := by omega
    obtain rfl : Hn = 0 := by omega
    clear he hLn hHn
    go_wp2_with fail
    go_meet
    exact ⟨rfl, rfl, rfl, rfl⟩
  case rest =>
   obtain ⟨rfl, rfl, rfl, hwc⟩ := hcut
   obtain rfl := hwc.symm
   clear hHn hLn he h3 h31 h30
   go_upto_region 18 with fail
   go_cut [6, 56] from 45 to 46 (fun ex c wx => ex = .int .i64 e ∧ c = .bool (decide (Hn = 0 ∧ Ln = 0 ∧ e = 0)) ∧ wx = w)
   case first =>
    have he2 : e + 6176 + -6176 = e := by omega
    by_cases z1 : Hn = 0
    ·by_cases z2 : Ln = 0
     ·by_cases z3 : e = 0
      ·subst z1 z2 z3
       go_wp2_with fail
       go_meet
       exact ⟨rfl, by simp, rfl⟩
      ·have k3 : (e == 0) = false := by simp; omega
       subst z1 z2
       go_wp2_with fail
       go_meet
       exact ⟨rfl, by simp [z3], rfl⟩
     ·have k2 : ((Ln : Int) == 0) = false := by simp; omega
      subst z1
      go_wp2_with fail
      go_meet
      exact ⟨rfl, by simp [z2], rfl⟩
    ·have k1 : ((Hn : Int) == 0) = false := by simp; omega
     go_wp2_with fail
     go_meet
     exact ⟨rfl, by simp [z1], rfl⟩
   case rest =>
    obtain ⟨rfl, rfl, hwc⟩ := hcut
    obtain rfl := hwc.symm
    by_cases hz : Hn = 0 ∧ Ln = 0 ∧ e = 0
    ·have hzd : decide (Hn = 0 ∧ Ln = 0 ∧ e = 0) = true := by simp [hz]
     cases neg
     ·obtain rfl : pz = 1 := HPZ.out
      go_wp2_with fail
      go_ret
      obtain ⟨rfl, rfl, rfl⟩ := hz
      rw [Nat.zero_mul, decFin_zero]
      exact ⟨rfl, Below.refl _ _⟩
     ·obtain rfl : pz = 0 := HPZ.out
      go_wp2_with fail
      go_ret
      obtain ⟨rfl, rfl, rfl⟩ := hz
      rw [Nat.zero_mul, decFin_zero]
      exact ⟨rfl, Below.refl _ _⟩
    ·have hzd : decide (Hn = 0 ∧ Ln = 0 ∧ e = 0) = false := by simp only [decide_eq_false_iff_not]; exact hz
     have HZ := LH hz
     clear hz
     go_wp2_with fail
     go_step3
     go_upto_block 1 with fail
     have HM0 := LH (show DM w.heap.size w 48 [] (w.alloc (.cells zero48 262)) from ⟨below_al w _, ⟨zero48, heap_alloc_new w _, rfl, fun j b hj => by simp at hj⟩, rfl⟩)
     obtain ⟨W, hW⟩ : ∃ W, w.alloc (.cells zero48 262) = W := ⟨_, rfl⟩
     rw [hW] at HM0
     change Code.wp Tryz.prog _ _ _ (w.alloc (.cells zero48 262))
     rw [hW]
     clear hW
     obtain ⟨T, hT⟩ : ∃ T, decBody (Hn * 18446744073709551616 + Ln) e = T := ⟨_, rfl⟩
     have HI0 := LH (show DInv T 45 (Hn * 18446744073709551616 + Ln) 48 (48 + e) e 48 [] from ⟨(dRun_body _ _ (nd_le _ 35 (by omega) (by omega)) (fun h => HZ.out ⟨by omega, by omega, h.2⟩)).trans hT, by omega, by omega, by omega, by omega, .inl ⟨rfl, by omega⟩, he1.1, he1.2⟩)
     have HT := LH hT
     obtain ⟨g, hg⟩ : ∃ g, w.heap.size = g := ⟨_, rfl⟩
     rw [hg] at HM0 ⊢
     clear hT
     go_cut [6, 10] from 61 to 61 (fun x y wx => ∃ (la : Nat), x = .int .i64 T.1 ∧ y = .int .i64 la ∧ 1 ≤ la ∧ la ≤ 48 ∧ Hid (DM g w la T.2 wx))
     case first =>
      go_wp2_with fail
      go_loopg [6, 7, 8, 10, 11, 12, 13, 14, 15, 16] 5 (fun k ex h l la ix dt rm d9 d1 cc wr => ∃ (hn ln i last q : Nat) (dot e' : Int) (t : List UInt8), ex = .int .i64 e' ∧ h = .int .u64 hn ∧ l = .int .u64 ln ∧ la = .int .i64 last ∧ ix = .int .i64 i ∧ dt = .int .i64 dot ∧ d9 = .int .i64 q ∧ 5 ≤ q + k ∧ q ≤ 5 ∧ hn < 18446744073709551616 ∧ ln < 18446744073709551616 ∧ Hid (DInv T (45 - 9 * q) (hn * 18446744073709551616 + ln) i dot e' last t) ∧ Hid (DM g w i t wr))
      case atStart => exact ⟨Hn, Ln, 48, 48, 0, 48 + e, e, [], rfl, rfl, rfl, rfl, rfl, rfl, rfl, by omega, by omega, by omega, by omega, HI0, HM0⟩
      case round =>
       obtain ⟨hn, ln, i, last, q, dot, e', t, rfl, rfl, rfl, rfl, rfl, rfl, rfl, hqk, hq5, hhn, hln, HI, HM⟩ := hrel
       by_cases hlt : q < 5
       ·obtain ⟨h2, l2, r2, hh2, hl2, hr2, hN, hcall⟩ := divmod_ex hn ln hhn hln
        obtain ⟨go, hgo⟩ : ∃ go, go = gk := ⟨_, rfl⟩
        have HC := LH hcall
        have HI2 := LH (show DInv T (45 - 9 * q - 0) ((h2 * 18446744073709551616 + l2) * 10 ^ (9 - 0) + r2) i dot e' last t from (by have := HI.out; rw [hN] at this; exact this))
        clear hcall HI hN hhn hln HI0 HM0
        go_wp2_with (go_at_call 196; refine (HC.out _).mono ?_; rintro en w' ⟨rfl, rfl⟩)
        clear HC
        go_loopg [6, 10, 11, 12, 13, 15, 16] 9 (fun k ex la ix dt rm d1 cc wx => ∃ (i last j rr : Nat) (dot e' : Int) (t : List UInt8), ex = .int .i64 e' ∧ la = .int .i64 last ∧ ix = .int .i64 i ∧ dt = .int .i64 dot ∧ rm = .int .u32 rr ∧ d1 = .int .i64 j ∧ 9 ≤ j + k ∧ j ≤ 9 ∧ rr < 1000000000 ∧ Hid (rr < 10 ^ (9 - j)) ∧ Hid (DInv T (45 - 9 * q - j) ((h2 * 18446744073709551616 + l2) * 10 ^ (9 - j) + rr) i dot e' last t) ∧ Hid (DM g w i t wx))
        case atStart => exact ⟨i, last, 0, r2, dot, e', t, rfl, rfl, rfl, rfl, rfl, rfl, by omega, by omega, by omega, by show _ < _; omega, HI2, HM⟩
        case round =>
         clear HI2 HM
         obtain ⟨i, last, j, rr, dot, e', t, rfl, rfl, rfl, rfl, rfl, rfl, hjk, hj9, hrr, HR, HI, HM⟩ := hrel
         by_cases hj : j < 9
         ·
          obtain ⟨R, hR⟩ : ∃ R, (h2 * 18446744073709551616 + l2) * 10 ^ (9 - j) + rr = R := ⟨_, rfl⟩
          obtain ⟨f, hf⟩ : ∃ f, 45 - 9 * q - j = f + 1 := ⟨45 - 9 * q - j - 1, by omega⟩
          rw [hR, hf] at HI
          have HP := LH (show dPoint R i dot e' ↔ (i < 48 ∧ (dot = i ∨ (l2 = 0 ∧ h2 = 0 ∧ 0 < rr ∧ rr < 10 ∧ (dot < (i : Int) - 6 ∨ 0 < e')))) from (by have := dR_small (h2 * 18446744073709551616 + l2) rr j hj; have h3 := dR_zero (h2 * 18446744073709551616 + l2) rr (9 - j); rw [hR] at this h3; unfold dPoint; omega))
          go_upto_region 32 with fail
          go_cut [108] from 72 to 172 (fun c wx => c = .bool (decide (dPoint R i dot e')) ∧ wx = wr)
          case first =>
           as_aux_lemma =>
            have hi48 : i ≤ 48 := HI.out.i48
            clear HR HI HM hR hf
            by_cases a1 : i < 48
            ·by_cases a2 : dot = i
             ·have k2 : (dot == (i : Int)) = true := by simp [a2]
              have A2 := LH a2; clear a2
              go_wp2_with fail
              go_meet
              exact ⟨congrArg Value.bool (decide_eq_true (p := dPoint R i dot e') (HP.out.2 (by have a2 := A2.out; omega))).symm, rfl⟩
             ·have k2 : (dot == (i : Int)) = false := by simp [a2]
              by_cases a3 : l2 = 0
              ·have k3 : ((l2 : Int) == 0) = true := by simp; omega
               have A3 := LH a3; clear a3
               by_cases a4 : h2 = 0
               ·have k4 : ((h2 : Int) == 0) = true := by simp; omega
                have A4 := LH a4; clear a4
                by_cases a5 : 0 < rr
                ·by_cases a6 : rr < 10
                 ·by_cases a7 : dot < (i : Int) - 6
                  ·skip
                   go_wp2_with fail
                   go_meet
                   exact ⟨congrArg Value.bool (decide_eq_true (p := dPoint R i dot e') (HP.out.2 (by have a3 := A3.out; have a4 := A4.out; omega))).symm, rfl⟩
                  ·by_cases a8 : 0 < e'
                   ·skip
                    go_wp2_with fail
                    go_meet
                    exact ⟨congrArg Value.bool (decide_eq_true (p := dPoint R i dot e') (HP.out.2 (by have a3 := A3.out; have a4 := A4.out; omega))).symm, rfl⟩
                   ·skip
                    go_wp2_with fail
                    go_meet
                    exact ⟨congrArg Value.bool (decide_eq_false (p := dPoint R i dot e') (fun h => by have := HP.out.1 h; have a3 := A3.out; have a4 := A4.out; omega)).symm, rfl⟩
                 ·skip
                  go_wp2_with fail
                  go_meet
                  exact ⟨congrArg Value.bool (decide_eq_false (p := dPoint R i dot e') (fun h => by have := HP.out.1 h; have a3 := A3.out; have a4 := A4.out; omega)).symm, rfl⟩
                ·skip
                 go_wp2_with fail
                 go_meet
                 exact ⟨congrArg Value.bool (decide_eq_false (p := dPoint R i dot e') (fun h => by have := HP.out.1 h; have a3 := A3.out; have a4 := A4.out; omega)).symm, rfl⟩
               ·have k4 : ((h2 : Int) == 0) = false := by simp; omega
                go_wp2_with fail
                go_meet
                exact ⟨congrArg Value.bool (decide_eq_false (p := dPoint R i dot e') (fun h => by have := HP.out.1 h; omega)).symm, rfl⟩
              ·have k3 : ((l2 : Int) == 0) = false := by simp; omega
               go_wp2_with fail
               go_meet
               exact ⟨congrArg Value.bool (decide_eq_false (p := dPoint R i dot e') (fun h => by have := HP.out.1 h; omega)).symm, rfl⟩
            ·skip
             go_wp2_with fail
             go_meet
             exact ⟨congrArg Value.bool (decide_eq_false (p := dPoint R i dot e') (fun h => by have := HP.out.1 h; omega)).symm, rfl⟩
          case rest =>
           obtain ⟨rfl, hwc⟩ := hcut
           obtain rfl := hwc.symm
           clear HP
           go_upto_if 108 with fail
           go_cut [6, 10, 11, 12] from 72 to 172 (fun ex la ix dt wx => ∃ (i1 la1 : Nat) (dot1 e1 : Int) (t1 : List UInt8), ex = .int .i64 e1 ∧ la = .int .i64 la1 ∧ ix = .int .i64 i1 ∧ dt = .int .i64 dot1 ∧ Hid (DMid T f R i1 dot1 e1 la1 t1) ∧ Hid (DM g w i1 t1 wx))
           case first =>
            as_aux_lemma =>
             by_cases hp : dPoint R i dot e'
             ·have hpd : decide (dPoint R i dot e') = true := by simp [hp]
              have hx48 := HI.out.i48
              have hxf := HI.out.fi
              have hx0 := HI.out.e0
              have hx1 := HI.out.e1
              obtain ⟨i, rfl⟩ : ∃ k, i = k + 1 := ⟨i - 1, by omega⟩
              have HX := LH (show DMid T f R i 48 (e' + (48 - ((i : Int) + 1))) (i - 1) (46 :: t) from (by have h9 := HI.out.point hp; rw [show i + 1 - 1 = i from rfl, show i + 1 - 2 = i - 1 from by omega, show ((i + 1 : Nat) : Int) = (i : Int) + 1 from rfl] at h9; exact h9))
              obtain ⟨⟨v, hv⟩, hfr⟩ := HM.out.cell i (by omega)
              have HMP := LH (HM.out.push 46 46 rfl (by omega))
              clear HI HM
              go_wp2_with fail
              go_meet
              exact ⟨i, i - 1, 48, _, _, rfl, congrArg (Value.int .i64) (by omega), rfl, rfl, HX, HMP⟩
             ·have hpd : decide (dPoint R i dot e') = false := by simp [hp]
              have HX := LH (HI.out.none hp)
              clear HI
              go_wp2_with fail
              go_meet
              exact ⟨i, last, dot, e', t, rfl, rfl, rfl, rfl, HX, HM⟩
           case rest =>
            clear HI HM
            obtain ⟨i, last, dot, e', t, rfl, rfl, rfl, rfl, HI, HM⟩ := hcut
            have hi48 := HI.out.i48
            have hl48 := HI.out.l48
            have hil := HI.out.il
            have hfi := HI.out.fi
            have hx0 := HI.out.e0
            have hx1 := HI.out.e1
            obtain ⟨i, rfl⟩ : ∃ k, i = k + 1 := ⟨i - 1, by omega⟩
            obtain ⟨⟨v, hv⟩, hfr⟩ := HM.out.cell i (by omega)
            obtain ⟨x, hx⟩ : ∃ x, rr % 10 = x := ⟨_, rfl⟩
            obtain ⟨y, hy⟩ : ∃ y, rr / 10 = y := ⟨_, rfl⟩
            have hx2 : (rr : Int) % 10 = (x : Int) := by omega
            have hy2 : (rr : Int) / 10 = (y : Int) := by omega
            have hx9 : x ≤ 9 := by omega
            have hy9 : y < 1000000000 := by omega
            have hRm : R % 10 = x := by rw [← hR, dR_mod _ _ _ hj, hx]
            have hRd : R / 10 = (h2 * 18446744073709551616 + l2) * 10 ^ (9 - (j + 1)) + y := by rw [← hR, dR_div _ _ _ hj, hy]
            have hRz : R / 10 = 0 ↔ l2 = 0 ∧ h2 = 0 ∧ y = 0 := by rw [hRd, dR_zero]; omega
            have hyp : y < 10 ^ (9 - (j + 1)) := by have h := HR.out; rw [show 9 - j = (9 - (j + 1)) + 1 from by omega, Nat.pow_succ] at h; omega
            obtain ⟨c, hc⟩ : ∃ c : UInt8, UInt8.ofNat (48 + R % 10) = c := ⟨_, rfl⟩
            have hcx : (48 + (x : Int)) = (c.toNat : Int) := by rw [← hc, hRm]; simp; omega
            have HM2 := LH (HM.out.push c (48 + (x : Int)) hcx (by omega))
            have HRM := LH hRm
            have HRD := LH hRd
            have HRZ := LH hRz
            have HYP := LH hyp
            have HCC := LH hc
            clear HM HR hRm hRd hRz hyp hcx hc hR hx hy
            obtain ⟨w2, hw2⟩ : ∃ w2, wc.setCell ⟨g, i, none⟩ (.int .u8 (48 + (x : Int))) = w2 := ⟨_, rfl⟩
            rw [hw2] at HM2
            go_upto_region 42 with fail
            try rw [hw2]
            clear hx2 hy2 hw2 hv hfr
            go_cut [153] from 72 to 172 (fun cb wx => cb = .bool (decide (dB1 (R / 10) (i + 1) dot e')) ∧ wx = w2)
            case first =>
             as_aux_lemma =>
              have HP := LH (show dB1 (R / 10) (i + 1) dot e' ↔ (l2 = 0 ∧ h2 = 0 ∧ y = 0 ∧ i = 47 ∧ (dot < (i : Int) - 5 ∨ 0 < e')) from (by have := HRZ.out; unfold dB1; omega))
              clear HI HM2 HRM HRD HRZ HYP HCC
              by_cases a1 : l2 = 0
              ·have k1 : ((l2 : Int) == 0) = true := by simp; omega
               have A1 := LH a1; clear a1
               by_cases a2 : h2 = 0
               ·have k2 : ((h2 : Int) == 0) = true := by simp; omega
                have A2 := LH a2; clear a2
                by_cases a3 : y = 0
                ·have k3 : ((y : Int) == 0) = true := by simp; omega
                 have A3 := LH a3; clear a3
                 by_cases a4 : i = 47
                 ·have k4 : ((i : Int) == 47) = true := by simp; omega
                  have A4 := LH a4; clear a4
                  by_cases a5 : dot < (i : Int) - 5
                  ·skip
                   go_wp2_with fail
                   go_meet
                   exact ⟨congrArg Value.bool (decide_eq_true (p := dB1 (R / 10) (i + 1) dot e') (HP.out.2 (by have a1 := A1.out; have a2 := A2.out; have a3 := A3.out; have a4 := A4.out; omega))).symm, rfl⟩
                  ·by_cases a6 : 0 < e'
                   ·skip
                    go_wp2_with fail
                    go_meet
                    exact ⟨congrArg Value.bool (decide_eq_true (p := dB1 (R / 10) (i + 1) dot e') (HP.out.2 (by have a1 := A1.out; have a2 := A2.out; have a3 := A3.out; have a4 := A4.out; omega))).symm, rfl⟩
                   ·skip
                    go_wp2_with fail
                    go_meet
                    exact ⟨congrArg Value.bool (decide_eq_false (p := dB1 (R / 10) (i + 1) dot e') (fun h => by have := HP.out.1 h; have a1 := A1.out; have a2 := A2.out; have a3 := A3.out; have a4 := A4.out; omega)).symm, rfl⟩
                 ·have k4 : ((i : Int) == 47) = false := by simp; omega
                  go_wp2_with fail
                  go_meet
                  exact ⟨congrArg Value.bool (decide_eq_false (p := dB1 (R / 10) (i + 1) dot e') (fun h => by have := HP.out.1 h; have a1 := A1.out; have a2 := A2.out; have a3 := A3.out; omega)).symm, rfl⟩
                ·have k3 : ((y : Int) == 0) = false := by simp; omega
                 go_wp2_with fail
                 go_meet
                 exact ⟨congrArg Value.bool (decide_eq_false (p := dB1 (R / 10) (i + 1) dot e') (fun h => by have := HP.out.1 h; have a1 := A1.out; have a2 := A2.out; omega)).symm, rfl⟩
               ·have k2 : ((h2 : Int) == 0) = false := by simp; omega
                go_wp2_with fail
                go_meet
                exact ⟨congrArg Value.bool (decide_eq_false (p := dB1 (R / 10) (i + 1) dot e') (fun h => by have := HP.out.1 h; have a1 := A1.out; omega)).symm, rfl⟩
              ·have k1 : ((l2 : Int) == 0) = false := by simp; omega
               go_wp2_with fail
               go_meet
               exact ⟨congrArg Value.bool (decide_eq_false (p := dB1 (R / 10) (i + 1) dot e') (fun h => by have := HP.out.1 h; omega)).symm, rfl⟩
            case rest =>
             obtain ⟨rfl, hwc⟩ := hcut
             obtain rfl := hwc.symm
             by_cases hb1 : dB1 (R / 10) (i + 1) dot e'
             ·have hbd : decide (dB1 (R / 10) (i + 1) dot e') = true := by simp [hb1]
              have hT := HI.out.b1 hb1
              rw [HCC.out] at hT
              have hT1 : T.1 = e' := by rw [hT]
              have H3 := LH (show DM g w i T.2 w2 from (by rw [hT]; exact HM2.out))
              clear hT HI HM2
              go_wp2_with fail
              go_meet
              exact ⟨i, by rw [hT1], rfl, by omega, by omega, H3⟩
             ·have hbd : decide (dB1 (R / 10) (i + 1) dot e') = false := by simp [hb1]
              have HB1 := LH hb1
              obtain ⟨la2, hla⟩ : ∃ la2, (if R % 10 = 0 then last else i) = la2 := ⟨_, rfl⟩
              have HLA := LH hla
              have hla2 : i ≤ la2 ∧ la2 ≤ 48 := by rw [← hla]; split <;> omega
              clear hla
              go_upto_if 156 with fail
              go_cut [10] from 72 to 172 (fun la wx => la = .int .i64 la2 ∧ wx = w2)
              case first =>
               as_aux_lemma =>
                have hxr := HRM.out
                have hlx := HLA.out
                rw [hxr] at hlx
                clear HI HM2 HRM HRD HRZ HYP HCC HLA hxr
                by_cases c1 : x = 0
                ·have k1 : (48 + (x : Int) != 48) = false := by simp; omega
                 have k2 : (48 + (x : Int) == 48) = true := by simp; omega
                 rw [if_pos c1] at hlx
                 have HLX := LH hlx; clear hlx
                 clear c1
                 go_wp2_with fail
                 go_meet
                 exact ⟨by rw [HLX.out], rfl⟩
                ·have k1 : (48 + (x : Int) != 48) = true := by simp; omega
                 have k2 : (48 + (x : Int) == 48) = false := by simp; omega
                 rw [if_neg c1] at hlx
                 have HLX := LH hlx; clear hlx
                 go_wp2_with fail
                 go_meet
                 exact ⟨by rw [HLX.out], rfl⟩
              case rest =>
               obtain ⟨rfl, hwc⟩ := hcut
               obtain rfl := hwc.symm
               go_upto_region 46 with fail
               go_cut [172] from 72 to 172 (fun cb wx => cb = .bool (decide (dB2 (R / 10) (i + 1) dot)) ∧ wx = w2)
               case first =>
                as_aux_lemma =>
                 have HP := LH (show dB2 (R / 10) (i + 1) dot ↔ ((i : Int) < dot ∧ l2 = 0 ∧ h2 = 0 ∧ y = 0) from (by have := HRZ.out; unfold dB2; omega))
                 clear HI HM2 HRM HRD HRZ HYP HCC
                 by_cases a0 : (i : Int) < dot
                 ·by_cases a1 : l2 = 0
                  ·have k1 : ((l2 : Int) == 0) = true := by simp; omega
                   have A1 := LH a1; clear a1
                   by_cases a2 : h2 = 0
                   ·have k2 : ((h2 : Int) == 0) = true := by simp; omega
                    have A2 := LH a2; clear a2
                    by_cases a3 : y = 0
                    ·have k3 : ((y : Int) == 0) = true := by simp; omega
                     have A3 := LH a3; clear a3
                     go_wp2_with fail
                     go_meet
                     exact ⟨congrArg Value.bool (decide_eq_true (p := dB2 (R / 10) (i + 1) dot) (HP.out.2 (by have a1 := A1.out; have a2 := A2.out; have a3 := A3.out; omega))).symm, rfl⟩
                    ·have k3 : ((y : Int) == 0) = false := by simp; omega
                     go_wp2_with fail
                     go_meet
                     exact ⟨congrArg Value.bool (decide_eq_false (p := dB2 (R / 10) (i + 1) dot) (fun h => by have := HP.out.1 h; have a1 := A1.out; have a2 := A2.out; omega)).symm, rfl⟩
                   ·have k2 : ((h2 : Int) == 0) = false := by simp; omega
                    go_wp2_with fail
                    go_meet
                    exact ⟨congrArg Value.bool (decide_eq_false (p := dB2 (R / 10) (i + 1) dot) (fun h => by have := HP.out.1 h; have a1 := A1.out; omega)).symm, rfl⟩
                  ·have k1 : ((l2 : Int) == 0) = false := by simp; omega
                   go_wp2_with fail
                   go_meet
                   exact ⟨congrArg Value.bool (decide_eq_false (p := dB2 (R / 10) (i + 1) dot) (fun h => by have := HP.out.1 h; omega)).symm, rfl⟩
                 ·skip
                  go_wp2_with fail
                  go_meet
                  exact ⟨congrArg Value.bool (decide_eq_false (p := dB2 (R / 10) (i + 1) dot) (fun h => by have := HP.out.1 h; omega)).symm, rfl⟩
               case rest =>
                obtain ⟨rfl, hwc⟩ := hcut
                obtain rfl := hwc.symm
                by_cases hb2 : dB2 (R / 10) (i + 1) dot
                ·have hbd2 : decide (dB2 (R / 10) (i + 1) dot) = true := by simp [hb2]
                 have hT := HI.out.b2 HB1.out hb2
                 rw [HCC.out, show i + 1 - 1 = i from rfl, HLA.out] at hT
                 have hT1 : T.1 = e' := by rw [hT]
                 have hlen := HM2.out.len
                 have H2 := HM2.out.drop (la2 - i) (by omega)
                 have H3 := LH (show DM g w la2 T.2 w2 from (by rw [hT]; rw [show i + (la2 - i) = la2 from by omega] at H2; exact H2))
                 clear hT HI HM2 H2 hlen
                 go_wp2_with fail
                 go_meet
                 exact ⟨la2, by rw [hT1], rfl, by omega, by omega, H3⟩
                ·have hbd2 : decide (dB2 (R / 10) (i + 1) dot) = false := by simp [hb2]
                 have hN := HI.out.on HB1.out hb2
                 rw [HCC.out, show i + 1 - 1 = i from rfl, HLA.out, HRD.out, show f = 45 - 9 * q - (j + 1) from by omega] at hN
                 have HN := LH hN
                 clear hN HI
                 go_wp2_with fail
                 go_roundg (gk - 1)
                 case rel => exact ⟨i, la2, j + 1, y, dot, e', c :: t, rfl, rfl, rfl, rfl, rfl, by go_num, by omega, by omega, by omega, HYP.out, HN, HM2⟩
                 case measure => omega

         ·obtain rfl : j = 9 := by omega
          have H1 := LH (show DInv T (45 - 9 * (q + 1)) (h2 * 18446744073709551616 + l2) i dot e' last t from (by
           have := HI.out
           have hr := HR.out
           obtain rfl : rr = 0 := by simpa using hr
           rw [show 45 - 9 * q - 9 = 45 - 9 * (q + 1) from by omega] at this
           simpa using this))
          clear HI HR
          go_wp2_with fail
          go_roundg (go - 1)
          case rel => exact ⟨h2, l2, i, last, q + 1, dot, e', t, rfl, rfl, rfl, rfl, rfl, rfl, by go_num, by omega, by omega, hh2, hl2, H1, HM⟩
          case measure => omega
       ·obtain rfl : q = 5 := by omega
        have H1 := HI.out
        have H2 := HM.out.drop (last - i) (by have := HM.out.len; have := H1.l48; have := H1.il; omega)
        have hrun := H1.run
        have hT1 : T.1 = e' := by rw [← hrun]; rfl
        have hT2 : T.2 = t.drop (last - i) := by rw [← hrun]; rfl
        have hil := H1.il
        have hfi := H1.fi
        have hl48 := H1.l48
        rw [show i + (last - i) = last from by omega, ← hT2] at H2
        have H3 := LH H2
        clear H1 H2 hrun hT2
        go_wp2_with fail
        go_meet
        exact ⟨last, by rw [hT1], rfl, by omega, hl48, H3⟩
     case rest =>
      obtain ⟨la, rfl, rfl, hla1, hla48, HMT⟩ := hcut
      obtain ⟨k, rfl⟩ : ∃ k, la = k + 1 := ⟨la - 1, by omega⟩
      obtain ⟨⟨v, hv⟩, hfr⟩ := HMT.out.cell k (by omega)
      have HM3 := LH (HMT.out.push 45 45 rfl (by omega))
      have hT1 := he1
      clear HMT HI0 HM0
      have htp := decBody_pos (Hn * 18446744073709551616 + Ln) e
      have hte := decBody_exp (Hn * 18446744073709551616 + Ln) e (nd_le _ 35 (by omega) (by omega)) he1
      rw [HT.out] at htp hte
      obtain ⟨e1, he1⟩ : ∃ e1, T.1 = e1 := ⟨_, rfl⟩
      obtain ⟨tx, htx⟩ : ∃ tx, T.2 = tx := ⟨_, rfl⟩
      rw [he1] at hte
      rw [htx] at htp
      rw [he1]
      rw [htx] at HM3
      obtain ⟨w3, hw3⟩ : ∃ w3, wc.setCell ⟨g, k, none⟩ (.int .u8 45) = w3 := ⟨_, rfl⟩
      rw [hw3] at HM3
      obtain ⟨lo, sg, hlo, hsg, HM4⟩ : ∃ (lo : Nat) (sg : List UInt8), (k : Int) + pz = (lo : Int) ∧ sg = (if neg then [45] else []) ∧ Hid (DM g w lo (sg ++ tx) w3) := by
       have hpp := HPZ.out
       cases neg
       ·obtain rfl : pz = 1 := hpp
        refine ⟨k + 1, [], by omega, rfl, ?_⟩
        have := HM3.out.drop 1 (by simp)
        exact this
       ·obtain rfl : pz = 0 := hpp
        exact ⟨k, [45], by omega, rfl, HM3.out⟩
      have HSG := LH hsg
      clear hsg
      have hlen := HM4.out.len
      have hsgl : (sg ++ tx).length = sg.length + tx.length := List.length_append
      obtain ⟨txt, htxt⟩ : ∃ txt, sg ++ tx = txt := ⟨_, rfl⟩
      rw [htxt] at HM4 hlen hsgl
      have HTX := LH htxt
      clear htxt
      have hlo48 : lo < 48 := by omega
      have hgw : g < w3.heap.size := by obtain ⟨cs, hb, _⟩ := HM4.out.blk; exact blk_lt hb
      have hstr : ∀ W, Below w3.heap.size w3 W → (convert 23 9 (.slice (some ⟨g, lo, none⟩) (48 - lo) (48 - lo))).run Tryz.prog W = .ok (.string ⟨txt.toArray⟩) W := fun W hW => (HM4.out.mono hW (by omega)).str (48 - lo) (48 - lo) (by omega)
      by_cases hpos : 0 < e1
      ·skip
       have HF := LH (show decFin neg (Hn * 18446744073709551616 + Ln) e = txt ++ 69 :: 43 :: Lib.itoa e1 by rw [← HTX.out, HSG.out]; unfold decFin decExpT; rw [HT.out, he1, htx, if_pos hpos]; simp)
       go_wp2_with fail
       refine wp_region_quiet_cls (C := fun W' => Below w3.heap.size w3 W') (by kernel_rfl) (by kernel_rfl) (below_dr w3 1) ?_
       refine quiet_val (.int .i64 (k : Int)) (by kernel_rfl) (fun W hW => by go_simp) ?_
       refine quiet_val (.int .i64 pz) (by kernel_rfl) (fun W hW => by go_simp) ?_
       refine quiet_val (.int .i64 (lo : Int)) (by kernel_rfl) (fun W hW => by go_simp; rw [IntKind.wrap_i64]; omega) ?_
       refine quiet_val (.slice (some ⟨g, lo, none⟩) (48 - lo) (48 - lo)) (by kernel_rfl) (fun W hW => by go_simp; rw [slice262 g lo hlo48 W]; rfl) ?_
       refine quiet_val (.string ⟨txt.toArray⟩) (by kernel_rfl) (fun W hW => by have h := hstr W hW; go_simp) ?_
       refine quiet_val (.string ⟨(txt ++ [69, 43]).toArray⟩) (by kernel_rfl) (fun W hW => by go_simp; rw [if_neg (by omega)]; exact congrArg (fun x => Result.ok (Next.value (Value.string x)) W) (bs_cat txt [69, 43])) ?_
       refine quiet_val (.int .i64 e1) (by kernel_rfl) (fun W hW => by go_simp) ?_
       refine quiet_enter (.string ⟨(Lib.itoa e1).toArray⟩) 197 #[.int .i64 e1] (by kernel_rfl) (fun W hW => by go_simp) (fun W hW => (Tryz.strconv_Itoa e1 (by omega) (by omega) W ((HTB.out.below (HM4.out.bl.trans (hW.mono (by omega))) (by omega)).p10)).mono fun en W' ⟨h1, k2, os, h2⟩ => ⟨h1, by subst h2; exact hW.trans ((Lib.below_grow _ W (Nat.le_refl _) k2 os).mono hW.size)⟩) ?_
       refine quiet_val (.string ⟨(txt ++ [69, 43] ++ Lib.itoa e1).toArray⟩) (by kernel_rfl) (fun W hW => by go_simp; rw [if_neg (by have := Lib.itoa_length_le e1 (by omega) (by omega); simp; omega)]; exact congrArg (fun x => Result.ok (Next.value (Value.string x)) W) ((bs_cat (txt ++ [69, 43]) (Lib.itoa e1)).trans (by simp))) ?_
       refine quiet_val (.string ⟨(txt ++ [69, 43] ++ Lib.itoa e1).toArray⟩) (by kernel_rfl) (fun W hW => by go_simp) ?_
       refine wpQuiet_nil ?_
       intro W hW
       go_simp
       go_wp2_with fail
       rw [Exit.noGoto_ret]
       go_ret
       rw [HF.out]
       exact ⟨rfl, by rw [hg]; exact HM4.out.bl.trans (hW.mono (by omega))⟩
      ·by_cases hneg : e1 < 0
       ·skip
        have HF := LH (show decFin neg (Hn * 18446744073709551616 + Ln) e = txt ++ 69 :: Lib.itoa e1 by rw [← HTX.out, HSG.out]; unfold decFin decExpT; rw [HT.out, he1, htx, if_neg hpos, if_pos hneg]; simp)
        go_wp2_with fail
        refine wp_region_quiet_cls (C := fun W' => Below w3.heap.size w3 W') (by kernel_rfl) (by kernel_rfl) (below_dr w3 1) ?_
        refine quiet_val (.int .i64 (k : Int)) (by kernel_rfl) (fun W hW => by go_simp) ?_
        refine quiet_val (.int .i64 pz) (by kernel_rfl) (fun W hW => by go_simp) ?_
        refine quiet_val (.int .i64 (lo : Int)) (by kernel_rfl) (fun W hW => by go_simp; rw [IntKind.wrap_i64]; omega) ?_
        refine quiet_val (.slice (some ⟨g, lo, none⟩) (48 - lo) (48 - lo)) (by kernel_rfl) (fun W hW => by go_simp; rw [slice262 g lo hlo48 W]; rfl) ?_
        refine quiet_val (.string ⟨txt.toArray⟩) (by kernel_rfl) (fun W hW => by have h := hstr W hW; go_simp) ?_
        refine quiet_val (.string ⟨(txt ++ [69]).toArray⟩) (by kernel_rfl) (fun W hW => by go_simp; rw [if_neg (by omega)]; exact congrArg (fun x => Result.ok (Next.value (Value.string x)) W) (bs_cat txt [69])) ?_
        refine quiet_val (.int .i64 e1) (by kernel_rfl) (fun W hW => by go_simp) ?_
        refine quiet_enter (.string ⟨(Lib.itoa e1).toArray⟩) 197 #[.int .i64 e1] (by kernel_rfl) (fun W hW => by go_simp) (fun W hW => (Tryz.strconv_Itoa e1 (by omega) (by omega) W ((HTB.out.below (HM4.out.bl.trans (hW.mono (by omega))) (by omega)).p10)).mono fun en W' ⟨h1, k2, os, h2⟩ => ⟨h1, by subst h2; exact hW.trans ((Lib.below_grow _ W (Nat.le_refl _) k2 os).mono hW.size)⟩) ?_
        refine quiet_val (.string ⟨(txt ++ [69] ++ Lib.itoa e1).toArray⟩) (by kernel_rfl) (fun W hW => by go_simp; rw [if_neg (by have := Lib.itoa_length_le e1 (by omega) (by omega); simp; omega)]; exact congrArg (fun x => Result.ok (Next.value (Value.string x)) W) ((bs_cat (txt ++ [69]) (Lib.itoa e1)).trans (by simp))) ?_
        refine quiet_val (.string ⟨(txt ++ [69] ++ Lib.itoa e1).toArray⟩) (by kernel_rfl) (fun W hW => by go_simp) ?_
        refine wpQuiet_nil ?_
        intro W hW
        go_simp
        go_wp2_with fail
        rw [Exit.noGoto_ret]
        go_ret
        rw [HF.out]
        exact ⟨rfl, by rw [hg]; exact HM4.out.bl.trans (hW.mono (by omega))⟩
       ·have hsl : ∀ W : World, (Instr.sliceAt 262 (.pointer (some ⟨g, 0, none⟩)) (some (.int .i64 (lo : Int))) none none).run Tryz.prog W = .ok (.slice (some ⟨g, lo, none⟩) (48 - lo) (48 - lo)) W := slice262 g lo hlo48
        have hst3 := hstr w3 (Below.refl _ _)
        have HF := LH (show decFin neg (Hn * 18446744073709551616 + Ln) e = txt by rw [← HTX.out, HSG.out]; unfold decFin decExpT; rw [HT.out, he1, htx, if_neg hpos, if_neg hneg]; simp)
        go_wp2_with fail
        first | go_ret | (rw [Exit.noGoto_ret]; go_ret)
        rw [HF.out]
        exact ⟨rfl, by rw [hg]; exact HM4.out.bl⟩
end Go.Proofs.YtpfkgpcnhdkkbaaGreatDoor
