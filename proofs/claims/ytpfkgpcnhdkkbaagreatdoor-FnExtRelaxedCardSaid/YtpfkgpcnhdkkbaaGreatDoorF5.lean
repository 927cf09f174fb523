/- internal/strconv.fmtEFG at 'G', the shortest digits, without an exponent. -/
import Derived.Test.YtpfkgpcnhdkkbaaGreatDoorF4
namespace Go.Proofs.YtpfkgpcnhdkkbaaGreatDoor
open Go.RowKit
set_option linter.unusedVariables false
set_option linter.unusedSimpArgs false
set_option maxRecDepth 100000
/-- Without an exponent. -/
def gF (neg : Bool) (l : List UInt8) (dp : Int) : List UInt8 :=
  sgL neg ++ ((if 0 < dp then l.take dp.toNat ++ List.replicate (dp.toNat - l.length) 48 else [48]) ++ (if dp < l.length then 46 :: (List.replicate (-dp).toNat 48 ++ l.drop dp.toNat) else []))
set_option maxHeartbeats 4000000 in
theorem efgF1_f (l : List UInt8) (dp : Int) (g B n : Nat) (v : Value) (acc : List UInt8) (W0 w : World) (hn : l.length = n) (hl : n ≤ 20) (hd0 : 1 ≤ dp) (hd1 : dp ≤ 6) (hdn : n ≤ dp) (ha : acc.length ≤ 1000)
    (hb : OB B v acc W0 w) (hc : DigB W0 g l) :
    Calls Tryz.prog 203 #[v, .bool false, .slice (some ⟨g, 0, none⟩) 32 32, .int .i64 dp, .int .i64 (n : Int), .int .i64 (n : Int), .int .u8 71, .bool true] w fun e w' => ∃ v', e = .returned v' ∧ OB B v' (acc ++ gF false l dp) W0 w' := by
  have HB := Lib.hid hb
  have HPL := Lib.hid ha
  have HC := Lib.hid hc
  have HN := Lib.hid hn
  clear hb hc ha hn
  obtain ⟨d, rfl⟩ := Int.eq_ofNat_of_zero_le (show 0 ≤ dp by omega)
  have d0 : 1 ≤ d := by omega
  have d1 : d ≤ 6 := by omega
  have d2 : n ≤ d := by omega
  obtain ⟨p, hp⟩ : ∃ p : Nat, (d : Int) - (n : Int) = (p : Int) := ⟨d - n, by omega⟩
  have p1 : p ≤ 6 := by omega
  have P2 := Lib.hid (show n + p = d by omega)
  have f1 : min (n : Int) (d : Int) = (n : Int) := by omega
  have f2 : max ((n : Int) - (d : Int)) 0 = 0 := by omega
  have q4 : decide (d < n) = false := by simp; omega
  have q1 : decide ((d : Int) - 1 < -4) = false := by simp; omega
  have q2 : decide (6 ≤ (d : Int) - 1) = false := by simp; omega
  have q3 : decide (0 < d) = true := by simp; omega
  clear hd0 hd1 hdn
  go_enter Tryz.func203, Tryz.ntmps203
  go_wp2_with (first | (at_builtin; refine ob_byte rfl _ _ rfl rfl _ _ (u8z (by omega) (by omega)) HB.out rfl (by have h_1 := HPL.out; have h_2 := HN.out; (try simp only [List.length_append, List.length_cons, List.length_nil, List.length_drop, List.length_take, List.length_replicate]); omega) ?_; intro v1 w1 hb1; clear HB; have HB := Lib.hid hb1; clear hb1))
  obtain ⟨pre1, hpre1⟩ : ∃ pre, acc = pre := ⟨_, rfl⟩
  have HPLn := Lib.hid (show pre1.length ≤ 1100 by have h_1 := HPL.out; have h_2 := HN.out; rw [← hpre1]; (try simp only [List.length_append, List.length_cons, List.length_nil, List.length_drop, List.length_take, List.length_replicate]); omega)
  clear HPL
  have HPL := HPLn
  clear HPLn
  rw [hpre1] at HB
  have HPR1 := Lib.hid hpre1
  clear hpre1
  go_loopg [0, 191] n (fun gk dst i wr => ∃ k : Nat, i = .int .i64 k ∧ k ≤ n ∧ n - k ≤ gk ∧ Hid (OB B dst (pre1 ++ (l.drop 0).take k) W0 wr))
  case atStart => exact ⟨0, rfl, Nat.zero_le _, Nat.le_refl _, by have := HB.out; show OB _ _ _ _ _; simpa using this⟩
  case round =>
    obtain ⟨k, rfl, hkc, hkg, HBr⟩ := hrel
    clear HB
    by_cases hlt : k < n
    · obtain ⟨b, hb⟩ : ∃ b, l[0 + k]? = some b := ⟨_, List.getElem?_eq_getElem (by rw [HN.out]; omega)⟩
      have cc := anyCell HC.out HBr.out.kept (0 + k) b hb
      have HTK := Lib.hid (show (l.drop 0).take (k + 1) = (l.drop 0).take k ++ [b] by rw [List.take_add_one, List.getElem?_drop, hb]; rfl)
      obtain ⟨x, hx⟩ : ∃ x, b.toNat = x := ⟨_, rfl⟩
      have xlt : x < 256 := by rw [← hx]; exact UInt8.toNat_lt _
      rw [hx] at cc
      have HX := Lib.hid hx
      clear hx hb
      rw [Nat.zero_add] at cc
      go_wp2_with (at_builtin; refine ob_byte rfl _ _ rfl rfl b _ (by rw [HX.out]) HBr.out rfl (by have h_1 := HPL.out; have h_2 := HN.out; simp only [List.length_append, List.length_cons, List.length_nil, List.length_drop, List.length_take, List.length_replicate]; omega) ?_; intro v1 w1 hb1; clear HBr; have HB := Lib.hid hb1; clear hb1)
      go_roundg (n - (k + 1))
      case rel => exact ⟨k + 1, by go_num, by omega, by omega, by have := HB.out; rw [HTK.out]; show OB _ _ _ _ _; simpa using this⟩
      case measure => omega
    · obtain rfl : n = k := by omega
      have HB := HBr
      clear HBr
      go_wp2_with (first | (at_builtin; refine ob_byte rfl _ _ rfl rfl _ _ (u8z (by omega) (by omega)) HB.out rfl (by have h_1 := HPL.out; have h_2 := HN.out; (try simp only [List.length_append, List.length_cons, List.length_nil, List.length_drop, List.length_take, List.length_replicate]); omega) ?_; intro v1 w1 hb1; clear HB; have HB := Lib.hid hb1; clear hb1))
      obtain ⟨pre2, hpre2⟩ : ∃ pre, pre1 ++ (l.drop 0).take n = pre := ⟨_, rfl⟩
      have HPLn := Lib.hid (show pre2.length ≤ 1200 by have h_1 := HPL.out; have h_2 := HN.out; rw [← hpre2]; (try simp only [List.length_append, List.length_cons, List.length_nil, List.length_drop, List.length_take, List.length_replicate]); omega)
      clear HPL
      have HPL := HPLn
      clear HPLn
      rw [hpre2] at HB
      have HPR2 := Lib.hid hpre2
      clear hpre2
      go_loopg [0, 203] p (fun gk dst i wr => ∃ k : Nat, i = .int .i64 k ∧ k ≤ p ∧ p - k ≤ gk ∧ Hid (OB B dst (pre2 ++ List.replicate k 48) W0 wr))
      case atStart => exact ⟨0, rfl, Nat.zero_le _, Nat.le_refl _, by have := HB.out; show OB _ _ _ _ _; simpa using this⟩
      case round =>
        obtain ⟨k, rfl, hkc, hkg, HBr⟩ := hrel
        clear HB
        by_cases hlt : k < p
        · go_wp2_with (at_builtin; refine ob_byte rfl _ _ rfl rfl 48 _ rfl HBr.out rfl (by have h_1 := HPL.out; simp only [List.length_append, List.length_cons, List.length_nil, List.length_drop, List.length_take, List.length_replicate]; omega) ?_; intro v1 w1 hb1; clear HBr; have HB := Lib.hid hb1; clear hb1)
          go_roundg (p - (k + 1))
          case rel => exact ⟨k + 1, by go_num, by omega, by omega, by have := HB.out; show OB _ _ _ _ _; rw [List.replicate_succ', ← List.append_assoc]; exact this⟩
          case measure => omega
        · obtain rfl : p = k := by omega
          have HB := HBr
          clear HBr
          go_wp2_with (first | (at_builtin; refine ob_byte rfl _ _ rfl rfl _ _ (u8z (by omega) (by omega)) HB.out rfl (by have h_1 := HPL.out; have h_2 := HN.out; (try simp only [List.length_append, List.length_cons, List.length_nil, List.length_drop, List.length_take, List.length_replicate]); omega) ?_; intro v1 w1 hb1; clear HB; have HB := Lib.hid hb1; clear hb1))
          go_ret
          refine ⟨_, rfl, ?_⟩
          have hfin := HB.out
          rw [← HPR2.out, ← HPR1.out] at hfin
          unfold gF sgL
          rw [if_pos (show (0 : Int) < (d : Int) by omega), if_neg (show ¬ (d : Int) < (l.length : Int) by rw [HN.out]; omega), HN.out, show ((d : Int)).toNat - n = p from by (have := P2.out; omega), show ((d : Int)).toNat = d from by omega]
          rw [List.drop_zero, show l.take n = l.take d from by rw [List.take_of_length_le (by rw [HN.out]; omega), List.take_of_length_le (by rw [HN.out]; omega)]] at hfin
          simpa using hfin
set_option maxHeartbeats 4000000 in
theorem efgF2_f (l : List UInt8) (dp : Int) (g B n : Nat) (v : Value) (acc : List UInt8) (W0 w : World) (hn : l.length = n) (hl : n ≤ 20) (hd0 : 1 ≤ dp) (hd1 : dp ≤ 6) (hdn : dp < n) (ha : acc.length ≤ 1000)
    (hb : OB B v acc W0 w) (hc : DigB W0 g l) :
    Calls Tryz.prog 203 #[v, .bool false, .slice (some ⟨g, 0, none⟩) 32 32, .int .i64 dp, .int .i64 (n : Int), .int .i64 (n : Int), .int .u8 71, .bool true] w fun e w' => ∃ v', e = .returned v' ∧ OB B v' (acc ++ gF false l dp) W0 w' := by
  have HB := Lib.hid hb
  have HPL := Lib.hid ha
  have HC := Lib.hid hc
  have HN := Lib.hid hn
  clear hb hc ha hn
  obtain ⟨d, rfl⟩ := Int.eq_ofNat_of_zero_le (show 0 ≤ dp by omega)
  have d0 : 1 ≤ d := by omega
  have d1 : d ≤ 6 := by omega
  have d2 : d < n := by omega
  obtain ⟨p, hp⟩ : ∃ p : Nat, (n : Int) - (d : Int) = (p : Int) := ⟨n - d, by omega⟩
  have p0 : 1 ≤ p := by omega
  have p1 : p ≤ 20 := by omega
  have p2 : d + p = n := by omega
  have P2 := Lib.hid p2
  have f1 : min (n : Int) (d : Int) = (d : Int) := by omega
  have f2 : max (p : Int) 0 = (p : Int) := by omega
  have f3 : max 0 (-(d : Int)) = 0 := by omega
  have f4 : min (p : Int) 0 = 0 := by omega
  have f5 : max 0 (p : Int) = (p : Int) := by omega
  have q1 : decide ((d : Int) - 1 < -4) = false := by simp; omega
  have q2 : decide (6 ≤ (d : Int) - 1) = false := by simp; omega
  have q3 : decide (0 < d) = true := by simp; omega
  have q4 : decide (0 < p) = true := by simp; omega
  have dk : ∀ k : Nat, k < p → d + k < n := by intro k hk; omega
  have DK := Lib.hid dk
  clear hd0 hd1 hdn p2 dk
  go_enter Tryz.func203, Tryz.ntmps203
  go_wp2_with (first | (at_builtin; refine ob_byte rfl _ _ rfl rfl _ _ (u8z (by omega) (by omega)) HB.out rfl (by have h_1 := HPL.out; have h_2 := HN.out; (try simp only [List.length_append, List.length_cons, List.length_nil, List.length_drop, List.length_take, List.length_replicate]); omega) ?_; intro v1 w1 hb1; clear HB; have HB := Lib.hid hb1; clear hb1))
  obtain ⟨pre1, hpre1⟩ : ∃ pre, acc = pre := ⟨_, rfl⟩
  have HPLn := Lib.hid (show pre1.length ≤ 1100 by have h_1 := HPL.out; have h_2 := HN.out; rw [← hpre1]; (try simp only [List.length_append, List.length_cons, List.length_nil, List.length_drop, List.length_take, List.length_replicate]); omega)
  clear HPL
  have HPL := HPLn
  clear HPLn
  rw [hpre1] at HB
  have HPR1 := Lib.hid hpre1
  clear hpre1
  go_loopg [0, 191] d (fun gk dst i wr => ∃ k : Nat, i = .int .i64 k ∧ k ≤ d ∧ d - k ≤ gk ∧ Hid (OB B dst (pre1 ++ (l.drop 0).take k) W0 wr))
  case atStart => exact ⟨0, rfl, Nat.zero_le _, Nat.le_refl _, by have := HB.out; show OB _ _ _ _ _; simpa using this⟩
  case round =>
    obtain ⟨k, rfl, hkc, hkg, HBr⟩ := hrel
    clear HB
    by_cases hlt : k < d
    · obtain ⟨b, hb⟩ : ∃ b, l[0 + k]? = some b := ⟨_, List.getElem?_eq_getElem (by rw [HN.out]; omega)⟩
      have cc := anyCell HC.out HBr.out.kept (0 + k) b hb
      have HTK := Lib.hid (show (l.drop 0).take (k + 1) = (l.drop 0).take k ++ [b] by rw [List.take_add_one, List.getElem?_drop, hb]; rfl)
      obtain ⟨x, hx⟩ : ∃ x, b.toNat = x := ⟨_, rfl⟩
      have xlt : x < 256 := by rw [← hx]; exact UInt8.toNat_lt _
      rw [hx] at cc
      have HX := Lib.hid hx
      clear hx hb
      rw [Nat.zero_add] at cc
      go_wp2_with (at_builtin; refine ob_byte rfl _ _ rfl rfl b _ (by rw [HX.out]) HBr.out rfl (by have h_1 := HPL.out; have h_2 := HN.out; simp only [List.length_append, List.length_cons, List.length_nil, List.length_drop, List.length_take, List.length_replicate]; omega) ?_; intro v1 w1 hb1; clear HBr; have HB := Lib.hid hb1; clear hb1)
      go_roundg (d - (k + 1))
      case rel => exact ⟨k + 1, by go_num, by omega, by omega, by have := HB.out; rw [HTK.out]; show OB _ _ _ _ _; simpa using this⟩
      case measure => omega
    · obtain rfl : d = k := by omega
      have HB := HBr
      clear HBr
      go_wp2_with (first | (at_builtin; refine ob_byte rfl _ _ rfl rfl _ _ (u8z (by omega) (by omega)) HB.out rfl (by have h_1 := HPL.out; have h_2 := HN.out; (try simp only [List.length_append, List.length_cons, List.length_nil, List.length_drop, List.length_take, List.length_replicate]); omega) ?_; intro v1 w1 hb1; clear HB; have HB := Lib.hid hb1; clear hb1))
      refine wp_loop_rounds 1 ?_
      rw [rounds_succ]
      go_wp2_with (first | (at_builtin; refine ob_byte rfl _ _ rfl rfl _ _ (u8z (by omega) (by omega)) HB.out rfl (by have h_1 := HPL.out; have h_2 := HN.out; (try simp only [List.length_append, List.length_cons, List.length_nil, List.length_drop, List.length_take, List.length_replicate]); omega) ?_; intro v1 w1 hb1; clear HB; have HB := Lib.hid hb1; clear hb1))
      refine wp_loop_rounds 1 ?_
      rw [rounds_succ]
      go_wp2_with (first | (at_builtin; refine ob_byte rfl _ _ rfl rfl _ _ (u8z (by omega) (by omega)) HB.out rfl (by have h_1 := HPL.out; have h_2 := HN.out; (try simp only [List.length_append, List.length_cons, List.length_nil, List.length_drop, List.length_take, List.length_replicate]); omega) ?_; intro v1 w1 hb1; clear HB; have HB := Lib.hid hb1; clear hb1))
      obtain ⟨pre2, hpre2⟩ : ∃ pre, pre1 ++ (l.drop 0).take d ++ [UInt8.ofNat (Int.toNat 46)] = pre := ⟨_, rfl⟩
      have HPLn := Lib.hid (show pre2.length ≤ 1200 by have h_1 := HPL.out; have h_2 := HN.out; rw [← hpre2]; (try simp only [List.length_append, List.length_cons, List.length_nil, List.length_drop, List.length_take, List.length_replicate]); omega)
      clear HPL
      have HPL := HPLn
      clear HPLn
      rw [hpre2] at HB
      have HPR2 := Lib.hid hpre2
      clear hpre2
      go_loopg [0, 247] p (fun gk dst i wr => ∃ k : Nat, i = .int .i64 k ∧ k ≤ p ∧ p - k ≤ gk ∧ Hid (OB B dst (pre2 ++ (l.drop d).take k) W0 wr))
      case atStart => exact ⟨0, rfl, Nat.zero_le _, Nat.le_refl _, by have := HB.out; show OB _ _ _ _ _; simpa using this⟩
      case round =>
        obtain ⟨k, rfl, hkc, hkg, HBr⟩ := hrel
        clear HB
        by_cases hlt : k < p
        · obtain ⟨b, hb⟩ : ∃ b, l[d + k]? = some b := ⟨_, List.getElem?_eq_getElem (by rw [HN.out]; omega)⟩
          have cc := anyCell HC.out HBr.out.kept (d + k) b hb
          have HTK := Lib.hid (show (l.drop d).take (k + 1) = (l.drop d).take k ++ [b] by rw [List.take_add_one, List.getElem?_drop, hb]; rfl)
          obtain ⟨x, hx⟩ : ∃ x, b.toNat = x := ⟨_, rfl⟩
          have xlt : x < 256 := by rw [← hx]; exact UInt8.toNat_lt _
          rw [hx] at cc
          have HX := Lib.hid hx
          clear hx hb
          have hdk := DK.out k hlt
          go_wp2_with (at_builtin; refine ob_byte rfl _ _ rfl rfl b _ (by rw [HX.out]) HBr.out rfl (by have h_1 := HPL.out; have h_2 := HN.out; simp only [List.length_append, List.length_cons, List.length_nil, List.length_drop, List.length_take, List.length_replicate]; omega) ?_; intro v1 w1 hb1; clear HBr; have HB := Lib.hid hb1; clear hb1)
          go_roundg (p - (k + 1))
          case rel => exact ⟨k + 1, by go_num, by omega, by omega, by have := HB.out; rw [HTK.out]; show OB _ _ _ _ _; simpa using this⟩
          case measure => omega
        · obtain rfl : p = k := by omega
          have HB := HBr
          clear HBr
          go_wp2_with (first | (at_builtin; refine ob_byte rfl _ _ rfl rfl _ _ (u8z (by omega) (by omega)) HB.out rfl (by have h_1 := HPL.out; have h_2 := HN.out; (try simp only [List.length_append, List.length_cons, List.length_nil, List.length_drop, List.length_take, List.length_replicate]); omega) ?_; intro v1 w1 hb1; clear HB; have HB := Lib.hid hb1; clear hb1))
          refine wp_loop_rounds 1 ?_
          rw [rounds_succ]
          go_wp2_with (first | (at_builtin; refine ob_byte rfl _ _ rfl rfl _ _ (u8z (by omega) (by omega)) HB.out rfl (by have h_1 := HPL.out; have h_2 := HN.out; (try simp only [List.length_append, List.length_cons, List.length_nil, List.length_drop, List.length_take, List.length_replicate]); omega) ?_; intro v1 w1 hb1; clear HB; have HB := Lib.hid hb1; clear hb1))
          go_ret
          refine ⟨_, rfl, ?_⟩
          have hfin := HB.out
          rw [← HPR2.out, ← HPR1.out] at hfin
          unfold gF sgL
          rw [if_pos (show (0 : Int) < (d : Int) by omega), if_pos (show (d : Int) < (l.length : Int) by rw [HN.out]; omega), HN.out, show ((d : Int)).toNat - n = 0 from by omega, show (-(d : Int)).toNat = 0 from by omega]
          rw [show (l.drop d).take p = l.drop d from List.take_of_length_le (by rw [List.length_drop, HN.out]; omega)] at hfin
          simpa using hfin
set_option maxHeartbeats 4000000 in
theorem efgF3_f (l : List UInt8) (dp : Int) (g B n : Nat) (v : Value) (acc : List UInt8) (W0 w : World) (hn : l.length = n) (hl : n ≤ 20) (hd0 : -3 ≤ dp) (hd1 : dp ≤ 0) (hdn : dp < n) (ha : acc.length ≤ 1000)
    (hb : OB B v acc W0 w) (hc : DigB W0 g l) :
    Calls Tryz.prog 203 #[v, .bool false, .slice (some ⟨g, 0, none⟩) 32 32, .int .i64 dp, .int .i64 (n : Int), .int .i64 (n : Int), .int .u8 71, .bool true] w fun e w' => ∃ v', e = .returned v' ∧ OB B v' (acc ++ gF false l dp) W0 w' := by
  have HB := Lib.hid hb
  have HPL := Lib.hid ha
  have HC := Lib.hid hc
  have HN := Lib.hid hn
  clear hb hc ha hn
  obtain ⟨d, hd⟩ : ∃ d : Nat, dp = -(d : Int) := ⟨(-dp).toNat, by omega⟩
  subst hd
  have d1 : d ≤ 3 := by omega
  obtain ⟨p, hp⟩ : ∃ p : Nat, (n : Int) - -(d : Int) = (p : Int) := ⟨n + d, by omega⟩
  have p1 : p ≤ 23 := by omega
  have p0 : 1 ≤ p := by omega
  have hp1 : (p : Int) - (d : Int) = (n : Int) := by omega
  have P2 := Lib.hid (show n + d = p by omega)
  have f1 : min (p : Int) (d : Int) = (d : Int) := by omega
  have f2 : max (p : Int) 0 = (p : Int) := by omega
  have f3 : max 0 (d : Int) = (d : Int) := by omega
  have f4 : max 0 (n : Int) = (n : Int) := by omega
  have f6 : -(d : Int) + (d : Int) = 0 := by omega
  have q1 : decide (-(d : Int) - 1 < -4) = false := by simp; omega
  have q2 : decide (6 ≤ -(d : Int) - 1) = false := by first | (simp; done) | (simp; omega)
  have q3 : decide (0 < -(d : Int)) = false := by first | (simp; done) | (simp; omega)
  have q4 : decide (0 < p) = true := by simp; omega
  have q5 : decide ((n : Int) > -(d : Int)) = true := by first | (simp; done) | (simp; omega)
  have q6 : decide (-(d : Int) < (n : Int)) = true := by first | (simp; done) | (simp; omega)
  clear hd0 hd1 hdn
  go_enter Tryz.func203, Tryz.ntmps203
  go_wp2_with (first | (at_builtin; refine ob_byte rfl _ _ rfl rfl _ _ (u8z (by omega) (by omega)) HB.out rfl (by have h_1 := HPL.out; have h_2 := HN.out; (try simp only [List.length_append, List.length_cons, List.length_nil, List.length_drop, List.length_take, List.length_replicate]); omega) ?_; intro v1 w1 hb1; clear HB; have HB := Lib.hid hb1; clear hb1))
  obtain ⟨pre1, hpre1⟩ : ∃ pre, acc ++ [UInt8.ofNat (Int.toNat 48)] ++ [UInt8.ofNat (Int.toNat 46)] = pre := ⟨_, rfl⟩
  have HPLn := Lib.hid (show pre1.length ≤ 1100 by have h_1 := HPL.out; have h_2 := HN.out; rw [← hpre1]; (try simp only [List.length_append, List.length_cons, List.length_nil, List.length_drop, List.length_take, List.length_replicate]); omega)
  clear HPL
  have HPL := HPLn
  clear HPLn
  rw [hpre1] at HB
  have HPR1 := Lib.hid hpre1
  clear hpre1
  go_loopg [0, 240] d (fun gk dst i wr => ∃ k : Nat, i = .int .i64 k ∧ k ≤ d ∧ d - k ≤ gk ∧ Hid (OB B dst (pre1 ++ List.replicate k 48) W0 wr))
  case atStart => exact ⟨0, rfl, Nat.zero_le _, Nat.le_refl _, by have := HB.out; show OB _ _ _ _ _; simpa using this⟩
  case round =>
    obtain ⟨k, rfl, hkc, hkg, HBr⟩ := hrel
    clear HB
    by_cases hlt : k < d
    · go_wp2_with (at_builtin; refine ob_byte rfl _ _ rfl rfl 48 _ rfl HBr.out rfl (by have h_1 := HPL.out; simp only [List.length_append, List.length_cons, List.length_nil, List.length_drop, List.length_take, List.length_replicate]; omega) ?_; intro v1 w1 hb1; clear HBr; have HB := Lib.hid hb1; clear hb1)
      go_roundg (d - (k + 1))
      case rel => exact ⟨k + 1, by go_num, by omega, by omega, by have := HB.out; show OB _ _ _ _ _; rw [List.replicate_succ', ← List.append_assoc]; exact this⟩
      case measure => omega
    · obtain rfl : d = k := by omega
      have HB := HBr
      clear HBr
      go_wp2_with (first | (at_builtin; refine ob_byte rfl _ _ rfl rfl _ _ (u8z (by omega) (by omega)) HB.out rfl (by have h_1 := HPL.out; have h_2 := HN.out; (try simp only [List.length_append, List.length_cons, List.length_nil, List.length_drop, List.length_take, List.length_replicate]); omega) ?_; intro v1 w1 hb1; clear HB; have HB := Lib.hid hb1; clear hb1))
      obtain ⟨pre2, hpre2⟩ : ∃ pre, pre1 ++ List.replicate d 48 = pre := ⟨_, rfl⟩
      have HPLn := Lib.hid (show pre2.length ≤ 1200 by have h_1 := HPL.out; have h_2 := HN.out; rw [← hpre2]; (try simp only [List.length_append, List.length_cons, List.length_nil, List.length_drop, List.length_take, List.length_replicate]); omega)
      clear HPL
      have HPL := HPLn
      clear HPLn
      rw [hpre2] at HB
      have HPR2 := Lib.hid hpre2
      clear hpre2
      go_loopg [0, 247] n (fun gk dst i wr => ∃ k : Nat, i = .int .i64 k ∧ k ≤ n ∧ n - k ≤ gk ∧ Hid (OB B dst (pre2 ++ (l.drop 0).take k) W0 wr))
      case atStart => exact ⟨0, rfl, Nat.zero_le _, Nat.le_refl _, by have := HB.out; show OB _ _ _ _ _; simpa using this⟩
      case round =>
        obtain ⟨k, rfl, hkc, hkg, HBr⟩ := hrel
        clear HB
        by_cases hlt : k < n
        · obtain ⟨b, hb⟩ : ∃ b, l[0 + k]? = some b := ⟨_, List.getElem?_eq_getElem (by rw [HN.out]; omega)⟩
          have cc := anyCell HC.out HBr.out.kept (0 + k) b hb
          have HTK := Lib.hid (show (l.drop 0).take (k + 1) = (l.drop 0).take k ++ [b] by rw [List.take_add_one, List.getElem?_drop, hb]; rfl)
          obtain ⟨x, hx⟩ : ∃ x, b.toNat = x := ⟨_, rfl⟩
          have xlt : x < 256 := by rw [← hx]; exact UInt8.toNat_lt _
          rw [hx] at cc
          have HX := Lib.hid hx
          clear hx hb
          rw [Nat.zero_add] at cc
          go_wp2_with (at_builtin; refine ob_byte rfl _ _ rfl rfl b _ (by rw [HX.out]) HBr.out rfl (by have h_1 := HPL.out; have h_2 := HN.out; simp only [List.length_append, List.length_cons, List.length_nil, List.length_drop, List.length_take, List.length_replicate]; omega) ?_; intro v1 w1 hb1; clear HBr; have HB := Lib.hid hb1; clear hb1)
          go_roundg (n - (k + 1))
          case rel => exact ⟨k + 1, by go_num, by omega, by omega, by have := HB.out; rw [HTK.out]; show OB _ _ _ _ _; simpa using this⟩
          case measure => omega
        · obtain rfl : n = k := by omega
          have HB := HBr
          clear HBr
          go_wp2_with (first | (at_builtin; refine ob_byte rfl _ _ rfl rfl _ _ (u8z (by omega) (by omega)) HB.out rfl (by have h_1 := HPL.out; have h_2 := HN.out; (try simp only [List.length_append, List.length_cons, List.length_nil, List.length_drop, List.length_take, List.length_replicate]); omega) ?_; intro v1 w1 hb1; clear HB; have HB := Lib.hid hb1; clear hb1))
          refine wp_loop_rounds 1 ?_
          rw [rounds_succ]
          go_wp2_with (first | (at_builtin; refine ob_byte rfl _ _ rfl rfl _ _ (u8z (by omega) (by omega)) HB.out rfl (by have h_1 := HPL.out; have h_2 := HN.out; (try simp only [List.length_append, List.length_cons, List.length_nil, List.length_drop, List.length_take, List.length_replicate]); omega) ?_; intro v1 w1 hb1; clear HB; have HB := Lib.hid hb1; clear hb1))
          go_ret
          refine ⟨_, rfl, ?_⟩
          have hfin := HB.out
          rw [← HPR2.out, ← HPR1.out] at hfin
          unfold gF sgL
          rw [if_neg (show ¬ (0 : Int) < -(d : Int) by omega), if_pos (show -(d : Int) < (l.length : Int) by rw [HN.out]; omega), show (-(d : Int)).toNat = 0 from by omega, show (- -(d : Int)).toNat = d from by omega]
          rw [List.drop_zero, show l.take n = l from List.take_of_length_le (by rw [HN.out]; omega)] at hfin
          simpa using hfin
theorem efgZ_f (g B : Nat) (v : Value) (acc : List UInt8) (W0 w : World) (ha : acc.length ≤ 1000) (hb : OB B v acc W0 w) :
    Calls Tryz.prog 203 #[v, .bool false, .slice none 0 0, .int .i64 0, .int .i64 0, .int .i64 (-1), .int .u8 71, .bool true] w fun e w' => ∃ v', e = .returned v' ∧ OB B v' (acc ++ gF false [] 0) W0 w' := by
  have HB := Lib.hid hb
  have HPL := Lib.hid ha
  have HN := Lib.hid (show True from trivial)
  clear hb ha
  go_enter Tryz.func203, Tryz.ntmps203
  go_wp2_with (first | (at_builtin; refine ob_byte rfl _ _ rfl rfl _ _ (u8z (by omega) (by omega)) HB.out rfl (by have h_1 := HPL.out; have h_2 := HN.out; (try simp only [List.length_append, List.length_cons, List.length_nil, List.length_drop, List.length_take, List.length_replicate]); omega) ?_; intro v1 w1 hb1; clear HB; have HB := Lib.hid hb1; clear hb1))
  go_ret
  refine ⟨_, rfl, ?_⟩
  have hfin := HB.out
  unfold gF sgL
  simpa using hfin
theorem efgN_f (g B : Nat) (v : Value) (acc : List UInt8) (W0 w : World) (ha : acc.length ≤ 1000) (hb : OB B v acc W0 w) :
    Calls Tryz.prog 203 #[v, .bool false, .slice (some ⟨g, 0, none⟩) 32 32, .int .i64 0, .int .i64 0, .int .i64 0, .int .u8 71, .bool true] w fun e w' => ∃ v', e = .returned v' ∧ OB B v' (acc ++ gF false [] 0) W0 w' := by
  have HB := Lib.hid hb
  have HPL := Lib.hid ha
  have HN := Lib.hid (show True from trivial)
  clear hb ha
  go_enter Tryz.func203, Tryz.ntmps203
  go_wp2_with (first | (at_builtin; refine ob_byte rfl _ _ rfl rfl _ _ (u8z (by omega) (by omega)) HB.out rfl (by have h_1 := HPL.out; have h_2 := HN.out; (try simp only [List.length_append, List.length_cons, List.length_nil, List.length_drop, List.length_take, List.length_replicate]); omega) ?_; intro v1 w1 hb1; clear HB; have HB := Lib.hid hb1; clear hb1))
  go_ret
  refine ⟨_, rfl, ?_⟩
  have hfin := HB.out
  unfold gF sgL
  simpa using hfin
set_option maxHeartbeats 4000000 in
theorem efgF1_t (l : List UInt8) (dp : Int) (g B n : Nat) (v : Value) (acc : List UInt8) (W0 w : World) (hn : l.length = n) (hl : n ≤ 20) (hd0 : 1 ≤ dp) (hd1 : dp ≤ 6) (hdn : n ≤ dp) (ha : acc.length ≤ 1000)
    (hb : OB B v acc W0 w) (hc : DigB W0 g l) :
    Calls Tryz.prog 203 #[v, .bool true, .slice (some ⟨g, 0, none⟩) 32 32, .int .i64 dp, .int .i64 (n : Int), .int .i64 (n : Int), .int .u8 71, .bool true] w fun e w' => ∃ v', e = .returned v' ∧ OB B v' (acc ++ gF true l dp) W0 w' := by
  have HB := Lib.hid hb
  have HPL := Lib.hid ha
  have HC := Lib.hid hc
  have HN := Lib.hid hn
  clear hb hc ha hn
  obtain ⟨d, rfl⟩ := Int.eq_ofNat_of_zero_le (show 0 ≤ dp by omega)
  have d0 : 1 ≤ d := by omega
  have d1 : d ≤ 6 := by omega
  have d2 : n ≤ d := by omega
  obtain ⟨p, hp⟩ : ∃ p : Nat, (d : Int) - (n : Int) = (p : Int) := ⟨d - n, by omega⟩
  have p1 : p ≤ 6 := by omega
  have P2 := Lib.hid (show n + p = d by omega)
  have f1 : min (n : Int) (d : Int) = (n : Int) := by omega
  have f2 : max ((n : Int) - (d : Int)) 0 = 0 := by omega
  have q4 : decide (d < n) = false := by simp; omega
  have q1 : decide ((d : Int) - 1 < -4) = false := by simp; omega
  have q2 : decide (6 ≤ (d : Int) - 1) = false := by simp; omega
  have q3 : decide (0 < d) = true := by simp; omega
  clear hd0 hd1 hdn
  go_enter Tryz.func203, Tryz.ntmps203
  go_wp2_with (first | (at_builtin; refine ob_byte rfl _ _ rfl rfl _ _ (u8z (by omega) (by omega)) HB.out rfl (by have h_1 := HPL.out; have h_2 := HN.out; (try simp only [List.length_append, List.length_cons, List.length_nil, List.length_drop, List.length_take, List.length_replicate]); omega) ?_; intro v1 w1 hb1; clear HB; have HB := Lib.hid hb1; clear hb1))
  obtain ⟨pre1, hpre1⟩ : ∃ pre, acc ++ [UInt8.ofNat (Int.toNat 45)] = pre := ⟨_, rfl⟩
  have HPLn := Lib.hid (show pre1.length ≤ 1100 by have h_1 := HPL.out; have h_2 := HN.out; rw [← hpre1]; (try simp only [List.length_append, List.length_cons, List.length_nil, List.length_drop, List.length_take, List.length_replicate]); omega)
  clear HPL
  have HPL := HPLn
  clear HPLn
  rw [hpre1] at HB
  have HPR1 := Lib.hid hpre1
  clear hpre1
  go_loopg [0, 191] n (fun gk dst i wr => ∃ k : Nat, i = .int .i64 k ∧ k ≤ n ∧ n - k ≤ gk ∧ Hid (OB B dst (pre1 ++ (l.drop 0).take k) W0 wr))
  case atStart => exact ⟨0, rfl, Nat.zero_le _, Nat.le_refl _, by have := HB.out; show OB _ _ _ _ _; simpa using this⟩
  case round =>
    obtain ⟨k, rfl, hkc, hkg, HBr⟩ := hrel
    clear HB
    by_cases hlt : k < n
    · obtain ⟨b, hb⟩ : ∃ b, l[0 + k]? = some b := ⟨_, List.getElem?_eq_getElem (by rw [HN.out]; omega)⟩
      have cc := anyCell HC.out HBr.out.kept (0 + k) b hb
      have HTK := Lib.hid (show (l.drop 0).take (k + 1) = (l.drop 0).take k ++ [b] by rw [List.take_add_one, List.getElem?_drop, hb]; rfl)
      obtain ⟨x, hx⟩ : ∃ x, b.toNat = x := ⟨_, rfl⟩
      have xlt : x < 256 := by rw [← hx]; exact UInt8.toNat_lt _
      rw [hx] at cc
      have HX := Lib.hid hx
      clear hx hb
      rw [Nat.zero_add] at cc
      go_wp2_with (at_builtin; refine ob_byte rfl _ _ rfl rfl b _ (by rw [HX.out]) HBr.out rfl (by have h_1 := HPL.out; have h_2 := HN.out; simp only [List.length_append, List.length_cons, List.length_nil, List.length_drop, List.length_take, List.length_replicate]; omega) ?_; intro v1 w1 hb1; clear HBr; have HB := Lib.hid hb1; clear hb1)
      go_roundg (n - (k + 1))
      case rel => exact ⟨k + 1, by go_num, by omega, by omega, by have := HB.out; rw [HTK.out]; show OB _ _ _ _ _; simpa using this⟩
      case measure => omega
    · obtain rfl : n = k := by omega
      have HB := HBr
      clear HBr
      go_wp2_with (first | (at_builtin; refine ob_byte rfl _ _ rfl rfl _ _ (u8z (by omega) (by omega)) HB.out rfl (by have h_1 := HPL.out; have h_2 := HN.out; (try simp only [List.length_append, List.length_cons, List.length_nil, List.length_drop, List.length_take, List.length_replicate]); omega) ?_; intro v1 w1 hb1; clear HB; have HB := Lib.hid hb1; clear hb1))
      obtain ⟨pre2, hpre2⟩ : ∃ pre, pre1 ++ (l.drop 0).take n = pre := ⟨_, rfl⟩
      have HPLn := Lib.hid (show pre2.length ≤ 1200 by have h_1 := HPL.out; have h_2 := HN.out; rw [← hpre2]; (try simp only [List.length_append, List.length_cons, List.length_nil, List.length_drop, List.length_take, List.length_replicate]); omega)
      clear HPL
      have HPL := HPLn
      clear HPLn
      rw [hpre2] at HB
      have HPR2 := Lib.hid hpre2
      clear hpre2
      go_loopg [0, 203] p (fun gk dst i wr => ∃ k : Nat, i = .int .i64 k ∧ k ≤ p ∧ p - k ≤ gk ∧ Hid (OB B dst (pre2 ++ List.replicate k 48) W0 wr))
      case atStart => exact ⟨0, rfl, Nat.zero_le _, Nat.le_refl _, by have := HB.out; show OB _ _ _ _ _; simpa using this⟩
      case round =>
        obtain ⟨k, rfl, hkc, hkg, HBr⟩ := hrel
        clear HB
        by_cases hlt : k < p
        · go_wp2_with (at_builtin; refine ob_byte rfl _ _ rfl rfl 48 _ rfl HBr.out rfl (by have h_1 := HPL.out; simp only [List.length_append, List.length_cons, List.length_nil, List.length_drop, List.length_take, List.length_replicate]; omega) ?_; intro v1 w1 hb1; clear HBr; have HB := Lib.hid hb1; clear hb1)
          go_roundg (p - (k + 1))
          case rel => exact ⟨k + 1, by go_num, by omega, by omega, by have := HB.out; show OB _ _ _ _ _; rw [List.replicate_succ', ← List.append_assoc]; exact this⟩
          case measure => omega
        · obtain rfl : p = k := by omega
          have HB := HBr
          clear HBr
          go_wp2_with (first | (at_builtin; refine ob_byte rfl _ _ rfl rfl _ _ (u8z (by omega) (by omega)) HB.out rfl (by have h_1 := HPL.out; have h_2 := HN.out; (try simp only [List.length_append, List.length_cons, List.length_nil, List.length_drop, List.length_take, List.length_replicate]); omega) ?_; intro v1 w1 hb1; clear HB; have HB := Lib.hid hb1; clear hb1))
          go_ret
          refine ⟨_, rfl, ?_⟩
          have hfin := HB.out
          rw [← HPR2.out, ← HPR1.out] at hfin
          unfold gF sgL
          rw [if_pos (show (0 : Int) < (d : Int) by omega), if_neg (show ¬ (d : Int) < (l.length : Int) by rw [HN.out]; omega), HN.out, show ((d : Int)).toNat - n = p from by (have := P2.out; omega), show ((d : Int)).toNat = d from by omega]
          rw [List.drop_zero, show l.take n = l.take d from by rw [List.take_of_length_le (by rw [HN.out]; omega), List.take_of_length_le (by rw [HN.out]; omega)]] at hfin
          simpa using hfin
set_option maxHeartbeats 4000000 in
theorem efgF2_t (l : List UInt8) (dp : Int) (g B n : Nat) (v : Value) (acc : List UInt8) (W0 w : World) (hn : l.length = n) (hl : n ≤ 20) (hd0 : 1 ≤ dp) (hd1 : dp ≤ 6) (hdn : dp < n) (ha : acc.length ≤ 1000)
    (hb : OB B v acc W0 w) (hc : DigB W0 g l) :
    Calls Tryz.prog 203 #[v, .bool true, .slice (some ⟨g, 0, none⟩) 32 32, .int .i64 dp, .int .i64 (n : Int), .int .i64 (n : Int), .int .u8 71, .bool true] w fun e w' => ∃ v', e = .returned v' ∧ OB B v' (acc ++ gF true l dp) W0 w' := by
  have HB := Lib.hid hb
  have HPL := Lib.hid ha
  have HC := Lib.hid hc
  have HN := Lib.hid hn
  clear hb hc ha hn
  obtain ⟨d, rfl⟩ := Int.eq_ofNat_of_zero_le (show 0 ≤ dp by omega)
  have d0 : 1 ≤ d := by omega
  have d1 : d ≤ 6 := by omega
  have d2 : d < n := by omega
  obtain ⟨p, hp⟩ : ∃ p : Nat, (n : Int) - (d : Int) = (p : Int) := ⟨n - d, by omega⟩
  have p0 : 1 ≤ p := by omega
  have p1 : p ≤ 20 := by omega
  have p2 : d + p = n := by omega
  have P2 := Lib.hid p2
  have f1 : min (n : Int) (d : Int) = (d : Int) := by omega
  have f2 : max (p : Int) 0 = (p : Int) := by omega
  have f3 : max 0 (-(d : Int)) = 0 := by omega
  have f4 : min (p : Int) 0 = 0 := by omega
  have f5 : max 0 (p : Int) = (p : Int) := by omega
  have q1 : decide ((d : Int) - 1 < -4) = false := by simp; omega
  have q2 : decide (6 ≤ (d : Int) - 1) = false := by simp; omega
  have q3 : decide (0 < d) = true := by simp; omega
  have q4 : decide (0 < p) = true := by simp; omega
  have dk : ∀ k : Nat, k < p → d + k < n := by intro k hk; omega
  have DK := Lib.hid dk
  clear hd0 hd1 hdn p2 dk
  go_enter Tryz.func203, Tryz.ntmps203
  go_wp2_with (first | (at_builtin; refine ob_byte rfl _ _ rfl rfl _ _ (u8z (by omega) (by omega)) HB.out rfl (by have h_1 := HPL.out; have h_2 := HN.out; (try simp only [List.length_append, List.length_cons, List.length_nil, List.length_drop, List.length_take, List.length_replicate]); omega) ?_; intro v1 w1 hb1; clear HB; have HB := Lib.hid hb1; clear hb1))
  obtain ⟨pre1, hpre1⟩ : ∃ pre, acc ++ [UInt8.ofNat (Int.toNat 45)] = pre := ⟨_, rfl⟩
  have HPLn := Lib.hid (show pre1.length ≤ 1100 by have h_1 := HPL.out; have h_2 := HN.out; rw [← hpre1]; (try simp only [List.length_append, List.length_cons, List.length_nil, List.length_drop, List.length_take, List.length_replicate]); omega)
  clear HPL
  have HPL := HPLn
  clear HPLn
  rw [hpre1] at HB
  have HPR1 := Lib.hid hpre1
  clear hpre1
  go_loopg [0, 191] d (fun gk dst i wr => ∃ k : Nat, i = .int .i64 k ∧ k ≤ d ∧ d - k ≤ gk ∧ Hid (OB B dst (pre1 ++ (l.drop 0).take k) W0 wr))
  case atStart => exact ⟨0, rfl, Nat.zero_le _, Nat.le_refl _, by have := HB.out; show OB _ _ _ _ _; simpa using this⟩
  case round =>
    obtain ⟨k, rfl, hkc, hkg, HBr⟩ := hrel
    clear HB
    by_cases hlt : k < d
    · obtain ⟨b, hb⟩ : ∃ b, l[0 + k]? = some b := ⟨_, List.getElem?_eq_getElem (by rw [HN.out]; omega)⟩
      have cc := anyCell HC.out HBr.out.kept (0 + k) b hb
      have HTK := Lib.hid (show (l.drop 0).take (k + 1) = (l.drop 0).take k ++ [b] by rw [List.take_add_one, List.getElem?_drop, hb]; rfl)
      obtain ⟨x, hx⟩ : ∃ x, b.toNat = x := ⟨_, rfl⟩
      have xlt : x < 256 := by rw [← hx]; exact UInt8.toNat_lt _
      rw [hx] at cc
      have HX := Lib.hid hx
      clear hx hb
      rw [Nat.zero_add] at cc
      go_wp2_with (at_builtin; refine ob_byte rfl _ _ rfl rfl b _ (by rw [HX.out]) HBr.out rfl (by have h_1 := HPL.out; have h_2 := HN.out; simp only [List.length_append, List.length_cons, List.length_nil, List.length_drop, List.length_take, List.length_replicate]; omega) ?_; intro v1 w1 hb1; clear HBr; have HB := Lib.hid hb1; clear hb1)
      go_roundg (d - (k + 1))
      case rel => exact ⟨k + 1, by go_num, by omega, by omega, by have := HB.out; rw [HTK.out]; show OB _ _ _ _ _; simpa using this⟩
      case measure => omega
    · obtain rfl : d = k := by omega
      have HB := HBr
      clear HBr
      go_wp2_with (first | (at_builtin; refine ob_byte rfl _ _ rfl rfl _ _ (u8z (by omega) (by omega)) HB.out rfl (by have h_1 := HPL.out; have h_2 := HN.out; (try simp only [List.length_append, List.length_cons, List.length_nil, List.length_drop, List.length_take, List.length_replicate]); omega) ?_; intro v1 w1 hb1; clear HB; have HB := Lib.hid hb1; clear hb1))
      refine wp_loop_rounds 1 ?_
      rw [rounds_succ]
      go_wp2_with (first | (at_builtin; refine ob_byte rfl _ _ rfl rfl _ _ (u8z (by omega) (by omega)) HB.out rfl (by have h_1 := HPL.out; have h_2 := HN.out; (try simp only [List.length_append, List.length_cons, List.length_nil, List.length_drop, List.length_take, List.length_replicate]); omega) ?_; intro v1 w1 hb1; clear HB; have HB := Lib.hid hb1; clear hb1))
      refine wp_loop_rounds 1 ?_
      rw [rounds_succ]
      go_wp2_with (first | (at_builtin; refine ob_byte rfl _ _ rfl rfl _ _ (u8z (by omega) (by omega)) HB.out rfl (by have h_1 := HPL.out; have h_2 := HN.out; (try simp only [List.length_append, List.length_cons, List.length_nil, List.length_drop, List.length_take, List.length_replicate]); omega) ?_; intro v1 w1 hb1; clear HB; have HB := Lib.hid hb1; clear hb1))
      obtain ⟨pre2, hpre2⟩ : ∃ pre, pre1 ++ (l.drop 0).take d ++ [UInt8.ofNat (Int.toNat 46)] = pre := ⟨_, rfl⟩
      have HPLn := Lib.hid (show pre2.length ≤ 1200 by have h_1 := HPL.out; have h_2 := HN.out; rw [← hpre2]; (try simp only [List.length_append, List.length_cons, List.length_nil, List.length_drop, List.length_take, List.length_replicate]); omega)
      clear HPL
      have HPL := HPLn
      clear HPLn
      rw [hpre2] at HB
      have HPR2 := Lib.hid hpre2
      clear hpre2
      go_loopg [0, 247] p (fun gk dst i wr => ∃ k : Nat, i = .int .i64 k ∧ k ≤ p ∧ p - k ≤ gk ∧ Hid (OB B dst (pre2 ++ (l.drop d).take k) W0 wr))
      case atStart => exact ⟨0, rfl, Nat.zero_le _, Nat.le_refl _, by have := HB.out; show OB _ _ _ _ _; simpa using this⟩
      case round =>
        obtain ⟨k, rfl, hkc, hkg, HBr⟩ := hrel
        clear HB
        by_cases hlt : k < p
        · obtain ⟨b, hb⟩ : ∃ b, l[d + k]? = some b := ⟨_, List.getElem?_eq_getElem (by rw [HN.out]; omega)⟩
          have cc := anyCell HC.out HBr.out.kept (d + k) b hb
          have HTK := Lib.hid (show (l.drop d).take (k + 1) = (l.drop d).take k ++ [b] by rw [List.take_add_one, List.getElem?_drop, hb]; rfl)
          obtain ⟨x, hx⟩ : ∃ x, b.toNat = x := ⟨_, rfl⟩
          have xlt : x < 256 := by rw [← hx]; exact UInt8.toNat_lt _
          rw [hx] at cc
          have HX := Lib.hid hx
          clear hx hb
          have hdk := DK.out k hlt
          go_wp2_with (at_builtin; refine ob_byte rfl _ _ rfl rfl b _ (by rw [HX.out]) HBr.out rfl (by have h_1 := HPL.out; have h_2 := HN.out; simp only [List.length_append, List.length_cons, List.length_nil, List.length_drop, List.length_take, List.length_replicate]; omega) ?_; intro v1 w1 hb1; clear HBr; have HB := Lib.hid hb1; clear hb1)
          go_roundg (p - (k + 1))
          case rel => exact ⟨k + 1, by go_num, by omega, by omega, by have := HB.out; rw [HTK.out]; show OB _ _ _ _ _; simpa using this⟩
          case measure => omega
        · obtain rfl : p = k := by omega
          have HB := HBr
          clear HBr
          go_wp2_with (first | (at_builtin; refine ob_byte rfl _ _ rfl rfl _ _ (u8z (by omega) (by omega)) HB.out rfl (by have h_1 := HPL.out; have h_2 := HN.out; (try simp only [List.length_append, List.length_cons, List.length_nil, List.length_drop, List.length_take, List.length_replicate]); omega) ?_; intro v1 w1 hb1; clear HB; have HB := Lib.hid hb1; clear hb1))
          refine wp_loop_rounds 1 ?_
          rw [rounds_succ]
          go_wp2_with (first | (at_builtin; refine ob_byte rfl _ _ rfl rfl _ _ (u8z (by omega) (by omega)) HB.out rfl (by have h_1 := HPL.out; have h_2 := HN.out; (try simp only [List.length_append, List.length_cons, List.length_nil, List.length_drop, List.length_take, List.length_replicate]); omega) ?_; intro v1 w1 hb1; clear HB; have HB := Lib.hid hb1; clear hb1))
          go_ret
          refine ⟨_, rfl, ?_⟩
          have hfin := HB.out
          rw [← HPR2.out, ← HPR1.out] at hfin
          unfold gF sgL
          rw [if_pos (show (0 : Int) < (d : Int) by omega), if_pos (show (d : Int) < (l.length : Int) by rw [HN.out]; omega), HN.out, show ((d : Int)).toNat - n = 0 from by omega, show (-(d : Int)).toNat = 0 from by omega]
          rw [show (l.drop d).take p = l.drop d from List.take_of_length_le (by rw [List.length_drop, HN.out]; omega)] at hfin
          simpa using hfin
set_option maxHeartbeats 4000000 in
theorem efgF3_t (l : List UInt8) (dp : Int) (g B n : Nat) (v : Value) (acc : List UInt8) (W0 w : World) (hn : l.length = n) (hl : n ≤ 20) (hd0 : -3 ≤ dp) (hd1 : dp ≤ 0) (hdn : dp < n) (ha : acc.length ≤ 1000)
    (hb : OB B v acc W0 w) (hc : DigB W0 g l) :
    Calls Tryz.prog 203 #[v, .bool true, .slice (some ⟨g, 0, none⟩) 32 32, .int .i64 dp, .int .i64 (n : Int), .int .i64 (n : Int), .int .u8 71, .bool true] w fun e w' => ∃ v', e = .returned v' ∧ OB B v' (acc ++ gF true l dp) W0 w' := by
  have HB := Lib.hid hb
  have HPL := Lib.hid ha
  have HC := Lib.hid hc
  have HN := Lib.hid hn
  clear hb hc ha hn
  obtain ⟨d, hd⟩ : ∃ d : Nat, dp = -(d : Int) := ⟨(-dp).toNat, by omega⟩
  subst hd
  have d1 : d ≤ 3 := by omega
  obtain ⟨p, hp⟩ : ∃ p : Nat, (n : Int) - -(d : Int) = (p : Int) := ⟨n + d, by omega⟩
  have p1 : p ≤ 23 := by omega
  have p0 : 1 ≤ p := by omega
  have hp1 : (p : Int) - (d : Int) = (n : Int) := by omega
  have P2 := Lib.hid (show n + d = p by omega)
  have f1 : min (p : Int) (d : Int) = (d : Int) := by omega
  have f2 : max (p : Int) 0 = (p : Int) := by omega
  have f3 : max 0 (d : Int) = (d : Int) := by omega
  have f4 : max 0 (n : Int) = (n : Int) := by omega
  have f6 : -(d : Int) + (d : Int) = 0 := by omega
  have q1 : decide (-(d : Int) - 1 < -4) = false := by simp; omega
  have q2 : decide (6 ≤ -(d : Int) - 1) = false := by first | (simp; done) | (simp; omega)
  have q3 : decide (0 < -(d : Int)) = false := by first | (simp; done) | (simp; omega)
  have q4 : decide (0 < p) = true := by simp; omega
  have q5 : decide ((n : Int) > -(d : Int)) = true := by first | (simp; done) | (simp; omega)
  have q6 : decide (-(d : Int) < (n : Int)) = true := by first | (simp; done) | (simp; omega)
  clear hd0 hd1 hdn
  go_enter Tryz.func203, Tryz.ntmps203
  go_wp2_with (first | (at_builtin; refine ob_byte rfl _ _ rfl rfl _ _ (u8z (by omega) (by omega)) HB.out rfl (by have h_1 := HPL.out; have h_2 := HN.out; (try simp only [List.length_append, List.length_cons, List.length_nil, List.length_drop, List.length_take, List.length_replicate]); omega) ?_; intro v1 w1 hb1; clear HB; have HB := Lib.hid hb1; clear hb1))
  obtain ⟨pre1, hpre1⟩ : ∃ pre, acc ++ [UInt8.ofNat (Int.toNat 45)] ++ [UInt8.ofNat (Int.toNat 48)] ++ [UInt8.ofNat (Int.toNat 46)] = pre := ⟨_, rfl⟩
  have HPLn := Lib.hid (show pre1.length ≤ 1100 by have h_1 := HPL.out; have h_2 := HN.out; rw [← hpre1]; (try simp only [List.length_append, List.length_cons, List.length_nil, List.length_drop, List.length_take, List.length_replicate]); omega)
  clear HPL
  have HPL := HPLn
  clear HPLn
  rw [hpre1] at HB
  have HPR1 := Lib.hid hpre1
  clear hpre1
  go_loopg [0, 240] d (fun gk dst i wr => ∃ k : Nat, i = .int .i64 k ∧ k ≤ d ∧ d - k ≤ gk ∧ Hid (OB B dst (pre1 ++ List.replicate k 48) W0 wr))
  case atStart => exact ⟨0, rfl, Nat.zero_le _, Nat.le_refl _, by have := HB.out; show OB _ _ _ _ _; simpa using this⟩
  case round =>
    obtain ⟨k, rfl, hkc, hkg, HBr⟩ := hrel
    clear HB
    by_cases hlt : k < d
    · go_wp2_with (at_builtin; refine ob_byte rfl _ _ rfl rfl 48 _ rfl HBr.out rfl (by have h_1 := HPL.out; simp only [List.length_append, List.length_cons, List.length_nil, List.length_drop, List.length_take, List.length_replicate]; omega) ?_; intro v1 w1 hb1; clear HBr; have HB := Lib.hid hb1; clear hb1)
      go_roundg (d - (k + 1))
      case rel => exact ⟨k + 1, by go_num, by omega, by omega, by have := HB.out; show OB _ _ _ _ _; rw [List.replicate_succ', ← List.append_assoc]; exact this⟩
      case measure => omega
    · obtain rfl : d = k := by omega
      have HB := HBr
      clear HBr
      go_wp2_with (first | (at_builtin; refine ob_byte rfl _ _ rfl rfl _ _ (u8z (by omega) (by omega)) HB.out rfl (by have h_1 := HPL.out; have h_2 := HN.out; (try simp only [List.length_append, List.length_cons, List.length_nil, List.length_drop, List.length_take, List.length_replicate]); omega) ?_; intro v1 w1 hb1; clear HB; have HB := Lib.hid hb1; clear hb1))
      obtain ⟨pre2, hpre2⟩ : ∃ pre, pre1 ++ List.replicate d 48 = pre := ⟨_, rfl⟩
      have HPLn := Lib.hid (show pre2.length ≤ 1200 by have h_1 := HPL.out; have h_2 := HN.out; rw [← hpre2]; (try simp only [List.length_append, List.length_cons, List.length_nil, List.length_drop, List.length_take, List.length_replicate]); omega)
      clear HPL
      have HPL := HPLn
      clear HPLn
      rw [hpre2] at HB
      have HPR2 := Lib.hid hpre2
      clear hpre2
      go_loopg [0, 247] n (fun gk dst i wr => ∃ k : Nat, i = .int .i64 k ∧ k ≤ n ∧ n - k ≤ gk ∧ Hid (OB B dst (pre2 ++ (l.drop 0).take k) W0 wr))
      case atStart => exact ⟨0, rfl, Nat.zero_le _, Nat.le_refl _, by have := HB.out; show OB _ _ _ _ _; simpa using this⟩
      case round =>
        obtain ⟨k, rfl, hkc, hkg, HBr⟩ := hrel
        clear HB
        by_cases hlt : k < n
        · obtain ⟨b, hb⟩ : ∃ b, l[0 + k]? = some b := ⟨_, List.getElem?_eq_getElem (by rw [HN.out]; omega)⟩
          have cc := anyCell HC.out HBr.out.kept (0 + k) b hb
          have HTK := Lib.hid (show (l.drop 0).take (k + 1) = (l.drop 0).take k ++ [b] by rw [List.take_add_one, List.getElem?_drop, hb]; rfl)
          obtain ⟨x, hx⟩ : ∃ x, b.toNat = x := ⟨_, rfl⟩
          have xlt : x < 256 := by rw [← hx]; exact UInt8.toNat_lt _
          rw [hx] at cc
          have HX := Lib.hid hx
          clear hx hb
          rw [Nat.zero_add] at cc
          go_wp2_with (at_builtin; refine ob_byte rfl _ _ rfl rfl b _ (by rw [HX.out]) HBr.out rfl (by have h_1 := HPL.out; have h_2 := HN.out; simp only [List.length_append, List.length_cons, List.length_nil, List.length_drop, List.length_take, List.length_replicate]; omega) ?_; intro v1 w1 hb1; clear HBr; have HB := Lib.hid hb1; clear hb1)
          go_roundg (n - (k + 1))
          case rel => exact ⟨k + 1, by go_num, by omega, by omega, by have := HB.out; rw [HTK.out]; show OB _ _ _ _ _; simpa using this⟩
          case measure => omega
        · obtain rfl : n = k := by omega
          have HB := HBr
          clear HBr
          go_wp2_with (first | (at_builtin; refine ob_byte rfl _ _ rfl rfl _ _ (u8z (by omega) (by omega)) HB.out rfl (by have h_1 := HPL.out; have h_2 := HN.out; (try simp only [List.length_append, List.length_cons, List.length_nil, List.length_drop, List.length_take, List.length_replicate]); omega) ?_; intro v1 w1 hb1; clear HB; have HB := Lib.hid hb1; clear hb1))
          refine wp_loop_rounds 1 ?_
          rw [rounds_succ]
          go_wp2_with (first | (at_builtin; refine ob_byte rfl _ _ rfl rfl _ _ (u8z (by omega) (by omega)) HB.out rfl (by have h_1 := HPL.out; have h_2 := HN.out; (try simp only [List.length_append, List.length_cons, List.length_nil, List.length_drop, List.length_take, List.length_replicate]); omega) ?_; intro v1 w1 hb1; clear HB; have HB := Lib.hid hb1; clear hb1))
          go_ret
          refine ⟨_, rfl, ?_⟩
          have hfin := HB.out
          rw [← HPR2.out, ← HPR1.out] at hfin
          unfold gF sgL
          rw [if_neg (show ¬ (0 : Int) < -(d : Int) by omega), if_pos (show -(d : Int) < (l.length : Int) by rw [HN.out]; omega), show (-(d : Int)).toNat = 0 from by omega, show (- -(d : Int)).toNat = d from by omega]
          rw [List.drop_zero, show l.take n = l from List.take_of_length_le (by rw [HN.out]; omega)] at hfin
          simpa using hfin
theorem efgZ_t (g B : Nat) (v : Value) (acc : List UInt8) (W0 w : World) (ha : acc.length ≤ 1000) (hb : OB B v acc W0 w) :
    Calls Tryz.prog 203 #[v, .bool true, .slice none 0 0, .int .i64 0, .int .i64 0, .int .i64 (-1), .int .u8 71, .bool true] w fun e w' => ∃ v', e = .returned v' ∧ OB B v' (acc ++ gF true [] 0) W0 w' := by
  have HB := Lib.hid hb
  have HPL := Lib.hid ha
  have HN := Lib.hid (show True from trivial)
  clear hb ha
  go_enter Tryz.func203, Tryz.ntmps203
  go_wp2_with (first | (at_builtin; refine ob_byte rfl _ _ rfl rfl _ _ (u8z (by omega) (by omega)) HB.out rfl (by have h_1 := HPL.out; have h_2 := HN.out; (try simp only [List.length_append, List.length_cons, List.length_nil, List.length_drop, List.length_take, List.length_replicate]); omega) ?_; intro v1 w1 hb1; clear HB; have HB := Lib.hid hb1; clear hb1))
  go_ret
  refine ⟨_, rfl, ?_⟩
  have hfin := HB.out
  unfold gF sgL
  simpa using hfin
theorem efgN_t (g B : Nat) (v : Value) (acc : List UInt8) (W0 w : World) (ha : acc.length ≤ 1000) (hb : OB B v acc W0 w) :
    Calls Tryz.prog 203 #[v, .bool true, .slice (some ⟨g, 0, none⟩) 32 32, .int .i64 0, .int .i64 0, .int .i64 0, .int .u8 71, .bool true] w fun e w' => ∃ v', e = .returned v' ∧ OB B v' (acc ++ gF true [] 0) W0 w' := by
  have HB := Lib.hid hb
  have HPL := Lib.hid ha
  have HN := Lib.hid (show True from trivial)
  clear hb ha
  go_enter Tryz.func203, Tryz.ntmps203
  go_wp2_with (first | (at_builtin; refine ob_byte rfl _ _ rfl rfl _ _ (u8z (by omega) (by omega)) HB.out rfl (by have h_1 := HPL.out; have h_2 := HN.out; (try simp only [List.length_append, List.length_cons, List.length_nil, List.length_drop, List.length_take, List.length_replicate]); omega) ?_; intro v1 w1 hb1; clear HB; have HB := Lib.hid hb1; clear hb1))
  go_ret
  refine ⟨_, rfl, ?_⟩
  have hfin := HB.out
  unfold gF sgL
  simpa using hfin
end Go.Proofs.YtpfkgpcnhdkkbaaGreatDoor
