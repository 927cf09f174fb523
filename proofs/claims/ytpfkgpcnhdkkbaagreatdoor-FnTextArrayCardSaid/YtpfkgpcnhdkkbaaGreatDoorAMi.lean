/- spec.decTenth: a tenth of a number of 128 bits and the digit that is left. -/
import Derived.Test.YtpfkgpcnhdkkbaaGreatDoorAGi
import Derived.Test.YtpfkgpcnhdkkbaaGreatDoorAEw
import Derived.Test.YtpfkgpcnhdkkbaaGreatDoorAGl
import Derived.Test.YtpfkgpcnhdkkbaaGreatDoorAGo
import Derived.Deep.CutRange
import Derived.Deep.LoopGhost
namespace Go.Proofs.YtpfkgpcnhdkkbaaGreatDoor
set_option maxHeartbeats 8000000
open Go.RowKit
set_option linter.unusedVariables false
set_option linter.unusedSimpArgs false
set_option maxRecDepth 100000
theorem and32n (H : Nat) (h : H < 18446744073709551616) : bits .and .u64 (H : Int) 4294967295 = ((H % 4294967296 : Nat) : Int) := by
 have := bits_mask .u64 64 (by decide) (fun n h₀ h₁ => by rw [IntKind.wrap_u64]; omega) 32 (by decide) (H : Int) (by omega) (by omega)
 rw [show (2 : Int) ^ 32 - 1 = 4294967295 from rfl, show (2 : Int) ^ 32 = 4294967296 from rfl] at this
 rw [this]; omega
theorem or32n (q r : Nat) (hq : q < 4294967296) (hr : r < 4294967296) : bits .or .u64 ((q : Int) * 4294967296) (r : Int) = ((q * 4294967296 + r : Nat) : Int) := by
 have := bits_join .u64 64 (by decide) (fun n h₀ h₁ => by rw [IntKind.wrap_u64]; omega) 32 ((q * 4294967296 : Nat) : Int) (r : Int) (by omega) (by rw [show (2 : Int) ^ 32 = 4294967296 from rfl]; omega) (by omega) (by omega) (by rw [show (2 : Int) ^ 32 = 4294967296 from rfl]; omega) (by omega)
 rw [show ((q * 4294967296 : Nat) : Int) = (q : Int) * 4294967296 from by omega] at this
 rw [this]; omega
theorem ten_arith (a b c d q1 q2 q3 q4 r1 r2 r3 r4 : Nat) (ha : a < 4294967296) (hb : b < 4294967296) (hc : c < 4294967296) (hd : d < 4294967296)
  (h1 : q1 * 10 + r1 = a) (h2 : q2 * 10 + r2 = r1 * 4294967296 + b) (h3 : q3 * 10 + r3 = r2 * 4294967296 + c) (h4 : q4 * 10 + r4 = r3 * 4294967296 + d)
  (b1 : r1 < 10) (b2 : r2 < 10) (b3 : r3 < 10) (b4 : r4 < 10) :
  ((a * 4294967296 + b) * 18446744073709551616 + (c * 4294967296 + d)) / 10 / 18446744073709551616 = q1 * 4294967296 + q2 ∧ ((a * 4294967296 + b) * 18446744073709551616 + (c * 4294967296 + d)) / 10 % 18446744073709551616 = q3 * 4294967296 + q4 ∧ ((a * 4294967296 + b) * 18446744073709551616 + (c * 4294967296 + d)) % 10 = r4 := by omega
theorem below_drn {B : Nat} {a w : World} (h : Below B a w) (n : Nat) : Below B a (w.drewN n) := ⟨h.os, h.tape, h.output, h.size, h.block⟩
theorem mod_k (a b k : Nat) (h : b < k) : (a * k + b) % k = b := by rw [Nat.mul_comm, Nat.mul_add_mod, Nat.mod_eq_of_lt h]
theorem tenth_core (H L a b c d q1 q2 q3 q4 r1 r2 r3 r4 : Nat) (ha : a < 4294967296) (hb : b < 4294967296) (hc : c < 4294967296) (hd : d < 4294967296)
  (e1 : (H : Int) / 4294967296 = (a : Int)) (e2 : bits .and .u64 (H : Int) 4294967295 = (b : Int)) (e3 : (L : Int) / 4294967296 = (c : Int)) (e4 : bits .and .u64 (L : Int) 4294967295 = (d : Int))
  (d1 : (a : Int) / 10 = (q1 : Int)) (m1 : (a : Int) % 10 = (r1 : Int)) (o0 : bits .or .u64 0 (a : Int) = (a : Int))
  (n2 n3 n4 : Nat) (o2 : bits .or .u64 ((r1 : Int) * 4294967296) (b : Int) = (n2 : Int)) (o3 : bits .or .u64 ((r2 : Int) * 4294967296) (c : Int) = (n3 : Int)) (o4 : bits .or .u64 ((r3 : Int) * 4294967296) (d : Int) = (n4 : Int))
  (d2 : (n2 : Int) / 10 = (q2 : Int)) (m2 : (n2 : Int) % 10 = (r2 : Int)) (d3 : (n3 : Int) / 10 = (q3 : Int)) (m3 : (n3 : Int) % 10 = (r3 : Int)) (d4 : (n4 : Int) / 10 = (q4 : Int)) (m4 : (n4 : Int) % 10 = (r4 : Int))
  (b1 : r1 < 10) (b2 : r2 < 10) (b3 : r3 < 10) (b4 : r4 < 10) (x1 : q1 < 4294967296) (x2 : q2 < 4294967296) (x3 : q3 < 4294967296) (x4 : q4 < 4294967296) (y2 : n2 < 42949672960) (y3 : n3 < 42949672960) (y4 : n4 < 42949672960)
  (f1 f2 : Nat) (p1 : bits .or .u64 ((q1 : Int) * 4294967296) (q2 : Int) = (f1 : Int)) (p2 : bits .or .u64 ((q3 : Int) * 4294967296) (q4 : Int) = (f2 : Int)) (hH : H < 18446744073709551616) (hL : L < 18446744073709551616) (w : World) :
  Calls Tryz.prog 93 #[.int .u64 (H : Int), .int .u64 (L : Int)] w fun e w' => e = .returned (.tuple #[.int .u64 (f1 : Int), .int .u64 (f2 : Int), .int .u8 (r4 : Int)]) ∧ Below w.heap.size w w' := by
 have u4 : (r4 : Int) % 256 = (r4 : Int) := by omega
 go_enter Tryz.func93, Tryz.ntmps93
 go_wp2
 refine wp_loop_rounds 5 ?_
 rw [rounds_succ]
 go_wp2
 rw [rounds_succ]
 go_wp2
 rw [rounds_succ]
 go_wp2
 rw [rounds_succ]
 go_wp2
 rw [rounds_succ]
 go_wp2
 go_quiet (fail)
 go_wp2
 refine bodyPost_ret (v := .tuple #[_, _, _]) (by simp [results, Tryz.results93, go_sem]) rfl ⟨rfl, ?_⟩
 exact below_drn ((Below.refl _ _).alloc (Nat.le_refl _) _) _
theorem decTenth_any (H L : Nat) (hH : H < 18446744073709551616) (hL : L < 18446744073709551616) (w : World) :
  Calls Tryz.prog 93 #[.int .u64 (H : Int), .int .u64 (L : Int)] w fun e w' => e = .returned (.tuple #[.int .u64 (((H * 18446744073709551616 + L) / 10 / 18446744073709551616 : Nat) : Int), .int .u64 (((H * 18446744073709551616 + L) / 10 % 18446744073709551616 : Nat) : Int), .int .u8 (((H * 18446744073709551616 + L) % 10 : Nat) : Int)]) ∧ Below w.heap.size w w' := by
 obtain ⟨a, b, ha, hb, hHab⟩ : ∃ a b, a < 4294967296 ∧ b < 4294967296 ∧ H = a * 4294967296 + b := ⟨H / 4294967296, H % 4294967296, by omega, by omega, by omega⟩
 obtain ⟨c, d, hc, hd, hLcd⟩ : ∃ a b, a < 4294967296 ∧ b < 4294967296 ∧ L = a * 4294967296 + b := ⟨L / 4294967296, L % 4294967296, by omega, by omega, by omega⟩
 obtain ⟨q1, r1, h1, b1⟩ : ∃ q r, q * 10 + r = a ∧ r < 10 := ⟨a / 10, a % 10, by omega, by omega⟩
 obtain ⟨n2, hn2⟩ : ∃ n, r1 * 4294967296 + b = n := ⟨_, rfl⟩
 obtain ⟨q2, r2, h2, b2⟩ : ∃ q r, q * 10 + r = n2 ∧ r < 10 := ⟨n2 / 10, n2 % 10, by omega, by omega⟩
 obtain ⟨n3, hn3⟩ : ∃ n, r2 * 4294967296 + c = n := ⟨_, rfl⟩
 obtain ⟨q3, r3, h3, b3⟩ : ∃ q r, q * 10 + r = n3 ∧ r < 10 := ⟨n3 / 10, n3 % 10, by omega, by omega⟩
 obtain ⟨n4, hn4⟩ : ∃ n, r3 * 4294967296 + d = n := ⟨_, rfl⟩
 obtain ⟨q4, r4, h4, b4⟩ : ∃ q r, q * 10 + r = n4 ∧ r < 10 := ⟨n4 / 10, n4 % 10, by omega, by omega⟩
 obtain ⟨z1, z2, z3⟩ := ten_arith a b c d q1 q2 q3 q4 r1 r2 r3 r4 ha hb hc hd h1 (h2.trans hn2.symm) (h3.trans hn3.symm) (h4.trans hn4.symm) b1 b2 b3 b4
 rw [hHab, hLcd, z1, z2, z3]
 have o0 := or32n 0 a (by omega) ha
 rw [show ((0 : Nat) : Int) * 4294967296 = 0 from by omega, Nat.zero_mul, Nat.zero_add] at o0
 have o2 := or32n r1 b (by omega) hb
 have o3 := or32n r2 c (by omega) hc
 have o4 := or32n r3 d (by omega) hd
 rw [hn2] at o2
 rw [hn3] at o3
 rw [hn4] at o4
 have a1 := and32n (a * 4294967296 + b) (by omega)
 have a2 := and32n (c * 4294967296 + d) (by omega)
 rw [mod_k a b _ hb] at a1
 rw [mod_k c d _ hd] at a2
 exact tenth_core (a * 4294967296 + b) (c * 4294967296 + d) a b c d q1 q2 q3 q4 r1 r2 r3 r4 ha hb hc hd (by omega) a1 (by omega) a2 (by omega) (by omega) o0 n2 n3 n4 o2 o3 o4
  (by omega) (by omega) (by omega) (by omega) (by omega) (by omega) b1 b2 b3 b4 (by omega) (by omega) (by omega) (by omega) (by omega) (by omega) (by omega) _ _ (or32n q1 q2 (by omega) (by omega)) (or32n q3 q4 (by omega) (by omega)) (by omega) (by omega) w
set_option maxHeartbeats 8000000
def DgI (C V : Nat) (l : List UInt8) : Prop := (V = 0 ∧ l = Lib.decDigits C) ∨ (0 < V ∧ Lib.decDigits V ++ l = Lib.decDigits C)
theorem DgI.step {C V : Nat} {l : List UInt8} (h : DgI C V l) (hV : 0 < V) : DgI C (V / 10) (UInt8.ofNat (48 + V % 10) :: l) := by
 rcases h with ⟨h, _⟩ | ⟨_, h⟩
 ·omega
 ·by_cases h10 : V < 10
  ·left
   refine ⟨by omega, ?_⟩
   rw [Lib.decDigits_one h10] at h
   rw [← h, Nat.mod_eq_of_lt h10]
   rfl
  ·right
   refine ⟨by omega, ?_⟩
   rw [decDigits_big h10] at h
   rw [← h, List.append_assoc]
   rfl
theorem DgI.len {C V : Nat} {l : List UInt8} (h : DgI C V l) (hC : C < 10 ^ 39) : l.length ≤ 100 := by
 have h1 := Lib.decDigits_length C
 have h2 := nd_le C 39 (by decide) hC
 rcases h with ⟨_, h⟩ | ⟨_, h⟩
 ·rw [h]; omega
 ·rw [← h, List.length_append] at h1; omega
theorem tenth_ex (h m : Nat) (hh : h < 18446744073709551616) (hm : m < 18446744073709551616) : ∃ h2 m2, (h * 18446744073709551616 + m) / 10 / 18446744073709551616 = h2 ∧ (h * 18446744073709551616 + m) / 10 % 18446744073709551616 = m2 ∧ h2 < 18446744073709551616 ∧ m2 < 18446744073709551616 ∧ h2 * 18446744073709551616 + m2 = (h * 18446744073709551616 + m) / 10 :=
 ⟨_, _, rfl, rfl, by omega, by omega, by omega⟩
theorem decDigits_any (H L C : Nat) (hH : H < 18446744073709551616) (hL : L < 18446744073709551616) (hC : H * 18446744073709551616 + L = C) (w : World) :
  Calls Tryz.prog 64 #[.int .u64 (H : Int), .int .u64 (L : Int)] w fun e w' => e = .returned (.string ⟨(Lib.decDigits C).toArray⟩) ∧ Below w.heap.size w w' := by
 have H0 := LH (OB.nil (w := w) (B := w.heap.size) (Nat.le_refl _))
 by_cases hz : C = 0
 ·obtain rfl : H = 0 := by omega
  obtain rfl : L = 0 := by omega
  obtain rfl : C = 0 := hz
  clear hC
  show Calls Tryz.prog 64 #[.int .u64 0, .int .u64 0] w _
  go_enter Tryz.func64, Tryz.ntmps64
  go_wp2
  go_ret
  exact ⟨by rw [Lib.decDigits_one (by omega)]; rfl, Below.refl _ _⟩
 ·have hC0 : 0 < C := by omega
  have hCl : C < 340282366920938463463374607431768211456 := by omega
  have HI0 := LH (show DgI C C [] from .inr ⟨hC0, by simp⟩)
  have HC := LH hC
  have HCL := LH (show C < 10 ^ 39 from Nat.lt_of_lt_of_le hCl (by decide))
  have hbt : (((H : Int) == 0) = false) ∨ (((H : Int) == 0) = true ∧ ((L : Int) == 0) = false) := by
   by_cases h : H = 0
   ·right; subst h; exact ⟨by simp, by simp; omega⟩
   ·left; simp; omega
  clear hz hC hCl
  go_enter Tryz.func64, Tryz.ntmps64
  rcases hbt with hb1 | ⟨hb1, hb2⟩
  all_goals
   go_wp2
   clear hb1
   try clear hb2
   go_loopg [0, 1, 5] C (fun k a b v wr => ∃ (V h m : Nat) (l : List UInt8), a = .int .u64 h ∧ b = .int .u64 m ∧ h < 18446744073709551616 ∧ m < 18446744073709551616 ∧ Hid (h * 18446744073709551616 + m = V) ∧ Hid (V ≤ k) ∧ Hid (V ≤ C) ∧ Hid (DgI C V l) ∧ Hid (l.length ≤ 100) ∧ Hid (OB w.heap.size v l w wr))
   case atStart => exact ⟨C, H, L, [], rfl, rfl, hH, hL, HC.out, Nat.le_refl _, Nat.le_refl _, HI0.out, by show _ ≤ _; simp, H0.out⟩
   case round =>
    obtain ⟨V, h, m, l, rfl, rfl, hh, hm, HV, Hk, HVC, HI, HL, HB⟩ := hrel
    by_cases hV : V = 0
    ·have hv := HV.out
     obtain rfl : h = 0 := by omega
     obtain rfl : m = 0 := by omega
     obtain rfl : V = 0 := hV
     have hstr := HB.out.str
     clear hv
     have z0 : (((0 : Nat) : Int) != 0) = false := rfl
     go_wp2
     go_ret
     refine ⟨?_, HB.out.below⟩
     rcases HI.out with ⟨_, e⟩ | ⟨e, _⟩
     ·exact (show _ = Ending.returned (.string ⟨l.toArray⟩) from rfl).trans (by rw [e])
     ·omega
    ·have hv := HV.out
     have hstep := HI.out.step (by omega)
     have hc := decTenth_any h m hh hm wr
     rw [hv] at hc
     obtain ⟨h2, m2, e1, e2, hh2, hm2, hV2⟩ : ∃ h2 m2, V / 10 / 18446744073709551616 = h2 ∧ V / 10 % 18446744073709551616 = m2 ∧ h2 < 18446744073709551616 ∧ m2 < 18446744073709551616 ∧ h2 * 18446744073709551616 + m2 = V / 10 := by
      rw [← hv]
      exact tenth_ex h m hh hm
     obtain ⟨d, hd, hd10⟩ : ∃ d, V % 10 = d ∧ d < 10 := ⟨_, rfl, by omega⟩
     rw [e1, e2, hd] at hc
     rw [hd] at hstep
     have hlt : V / 10 < V := by omega
     have HCA := LH hc
     have HST := LH hstep
     have HV2 := LH hV2
     have HLT := LH hlt
     have hbt : (((h : Int) != 0) = true) ∨ (((h : Int) != 0) = false ∧ ((m : Int) != 0) = true) := by
      by_cases h0 : h = 0
      ·right; subst h0; exact ⟨rfl, by simp; omega⟩
      ·left; simp; omega
     clear hv hc e1 e2 hd hstep hV2 hlt hV
     rcases hbt with hb1 | ⟨hb1, hb2⟩
     all_goals
      go_wp2_with (first | (go_at_call 93; refine HCA.out.mono ?_; rintro e w1 ⟨rfl, hb⟩; have HB1 := LH (HB.out.later hb); clear hb) | (at_builtin; refine ob_front rfl _ _ rfl (UInt8.ofNat (48 + d)) _ (by rw [UInt8.toNat_ofNat']; omega) HB1.out rfl rfl (by have := HL.out; omega) ?_; intro v2 w2 hb2'; have HB2 := LH hb2'; clear hb2'))
      go_roundg (V / 10)
      case rel => exact ⟨V / 10, h2, m2, _, rfl, rfl, hh2, hm2, HV2.out, Nat.le_refl _, Nat.le_trans (Nat.div_le_self V 10) HVC.out, HST.out, HST.out.len HCL.out, HB2.out⟩
      case measure => have := HLT.out; have := Hk.out; omega
set_option maxHeartbeats 8000000
def decV (kind : Int) (neg : Bool) (ds : ByteArray) (e : Int) : Value := .agg #[.int .i64 kind, .bool neg, .string ds, .int .i64 e]
theorem bcell {W w1 : World} (hb : Below W.heap.size W w1) : (∀ b o, b < W.heap.size → w1.cell? ⟨b, o, none⟩ = W.cell? ⟨b, o, none⟩) ∧ (∀ b o, b < W.heap.size → w1.frozen? ⟨b, o, none⟩ = W.frozen? ⟨b, o, none⟩) :=
 ⟨fun b o h => hb.cell (p := ⟨b, o, none⟩) h, fun b o h => hb.frozen (p := ⟨b, o, none⟩) h⟩
theorem decOf_inf (H L : Nat) (neg : Bool) (hH : H < 18446744073709551616) (hL : L < 18446744073709551616) (hn : ((H : Int) / 9223372036854775808 == 1) = neg) (hk : bits .and .u64 ((H : Int) / 288230376151711744) 31 = 30) (w : World) :
  Calls Tryz.prog 38 #[.int .u64 (H : Int), .int .u64 (L : Int)] w fun e w' => e = .returned (decV 1 neg ⟨#[]⟩ 0) ∧ Below w.heap.size w w' := by
 unfold decV
 go_enter Tryz.func38, Tryz.ntmps38
 go_wp2_with fail
 exact bodyPost_ret (v := .agg #[.int .i64 1, .bool neg, .string ⟨#[]⟩, .int .i64 0]) (by simp [results, Tryz.results38, go_sem]) rfl ⟨rfl, ((Below.refl _ _).alloc (Nat.le_refl _) _).alloc (by simp) _⟩
theorem decOf_nan (H L : Nat) (neg : Bool) (hH : H < 18446744073709551616) (hL : L < 18446744073709551616) (hn : ((H : Int) / 9223372036854775808 == 1) = neg) (hk : bits .and .u64 ((H : Int) / 288230376151711744) 31 = 31) (w : World) :
  Calls Tryz.prog 38 #[.int .u64 (H : Int), .int .u64 (L : Int)] w fun e w' => e = .returned (decV 2 neg ⟨#[]⟩ 0) ∧ Below w.heap.size w w' := by
 unfold decV
 go_enter Tryz.func38, Tryz.ntmps38
 go_wp2_with fail
 exact bodyPost_ret (v := .agg #[.int .i64 2, .bool neg, .string ⟨#[]⟩, .int .i64 0]) (by simp [results, Tryz.results38, go_sem]) rfl ⟨rfl, ((Below.refl _ _).alloc (Nat.le_refl _) _).alloc (by simp) _⟩
theorem decOf_big (H L : Nat) (neg : Bool) (hH : H < 18446744073709551616) (hL : L < 18446744073709551616) (hn : ((H : Int) / 9223372036854775808 == 1) = neg) (k : Int) (hk : bits .and .u64 ((H : Int) / 288230376151711744) 31 = k) (k30 : (k == 30) = false) (k31 : (k == 31) = false)
  (h3 : bits .and .u64 ((H : Int) / 2305843009213693952) 3 = 3) (e : Nat) (he : bits .and .u64 ((H : Int) / 140737488355328) 16383 = (e : Int)) (he1 : e < 16384) (w : World) :
  Calls Tryz.prog 38 #[.int .u64 (H : Int), .int .u64 (L : Int)] w fun en w' => en = .returned (decV 0 neg ⟨#[48]⟩ ((e : Int) - 6176)) ∧ Below w.heap.size w w' := by
 unfold decV
 have hee : (e : Int) + -6176 = (e : Int) - 6176 := by omega
 go_enter Tryz.func38, Tryz.ntmps38
 go_wp2_with fail
 exact bodyPost_ret (v := .agg #[.int .i64 0, .bool neg, .string ⟨#[48]⟩, .int .i64 ((e : Int) - 6176)]) (by simp [results, Tryz.results38, go_sem]) rfl ⟨rfl, ((Below.refl _ _).alloc (Nat.le_refl _) _).alloc (by simp) _⟩
theorem decOf_fin (H L Hn : Nat) (neg : Bool) (hH : H < 18446744073709551616) (hL : L < 18446744073709551616) (hn : ((H : Int) / 9223372036854775808 == 1) = neg) (k : Int) (hk : bits .and .u64 ((H : Int) / 288230376151711744) 31 = k) (k30 : (k == 30) = false) (k31 : (k == 31) = false)
  (j : Int) (h3 : bits .and .u64 ((H : Int) / 2305843009213693952) 3 = j) (j3 : (j == 3) = false) (e : Nat) (he : bits .and .u64 ((H : Int) / 562949953421312) 16383 = (e : Int)) (he1 : e < 16384) (hHn : bits .and .u64 (H : Int) 562949953421311 = (Hn : Int)) (hHn1 : Hn < 562949953421312) (w : World) :
  Calls Tryz.prog 38 #[.int .u64 (H : Int), .int .u64 (L : Int)] w fun en w' => en = .returned (decV 0 neg ⟨(Lib.decDigits (Hn * 18446744073709551616 + L)).toArray⟩ ((e : Int) - 6176)) ∧ Below w.heap.size w w' := by
 unfold decV
 have hee : (e : Int) + -6176 = (e : Int) - 6176 := by omega
 have HC := LH (fun W => decDigits_any Hn L _ (by omega) hL rfl W)
 generalize (⟨(Lib.decDigits (Hn * 18446744073709551616 + L)).toArray⟩ : ByteArray) = ds at HC ⊢
 go_enter Tryz.func38, Tryz.ntmps38
 go_wp2_with (go_at_call 64; refine (HC.out _).mono ?_; rintro en w1 ⟨rfl, hb1⟩; obtain ⟨hc, hf⟩ := bcell hb1; have hz : w.heap.size + 1 < w1.heap.size := by have := hb1.size; simp at this; omega)
 have b0 : w1.heap[w.heap.size]? = some (.cells #[.int .i64 0, .bool false, .string ⟨#[]⟩, .int .i64 0] 59 (0, 0)) := (hb1.block _ (by simp; omega)).trans ((Below.heap_alloc _ _ w.heap.size (by simp)).trans (heap_alloc_new w _))
 have c0 := blk_cell b0 0
 have c1 := blk_cell b0 1
 have c2 := blk_cell b0 2
 have c3 := blk_cell b0 3
 simp only [List.getElem?_toArray, List.getElem?_cons_zero, List.getElem?_cons_succ] at c0 c1 c2 c3
 have hbw := ((((Below.refl _ _).alloc (Nat.le_refl _) _).alloc (by simp) _).trans (hb1.mono (B' := w.heap.size) (by simp; omega)))
 clear hc hf b0
 refine bodyPost_ret (v := .agg #[.int .i64 0, .bool neg, .string ds, .int .i64 ((e : Int) - 6176)]) (by simp [results, Tryz.results38, go_sem, c0, c1, c2, c3]) rfl ⟨rfl, ?_⟩
 exact (((((hbw.setCell (by simp) _).setCell (by simp) _).setCell (by simp) _).setCell (by simp) _).setCell (by simp) _).setCell (by simp) _
set_option maxHeartbeats 8000000
def sgB (neg : Bool) : ByteArray := if neg then ⟨#[45]⟩ else ⟨#[]⟩
theorem decText_nan (neg : Bool) (ds : ByteArray) (e : Int) (w : World) : Calls Tryz.prog 37 #[decV 2 neg ds e] w fun en w' => en = .returned (.string ⟨#[78, 97, 78]⟩) ∧ Below w.heap.size w w' := by
 unfold decV
 cases neg
 all_goals
  go_enter Tryz.func37, Tryz.ntmps37
  go_wp2_with fail
  go_ret
  exact ⟨rfl, below_allocB w _⟩
theorem decText_inf (neg : Bool) (ds : ByteArray) (e : Int) (w : World) : Calls Tryz.prog 37 #[decV 1 neg ds e] w fun en w' => en = .returned (.string (sgB neg ++ ⟨#[73, 110, 102, 105, 110, 105, 116, 121]⟩)) ∧ Below w.heap.size w w' := by
 unfold decV
 cases neg
 all_goals
  go_enter Tryz.func37, Tryz.ntmps37
  go_wp2_with fail
  go_ret
  exact ⟨rfl, below_allocB w _⟩
theorem decText_exp (neg : Bool) (ds : ByteArray) (e f : Int) (n : Nat) (hn : ds.size = n) (h1 : 1 ≤ n) (h40 : n ≤ 40) (he : -7000 ≤ e ∧ e ≤ 11000) (hf : e + n - 1 = f) (hx : 0 < e ∨ f < -6) (w : World) :
  Calls Tryz.prog 37 #[decV 0 neg ds e] w fun en w' => en = .returned (.string (sgB neg ++ (if 1 < n then ds.extract 0 1 ++ (⟨#[46]⟩ ++ ds.extract 1 ds.size) else ds.extract 0 1) ++ (if 0 ≤ f then ⟨#[69, 43]⟩ else ⟨#[69]⟩) ++ ⟨(Lib.itoa f).toArray⟩)) ∧ Below w.heap.size w w' := by
 unfold decV
 have HC := LH (fun W => decNum_any f (by omega) (by omega) W)
 have hil : (⟨(Lib.itoa f).toArray⟩ : ByteArray).size ≤ 100 := by
  show (Lib.itoa f).toArray.size ≤ 100
  have := Lib.itoa_length_le f (by omega) (by omega)
  rw [List.size_toArray]; omega
 generalize (⟨(Lib.itoa f).toArray⟩ : ByteArray) = ft at HC hil ⊢
 have hsz : 1 ≤ ds.size := by omega
 have hsz2 : ds.size ≤ 40 := by omega
 have hff : e + (ds.size : Int) - 1 = f := by omega
 have hx2 : (decide (0 < e) = true) ∨ (decide (0 < e) = false ∧ decide (f < -6) = true) := by
  by_cases h : 0 < e
  ·left; simp [h]
  ·right; simp; omega
 have hn2 : decide (1 < ds.size) = decide (1 < n) := by rw [hn]
 subst hn
 clear hx hf
 by_cases h2 : 1 < ds.size
 ·rw [if_pos h2]
  by_cases h3 : 0 ≤ f
  ·rw [if_pos h3]
   rcases hx2 with hx2 | ⟨hx2, hx3⟩
   all_goals
    cases neg
    all_goals
     go_enter Tryz.func37, Tryz.ntmps37
     go_wp2_with (go_at_call 63; refine (HC.out _).mono ?_; rintro en w1 ⟨rfl, hb1⟩)
     go_ret
     exact ⟨rfl, (below_allocB w _).trans (hb1.mono (by simp))⟩
  ·rw [if_neg h3]
   rcases hx2 with hx2 | ⟨hx2, hx3⟩
   all_goals
    cases neg
    all_goals
     go_enter Tryz.func37, Tryz.ntmps37
     go_wp2_with (go_at_call 63; refine (HC.out _).mono ?_; rintro en w1 ⟨rfl, hb1⟩)
     go_ret
     exact ⟨rfl, (below_allocB w _).trans (hb1.mono (by simp))⟩
 ·rw [if_neg h2]
  by_cases h3 : 0 ≤ f
  ·rw [if_pos h3]
   rcases hx2 with hx2 | ⟨hx2, hx3⟩
   all_goals
    cases neg
    all_goals
     go_enter Tryz.func37, Tryz.ntmps37
     go_wp2_with (go_at_call 63; refine (HC.out _).mono ?_; rintro en w1 ⟨rfl, hb1⟩)
     go_ret
     exact ⟨rfl, (below_allocB w _).trans (hb1.mono (by simp))⟩
  ·rw [if_neg h3]
   rcases hx2 with hx2 | ⟨hx2, hx3⟩
   all_goals
    cases neg
    all_goals
     go_enter Tryz.func37, Tryz.ntmps37
     go_wp2_with (go_at_call 63; refine (HC.out _).mono ?_; rintro en w1 ⟨rfl, hb1⟩)
     go_ret
     exact ⟨rfl, (below_allocB w _).trans (hb1.mono (by simp))⟩
theorem decText_zero (neg : Bool) (ds : ByteArray) (h40 : ds.size ≤ 40) (h1 : 1 ≤ ds.size) (w : World) :
  Calls Tryz.prog 37 #[decV 0 neg ds 0] w fun en w' => en = .returned (.string (sgB neg ++ ds)) ∧ Below w.heap.size w w' := by
 unfold decV
 have hd : decide ((ds.size : Int) - 1 < -6) = false := by simp; omega
 cases neg
 all_goals
  go_enter Tryz.func37, Tryz.ntmps37
  go_wp2_with fail
  go_ret
  exact ⟨rfl, below_allocB w _⟩
def zsB (ds : ByteArray) (k : Nat) : ByteArray := ⟨(List.replicate k 48 ++ ds.data.toList).toArray⟩
theorem zsB_zero (ds : ByteArray) : zsB ds 0 = ds := by apply ByteArray.ext; simp [zsB]
theorem zsB_succ (ds : ByteArray) (k : Nat) : (⟨#[48]⟩ : ByteArray) ++ zsB ds k = zsB ds (k + 1) := by
 apply ByteArray.ext
 simp [zsB, List.replicate_succ]
theorem decText_point (neg : Bool) (ds : ByteArray) (m n : Nat) (hn : ds.size = n) (h1 : 1 ≤ n) (h40 : n ≤ 40) (hm : 1 ≤ m) (hm6 : m ≤ n + 5) (w : World) :
  Calls Tryz.prog 37 #[decV 0 neg ds (-(m : Int))] w fun en w' => en = .returned (.string (sgB neg ++ (zsB ds (m + 1 - n)).extract 0 (max n (m + 1) - m) ++ ⟨#[46]⟩ ++ (zsB ds (m + 1 - n)).extract (max n (m + 1) - m) (max n (m + 1)))) ∧ Below w.heap.size w w' := by
 unfold decV
 have hd : decide (-(m : Int) + (ds.size : Int) - 1 < -6) = false := by simp; omega
 have hd0 : decide (0 < -(m : Int)) = false := by simp
 have hz0 : (-(m : Int) == 0) = false := by simp; omega
 have HN := LH hn
 have hs40 : ds.size ≤ 40 := by omega
 clear hn
 cases neg
 all_goals
  go_enter Tryz.func37, Tryz.ntmps37
  go_wp2_with fail
  go_loop [4] (fun s => ∃ (k : Nat) (t : ByteArray), s = .string t ∧ Hid (t = zsB ds k) ∧ Hid (t.size = k + n) ∧ t.size ≤ 100 ∧ Hid (k = 0 ∨ k + n ≤ m + 1)) (fun s => match s with | .string t => 100 - t.size | _ => 0)
  case atStart => exact ⟨0, ds, rfl, (zsB_zero ds).symm, by show _ = _; have := HN.out; omega, by omega, .inl rfl⟩
  case round =>
   obtain ⟨k, t, rfl, HT, HS, ht100, HK⟩ := hrel
   by_cases hle : (t.size : Int) ≤ (m : Int)
   ·have hle' : decide (t.size ≤ m) = true := by simp; omega
    go_wp2_with fail
    go_round
    case rel =>
     have h2 := HS.out
     have h3 := HK.out
     exact ⟨k + 1, _, rfl, (by show _ = _; rw [HT.out, zsB_succ]), (by show _ = _; rw [ByteArray.size_append, h2, show (⟨#[48]⟩ : ByteArray).size = 1 from rfl]; omega), (by rw [ByteArray.size_append, show (⟨#[48]⟩ : ByteArray).size = 1 from rfl]; omega), (by show _ ∨ _; omega)⟩
    case measure => simp only [ByteArray.size_append, show (⟨#[48]⟩ : ByteArray).size = 1 from rfl]; omega
   ·have hle' : decide (t.size ≤ m) = false := by simp; omega
    obtain ⟨a, ha⟩ : ∃ a : Nat, t.size = a + m := ⟨t.size - m, by omega⟩
    have hat : (t.size : Int) + -(m : Int) = (a : Int) := by omega
    have ha0 : (0 : Int) ≤ (a : Int) := by omega
    have hat2 : (a : Int) ≤ (t.size : Int) := by omega
    have hat3 : a ≤ t.size := by omega
    have HA := LH ha
    have HGT := LH (show m < t.size by omega)
    clear ha hle
    go_wp2_with fail
    go_quiet (fail)
    go_wp2_with fail
    go_ret
    have h2 := HS.out
    have h3 := HK.out
    have hA := HA.out
    have hgt := HGT.out
    refine ⟨?_, below_drn (below_allocB w _) _⟩
    have e1 : k = m + 1 - n := by omega
    have e2 : max n (m + 1) = t.size := by omega
    rw [e2, ← e1, ← HT.out, show t.size - m = a from by omega]
    rfl
end Go.Proofs.YtpfkgpcnhdkkbaaGreatDoor
