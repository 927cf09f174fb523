/- strconv.FormatFloat of a finite float of 64 bits, at 'G', -1: a text that is a function of its bits. -/
import Derived.Test.YtpfkgpcnhdkkbaaGreatDoorAGh
import Derived.Test.YtpfkgpcnhdkkbaaGreatDoorABase
import Derived.Test.YtpfkgpcnhdkkbaaGreatDoorAMq
import Derived.Test.YtpfkgpcnhdkkbaaGreatDoorAEw
import Derived.LoopTactic
import Derived.Laws.RangeAny
namespace Go.Proofs.YtpfkgpcnhdkkbaaGreatDoor
set_option maxHeartbeats 8000000
open Go.RowKit
set_option linter.unusedVariables false
set_option linter.unusedSimpArgs false
set_option maxRecDepth 100000
theorem wrapsu63 (n : Int) (h₀ : 0 ≤ n) (h₁ : n < 2 ^ 64) : IntKind.u64.wrap n = n := by rw [IntKind.wrap_u64]; omega
theorem mant_and (b : Int) (h0 : 0 ≤ b) (h1 : b < 18446744073709551616) : bits .and .u64 b 4503599627370495 = b % 4503599627370496 := by
 have := bits_mask .u64 64 (by decide) wrapsu63 52 (by decide) b h0 (by omega)
 rw [show (2 : Int) ^ 52 - 1 = 4503599627370495 from rfl, show (2 : Int) ^ 52 = 4503599627370496 from rfl] at this
 exact this
theorem exp_and (b : Int) (h0 : 0 ≤ b) (h1 : b < 4611686018427387904) : bits .and .i64 b 2047 = b % 2048 := by
 have := bits_mask .i64 62 (by decide) wraps62 11 (by decide) b h0 (by omega)
 rw [show (2 : Int) ^ 11 - 1 = 2047 from rfl, show (2 : Int) ^ 11 = 2048 from rfl] at this
 exact this
theorem mant_or (m : Int) (h0 : 0 ≤ m) (h1 : m < 4503599627370496) : bits .or .u64 m 4503599627370496 = m + 4503599627370496 := by
 have := bits_join .u64 64 (by decide) wrapsu63 52 4503599627370496 m (by omega) (by decide) (by omega) h0 (by rw [show (2 : Int) ^ 52 = 4503599627370496 from rfl]; exact h1) (by omega)
 rw [show bits .or .u64 m 4503599627370496 = bits .or .u64 4503599627370496 m from by unfold bits; simp only [BitVec.or_comm]]
 rw [this]; omega
theorem ftoa_zero (b : Nat) (neg : Bool) (hb : (b = 0 ∧ neg = false) ∨ (b = 9223372036854775808 ∧ neg = true)) (v : Value) (B : Nat) (W0 w : World) (hv : OB B v [] W0 w) :
  Calls Tryz.prog 137 #[v, .float .f64 b, .int .u8 71, .int .i64 (-1)] w fun e w' => ∃ v', e = .returned v' ∧ OB B v' (gF neg [] 0) W0 w' := by
 have HV := LH hv
 clear hv
 rcases hb with ⟨rfl, rfl⟩ | ⟨rfl, rfl⟩
 ·go_enter Tryz.func137, Tryz.ntmps137
  go_wp2_with fail
  go_quiet (fail)
  go_wp2_with (go_at_call 203; refine (efgZ_f 0 B v [] W0 _ (by simp) (HV.out.drewN _)).mono ?_; rintro e w' ⟨v', rfl, hv'⟩; have HV2 := LH hv'; clear hv')
  go_ret
  exact ⟨_, rfl, HV2.out⟩
 ·go_enter Tryz.func137, Tryz.ntmps137
  go_wp2_with fail
  go_quiet (fail)
  go_wp2_with (go_at_call 203; refine (efgZ_t 0 B v [] W0 _ (by simp) (HV.out.drewN _)).mono ?_; rintro e w' ⟨v', rfl, hv'⟩; have HV2 := LH hv'; clear hv')
  go_ret
  exact ⟨_, rfl, HV2.out⟩
def gAll (neg : Bool) (l : List UInt8) (dp : Int) : List UInt8 := if dp < -3 ∨ 7 ≤ dp then gE neg l dp else gF neg l dp
theorem efg_all (neg : Bool) (l : List UInt8) (dp : Int) (g B n : Nat) (v : Value) (acc : List UInt8) (W0 w : World) (hn : l.length = n) (hl : n ≤ 20) (hd : -420 ≤ dp ∧ dp ≤ 420) (ha : acc.length ≤ 1000)
  (hb : OB B v acc W0 w) (hc : DigB W0 g l) :
  Calls Tryz.prog 203 #[v, .bool neg, .slice (some ⟨g, 0, none⟩) 32 32, .int .i64 dp, .int .i64 (n : Int), .int .i64 (n : Int), .int .u8 71, .bool true] w fun e w' => ∃ v', e = .returned v' ∧ OB B v' (acc ++ gAll neg l dp) W0 w' := by
 unfold gAll
 subst hn
 by_cases h1 : dp < -3 ∨ 7 ≤ dp
 ·rw [if_pos h1]
  rcases h1 with h1 | h1
  ·by_cases h2 : 2 ≤ l.length
   ·cases neg
    ·exact efgE2_fn l dp g B v acc W0 w hl h2 hd h1 ha hb hc
    ·exact efgE2_tn l dp g B v acc W0 w hl h2 hd h1 ha hb hc
   ·by_cases h3 : l.length = 1
    ·cases neg
     ·exact efgE1_fn l dp g B v acc W0 w hl h3 hd h1 ha hb hc
     ·exact efgE1_tn l dp g B v acc W0 w hl h3 hd h1 ha hb hc
    ·cases neg
     ·exact efgE0_fn l dp g B v acc W0 w hl (by omega) hd h1 ha hb hc
     ·exact efgE0_tn l dp g B v acc W0 w hl (by omega) hd h1 ha hb hc
  ·by_cases h2 : 2 ≤ l.length
   ·cases neg
    ·exact efgE2_fp l dp g B v acc W0 w hl h2 hd h1 ha hb hc
    ·exact efgE2_tp l dp g B v acc W0 w hl h2 hd h1 ha hb hc
   ·by_cases h3 : l.length = 1
    ·cases neg
     ·exact efgE1_fp l dp g B v acc W0 w hl h3 hd h1 ha hb hc
     ·exact efgE1_tp l dp g B v acc W0 w hl h3 hd h1 ha hb hc
    ·cases neg
     ·exact efgE0_fp l dp g B v acc W0 w hl (by omega) hd h1 ha hb hc
     ·exact efgE0_tp l dp g B v acc W0 w hl (by omega) hd h1 ha hb hc
 ·rw [if_neg h1]
  by_cases h2 : 1 ≤ dp
  ·by_cases h3 : (l.length : Int) ≤ dp
   ·cases neg
    ·exact efgF1_f l dp g B _ v acc W0 w rfl hl h2 (by omega) h3 ha hb hc
    ·exact efgF1_t l dp g B _ v acc W0 w rfl hl h2 (by omega) h3 ha hb hc
   ·cases neg
    ·exact efgF2_f l dp g B _ v acc W0 w rfl hl h2 (by omega) (by omega) ha hb hc
    ·exact efgF2_t l dp g B _ v acc W0 w rfl hl h2 (by omega) (by omega) ha hb hc
  ·by_cases h3 : dp < (l.length : Int)
   ·cases neg
    ·exact efgF3_f l dp g B _ v acc W0 w rfl hl (by omega) (by omega) h3 ha hb hc
    ·exact efgF3_t l dp g B _ v acc W0 w rfl hl (by omega) (by omega) h3 ha hb hc
   ·obtain rfl : dp = 0 := by omega
    obtain rfl : l = [] := List.length_eq_zero_iff.1 (by omega)
    cases neg
    ·exact efgN_f g B v acc W0 w ha hb
    ·exact efgN_t g B v acc W0 w ha hb
def zero32 : Array Value := #[.int .u8 0, .int .u8 0, .int .u8 0, .int .u8 0, .int .u8 0, .int .u8 0, .int .u8 0, .int .u8 0, .int .u8 0, .int .u8 0, .int .u8 0, .int .u8 0, .int .u8 0, .int .u8 0, .int .u8 0, .int .u8 0, .int .u8 0, .int .u8 0, .int .u8 0, .int .u8 0, .int .u8 0, .int .u8 0, .int .u8 0, .int .u8 0, .int .u8 0, .int .u8 0, .int .u8 0, .int .u8 0, .int .u8 0, .int .u8 0, .int .u8 0, .int .u8 0]
theorem z32_rep : zero32 = Array.replicate 32 (.int .u8 0) := rfl
theorem z32_cell {w : World} {g : Nat} (h : w.heap[g]? = some (.cells zero32 270 (0, 0))) : ∀ j, j < 32 → w.cell? ⟨g, j, none⟩ = some (.int .u8 0) ∧ w.frozen? ⟨g, j, none⟩ = false := by
 intro j hj
 refine ⟨?_, blk_frozen h j⟩
 rw [blk_cell h, z32_rep, Array.getElem?_replicate, if_pos hj]
structure SetD (d p : Int) (nd n : Nat) (dp : Int) (l : List UInt8) : Prop where
 num : ∀ w, TabC w → Calls Tryz.prog 90 #[.int .u64 d] w fun e w' => e = .returned (.int .i64 (nd : Int)) ∧ w' = w
 set : ∀ (g : Nat) (w : World), w.heap[g]? = some (.cells zero32 270 (0, 0)) → Calls Tryz.prog 205 #[.slice (some ⟨g, 0, none⟩) 32 32, .int .u64 d, .int .i64 p, .int .i64 (nd : Int)] w fun e w' => e = .returned (.tuple #[.int .i64 dp, .int .i64 (n : Int)]) ∧ Below g w w' ∧ DigB w' g l
 len : l.length = n
 le : n ≤ 20
 dp0 : -420 ≤ dp
 dp1 : dp ≤ 420
theorem ftoa_norm (b E m M : Nat) (neg : Bool) (d p dp : Int) (nd n : Nat) (l : List UInt8) (hE : bits .and .i64 ((b : Int) / 4503599627370496) 2047 = (E : Int)) (hE0 : 1 ≤ E) (hE1 : E ≤ 2046) (hm : bits .and .u64 (b : Int) 4503599627370495 = (m : Int)) (hb : b < 18446744073709551616)
  (hneg : ((b : Int) / 9223372036854775808 != 0) = neg) (hM : bits .or .u64 (m : Int) 4503599627370496 = (M : Int)) (hM0 : 4503599627370496 ≤ M) (hM1 : M < 9007199254740992)
  (hlen : ∀ w, Calls Tryz.prog 139 #[.int .u64 (M : Int)] w fun e w' => e = .returned (.int .i64 53) ∧ w = w')
  (hs : ∀ w : World, 17 ≤ w.heap.size → pTab w → Calls Tryz.prog 210 #[.int .u64 ((M : Int) * 2048), .int .i64 ((E : Int) - 1023 - 11 - 52)] w fun en w' => en = .returned (.tuple #[.int .u64 d, .int .i64 p]) ∧ Below w.heap.size w w')
  (hsd : SetD d p nd n dp l) (v : Value) (B : Nat) (W0 w : World) (hv : OB B v [] W0 w) (hT : TabC w) (h17 : 17 ≤ w.heap.size) :
  Calls Tryz.prog 137 #[v, .float .f64 b, .int .u8 71, .int .i64 (-1)] w fun e w' => ∃ v', e = .returned v' ∧ OB B v' (gAll neg l dp) W0 w' := by
 have HV := LH hv
 have HT := LH hT
 have k1 : ((E : Int) == 2047) = false := by simp; omega
 have k2 : ((E : Int) == 0) = false := by simp; omega
 have k3 : ((M : Int) == 0) = false := by simp; omega
 have HLEN := LH hlen
 have HS := LH hs
 have HSD := LH hsd
 clear hv hT hlen hs hsd
 go_enter Tryz.func137, Tryz.ntmps137
 go_wp2_with fail
 go_quiet (fail)
 go_wp2_with fail
 have HG := LH (heap_alloc_new (w.drewN nq) (.cells zero32 270))
 have HBL := LH (below_al (w.drewN nq) (.cells zero32 270))
 change Calls Tryz.prog 139 #[.int .u64 (M : Int)] ((w.drewN nq).alloc (.cells zero32 270)) _
 generalize (w.drewN nq).alloc (.cells zero32 270) = W at HG HBL ⊢
 have HVW := LH ((HV.out.drewN nq).later HBL.out)
 have HTW := LH ((HT.out.drewN nq).below HBL.out h17)
 have h17W := LH (Nat.le_trans h17 HBL.out.size)
 clear HT
 go_wp2_with (first | (go_at_call 139; refine (HLEN.out _).mono ?_; rintro e w' ⟨rfl, rfl⟩) | (go_at_call 210; refine (HS.out _ h17W.out HTW.out.pw).mono ?_; rintro e w1 ⟨rfl, b1⟩; have B1 := LH b1; clear b1))
 have HG1 := LH ((B1.out.block w.heap.size (blk_lt HG.out)).trans HG.out)
 have HT1 := LH (HTW.out.below B1.out h17W.out)
 have HB1 := LH (HBL.out.trans (B1.out.mono HBL.out.size))
 clear HG HBL HTW B1 HVW h17W
 refine wp_region_quiet_mid 5 (by kernel_rfl) (by kernel_rfl) ?_
 simp only [List.take_succ_cons, List.take_zero, List.drop_succ_cons, List.drop_zero]
 repeat (quiet_step (exact Calls.quiet_of_same (HSD.out.num _ (HT1.out.drewN _))))
 refine wpQuiet_nil ?_
 intro w' hw'
 obtain ⟨nq2, rfl⟩ := hw'
 go_wp2_with (go_at_call 205; refine (HSD.out.set w.heap.size _ (by exact HG1.out)).mono ?_; rintro e w2 ⟨rfl, b2, d2⟩; have B2 := LH b2; have D2 := LH d2; clear b2 d2)
 have HB2 := LH (show Below w.heap.size w w2 from (below_dr w nq).trans (HB1.out.trans (((below_dr w1 nq2).mono HB1.out.size).trans B2.out)))
 have HV2 := LH (HV.out.later HB2.out)
 clear HB1 B2 HG1 HT1
 unfold midQ
 repeat (quiet_step (fail))
 refine wpQuiet_nil ?_
 intro w' hw'
 obtain ⟨nq3, rfl⟩ := hw'
 go_wp2_with (go_at_call 203; refine (efg_all neg l dp w.heap.size B n v [] w2 _ HSD.out.len HSD.out.le ⟨HSD.out.dp0, HSD.out.dp1⟩ (by simp) (HV2.out.here.drewN _) D2.out).mono ?_; rintro e w3 ⟨v', rfl, hv'⟩; have HV3 := LH (hv'.since HV2.out.below HV2.out.kept); clear hv')
 go_ret
 exact ⟨_, rfl, HV3.out⟩
theorem ftoa_sub (b M s : Nat) (neg : Bool) (mm d p dp : Int) (bl nd n : Nat) (l : List UInt8) (hE : bits .and .i64 ((b : Int) / 4503599627370496) 2047 = 0) (hm : bits .and .u64 (b : Int) 4503599627370495 = (M : Int)) (hb : b < 18446744073709551616)
  (hneg : ((b : Int) / 9223372036854775808 != 0) = neg) (hM0 : 1 ≤ M) (hM1 : M < 4503599627370496) (hsl : (64 : Int) - (bl : Int) = (s : Int)) (hs63 : s ≤ 63) (hmm : IntKind.u64.wrap ((M : Int) * 2 ^ s) = mm)
  (hlen : ∀ w, Calls Tryz.prog 139 #[.int .u64 (M : Int)] w fun e w' => e = .returned (.int .i64 (bl : Int)) ∧ w = w')
  (hs : ∀ w : World, 17 ≤ w.heap.size → pTab w → Calls Tryz.prog 210 #[.int .u64 mm, .int .i64 (-1022 - (s : Int) - 52)] w fun en w' => en = .returned (.tuple #[.int .u64 d, .int .i64 p]) ∧ Below w.heap.size w w')
  (hsd : SetD d p nd n dp l) (v : Value) (B : Nat) (W0 w : World) (hv : OB B v [] W0 w) (hT : TabC w) (h17 : 17 ≤ w.heap.size) :
  Calls Tryz.prog 137 #[v, .float .f64 b, .int .u8 71, .int .i64 (-1)] w fun e w' => ∃ v', e = .returned v' ∧ OB B v' (gAll neg l dp) W0 w' := by
 have HV := LH hv
 have HT := LH hT
 have k3 : ((M : Int) == 0) = false := by simp; omega
 have HLEN := LH hlen
 have HS := LH hs
 have HSD := LH hsd
 clear hv hT hlen hs hsd
 go_enter Tryz.func137, Tryz.ntmps137
 go_wp2_with fail
 go_quiet (fail)
 go_wp2_with fail
 have HG := LH (heap_alloc_new (w.drewN nq) (.cells zero32 270))
 have HBL := LH (below_al (w.drewN nq) (.cells zero32 270))
 change Calls Tryz.prog 139 #[.int .u64 (M : Int)] ((w.drewN nq).alloc (.cells zero32 270)) _
 generalize (w.drewN nq).alloc (.cells zero32 270) = W at HG HBL ⊢
 have HVW := LH ((HV.out.drewN nq).later HBL.out)
 have HTW := LH ((HT.out.drewN nq).below HBL.out h17)
 have h17W := LH (Nat.le_trans h17 HBL.out.size)
 clear HT
 go_wp2_with (first | (go_at_call 139; refine (HLEN.out _).mono ?_; rintro e w' ⟨rfl, rfl⟩) | (go_at_call 210; refine (HS.out _ h17W.out HTW.out.pw).mono ?_; rintro e w1 ⟨rfl, b1⟩; have B1 := LH b1; clear b1))
 have HG1 := LH ((B1.out.block w.heap.size (blk_lt HG.out)).trans HG.out)
 have HT1 := LH (HTW.out.below B1.out h17W.out)
 have HB1 := LH (HBL.out.trans (B1.out.mono HBL.out.size))
 clear HG HBL HTW B1 HVW h17W
 refine wp_region_quiet_mid 5 (by kernel_rfl) (by kernel_rfl) ?_
 simp only [List.take_succ_cons, List.take_zero, List.drop_succ_cons, List.drop_zero]
 repeat (quiet_step (exact Calls.quiet_of_same (HSD.out.num _ (HT1.out.drewN _))))
 refine wpQuiet_nil ?_
 intro w' hw'
 obtain ⟨nq2, rfl⟩ := hw'
 go_wp2_with (go_at_call 205; refine (HSD.out.set w.heap.size _ (by exact HG1.out)).mono ?_; rintro e w2 ⟨rfl, b2, d2⟩; have B2 := LH b2; have D2 := LH d2; clear b2 d2)
 have HB2 := LH (show Below w.heap.size w w2 from (below_dr w nq).trans (HB1.out.trans (((below_dr w1 nq2).mono HB1.out.size).trans B2.out)))
 have HV2 := LH (HV.out.later HB2.out)
 clear HB1 B2 HG1 HT1
 unfold midQ
 repeat (quiet_step (fail))
 refine wpQuiet_nil ?_
 intro w' hw'
 obtain ⟨nq3, rfl⟩ := hw'
 go_wp2_with (go_at_call 203; refine (efg_all neg l dp w.heap.size B n v [] w2 _ HSD.out.len HSD.out.le ⟨HSD.out.dp0, HSD.out.dp1⟩ (by simp) (HV2.out.here.drewN _) D2.out).mono ?_; rintro e w3 ⟨v', rfl, hv'⟩; have HV3 := LH (hv'.since HV2.out.below HV2.out.kept); clear hv')
 go_ret
 exact ⟨_, rfl, HV3.out⟩
def NumB (b : UInt8) : Prop := b = 45 ∨ b = 46 ∨ b = 43 ∨ b = 69 ∨ (48 ≤ b.toNat ∧ b.toNat ≤ 57)
theorem chz_num (z : Int) (h0 : 48 ≤ z) (h1 : z ≤ 57) : NumB (chz z) := by
 unfold NumB chz
 right; right; right; right
 simp
 omega
theorem sgL_num (neg : Bool) : ∀ b ∈ sgL neg, NumB b := by
 intro b hb
 unfold sgL at hb
 cases neg
 ·simp at hb
 ·simp at hb; exact .inl hb
theorem exL_num (e : Int) (he : -900 ≤ e ∧ e ≤ 900) : (exL e).length ≤ 4 ∧ ∀ b ∈ exL e, NumB b := by
 have hx : ∀ x : Int, 0 ≤ x → x ≤ 900 → (expoL x).length ≤ 3 ∧ ∀ b ∈ expoL x, NumB b := by
  intro x h0 h1
  unfold expoL
  split
  ·refine ⟨by simp, ?_⟩
   simp only [List.mem_cons, List.not_mem_nil, or_false, forall_eq_or_imp, forall_eq]
   exact ⟨.inr (.inr (.inr (.inr (by decide)))), chz_num _ (by omega) (by omega)⟩
  ·split
   ·refine ⟨by simp, ?_⟩
    simp only [List.mem_cons, List.not_mem_nil, or_false, forall_eq_or_imp, forall_eq]
    exact ⟨chz_num _ (by omega) (by omega), chz_num _ (by omega) (by omega)⟩
   ·refine ⟨by simp, ?_⟩
    simp only [List.mem_cons, List.not_mem_nil, or_false, forall_eq_or_imp, forall_eq]
    exact ⟨chz_num _ (by omega) (by omega), chz_num _ (by omega) (by omega), chz_num _ (by omega) (by omega)⟩
 unfold exL
 split
 ·have := hx (-e) (by omega) (by omega)
  refine ⟨by simp; omega, ?_⟩
  intro b hb
  rcases List.mem_cons.1 hb with rfl | hb
  ·exact .inl rfl
  ·exact this.2 b hb
 ·have := hx e (by omega) (by omega)
  refine ⟨by simp; omega, ?_⟩
  intro b hb
  rcases List.mem_cons.1 hb with rfl | hb
  ·exact .inr (.inr (.inl rfl))
  ·exact this.2 b hb
theorem gAll_num (neg : Bool) (l : List UInt8) (dp : Int) (hl : l.length ≤ 20) (hd : -420 ≤ dp ∧ dp ≤ 420) (h : ∀ b ∈ l, 48 ≤ b.toNat ∧ b.toNat ≤ 57) : (gAll neg l dp).length ≤ 100 ∧ ∀ b ∈ gAll neg l dp, NumB b := by
 have hn : ∀ b ∈ l, NumB b := fun b hb => .inr (.inr (.inr (.inr (h b hb))))
 have hs : (sgL neg).length ≤ 1 := by unfold sgL; cases neg <;> simp
 unfold gAll
 split
 ·rename_i hc
  unfold gE
  have hx := exL_num (if l.length = 0 then 0 else dp - 1) (by split <;> omega)
  have hf : (frL l).length ≤ 21 ∧ ∀ b ∈ frL l, NumB b := by
   unfold frL
   split
   ·refine ⟨by simp; omega, ?_⟩
    intro b hb
    rcases List.mem_cons.1 hb with rfl | hb
    ·exact .inr (.inl rfl)
    ·exact hn b (List.mem_of_mem_drop hb)
   ·exact ⟨by simp, fun b hb => (by cases hb)⟩
  refine ⟨by simp only [List.length_append, List.length_cons, List.length_nil]; omega, ?_⟩
  intro b hb
  simp only [List.mem_append] at hb
  rcases hb with hb | hb | hb | hb | hb
  ·exact sgL_num neg b hb
  ·have hb' : b = l.getD 0 48 := by simpa using hb
   subst hb'
   cases l with
   | nil => exact .inr (.inr (.inr (.inr (by decide))))
   | cons c l => exact hn c (List.mem_cons_self ..)
  ·exact hf.2 b hb
  ·have : b = 69 := by simpa using hb
   exact .inr (.inr (.inr (.inl this)))
  ·exact hx.2 b hb
 ·rename_i hc
  unfold gF
  have h1 : (if 0 < dp then l.take dp.toNat ++ List.replicate (dp.toNat - l.length) 48 else [48]).length ≤ 30 ∧ ∀ b ∈ (if 0 < dp then l.take dp.toNat ++ List.replicate (dp.toNat - l.length) 48 else [48] : List UInt8), NumB b := by
   split
   ·refine ⟨by simp; omega, ?_⟩
    intro b hb
    rcases List.mem_append.1 hb with hb | hb
    ·exact hn b (List.mem_of_mem_take hb)
    ·rw [List.eq_of_mem_replicate hb]; exact .inr (.inr (.inr (.inr (by decide))))
   ·refine ⟨by simp, ?_⟩
    intro b hb
    have : b = 48 := by simpa using hb
    subst this
    exact .inr (.inr (.inr (.inr (by decide))))
  have h2 : (if dp < l.length then 46 :: (List.replicate (-dp).toNat 48 ++ l.drop dp.toNat) else []).length ≤ 40 ∧ ∀ b ∈ (if dp < l.length then 46 :: (List.replicate (-dp).toNat 48 ++ l.drop dp.toNat) else [] : List UInt8), NumB b := by
   split
   ·refine ⟨by simp; omega, ?_⟩
    intro b hb
    rcases List.mem_cons.1 hb with rfl | hb
    ·exact .inr (.inl rfl)
    ·rcases List.mem_append.1 hb with hb | hb
     ·rw [List.eq_of_mem_replicate hb]; exact .inr (.inr (.inr (.inr (by decide))))
     ·exact hn b (List.mem_of_mem_drop hb)
   ·exact ⟨by simp, fun b hb => (by cases hb)⟩
  refine ⟨by simp only [List.length_append]; omega, ?_⟩
  intro b hb
  simp only [List.mem_append] at hb
  rcases hb with hb | hb | hb
  ·exact sgL_num neg b hb
  ·exact h1.2 b hb
  ·exact h2.2 b hb
theorem decDigits_dig (u : Nat) : ∀ b ∈ Lib.decDigits u, 48 ≤ b.toNat ∧ b.toNat ≤ 57 := by
 induction u using Nat.strongRecOn with
 | _ u ih =>
  intro b hb
  by_cases h : u < 10
  ·rw [Lib.decDigits_one h] at hb
   have : b = UInt8.ofNat (48 + u) := by simpa using hb
   subst this
   simp
   omega
  ·rw [Lib.decDigits, dif_neg h] at hb
   rcases List.mem_append.1 hb with hb | hb
   ·exact ih (u / 10) (by omega) b hb
   ·have : b = UInt8.ofNat (48 + u % 10) := by simpa using hb
    subst this
    simp
    omega
theorem setD_dig (d p : Int) (hd : U64 d) (hp : -400 ≤ p ∧ p ≤ 400) : ∃ nd n dp l, SetD d p nd n dp l ∧ ∀ b ∈ l, 48 ≤ b.toNat ∧ b.toNat ≤ 57 := by
 obtain ⟨D, rfl⟩ := Int.eq_ofNat_of_zero_le hd.1
 have hD : D < 18446744073709551616 := by have := hd.2; omega
 by_cases h0 : D = 0
 ·subst h0
  refine ⟨0, 0, p, [], ⟨fun w hT => (numDigits_zero w hT), fun g w hg => (setDigits_zero p hp g w hg).mono ?_, rfl, by omega, by omega, by omega⟩, fun b hb => (by cases hb)⟩
  rintro e w' ⟨h1, h2, cs', h3⟩
  exact ⟨h1, h2, ⟨cs', _, h3⟩, fun j b hj => by simp at hj⟩
 ·have hnd : Lib.nDigits D ≤ 20 := by have := Lib.numDigits_eq D (by omega) hD; split at this <;> omega
  have ht := tlen_le (Lib.decDigits D) (Lib.nDigits D)
  refine ⟨Lib.nDigits D, tlen (Lib.decDigits D) (Lib.nDigits D), (Lib.nDigits D : Int) + p, (Lib.decDigits D).take (tlen (Lib.decDigits D) (Lib.nDigits D)), ⟨fun w hT => Tryz.internal_strconv_numDigits D (by omega) hD w hT.p10, fun g w hg => (setDigits_pos D (by omega) hD p hp g w (z32_cell hg) hg).mono ?_, ?_, by omega, by omega, by omega⟩, fun b hb => decDigits_dig D b (List.mem_of_mem_take hb)⟩
  ·rintro e w' ⟨h1, h2, ⟨cs', h3⟩, h4⟩
   refine ⟨h1, h2, ⟨cs', _, h3⟩, fun j b hj => h4 j b ?_⟩
   rw [List.getElem?_take] at hj
   split at hj
   ·exact hj
   ·cases hj
  ·rw [List.length_take, Lib.decDigits_length]; omega
structure FText (b : Nat) (t : List UInt8) : Prop where
 len : t.length ≤ 100
 num : ∀ c ∈ t, NumB c
 law : ∀ (v : Value) (B : Nat) (W0 w : World), OB B v [] W0 w → TabC w → 17 ≤ w.heap.size → Calls Tryz.prog 137 #[v, .float .f64 b, .int .u8 71, .int .i64 (-1)] w fun e w' => ∃ v', e = .returned v' ∧ OB B v' t W0 w'
theorem bl_bounds (M : Nat) (h : M < 2 ^ 64) (h0 : M ≠ 0) : 1 ≤ Lib.bitLen M ∧ 2 ^ (Lib.bitLen M - 1) ≤ M ∧ M < 2 ^ Lib.bitLen M := Lib.bitLenAux_bounds 64 M h h0
theorem bl_53 (M : Nat) (h0 : 4503599627370496 ≤ M) (h1 : M < 9007199254740992) : Lib.bitLen M = 53 := by
 obtain ⟨a, b, c⟩ := bl_bounds M (by omega) (by omega)
 rcases Nat.lt_trichotomy (Lib.bitLen M) 53 with h | h | h
 ·have := Nat.pow_le_pow_right (show 0 < 2 by omega) (show Lib.bitLen M ≤ 52 by omega)
  omega
 ·exact h
 ·have := Nat.pow_le_pow_right (show 0 < 2 by omega) (show 53 ≤ Lib.bitLen M - 1 by omega)
  omega
theorem fText_ex (b : Nat) (hb : b < 18446744073709551616) (hE : b / 4503599627370496 % 2048 ≠ 2047) : ∃ t, FText b t := by
 have hneg : ((b : Int) / 9223372036854775808 != 0) = decide (9223372036854775808 ≤ b) := by
  by_cases h : 9223372036854775808 ≤ b
  ·have : (b : Int) / 9223372036854775808 ≠ 0 := by omega
   simp [h, this]
  ·have : (b : Int) / 9223372036854775808 = 0 := by omega
   simp [h, this]
 have hm := mant_and (b : Int) (by omega) (by omega)
 rw [show (b : Int) % 4503599627370496 = ((b % 4503599627370496 : Nat) : Int) from by omega] at hm
 have he := exp_and ((b : Int) / 4503599627370496) (by omega) (by omega)
 by_cases hz : b / 4503599627370496 % 2048 = 0
 ·by_cases hM : b % 4503599627370496 = 0
  ·have hbz : b = 0 ∨ b = 9223372036854775808 := by omega
   rcases hbz with rfl | rfl
   ·refine ⟨gF false [] 0, ?_, ?_, fun v B W0 w hv _ _ => ftoa_zero 0 false (.inl ⟨rfl, rfl⟩) v B W0 w hv⟩
    ·decide
    ·have := (gAll_num false [] 0 (by simp) (by omega) (fun b hb => (by cases hb))).2
     exact this
   ·refine ⟨gF true [] 0, ?_, ?_, fun v B W0 w hv _ _ => ftoa_zero 9223372036854775808 true (.inr ⟨rfl, rfl⟩) v B W0 w hv⟩
    ·decide
    ·have := (gAll_num true [] 0 (by simp) (by omega) (fun b hb => (by cases hb))).2
     exact this
  ·obtain ⟨M, hMe⟩ : ∃ M, b % 4503599627370496 = M := ⟨_, rfl⟩
   rw [hMe] at hm hM
   have hM1 : M < 4503599627370496 := by omega
   obtain ⟨a1, a2, a3⟩ := bl_bounds M (by omega) hM
   have hbl : Lib.bitLen M ≤ 52 := Lib.bitLen_le M 52 (by omega) (by omega)
   have hlen : ∀ w, Calls Tryz.prog 139 #[.int .u64 (M : Int)] w fun e w' => e = .returned (.int .i64 (Lib.bitLen M : Int)) ∧ w = w' := by
    intro w
    exact (Tryz.bits_Len64 (M : Int) w (by omega) (by omega)).mono fun e w' h => ⟨by simpa using h.1, h.2.symm⟩
   generalize Lib.bitLen M = bl at a1 a2 a3 hbl hlen
   obtain ⟨s, hs⟩ : ∃ s : Nat, s = 64 - bl := ⟨_, rfl⟩
   have p1 : 2 ^ (bl - 1) * 2 ^ s = 9223372036854775808 := by rw [← Nat.pow_add, show bl - 1 + s = 63 from by omega]
   have p2 : 2 ^ bl * 2 ^ s = 18446744073709551616 := by rw [← Nat.pow_add, show bl + s = 64 from by omega]
   have p3 : 4096 * 2 ^ (s - 12) = 2 ^ s := by rw [show (4096 : Nat) = 2 ^ 12 from rfl, ← Nat.pow_add, show 12 + (s - 12) = s from by omega]
   have q1 : 9223372036854775808 ≤ M * 2 ^ s := by rw [← p1]; exact Nat.mul_le_mul_right _ a2
   have q2 : M * 2 ^ s < 18446744073709551616 := by rw [← p2]; exact Nat.mul_lt_mul_of_pos_right a3 (Nat.pow_pos (by omega))
   have q3 : M * 2 ^ s = 4096 * (M * 2 ^ (s - 12)) := by rw [← p3, Nat.mul_left_comm]
   obtain ⟨X, hX⟩ : ∃ X, M * 2 ^ s = X := ⟨_, rfl⟩
   rw [hX] at q1 q2 q3
   have q4 : X ≤ 18446744073709549568 := by generalize M * 2 ^ (s - 12) = Y at q3; omega
   have hXi : (M : Int) * 2 ^ s = (X : Int) := by rw [← hX]; push_cast; rfl
   obtain ⟨d, p, hd, hp, hsh⟩ := short_ex (X : Int) (-1022 - (s : Int) - 52) (by omega) (by omega) (by omega) (by omega)
   obtain ⟨nd, n, dp, l, hsd, hdig⟩ := setD_dig d p hd hp
   refine ⟨gAll (decide (9223372036854775808 ≤ b)) l dp, (gAll_num _ l dp (by rw [hsd.len]; exact hsd.le) ⟨hsd.dp0, hsd.dp1⟩ hdig).1, (gAll_num _ l dp (by rw [hsd.len]; exact hsd.le) ⟨hsd.dp0, hsd.dp1⟩ hdig).2, fun v B W0 w hv hT h17 => ?_⟩
   refine ftoa_sub b M s (decide (9223372036854775808 ≤ b)) (X : Int) d p dp bl nd n l ?_ hm hb hneg (by omega) hM1 (by omega) (by omega) ?_ hlen hsh hsd v B W0 w hv hT h17
   ·rw [he]; omega
   ·rw [hXi, IntKind.wrap_u64]; omega
 ·obtain ⟨E, hEe⟩ : ∃ E, b / 4503599627370496 % 2048 = E := ⟨_, rfl⟩
  rw [hEe] at hz hE
  obtain ⟨m, hme⟩ : ∃ m, b % 4503599627370496 = m := ⟨_, rfl⟩
  rw [hme] at hm
  have hm1 : m < 4503599627370496 := by omega
  have hor := mant_or (m : Int) (by omega) (by omega)
  rw [show (m : Int) + 4503599627370496 = ((m + 4503599627370496 : Nat) : Int) from by omega] at hor
  obtain ⟨d, p, hd, hp, hsh⟩ := short_ex (((m + 4503599627370496 : Nat) : Int) * 2048) ((E : Int) - 1023 - 11 - 52) (by omega) (by omega) (by omega) (by omega)
  obtain ⟨nd, n, dp, l, hsd, hdig⟩ := setD_dig d p hd hp
  refine ⟨gAll (decide (9223372036854775808 ≤ b)) l dp, (gAll_num _ l dp (by rw [hsd.len]; exact hsd.le) ⟨hsd.dp0, hsd.dp1⟩ hdig).1, (gAll_num _ l dp (by rw [hsd.len]; exact hsd.le) ⟨hsd.dp0, hsd.dp1⟩ hdig).2, fun v B W0 w hv hT h17 => ?_⟩
  refine ftoa_norm b E m (m + 4503599627370496) (decide (9223372036854775808 ≤ b)) d p dp nd n l ?_ (by omega) (by omega) hm hb hneg hor (by omega) (by omega) ?_ hsh hsd v B W0 w hv hT h17
  ·rw [he]; omega
  ·intro w
   refine (Tryz.bits_Len64 ((m + 4503599627370496 : Nat) : Int) w (by omega) (by omega)).mono fun e w' h => ⟨h.1.trans ?_, h.2.symm⟩
   rw [Int.toNat_natCast, bl_53 _ (by omega) (by omega)]
   rfl
set_option maxHeartbeats 8000000
theorem iter_below (w : World) (s : ByteArray) (p : Nat) : Below w.heap.size w (w.iter s p) := below_al w _
def mk24 : Array Value := #[.int .u8 0, .int .u8 0, .int .u8 0, .int .u8 0, .int .u8 0, .int .u8 0, .int .u8 0, .int .u8 0, .int .u8 0, .int .u8 0, .int .u8 0, .int .u8 0, .int .u8 0, .int .u8 0, .int .u8 0, .int .u8 0, .int .u8 0, .int .u8 0, .int .u8 0, .int .u8 0, .int .u8 0, .int .u8 0, .int .u8 0, .int .u8 0]
noncomputable def fT (b : Nat) : List UInt8 := if h : b < 18446744073709551616 ∧ b / 4503599627370496 % 2048 ≠ 2047 then Classical.choose (fText_ex b h.1 h.2) else []
theorem fT_spec (b : Nat) (h1 : b < 18446744073709551616) (h2 : b / 4503599627370496 % 2048 ≠ 2047) : FText b (fT b) := by
 unfold fT
 rw [dif_pos ⟨h1, h2⟩]
 exact Classical.choose_spec (fText_ex b h1 h2)
theorem fmtFloat88 (b : Nat) (h1 : b < 18446744073709551616) (h2 : b / 4503599627370496 % 2048 ≠ 2047) (w : World) (hT : TabC w) (h17 : 17 ≤ w.heap.size) :
  Calls Tryz.prog 88 #[.float .f64 b, .int .u8 71, .int .i64 (-1), .int .i64 64] w fun e w' => e = .returned (.string ⟨(fT b).toArray⟩) ∧ Below w.heap.size w w' := by
 have F := LH (fT_spec b h1 h2)
 have HT := LH hT
 clear hT
 generalize fT b = t at F ⊢
 have hmk : ∀ W : World, (Instr.makeSlice 23 (.int .i64 0) (.int .i64 (max 3 24))).run Tryz.prog W = .ok (.slice (some ⟨W.heap.size, 0, none⟩) 0 24) (W.alloc (.cells mk24 5)) := fun W => by
  obtain ⟨i, hi, h2⟩ := Option.map_eq_some_iff.1 info5
  injection h2 with hz hr
  injection hr with hs hy
  refine (run_make W 23 5 i (.int .u8 0) Tryz.underlying23 hi hz .i64 .i64 0 (max 3 24) (by omega) (by decide) (by rw [hy]; decide) (by decide)).trans ?_
  rw [hs]
  have hc : madeCells (Value.int .u8 0).cells ((max 3 24 : Int).toNat * 1) = mk24 := (madeCells_int .u8 24).trans rfl
  rw [hc]
  rfl
 go_enter Tryz.func88, Tryz.ntmps88
 go_wp2_with (go_at_call 137; refine (F.out.law _ w.heap.size w _ (by exact OB.made w 24 mk24 rfl (by decide)) (by exact HT.out.below (below_al w _) h17) (by exact Nat.le_trans h17 (below_al w _).size)).mono ?_; rintro e w1 ⟨v', rfl, hv'⟩; have HV := LH hv'; have hstr := hv'.str; clear hv')
 go_ret
 exact ⟨rfl, HV.out.below⟩
theorem fmtFloat59 (b : Nat) (h1 : b < 18446744073709551616) (h2 : b / 4503599627370496 % 2048 ≠ 2047) (w : World) (hT : TabC w) (h17 : 17 ≤ w.heap.size) :
  Calls Tryz.prog 59 #[.float .f64 b, .int .u8 71, .int .i64 (-1), .int .i64 64] w fun e w' => e = .returned (.string ⟨(fT b).toArray⟩) ∧ Below w.heap.size w w' := by
 have HT := LH hT
 clear hT
 go_enter Tryz.func59, Tryz.ntmps59
 go_wp2_with (go_at_call 88; refine (fmtFloat88 b h1 h2 _ HT.out h17).mono ?_; rintro e w1 ⟨rfl, b1⟩; have B1 := LH b1; clear b1)
 go_ret
 exact ⟨rfl, B1.out⟩
theorem dbl_consts : Ieee.double.signWeight = 9223372036854775808 ∧ Ieee.double.binade = 4503599627370496 ∧ Ieee.double.infRung = 9218868437227405312 := by decide +kernel
theorem read_big {b : Nat} (h : 9218868437227405312 < b % 9223372036854775808) : ∃ s f, Ieee.double.read b = .nan s f := by
 obtain ⟨e1, e2, e3⟩ := dbl_consts
 unfold Ieee.Format.read
 simp only [e1, e2, e3]
 rw [if_neg (by omega), if_neg (by omega), if_neg (by omega)]
 exact ⟨_, _, rfl⟩
theorem order_big {b : Nat} (h : 9218868437227405312 < b % 9223372036854775808) (y : Nat) : FloatKind.f64.format.order b y = none := by
 obtain ⟨s, f, hr⟩ := read_big h
 show (Ieee.double.read b).order (Ieee.double.read y) = none
 rw [hr]
 rfl
theorem order_self {d : Ieee.Datum} (h : ∀ s f, d ≠ .nan s f) : d.order d = some .eq := by
 cases d with
 | number s m i => simp [Ieee.Datum.order]
 | infinity s => simp [Ieee.Datum.order]
 | nan s f => exact absurd rfl (h s f)
theorem nan_rung {b : Nat} (h : fNaN b = true) : 9218868437227405312 < b % 9223372036854775808 := by
 rcases Nat.lt_or_ge 9218868437227405312 (b % 9223372036854775808) with h1 | h1
 ·exact h1
 ·obtain ⟨e1, e2, e3⟩ := dbl_consts
  have : FloatKind.f64.format.order b b = some .eq := by
   refine order_self ?_
   intro s f hr
   revert hr
   unfold Ieee.Format.read
   change (_ : Ieee.Datum) = _ → False
   simp only [show FloatKind.f64.format = Ieee.double from rfl, e1, e2, e3]
   split
   ·intro h; cases h
   ·split
    ·intro h; cases h
    ·rw [if_pos (by omega)]
     intro h; cases h
  unfold fNaN at h
  rw [this] at h
  cases h
theorem nan_only {b : Nat} (h : fNaN b = true) : fBig b = false ∧ fBig (Op.negFloat .f64 b) = false := by
 have h1 := nan_rung h
 unfold fBig
 refine ⟨?_, ?_⟩
 ·rw [order_big h1]; rfl
 ·rw [order_big]
  ·rfl
  ·show _ < (b ^^^ 2 ^ 63) % 2 ^ 63
   rw [Nat.xor_mod_two_pow]
   simpa using h1
theorem fin_exp (b : Nat) (h0 : fNaN b = false) (h1 : fBig b = false) (h2 : fBig (Op.negFloat .f64 b) = false) (hb : b < 18446744073709551616) : b / 4503599627370496 % 2048 ≠ 2047 := by
 intro h
 by_cases hm : b % 4503599627370496 = 0
 ·have hbz : b = 9218868437227405312 ∨ b = 18442240474082181120 := by omega
  rcases hbz with rfl | rfl
  ·revert h1; decide +kernel
  ·revert h2; decide +kernel
 ·unfold fNaN at h0
  rw [order_big (by omega)] at h0
  cases h0
noncomputable def dblT (b : Nat) : List UInt8 :=
 if fNaN b = true then [78, 97, 78]
 else if fBig b = true then [73, 110, 102, 105, 110, 105, 116, 121]
 else if fBig (Op.negFloat .f64 b) = true then [45, 73, 110, 102, 105, 110, 105, 116, 121]
 else if 46 ∈ fT b ∨ 69 ∈ fT b then fT b
 else fT b ++ [46, 48]
theorem numB_lt {c : UInt8} (h : NumB c) : c.toNat < 128 := by
 rcases h with rfl | rfl | rfl | rfl | h
 ·decide
 ·decide
 ·decide
 ·decide
 ·omega
theorem isInf_s (b : Nat) (s : Int) (v : Bool) (w : World) (h : (s = 1 ∧ fBig b = v) ∨ (s = -1 ∧ fBig (Op.negFloat .f64 b) = v)) : Calls Tryz.prog 29 #[.float .f64 b, .int .i64 s] w fun e w' => e = .returned (.bool v) ∧ w = w' := by
 rcases h with ⟨rfl, rfl⟩ | ⟨rfl, rfl⟩
 ·exact isInf_any b w
 ·exact isInf_neg b w
theorem isNaN_s (b : Nat) (v : Bool) (w : World) (h : fNaN b = v) : Calls Tryz.prog 28 #[.float .f64 b] w fun e w' => e = .returned (.bool v) ∧ w = w' := by
 subst h
 exact isNaN_any b w
theorem bs_cat (a b : List UInt8) : (⟨a.toArray⟩ ++ ⟨b.toArray⟩ : ByteArray) = ⟨(a ++ b).toArray⟩ := by
 apply ByteArray.ext
 simp
theorem extDouble_fin (b : Nat) (t : List UInt8) (h0 : fNaN b = false) (h1 : fBig b = false) (h2 : fBig (Op.negFloat .f64 b) = false) (ht : t.length ≤ 100) (w : World)
  (hf : Calls Tryz.prog 59 #[.float .f64 b, .int .u8 71, .int .i64 (-1), .int .i64 64] w fun e w' => e = .returned (.string ⟨t.toArray⟩) ∧ Below w.heap.size w w') :
  Calls Tryz.prog 27 #[.float .f64 b] w fun e w' => e = .returned (.string ⟨(if 46 ∈ t ∨ 69 ∈ t then t else t ++ [46, 48]).toArray⟩) ∧ Below w.heap.size w w' := by
 have HF := LH hf
 have g1 : ¬ 9223372036854775807 < t.length + 2 := by omega
 clear hf
 obtain ⟨r, hr⟩ : ∃ r, (if 46 ∈ t ∨ 69 ∈ t then t else t ++ [46, 48]) = r := ⟨_, rfl⟩
 rw [hr]
 have HR := LH hr
 clear hr
 go_enter Tryz.func27, Tryz.ntmps27
 go_wp2_with (first | (go_at_call 29; refine (isInf_s b _ false _ ?_).mono ?_; (first | exact .inl ⟨rfl, h1⟩ | exact .inr ⟨rfl, h2⟩); rintro e w' ⟨rfl, rfl⟩) | (go_at_call 28; refine (isNaN_s b _ _ h0).mono ?_; rintro e w' ⟨rfl, rfl⟩) | (go_at_call 59; refine HF.out.mono ?_; rintro e w1 ⟨rfl, b1⟩; have B1 := LH b1; clear b1))
 go_loop [4] (fun i => ∃ (q : Nat), i = .int .i64 q ∧ q ≤ t.length ∧ Hid (∀ j, j < q → t[j]? ≠ some 46 ∧ t[j]? ≠ some 69)) (fun i => t.length - (intOf i).toNat)
 case atStart => exact ⟨0, rfl, by omega, fun j hj => by omega⟩
 case round =>
  obtain ⟨q, rfl, hq, HI⟩ := hrel
  by_cases hlt : q < t.length
  ·obtain ⟨c, hc⟩ : ∃ c, t[q]'hlt = c := ⟨_, rfl⟩
   have hcq : t[q]? = some c := by rw [List.getElem?_eq_getElem hlt, hc]
   have hx : ∀ h : q < (ByteArray.mk t.toArray).size, (((ByteArray.mk t.toArray)[q]'h).toNat : Int) = (c.toNat : Int) := fun h => by rw [← hc]; rfl
   have hmem : c ∈ t := by rw [← hc]; exact List.getElem_mem hlt
   by_cases c1 : c = 46 ∨ c = 69
   ·have hr2 : r = t := by
     rw [← HR.out, if_pos]
     rcases c1 with rfl | rfl
     ·exact .inl hmem
     ·exact .inr hmem
    subst hr2
    rcases c1 with rfl | rfl
    ·have k1 : (((46 : UInt8).toNat : Int) == 46) = true := rfl
     clear hc hmem
     go_wp2
     go_ret
     exact ⟨rfl, B1.out⟩
    ·have k1 : (((69 : UInt8).toNat : Int) == 46) = false := rfl
     have k2 : (((69 : UInt8).toNat : Int) == 69) = true := rfl
     clear hc hmem
     go_wp2
     go_ret
     exact ⟨rfl, B1.out⟩
   ·have k1 : ((c.toNat : Int) == 46) = false := by
     simp only [beq_eq_false_iff_ne]
     intro h
     exact c1 (.inl (UInt8.toNat_inj.1 (by have : (46 : UInt8).toNat = 46 := rfl; omega)))
    have k2 : ((c.toNat : Int) == 69) = false := by
     simp only [beq_eq_false_iff_ne]
     intro h
     exact c1 (.inr (UInt8.toNat_inj.1 (by have : (69 : UInt8).toNat = 69 := rfl; omega)))
    have HX := LH c1
    clear hc hmem c1
    go_wp2
    go_round
    case rel =>
     refine ⟨q + 1, by go_num, by omega, fun j hj => ?_⟩
     rcases Nat.lt_or_ge j q with h | h
     ·exact HI.out j h
     ·obtain rfl : j = q := by omega
      rw [hcq]
      exact ⟨fun h => HX.out (.inl (Option.some.inj h)), fun h => HX.out (.inr (Option.some.inj h))⟩
    case measure => simp [intOf]; omega
  ·have hr2 : r = t ++ [46, 48] := by
    rw [← HR.out, if_neg]
    have hno : ∀ c, c ∈ t → c ≠ 46 ∧ c ≠ 69 := by
     intro c hc
     obtain ⟨j, hj, he⟩ := List.mem_iff_getElem.1 hc
     have := HI.out j (by omega)
     rw [List.getElem?_eq_getElem hj, he] at this
     exact ⟨fun h => this.1 (by rw [h]), fun h => this.2 (by rw [h])⟩
    rintro (h | h)
    ·exact (hno _ h).1 rfl
    ·exact (hno _ h).2 rfl
   subst hr2
   go_wp2
   go_ret
   exact ⟨congrArg (fun x => Ending.returned (.string x)) (bs_cat t [46, 48]), B1.out⟩
theorem extDouble_any (b : Nat) (hb : b < 18446744073709551616) (w : World) (hT : TabC w) (h17 : 17 ≤ w.heap.size) :
  Calls Tryz.prog 27 #[.float .f64 b] w fun e w' => e = .returned (.string ⟨(dblT b).toArray⟩) ∧ Below w.heap.size w w' := by
 cases h0 : fNaN b
 ·cases h1 : fBig b
  ·cases h2 : fBig (Op.negFloat .f64 b)
   ·have hE := fin_exp b h0 h1 h2 hb
    have F := fT_spec b hb hE
    refine (extDouble_fin b (fT b) h0 h1 h2 F.len w (fmtFloat59 b hb hE w hT h17)).mono ?_
    rintro e w' ⟨rfl, h⟩
    refine ⟨?_, h⟩
    unfold dblT
    rw [h0, h1, h2]
    simp only [Bool.false_eq_true, if_false]
   ·unfold dblT
    rw [h0, h1, h2]
    clear hT
    go_enter Tryz.func27, Tryz.ntmps27
    go_wp2_with (first | (go_at_call 29; (first | (refine (isInf_s b _ false _ ?_).mono ?_; (first | exact .inl ⟨rfl, h1⟩ | exact .inr ⟨rfl, h2⟩)) | (refine (isInf_s b _ true _ ?_).mono ?_; (first | exact .inl ⟨rfl, h1⟩ | exact .inr ⟨rfl, h2⟩))); rintro e w' ⟨rfl, rfl⟩) | (go_at_call 28; refine (isNaN_s b _ _ h0).mono ?_; rintro e w' ⟨rfl, rfl⟩))
    go_ret
    exact ⟨rfl, Below.refl _ _⟩
  ·unfold dblT
   rw [h0, h1]
   clear hT
   go_enter Tryz.func27, Tryz.ntmps27
   go_wp2_with (first | (go_at_call 29; refine (isInf_s b _ true _ ?_).mono ?_; (first | exact .inl ⟨rfl, h1⟩); rintro e w' ⟨rfl, rfl⟩) | (go_at_call 28; refine (isNaN_s b _ _ h0).mono ?_; rintro e w' ⟨rfl, rfl⟩))
   go_ret
   exact ⟨rfl, Below.refl _ _⟩
 ·unfold dblT
  rw [h0]
  clear hT
  go_enter Tryz.func27, Tryz.ntmps27
  go_wp2_with (first | (go_at_call 28; refine (isNaN_s b _ _ h0).mono ?_; rintro e w' ⟨rfl, rfl⟩))
  go_ret
  exact ⟨rfl, Below.refl _ _⟩
end Go.Proofs.YtpfkgpcnhdkkbaaGreatDoor
