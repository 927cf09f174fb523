/- internal/strconv's unrounded scaling: what each function comes to is a function of its arguments. -/
import Derived.Test.YtpfkgpcnhdkkbaaGreatDoorAShA
import Derived.Test.YtpfkgpcnhdkkbaaGreatDoorAEw
import Derived.Laws.BitsLemmas
import Derived.Laws.Bits64
import GoSem.PinnedTables
import Derived.Lib.SmallJoins
import Derived.Lib.Hide
import Derived.Test.YtpfkgpcnhdkkbaaGreatDoorATabs
import Derived.Lib.ItoaMem
import Derived.Test.YtpfkgpcnhdkkbaaGreatDoorAOb
import Derived.Deep.CutRange
import Derived.Deep.LoopGhost
namespace Go.Proofs.YtpfkgpcnhdkkbaaGreatDoor
open Go.RowKit
set_option linter.unusedVariables false
set_option linter.unusedSimpArgs false
set_option maxRecDepth 100000
theorem log10_any (x : Int) (w : World) (h0 : -5000 ≤ x) (h1 : x ≤ 5000) : Calls Tryz.prog 138 #[.int .i64 x] w fun e w' => e = .returned (.int .i64 (x * 78913 / 262144)) ∧ w = w' := by
 go_enter Tryz.func138, Tryz.ntmps138
 go_wp2
 go_ret
 exact ⟨rfl, rfl⟩
theorem log2_any (x : Int) (w : World) (h0 : -5000 ≤ x) (h1 : x ≤ 5000) : Calls Tryz.prog 242 #[.int .i64 x] w fun e w' => e = .returned (.int .i64 (x * 108853 / 32768)) ∧ w = w' := by
 go_enter Tryz.func242, Tryz.ntmps242
 go_wp2
 go_ret
 exact ⟨rfl, rfl⟩
theorem skewed_any (x : Int) (w : World) (h0 : -5000 ≤ x) (h1 : x ≤ 5000) : Calls Tryz.prog 240 #[.int .i64 x] w fun e w' => e = .returned (.int .i64 ((x * 631305 - 261663) / 2097152)) ∧ w = w' := by
 go_enter Tryz.func240, Tryz.ntmps240
 go_wp2
 go_ret
 exact ⟨rfl, rfl⟩
theorem bool2_any (b : Bool) (w : World) : Calls Tryz.prog 274 #[.bool b] w fun e w' => e = .returned (.int .u64 (if b then 1 else 0)) ∧ w = w' := by
 cases b
 all_goals
  go_enter Tryz.func274, Tryz.ntmps274
  go_wp2
  go_ret
  exact ⟨rfl, rfl⟩
def U64 (x : Int) : Prop := 0 ≤ x ∧ x ≤ 18446744073709551615
theorem nudge_any (x k : Int) (w : World) : ∃ r, r = IntKind.u64.wrap (x + IntKind.u64.wrap k) ∧ Calls Tryz.prog 244 #[.int .u64 x, .int .i64 k] w fun e w' => e = .returned (.int .u64 r) ∧ w = w' := by
 refine ⟨_, rfl, ?_⟩
 go_enter Tryz.func244, Tryz.ntmps244
 go_wp2
 go_ret
 exact ⟨rfl, rfl⟩
theorem ceil_any (x : Int) (w : World) : Calls Tryz.prog 245 #[.int .u64 x] w fun e w' => e = .returned (.int .u64 (IntKind.u64.wrap (x + 3) / 4)) ∧ w = w' := by
 go_enter Tryz.func245, Tryz.ntmps245
 go_wp2
 go_ret
 exact ⟨rfl, rfl⟩
theorem floor_any (x : Int) (w : World) (h : U64 x) : Calls Tryz.prog 246 #[.int .u64 x] w fun e w' => e = .returned (.int .u64 (x / 4)) ∧ w = w' := by
 obtain ⟨h0, h1⟩ := h
 go_enter Tryz.func246, Tryz.ntmps246
 go_wp2
 go_ret
 exact ⟨rfl, rfl⟩
def roundU (x : Int) : Int := IntKind.u64.wrap (IntKind.u64.wrap (x + 1) + bits .and .u64 (x / 4) 1) / 4
theorem round_any (x : Int) (w : World) (h : U64 x) : Calls Tryz.prog 247 #[.int .u64 x] w fun e w' => e = .returned (.int .u64 (roundU x)) ∧ w = w' := by
 obtain ⟨h0, h1⟩ := h
 go_enter Tryz.func247, Tryz.ntmps247
 go_wp2
 go_ret
 exact ⟨rfl, rfl⟩
def pTab (w : World) : Prop := ∀ i : Nat, i < 696 → w.cell? ⟨15, 2 * i, none⟩ = some (.int .u64 ((Go.Pinned.pow10Rows.getD i (0, 0)).1 : Int)) ∧ w.cell? ⟨15, 2 * i + 1, none⟩ = some (.int .u64 ((Go.Pinned.pow10Rows.getD i (0, 0)).2 : Int))
theorem prescale_core (g : Nat) (e lp : Int) (i : Nat) (hi lo : Int) (c0 c1 c2 : Value) (w : World) (hg : w.heap[g]? = some (.cells #[c0, c1, c2] 306 (0, 0))) (hne : ¬ 15 = g) (hit : i < 696)
  (h0 : w.cell? ⟨15, i * 2, none⟩ = some (.int .u64 hi)) (h1 : w.cell? ⟨15, i * 2 + 1, none⟩ = some (.int .u64 lo)) (he : -5000 ≤ e ∧ e ≤ 5000) (hl : -5000 ≤ lp ∧ lp ≤ 5000) :
  Calls Tryz.prog 241 #[.pointer (some ⟨g, 0, none⟩), .int .i64 e, .int .i64 ((i : Int) - 348), .int .i64 lp] w fun en w' => en = .returned (.tuple #[]) ∧ w' = ((w.setCell ⟨g, 0, none⟩ (.int .u64 hi)).setCell ⟨g, 1, none⟩ (.int .u64 lo)).setCell ⟨g, 2, none⟩ (.int .i64 (-(e + lp + 3))) := by
 have g0 : w.cell? ⟨g, 0, none⟩ = some c0 := by rw [blk_cell hg]; rfl
 have g1 : w.cell? ⟨g, 1, none⟩ = some c1 := by rw [blk_cell hg]; rfl
 have g2 : w.cell? ⟨g, 2, none⟩ = some c2 := by rw [blk_cell hg]; rfl
 have f0 := fun k => blk_frozen hg k
 obtain ⟨he0, he1⟩ := he
 obtain ⟨hl0, hl1⟩ := hl
 have hne' : ¬ g = 15 := fun h => hne h.symm
 clear hg
 go_enter Tryz.func241, Tryz.ntmps241
 go_wp2
 go_end0
 exact ⟨rfl, rfl⟩
theorem prescale_any (g : Nat) (e lp p : Int) (c0 c1 c2 : Value) (w : World) (hg : w.heap[g]? = some (.cells #[c0, c1, c2] 306 (0, 0))) (hne : 15 < g) (hp : -348 ≤ p ∧ p ≤ 347)
  (hT : pTab w) (he : -5000 ≤ e ∧ e ≤ 5000) (hl : -5000 ≤ lp ∧ lp ≤ 5000) :
  Calls Tryz.prog 241 #[.pointer (some ⟨g, 0, none⟩), .int .i64 e, .int .i64 p, .int .i64 lp] w fun en w' => en = .returned (.tuple #[]) ∧
   w'.heap[g]? = some (.cells #[.int .u64 ((Go.Pinned.pow10Rows.getD (p + 348).toNat (0, 0)).1 : Int), .int .u64 ((Go.Pinned.pow10Rows.getD (p + 348).toNat (0, 0)).2 : Int), .int .i64 (-(e + lp + 3))] 306 (0, 0)) ∧ Below g w w' := by
 obtain ⟨i, hi⟩ : ∃ i : Nat, (p + 348).toNat = i := ⟨_, rfl⟩
 obtain rfl : p = (i : Int) - 348 := by omega
 rw [hi]
 have ht := hT i (by omega)
 refine (prescale_core g e lp i _ _ c0 c1 c2 w hg (by omega) (by omega) (by rw [Nat.mul_comm]; exact ht.1) (by rw [Nat.mul_comm]; exact ht.2) he hl).mono ?_
 rintro en w' ⟨rfl, rfl⟩
 have s0 := blk_set hg 0 (.int .u64 ((Go.Pinned.pow10Rows.getD i (0, 0)).1 : Int))
 have s1 := blk_set s0 1 (.int .u64 ((Go.Pinned.pow10Rows.getD i (0, 0)).2 : Int))
 have s2 := blk_set s1 2 (.int .i64 (-(e + lp + 3)))
 refine ⟨rfl, ?_, ?_⟩
 ·rw [s2]
  simp
 ·exact (((Below.refl g w).setCell (Nat.le_refl _) _).setCell (Nat.le_refl _) _).setCell (Nat.le_refl _) _
theorem wraps62 (n : Int) (h₀ : 0 ≤ n) (h₁ : n < 2 ^ 62) : IntKind.i64.wrap n = n := by rw [IntKind.wrap_i64]; omega
theorem and63k (k : Nat) (hk : k < 64) : bits .and .i64 (k : Int) 63 = (k : Int) := by
 have := bits_mask .i64 62 (by decide) wraps62 6 (by decide) (k : Int) (by omega) (by omega)
 rw [show (2 : Int) ^ 6 - 1 = 63 from rfl, show (2 : Int) ^ 6 = 64 from rfl] at this
 rw [this]; omega
theorem mul64_ex (x y : Nat) (hx : x < 18446744073709551616) (hy : y < 18446744073709551616) : ∃ A M : Nat, A < 18446744073709551616 ∧ M < 18446744073709551616 ∧ ∀ w, Calls Tryz.prog 273 #[.int .u64 x, .int .u64 y] w fun e w' => e = .returned (.tuple #[.int .u64 (A : Int), .int .u64 (M : Int)]) ∧ w = w' := by
 refine ⟨x * y / 18446744073709551616, x * y % 18446744073709551616, ?_, Nat.mod_lt _ (by omega), fun w => (Tryz.bits_Mul64 x y hx hy w).mono fun e w' h => ⟨h.1, h.2.symm⟩⟩
 have : x * y ≤ 18446744073709551615 * 18446744073709551615 := Nat.mul_le_mul (by omega) (by omega)
 rw [Nat.div_lt_iff_lt_mul (by omega)]
 omega
theorem bits_u64 (op : BinOp) (x y : Int) : U64 (bits op .u64 x y) := by
 unfold bits U64
 simp only [IntKind.wrap_u64]
 omega
theorem uscale_ex (x hi lo k : Nat) (hx : x < 18446744073709551616) (hhi : hi < 18446744073709551616) (hlo : lo < 18446744073709551616) (hk : k < 64) :
  ∃ r : Int, U64 r ∧ ∀ (g : Nat) (w : World), w.heap[g]? = some (.cells #[.int .u64 (hi : Int), .int .u64 (lo : Int), .int .i64 (k : Int)] 306 (0, 0)) →
   Calls Tryz.prog 243 #[.int .u64 (x : Int), .pointer (some ⟨g, 0, none⟩)] w fun e w' => e = .returned (.int .u64 r) ∧ ∃ n, w' = w.drewN n := by
 obtain ⟨A, M, hA, hM, c1⟩ := mul64_ex x hi hx hhi
 obtain ⟨A2, M2, hA2, hM2, c2⟩ := mul64_ex x lo hx hlo
 have m := and63k k hk
 cases h1 : (IntKind.u64.wrap ((A : Int) / 2 ^ k * 2 ^ k) != (A : Int)) with
 | true =>
  refine ⟨bits .or .u64 ((A : Int) / 2 ^ k) 1, bits_u64 _ _ _, fun g w hg => ?_⟩
  have g0 : w.cell? ⟨g, 0, none⟩ = some (.int .u64 (hi : Int)) := by rw [blk_cell hg]; rfl
  have g1 : w.cell? ⟨g, 1, none⟩ = some (.int .u64 (lo : Int)) := by rw [blk_cell hg]; rfl
  have g2 : w.cell? ⟨g, 2, none⟩ = some (.int .i64 (k : Int)) := by rw [blk_cell hg]; rfl
  clear hg
  go_enter Tryz.func243, Tryz.ntmps243
  go_wp2_with (go_at_call 273; refine (c1 _).mono ?_; rintro e w' ⟨rfl, rfl⟩)
  go_ret
  exact ⟨rfl, 0, rfl⟩
 | false =>
  obtain ⟨b1, hb1⟩ : ∃ b, decide (M < A2) = b := ⟨_, rfl⟩
  obtain ⟨b2, hb2⟩ : ∃ b, decide ((1 : Int) < IntKind.u64.wrap ((M : Int) - (A2 : Int))) = b := ⟨_, rfl⟩
  refine ⟨bits .or .u64 ((if b1 then IntKind.u64.wrap ((A : Int) - 1) else (A : Int)) / 2 ^ k) (if b2 then 1 else 0), bits_u64 _ _ _, fun g w hg => ?_⟩
  have g0 : w.cell? ⟨g, 0, none⟩ = some (.int .u64 (hi : Int)) := by rw [blk_cell hg]; rfl
  have g1 : w.cell? ⟨g, 1, none⟩ = some (.int .u64 (lo : Int)) := by rw [blk_cell hg]; rfl
  have g2 : w.cell? ⟨g, 2, none⟩ = some (.int .i64 (k : Int)) := by rw [blk_cell hg]; rfl
  clear hg
  cases b1
  all_goals
   cases b2
   all_goals
    go_enter Tryz.func243, Tryz.ntmps243
    go_wp2_with (first | (go_at_call 274; refine (bool2_any _ _).mono ?_; rintro e w' ⟨rfl, rfl⟩) | (go_at_call_of 273 (Value.int IntKind.u64 (hi : Int)); refine (c1 _).mono ?_; rintro e w' ⟨rfl, rfl⟩) | (go_at_call_of 273 (Value.int IntKind.u64 (lo : Int)); refine (c2 _).mono ?_; rintro e w' ⟨rfl, rfl⟩))
    go_quiet ((go_at_call 274; exact Calls.quiet_of_same ((bool2_any _ _).mono fun e w' h => ⟨h.1, h.2.symm⟩)))
    go_wp2
    go_ret
    exact ⟨rfl, _, rfl⟩
open Classical in
noncomputable def usc (x hi lo k : Nat) : Int :=
 if h : x < 18446744073709551616 ∧ hi < 18446744073709551616 ∧ lo < 18446744073709551616 ∧ k < 64 then Classical.choose (uscale_ex x hi lo k h.1 h.2.1 h.2.2.1 h.2.2.2) else 0
theorem usc_u64 (x hi lo k : Nat) : U64 (usc x hi lo k) := by
 unfold usc
 split
 ·rename_i h; exact (Classical.choose_spec (uscale_ex x hi lo k h.1 h.2.1 h.2.2.1 h.2.2.2)).1
 ·unfold U64; omega
theorem uscale_any (x : Int) (hi lo k : Nat) (hx : U64 x) (hhi : hi < 18446744073709551616) (hlo : lo < 18446744073709551616) (hk : k < 64) (g : Nat) (w : World) (hg : w.heap[g]? = some (.cells #[.int .u64 (hi : Int), .int .u64 (lo : Int), .int .i64 (k : Int)] 306 (0, 0))) :
  Calls Tryz.prog 243 #[.int .u64 x, .pointer (some ⟨g, 0, none⟩)] w fun e w' => e = .returned (.int .u64 (usc x.toNat hi lo k)) ∧ ∃ n, w' = w.drewN n := by
 obtain ⟨h0, h1⟩ := hx
 obtain ⟨n, rfl⟩ := Int.eq_ofNat_of_zero_le h0
 rw [Int.toNat_natCast]
 have h : n < 18446744073709551616 ∧ hi < 18446744073709551616 ∧ lo < 18446744073709551616 ∧ k < 64 := ⟨by omega, hhi, hlo, hk⟩
 unfold usc
 rw [dif_pos h]
 exact (Classical.choose_spec (uscale_ex n hi lo k h.1 h.2.1 h.2.2.1 h.2.2.2)).2 g w hg
set_option maxHeartbeats 8000000
theorem wrap_U64 (x : Int) : U64 (IntKind.u64.wrap x) := by unfold U64; rw [IntKind.wrap_u64]; omega
theorem nudge_c (x k : Int) (w : World) : Calls Tryz.prog 244 #[.int .u64 x, .int .i64 k] w fun e w' => e = .returned (.int .u64 (IntKind.u64.wrap (x + IntKind.u64.wrap k))) ∧ w = w' := by
 obtain ⟨r, hr, h⟩ := nudge_any x k w
 rw [← hr]
 exact h
def pHi (p : Int) : Nat := (Go.Pinned.pow10Rows.getD (p + 348).toNat (0, 0)).1
def pLo (p : Int) : Nat := (Go.Pinned.pow10Rows.getD (p + 348).toNat (0, 0)).2
theorem rows_fit : (Go.Pinned.pow10Rows.all fun x => decide (x.1 < 18446744073709551616) && decide (x.2 < 18446744073709551616)) = true := by decide +kernel
theorem pHi_lt (p : Int) : pHi p < 18446744073709551616 ∧ pLo p < 18446744073709551616 := by
 unfold pHi pLo
 rw [List.getD_eq_getElem?_getD]
 cases h : Go.Pinned.pow10Rows[(p + 348).toNat]? with
 | none => simp
 | some x =>
  have := List.all_eq_true.1 rows_fit x (List.mem_of_getElem? h)
  simpa using this
theorem pTab.below {B : Nat} {w w' : World} (h : pTab w) (hb : Below B w w') (hB : 16 ≤ B) : pTab w' := fun i hi =>
 ⟨(hb.cell (p := ⟨15, 2 * i, none⟩) (by simp; omega)).trans (h i hi).1, (hb.cell (p := ⟨15, 2 * i + 1, none⟩) (by simp; omega)).trans (h i hi).2⟩
theorem below_al (w : World) (x : Obj) : Below w.heap.size w (w.alloc x) := Joins.below_alloc1 _ _
def sfD (dn dx rm : Int) : Int := if dn ≤ dx / 10 * 10 then dx / 10 else if dn < dx then rm else dn
def sfP (dn dx q : Int) : Int := if dn ≤ dx / 10 * 10 then -(-q - 1) else q
theorem and1 (a : Int) (h0 : 0 ≤ a) (h1 : a < 4611686018427387904) : bits .and .i64 a 1 = a % 2 := by
 have := bits_mask .i64 62 (by decide) wraps62 1 (by decide) a h0 (by omega)
 rw [show (2 : Int) ^ 1 - 1 = 1 from rfl, show (2 : Int) ^ 1 = 2 from rfl] at this
 exact this
theorem quarter (x : Int) : 0 ≤ IntKind.u64.wrap x / 4 ∧ IntKind.u64.wrap x / 4 ≤ 4611686018427387903 := by rw [IntKind.wrap_u64]; omega
theorem short_normal (m e q l od dn dx : Int) (k : Nat) (hm0 : 9223372036854775808 ≤ m) (hm1 : m ≤ 18446744073709549568) (he : -1085 ≤ e) (he1 : e ≤ 1000) (hne : ¬ (m = 9223372036854775808 ∧ -1085 < e)) (hq : (e + 11) * 78913 / 262144 = q)
  (hl : -q * 108853 / 32768 = l) (hk : (k : Int) = -(e + l + 3)) (hod : bits .and .i64 (m / 2048) 1 = od) (ho : 0 ≤ od ∧ od ≤ 1)
  (hdn : IntKind.u64.wrap (IntKind.u64.wrap (usc (m - 1024).toNat (pHi (-q)) (pLo (-q)) k + od) + 3) / 4 = dn)
  (hdx : IntKind.u64.wrap (usc (m + 1024).toNat (pHi (-q)) (pLo (-q)) k + IntKind.u64.wrap (-od)) / 4 = dx)
  (w : World) (h17 : 17 ≤ w.heap.size) (hT : pTab w) :
  Calls Tryz.prog 210 #[.int .u64 m, .int .i64 e] w fun en w' => en = .returned (.tuple #[.int .u64 (sfD dn dx (roundU (usc m.toNat (pHi (-q)) (pLo (-q)) k))), .int .i64 (sfP dn dx q)]) ∧ Below w.heap.size w w' := by
 have hp0 : -348 ≤ -q := by omega
 have hp1 : -q ≤ 347 := by omega
 have hk64 : k < 64 := by omega
 have l0 : -5000 ≤ l := by omega
 have l1 : l ≤ 5000 := by omega
 have bn : 0 ≤ dn ∧ dn ≤ 4611686018427387903 := by rw [← hdn]; exact quarter _
 have bx : 0 ≤ dx ∧ dx ≤ 4611686018427387903 := by rw [← hdx]; exact quarter _
 obtain ⟨bn0, bn1⟩ := bn
 obtain ⟨bx0, bx1⟩ := bx
 obtain ⟨ho0, ho1⟩ := ho
 have HB := LH (below_al w (.cells #[.int .u64 0, .int .u64 0, .int .i64 0] 306))
 have HT := LH (hT.below HB.out (by omega))
 have HG := LH (heap_alloc_new w (.cells #[.int .u64 0, .int .u64 0, .int .i64 0] 306))
 have HQ := LH hq
 have HL := LH hl
 have HK := LH hk
 have HDN := LH hdn
 have HDX := LH hdx
 obtain ⟨rm, hrm⟩ : ∃ rm, roundU (usc m.toNat (pHi (-q)) (pLo (-q)) k) = rm := ⟨_, rfl⟩
 rw [hrm]
 have HRM := LH hrm
 have hge : ¬ e < -1085 := by omega
 obtain ⟨b, hb⟩ : ∃ b, (m == 9223372036854775808) = b := ⟨_, rfl⟩
 have hg : b = true → decide (-1085 < e) = false := by intro h; subst h; have h3 : ¬ -1085 < e := fun h2 => hne ⟨by simpa using hb, h2⟩; simp; omega
 clear hne
 clear hq hl hk hT hdn hdx hrm
 cases b
 all_goals
  try (have hg2 := hg rfl)
  clear hg
  go_enter Tryz.func210, Tryz.ntmps210
  go_wp2_with (first | (go_at_call 138; refine (log10_any _ _ (by omega) (by omega)).mono ?_; rintro en w' ⟨rfl, rfl⟩; rw [HQ.out]) | (go_at_call 242; refine (log2_any _ _ (by omega) (by omega)).mono ?_; rintro en w' ⟨rfl, rfl⟩; rw [HL.out]))
  refine (prescale_any w.heap.size e l (-q) _ _ _ _ HG.out (by omega) ⟨hp0, hp1⟩ HT.out ⟨by omega, by omega⟩ ⟨l0, l1⟩).mono ?_
  rintro en w1 ⟨rfl, hg1, hb1⟩
  rw [← HK.out] at hg1
  have HG1 := LH (show w1.heap[w.heap.size]? = some (.cells #[.int .u64 (pHi (-q) : Int), .int .u64 (pLo (-q) : Int), .int .i64 (k : Int)] 306 (0, 0)) from hg1)
  have HB1 := LH (HB.out.trans (hb1.mono (Nat.le_refl _)))
  clear hg1 hb1
  go_wp2_with (first | (go_at_call 243; refine (uscale_any _ _ _ _ (by first | exact wrap_U64 _ | (unfold U64; omega)) (pHi_lt _).1 (pHi_lt _).2 hk64 w.heap.size _ (by exact HG1.out)).mono ?_; rintro en w' ⟨rfl, n1, rfl⟩) | (go_at_call 244; refine (nudge_c _ _ _).mono ?_; rintro en w' ⟨rfl, rfl⟩) | (go_at_call 245; refine (ceil_any _ _).mono ?_; rintro en w' ⟨rfl, rfl⟩; rw [HDN.out]) | (go_at_call 246; refine (floor_any _ _ (wrap_U64 _)).mono ?_; rintro en w' ⟨rfl, rfl⟩; rw [HDX.out]) | (go_at_call 247; refine (round_any _ _ (usc_u64 _ _ _ _)).mono ?_; rintro en w' ⟨rfl, rfl⟩; rw [HRM.out]))
  all_goals go_ret2
  all_goals refine ⟨?_, HB1.out.trans ⟨rfl, rfl, rfl, Nat.le_refl _, fun _ _ => rfl⟩⟩
  all_goals unfold sfD sfP
  all_goals first | (have c1 : dn ≤ dx / 10 * 10 := (by omega); rw [if_pos c1, if_pos c1]; all_goals rfl) | (have c1 : ¬ dn ≤ dx / 10 * 10 := (by omega); have c2 : dn < dx := (by omega); rw [if_neg c1, if_neg c1, if_pos c2]; all_goals rfl) | (have c1 : ¬ dn ≤ dx / 10 * 10 := (by omega); have c2 : ¬ dn < dx := (by omega); rw [if_neg c1, if_neg c1, if_neg c2]; all_goals rfl)
theorem short_edge (m e q l od dn dx : Int) (k : Nat) (hm0 : 9223372036854775808 ≤ m) (hm1 : m ≤ 18446744073709549568) (he : -1085 < e) (he1 : e ≤ 1000) (hme : m = 9223372036854775808) (hq : ((e + 11) * 631305 - 261663) / 2097152 = q)
  (hl : -q * 108853 / 32768 = l) (hk : (k : Int) = -(e + l + 3)) (hod : bits .and .i64 (m / 2048) 1 = od) (ho : 0 ≤ od ∧ od ≤ 1)
  (hdn : IntKind.u64.wrap (IntKind.u64.wrap (usc (m - 512).toNat (pHi (-q)) (pLo (-q)) k + od) + 3) / 4 = dn)
  (hdx : IntKind.u64.wrap (usc (m + 1024).toNat (pHi (-q)) (pLo (-q)) k + IntKind.u64.wrap (-od)) / 4 = dx)
  (w : World) (h17 : 17 ≤ w.heap.size) (hT : pTab w) :
  Calls Tryz.prog 210 #[.int .u64 m, .int .i64 e] w fun en w' => en = .returned (.tuple #[.int .u64 (sfD dn dx (roundU (usc m.toNat (pHi (-q)) (pLo (-q)) k))), .int .i64 (sfP dn dx q)]) ∧ Below w.heap.size w w' := by
 have hp0 : -348 ≤ -q := by omega
 have hp1 : -q ≤ 347 := by omega
 have hk64 : k < 64 := by omega
 have l0 : -5000 ≤ l := by omega
 have l1 : l ≤ 5000 := by omega
 have bn : 0 ≤ dn ∧ dn ≤ 4611686018427387903 := by rw [← hdn]; exact quarter _
 have bx : 0 ≤ dx ∧ dx ≤ 4611686018427387903 := by rw [← hdx]; exact quarter _
 obtain ⟨bn0, bn1⟩ := bn
 obtain ⟨bx0, bx1⟩ := bx
 obtain ⟨ho0, ho1⟩ := ho
 have HB := LH (below_al w (.cells #[.int .u64 0, .int .u64 0, .int .i64 0] 306))
 have HT := LH (hT.below HB.out (by omega))
 have HG := LH (heap_alloc_new w (.cells #[.int .u64 0, .int .u64 0, .int .i64 0] 306))
 have HQ := LH hq
 have HL := LH hl
 have HK := LH hk
 have HDN := LH hdn
 have HDX := LH hdx
 obtain ⟨rm, hrm⟩ : ∃ rm, roundU (usc m.toNat (pHi (-q)) (pLo (-q)) k) = rm := ⟨_, rfl⟩
 rw [hrm]
 have HRM := LH hrm
 have hb : (m == 9223372036854775808) = true := by simpa using hme
 have HME := LH hme
 clear hme
 clear hq hl hk hT hdn hdx hrm
 go_enter Tryz.func210, Tryz.ntmps210
 go_wp2_with (first | (go_at_call 240; refine (skewed_any _ _ (by omega) (by omega)).mono ?_; rintro en w' ⟨rfl, rfl⟩; rw [HQ.out]) | (go_at_call 242; refine (log2_any _ _ (by omega) (by omega)).mono ?_; rintro en w' ⟨rfl, rfl⟩; rw [HL.out]))
 refine (prescale_any w.heap.size e l (-q) _ _ _ _ HG.out (by omega) ⟨hp0, hp1⟩ HT.out ⟨by omega, by omega⟩ ⟨l0, l1⟩).mono ?_
 rintro en w1 ⟨rfl, hg1, hb1⟩
 rw [← HK.out] at hg1
 have HG1 := LH (show w1.heap[w.heap.size]? = some (.cells #[.int .u64 (pHi (-q) : Int), .int .u64 (pLo (-q) : Int), .int .i64 (k : Int)] 306 (0, 0)) from hg1)
 have HB1 := LH (HB.out.trans (hb1.mono (Nat.le_refl _)))
 clear hg1 hb1
 go_wp2_with (first | (go_at_call 243; refine (uscale_any _ _ _ _ (by first | exact wrap_U64 _ | (unfold U64; omega)) (pHi_lt _).1 (pHi_lt _).2 hk64 w.heap.size _ (by exact HG1.out)).mono ?_; rintro en w' ⟨rfl, n1, rfl⟩) | (go_at_call 244; refine (nudge_c _ _ _).mono ?_; rintro en w' ⟨rfl, rfl⟩) | (go_at_call 245; refine (ceil_any _ _).mono ?_; rintro en w' ⟨rfl, rfl⟩; rw [HDN.out]) | (go_at_call 246; refine (floor_any _ _ (wrap_U64 _)).mono ?_; rintro en w' ⟨rfl, rfl⟩; rw [HDX.out]) | (go_at_call 247; refine (round_any _ _ (usc_u64 _ _ _ _)).mono ?_; rintro en w' ⟨rfl, rfl⟩; rw [HRM.out]))
 all_goals go_ret2
 all_goals refine ⟨?_, HB1.out.trans ⟨rfl, rfl, rfl, Nat.le_refl _, fun _ _ => rfl⟩⟩
 all_goals unfold sfD sfP
 all_goals first | (have c1 : dn ≤ dx / 10 * 10 := (by omega); rw [if_pos c1, if_pos c1]; all_goals rfl) | (have c1 : ¬ dn ≤ dx / 10 * 10 := (by omega); have c2 : dn < dx := (by omega); rw [if_neg c1, if_neg c1, if_pos c2]; all_goals rfl) | (have c1 : ¬ dn ≤ dx / 10 * 10 := (by omega); have c2 : ¬ dn < dx := (by omega); rw [if_neg c1, if_neg c1, if_neg c2]; all_goals rfl)
theorem short_low (m e q l od dn dx : Int) (k : Nat) (hm0 : 9223372036854775808 ≤ m) (hm1 : m ≤ 18446744073709549568) (z y : Nat) (v : Int) (hz : -1074 - e = (z : Int)) (hy : (z : Int) - 1 = (y : Int)) (hz0 : 12 ≤ z) (hz1 : z ≤ 63) (hv : (2 : Int) ^ y = v) (hv0 : 1 ≤ v) (hv1 : v ≤ 4611686018427387904) (mz : Int) (hmz : m / 2 ^ z = mz) (hmz0 : 0 ≤ mz) (hmz1 : mz ≤ 4611686018427387903) (hq : -1074 * 78913 / 262144 = q)
  (hl : -q * 108853 / 32768 = l) (hk : (k : Int) = -(e + l + 3)) (hod : bits .and .i64 (mz) 1 = od) (ho : 0 ≤ od ∧ od ≤ 1)
  (hdn : IntKind.u64.wrap (IntKind.u64.wrap (usc (m - v).toNat (pHi (-q)) (pLo (-q)) k + od) + 3) / 4 = dn)
  (hdx : IntKind.u64.wrap (usc (IntKind.u64.wrap (m + v)).toNat (pHi (-q)) (pLo (-q)) k + IntKind.u64.wrap (-od)) / 4 = dx)
  (w : World) (h17 : 17 ≤ w.heap.size) (hT : pTab w) :
  Calls Tryz.prog 210 #[.int .u64 m, .int .i64 e] w fun en w' => en = .returned (.tuple #[.int .u64 (sfD dn dx (roundU (usc m.toNat (pHi (-q)) (pLo (-q)) k))), .int .i64 (sfP dn dx q)]) ∧ Below w.heap.size w w' := by
 have hp0 : -348 ≤ -q := by omega
 have hp1 : -q ≤ 347 := by omega
 have hk64 : k < 64 := by omega
 have l0 : -5000 ≤ l := by omega
 have l1 : l ≤ 5000 := by omega
 have bn : 0 ≤ dn ∧ dn ≤ 4611686018427387903 := by rw [← hdn]; exact quarter _
 have bx : 0 ≤ dx ∧ dx ≤ 4611686018427387903 := by rw [← hdx]; exact quarter _
 obtain ⟨bn0, bn1⟩ := bn
 obtain ⟨bx0, bx1⟩ := bx
 obtain ⟨ho0, ho1⟩ := ho
 have HB := LH (below_al w (.cells #[.int .u64 0, .int .u64 0, .int .i64 0] 306))
 have HT := LH (hT.below HB.out (by omega))
 have HG := LH (heap_alloc_new w (.cells #[.int .u64 0, .int .u64 0, .int .i64 0] 306))
 have HQ := LH hq
 have HL := LH hl
 have HK := LH hk
 have HDN := LH hdn
 have HDX := LH hdx
 obtain ⟨rm, hrm⟩ : ∃ rm, roundU (usc m.toNat (pHi (-q)) (pLo (-q)) k) = rm := ⟨_, rfl⟩
 rw [hrm]
 have HRM := LH hrm
 have e0 : e < -1085 := by omega
 have e1 : -1140 ≤ e := by omega
 have z1 : 11 + (-1085 - e) = (z : Int) := by omega
 have z2 : e + (z : Int) = -1074 := by omega
 have hne : decide (-1085 < e) = false := by simp; omega
 obtain ⟨b, hb⟩ : ∃ b, (m == 9223372036854775808) = b := ⟨_, rfl⟩
 have HZ := LH hz
 have HQ2 : q = -324 := by omega
 clear hz
 have HQ3 := LH HQ2; clear HQ2 hq hl hk hT hdn hdx hrm
 cases b
 all_goals
  go_enter Tryz.func210, Tryz.ntmps210
  go_wp2_with (first | (go_at_call 138; refine (log10_any _ _ (by omega) (by omega)).mono ?_; rintro en w' ⟨rfl, rfl⟩; rw [HQ.out]) | (go_at_call 242; refine (log2_any _ _ (by omega) (by omega)).mono ?_; rintro en w' ⟨rfl, rfl⟩; rw [HL.out]))
  refine (prescale_any w.heap.size e l (-q) _ _ _ _ HG.out (by omega) ⟨hp0, hp1⟩ HT.out ⟨by omega, by omega⟩ ⟨l0, l1⟩).mono ?_
  rintro en w1 ⟨rfl, hg1, hb1⟩
  rw [← HK.out] at hg1
  have HG1 := LH (show w1.heap[w.heap.size]? = some (.cells #[.int .u64 (pHi (-q) : Int), .int .u64 (pLo (-q) : Int), .int .i64 (k : Int)] 306 (0, 0)) from hg1)
  have HB1 := LH (HB.out.trans (hb1.mono (Nat.le_refl _)))
  clear hg1 hb1
  go_wp2_with (first | (go_at_call 243; refine (uscale_any _ _ _ _ (by first | exact wrap_U64 _ | (unfold U64; omega)) (pHi_lt _).1 (pHi_lt _).2 hk64 w.heap.size _ (by exact HG1.out)).mono ?_; rintro en w' ⟨rfl, n1, rfl⟩) | (go_at_call 244; refine (nudge_c _ _ _).mono ?_; rintro en w' ⟨rfl, rfl⟩) | (go_at_call 245; refine (ceil_any _ _).mono ?_; rintro en w' ⟨rfl, rfl⟩; rw [HDN.out]) | (go_at_call 246; refine (floor_any _ _ (wrap_U64 _)).mono ?_; rintro en w' ⟨rfl, rfl⟩; rw [HDX.out]) | (go_at_call 247; refine (round_any _ _ (usc_u64 _ _ _ _)).mono ?_; rintro en w' ⟨rfl, rfl⟩; rw [HRM.out]))
  all_goals go_ret2
  all_goals refine ⟨?_, HB1.out.trans ⟨rfl, rfl, rfl, Nat.le_refl _, fun _ _ => rfl⟩⟩
  all_goals unfold sfD sfP
  all_goals first | (have c1 : dn ≤ dx / 10 * 10 := (by omega); rw [if_pos c1, if_pos c1]; all_goals rfl) | (have c1 : ¬ dn ≤ dx / 10 * 10 := (by omega); have c2 : dn < dx := (by omega); rw [if_neg c1, if_neg c1, if_pos c2]; all_goals rfl) | (have c1 : ¬ dn ≤ dx / 10 * 10 := (by omega); have c2 : ¬ dn < dx := (by omega); rw [if_neg c1, if_neg c1, if_neg c2]; all_goals rfl)
theorem sfD_u64 (dn dx : Int) (u : Int) (h1 : U64 dn) (h2 : U64 dx) : U64 (sfD dn dx (roundU u)) := by
 have := quarter (IntKind.u64.wrap (u + 1) + bits .and .u64 (u / 4) 1)
 unfold U64 at *
 unfold sfD roundU
 repeat' split
 all_goals omega
theorem sfP_bd (dn dx q : Int) (h : -350 ≤ q ∧ q ≤ 350) : -400 ≤ sfP dn dx q ∧ sfP dn dx q ≤ 400 := by
 unfold sfP
 split
 all_goals omega
theorem q64 (x : Int) : U64 (IntKind.u64.wrap x / 4) := by have := quarter x; unfold U64; omega
theorem short_ex (m e : Int) (hm0 : 9223372036854775808 ≤ m) (hm1 : m ≤ 18446744073709549568) (he : -1137 ≤ e) (he1 : e ≤ 1000) :
  ∃ d p : Int, U64 d ∧ (-400 ≤ p ∧ p ≤ 400) ∧ ∀ w : World, 17 ≤ w.heap.size → pTab w → Calls Tryz.prog 210 #[.int .u64 m, .int .i64 e] w fun en w' => en = .returned (.tuple #[.int .u64 d, .int .i64 p]) ∧ Below w.heap.size w w' := by
 have ho : bits .and .i64 (m / 2048) 1 = m / 2048 % 2 := and1 _ (by omega) (by omega)
 by_cases h1 : m = 9223372036854775808 ∧ -1085 < e
 ·obtain ⟨q, hq⟩ : ∃ q, ((e + 11) * 631305 - 261663) / 2097152 = q := ⟨_, rfl⟩
  obtain ⟨l, hl⟩ : ∃ l, -q * 108853 / 32768 = l := ⟨_, rfl⟩
  refine ⟨_, _, sfD_u64 _ _ _ (q64 _) (q64 _), sfP_bd _ _ q (by omega), fun w h17 hT => short_edge m e q l (m / 2048 % 2) _ _ (-(e + l + 3)).toNat hm0 hm1 h1.2 he1 h1.1 hq hl (by omega) ho (by omega) rfl rfl w h17 hT⟩
 ·by_cases h2 : -1085 ≤ e
  ·obtain ⟨q, hq⟩ : ∃ q, (e + 11) * 78913 / 262144 = q := ⟨_, rfl⟩
   obtain ⟨l, hl⟩ : ∃ l, -q * 108853 / 32768 = l := ⟨_, rfl⟩
   refine ⟨_, _, sfD_u64 _ _ _ (q64 _) (q64 _), sfP_bd _ _ q (by omega), fun w h17 hT => short_normal m e q l (m / 2048 % 2) _ _ (-(e + l + 3)).toNat hm0 hm1 h2 he1 h1 hq hl (by omega) ho (by omega) rfl rfl w h17 hT⟩
  ·obtain ⟨z, hz⟩ : ∃ z : Nat, -1074 - e = (z : Int) := ⟨(-1074 - e).toNat, by omega⟩
   obtain ⟨y, hy⟩ : ∃ y : Nat, (z : Int) - 1 = (y : Int) := ⟨z - 1, by omega⟩
   obtain ⟨q, hq⟩ : ∃ q : Int, (-1074 : Int) * 78913 / 262144 = q := ⟨_, rfl⟩
   obtain ⟨l, hl⟩ : ∃ l, -q * 108853 / 32768 = l := ⟨_, rfl⟩
   have p1 : 1 ≤ 2 ^ y := Nat.one_le_two_pow
   have p2 : 2 ^ y ≤ 2 ^ 62 := Nat.pow_le_pow_right (by omega) (by omega)
   have p3 : ((2 ^ y : Nat) : Int) = (2 : Int) ^ y := by simp
   have p4 : 2 ^ 12 ≤ 2 ^ z := Nat.pow_le_pow_right (by omega) (by omega)
   have p5 : ((2 ^ z : Nat) : Int) = (2 : Int) ^ z := by simp
   have m0 : 0 ≤ m / 2 ^ z := Int.ediv_nonneg (by omega) (by omega)
   have m1 : m / 2 ^ z < 4611686018427387903 := Int.ediv_lt_of_lt_mul (by omega) (by rw [← p5]; omega)
   refine ⟨_, _, sfD_u64 _ _ _ (q64 _) (q64 _), sfP_bd _ _ q (by omega), fun w h17 hT => short_low m e q l (m / 2 ^ z % 2) _ _ (-(e + l + 3)).toNat hm0 hm1 z y _ hz hy (by omega) (by omega) rfl (by omega) (by omega) _ rfl m0 (by omega) hq hl (by omega) (and1 _ m0 (by omega)) (by omega) rfl rfl w h17 hT⟩
open Go.RowKit Go.Sort
def tlen (l : List UInt8) : Nat → Nat
 | 0 => 0
 | n + 1 => if (l.getD n 0).toNat = 48 then tlen l n else n + 1
theorem tlen_le (l : List UInt8) : ∀ n, tlen l n ≤ n
 | 0 => Nat.le_refl _
 | n + 1 => by
  unfold tlen
  split
  ·have := tlen_le l n; omega
  ·omega
theorem heap_mapBlock_ne (w : World) (b : Nat) (f : Array Value → Array Value) (j : Nat) (h : j ≠ b) : (mapBlock w b f).heap[j]? = w.heap[j]? := by
 unfold mapBlock
 simp [Array.getElem?_modify, Ne.symm h]
theorem heap_mapBlock_at (w : World) (b : Nat) (f : Array Value → Array Value) {cs : Array Value} {t : TypeId} {fr : Nat × Nat} (h : w.heap[b]? = some (.cells cs t fr)) : ∃ cs', (mapBlock w b f).heap[b]? = some (.cells cs' t fr) := by
 refine ⟨f cs, ?_⟩
 unfold mapBlock
 simp [Array.getElem?_modify, h, onCells]
theorem setDigits_pos (d : Nat) (hd : 1 ≤ d) (hd2 : d < 18446744073709551616) (p : Int) (hp : -400 ≤ p ∧ p ≤ 400) (g : Nat) (w : World) (hc : ∀ j, j < 32 → w.cell? ⟨g, j, none⟩ = some (.int .u8 0) ∧ w.frozen? ⟨g, j, none⟩ = false) {cs : Array Value} {t : TypeId} {fr : Nat × Nat} (htag : w.heap[g]? = some (.cells cs t fr)) :
  Calls Tryz.prog 205 #[.slice (some ⟨g, 0, none⟩) 32 32, .int .u64 (d : Int), .int .i64 p, .int .i64 (Lib.nDigits d : Int)] w fun e w' => e = .returned (.tuple #[.int .i64 ((Lib.nDigits d : Int) + p), .int .i64 (tlen (Lib.decDigits d) (Lib.nDigits d) : Nat)]) ∧ Below g w w' ∧ (∃ cs', w'.heap[g]? = some (.cells cs' t fr)) ∧
   ∀ (j : Nat) (b : UInt8), (Lib.decDigits d)[j]? = some b → w'.cell? ⟨g, j, none⟩ = some (.int .u8 (b.toNat : Int)) := by
 obtain ⟨p0, p1⟩ := hp
 have hnd : Lib.nDigits d ≤ 20 := by have := Lib.numDigits_eq d hd hd2; split at this <;> omega
 have hH0 : Holds (fun (b : UInt8) => Value.int .u8 (b.toNat : Int)) w g 0 (Array.replicate (Lib.nDigits d) 0) := by
  intro j hj
  rw [Array.size_replicate] at hj
  rw [Nat.zero_add]
  have := hc j (by omega)
  refine ⟨?_, this.2⟩
  rw [this.1]
  simp [hj]
 have hfmt := Tryz.internal_strconv_formatBase10 g 0 32 d (Array.replicate (Lib.nDigits d) 0) w hH0 (by rw [Array.size_replicate]; exact Lib.lt_pow_nDigits d) hd2 (by rw [Array.size_replicate]; omega)
 rw [Array.size_replicate] at hfmt
 have HFM := LH hfmt
 have HH0 := LH hH0
 have hl := Lib.decDigits_length d
 obtain ⟨n, hn⟩ : ∃ n, Lib.nDigits d = n := ⟨_, rfl⟩
 rw [hn] at HFM HH0 hnd hl ⊢
 have HN := LH hn
 have HL := LH hl
 clear hfmt hH0 hn hl hc
 go_enter Tryz.func205, Tryz.ntmps205
 go_wp2_with (go_at_call 91; refine HFM.out.mono ?_; rintro e w1 ⟨rfl, k, v', dk, rfl, hF⟩; have HF := LH hF; clear hF)
 have hcell : ∀ (j : Nat) (b : UInt8), (Lib.decDigits d)[j]? = some b → ((putRow (fun (b : UInt8) => Value.int .u8 (b.toNat : Int)) w g 0 dk).drewN k).cell? ⟨g, j, none⟩ = some (.int .u8 (b.toNat : Int)) := by
  intro j b hj
  have hlt : j < (Lib.decDigits d).length := (List.getElem?_eq_some_iff.1 hj).1
  have hF := HF.out
  have h2 := cell?_putRow (fun (b : UInt8) => Value.int .u8 (b.toNat : Int)) w g 0 _ dk HH0.out (by rw [hF.size, Array.size_replicate]) j (by rw [hF.size]; rw [HL.out] at hlt; exact hlt)
  rw [Nat.zero_add] at h2
  rw [World.cell?_drewN, h2]
  have h3 := Lib.row_is_numeral (u := d) (v' := v') (dk := dk) (by rw [HN.out]; exact hF) j hlt
  rw [List.getElem?_eq_getElem hlt, Option.some.injEq] at hj
  rw [← h3, hj]
 have hbelow : Below g w ((putRow (fun (b : UInt8) => Value.int .u8 (b.toNat : Int)) w g 0 dk).drewN k) := by
  refine ⟨rfl, rfl, rfl, by show _ ≤ (putRow _ _ _ _ _).heap.size; rw [size_putRow]; exact Nat.le_refl _, fun j hj => ?_⟩
  exact heap_mapBlock_ne w g _ j (by omega)
 have htg : ∃ cs', ((putRow (fun (b : UInt8) => Value.int .u8 (b.toNat : Int)) w g 0 dk).drewN k).heap[g]? = some (.cells cs' t fr) := heap_mapBlock_at w g _ htag
 generalize ((putRow (fun (b : UInt8) => Value.int .u8 (b.toNat : Int)) w g 0 dk).drewN k) = W at hcell hbelow htg ⊢
 have HTG := LH htg
 clear htg htag
 have HC := LH hcell
 have HB := LH hbelow
 clear hcell hbelow HF
 go_wp2
 go_loop [3] (fun v => ∃ m : Nat, v = .int .i64 m ∧ m ≤ n ∧ Hid (tlen (Lib.decDigits d) m = tlen (Lib.decDigits d) n)) (fun v => (intOf v).toNat)
 case atStart => exact ⟨n, rfl, Nat.le_refl _, rfl⟩
 case round =>
  obtain ⟨m, rfl, hmn, HT⟩ := hrel
  by_cases h0 : m = 0
  ·subst h0
   go_wp2
   go_ret2
   exact ⟨by rw [← HT.out]; rfl, HB.out, HTG.out, HC.out⟩
  ·obtain ⟨m, rfl⟩ : ∃ j, m = j + 1 := ⟨m - 1, by omega⟩
   obtain ⟨b, hb⟩ : ∃ b, (Lib.decDigits d)[m]? = some b := ⟨_, List.getElem?_eq_getElem (by rw [HL.out]; omega)⟩
   have c0 := HC.out m b hb
   have hgd : (Lib.decDigits d).getD m 0 = b := by rw [List.getD_eq_getElem?_getD, hb]; rfl
   have ht : tlen (Lib.decDigits d) (m + 1) = if b.toNat = 48 then tlen (Lib.decDigits d) m else m + 1 := by rw [tlen, hgd]
   obtain ⟨x, hx⟩ : ∃ x, b.toNat = x := ⟨_, rfl⟩
   rw [hx] at c0 ht
   have HT2 := LH ht
   clear hb hgd ht hx h0
   by_cases h48 : x = 48
   ·have hb48 : ((x : Int) == 48) = true := by simp; omega
    have HX := LH h48
    clear h48
    go_wp2
    go_round
    case rel => exact ⟨m, by go_num, by omega, by have h1 := HT.out; rw [HT2.out, if_pos HX.out] at h1; exact h1⟩
    case measure => simp [intOf]
   ·have hb48 : ((x : Int) == 48) = false := by simp; omega
    have HX := LH h48
    clear h48
    go_wp2
    go_ret2
    exact ⟨by rw [← HT.out, HT2.out, if_neg HX.out]; rfl, HB.out, HTG.out, HC.out⟩
theorem setDigits_zero (p : Int) (hp : -400 ≤ p ∧ p ≤ 400) (g : Nat) (w : World) {cs : Array Value} {t : TypeId} {fr : Nat × Nat} (htag : w.heap[g]? = some (.cells cs t fr)) :
  Calls Tryz.prog 205 #[.slice (some ⟨g, 0, none⟩) 32 32, .int .u64 0, .int .i64 p, .int .i64 0] w fun e w' => e = .returned (.tuple #[.int .i64 p, .int .i64 0]) ∧ Below g w w' ∧ (∃ cs', w'.heap[g]? = some (.cells cs' t fr)) := by
 obtain ⟨p0, p1⟩ := hp
 have hfmt := Tryz.internal_strconv_formatBase10 g 0 32 0 #[] w (fun j hj => absurd hj (by simp)) (by simp) (by omega) (by simp)
 have HFM := LH hfmt
 clear hfmt
 go_enter Tryz.func205, Tryz.ntmps205
 go_wp2_with (go_at_call 91; refine HFM.out.mono ?_; rintro e w1 ⟨rfl, k, v', dk, rfl, hF⟩; clear hF)
 have hbelow : Below g w ((putRow (fun (b : UInt8) => Value.int .u8 (b.toNat : Int)) w g 0 dk).drewN k) := by
  refine ⟨rfl, rfl, rfl, by show _ ≤ (putRow _ _ _ _ _).heap.size; rw [size_putRow]; exact Nat.le_refl _, fun j hj => ?_⟩
  exact heap_mapBlock_ne w g _ j (by omega)
 have htg : ∃ cs', ((putRow (fun (b : UInt8) => Value.int .u8 (b.toNat : Int)) w g 0 dk).drewN k).heap[g]? = some (.cells cs' t fr) := heap_mapBlock_at w g _ htag
 generalize ((putRow (fun (b : UInt8) => Value.int .u8 (b.toNat : Int)) w g 0 dk).drewN k) = W at hbelow htg ⊢
 have HTG := LH htg
 clear htg htag
 have HB := LH hbelow
 clear hbelow HFM
 go_wp2
 refine wp_loop_rounds 1 ?_
 rw [rounds_succ]
 go_wp2
 go_ret2
 exact ⟨rfl, HB.out, HTG.out⟩
theorem len64_0 (w : World) : Calls Tryz.prog 139 #[.int .u64 0] w fun e w' => e = .returned (.int .i64 0) ∧ w = w' := by
 have := Tryz.bits_Len64 0 w (by omega) (by omega)
 exact this.mono fun e w' h => ⟨h.1.trans (congrArg (fun n : Nat => Ending.returned (.int .i64 (n : Int))) (show Lib.bitLen (Int.toNat 0) = 0 by decide +kernel)), h.2.symm⟩
theorem numDigits_zero (w : World) (hT : TabC w) : Calls Tryz.prog 90 #[.int .u64 0] w fun e w' => e = .returned (.int .i64 0) ∧ w' = w := by
 have c0 : w.cell? ⟨2, 0, none⟩ = some (.int .u64 1) := hT.p10.cell global_pow10 0 (by decide)
 clear hT
 go_enter Tryz.func90, Tryz.ntmps90
 go_wp2_with (first | (go_at_call 139; refine (len64_0 _).mono ?_; rintro e w' ⟨rfl, rfl⟩) | (go_at_call 138; refine (log10_any _ _ (by omega) (by omega)).mono ?_; rintro e w' ⟨rfl, rfl⟩) | (go_at_call 140; refine (Tryz.internal_strconv_bool2_int _ _).mono ?_; rintro e w' ⟨rfl, rfl⟩))
 go_ret
 exact ⟨rfl, rfl⟩
set_option maxHeartbeats 8000000
theorem u8z {z : Int} (h0 : 0 ≤ z) (h1 : z < 256) : z = ((UInt8.ofNat z.toNat).toNat : Int) := by
 simp
 omega
theorem ob_three {ops : Array Oper} {rest : List Oper} {o : Oper} {a : Act} {Q : Exit → Act → World → Prop} (hgd : o.guard = none) (s x : Operand)
  (ho : o.op = .call { callee := .builtin .append, args := #[s, x], argTypes := #[23, 23] })
  {B : Nat} {v : Value} {l : List UInt8} (hs : a.eval s = v) {W0 w0 : World} (c d e : UInt8) (z y u : Int) (hz : z = (c.toNat : Int)) (hy : y = (d.toNat : Int)) (hu : u = (e.toNat : Int)) (hb : OB B v l W0 w0)
  (hx : a.eval x = .slice (some ⟨w0.heap.size, 0, none⟩) 3 3) (hlen : l.length + 3 ≤ 140737488355328)
  (h : ∀ v' w', OB B v' (l ++ [c, d, e]) W0 w' → wpList Tryz.prog ops Q rest (a.put o.dst v') w') : wpList Tryz.prog ops Q (o :: rest) a (w0.alloc (.cells #[.int .u8 z, .int .u8 y, .int .u8 u] 5)) := by
 subst hz
 subst hy
 subst hu
 refine ob_slice hgd s x ho hs (hb.alloc _) [c, d, e] rfl hx ?_ hlen (fun v' w' hb' _ => h v' w' hb')
 intro j b hj
 rw [addr0, blk_cell (heap_alloc_new w0 _)]
 match j, hj with
 | 0, hj => simp at hj; subst hj; rfl
 | 1, hj => simp at hj; subst hj; rfl
 | 2, hj => simp at hj; subst hj; rfl
 | j + 3, hj => simp at hj
def chz (z : Int) : UInt8 := UInt8.ofNat z.toNat
def expoL (x : Int) : List UInt8 := if x < 10 then [48, chz (x + 48)] else if x < 100 then [chz (x / 10 + 48), chz (x % 10 + 48)] else [chz (x / 100 + 48), chz (x / 10 % 10 + 48), chz (x % 10 + 48)]
def sgL (neg : Bool) : List UInt8 := if neg then [45] else []
def frL (l : List UInt8) : List UInt8 := if 1 < l.length then 46 :: l.drop 1 else []
def exL (e : Int) : List UInt8 := if e < 0 then 45 :: expoL (-e) else 43 :: expoL e
def gE (neg : Bool) (l : List UInt8) (dp : Int) : List UInt8 := sgL neg ++ ([l.getD 0 48] ++ (frL l ++ ([69] ++ exL (if l.length = 0 then 0 else dp - 1))))
def DigB (W0 : World) (g : Nat) (l : List UInt8) : Prop := (∃ cs fr, W0.heap[g]? = some (.cells cs 270 fr)) ∧ ∀ (j : Nat) (b : UInt8), l[j]? = some b → W0.cell? ⟨g, j, none⟩ = some (.int .u8 (b.toNat : Int))
theorem anyCell {l : List UInt8} {g : Nat} {W0 w : World} (hc : DigB W0 g l) (hb : EKept W0 w) (j : Nat) (b : UInt8) (hj : l[j]? = some b) : w.cell? ⟨g, j, none⟩ = some (.int .u8 (b.toNat : Int)) := by
 obtain ⟨⟨cs, fr, hg⟩, h⟩ := hc
 have h2 := hb g _ hg (by intro c e fz he; injection he with h1 h2 h3; subst h2; decide)
 rw [← h j b hj]
 simp [World.cell?, hg, h2]
theorem dropCells {l : List UInt8} {g : Nat} {W0 w : World} (hc : DigB W0 g l) (hb : EKept W0 w) :
  ∀ (j : Nat) (b : UInt8), (l.drop 1)[j]? = some b → w.cell? ((⟨g, 1, none⟩ : Addr).add j) = some (.int .u8 (b.toNat : Int)) := by
 intro j b hj
 rw [List.getElem?_drop] at hj
 have : (⟨g, 1, none⟩ : Addr).add j = ⟨g, 1 + j, none⟩ := by
  unfold Addr.add
  split
  ·rename_i h; subst h; rfl
  ·rfl
 rw [this]
 exact anyCell hc hb _ _ hj
theorem headCell {l : List UInt8} {g : Nat} {W0 w : World} (hc : DigB W0 g l) (hb : EKept W0 w) (h : 1 ≤ l.length) :
  w.cell? ⟨g, 0, none⟩ = some (.int .u8 ((l.getD 0 48).toNat : Int)) := by
 have hj : l[0]? = some (l.getD 0 48) := by rw [List.getD_eq_getElem?_getD, List.getElem?_eq_getElem (by omega)]; rfl
 exact anyCell hc hb _ _ hj
theorem efgE2_fn (l : List UInt8) (dp : Int) (g B : Nat) (v : Value) (acc : List UInt8) (W0 w : World) (hl : l.length ≤ 20) (hl2 : 2 ≤ l.length) (hd : -420 ≤ dp ∧ dp ≤ 420) (hE : dp < -3) (ha : acc.length ≤ 1000)
  (hb : OB B v acc W0 w) (hc : DigB W0 g l) :
  Calls Tryz.prog 203 #[v, .bool false, .slice (some ⟨g, 0, none⟩) 32 32, .int .i64 dp, .int .i64 (l.length : Int), .int .i64 (l.length : Int), .int .u8 71, .bool true] w fun e w' => ∃ v', e = .returned v' ∧ OB B v' (acc ++ gE false l dp) W0 w' := by
 obtain ⟨d0, d1⟩ := hd
 have HB := LH hb
 have HA := LH ha
 have c0 := fun (W : World) (h : EKept W0 W) => headCell hc h (by omega)
 obtain ⟨x, hx⟩ : ∃ x, (l.getD 0 48).toNat = x := ⟨_, rfl⟩
 have xlt : x < 256 := by rw [← hx]; exact UInt8.toNat_lt _
 rw [hx] at c0
 have HX := LH hx
 clear hx
 have HC := LH hc
 clear hb hc ha
 obtain ⟨n, hn⟩ : ∃ n, l.length = n := ⟨_, rfl⟩
 rw [hn] at hl hl2 ⊢
 have HN := LH hn
 clear hn
 obtain ⟨a, ha'⟩ : ∃ a, dp = 1 - a := ⟨1 - dp, by omega⟩
 subst ha'
 have a0 : 5 ≤ a := by omega
 have a1 : a ≤ 421 := by omega
 have hsub : (1 : Int) - a - 1 = -a := by omega
 clear d0 d1
 go_enter Tryz.func203, Tryz.ntmps203
 have cc := c0 w HB.out.kept
 clear c0
 go_wp2_with (first | (at_builtin; refine ob_slice rfl _ _ rfl rfl HB.out (l.drop 1) (by rw [List.length_drop, HN.out]) rfl (by exact dropCells HC.out HB.out.kept) (by have h_1 := HA.out; have h_2 := HN.out; (try simp only [List.length_append, List.length_cons, List.length_nil, List.length_drop]); omega) ?_; intro v1 w1 hb1 _; clear HB; have HB := LH hb1; clear hb1) | (at_builtin; refine ob_byte rfl _ _ rfl rfl _ _ (u8z (by omega) (by omega)) HB.out rfl (by have h_1 := HA.out; have h_2 := HN.out; (try simp only [List.length_append, List.length_cons, List.length_nil, List.length_drop]); omega) ?_; intro v1 w1 hb1; clear HB; have HB := LH hb1; clear hb1) | (at_builtin; refine ob_two rfl _ _ rfl rfl _ _ _ _ (u8z (by omega) (by omega)) (u8z (by omega) (by omega)) HB.out rfl (by have h_1 := HA.out; have h_2 := HN.out; (try simp only [List.length_append, List.length_cons, List.length_nil, List.length_drop]); omega) ?_; intro v1 w1 hb1; clear HB; have HB := LH hb1; clear hb1) | (at_builtin; refine ob_three rfl _ _ rfl rfl _ _ _ _ _ _ (u8z (by omega) (by omega)) (u8z (by omega) (by omega)) (u8z (by omega) (by omega)) HB.out rfl (by have h_1 := HA.out; have h_2 := HN.out; (try simp only [List.length_append, List.length_cons, List.length_nil, List.length_drop]); omega) ?_; intro v1 w1 hb1; clear HB; have HB := LH hb1; clear hb1))
 refine wp_loop_rounds 1 ?_
 rw [rounds_succ]
 go_wp2_with (first | (at_builtin; refine ob_slice rfl _ _ rfl rfl HB.out (l.drop 1) (by rw [List.length_drop, HN.out]) rfl (by exact dropCells HC.out HB.out.kept) (by have h_1 := HA.out; have h_2 := HN.out; (try simp only [List.length_append, List.length_cons, List.length_nil, List.length_drop]); omega) ?_; intro v1 w1 hb1 _; clear HB; have HB := LH hb1; clear hb1) | (at_builtin; refine ob_byte rfl _ _ rfl rfl _ _ (u8z (by omega) (by omega)) HB.out rfl (by have h_1 := HA.out; have h_2 := HN.out; (try simp only [List.length_append, List.length_cons, List.length_nil, List.length_drop]); omega) ?_; intro v1 w1 hb1; clear HB; have HB := LH hb1; clear hb1) | (at_builtin; refine ob_two rfl _ _ rfl rfl _ _ _ _ (u8z (by omega) (by omega)) (u8z (by omega) (by omega)) HB.out rfl (by have h_1 := HA.out; have h_2 := HN.out; (try simp only [List.length_append, List.length_cons, List.length_nil, List.length_drop]); omega) ?_; intro v1 w1 hb1; clear HB; have HB := LH hb1; clear hb1) | (at_builtin; refine ob_three rfl _ _ rfl rfl _ _ _ _ _ _ (u8z (by omega) (by omega)) (u8z (by omega) (by omega)) (u8z (by omega) (by omega)) HB.out rfl (by have h_1 := HA.out; have h_2 := HN.out; (try simp only [List.length_append, List.length_cons, List.length_nil, List.length_drop]); omega) ?_; intro v1 w1 hb1; clear HB; have HB := LH hb1; clear hb1))
 all_goals go_ret
 all_goals
  refine ⟨_, rfl, ?_⟩
  have hfin := HB.out
  unfold gE sgL frL exL
  rw [HN.out, if_pos (show 1 < n by omega), if_neg (show ¬ n = 0 by omega)]
  rw [show l.getD 0 48 = UInt8.ofNat ((x : Int)).toNat from by rw [← HX.out]; simp]
  rw [hsub, if_pos (show -a < 0 by omega), Int.neg_neg]
  unfold expoL chz
  first
   | (rw [if_pos (show a < 10 by omega)]; simpa using hfin)
   | (rw [if_neg (show ¬ a < 10 by omega), if_pos (show a < 100 by omega)]; simpa using hfin)
   | (rw [if_neg (show ¬ a < 10 by omega), if_neg (show ¬ a < 100 by omega)]; simpa using hfin)
theorem efgE2_fp (l : List UInt8) (dp : Int) (g B : Nat) (v : Value) (acc : List UInt8) (W0 w : World) (hl : l.length ≤ 20) (hl2 : 2 ≤ l.length) (hd : -420 ≤ dp ∧ dp ≤ 420) (hE : 7 ≤ dp) (ha : acc.length ≤ 1000)
  (hb : OB B v acc W0 w) (hc : DigB W0 g l) :
  Calls Tryz.prog 203 #[v, .bool false, .slice (some ⟨g, 0, none⟩) 32 32, .int .i64 dp, .int .i64 (l.length : Int), .int .i64 (l.length : Int), .int .u8 71, .bool true] w fun e w' => ∃ v', e = .returned v' ∧ OB B v' (acc ++ gE false l dp) W0 w' := by
 obtain ⟨d0, d1⟩ := hd
 have HB := LH hb
 have HA := LH ha
 have c0 := fun (W : World) (h : EKept W0 W) => headCell hc h (by omega)
 obtain ⟨x, hx⟩ : ∃ x, (l.getD 0 48).toNat = x := ⟨_, rfl⟩
 have xlt : x < 256 := by rw [← hx]; exact UInt8.toNat_lt _
 rw [hx] at c0
 have HX := LH hx
 clear hx
 have HC := LH hc
 clear hb hc ha
 obtain ⟨n, hn⟩ : ∃ n, l.length = n := ⟨_, rfl⟩
 rw [hn] at hl hl2 ⊢
 have HN := LH hn
 clear hn
 go_enter Tryz.func203, Tryz.ntmps203
 have cc := c0 w HB.out.kept
 clear c0
 go_wp2_with (first | (at_builtin; refine ob_slice rfl _ _ rfl rfl HB.out (l.drop 1) (by rw [List.length_drop, HN.out]) rfl (by exact dropCells HC.out HB.out.kept) (by have h_1 := HA.out; have h_2 := HN.out; (try simp only [List.length_append, List.length_cons, List.length_nil, List.length_drop]); omega) ?_; intro v1 w1 hb1 _; clear HB; have HB := LH hb1; clear hb1) | (at_builtin; refine ob_byte rfl _ _ rfl rfl _ _ (u8z (by omega) (by omega)) HB.out rfl (by have h_1 := HA.out; have h_2 := HN.out; (try simp only [List.length_append, List.length_cons, List.length_nil, List.length_drop]); omega) ?_; intro v1 w1 hb1; clear HB; have HB := LH hb1; clear hb1) | (at_builtin; refine ob_two rfl _ _ rfl rfl _ _ _ _ (u8z (by omega) (by omega)) (u8z (by omega) (by omega)) HB.out rfl (by have h_1 := HA.out; have h_2 := HN.out; (try simp only [List.length_append, List.length_cons, List.length_nil, List.length_drop]); omega) ?_; intro v1 w1 hb1; clear HB; have HB := LH hb1; clear hb1) | (at_builtin; refine ob_three rfl _ _ rfl rfl _ _ _ _ _ _ (u8z (by omega) (by omega)) (u8z (by omega) (by omega)) (u8z (by omega) (by omega)) HB.out rfl (by have h_1 := HA.out; have h_2 := HN.out; (try simp only [List.length_append, List.length_cons, List.length_nil, List.length_drop]); omega) ?_; intro v1 w1 hb1; clear HB; have HB := LH hb1; clear hb1))
 refine wp_loop_rounds 1 ?_
 rw [rounds_succ]
 go_wp2_with (first | (at_builtin; refine ob_slice rfl _ _ rfl rfl HB.out (l.drop 1) (by rw [List.length_drop, HN.out]) rfl (by exact dropCells HC.out HB.out.kept) (by have h_1 := HA.out; have h_2 := HN.out; (try simp only [List.length_append, List.length_cons, List.length_nil, List.length_drop]); omega) ?_; intro v1 w1 hb1 _; clear HB; have HB := LH hb1; clear hb1) | (at_builtin; refine ob_byte rfl _ _ rfl rfl _ _ (u8z (by omega) (by omega)) HB.out rfl (by have h_1 := HA.out; have h_2 := HN.out; (try simp only [List.length_append, List.length_cons, List.length_nil, List.length_drop]); omega) ?_; intro v1 w1 hb1; clear HB; have HB := LH hb1; clear hb1) | (at_builtin; refine ob_two rfl _ _ rfl rfl _ _ _ _ (u8z (by omega) (by omega)) (u8z (by omega) (by omega)) HB.out rfl (by have h_1 := HA.out; have h_2 := HN.out; (try simp only [List.length_append, List.length_cons, List.length_nil, List.length_drop]); omega) ?_; intro v1 w1 hb1; clear HB; have HB := LH hb1; clear hb1) | (at_builtin; refine ob_three rfl _ _ rfl rfl _ _ _ _ _ _ (u8z (by omega) (by omega)) (u8z (by omega) (by omega)) (u8z (by omega) (by omega)) HB.out rfl (by have h_1 := HA.out; have h_2 := HN.out; (try simp only [List.length_append, List.length_cons, List.length_nil, List.length_drop]); omega) ?_; intro v1 w1 hb1; clear HB; have HB := LH hb1; clear hb1))
 all_goals go_ret
 all_goals
  refine ⟨_, rfl, ?_⟩
  have hfin := HB.out
  unfold gE sgL frL exL
  rw [HN.out, if_pos (show 1 < n by omega), if_neg (show ¬ n = 0 by omega)]
  rw [show l.getD 0 48 = UInt8.ofNat ((x : Int)).toNat from by rw [← HX.out]; simp]
  rw [if_neg (show ¬ dp - 1 < 0 by omega)]
  unfold expoL chz
  first
   | (rw [if_pos (show dp - 1 < 10 by omega)]; simpa using hfin)
   | (rw [if_neg (show ¬ dp - 1 < 10 by omega), if_pos (show dp - 1 < 100 by omega)]; simpa using hfin)
   | (rw [if_neg (show ¬ dp - 1 < 10 by omega), if_neg (show ¬ dp - 1 < 100 by omega)]; simpa using hfin)
theorem efgE2_tn (l : List UInt8) (dp : Int) (g B : Nat) (v : Value) (acc : List UInt8) (W0 w : World) (hl : l.length ≤ 20) (hl2 : 2 ≤ l.length) (hd : -420 ≤ dp ∧ dp ≤ 420) (hE : dp < -3) (ha : acc.length ≤ 1000)
  (hb : OB B v acc W0 w) (hc : DigB W0 g l) :
  Calls Tryz.prog 203 #[v, .bool true, .slice (some ⟨g, 0, none⟩) 32 32, .int .i64 dp, .int .i64 (l.length : Int), .int .i64 (l.length : Int), .int .u8 71, .bool true] w fun e w' => ∃ v', e = .returned v' ∧ OB B v' (acc ++ gE true l dp) W0 w' := by
 obtain ⟨d0, d1⟩ := hd
 have HB := LH hb
 have HA := LH ha
 have c0 := fun (W : World) (h : EKept W0 W) => headCell hc h (by omega)
 obtain ⟨x, hx⟩ : ∃ x, (l.getD 0 48).toNat = x := ⟨_, rfl⟩
 have xlt : x < 256 := by rw [← hx]; exact UInt8.toNat_lt _
 rw [hx] at c0
 have HX := LH hx
 clear hx
 have HC := LH hc
 clear hb hc ha
 obtain ⟨n, hn⟩ : ∃ n, l.length = n := ⟨_, rfl⟩
 rw [hn] at hl hl2 ⊢
 have HN := LH hn
 clear hn
 obtain ⟨a, ha'⟩ : ∃ a, dp = 1 - a := ⟨1 - dp, by omega⟩
 subst ha'
 have a0 : 5 ≤ a := by omega
 have a1 : a ≤ 421 := by omega
 have hsub : (1 : Int) - a - 1 = -a := by omega
 clear d0 d1
 go_enter Tryz.func203, Tryz.ntmps203
 go_wp2_with (first | (at_builtin; refine ob_byte rfl _ _ rfl rfl 45 _ rfl HB.out rfl (by have h_1 := HA.out; have h_2 := HN.out; (try simp only [List.length_append, List.length_cons, List.length_nil, List.length_drop]); omega) ?_; intro v1 w1 hb1; clear HB; have HB := LH hb1; clear hb1; have cc := c0 _ HB.out.kept; clear c0) | (at_builtin; refine ob_slice rfl _ _ rfl rfl HB.out (l.drop 1) (by rw [List.length_drop, HN.out]) rfl (by exact dropCells HC.out HB.out.kept) (by have h_1 := HA.out; have h_2 := HN.out; (try simp only [List.length_append, List.length_cons, List.length_nil, List.length_drop]); omega) ?_; intro v1 w1 hb1 _; clear HB; have HB := LH hb1; clear hb1) | (at_builtin; refine ob_byte rfl _ _ rfl rfl _ _ (u8z (by omega) (by omega)) HB.out rfl (by have h_1 := HA.out; have h_2 := HN.out; (try simp only [List.length_append, List.length_cons, List.length_nil, List.length_drop]); omega) ?_; intro v1 w1 hb1; clear HB; have HB := LH hb1; clear hb1) | (at_builtin; refine ob_two rfl _ _ rfl rfl _ _ _ _ (u8z (by omega) (by omega)) (u8z (by omega) (by omega)) HB.out rfl (by have h_1 := HA.out; have h_2 := HN.out; (try simp only [List.length_append, List.length_cons, List.length_nil, List.length_drop]); omega) ?_; intro v1 w1 hb1; clear HB; have HB := LH hb1; clear hb1) | (at_builtin; refine ob_three rfl _ _ rfl rfl _ _ _ _ _ _ (u8z (by omega) (by omega)) (u8z (by omega) (by omega)) (u8z (by omega) (by omega)) HB.out rfl (by have h_1 := HA.out; have h_2 := HN.out; (try simp only [List.length_append, List.length_cons, List.length_nil, List.length_drop]); omega) ?_; intro v1 w1 hb1; clear HB; have HB := LH hb1; clear hb1))
 refine wp_loop_rounds 1 ?_
 rw [rounds_succ]
 go_wp2_with (first | (at_builtin; refine ob_slice rfl _ _ rfl rfl HB.out (l.drop 1) (by rw [List.length_drop, HN.out]) rfl (by exact dropCells HC.out HB.out.kept) (by have h_1 := HA.out; have h_2 := HN.out; (try simp only [List.length_append, List.length_cons, List.length_nil, List.length_drop]); omega) ?_; intro v1 w1 hb1 _; clear HB; have HB := LH hb1; clear hb1) | (at_builtin; refine ob_byte rfl _ _ rfl rfl _ _ (u8z (by omega) (by omega)) HB.out rfl (by have h_1 := HA.out; have h_2 := HN.out; (try simp only [List.length_append, List.length_cons, List.length_nil, List.length_drop]); omega) ?_; intro v1 w1 hb1; clear HB; have HB := LH hb1; clear hb1) | (at_builtin; refine ob_two rfl _ _ rfl rfl _ _ _ _ (u8z (by omega) (by omega)) (u8z (by omega) (by omega)) HB.out rfl (by have h_1 := HA.out; have h_2 := HN.out; (try simp only [List.length_append, List.length_cons, List.length_nil, List.length_drop]); omega) ?_; intro v1 w1 hb1; clear HB; have HB := LH hb1; clear hb1) | (at_builtin; refine ob_three rfl _ _ rfl rfl _ _ _ _ _ _ (u8z (by omega) (by omega)) (u8z (by omega) (by omega)) (u8z (by omega) (by omega)) HB.out rfl (by have h_1 := HA.out; have h_2 := HN.out; (try simp only [List.length_append, List.length_cons, List.length_nil, List.length_drop]); omega) ?_; intro v1 w1 hb1; clear HB; have HB := LH hb1; clear hb1))
 all_goals go_ret
 all_goals
  refine ⟨_, rfl, ?_⟩
  have hfin := HB.out
  unfold gE sgL frL exL
  rw [HN.out, if_pos (show 1 < n by omega), if_neg (show ¬ n = 0 by omega)]
  rw [show l.getD 0 48 = UInt8.ofNat ((x : Int)).toNat from by rw [← HX.out]; simp]
  rw [hsub, if_pos (show -a < 0 by omega), Int.neg_neg]
  unfold expoL chz
  first
   | (rw [if_pos (show a < 10 by omega)]; simpa using hfin)
   | (rw [if_neg (show ¬ a < 10 by omega), if_pos (show a < 100 by omega)]; simpa using hfin)
   | (rw [if_neg (show ¬ a < 10 by omega), if_neg (show ¬ a < 100 by omega)]; simpa using hfin)
theorem efgE2_tp (l : List UInt8) (dp : Int) (g B : Nat) (v : Value) (acc : List UInt8) (W0 w : World) (hl : l.length ≤ 20) (hl2 : 2 ≤ l.length) (hd : -420 ≤ dp ∧ dp ≤ 420) (hE : 7 ≤ dp) (ha : acc.length ≤ 1000)
  (hb : OB B v acc W0 w) (hc : DigB W0 g l) :
  Calls Tryz.prog 203 #[v, .bool true, .slice (some ⟨g, 0, none⟩) 32 32, .int .i64 dp, .int .i64 (l.length : Int), .int .i64 (l.length : Int), .int .u8 71, .bool true] w fun e w' => ∃ v', e = .returned v' ∧ OB B v' (acc ++ gE true l dp) W0 w' := by
 obtain ⟨d0, d1⟩ := hd
 have HB := LH hb
 have HA := LH ha
 have c0 := fun (W : World) (h : EKept W0 W) => headCell hc h (by omega)
 obtain ⟨x, hx⟩ : ∃ x, (l.getD 0 48).toNat = x := ⟨_, rfl⟩
 have xlt : x < 256 := by rw [← hx]; exact UInt8.toNat_lt _
 rw [hx] at c0
 have HX := LH hx
 clear hx
 have HC := LH hc
 clear hb hc ha
 obtain ⟨n, hn⟩ : ∃ n, l.length = n := ⟨_, rfl⟩
 rw [hn] at hl hl2 ⊢
 have HN := LH hn
 clear hn
 go_enter Tryz.func203, Tryz.ntmps203
 go_wp2_with (first | (at_builtin; refine ob_byte rfl _ _ rfl rfl 45 _ rfl HB.out rfl (by have h_1 := HA.out; have h_2 := HN.out; (try simp only [List.length_append, List.length_cons, List.length_nil, List.length_drop]); omega) ?_; intro v1 w1 hb1; clear HB; have HB := LH hb1; clear hb1; have cc := c0 _ HB.out.kept; clear c0) | (at_builtin; refine ob_slice rfl _ _ rfl rfl HB.out (l.drop 1) (by rw [List.length_drop, HN.out]) rfl (by exact dropCells HC.out HB.out.kept) (by have h_1 := HA.out; have h_2 := HN.out; (try simp only [List.length_append, List.length_cons, List.length_nil, List.length_drop]); omega) ?_; intro v1 w1 hb1 _; clear HB; have HB := LH hb1; clear hb1) | (at_builtin; refine ob_byte rfl _ _ rfl rfl _ _ (u8z (by omega) (by omega)) HB.out rfl (by have h_1 := HA.out; have h_2 := HN.out; (try simp only [List.length_append, List.length_cons, List.length_nil, List.length_drop]); omega) ?_; intro v1 w1 hb1; clear HB; have HB := LH hb1; clear hb1) | (at_builtin; refine ob_two rfl _ _ rfl rfl _ _ _ _ (u8z (by omega) (by omega)) (u8z (by omega) (by omega)) HB.out rfl (by have h_1 := HA.out; have h_2 := HN.out; (try simp only [List.length_append, List.length_cons, List.length_nil, List.length_drop]); omega) ?_; intro v1 w1 hb1; clear HB; have HB := LH hb1; clear hb1) | (at_builtin; refine ob_three rfl _ _ rfl rfl _ _ _ _ _ _ (u8z (by omega) (by omega)) (u8z (by omega) (by omega)) (u8z (by omega) (by omega)) HB.out rfl (by have h_1 := HA.out; have h_2 := HN.out; (try simp only [List.length_append, List.length_cons, List.length_nil, List.length_drop]); omega) ?_; intro v1 w1 hb1; clear HB; have HB := LH hb1; clear hb1))
 refine wp_loop_rounds 1 ?_
 rw [rounds_succ]
 go_wp2_with (first | (at_builtin; refine ob_slice rfl _ _ rfl rfl HB.out (l.drop 1) (by rw [List.length_drop, HN.out]) rfl (by exact dropCells HC.out HB.out.kept) (by have h_1 := HA.out; have h_2 := HN.out; (try simp only [List.length_append, List.length_cons, List.length_nil, List.length_drop]); omega) ?_; intro v1 w1 hb1 _; clear HB; have HB := LH hb1; clear hb1) | (at_builtin; refine ob_byte rfl _ _ rfl rfl _ _ (u8z (by omega) (by omega)) HB.out rfl (by have h_1 := HA.out; have h_2 := HN.out; (try simp only [List.length_append, List.length_cons, List.length_nil, List.length_drop]); omega) ?_; intro v1 w1 hb1; clear HB; have HB := LH hb1; clear hb1) | (at_builtin; refine ob_two rfl _ _ rfl rfl _ _ _ _ (u8z (by omega) (by omega)) (u8z (by omega) (by omega)) HB.out rfl (by have h_1 := HA.out; have h_2 := HN.out; (try simp only [List.length_append, List.length_cons, List.length_nil, List.length_drop]); omega) ?_; intro v1 w1 hb1; clear HB; have HB := LH hb1; clear hb1) | (at_builtin; refine ob_three rfl _ _ rfl rfl _ _ _ _ _ _ (u8z (by omega) (by omega)) (u8z (by omega) (by omega)) (u8z (by omega) (by omega)) HB.out rfl (by have h_1 := HA.out; have h_2 := HN.out; (try simp only [List.length_append, List.length_cons, List.length_nil, List.length_drop]); omega) ?_; intro v1 w1 hb1; clear HB; have HB := LH hb1; clear hb1))
 all_goals go_ret
 all_goals
  refine ⟨_, rfl, ?_⟩
  have hfin := HB.out
  unfold gE sgL frL exL
  rw [HN.out, if_pos (show 1 < n by omega), if_neg (show ¬ n = 0 by omega)]
  rw [show l.getD 0 48 = UInt8.ofNat ((x : Int)).toNat from by rw [← HX.out]; simp]
  rw [if_neg (show ¬ dp - 1 < 0 by omega)]
  unfold expoL chz
  first
   | (rw [if_pos (show dp - 1 < 10 by omega)]; simpa using hfin)
   | (rw [if_neg (show ¬ dp - 1 < 10 by omega), if_pos (show dp - 1 < 100 by omega)]; simpa using hfin)
   | (rw [if_neg (show ¬ dp - 1 < 10 by omega), if_neg (show ¬ dp - 1 < 100 by omega)]; simpa using hfin)
theorem efgE1_fn (l : List UInt8) (dp : Int) (g B : Nat) (v : Value) (acc : List UInt8) (W0 w : World) (hl : l.length ≤ 20) (hl2 : l.length = 1) (hd : -420 ≤ dp ∧ dp ≤ 420) (hE : dp < -3) (ha : acc.length ≤ 1000)
  (hb : OB B v acc W0 w) (hc : DigB W0 g l) :
  Calls Tryz.prog 203 #[v, .bool false, .slice (some ⟨g, 0, none⟩) 32 32, .int .i64 dp, .int .i64 (l.length : Int), .int .i64 (l.length : Int), .int .u8 71, .bool true] w fun e w' => ∃ v', e = .returned v' ∧ OB B v' (acc ++ gE false l dp) W0 w' := by
 obtain ⟨d0, d1⟩ := hd
 have HB := LH hb
 have HA := LH ha
 have c0 := fun (W : World) (h : EKept W0 W) => headCell hc h (by omega)
 obtain ⟨x, hx⟩ : ∃ x, (l.getD 0 48).toNat = x := ⟨_, rfl⟩
 have xlt : x < 256 := by rw [← hx]; exact UInt8.toNat_lt _
 rw [hx] at c0
 have HX := LH hx
 clear hx
 have HC := LH hc
 clear hb hc ha
 obtain ⟨n, hn⟩ : ∃ n, l.length = n := ⟨_, rfl⟩
 rw [hn] at hl hl2 ⊢
 have HN := LH hn
 clear hn
 subst hl2
 obtain ⟨a, ha'⟩ : ∃ a, dp = 1 - a := ⟨1 - dp, by omega⟩
 subst ha'
 have a0 : 5 ≤ a := by omega
 have a1 : a ≤ 421 := by omega
 have hsub : (1 : Int) - a - 1 = -a := by omega
 clear d0 d1
 go_enter Tryz.func203, Tryz.ntmps203
 have cc := c0 w HB.out.kept
 clear c0
 go_wp2_with (first | (at_builtin; refine ob_byte rfl _ _ rfl rfl _ _ (u8z (by omega) (by omega)) HB.out rfl (by have h_1 := HA.out; have h_2 := HN.out; (try simp only [List.length_append, List.length_cons, List.length_nil, List.length_drop]); omega) ?_; intro v1 w1 hb1; clear HB; have HB := LH hb1; clear hb1) | (at_builtin; refine ob_two rfl _ _ rfl rfl _ _ _ _ (u8z (by omega) (by omega)) (u8z (by omega) (by omega)) HB.out rfl (by have h_1 := HA.out; have h_2 := HN.out; (try simp only [List.length_append, List.length_cons, List.length_nil, List.length_drop]); omega) ?_; intro v1 w1 hb1; clear HB; have HB := LH hb1; clear hb1) | (at_builtin; refine ob_three rfl _ _ rfl rfl _ _ _ _ _ _ (u8z (by omega) (by omega)) (u8z (by omega) (by omega)) (u8z (by omega) (by omega)) HB.out rfl (by have h_1 := HA.out; have h_2 := HN.out; (try simp only [List.length_append, List.length_cons, List.length_nil, List.length_drop]); omega) ?_; intro v1 w1 hb1; clear HB; have HB := LH hb1; clear hb1))
 all_goals go_ret
 all_goals
  refine ⟨_, rfl, ?_⟩
  have hfin := HB.out
  unfold gE sgL frL exL
  rw [HN.out, if_neg (show ¬ 1 < 1 by omega), if_neg (show ¬ 1 = 0 by omega)]
  rw [show l.getD 0 48 = UInt8.ofNat ((x : Int)).toNat from by rw [← HX.out]; simp]
  rw [hsub, if_pos (show -a < 0 by omega), Int.neg_neg]
  unfold expoL chz
  first
   | (rw [if_pos (show a < 10 by omega)]; simpa using hfin)
   | (rw [if_neg (show ¬ a < 10 by omega), if_pos (show a < 100 by omega)]; simpa using hfin)
   | (rw [if_neg (show ¬ a < 10 by omega), if_neg (show ¬ a < 100 by omega)]; simpa using hfin)
theorem efgE1_fp (l : List UInt8) (dp : Int) (g B : Nat) (v : Value) (acc : List UInt8) (W0 w : World) (hl : l.length ≤ 20) (hl2 : l.length = 1) (hd : -420 ≤ dp ∧ dp ≤ 420) (hE : 7 ≤ dp) (ha : acc.length ≤ 1000)
  (hb : OB B v acc W0 w) (hc : DigB W0 g l) :
  Calls Tryz.prog 203 #[v, .bool false, .slice (some ⟨g, 0, none⟩) 32 32, .int .i64 dp, .int .i64 (l.length : Int), .int .i64 (l.length : Int), .int .u8 71, .bool true] w fun e w' => ∃ v', e = .returned v' ∧ OB B v' (acc ++ gE false l dp) W0 w' := by
 obtain ⟨d0, d1⟩ := hd
 have HB := LH hb
 have HA := LH ha
 have c0 := fun (W : World) (h : EKept W0 W) => headCell hc h (by omega)
 obtain ⟨x, hx⟩ : ∃ x, (l.getD 0 48).toNat = x := ⟨_, rfl⟩
 have xlt : x < 256 := by rw [← hx]; exact UInt8.toNat_lt _
 rw [hx] at c0
 have HX := LH hx
 clear hx
 have HC := LH hc
 clear hb hc ha
 obtain ⟨n, hn⟩ : ∃ n, l.length = n := ⟨_, rfl⟩
 rw [hn] at hl hl2 ⊢
 have HN := LH hn
 clear hn
 subst hl2
 go_enter Tryz.func203, Tryz.ntmps203
 have cc := c0 w HB.out.kept
 clear c0
 go_wp2_with (first | (at_builtin; refine ob_byte rfl _ _ rfl rfl _ _ (u8z (by omega) (by omega)) HB.out rfl (by have h_1 := HA.out; have h_2 := HN.out; (try simp only [List.length_append, List.length_cons, List.length_nil, List.length_drop]); omega) ?_; intro v1 w1 hb1; clear HB; have HB := LH hb1; clear hb1) | (at_builtin; refine ob_two rfl _ _ rfl rfl _ _ _ _ (u8z (by omega) (by omega)) (u8z (by omega) (by omega)) HB.out rfl (by have h_1 := HA.out; have h_2 := HN.out; (try simp only [List.length_append, List.length_cons, List.length_nil, List.length_drop]); omega) ?_; intro v1 w1 hb1; clear HB; have HB := LH hb1; clear hb1) | (at_builtin; refine ob_three rfl _ _ rfl rfl _ _ _ _ _ _ (u8z (by omega) (by omega)) (u8z (by omega) (by omega)) (u8z (by omega) (by omega)) HB.out rfl (by have h_1 := HA.out; have h_2 := HN.out; (try simp only [List.length_append, List.length_cons, List.length_nil, List.length_drop]); omega) ?_; intro v1 w1 hb1; clear HB; have HB := LH hb1; clear hb1))
 all_goals go_ret
 all_goals
  refine ⟨_, rfl, ?_⟩
  have hfin := HB.out
  unfold gE sgL frL exL
  rw [HN.out, if_neg (show ¬ 1 < 1 by omega), if_neg (show ¬ 1 = 0 by omega)]
  rw [show l.getD 0 48 = UInt8.ofNat ((x : Int)).toNat from by rw [← HX.out]; simp]
  rw [if_neg (show ¬ dp - 1 < 0 by omega)]
  unfold expoL chz
  first
   | (rw [if_pos (show dp - 1 < 10 by omega)]; simpa using hfin)
   | (rw [if_neg (show ¬ dp - 1 < 10 by omega), if_pos (show dp - 1 < 100 by omega)]; simpa using hfin)
   | (rw [if_neg (show ¬ dp - 1 < 10 by omega), if_neg (show ¬ dp - 1 < 100 by omega)]; simpa using hfin)
theorem efgE1_tn (l : List UInt8) (dp : Int) (g B : Nat) (v : Value) (acc : List UInt8) (W0 w : World) (hl : l.length ≤ 20) (hl2 : l.length = 1) (hd : -420 ≤ dp ∧ dp ≤ 420) (hE : dp < -3) (ha : acc.length ≤ 1000)
  (hb : OB B v acc W0 w) (hc : DigB W0 g l) :
  Calls Tryz.prog 203 #[v, .bool true, .slice (some ⟨g, 0, none⟩) 32 32, .int .i64 dp, .int .i64 (l.length : Int), .int .i64 (l.length : Int), .int .u8 71, .bool true] w fun e w' => ∃ v', e = .returned v' ∧ OB B v' (acc ++ gE true l dp) W0 w' := by
 obtain ⟨d0, d1⟩ := hd
 have HB := LH hb
 have HA := LH ha
 have c0 := fun (W : World) (h : EKept W0 W) => headCell hc h (by omega)
 obtain ⟨x, hx⟩ : ∃ x, (l.getD 0 48).toNat = x := ⟨_, rfl⟩
 have xlt : x < 256 := by rw [← hx]; exact UInt8.toNat_lt _
 rw [hx] at c0
 have HX := LH hx
 clear hx
 have HC := LH hc
 clear hb hc ha
 obtain ⟨n, hn⟩ : ∃ n, l.length = n := ⟨_, rfl⟩
 rw [hn] at hl hl2 ⊢
 have HN := LH hn
 clear hn
 subst hl2
 obtain ⟨a, ha'⟩ : ∃ a, dp = 1 - a := ⟨1 - dp, by omega⟩
 subst ha'
 have a0 : 5 ≤ a := by omega
 have a1 : a ≤ 421 := by omega
 have hsub : (1 : Int) - a - 1 = -a := by omega
 clear d0 d1
 go_enter Tryz.func203, Tryz.ntmps203
 go_wp2_with (first | (at_builtin; refine ob_byte rfl _ _ rfl rfl 45 _ rfl HB.out rfl (by have h_1 := HA.out; have h_2 := HN.out; (try simp only [List.length_append, List.length_cons, List.length_nil, List.length_drop]); omega) ?_; intro v1 w1 hb1; clear HB; have HB := LH hb1; clear hb1; have cc := c0 _ HB.out.kept; clear c0) | (at_builtin; refine ob_byte rfl _ _ rfl rfl _ _ (u8z (by omega) (by omega)) HB.out rfl (by have h_1 := HA.out; have h_2 := HN.out; (try simp only [List.length_append, List.length_cons, List.length_nil, List.length_drop]); omega) ?_; intro v1 w1 hb1; clear HB; have HB := LH hb1; clear hb1) | (at_builtin; refine ob_two rfl _ _ rfl rfl _ _ _ _ (u8z (by omega) (by omega)) (u8z (by omega) (by omega)) HB.out rfl (by have h_1 := HA.out; have h_2 := HN.out; (try simp only [List.length_append, List.length_cons, List.length_nil, List.length_drop]); omega) ?_; intro v1 w1 hb1; clear HB; have HB := LH hb1; clear hb1) | (at_builtin; refine ob_three rfl _ _ rfl rfl _ _ _ _ _ _ (u8z (by omega) (by omega)) (u8z (by omega) (by omega)) (u8z (by omega) (by omega)) HB.out rfl (by have h_1 := HA.out; have h_2 := HN.out; (try simp only [List.length_append, List.length_cons, List.length_nil, List.length_drop]); omega) ?_; intro v1 w1 hb1; clear HB; have HB := LH hb1; clear hb1))
 all_goals go_ret
 all_goals
  refine ⟨_, rfl, ?_⟩
  have hfin := HB.out
  unfold gE sgL frL exL
  rw [HN.out, if_neg (show ¬ 1 < 1 by omega), if_neg (show ¬ 1 = 0 by omega)]
  rw [show l.getD 0 48 = UInt8.ofNat ((x : Int)).toNat from by rw [← HX.out]; simp]
  rw [hsub, if_pos (show -a < 0 by omega), Int.neg_neg]
  unfold expoL chz
  first
   | (rw [if_pos (show a < 10 by omega)]; simpa using hfin)
   | (rw [if_neg (show ¬ a < 10 by omega), if_pos (show a < 100 by omega)]; simpa using hfin)
   | (rw [if_neg (show ¬ a < 10 by omega), if_neg (show ¬ a < 100 by omega)]; simpa using hfin)
theorem efgE1_tp (l : List UInt8) (dp : Int) (g B : Nat) (v : Value) (acc : List UInt8) (W0 w : World) (hl : l.length ≤ 20) (hl2 : l.length = 1) (hd : -420 ≤ dp ∧ dp ≤ 420) (hE : 7 ≤ dp) (ha : acc.length ≤ 1000)
  (hb : OB B v acc W0 w) (hc : DigB W0 g l) :
  Calls Tryz.prog 203 #[v, .bool true, .slice (some ⟨g, 0, none⟩) 32 32, .int .i64 dp, .int .i64 (l.length : Int), .int .i64 (l.length : Int), .int .u8 71, .bool true] w fun e w' => ∃ v', e = .returned v' ∧ OB B v' (acc ++ gE true l dp) W0 w' := by
 obtain ⟨d0, d1⟩ := hd
 have HB := LH hb
 have HA := LH ha
 have c0 := fun (W : World) (h : EKept W0 W) => headCell hc h (by omega)
 obtain ⟨x, hx⟩ : ∃ x, (l.getD 0 48).toNat = x := ⟨_, rfl⟩
 have xlt : x < 256 := by rw [← hx]; exact UInt8.toNat_lt _
 rw [hx] at c0
 have HX := LH hx
 clear hx
 have HC := LH hc
 clear hb hc ha
 obtain ⟨n, hn⟩ : ∃ n, l.length = n := ⟨_, rfl⟩
 rw [hn] at hl hl2 ⊢
 have HN := LH hn
 clear hn
 subst hl2
 go_enter Tryz.func203, Tryz.ntmps203
 go_wp2_with (first | (at_builtin; refine ob_byte rfl _ _ rfl rfl 45 _ rfl HB.out rfl (by have h_1 := HA.out; have h_2 := HN.out; (try simp only [List.length_append, List.length_cons, List.length_nil, List.length_drop]); omega) ?_; intro v1 w1 hb1; clear HB; have HB := LH hb1; clear hb1; have cc := c0 _ HB.out.kept; clear c0) | (at_builtin; refine ob_byte rfl _ _ rfl rfl _ _ (u8z (by omega) (by omega)) HB.out rfl (by have h_1 := HA.out; have h_2 := HN.out; (try simp only [List.length_append, List.length_cons, List.length_nil, List.length_drop]); omega) ?_; intro v1 w1 hb1; clear HB; have HB := LH hb1; clear hb1) | (at_builtin; refine ob_two rfl _ _ rfl rfl _ _ _ _ (u8z (by omega) (by omega)) (u8z (by omega) (by omega)) HB.out rfl (by have h_1 := HA.out; have h_2 := HN.out; (try simp only [List.length_append, List.length_cons, List.length_nil, List.length_drop]); omega) ?_; intro v1 w1 hb1; clear HB; have HB := LH hb1; clear hb1) | (at_builtin; refine ob_three rfl _ _ rfl rfl _ _ _ _ _ _ (u8z (by omega) (by omega)) (u8z (by omega) (by omega)) (u8z (by omega) (by omega)) HB.out rfl (by have h_1 := HA.out; have h_2 := HN.out; (try simp only [List.length_append, List.length_cons, List.length_nil, List.length_drop]); omega) ?_; intro v1 w1 hb1; clear HB; have HB := LH hb1; clear hb1))
 all_goals go_ret
 all_goals
  refine ⟨_, rfl, ?_⟩
  have hfin := HB.out
  unfold gE sgL frL exL
  rw [HN.out, if_neg (show ¬ 1 < 1 by omega), if_neg (show ¬ 1 = 0 by omega)]
  rw [show l.getD 0 48 = UInt8.ofNat ((x : Int)).toNat from by rw [← HX.out]; simp]
  rw [if_neg (show ¬ dp - 1 < 0 by omega)]
  unfold expoL chz
  first
   | (rw [if_pos (show dp - 1 < 10 by omega)]; simpa using hfin)
   | (rw [if_neg (show ¬ dp - 1 < 10 by omega), if_pos (show dp - 1 < 100 by omega)]; simpa using hfin)
   | (rw [if_neg (show ¬ dp - 1 < 10 by omega), if_neg (show ¬ dp - 1 < 100 by omega)]; simpa using hfin)
theorem efgE0_fn (l : List UInt8) (dp : Int) (g B : Nat) (v : Value) (acc : List UInt8) (W0 w : World) (hl : l.length ≤ 20) (hl2 : l.length = 0) (hd : -420 ≤ dp ∧ dp ≤ 420) (hE : dp < -3) (ha : acc.length ≤ 1000)
  (hb : OB B v acc W0 w) (hc : DigB W0 g l) :
  Calls Tryz.prog 203 #[v, .bool false, .slice (some ⟨g, 0, none⟩) 32 32, .int .i64 dp, .int .i64 (l.length : Int), .int .i64 (l.length : Int), .int .u8 71, .bool true] w fun e w' => ∃ v', e = .returned v' ∧ OB B v' (acc ++ gE false l dp) W0 w' := by
 obtain ⟨d0, d1⟩ := hd
 have HB := LH hb
 have HA := LH ha
 have HC := LH hc
 clear hb hc ha
 obtain ⟨n, hn⟩ : ∃ n, l.length = n := ⟨_, rfl⟩
 rw [hn] at hl hl2 ⊢
 have HN := LH hn
 clear hn
 subst hl2
 obtain ⟨a, ha'⟩ : ∃ a, dp = 1 - a := ⟨1 - dp, by omega⟩
 subst ha'
 have a0 : 5 ≤ a := by omega
 have a1 : a ≤ 421 := by omega
 have hsub : (1 : Int) - a - 1 = -a := by omega
 clear d0 d1
 go_enter Tryz.func203, Tryz.ntmps203
 go_wp2_with (first | (at_builtin; refine ob_byte rfl _ _ rfl rfl _ _ (u8z (by omega) (by omega)) HB.out rfl (by have h_1 := HA.out; have h_2 := HN.out; (try simp only [List.length_append, List.length_cons, List.length_nil, List.length_drop]); omega) ?_; intro v1 w1 hb1; clear HB; have HB := LH hb1; clear hb1) | (at_builtin; refine ob_two rfl _ _ rfl rfl _ _ _ _ (u8z (by omega) (by omega)) (u8z (by omega) (by omega)) HB.out rfl (by have h_1 := HA.out; have h_2 := HN.out; (try simp only [List.length_append, List.length_cons, List.length_nil, List.length_drop]); omega) ?_; intro v1 w1 hb1; clear HB; have HB := LH hb1; clear hb1) | (at_builtin; refine ob_three rfl _ _ rfl rfl _ _ _ _ _ _ (u8z (by omega) (by omega)) (u8z (by omega) (by omega)) (u8z (by omega) (by omega)) HB.out rfl (by have h_1 := HA.out; have h_2 := HN.out; (try simp only [List.length_append, List.length_cons, List.length_nil, List.length_drop]); omega) ?_; intro v1 w1 hb1; clear HB; have HB := LH hb1; clear hb1))
 all_goals go_ret
 all_goals
  refine ⟨_, rfl, ?_⟩
  have hfin := HB.out
  unfold gE sgL frL exL
  rw [HN.out, if_neg (show ¬ 1 < 0 by omega), if_pos (show 0 = 0 by omega)]
  rw [show l.getD 0 48 = 48 from by rw [List.length_eq_zero_iff.1 HN.out]; rfl]
  rw [if_neg (show ¬ (0 : Int) < 0 by omega)]
  unfold expoL chz
  first
   | (rw [if_pos (show (0 : Int) < 10 by omega)]; simpa using hfin)
   | (rw [if_neg (show ¬ (0 : Int) < 10 by omega), if_pos (show (0 : Int) < 100 by omega)]; simpa using hfin)
   | (rw [if_neg (show ¬ (0 : Int) < 10 by omega), if_neg (show ¬ (0 : Int) < 100 by omega)]; simpa using hfin)
theorem efgE0_fp (l : List UInt8) (dp : Int) (g B : Nat) (v : Value) (acc : List UInt8) (W0 w : World) (hl : l.length ≤ 20) (hl2 : l.length = 0) (hd : -420 ≤ dp ∧ dp ≤ 420) (hE : 7 ≤ dp) (ha : acc.length ≤ 1000)
  (hb : OB B v acc W0 w) (hc : DigB W0 g l) :
  Calls Tryz.prog 203 #[v, .bool false, .slice (some ⟨g, 0, none⟩) 32 32, .int .i64 dp, .int .i64 (l.length : Int), .int .i64 (l.length : Int), .int .u8 71, .bool true] w fun e w' => ∃ v', e = .returned v' ∧ OB B v' (acc ++ gE false l dp) W0 w' := by
 obtain ⟨d0, d1⟩ := hd
 have HB := LH hb
 have HA := LH ha
 have HC := LH hc
 clear hb hc ha
 obtain ⟨n, hn⟩ : ∃ n, l.length = n := ⟨_, rfl⟩
 rw [hn] at hl hl2 ⊢
 have HN := LH hn
 clear hn
 subst hl2
 go_enter Tryz.func203, Tryz.ntmps203
 go_wp2_with (first | (at_builtin; refine ob_byte rfl _ _ rfl rfl _ _ (u8z (by omega) (by omega)) HB.out rfl (by have h_1 := HA.out; have h_2 := HN.out; (try simp only [List.length_append, List.length_cons, List.length_nil, List.length_drop]); omega) ?_; intro v1 w1 hb1; clear HB; have HB := LH hb1; clear hb1) | (at_builtin; refine ob_two rfl _ _ rfl rfl _ _ _ _ (u8z (by omega) (by omega)) (u8z (by omega) (by omega)) HB.out rfl (by have h_1 := HA.out; have h_2 := HN.out; (try simp only [List.length_append, List.length_cons, List.length_nil, List.length_drop]); omega) ?_; intro v1 w1 hb1; clear HB; have HB := LH hb1; clear hb1) | (at_builtin; refine ob_three rfl _ _ rfl rfl _ _ _ _ _ _ (u8z (by omega) (by omega)) (u8z (by omega) (by omega)) (u8z (by omega) (by omega)) HB.out rfl (by have h_1 := HA.out; have h_2 := HN.out; (try simp only [List.length_append, List.length_cons, List.length_nil, List.length_drop]); omega) ?_; intro v1 w1 hb1; clear HB; have HB := LH hb1; clear hb1))
 all_goals go_ret
 all_goals
  refine ⟨_, rfl, ?_⟩
  have hfin := HB.out
  unfold gE sgL frL exL
  rw [HN.out, if_neg (show ¬ 1 < 0 by omega), if_pos (show 0 = 0 by omega)]
  rw [show l.getD 0 48 = 48 from by rw [List.length_eq_zero_iff.1 HN.out]; rfl]
  rw [if_neg (show ¬ (0 : Int) < 0 by omega)]
  unfold expoL chz
  first
   | (rw [if_pos (show (0 : Int) < 10 by omega)]; simpa using hfin)
   | (rw [if_neg (show ¬ (0 : Int) < 10 by omega), if_pos (show (0 : Int) < 100 by omega)]; simpa using hfin)
   | (rw [if_neg (show ¬ (0 : Int) < 10 by omega), if_neg (show ¬ (0 : Int) < 100 by omega)]; simpa using hfin)
theorem efgE0_tn (l : List UInt8) (dp : Int) (g B : Nat) (v : Value) (acc : List UInt8) (W0 w : World) (hl : l.length ≤ 20) (hl2 : l.length = 0) (hd : -420 ≤ dp ∧ dp ≤ 420) (hE : dp < -3) (ha : acc.length ≤ 1000)
  (hb : OB B v acc W0 w) (hc : DigB W0 g l) :
  Calls Tryz.prog 203 #[v, .bool true, .slice (some ⟨g, 0, none⟩) 32 32, .int .i64 dp, .int .i64 (l.length : Int), .int .i64 (l.length : Int), .int .u8 71, .bool true] w fun e w' => ∃ v', e = .returned v' ∧ OB B v' (acc ++ gE true l dp) W0 w' := by
 obtain ⟨d0, d1⟩ := hd
 have HB := LH hb
 have HA := LH ha
 have HC := LH hc
 clear hb hc ha
 obtain ⟨n, hn⟩ : ∃ n, l.length = n := ⟨_, rfl⟩
 rw [hn] at hl hl2 ⊢
 have HN := LH hn
 clear hn
 subst hl2
 obtain ⟨a, ha'⟩ : ∃ a, dp = 1 - a := ⟨1 - dp, by omega⟩
 subst ha'
 have a0 : 5 ≤ a := by omega
 have a1 : a ≤ 421 := by omega
 have hsub : (1 : Int) - a - 1 = -a := by omega
 clear d0 d1
 go_enter Tryz.func203, Tryz.ntmps203
 go_wp2_with (first | (at_builtin; refine ob_byte rfl _ _ rfl rfl _ _ (u8z (by omega) (by omega)) HB.out rfl (by have h_1 := HA.out; have h_2 := HN.out; (try simp only [List.length_append, List.length_cons, List.length_nil, List.length_drop]); omega) ?_; intro v1 w1 hb1; clear HB; have HB := LH hb1; clear hb1) | (at_builtin; refine ob_two rfl _ _ rfl rfl _ _ _ _ (u8z (by omega) (by omega)) (u8z (by omega) (by omega)) HB.out rfl (by have h_1 := HA.out; have h_2 := HN.out; (try simp only [List.length_append, List.length_cons, List.length_nil, List.length_drop]); omega) ?_; intro v1 w1 hb1; clear HB; have HB := LH hb1; clear hb1) | (at_builtin; refine ob_three rfl _ _ rfl rfl _ _ _ _ _ _ (u8z (by omega) (by omega)) (u8z (by omega) (by omega)) (u8z (by omega) (by omega)) HB.out rfl (by have h_1 := HA.out; have h_2 := HN.out; (try simp only [List.length_append, List.length_cons, List.length_nil, List.length_drop]); omega) ?_; intro v1 w1 hb1; clear HB; have HB := LH hb1; clear hb1))
 all_goals go_ret
 all_goals
  refine ⟨_, rfl, ?_⟩
  have hfin := HB.out
  unfold gE sgL frL exL
  rw [HN.out, if_neg (show ¬ 1 < 0 by omega), if_pos (show 0 = 0 by omega)]
  rw [show l.getD 0 48 = 48 from by rw [List.length_eq_zero_iff.1 HN.out]; rfl]
  rw [if_neg (show ¬ (0 : Int) < 0 by omega)]
  unfold expoL chz
  first
   | (rw [if_pos (show (0 : Int) < 10 by omega)]; simpa using hfin)
   | (rw [if_neg (show ¬ (0 : Int) < 10 by omega), if_pos (show (0 : Int) < 100 by omega)]; simpa using hfin)
   | (rw [if_neg (show ¬ (0 : Int) < 10 by omega), if_neg (show ¬ (0 : Int) < 100 by omega)]; simpa using hfin)
theorem efgE0_tp (l : List UInt8) (dp : Int) (g B : Nat) (v : Value) (acc : List UInt8) (W0 w : World) (hl : l.length ≤ 20) (hl2 : l.length = 0) (hd : -420 ≤ dp ∧ dp ≤ 420) (hE : 7 ≤ dp) (ha : acc.length ≤ 1000)
  (hb : OB B v acc W0 w) (hc : DigB W0 g l) :
  Calls Tryz.prog 203 #[v, .bool true, .slice (some ⟨g, 0, none⟩) 32 32, .int .i64 dp, .int .i64 (l.length : Int), .int .i64 (l.length : Int), .int .u8 71, .bool true] w fun e w' => ∃ v', e = .returned v' ∧ OB B v' (acc ++ gE true l dp) W0 w' := by
 obtain ⟨d0, d1⟩ := hd
 have HB := LH hb
 have HA := LH ha
 have HC := LH hc
 clear hb hc ha
 obtain ⟨n, hn⟩ : ∃ n, l.length = n := ⟨_, rfl⟩
 rw [hn] at hl hl2 ⊢
 have HN := LH hn
 clear hn
 subst hl2
 go_enter Tryz.func203, Tryz.ntmps203
 go_wp2_with (first | (at_builtin; refine ob_byte rfl _ _ rfl rfl _ _ (u8z (by omega) (by omega)) HB.out rfl (by have h_1 := HA.out; have h_2 := HN.out; (try simp only [List.length_append, List.length_cons, List.length_nil, List.length_drop]); omega) ?_; intro v1 w1 hb1; clear HB; have HB := LH hb1; clear hb1) | (at_builtin; refine ob_two rfl _ _ rfl rfl _ _ _ _ (u8z (by omega) (by omega)) (u8z (by omega) (by omega)) HB.out rfl (by have h_1 := HA.out; have h_2 := HN.out; (try simp only [List.length_append, List.length_cons, List.length_nil, List.length_drop]); omega) ?_; intro v1 w1 hb1; clear HB; have HB := LH hb1; clear hb1) | (at_builtin; refine ob_three rfl _ _ rfl rfl _ _ _ _ _ _ (u8z (by omega) (by omega)) (u8z (by omega) (by omega)) (u8z (by omega) (by omega)) HB.out rfl (by have h_1 := HA.out; have h_2 := HN.out; (try simp only [List.length_append, List.length_cons, List.length_nil, List.length_drop]); omega) ?_; intro v1 w1 hb1; clear HB; have HB := LH hb1; clear hb1))
 all_goals go_ret
 all_goals
  refine ⟨_, rfl, ?_⟩
  have hfin := HB.out
  unfold gE sgL frL exL
  rw [HN.out, if_neg (show ¬ 1 < 0 by omega), if_pos (show 0 = 0 by omega)]
  rw [show l.getD 0 48 = 48 from by rw [List.length_eq_zero_iff.1 HN.out]; rfl]
  rw [if_neg (show ¬ (0 : Int) < 0 by omega)]
  unfold expoL chz
  first
   | (rw [if_pos (show (0 : Int) < 10 by omega)]; simpa using hfin)
   | (rw [if_neg (show ¬ (0 : Int) < 10 by omega), if_pos (show (0 : Int) < 100 by omega)]; simpa using hfin)
   | (rw [if_neg (show ¬ (0 : Int) < 10 by omega), if_neg (show ¬ (0 : Int) < 100 by omega)]; simpa using hfin)
set_option maxHeartbeats 8000000
def gF (neg : Bool) (l : List UInt8) (dp : Int) : List UInt8 :=
 sgL neg ++ ((if 0 < dp then l.take dp.toNat ++ List.replicate (dp.toNat - l.length) 48 else [48]) ++ (if dp < l.length then 46 :: (List.replicate (-dp).toNat 48 ++ l.drop dp.toNat) else []))
theorem efgF1_f (l : List UInt8) (dp : Int) (g B n : Nat) (v : Value) (acc : List UInt8) (W0 w : World) (hn : l.length = n) (hl : n ≤ 20) (hd0 : 1 ≤ dp) (hd1 : dp ≤ 6) (hdn : n ≤ dp) (ha : acc.length ≤ 1000)
  (hb : OB B v acc W0 w) (hc : DigB W0 g l) :
  Calls Tryz.prog 203 #[v, .bool false, .slice (some ⟨g, 0, none⟩) 32 32, .int .i64 dp, .int .i64 (n : Int), .int .i64 (n : Int), .int .u8 71, .bool true] w fun e w' => ∃ v', e = .returned v' ∧ OB B v' (acc ++ gF false l dp) W0 w' := by
 have HB := LH hb
 have HPL := LH ha
 have HC := LH hc
 have HN := LH hn
 clear hb hc ha hn
 obtain ⟨d, rfl⟩ := Int.eq_ofNat_of_zero_le (show 0 ≤ dp by omega)
 have d0 : 1 ≤ d := by omega
 have d1 : d ≤ 6 := by omega
 have d2 : n ≤ d := by omega
 obtain ⟨p, hp⟩ : ∃ p : Nat, (d : Int) - (n : Int) = (p : Int) := ⟨d - n, by omega⟩
 have p1 : p ≤ 6 := by omega
 have P2 := LH (show n + p = d by omega)
 have f1 : min (n : Int) (d : Int) = (n : Int) := by omega
 have f2 : max ((n : Int) - (d : Int)) 0 = 0 := by omega
 have q4 : decide (d < n) = false := by simp; omega
 have q1 : decide ((d : Int) - 1 < -4) = false := by simp; omega
 have q2 : decide (6 ≤ (d : Int) - 1) = false := by simp; omega
 have q3 : decide (0 < d) = true := by simp; omega
 clear hd0 hd1 hdn
 go_enter Tryz.func203, Tryz.ntmps203
 go_wp2_with (first | (at_builtin; refine ob_byte rfl _ _ rfl rfl _ _ (u8z (by omega) (by omega)) HB.out rfl (by have h_1 := HPL.out; have h_2 := HN.out; (try simp only [List.length_append, List.length_cons, List.length_nil, List.length_drop, List.length_take, List.length_replicate]); omega) ?_; intro v1 w1 hb1; clear HB; have HB := LH hb1; clear hb1))
 obtain ⟨pre1, hpre1⟩ : ∃ pre, acc = pre := ⟨_, rfl⟩
 have HPLn := LH (show pre1.length ≤ 1100 by have h_1 := HPL.out; have h_2 := HN.out; rw [← hpre1]; (try simp only [List.length_append, List.length_cons, List.length_nil, List.length_drop, List.length_take, List.length_replicate]); omega)
 clear HPL
 have HPL := HPLn
 clear HPLn
 rw [hpre1] at HB
 have HPR1 := LH hpre1
 clear hpre1
 go_loopg [0, 191] n (fun gk dst i wr => ∃ k : Nat, i = .int .i64 k ∧ k ≤ n ∧ n - k ≤ gk ∧ Hid (OB B dst (pre1 ++ (l.drop 0).take k) W0 wr))
 case atStart => exact ⟨0, rfl, Nat.zero_le _, Nat.le_refl _, by have := HB.out; show OB _ _ _ _ _; simpa using this⟩
 case round =>
  obtain ⟨k, rfl, hkc, hkg, HBr⟩ := hrel
  clear HB
  by_cases hlt : k < n
  ·obtain ⟨b, hb⟩ : ∃ b, l[0 + k]? = some b := ⟨_, List.getElem?_eq_getElem (by rw [HN.out]; omega)⟩
   have cc := anyCell HC.out HBr.out.kept (0 + k) b hb
   have HTK := LH (show (l.drop 0).take (k + 1) = (l.drop 0).take k ++ [b] by rw [List.take_add_one, List.getElem?_drop, hb]; rfl)
   obtain ⟨x, hx⟩ : ∃ x, b.toNat = x := ⟨_, rfl⟩
   have xlt : x < 256 := by rw [← hx]; exact UInt8.toNat_lt _
   rw [hx] at cc
   have HX := LH hx
   clear hx hb
   rw [Nat.zero_add] at cc
   go_wp2_with (at_builtin; refine ob_byte rfl _ _ rfl rfl b _ (by rw [HX.out]) HBr.out rfl (by have h_1 := HPL.out; have h_2 := HN.out; simp only [List.length_append, List.length_cons, List.length_nil, List.length_drop, List.length_take, List.length_replicate]; omega) ?_; intro v1 w1 hb1; clear HBr; have HB := LH hb1; clear hb1)
   go_roundg (n - (k + 1))
   case rel => exact ⟨k + 1, by go_num, by omega, by omega, by have := HB.out; rw [HTK.out]; show OB _ _ _ _ _; simpa using this⟩
   case measure => omega
  ·obtain rfl : n = k := by omega
   have HB := HBr
   clear HBr
   go_wp2_with (first | (at_builtin; refine ob_byte rfl _ _ rfl rfl _ _ (u8z (by omega) (by omega)) HB.out rfl (by have h_1 := HPL.out; have h_2 := HN.out; (try simp only [List.length_append, List.length_cons, List.length_nil, List.length_drop, List.length_take, List.length_replicate]); omega) ?_; intro v1 w1 hb1; clear HB; have HB := LH hb1; clear hb1))
   obtain ⟨pre2, hpre2⟩ : ∃ pre, pre1 ++ (l.drop 0).take n = pre := ⟨_, rfl⟩
   have HPLn := LH (show pre2.length ≤ 1200 by have h_1 := HPL.out; have h_2 := HN.out; rw [← hpre2]; (try simp only [List.length_append, List.length_cons, List.length_nil, List.length_drop, List.length_take, List.length_replicate]); omega)
   clear HPL
   have HPL := HPLn
   clear HPLn
   rw [hpre2] at HB
   have HPR2 := LH hpre2
   clear hpre2
   go_loopg [0, 203] p (fun gk dst i wr => ∃ k : Nat, i = .int .i64 k ∧ k ≤ p ∧ p - k ≤ gk ∧ Hid (OB B dst (pre2 ++ List.replicate k 48) W0 wr))
   case atStart => exact ⟨0, rfl, Nat.zero_le _, Nat.le_refl _, by have := HB.out; show OB _ _ _ _ _; simpa using this⟩
   case round =>
    obtain ⟨k, rfl, hkc, hkg, HBr⟩ := hrel
    clear HB
    by_cases hlt : k < p
    ·go_wp2_with (at_builtin; refine ob_byte rfl _ _ rfl rfl 48 _ rfl HBr.out rfl (by have h_1 := HPL.out; simp only [List.length_append, List.length_cons, List.length_nil, List.length_drop, List.length_take, List.length_replicate]; omega) ?_; intro v1 w1 hb1; clear HBr; have HB := LH hb1; clear hb1)
     go_roundg (p - (k + 1))
     case rel => exact ⟨k + 1, by go_num, by omega, by omega, by have := HB.out; show OB _ _ _ _ _; rw [List.replicate_succ', ← List.append_assoc]; exact this⟩
     case measure => omega
    ·obtain rfl : p = k := by omega
     have HB := HBr
     clear HBr
     go_wp2_with (first | (at_builtin; refine ob_byte rfl _ _ rfl rfl _ _ (u8z (by omega) (by omega)) HB.out rfl (by have h_1 := HPL.out; have h_2 := HN.out; (try simp only [List.length_append, List.length_cons, List.length_nil, List.length_drop, List.length_take, List.length_replicate]); omega) ?_; intro v1 w1 hb1; clear HB; have HB := LH hb1; clear hb1))
     go_ret
     refine ⟨_, rfl, ?_⟩
     have hfin := HB.out
     rw [← HPR2.out, ← HPR1.out] at hfin
     unfold gF sgL
     rw [if_pos (show (0 : Int) < (d : Int) by omega), if_neg (show ¬ (d : Int) < (l.length : Int) by rw [HN.out]; omega), HN.out, show ((d : Int)).toNat - n = p from by (have := P2.out; omega), show ((d : Int)).toNat = d from by omega]
     rw [List.drop_zero, show l.take n = l.take d from by rw [List.take_of_length_le (by rw [HN.out]; omega), List.take_of_length_le (by rw [HN.out]; omega)]] at hfin
     simpa using hfin
theorem efgF2_f (l : List UInt8) (dp : Int) (g B n : Nat) (v : Value) (acc : List UInt8) (W0 w : World) (hn : l.length = n) (hl : n ≤ 20) (hd0 : 1 ≤ dp) (hd1 : dp ≤ 6) (hdn : dp < n) (ha : acc.length ≤ 1000)
  (hb : OB B v acc W0 w) (hc : DigB W0 g l) :
  Calls Tryz.prog 203 #[v, .bool false, .slice (some ⟨g, 0, none⟩) 32 32, .int .i64 dp, .int .i64 (n : Int), .int .i64 (n : Int), .int .u8 71, .bool true] w fun e w' => ∃ v', e = .returned v' ∧ OB B v' (acc ++ gF false l dp) W0 w' := by
 have HB := LH hb
 have HPL := LH ha
 have HC := LH hc
 have HN := LH hn
 clear hb hc ha hn
 obtain ⟨d, rfl⟩ := Int.eq_ofNat_of_zero_le (show 0 ≤ dp by omega)
 have d0 : 1 ≤ d := by omega
 have d1 : d ≤ 6 := by omega
 have d2 : d < n := by omega
 obtain ⟨p, hp⟩ : ∃ p : Nat, (n : Int) - (d : Int) = (p : Int) := ⟨n - d, by omega⟩
 have p0 : 1 ≤ p := by omega
 have p1 : p ≤ 20 := by omega
 have p2 : d + p = n := by omega
 have P2 := LH p2
 have f1 : min (n : Int) (d : Int) = (d : Int) := by omega
 have f2 : max (p : Int) 0 = (p : Int) := by omega
 have f3 : max 0 (-(d : Int)) = 0 := by omega
 have f4 : min (p : Int) 0 = 0 := by omega
 have f5 : max 0 (p : Int) = (p : Int) := by omega
 have q1 : decide ((d : Int) - 1 < -4) = false := by simp; omega
 have q2 : decide (6 ≤ (d : Int) - 1) = false := by simp; omega
 have q3 : decide (0 < d) = true := by simp; omega
 have q4 : decide (0 < p) = true := by simp; omega
 have dk : ∀ k : Nat, k < p → d + k < n := by intro k hk; omega
 have DK := LH dk
 clear hd0 hd1 hdn p2 dk
 go_enter Tryz.func203, Tryz.ntmps203
 go_wp2_with (first | (at_builtin; refine ob_byte rfl _ _ rfl rfl _ _ (u8z (by omega) (by omega)) HB.out rfl (by have h_1 := HPL.out; have h_2 := HN.out; (try simp only [List.length_append, List.length_cons, List.length_nil, List.length_drop, List.length_take, List.length_replicate]); omega) ?_; intro v1 w1 hb1; clear HB; have HB := LH hb1; clear hb1))
 obtain ⟨pre1, hpre1⟩ : ∃ pre, acc = pre := ⟨_, rfl⟩
 have HPLn := LH (show pre1.length ≤ 1100 by have h_1 := HPL.out; have h_2 := HN.out; rw [← hpre1]; (try simp only [List.length_append, List.length_cons, List.length_nil, List.length_drop, List.length_take, List.length_replicate]); omega)
 clear HPL
 have HPL := HPLn
 clear HPLn
 rw [hpre1] at HB
 have HPR1 := LH hpre1
 clear hpre1
 go_loopg [0, 191] d (fun gk dst i wr => ∃ k : Nat, i = .int .i64 k ∧ k ≤ d ∧ d - k ≤ gk ∧ Hid (OB B dst (pre1 ++ (l.drop 0).take k) W0 wr))
 case atStart => exact ⟨0, rfl, Nat.zero_le _, Nat.le_refl _, by have := HB.out; show OB _ _ _ _ _; simpa using this⟩
 case round =>
  obtain ⟨k, rfl, hkc, hkg, HBr⟩ := hrel
  clear HB
  by_cases hlt : k < d
  ·obtain ⟨b, hb⟩ : ∃ b, l[0 + k]? = some b := ⟨_, List.getElem?_eq_getElem (by rw [HN.out]; omega)⟩
   have cc := anyCell HC.out HBr.out.kept (0 + k) b hb
   have HTK := LH (show (l.drop 0).take (k + 1) = (l.drop 0).take k ++ [b] by rw [List.take_add_one, List.getElem?_drop, hb]; rfl)
   obtain ⟨x, hx⟩ : ∃ x, b.toNat = x := ⟨_, rfl⟩
   have xlt : x < 256 := by rw [← hx]; exact UInt8.toNat_lt _
   rw [hx] at cc
   have HX := LH hx
   clear hx hb
   rw [Nat.zero_add] at cc
   go_wp2_with (at_builtin; refine ob_byte rfl _ _ rfl rfl b _ (by rw [HX.out]) HBr.out rfl (by have h_1 := HPL.out; have h_2 := HN.out; simp only [List.length_append, List.length_cons, List.length_nil, List.length_drop, List.length_take, List.length_replicate]; omega) ?_; intro v1 w1 hb1; clear HBr; have HB := LH hb1; clear hb1)
   go_roundg (d - (k + 1))
   case rel => exact ⟨k + 1, by go_num, by omega, by omega, by have := HB.out; rw [HTK.out]; show OB _ _ _ _ _; simpa using this⟩
   case measure => omega
  ·obtain rfl : d = k := by omega
   have HB := HBr
   clear HBr
   go_wp2_with (first | (at_builtin; refine ob_byte rfl _ _ rfl rfl _ _ (u8z (by omega) (by omega)) HB.out rfl (by have h_1 := HPL.out; have h_2 := HN.out; (try simp only [List.length_append, List.length_cons, List.length_nil, List.length_drop, List.length_take, List.length_replicate]); omega) ?_; intro v1 w1 hb1; clear HB; have HB := LH hb1; clear hb1))
   refine wp_loop_rounds 1 ?_
   rw [rounds_succ]
   go_wp2_with (first | (at_builtin; refine ob_byte rfl _ _ rfl rfl _ _ (u8z (by omega) (by omega)) HB.out rfl (by have h_1 := HPL.out; have h_2 := HN.out; (try simp only [List.length_append, List.length_cons, List.length_nil, List.length_drop, List.length_take, List.length_replicate]); omega) ?_; intro v1 w1 hb1; clear HB; have HB := LH hb1; clear hb1))
   refine wp_loop_rounds 1 ?_
   rw [rounds_succ]
   go_wp2_with (first | (at_builtin; refine ob_byte rfl _ _ rfl rfl _ _ (u8z (by omega) (by omega)) HB.out rfl (by have h_1 := HPL.out; have h_2 := HN.out; (try simp only [List.length_append, List.length_cons, List.length_nil, List.length_drop, List.length_take, List.length_replicate]); omega) ?_; intro v1 w1 hb1; clear HB; have HB := LH hb1; clear hb1))
   obtain ⟨pre2, hpre2⟩ : ∃ pre, pre1 ++ (l.drop 0).take d ++ [UInt8.ofNat (Int.toNat 46)] = pre := ⟨_, rfl⟩
   have HPLn := LH (show pre2.length ≤ 1200 by have h_1 := HPL.out; have h_2 := HN.out; rw [← hpre2]; (try simp only [List.length_append, List.length_cons, List.length_nil, List.length_drop, List.length_take, List.length_replicate]); omega)
   clear HPL
   have HPL := HPLn
   clear HPLn
   rw [hpre2] at HB
   have HPR2 := LH hpre2
   clear hpre2
   go_loopg [0, 247] p (fun gk dst i wr => ∃ k : Nat, i = .int .i64 k ∧ k ≤ p ∧ p - k ≤ gk ∧ Hid (OB B dst (pre2 ++ (l.drop d).take k) W0 wr))
   case atStart => exact ⟨0, rfl, Nat.zero_le _, Nat.le_refl _, by have := HB.out; show OB _ _ _ _ _; simpa using this⟩
   case round =>
    obtain ⟨k, rfl, hkc, hkg, HBr⟩ := hrel
    clear HB
    by_cases hlt : k < p
    ·obtain ⟨b, hb⟩ : ∃ b, l[d + k]? = some b := ⟨_, List.getElem?_eq_getElem (by rw [HN.out]; omega)⟩
     have cc := anyCell HC.out HBr.out.kept (d + k) b hb
     have HTK := LH (show (l.drop d).take (k + 1) = (l.drop d).take k ++ [b] by rw [List.take_add_one, List.getElem?_drop, hb]; rfl)
     obtain ⟨x, hx⟩ : ∃ x, b.toNat = x := ⟨_, rfl⟩
     have xlt : x < 256 := by rw [← hx]; exact UInt8.toNat_lt _
     rw [hx] at cc
     have HX := LH hx
     clear hx hb
     have hdk := DK.out k hlt
     go_wp2_with (at_builtin; refine ob_byte rfl _ _ rfl rfl b _ (by rw [HX.out]) HBr.out rfl (by have h_1 := HPL.out; have h_2 := HN.out; simp only [List.length_append, List.length_cons, List.length_nil, List.length_drop, List.length_take, List.length_replicate]; omega) ?_; intro v1 w1 hb1; clear HBr; have HB := LH hb1; clear hb1)
     go_roundg (p - (k + 1))
     case rel => exact ⟨k + 1, by go_num, by omega, by omega, by have := HB.out; rw [HTK.out]; show OB _ _ _ _ _; simpa using this⟩
     case measure => omega
    ·obtain rfl : p = k := by omega
     have HB := HBr
     clear HBr
     go_wp2_with (first | (at_builtin; refine ob_byte rfl _ _ rfl rfl _ _ (u8z (by omega) (by omega)) HB.out rfl (by have h_1 := HPL.out; have h_2 := HN.out; (try simp only [List.length_append, List.length_cons, List.length_nil, List.length_drop, List.length_take, List.length_replicate]); omega) ?_; intro v1 w1 hb1; clear HB; have HB := LH hb1; clear hb1))
     refine wp_loop_rounds 1 ?_
     rw [rounds_succ]
     go_wp2_with (first | (at_builtin; refine ob_byte rfl _ _ rfl rfl _ _ (u8z (by omega) (by omega)) HB.out rfl (by have h_1 := HPL.out; have h_2 := HN.out; (try simp only [List.length_append, List.length_cons, List.length_nil, List.length_drop, List.length_take, List.length_replicate]); omega) ?_; intro v1 w1 hb1; clear HB; have HB := LH hb1; clear hb1))
     go_ret
     refine ⟨_, rfl, ?_⟩
     have hfin := HB.out
     rw [← HPR2.out, ← HPR1.out] at hfin
     unfold gF sgL
     rw [if_pos (show (0 : Int) < (d : Int) by omega), if_pos (show (d : Int) < (l.length : Int) by rw [HN.out]; omega), HN.out, show ((d : Int)).toNat - n = 0 from by omega, show (-(d : Int)).toNat = 0 from by omega]
     rw [show (l.drop d).take p = l.drop d from List.take_of_length_le (by rw [List.length_drop, HN.out]; omega)] at hfin
     simpa using hfin
theorem efgF3_f (l : List UInt8) (dp : Int) (g B n : Nat) (v : Value) (acc : List UInt8) (W0 w : World) (hn : l.length = n) (hl : n ≤ 20) (hd0 : -3 ≤ dp) (hd1 : dp ≤ 0) (hdn : dp < n) (ha : acc.length ≤ 1000)
  (hb : OB B v acc W0 w) (hc : DigB W0 g l) :
  Calls Tryz.prog 203 #[v, .bool false, .slice (some ⟨g, 0, none⟩) 32 32, .int .i64 dp, .int .i64 (n : Int), .int .i64 (n : Int), .int .u8 71, .bool true] w fun e w' => ∃ v', e = .returned v' ∧ OB B v' (acc ++ gF false l dp) W0 w' := by
 have HB := LH hb
 have HPL := LH ha
 have HC := LH hc
 have HN := LH hn
 clear hb hc ha hn
 obtain ⟨d, hd⟩ : ∃ d : Nat, dp = -(d : Int) := ⟨(-dp).toNat, by omega⟩
 subst hd
 have d1 : d ≤ 3 := by omega
 obtain ⟨p, hp⟩ : ∃ p : Nat, (n : Int) - -(d : Int) = (p : Int) := ⟨n + d, by omega⟩
 have p1 : p ≤ 23 := by omega
 have p0 : 1 ≤ p := by omega
 have hp1 : (p : Int) - (d : Int) = (n : Int) := by omega
 have P2 := LH (show n + d = p by omega)
 have f1 : min (p : Int) (d : Int) = (d : Int) := by omega
 have f2 : max (p : Int) 0 = (p : Int) := by omega
 have f3 : max 0 (d : Int) = (d : Int) := by omega
 have f4 : max 0 (n : Int) = (n : Int) := by omega
 have f6 : -(d : Int) + (d : Int) = 0 := by omega
 have q1 : decide (-(d : Int) - 1 < -4) = false := by simp; omega
 have q2 : decide (6 ≤ -(d : Int) - 1) = false := by first | (simp; done) | (simp; omega)
 have q3 : decide (0 < -(d : Int)) = false := by first | (simp; done) | (simp; omega)
 have q4 : decide (0 < p) = true := by simp; omega
 have q5 : decide ((n : Int) > -(d : Int)) = true := by first | (simp; done) | (simp; omega)
 have q6 : decide (-(d : Int) < (n : Int)) = true := by first | (simp; done) | (simp; omega)
 clear hd0 hd1 hdn
 go_enter Tryz.func203, Tryz.ntmps203
 go_wp2_with (first | (at_builtin; refine ob_byte rfl _ _ rfl rfl _ _ (u8z (by omega) (by omega)) HB.out rfl (by have h_1 := HPL.out; have h_2 := HN.out; (try simp only [List.length_append, List.length_cons, List.length_nil, List.length_drop, List.length_take, List.length_replicate]); omega) ?_; intro v1 w1 hb1; clear HB; have HB := LH hb1; clear hb1))
 obtain ⟨pre1, hpre1⟩ : ∃ pre, acc ++ [UInt8.ofNat (Int.toNat 48)] ++ [UInt8.ofNat (Int.toNat 46)] = pre := ⟨_, rfl⟩
 have HPLn := LH (show pre1.length ≤ 1100 by have h_1 := HPL.out; have h_2 := HN.out; rw [← hpre1]; (try simp only [List.length_append, List.length_cons, List.length_nil, List.length_drop, List.length_take, List.length_replicate]); omega)
 clear HPL
 have HPL := HPLn
 clear HPLn
 rw [hpre1] at HB
 have HPR1 := LH hpre1
 clear hpre1
 go_loopg [0, 240] d (fun gk dst i wr => ∃ k : Nat, i = .int .i64 k ∧ k ≤ d ∧ d - k ≤ gk ∧ Hid (OB B dst (pre1 ++ List.replicate k 48) W0 wr))
 case atStart => exact ⟨0, rfl, Nat.zero_le _, Nat.le_refl _, by have := HB.out; show OB _ _ _ _ _; simpa using this⟩
 case round =>
  obtain ⟨k, rfl, hkc, hkg, HBr⟩ := hrel
  clear HB
  by_cases hlt : k < d
  ·go_wp2_with (at_builtin; refine ob_byte rfl _ _ rfl rfl 48 _ rfl HBr.out rfl (by have h_1 := HPL.out; simp only [List.length_append, List.length_cons, List.length_nil, List.length_drop, List.length_take, List.length_replicate]; omega) ?_; intro v1 w1 hb1; clear HBr; have HB := LH hb1; clear hb1)
   go_roundg (d - (k + 1))
   case rel => exact ⟨k + 1, by go_num, by omega, by omega, by have := HB.out; show OB _ _ _ _ _; rw [List.replicate_succ', ← List.append_assoc]; exact this⟩
   case measure => omega
  ·obtain rfl : d = k := by omega
   have HB := HBr
   clear HBr
   go_wp2_with (first | (at_builtin; refine ob_byte rfl _ _ rfl rfl _ _ (u8z (by omega) (by omega)) HB.out rfl (by have h_1 := HPL.out; have h_2 := HN.out; (try simp only [List.length_append, List.length_cons, List.length_nil, List.length_drop, List.length_take, List.length_replicate]); omega) ?_; intro v1 w1 hb1; clear HB; have HB := LH hb1; clear hb1))
   obtain ⟨pre2, hpre2⟩ : ∃ pre, pre1 ++ List.replicate d 48 = pre := ⟨_, rfl⟩
   have HPLn := LH (show pre2.length ≤ 1200 by have h_1 := HPL.out; have h_2 := HN.out; rw [← hpre2]; (try simp only [List.length_append, List.length_cons, List.length_nil, List.length_drop, List.length_take, List.length_replicate]); omega)
   clear HPL
   have HPL := HPLn
   clear HPLn
   rw [hpre2] at HB
   have HPR2 := LH hpre2
   clear hpre2
   go_loopg [0, 247] n (fun gk dst i wr => ∃ k : Nat, i = .int .i64 k ∧ k ≤ n ∧ n - k ≤ gk ∧ Hid (OB B dst (pre2 ++ (l.drop 0).take k) W0 wr))
   case atStart => exact ⟨0, rfl, Nat.zero_le _, Nat.le_refl _, by have := HB.out; show OB _ _ _ _ _; simpa using this⟩
   case round =>
    obtain ⟨k, rfl, hkc, hkg, HBr⟩ := hrel
    clear HB
    by_cases hlt : k < n
    ·obtain ⟨b, hb⟩ : ∃ b, l[0 + k]? = some b := ⟨_, List.getElem?_eq_getElem (by rw [HN.out]; omega)⟩
     have cc := anyCell HC.out HBr.out.kept (0 + k) b hb
     have HTK := LH (show (l.drop 0).take (k + 1) = (l.drop 0).take k ++ [b] by rw [List.take_add_one, List.getElem?_drop, hb]; rfl)
     obtain ⟨x, hx⟩ : ∃ x, b.toNat = x := ⟨_, rfl⟩
     have xlt : x < 256 := by rw [← hx]; exact UInt8.toNat_lt _
     rw [hx] at cc
     have HX := LH hx
     clear hx hb
     rw [Nat.zero_add] at cc
     go_wp2_with (at_builtin; refine ob_byte rfl _ _ rfl rfl b _ (by rw [HX.out]) HBr.out rfl (by have h_1 := HPL.out; have h_2 := HN.out; simp only [List.length_append, List.length_cons, List.length_nil, List.length_drop, List.length_take, List.length_replicate]; omega) ?_; intro v1 w1 hb1; clear HBr; have HB := LH hb1; clear hb1)
     go_roundg (n - (k + 1))
     case rel => exact ⟨k + 1, by go_num, by omega, by omega, by have := HB.out; rw [HTK.out]; show OB _ _ _ _ _; simpa using this⟩
     case measure => omega
    ·obtain rfl : n = k := by omega
     have HB := HBr
     clear HBr
     go_wp2_with (first | (at_builtin; refine ob_byte rfl _ _ rfl rfl _ _ (u8z (by omega) (by omega)) HB.out rfl (by have h_1 := HPL.out; have h_2 := HN.out; (try simp only [List.length_append, List.length_cons, List.length_nil, List.length_drop, List.length_take, List.length_replicate]); omega) ?_; intro v1 w1 hb1; clear HB; have HB := LH hb1; clear hb1))
     refine wp_loop_rounds 1 ?_
     rw [rounds_succ]
     go_wp2_with (first | (at_builtin; refine ob_byte rfl _ _ rfl rfl _ _ (u8z (by omega) (by omega)) HB.out rfl (by have h_1 := HPL.out; have h_2 := HN.out; (try simp only [List.length_append, List.length_cons, List.length_nil, List.length_drop, List.length_take, List.length_replicate]); omega) ?_; intro v1 w1 hb1; clear HB; have HB := LH hb1; clear hb1))
     go_ret
     refine ⟨_, rfl, ?_⟩
     have hfin := HB.out
     rw [← HPR2.out, ← HPR1.out] at hfin
     unfold gF sgL
     rw [if_neg (show ¬ (0 : Int) < -(d : Int) by omega), if_pos (show -(d : Int) < (l.length : Int) by rw [HN.out]; omega), show (-(d : Int)).toNat = 0 from by omega, show (- -(d : Int)).toNat = d from by omega]
     rw [List.drop_zero, show l.take n = l from List.take_of_length_le (by rw [HN.out]; omega)] at hfin
     simpa using hfin
theorem efgZ_f (g B : Nat) (v : Value) (acc : List UInt8) (W0 w : World) (ha : acc.length ≤ 1000) (hb : OB B v acc W0 w) :
  Calls Tryz.prog 203 #[v, .bool false, .slice none 0 0, .int .i64 0, .int .i64 0, .int .i64 (-1), .int .u8 71, .bool true] w fun e w' => ∃ v', e = .returned v' ∧ OB B v' (acc ++ gF false [] 0) W0 w' := by
 have HB := LH hb
 have HPL := LH ha
 have HN := LH (show True from trivial)
 clear hb ha
 go_enter Tryz.func203, Tryz.ntmps203
 go_wp2_with (first | (at_builtin; refine ob_byte rfl _ _ rfl rfl _ _ (u8z (by omega) (by omega)) HB.out rfl (by have h_1 := HPL.out; have h_2 := HN.out; (try simp only [List.length_append, List.length_cons, List.length_nil, List.length_drop, List.length_take, List.length_replicate]); omega) ?_; intro v1 w1 hb1; clear HB; have HB := LH hb1; clear hb1))
 go_ret
 refine ⟨_, rfl, ?_⟩
 have hfin := HB.out
 unfold gF sgL
 simpa using hfin
theorem efgN_f (g B : Nat) (v : Value) (acc : List UInt8) (W0 w : World) (ha : acc.length ≤ 1000) (hb : OB B v acc W0 w) :
  Calls Tryz.prog 203 #[v, .bool false, .slice (some ⟨g, 0, none⟩) 32 32, .int .i64 0, .int .i64 0, .int .i64 0, .int .u8 71, .bool true] w fun e w' => ∃ v', e = .returned v' ∧ OB B v' (acc ++ gF false [] 0) W0 w' := by
 have HB := LH hb
 have HPL := LH ha
 have HN := LH (show True from trivial)
 clear hb ha
 go_enter Tryz.func203, Tryz.ntmps203
 go_wp2_with (first | (at_builtin; refine ob_byte rfl _ _ rfl rfl _ _ (u8z (by omega) (by omega)) HB.out rfl (by have h_1 := HPL.out; have h_2 := HN.out; (try simp only [List.length_append, List.length_cons, List.length_nil, List.length_drop, List.length_take, List.length_replicate]); omega) ?_; intro v1 w1 hb1; clear HB; have HB := LH hb1; clear hb1))
 go_ret
 refine ⟨_, rfl, ?_⟩
 have hfin := HB.out
 unfold gF sgL
 simpa using hfin
theorem efgF1_t (l : List UInt8) (dp : Int) (g B n : Nat) (v : Value) (acc : List UInt8) (W0 w : World) (hn : l.length = n) (hl : n ≤ 20) (hd0 : 1 ≤ dp) (hd1 : dp ≤ 6) (hdn : n ≤ dp) (ha : acc.length ≤ 1000)
  (hb : OB B v acc W0 w) (hc : DigB W0 g l) :
  Calls Tryz.prog 203 #[v, .bool true, .slice (some ⟨g, 0, none⟩) 32 32, .int .i64 dp, .int .i64 (n : Int), .int .i64 (n : Int), .int .u8 71, .bool true] w fun e w' => ∃ v', e = .returned v' ∧ OB B v' (acc ++ gF true l dp) W0 w' := by
 have HB := LH hb
 have HPL := LH ha
 have HC := LH hc
 have HN := LH hn
 clear hb hc ha hn
 obtain ⟨d, rfl⟩ := Int.eq_ofNat_of_zero_le (show 0 ≤ dp by omega)
 have d0 : 1 ≤ d := by omega
 have d1 : d ≤ 6 := by omega
 have d2 : n ≤ d := by omega
 obtain ⟨p, hp⟩ : ∃ p : Nat, (d : Int) - (n : Int) = (p : Int) := ⟨d - n, by omega⟩
 have p1 : p ≤ 6 := by omega
 have P2 := LH (show n + p = d by omega)
 have f1 : min (n : Int) (d : Int) = (n : Int) := by omega
 have f2 : max ((n : Int) - (d : Int)) 0 = 0 := by omega
 have q4 : decide (d < n) = false := by simp; omega
 have q1 : decide ((d : Int) - 1 < -4) = false := by simp; omega
 have q2 : decide (6 ≤ (d : Int) - 1) = false := by simp; omega
 have q3 : decide (0 < d) = true := by simp; omega
 clear hd0 hd1 hdn
 go_enter Tryz.func203, Tryz.ntmps203
 go_wp2_with (first | (at_builtin; refine ob_byte rfl _ _ rfl rfl _ _ (u8z (by omega) (by omega)) HB.out rfl (by have h_1 := HPL.out; have h_2 := HN.out; (try simp only [List.length_append, List.length_cons, List.length_nil, List.length_drop, List.length_take, List.length_replicate]); omega) ?_; intro v1 w1 hb1; clear HB; have HB := LH hb1; clear hb1))
 obtain ⟨pre1, hpre1⟩ : ∃ pre, acc ++ [UInt8.ofNat (Int.toNat 45)] = pre := ⟨_, rfl⟩
 have HPLn := LH (show pre1.length ≤ 1100 by have h_1 := HPL.out; have h_2 := HN.out; rw [← hpre1]; (try simp only [List.length_append, List.length_cons, List.length_nil, List.length_drop, List.length_take, List.length_replicate]); omega)
 clear HPL
 have HPL := HPLn
 clear HPLn
 rw [hpre1] at HB
 have HPR1 := LH hpre1
 clear hpre1
 go_loopg [0, 191] n (fun gk dst i wr => ∃ k : Nat, i = .int .i64 k ∧ k ≤ n ∧ n - k ≤ gk ∧ Hid (OB B dst (pre1 ++ (l.drop 0).take k) W0 wr))
 case atStart => exact ⟨0, rfl, Nat.zero_le _, Nat.le_refl _, by have := HB.out; show OB _ _ _ _ _; simpa using this⟩
 case round =>
  obtain ⟨k, rfl, hkc, hkg, HBr⟩ := hrel
  clear HB
  by_cases hlt : k < n
  ·obtain ⟨b, hb⟩ : ∃ b, l[0 + k]? = some b := ⟨_, List.getElem?_eq_getElem (by rw [HN.out]; omega)⟩
   have cc := anyCell HC.out HBr.out.kept (0 + k) b hb
   have HTK := LH (show (l.drop 0).take (k + 1) = (l.drop 0).take k ++ [b] by rw [List.take_add_one, List.getElem?_drop, hb]; rfl)
   obtain ⟨x, hx⟩ : ∃ x, b.toNat = x := ⟨_, rfl⟩
   have xlt : x < 256 := by rw [← hx]; exact UInt8.toNat_lt _
   rw [hx] at cc
   have HX := LH hx
   clear hx hb
   rw [Nat.zero_add] at cc
   go_wp2_with (at_builtin; refine ob_byte rfl _ _ rfl rfl b _ (by rw [HX.out]) HBr.out rfl (by have h_1 := HPL.out; have h_2 := HN.out; simp only [List.length_append, List.length_cons, List.length_nil, List.length_drop, List.length_take, List.length_replicate]; omega) ?_; intro v1 w1 hb1; clear HBr; have HB := LH hb1; clear hb1)
   go_roundg (n - (k + 1))
   case rel => exact ⟨k + 1, by go_num, by omega, by omega, by have := HB.out; rw [HTK.out]; show OB _ _ _ _ _; simpa using this⟩
   case measure => omega
  ·obtain rfl : n = k := by omega
   have HB := HBr
   clear HBr
   go_wp2_with (first | (at_builtin; refine ob_byte rfl _ _ rfl rfl _ _ (u8z (by omega) (by omega)) HB.out rfl (by have h_1 := HPL.out; have h_2 := HN.out; (try simp only [List.length_append, List.length_cons, List.length_nil, List.length_drop, List.length_take, List.length_replicate]); omega) ?_; intro v1 w1 hb1; clear HB; have HB := LH hb1; clear hb1))
   obtain ⟨pre2, hpre2⟩ : ∃ pre, pre1 ++ (l.drop 0).take n = pre := ⟨_, rfl⟩
   have HPLn := LH (show pre2.length ≤ 1200 by have h_1 := HPL.out; have h_2 := HN.out; rw [← hpre2]; (try simp only [List.length_append, List.length_cons, List.length_nil, List.length_drop, List.length_take, List.length_replicate]); omega)
   clear HPL
   have HPL := HPLn
   clear HPLn
   rw [hpre2] at HB
   have HPR2 := LH hpre2
   clear hpre2
   go_loopg [0, 203] p (fun gk dst i wr => ∃ k : Nat, i = .int .i64 k ∧ k ≤ p ∧ p - k ≤ gk ∧ Hid (OB B dst (pre2 ++ List.replicate k 48) W0 wr))
   case atStart => exact ⟨0, rfl, Nat.zero_le _, Nat.le_refl _, by have := HB.out; show OB _ _ _ _ _; simpa using this⟩
   case round =>
    obtain ⟨k, rfl, hkc, hkg, HBr⟩ := hrel
    clear HB
    by_cases hlt : k < p
    ·go_wp2_with (at_builtin; refine ob_byte rfl _ _ rfl rfl 48 _ rfl HBr.out rfl (by have h_1 := HPL.out; simp only [List.length_append, List.length_cons, List.length_nil, List.length_drop, List.length_take, List.length_replicate]; omega) ?_; intro v1 w1 hb1; clear HBr; have HB := LH hb1; clear hb1)
     go_roundg (p - (k + 1))
     case rel => exact ⟨k + 1, by go_num, by omega, by omega, by have := HB.out; show OB _ _ _ _ _; rw [List.replicate_succ', ← List.append_assoc]; exact this⟩
     case measure => omega
    ·obtain rfl : p = k := by omega
     have HB := HBr
     clear HBr
     go_wp2_with (first | (at_builtin; refine ob_byte rfl _ _ rfl rfl _ _ (u8z (by omega) (by omega)) HB.out rfl (by have h_1 := HPL.out; have h_2 := HN.out; (try simp only [List.length_append, List.length_cons, List.length_nil, List.length_drop, List.length_take, List.length_replicate]); omega) ?_; intro v1 w1 hb1; clear HB; have HB := LH hb1; clear hb1))
     go_ret
     refine ⟨_, rfl, ?_⟩
     have hfin := HB.out
     rw [← HPR2.out, ← HPR1.out] at hfin
     unfold gF sgL
     rw [if_pos (show (0 : Int) < (d : Int) by omega), if_neg (show ¬ (d : Int) < (l.length : Int) by rw [HN.out]; omega), HN.out, show ((d : Int)).toNat - n = p from by (have := P2.out; omega), show ((d : Int)).toNat = d from by omega]
     rw [List.drop_zero, show l.take n = l.take d from by rw [List.take_of_length_le (by rw [HN.out]; omega), List.take_of_length_le (by rw [HN.out]; omega)]] at hfin
     simpa using hfin
theorem efgF2_t (l : List UInt8) (dp : Int) (g B n : Nat) (v : Value) (acc : List UInt8) (W0 w : World) (hn : l.length = n) (hl : n ≤ 20) (hd0 : 1 ≤ dp) (hd1 : dp ≤ 6) (hdn : dp < n) (ha : acc.length ≤ 1000)
  (hb : OB B v acc W0 w) (hc : DigB W0 g l) :
  Calls Tryz.prog 203 #[v, .bool true, .slice (some ⟨g, 0, none⟩) 32 32, .int .i64 dp, .int .i64 (n : Int), .int .i64 (n : Int), .int .u8 71, .bool true] w fun e w' => ∃ v', e = .returned v' ∧ OB B v' (acc ++ gF true l dp) W0 w' := by
 have HB := LH hb
 have HPL := LH ha
 have HC := LH hc
 have HN := LH hn
 clear hb hc ha hn
 obtain ⟨d, rfl⟩ := Int.eq_ofNat_of_zero_le (show 0 ≤ dp by omega)
 have d0 : 1 ≤ d := by omega
 have d1 : d ≤ 6 := by omega
 have d2 : d < n := by omega
 obtain ⟨p, hp⟩ : ∃ p : Nat, (n : Int) - (d : Int) = (p : Int) := ⟨n - d, by omega⟩
 have p0 : 1 ≤ p := by omega
 have p1 : p ≤ 20 := by omega
 have p2 : d + p = n := by omega
 have P2 := LH p2
 have f1 : min (n : Int) (d : Int) = (d : Int) := by omega
 have f2 : max (p : Int) 0 = (p : Int) := by omega
 have f3 : max 0 (-(d : Int)) = 0 := by omega
 have f4 : min (p : Int) 0 = 0 := by omega
 have f5 : max 0 (p : Int) = (p : Int) := by omega
 have q1 : decide ((d : Int) - 1 < -4) = false := by simp; omega
 have q2 : decide (6 ≤ (d : Int) - 1) = false := by simp; omega
 have q3 : decide (0 < d) = true := by simp; omega
 have q4 : decide (0 < p) = true := by simp; omega
 have dk : ∀ k : Nat, k < p → d + k < n := by intro k hk; omega
 have DK := LH dk
 clear hd0 hd1 hdn p2 dk
 go_enter Tryz.func203, Tryz.ntmps203
 go_wp2_with (first | (at_builtin; refine ob_byte rfl _ _ rfl rfl _ _ (u8z (by omega) (by omega)) HB.out rfl (by have h_1 := HPL.out; have h_2 := HN.out; (try simp only [List.length_append, List.length_cons, List.length_nil, List.length_drop, List.length_take, List.length_replicate]); omega) ?_; intro v1 w1 hb1; clear HB; have HB := LH hb1; clear hb1))
 obtain ⟨pre1, hpre1⟩ : ∃ pre, acc ++ [UInt8.ofNat (Int.toNat 45)] = pre := ⟨_, rfl⟩
 have HPLn := LH (show pre1.length ≤ 1100 by have h_1 := HPL.out; have h_2 := HN.out; rw [← hpre1]; (try simp only [List.length_append, List.length_cons, List.length_nil, List.length_drop, List.length_take, List.length_replicate]); omega)
 clear HPL
 have HPL := HPLn
 clear HPLn
 rw [hpre1] at HB
 have HPR1 := LH hpre1
 clear hpre1
 go_loopg [0, 191] d (fun gk dst i wr => ∃ k : Nat, i = .int .i64 k ∧ k ≤ d ∧ d - k ≤ gk ∧ Hid (OB B dst (pre1 ++ (l.drop 0).take k) W0 wr))
 case atStart => exact ⟨0, rfl, Nat.zero_le _, Nat.le_refl _, by have := HB.out; show OB _ _ _ _ _; simpa using this⟩
 case round =>
  obtain ⟨k, rfl, hkc, hkg, HBr⟩ := hrel
  clear HB
  by_cases hlt : k < d
  ·obtain ⟨b, hb⟩ : ∃ b, l[0 + k]? = some b := ⟨_, List.getElem?_eq_getElem (by rw [HN.out]; omega)⟩
   have cc := anyCell HC.out HBr.out.kept (0 + k) b hb
   have HTK := LH (show (l.drop 0).take (k + 1) = (l.drop 0).take k ++ [b] by rw [List.take_add_one, List.getElem?_drop, hb]; rfl)
   obtain ⟨x, hx⟩ : ∃ x, b.toNat = x := ⟨_, rfl⟩
   have xlt : x < 256 := by rw [← hx]; exact UInt8.toNat_lt _
   rw [hx] at cc
   have HX := LH hx
   clear hx hb
   rw [Nat.zero_add] at cc
   go_wp2_with (at_builtin; refine ob_byte rfl _ _ rfl rfl b _ (by rw [HX.out]) HBr.out rfl (by have h_1 := HPL.out; have h_2 := HN.out; simp only [List.length_append, List.length_cons, List.length_nil, List.length_drop, List.length_take, List.length_replicate]; omega) ?_; intro v1 w1 hb1; clear HBr; have HB := LH hb1; clear hb1)
   go_roundg (d - (k + 1))
   case rel => exact ⟨k + 1, by go_num, by omega, by omega, by have := HB.out; rw [HTK.out]; show OB _ _ _ _ _; simpa using this⟩
   case measure => omega
  ·obtain rfl : d = k := by omega
   have HB := HBr
   clear HBr
   go_wp2_with (first | (at_builtin; refine ob_byte rfl _ _ rfl rfl _ _ (u8z (by omega) (by omega)) HB.out rfl (by have h_1 := HPL.out; have h_2 := HN.out; (try simp only [List.length_append, List.length_cons, List.length_nil, List.length_drop, List.length_take, List.length_replicate]); omega) ?_; intro v1 w1 hb1; clear HB; have HB := LH hb1; clear hb1))
   refine wp_loop_rounds 1 ?_
   rw [rounds_succ]
   go_wp2_with (first | (at_builtin; refine ob_byte rfl _ _ rfl rfl _ _ (u8z (by omega) (by omega)) HB.out rfl (by have h_1 := HPL.out; have h_2 := HN.out; (try simp only [List.length_append, List.length_cons, List.length_nil, List.length_drop, List.length_take, List.length_replicate]); omega) ?_; intro v1 w1 hb1; clear HB; have HB := LH hb1; clear hb1))
   refine wp_loop_rounds 1 ?_
   rw [rounds_succ]
   go_wp2_with (first | (at_builtin; refine ob_byte rfl _ _ rfl rfl _ _ (u8z (by omega) (by omega)) HB.out rfl (by have h_1 := HPL.out; have h_2 := HN.out; (try simp only [List.length_append, List.length_cons, List.length_nil, List.length_drop, List.length_take, List.length_replicate]); omega) ?_; intro v1 w1 hb1; clear HB; have HB := LH hb1; clear hb1))
   obtain ⟨pre2, hpre2⟩ : ∃ pre, pre1 ++ (l.drop 0).take d ++ [UInt8.ofNat (Int.toNat 46)] = pre := ⟨_, rfl⟩
   have HPLn := LH (show pre2.length ≤ 1200 by have h_1 := HPL.out; have h_2 := HN.out; rw [← hpre2]; (try simp only [List.length_append, List.length_cons, List.length_nil, List.length_drop, List.length_take, List.length_replicate]); omega)
   clear HPL
   have HPL := HPLn
   clear HPLn
   rw [hpre2] at HB
   have HPR2 := LH hpre2
   clear hpre2
   go_loopg [0, 247] p (fun gk dst i wr => ∃ k : Nat, i = .int .i64 k ∧ k ≤ p ∧ p - k ≤ gk ∧ Hid (OB B dst (pre2 ++ (l.drop d).take k) W0 wr))
   case atStart => exact ⟨0, rfl, Nat.zero_le _, Nat.le_refl _, by have := HB.out; show OB _ _ _ _ _; simpa using this⟩
   case round =>
    obtain ⟨k, rfl, hkc, hkg, HBr⟩ := hrel
    clear HB
    by_cases hlt : k < p
    ·obtain ⟨b, hb⟩ : ∃ b, l[d + k]? = some b := ⟨_, List.getElem?_eq_getElem (by rw [HN.out]; omega)⟩
     have cc := anyCell HC.out HBr.out.kept (d + k) b hb
     have HTK := LH (show (l.drop d).take (k + 1) = (l.drop d).take k ++ [b] by rw [List.take_add_one, List.getElem?_drop, hb]; rfl)
     obtain ⟨x, hx⟩ : ∃ x, b.toNat = x := ⟨_, rfl⟩
     have xlt : x < 256 := by rw [← hx]; exact UInt8.toNat_lt _
     rw [hx] at cc
     have HX := LH hx
     clear hx hb
     have hdk := DK.out k hlt
     go_wp2_with (at_builtin; refine ob_byte rfl _ _ rfl rfl b _ (by rw [HX.out]) HBr.out rfl (by have h_1 := HPL.out; have h_2 := HN.out; simp only [List.length_append, List.length_cons, List.length_nil, List.length_drop, List.length_take, List.length_replicate]; omega) ?_; intro v1 w1 hb1; clear HBr; have HB := LH hb1; clear hb1)
     go_roundg (p - (k + 1))
     case rel => exact ⟨k + 1, by go_num, by omega, by omega, by have := HB.out; rw [HTK.out]; show OB _ _ _ _ _; simpa using this⟩
     case measure => omega
    ·obtain rfl : p = k := by omega
     have HB := HBr
     clear HBr
     go_wp2_with (first | (at_builtin; refine ob_byte rfl _ _ rfl rfl _ _ (u8z (by omega) (by omega)) HB.out rfl (by have h_1 := HPL.out; have h_2 := HN.out; (try simp only [List.length_append, List.length_cons, List.length_nil, List.length_drop, List.length_take, List.length_replicate]); omega) ?_; intro v1 w1 hb1; clear HB; have HB := LH hb1; clear hb1))
     refine wp_loop_rounds 1 ?_
     rw [rounds_succ]
     go_wp2_with (first | (at_builtin; refine ob_byte rfl _ _ rfl rfl _ _ (u8z (by omega) (by omega)) HB.out rfl (by have h_1 := HPL.out; have h_2 := HN.out; (try simp only [List.length_append, List.length_cons, List.length_nil, List.length_drop, List.length_take, List.length_replicate]); omega) ?_; intro v1 w1 hb1; clear HB; have HB := LH hb1; clear hb1))
     go_ret
     refine ⟨_, rfl, ?_⟩
     have hfin := HB.out
     rw [← HPR2.out, ← HPR1.out] at hfin
     unfold gF sgL
     rw [if_pos (show (0 : Int) < (d : Int) by omega), if_pos (show (d : Int) < (l.length : Int) by rw [HN.out]; omega), HN.out, show ((d : Int)).toNat - n = 0 from by omega, show (-(d : Int)).toNat = 0 from by omega]
     rw [show (l.drop d).take p = l.drop d from List.take_of_length_le (by rw [List.length_drop, HN.out]; omega)] at hfin
     simpa using hfin
theorem efgF3_t (l : List UInt8) (dp : Int) (g B n : Nat) (v : Value) (acc : List UInt8) (W0 w : World) (hn : l.length = n) (hl : n ≤ 20) (hd0 : -3 ≤ dp) (hd1 : dp ≤ 0) (hdn : dp < n) (ha : acc.length ≤ 1000)
  (hb : OB B v acc W0 w) (hc : DigB W0 g l) :
  Calls Tryz.prog 203 #[v, .bool true, .slice (some ⟨g, 0, none⟩) 32 32, .int .i64 dp, .int .i64 (n : Int), .int .i64 (n : Int), .int .u8 71, .bool true] w fun e w' => ∃ v', e = .returned v' ∧ OB B v' (acc ++ gF true l dp) W0 w' := by
 have HB := LH hb
 have HPL := LH ha
 have HC := LH hc
 have HN := LH hn
 clear hb hc ha hn
 obtain ⟨d, hd⟩ : ∃ d : Nat, dp = -(d : Int) := ⟨(-dp).toNat, by omega⟩
 subst hd
 have d1 : d ≤ 3 := by omega
 obtain ⟨p, hp⟩ : ∃ p : Nat, (n : Int) - -(d : Int) = (p : Int) := ⟨n + d, by omega⟩
 have p1 : p ≤ 23 := by omega
 have p0 : 1 ≤ p := by omega
 have hp1 : (p : Int) - (d : Int) = (n : Int) := by omega
 have P2 := LH (show n + d = p by omega)
 have f1 : min (p : Int) (d : Int) = (d : Int) := by omega
 have f2 : max (p : Int) 0 = (p : Int) := by omega
 have f3 : max 0 (d : Int) = (d : Int) := by omega
 have f4 : max 0 (n : Int) = (n : Int) := by omega
 have f6 : -(d : Int) + (d : Int) = 0 := by omega
 have q1 : decide (-(d : Int) - 1 < -4) = false := by simp; omega
 have q2 : decide (6 ≤ -(d : Int) - 1) = false := by first | (simp; done) | (simp; omega)
 have q3 : decide (0 < -(d : Int)) = false := by first | (simp; done) | (simp; omega)
 have q4 : decide (0 < p) = true := by simp; omega
 have q5 : decide ((n : Int) > -(d : Int)) = true := by first | (simp; done) | (simp; omega)
 have q6 : decide (-(d : Int) < (n : Int)) = true := by first | (simp; done) | (simp; omega)
 clear hd0 hd1 hdn
 go_enter Tryz.func203, Tryz.ntmps203
 go_wp2_with (first | (at_builtin; refine ob_byte rfl _ _ rfl rfl _ _ (u8z (by omega) (by omega)) HB.out rfl (by have h_1 := HPL.out; have h_2 := HN.out; (try simp only [List.length_append, List.length_cons, List.length_nil, List.length_drop, List.length_take, List.length_replicate]); omega) ?_; intro v1 w1 hb1; clear HB; have HB := LH hb1; clear hb1))
 obtain ⟨pre1, hpre1⟩ : ∃ pre, acc ++ [UInt8.ofNat (Int.toNat 45)] ++ [UInt8.ofNat (Int.toNat 48)] ++ [UInt8.ofNat (Int.toNat 46)] = pre := ⟨_, rfl⟩
 have HPLn := LH (show pre1.length ≤ 1100 by have h_1 := HPL.out; have h_2 := HN.out; rw [← hpre1]; (try simp only [List.length_append, List.length_cons, List.length_nil, List.length_drop, List.length_take, List.length_replicate]); omega)
 clear HPL
 have HPL := HPLn
 clear HPLn
 rw [hpre1] at HB
 have HPR1 := LH hpre1
 clear hpre1
 go_loopg [0, 240] d (fun gk dst i wr => ∃ k : Nat, i = .int .i64 k ∧ k ≤ d ∧ d - k ≤ gk ∧ Hid (OB B dst (pre1 ++ List.replicate k 48) W0 wr))
 case atStart => exact ⟨0, rfl, Nat.zero_le _, Nat.le_refl _, by have := HB.out; show OB _ _ _ _ _; simpa using this⟩
 case round =>
  obtain ⟨k, rfl, hkc, hkg, HBr⟩ := hrel
  clear HB
  by_cases hlt : k < d
  ·go_wp2_with (at_builtin; refine ob_byte rfl _ _ rfl rfl 48 _ rfl HBr.out rfl (by have h_1 := HPL.out; simp only [List.length_append, List.length_cons, List.length_nil, List.length_drop, List.length_take, List.length_replicate]; omega) ?_; intro v1 w1 hb1; clear HBr; have HB := LH hb1; clear hb1)
   go_roundg (d - (k + 1))
   case rel => exact ⟨k + 1, by go_num, by omega, by omega, by have := HB.out; show OB _ _ _ _ _; rw [List.replicate_succ', ← List.append_assoc]; exact this⟩
   case measure => omega
  ·obtain rfl : d = k := by omega
   have HB := HBr
   clear HBr
   go_wp2_with (first | (at_builtin; refine ob_byte rfl _ _ rfl rfl _ _ (u8z (by omega) (by omega)) HB.out rfl (by have h_1 := HPL.out; have h_2 := HN.out; (try simp only [List.length_append, List.length_cons, List.length_nil, List.length_drop, List.length_take, List.length_replicate]); omega) ?_; intro v1 w1 hb1; clear HB; have HB := LH hb1; clear hb1))
   obtain ⟨pre2, hpre2⟩ : ∃ pre, pre1 ++ List.replicate d 48 = pre := ⟨_, rfl⟩
   have HPLn := LH (show pre2.length ≤ 1200 by have h_1 := HPL.out; have h_2 := HN.out; rw [← hpre2]; (try simp only [List.length_append, List.length_cons, List.length_nil, List.length_drop, List.length_take, List.length_replicate]); omega)
   clear HPL
   have HPL := HPLn
   clear HPLn
   rw [hpre2] at HB
   have HPR2 := LH hpre2
   clear hpre2
   go_loopg [0, 247] n (fun gk dst i wr => ∃ k : Nat, i = .int .i64 k ∧ k ≤ n ∧ n - k ≤ gk ∧ Hid (OB B dst (pre2 ++ (l.drop 0).take k) W0 wr))
   case atStart => exact ⟨0, rfl, Nat.zero_le _, Nat.le_refl _, by have := HB.out; show OB _ _ _ _ _; simpa using this⟩
   case round =>
    obtain ⟨k, rfl, hkc, hkg, HBr⟩ := hrel
    clear HB
    by_cases hlt : k < n
    ·obtain ⟨b, hb⟩ : ∃ b, l[0 + k]? = some b := ⟨_, List.getElem?_eq_getElem (by rw [HN.out]; omega)⟩
     have cc := anyCell HC.out HBr.out.kept (0 + k) b hb
     have HTK := LH (show (l.drop 0).take (k + 1) = (l.drop 0).take k ++ [b] by rw [List.take_add_one, List.getElem?_drop, hb]; rfl)
     obtain ⟨x, hx⟩ : ∃ x, b.toNat = x := ⟨_, rfl⟩
     have xlt : x < 256 := by rw [← hx]; exact UInt8.toNat_lt _
     rw [hx] at cc
     have HX := LH hx
     clear hx hb
     rw [Nat.zero_add] at cc
     go_wp2_with (at_builtin; refine ob_byte rfl _ _ rfl rfl b _ (by rw [HX.out]) HBr.out rfl (by have h_1 := HPL.out; have h_2 := HN.out; simp only [List.length_append, List.length_cons, List.length_nil, List.length_drop, List.length_take, List.length_replicate]; omega) ?_; intro v1 w1 hb1; clear HBr; have HB := LH hb1; clear hb1)
     go_roundg (n - (k + 1))
     case rel => exact ⟨k + 1, by go_num, by omega, by omega, by have := HB.out; rw [HTK.out]; show OB _ _ _ _ _; simpa using this⟩
     case measure => omega
    ·obtain rfl : n = k := by omega
     have HB := HBr
     clear HBr
     go_wp2_with (first | (at_builtin; refine ob_byte rfl _ _ rfl rfl _ _ (u8z (by omega) (by omega)) HB.out rfl (by have h_1 := HPL.out; have h_2 := HN.out; (try simp only [List.length_append, List.length_cons, List.length_nil, List.length_drop, List.length_take, List.length_replicate]); omega) ?_; intro v1 w1 hb1; clear HB; have HB := LH hb1; clear hb1))
     refine wp_loop_rounds 1 ?_
     rw [rounds_succ]
     go_wp2_with (first | (at_builtin; refine ob_byte rfl _ _ rfl rfl _ _ (u8z (by omega) (by omega)) HB.out rfl (by have h_1 := HPL.out; have h_2 := HN.out; (try simp only [List.length_append, List.length_cons, List.length_nil, List.length_drop, List.length_take, List.length_replicate]); omega) ?_; intro v1 w1 hb1; clear HB; have HB := LH hb1; clear hb1))
     go_ret
     refine ⟨_, rfl, ?_⟩
     have hfin := HB.out
     rw [← HPR2.out, ← HPR1.out] at hfin
     unfold gF sgL
     rw [if_neg (show ¬ (0 : Int) < -(d : Int) by omega), if_pos (show -(d : Int) < (l.length : Int) by rw [HN.out]; omega), show (-(d : Int)).toNat = 0 from by omega, show (- -(d : Int)).toNat = d from by omega]
     rw [List.drop_zero, show l.take n = l from List.take_of_length_le (by rw [HN.out]; omega)] at hfin
     simpa using hfin
theorem efgZ_t (g B : Nat) (v : Value) (acc : List UInt8) (W0 w : World) (ha : acc.length ≤ 1000) (hb : OB B v acc W0 w) :
  Calls Tryz.prog 203 #[v, .bool true, .slice none 0 0, .int .i64 0, .int .i64 0, .int .i64 (-1), .int .u8 71, .bool true] w fun e w' => ∃ v', e = .returned v' ∧ OB B v' (acc ++ gF true [] 0) W0 w' := by
 have HB := LH hb
 have HPL := LH ha
 have HN := LH (show True from trivial)
 clear hb ha
 go_enter Tryz.func203, Tryz.ntmps203
 go_wp2_with (first | (at_builtin; refine ob_byte rfl _ _ rfl rfl _ _ (u8z (by omega) (by omega)) HB.out rfl (by have h_1 := HPL.out; have h_2 := HN.out; (try simp only [List.length_append, List.length_cons, List.length_nil, List.length_drop, List.length_take, List.length_replicate]); omega) ?_; intro v1 w1 hb1; clear HB; have HB := LH hb1; clear hb1))
 go_ret
 refine ⟨_, rfl, ?_⟩
 have hfin := HB.out
 unfold gF sgL
 simpa using hfin
theorem efgN_t (g B : Nat) (v : Value) (acc : List UInt8) (W0 w : World) (ha : acc.length ≤ 1000) (hb : OB B v acc W0 w) :
  Calls Tryz.prog 203 #[v, .bool true, .slice (some ⟨g, 0, none⟩) 32 32, .int .i64 0, .int .i64 0, .int .i64 0, .int .u8 71, .bool true] w fun e w' => ∃ v', e = .returned v' ∧ OB B v' (acc ++ gF true [] 0) W0 w' := by
 have HB := LH hb
 have HPL := LH ha
 have HN := LH (show True from trivial)
 clear hb ha
 go_enter Tryz.func203, Tryz.ntmps203
 go_wp2_with (first | (at_builtin; refine ob_byte rfl _ _ rfl rfl _ _ (u8z (by omega) (by omega)) HB.out rfl (by have h_1 := HPL.out; have h_2 := HN.out; (try simp only [List.length_append, List.length_cons, List.length_nil, List.length_drop, List.length_take, List.length_replicate]); omega) ?_; intro v1 w1 hb1; clear HB; have HB := LH hb1; clear hb1))
 go_ret
 refine ⟨_, rfl, ?_⟩
 have hfin := HB.out
 unfold gF sgL
 simpa using hfin
end Go.Proofs.YtpfkgpcnhdkkbaaGreatDoor
