/- internal/strconv's unrounded scaling: what each function comes to is a function of its arguments. -/
import Derived.Test.YtpfkgpcnhdkkbaaGreatDoorShA
import Derived.Test.YtpfkgpcnhdkkbaaGreatDoorEw
import Derived.Laws.BitsLemmas
import Derived.Laws.Bits64
import GoSem.PinnedTables
namespace Go.Proofs.YtpfkgpcnhdkkbaaGreatDoor
open Go.RowKit
set_option linter.unusedVariables false
set_option linter.unusedSimpArgs false
set_option maxRecDepth 100000
theorem log10_any (x : Int) (w : World) (h0 : -5000 ≤ x) (h1 : x ≤ 5000) : Calls Tryz.prog 138 #[.int .i64 x] w fun e w' => e = .returned (.int .i64 (x * 78913 / 262144)) ∧ w = w' := by
  go_enter Tryz.func138, Tryz.ntmps138
  go_wp2
  go_ret
  exact ⟨rfl, rfl⟩
theorem log2_any (x : Int) (w : World) (h0 : -5000 ≤ x) (h1 : x ≤ 5000) : Calls Tryz.prog 242 #[.int .i64 x] w fun e w' => e = .returned (.int .i64 (x * 108853 / 32768)) ∧ w = w' := by
  go_enter Tryz.func242, Tryz.ntmps242
  go_wp2
  go_ret
  exact ⟨rfl, rfl⟩
theorem skewed_any (x : Int) (w : World) (h0 : -5000 ≤ x) (h1 : x ≤ 5000) : Calls Tryz.prog 240 #[.int .i64 x] w fun e w' => e = .returned (.int .i64 ((x * 631305 - 261663) / 2097152)) ∧ w = w' := by
  go_enter Tryz.func240, Tryz.ntmps240
  go_wp2
  go_ret
  exact ⟨rfl, rfl⟩
theorem bool2_any (b : Bool) (w : World) : Calls Tryz.prog 274 #[.bool b] w fun e w' => e = .returned (.int .u64 (if b then 1 else 0)) ∧ w = w' := by
  cases b
  all_goals
    go_enter Tryz.func274, Tryz.ntmps274
    go_wp2
    go_ret
    exact ⟨rfl, rfl⟩
def U64 (x : Int) : Prop := 0 ≤ x ∧ x ≤ 18446744073709551615
theorem nudge_any (x k : Int) (w : World) : ∃ r, r = IntKind.u64.wrap (x + IntKind.u64.wrap k) ∧ Calls Tryz.prog 244 #[.int .u64 x, .int .i64 k] w fun e w' => e = .returned (.int .u64 r) ∧ w = w' := by
  refine ⟨_, rfl, ?_⟩
  go_enter Tryz.func244, Tryz.ntmps244
  go_wp2
  go_ret
  exact ⟨rfl, rfl⟩
theorem ceil_any (x : Int) (w : World) : Calls Tryz.prog 245 #[.int .u64 x] w fun e w' => e = .returned (.int .u64 (IntKind.u64.wrap (x + 3) / 4)) ∧ w = w' := by
  go_enter Tryz.func245, Tryz.ntmps245
  go_wp2
  go_ret
  exact ⟨rfl, rfl⟩
theorem floor_any (x : Int) (w : World) (h : U64 x) : Calls Tryz.prog 246 #[.int .u64 x] w fun e w' => e = .returned (.int .u64 (x / 4)) ∧ w = w' := by
  obtain ⟨h0, h1⟩ := h
  go_enter Tryz.func246, Tryz.ntmps246
  go_wp2
  go_ret
  exact ⟨rfl, rfl⟩
def roundU (x : Int) : Int := IntKind.u64.wrap (IntKind.u64.wrap (x + 1) + bits .and .u64 (x / 4) 1) / 4
theorem round_any (x : Int) (w : World) (h : U64 x) : Calls Tryz.prog 247 #[.int .u64 x] w fun e w' => e = .returned (.int .u64 (roundU x)) ∧ w = w' := by
  obtain ⟨h0, h1⟩ := h
  go_enter Tryz.func247, Tryz.ntmps247
  go_wp2
  go_ret
  exact ⟨rfl, rfl⟩
def pTab (w : World) : Prop := ∀ i : Nat, i < 696 → w.cell? ⟨15, 2 * i, none⟩ = some (.int .u64 ((Go.Pinned.pow10Rows.getD i (0, 0)).1 : Int)) ∧ w.cell? ⟨15, 2 * i + 1, none⟩ = some (.int .u64 ((Go.Pinned.pow10Rows.getD i (0, 0)).2 : Int))
theorem prescale_core (g : Nat) (e lp : Int) (i : Nat) (hi lo : Int) (c0 c1 c2 : Value) (w : World) (hg : w.heap[g]? = some (.cells #[c0, c1, c2] 306 (0, 0))) (hne : ¬ 15 = g) (hit : i < 696)
    (h0 : w.cell? ⟨15, i * 2, none⟩ = some (.int .u64 hi)) (h1 : w.cell? ⟨15, i * 2 + 1, none⟩ = some (.int .u64 lo)) (he : -5000 ≤ e ∧ e ≤ 5000) (hl : -5000 ≤ lp ∧ lp ≤ 5000) :
    Calls Tryz.prog 241 #[.pointer (some ⟨g, 0, none⟩), .int .i64 e, .int .i64 ((i : Int) - 348), .int .i64 lp] w fun en w' => en = .returned (.tuple #[]) ∧ w' = ((w.setCell ⟨g, 0, none⟩ (.int .u64 hi)).setCell ⟨g, 1, none⟩ (.int .u64 lo)).setCell ⟨g, 2, none⟩ (.int .i64 (-(e + lp + 3))) := by
  have g0 : w.cell? ⟨g, 0, none⟩ = some c0 := by rw [blk_cell hg]; rfl
  have g1 : w.cell? ⟨g, 1, none⟩ = some c1 := by rw [blk_cell hg]; rfl
  have g2 : w.cell? ⟨g, 2, none⟩ = some c2 := by rw [blk_cell hg]; rfl
  have f0 := fun k => blk_frozen hg k
  obtain ⟨he0, he1⟩ := he
  obtain ⟨hl0, hl1⟩ := hl
  have hne' : ¬ g = 15 := fun h => hne h.symm
  clear hg
  go_enter Tryz.func241, Tryz.ntmps241
  go_wp2
  go_end0
  exact ⟨rfl, rfl⟩
/-- What lies in the block behind. -/
theorem prescale_any (g : Nat) (e lp p : Int) (c0 c1 c2 : Value) (w : World) (hg : w.heap[g]? = some (.cells #[c0, c1, c2] 306 (0, 0))) (hne : 15 < g) (hp : -348 ≤ p ∧ p ≤ 347)
    (hT : pTab w) (he : -5000 ≤ e ∧ e ≤ 5000) (hl : -5000 ≤ lp ∧ lp ≤ 5000) :
    Calls Tryz.prog 241 #[.pointer (some ⟨g, 0, none⟩), .int .i64 e, .int .i64 p, .int .i64 lp] w fun en w' => en = .returned (.tuple #[]) ∧
      w'.heap[g]? = some (.cells #[.int .u64 ((Go.Pinned.pow10Rows.getD (p + 348).toNat (0, 0)).1 : Int), .int .u64 ((Go.Pinned.pow10Rows.getD (p + 348).toNat (0, 0)).2 : Int), .int .i64 (-(e + lp + 3))] 306 (0, 0)) ∧ Below g w w' := by
  obtain ⟨i, hi⟩ : ∃ i : Nat, (p + 348).toNat = i := ⟨_, rfl⟩
  obtain rfl : p = (i : Int) - 348 := by omega
  rw [hi]
  have ht := hT i (by omega)
  refine (prescale_core g e lp i _ _ c0 c1 c2 w hg (by omega) (by omega) (by rw [Nat.mul_comm]; exact ht.1) (by rw [Nat.mul_comm]; exact ht.2) he hl).mono ?_
  rintro en w' ⟨rfl, rfl⟩
  have s0 := blk_set hg 0 (.int .u64 ((Go.Pinned.pow10Rows.getD i (0, 0)).1 : Int))
  have s1 := blk_set s0 1 (.int .u64 ((Go.Pinned.pow10Rows.getD i (0, 0)).2 : Int))
  have s2 := blk_set s1 2 (.int .i64 (-(e + lp + 3)))
  refine ⟨rfl, ?_, ?_⟩
  · rw [s2]
    simp
  · exact (((Below.refl g w).setCell (Nat.le_refl _) _).setCell (Nat.le_refl _) _).setCell (Nat.le_refl _) _
theorem wraps62 (n : Int) (h₀ : 0 ≤ n) (h₁ : n < 2 ^ 62) : IntKind.i64.wrap n = n := by rw [IntKind.wrap_i64]; omega
theorem and63k (k : Nat) (hk : k < 64) : bits .and .i64 (k : Int) 63 = (k : Int) := by
  have := bits_mask .i64 62 (by decide) wraps62 6 (by decide) (k : Int) (by omega) (by omega)
  rw [show (2 : Int) ^ 6 - 1 = 63 from rfl, show (2 : Int) ^ 6 = 64 from rfl] at this
  rw [this]; omega
theorem mul64_ex (x y : Nat) (hx : x < 18446744073709551616) (hy : y < 18446744073709551616) : ∃ A M : Nat, A < 18446744073709551616 ∧ M < 18446744073709551616 ∧ ∀ w, Calls Tryz.prog 273 #[.int .u64 x, .int .u64 y] w fun e w' => e = .returned (.tuple #[.int .u64 (A : Int), .int .u64 (M : Int)]) ∧ w = w' := by
  refine ⟨x * y / 18446744073709551616, x * y % 18446744073709551616, ?_, Nat.mod_lt _ (by omega), fun w => (Tryz.bits_Mul64 x y hx hy w).mono fun e w' h => ⟨h.1, h.2.symm⟩⟩
  have : x * y ≤ 18446744073709551615 * 18446744073709551615 := Nat.mul_le_mul (by omega) (by omega)
  rw [Nat.div_lt_iff_lt_mul (by omega)]
  omega
theorem bits_u64 (op : BinOp) (x y : Int) : U64 (bits op .u64 x y) := by
  unfold bits U64
  simp only [IntKind.wrap_u64]
  omega
/-- x times a power of two and one of ten, unrounded. -/
theorem uscale_ex (x hi lo k : Nat) (hx : x < 18446744073709551616) (hhi : hi < 18446744073709551616) (hlo : lo < 18446744073709551616) (hk : k < 64) :
    ∃ r : Int, U64 r ∧ ∀ (g : Nat) (w : World), w.heap[g]? = some (.cells #[.int .u64 (hi : Int), .int .u64 (lo : Int), .int .i64 (k : Int)] 306 (0, 0)) →
      Calls Tryz.prog 243 #[.int .u64 (x : Int), .pointer (some ⟨g, 0, none⟩)] w fun e w' => e = .returned (.int .u64 r) ∧ ∃ n, w' = w.drewN n := by
  obtain ⟨A, M, hA, hM, c1⟩ := mul64_ex x hi hx hhi
  obtain ⟨A2, M2, hA2, hM2, c2⟩ := mul64_ex x lo hx hlo
  have m := and63k k hk
  cases h1 : (IntKind.u64.wrap ((A : Int) / 2 ^ k * 2 ^ k) != (A : Int)) with
  | true =>
    refine ⟨bits .or .u64 ((A : Int) / 2 ^ k) 1, bits_u64 _ _ _, fun g w hg => ?_⟩
    have g0 : w.cell? ⟨g, 0, none⟩ = some (.int .u64 (hi : Int)) := by rw [blk_cell hg]; rfl
    have g1 : w.cell? ⟨g, 1, none⟩ = some (.int .u64 (lo : Int)) := by rw [blk_cell hg]; rfl
    have g2 : w.cell? ⟨g, 2, none⟩ = some (.int .i64 (k : Int)) := by rw [blk_cell hg]; rfl
    clear hg
    go_enter Tryz.func243, Tryz.ntmps243
    go_wp2_with (go_at_call 273; refine (c1 _).mono ?_; rintro e w' ⟨rfl, rfl⟩)
    go_ret
    exact ⟨rfl, 0, rfl⟩
  | false =>
    obtain ⟨b1, hb1⟩ : ∃ b, decide (M < A2) = b := ⟨_, rfl⟩
    obtain ⟨b2, hb2⟩ : ∃ b, decide ((1 : Int) < IntKind.u64.wrap ((M : Int) - (A2 : Int))) = b := ⟨_, rfl⟩
    refine ⟨bits .or .u64 ((if b1 then IntKind.u64.wrap ((A : Int) - 1) else (A : Int)) / 2 ^ k) (if b2 then 1 else 0), bits_u64 _ _ _, fun g w hg => ?_⟩
    have g0 : w.cell? ⟨g, 0, none⟩ = some (.int .u64 (hi : Int)) := by rw [blk_cell hg]; rfl
    have g1 : w.cell? ⟨g, 1, none⟩ = some (.int .u64 (lo : Int)) := by rw [blk_cell hg]; rfl
    have g2 : w.cell? ⟨g, 2, none⟩ = some (.int .i64 (k : Int)) := by rw [blk_cell hg]; rfl
    clear hg
    cases b1
    all_goals
      cases b2
      all_goals
        go_enter Tryz.func243, Tryz.ntmps243
        go_wp2_with (first | (go_at_call 274; refine (bool2_any _ _).mono ?_; rintro e w' ⟨rfl, rfl⟩) | (go_at_call_of 273 (Value.int IntKind.u64 (hi : Int)); refine (c1 _).mono ?_; rintro e w' ⟨rfl, rfl⟩) | (go_at_call_of 273 (Value.int IntKind.u64 (lo : Int)); refine (c2 _).mono ?_; rintro e w' ⟨rfl, rfl⟩))
        go_quiet ((go_at_call 274; exact Calls.quiet_of_same ((bool2_any _ _).mono fun e w' h => ⟨h.1, h.2.symm⟩)))
        go_wp2
        go_ret
        exact ⟨rfl, _, rfl⟩
open Classical in
/-- What internal/strconv.uscale gives. -/
noncomputable def usc (x hi lo k : Nat) : Int :=
  if h : x < 18446744073709551616 ∧ hi < 18446744073709551616 ∧ lo < 18446744073709551616 ∧ k < 64 then Classical.choose (uscale_ex x hi lo k h.1 h.2.1 h.2.2.1 h.2.2.2) else 0
theorem usc_u64 (x hi lo k : Nat) : U64 (usc x hi lo k) := by
  unfold usc
  split
  · rename_i h; exact (Classical.choose_spec (uscale_ex x hi lo k h.1 h.2.1 h.2.2.1 h.2.2.2)).1
  · unfold U64; omega
theorem uscale_any (x : Int) (hi lo k : Nat) (hx : U64 x) (hhi : hi < 18446744073709551616) (hlo : lo < 18446744073709551616) (hk : k < 64) (g : Nat) (w : World) (hg : w.heap[g]? = some (.cells #[.int .u64 (hi : Int), .int .u64 (lo : Int), .int .i64 (k : Int)] 306 (0, 0))) :
    Calls Tryz.prog 243 #[.int .u64 x, .pointer (some ⟨g, 0, none⟩)] w fun e w' => e = .returned (.int .u64 (usc x.toNat hi lo k)) ∧ ∃ n, w' = w.drewN n := by
  obtain ⟨h0, h1⟩ := hx
  obtain ⟨n, rfl⟩ := Int.eq_ofNat_of_zero_le h0
  rw [Int.toNat_natCast]
  have h : n < 18446744073709551616 ∧ hi < 18446744073709551616 ∧ lo < 18446744073709551616 ∧ k < 64 := ⟨by omega, hhi, hlo, hk⟩
  unfold usc
  rw [dif_pos h]
  exact (Classical.choose_spec (uscale_ex n hi lo k h.1 h.2.1 h.2.2.1 h.2.2.2)).2 g w hg
end Go.Proofs.YtpfkgpcnhdkkbaaGreatDoor
