/- internal/strconv.shortFloat: what it comes to is a function of its arguments. -/
import Derived.Test.YtpfkgpcnhdkkbaaGreatDoorF1
import Derived.Lib.SmallJoins
import Derived.Lib.Hide
namespace Go.Proofs.YtpfkgpcnhdkkbaaGreatDoor
open Go.RowKit
set_option linter.unusedVariables false
set_option linter.unusedSimpArgs false
set_option maxRecDepth 100000
theorem wrap_U64 (x : Int) : U64 (IntKind.u64.wrap x) := by unfold U64; rw [IntKind.wrap_u64]; omega
theorem nudge_c (x k : Int) (w : World) : Calls Tryz.prog 244 #[.int .u64 x, .int .i64 k] w fun e w' => e = .returned (.int .u64 (IntKind.u64.wrap (x + IntKind.u64.wrap k))) ∧ w = w' := by
  obtain ⟨r, hr, h⟩ := nudge_any x k w
  rw [← hr]
  exact h
def pHi (p : Int) : Nat := (Go.Pinned.pow10Rows.getD (p + 348).toNat (0, 0)).1
def pLo (p : Int) : Nat := (Go.Pinned.pow10Rows.getD (p + 348).toNat (0, 0)).2
theorem rows_fit : (Go.Pinned.pow10Rows.all fun x => decide (x.1 < 18446744073709551616) && decide (x.2 < 18446744073709551616)) = true := by decide +kernel
theorem pHi_lt (p : Int) : pHi p < 18446744073709551616 ∧ pLo p < 18446744073709551616 := by
  unfold pHi pLo
  rw [List.getD_eq_getElem?_getD]
  cases h : Go.Pinned.pow10Rows[(p + 348).toNat]? with
  | none => simp
  | some x =>
    have := List.all_eq_true.1 rows_fit x (List.mem_of_getElem? h)
    simpa using this
theorem alloc_size (w : World) (o : Obj) : (w.alloc o).heap.size = w.heap.size + 1 := by show (w.heap.push o).size = _; rw [Array.size_push]
theorem pTab.below {B : Nat} {w w' : World} (h : pTab w) (hb : Below B w w') (hB : 16 ≤ B) : pTab w' := fun i hi =>
  ⟨(hb.cell (p := ⟨15, 2 * i, none⟩) (by simp; omega)).trans (h i hi).1, (hb.cell (p := ⟨15, 2 * i + 1, none⟩) (by simp; omega)).trans (h i hi).2⟩
theorem below_al (w : World) (x : Obj) : Below w.heap.size w (w.alloc x) := Joins.below_alloc1 _ _
def sfD (dn dx rm : Int) : Int := if dn ≤ dx / 10 * 10 then dx / 10 else if dn < dx then rm else dn
def sfP (dn dx q : Int) : Int := if dn ≤ dx / 10 * 10 then -(-q - 1) else q
theorem and1 (a : Int) (h0 : 0 ≤ a) (h1 : a < 4611686018427387904) : bits .and .i64 a 1 = a % 2 := by
  have := bits_mask .i64 62 (by decide) wraps62 1 (by decide) a h0 (by omega)
  rw [show (2 : Int) ^ 1 - 1 = 1 from rfl, show (2 : Int) ^ 1 = 2 from rfl] at this
  exact this
theorem quarter (x : Int) : 0 ≤ IntKind.u64.wrap x / 4 ∧ IntKind.u64.wrap x / 4 ≤ 4611686018427387903 := by rw [IntKind.wrap_u64]; omega
set_option maxHeartbeats 2000000 in
theorem short_normal (m e q l od dn dx : Int) (k : Nat) (hm0 : 9223372036854775808 ≤ m) (hm1 : m ≤ 18446744073709549568) (he : -1085 ≤ e) (he1 : e ≤ 1000) (hne : ¬ (m = 9223372036854775808 ∧ -1085 < e)) (hq : (e + 11) * 78913 / 262144 = q)
    (hl : -q * 108853 / 32768 = l) (hk : (k : Int) = -(e + l + 3)) (hod : bits .and .i64 (m / 2048) 1 = od) (ho : 0 ≤ od ∧ od ≤ 1)
    (hdn : IntKind.u64.wrap (IntKind.u64.wrap (usc (m - 1024).toNat (pHi (-q)) (pLo (-q)) k + od) + 3) / 4 = dn)
    (hdx : IntKind.u64.wrap (usc (m + 1024).toNat (pHi (-q)) (pLo (-q)) k + IntKind.u64.wrap (-od)) / 4 = dx)
    (w : World) (h17 : 17 ≤ w.heap.size) (hT : pTab w) :
    Calls Tryz.prog 210 #[.int .u64 m, .int .i64 e] w fun en w' => en = .returned (.tuple #[.int .u64 (sfD dn dx (roundU (usc m.toNat (pHi (-q)) (pLo (-q)) k))), .int .i64 (sfP dn dx q)]) ∧ Below w.heap.size w w' := by
  have hp0 : -348 ≤ -q := by omega
  have hp1 : -q ≤ 347 := by omega
  have hk64 : k < 64 := by omega
  have l0 : -5000 ≤ l := by omega
  have l1 : l ≤ 5000 := by omega
  have bn : 0 ≤ dn ∧ dn ≤ 4611686018427387903 := by rw [← hdn]; exact quarter _
  have bx : 0 ≤ dx ∧ dx ≤ 4611686018427387903 := by rw [← hdx]; exact quarter _
  obtain ⟨bn0, bn1⟩ := bn
  obtain ⟨bx0, bx1⟩ := bx
  obtain ⟨ho0, ho1⟩ := ho
  have HB := Lib.hid (below_al w (.cells #[.int .u64 0, .int .u64 0, .int .i64 0] 306))
  have HT := Lib.hid (hT.below HB.out (by omega))
  have HG := Lib.hid (heap_alloc_new w (.cells #[.int .u64 0, .int .u64 0, .int .i64 0] 306))
  have HQ := Lib.hid hq
  have HL := Lib.hid hl
  have HK := Lib.hid hk
  have HDN := Lib.hid hdn
  have HDX := Lib.hid hdx
  obtain ⟨rm, hrm⟩ : ∃ rm, roundU (usc m.toNat (pHi (-q)) (pLo (-q)) k) = rm := ⟨_, rfl⟩
  rw [hrm]
  have HRM := Lib.hid hrm
  have hge : ¬ e < -1085 := by omega
  obtain ⟨b, hb⟩ : ∃ b, (m == 9223372036854775808) = b := ⟨_, rfl⟩
  have hg : b = true → decide (-1085 < e) = false := by intro h; subst h; have h3 : ¬ -1085 < e := fun h2 => hne ⟨by simpa using hb, h2⟩; simp; omega
  clear hne
  clear hq hl hk hT hdn hdx hrm
  cases b
  all_goals
    try (have hg2 := hg rfl)
    clear hg
    go_enter Tryz.func210, Tryz.ntmps210
    go_wp2_with (first | (go_at_call 138; refine (log10_any _ _ (by omega) (by omega)).mono ?_; rintro en w' ⟨rfl, rfl⟩; rw [HQ.out]) | (go_at_call 242; refine (log2_any _ _ (by omega) (by omega)).mono ?_; rintro en w' ⟨rfl, rfl⟩; rw [HL.out]))
    refine (prescale_any w.heap.size e l (-q) _ _ _ _ HG.out (by omega) ⟨hp0, hp1⟩ HT.out ⟨by omega, by omega⟩ ⟨l0, l1⟩).mono ?_
    rintro en w1 ⟨rfl, hg1, hb1⟩
    rw [← HK.out] at hg1
    have HG1 := Lib.hid (show w1.heap[w.heap.size]? = some (.cells #[.int .u64 (pHi (-q) : Int), .int .u64 (pLo (-q) : Int), .int .i64 (k : Int)] 306 (0, 0)) from hg1)
    have HB1 := Lib.hid (HB.out.trans (hb1.mono (Nat.le_refl _)))
    clear hg1 hb1
    go_wp2_with (first | (go_at_call 243; refine (uscale_any _ _ _ _ (by first | exact wrap_U64 _ | (unfold U64; omega)) (pHi_lt _).1 (pHi_lt _).2 hk64 w.heap.size _ (by exact HG1.out)).mono ?_; rintro en w' ⟨rfl, n1, rfl⟩) | (go_at_call 244; refine (nudge_c _ _ _).mono ?_; rintro en w' ⟨rfl, rfl⟩) | (go_at_call 245; refine (ceil_any _ _).mono ?_; rintro en w' ⟨rfl, rfl⟩; rw [HDN.out]) | (go_at_call 246; refine (floor_any _ _ (wrap_U64 _)).mono ?_; rintro en w' ⟨rfl, rfl⟩; rw [HDX.out]) | (go_at_call 247; refine (round_any _ _ (usc_u64 _ _ _ _)).mono ?_; rintro en w' ⟨rfl, rfl⟩; rw [HRM.out]))
    all_goals go_ret2
    all_goals refine ⟨?_, HB1.out.trans ⟨rfl, rfl, rfl, Nat.le_refl _, fun _ _ => rfl⟩⟩
    all_goals unfold sfD sfP
    all_goals first | (have c1 : dn ≤ dx / 10 * 10 := (by omega); rw [if_pos c1, if_pos c1]; all_goals rfl) | (have c1 : ¬ dn ≤ dx / 10 * 10 := (by omega); have c2 : dn < dx := (by omega); rw [if_neg c1, if_neg c1, if_pos c2]; all_goals rfl) | (have c1 : ¬ dn ≤ dx / 10 * 10 := (by omega); have c2 : ¬ dn < dx := (by omega); rw [if_neg c1, if_neg c1, if_neg c2]; all_goals rfl)
set_option maxHeartbeats 2000000 in
theorem short_edge (m e q l od dn dx : Int) (k : Nat) (hm0 : 9223372036854775808 ≤ m) (hm1 : m ≤ 18446744073709549568) (he : -1085 < e) (he1 : e ≤ 1000) (hme : m = 9223372036854775808) (hq : ((e + 11) * 631305 - 261663) / 2097152 = q)
    (hl : -q * 108853 / 32768 = l) (hk : (k : Int) = -(e + l + 3)) (hod : bits .and .i64 (m / 2048) 1 = od) (ho : 0 ≤ od ∧ od ≤ 1)
    (hdn : IntKind.u64.wrap (IntKind.u64.wrap (usc (m - 512).toNat (pHi (-q)) (pLo (-q)) k + od) + 3) / 4 = dn)
    (hdx : IntKind.u64.wrap (usc (m + 1024).toNat (pHi (-q)) (pLo (-q)) k + IntKind.u64.wrap (-od)) / 4 = dx)
    (w : World) (h17 : 17 ≤ w.heap.size) (hT : pTab w) :
    Calls Tryz.prog 210 #[.int .u64 m, .int .i64 e] w fun en w' => en = .returned (.tuple #[.int .u64 (sfD dn dx (roundU (usc m.toNat (pHi (-q)) (pLo (-q)) k))), .int .i64 (sfP dn dx q)]) ∧ Below w.heap.size w w' := by
  have hp0 : -348 ≤ -q := by omega
  have hp1 : -q ≤ 347 := by omega
  have hk64 : k < 64 := by omega
  have l0 : -5000 ≤ l := by omega
  have l1 : l ≤ 5000 := by omega
  have bn : 0 ≤ dn ∧ dn ≤ 4611686018427387903 := by rw [← hdn]; exact quarter _
  have bx : 0 ≤ dx ∧ dx ≤ 4611686018427387903 := by rw [← hdx]; exact quarter _
  obtain ⟨bn0, bn1⟩ := bn
  obtain ⟨bx0, bx1⟩ := bx
  obtain ⟨ho0, ho1⟩ := ho
  have HB := Lib.hid (below_al w (.cells #[.int .u64 0, .int .u64 0, .int .i64 0] 306))
  have HT := Lib.hid (hT.below HB.out (by omega))
  have HG := Lib.hid (heap_alloc_new w (.cells #[.int .u64 0, .int .u64 0, .int .i64 0] 306))
  have HQ := Lib.hid hq
  have HL := Lib.hid hl
  have HK := Lib.hid hk
  have HDN := Lib.hid hdn
  have HDX := Lib.hid hdx
  obtain ⟨rm, hrm⟩ : ∃ rm, roundU (usc m.toNat (pHi (-q)) (pLo (-q)) k) = rm := ⟨_, rfl⟩
  rw [hrm]
  have HRM := Lib.hid hrm
  have hb : (m == 9223372036854775808) = true := by simpa using hme
  have HME := Lib.hid hme
  clear hme
  clear hq hl hk hT hdn hdx hrm
  go_enter Tryz.func210, Tryz.ntmps210
  go_wp2_with (first | (go_at_call 240; refine (skewed_any _ _ (by omega) (by omega)).mono ?_; rintro en w' ⟨rfl, rfl⟩; rw [HQ.out]) | (go_at_call 242; refine (log2_any _ _ (by omega) (by omega)).mono ?_; rintro en w' ⟨rfl, rfl⟩; rw [HL.out]))
  refine (prescale_any w.heap.size e l (-q) _ _ _ _ HG.out (by omega) ⟨hp0, hp1⟩ HT.out ⟨by omega, by omega⟩ ⟨l0, l1⟩).mono ?_
  rintro en w1 ⟨rfl, hg1, hb1⟩
  rw [← HK.out] at hg1
  have HG1 := Lib.hid (show w1.heap[w.heap.size]? = some (.cells #[.int .u64 (pHi (-q) : Int), .int .u64 (pLo (-q) : Int), .int .i64 (k : Int)] 306 (0, 0)) from hg1)
  have HB1 := Lib.hid (HB.out.trans (hb1.mono (Nat.le_refl _)))
  clear hg1 hb1
  go_wp2_with (first | (go_at_call 243; refine (uscale_any _ _ _ _ (by first | exact wrap_U64 _ | (unfold U64; omega)) (pHi_lt _).1 (pHi_lt _).2 hk64 w.heap.size _ (by exact HG1.out)).mono ?_; rintro en w' ⟨rfl, n1, rfl⟩) | (go_at_call 244; refine (nudge_c _ _ _).mono ?_; rintro en w' ⟨rfl, rfl⟩) | (go_at_call 245; refine (ceil_any _ _).mono ?_; rintro en w' ⟨rfl, rfl⟩; rw [HDN.out]) | (go_at_call 246; refine (floor_any _ _ (wrap_U64 _)).mono ?_; rintro en w' ⟨rfl, rfl⟩; rw [HDX.out]) | (go_at_call 247; refine (round_any _ _ (usc_u64 _ _ _ _)).mono ?_; rintro en w' ⟨rfl, rfl⟩; rw [HRM.out]))
  all_goals go_ret2
  all_goals refine ⟨?_, HB1.out.trans ⟨rfl, rfl, rfl, Nat.le_refl _, fun _ _ => rfl⟩⟩
  all_goals unfold sfD sfP
  all_goals first | (have c1 : dn ≤ dx / 10 * 10 := (by omega); rw [if_pos c1, if_pos c1]; all_goals rfl) | (have c1 : ¬ dn ≤ dx / 10 * 10 := (by omega); have c2 : dn < dx := (by omega); rw [if_neg c1, if_neg c1, if_pos c2]; all_goals rfl) | (have c1 : ¬ dn ≤ dx / 10 * 10 := (by omega); have c2 : ¬ dn < dx := (by omega); rw [if_neg c1, if_neg c1, if_neg c2]; all_goals rfl)
set_option maxHeartbeats 2000000 in
theorem short_low (m e q l od dn dx : Int) (k : Nat) (hm0 : 9223372036854775808 ≤ m) (hm1 : m ≤ 18446744073709549568) (z y : Nat) (v : Int) (hz : -1074 - e = (z : Int)) (hy : (z : Int) - 1 = (y : Int)) (hz0 : 12 ≤ z) (hz1 : z ≤ 63) (hv : (2 : Int) ^ y = v) (hv0 : 1 ≤ v) (hv1 : v ≤ 4611686018427387904) (mz : Int) (hmz : m / 2 ^ z = mz) (hmz0 : 0 ≤ mz) (hmz1 : mz ≤ 4611686018427387903) (hq : -1074 * 78913 / 262144 = q)
    (hl : -q * 108853 / 32768 = l) (hk : (k : Int) = -(e + l + 3)) (hod : bits .and .i64 (mz) 1 = od) (ho : 0 ≤ od ∧ od ≤ 1)
    (hdn : IntKind.u64.wrap (IntKind.u64.wrap (usc (m - v).toNat (pHi (-q)) (pLo (-q)) k + od) + 3) / 4 = dn)
    (hdx : IntKind.u64.wrap (usc (IntKind.u64.wrap (m + v)).toNat (pHi (-q)) (pLo (-q)) k + IntKind.u64.wrap (-od)) / 4 = dx)
    (w : World) (h17 : 17 ≤ w.heap.size) (hT : pTab w) :
    Calls Tryz.prog 210 #[.int .u64 m, .int .i64 e] w fun en w' => en = .returned (.tuple #[.int .u64 (sfD dn dx (roundU (usc m.toNat (pHi (-q)) (pLo (-q)) k))), .int .i64 (sfP dn dx q)]) ∧ Below w.heap.size w w' := by
  have hp0 : -348 ≤ -q := by omega
  have hp1 : -q ≤ 347 := by omega
  have hk64 : k < 64 := by omega
  have l0 : -5000 ≤ l := by omega
  have l1 : l ≤ 5000 := by omega
  have bn : 0 ≤ dn ∧ dn ≤ 4611686018427387903 := by rw [← hdn]; exact quarter _
  have bx : 0 ≤ dx ∧ dx ≤ 4611686018427387903 := by rw [← hdx]; exact quarter _
  obtain ⟨bn0, bn1⟩ := bn
  obtain ⟨bx0, bx1⟩ := bx
  obtain ⟨ho0, ho1⟩ := ho
  have HB := Lib.hid (below_al w (.cells #[.int .u64 0, .int .u64 0, .int .i64 0] 306))
  have HT := Lib.hid (hT.below HB.out (by omega))
  have HG := Lib.hid (heap_alloc_new w (.cells #[.int .u64 0, .int .u64 0, .int .i64 0] 306))
  have HQ := Lib.hid hq
  have HL := Lib.hid hl
  have HK := Lib.hid hk
  have HDN := Lib.hid hdn
  have HDX := Lib.hid hdx
  obtain ⟨rm, hrm⟩ : ∃ rm, roundU (usc m.toNat (pHi (-q)) (pLo (-q)) k) = rm := ⟨_, rfl⟩
  rw [hrm]
  have HRM := Lib.hid hrm
  have e0 : e < -1085 := by omega
  have e1 : -1140 ≤ e := by omega
  have z1 : 11 + (-1085 - e) = (z : Int) := by omega
  have z2 : e + (z : Int) = -1074 := by omega
  have hne : decide (-1085 < e) = false := by simp; omega
  obtain ⟨b, hb⟩ : ∃ b, (m == 9223372036854775808) = b := ⟨_, rfl⟩
  have HZ := Lib.hid hz
  have HQ2 : q = -324 := by omega
  clear hz
  have HQ3 := Lib.hid HQ2; clear HQ2 hq hl hk hT hdn hdx hrm
  cases b
  all_goals
    go_enter Tryz.func210, Tryz.ntmps210
    go_wp2_with (first | (go_at_call 138; refine (log10_any _ _ (by omega) (by omega)).mono ?_; rintro en w' ⟨rfl, rfl⟩; rw [HQ.out]) | (go_at_call 242; refine (log2_any _ _ (by omega) (by omega)).mono ?_; rintro en w' ⟨rfl, rfl⟩; rw [HL.out]))
    refine (prescale_any w.heap.size e l (-q) _ _ _ _ HG.out (by omega) ⟨hp0, hp1⟩ HT.out ⟨by omega, by omega⟩ ⟨l0, l1⟩).mono ?_
    rintro en w1 ⟨rfl, hg1, hb1⟩
    rw [← HK.out] at hg1
    have HG1 := Lib.hid (show w1.heap[w.heap.size]? = some (.cells #[.int .u64 (pHi (-q) : Int), .int .u64 (pLo (-q) : Int), .int .i64 (k : Int)] 306 (0, 0)) from hg1)
    have HB1 := Lib.hid (HB.out.trans (hb1.mono (Nat.le_refl _)))
    clear hg1 hb1
    go_wp2_with (first | (go_at_call 243; refine (uscale_any _ _ _ _ (by first | exact wrap_U64 _ | (unfold U64; omega)) (pHi_lt _).1 (pHi_lt _).2 hk64 w.heap.size _ (by exact HG1.out)).mono ?_; rintro en w' ⟨rfl, n1, rfl⟩) | (go_at_call 244; refine (nudge_c _ _ _).mono ?_; rintro en w' ⟨rfl, rfl⟩) | (go_at_call 245; refine (ceil_any _ _).mono ?_; rintro en w' ⟨rfl, rfl⟩; rw [HDN.out]) | (go_at_call 246; refine (floor_any _ _ (wrap_U64 _)).mono ?_; rintro en w' ⟨rfl, rfl⟩; rw [HDX.out]) | (go_at_call 247; refine (round_any _ _ (usc_u64 _ _ _ _)).mono ?_; rintro en w' ⟨rfl, rfl⟩; rw [HRM.out]))
    all_goals go_ret2
    all_goals refine ⟨?_, HB1.out.trans ⟨rfl, rfl, rfl, Nat.le_refl _, fun _ _ => rfl⟩⟩
    all_goals unfold sfD sfP
    all_goals first | (have c1 : dn ≤ dx / 10 * 10 := (by omega); rw [if_pos c1, if_pos c1]; all_goals rfl) | (have c1 : ¬ dn ≤ dx / 10 * 10 := (by omega); have c2 : dn < dx := (by omega); rw [if_neg c1, if_neg c1, if_pos c2]; all_goals rfl) | (have c1 : ¬ dn ≤ dx / 10 * 10 := (by omega); have c2 : ¬ dn < dx := (by omega); rw [if_neg c1, if_neg c1, if_neg c2]; all_goals rfl)
theorem sfD_u64 (dn dx : Int) (u : Int) (h1 : U64 dn) (h2 : U64 dx) : U64 (sfD dn dx (roundU u)) := by
  have := quarter (IntKind.u64.wrap (u + 1) + bits .and .u64 (u / 4) 1)
  unfold U64 at *
  unfold sfD roundU
  repeat' split
  all_goals omega
theorem sfP_bd (dn dx q : Int) (h : -350 ≤ q ∧ q ≤ 350) : -400 ≤ sfP dn dx q ∧ sfP dn dx q ≤ 400 := by
  unfold sfP
  split
  all_goals omega
theorem q64 (x : Int) : U64 (IntKind.u64.wrap x / 4) := by have := quarter x; unfold U64; omega
/-- internal/strconv.shortFloat. -/
theorem short_ex (m e : Int) (hm0 : 9223372036854775808 ≤ m) (hm1 : m ≤ 18446744073709549568) (he : -1137 ≤ e) (he1 : e ≤ 1000) :
    ∃ d p : Int, U64 d ∧ (-400 ≤ p ∧ p ≤ 400) ∧ ∀ w : World, 17 ≤ w.heap.size → pTab w → Calls Tryz.prog 210 #[.int .u64 m, .int .i64 e] w fun en w' => en = .returned (.tuple #[.int .u64 d, .int .i64 p]) ∧ Below w.heap.size w w' := by
  have ho : bits .and .i64 (m / 2048) 1 = m / 2048 % 2 := and1 _ (by omega) (by omega)
  by_cases h1 : m = 9223372036854775808 ∧ -1085 < e
  · obtain ⟨q, hq⟩ : ∃ q, ((e + 11) * 631305 - 261663) / 2097152 = q := ⟨_, rfl⟩
    obtain ⟨l, hl⟩ : ∃ l, -q * 108853 / 32768 = l := ⟨_, rfl⟩
    refine ⟨_, _, sfD_u64 _ _ _ (q64 _) (q64 _), sfP_bd _ _ q (by omega), fun w h17 hT => short_edge m e q l (m / 2048 % 2) _ _ (-(e + l + 3)).toNat hm0 hm1 h1.2 he1 h1.1 hq hl (by omega) ho (by omega) rfl rfl w h17 hT⟩
  · by_cases h2 : -1085 ≤ e
    · obtain ⟨q, hq⟩ : ∃ q, (e + 11) * 78913 / 262144 = q := ⟨_, rfl⟩
      obtain ⟨l, hl⟩ : ∃ l, -q * 108853 / 32768 = l := ⟨_, rfl⟩
      refine ⟨_, _, sfD_u64 _ _ _ (q64 _) (q64 _), sfP_bd _ _ q (by omega), fun w h17 hT => short_normal m e q l (m / 2048 % 2) _ _ (-(e + l + 3)).toNat hm0 hm1 h2 he1 h1 hq hl (by omega) ho (by omega) rfl rfl w h17 hT⟩
    · obtain ⟨z, hz⟩ : ∃ z : Nat, -1074 - e = (z : Int) := ⟨(-1074 - e).toNat, by omega⟩
      obtain ⟨y, hy⟩ : ∃ y : Nat, (z : Int) - 1 = (y : Int) := ⟨z - 1, by omega⟩
      obtain ⟨q, hq⟩ : ∃ q : Int, (-1074 : Int) * 78913 / 262144 = q := ⟨_, rfl⟩
      obtain ⟨l, hl⟩ : ∃ l, -q * 108853 / 32768 = l := ⟨_, rfl⟩
      have p1 : 1 ≤ 2 ^ y := Nat.one_le_two_pow
      have p2 : 2 ^ y ≤ 2 ^ 62 := Nat.pow_le_pow_right (by omega) (by omega)
      have p3 : ((2 ^ y : Nat) : Int) = (2 : Int) ^ y := by simp
      have p4 : 2 ^ 12 ≤ 2 ^ z := Nat.pow_le_pow_right (by omega) (by omega)
      have p5 : ((2 ^ z : Nat) : Int) = (2 : Int) ^ z := by simp
      have m0 : 0 ≤ m / 2 ^ z := Int.ediv_nonneg (by omega) (by omega)
      have m1 : m / 2 ^ z < 4611686018427387903 := Int.ediv_lt_of_lt_mul (by omega) (by rw [← p5]; omega)
      refine ⟨_, _, sfD_u64 _ _ _ (q64 _) (q64 _), sfP_bd _ _ q (by omega), fun w h17 hT => short_low m e q l (m / 2 ^ z % 2) _ _ (-(e + l + 3)).toNat hm0 hm1 z y _ hz hy (by omega) (by omega) rfl (by omega) (by omega) _ rfl m0 (by omega) hq hl (by omega) (and1 _ m0 (by omega)) (by omega) rfl rfl w h17 hT⟩
end Go.Proofs.YtpfkgpcnhdkkbaaGreatDoor
