/- docRight: the very answer; no condition but on sizes. -/
import Derived.Test.YtpfkgpcnhdkkbaaGreatDoorAGt
import Derived.Test.YtpfkgpcnhdkkbaaGreatDoorAMf
import Derived.Test.YtpfkgpcnhdkkbaaGreatDoorAGo
import Derived.Test.YtpfkgpcnhdkkbaaGreatDoorAMq
namespace Go.Proofs.YtpfkgpcnhdkkbaaGreatDoor
set_option maxHeartbeats 8000000
open Go.RowKit
set_option linter.unusedVariables false
set_option linter.unusedSimpArgs false
set_option maxRecDepth 100000
def kidOk {K : Type} (fk : K → Bool) (kind : Int) (i : Nat) (p : ByteArray × K) : Bool :=
 plainB p.1 && (!(kind == 4) || p.1 == ⟨(Lib.decDigits i).toArray⟩) && fk p.2
def kidsOk {K : Type} (fk : K → Bool) (kind : Int) (l : List (ByteArray × K)) : Prop := ∀ i p, l[i]? = some p → kidOk fk kind i p = true
def rightP {K : Type} (fk : K → Bool) (t : VR K) : Prop :=
 knownB t.kind = true ∧ bareOk t.kind t.text t.more t.n t.bits t.high t.b.length t.kids.length ∧
 (if t.kind = 5 then 0 ≤ t.n ∧ t.n ≤ 255 else if t.kind = 7 ∨ t.kind = 12 then t.b.length = 12 else if t.kind = 8 then t.n = 0 ∨ t.n = 1 else if t.kind = 16 then -2147483648 ≤ t.n ∧ t.n < 2147483648 else if t.kind = 11 then plainB t.text = true ∧ plainB t.more = true else kidsOk fk t.kind t.kids)
open Classical in
noncomputable def rightR {K : Type} (fk : K → Bool) (t : VR K) : Bool := decide (rightP fk t)
noncomputable def rightB : (d : Nat) → VT d → Nat → Bool
 | 0, t, _ => t.elim
 | d + 1, t, 0 => false
 | d + 1, t, deep + 1 => rightR (fun k => rightB d k deep) t
structure REnv (K : Type) (fk : K → Bool) (R : K → List Value → Prop) (l : List (ByteArray × K)) (deep : Int) (w0 : World) : Prop where
 cells : ∀ p ∈ l, ∀ cs, R p.2 cs → Cells8 cs
 names : ∀ p ∈ l, p.1.size ≤ 140737488351232
 val : ∀ p ∈ l, ∀ cs, R p.2 cs → ∀ W, Below w0.heap.size w0 W → Calls Tryz.prog 58 #[.agg cs.toArray, .int .i64 (deep - 1)] W fun e w' => e = .returned (.bool (fk p.2)) ∧ Below W.heap.size W w'
theorem box_cells (w : World) (k : Int) (text more : ByteArray) (n : Int) (bits high : Int) (bv kv : Value) : ∃ X, w.alloc (.cells #[.int .i64 k, .string text, .string more, .int .i64 n, .int .u64 bits, .int .u64 high, bv, kv] 26) = X ∧ Below w.heap.size w X ∧ X.heap.size = w.heap.size + 1 ∧
  ∀ W, Below X.heap.size X W → ∀ i v, (#[.int .i64 k, .string text, .string more, .int .i64 n, .int .u64 bits, .int .u64 high, bv, kv] : Array Value)[i]? = some v → W.cell? ⟨w.heap.size, i, none⟩ = some v := by
 refine ⟨_, rfl, below_allocB w _, by simp, fun W hW i v hv => ?_⟩
 rw [hW.cell (p := ⟨w.heap.size, i, none⟩) (by simp)]
 exact (blk_cell (heap_alloc_new w _) i).trans hv
theorem box8 {p : Nat} {w : World} {k : Int} {text more : ByteArray} {n bits high : Int} {bv kv : Value} (h : ∀ i v, (#[.int .i64 k, .string text, .string more, .int .i64 n, .int .u64 bits, .int .u64 high, bv, kv] : Array Value)[i]? = some v → w.cell? ⟨p, i, none⟩ = some v) :
  w.cell? ⟨p, 0, none⟩ = some (.int .i64 k) ∧ w.cell? ⟨p, 1, none⟩ = some (.string text) ∧ w.cell? ⟨p, 2, none⟩ = some (.string more) ∧ w.cell? ⟨p, 3, none⟩ = some (.int .i64 n) ∧ w.cell? ⟨p, 4, none⟩ = some (.int .u64 bits) ∧ w.cell? ⟨p, 5, none⟩ = some (.int .u64 high) ∧ w.cell? ⟨p, 6, none⟩ = some bv ∧ w.cell? ⟨p, 7, none⟩ = some kv :=
 ⟨h 0 _ rfl, h 1 _ rfl, h 2 _ rfl, h 3 _ rfl, h 4 _ rfl, h 5 _ rfl, h 6 _ rfl, h 7 _ rfl⟩
theorem quiet_skip {P : Program} {C : World → Prop} {ops : Array Oper} {Q : Act → Prop} {a : Act} {o : Oper} {rest : List Oper} (hw : Region.wanted o (yielded ops a.tmps) = false) (hK : wpQuiet P ops C Q rest (a.put o.dst undef)) :
  wpQuiet P ops C Q (o :: rest) a := by
 unfold wpQuiet
 rw [if_neg (by simp [hw])]
 exact hK
theorem right_unknown (k : Int) (hk : knownB k = false) (text more : ByteArray) (n : Int) (bits high : Nat) (A B : Option Addr) (m c m2 c2 : Nat) (deep : Int) (w : World) :
  Calls Tryz.prog 58 #[valV k text more n bits high (.slice A m c) (.slice B m2 c2), .int .i64 deep] w fun e w' => e = .returned (.bool false) ∧ Below w.heap.size w w' := by
 unfold valV
 obtain ⟨X, hX, hXb, hXs, hXc⟩ := box_cells w k text more n bits high (.slice A m c) (.slice B m2 c2)
 have HXB := LH hXb
 have HX := LH hX
 clear hXb hX hXs hXc
 go_enter Tryz.func58, Tryz.ntmps58
 go_wp2_with (go_at_call 84; refine (known_ex k _).mono ?_; rintro e w' ⟨rfl, rfl⟩)
 go_ret
 exact ⟨rfl, HX.out ▸ HXB.out⟩
theorem right_deep0 (k : Int) (hk : knownB k = true) (text more : ByteArray) (n : Int) (bits high : Nat) (A B : Option Addr) (m c m2 c2 : Nat) (w : World) :
  Calls Tryz.prog 58 #[valV k text more n bits high (.slice A m c) (.slice B m2 c2), .int .i64 0] w fun e w' => e = .returned (.bool false) ∧ Below w.heap.size w w' := by
 unfold valV
 obtain ⟨X, hX, hXb, hXs, hXc⟩ := box_cells w k text more n bits high (.slice A m c) (.slice B m2 c2)
 have HXB := LH hXb
 have HX := LH hX
 clear hXb hX hXs hXc
 go_enter Tryz.func58, Tryz.ntmps58
 go_wp2_with (go_at_call 84; refine (known_ex k _).mono ?_; rintro e w' ⟨rfl, rfl⟩)
 go_ret
 exact ⟨rfl, HX.out ▸ HXB.out⟩
theorem right_notbare (k : Int) (hk : knownB k = true) (text more : ByteArray) (n : Int) (bits high : Nat) (A B : Option Addr) (m c m2 c2 : Nat) (hm : m ≤ 140737488351232) (hm2 : m2 ≤ 140737488351232) (deep : Int) (hd : (deep == 0) = false) (hbare : ¬ bareOk k text more n bits high m m2) (w : World) :
  Calls Tryz.prog 58 #[valV k text more n bits high (.slice A m c) (.slice B m2 c2), .int .i64 deep] w fun e w' => e = .returned (.bool false) ∧ Below w.heap.size w w' := by
 obtain ⟨tx, mr, n', b', h', A', B', m', c', m2', c2', hc, hiff, hmm, hmm2⟩ := bare_ex k hk text more n bits high A B m c m2 c2
 rw [hiff] at hbare
 clear hiff
 have HC := LH hc
 clear hc
 unfold valV at HC ⊢
 obtain ⟨X, hX, hXb, hXs, hXc⟩ := box_cells w k text more n bits high (.slice A m c) (.slice B m2 c2)
 have HXB := LH hXb
 have HX := LH hX
 obtain ⟨l0, l1, l2, l3, l4, l5, l6, l7⟩ := box8 (hXc X (Below.refl _ _))
 have hcase : (1 ≤ tx.size) ∨ (tx.size = 0 ∧ 1 ≤ mr.size) ∨ (tx.size = 0 ∧ mr.size = 0 ∧ ¬ n' = 0) ∨ (tx.size = 0 ∧ mr.size = 0 ∧ n' = 0 ∧ ¬ b' = 0) ∨ (tx.size = 0 ∧ mr.size = 0 ∧ n' = 0 ∧ b' = 0 ∧ ¬ h' = 0) ∨ (tx.size = 0 ∧ mr.size = 0 ∧ n' = 0 ∧ b' = 0 ∧ h' = 0 ∧ 0 < m') ∨ (tx.size = 0 ∧ mr.size = 0 ∧ n' = 0 ∧ b' = 0 ∧ h' = 0 ∧ m' = 0 ∧ 0 < m2') := by omega
 clear hXb hXs hXc hbare
 have HH := LH hX
 clear hX
 rcases hcase with q | q | q | q | q | q | q
 all_goals
  first
   | (have f1 := full_of_size q)
   | (obtain ⟨q1, q2⟩ := q; have f1 := empty_of_size q1; have f2 := full_of_size q2)
   | (obtain ⟨q1, q2, q3⟩ := q; have f1 := empty_of_size q1; have f2 := empty_of_size q2; have f3 : (n' == 0) = false := by simpa using q3)
   | (obtain ⟨q1, q2, rfl, q4⟩ := q; have f1 := empty_of_size q1; have f2 := empty_of_size q2; have f4 : (b' == 0) = false := by simpa using q4)
   | (obtain ⟨q1, q2, rfl, rfl, q5⟩ := q; have f1 := empty_of_size q1; have f2 := empty_of_size q2; have f5 : (h' == 0) = false := by simpa using q5)
   | (obtain ⟨q1, q2, rfl, rfl, rfl, q6⟩ := q; have f1 := empty_of_size q1; have f2 := empty_of_size q2; have f6 : ((m' : Int) == 0) = false := by simp; omega)
   | (obtain ⟨q1, q2, rfl, rfl, rfl, rfl, q7⟩ := q; have f1 := empty_of_size q1; have f2 := empty_of_size q2; have f7 : ((m2' : Int) == 0) = false := by simp; omega)
  go_enter Tryz.func58, Tryz.ntmps58
  go_wp2_with (first | (go_at_call 84; refine (known_ex k _).mono ?_; rintro e w' ⟨rfl, rfl⟩) | (rw [HX.out]; go_at_call 85; refine (HC.out _).mono ?_; rintro e w' ⟨rfl, hb2⟩; have HB2 := LH hb2; clear hb2))
  go_ret
  exact ⟨rfl, HXB.out.trans ((HB2.out.trans ((below_allocB _ _).mono HB2.out.size)).mono HXB.out.size)⟩
theorem right_bin (text more : ByteArray) (n : Int) (bits high : Nat) (A B : Option Addr) (m c m2 c2 : Nat) (hts : text.size ≤ 140737488351232) (hms : more.size ≤ 140737488351232) (hm : m ≤ 140737488351232) (hm2 : m2 ≤ 140737488351232) (deep : Int) (hd : (deep == 0) = false) (hbare : bareOk 5 text more n bits high m m2) (w : World) :
  Calls Tryz.prog 58 #[valV 5 text more n bits high (.slice A m c) (.slice B m2 c2), .int .i64 deep] w fun e w' => e = .returned (.bool (decide (0 ≤ n ∧ n ≤ 255))) ∧ Below w.heap.size w w' := by
 obtain ⟨tx, mr, n', b', h', A', B', m', c', m2', c2', hc, hiff, hmm, hmm2⟩ := bare_ex 5 rfl text more n bits high A B m c m2 c2
 rw [hiff] at hbare
 clear hiff
 obtain ⟨z1, z2, rfl, rfl, rfl, rfl, rfl⟩ := hbare
 have f1 := empty_of_size z1
 have f2 := empty_of_size z2
 have HC := LH hc
 clear hc hmm hmm2 z1 z2
 unfold valV at HC ⊢
 obtain ⟨X, hX, hXb, hXs, hXc⟩ := box_cells w 5 text more n bits high (.slice A m c) (.slice B m2 c2)
 have HXB := LH hXb
 have HX := LH hX
 have HXC := LH hXc
 have HXS := LH hXs
 have hkn : knownB 5 = true := rfl
 clear hX hXb hXc hXs
 have hq : (n < 0) ∨ (0 ≤ n ∧ n ≤ 255) ∨ (0 ≤ n ∧ 255 < n) := by omega
 rcases hq with q | ⟨q, q2⟩ | ⟨q, q2⟩
 ·have hv : decide (0 ≤ n ∧ n ≤ 255) = false := by simp; omega
  rw [hv]
  clear hv
  go_enter Tryz.func58, Tryz.ntmps58
  go_upto_region 1 with fail
  rw [HX.out]
  obtain ⟨l0, l1, l2, l3, l4, l5, l6, l7⟩ := box8 (HXC.out X (Below.refl _ _))
  go_wp2_with (first | (go_at_call 84; refine (known_ex _ _).mono ?_; rintro e w' ⟨rfl, rfl⟩) | (go_at_call 85; refine (HC.out _).mono ?_; rintro e w2 ⟨rfl, hb2⟩; refine Hid.out ?_))
  refine LH ?_
  have hb3 : Below X.heap.size X (w2.alloc (.cells #[.int .i64 5, .string tx, .string mr, .int .i64 0, .int .u64 0, .int .u64 0, .slice A' 0 c', .slice B' 0 c2'] 26)) := hb2.trans ((below_allocB w2 _).mono hb2.size)
  have HB3 := LH hb3
  clear l0 l1 l2 l3 l4 l5 l6 l7
  have c0 := HXC.out _ hb3 0 _ rfl
  have c3 := HXC.out _ hb3 3 _ rfl
  clear hb2 hb3
  go_wp2_with fail
  go_ret
  exact ⟨rfl, HXB.out.trans (HB3.out.mono HXB.out.size)⟩
 ·have hv : decide (0 ≤ n ∧ n ≤ 255) = true := by simp; omega
  rw [hv]
  clear hv
  go_enter Tryz.func58, Tryz.ntmps58
  go_upto_region 1 with fail
  rw [HX.out]
  obtain ⟨l0, l1, l2, l3, l4, l5, l6, l7⟩ := box8 (HXC.out X (Below.refl _ _))
  go_wp2_with (first | (go_at_call 84; refine (known_ex _ _).mono ?_; rintro e w' ⟨rfl, rfl⟩) | (go_at_call 85; refine (HC.out _).mono ?_; rintro e w2 ⟨rfl, hb2⟩; refine Hid.out ?_))
  refine LH ?_
  have hb3 : Below X.heap.size X (w2.alloc (.cells #[.int .i64 5, .string tx, .string mr, .int .i64 0, .int .u64 0, .int .u64 0, .slice A' 0 c', .slice B' 0 c2'] 26)) := hb2.trans ((below_allocB w2 _).mono hb2.size)
  have HB3 := LH hb3
  clear l0 l1 l2 l3 l4 l5 l6 l7
  have c0 := HXC.out _ hb3 0 _ rfl
  have c3 := HXC.out _ hb3 3 _ rfl
  clear hb2 hb3
  go_wp2_with fail
  go_ret
  exact ⟨rfl, HXB.out.trans (HB3.out.mono HXB.out.size)⟩
 ·have hv : decide (0 ≤ n ∧ n ≤ 255) = false := by simp; omega
  rw [hv]
  have e1 : decide (n ≤ 255) = false := by simp; omega
  clear hv
  go_enter Tryz.func58, Tryz.ntmps58
  go_upto_region 1 with fail
  rw [HX.out]
  obtain ⟨l0, l1, l2, l3, l4, l5, l6, l7⟩ := box8 (HXC.out X (Below.refl _ _))
  go_wp2_with (first | (go_at_call 84; refine (known_ex _ _).mono ?_; rintro e w' ⟨rfl, rfl⟩) | (go_at_call 85; refine (HC.out _).mono ?_; rintro e w2 ⟨rfl, hb2⟩; refine Hid.out ?_))
  refine LH ?_
  have hb3 : Below X.heap.size X (w2.alloc (.cells #[.int .i64 5, .string tx, .string mr, .int .i64 0, .int .u64 0, .int .u64 0, .slice A' 0 c', .slice B' 0 c2'] 26)) := hb2.trans ((below_allocB w2 _).mono hb2.size)
  have HB3 := LH hb3
  clear l0 l1 l2 l3 l4 l5 l6 l7
  have c0 := HXC.out _ hb3 0 _ rfl
  have c3 := HXC.out _ hb3 3 _ rfl
  clear hb2 hb3
  go_wp2_with fail
  go_ret
  exact ⟨rfl, HXB.out.trans (HB3.out.mono HXB.out.size)⟩
theorem right_oid (text more : ByteArray) (n : Int) (bits high : Nat) (A B : Option Addr) (m c m2 c2 : Nat) (hts : text.size ≤ 140737488351232) (hms : more.size ≤ 140737488351232) (hm : m ≤ 140737488351232) (hm2 : m2 ≤ 140737488351232) (deep : Int) (hd : (deep == 0) = false) (hbare : bareOk 7 text more n bits high m m2) (w : World) :
  Calls Tryz.prog 58 #[valV 7 text more n bits high (.slice A m c) (.slice B m2 c2), .int .i64 deep] w fun e w' => e = .returned (.bool (decide (m = 12))) ∧ Below w.heap.size w w' := by
 obtain ⟨tx, mr, n', b', h', A', B', m', c', m2', c2', hc, hiff, hmm, hmm2⟩ := bare_ex 7 rfl text more n bits high A B m c m2 c2
 rw [hiff] at hbare
 clear hiff
 obtain ⟨z1, z2, rfl, rfl, rfl, rfl, rfl⟩ := hbare
 have f1 := empty_of_size z1
 have f2 := empty_of_size z2
 have HC := LH hc
 clear hc hmm hmm2 z1 z2
 unfold valV at HC ⊢
 obtain ⟨X, hX, hXb, hXs, hXc⟩ := box_cells w 7 text more n bits high (.slice A m c) (.slice B m2 c2)
 have HXB := LH hXb
 have HX := LH hX
 have HXC := LH hXc
 have HXS := LH hXs
 have hkn : knownB 7 = true := rfl
 clear hX hXb hXc hXs
 have hq : (m = 12) ∨ (¬ m = 12) := by omega
 rcases hq with q | q
 ·have hv : decide (m = 12) = true := by simp; omega
  rw [hv]
  have hmb : ((m : Int) == 12) = true := by simp; omega
  clear q
  clear hv
  go_enter Tryz.func58, Tryz.ntmps58
  go_upto_region 1 with fail
  rw [HX.out]
  obtain ⟨l0, l1, l2, l3, l4, l5, l6, l7⟩ := box8 (HXC.out X (Below.refl _ _))
  go_wp2_with (first | (go_at_call 84; refine (known_ex _ _).mono ?_; rintro e w' ⟨rfl, rfl⟩) | (go_at_call 85; refine (HC.out _).mono ?_; rintro e w2 ⟨rfl, hb2⟩; refine Hid.out ?_))
  refine LH ?_
  have hb3 : Below X.heap.size X (w2.alloc (.cells #[.int .i64 7, .string tx, .string mr, .int .i64 0, .int .u64 0, .int .u64 0, .slice A' 0 c', .slice B' 0 c2'] 26)) := hb2.trans ((below_allocB w2 _).mono hb2.size)
  have HB3 := LH hb3
  clear l0 l1 l2 l3 l4 l5 l6 l7
  have c0 := HXC.out _ hb3 0 _ rfl
  have c6 := HXC.out _ hb3 6 _ rfl
  clear hb2 hb3
  go_wp2_with fail
  go_ret
  exact ⟨rfl, HXB.out.trans (HB3.out.mono HXB.out.size)⟩
 ·have hv : decide (m = 12) = false := by simp; omega
  rw [hv]
  have hmb : ((m : Int) == 12) = false := by simp; omega
  clear q
  clear hv
  go_enter Tryz.func58, Tryz.ntmps58
  go_upto_region 1 with fail
  rw [HX.out]
  obtain ⟨l0, l1, l2, l3, l4, l5, l6, l7⟩ := box8 (HXC.out X (Below.refl _ _))
  go_wp2_with (first | (go_at_call 84; refine (known_ex _ _).mono ?_; rintro e w' ⟨rfl, rfl⟩) | (go_at_call 85; refine (HC.out _).mono ?_; rintro e w2 ⟨rfl, hb2⟩; refine Hid.out ?_))
  refine LH ?_
  have hb3 : Below X.heap.size X (w2.alloc (.cells #[.int .i64 7, .string tx, .string mr, .int .i64 0, .int .u64 0, .int .u64 0, .slice A' 0 c', .slice B' 0 c2'] 26)) := hb2.trans ((below_allocB w2 _).mono hb2.size)
  have HB3 := LH hb3
  clear l0 l1 l2 l3 l4 l5 l6 l7
  have c0 := HXC.out _ hb3 0 _ rfl
  have c6 := HXC.out _ hb3 6 _ rfl
  clear hb2 hb3
  go_wp2_with fail
  go_ret
  exact ⟨rfl, HXB.out.trans (HB3.out.mono HXB.out.size)⟩
theorem right_ptr (text more : ByteArray) (n : Int) (bits high : Nat) (A B : Option Addr) (m c m2 c2 : Nat) (hts : text.size ≤ 140737488351232) (hms : more.size ≤ 140737488351232) (hm : m ≤ 140737488351232) (hm2 : m2 ≤ 140737488351232) (deep : Int) (hd : (deep == 0) = false) (hbare : bareOk 12 text more n bits high m m2) (w : World) :
  Calls Tryz.prog 58 #[valV 12 text more n bits high (.slice A m c) (.slice B m2 c2), .int .i64 deep] w fun e w' => e = .returned (.bool (decide (m = 12))) ∧ Below w.heap.size w w' := by
 obtain ⟨tx, mr, n', b', h', A', B', m', c', m2', c2', hc, hiff, hmm, hmm2⟩ := bare_ex 12 rfl text more n bits high A B m c m2 c2
 rw [hiff] at hbare
 clear hiff
 obtain ⟨z1, z2, rfl, rfl, rfl, rfl, rfl⟩ := hbare
 have f1 := empty_of_size z1
 have f2 := empty_of_size z2
 have HC := LH hc
 clear hc hmm hmm2 z1 z2
 unfold valV at HC ⊢
 obtain ⟨X, hX, hXb, hXs, hXc⟩ := box_cells w 12 text more n bits high (.slice A m c) (.slice B m2 c2)
 have HXB := LH hXb
 have HX := LH hX
 have HXC := LH hXc
 have HXS := LH hXs
 have hkn : knownB 12 = true := rfl
 clear hX hXb hXc hXs
 have hq : (m = 12) ∨ (¬ m = 12) := by omega
 rcases hq with q | q
 ·have hv : decide (m = 12) = true := by simp; omega
  rw [hv]
  have hmb : ((m : Int) == 12) = true := by simp; omega
  clear q
  clear hv
  go_enter Tryz.func58, Tryz.ntmps58
  go_upto_region 1 with fail
  rw [HX.out]
  obtain ⟨l0, l1, l2, l3, l4, l5, l6, l7⟩ := box8 (HXC.out X (Below.refl _ _))
  go_wp2_with (first | (go_at_call 84; refine (known_ex _ _).mono ?_; rintro e w' ⟨rfl, rfl⟩) | (go_at_call 85; refine (HC.out _).mono ?_; rintro e w2 ⟨rfl, hb2⟩; refine Hid.out ?_))
  refine LH ?_
  have hb3 : Below X.heap.size X (w2.alloc (.cells #[.int .i64 12, .string tx, .string mr, .int .i64 0, .int .u64 0, .int .u64 0, .slice A' 0 c', .slice B' 0 c2'] 26)) := hb2.trans ((below_allocB w2 _).mono hb2.size)
  have HB3 := LH hb3
  clear l0 l1 l2 l3 l4 l5 l6 l7
  have c0 := HXC.out _ hb3 0 _ rfl
  have c6 := HXC.out _ hb3 6 _ rfl
  clear hb2 hb3
  go_wp2_with fail
  go_ret
  exact ⟨rfl, HXB.out.trans (HB3.out.mono HXB.out.size)⟩
 ·have hv : decide (m = 12) = false := by simp; omega
  rw [hv]
  have hmb : ((m : Int) == 12) = false := by simp; omega
  clear q
  clear hv
  go_enter Tryz.func58, Tryz.ntmps58
  go_upto_region 1 with fail
  rw [HX.out]
  obtain ⟨l0, l1, l2, l3, l4, l5, l6, l7⟩ := box8 (HXC.out X (Below.refl _ _))
  go_wp2_with (first | (go_at_call 84; refine (known_ex _ _).mono ?_; rintro e w' ⟨rfl, rfl⟩) | (go_at_call 85; refine (HC.out _).mono ?_; rintro e w2 ⟨rfl, hb2⟩; refine Hid.out ?_))
  refine LH ?_
  have hb3 : Below X.heap.size X (w2.alloc (.cells #[.int .i64 12, .string tx, .string mr, .int .i64 0, .int .u64 0, .int .u64 0, .slice A' 0 c', .slice B' 0 c2'] 26)) := hb2.trans ((below_allocB w2 _).mono hb2.size)
  have HB3 := LH hb3
  clear l0 l1 l2 l3 l4 l5 l6 l7
  have c0 := HXC.out _ hb3 0 _ rfl
  have c6 := HXC.out _ hb3 6 _ rfl
  clear hb2 hb3
  go_wp2_with fail
  go_ret
  exact ⟨rfl, HXB.out.trans (HB3.out.mono HXB.out.size)⟩
theorem right_bool (text more : ByteArray) (n : Int) (bits high : Nat) (A B : Option Addr) (m c m2 c2 : Nat) (hts : text.size ≤ 140737488351232) (hms : more.size ≤ 140737488351232) (hm : m ≤ 140737488351232) (hm2 : m2 ≤ 140737488351232) (deep : Int) (hd : (deep == 0) = false) (hbare : bareOk 8 text more n bits high m m2) (w : World) :
  Calls Tryz.prog 58 #[valV 8 text more n bits high (.slice A m c) (.slice B m2 c2), .int .i64 deep] w fun e w' => e = .returned (.bool (decide (n = 0 ∨ n = 1))) ∧ Below w.heap.size w w' := by
 obtain ⟨tx, mr, n', b', h', A', B', m', c', m2', c2', hc, hiff, hmm, hmm2⟩ := bare_ex 8 rfl text more n bits high A B m c m2 c2
 rw [hiff] at hbare
 clear hiff
 obtain ⟨z1, z2, rfl, rfl, rfl, rfl, rfl⟩ := hbare
 have f1 := empty_of_size z1
 have f2 := empty_of_size z2
 have HC := LH hc
 clear hc hmm hmm2 z1 z2
 unfold valV at HC ⊢
 obtain ⟨X, hX, hXb, hXs, hXc⟩ := box_cells w 8 text more n bits high (.slice A m c) (.slice B m2 c2)
 have HXB := LH hXb
 have HX := LH hX
 have HXC := LH hXc
 have HXS := LH hXs
 have hkn : knownB 8 = true := rfl
 clear hX hXb hXc hXs
 have hq : (n = 0) ∨ (n = 1) ∨ (¬ n = 0 ∧ ¬ n = 1) := by omega
 rcases hq with q | q | ⟨q1, q2⟩
 ·have hv : decide (n = 0 ∨ n = 1) = true := by simp; omega
  rw [hv]
  have e1 : (n == 0) = true := by simpa using q
  clear q
  clear hv
  go_enter Tryz.func58, Tryz.ntmps58
  go_upto_region 1 with fail
  rw [HX.out]
  obtain ⟨l0, l1, l2, l3, l4, l5, l6, l7⟩ := box8 (HXC.out X (Below.refl _ _))
  go_wp2_with (first | (go_at_call 84; refine (known_ex _ _).mono ?_; rintro e w' ⟨rfl, rfl⟩) | (go_at_call 85; refine (HC.out _).mono ?_; rintro e w2 ⟨rfl, hb2⟩; refine Hid.out ?_))
  refine LH ?_
  have hb3 : Below X.heap.size X (w2.alloc (.cells #[.int .i64 8, .string tx, .string mr, .int .i64 0, .int .u64 0, .int .u64 0, .slice A' 0 c', .slice B' 0 c2'] 26)) := hb2.trans ((below_allocB w2 _).mono hb2.size)
  have HB3 := LH hb3
  clear l0 l1 l2 l3 l4 l5 l6 l7
  have c0 := HXC.out _ hb3 0 _ rfl
  have c3 := HXC.out _ hb3 3 _ rfl
  clear hb2 hb3
  go_wp2_with fail
  go_ret
  exact ⟨rfl, HXB.out.trans (HB3.out.mono HXB.out.size)⟩
 ·have hv : decide (n = 0 ∨ n = 1) = true := by simp; omega
  rw [hv]
  have e1 : (n == 0) = false := by simp; omega
  have e2 : (n == 1) = true := by simpa using q
  clear q
  clear hv
  go_enter Tryz.func58, Tryz.ntmps58
  go_upto_region 1 with fail
  rw [HX.out]
  obtain ⟨l0, l1, l2, l3, l4, l5, l6, l7⟩ := box8 (HXC.out X (Below.refl _ _))
  go_wp2_with (first | (go_at_call 84; refine (known_ex _ _).mono ?_; rintro e w' ⟨rfl, rfl⟩) | (go_at_call 85; refine (HC.out _).mono ?_; rintro e w2 ⟨rfl, hb2⟩; refine Hid.out ?_))
  refine LH ?_
  have hb3 : Below X.heap.size X (w2.alloc (.cells #[.int .i64 8, .string tx, .string mr, .int .i64 0, .int .u64 0, .int .u64 0, .slice A' 0 c', .slice B' 0 c2'] 26)) := hb2.trans ((below_allocB w2 _).mono hb2.size)
  have HB3 := LH hb3
  clear l0 l1 l2 l3 l4 l5 l6 l7
  have c0 := HXC.out _ hb3 0 _ rfl
  have c3 := HXC.out _ hb3 3 _ rfl
  clear hb2 hb3
  go_wp2_with fail
  go_ret
  exact ⟨rfl, HXB.out.trans (HB3.out.mono HXB.out.size)⟩
 ·have hv : decide (n = 0 ∨ n = 1) = false := by simp; omega
  rw [hv]
  have e1 : (n == 0) = false := by simpa using q1
  have e2 : (n == 1) = false := by simpa using q2
  clear q1 q2
  clear hv
  go_enter Tryz.func58, Tryz.ntmps58
  go_upto_region 1 with fail
  rw [HX.out]
  obtain ⟨l0, l1, l2, l3, l4, l5, l6, l7⟩ := box8 (HXC.out X (Below.refl _ _))
  go_wp2_with (first | (go_at_call 84; refine (known_ex _ _).mono ?_; rintro e w' ⟨rfl, rfl⟩) | (go_at_call 85; refine (HC.out _).mono ?_; rintro e w2 ⟨rfl, hb2⟩; refine Hid.out ?_))
  refine LH ?_
  have hb3 : Below X.heap.size X (w2.alloc (.cells #[.int .i64 8, .string tx, .string mr, .int .i64 0, .int .u64 0, .int .u64 0, .slice A' 0 c', .slice B' 0 c2'] 26)) := hb2.trans ((below_allocB w2 _).mono hb2.size)
  have HB3 := LH hb3
  clear l0 l1 l2 l3 l4 l5 l6 l7
  have c0 := HXC.out _ hb3 0 _ rfl
  have c3 := HXC.out _ hb3 3 _ rfl
  clear hb2 hb3
  go_wp2_with fail
  go_ret
  exact ⟨rfl, HXB.out.trans (HB3.out.mono HXB.out.size)⟩
theorem right_i32 (text more : ByteArray) (n : Int) (bits high : Nat) (A B : Option Addr) (m c m2 c2 : Nat) (hts : text.size ≤ 140737488351232) (hms : more.size ≤ 140737488351232) (hm : m ≤ 140737488351232) (hm2 : m2 ≤ 140737488351232) (deep : Int) (hd : (deep == 0) = false) (hbare : bareOk 16 text more n bits high m m2) (w : World) :
  Calls Tryz.prog 58 #[valV 16 text more n bits high (.slice A m c) (.slice B m2 c2), .int .i64 deep] w fun e w' => e = .returned (.bool (decide (-2147483648 ≤ n ∧ n < 2147483648))) ∧ Below w.heap.size w w' := by
 obtain ⟨tx, mr, n', b', h', A', B', m', c', m2', c2', hc, hiff, hmm, hmm2⟩ := bare_ex 16 rfl text more n bits high A B m c m2 c2
 rw [hiff] at hbare
 clear hiff
 obtain ⟨z1, z2, rfl, rfl, rfl, rfl, rfl⟩ := hbare
 have f1 := empty_of_size z1
 have f2 := empty_of_size z2
 have HC := LH hc
 clear hc hmm hmm2 z1 z2
 unfold valV at HC ⊢
 obtain ⟨X, hX, hXb, hXs, hXc⟩ := box_cells w 16 text more n bits high (.slice A m c) (.slice B m2 c2)
 have HXB := LH hXb
 have HX := LH hX
 have HXC := LH hXc
 have HXS := LH hXs
 have hkn : knownB 16 = true := rfl
 clear hX hXb hXc hXs
 have hq : (n < -2147483648) ∨ (-2147483648 ≤ n ∧ n < 2147483648) ∨ (-2147483648 ≤ n ∧ 2147483648 ≤ n) := by omega
 rcases hq with q | ⟨q, q2⟩ | ⟨q, q2⟩
 ·have hv : decide (-2147483648 ≤ n ∧ n < 2147483648) = false := by simp; omega
  rw [hv]
  clear hv
  go_enter Tryz.func58, Tryz.ntmps58
  go_upto_region 1 with fail
  rw [HX.out]
  obtain ⟨l0, l1, l2, l3, l4, l5, l6, l7⟩ := box8 (HXC.out X (Below.refl _ _))
  go_wp2_with (first | (go_at_call 84; refine (known_ex _ _).mono ?_; rintro e w' ⟨rfl, rfl⟩) | (go_at_call 85; refine (HC.out _).mono ?_; rintro e w2 ⟨rfl, hb2⟩; refine Hid.out ?_))
  refine LH ?_
  have hb3 : Below X.heap.size X (w2.alloc (.cells #[.int .i64 16, .string tx, .string mr, .int .i64 0, .int .u64 0, .int .u64 0, .slice A' 0 c', .slice B' 0 c2'] 26)) := hb2.trans ((below_allocB w2 _).mono hb2.size)
  have HB3 := LH hb3
  clear l0 l1 l2 l3 l4 l5 l6 l7
  have c0 := HXC.out _ hb3 0 _ rfl
  have c3 := HXC.out _ hb3 3 _ rfl
  clear hb2 hb3
  go_wp2_with fail
  go_ret
  exact ⟨rfl, HXB.out.trans (HB3.out.mono HXB.out.size)⟩
 ·have hv : decide (-2147483648 ≤ n ∧ n < 2147483648) = true := by simp; omega
  rw [hv]
  clear hv
  go_enter Tryz.func58, Tryz.ntmps58
  go_upto_region 1 with fail
  rw [HX.out]
  obtain ⟨l0, l1, l2, l3, l4, l5, l6, l7⟩ := box8 (HXC.out X (Below.refl _ _))
  go_wp2_with (first | (go_at_call 84; refine (known_ex _ _).mono ?_; rintro e w' ⟨rfl, rfl⟩) | (go_at_call 85; refine (HC.out _).mono ?_; rintro e w2 ⟨rfl, hb2⟩; refine Hid.out ?_))
  refine LH ?_
  have hb3 : Below X.heap.size X (w2.alloc (.cells #[.int .i64 16, .string tx, .string mr, .int .i64 0, .int .u64 0, .int .u64 0, .slice A' 0 c', .slice B' 0 c2'] 26)) := hb2.trans ((below_allocB w2 _).mono hb2.size)
  have HB3 := LH hb3
  clear l0 l1 l2 l3 l4 l5 l6 l7
  have c0 := HXC.out _ hb3 0 _ rfl
  have c3 := HXC.out _ hb3 3 _ rfl
  clear hb2 hb3
  go_wp2_with fail
  go_ret
  exact ⟨rfl, HXB.out.trans (HB3.out.mono HXB.out.size)⟩
 ·have hv : decide (-2147483648 ≤ n ∧ n < 2147483648) = false := by simp; omega
  rw [hv]
  have e1 : decide (n < 2147483648) = false := by simp; omega
  clear hv
  go_enter Tryz.func58, Tryz.ntmps58
  go_upto_region 1 with fail
  rw [HX.out]
  obtain ⟨l0, l1, l2, l3, l4, l5, l6, l7⟩ := box8 (HXC.out X (Below.refl _ _))
  go_wp2_with (first | (go_at_call 84; refine (known_ex _ _).mono ?_; rintro e w' ⟨rfl, rfl⟩) | (go_at_call 85; refine (HC.out _).mono ?_; rintro e w2 ⟨rfl, hb2⟩; refine Hid.out ?_))
  refine LH ?_
  have hb3 : Below X.heap.size X (w2.alloc (.cells #[.int .i64 16, .string tx, .string mr, .int .i64 0, .int .u64 0, .int .u64 0, .slice A' 0 c', .slice B' 0 c2'] 26)) := hb2.trans ((below_allocB w2 _).mono hb2.size)
  have HB3 := LH hb3
  clear l0 l1 l2 l3 l4 l5 l6 l7
  have c0 := HXC.out _ hb3 0 _ rfl
  have c3 := HXC.out _ hb3 3 _ rfl
  clear hb2 hb3
  go_wp2_with fail
  go_ret
  exact ⟨rfl, HXB.out.trans (HB3.out.mono HXB.out.size)⟩
theorem right_regex (text more : ByteArray) (n : Int) (bits high : Nat) (A B : Option Addr) (m c m2 c2 : Nat) (hts : text.size ≤ 140737488351232) (hms : more.size ≤ 140737488351232) (hm : m ≤ 140737488351232) (hm2 : m2 ≤ 140737488351232) (deep : Int) (hd : (deep == 0) = false) (hbare : bareOk 11 text more n bits high m m2) (w : World) :
  Calls Tryz.prog 58 #[valV 11 text more n bits high (.slice A m c) (.slice B m2 c2), .int .i64 deep] w fun e w' => e = .returned (.bool (plainB text && plainB more)) ∧ Below w.heap.size w w' := by
 obtain ⟨tx, mr, n', b', h', A', B', m', c', m2', c2', hc, hiff, hmm, hmm2⟩ := bare_ex 11 rfl text more n bits high A B m c m2 c2
 rw [hiff] at hbare
 clear hiff
 obtain ⟨z1, z2, rfl, rfl, rfl, rfl, rfl⟩ := hbare
 have f1 := empty_of_size z1
 have f2 := empty_of_size z2
 have HC := LH hc
 clear hc hmm hmm2 z1 z2
 unfold valV at HC ⊢
 obtain ⟨X, hX, hXb, hXs, hXc⟩ := box_cells w 11 text more n bits high (.slice A m c) (.slice B m2 c2)
 have HXB := LH hXb
 have HX := LH hX
 have HXC := LH hXc
 have HXS := LH hXs
 have hkn : knownB 11 = true := rfl
 clear hX hXb hXc hXs
 cases hp : plainB text
 ·rw [Bool.false_and]
  go_enter Tryz.func58, Tryz.ntmps58
  go_upto_region 1 with fail
  rw [HX.out]
  obtain ⟨l0, l1, l2, l3, l4, l5, l6, l7⟩ := box8 (HXC.out X (Below.refl _ _))
  go_wp2_with (first | (go_at_call 84; refine (known_ex _ _).mono ?_; rintro e w' ⟨rfl, rfl⟩) | (go_at_call 85; refine (HC.out _).mono ?_; rintro e w2 ⟨rfl, hb2⟩; refine Hid.out ?_))
  refine LH ?_
  have hb3 : Below X.heap.size X (w2.alloc (.cells #[.int .i64 11, .string tx, .string mr, .int .i64 0, .int .u64 0, .int .u64 0, .slice A' 0 c', .slice B' 0 c2'] 26)) := hb2.trans ((below_allocB w2 _).mono hb2.size)
  have HB3 := LH hb3
  clear l0 l1 l2 l3 l4 l5 l6 l7
  have c0 := HXC.out _ hb3 0 _ rfl
  have c1 := HXC.out _ hb3 1 _ rfl
  have c2 := HXC.out _ hb3 2 _ rfl
  clear hb2 hb3
  go_wp2_with (go_at_call 86; refine (plain_ex _ (by omega) _).mono ?_; rintro e w' ⟨rfl, rfl⟩)
  go_ret
  exact ⟨rfl, HXB.out.trans (HB3.out.mono HXB.out.size)⟩
 ·rw [Bool.true_and]
  go_enter Tryz.func58, Tryz.ntmps58
  go_upto_region 1 with fail
  rw [HX.out]
  obtain ⟨l0, l1, l2, l3, l4, l5, l6, l7⟩ := box8 (HXC.out X (Below.refl _ _))
  go_wp2_with (first | (go_at_call 84; refine (known_ex _ _).mono ?_; rintro e w' ⟨rfl, rfl⟩) | (go_at_call 85; refine (HC.out _).mono ?_; rintro e w2 ⟨rfl, hb2⟩; refine Hid.out ?_))
  refine LH ?_
  have hb3 : Below X.heap.size X (w2.alloc (.cells #[.int .i64 11, .string tx, .string mr, .int .i64 0, .int .u64 0, .int .u64 0, .slice A' 0 c', .slice B' 0 c2'] 26)) := hb2.trans ((below_allocB w2 _).mono hb2.size)
  have HB3 := LH hb3
  clear l0 l1 l2 l3 l4 l5 l6 l7
  have c0 := HXC.out _ hb3 0 _ rfl
  have c1 := HXC.out _ hb3 1 _ rfl
  have c2 := HXC.out _ hb3 2 _ rfl
  clear hb2 hb3
  go_wp2_with (go_at_call 86; refine (plain_ex _ (by omega) _).mono ?_; rintro e w' ⟨rfl, rfl⟩)
  go_ret
  exact ⟨rfl, HXB.out.trans (HB3.out.mono HXB.out.size)⟩
set_option maxHeartbeats 8000000
structure HQ (p : Prop) : Prop where
 out : p
section
variable {P : Program} {C : World → Prop}
theorem hq_region {id : Nat} {Q : Exit → Act → World → Prop} {a : Act} {w : World} {l : List Oper} (hm : P.follows .mixedOrders = true) (hB : Region.lexB .any l.toArray = true) (hC : C { w with drawn := w.drawn + 1 })
  (h : HQ (wpQuiet P l.toArray C (fun a' => ∀ w', C w' → Q .normal a' w') l a)) : (Code.region id l.toArray true).wp P Q a w := wp_region_quiet_cls hm hB hC h.out
theorem hq_val {ops : Array Oper} {Q : Act → Prop} {a : Act} {o : Oper} {rest : List Oper} (v : Value) (hw : Region.wanted o (yielded ops a.tmps) = true) (h : ∀ W, C W → (execOp a.eval o).run P W = .ok (.value v) W) (hK : HQ (wpQuiet P ops C Q rest (a.put o.dst v))) :
  HQ (wpQuiet P ops C Q (o :: rest) a) := HQ.mk (quiet_val v hw h hK.out)
theorem hq_enter {ops : Array Oper} {Q : Act → Prop} {a : Act} {o : Oper} {rest : List Oper} (v : Value) (f : FuncId) (args : Array Value) (hw : Region.wanted o (yielded ops a.tmps) = true) (h : ∀ W, C W → (execOp a.eval o).run P W = .ok (.enter f args) W)
  (hc : ∀ W, C W → Calls P f args W fun e W' => e = .returned v ∧ C W') (hK : HQ (wpQuiet P ops C Q rest (a.put o.dst v))) : HQ (wpQuiet P ops C Q (o :: rest) a) := HQ.mk (quiet_enter v f args hw h hc hK.out)
theorem hq_skip {ops : Array Oper} {Q : Act → Prop} {a : Act} {o : Oper} {rest : List Oper} (hw : Region.wanted o (yielded ops a.tmps) = false) (hK : HQ (wpQuiet P ops C Q rest (a.put o.dst undef))) : HQ (wpQuiet P ops C Q (o :: rest) a) := HQ.mk (quiet_skip hw hK.out)
theorem hqv {ops : Array Oper} {Q : Act → Prop} {a : Act} {o : Oper} {rest : List Oper} (v : Value) (hK : HQ (wpQuiet P ops C Q rest (a.put o.dst v))) (hw : Region.wanted o (yielded ops a.tmps) = true := by kernel_rfl) (h : ∀ W, C W → (execOp a.eval o).run P W = .ok (.value v) W := by intro W hW; go_simp) : HQ (wpQuiet P ops C Q (o :: rest) a) := hq_val v hw h hK
theorem hqs {ops : Array Oper} {Q : Act → Prop} {a : Act} {o : Oper} {rest : List Oper} (hK : HQ (wpQuiet P ops C Q rest (a.put o.dst undef))) (hw : Region.wanted o (yielded ops a.tmps) = false := by kernel_rfl) : HQ (wpQuiet P ops C Q (o :: rest) a) := hq_skip hw hK
theorem hq_nil {ops : Array Oper} {Q : Act → Prop} {a : Act} (h : Q a) : HQ (wpQuiet P ops C Q [] a) := HQ.mk (wpQuiet_nil h)
end
theorem ba_ne {a b : ByteArray} (h : ¬ a = b) : (a.toList == b.toList) = false := by
 rw [beq_eq_false_iff_ne, ByteArray.toList_eq, ByteArray.toList_eq]
 intro e
 refine h ?_
 obtain ⟨x⟩ := a
 obtain ⟨y⟩ := b
 rw [show x = y from Array.toList_inj.1 e]
theorem ba_beq (a : ByteArray) : (a == a) = true := by
 show (a.data == a.data) = true
 exact beq_self_eq_true _
theorem ba_bne {a b : ByteArray} (h : ¬ a = b) : (a == b) = false := by
 show (a.data == b.data) = false
 rw [beq_eq_false_iff_ne]
 exact fun e => h (ByteArray.ext e)
theorem kidsOk_no {K : Type} {fk : K → Bool} {kind : Int} {l : List (ByteArray × K)} {i : Nat} {p : ByteArray × K} (h : l[i]? = some p) (hp : kidOk fk kind i p = false) : ¬ kidsOk fk kind l := fun hk => by have := hk i p h; rw [hp] at this; cases this
open Classical in
noncomputable def kidsB {K : Type} (fk : K → Bool) (kind : Int) (l : List (ByteArray × K)) : Bool := decide (kidsOk fk kind l)
theorem kidsB_no {K : Type} {fk : K → Bool} {kind : Int} {l : List (ByteArray × K)} (h : ¬ kidsOk fk kind l) : kidsB fk kind l = false := by unfold kidsB; simp [h]
theorem kidsB_yes {K : Type} {fk : K → Bool} {kind : Int} {l : List (ByteArray × K)} (h : kidsOk fk kind l) : kidsB fk kind l = true := by unfold kidsB; simp [h]
theorem right_kids {K : Type} (fk : K → Bool) (R : K → List Value → Prop) (l : List (ByteArray × K)) (w0 : World) (kind : Int) (hkn : knownB kind = true) (hk5 : (kind == 5) = false) (hk7 : (kind == 7) = false) (hk12 : (kind == 12) = false) (hk8 : (kind == 8) = false) (hk16 : (kind == 16) = false) (hk11 : (kind == 11) = false)
  (text more : ByteArray) (n : Int) (bits high : Nat) (A B : Option Addr) (m c m2 c2 : Nat) (hm : m ≤ 140737488351232) (hm2 : m2 ≤ 140737488351232) (deep : Int) (hd : (deep == 0) = false) (hdb : 0 ≤ deep ∧ deep ≤ 1000) (E : REnv K fk R l deep w0) (hml : m2 = l.length) (hkv : KidsV w0 R (.slice B m2 c2) l) (hbare : bareOk kind text more n bits high m m2) (w : World) (hw : Below w0.heap.size w0 w) :
  Calls Tryz.prog 58 #[valV kind text more n bits high (.slice A m c) (.slice B m2 c2), .int .i64 deep] w fun e w' => e = .returned (.bool (kidsB fk kind l)) ∧ Below w.heap.size w w' := by
 have HEV := LH E
 have HKV := LH hkv
 have HML := LH hml
 have HW0 := LH hw
 obtain ⟨hdb1, hdb2⟩ := hdb
 clear E hkv hml hw
 obtain ⟨tx, mr, n', b', h', A', B', m', c', m2', c2', hc, hiff, hmm, hmm2⟩ := bare_ex kind hkn text more n bits high A B m c m2 c2
 rw [hiff] at hbare
 clear hiff
 obtain ⟨z1, z2, rfl, rfl, rfl, rfl, rfl⟩ := hbare
 have f1 := empty_of_size z1
 have f2 := empty_of_size z2
 have HC := LH hc
 clear hc hmm hmm2 z1 z2
 unfold valV at HC ⊢
 obtain ⟨X, hX, hXb, hXs, hXc⟩ := box_cells w kind text more n bits high (.slice A m c) (.slice B m2 c2)
 have HXB := LH hXb
 have HX := LH hX
 have HXC := LH hXc
 have HXS := LH hXs
 clear hX hXb hXc hXs
 go_enter Tryz.func58, Tryz.ntmps58
 go_upto_region 1 with fail
 rw [HX.out]
 obtain ⟨l0, l1, l2, l3, l4, l5, l6, l7⟩ := box8 (HXC.out X (Below.refl _ _))
 go_wp2_with (first | (go_at_call 84; refine (known_ex _ _).mono ?_; rintro e w' ⟨rfl, rfl⟩) | (go_at_call 85; refine (HC.out _).mono ?_; rintro e w2 ⟨rfl, hb2⟩; refine Hid.out ?_))
 refine LH ?_
 have hb3 : Below X.heap.size X (w2.alloc (.cells #[.int .i64 kind, .string tx, .string mr, .int .i64 0, .int .u64 0, .int .u64 0, .slice A' 0 c', .slice B' 0 c2'] 26)) := hb2.trans ((below_allocB w2 _).mono hb2.size)
 have HB3 := LH hb3
 clear l0 l1 l2 l3 l4 l5 l6 l7
 have c0 := HXC.out _ hb3 0 _ rfl
 have c7 := HXC.out _ hb3 7 _ rfl
 clear hb2 hb3
 go_wp2_with fail
 clear c0 c7
 go_loopw [6] (fun i wr => ∃ k : Nat, k ≤ m2 ∧ i = .int .i64 k ∧ Hid (Below X.heap.size X wr) ∧ Hid (∀ j p, j < k → l[j]? = some p → kidOk fk kind j p = true)) (fun i _ => m2 - (intOf i).toNat)
 case atStart => exact ⟨0, Nat.zero_le _, rfl, HB3.out, fun j p hj => absurd hj (Nat.not_lt_zero _)⟩
 case round =>
  obtain ⟨k, hk, rfl, HR, HP⟩ := hrel
  have c7 := HXC.out _ HR.out 7 _ rfl
  by_cases hlt : k < m2
  ·obtain ⟨name, kd, bb, o, cs, hget, rfl, hR, hcs, hrange⟩ := HKV.out.elem (i := k) (by have := HML.out; omega)
   have hmem : (name, kd) ∈ l := List.mem_of_getElem? hget
   have hxr : Below w0.heap.size w0 wr := HW0.out.trans ((HXB.out.trans (HR.out.mono HXB.out.size)).mono HW0.out.size)
   have hrg := rangeAt_later hrange hxr
   obtain ⟨kk, tx, mr, en, vb, vh, B1, B2, m1, e1, m2', e2, rfl⟩ := HEV.out.cells _ hmem cs hR
   have hns := HEV.out.names _ hmem
   simp only at hns
   have HRG := LH hrg
   have HGET := LH hget
   obtain ⟨V, hVV⟩ : ∃ V, wr.alloc (.cells #[.string name, .int .i64 kk, .string tx, .string mr, .int .i64 en, .int .u64 (vb : Int), .int .u64 (vh : Int), .slice B1 m1 e1, .slice B2 m2' e2] 38) = V := ⟨_, rfl⟩
   have hwV : Below wr.heap.size wr V := hVV ▸ below_allocB wr _
   have hVs : V.heap.size = wr.heap.size + 1 := by rw [← hVV]; simp
   have hVc : ∀ i v, (#[.string name, .int .i64 kk, .string tx, .string mr, .int .i64 en, .int .u64 (vb : Int), .int .u64 (vh : Int), .slice B1 m1 e1, .slice B2 m2' e2] : Array Value)[i]? = some v → ∀ W, Below V.heap.size V W → W.cell? ⟨wr.heap.size, i, none⟩ = some v := by
    intro i v hv W hW
    rw [hW.cell (p := ⟨wr.heap.size, i, none⟩) (by rw [hVs]; simp), ← hVV]
    exact (blk_cell (heap_alloc_new wr _) i).trans hv
   have HE0 := LH (hVc 0 _ rfl)
   have HE1 := LH (fun W hW => (⟨hVc 1 _ rfl W hW, hVc 2 _ rfl W hW, hVc 3 _ rfl W hW, hVc 4 _ rfl W hW, hVc 5 _ rfl W hW, hVc 6 _ rfl W hW, hVc 7 _ rfl W hW, hVc 8 _ rfl W hW⟩ : _ ∧ _ ∧ _ ∧ _ ∧ _ ∧ _ ∧ _ ∧ _))
   have hXV : Below X.heap.size X V := HR.out.trans (hwV.mono HR.out.size)
   have HK0 := LH (fun W (hW : Below V.heap.size V W) => HXC.out W (hXV.trans (hW.mono hXV.size)) 0 _ rfl)
   have HV := LH (fun W (hW : Below V.heap.size V W) => HEV.out.val _ hmem _ hR W (hxr.trans ((hwV.trans (hW.mono hwV.size)).mono hxr.size)))
   have HPL := LH (fun W => (plain_ex name (by omega) W).mono fun e w2 h => (show e = .returned (.bool (plainB name)) ∧ Below W.heap.size W w2 from ⟨h.1, by rw [← h.2]; exact Below.refl _ _⟩))
   obtain ⟨dg, hdg⟩ : ∃ dg : ByteArray, ⟨(Lib.decDigits k).toArray⟩ = dg := ⟨_, rfl⟩
   have HDG := LH (fun W => hdg ▸ docDig_nat k (by omega) W)
   have HXV := LH hXV
   obtain ⟨p, hp⟩ : ∃ p, plainB name = p := ⟨_, rfl⟩
   obtain ⟨v, hv⟩ : ∃ v, fk kd = v := ⟨_, rfl⟩
   have hno : kidOk fk kind k (name, kd) = (p && (!(kind == 4) || name == dg) && v) := by
    unfold kidOk
    rw [← hp, ← hv, ← hdg]
   simp only [hp, hv] at HPL HV
   have HNO := LH hno
   have HVV := LH hVV
   clear hrange hrg hget hR hcs hxr hwV hVc hVs hXV hdg hno hp hv hmem hVV
   go_wp2_with (with_reducible show wpList _ _ _ (⟨some 113, _, _, _, _, _⟩ :: _) _ _; refine Hid.out ?_)
   refine LH ?_
   refine wpList_load_mid rfl 38 (.tmp 112) rfl bb (o + k * 9) rfl [.string name, .int .i64 kk, .string tx, .string mr, .int .i64 en, .int .u64 (vb : Int), .int .u64 (vh : Int), .slice B1 m1 e1, .slice B2 m2' e2] _ HRG.out Tryz.underlying38 rfl (by rw [info38s]; rfl) ?_
   go_wp2_with fail
   rw [HVV.out]
   cases p
   ·refine hq_region (C := fun W => Below V.heap.size V W) (by kernel_rfl) (by kernel_rfl) (below_dr V 1) ?_
    refine hqv (.pointer (some ⟨wr.heap.size, 0, none⟩)) ?_
    refine hq_val (.string name) (by kernel_rfl) (fun W hW => by have h0 := HE0.out W hW; go_simp) ?_
    refine hq_enter (.bool false) 86 #[.string name] (by kernel_rfl) (fun W hW => by go_simp) (fun W hW => (HPL.out W).mono fun e W2 ⟨q1, q2⟩ => ⟨q1, hW.trans (q2.mono hW.size)⟩) ?_
    refine hqv (.bool true) ?_
    refine hqv (.bool true) ?_
    refine hqs ?_
    refine hqs ?_
    refine hqs ?_
    refine hqs ?_
    refine hqs ?_
    refine hqs ?_
    refine hqs ?_
    refine hqs ?_
    refine hqs ?_
    refine hqs ?_
    refine hqv (.bool true) ?_
    refine hqv (.bool true) ?_
    refine hqs ?_
    refine hqs ?_
    refine hqs ?_
    refine hqs ?_
    refine hqs ?_
    refine hqs ?_
    refine hqv (.bool true) ?_
    refine hq_nil ?_
    intro W hW
    have HXW := LH (HXV.out.trans (hW.mono HXV.out.size))
    go_simp
    go_wp2_with fail
    go_ret
    exact ⟨congrArg (fun b => Ending.returned (Value.bool b)) (kidsB_no (kidsOk_no HGET.out (HNO.out.trans (by simp )))).symm, HXB.out.trans (HXW.out.mono HXB.out.size)⟩
   ·by_cases h4 : kind = 4
    ·have hk4 : (kind == 4) = true := by simp [h4]
     clear h4
     by_cases heq : name = dg
     ·have hs : (name.toList == dg.toList) = true := by rw [heq]; simp
      have hs2 : (name == dg) = true := by rw [heq]; exact ba_beq dg
      clear heq
      cases v
      ·refine hq_region (C := fun W => Below V.heap.size V W) (by kernel_rfl) (by kernel_rfl) (below_dr V 1) ?_
       refine hqv (.pointer (some ⟨wr.heap.size, 0, none⟩)) ?_
       refine hq_val (.string name) (by kernel_rfl) (fun W hW => by have h0 := HE0.out W hW; go_simp) ?_
       refine hq_enter (.bool true) 86 #[.string name] (by kernel_rfl) (fun W hW => by go_simp) (fun W hW => (HPL.out W).mono fun e W2 ⟨q1, q2⟩ => ⟨q1, hW.trans (q2.mono hW.size)⟩) ?_
       refine hqv (.bool false) ?_
       refine hqv (.bool false) ?_
       refine hqv (.pointer (some ⟨w.heap.size, 0, none⟩)) ?_
       refine hq_val (.int .i64 kind) (by kernel_rfl) (fun W hW => by have h0 := HK0.out W hW; go_simp) ?_
       refine hqv (.bool true) ?_
       refine hqv (.bool true) ?_
       refine hqv (.pointer (some ⟨wr.heap.size, 0, none⟩)) ?_
       refine hq_val (.string name) (by kernel_rfl) (fun W hW => by have h0 := HE0.out W hW; go_simp) ?_
       refine hqv (.int .i64 (k : Int)) ?_
       refine hq_enter (.string dg) 87 #[.int .i64 (k : Int)] (by kernel_rfl) (fun W hW => by go_simp) (fun W hW => (HDG.out W).mono fun e W2 ⟨q1, q2⟩ => ⟨q1, hW.trans (q2.mono hW.size)⟩) ?_
       refine hqv (.bool false) ?_
       refine hqv (.bool false) ?_
       refine hqv (.bool false) ?_
       refine hqv (.bool false) ?_
       refine hqv (.pointer (some ⟨wr.heap.size, 1, none⟩)) ?_
       refine hq_val (.agg #[.int .i64 kk, .string tx, .string mr, .int .i64 en, .int .u64 (vb : Int), .int .u64 (vh : Int), .slice B1 m1 e1, .slice B2 m2' e2]) (by kernel_rfl) (fun W hW => by obtain ⟨h1, h2, h3, h4, h5, h6, h7, h8⟩ := HE1.out W hW; go_simp) ?_
       refine hqv (.int .i64 deep) ?_
       refine hq_val (.int .i64 (deep - 1)) (by kernel_rfl) (fun W hW => by go_simp; rw [IntKind.wrap_i64]; omega) ?_
       refine hq_enter (.bool false) 58 #[.agg #[.int .i64 kk, .string tx, .string mr, .int .i64 en, .int .u64 (vb : Int), .int .u64 (vh : Int), .slice B1 m1 e1, .slice B2 m2' e2], .int .i64 (deep - 1)] (by kernel_rfl) (fun W hW => by go_simp) (fun W hW => (HV.out W hW).mono fun e W2 ⟨q1, q2⟩ => ⟨q1, hW.trans (q2.mono hW.size)⟩) ?_
       refine hqv (.bool true) ?_
       refine hqv (.bool true) ?_
       refine hq_nil ?_
       intro W hW
       have HXW := LH (HXV.out.trans (hW.mono HXV.out.size))
       go_simp
       go_wp2_with fail
       go_ret
       exact ⟨congrArg (fun b => Ending.returned (Value.bool b)) (kidsB_no (kidsOk_no HGET.out (HNO.out.trans (by simp [hk4, hs2])))).symm, HXB.out.trans (HXW.out.mono HXB.out.size)⟩
      ·refine hq_region (C := fun W => Below V.heap.size V W) (by kernel_rfl) (by kernel_rfl) (below_dr V 1) ?_
       refine hqv (.pointer (some ⟨wr.heap.size, 0, none⟩)) ?_
       refine hq_val (.string name) (by kernel_rfl) (fun W hW => by have h0 := HE0.out W hW; go_simp) ?_
       refine hq_enter (.bool true) 86 #[.string name] (by kernel_rfl) (fun W hW => by go_simp) (fun W hW => (HPL.out W).mono fun e W2 ⟨q1, q2⟩ => ⟨q1, hW.trans (q2.mono hW.size)⟩) ?_
       refine hqv (.bool false) ?_
       refine hqv (.bool false) ?_
       refine hqv (.pointer (some ⟨w.heap.size, 0, none⟩)) ?_
       refine hq_val (.int .i64 kind) (by kernel_rfl) (fun W hW => by have h0 := HK0.out W hW; go_simp) ?_
       refine hqv (.bool true) ?_
       refine hqv (.bool true) ?_
       refine hqv (.pointer (some ⟨wr.heap.size, 0, none⟩)) ?_
       refine hq_val (.string name) (by kernel_rfl) (fun W hW => by have h0 := HE0.out W hW; go_simp) ?_
       refine hqv (.int .i64 (k : Int)) ?_
       refine hq_enter (.string dg) 87 #[.int .i64 (k : Int)] (by kernel_rfl) (fun W hW => by go_simp) (fun W hW => (HDG.out W).mono fun e W2 ⟨q1, q2⟩ => ⟨q1, hW.trans (q2.mono hW.size)⟩) ?_
       refine hqv (.bool false) ?_
       refine hqv (.bool false) ?_
       refine hqv (.bool false) ?_
       refine hqv (.bool false) ?_
       refine hqv (.pointer (some ⟨wr.heap.size, 1, none⟩)) ?_
       refine hq_val (.agg #[.int .i64 kk, .string tx, .string mr, .int .i64 en, .int .u64 (vb : Int), .int .u64 (vh : Int), .slice B1 m1 e1, .slice B2 m2' e2]) (by kernel_rfl) (fun W hW => by obtain ⟨h1, h2, h3, h4, h5, h6, h7, h8⟩ := HE1.out W hW; go_simp) ?_
       refine hqv (.int .i64 deep) ?_
       refine hq_val (.int .i64 (deep - 1)) (by kernel_rfl) (fun W hW => by go_simp; rw [IntKind.wrap_i64]; omega) ?_
       refine hq_enter (.bool true) 58 #[.agg #[.int .i64 kk, .string tx, .string mr, .int .i64 en, .int .u64 (vb : Int), .int .u64 (vh : Int), .slice B1 m1 e1, .slice B2 m2' e2], .int .i64 (deep - 1)] (by kernel_rfl) (fun W hW => by go_simp) (fun W hW => (HV.out W hW).mono fun e W2 ⟨q1, q2⟩ => ⟨q1, hW.trans (q2.mono hW.size)⟩) ?_
       refine hqv (.bool false) ?_
       refine hqv (.bool false) ?_
       refine hq_nil ?_
       intro W hW
       have HXW := LH (HXV.out.trans (hW.mono HXV.out.size))
       go_simp
       go_wp2_with fail
       go_roundw
       case rel =>
        refine ⟨k + 1, by omega, by go_num, HXW.out, fun j p hj hg => ?_⟩
        by_cases e : j = k
        ·subst e
         rw [HGET.out] at hg
         injection hg with hg
         subst hg
         exact HNO.out.trans (by simp [hk4, hs2])
        ·exact HP.out j p (by omega) hg
       case measure => simp [intOf]; omega
     ·have hs := ba_ne heq
      have hs2 : (name == dg) = false := ba_bne heq
      clear heq
      refine hq_region (C := fun W => Below V.heap.size V W) (by kernel_rfl) (by kernel_rfl) (below_dr V 1) ?_
      refine hqv (.pointer (some ⟨wr.heap.size, 0, none⟩)) ?_
      refine hq_val (.string name) (by kernel_rfl) (fun W hW => by have h0 := HE0.out W hW; go_simp) ?_
      refine hq_enter (.bool true) 86 #[.string name] (by kernel_rfl) (fun W hW => by go_simp) (fun W hW => (HPL.out W).mono fun e W2 ⟨q1, q2⟩ => ⟨q1, hW.trans (q2.mono hW.size)⟩) ?_
      refine hqv (.bool false) ?_
      refine hqv (.bool false) ?_
      refine hqv (.pointer (some ⟨w.heap.size, 0, none⟩)) ?_
      refine hq_val (.int .i64 kind) (by kernel_rfl) (fun W hW => by have h0 := HK0.out W hW; go_simp) ?_
      refine hqv (.bool true) ?_
      refine hqv (.bool true) ?_
      refine hqv (.pointer (some ⟨wr.heap.size, 0, none⟩)) ?_
      refine hq_val (.string name) (by kernel_rfl) (fun W hW => by have h0 := HE0.out W hW; go_simp) ?_
      refine hqv (.int .i64 (k : Int)) ?_
      refine hq_enter (.string dg) 87 #[.int .i64 (k : Int)] (by kernel_rfl) (fun W hW => by go_simp) (fun W hW => (HDG.out W).mono fun e W2 ⟨q1, q2⟩ => ⟨q1, hW.trans (q2.mono hW.size)⟩) ?_
      refine hqv (.bool true) ?_
      refine hqv (.bool true) ?_
      refine hqv (.bool true) ?_
      refine hqv (.bool true) ?_
      refine hqs ?_
      refine hqs ?_
      refine hqs ?_
      refine hqs ?_
      refine hqs ?_
      refine hqs ?_
      refine hqv (.bool true) ?_
      refine hq_nil ?_
      intro W hW
      have HXW := LH (HXV.out.trans (hW.mono HXV.out.size))
      go_simp
      go_wp2_with fail
      go_ret
      exact ⟨congrArg (fun b => Ending.returned (Value.bool b)) (kidsB_no (kidsOk_no HGET.out (HNO.out.trans (by simp [hk4, hs2])))).symm, HXB.out.trans (HXW.out.mono HXB.out.size)⟩
    ·have hk4 : (kind == 4) = false := by simpa using h4
     clear h4
     cases v
     ·refine hq_region (C := fun W => Below V.heap.size V W) (by kernel_rfl) (by kernel_rfl) (below_dr V 1) ?_
      refine hqv (.pointer (some ⟨wr.heap.size, 0, none⟩)) ?_
      refine hq_val (.string name) (by kernel_rfl) (fun W hW => by have h0 := HE0.out W hW; go_simp) ?_
      refine hq_enter (.bool true) 86 #[.string name] (by kernel_rfl) (fun W hW => by go_simp) (fun W hW => (HPL.out W).mono fun e W2 ⟨q1, q2⟩ => ⟨q1, hW.trans (q2.mono hW.size)⟩) ?_
      refine hqv (.bool false) ?_
      refine hqv (.bool false) ?_
      refine hqv (.pointer (some ⟨w.heap.size, 0, none⟩)) ?_
      refine hq_val (.int .i64 kind) (by kernel_rfl) (fun W hW => by have h0 := HK0.out W hW; go_simp) ?_
      refine hqv (.bool false) ?_
      refine hqv (.bool false) ?_
      refine hqs ?_
      refine hqs ?_
      refine hqs ?_
      refine hqs ?_
      refine hqs ?_
      refine hqv (.bool false) ?_
      refine hqv (.bool false) ?_
      refine hqv (.bool false) ?_
      refine hqv (.pointer (some ⟨wr.heap.size, 1, none⟩)) ?_
      refine hq_val (.agg #[.int .i64 kk, .string tx, .string mr, .int .i64 en, .int .u64 (vb : Int), .int .u64 (vh : Int), .slice B1 m1 e1, .slice B2 m2' e2]) (by kernel_rfl) (fun W hW => by obtain ⟨h1, h2, h3, h4, h5, h6, h7, h8⟩ := HE1.out W hW; go_simp) ?_
      refine hqv (.int .i64 deep) ?_
      refine hq_val (.int .i64 (deep - 1)) (by kernel_rfl) (fun W hW => by go_simp; rw [IntKind.wrap_i64]; omega) ?_
      refine hq_enter (.bool false) 58 #[.agg #[.int .i64 kk, .string tx, .string mr, .int .i64 en, .int .u64 (vb : Int), .int .u64 (vh : Int), .slice B1 m1 e1, .slice B2 m2' e2], .int .i64 (deep - 1)] (by kernel_rfl) (fun W hW => by go_simp) (fun W hW => (HV.out W hW).mono fun e W2 ⟨q1, q2⟩ => ⟨q1, hW.trans (q2.mono hW.size)⟩) ?_
      refine hqv (.bool true) ?_
      refine hqv (.bool true) ?_
      refine hq_nil ?_
      intro W hW
      have HXW := LH (HXV.out.trans (hW.mono HXV.out.size))
      go_simp
      go_wp2_with fail
      go_ret
      exact ⟨congrArg (fun b => Ending.returned (Value.bool b)) (kidsB_no (kidsOk_no HGET.out (HNO.out.trans (by simp [hk4])))).symm, HXB.out.trans (HXW.out.mono HXB.out.size)⟩
     ·refine hq_region (C := fun W => Below V.heap.size V W) (by kernel_rfl) (by kernel_rfl) (below_dr V 1) ?_
      refine hqv (.pointer (some ⟨wr.heap.size, 0, none⟩)) ?_
      refine hq_val (.string name) (by kernel_rfl) (fun W hW => by have h0 := HE0.out W hW; go_simp) ?_
      refine hq_enter (.bool true) 86 #[.string name] (by kernel_rfl) (fun W hW => by go_simp) (fun W hW => (HPL.out W).mono fun e W2 ⟨q1, q2⟩ => ⟨q1, hW.trans (q2.mono hW.size)⟩) ?_
      refine hqv (.bool false) ?_
      refine hqv (.bool false) ?_
      refine hqv (.pointer (some ⟨w.heap.size, 0, none⟩)) ?_
      refine hq_val (.int .i64 kind) (by kernel_rfl) (fun W hW => by have h0 := HK0.out W hW; go_simp) ?_
      refine hqv (.bool false) ?_
      refine hqv (.bool false) ?_
      refine hqs ?_
      refine hqs ?_
      refine hqs ?_
      refine hqs ?_
      refine hqs ?_
      refine hqv (.bool false) ?_
      refine hqv (.bool false) ?_
      refine hqv (.bool false) ?_
      refine hqv (.pointer (some ⟨wr.heap.size, 1, none⟩)) ?_
      refine hq_val (.agg #[.int .i64 kk, .string tx, .string mr, .int .i64 en, .int .u64 (vb : Int), .int .u64 (vh : Int), .slice B1 m1 e1, .slice B2 m2' e2]) (by kernel_rfl) (fun W hW => by obtain ⟨h1, h2, h3, h4, h5, h6, h7, h8⟩ := HE1.out W hW; go_simp) ?_
      refine hqv (.int .i64 deep) ?_
      refine hq_val (.int .i64 (deep - 1)) (by kernel_rfl) (fun W hW => by go_simp; rw [IntKind.wrap_i64]; omega) ?_
      refine hq_enter (.bool true) 58 #[.agg #[.int .i64 kk, .string tx, .string mr, .int .i64 en, .int .u64 (vb : Int), .int .u64 (vh : Int), .slice B1 m1 e1, .slice B2 m2' e2], .int .i64 (deep - 1)] (by kernel_rfl) (fun W hW => by go_simp) (fun W hW => (HV.out W hW).mono fun e W2 ⟨q1, q2⟩ => ⟨q1, hW.trans (q2.mono hW.size)⟩) ?_
      refine hqv (.bool false) ?_
      refine hqv (.bool false) ?_
      refine hq_nil ?_
      intro W hW
      have HXW := LH (HXV.out.trans (hW.mono HXV.out.size))
      go_simp
      go_wp2_with fail
      go_roundw
      case rel =>
       refine ⟨k + 1, by omega, by go_num, HXW.out, fun j p hj hg => ?_⟩
       by_cases e : j = k
       ·subst e
        rw [HGET.out] at hg
        injection hg with hg
        subst hg
        exact HNO.out.trans (by simp [hk4])
       ·exact HP.out j p (by omega) hg
      case measure => simp [intOf]; omega
  ·go_wp2_with fail
   go_ret
   refine ⟨congrArg (fun b => Ending.returned (Value.bool b)) (kidsB_yes fun j p hj => HP.out j p (by have := (List.getElem?_eq_some_iff.1 hj).1; have := HML.out; omega) hj).symm, HXB.out.trans (HR.out.mono HXB.out.size)⟩
end Go.Proofs.YtpfkgpcnhdkkbaaGreatDoor
