/- From the row's list of variables to the tables that the walks read; no condition. -/
import Derived.Test.YtpfkgpcnhdkkbaaGreatDoorTabs
import Derived.Test.YtpfkgpcnhdkkbaaGreatDoorRows
import Derived.Lib.LaidU8T
import Derived.Test.YtpfkgpcnhdkkbaaGreatDoorMf
import Derived.Deep.Slices
import Derived.Test.YtpfkgpcnhdkkbaaGreatDoorYk
import Derived.Test.YtpfkgpcnhdkkbaaGreatDoorMp
import Derived.Test.YtpfkgpcnhdkkbaaGreatDoorYi
import Derived.Test.YtpfkgpcnhdkkbaaGreatDoorSa
import Derived.Test.YtpfkgpcnhdkkbaaGreatDoorKx
import Derived.Test.YtpfkgpcnhdkkbaaGreatDoorMk
import Derived.Test.YtpfkgpcnhdkkbaaGreatDoorMa
namespace Go.Proofs.YtpfkgpcnhdkkbaaGreatDoor
open Go.RowKit Go.Lib
set_option linter.unusedVariables false
set_option maxRecDepth 100000
/-- An array of bools. -/
theorem bools_of {w : World} {name : String} {g t : Nat} {n : Nat} {ds : List (DataW Unit)} (hg : Tryz.prog.globalNamed name = some g) (hty : (Tryz.prog.globals[g]?).map (·.type) = some t) (ht : Tryz.prog.underlying t = some (.array n 4))
    (h : VarReads Tryz.prog w name (.agg ds)) (i : Nat) (hi : i < n) (b : Bool) (hb : ds[i]? = some (.lit (.bool b))) : w.cell? ⟨g, i, none⟩ = some (.bool b) := by
  obtain ⟨g', t', cs, fuel, p, hg', hty', hvar, hd⟩ := h
  obtain rfl := Option.some.inj (hg.symm.trans hg')
  obtain rfl := Option.some.inj (hty.symm.trans hty')
  obtain ⟨fuel', d, q, hdi, he⟩ := array_elem ht hd i hi
  rw [hb] at hdi
  injection hdi with hdi
  subst hdi
  rw [show Tryz.prog.cellsOf 4 = 1 from by kernel_rfl] at he
  obtain ⟨b', hc, hx⟩ := DataW.trod_bool Tryz.underlying4 he
  simp only [Prod.mk.injEq, DataW.lit.injEq, Lit.bool.injEq] at hx
  obtain ⟨rfl, _⟩ := hx
  have h1 := congrArg (·[0]?) hc
  rw [World.var?_cell hg hvar i, ← Array.getElem?_toList]
  simpa [List.getElem?_take, List.getElem?_drop] using h1
theorem u199 : Tryz.prog.underlying 199 = some (.array 128 4) := Tryz.underlying199
theorem u336 : Tryz.prog.underlying 336 = some (.array 696 335) := Tryz.underlying336
/-- The 128 of a set as a list of bools. -/
def setData (esc : Bool) : DataW Unit := .agg ((List.range 128).map fun i => .lit (.bool (safeB esc i)))
theorem set_of {w : World} {name : String} {g : Nat} (esc : Bool) (hg : Tryz.prog.globalNamed name = some g) (hty : (Tryz.prog.globals[g]?).map (·.type) = some 199) (h : VarReads Tryz.prog w name (setData esc)) :
    ∀ b : Nat, b < 128 → w.cell? ⟨g, b, none⟩ = some (.bool (safeB esc b)) := fun b hb =>
  bools_of hg hty u199 h b hb (safeB esc b) (by simp [List.getElem?_map, List.getElem?_range hb])
theorem pairs_of {w : World} (h : VarReads Tryz.prog w "internal/strconv.pow10Tab" Go.Pinned.pow10Tab) (i : Nat) (hi : i < 696) :
    w.cell? ⟨15, 2 * i, none⟩ = some (.int .u64 ((pRow i).1 : Int)) ∧ w.cell? ⟨15, 2 * i + 1, none⟩ = some (.int .u64 ((pRow i).2 : Int)) := by
  obtain ⟨g', t', cs, fuel, p, hg', hty', hvar, hd⟩ := h
  obtain rfl := Option.some.inj ((show Tryz.prog.globalNamed "internal/strconv.pow10Tab" = some 15 by kernel_rfl).symm.trans hg')
  obtain rfl := Option.some.inj ((show (Tryz.prog.globals[15]?).map (·.type) = some 336 by kernel_rfl).symm.trans hty')
  obtain ⟨fuel', d, q, hdi, he⟩ := array_elem u336 hd i hi
  have hl : i < Go.Pinned.pow10Rows.length := Nat.lt_of_lt_of_eq hi (by decide +kernel)
  have hr : Go.Pinned.pow10Rows[i]? = some (pRow i) := by unfold pRow; rw [List.getD_eq_getElem?_getD, List.getElem?_eq_getElem hl]; rfl
  rw [List.getElem?_map, hr] at hdi
  simp only [Option.map_some, Option.some.injEq] at hdi
  subst hdi
  rw [show Tryz.prog.cellsOf 335 = 2 from by kernel_rfl] at he
  have hcs := ints_of_struct (zs := [((pRow i).1 : Int), ((pRow i).2 : Int)]) Tryz.underlying335 (fun j f hj => by
    match j, hj with
    | 0, hj => simp at hj; subst hj; exact ⟨Tryz.underlying22, rfl, by kernel_rfl⟩
    | 1, hj => simp at hj; subst hj; exact ⟨Tryz.underlying22, rfl, by kernel_rfl⟩
    | j + 2, hj => simp at hj) (by kernel_rfl) he
  have e0 := congrArg (·[0]?) hcs
  have e1 := congrArg (·[1]?) hcs
  simp only [List.getElem?_take, List.getElem?_drop] at e0 e1
  constructor
  · rw [World.var?_cell hg' hvar (2 * i), ← Array.getElem?_toList]
    simpa [Nat.mul_comm] using e0
  · rw [World.var?_cell hg' hvar (2 * i + 1), ← Array.getElem?_toList]
    simpa [Nat.mul_comm] using e1
theorem u8_of {w : World} (h3 : VarReads Tryz.prog w "unicode/utf8.first" Go.Pinned.utf8First) (h4 : VarReads Tryz.prog w "unicode/utf8.acceptRanges" Rows.laid_unicode_utf8_acceptRanges) : Lib.Utf8Tabs 11 12 w := by
  have e3 : Go.Pinned.utf8First = firstData := by kernel_rfl
  have e4 : (Rows.laid_unicode_utf8_acceptRanges : DataW Unit) = acceptData := by kernel_rfl
  rw [e3] at h3
  rw [e4] at h4
  refine ⟨fun c hc => ?_, fun i hi => ?_⟩
  · obtain ⟨g, t, cs, fuel, p, hg, hty, hvar, hd⟩ := h3
    obtain rfl := Option.some.inj ((show Tryz.prog.globalNamed "unicode/utf8.first" = some 11 by kernel_rfl).symm.trans hg)
    obtain rfl := Option.some.inj ((show (Tryz.prog.globals[11]?).map (·.type) = some 293 by kernel_rfl).symm.trans hty)
    have hcs := cells_of_tab Tryz.underlying293 Tryz.underlying5 (by kernel_rfl) (by kernel_rfl) hd
    have := World.var?_cell hg hvar c
    rw [this, ← Array.getElem?_toList, hcs]
    simp [firstTab, hc]
  · obtain ⟨g, t, cs, fuel, p, hg, hty, hvar, hd⟩ := h4
    obtain rfl := Option.some.inj ((show Tryz.prog.globalNamed "unicode/utf8.acceptRanges" = some 12 by kernel_rfl).symm.trans hg)
    obtain rfl := Option.some.inj ((show (Tryz.prog.globals[12]?).map (·.type) = some 319 by kernel_rfl).symm.trans hty)
    obtain ⟨fuel', d, q, hdi, he⟩ := array_elem Tryz.underlying319 hd i hi
    simp only [List.getElem?_map, List.getElem?_range hi, Option.map_some, Option.some.injEq] at hdi
    subst hdi
    rw [show Tryz.prog.cellsOf 318 = 2 from by kernel_rfl] at he
    have hcs := ints_of_struct Tryz.underlying318 (fun j f hj => by
      match j, hj with
      | 0, hj => simp at hj; subst hj; exact ⟨Tryz.underlying5, rfl, by kernel_rfl⟩
      | 1, hj => simp at hj; subst hj; exact ⟨Tryz.underlying5, rfl, by kernel_rfl⟩
      | j + 2, hj => simp at hj) (by kernel_rfl) he
    have e0 := congrArg (·[0]?) hcs
    have e1 := congrArg (·[1]?) hcs
    simp only [List.getElem?_take, List.getElem?_drop] at e0 e1
    constructor
    · rw [World.var?_cell hg hvar (2 * i), ← Array.getElem?_toList]
      simpa [Nat.mul_comm] using e0
    · rw [World.var?_cell hg hvar (2 * i + 1), ← Array.getElem?_toList]
      simpa [Nat.mul_comm] using e1
theorem p10_of {w : World} (h : VarReads Tryz.prog w "internal/strconv.uint64pow10" Rows.laid_internal_strconv_uint64pow10) : Lib.TabIs Tryz.prog w "internal/strconv.uint64pow10" .u64 Lib.pow10Tab := by
  have e : (Rows.laid_internal_strconv_uint64pow10 : DataW Unit) = tabData .u64 Lib.pow10Tab := by kernel_rfl
  rw [e] at h
  obtain ⟨g', t', cs, fuel, p, hg', ht', hvar, hd⟩ := h
  obtain rfl := Option.some.inj (global_pow10.symm.trans hg')
  obtain rfl := Option.some.inj ((show (Tryz.prog.globals[2]?).map (·.type) = some 193 by kernel_rfl).symm.trans ht')
  unfold TabIs
  rw [hvar, ← cells_of_tab Tryz.underlying193 Tryz.underlying22 (by kernel_rfl) (by kernel_rfl) hd]
/-- The last variable is there: so many blocks. -/
theorem size_of {w : World} (h : VarReads Tryz.prog w "internal/strconv.leftcheats" Go.Pinned.leftcheats) : 17 ≤ w.heap.size := by
  obtain ⟨g', t', cs, fuel, p, hg', ht', hvar, hd⟩ := h
  obtain rfl := Option.some.inj ((show Tryz.prog.globalNamed "internal/strconv.leftcheats" = some 16 by kernel_rfl).symm.trans hg')
  unfold World.var? at hvar
  rw [hg'] at hvar
  simp only [Option.bind_some] at hvar
  refine Classical.byContradiction fun hn => ?_
  rw [show w.heap[16]? = none from Array.getElem?_eq_none (by omega)] at hvar
  simp at hvar
theorem tabs_ext {w : World} (h : laidMet Tryz.prog Rows.fnExtRelaxedRow.laid w) : Tabs w ∧ 17 ≤ w.heap.size := by
  refine ⟨⟨⟨u8_of (Lib.laidMet.reads h (by simp [Rows.fnExtRelaxedRow, Rows.laid_unicode_utf8_first])) (Lib.laidMet.reads h (by simp [Rows.fnExtRelaxedRow])), p10_of (Lib.laidMet.reads h (by simp [Rows.fnExtRelaxedRow])), pairs_of (Lib.laidMet.reads h (by simp [Rows.fnExtRelaxedRow, Rows.laid_internal_strconv_pow10Tab]))⟩, ?_, ?_⟩, size_of (Lib.laidMet.reads h (by simp [Rows.fnExtRelaxedRow, Rows.laid_internal_strconv_leftcheats]))⟩
  · refine set_of (name := "pub-gunnysack/pub/bson.htmlSafeSet") true (by kernel_rfl) (by kernel_rfl) ?_
    rw [show setData true = Rows.laid_pub_gunnysack_pub_bson_htmlSafeSet from by kernel_rfl]
    exact Lib.laidMet.reads h (by simp [Rows.fnExtRelaxedRow])
  · refine set_of (name := "pub-gunnysack/pub/bson.safeSet") false (by kernel_rfl) (by kernel_rfl) ?_
    rw [show setData false = Rows.laid_pub_gunnysack_pub_bson_safeSet from by kernel_rfl]
    exact Lib.laidMet.reads h (by simp [Rows.fnExtRelaxedRow])
end Go.Proofs.YtpfkgpcnhdkkbaaGreatDoor
namespace Go.Proofs.YtpfkgpcnhdkkbaaGreatDoor
open Go.RowKit Go.Deep
set_option linter.unusedVariables false
set_option linter.unusedSimpArgs false
set_option maxRecDepth 100000
def liftV : (d : Nat) → VT d → VT (d + 1)
  | 0, t => t.elim
  | d + 1, ⟨kind, text, more, n, bits, high, b, kids⟩ => (⟨kind, text, more, n, bits, high, b, kids.map fun p => (p.1, liftV d p.2)⟩ : VR (VT (d + 1)))
theorem IsV.lift {w : World} : ∀ (d : Nat) (t : VT d) (cs : List Value), IsV w d t cs → IsV w (d + 1) (liftV d t) cs
  | 0, t, _, _ => t.elim
  | d + 1, ⟨kind, text, more, n, bits, high, b, kids⟩, cs, h => by
    obtain ⟨bv, kv, e, h1, h2, h3, h4, h7, h8, h5, A, c, e2, h6, h9, h10⟩ := h
    refine ⟨bv, kv, e, h1, h2, h3, h4, h7, h8, h5, A, c, ?_, ?_, h9, fun i name k hi => ?_⟩
    · simpa [liftV] using e2
    · simpa [liftV] using h6
    · simp only [liftV, List.getElem?_map, Option.map_eq_some_iff] at hi
      obtain ⟨⟨nm, k0⟩, hi, he⟩ := hi
      simp only [Prod.mk.injEq] at he
      obtain ⟨rfl, rfl⟩ := he
      obtain ⟨q1, ad, cs', q2, q3, q4, q5⟩ := h10 i nm k0 hi
      exact ⟨q1, ad, cs', q2, IsV.lift d k0 cs' q3, q4, q5⟩
theorem IsV.lifts {w : World} {d : Nat} {t : VT d} {cs : List Value} (h : IsV w d t cs) : ∀ e, d ≤ e → ∃ t' : VT e, IsV w e t' cs := by
  intro e he
  induction e with
  | zero => obtain rfl : d = 0 := by omega
            exact t.elim
  | succ e ih =>
    by_cases hd : d = e + 1
    · subst hd; exact ⟨t, h⟩
    · obtain ⟨t', h'⟩ := ih (by omega)
      exact ⟨_, h'.lift⟩
theorem cell_of_cells {w : World} {a : Addr} {n : Nat} {cs : List Value} (h : w.cells? 0 a n = some cs) : cs.length = n ∧ ∀ (j : Nat) (u : Value), cs[j]? = some u → w.cell? (a.add j) = some u := by
  have hs := World.cells?_some h
  refine ⟨hs.2.1, fun j u hu => ?_⟩
  have hj : j < n := by
    have := (List.getElem?_eq_some_iff.1 hu).1
    have h2 := hs.2.1
    omega
  rw [hs.2.2 j hj]
  exact hu
theorem cO2 : Tryz.prog.cellsOf 2 = 1 := by kernel_rfl
theorem cO3 : Tryz.prog.cellsOf 3 = 1 := by kernel_rfl
theorem cO5 : Tryz.prog.cellsOf 5 = 1 := by kernel_rfl
theorem cO9 : Tryz.prog.cellsOf 9 = 1 := by kernel_rfl
theorem cO22 : Tryz.prog.cellsOf 22 = 1 := by kernel_rfl
theorem cO23 : Tryz.prog.cellsOf 23 = 1 := by kernel_rfl
theorem cO24 : Tryz.prog.cellsOf 24 = 1 := by kernel_rfl
theorem cO26 : Tryz.prog.cellsOf 26 = 8 := by kernel_rfl
theorem cO38 : Tryz.prog.cellsOf 38 = 9 := by kernel_rfl
theorem bO5 : Tryz.prog.bytesOf 5 = 1 := by kernel_rfl
theorem bO38 : 1 ≤ Tryz.prog.bytesOf 38 := by decide +kernel
/-- No string and no slice beyond the form's reach. -/
def Wt {H : Type} (t : TypeId) (d : DataW H) : Prop := ∀ x ∈ DataW.weights Tryz.prog t d, x ≤ 140737488351232
theorem wf_i64 {n : Int} (h : (Lit.int .i64 n).wf = true) : I64 n := by
  simp only [Lit.wf, Bool.and_eq_true, decide_eq_true_eq] at h
  exact h
theorem wf_u64 {n : Int} (h : (Lit.int .u64 n).wf = true) : ∃ b : Nat, n = b ∧ b < 18446744073709551616 := by
  simp only [Lit.wf, Bool.and_eq_true, decide_eq_true_eq] at h
  have h1 : (0 : Int) ≤ n := h.1
  have h2 : n ≤ 18446744073709551615 := h.2
  exact ⟨n.toNat, by omega, by omega⟩
theorem wf_u8 {n : Int} (h : (Lit.int .u8 n).wf = true) : ∃ b : UInt8, n = (b.toNat : Int) := by
  simp only [Lit.wf, Bool.and_eq_true, decide_eq_true_eq] at h
  have h1 : (0 : Int) ≤ n := h.1
  have h2 : n ≤ 255 := h.2
  exact ⟨UInt8.ofNat n.toNat, by rw [UInt8.toNat_ofNat']; omega⟩
theorem list_of {α : Type} {P : Nat → α → Prop} : ∀ (n : Nat), (∀ i, i < n → ∃ p, P i p) → ∃ l : List α, l.length = n ∧ ∀ i p, l[i]? = some p → P i p
  | 0, _ => ⟨[], rfl, fun i p h => by simp at h⟩
  | n + 1, h => by
    obtain ⟨l, h1, h2⟩ := list_of n (fun i hi => h i (by omega))
    obtain ⟨p, hp⟩ := h n (by omega)
    refine ⟨l ++ [p], by simp [h1], fun i q hi => ?_⟩
    by_cases e : i < n
    · rw [List.getElem?_append_left (by omega)] at hi
      exact h2 i q hi
    · have := (List.getElem?_eq_some_iff.1 hi).1
      simp only [List.length_append, List.length_cons, List.length_nil] at this
      obtain rfl : i = n := by omega
      rw [List.getElem?_append_right (by omega), h1] at hi
      simp at hi
      subst hi
      exact hp
section
variable {H : Type} {enc : TypeId × Value → H} {W : World}
theorem reads_bytes {fuel : Nat} {v : Value} {x : DataW H × List MemPlace} (h : DataW.trod enc Tryz.prog W 0 (fun _ => true) true fuel 23 [v] = some x) (hw : Wt 23 x.1) : ∃ l, BytesV W v l := by
  rcases open_slice Tryz.underlying23 h with ⟨hv, rfl⟩ | ⟨a, len, cap, m, n, D, Pl, hv, hb, hl, hm, hmc, rfl, hall⟩
  · injection hv with hv
    subst hv
    exact ⟨[], none, 0, rfl, Nat.le_refl _, by omega, fun h => absurd h (by simp)⟩
  · injection hv with hv
    subst hv
    rw [if_pos rfl] at hmc
    subst hmc
    have hz : ∀ i, i < m → ∃ b : UInt8, W.cell? (a.add i) = some (.int .u8 (b.toNat : Int)) := by
      intro i hi
      obtain ⟨cs', hc, ht⟩ := hall i hi
      rw [cO5] at hc
      obtain ⟨hlen, hcell⟩ := cell_of_cells hc
      obtain ⟨z, rfl, _, hwf⟩ := DataW.trod_int Tryz.underlying5 ht
      obtain ⟨b, rfl⟩ := wf_u8 hwf
      have := hcell 0 _ rfl
      rw [add_add] at this
      exact ⟨b, by simpa using this⟩
    obtain ⟨f, hf⟩ := choose_lt hz
    have hcap : m ≤ 140737488351232 := by
      have := hw ((((List.range len).map D).length + ((List.range (m - len)).map fun j => D (len + j)).length) * Tryz.prog.bytesOf 5) (by unfold DataW.weights; rw [Tryz.underlying23]; exact List.mem_cons_self)
      rw [bO5] at this
      simp at this
      omega
    refine ⟨(List.range len).map f, some a, m, by simp, by simpa using hl, hcap, fun hl0 => ⟨a, rfl, fun j b hj => ?_⟩⟩
    simp only [List.getElem?_map, Option.map_eq_some_iff] at hj
    obtain ⟨i, hi, rfl⟩ := hj
    obtain ⟨hi1, hi2⟩ := List.getElem?_eq_some_iff.1 hi
    simp at hi1 hi2
    subst hi2
    exact hf j (by omega)
theorem wt_cons {t : TypeId} {ts : List TypeId} {d : DataW H} {r : List (DataW H)} (h : ∀ x ∈ DataW.weightsEach Tryz.prog (t :: ts) (d :: r), x ≤ 140737488351232) : Wt t d ∧ ∀ x ∈ DataW.weightsEach Tryz.prog ts r, x ≤ 140737488351232 := by
  unfold DataW.weightsEach at h
  exact ⟨fun x hx => h x (List.mem_append_left _ hx), fun x hx => h x (List.mem_append_right _ hx)⟩
theorem wt_all {e : TypeId} {l : List (DataW H)} (h : ∀ x ∈ DataW.weightsAll Tryz.prog e l, x ≤ 140737488351232) : ∀ d ∈ l, Wt e d := by
  induction l with
  | nil => intro d hd; cases hd
  | cons a l ih =>
    unfold DataW.weightsAll at h
    intro d hd
    rcases List.mem_cons.1 hd with rfl | hd
    · exact fun x hx => h x (List.mem_append_left _ hx)
    · exact ih (fun x hx => h x (List.mem_append_right _ hx)) d hd
theorem reads_val : ∀ (fuel : Nat) (cs : List Value) (x : DataW H × List MemPlace), DataW.trod enc Tryz.prog W 0 (fun _ => true) true fuel 26 cs = some x → Wt 26 x.1 → ∃ t : VT fuel, IsV W fuel t cs := by
  intro fuel
  induction fuel using Nat.strongRecOn with
  | _ fuel ih =>
    intro cs x h hw
    obtain ⟨xs, n, rfl, rfl, hl, hlen, hf⟩ := DataW.trod_struct Tryz.underlying26 h
    rw [cO26] at hl
    match cs, hl with
    | [c0, c1, c2, c3, c4, c5, c6, c7], _ =>
    match xs, hlen with
    | [y0, y1, y2, y3, y4, y5, y6, y7], _ =>
    have f0 := hf 0 _ rfl
    have f1 := hf 1 _ rfl
    have f2 := hf 2 _ rfl
    have f3 := hf 3 _ rfl
    have f4 := hf 4 _ rfl
    have f5 := hf 5 _ rfl
    have f6 := hf 6 _ rfl
    have f7 := hf 7 _ rfl
    simp only [cO2, cO3, cO9, cO22, cO23, cO24, List.drop_zero, List.drop_succ_cons, List.take_succ_cons, List.take_zero, List.getElem?_cons_zero, List.getElem?_cons_succ] at f0 f1 f2 f3 f4 f5 f6 f7
    have hws : ∀ x ∈ DataW.weightsEach Tryz.prog [3, 9, 9, 2, 22, 22, 23, 24] [y0.1, y1.1, y2.1, y3.1, y4.1, y5.1, y6.1, y7.1], x ≤ 140737488351232 := by
      intro x hx
      refine hw x ?_
      show x ∈ DataW.weights Tryz.prog 26 (.agg [y0.1, y1.1, y2.1, y3.1, y4.1, y5.1, y6.1, y7.1])
      unfold DataW.weights
      rw [Tryz.underlying26]
      exact hx
    obtain ⟨_, hws⟩ := wt_cons hws
    obtain ⟨w1, hws⟩ := wt_cons hws
    obtain ⟨w2, hws⟩ := wt_cons hws
    obtain ⟨_, hws⟩ := wt_cons hws
    obtain ⟨_, hws⟩ := wt_cons hws
    obtain ⟨_, hws⟩ := wt_cons hws
    obtain ⟨w6, hws⟩ := wt_cons hws
    obtain ⟨w7, _⟩ := wt_cons hws
    obtain ⟨kind, e0, _, k0⟩ := DataW.trod_int Tryz.underlying3 f0
    obtain ⟨text, e1, g1, _⟩ := DataW.trod_string Tryz.underlying9 f1
    obtain ⟨more, e2, g2, _⟩ := DataW.trod_string Tryz.underlying9 f2
    obtain ⟨vn, e3, _, k3⟩ := DataW.trod_int Tryz.underlying2 f3
    obtain ⟨bits, e4, _, k4⟩ := DataW.trod_int Tryz.underlying22 f4
    obtain ⟨high, e5, _, k5⟩ := DataW.trod_int Tryz.underlying22 f5
    injection e0 with e0
    injection e1 with e1
    injection e2 with e2
    injection e3 with e3
    injection e4 with e4
    injection e5 with e5
    subst e0 e1 e2 e3 e4 e5
    obtain ⟨bits, rfl, hbits⟩ := wf_u64 k4
    obtain ⟨high, rfl, hhigh⟩ := wf_u64 k5
    obtain ⟨b, hb⟩ := reads_bytes f6 w6
    have hts : text.size ≤ 140737488351232 := by
      have := w1 text.data.toList.length (by rw [g1]; unfold DataW.weights; simp)
      rwa [Array.length_toList] at this
    have hms : more.size ≤ 140737488351232 := by
      have := w2 more.data.toList.length (by rw [g2]; unfold DataW.weights; simp)
      rwa [Array.length_toList] at this
    have hkids : ∃ l : List (ByteArray × VT n), KidsV W (IsV W n) c7 l := by
      rcases DataW.trod_slice Tryz.underlying24 f7 with ⟨hv, _⟩ | ⟨a, len, m, elems, rest, n1, hfu, hv, hx, hbb, hl, hm, hel, hall, hsp, _⟩
      · injection hv with hv
        subst hv
        exact ⟨[], none, 0, rfl, Nat.le_refl _, by omega, fun i name k hi => by simp at hi⟩
      · injection hv with hv
        subst hv
        have hrl := (hsp rfl).1
        rw [hx] at w7
        have hcap : m ≤ 140737488351232 := by
          have := w7 (((elems.map (·.1)).length + (rest.map (·.1)).length) * Tryz.prog.bytesOf 38) (by unfold DataW.weights; rw [Tryz.underlying24]; exact List.mem_cons_self)
          have h1 := bO38
          rw [List.length_map, List.length_map] at this
          have h2 := Nat.le_trans (Nat.le_mul_of_pos_right (elems.length + rest.length) h1) this
          omega
        have hwt : ∀ d ∈ elems.map (·.1), Wt 38 d := wt_all (fun x hx => w7 x (by unfold DataW.weights; rw [Tryz.underlying24]; exact List.mem_cons_of_mem _ (List.mem_append_left _ hx)))
        have hz : ∀ i, i < len → ∃ p : ByteArray × VT n, p.1.size ≤ 140737488351232 ∧ ∃ cs8, IsV W n p.2 cs8 ∧ cs8.length = 8 ∧ ∀ j u, (Value.string p.1 :: cs8)[j]? = some u → W.cell? (a.add (9 * i + j)) = some u := by
          intro i hi
          have hie : i < elems.length := by omega
          have hall := hall i hi
          rw [List.getElem?_eq_getElem hie, cO38] at hall
          obtain ⟨cs', hc, ht⟩ := Option.bind_eq_some_iff.1 hall
          obtain ⟨hlen, hcell⟩ := cell_of_cells hc
          have hwi := hwt elems[i].1 (List.mem_map.2 ⟨_, List.getElem_mem hie, rfl⟩)
          obtain ⟨xs, n2, hn2, hxs, hl2, hlen2, hf2⟩ := DataW.trod_struct Tryz.underlying38 ht
          match xs, hlen2 with
          | [z0, z1], _ =>
          have q0 : DataW.trod enc Tryz.prog W 0 (fun _ => true) true n2 9 ((cs'.drop 0).take (Tryz.prog.cellsOf 9)) = some z0 := hf2 0 _ rfl
          have q1 : DataW.trod enc Tryz.prog W 0 (fun _ => true) true n2 26 ((cs'.drop 1).take (Tryz.prog.cellsOf 26)) = some z1 := hf2 1 _ rfl
          rw [cO9] at q0
          rw [cO26] at q1
          have hws2 : ∀ x ∈ DataW.weightsEach Tryz.prog [9, 26] [z0.1, z1.1], x ≤ 140737488351232 := by
            intro x hx
            refine hwi x ?_
            have hD : elems[i].1 = .agg [z0.1, z1.1] := by have := congrArg Prod.fst hxs; simpa using this
            rw [hD]
            unfold DataW.weights
            rw [Tryz.underlying38]
            exact hx
          obtain ⟨u0, hws2⟩ := wt_cons hws2
          obtain ⟨u1, _⟩ := wt_cons hws2
          obtain ⟨name, e0, g0, _⟩ := DataW.trod_string Tryz.underlying9 q0
          obtain ⟨t, hv⟩ := ih n2 (by omega) _ _ q1 u1
          obtain ⟨t', hv'⟩ := hv.lifts n (by omega)
          have hns : name.size ≤ 140737488351232 := by
            have := u0 name.data.toList.length (by rw [g0]; unfold DataW.weights; simp)
            rwa [Array.length_toList] at this
          match cs', hlen with
          | [d0, d1, d2, d3, d4, d5, d6, d7, d8], _ =>
          have e0' : d0 = .string name := by simpa using e0
          subst e0'
          refine ⟨(name, t'), hns, [d1, d2, d3, d4, d5, d6, d7, d8], hv', rfl, fun j u hu => ?_⟩
          have := hcell j u hu
          rw [add_add] at this
          rw [show 9 * i + j = i * 9 + j from by omega]
          exact this
        obtain ⟨l, hll, hlp⟩ := list_of len hz
        refine ⟨l, some a, m, by rw [hll], by rw [hll]; exact hl, hcap, fun i name k hi => ?_⟩
        obtain ⟨h1, cs8, h2, h3, h4⟩ := hlp i _ hi
        exact ⟨h1, a, cs8, rfl, h2, h3, h4⟩
    obtain ⟨l, hk⟩ := hkids
    exact ⟨(⟨kind, text, more, vn, bits, high, b, l⟩ : VR (VT n)), c6, c7, rfl, wf_i64 k0, wf_i64 k3, hbits, hhigh, hts, hms, hb, hk⟩
end
end Go.Proofs.YtpfkgpcnhdkkbaaGreatDoor
namespace Go.Proofs.YtpfkgpcnhdkkbaaGreatDoor
open Go.RowKit
set_option linter.unusedVariables false
set_option linter.unusedSimpArgs false
set_option maxRecDepth 100000
theorem rightR_no {K : Type} {fk : K → Bool} {t : VR K} (h : ¬ rightP fk t) : rightR fk t = false := by unfold rightR; simp [h]
theorem rightR_yes {K : Type} {fk : K → Bool} {t : VR K} (h : rightP fk t) : rightR fk t = true := by unfold rightR; simp [h]
theorem rightR_val {K : Type} {fk : K → Bool} {t : VR K} (P : Prop) [Decidable P] (h : rightP fk t ↔ P) : rightR fk t = decide P := by
  by_cases hp : P
  · rw [rightR_yes (h.2 hp), decide_eq_true hp]
  · rw [rightR_no (fun q => hp (h.1 q)), decide_eq_false hp]
theorem right_step {K : Type} (fk : K → Bool) (R : K → List Value → Prop) (w0 : World) (kind : Int) (text more : ByteArray) (n : Int) (bits high : Nat) (b : List UInt8) (kids : List (ByteArray × K)) (A B : Option Addr) (c c2 : Nat) (hts : text.size ≤ 140737488351232) (hms : more.size ≤ 140737488351232) (hm : b.length ≤ 140737488351232) (hm2 : kids.length ≤ 140737488351232)
    (deep : Int) (hdb : 1 ≤ deep ∧ deep ≤ 1000) (E : REnv K fk R kids deep w0) (hkv : KidsV w0 R (.slice B kids.length c2) kids) (w : World) (hw : Below w0.heap.size w0 w) :
    Calls Tryz.prog 58 #[valV kind text more n bits high (.slice A b.length c) (.slice B kids.length c2), .int .i64 deep] w fun e w' => e = .returned (.bool (rightR fk ⟨kind, text, more, n, bits, high, b, kids⟩)) ∧ Below w.heap.size w w' := by
  have hd : (deep == 0) = false := by simp; omega
  cases hkn : knownB kind
  · rw [rightR_no (fun h => by have h1 : knownB kind = true := h.1; rw [hkn] at h1; cases h1)]
    exact right_unknown kind hkn text more n bits high A B b.length c kids.length c2 deep w
  · by_cases hbare : bareOk kind text more n bits high b.length kids.length
    · by_cases k5 : kind = 5
      · subst k5
        rw [rightR_val (0 ≤ n ∧ n ≤ 255) ⟨fun h => by simpa [rightP] using h.2.2, fun h => ⟨hkn, hbare, by simpa [rightP] using h⟩⟩]
        exact right_bin text more n bits high A B b.length c kids.length c2 hts hms hm hm2 deep hd hbare w
      by_cases k7 : kind = 7
      · subst k7
        rw [rightR_val (b.length = 12) ⟨fun h => by simpa [rightP] using h.2.2, fun h => ⟨hkn, hbare, by simpa [rightP] using h⟩⟩]
        exact right_oid text more n bits high A B b.length c kids.length c2 hts hms hm hm2 deep hd hbare w
      by_cases k12 : kind = 12
      · subst k12
        rw [rightR_val (b.length = 12) ⟨fun h => by simpa [rightP] using h.2.2, fun h => ⟨hkn, hbare, by simpa [rightP] using h⟩⟩]
        exact right_ptr text more n bits high A B b.length c kids.length c2 hts hms hm hm2 deep hd hbare w
      by_cases k8 : kind = 8
      · subst k8
        rw [rightR_val (n = 0 ∨ n = 1) ⟨fun h => by simpa [rightP] using h.2.2, fun h => ⟨hkn, hbare, by simpa [rightP] using h⟩⟩]
        exact right_bool text more n bits high A B b.length c kids.length c2 hts hms hm hm2 deep hd hbare w
      by_cases k16 : kind = 16
      · subst k16
        rw [rightR_val (-2147483648 ≤ n ∧ n < 2147483648) ⟨fun h => by simpa [rightP] using h.2.2, fun h => ⟨hkn, hbare, by simpa [rightP] using h⟩⟩]
        exact right_i32 text more n bits high A B b.length c kids.length c2 hts hms hm hm2 deep hd hbare w
      by_cases k11 : kind = 11
      · subst k11
        rw [rightR_val ((plainB text && plainB more) = true) ⟨fun h => by simpa [rightP] using h.2.2, fun h => ⟨hkn, hbare, by simpa [rightP] using h⟩⟩, Bool.decide_eq_true]
        exact right_regex text more n bits high A B b.length c kids.length c2 hts hms hm hm2 deep hd hbare w
      have hiff : rightP fk ⟨kind, text, more, n, bits, high, b, kids⟩ ↔ kidsOk fk kind kids := ⟨fun h => by have := h.2.2; simpa [k5, k7, k12, k8, k16, k11] using this, fun h => ⟨hkn, hbare, by simpa [k5, k7, k12, k8, k16, k11] using h⟩⟩
      have hv : rightR fk ⟨kind, text, more, n, bits, high, b, kids⟩ = kidsB fk kind kids := by
        by_cases h : kidsOk fk kind kids
        · rw [rightR_yes (hiff.2 h), kidsB_yes h]
        · rw [rightR_no (fun q => h (hiff.1 q)), kidsB_no h]
      rw [hv]
      exact right_kids fk R kids w0 kind hkn (by simpa using k5) (by simpa using k7) (by simpa using k12) (by simpa using k8) (by simpa using k16) (by simpa using k11) text more n bits high A B b.length c kids.length c2 hm hm2 deep hd ⟨by omega, hdb.2⟩ E rfl hkv hbare w hw
    · rw [rightR_no (fun h => hbare h.2.1)]
      exact right_notbare kind hkn text more n bits high A B b.length c kids.length c2 hm hm2 deep hd hbare w
def RightAt (w0 : World) (d : Nat) : Prop := ∀ (t : VT d) (cs : List Value), IsV w0 d t cs → ∀ (deep : Nat), deep ≤ 1000 → ∀ W, Below w0.heap.size w0 W →
  Calls Tryz.prog 58 #[.agg cs.toArray, .int .i64 (deep : Int)] W fun e w' => e = .returned (.bool (rightB d t deep)) ∧ Below W.heap.size W w'
theorem right_any (w0 : World) : ∀ d, RightAt w0 d
  | 0 => fun t => t.elim
  | d + 1 => by
    intro t cs hv deep hdeep W hW
    obtain ⟨kind, text, more, n, bits, high, b, kids⟩ := t
    obtain ⟨bv, kv, rfl, hk, hn, hbits, hhigh, hts, hms, ⟨A1, c1, rfl, hc1, hc1b, hrb⟩, hkv⟩ := hv
    obtain ⟨A2, c2, rfl, hc2, hc2b, hkr⟩ := id hkv
    simp only at hk hn hbits hhigh hts hms hrb hkv hkr hc2 hc2b hc1 hc1b ⊢
    cases deep with
    | zero =>
      cases hkn : knownB kind
      · exact right_unknown kind hkn text more n bits high A1 A2 b.length c1 kids.length c2 0 W
      · exact right_deep0 kind hkn text more n bits high A1 A2 b.length c1 kids.length c2 W
    | succ deep =>
      have E : REnv (VT d) (fun k => rightB d k deep) (IsV w0 d) kids ((deep + 1 : Nat) : Int) w0 :=
        ⟨fun p hp cs h => h.form, fun p hp => by obtain ⟨i, hi, rfl⟩ := List.getElem_of_mem hp; exact (hkr i _ _ (List.getElem?_eq_getElem hi)).1, fun p hp cs h W hW => by
          rw [show ((deep + 1 : Nat) : Int) - 1 = (deep : Int) from by omega]
          exact right_any w0 d p.2 cs h deep (by omega) W hW⟩
      exact right_step (fun k => rightB d k deep) (IsV w0 d) w0 kind text more n bits high b kids A1 A2 c1 c2 hts hms (by omega) (by omega) ((deep + 1 : Nat) : Int) (by omega) E hkv W hW
/-- What the exact answer says, weakly. -/
theorem rightB_right : ∀ (d : Nat) (t : VT d) (deep : Nat), rightB d t deep = true → RightV d t
  | 0, t, _, _ => t.elim
  | d + 1, t, 0, h => by cases h
  | d + 1, t, deep + 1, h => by
    have hp : rightP (fun k => rightB d k deep) t := by
      refine Classical.byContradiction fun hn => ?_
      have h2 : rightR (fun k => rightB d k deep) t = false := rightR_no hn
      have h3 : rightR (fun k => rightB d k deep) t = true := h
      rw [h2] at h3
      cases h3
    obtain ⟨h1, h2, h3⟩ := hp
    have hk : (1 ≤ t.kind ∧ t.kind ≤ 19) ∨ t.kind = 127 ∨ t.kind = 255 := by unfold knownB at h1; simpa using h1
    refine ⟨hk, fun e => by simpa [e] using h3, fun e => ?_, fun e => by simpa [e] using h3, fun e => ?_, fun e p hp => ?_⟩
    · rcases e with e | e <;> simpa [e] using h3
    · rw [e] at h3
      simp at h3
      omega
    · have h4 : kidsOk (fun k => rightB d k deep) t.kind t.kids := by rcases e with e | e | e <;> simpa [e] using h3
      obtain ⟨i, hi, rfl⟩ := List.getElem_of_mem hp
      have h5 := h4 i _ (List.getElem?_eq_getElem hi)
      unfold kidOk at h5
      simp only [Bool.and_eq_true] at h5
      exact rightB_right d _ deep h5.2
set_option maxHeartbeats 1000000 in
theorem docRight_any (w0 : World) (d : Nat) (t : VT d) (cs : List Value) (hv : IsV w0 d t cs) (W : World) (hW : Below w0.heap.size w0 W) :
    Calls Tryz.prog 22 #[.agg cs.toArray] W fun e w' => e = .returned (.bool (rightB d t 200)) ∧ Below W.heap.size W w' := by
  have HC := Lib.hid (fun X hX => right_any w0 d t cs hv 200 (by omega) X hX)
  obtain ⟨k, tx, mr, n, b, h, A1, A2, n1, c1, n2, c2, rfl⟩ := hv.form
  obtain ⟨X, hX, hXb, hXs, hXc⟩ := box_cells W k tx mr n b h (.slice A1 n1 c1) (.slice A2 n2 c2)
  obtain ⟨l0, l1, l2, l3, l4, l5, l6, l7⟩ := box8 (hXc X (Below.refl _ _))
  have HX := Lib.hid hX
  have HXB := Lib.hid hXb
  have HW := Lib.hid (hW.trans (hXb.mono hW.size))
  clear hv hX hXb hXs hXc hW
  go_enter Tryz.func22, Tryz.ntmps22
  go_upto_region 1 with fail
  rw [HX.out]
  go_wp2_with (go_at_call 58; refine (HC.out _ HW.out).mono ?_; rintro e w2 ⟨rfl, hb2⟩; have HB2 := Lib.hid hb2; clear hb2)
  go_ret
  exact ⟨rfl, HXB.out.trans (HB2.out.mono HXB.out.size)⟩
end Go.Proofs.YtpfkgpcnhdkkbaaGreatDoor
namespace Go.Proofs.YtpfkgpcnhdkkbaaGreatDoor
open Go.RowKit
set_option linter.unusedVariables false
set_option linter.unusedSimpArgs false
set_option maxRecDepth 100000
def Fits (d : Nat) (t : VT d) : Prop := FitD 12 d t ∧ cntV d t ≤ 300 ∧ rightB d t 200 = true
def FitsPost (d : Nat) (t : VT d) (w : World) (e : Ending) (w' : World) : Prop := ∃ v : Bool, e = .returned (.bool v) ∧ (v = true → Fits d t) ∧ Below w.heap.size w w'
set_option maxHeartbeats 2000000 in
theorem extFits_any (w0 : World) (d : Nat) (t : VT d) (cs : List Value) (hv : IsV w0 d t cs) (W : World) (hW : Below w0.heap.size w0 W) : Calls Tryz.prog 9 #[.agg cs.toArray] W (FitsPost d t W) := by
  have HR := Lib.hid (fun V hV => docRight_any w0 d t cs hv V hV)
  have HC0 := fun (g : Nat) (V : World) (h : LS g 300 w0 V) => counts_any w0 g 12 d (by omega) t cs hv 300 V (by omega) (by omega) h
  obtain ⟨k, tx, mr, n, b, h, A1, A2, n1, c1, n2, c2, rfl⟩ := hv.form
  have HC := Lib.hid (fun (g : Nat) (V : World) (h1 : LS g 300 w0 V) => show Calls Tryz.prog 21 #[.agg #[.int .i64 k, .string tx, .string mr, .int .i64 n, .int .u64 (b : Int), .int .u64 (h : Int), .slice A1 n1 c1, .slice A2 n2 c2], .int .i64 12, .pointer (some ⟨g, 0, none⟩)] V (CPost w0 g 12 d t 300 V) from HC0 g V h1)
  obtain ⟨X, hX, hXb, hXs, hXc⟩ := box_cells W k tx mr n b h (.slice A1 n1 c1) (.slice A2 n2 c2)
  have hWX := hW.trans (hXb.mono hW.size)
  obtain ⟨Y, hY⟩ : ∃ Y, X.alloc (.cells #[.int .i64 300] 3) = Y := ⟨_, rfl⟩
  have hYb : Below X.heap.size X Y := hY ▸ below_allocB X _
  have hYs : Y.heap.size = W.heap.size + 2 := by rw [← hY]; simp [hXs]
  have hls : LS (W.heap.size + 1) 300 w0 Y := ⟨hWX.trans (hYb.mono hWX.size), by have := hW.size; omega, by rw [← hY, ← hXs]; exact heap_alloc_new X _⟩
  obtain ⟨l0, l1, l2, l3, l4, l5, l6, l7⟩ := box8 (hXc Y hYb)
  have HX := Lib.hid hX
  have HY := Lib.hid hY
  have HXS := Lib.hid hXs
  have HLS := Lib.hid hls
  have HWY := Lib.hid (hXb.trans (hYb.mono hXb.size))
  have HYS := Lib.hid hYs
  have hl : ∀ w3, GStep (W.heap.size + 1) Y w3 → ∀ i v, (#[.int .i64 k, .string tx, .string mr, .int .i64 n, .int .u64 (b : Int), .int .u64 (h : Int), .slice A1 n1 c1, .slice A2 n2 c2] : Array Value)[i]? = some v → w3.cell? ⟨W.heap.size, i, none⟩ = some v := by
    intro w3 hg i v hi
    rw [hg.cell (p := ⟨W.heap.size, i, none⟩) (by rw [hYs]; simp) (by simp)]
    exact hXc Y hYb i v hi
  have HL := Lib.hid hl
  clear hv HC0 hX hXb hXc hW hWX hY hYb hls hl hYs
  go_enter Tryz.func9, Tryz.ntmps9
  go_upto_region 1 with fail
  rw [HX.out]
  go_upto_region 2 with fail
  rw [HY.out]
  try rw [HXS.out]
  go_wp2_with (go_at_call 21; refine (HC.out _ _ HLS.out).mono ?_; rintro e w3 ⟨v, rfl, hp⟩; refine Hid.out ?_)
  refine Lib.hid ?_
  obtain ⟨l', p1, p2, p3, p4, p5⟩ := hp
  obtain ⟨q0, q1, q2, q3, q4, q5, q6, q7⟩ := box8 (HL.out w3 p5)
  have HB := Lib.hid (HWY.out.trans (p5.below (by omega) (by have := HYS.out; omega)))
  have HP4 := Lib.hid p4
  clear l0 l1 l2 l3 l4 l5 l6 l7
  cases v
  · clear p1 p2 p3 p4 p5
    go_wp2_with fail
    go_ret
    exact ⟨false, rfl, (fun h => by cases h), HB.out⟩
  · have HP3 := Lib.hid (p3 rfl)
    clear p1 p2 p3 p4 p5
    go_wp2_with (go_at_call 22; refine (HR.out _ HP4.out.below).mono ?_; rintro e w4 ⟨rfl, hb4⟩; have HB4 := Lib.hid (HB.out.trans (hb4.mono HB.out.size)); clear hb4)
    go_ret
    exact ⟨rightB d t 200, rfl, fun hr => ⟨HP3.out.1, by have := HP3.out.2; omega, hr⟩, HB4.out⟩
end Go.Proofs.YtpfkgpcnhdkkbaaGreatDoor
namespace Go.Proofs.YtpfkgpcnhdkkbaaGreatDoor
open Go.RowKit
set_option linter.unusedVariables false
set_option linter.unusedSimpArgs false
set_option maxRecDepth 100000
/-- Some answer, and nothing below changed. -/
def BoolPost (w : World) (e : Ending) (w' : World) : Prop := ∃ v : Bool, e = .returned (.bool v) ∧ Below w.heap.size w w'
set_option maxHeartbeats 1000000 in
theorem zz_any (k : Int) (text more : ByteArray) (n : Int) (bits high : Nat) (A B : Option Addr) (m c m2 c2 : Nat) (w : World) (h1 : text.size ≤ 140737488351232) (h2 : more.size ≤ 140737488351232) (h3 : m ≤ 140737488351232) (h4 : m2 ≤ 140737488351232) :
    Calls Tryz.prog 7 #[valV k text more n bits high (.slice A m c) (.slice B m2 c2)] w (BoolPost w) := by
  unfold valV
  have HB := Lib.hid (below_allocB w (.cells #[.int .i64 k, .string text, .string more, .int .i64 n, .int .u64 (bits : Int), .int .u64 (high : Int), .slice A m c, .slice B m2 c2] 26))
  go_enter Tryz.func7, Tryz.ntmps7
  by_cases t1 : text.size ≤ 2147483647
  · by_cases t2 : more.size ≤ 2147483647
    · by_cases t3 : m ≤ 2147483647
      · by_cases t4 : m2 ≤ 2147483647
        · go_wp2_with fail
          go_ret
          exact ⟨_, rfl, HB.out⟩
        · go_wp2_with fail
          go_ret
          exact ⟨_, rfl, HB.out⟩
      · go_wp2_with fail
        go_ret
        exact ⟨_, rfl, HB.out⟩
    · go_wp2_with fail
      go_ret
      exact ⟨_, rfl, HB.out⟩
  · go_wp2_with fail
    go_ret
    exact ⟨_, rfl, HB.out⟩
set_option maxHeartbeats 1000000 in
/-- extDocument of a document: the value itself. -/
theorem extDoc_same (text more : ByteArray) (n : Int) (bits high : Nat) (A B : Option Addr) (m c m2 c2 : Nat) (w : World) :
    Calls Tryz.prog 8 #[valV 3 text more n bits high (.slice A m c) (.slice B m2 c2)] w fun e w' => e = .returned (valV 3 text more n bits high (.slice A m c) (.slice B m2 c2)) ∧ Below w.heap.size w w' := by
  unfold valV
  go_enter Tryz.func8, Tryz.ntmps8
  go_wp2_with fail
  exact bodyPost_ret (v := .agg #[.int .i64 3, .string text, .string more, .int .i64 n, .int .u64 (bits : Int), .int .u64 (high : Int), .slice A m c, .slice B m2 c2]) (by simp [results, Tryz.results8, go_sem]) rfl ⟨rfl, (below_allocB w _).trans ((below_allocB _ _).mono (by simp))⟩
set_option maxHeartbeats 1000000 in
theorem extDoc_wrap (k : Int) (hk : ¬ k = 3) (text more : ByteArray) (n : Int) (bits high : Nat) (A B : Option Addr) (m c m2 c2 : Nat) (w : World) :
    Calls Tryz.prog 8 #[valV k text more n bits high (.slice A m c) (.slice B m2 c2)] w fun e w' => ∃ g, e = .returned (valV 3 ⟨#[]⟩ ⟨#[]⟩ 0 0 0 (.slice none 0 0) (.slice (some ⟨g, 0, none⟩) 1 1)) ∧ Below w.heap.size w w' ∧
      w'.rangeAt g 0 [.string ⟨#[97]⟩, .int .i64 k, .string text, .string more, .int .i64 n, .int .u64 (bits : Int), .int .u64 (high : Int), .slice A m c, .slice B m2 c2] := by
  unfold valV
  go_enter Tryz.func8, Tryz.ntmps8
  go_wp2_with fail
  refine bodyPost_ret (v := valV 3 ⟨#[]⟩ ⟨#[]⟩ 0 0 0 (.slice none 0 0) (.slice (some ⟨w.heap.size + 2, 0, none⟩) 1 1)) (by simp [results, Tryz.results8, go_sem, valV]) rfl ⟨w.heap.size + 2, rfl, ?_, ?_⟩
  · exact ((below_allocB w _).trans ((below_allocB _ _).mono (by simp))).trans ((below_allocB _ _).mono (by simp; omega))
  · intro j v hv
    have h := blk_cell (g := w.heap.size + 2) (by
      have h0 := heap_alloc_new ((w.alloc (.cells #[.int .i64 k, .string text, .string more, .int .i64 n, .int .u64 (bits : Int), .int .u64 (high : Int), .slice A m c, .slice B m2 c2] 26)).alloc (.cells #[.int .i64 3, .string ⟨#[]⟩, .string ⟨#[]⟩, .int .i64 0, .int .u64 0, .int .u64 0, .slice none 0 0, .slice (some ⟨w.heap.size + 1 + 1, 0, none⟩) 1 1] 26)) (.cells #[.string ⟨#[97]⟩, .int .i64 k, .string text, .string more, .int .i64 n, .int .u64 (bits : Int), .int .u64 (high : Int), .slice A m c, .slice B m2 c2] 38)
      rwa [show ((w.alloc (.cells #[.int .i64 k, .string text, .string more, .int .i64 n, .int .u64 (bits : Int), .int .u64 (high : Int), .slice A m c, .slice B m2 c2] 26)).alloc (.cells #[.int .i64 3, .string ⟨#[]⟩, .string ⟨#[]⟩, .int .i64 0, .int .u64 0, .int .u64 0, .slice none 0 0, .slice (some ⟨w.heap.size + 1 + 1, 0, none⟩) 1 1] 26)).heap.size = w.heap.size + 2 from by simp] at h0) j
    rw [Nat.zero_add]
    refine h.trans ?_
    rw [← hv]
    simp
end Go.Proofs.YtpfkgpcnhdkkbaaGreatDoor
namespace Go.Proofs.YtpfkgpcnhdkkbaaGreatDoor
open Go.RowKit
set_option linter.unusedVariables false
set_option linter.unusedSimpArgs false
set_option maxRecDepth 100000
theorem IsEW.low {g B B' wb : Nat} {canon esc : Bool} {buf : List UInt8} {modes : List Int} {w : World} (h : IsEW g B wb canon esc buf modes w) (hB : B' ≤ B) : IsEW g B' wb canon esc buf modes w := by
  obtain ⟨h1, bv, sb, len, cap, ms, hg, ⟨ho1, ho2⟩, hs, r⟩ := h
  refine ⟨Nat.le_trans hB h1, bv, sb, len, cap, ms, hg, ⟨ho1, ?_⟩, Nat.le_trans hB hs, r⟩
  rcases ho2 with ho2 | ⟨k, cp, cur, hv, hk, q⟩
  · exact .inl ho2
  · exact .inr ⟨k, cp, cur, hv, Nat.le_trans hB hk, q⟩
theorem top_end {g B wb : Nat} {esc : Bool} {w : World} {K : Type} (f : K → List UInt8) (l : List (ByteArray × K)) (h : IsEW g B wb false esc ([] ++ 123 :: memOut esc f l) ([] ++ [1]) w) (hl : ([] ++ 123 :: memOut esc f l : List UInt8).length ≤ 1000000000) (hBw : B ≤ wb) (hwb : w.heap[wb]? = some fresh64) :
    Calls Tryz.prog 70 #[.pointer (some ⟨g, 0, none⟩)] w fun e w' => e = .returned .nilIface ∧ IsB B wb (docOut esc f l ++ [10]) w' ∧ Below B w w' := by
  cases l with
  | nil => exact writeDocEnd_top_plain (b0 := []) (c := 123) h (by unfold Room; simp) hBw hwb (by decide)
  | cons p r =>
    unfold docOut
    rw [memOut_items] at h hl ⊢
    rw [closed_items _ _ _ (by decide)]
    rw [flat_comma _ (by simp)] at h hl
    have h2 := writeDocEnd_top_comma (b0 := 123 :: sItems (List.map (fun p => jout esc p.1 ++ [58] ++ f p.2) (p :: r))) (by simpa using h) (by unfold Room; simp only [List.length_append, List.length_cons, List.nil_append] at hl ⊢; omega) hBw hwb
    simpa using h2
set_option maxHeartbeats 4000000 in
theorem extWrite_any (n d : Nat) (esc : Bool) (t : VT (d + 1)) (cs : List Value) (w : World) (hv : IsV w (d + 1) t cs) (hn : 3 * n ≤ 700) (hF : FitD (n + 1) (d + 1) t) (hR : RightV (d + 1) t) (hk : t.kind = 3) (hT : Tabs w) (h17 : 17 ≤ w.heap.size) (hlen : (outV aux0 esc (d + 1) t).length + 10 ≤ 1000000000) :
    Calls Tryz.prog 11 #[.agg cs.toArray, .bool false, .bool esc] w fun e w' => e = .returned (.tuple #[.string ⟨(outV aux0 esc (d + 1) t ++ [10]).toArray⟩, .bool true]) ∧ Below w.heap.size w w' := by
  have hF' : FitR (FitD n d) t := hF
  have hR' : RightR (RightV d) t := hR
  have ho : outV aux0 esc (d + 1) t = docOut esc (outV aux0 esc d) t.kids := by show outR aux0 esc (outV aux0 esc d) t = _; simp [outR, hk]
  rw [ho] at hlen ⊢
  obtain ⟨bv, kv, rfl, hk', hnn, hbits, hhigh, hts, hms, hbv, hkv⟩ := hv
  obtain ⟨A2, c2, rfl, hk2, hk3, hk4⟩ := hkv
  have hkv : KidsV w (IsV w d) (.slice A2 t.kids.length c2) t.kids := ⟨A2, c2, rfl, hk2, hk3, hk4⟩
  obtain ⟨A1, c1, rfl, hq1, hq2, hq3⟩ := hbv
  have hcl := closed_le (123 :: memOut esc (outV aux0 esc d) t.kids) 125
  have hll : ([] ++ 123 :: memOut esc (outV aux0 esc d) t.kids : List UInt8).length ≤ 1000000000 := by
    unfold docOut at hlen
    rw [List.nil_append]
    omega
  have hkl : t.kids.length ≤ 140737488351232 := Nat.le_trans hk2 hk3
  obtain ⟨bx, hbx⟩ : ∃ bx, Obj.cells #[.int .i64 t.kind, .string t.text, .string t.more, .int .i64 t.n, .int .u64 (t.bits : Int), .int .u64 (t.high : Int), .slice A1 t.b.length c1, .slice A2 t.kids.length c2] 26 = bx := ⟨_, rfl⟩
  obtain ⟨B, hB⟩ : ∃ B, w.heap.size = B := ⟨_, rfl⟩
  have hB1 : (w.alloc bx).heap.size = B + 1 := by simp [hB]
  have hB2 : ((w.alloc bx).alloc fresh64).heap.size = B + 2 := by simp [hB]
  have hbel : Below B w ((w.alloc bx).alloc fresh64) := by rw [← hB]; exact (below_allocB w bx).trans ((below_allocB (w.alloc bx) fresh64).mono (by simp))
  have hfr : ((w.alloc bx).alloc fresh64).heap[B + 1]? = some fresh64 := by rw [← hB1]; exact heap_alloc_new (w.alloc bx) fresh64
  have hbx0 : ((w.alloc bx).alloc fresh64).heap[B]? = some bx := by rw [← hB]; exact (Below.heap_alloc _ _ _ (by simp)).trans (heap_alloc_new w bx)
  have HE := Lib.hid (fun (g : Nat) (wS : World) (hS : wS.heap[B + 1]? = some fresh64) => kids_env (wb := B + 1) (esc := esc) hB.symm (by rw [← hB]; exact h17) hT (value_all w g B (B + 1) esc hB.symm (by rw [← hB]; exact h17) hT n d) t.kids hF'.kids (hR'.kids (.inl hk)) [] [] 1 (by simp; omega) hll wS (fun w w' => IsB B (B + 1) (docOut esc (outV aux0 esc d) t.kids ++ [10]) w' ∧ Below B w w')
      (fun b w s hw hr ht hs => writeElement_1 (m := 1) (modes := []) s hw hr (by simp) ht (by omega) (by omega)) (fun w hw _ hst => top_end _ _ hw hll (by omega) (fresh_kept hS hst.2)))
  have HKV := Lib.hid hkv
  have HFR := Lib.hid hfr
  have HBX := Lib.hid hbx0
  have HBEL := Lib.hid hbel
  have HB2 := Lib.hid hB2
  rw [hk] at hbx
  generalize docOut esc (outV aux0 esc d) t.kids = O at HE ⊢
  rw [hk]
  generalize hnk : t.kids.length = nk at hbx hkl HKV ⊢
  have HNK := Lib.hid hnk.symm
  subst hbx
  subst hB
  clear ho hlen hcl hll hk hkv hnk hfr hbx0 hbel hB1 hB2 hT h17
  go_enter Tryz.func11, Tryz.ntmps11
  go_wp2_with fail
  go_wp2_with (go_at_call 39; refine (new_any (w.heap.size + 1) false esc _).mono ?_; rintro e w3 ⟨g, rfl, h3, s3⟩; refine Hid.out ?_)
  refine Lib.hid ?_
  have H3 := Lib.hid (h3.low (B' := w.heap.size) (by have := HBEL.out.size; exact this))
  have hs3 : EStep w.heap.size w w3 := ⟨HBEL.out.trans (s3.mono HBEL.out.size), (EKept.of_below HBEL.out).trans (EKept.of_below s3)⟩
  have S3 := Lib.hid hs3
  have FR3 := Lib.hid ((s3.block (w.heap.size + 1) (Nat.lt_of_lt_of_le (by omega : w.heap.size + 1 < w.heap.size + 2) (Nat.le_of_eq HB2.out.symm))).trans HFR.out)
  have hb3 := (s3.block w.heap.size (Nat.lt_of_lt_of_le (by omega : w.heap.size < w.heap.size + 2) (Nat.le_of_eq HB2.out.symm))).trans HBX.out
  have HB3 := Lib.hid hb3
  clear h3 s3 hs3 hb3
  go_wp2_with (go_at_call 40; refine (writeDocument_top (m := 1) (modes := []) H3.out (by unfold Room; simp)).mono ?_; rintro e w4 ⟨rfl, h4, s4⟩; refine Hid.out ?_)
  refine Lib.hid ?_
  have H4 := Lib.hid h4
  have S4 := Lib.hid (S3.out.trans s4)
  have FR4 := Lib.hid (fresh_kept FR3.out s4.2)
  have hb4 := s4.2 _ _ HB3.out (fun c e fz he => by injection he with h1 h2 h3; subst h2; decide)
  have k7 := blk_cell hb4 7
  simp only [List.getElem?_toArray, List.getElem?_cons_zero, List.getElem?_cons_succ] at k7
  clear h4 s4 hb4
  unfold meV
  go_wp2_with (go_at_call 41; refine (kids_any (HE.out g w4 FR4.out) A2 nk c2 HNK.out HKV.out hkl H4.out S4.out.1).mono ?_; rintro e w5 ⟨rfl, w6, s5, h5, s6⟩; refine Hid.out ?_)
  refine Lib.hid ?_
  have H5 := Lib.hid h5
  have S5 := Lib.hid (S4.out.1.trans (s5.1.trans s6))
  clear h5 s5 s6 k7
  go_wp2_with (go_at_call 42; refine (bstr _ _ _ _ H5.out).mono ?_; rintro e w7 ⟨rfl, q, rfl⟩)
  go_ret2
  exact ⟨rfl, below_drn S5.out q⟩
end Go.Proofs.YtpfkgpcnhdkkbaaGreatDoor
namespace Go.Proofs.YtpfkgpcnhdkkbaaGreatDoor
open Go.RowKit
set_option linter.unusedVariables false
set_option linter.unusedSimpArgs false
set_option maxRecDepth 100000
/-- Behind the guards: both texts. -/
theorem texts_ext (w0 : World) (d : Nat) (t : VT d) (cs : List Value) (hv : IsV w0 d t cs) (hF : Fits d t) (hT : Tabs w0) (h17 : 17 ≤ w0.heap.size) (hk : ∀ k tx mr n b h bv kv, cs = [.int .i64 k, tx, mr, n, b, h, bv, kv] → k = 3) (esc : Bool) :
    ∃ S : ByteArray, S.size ≤ 3000000 ∧
      (∀ W, Below w0.heap.size w0 W → Calls Tryz.prog 10 #[.agg cs.toArray, .bool false, .bool esc] W fun e w' => e = .returned (.tuple #[.string S, .bool true]) ∧ Below W.heap.size W w') ∧
      (∀ W, Below w0.heap.size w0 W → Calls Tryz.prog 11 #[.agg cs.toArray, .bool false, .bool esc] W fun e w' => e = .returned (.tuple #[.string (S ++ ⟨#[10]⟩), .bool true]) ∧ Below W.heap.size W w') := by
  obtain ⟨hfd, hcnt, hrb⟩ := hF
  have hR := rightB_right d t 200 hrb
  have hFV := hfd.fit
  have hlen := spV_len w0 esc d t cs hv hFV hR
  have heq := outV_eq esc d t hFV hR
  refine ⟨⟨(spV esc d t).toArray⟩, ?_, fun W hW => extVal_any w0 esc hT h17 d t cs hv hFV hR (by omega) W hW, fun W hW => ?_⟩
  · show (spV esc d t).toArray.size ≤ _
    rw [List.size_toArray]
    omega
  · cases d with
    | zero => exact t.elim
    | succ d =>
      have hk3 : t.kind = 3 := by
        obtain ⟨bv, kv, e, _⟩ := id hv
        exact hk _ _ _ _ _ _ _ _ e
      have h := extWrite_any 11 d esc t cs W (IsV.later hW (d + 1) t cs hv) (by omega) hfd hR hk3 (hT.below hW h17) (by have := hW.size; omega) (by rw [heq]; omega)
      rw [heq] at h
      have hq : (⟨(spV esc (d + 1) t ++ [10]).toArray⟩ : ByteArray) = ⟨(spV esc (d + 1) t).toArray⟩ ++ ⟨#[10]⟩ := ret_eq (by simp)
      rw [hq] at h
      exact h
/-- extDocument: some document, whose value is known. -/
def DocPost (W : World) (e : Ending) (w' : World) : Prop := ∃ (tx mr : ByteArray) (n : Int) (b h : Nat) (A1 A2 : Option Addr) (n1 c1 n2 c2 : Nat) (d : Nat) (t : VT d),
  e = .returned (.agg #[.int .i64 3, .string tx, .string mr, .int .i64 n, .int .u64 (b : Int), .int .u64 (h : Int), .slice A1 n1 c1, .slice A2 n2 c2]) ∧
  IsV w' d t [.int .i64 3, .string tx, .string mr, .int .i64 n, .int .u64 (b : Int), .int .u64 (h : Int), .slice A1 n1 c1, .slice A2 n2 c2] ∧ Below W.heap.size W w'
theorem extDocument_any (w0 : World) (d : Nat) (t : VT d) (k : Int) (tx mr : ByteArray) (n : Int) (b h : Nat) (A1 A2 : Option Addr) (n1 c1 n2 c2 : Nat)
    (hv : IsV w0 d t [.int .i64 k, .string tx, .string mr, .int .i64 n, .int .u64 (b : Int), .int .u64 (h : Int), .slice A1 n1 c1, .slice A2 n2 c2]) (W : World) (hW : Below w0.heap.size w0 W) :
    Calls Tryz.prog 8 #[valV k tx mr n b h (.slice A1 n1 c1) (.slice A2 n2 c2)] W (DocPost W) := by
  by_cases hk : k = 3
  · subst hk
    refine (extDoc_same tx mr n b h A1 A2 n1 c1 n2 c2 W).mono ?_
    rintro e w' ⟨rfl, hb⟩
    exact ⟨tx, mr, n, b, h, A1, A2, n1, c1, n2, c2, d, t, rfl, IsV.later (hW.trans (hb.mono hW.size)) d t _ hv, hb⟩
  · refine (extDoc_wrap k hk tx mr n b h A1 A2 n1 c1 n2 c2 W).mono ?_
    rintro e w' ⟨g, rfl, hb, hr⟩
    refine ⟨⟨#[]⟩, ⟨#[]⟩, 0, 0, 0, none, some ⟨g, 0, none⟩, 0, 0, 1, 1, d + 1, (⟨3, ⟨#[]⟩, ⟨#[]⟩, 0, 0, 0, [], [(⟨#[97]⟩, t)]⟩ : VR (VT d)), rfl, ?_, hb⟩
    refine ⟨_, _, rfl, (by show I64 3; unfold I64; omega), (by show I64 0; unfold I64; omega), (by show 0 < _; omega), (by show 0 < _; omega), (by show (⟨#[]⟩ : ByteArray).size ≤ _; decide), (by show (⟨#[]⟩ : ByteArray).size ≤ _; decide), ⟨none, 0, rfl, Nat.le_refl 0, by omega, fun h => absurd h (Nat.lt_irrefl 0)⟩, ⟨some ⟨g, 0, none⟩, 1, rfl, Nat.le_refl 1, by omega, fun i name kk hi => ?_⟩⟩
    match i, hi with
    | 0, hi =>
      simp only [List.getElem?_cons_zero, Option.some.injEq, Prod.mk.injEq] at hi
      obtain ⟨rfl, rfl⟩ := hi
      refine ⟨by decide, ⟨g, 0, none⟩, _, rfl, IsV.later (hW.trans (hb.mono hW.size)) d t _ hv, rfl, fun j u hu => ?_⟩
      rw [addr0]
      have := hr j u hu
      simpa using this
    | i + 1, hi => simp at hi
set_option maxHeartbeats 4000000 in
theorem law_ext (W : World) (d : Nat) (t : VT d) (k : Int) (tx mr : ByteArray) (n : Int) (b h : Nat) (A1 A2 : Option Addr) (n1 c1 n2 c2 : Nat) (esc : Bool)
    (hv : IsV W d t [.int .i64 k, .string tx, .string mr, .int .i64 n, .int .u64 (b : Int), .int .u64 (h : Int), .slice A1 n1 c1, .slice A2 n2 c2]) (hT : Tabs W) (h17 : 17 ≤ W.heap.size) :
    Calls Tryz.prog 3 #[.agg #[.int .i64 k, .string tx, .string mr, .int .i64 n, .int .u64 (b : Int), .int .u64 (h : Int), .slice A1 n1 c1, .slice A2 n2 c2], .bool esc] W fun e w' => e = .returned (.bool true) ∧ Below W.heap.size W w' := by
  have hsz : tx.size ≤ 140737488351232 ∧ mr.size ≤ 140737488351232 ∧ n1 ≤ 140737488351232 ∧ n2 ≤ 140737488351232 := by
    cases d with
    | zero => exact t.elim
    | succ d =>
      obtain ⟨bv, kv, e, _, _, _, _, h1, h2, ⟨A, c, e1, h3, h4, _⟩, ⟨B, c', e2, h5, h6, _⟩⟩ := id hv
      simp only [List.cons.injEq, Value.string.injEq, Value.slice.injEq, and_true] at e e1 e2
      obtain ⟨_, rfl, rfl, _, _, _, rfl, rfl⟩ := e
      injection e1 with _ e1 e1c
      injection e2 with _ e2 e2c
      exact ⟨h1, h2, by omega, by omega⟩
  have HZ := Lib.hid (fun V => zz_any k tx mr n b h A1 A2 n1 c1 n2 c2 V hsz.1 hsz.2.1 hsz.2.2.1 hsz.2.2.2)
  have HD := Lib.hid (fun V hV => extDocument_any W d t k tx mr n b h A1 A2 n1 c1 n2 c2 hv V hV)
  have HTX := Lib.hid (fun (w2 : World) (hw2 : Below W.heap.size W w2) (d : Nat) (t : VT d) (tx mr : ByteArray) (n : Int) (b h : Nat) (A1 A2 : Option Addr) (n1 c1 n2 c2 : Nat) (hv2 : IsV w2 d t [.int .i64 3, .string tx, .string mr, .int .i64 n, .int .u64 (b : Int), .int .u64 (h : Int), .slice A1 n1 c1, .slice A2 n2 c2]) (hf : Fits d t) =>
    texts_ext w2 d t _ hv2 hf (hT.below hw2 h17) (by have := hw2.size; omega) (by intro k tx' mr' n' b' h' bv kv e; simp only [List.cons.injEq, Value.int.injEq, true_and] at e; exact e.1.symm) esc)
  unfold valV at HZ HD
  obtain ⟨X, hX, hXb, hXs, hXc⟩ := box_cells W k tx mr n b h (.slice A1 n1 c1) (.slice A2 n2 c2)
  obtain ⟨l0, l1, l2, l3, l4, l5, l6, l7⟩ := box8 (hXc X (Below.refl _ _))
  have HX := Lib.hid hX
  have HXB := Lib.hid hXb
  have HXC := Lib.hid hXc
  clear hv hT h17 hsz hX hXb hXc hXs
  go_enter Tryz.func3, Tryz.ntmps3
  go_upto_region 1 with fail
  rw [HX.out]
  go_wp2_with (go_at_call 7; refine (HZ.out _).mono ?_; rintro e w1 ⟨v, rfl, hb1⟩; refine Hid.out ?_)
  refine Lib.hid ?_
  clear l0 l1 l2 l3 l4 l5 l6 l7
  have HB1 := Lib.hid (HXB.out.trans (hb1.mono HXB.out.size))
  obtain ⟨l0, l1, l2, l3, l4, l5, l6, l7⟩ := box8 (HXC.out w1 hb1)
  clear hb1
  cases v
  · go_wp2_with fail
    go_ret
    exact ⟨rfl, HB1.out⟩
  · go_wp2_with (go_at_call 8; refine (HD.out _ HB1.out).mono ?_; rintro e w2 ⟨tx2, mr2, vn2, b2, h2, B1, B2, m1, e1, m2, e2, d2, t2, rfl, hv2, hb2⟩; refine Hid.out ?_)
    refine Lib.hid ?_
    clear l0 l1 l2 l3 l4 l5 l6 l7
    have hB2 := HB1.out.trans (hb2.mono HB1.out.size)
    have HB2 := Lib.hid hB2
    have HT2 := Lib.hid (HTX.out w2 hB2 d2 t2 tx2 mr2 vn2 b2 h2 B1 B2 m1 e1 m2 e2 hv2)
    obtain ⟨Y, hY, hYb, hYs, hYc⟩ := box_cells w2 3 tx2 mr2 vn2 b2 h2 (.slice B1 m1 e1) (.slice B2 m2 e2)
    have HF := Lib.hid (extFits_any w2 d2 t2 _ hv2 Y hYb)
    obtain ⟨l0, l1, l2, l3, l4, l5, l6, l7⟩ := box8 (hYc Y (Below.refl _ _))
    have HY := Lib.hid hY
    have HYB := Lib.hid hYb
    have HYC := Lib.hid hYc
    clear hB2 hb2 hv2 hY hYb hYc hYs
    go_upto_region 4 with fail
    rw [HY.out]
    go_wp2_with (go_at_call 9; refine HF.out.mono ?_; rintro e w3 ⟨v, rfl, hf, hb3⟩; refine Hid.out ?_)
    refine Lib.hid ?_
    clear l0 l1 l2 l3 l4 l5 l6 l7
    obtain ⟨l0, l1, l2, l3, l4, l5, l6, l7⟩ := box8 (HYC.out w3 hb3)
    have HB3Y := Lib.hid hb3
    have HB3 := Lib.hid (HYB.out.trans (hb3.mono HYB.out.size))
    clear hb3
    cases v
    · clear hf
      go_wp2_with fail
      go_ret
      exact ⟨rfl, HB2.out.trans (HB3.out.mono HB2.out.size)⟩
    · obtain ⟨S, hS, hs1, hs2⟩ := HT2.out (hf rfl)
      have HS1 := Lib.hid hs1
      have HS2 := Lib.hid hs2
      clear hf hs1 hs2
      go_wp2_with (go_at_call 10; refine (HS1.out _ HB3.out).mono ?_; rintro e w4 ⟨rfl, hb4⟩; refine Hid.out ?_)
      refine Lib.hid ?_
      clear l0 l1 l2 l3 l4 l5 l6 l7
      have hb4Y := HB3Y.out.trans (hb4.mono HB3Y.out.size)
      obtain ⟨l0, l1, l2, l3, l4, l5, l6, l7⟩ := box8 (HYC.out w4 hb4Y)
      have HB4 := Lib.hid (HB3.out.trans (hb4.mono HB3.out.size))
      clear hb4 hb4Y
      go_wp2_with (go_at_call 11; refine (HS2.out _ HB4.out).mono ?_; rintro e w5 ⟨rfl, hb5⟩; have HB5 := Lib.hid (HB4.out.trans (hb5.mono HB4.out.size)); clear hb5)
      go_ret
      exact ⟨rfl, HB2.out.trans (HB5.out.mono HB2.out.size)⟩
end Go.Proofs.YtpfkgpcnhdkkbaaGreatDoor
