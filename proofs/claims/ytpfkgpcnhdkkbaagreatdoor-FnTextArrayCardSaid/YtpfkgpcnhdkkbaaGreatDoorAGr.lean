/- From the row's list of variables to the tables that the walks read; no condition. -/
import Derived.Test.YtpfkgpcnhdkkbaaGreatDoorATabs
import Derived.Test.YtpfkgpcnhdkkbaaGreatDoorRows
import Derived.Lib.LaidU8T
namespace Go.Proofs.YtpfkgpcnhdkkbaaGreatDoor
open Go.RowKit Go.Lib
set_option linter.unusedVariables false
set_option maxRecDepth 100000
theorem bools_of {w : World} {name : String} {g t : Nat} {n : Nat} {ds : List (DataW Unit)} (hg : Tryz.prog.globalNamed name = some g) (hty : (Tryz.prog.globals[g]?).map (·.type) = some t) (ht : Tryz.prog.underlying t = some (.array n 4))
  (h : VarReads Tryz.prog w name (.agg ds)) (i : Nat) (hi : i < n) (b : Bool) (hb : ds[i]? = some (.lit (.bool b))) : w.cell? ⟨g, i, none⟩ = some (.bool b) := by
 obtain ⟨g', t', cs, fuel, p, hg', hty', hvar, hd⟩ := h
 obtain rfl := Option.some.inj (hg.symm.trans hg')
 obtain rfl := Option.some.inj (hty.symm.trans hty')
 obtain ⟨fuel', d, q, hdi, he⟩ := array_elem ht hd i hi
 rw [hb] at hdi
 injection hdi with hdi
 subst hdi
 rw [show Tryz.prog.cellsOf 4 = 1 from by kernel_rfl] at he
 obtain ⟨b', hc, hx⟩ := DataW.trod_bool Tryz.underlying4 he
 simp only [Prod.mk.injEq, DataW.lit.injEq, Lit.bool.injEq] at hx
 obtain ⟨rfl, _⟩ := hx
 have h1 := congrArg (·[0]?) hc
 rw [World.var?_cell hg hvar i, ← Array.getElem?_toList]
 simpa [List.getElem?_take, List.getElem?_drop] using h1
theorem u199 : Tryz.prog.underlying 199 = some (.array 128 4) := Tryz.underlying199
theorem u336 : Tryz.prog.underlying 336 = some (.array 696 335) := Tryz.underlying336
def setData (esc : Bool) : DataW Unit := .agg ((List.range 128).map fun i => .lit (.bool (safeB esc i)))
theorem set_of {w : World} {name : String} {g : Nat} (esc : Bool) (hg : Tryz.prog.globalNamed name = some g) (hty : (Tryz.prog.globals[g]?).map (·.type) = some 199) (h : VarReads Tryz.prog w name (setData esc)) :
  ∀ b : Nat, b < 128 → w.cell? ⟨g, b, none⟩ = some (.bool (safeB esc b)) := fun b hb =>
 bools_of hg hty u199 h b hb (safeB esc b) (by simp [List.getElem?_map, List.getElem?_range hb])
theorem pairs_of {w : World} (h : VarReads Tryz.prog w "internal/strconv.pow10Tab" Go.Pinned.pow10Tab) (i : Nat) (hi : i < 696) :
  w.cell? ⟨15, 2 * i, none⟩ = some (.int .u64 ((pRow i).1 : Int)) ∧ w.cell? ⟨15, 2 * i + 1, none⟩ = some (.int .u64 ((pRow i).2 : Int)) := by
 obtain ⟨g', t', cs, fuel, p, hg', hty', hvar, hd⟩ := h
 obtain rfl := Option.some.inj ((show Tryz.prog.globalNamed "internal/strconv.pow10Tab" = some 15 by kernel_rfl).symm.trans hg')
 obtain rfl := Option.some.inj ((show (Tryz.prog.globals[15]?).map (·.type) = some 336 by kernel_rfl).symm.trans hty')
 obtain ⟨fuel', d, q, hdi, he⟩ := array_elem u336 hd i hi
 have hl : i < Go.Pinned.pow10Rows.length := Nat.lt_of_lt_of_eq hi (by decide +kernel)
 have hr : Go.Pinned.pow10Rows[i]? = some (pRow i) := by unfold pRow; rw [List.getD_eq_getElem?_getD, List.getElem?_eq_getElem hl]; rfl
 rw [List.getElem?_map, hr] at hdi
 simp only [Option.map_some, Option.some.injEq] at hdi
 subst hdi
 rw [show Tryz.prog.cellsOf 335 = 2 from by kernel_rfl] at he
 have hcs := ints_of_struct (zs := [((pRow i).1 : Int), ((pRow i).2 : Int)]) Tryz.underlying335 (fun j f hj => by
  match j, hj with
  | 0, hj => simp at hj; subst hj; exact ⟨Tryz.underlying22, rfl, by kernel_rfl⟩
  | 1, hj => simp at hj; subst hj; exact ⟨Tryz.underlying22, rfl, by kernel_rfl⟩
  | j + 2, hj => simp at hj) (by kernel_rfl) he
 have e0 := congrArg (·[0]?) hcs
 have e1 := congrArg (·[1]?) hcs
 simp only [List.getElem?_take, List.getElem?_drop] at e0 e1
 constructor
 ·rw [World.var?_cell hg' hvar (2 * i), ← Array.getElem?_toList]
  simpa [Nat.mul_comm] using e0
 ·rw [World.var?_cell hg' hvar (2 * i + 1), ← Array.getElem?_toList]
  simpa [Nat.mul_comm] using e1
theorem u8_of {w : World} (h3 : VarReads Tryz.prog w "unicode/utf8.first" Go.Pinned.utf8First) (h4 : VarReads Tryz.prog w "unicode/utf8.acceptRanges" Rows.laid_unicode_utf8_acceptRanges) : Lib.Utf8Tabs 11 12 w := by
 have e3 : Go.Pinned.utf8First = firstData := by kernel_rfl
 have e4 : (Rows.laid_unicode_utf8_acceptRanges : DataW Unit) = acceptData := by kernel_rfl
 rw [e3] at h3
 rw [e4] at h4
 refine ⟨fun c hc => ?_, fun i hi => ?_⟩
 ·obtain ⟨g, t, cs, fuel, p, hg, hty, hvar, hd⟩ := h3
  obtain rfl := Option.some.inj ((show Tryz.prog.globalNamed "unicode/utf8.first" = some 11 by kernel_rfl).symm.trans hg)
  obtain rfl := Option.some.inj ((show (Tryz.prog.globals[11]?).map (·.type) = some 293 by kernel_rfl).symm.trans hty)
  have hcs := cells_of_tab Tryz.underlying293 Tryz.underlying5 (by kernel_rfl) (by kernel_rfl) hd
  have := World.var?_cell hg hvar c
  rw [this, ← Array.getElem?_toList, hcs]
  simp [firstTab, hc]
 ·obtain ⟨g, t, cs, fuel, p, hg, hty, hvar, hd⟩ := h4
  obtain rfl := Option.some.inj ((show Tryz.prog.globalNamed "unicode/utf8.acceptRanges" = some 12 by kernel_rfl).symm.trans hg)
  obtain rfl := Option.some.inj ((show (Tryz.prog.globals[12]?).map (·.type) = some 319 by kernel_rfl).symm.trans hty)
  obtain ⟨fuel', d, q, hdi, he⟩ := array_elem Tryz.underlying319 hd i hi
  simp only [List.getElem?_map, List.getElem?_range hi, Option.map_some, Option.some.injEq] at hdi
  subst hdi
  rw [show Tryz.prog.cellsOf 318 = 2 from by kernel_rfl] at he
  have hcs := ints_of_struct Tryz.underlying318 (fun j f hj => by
   match j, hj with
   | 0, hj => simp at hj; subst hj; exact ⟨Tryz.underlying5, rfl, by kernel_rfl⟩
   | 1, hj => simp at hj; subst hj; exact ⟨Tryz.underlying5, rfl, by kernel_rfl⟩
   | j + 2, hj => simp at hj) (by kernel_rfl) he
  have e0 := congrArg (·[0]?) hcs
  have e1 := congrArg (·[1]?) hcs
  simp only [List.getElem?_take, List.getElem?_drop] at e0 e1
  constructor
  ·rw [World.var?_cell hg hvar (2 * i), ← Array.getElem?_toList]
   simpa [Nat.mul_comm] using e0
  ·rw [World.var?_cell hg hvar (2 * i + 1), ← Array.getElem?_toList]
   simpa [Nat.mul_comm] using e1
theorem p10_of {w : World} (h : VarReads Tryz.prog w "internal/strconv.uint64pow10" Rows.laid_internal_strconv_uint64pow10) : Lib.TabIs Tryz.prog w "internal/strconv.uint64pow10" .u64 Lib.pow10Tab := by
 have e : (Rows.laid_internal_strconv_uint64pow10 : DataW Unit) = tabData .u64 Lib.pow10Tab := by kernel_rfl
 rw [e] at h
 obtain ⟨g', t', cs, fuel, p, hg', ht', hvar, hd⟩ := h
 obtain rfl := Option.some.inj (global_pow10.symm.trans hg')
 obtain rfl := Option.some.inj ((show (Tryz.prog.globals[2]?).map (·.type) = some 193 by kernel_rfl).symm.trans ht')
 unfold TabIs
 rw [hvar, ← cells_of_tab Tryz.underlying193 Tryz.underlying22 (by kernel_rfl) (by kernel_rfl) hd]
theorem size_of {w : World} (h : VarReads Tryz.prog w "internal/strconv.leftcheats" Go.Pinned.leftcheats) : 17 ≤ w.heap.size := by
 obtain ⟨g', t', cs, fuel, p, hg', ht', hvar, hd⟩ := h
 obtain rfl := Option.some.inj ((show Tryz.prog.globalNamed "internal/strconv.leftcheats" = some 16 by kernel_rfl).symm.trans hg')
 unfold World.var? at hvar
 rw [hg'] at hvar
 simp only [Option.bind_some] at hvar
 refine Classical.byContradiction fun hn => ?_
 rw [show w.heap[16]? = none from Array.getElem?_eq_none (by omega)] at hvar
 simp at hvar
open Go.RowKit Go.Lib
theorem tabs_textArray {w : World} (h : laidMet Tryz.prog Rows.fnTextArrayRow.laid w) : TabX w ∧ 17 ≤ w.heap.size := by
 refine ⟨⟨⟨u8_of (Lib.laidMet.reads h (by simp [Rows.fnTextArrayRow, Rows.laid_unicode_utf8_first])) (Lib.laidMet.reads h (by simp [Rows.fnTextArrayRow])), p10_of (Lib.laidMet.reads h (by simp [Rows.fnTextArrayRow])), pairs_of (Lib.laidMet.reads h (by simp [Rows.fnTextArrayRow, Rows.laid_internal_strconv_pow10Tab]))⟩, ?_, ?_⟩, size_of (Lib.laidMet.reads h (by simp [Rows.fnTextArrayRow, Rows.laid_internal_strconv_leftcheats]))⟩
 ·refine set_of (name := "pub-gunnysack/pub/bsoncore.htmlSafeSet") true (by kernel_rfl) (by kernel_rfl) ?_
  rw [show setData true = Rows.laid_pub_gunnysack_pub_bsoncore_htmlSafeSet from by kernel_rfl]
  exact Lib.laidMet.reads h (by simp [Rows.fnTextArrayRow])
 ·refine set_of (name := "pub-gunnysack/pub/bsoncore.safeSet") false (by kernel_rfl) (by kernel_rfl) ?_
  rw [show setData false = Rows.laid_pub_gunnysack_pub_bsoncore_safeSet from by kernel_rfl]
  exact Lib.laidMet.reads h (by simp [Rows.fnTextArrayRow])
end Go.Proofs.YtpfkgpcnhdkkbaaGreatDoor
