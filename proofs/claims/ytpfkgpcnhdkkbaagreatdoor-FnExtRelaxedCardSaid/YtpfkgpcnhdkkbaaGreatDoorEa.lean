import Derived.Test.YtpfkgpcnhdkkbaaGreatDoorEw
import Derived.Maps.AppendAt
import Derived.Lib.UnsafeStr
namespace Go.Proofs.YtpfkgpcnhdkkbaaGreatDoor
open Go.RowKit
set_option linter.unusedVariables false
set_option linter.unusedSimpArgs false

theorem info5 : (Tryz.prog.info? 5).map (fun i => (i.zero, i.size, i.bytes)) = some (some (.int .u8 0), 1, 1) := by kernel_rfl

/-- What a slice of bytes reads as: 'l', from the address on. -/
def RB (w : World) (A : Option Addr) (l : List UInt8) : Prop := 0 < l.length → ∃ ad, A = some ad ∧ ∀ (j : Nat) (b : UInt8), l[j]? = some b → w.cell? (ad.add j) = some (.int .u8 (b.toNat : Int))

set_option maxRecDepth 100000 in
theorem run_append_bytes {W : World} {B : Nat} (ty : TypeId) (v : Value) (xs l : List UInt8) (A : Option Addr) (c : Nat)
    (HO : W.ownsRow B 5 1 v xs.length (Lib.byteCells xs)) (HR : RB W A l) (hbase : B ≤ W.heap.size) (hl : xs.length + l.length ≤ 140737488355328) :
    ∃ v1 w1, (Builtin.append_ #[23, 23] ty #[v, .slice A l.length c]).run Tryz.prog W = .ok v1 w1 ∧ w1.ownsRow B 5 1 v1 (xs ++ l).length (Lib.byteCells (xs ++ l)) ∧ W.grownBy w1 v.ownBlock := by
  obtain ⟨i0, hi, hzz⟩ := Option.map_eq_some_iff.1 info5
  simp only [Prod.mk.injEq] at hzz
  obtain ⟨hz0, hz1, hz2⟩ := hzz
  rcases A with _ | ad
  · have h0 : l = [] := by
      rcases Nat.eq_zero_or_pos l.length with h0 | h0
      · exact List.eq_nil_of_length_eq_zero h0
      · obtain ⟨ad, h, _⟩ := HR h0
        cases h
    subst h0
    refine ⟨v, W, ?_, by simpa using HO, World.grownBy.refl W _⟩
    rcases HO.2 with ⟨rfl, hn⟩ | ⟨g, cap, cur, rfl, _, _, hnc, _⟩
    · simp [Builtin.append_, run_underlying Tryz.underlying23, sizeOf, typeInfo, hi, Builtin.lenOf, Builtin.firstCells]
    · simp [Builtin.append_, run_underlying Tryz.underlying23, sizeOf, typeInfo, hi, Builtin.lenOf, Builtin.firstCells, hnc, storeCells]
  · have hcells : ∀ j u, (Lib.byteCells l)[j]? = some u → W.cell? (ad.add j) = some u := by
      intro j u hu
      simp only [Lib.byteCells, List.getElem?_map, Option.map_eq_some_iff] at hu
      obtain ⟨b, hb, rfl⟩ := hu
      have hlt : j < l.length := by
        rcases Nat.lt_or_ge j l.length with h | h
        · exact h
        · simp [List.getElem?_eq_none h] at hb
      obtain ⟨ad', h', hc⟩ := HR (by omega)
      injection h' with h'
      subst h'
      exact hc j b hb
    obtain ⟨v1, w1, hr, h2, h3, _, _⟩ := run_append_own_at (P := Tryz.prog) W B 23 ty 5 i0 (.int .u8 0) 1 1 Tryz.underlying23 hi hz0 hz1 hz2 rfl (by omega) v xs.length (Lib.byteCells xs) HO ad l.length c (Lib.byteCells l) (by simp [Lib.byteCells]) hcells
      (by intro u hu; simp only [Lib.byteCells, List.mem_map] at hu; obtain ⟨q, _, rfl⟩ := hu; rfl) (by unfold maxLen; omega) (by omega) hbase
    exact ⟨v1, w1, hr, by simpa [Lib.byteCells] using h2, h3⟩

theorem IsEW.buf {g B wb : Nat} {canon esc : Bool} {buf : List UInt8} {modes : List Int} {w : World} (h : IsEW g B wb canon esc buf modes w) : ∃ bv, w.cell? ⟨g, 1, none⟩ = some bv := by
  obtain ⟨hB, bv, sb, len, cap, ms, hg, _⟩ := h
  exact ⟨bv, by rw [blk_cell hg]; rfl⟩
theorem IsEW.grown {g B wb : Nat} {canon esc : Bool} {buf l : List UInt8} {modes : List Int} {w w1 : World} (h : IsEW g B wb canon esc buf modes w) {bv v1 : Value} (hbv : w.cell? ⟨g, 1, none⟩ = some bv)
    (hown : w1.ownsRow B 5 1 v1 (buf ++ l).length (Lib.byteCells (buf ++ l))) (hg1 : w.grownBy w1 bv.ownBlock) :
    w1.cell? ⟨g, 1, none⟩ = some bv ∧ w1.frozen? ⟨g, 1, none⟩ = false ∧ IsEW g B wb canon esc (buf ++ l) modes (w1.setCell ⟨g, 1, none⟩ v1) ∧ EStep B w (w1.setCell ⟨g, 1, none⟩ v1) := by
  obtain ⟨hB, bv', sb, len, cap, ms, hg, hown0, hsB, hs, r⟩ := h
  have hlt := blk_lt hg
  have e : bv = bv' := by
    rw [blk_cell hg] at hbv
    simpa using hbv.symm
  subst e
  have hgg : w1.heap[g]? = _ := (hg1.block g (blk_lt hg) (fun e => own_ne hown0 hg (by decide) e.symm)).trans hg
  have hss : w1.heap[sb]? = _ := (hg1.block sb (blk_lt hs) (fun e => own_ne hown0 hs (by decide) e.symm)).trans hs
  refine ⟨by rw [blk_cell hgg]; rfl, blk_frozen hgg 1, ⟨hB, v1, sb, len, cap, ms, ?_, ?_, hsB, ?_, r⟩, ?_⟩
  · rw [blk_set hgg]
    simp only [List.setIfInBounds_toArray, List.set_cons_succ, List.set_cons_zero]
  · exact ownsRow_of_block hown (fun k hk => Below.heap_setCell _ _ _ k (by rintro rfl; exact own_ne hown hgg (by decide) hk))
  · exact (Below.heap_setCell _ _ _ sb (ne_of_tag hs hg (by decide))).trans hss
  · refine EStep.set ⟨(Below.refl B w).grown hg1 (by omega) (fun k hk => (hown0.lt k hk).1), (EKept.refl w).grown hg1 (fun k hk => ?_)⟩ hgg (by decide) hB 1 v1
    obtain ⟨cur, hc⟩ := own_blk hown0 k hk
    exact ⟨cur, _, hc⟩

/-- 'ejvw.buf = append(ejvw.buf, l...)': the last four operations of such a statement. -/
theorem ew_tail {g B wb : Nat} {canon esc : Bool} {buf : List UInt8} {modes : List Int} {w0 W : World} {ops : Array Oper} {Q : Exit → Act → World → Prop} {a : Act}
    {s x p d1 d2 d3 : Nat} {ty1 ty2 ty3 ty4 : TypeId} {p1 p2 p3 p4 : String} {f1 f2 f3 f4 : Array Edge} {bv : Value} {A : Option Addr} {c m : Nat} (l : List UInt8)
    (hs : a.eval (.tmp s) = bv) (hx : a.eval (.tmp x) = .slice A m c) (hp : a.eval (.tmp p) = .pointer (some ⟨g, 0, none⟩)) (hm : l.length = m)
    {N : Nat} (hN : a.tmps.size = N) (hd : d1 < N ∧ d2 < N ∧ d3 < N ∧ p ≠ d1 ∧ d1 ≠ d2 ∧ d1 ≠ d3)
    (h : IsEW g B wb canon esc buf modes w0) (hbv : w0.cell? ⟨g, 1, none⟩ = some bv) (hb : Below w0.heap.size w0 W) (HR : RB W A l) (hl : buf.length + l.length ≤ 140737488355328)
    (k : ∀ v1 w1, w1.cell? ⟨g, 1, none⟩ = some v1 → Hid (IsEW g B wb canon esc (buf ++ l) modes w1) → Hid (EStep B w0 w1) →
      Q .normal (((a.put (some d1) v1).put (some d2) (.pointer (some ⟨g, 0, none⟩))).put (some d3) (.pointer (some ⟨g, 1, none⟩))) w1) :
    wpList Tryz.prog ops Q [⟨some d1, .call { callee := .builtin .append, args := #[.tmp s, .tmp x], argTypes := #[23, 23] }, ty1, p1, f1, none⟩,
      ⟨some d2, .nilCheck (.tmp p), ty2, p2, f2, none⟩, ⟨some d3, .fieldAddr 104 (.tmp d2) 1, ty3, p3, f3, none⟩, ⟨none, .store 23 (.tmp d3) (.tmp d1), ty4, p4, f4, none⟩] a W := by
  subst hm
  subst hN
  have hs0 : EStep B w0 W := EStep.of_below hb (by have := h.lt; omega)
  replace hbv : W.cell? ⟨g, 1, none⟩ = some bv := (hb.cell (p := ⟨g, 1, none⟩) h.lt.2).trans hbv
  replace h := h.below hb
  have hB : B ≤ W.heap.size := by have := h.lt; omega
  have hown : W.ownsRow B 5 1 bv buf.length (Lib.byteCells buf) := by
    obtain ⟨hB, bv', sb, len, cap, ms, hg, hown0, _⟩ := h
    rw [blk_cell hg] at hbv
    obtain rfl : bv' = bv := by simpa using hbv
    exact hown0
  obtain ⟨v1, w1, hr, hown1, hg1⟩ := run_append_bytes ty1 bv buf l A c hown HR hB hl
  obtain ⟨c1, z1, he, hst⟩ := h.grown hbv hown1 hg1
  have hfa : (Instr.fieldAt 104 (.pointer (some ⟨g, 0, none⟩)) 1).run Tryz.prog w1 = .ok (.pointer (some ⟨g, 1, none⟩)) w1 := by
    simp [go_sem]
  have hsto : (Instr.storeAt 23 (.pointer (some ⟨g, 1, none⟩)) v1).run Tryz.prog w1 = .ok () (w1.setCell ⟨g, 1, none⟩ v1) := by
    rcases hown1.2 with ⟨rfl, _⟩ | ⟨_, _, _, rfl, _⟩ <;> simp [go_sem, c1, z1]
  have hk := k v1 (w1.setCell ⟨g, 1, none⟩ v1) (World.cell?_setCell_same _ _ _ c1) he (hs0.trans hst)
  refine wpList_plain rfl fun K hK => ?_
  unfold Oper.wp execOp
  simp only [resolve, invoke, builtin, Sem.run_bind, Sem.run_pure, Result.andThen_ok, List.map_toArray, List.map_cons, List.map_nil, hs, hx, hr]
  refine hK _ _ ?_
  have e2 : (a.put (some d1) v1).eval (.tmp p) = .pointer (some ⟨g, 0, none⟩) := by
    simp only [Act.eval, Act.put] at hp ⊢
    rw [← hp]
    simp [Array.getD_eq_getD_getElem?, Array.getElem?_setIfInBounds, hd.2.2.2.1.symm]
  have e3 : ((a.put (some d1) v1).put (some d2) (.pointer (some ⟨g, 0, none⟩))).eval (.tmp d2) = .pointer (some ⟨g, 0, none⟩) := by
    simp [Act.eval, Act.put, Array.getD_eq_getD_getElem?, Array.getElem?_setIfInBounds, hd.2.1]
  have e4 : (((a.put (some d1) v1).put (some d2) (.pointer (some ⟨g, 0, none⟩))).put (some d3) (.pointer (some ⟨g, 1, none⟩))).eval (.tmp d3) = .pointer (some ⟨g, 1, none⟩) := by
    simp [Act.eval, Act.put, Array.getD_eq_getD_getElem?, Array.getElem?_setIfInBounds, hd.2.2.1]
  have e5 : (((a.put (some d1) v1).put (some d2) (.pointer (some ⟨g, 0, none⟩))).put (some d3) (.pointer (some ⟨g, 1, none⟩))).eval (.tmp d1) = v1 := by
    simp [Act.eval, Act.put, Array.getD_eq_getD_getElem?, Array.getElem?_setIfInBounds, hd.1, hd.2.2.2.2.1.symm, hd.2.2.2.2.2.symm]
  refine wpList_plain rfl fun K2 hK2 => ?_
  unfold Oper.wp execOp
  simp only [e2, Sem.run_pure]
  refine hK2 _ _ ?_
  refine wpList_plain rfl fun K3 hK3 => ?_
  unfold Oper.wp execOp
  simp only [e3, Sem.run_bind, Sem.run_pure, hfa, Result.andThen_ok]
  refine hK3 _ _ ?_
  refine wpList_plain rfl fun K4 hK4 => ?_
  unfold Oper.wp execOp
  simp only [e4, e5, Sem.run_bind, Sem.run_pure, hsto, Result.andThen_ok]
  refine hK4 _ _ ?_
  refine wpList_nil ?_
  exact hk
end Go.Proofs.YtpfkgpcnhdkkbaaGreatDoor
