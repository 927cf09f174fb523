/- Buffers of bytes: append of whatever row of bytes, nil too; what a buffer reads as. -/
import Derived.Test.YtpfkgpcnhdkkbaaGreatDoorOb
namespace Go.Proofs.YtpfkgpcnhdkkbaaGreatDoor
open Go.RowKit
set_option linter.unusedVariables false
set_option linter.unusedSimpArgs false
set_option maxRecDepth 100000
theorem OB.rb {B : Nat} {v : Value} {l : List UInt8} {W0 w : World} (h : OB B v l W0 w) : ∃ A c, v = .slice A l.length c ∧ RB w A l := by
  obtain ⟨h1, h2⟩ := h.1.1
  rcases h2 with ⟨rfl, hn⟩ | ⟨k, cap, cur, fr, rfl, hg, hh, hfz, hcap, hm, hsz, htake⟩
  · have hl : l = [] := by
      cases l with
      | nil => rfl
      | cons a r => simp at hn
    subst hl
    exact ⟨none, 0, rfl, fun h => by simp at h⟩
  · refine ⟨some ⟨k, 0, none⟩, cap, rfl, fun _ => ⟨_, rfl, fun i b hi => ?_⟩⟩
    have hi' : i < l.length := (List.getElem?_eq_some_iff.1 hi).1
    rw [addr0, blk_cell hh]
    have h3 : (cur.toList.take (l.length * 1))[i]? = (Lib.byteCells l)[i]? := by rw [htake]
    rw [List.getElem?_take, if_pos (by omega), Array.getElem?_toList] at h3
    rw [h3]
    simp [Lib.byteCells, hi]
theorem RB.lat {w w' : World} (h : Below w.heap.size w w') {A : Option Addr} {l : List UInt8} (hr : RB w A l) : RB w' A l := fun hl => by
  obtain ⟨ad, e, hc⟩ := hr hl
  exact ⟨ad, e, fun j b hb => (h.cell (World.block_lt_of_cell? w _ (hc j b hb))).trans (hc j b hb)⟩
theorem run_append_nil {w : World} {B : Nat} {v : Value} {n : Nat} {xs : List Value} (ty : TypeId) (c : Nat) (hown : w.ownsRowF B 5 1 v n xs) :
    (Builtin.append_ #[23, 23] ty #[v, .slice none 0 c]).run Tryz.prog w = .ok v w := by
  obtain ⟨i0, hi, hz0, hz1, hz2⟩ := info_parts info5
  rcases hown.2 with ⟨rfl, h⟩ | ⟨k, cap, cur, fr, rfl, hg, hh, hfz, hnc, r⟩
  · simp [Builtin.append_, run_underlying Tryz.underlying23, sizeOf, typeInfo, hi, Builtin.lenOf, Builtin.firstCells]
  · simp [Builtin.append_, run_underlying Tryz.underlying23, sizeOf, typeInfo, hi, Builtin.lenOf, Builtin.firstCells, hnc, storeCells]
theorem ob_any {ops : Array Oper} {rest : List Oper} {o : Oper} {a : Act} {Q : Exit → Act → World → Prop} (hgd : o.guard = none) (s x : Operand)
    (ho : o.op = .call { callee := .builtin .append, args := #[s, x], argTypes := #[23, 23] })
    {B : Nat} {v : Value} {l : List UInt8} (hs : a.eval s = v) {W0 w : World} (hb : OB B v l W0 w) {A : Option Addr} {c : Nat} (t : List UInt8)
    (hx : a.eval x = .slice A t.length c) (hR : RB w A t) (hlen : l.length + t.length ≤ 140737488355328)
    (h : ∀ v' w', OB B v' (l ++ t) W0 w' → wpList Tryz.prog ops Q rest (a.put o.dst v') w') : wpList Tryz.prog ops Q (o :: rest) a w := by
  rcases Nat.eq_zero_or_pos t.length with h0 | h0
  · have ht : t = [] := List.eq_nil_of_length_eq_zero h0
    subst ht
    rcases A with _ | ad
    · refine wpList_plain hgd fun K hK => ?_
      have hrun := run_append_nil (w := w) o.type c hb.1.1
      unfold Oper.wp execOp
      simp only [ho, resolve, invoke, builtin, Sem.run_bind, Sem.run_pure, Result.andThen_ok, List.map_toArray, List.map_cons, List.map_nil, hs, hx, List.length_nil, hrun]
      exact hK _ _ (h v w (by simpa using hb))
    · exact ob_slice hgd s x ho hs hb [] rfl hx (fun j b hj => by simp at hj) hlen (fun v' w' hb' _ => h v' w' hb')
  · obtain ⟨ad, rfl, hc⟩ := hR h0
    exact ob_slice hgd s x ho hs hb t rfl hx hc hlen (fun v' w' hb' _ => h v' w' hb')
/-- A literal of one byte, just laid, and a row of bytes behind it. -/
theorem ob_front {ops : Array Oper} {rest : List Oper} {o : Oper} {a : Act} {Q : Exit → Act → World → Prop} (hgd : o.guard = none) (s x : Operand)
    (ho : o.op = .call { callee := .builtin .append, args := #[s, x], argTypes := #[23, 23] })
    {B : Nat} {v : Value} {l : List UInt8} {W0 w0 : World} (c : UInt8) (z : Int) (hz : z = (c.toNat : Int)) (hb : OB B v l W0 w0)
    (hs : a.eval s = .slice (some ⟨w0.heap.size, 0, none⟩) 1 1) (hx : a.eval x = v) (hlen : l.length + 1 ≤ 140737488355328)
    (h : ∀ v' w', OB B v' (c :: l) W0 w' → wpList Tryz.prog ops Q rest (a.put o.dst v') w') : wpList Tryz.prog ops Q (o :: rest) a (w0.alloc (.cells #[.int .u8 z] 5)) := by
  subst hz
  obtain ⟨A, cap, rfl, hr⟩ := hb.rb
  have hL := OB.lit w0 [c] (by simp) (by simp)
  refine ob_any hgd s x ho hs (W0 := w0) hL l hx (hr.lat (below_allocB w0 _)) (by simp; omega) (fun v' w' hb' => h v' w' ?_)
  have h1 := hb'.low hb.base
  exact h1.since hb.below hb.kept
end Go.Proofs.YtpfkgpcnhdkkbaaGreatDoor
