/- A buffer of bytes that a call owns, carried from append to append; what it reads as, as a string. -/
import Derived.Test.YtpfkgpcnhdkkbaaGreatDoorAGs
import Derived.Test.YtpfkgpcnhdkkbaaGreatDoorAEa
import Derived.Lib.BufSteps
import Derived.Lib.BufferRead
namespace Go.Proofs.YtpfkgpcnhdkkbaaGreatDoor
open Go.RowKit
set_option linter.unusedVariables false
set_option linter.unusedSimpArgs false
set_option maxRecDepth 100000
def OB (B : Nat) (v : Value) (l : List UInt8) (W0 w : World) : Prop := Lib.OwnBuf B 5 v l.length (Lib.byteCells l) W0 w ∧ EKept W0 w
theorem addr0 (g j : Nat) : (⟨g, 0, none⟩ : Addr).add j = ⟨g, j, none⟩ := by
 unfold Addr.add
 split
 ·rename_i h; subst h; rfl
 ·simp
theorem bc_len (l : List UInt8) : (Lib.byteCells l).length = l.length := by simp [Lib.byteCells]
theorem OB.below {B : Nat} {v : Value} {l : List UInt8} {W0 w : World} (h : OB B v l W0 w) : Below B W0 w := h.1.2.1
theorem OB.kept {B : Nat} {v : Value} {l : List UInt8} {W0 w : World} (h : OB B v l W0 w) : EKept W0 w := h.2
theorem OB.base {B : Nat} {v : Value} {l : List UInt8} {W0 w : World} (h : OB B v l W0 w) : B ≤ w.heap.size := h.1.2.2
theorem OB.nil {w : World} {B : Nat} (hB : B ≤ w.heap.size) : OB B (.slice none 0 0) [] w w := ⟨⟨World.ownsRowF_nil w B 5 1, Below.refl _ _, hB⟩, EKept.refl _⟩
theorem OB.later {B : Nat} {v : Value} {l : List UInt8} {W0 w w' : World} (h : OB B v l W0 w) (hb : Below w.heap.size w w') : OB B v l W0 w' := by
 obtain ⟨⟨⟨h1, h2⟩, h3, h4⟩, h5⟩ := h
 refine ⟨⟨⟨h1, ?_⟩, h3.trans (hb.mono h4), Nat.le_trans h4 hb.size⟩, h5.trans (EKept.of_below hb)⟩
 rcases h2 with h2 | ⟨k, cap, cur, fr, hv, hg, hh, r⟩
 ·exact .inl h2
 ·exact .inr ⟨k, cap, cur, fr, hv, hg, (hb.block k (blk_lt hh)).trans hh, r⟩
theorem OB.alloc {B : Nat} {v : Value} {l : List UInt8} {W0 w : World} (h : OB B v l W0 w) (o : Obj) : OB B v l W0 (w.alloc o) := h.later (below_allocB w o)
theorem OB.drewN {B : Nat} {v : Value} {l : List UInt8} {W0 w : World} (h : OB B v l W0 w) (q : Nat) : OB B v l W0 (w.drewN q) := h.later (below_dr _ _)
theorem OB.here {B : Nat} {v : Value} {l : List UInt8} {W0 w : World} (h : OB B v l W0 w) : OB B v l w w := ⟨⟨h.1.1, Below.refl _ _, h.1.2.2⟩, EKept.refl _⟩
theorem OB.since {B : Nat} {v : Value} {l : List UInt8} {W0 W1 w : World} (h : OB B v l W1 w) (hb : Below B W0 W1) (hk : EKept W0 W1) : OB B v l W0 w := ⟨⟨h.1.1, hb.trans h.1.2.1, h.1.2.2⟩, hk.trans h.2⟩
theorem OB.low {B B' : Nat} {v : Value} {l : List UInt8} {W0 w : World} (h : OB B v l W0 w) (hB : B' ≤ B) : OB B' v l W0 w := by
 obtain ⟨⟨⟨h1, h2⟩, h3, h4⟩, h5⟩ := h
 refine ⟨⟨⟨h1, ?_⟩, h3.mono hB, Nat.le_trans hB h4⟩, h5⟩
 rcases h2 with h2 | ⟨k, cap, cur, fr, hv, hg, r⟩
 ·exact .inl h2
 ·exact .inr ⟨k, cap, cur, fr, hv, Nat.le_trans hB hg, r⟩
theorem OB.grow {B : Nat} {v v' : Value} {l l' : List UInt8} {W0 w w' : World} (h : OB B v l W0 w) (ho : w'.ownsRowF B 5 1 v' l'.length (Lib.byteCells l')) (hg : w.grownBy w' v.ownBlock) : OB B v' l' W0 w' := by
 refine ⟨Lib.OwnBuf.grown h.1 ho hg, h.2.grown hg (fun k hk => ?_)⟩
 obtain ⟨⟨⟨h1, h2⟩, h3, h4⟩, h5⟩ := h
 rcases h2 with ⟨rfl, _⟩ | ⟨k', cap, cur, fr, rfl, hg', hh, r⟩
 ·cases hk
 ·simp only [Value.ownBlock, Option.some.injEq] at hk
  subst hk
  exact ⟨cur, fr, hh⟩
theorem byteCells_app (a b : List UInt8) : Lib.byteCells (a ++ b) = Lib.byteCells a ++ Lib.byteCells b := by simp [Lib.byteCells]
theorem OB.lit (w : World) (l : List UInt8) (hl : 0 < l.length) (hm : l.length ≤ 1000000) : OB w.heap.size (.slice (some ⟨w.heap.size, 0, none⟩) l.length l.length) l w (w.alloc (.cells (Lib.byteCells l).toArray 5)) := by
 refine ⟨⟨⟨by rw [bc_len]; simp, .inr ⟨w.heap.size, l.length, _, (0, 0), rfl, Nat.le_refl _, heap_alloc_new w _, Nat.zero_le _, Nat.le_refl _, by unfold maxLen; omega, ?_, ?_⟩⟩, below_allocB w _, ?_⟩, EKept.of_below (below_allocB w _)⟩
 ·simp [Lib.byteCells]
 ·simp [Lib.byteCells, List.take_of_length_le]
 ·show w.heap.size ≤ (w.heap.push _).size; rw [Array.size_push]; omega
theorem OB.made (w : World) (c : Nat) (cur : Array Value) (hc : cur.size = c) (hm : c ≤ 1000000) : OB w.heap.size (.slice (some ⟨w.heap.size, 0, none⟩) 0 c) [] w (w.alloc (.cells cur 5)) := by
 refine ⟨⟨⟨by simp [Lib.byteCells], .inr ⟨w.heap.size, c, _, (0, 0), rfl, Nat.le_refl _, heap_alloc_new w _, Nat.zero_le _, Nat.zero_le _, by unfold maxLen; omega, ?_, ?_⟩⟩, below_allocB w _, ?_⟩, EKept.of_below (below_allocB w _)⟩
 ·simp [hc]
 ·simp [Lib.byteCells]
 ·show w.heap.size ≤ (w.heap.push _).size; rw [Array.size_push]; omega
theorem ob_slice {ops : Array Oper} {rest : List Oper} {o : Oper} {a : Act} {Q : Exit → Act → World → Prop} (hgd : o.guard = none) (s x : Operand)
  (ho : o.op = .call { callee := .builtin .append, args := #[s, x], argTypes := #[23, 23] })
  {B : Nat} {v : Value} {l : List UInt8} (hs : a.eval s = v) {W0 w : World} (hb : OB B v l W0 w) {ad : Addr} {m c : Nat} (t : List UInt8) (hm : t.length = m)
  (hx : a.eval x = .slice (some ad) m c) (hR : ∀ (j : Nat) (b : UInt8), t[j]? = some b → w.cell? (ad.add j) = some (.int .u8 (b.toNat : Int))) (hlen : l.length + t.length ≤ 140737488355328)
  (h : ∀ v' w', OB B v' (l ++ t) W0 w' → w.grownBy w' v.ownBlock → wpList Tryz.prog ops Q rest (a.put o.dst v') w') : wpList Tryz.prog ops Q (o :: rest) a w := by
 obtain ⟨i0, hi, hz0, hz1, hz2⟩ := info_parts info5
 refine wpList_append_ownF _ hgd s x 23 ho B 5 i0 (.int .u8 0) 1 1 Tryz.underlying23 hi hz0 hz1 hz2 rfl (by decide) v l.length (Lib.byteCells l) hs hb.1.1 ad m c (Lib.byteCells t) hx (by rw [bc_len, hm]; omega) ?_ ?_ (by unfold maxLen; omega) (by omega) hb.1.2.2 ?_
 ·intro j u hj
  simp only [Lib.byteCells, List.getElem?_map, Option.map_eq_some_iff] at hj
  obtain ⟨b, hb', rfl⟩ := hj
  exact hR j b hb'
 ·intro u hu
  simp only [Lib.byteCells, List.mem_map] at hu
  obtain ⟨q, _, rfl⟩ := hu
  rfl
 ·intro v' w' ho' hg _
  refine h v' w' (hb.grow ?_ hg) hg
  rw [byteCells_app, List.length_append]
  subst hm
  exact ho'
theorem ob_byte {ops : Array Oper} {rest : List Oper} {o : Oper} {a : Act} {Q : Exit → Act → World → Prop} (hgd : o.guard = none) (s x : Operand)
  (ho : o.op = .call { callee := .builtin .append, args := #[s, x], argTypes := #[23, 23] })
  {B : Nat} {v : Value} {l : List UInt8} (hs : a.eval s = v) {W0 w0 : World} (c : UInt8) (z : Int) (hz : z = (c.toNat : Int)) (hb : OB B v l W0 w0)
  (hx : a.eval x = .slice (some ⟨w0.heap.size, 0, none⟩) 1 1) (hlen : l.length + 1 ≤ 140737488355328)
  (h : ∀ v' w', OB B v' (l ++ [c]) W0 w' → wpList Tryz.prog ops Q rest (a.put o.dst v') w') : wpList Tryz.prog ops Q (o :: rest) a (w0.alloc (.cells #[.int .u8 z] 5)) := by
 subst hz
 refine ob_slice hgd s x ho hs (hb.alloc _) [c] rfl hx ?_ hlen (fun v' w' hb' _ => h v' w' hb')
 intro j b hj
 rw [addr0, blk_cell (heap_alloc_new w0 _)]
 match j, hj with
 | 0, hj => simp at hj; subst hj; rfl
 | j + 1, hj => simp at hj
theorem ob_text {ops : Array Oper} {rest : List Oper} {o : Oper} {a : Act} {Q : Exit → Act → World → Prop} (hgd : o.guard = none) (s x : Operand)
  (ho : o.op = .call { callee := .builtin .append, args := #[s, x], argTypes := #[23, 9] })
  {B : Nat} {v : Value} {l : List UInt8} (hs : a.eval s = v) {W0 w0 : World} (t : ByteArray) (hb : OB B v l W0 w0)
  (hx : a.eval x = .string t) (hlen : l.length + t.size ≤ 140737488355328)
  (h : ∀ v' w', OB B v' (l ++ t.data.toList) W0 w' → wpList Tryz.prog ops Q rest (a.put o.dst v') w') : wpList Tryz.prog ops Q (o :: rest) a w0 := by
 obtain ⟨i0, hi, hz0, hz1, hz2⟩ := info_parts info5
 refine Lib.wpList_append_own_stringF w0 hgd s x 23 9 ho B 5 i0 Tryz.underlying23 Tryz.underlying9 hi hz0 hz1 hz2 v l.length (Lib.byteCells l) hs hb.1.1 t hx (by unfold maxLen; omega) hlen hb.1.2.2 ?_
 intro v' w' ho' hg _
 refine h v' w' (hb.grow ?_ hg)
 rw [byteCells_app, List.length_append]
 exact ho'
theorem ob_two {ops : Array Oper} {rest : List Oper} {o : Oper} {a : Act} {Q : Exit → Act → World → Prop} (hgd : o.guard = none) (s x : Operand)
  (ho : o.op = .call { callee := .builtin .append, args := #[s, x], argTypes := #[23, 23] })
  {B : Nat} {v : Value} {l : List UInt8} (hs : a.eval s = v) {W0 w0 : World} (c d : UInt8) (z y : Int) (hz : z = (c.toNat : Int)) (hy : y = (d.toNat : Int)) (hb : OB B v l W0 w0)
  (hx : a.eval x = .slice (some ⟨w0.heap.size, 0, none⟩) 2 2) (hlen : l.length + 2 ≤ 140737488355328)
  (h : ∀ v' w', OB B v' (l ++ [c, d]) W0 w' → wpList Tryz.prog ops Q rest (a.put o.dst v') w') : wpList Tryz.prog ops Q (o :: rest) a (w0.alloc (.cells #[.int .u8 z, .int .u8 y] 5)) := by
 subst hz
 subst hy
 refine ob_slice hgd s x ho hs (hb.alloc _) [c, d] rfl hx ?_ hlen (fun v' w' hb' _ => h v' w' hb')
 intro j b hj
 rw [addr0, blk_cell (heap_alloc_new w0 _)]
 match j, hj with
 | 0, hj => simp at hj; subst hj; rfl
 | 1, hj => simp at hj; subst hj; rfl
 | j + 2, hj => simp at hj
theorem OB.str {B : Nat} {v : Value} {l : List UInt8} {W0 w : World} (h : OB B v l W0 w) : (convert 23 9 v).run Tryz.prog w = .ok (.string ⟨l.toArray⟩) w := by
 obtain ⟨h1, h2⟩ := h.1.1
 rcases h2 with ⟨rfl, hn⟩ | ⟨k, cap, cur, fr, rfl, hg, hh, hfz, hcap, hm, hsz, htake⟩
 ·rw [List.length_eq_zero_iff.1 hn]
  exact Lib.run_convert_nil_bytes w 23 9 5 0 Tryz.underlying23 Tryz.underlying5 Tryz.underlying9
 ·refine Lib.run_convert_whole (P := Tryz.prog) w 23 5 9 Tryz.underlying23 Tryz.underlying5 Tryz.underlying9 k 0 ⟨l.toArray⟩ ?_ cap
  intro i hi
  have hi' : i < l.length := by simpa [ByteArray.size] using hi
  rw [Nat.zero_add, blk_cell hh]
  have h3 : (cur.toList.take (l.length * 1))[i]? = (Lib.byteCells l)[i]? := by rw [htake]
  rw [List.getElem?_take, if_pos (by omega), Array.getElem?_toList] at h3
  rw [h3]
  simp [Lib.byteCells, List.getElem?_eq_getElem hi']
  rfl
end Go.Proofs.YtpfkgpcnhdkkbaaGreatDoor
