import Derived.Test.YtpfkgpcnhdkkbaaGreatDoorABase
import Derived.Laws.CopyOwn
import Derived.Deep.OwnRows
namespace Go.Proofs.YtpfkgpcnhdkkbaaGreatDoor
open Go.RowKit
set_option linter.unusedVariables false
set_option linter.unusedSimpArgs false

theorem blk_lt {w : World} {g : Nat} {o : Obj} (h : w.heap[g]? = some o) : g < w.heap.size := (Array.getElem?_eq_some_iff.1 h).1
theorem blk_cell {w : World} {g : Nat} {t : TypeId} {cs : Array Value} {fr : Nat × Nat} (h : w.heap[g]? = some (.cells cs t fr)) (i : Nat) : w.cell? ⟨g, i, none⟩ = cs[i]? := by simp [World.cell?, h]
theorem blk_frozen {w : World} {g : Nat} {t : TypeId} {cs : Array Value} (h : w.heap[g]? = some (.cells cs t (0, 0))) (i : Nat) : w.frozen? ⟨g, i, none⟩ = false := by simp [World.frozen?, h]
theorem blk_set {w : World} {g : Nat} {t : TypeId} {cs : Array Value} {fr : Nat × Nat} (h : w.heap[g]? = some (.cells cs t fr)) (i : Nat) (u : Value) : (w.setCell ⟨g, i, none⟩ u).heap[g]? = some (.cells (cs.setIfInBounds i u) t fr) := by
 simp [World.setCell, Array.getElem?_modify, h]
def EKept (w w' : World) : Prop := ∀ (k : Nat) (o : Obj), w.heap[k]? = some o → (∀ c e fz, o = Obj.cells c e fz → e ≠ 5 ∧ e ≠ 101 ∧ e ≠ 104) → w'.heap[k]? = some o
theorem EKept.refl (w : World) : EKept w w := fun _ _ h _ => h
theorem EKept.trans {a b c : World} (h : EKept a b) (k : EKept b c) : EKept a c := fun i o hi ho => k i o (h i o hi ho) ho
theorem EKept.of_below {w w' : World} (h : Below w.heap.size w w') : EKept w w' := fun i o hi _ => (h.block i (blk_lt hi)).trans hi
theorem EKept.grown {w w1 w2 : World} {row : Option Nat} (h : EKept w w1) (hg : w1.grownBy w2 row) (hr : ∀ k, row = some k → ∃ c fz, w1.heap[k]? = some (.cells c 5 fz)) : EKept w w2 := by
 intro k o hk ho
 have h1 := h k o hk ho
 refine (hg.block k (blk_lt h1) ?_).trans h1
 intro e
 obtain ⟨c, fz, hc⟩ := hr k e.symm
 rw [h1] at hc
 exact (ho _ _ _ (Option.some.inj hc)).1 rfl

def IsEW (g B wb : Nat) (canon esc : Bool) (buf : List UInt8) (modes : List Int) (w : World) : Prop :=
 B ≤ g ∧ ∃ (bv : Value) (sb len cap : Nat) (ms : List Int),
  w.heap[g]? = some (.cells #[.iface 67 (.pointer (some ⟨wb, 0, none⟩)), bv, .slice (some ⟨sb, 0, none⟩) len cap, .int .i64 ((modes.length - 1 : Nat) : Int), .bool canon, .bool esc, .bool true] 104 (0, 0)) ∧
  w.ownsRow B 5 1 bv buf.length (Lib.byteCells buf) ∧ B ≤ sb ∧ w.heap[sb]? = some (.cells (ms.map (Value.int .i64)).toArray 101 (0, 0)) ∧
  ms.length = cap ∧ len ≤ cap ∧ len ≤ 1000 ∧ cap ≤ 5000 ∧ 0 < modes.length ∧ modes.length ≤ len ∧ (∀ i, i < modes.length → ms[i]? = modes[i]?)

theorem ownsRow_of_block {w w' : World} {base : Nat} {e : TypeId} {size : Nat} {v : Value} {n : Nat} {xs : List Value} (h : w.ownsRow base e size v n xs)
  (hb : ∀ k, v.ownBlock = some k → w'.heap[k]? = w.heap[k]?) : w'.ownsRow base e size v n xs := by
 obtain ⟨h1, h2⟩ := h
 refine ⟨h1, ?_⟩
 rcases h2 with h2 | ⟨k, cap, cur, rfl, hg, hh, r⟩
 ·exact .inl h2
 ·exact .inr ⟨k, cap, cur, rfl, hg, by rw [hb k rfl]; exact hh, r⟩
theorem own_lt {w : World} {base : Nat} {e : TypeId} {size : Nat} {v : Value} {n : Nat} {xs : List Value} (h : w.ownsRow base e size v n xs) : ∀ k, v.ownBlock = some k → k < w.heap.size := fun k hk => (h.lt k hk).2

theorem madeCells_int (k : IntKind) (c : Nat) : madeCells #[.int k 0] c = ((List.replicate c (0 : Int)).map (Value.int k)).toArray := by
 apply Array.ext
 ·simp [madeCells]
 ·intro i h1 h2
  simp [madeCells, Nat.mod_one]
theorem below_dr (w : World) (n : Nat) : Below w.heap.size w (w.drewN n) := ⟨rfl, rfl, rfl, Nat.le_refl _, fun _ _ => rfl⟩
def EStep (B : Nat) (w w' : World) : Prop := Below B w w' ∧ EKept w w'
end Go.Proofs.YtpfkgpcnhdkkbaaGreatDoor
