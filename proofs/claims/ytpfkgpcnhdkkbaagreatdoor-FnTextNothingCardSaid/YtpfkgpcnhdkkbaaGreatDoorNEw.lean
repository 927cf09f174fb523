import Derived.Test.YtpfkgpcnhdkkbaaGreatDoorNBase
import Derived.Laws.CopyOwn
import Derived.Deep.OwnRows
namespace Go.Proofs.YtpfkgpcnhdkkbaaGreatDoor
open Go.RowKit
set_option linter.unusedVariables false
set_option linter.unusedSimpArgs false

/-! ### a block known whole -/
theorem blk_lt {w : World} {g : Nat} {o : Obj} (h : w.heap[g]? = some o) : g < w.heap.size := (Array.getElem?_eq_some_iff.1 h).1
theorem blk_cell {w : World} {g : Nat} {t : TypeId} {cs : Array Value} {fr : Nat × Nat} (h : w.heap[g]? = some (.cells cs t fr)) (i : Nat) : w.cell? ⟨g, i, none⟩ = cs[i]? := by simp [World.cell?, h]
theorem blk_frozen {w : World} {g : Nat} {t : TypeId} {cs : Array Value} (h : w.heap[g]? = some (.cells cs t (0, 0))) (i : Nat) : w.frozen? ⟨g, i, none⟩ = false := by simp [World.frozen?, h]
theorem blk_set {w : World} {g : Nat} {t : TypeId} {cs : Array Value} {fr : Nat × Nat} (h : w.heap[g]? = some (.cells cs t fr)) (i : Nat) (u : Value) : (w.setCell ⟨g, i, none⟩ u).heap[g]? = some (.cells (cs.setIfInBounds i u) t fr) := by
  simp [World.setCell, Array.getElem?_modify, h]
/-- Every block that is no row of bytes, no stack of modes and no writer of extended JSON stands as it stood. -/
def EKept (w w' : World) : Prop := ∀ (k : Nat) (o : Obj), w.heap[k]? = some o → (∀ c e fz, o = Obj.cells c e fz → e ≠ 5 ∧ e ≠ 101 ∧ e ≠ 104) → w'.heap[k]? = some o
theorem EKept.refl (w : World) : EKept w w := fun _ _ h _ => h
theorem EKept.trans {a b c : World} (h : EKept a b) (k : EKept b c) : EKept a c := fun i o hi ho => k i o (h i o hi ho) ho
theorem EKept.of_below {w w' : World} (h : Below w.heap.size w w') : EKept w w' := fun i o hi _ => (h.block i (blk_lt hi)).trans hi
theorem EKept.drewN {w w' : World} (h : EKept w w') (n : Nat) : EKept w (w'.drewN n) := h
theorem EKept.set {w w' : World} (h : EKept w w') {g : Nat} {cs : Array Value} {e : TypeId} {fr : Nat × Nat} (hg : w'.heap[g]? = some (.cells cs e fr)) (he : e = 5 ∨ e = 101 ∨ e = 104) (i : Nat) (u : Value) : EKept w (w'.setCell ⟨g, i, none⟩ u) := by
  intro k o hk ho
  have h1 := h k o hk ho
  by_cases hkg : k = g
  · subst hkg
    rw [hg] at h1
    obtain ⟨n1, n2, n3⟩ := ho _ _ _ (Option.some.inj h1).symm
    rcases he with he | he | he <;> contradiction
  · exact (Below.heap_setCell w' _ u k hkg).trans h1
theorem EKept.grown {w w1 w2 : World} {row : Option Nat} (h : EKept w w1) (hg : w1.grownBy w2 row) (hr : ∀ k, row = some k → ∃ c fz, w1.heap[k]? = some (.cells c 5 fz)) : EKept w w2 := by
  intro k o hk ho
  have h1 := h k o hk ho
  refine (hg.block k (blk_lt h1) ?_).trans h1
  intro e
  obtain ⟨c, fz, hc⟩ := hr k e.symm
  rw [h1] at hc
  exact (ho _ _ _ (Option.some.inj hc)).1 rfl

/-- The writer of extended JSON in block g, over the buffer in block wb: what it has gathered, and its modes from the outermost on. -/
def IsEW (g B wb : Nat) (canon esc : Bool) (buf : List UInt8) (modes : List Int) (w : World) : Prop :=
  B ≤ g ∧ ∃ (bv : Value) (sb len cap : Nat) (ms : List Int),
    w.heap[g]? = some (.cells #[.iface 67 (.pointer (some ⟨wb, 0, none⟩)), bv, .slice (some ⟨sb, 0, none⟩) len cap, .int .i64 ((modes.length - 1 : Nat) : Int), .bool canon, .bool esc, .bool true] 104 (0, 0)) ∧
    w.ownsRow B 5 1 bv buf.length (Lib.byteCells buf) ∧ B ≤ sb ∧ w.heap[sb]? = some (.cells (ms.map (Value.int .i64)).toArray 101 (0, 0)) ∧
    ms.length = cap ∧ len ≤ cap ∧ len ≤ 1000 ∧ cap ≤ 5000 ∧ 0 < modes.length ∧ modes.length ≤ len ∧ (∀ i, i < modes.length → ms[i]? = modes[i]?)

theorem ownsRow_of_block {w w' : World} {base : Nat} {e : TypeId} {size : Nat} {v : Value} {n : Nat} {xs : List Value} (h : w.ownsRow base e size v n xs)
    (hb : ∀ k, v.ownBlock = some k → w'.heap[k]? = w.heap[k]?) : w'.ownsRow base e size v n xs := by
  obtain ⟨h1, h2⟩ := h
  refine ⟨h1, ?_⟩
  rcases h2 with h2 | ⟨k, cap, cur, rfl, hg, hh, r⟩
  · exact .inl h2
  · exact .inr ⟨k, cap, cur, rfl, hg, by rw [hb k rfl]; exact hh, r⟩
theorem own_blk {w : World} {base : Nat} {e : TypeId} {size : Nat} {v : Value} {n : Nat} {xs : List Value} (h : w.ownsRow base e size v n xs) : ∀ k, v.ownBlock = some k → ∃ cur, w.heap[k]? = some (.cells cur e (0, 0)) := by
  intro k hk
  rcases h.2 with ⟨rfl, _⟩ | ⟨k', cap, cur, rfl, _, hh, _⟩
  · cases hk
  · simp only [Value.ownBlock, Option.some.injEq] at hk
    subst hk
    exact ⟨cur, hh⟩
theorem own_ne {w : World} {base : Nat} {e t : TypeId} {size : Nat} {v : Value} {n : Nat} {xs : List Value} {g : Nat} {cs : Array Value} {fr : Nat × Nat} (h : w.ownsRow base e size v n xs) (hg : w.heap[g]? = some (.cells cs t fr)) (hne : e ≠ t) : v.ownBlock ≠ some g := by
  intro hk
  obtain ⟨cur, hc⟩ := own_blk h g hk
  rw [hg] at hc
  simp only [Option.some.injEq, Obj.cells.injEq] at hc
  exact hne hc.2.1.symm
theorem own_lt {w : World} {base : Nat} {e : TypeId} {size : Nat} {v : Value} {n : Nat} {xs : List Value} (h : w.ownsRow base e size v n xs) : ∀ k, v.ownBlock = some k → k < w.heap.size := fun k hk => (h.lt k hk).2

theorem IsEW.below {g B wb : Nat} {canon esc : Bool} {buf : List UInt8} {modes : List Int} {w w' : World} (h : IsEW g B wb canon esc buf modes w) (hb : Below w.heap.size w w') : IsEW g B wb canon esc buf modes w' := by
  obtain ⟨hB, bv, sb, len, cap, ms, hg, hown, hsB, hs, r⟩ := h
  exact ⟨hB, bv, sb, len, cap, ms, (hb.block g (blk_lt hg)).trans hg, ownsRow_of_block hown (fun k hk => hb.block k (own_lt hown k hk)), hsB, (hb.block sb (blk_lt hs)).trans hs, r⟩
theorem IsEW.drewN {g B wb : Nat} {canon esc : Bool} {buf : List UInt8} {modes : List Int} {w : World} (h : IsEW g B wb canon esc buf modes w) (n : Nat) : IsEW g B wb canon esc buf modes (w.drewN n) := h

theorem madeCells_int (k : IntKind) (c : Nat) : madeCells #[.int k 0] c = ((List.replicate c (0 : Int)).map (Value.int k)).toArray := by
  apply Array.ext
  · simp [madeCells]
  · intro i h1 h2
    simp [madeCells, Nat.mod_one]
theorem below_dr (w : World) (n : Nat) : Below w.heap.size w (w.drewN n) := ⟨rfl, rfl, rfl, Nat.le_refl _, fun _ _ => rfl⟩
/-- What a method of the writer leaves: nothing below B has turned, nor any block that is none of the writer's kinds. -/
def EStep (B : Nat) (w w' : World) : Prop := Below B w w' ∧ EKept w w'
theorem EStep.refl (B : Nat) (w : World) : EStep B w w := ⟨Below.refl _ _, EKept.refl _⟩
theorem EStep.trans {B : Nat} {a b c : World} (h : EStep B a b) (k : EStep B b c) : EStep B a c := ⟨h.1.trans k.1, h.2.trans k.2⟩
theorem EStep.of_below {B : Nat} {w w' : World} (h : Below w.heap.size w w') (hB : B ≤ w.heap.size) : EStep B w w' := ⟨h.mono hB, EKept.of_below h⟩
theorem EStep.drewN {B : Nat} {w w' : World} (h : EStep B w w') (n : Nat) : EStep B w (w'.drewN n) := ⟨h.1.trans ⟨rfl, rfl, rfl, Nat.le_refl _, fun _ _ => rfl⟩, h.2⟩
theorem EStep.set {B : Nat} {w w' : World} (h : EStep B w w') {g : Nat} {cs : Array Value} {e : TypeId} {fr : Nat × Nat} (hg : w'.heap[g]? = some (.cells cs e fr)) (he : e = 5 ∨ e = 101 ∨ e = 104) (hB : B ≤ g) (i : Nat) (u : Value) : EStep B w (w'.setCell ⟨g, i, none⟩ u) :=
  ⟨h.1.setCell hB u, h.2.set hg he i u⟩

theorem ne_of_tag {w : World} {g k : Nat} {c c' : Array Value} {t t' : TypeId} {f f' : Nat × Nat} (h : w.heap[g]? = some (.cells c t f)) (h' : w.heap[k]? = some (.cells c' t' f')) (hne : t ≠ t') : g ≠ k := by
  rintro rfl
  rw [h] at h'
  simp only [Option.some.injEq, Obj.cells.injEq] at h'
  exact hne h'.2.1

theorem IsEW.lt {g B wb : Nat} {canon esc : Bool} {buf : List UInt8} {modes : List Int} {w : World} (h : IsEW g B wb canon esc buf modes w) : B ≤ g ∧ g < w.heap.size := by
  obtain ⟨hB, bv, sb, len, cap, ms, hg, _⟩ := h
  exact ⟨hB, blk_lt hg⟩
end Go.Proofs.YtpfkgpcnhdkkbaaGreatDoor
