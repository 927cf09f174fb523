import Derived.Test.YtpfkgpcnhdkkbaaGreatDoorBase
import Derived.Laws.CopyOwn
import Derived.Deep.OwnRows
namespace Go.Proofs.YtpfkgpcnhdkkbaaGreatDoor
open Go.RowKit
set_option linter.unusedVariables false
set_option linter.unusedSimpArgs false

/-! ### a block known whole -/
theorem blk_lt {w : World} {g : Nat} {o : Obj} (h : w.heap[g]? = some o) : g < w.heap.size := (Array.getElem?_eq_some_iff.1 h).1
theorem blk_cell {w : World} {g : Nat} {t : TypeId} {cs : Array Value} {fr : Nat × Nat} (h : w.heap[g]? = some (.cells cs t fr)) (i : Nat) : w.cell? ⟨g, i, none⟩ = cs[i]? := by simp [World.cell?, h]
theorem blk_frozen {w : World} {g : Nat} {t : TypeId} {cs : Array Value} (h : w.heap[g]? = some (.cells cs t (0, 0))) (i : Nat) : w.frozen? ⟨g, i, none⟩ = false := by simp [World.frozen?, h]
theorem blk_set {w : World} {g : Nat} {t : TypeId} {cs : Array Value} {fr : Nat × Nat} (h : w.heap[g]? = some (.cells cs t fr)) (i : Nat) (u : Value) : (w.setCell ⟨g, i, none⟩ u).heap[g]? = some (.cells (cs.setIfInBounds i u) t fr) := by
  simp [World.setCell, Array.getElem?_modify, h]
theorem blk_far {w : World} {g : Nat} {o : Obj} (h : w.heap[g]? = some o) {p : Addr} (hp : g ≠ p.block) (u : Value) : (w.setCell p u).heap[g]? = some o := (Below.heap_setCell w p u g hp).trans h

/-- Every block that is no row of bytes, no stack of modes and no writer of extended JSON stands as it stood. -/
def EKept (w w' : World) : Prop := ∀ (k : Nat) (o : Obj), w.heap[k]? = some o → (∀ c e fz, o = Obj.cells c e fz → e ≠ 5 ∧ e ≠ 101 ∧ e ≠ 104) → w'.heap[k]? = some o
theorem EKept.refl (w : World) : EKept w w := fun _ _ h _ => h
theorem EKept.trans {a b c : World} (h : EKept a b) (k : EKept b c) : EKept a c := fun i o hi ho => k i o (h i o hi ho) ho
theorem EKept.of_below {w w' : World} (h : Below w.heap.size w w') : EKept w w' := fun i o hi _ => (h.block i (blk_lt hi)).trans hi
theorem EKept.drewN {w w' : World} (h : EKept w w') (n : Nat) : EKept w (w'.drewN n) := h
theorem EKept.set {w w' : World} (h : EKept w w') {g : Nat} {cs : Array Value} {e : TypeId} {fr : Nat × Nat} (hg : w'.heap[g]? = some (.cells cs e fr)) (he : e = 5 ∨ e = 101 ∨ e = 104) (i : Nat) (u : Value) : EKept w (w'.setCell ⟨g, i, none⟩ u) := by
  intro k o hk ho
  have h1 := h k o hk ho
  by_cases hkg : k = g
  · subst hkg
    rw [hg] at h1
    obtain ⟨n1, n2, n3⟩ := ho _ _ _ (Option.some.inj h1).symm
    rcases he with he | he | he <;> contradiction
  · exact (Below.heap_setCell w' _ u k hkg).trans h1
theorem EKept.grown {w w1 w2 : World} {row : Option Nat} (h : EKept w w1) (hg : w1.grownBy w2 row) (hr : ∀ k, row = some k → ∃ c fz, w1.heap[k]? = some (.cells c 5 fz)) : EKept w w2 := by
  intro k o hk ho
  have h1 := h k o hk ho
  refine (hg.block k (blk_lt h1) ?_).trans h1
  intro e
  obtain ⟨c, fz, hc⟩ := hr k e.symm
  rw [h1] at hc
  exact (ho _ _ _ (Option.some.inj hc)).1 rfl

/-- The writer of extended JSON in block g, over the buffer in block wb: what it has gathered, and its modes from the outermost on. -/
def IsEW (g B wb : Nat) (canon esc : Bool) (buf : List UInt8) (modes : List Int) (w : World) : Prop :=
  B ≤ g ∧ ∃ (bv : Value) (sb len cap : Nat) (ms : List Int),
    w.heap[g]? = some (.cells #[.iface 67 (.pointer (some ⟨wb, 0, none⟩)), bv, .slice (some ⟨sb, 0, none⟩) len cap, .int .i64 ((modes.length - 1 : Nat) : Int), .bool canon, .bool esc, .bool true] 104 (0, 0)) ∧
    w.ownsRow B 5 1 bv buf.length (Lib.byteCells buf) ∧ B ≤ sb ∧ w.heap[sb]? = some (.cells (ms.map (Value.int .i64)).toArray 101 (0, 0)) ∧
    ms.length = cap ∧ len ≤ cap ∧ len ≤ 1000 ∧ cap ≤ 5000 ∧ 0 < modes.length ∧ modes.length ≤ len ∧ (∀ i, i < modes.length → ms[i]? = modes[i]?)

theorem ownsRow_of_block {w w' : World} {base : Nat} {e : TypeId} {size : Nat} {v : Value} {n : Nat} {xs : List Value} (h : w.ownsRow base e size v n xs)
    (hb : ∀ k, v.ownBlock = some k → w'.heap[k]? = w.heap[k]?) : w'.ownsRow base e size v n xs := by
  obtain ⟨h1, h2⟩ := h
  refine ⟨h1, ?_⟩
  rcases h2 with h2 | ⟨k, cap, cur, rfl, hg, hh, r⟩
  · exact .inl h2
  · exact .inr ⟨k, cap, cur, rfl, hg, by rw [hb k rfl]; exact hh, r⟩
theorem own_blk {w : World} {base : Nat} {e : TypeId} {size : Nat} {v : Value} {n : Nat} {xs : List Value} (h : w.ownsRow base e size v n xs) : ∀ k, v.ownBlock = some k → ∃ cur, w.heap[k]? = some (.cells cur e (0, 0)) := by
  intro k hk
  rcases h.2 with ⟨rfl, _⟩ | ⟨k', cap, cur, rfl, _, hh, _⟩
  · cases hk
  · simp only [Value.ownBlock, Option.some.injEq] at hk
    subst hk
    exact ⟨cur, hh⟩
theorem own_ne {w : World} {base : Nat} {e t : TypeId} {size : Nat} {v : Value} {n : Nat} {xs : List Value} {g : Nat} {cs : Array Value} {fr : Nat × Nat} (h : w.ownsRow base e size v n xs) (hg : w.heap[g]? = some (.cells cs t fr)) (hne : e ≠ t) : v.ownBlock ≠ some g := by
  intro hk
  obtain ⟨cur, hc⟩ := own_blk h g hk
  rw [hg] at hc
  simp only [Option.some.injEq, Obj.cells.injEq] at hc
  exact hne hc.2.1.symm
theorem own_lt {w : World} {base : Nat} {e : TypeId} {size : Nat} {v : Value} {n : Nat} {xs : List Value} (h : w.ownsRow base e size v n xs) : ∀ k, v.ownBlock = some k → k < w.heap.size := fun k hk => (h.lt k hk).2

theorem IsEW.below {g B wb : Nat} {canon esc : Bool} {buf : List UInt8} {modes : List Int} {w w' : World} (h : IsEW g B wb canon esc buf modes w) (hb : Below w.heap.size w w') : IsEW g B wb canon esc buf modes w' := by
  obtain ⟨hB, bv, sb, len, cap, ms, hg, hown, hsB, hs, r⟩ := h
  exact ⟨hB, bv, sb, len, cap, ms, (hb.block g (blk_lt hg)).trans hg, ownsRow_of_block hown (fun k hk => hb.block k (own_lt hown k hk)), hsB, (hb.block sb (blk_lt hs)).trans hs, r⟩
theorem IsEW.drewN {g B wb : Nat} {canon esc : Bool} {buf : List UInt8} {modes : List Int} {w : World} (h : IsEW g B wb canon esc buf modes w) (n : Nat) : IsEW g B wb canon esc buf modes (w.drewN n) := h

set_option maxHeartbeats 400000 in
theorem ensure_core (g sb fr len cap : Nat) (m d : Int) (s : ByteArray) (v : Value) (w : World)
   (hc2 : w.cell? ⟨g, 2, none⟩ = some (.slice (some ⟨sb, 0, none⟩) len cap))
   (hc3 : w.cell? ⟨g, 3, none⟩ = some (.int .i64 fr)) (hf : (fr : Int) < len)
   (hs : w.cell? ⟨sb, fr, none⟩ = some (.int .i64 m)) (hm : m = 4 ∨ m = 5) :
   Calls Tryz.prog 66 #[.pointer (some ⟨g, 0, none⟩), .int .i64 d, .string s, v] w fun e w' => e = .returned .nilIface ∧ ∃ n, w' = w.drewN n := by
  rcases hm with rfl | rfl
  · go_enter Tryz.func66, Tryz.ntmps66
    go_wp2
    go_quiet (fail)
    go_wp2
    go_ret
    exact ⟨rfl, _, rfl⟩
  · go_enter Tryz.func66, Tryz.ntmps66
    go_wp2
    go_quiet (fail)
    go_wp2
    go_ret
    exact ⟨rfl, _, rfl⟩
/-- The top mode, as a walk reads it. -/
theorem IsEW.top {g B wb : Nat} {canon esc : Bool} {buf : List UInt8} {modes : List Int} {m : Int} {w : World} (h : IsEW g B wb canon esc buf (modes ++ [m]) w) :
    ∃ sb len cap, w.cell? ⟨g, 2, none⟩ = some (.slice (some ⟨sb, 0, none⟩) len cap) ∧ w.cell? ⟨g, 3, none⟩ = some (.int .i64 (modes.length : Nat)) ∧ ((modes.length : Nat) : Int) < len ∧
      w.cell? ⟨sb, modes.length, none⟩ = some (.int .i64 m) := by
  obtain ⟨_, bv, sb, len, cap, ms, hg, _, _, hs, _, _, _, _, _, hle, hms⟩ := h
  refine ⟨sb, len, cap, by rw [blk_cell hg]; rfl, by rw [blk_cell hg]; simp, by simp at hle; omega, ?_⟩
  rw [blk_cell hs]
  have := hms modes.length (by simp)
  simp at this
  simp [this]
theorem ensure_any {g B wb : Nat} {canon esc : Bool} {buf : List UInt8} {modes : List Int} {m : Int} {w : World} (h : IsEW g B wb canon esc buf (modes ++ [m]) w) (hm : m = 4 ∨ m = 5) (d : Int) (s : ByteArray) (v : Value) :
    Calls Tryz.prog 66 #[.pointer (some ⟨g, 0, none⟩), .int .i64 d, .string s, v] w fun e w' => e = .returned .nilIface ∧ ∃ n, w' = w.drewN n := by
  obtain ⟨sb, len, cap, h2, h3, hf, hs⟩ := h.top
  exact ensure_core g sb modes.length len cap m d s v w h2 h3 hf hs hm

set_option maxHeartbeats 400000 in
theorem pop_core1 (g sb fr len cap : Nat) (m : Int) (w : World)
   (hc2 : w.cell? ⟨g, 2, none⟩ = some (.slice (some ⟨sb, 0, none⟩) len cap))
   (hc3 : w.cell? ⟨g, 3, none⟩ = some (.int .i64 fr)) (hf : (fr : Int) < len) (hfr : 1 ≤ fr) (hl : (len : Int) ≤ 1000)
   (hz : w.frozen? ⟨g, 3, none⟩ = false)
   (hs : w.cell? ⟨sb, fr, none⟩ = some (.int .i64 m)) (hm : m = 4 ∨ m = 5) :
   Calls Tryz.prog 103 #[.pointer (some ⟨g, 0, none⟩)] w fun e w' => e = .returned (.tuple #[]) ∧ ∃ n, w' = (w.drewN n).setCell ⟨g, 3, none⟩ (.int .i64 (fr - 1 : Int)) := by
  rcases hm with rfl | rfl
  · go_enter Tryz.func103, Tryz.ntmps103
    go_wp2
    go_quiet (fail)
    go_wp2
    go_end0
    exact ⟨rfl, _, rfl⟩
  · go_enter Tryz.func103, Tryz.ntmps103
    go_wp2
    go_quiet (fail)
    go_wp2
    go_end0
    exact ⟨rfl, _, rfl⟩
set_option maxHeartbeats 400000 in
theorem pop_core2 (g sb fr len cap : Nat) (m : Int) (w : World)
   (hc2 : w.cell? ⟨g, 2, none⟩ = some (.slice (some ⟨sb, 0, none⟩) len cap))
   (hc3 : w.cell? ⟨g, 3, none⟩ = some (.int .i64 fr)) (hf : (fr : Int) < len) (hfr : 2 ≤ fr) (hl : (len : Int) ≤ 1000)
   (hz : w.frozen? ⟨g, 3, none⟩ = false)
   (hs : w.cell? ⟨sb, fr, none⟩ = some (.int .i64 m)) (hm : m = 2 ∨ m = 3 ∨ m = 6) :
   Calls Tryz.prog 103 #[.pointer (some ⟨g, 0, none⟩)] w fun e w' => e = .returned (.tuple #[]) ∧ ∃ n, w' = (w.drewN n).setCell ⟨g, 3, none⟩ (.int .i64 (fr - 2 : Int)) := by
  rcases hm with rfl | rfl | rfl
  all_goals
    go_enter Tryz.func103, Tryz.ntmps103
    go_wp2
    go_quiet (fail)
    go_wp2
    go_end0
    exact ⟨rfl, _, rfl⟩
set_option maxHeartbeats 400000 in
theorem pop_core0 (g sb fr len cap : Nat) (w : World)
   (hc2 : w.cell? ⟨g, 2, none⟩ = some (.slice (some ⟨sb, 0, none⟩) len cap))
   (hc3 : w.cell? ⟨g, 3, none⟩ = some (.int .i64 fr)) (hf : (fr : Int) < len)
   (hs : w.cell? ⟨sb, fr, none⟩ = some (.int .i64 1)) :
   Calls Tryz.prog 103 #[.pointer (some ⟨g, 0, none⟩)] w fun e w' => e = .returned (.tuple #[]) ∧ ∃ n, w' = w.drewN n := by
  go_enter Tryz.func103, Tryz.ntmps103
  go_wp2
  go_quiet (fail)
  go_wp2
  go_end0
  exact ⟨rfl, _, rfl⟩
set_option maxHeartbeats 400000 in
theorem adv_core1 (g sb fr len cap : Nat) (w : World)
   (hc2 : w.cell? ⟨g, 2, none⟩ = some (.slice (some ⟨sb, 0, none⟩) len cap))
   (hc3 : w.cell? ⟨g, 3, none⟩ = some (.int .i64 fr)) (hf : (fr : Int) + 1 < len) (hl : (len : Int) ≤ 1000)
   (hz : w.frozen? ⟨g, 3, none⟩ = false) :
   Calls Tryz.prog 95 #[.pointer (some ⟨g, 0, none⟩)] w fun e w' => e = .returned (.tuple #[]) ∧ ∃ n, w' = (w.drewN n).setCell ⟨g, 3, none⟩ (.int .i64 (fr + 1 : Int)) := by
  have hd : decide ((len : Int) ≤ (fr : Int) + 1) = false := decide_eq_false (by omega)
  go_enter Tryz.func95, Tryz.ntmps95
  go_wp2
  go_quiet (fail)
  go_wp2
  go_end0
  exact ⟨rfl, _, rfl⟩
set_option maxHeartbeats 800000 in
theorem adv_core2 (g sb fr len cap : Nat) (w : World) (hne : ¬ sb = g)
   (hc2 : w.cell? ⟨g, 2, none⟩ = some (.slice (some ⟨sb, 0, none⟩) len cap))
   (hc3 : w.cell? ⟨g, 3, none⟩ = some (.int .i64 fr)) (hf : (fr : Int) + 1 = len) (hl : (len : Int) ≤ 1000) (hcap : (len : Int) + 1 < cap) (hcc : (cap : Int) ≤ 5000)
   (hz2 : w.frozen? ⟨g, 2, none⟩ = false) (hz : w.frozen? ⟨g, 3, none⟩ = false) :
   Calls Tryz.prog 95 #[.pointer (some ⟨g, 0, none⟩)] w fun e w' => e = .returned (.tuple #[]) ∧ ∃ n, w' = ((w.drewN n).setCell ⟨g, 2, none⟩ (.slice (some ⟨sb, 0, none⟩) (len + 1) cap)).setCell ⟨g, 3, none⟩ (.int .i64 (fr + 1 : Int)) := by
  have hd : decide ((len : Int) ≤ (fr : Int) + 1) = true := decide_eq_true (by omega)
  have hd2 : decide ((cap : Int) ≤ (len : Int) + 1) = false := decide_eq_false (by omega)
  have hf' : (len : Int) ≤ (fr : Int) + 1 := by omega
  have hf2 : (fr : Int) + 1 ≤ (len : Int) := by omega
  clear hf
  go_enter Tryz.func95, Tryz.ntmps95
  go_wp2
  go_quiet (fail)
  go_wp2
  go_end0
  exact ⟨rfl, _, rfl⟩
theorem info101 : (Tryz.prog.info? 101).map (fun i => (i.zero, i.size, i.bytes)) = some (some (.agg #[.int .i64 0]), 1, 8) := by kernel_rfl
theorem info101s : (Tryz.prog.info? 101).map (·.size) = some 1 := by kernel_rfl
theorem run_make102 (c : Nat) (hc : c ≤ 20000) (w : World) :
    (Instr.makeSlice 102 (.int .i64 (c : Int)) (.int .i64 (c : Int))).run Tryz.prog w = .ok (.slice (some ⟨w.heap.size, 0, none⟩) c c) (w.alloc (.cells (madeCells #[.int .i64 0] c) 101)) := by
  obtain ⟨i, hi, hzz⟩ := Option.map_eq_some_iff.1 info101
  simp only [Prod.mk.injEq] at hzz
  obtain ⟨hz, hs, hb⟩ := hzz
  have := run_make (P := Tryz.prog) w 102 101 i _ Tryz.underlying102 hi hz .i64 .i64 (c : Int) (c : Int) (by omega) (by omega) (by rw [hb]; omega) (by omega)
  rw [hs] at this
  simpa [Value.cells] using this
theorem madeCells_int (k : IntKind) (c : Nat) : madeCells #[.int k 0] c = ((List.replicate c (0 : Int)).map (Value.int k)).toArray := by
  apply Array.ext
  · simp [madeCells]
  · intro i h1 h2
    simp [madeCells, Nat.mod_one]
theorem below_dr (w : World) (n : Nat) : Below w.heap.size w (w.drewN n) := ⟨rfl, rfl, rfl, Nat.le_refl _, fun _ _ => rfl⟩
theorem src_of_block {w W : World} {sb : Nat} {ms : List Int} {t : TypeId} {fr : Nat × Nat} (hs : w.heap[sb]? = some (.cells (ms.map (Value.int .i64)).toArray t fr)) (hb : Below w.heap.size w W) (len : Nat) :
    ∀ j v, ((ms.take len).map (Value.int .i64))[j]? = some v → W.cell? ((⟨sb, 0, none⟩ : Addr).add j) = some v := by
  intro j v hj
  rw [Lib.addr_add, Nat.zero_add, hb.cell (p := ⟨sb, j, none⟩) (blk_lt hs), blk_cell hs]
  simp only [List.getElem?_map, List.getElem?_take] at hj
  split at hj
  · simpa using hj
  · simp at hj
set_option maxHeartbeats 1600000 in
theorem adv_core3 (g sb fr len cap : Nat) (ms : List Int) (w : World) (hne : ¬ sb = g)
   (hc2 : w.cell? ⟨g, 2, none⟩ = some (.slice (some ⟨sb, 0, none⟩) len cap)) (hgb : g < w.heap.size)
   (hc3 : w.cell? ⟨g, 3, none⟩ = some (.int .i64 fr)) (hf : (fr : Int) + 1 = len) (hl : (len : Int) ≤ 1000) (hcap : (cap : Int) ≤ (len : Int) + 1) (hcl : len ≤ cap)
   (hz2 : w.frozen? ⟨g, 2, none⟩ = false) (hz : w.frozen? ⟨g, 3, none⟩ = false)
   (hs : w.heap[sb]? = some (.cells (ms.map (Value.int .i64)).toArray 101 (0, 0))) (hms : ms.length = cap) :
   Calls Tryz.prog 95 #[.pointer (some ⟨g, 0, none⟩)] w fun e w' => e = .returned (.tuple #[]) ∧ ∃ w1, Below w.heap.size w w1 ∧
      w1.heap[w.heap.size]? = some (.cells (splice ((List.replicate (2 * cap + 1) (0 : Int)).map (Value.int .i64)) 0 ((ms.take len).map (Value.int .i64))).toArray 101 (0, 0)) ∧
      w' = ((w1.setCell ⟨g, 2, none⟩ (.slice (some ⟨w.heap.size, 0, none⟩) (2 * cap + 1) (2 * cap + 1))).setCell ⟨g, 2, none⟩ (.slice (some ⟨w.heap.size, 0, none⟩) (len + 1) (2 * cap + 1))).setCell ⟨g, 3, none⟩ (.int .i64 (fr + 1 : Int)) := by
  have hd : decide ((len : Int) ≤ (fr : Int) + 1) = true := decide_eq_true (by omega)
  have hd2 : decide ((cap : Int) ≤ (len : Int) + 1) = true := decide_eq_true (by omega)
  have hf' : (len : Int) ≤ (fr : Int) + 1 := by omega
  have hf2 : (fr : Int) + 1 ≤ (len : Int) := by omega
  have hcc : (cap : Int) ≤ 1001 := by omega
  have hmk : ∀ W : World, (Instr.makeSlice 102 (.int .i64 (2 * (cap : Int) + 1)) (.int .i64 (2 * (cap : Int) + 1))).run Tryz.prog W = .ok (.slice (some ⟨W.heap.size, 0, none⟩) (2 * cap + 1) (2 * cap + 1)) (W.alloc (.cells (madeCells #[.int .i64 0] (2 * cap + 1)) 101)) := by
    intro W
    have := run_make102 (2 * cap + 1) (by omega) W
    simpa using this
  clear hf
  have hca : ∀ (n : Nat) (o : Obj), ((w.drewN n).alloc o).cell? ⟨g, 2, none⟩ = some (.slice (some ⟨sb, 0, none⟩) len cap) := fun n o => (World.cell?_of_block (w := w) (Below.heap_alloc (w.drewN n) o g hgb)).trans hc2
  have HS := Lib.hid hs
  clear hs
  have HM := Lib.hid hms
  clear hms
  go_enter Tryz.func95, Tryz.ntmps95
  go_wp2
  go_quiet (fail)
  go_wp2_with (with_reducible show wpList _ _ _ (⟨some 41, _, _, _, _, _⟩ :: _) _ _; refine Hid.out ?_)
  refine Lib.hid ?_
  refine wpList_copy_splice rfl (.tmp 36) (.tmp 40) 102 102 rfl 101 Tryz.underlying102 info101s _ _ _ _ _ _ rfl rfl w.heap.size 0 ((List.replicate (2 * cap + 1) (0 : Int)).map (Value.int .i64)) 101 ?c1 ((ms.take len).map (Value.int .i64)) ?c2 ?c3 ?c4 ?c5 w.heap.size w ?c6 (Nat.le_refl _) ?_
  case c1 => rw [madeCells_int]; exact heap_alloc_new (w.drewN _) _
  case c2 => show _ = min len (2 * cap + 1); simp [HM.out]; omega
  case c3 => exact fun _ => ⟨rfl, _, rfl, src_of_block HS.out ((below_dr w _).alloc (Nat.le_refl _) _) len⟩
  case c4 => simp [HM.out]; omega
  case c5 => intro v hv; simp only [List.mem_map] at hv; obtain ⟨q, _, rfl⟩ := hv; rfl
  case c6 => exact (below_dr w _).alloc (Nat.le_refl _) _
  intro w1 hw1 hb1
  have k2 := (hb1.cell (p := ⟨g, 2, none⟩) hgb).trans hc2
  have k3 := (hb1.cell (p := ⟨g, 3, none⟩) hgb).trans hc3
  have z2 := (hb1.frozen (p := ⟨g, 2, none⟩) hgb).trans hz2
  have z3 := (hb1.frozen (p := ⟨g, 3, none⟩) hgb).trans hz
  clear hca hc2 hc3 hz2 hz hmk
  have HB := Lib.hid hb1
  clear hb1
  go_wp2
  go_end0
  refine ⟨rfl, w1, HB.out, hw1.out, rfl⟩

/-- What a method of the writer leaves: nothing below B has turned, nor any block that is none of the writer's kinds. -/
def EStep (B : Nat) (w w' : World) : Prop := Below B w w' ∧ EKept w w'
theorem EStep.refl (B : Nat) (w : World) : EStep B w w := ⟨Below.refl _ _, EKept.refl _⟩
theorem EStep.trans {B : Nat} {a b c : World} (h : EStep B a b) (k : EStep B b c) : EStep B a c := ⟨h.1.trans k.1, h.2.trans k.2⟩
theorem EStep.of_below {B : Nat} {w w' : World} (h : Below w.heap.size w w') (hB : B ≤ w.heap.size) : EStep B w w' := ⟨h.mono hB, EKept.of_below h⟩
theorem EStep.drewN {B : Nat} {w w' : World} (h : EStep B w w') (n : Nat) : EStep B w (w'.drewN n) := ⟨h.1.trans ⟨rfl, rfl, rfl, Nat.le_refl _, fun _ _ => rfl⟩, h.2⟩
theorem EStep.set {B : Nat} {w w' : World} (h : EStep B w w') {g : Nat} {cs : Array Value} {e : TypeId} {fr : Nat × Nat} (hg : w'.heap[g]? = some (.cells cs e fr)) (he : e = 5 ∨ e = 101 ∨ e = 104) (hB : B ≤ g) (i : Nat) (u : Value) : EStep B w (w'.setCell ⟨g, i, none⟩ u) :=
  ⟨h.1.setCell hB u, h.2.set hg he i u⟩

theorem ne_of_tag {w : World} {g k : Nat} {c c' : Array Value} {t t' : TypeId} {f f' : Nat × Nat} (h : w.heap[g]? = some (.cells c t f)) (h' : w.heap[k]? = some (.cells c' t' f')) (hne : t ≠ t') : g ≠ k := by
  rintro rfl
  rw [h] at h'
  simp only [Option.some.injEq, Obj.cells.injEq] at h'
  exact hne h'.2.1

theorem adv_any {g B wb : Nat} {canon esc : Bool} {buf : List UInt8} {modes : List Int} {w : World} (h : IsEW g B wb canon esc buf modes w) (hm : modes.length + 1 ≤ 1000) :
    Calls Tryz.prog 95 #[.pointer (some ⟨g, 0, none⟩)] w fun e w' => e = .returned (.tuple #[]) ∧ ∃ x, IsEW g B wb canon esc buf (modes ++ [x]) w' ∧ EStep B w w' := by
  obtain ⟨hB, bv, sb, len, cap, ms, hg, hown, hsB, hs, hmsl, hlc, hl, hcc, hpos, hle, hms⟩ := h
  have hne : ¬ sb = g := ne_of_tag hs hg (by decide)
  have hnb : bv.ownBlock ≠ some g := own_ne hown hg (by decide)
  have hc2 : w.cell? ⟨g, 2, none⟩ = some (.slice (some ⟨sb, 0, none⟩) len cap) := by rw [blk_cell hg]; rfl
  have hc3 : w.cell? ⟨g, 3, none⟩ = some (.int .i64 ((modes.length - 1 : Nat) : Int)) := by rw [blk_cell hg]; rfl
  have hz2 := blk_frozen hg 2
  have hz3 := blk_frozen hg 3
  have hpl : ((modes.length - 1 : Nat) : Int) + 1 = (((modes ++ [(0 : Int)]).length - 1 : Nat) : Int) := by simp; omega
  by_cases h1 : modes.length < len
  · refine (adv_core1 g sb (modes.length - 1) len cap w hc2 hc3 (by omega) (by omega) hz3).mono ?_
    rintro e w' ⟨rfl, n, rfl⟩
    have hg1 : (w.drewN n).heap[g]? = _ := hg
    refine ⟨rfl, ms.getD modes.length 0, ⟨hB, bv, sb, len, cap, ms, ?_, ?_, hsB, ?_, hmsl, hlc, hl, hcc, by simp, by simp; omega, ?_⟩, ((EStep.refl B w).drewN n).set hg1 (by decide) hB 3 _⟩
    · rw [blk_set hg1]
      simp only [List.setIfInBounds_toArray, List.set_cons_succ, List.set_cons_zero, List.length_append, List.length_singleton]
      rw [hpl]
      simp
    · exact ownsRow_of_block hown (fun k hk => Below.heap_setCell (w.drewN n) _ _ k (by rintro rfl; exact hnb hk))
    · exact (Below.heap_setCell (w.drewN n) _ _ sb hne).trans hs
    · intro i hi
      simp only [List.length_append, List.length_singleton] at hi
      by_cases hi2 : i < modes.length
      · rw [hms i hi2, List.getElem?_append_left hi2]
      · obtain rfl : i = modes.length := by omega
        rw [List.getElem?_append_right (Nat.le_refl _)]
        simp [List.getElem?_eq_getElem (show modes.length < ms.length by omega), List.getD_eq_getElem?_getD]
  · have hlen : len = modes.length := by omega
    by_cases h2 : len + 1 < cap
    · refine (adv_core2 g sb (modes.length - 1) len cap w hne hc2 hc3 (by omega) (by omega) (by omega) (by omega) hz2 hz3).mono ?_
      rintro e w' ⟨rfl, n, rfl⟩
      have hg1 : (w.drewN n).heap[g]? = _ := hg
      have hg2 := blk_set hg1 2 (.slice (some ⟨sb, 0, none⟩) (len + 1) cap)
      refine ⟨rfl, ms.getD modes.length 0, ⟨hB, bv, sb, len + 1, cap, ms, ?_, ?_, hsB, ?_, hmsl, by omega, by omega, hcc, by simp, by simp; omega, ?_⟩, (((EStep.refl B w).drewN n).set hg1 (by decide) hB 2 _).set hg2 (by decide) hB 3 _⟩
      · rw [blk_set hg2]
        simp only [List.setIfInBounds_toArray, List.set_cons_succ, List.set_cons_zero, List.length_append, List.length_singleton]
        rw [hpl]
        simp
      · exact ownsRow_of_block hown (fun k hk => (Below.heap_setCell _ _ _ k (by rintro rfl; exact hnb hk)).trans (Below.heap_setCell (w.drewN n) _ _ k (by rintro rfl; exact hnb hk)))
      · exact (Below.heap_setCell _ _ _ sb hne).trans ((Below.heap_setCell (w.drewN n) _ _ sb hne).trans hs)
      · intro i hi
        simp only [List.length_append, List.length_singleton] at hi
        by_cases hi2 : i < modes.length
        · rw [hms i hi2, List.getElem?_append_left hi2]
        · obtain rfl : i = modes.length := by omega
          rw [List.getElem?_append_right (Nat.le_refl _)]
          simp [List.getElem?_eq_getElem (show modes.length < ms.length by omega), List.getD_eq_getElem?_getD]
    · refine (adv_core3 g sb (modes.length - 1) len cap ms w hne hc2 (blk_lt hg) hc3 (by omega) (by omega) (by omega) hlc hz2 hz3 hs hmsl).mono ?_
      rintro e w' ⟨rfl, w1, hb1, hw1, rfl⟩
      have hg1 : w1.heap[g]? = _ := (hb1.block g (blk_lt hg)).trans hg
      have hg2 := blk_set hg1 2 (.slice (some ⟨w.heap.size, 0, none⟩) (2 * cap + 1) (2 * cap + 1))
      have hg3 := blk_set hg2 2 (.slice (some ⟨w.heap.size, 0, none⟩) (len + 1) (2 * cap + 1))
      have hnw : ¬ w.heap.size = g := by have := blk_lt hg; omega
      have hsp : splice ((List.replicate (2 * cap + 1) (0 : Int)).map (Value.int .i64)) 0 ((ms.take len).map (Value.int .i64)) = (splice (List.replicate (2 * cap + 1) (0 : Int)) 0 (ms.take len)).map (Value.int .i64) := by
        simp [splice, List.map_take, List.map_drop]
      rw [hsp] at hw1
      refine ⟨rfl, 0, ⟨hB, bv, w.heap.size, len + 1, 2 * cap + 1, splice (List.replicate (2 * cap + 1) (0 : Int)) 0 (ms.take len), ?_, ?_, ?_, ?_, ?_, by omega, by omega, by omega, by simp, by simp; omega, ?_⟩,
        (((EStep.of_below hb1 ?_).set hg1 (by decide) hB 2 _).set hg2 (by decide) hB 2 _).set hg3 (by decide) hB 3 _⟩
      · rw [blk_set hg3]
        simp only [List.setIfInBounds_toArray, List.set_cons_succ, List.set_cons_zero, List.length_append, List.length_singleton]
        rw [hpl]
        simp
      · refine ownsRow_of_block hown (fun k hk => ?_)
        have hkg : k ≠ g := by rintro rfl; exact hnb hk
        exact (Below.heap_setCell _ _ _ k hkg).trans ((Below.heap_setCell _ _ _ k hkg).trans ((Below.heap_setCell _ _ _ k hkg).trans (hb1.block k (own_lt hown k hk))))
      · have := blk_lt hg; omega
      · exact (Below.heap_setCell _ _ _ _ hnw).trans ((Below.heap_setCell _ _ _ _ hnw).trans ((Below.heap_setCell _ _ _ _ hnw).trans hw1))
      · rw [length_splice _ _ _ (by simp; omega)]; simp
      · intro i hi
        simp only [List.length_append, List.length_singleton] at hi
        simp only [splice, List.take_zero, List.nil_append, List.length_take]
        by_cases hi2 : i < modes.length
        · rw [List.getElem?_append_left (by simp; omega), List.getElem?_take, if_pos (by omega), hms i hi2, List.getElem?_append_left hi2]
        · obtain rfl : i = modes.length := by omega
          rw [List.getElem?_append_right (by simp; omega), List.getElem?_append_right (Nat.le_refl _)]
          simp [List.getElem?_drop, List.getElem?_replicate]
          omega
      · have := blk_lt hg; omega

theorem IsEW.lt {g B wb : Nat} {canon esc : Bool} {buf : List UInt8} {modes : List Int} {w : World} (h : IsEW g B wb canon esc buf modes w) : B ≤ g ∧ g < w.heap.size := by
  obtain ⟨hB, bv, sb, len, cap, ms, hg, _⟩ := h
  exact ⟨hB, blk_lt hg⟩
/-- The writer whose top mode is written anew. -/
theorem IsEW.setTop {g B wb : Nat} {canon esc : Bool} {buf : List UInt8} {modes : List Int} {x : Int} {w : World} (h : IsEW g B wb canon esc buf (modes ++ [x]) w) {sb len cap : Nat}
    (h2 : w.cell? ⟨g, 2, none⟩ = some (.slice (some ⟨sb, 0, none⟩) len cap)) (m : Int) (n : Nat) :
    IsEW g B wb canon esc buf (modes ++ [m]) ((w.drewN n).setCell ⟨sb, modes.length, none⟩ (.int .i64 m)) ∧ EStep B w ((w.drewN n).setCell ⟨sb, modes.length, none⟩ (.int .i64 m)) := by
  obtain ⟨hB, bv, sb', len', cap', ms, hg, hown, hsB, hs, hmsl, hlc, hl, hcc, hpos, hle, hms⟩ := h
  have e2 : sb = sb' := by
    rw [blk_cell hg] at h2
    simp at h2
    omega
  subst e2
  have hne : ¬ sb = g := ne_of_tag hs hg (by decide)
  have hs1 : (w.drewN n).heap[sb]? = _ := hs
  refine ⟨⟨hB, bv, sb, len', cap', ms.set modes.length m, ?_, ?_, hsB, ?_, by simpa using hmsl, hlc, hl, hcc, by simp, by simpa using hle, ?_⟩, ((EStep.refl B w).drewN n).set hs1 (by decide) hsB _ _⟩
  · exact (Below.heap_setCell (w.drewN n) _ _ g (fun e => hne e.symm)).trans (by simpa using hg)
  · exact ownsRow_of_block hown (fun k hk => Below.heap_setCell (w.drewN n) _ _ k (by rintro rfl; exact own_ne hown hs (by decide) hk))
  · rw [blk_set hs1]
    simp [List.map_set]
  · intro i hi
    simp only [List.length_append, List.length_singleton] at hi hle hms
    by_cases hi2 : i < modes.length
    · rw [List.getElem?_set_ne (by omega), hms i (by omega), List.getElem?_append_left hi2, List.getElem?_append_left hi2]
    · obtain rfl : i = modes.length := by omega
      rw [List.getElem?_append_right (Nat.le_refl _), List.getElem?_set_self (by omega)]
      simp
theorem IsEW.unfrozen {g B wb : Nat} {canon esc : Bool} {buf : List UInt8} {modes : List Int} {w : World} (h : IsEW g B wb canon esc buf modes w) {sb len cap : Nat}
    (h2 : w.cell? ⟨g, 2, none⟩ = some (.slice (some ⟨sb, 0, none⟩) len cap)) (i : Nat) : w.frozen? ⟨sb, i, none⟩ = false := by
  obtain ⟨hB, bv, sb', len', cap', ms, hg, hown, hsB, hs, _⟩ := h
  have e2 : sb = sb' := by
    rw [blk_cell hg] at h2
    simp at h2
    omega
  subst e2
  exact blk_frozen hs i
set_option maxHeartbeats 800000 in
theorem push_any {g B wb : Nat} {canon esc : Bool} {buf : List UInt8} {modes : List Int} {w : World} (h : IsEW g B wb canon esc buf modes w) (hm : modes.length + 1 ≤ 1000) (m : Int) :
    Calls Tryz.prog 67 #[.pointer (some ⟨g, 0, none⟩), .int .i64 m] w fun e w' => e = .returned (.tuple #[]) ∧ IsEW g B wb canon esc buf (modes ++ [m]) w' ∧ EStep B w w' := by
  go_enter Tryz.func67, Tryz.ntmps67
  go_wp2_with (go_at_call 95; refine (adv_any h hm).mono ?_; rintro e w1 ⟨rfl, x, h1, s1⟩; refine Hid.out ?_)
  refine Lib.hid ?_
  obtain ⟨sb, len, cap, h2, h3, hf, hs⟩ := h1.top
  have hz := h1.unfrozen h2 modes.length
  have H1 := Lib.hid h1
  have S1 := Lib.hid s1
  have H := Lib.hid h
  clear h1 s1 h
  go_wp2
  go_region
  all_goals
    go_wp2
    go_end0
    exact ⟨rfl, (H1.out.setTop h2 m 1).1, S1.out.trans (H1.out.setTop h2 m 1).2⟩
/-- The writer with fewer modes. -/
theorem IsEW.back {g B wb : Nat} {canon esc : Bool} {buf : List UInt8} {modes more : List Int} {w : World} (h : IsEW g B wb canon esc buf (modes ++ more) w) (hp : 0 < modes.length) (n : Nat) :
    IsEW g B wb canon esc buf modes ((w.drewN n).setCell ⟨g, 3, none⟩ (.int .i64 ((modes.length - 1 : Nat) : Int))) ∧ EStep B w ((w.drewN n).setCell ⟨g, 3, none⟩ (.int .i64 ((modes.length - 1 : Nat) : Int))) := by
  obtain ⟨hB, bv, sb, len, cap, ms, hg, hown, hsB, hs, hmsl, hlc, hl, hcc, hpos, hle, hms⟩ := h
  have hne : ¬ sb = g := ne_of_tag hs hg (by decide)
  have hnb : bv.ownBlock ≠ some g := own_ne hown hg (by decide)
  have hg1 : (w.drewN n).heap[g]? = _ := hg
  refine ⟨⟨hB, bv, sb, len, cap, ms, ?_, ?_, hsB, ?_, hmsl, hlc, hl, hcc, hp, by simp at hle; omega, ?_⟩, ((EStep.refl B w).drewN n).set hg1 (by decide) hB 3 _⟩
  · rw [blk_set hg1]
    simp only [List.setIfInBounds_toArray, List.set_cons_succ, List.set_cons_zero]
  · exact ownsRow_of_block hown (fun k hk => Below.heap_setCell (w.drewN n) _ _ k (by rintro rfl; exact hnb hk))
  · exact (Below.heap_setCell (w.drewN n) _ _ sb hne).trans hs
  · intro i hi
    rw [hms i (by simp; omega), List.getElem?_append_left hi]
theorem pop_one {g B wb : Nat} {canon esc : Bool} {buf : List UInt8} {modes : List Int} {m : Int} {w : World} (h : IsEW g B wb canon esc buf (modes ++ [m]) w) (hp : 0 < modes.length) (hm : m = 4 ∨ m = 5) :
    Calls Tryz.prog 103 #[.pointer (some ⟨g, 0, none⟩)] w fun e w' => e = .returned (.tuple #[]) ∧ IsEW g B wb canon esc buf modes w' ∧ EStep B w w' := by
  obtain ⟨sb, len, cap, h2, h3, hf, hs⟩ := h.top
  have hl : len ≤ 1000 := by
    obtain ⟨hB, bv, sb', len', cap', ms, hg, hown, hsB, hs, hmsl, hlc, hl, _⟩ := h
    rw [blk_cell hg] at h2
    simp at h2
    omega
  have hz : w.frozen? ⟨g, 3, none⟩ = false := by
    obtain ⟨hB, bv, sb', len', cap', ms, hg, _⟩ := h
    exact blk_frozen hg 3
  refine (pop_core1 g sb modes.length len cap m w h2 h3 hf (by omega) (by omega) hz hs hm).mono ?_
  rintro e w' ⟨rfl, n, rfl⟩
  have := h.back hp n
  rw [show ((modes.length - 1 : Nat) : Int) = (modes.length : Int) - 1 from by omega] at this
  exact ⟨rfl, this⟩
theorem pop_two {g B wb : Nat} {canon esc : Bool} {buf : List UInt8} {modes : List Int} {m x : Int} {w : World} (h : IsEW g B wb canon esc buf (modes ++ [x, m]) w) (hp : 0 < modes.length) (hm : m = 2 ∨ m = 3 ∨ m = 6) :
    Calls Tryz.prog 103 #[.pointer (some ⟨g, 0, none⟩)] w fun e w' => e = .returned (.tuple #[]) ∧ IsEW g B wb canon esc buf modes w' ∧ EStep B w w' := by
  have h' : IsEW g B wb canon esc buf ((modes ++ [x]) ++ [m]) w := by simpa using h
  obtain ⟨sb, len, cap, h2, h3, hf, hs⟩ := h'.top
  have hl : len ≤ 1000 := by
    obtain ⟨hB, bv, sb', len', cap', ms, hg, hown, hsB, hs, hmsl, hlc, hl, _⟩ := h
    rw [blk_cell hg] at h2
    simp at h2
    omega
  have hz : w.frozen? ⟨g, 3, none⟩ = false := by
    obtain ⟨hB, bv, sb', len', cap', ms, hg, _⟩ := h
    exact blk_frozen hg 3
  refine (pop_core2 g sb (modes ++ [x]).length len cap m w h2 h3 hf (by simp; omega) (by omega) hz hs hm).mono ?_
  rintro e w' ⟨rfl, n, rfl⟩
  have := h.back hp n
  rw [show ((modes.length - 1 : Nat) : Int) = ((modes ++ [x]).length : Int) - 2 from by simp; omega] at this
  exact ⟨rfl, this⟩
end Go.Proofs.YtpfkgpcnhdkkbaaGreatDoor
