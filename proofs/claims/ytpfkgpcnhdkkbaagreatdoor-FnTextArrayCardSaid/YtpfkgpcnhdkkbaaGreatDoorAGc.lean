/- Readers of bytes: twelve bytes of an identifier; no condition but on sizes. -/
import Derived.Test.YtpfkgpcnhdkkbaaGreatDoorAGa
import Derived.Test.YtpfkgpcnhdkkbaaGreatDoorAMd
import Derived.Test.YtpfkgpcnhdkkbaaGreatDoorAMf
import Derived.Test.YtpfkgpcnhdkkbaaGreatDoorAEw
import Derived.Deep.RegionHeld3
namespace Go.Proofs.YtpfkgpcnhdkkbaaGreatDoor
set_option maxHeartbeats 8000000
open Go.RowKit
set_option linter.unusedVariables false
set_option linter.unusedSimpArgs false
set_option maxRecDepth 100000
def idV (b0 b1 b2 b3 b4 b5 b6 b7 b8 b9 b10 b11 : UInt8) : Value := .agg #[.int .u8 (b0.toNat : Int), .int .u8 (b1.toNat : Int), .int .u8 (b2.toNat : Int), .int .u8 (b3.toNat : Int), .int .u8 (b4.toNat : Int), .int .u8 (b5.toNat : Int), .int .u8 (b6.toNat : Int), .int .u8 (b7.toNat : Int), .int .u8 (b8.toNat : Int), .int .u8 (b9.toNat : Int), .int .u8 (b10.toNat : Int), .int .u8 (b11.toNat : Int)]
theorem set12 (w : World) (h : Nat) (t : TypeId) (z : Value) (hz : w.heap[h]? = some (.cells #[z, z, z, z, z, z, z, z, z, z, z, z] t (0, 0))) (u0 u1 u2 u3 u4 u5 u6 u7 u8 u9 u10 u11 : Value) : (((((((((((((w).setCell ⟨h, 0, none⟩ u0).setCell ⟨h, 1, none⟩ u1).setCell ⟨h, 2, none⟩ u2).setCell ⟨h, 3, none⟩ u3).setCell ⟨h, 4, none⟩ u4).setCell ⟨h, 5, none⟩ u5).setCell ⟨h, 6, none⟩ u6).setCell ⟨h, 7, none⟩ u7).setCell ⟨h, 8, none⟩ u8).setCell ⟨h, 9, none⟩ u9).setCell ⟨h, 10, none⟩ u10).setCell ⟨h, 11, none⟩ u11).heap[h]? = some (.cells #[u0, u1, u2, u3, u4, u5, u6, u7, u8, u9, u10, u11] t (0, 0)) := by
 have k0 : ((w).setCell ⟨h, 0, none⟩ u0).heap[h]? = some (.cells #[u0, z, z, z, z, z, z, z, z, z, z, z] t (0, 0)) := blk_set hz 0 u0
 have k1 : (((w).setCell ⟨h, 0, none⟩ u0).setCell ⟨h, 1, none⟩ u1).heap[h]? = some (.cells #[u0, u1, z, z, z, z, z, z, z, z, z, z] t (0, 0)) := blk_set k0 1 u1
 have k2 : ((((w).setCell ⟨h, 0, none⟩ u0).setCell ⟨h, 1, none⟩ u1).setCell ⟨h, 2, none⟩ u2).heap[h]? = some (.cells #[u0, u1, u2, z, z, z, z, z, z, z, z, z] t (0, 0)) := blk_set k1 2 u2
 have k3 : (((((w).setCell ⟨h, 0, none⟩ u0).setCell ⟨h, 1, none⟩ u1).setCell ⟨h, 2, none⟩ u2).setCell ⟨h, 3, none⟩ u3).heap[h]? = some (.cells #[u0, u1, u2, u3, z, z, z, z, z, z, z, z] t (0, 0)) := blk_set k2 3 u3
 have k4 : ((((((w).setCell ⟨h, 0, none⟩ u0).setCell ⟨h, 1, none⟩ u1).setCell ⟨h, 2, none⟩ u2).setCell ⟨h, 3, none⟩ u3).setCell ⟨h, 4, none⟩ u4).heap[h]? = some (.cells #[u0, u1, u2, u3, u4, z, z, z, z, z, z, z] t (0, 0)) := blk_set k3 4 u4
 have k5 : (((((((w).setCell ⟨h, 0, none⟩ u0).setCell ⟨h, 1, none⟩ u1).setCell ⟨h, 2, none⟩ u2).setCell ⟨h, 3, none⟩ u3).setCell ⟨h, 4, none⟩ u4).setCell ⟨h, 5, none⟩ u5).heap[h]? = some (.cells #[u0, u1, u2, u3, u4, u5, z, z, z, z, z, z] t (0, 0)) := blk_set k4 5 u5
 have k6 : ((((((((w).setCell ⟨h, 0, none⟩ u0).setCell ⟨h, 1, none⟩ u1).setCell ⟨h, 2, none⟩ u2).setCell ⟨h, 3, none⟩ u3).setCell ⟨h, 4, none⟩ u4).setCell ⟨h, 5, none⟩ u5).setCell ⟨h, 6, none⟩ u6).heap[h]? = some (.cells #[u0, u1, u2, u3, u4, u5, u6, z, z, z, z, z] t (0, 0)) := blk_set k5 6 u6
 have k7 : (((((((((w).setCell ⟨h, 0, none⟩ u0).setCell ⟨h, 1, none⟩ u1).setCell ⟨h, 2, none⟩ u2).setCell ⟨h, 3, none⟩ u3).setCell ⟨h, 4, none⟩ u4).setCell ⟨h, 5, none⟩ u5).setCell ⟨h, 6, none⟩ u6).setCell ⟨h, 7, none⟩ u7).heap[h]? = some (.cells #[u0, u1, u2, u3, u4, u5, u6, u7, z, z, z, z] t (0, 0)) := blk_set k6 7 u7
 have k8 : ((((((((((w).setCell ⟨h, 0, none⟩ u0).setCell ⟨h, 1, none⟩ u1).setCell ⟨h, 2, none⟩ u2).setCell ⟨h, 3, none⟩ u3).setCell ⟨h, 4, none⟩ u4).setCell ⟨h, 5, none⟩ u5).setCell ⟨h, 6, none⟩ u6).setCell ⟨h, 7, none⟩ u7).setCell ⟨h, 8, none⟩ u8).heap[h]? = some (.cells #[u0, u1, u2, u3, u4, u5, u6, u7, u8, z, z, z] t (0, 0)) := blk_set k7 8 u8
 have k9 : (((((((((((w).setCell ⟨h, 0, none⟩ u0).setCell ⟨h, 1, none⟩ u1).setCell ⟨h, 2, none⟩ u2).setCell ⟨h, 3, none⟩ u3).setCell ⟨h, 4, none⟩ u4).setCell ⟨h, 5, none⟩ u5).setCell ⟨h, 6, none⟩ u6).setCell ⟨h, 7, none⟩ u7).setCell ⟨h, 8, none⟩ u8).setCell ⟨h, 9, none⟩ u9).heap[h]? = some (.cells #[u0, u1, u2, u3, u4, u5, u6, u7, u8, u9, z, z] t (0, 0)) := blk_set k8 9 u9
 have k10 : ((((((((((((w).setCell ⟨h, 0, none⟩ u0).setCell ⟨h, 1, none⟩ u1).setCell ⟨h, 2, none⟩ u2).setCell ⟨h, 3, none⟩ u3).setCell ⟨h, 4, none⟩ u4).setCell ⟨h, 5, none⟩ u5).setCell ⟨h, 6, none⟩ u6).setCell ⟨h, 7, none⟩ u7).setCell ⟨h, 8, none⟩ u8).setCell ⟨h, 9, none⟩ u9).setCell ⟨h, 10, none⟩ u10).heap[h]? = some (.cells #[u0, u1, u2, u3, u4, u5, u6, u7, u8, u9, u10, z] t (0, 0)) := blk_set k9 10 u10
 have k11 : (((((((((((((w).setCell ⟨h, 0, none⟩ u0).setCell ⟨h, 1, none⟩ u1).setCell ⟨h, 2, none⟩ u2).setCell ⟨h, 3, none⟩ u3).setCell ⟨h, 4, none⟩ u4).setCell ⟨h, 5, none⟩ u5).setCell ⟨h, 6, none⟩ u6).setCell ⟨h, 7, none⟩ u7).setCell ⟨h, 8, none⟩ u8).setCell ⟨h, 9, none⟩ u9).setCell ⟨h, 10, none⟩ u10).setCell ⟨h, 11, none⟩ u11).heap[h]? = some (.cells #[u0, u1, u2, u3, u4, u5, u6, u7, u8, u9, u10, u11] t (0, 0)) := blk_set k10 11 u11
 exact k11
theorem readID_core (b0 b1 b2 b3 b4 b5 b6 b7 b8 b9 b10 b11 : UInt8) (g o n c : Nat) (w : World) (hn : 12 ≤ n) (hc : n < c) (hcb : c ≤ 9223372036854775807) (hr : RD w g o [b0, b1, b2, b3, b4, b5, b6, b7, b8, b9, b10, b11]) :
  Calls Tryz.prog 181 #[.slice (some ⟨g, o, none⟩) n c] w fun e w' => e = .returned (.tuple #[idV b0 b1 b2 b3 b4 b5 b6 b7 b8 b9 b10 b11, .slice (some ⟨g, o + 12, none⟩) (n - 12) (c - 12), .bool true]) ∧ Below w.heap.size w w' := by
 obtain ⟨Y, hY⟩ : ∃ Y, (w.alloc (.cells #[.int .u8 0, .int .u8 0, .int .u8 0, .int .u8 0, .int .u8 0, .int .u8 0, .int .u8 0, .int .u8 0, .int .u8 0, .int .u8 0, .int .u8 0, .int .u8 0] 165)).alloc (.cells #[.int .u8 0, .int .u8 0, .int .u8 0, .int .u8 0, .int .u8 0, .int .u8 0, .int .u8 0, .int .u8 0, .int .u8 0, .int .u8 0, .int .u8 0, .int .u8 0] 165) = Y := ⟨_, rfl⟩
 have hXb : Below w.heap.size w (w.alloc (.cells #[.int .u8 0, .int .u8 0, .int .u8 0, .int .u8 0, .int .u8 0, .int .u8 0, .int .u8 0, .int .u8 0, .int .u8 0, .int .u8 0, .int .u8 0, .int .u8 0] 165)) := below_al w _
 have hYb0 : Below (w.alloc (.cells #[.int .u8 0, .int .u8 0, .int .u8 0, .int .u8 0, .int .u8 0, .int .u8 0, .int .u8 0, .int .u8 0, .int .u8 0, .int .u8 0, .int .u8 0, .int .u8 0] 165)).heap.size (w.alloc (.cells #[.int .u8 0, .int .u8 0, .int .u8 0, .int .u8 0, .int .u8 0, .int .u8 0, .int .u8 0, .int .u8 0, .int .u8 0, .int .u8 0, .int .u8 0, .int .u8 0] 165)) Y := hY ▸ below_al _ _
 have hYb : Below w.heap.size w Y := hXb.trans (hYb0.mono hXb.size)
 have hYs : Y.heap.size = w.heap.size + 2 := by rw [← hY]; simp
 have hY1 : Y.heap[w.heap.size + 1]? = some (.cells #[.int .u8 0, .int .u8 0, .int .u8 0, .int .u8 0, .int .u8 0, .int .u8 0, .int .u8 0, .int .u8 0, .int .u8 0, .int .u8 0, .int .u8 0, .int .u8 0] 165 (0, 0)) := by
  have := heap_alloc_new (w.alloc (.cells #[.int .u8 0, .int .u8 0, .int .u8 0, .int .u8 0, .int .u8 0, .int .u8 0, .int .u8 0, .int .u8 0, .int .u8 0, .int .u8 0, .int .u8 0, .int .u8 0] 165)) (.cells #[.int .u8 0, .int .u8 0, .int .u8 0, .int .u8 0, .int .u8 0, .int .u8 0, .int .u8 0, .int .u8 0, .int .u8 0, .int .u8 0, .int .u8 0, .int .u8 0] 165)
  rw [hY] at this
  rwa [show (w.alloc (.cells #[.int .u8 0, .int .u8 0, .int .u8 0, .int .u8 0, .int .u8 0, .int .u8 0, .int .u8 0, .int .u8 0, .int .u8 0, .int .u8 0, .int .u8 0, .int .u8 0] 165)).heap.size = w.heap.size + 1 from by simp] at this
 have hY0 : Y.heap[w.heap.size]? = some (.cells #[.int .u8 0, .int .u8 0, .int .u8 0, .int .u8 0, .int .u8 0, .int .u8 0, .int .u8 0, .int .u8 0, .int .u8 0, .int .u8 0, .int .u8 0, .int .u8 0] 165 (0, 0)) := by
  rw [hYb0.block w.heap.size (by simp)]
  exact heap_alloc_new w _
 have HR := LH (fun (W : World) (hW : Below Y.heap.size Y W) => hr.lat (hYb.trans (hW.mono hYb.size)))
 have HY := LH hY
 have HY0 := LH hY0
 have HY1 := LH hY1
 have HYB := LH hYb
 have HYS := LH hYs
 clear hr hY hXb hYb0 hYb hYs hY0 hY1
 go_enter Tryz.func181, Tryz.ntmps181
 go_wp2_with fail
 rw [HY.out]
 refine wp_region_cls_tail (C := fun W => Below Y.heap.size Y W) 4 (by kernel_rfl) (by kernel_rfl) (below_q (Below.refl _ _) 1) ?_
 refine quiet_val (.slice (some ⟨w.heap.size + 1, 0, none⟩) 12 12) (by kernel_rfl) (fun W hW => by go_simp) ?_
 refine quiet_val (.slice (some ⟨g, o, none⟩) n c) (by kernel_rfl) (fun W hW => by go_simp) ?_
 refine quiet_val (.int .i64 12) (by kernel_rfl) (fun W hW => by go_simp) ?_
 refine quiet_val (.slice (some ⟨g, o, none⟩) 12 c) (by kernel_rfl) (fun W hW => by go_simp; omega) ?_
 refine wpQuiet_nil ?_
 intro W hW
 refine wpList_copy_splice rfl (.tmp 13) (.tmp 16) 23 23 rfl 5 Tryz.underlying23 info5s _ _ _ _ _ _ rfl rfl (w.heap.size + 1) 0 ((List.replicate 12 (0 : Int)).map (Value.int .u8)) 165 ?c1 (Lib.byteCells [b0, b1, b2, b3, b4, b5, b6, b7, b8, b9, b10, b11]) ?c2 ?c3 ?c4 ?c5 (w.heap.size + 1) Y ?c6 (Nat.le_refl _) ?_
 case c1 => exact (hW.block _ (by have := HYS.out; omega)).trans HY1.out
 case c2 => rfl
 case c3 =>
  intro _
  refine ⟨rfl, _, rfl, fun j v hv => ?_⟩
  simp only [Lib.byteCells, List.getElem?_map, Option.map_eq_some_iff] at hv
  obtain ⟨b, hb, rfl⟩ := hv
  rw [addrQ]
  exact HR.out W hW j b hb
 case c4 => simp [Lib.byteCells]
 case c5 => exact Lib.byteCells_one _
 case c6 => exact hW.mono (by have := HYS.out; omega)
 intro w1 hw1 hb1
 have qk : w1.heap[w.heap.size + 1]? = some (.cells #[.int .u8 (b0.toNat : Int), .int .u8 (b1.toNat : Int), .int .u8 (b2.toNat : Int), .int .u8 (b3.toNat : Int), .int .u8 (b4.toNat : Int), .int .u8 (b5.toNat : Int), .int .u8 (b6.toNat : Int), .int .u8 (b7.toNat : Int), .int .u8 (b8.toNat : Int), .int .u8 (b9.toNat : Int), .int .u8 (b10.toNat : Int), .int .u8 (b11.toNat : Int)] 165 (0, 0)) := hw1.out
 have zk : w1.heap[w.heap.size]? = some (.cells #[.int .u8 0, .int .u8 0, .int .u8 0, .int .u8 0, .int .u8 0, .int .u8 0, .int .u8 0, .int .u8 0, .int .u8 0, .int .u8 0, .int .u8 0, .int .u8 0] 165 (0, 0)) := (hb1.block _ (by omega)).trans HY0.out
 have HB := LH (HYB.out.trans (hb1.mono (by omega)))
 clear hw1 hb1 hW
 have q0 : w1.cell? ⟨w.heap.size + 1, 0, none⟩ = some (.int .u8 (b0.toNat : Int)) := by rw [blk_cell qk]; rfl
 have q1 : w1.cell? ⟨w.heap.size + 1, 1, none⟩ = some (.int .u8 (b1.toNat : Int)) := by rw [blk_cell qk]; rfl
 have q2 : w1.cell? ⟨w.heap.size + 1, 2, none⟩ = some (.int .u8 (b2.toNat : Int)) := by rw [blk_cell qk]; rfl
 have q3 : w1.cell? ⟨w.heap.size + 1, 3, none⟩ = some (.int .u8 (b3.toNat : Int)) := by rw [blk_cell qk]; rfl
 have q4 : w1.cell? ⟨w.heap.size + 1, 4, none⟩ = some (.int .u8 (b4.toNat : Int)) := by rw [blk_cell qk]; rfl
 have q5 : w1.cell? ⟨w.heap.size + 1, 5, none⟩ = some (.int .u8 (b5.toNat : Int)) := by rw [blk_cell qk]; rfl
 have q6 : w1.cell? ⟨w.heap.size + 1, 6, none⟩ = some (.int .u8 (b6.toNat : Int)) := by rw [blk_cell qk]; rfl
 have q7 : w1.cell? ⟨w.heap.size + 1, 7, none⟩ = some (.int .u8 (b7.toNat : Int)) := by rw [blk_cell qk]; rfl
 have q8 : w1.cell? ⟨w.heap.size + 1, 8, none⟩ = some (.int .u8 (b8.toNat : Int)) := by rw [blk_cell qk]; rfl
 have q9 : w1.cell? ⟨w.heap.size + 1, 9, none⟩ = some (.int .u8 (b9.toNat : Int)) := by rw [blk_cell qk]; rfl
 have q10 : w1.cell? ⟨w.heap.size + 1, 10, none⟩ = some (.int .u8 (b10.toNat : Int)) := by rw [blk_cell qk]; rfl
 have q11 : w1.cell? ⟨w.heap.size + 1, 11, none⟩ = some (.int .u8 (b11.toNat : Int)) := by rw [blk_cell qk]; rfl
 have s0 : w1.cell? ⟨w.heap.size, 0, none⟩ = some (.int .u8 0) := by rw [blk_cell zk]; rfl
 have s1 : w1.cell? ⟨w.heap.size, 1, none⟩ = some (.int .u8 0) := by rw [blk_cell zk]; rfl
 have s2 : w1.cell? ⟨w.heap.size, 2, none⟩ = some (.int .u8 0) := by rw [blk_cell zk]; rfl
 have s3 : w1.cell? ⟨w.heap.size, 3, none⟩ = some (.int .u8 0) := by rw [blk_cell zk]; rfl
 have s4 : w1.cell? ⟨w.heap.size, 4, none⟩ = some (.int .u8 0) := by rw [blk_cell zk]; rfl
 have s5 : w1.cell? ⟨w.heap.size, 5, none⟩ = some (.int .u8 0) := by rw [blk_cell zk]; rfl
 have s6 : w1.cell? ⟨w.heap.size, 6, none⟩ = some (.int .u8 0) := by rw [blk_cell zk]; rfl
 have s7 : w1.cell? ⟨w.heap.size, 7, none⟩ = some (.int .u8 0) := by rw [blk_cell zk]; rfl
 have s8 : w1.cell? ⟨w.heap.size, 8, none⟩ = some (.int .u8 0) := by rw [blk_cell zk]; rfl
 have s9 : w1.cell? ⟨w.heap.size, 9, none⟩ = some (.int .u8 0) := by rw [blk_cell zk]; rfl
 have s10 : w1.cell? ⟨w.heap.size, 10, none⟩ = some (.int .u8 0) := by rw [blk_cell zk]; rfl
 have s11 : w1.cell? ⟨w.heap.size, 11, none⟩ = some (.int .u8 0) := by rw [blk_cell zk]; rfl
 have z := fun i => blk_frozen zk i
 go_wp2_with fail
 go_simp
 go_region
 have pk := set12 w1 w.heap.size 165 (.int .u8 0) zk (.int .u8 (b0.toNat : Int)) (.int .u8 (b1.toNat : Int)) (.int .u8 (b2.toNat : Int)) (.int .u8 (b3.toNat : Int)) (.int .u8 (b4.toNat : Int)) (.int .u8 (b5.toNat : Int)) (.int .u8 (b6.toNat : Int)) (.int .u8 (b7.toNat : Int)) (.int .u8 (b8.toNat : Int)) (.int .u8 (b9.toNat : Int)) (.int .u8 (b10.toNat : Int)) (.int .u8 (b11.toNat : Int))
 have HV := LH (show Below w.heap.size w (((((((((((((w1).setCell ⟨w.heap.size, 0, none⟩ (.int .u8 (b0.toNat : Int))).setCell ⟨w.heap.size, 1, none⟩ (.int .u8 (b1.toNat : Int))).setCell ⟨w.heap.size, 2, none⟩ (.int .u8 (b2.toNat : Int))).setCell ⟨w.heap.size, 3, none⟩ (.int .u8 (b3.toNat : Int))).setCell ⟨w.heap.size, 4, none⟩ (.int .u8 (b4.toNat : Int))).setCell ⟨w.heap.size, 5, none⟩ (.int .u8 (b5.toNat : Int))).setCell ⟨w.heap.size, 6, none⟩ (.int .u8 (b6.toNat : Int))).setCell ⟨w.heap.size, 7, none⟩ (.int .u8 (b7.toNat : Int))).setCell ⟨w.heap.size, 8, none⟩ (.int .u8 (b8.toNat : Int))).setCell ⟨w.heap.size, 9, none⟩ (.int .u8 (b9.toNat : Int))).setCell ⟨w.heap.size, 10, none⟩ (.int .u8 (b10.toNat : Int))).setCell ⟨w.heap.size, 11, none⟩ (.int .u8 (b11.toNat : Int))).drew from below_q (Below.setCell (p := ⟨w.heap.size, 11, none⟩) (Below.setCell (p := ⟨w.heap.size, 10, none⟩) (Below.setCell (p := ⟨w.heap.size, 9, none⟩) (Below.setCell (p := ⟨w.heap.size, 8, none⟩) (Below.setCell (p := ⟨w.heap.size, 7, none⟩) (Below.setCell (p := ⟨w.heap.size, 6, none⟩) (Below.setCell (p := ⟨w.heap.size, 5, none⟩) (Below.setCell (p := ⟨w.heap.size, 4, none⟩) (Below.setCell (p := ⟨w.heap.size, 3, none⟩) (Below.setCell (p := ⟨w.heap.size, 2, none⟩) (Below.setCell (p := ⟨w.heap.size, 1, none⟩) (Below.setCell (p := ⟨w.heap.size, 0, none⟩) (HB.out) (Nat.le_refl _) _) (Nat.le_refl _) _) (Nat.le_refl _) _) (Nat.le_refl _) _) (Nat.le_refl _) _) (Nat.le_refl _) _) (Nat.le_refl _) _) (Nat.le_refl _) _) (Nat.le_refl _) _) (Nat.le_refl _) _) (Nat.le_refl _) _) (Nat.le_refl _) _) 1)
 obtain ⟨V, hV⟩ : ∃ V, ((((((((((((w1).setCell ⟨w.heap.size, 0, none⟩ (.int .u8 (b0.toNat : Int))).setCell ⟨w.heap.size, 1, none⟩ (.int .u8 (b1.toNat : Int))).setCell ⟨w.heap.size, 2, none⟩ (.int .u8 (b2.toNat : Int))).setCell ⟨w.heap.size, 3, none⟩ (.int .u8 (b3.toNat : Int))).setCell ⟨w.heap.size, 4, none⟩ (.int .u8 (b4.toNat : Int))).setCell ⟨w.heap.size, 5, none⟩ (.int .u8 (b5.toNat : Int))).setCell ⟨w.heap.size, 6, none⟩ (.int .u8 (b6.toNat : Int))).setCell ⟨w.heap.size, 7, none⟩ (.int .u8 (b7.toNat : Int))).setCell ⟨w.heap.size, 8, none⟩ (.int .u8 (b8.toNat : Int))).setCell ⟨w.heap.size, 9, none⟩ (.int .u8 (b9.toNat : Int))).setCell ⟨w.heap.size, 10, none⟩ (.int .u8 (b10.toNat : Int))).setCell ⟨w.heap.size, 11, none⟩ (.int .u8 (b11.toNat : Int)) = V := ⟨_, rfl⟩
 rw [hV] at pk HV
 try rw [hV]
 clear q0 q1 q2 q3 q4 q5 q6 q7 q8 q9 q10 q11 s0 s1 s2 s3 s4 s5 s6 s7 s8 s9 s10 s11 qk zk hV
 have pk2 : V.drew.heap[w.heap.size]? = some (.cells #[.int .u8 (b0.toNat : Int), .int .u8 (b1.toNat : Int), .int .u8 (b2.toNat : Int), .int .u8 (b3.toNat : Int), .int .u8 (b4.toNat : Int), .int .u8 (b5.toNat : Int), .int .u8 (b6.toNat : Int), .int .u8 (b7.toNat : Int), .int .u8 (b8.toNat : Int), .int .u8 (b9.toNat : Int), .int .u8 (b10.toNat : Int), .int .u8 (b11.toNat : Int)] 165 (0, 0)) := pk
 have p0 : V.drew.cell? ⟨w.heap.size, 0, none⟩ = some (.int .u8 (b0.toNat : Int)) := by rw [blk_cell pk2]; rfl
 have p1 : V.drew.cell? ⟨w.heap.size, 1, none⟩ = some (.int .u8 (b1.toNat : Int)) := by rw [blk_cell pk2]; rfl
 have p2 : V.drew.cell? ⟨w.heap.size, 2, none⟩ = some (.int .u8 (b2.toNat : Int)) := by rw [blk_cell pk2]; rfl
 have p3 : V.drew.cell? ⟨w.heap.size, 3, none⟩ = some (.int .u8 (b3.toNat : Int)) := by rw [blk_cell pk2]; rfl
 have p4 : V.drew.cell? ⟨w.heap.size, 4, none⟩ = some (.int .u8 (b4.toNat : Int)) := by rw [blk_cell pk2]; rfl
 have p5 : V.drew.cell? ⟨w.heap.size, 5, none⟩ = some (.int .u8 (b5.toNat : Int)) := by rw [blk_cell pk2]; rfl
 have p6 : V.drew.cell? ⟨w.heap.size, 6, none⟩ = some (.int .u8 (b6.toNat : Int)) := by rw [blk_cell pk2]; rfl
 have p7 : V.drew.cell? ⟨w.heap.size, 7, none⟩ = some (.int .u8 (b7.toNat : Int)) := by rw [blk_cell pk2]; rfl
 have p8 : V.drew.cell? ⟨w.heap.size, 8, none⟩ = some (.int .u8 (b8.toNat : Int)) := by rw [blk_cell pk2]; rfl
 have p9 : V.drew.cell? ⟨w.heap.size, 9, none⟩ = some (.int .u8 (b9.toNat : Int)) := by rw [blk_cell pk2]; rfl
 have p10 : V.drew.cell? ⟨w.heap.size, 10, none⟩ = some (.int .u8 (b10.toNat : Int)) := by rw [blk_cell pk2]; rfl
 have p11 : V.drew.cell? ⟨w.heap.size, 11, none⟩ = some (.int .u8 (b11.toNat : Int)) := by rw [blk_cell pk2]; rfl
 go_wp2_with fail
 (try simp only [Exit.inBlock, Exit.then])
 refine bodyPost_ret (v := ?_) (by simp [results, Tryz.results181, go_sem, p0, p1, p2, p3, p4, p5, p6, p7, p8, p9, p10, p11]; rfl) rfl ?_
 exact ⟨rfl, HV.out⟩
set_option maxHeartbeats 8000000
theorem ok118 (b0 b1 b2 b3 b4 b5 b6 b7 b8 b9 b10 b11 : UInt8) (A : Option Addr) (n c : Nat) (B9 : Option Addr) (p9 q9 : Nat) (w : World) (h : Rd 181 (.slice A n c) w (.tuple #[idV b0 b1 b2 b3 b4 b5 b6 b7 b8 b9 b10 b11, .slice B9 p9 q9, .bool true])) : Rd 118 (.agg #[.int .u8 7, .slice A n c]) w (.tuple #[idV b0 b1 b2 b3 b4 b5 b6 b7 b8 b9 b10 b11, .bool true]) := by
 intro W hW
 obtain ⟨Y, hY⟩ : ∃ Y, (W.alloc (.cells #[.int .u8 7, .slice A n c] 126)).alloc (.cells #[.int .u8 0, .int .u8 0, .int .u8 0, .int .u8 0, .int .u8 0, .int .u8 0, .int .u8 0, .int .u8 0, .int .u8 0, .int .u8 0, .int .u8 0, .int .u8 0] 165) = Y := ⟨_, rfl⟩
 have hXb : Below W.heap.size W (W.alloc (.cells #[.int .u8 7, .slice A n c] 126)) := below_al W _
 have hYb0 : Below (W.alloc (.cells #[.int .u8 7, .slice A n c] 126)).heap.size (W.alloc (.cells #[.int .u8 7, .slice A n c] 126)) Y := hY ▸ below_al _ _
 have hYb : Below W.heap.size W Y := hXb.trans (hYb0.mono hXb.size)
 have hYs : Y.heap.size = W.heap.size + 2 := by rw [← hY]; simp
 have hY1 : Y.heap[W.heap.size + 1]? = some (.cells #[.int .u8 0, .int .u8 0, .int .u8 0, .int .u8 0, .int .u8 0, .int .u8 0, .int .u8 0, .int .u8 0, .int .u8 0, .int .u8 0, .int .u8 0, .int .u8 0] 165 (0, 0)) := by
  have := heap_alloc_new (W.alloc (.cells #[.int .u8 7, .slice A n c] 126)) (.cells #[.int .u8 0, .int .u8 0, .int .u8 0, .int .u8 0, .int .u8 0, .int .u8 0, .int .u8 0, .int .u8 0, .int .u8 0, .int .u8 0, .int .u8 0, .int .u8 0] 165)
  rw [hY] at this
  rwa [show (W.alloc (.cells #[.int .u8 7, .slice A n c] 126)).heap.size = W.heap.size + 1 from by simp] at this
 have hY0 : Y.heap[W.heap.size]? = some (.cells #[.int .u8 7, .slice A n c] 126 (0, 0)) := by
  rw [hYb0.block W.heap.size (by simp)]
  exact heap_alloc_new W _
 have y0 : Y.cell? ⟨W.heap.size, 0, none⟩ = some (.int .u8 7) := by rw [blk_cell hY0]; rfl
 have y1 : Y.cell? ⟨W.heap.size, 1, none⟩ = some (.slice A n c) := by rw [blk_cell hY0]; rfl
 have HC := LH (h Y (hW.trans (hYb.mono hW.size)))
 have HY := LH hY
 have HY1 := LH hY1
 have HYB := LH hYb
 have HYS := LH hYs
 unfold idV at HC ⊢
 clear h hW hY hXb hYb0 hYb hYs hY1 hY0
 go_enter Tryz.func118, Tryz.ntmps118
 go_upto_region 1 with fail
 rw [HY.out]
 go_wp2_with (first | (go_at_call 181; refine HC.out.mono ?_; rintro e w1 ⟨rfl, hb1⟩) | (with_reducible show wpList _ _ _ (⟨some 21, _, _, _, _, _⟩ :: _) _ _; refine Hid.out ?_))
 refine LH ?_
 have hsz : W.heap.size + 2 ≤ w1.heap.size := by have := hb1.size; have := HYS.out; omega
 have pk := heap_alloc_new w1 (.cells #[.int .u8 (b0.toNat : Int), .int .u8 (b1.toNat : Int), .int .u8 (b2.toNat : Int), .int .u8 (b3.toNat : Int), .int .u8 (b4.toNat : Int), .int .u8 (b5.toNat : Int), .int .u8 (b6.toNat : Int), .int .u8 (b7.toNat : Int), .int .u8 (b8.toNat : Int), .int .u8 (b9.toNat : Int), .int .u8 (b10.toNat : Int), .int .u8 (b11.toNat : Int)] 165)
 have hv : Below w1.heap.size w1 (w1.alloc (.cells #[.int .u8 (b0.toNat : Int), .int .u8 (b1.toNat : Int), .int .u8 (b2.toNat : Int), .int .u8 (b3.toNat : Int), .int .u8 (b4.toNat : Int), .int .u8 (b5.toNat : Int), .int .u8 (b6.toNat : Int), .int .u8 (b7.toNat : Int), .int .u8 (b8.toNat : Int), .int .u8 (b9.toNat : Int), .int .u8 (b10.toNat : Int), .int .u8 (b11.toNat : Int)] 165)) := below_al w1 _
 obtain ⟨V, hV⟩ : ∃ V, w1.alloc (.cells #[.int .u8 (b0.toNat : Int), .int .u8 (b1.toNat : Int), .int .u8 (b2.toNat : Int), .int .u8 (b3.toNat : Int), .int .u8 (b4.toNat : Int), .int .u8 (b5.toNat : Int), .int .u8 (b6.toNat : Int), .int .u8 (b7.toNat : Int), .int .u8 (b8.toNat : Int), .int .u8 (b9.toNat : Int), .int .u8 (b10.toNat : Int), .int .u8 (b11.toNat : Int)] 165) = V := ⟨_, rfl⟩
 rw [hV] at pk hv ⊢
 have zk : V.heap[W.heap.size + 1]? = some (.cells #[.int .u8 0, .int .u8 0, .int .u8 0, .int .u8 0, .int .u8 0, .int .u8 0, .int .u8 0, .int .u8 0, .int .u8 0, .int .u8 0, .int .u8 0, .int .u8 0] 165 (0, 0)) := (hv.block _ (by omega)).trans ((hb1.block _ (by have := HYS.out; omega)).trans HY1.out)
 have HB := LH (HYB.out.trans ((hb1.trans (hv.mono hb1.size)).mono HYB.out.size))
 have p0 : V.cell? ⟨w1.heap.size, 0, none⟩ = some (.int .u8 (b0.toNat : Int)) := by rw [blk_cell pk]; rfl
 have p1 : V.cell? ⟨w1.heap.size, 1, none⟩ = some (.int .u8 (b1.toNat : Int)) := by rw [blk_cell pk]; rfl
 have p2 : V.cell? ⟨w1.heap.size, 2, none⟩ = some (.int .u8 (b2.toNat : Int)) := by rw [blk_cell pk]; rfl
 have p3 : V.cell? ⟨w1.heap.size, 3, none⟩ = some (.int .u8 (b3.toNat : Int)) := by rw [blk_cell pk]; rfl
 have p4 : V.cell? ⟨w1.heap.size, 4, none⟩ = some (.int .u8 (b4.toNat : Int)) := by rw [blk_cell pk]; rfl
 have p5 : V.cell? ⟨w1.heap.size, 5, none⟩ = some (.int .u8 (b5.toNat : Int)) := by rw [blk_cell pk]; rfl
 have p6 : V.cell? ⟨w1.heap.size, 6, none⟩ = some (.int .u8 (b6.toNat : Int)) := by rw [blk_cell pk]; rfl
 have p7 : V.cell? ⟨w1.heap.size, 7, none⟩ = some (.int .u8 (b7.toNat : Int)) := by rw [blk_cell pk]; rfl
 have p8 : V.cell? ⟨w1.heap.size, 8, none⟩ = some (.int .u8 (b8.toNat : Int)) := by rw [blk_cell pk]; rfl
 have p9 : V.cell? ⟨w1.heap.size, 9, none⟩ = some (.int .u8 (b9.toNat : Int)) := by rw [blk_cell pk]; rfl
 have p10 : V.cell? ⟨w1.heap.size, 10, none⟩ = some (.int .u8 (b10.toNat : Int)) := by rw [blk_cell pk]; rfl
 have p11 : V.cell? ⟨w1.heap.size, 11, none⟩ = some (.int .u8 (b11.toNat : Int)) := by rw [blk_cell pk]; rfl
 have s0 : V.cell? ⟨W.heap.size + 1, 0, none⟩ = some (.int .u8 0) := by rw [blk_cell zk]; rfl
 have s1 : V.cell? ⟨W.heap.size + 1, 1, none⟩ = some (.int .u8 0) := by rw [blk_cell zk]; rfl
 have s2 : V.cell? ⟨W.heap.size + 1, 2, none⟩ = some (.int .u8 0) := by rw [blk_cell zk]; rfl
 have s3 : V.cell? ⟨W.heap.size + 1, 3, none⟩ = some (.int .u8 0) := by rw [blk_cell zk]; rfl
 have s4 : V.cell? ⟨W.heap.size + 1, 4, none⟩ = some (.int .u8 0) := by rw [blk_cell zk]; rfl
 have s5 : V.cell? ⟨W.heap.size + 1, 5, none⟩ = some (.int .u8 0) := by rw [blk_cell zk]; rfl
 have s6 : V.cell? ⟨W.heap.size + 1, 6, none⟩ = some (.int .u8 0) := by rw [blk_cell zk]; rfl
 have s7 : V.cell? ⟨W.heap.size + 1, 7, none⟩ = some (.int .u8 0) := by rw [blk_cell zk]; rfl
 have s8 : V.cell? ⟨W.heap.size + 1, 8, none⟩ = some (.int .u8 0) := by rw [blk_cell zk]; rfl
 have s9 : V.cell? ⟨W.heap.size + 1, 9, none⟩ = some (.int .u8 0) := by rw [blk_cell zk]; rfl
 have s10 : V.cell? ⟨W.heap.size + 1, 10, none⟩ = some (.int .u8 0) := by rw [blk_cell zk]; rfl
 have s11 : V.cell? ⟨W.heap.size + 1, 11, none⟩ = some (.int .u8 0) := by rw [blk_cell zk]; rfl
 have z := fun i => blk_frozen zk i
 have HP := LH pk
 have HZ := LH zk
 clear hb1 hsz hv hV pk zk
 go_wp2_with fail
 have pk := set12 V (W.heap.size + 1) 165 (.int .u8 0) HZ.out (.int .u8 (b0.toNat : Int)) (.int .u8 (b1.toNat : Int)) (.int .u8 (b2.toNat : Int)) (.int .u8 (b3.toNat : Int)) (.int .u8 (b4.toNat : Int)) (.int .u8 (b5.toNat : Int)) (.int .u8 (b6.toNat : Int)) (.int .u8 (b7.toNat : Int)) (.int .u8 (b8.toNat : Int)) (.int .u8 (b9.toNat : Int)) (.int .u8 (b10.toNat : Int)) (.int .u8 (b11.toNat : Int))
 have HV := LH (show Below W.heap.size W (((((((((((((V).setCell ⟨W.heap.size + 1, 0, none⟩ (.int .u8 (b0.toNat : Int))).setCell ⟨W.heap.size + 1, 1, none⟩ (.int .u8 (b1.toNat : Int))).setCell ⟨W.heap.size + 1, 2, none⟩ (.int .u8 (b2.toNat : Int))).setCell ⟨W.heap.size + 1, 3, none⟩ (.int .u8 (b3.toNat : Int))).setCell ⟨W.heap.size + 1, 4, none⟩ (.int .u8 (b4.toNat : Int))).setCell ⟨W.heap.size + 1, 5, none⟩ (.int .u8 (b5.toNat : Int))).setCell ⟨W.heap.size + 1, 6, none⟩ (.int .u8 (b6.toNat : Int))).setCell ⟨W.heap.size + 1, 7, none⟩ (.int .u8 (b7.toNat : Int))).setCell ⟨W.heap.size + 1, 8, none⟩ (.int .u8 (b8.toNat : Int))).setCell ⟨W.heap.size + 1, 9, none⟩ (.int .u8 (b9.toNat : Int))).setCell ⟨W.heap.size + 1, 10, none⟩ (.int .u8 (b10.toNat : Int))).setCell ⟨W.heap.size + 1, 11, none⟩ (.int .u8 (b11.toNat : Int))) from Below.setCell (p := ⟨W.heap.size + 1, 11, none⟩) (Below.setCell (p := ⟨W.heap.size + 1, 10, none⟩) (Below.setCell (p := ⟨W.heap.size + 1, 9, none⟩) (Below.setCell (p := ⟨W.heap.size + 1, 8, none⟩) (Below.setCell (p := ⟨W.heap.size + 1, 7, none⟩) (Below.setCell (p := ⟨W.heap.size + 1, 6, none⟩) (Below.setCell (p := ⟨W.heap.size + 1, 5, none⟩) (Below.setCell (p := ⟨W.heap.size + 1, 4, none⟩) (Below.setCell (p := ⟨W.heap.size + 1, 3, none⟩) (Below.setCell (p := ⟨W.heap.size + 1, 2, none⟩) (Below.setCell (p := ⟨W.heap.size + 1, 1, none⟩) (Below.setCell (p := ⟨W.heap.size + 1, 0, none⟩) (HB.out) (Nat.le_succ _) _) (Nat.le_succ _) _) (Nat.le_succ _) _) (Nat.le_succ _) _) (Nat.le_succ _) _) (Nat.le_succ _) _) (Nat.le_succ _) _) (Nat.le_succ _) _) (Nat.le_succ _) _) (Nat.le_succ _) _) (Nat.le_succ _) _) (Nat.le_succ _) _)
 obtain ⟨V2, hV2⟩ : ∃ V2, ((((((((((((V).setCell ⟨W.heap.size + 1, 0, none⟩ (.int .u8 (b0.toNat : Int))).setCell ⟨W.heap.size + 1, 1, none⟩ (.int .u8 (b1.toNat : Int))).setCell ⟨W.heap.size + 1, 2, none⟩ (.int .u8 (b2.toNat : Int))).setCell ⟨W.heap.size + 1, 3, none⟩ (.int .u8 (b3.toNat : Int))).setCell ⟨W.heap.size + 1, 4, none⟩ (.int .u8 (b4.toNat : Int))).setCell ⟨W.heap.size + 1, 5, none⟩ (.int .u8 (b5.toNat : Int))).setCell ⟨W.heap.size + 1, 6, none⟩ (.int .u8 (b6.toNat : Int))).setCell ⟨W.heap.size + 1, 7, none⟩ (.int .u8 (b7.toNat : Int))).setCell ⟨W.heap.size + 1, 8, none⟩ (.int .u8 (b8.toNat : Int))).setCell ⟨W.heap.size + 1, 9, none⟩ (.int .u8 (b9.toNat : Int))).setCell ⟨W.heap.size + 1, 10, none⟩ (.int .u8 (b10.toNat : Int))).setCell ⟨W.heap.size + 1, 11, none⟩ (.int .u8 (b11.toNat : Int)) = V2 := ⟨_, rfl⟩
 rw [hV2] at pk HV ⊢
 clear p0 s0 p1 s1 p2 s2 p3 s3 p4 s4 p5 s5 p6 s6 p7 s7 p8 s8 p9 s9 p10 s10 p11 s11 hV2
 have t0 : V2.cell? ⟨W.heap.size + 1, 0, none⟩ = some (.int .u8 (b0.toNat : Int)) := by rw [blk_cell pk]; rfl
 have t1 : V2.cell? ⟨W.heap.size + 1, 1, none⟩ = some (.int .u8 (b1.toNat : Int)) := by rw [blk_cell pk]; rfl
 have t2 : V2.cell? ⟨W.heap.size + 1, 2, none⟩ = some (.int .u8 (b2.toNat : Int)) := by rw [blk_cell pk]; rfl
 have t3 : V2.cell? ⟨W.heap.size + 1, 3, none⟩ = some (.int .u8 (b3.toNat : Int)) := by rw [blk_cell pk]; rfl
 have t4 : V2.cell? ⟨W.heap.size + 1, 4, none⟩ = some (.int .u8 (b4.toNat : Int)) := by rw [blk_cell pk]; rfl
 have t5 : V2.cell? ⟨W.heap.size + 1, 5, none⟩ = some (.int .u8 (b5.toNat : Int)) := by rw [blk_cell pk]; rfl
 have t6 : V2.cell? ⟨W.heap.size + 1, 6, none⟩ = some (.int .u8 (b6.toNat : Int)) := by rw [blk_cell pk]; rfl
 have t7 : V2.cell? ⟨W.heap.size + 1, 7, none⟩ = some (.int .u8 (b7.toNat : Int)) := by rw [blk_cell pk]; rfl
 have t8 : V2.cell? ⟨W.heap.size + 1, 8, none⟩ = some (.int .u8 (b8.toNat : Int)) := by rw [blk_cell pk]; rfl
 have t9 : V2.cell? ⟨W.heap.size + 1, 9, none⟩ = some (.int .u8 (b9.toNat : Int)) := by rw [blk_cell pk]; rfl
 have t10 : V2.cell? ⟨W.heap.size + 1, 10, none⟩ = some (.int .u8 (b10.toNat : Int)) := by rw [blk_cell pk]; rfl
 have t11 : V2.cell? ⟨W.heap.size + 1, 11, none⟩ = some (.int .u8 (b11.toNat : Int)) := by rw [blk_cell pk]; rfl
 (try simp only [Exit.inBlock, Exit.then])
 refine bodyPost_ret (v := ?_) (by simp [results, Tryz.results118, go_sem, t0, t1, t2, t3, t4, t5, t6, t7, t8, t9, t10, t11]; rfl) rfl ?_
 exact ⟨rfl, HV.out⟩
theorem readPtr_core (b0 b1 b2 b3 b4 b5 b6 b7 b8 b9 b10 b11 : UInt8) (A : Option Addr) (n c : Nat) (s : ByteArray) (B8 : Option Addr) (p8 q8 : Nat) (B9 : Option Addr) (p9 q9 : Nat) (w : World) (h1 : Rd 225 (.slice A n c) w (.tuple #[.string s, .slice B8 p8 q8, .bool true])) (h2 : Rd 181 (.slice B8 p8 q8) w (.tuple #[idV b0 b1 b2 b3 b4 b5 b6 b7 b8 b9 b10 b11, .slice B9 p9 q9, .bool true])) : Rd 188 (.slice A n c) w (.tuple #[.string s, idV b0 b1 b2 b3 b4 b5 b6 b7 b8 b9 b10 b11, .slice B9 p9 q9, .bool true]) := by
 intro W hW
 obtain ⟨Y, hY⟩ : ∃ Y, W.alloc (.cells #[.int .u8 0, .int .u8 0, .int .u8 0, .int .u8 0, .int .u8 0, .int .u8 0, .int .u8 0, .int .u8 0, .int .u8 0, .int .u8 0, .int .u8 0, .int .u8 0] 165) = Y := ⟨_, rfl⟩
 have hYb : Below W.heap.size W Y := hY ▸ below_al _ _
 have hYs : Y.heap.size = W.heap.size + 1 := by rw [← hY]; simp
 have hY1 : Y.heap[W.heap.size]? = some (.cells #[.int .u8 0, .int .u8 0, .int .u8 0, .int .u8 0, .int .u8 0, .int .u8 0, .int .u8 0, .int .u8 0, .int .u8 0, .int .u8 0, .int .u8 0, .int .u8 0] 165 (0, 0)) := hY ▸ heap_alloc_new W _
 have HC := LH (h1 Y (hW.trans (hYb.mono hW.size)))
 have HD := LH (fun (X : World) (hX : Below Y.heap.size Y X) => h2 X (hW.trans ((hYb.trans (hX.mono hYb.size)).mono hW.size)))
 have HY := LH hY
 have HY1 := LH hY1
 have HYB := LH hYb
 have HYS := LH hYs
 unfold idV at HD ⊢
 clear h1 h2 hW hY hYb hYs hY1
 go_enter Tryz.func188, Tryz.ntmps188
 go_upto_region 1 with fail
 rw [HY.out]
 go_wp2_with (first | (go_at_call 225; refine HC.out.mono ?_; rintro e w1 ⟨rfl, hb1⟩) | (go_at_call 181; refine (HD.out w1 hb1).mono ?_; rintro e w2 ⟨rfl, hb2⟩; refine Hid.out ?_))
 refine LH ?_
 have hb12 := hb1.trans (hb2.mono hb1.size)
 have zk : w2.heap[W.heap.size]? = some (.cells #[.int .u8 0, .int .u8 0, .int .u8 0, .int .u8 0, .int .u8 0, .int .u8 0, .int .u8 0, .int .u8 0, .int .u8 0, .int .u8 0, .int .u8 0, .int .u8 0] 165 (0, 0)) := (hb12.block _ (by have := HYS.out; omega)).trans HY1.out
 have HB := LH (HYB.out.trans (hb12.mono HYB.out.size))
 have s0 : w2.cell? ⟨W.heap.size, 0, none⟩ = some (.int .u8 0) := by rw [blk_cell zk]; rfl
 have s1 : w2.cell? ⟨W.heap.size, 1, none⟩ = some (.int .u8 0) := by rw [blk_cell zk]; rfl
 have s2 : w2.cell? ⟨W.heap.size, 2, none⟩ = some (.int .u8 0) := by rw [blk_cell zk]; rfl
 have s3 : w2.cell? ⟨W.heap.size, 3, none⟩ = some (.int .u8 0) := by rw [blk_cell zk]; rfl
 have s4 : w2.cell? ⟨W.heap.size, 4, none⟩ = some (.int .u8 0) := by rw [blk_cell zk]; rfl
 have s5 : w2.cell? ⟨W.heap.size, 5, none⟩ = some (.int .u8 0) := by rw [blk_cell zk]; rfl
 have s6 : w2.cell? ⟨W.heap.size, 6, none⟩ = some (.int .u8 0) := by rw [blk_cell zk]; rfl
 have s7 : w2.cell? ⟨W.heap.size, 7, none⟩ = some (.int .u8 0) := by rw [blk_cell zk]; rfl
 have s8 : w2.cell? ⟨W.heap.size, 8, none⟩ = some (.int .u8 0) := by rw [blk_cell zk]; rfl
 have s9 : w2.cell? ⟨W.heap.size, 9, none⟩ = some (.int .u8 0) := by rw [blk_cell zk]; rfl
 have s10 : w2.cell? ⟨W.heap.size, 10, none⟩ = some (.int .u8 0) := by rw [blk_cell zk]; rfl
 have s11 : w2.cell? ⟨W.heap.size, 11, none⟩ = some (.int .u8 0) := by rw [blk_cell zk]; rfl
 have z := fun i => blk_frozen zk i
 have HZ := LH zk
 clear hb12 hb1 hb2 zk
 go_wp2_with fail
 have pk := set12 w2 W.heap.size 165 (.int .u8 0) HZ.out (.int .u8 (b0.toNat : Int)) (.int .u8 (b1.toNat : Int)) (.int .u8 (b2.toNat : Int)) (.int .u8 (b3.toNat : Int)) (.int .u8 (b4.toNat : Int)) (.int .u8 (b5.toNat : Int)) (.int .u8 (b6.toNat : Int)) (.int .u8 (b7.toNat : Int)) (.int .u8 (b8.toNat : Int)) (.int .u8 (b9.toNat : Int)) (.int .u8 (b10.toNat : Int)) (.int .u8 (b11.toNat : Int))
 have HV := LH (show Below W.heap.size W (((((((((((((w2).setCell ⟨W.heap.size, 0, none⟩ (.int .u8 (b0.toNat : Int))).setCell ⟨W.heap.size, 1, none⟩ (.int .u8 (b1.toNat : Int))).setCell ⟨W.heap.size, 2, none⟩ (.int .u8 (b2.toNat : Int))).setCell ⟨W.heap.size, 3, none⟩ (.int .u8 (b3.toNat : Int))).setCell ⟨W.heap.size, 4, none⟩ (.int .u8 (b4.toNat : Int))).setCell ⟨W.heap.size, 5, none⟩ (.int .u8 (b5.toNat : Int))).setCell ⟨W.heap.size, 6, none⟩ (.int .u8 (b6.toNat : Int))).setCell ⟨W.heap.size, 7, none⟩ (.int .u8 (b7.toNat : Int))).setCell ⟨W.heap.size, 8, none⟩ (.int .u8 (b8.toNat : Int))).setCell ⟨W.heap.size, 9, none⟩ (.int .u8 (b9.toNat : Int))).setCell ⟨W.heap.size, 10, none⟩ (.int .u8 (b10.toNat : Int))).setCell ⟨W.heap.size, 11, none⟩ (.int .u8 (b11.toNat : Int))) from Below.setCell (p := ⟨W.heap.size, 11, none⟩) (Below.setCell (p := ⟨W.heap.size, 10, none⟩) (Below.setCell (p := ⟨W.heap.size, 9, none⟩) (Below.setCell (p := ⟨W.heap.size, 8, none⟩) (Below.setCell (p := ⟨W.heap.size, 7, none⟩) (Below.setCell (p := ⟨W.heap.size, 6, none⟩) (Below.setCell (p := ⟨W.heap.size, 5, none⟩) (Below.setCell (p := ⟨W.heap.size, 4, none⟩) (Below.setCell (p := ⟨W.heap.size, 3, none⟩) (Below.setCell (p := ⟨W.heap.size, 2, none⟩) (Below.setCell (p := ⟨W.heap.size, 1, none⟩) (Below.setCell (p := ⟨W.heap.size, 0, none⟩) (HB.out) (Nat.le_refl _) _) (Nat.le_refl _) _) (Nat.le_refl _) _) (Nat.le_refl _) _) (Nat.le_refl _) _) (Nat.le_refl _) _) (Nat.le_refl _) _) (Nat.le_refl _) _) (Nat.le_refl _) _) (Nat.le_refl _) _) (Nat.le_refl _) _) (Nat.le_refl _) _)
 obtain ⟨V, hV⟩ : ∃ V, ((((((((((((w2).setCell ⟨W.heap.size, 0, none⟩ (.int .u8 (b0.toNat : Int))).setCell ⟨W.heap.size, 1, none⟩ (.int .u8 (b1.toNat : Int))).setCell ⟨W.heap.size, 2, none⟩ (.int .u8 (b2.toNat : Int))).setCell ⟨W.heap.size, 3, none⟩ (.int .u8 (b3.toNat : Int))).setCell ⟨W.heap.size, 4, none⟩ (.int .u8 (b4.toNat : Int))).setCell ⟨W.heap.size, 5, none⟩ (.int .u8 (b5.toNat : Int))).setCell ⟨W.heap.size, 6, none⟩ (.int .u8 (b6.toNat : Int))).setCell ⟨W.heap.size, 7, none⟩ (.int .u8 (b7.toNat : Int))).setCell ⟨W.heap.size, 8, none⟩ (.int .u8 (b8.toNat : Int))).setCell ⟨W.heap.size, 9, none⟩ (.int .u8 (b9.toNat : Int))).setCell ⟨W.heap.size, 10, none⟩ (.int .u8 (b10.toNat : Int))).setCell ⟨W.heap.size, 11, none⟩ (.int .u8 (b11.toNat : Int)) = V := ⟨_, rfl⟩
 rw [hV] at pk HV ⊢
 clear s0 s1 s2 s3 s4 s5 s6 s7 s8 s9 s10 s11 z hV
 have t0 : V.cell? ⟨W.heap.size, 0, none⟩ = some (.int .u8 (b0.toNat : Int)) := by rw [blk_cell pk]; rfl
 have t1 : V.cell? ⟨W.heap.size, 1, none⟩ = some (.int .u8 (b1.toNat : Int)) := by rw [blk_cell pk]; rfl
 have t2 : V.cell? ⟨W.heap.size, 2, none⟩ = some (.int .u8 (b2.toNat : Int)) := by rw [blk_cell pk]; rfl
 have t3 : V.cell? ⟨W.heap.size, 3, none⟩ = some (.int .u8 (b3.toNat : Int)) := by rw [blk_cell pk]; rfl
 have t4 : V.cell? ⟨W.heap.size, 4, none⟩ = some (.int .u8 (b4.toNat : Int)) := by rw [blk_cell pk]; rfl
 have t5 : V.cell? ⟨W.heap.size, 5, none⟩ = some (.int .u8 (b5.toNat : Int)) := by rw [blk_cell pk]; rfl
 have t6 : V.cell? ⟨W.heap.size, 6, none⟩ = some (.int .u8 (b6.toNat : Int)) := by rw [blk_cell pk]; rfl
 have t7 : V.cell? ⟨W.heap.size, 7, none⟩ = some (.int .u8 (b7.toNat : Int)) := by rw [blk_cell pk]; rfl
 have t8 : V.cell? ⟨W.heap.size, 8, none⟩ = some (.int .u8 (b8.toNat : Int)) := by rw [blk_cell pk]; rfl
 have t9 : V.cell? ⟨W.heap.size, 9, none⟩ = some (.int .u8 (b9.toNat : Int)) := by rw [blk_cell pk]; rfl
 have t10 : V.cell? ⟨W.heap.size, 10, none⟩ = some (.int .u8 (b10.toNat : Int)) := by rw [blk_cell pk]; rfl
 have t11 : V.cell? ⟨W.heap.size, 11, none⟩ = some (.int .u8 (b11.toNat : Int)) := by rw [blk_cell pk]; rfl
 have z := fun i => blk_frozen pk i
 have HPK := LH pk
 clear pk
 go_region
 rw [setCell_id HPK.out (i := 0) (u := .int .u8 (b0.toNat : Int)) rfl, setCell_id HPK.out (i := 1) (u := .int .u8 (b1.toNat : Int)) rfl, setCell_id HPK.out (i := 2) (u := .int .u8 (b2.toNat : Int)) rfl, setCell_id HPK.out (i := 3) (u := .int .u8 (b3.toNat : Int)) rfl, setCell_id HPK.out (i := 4) (u := .int .u8 (b4.toNat : Int)) rfl, setCell_id HPK.out (i := 5) (u := .int .u8 (b5.toNat : Int)) rfl, setCell_id HPK.out (i := 6) (u := .int .u8 (b6.toNat : Int)) rfl, setCell_id HPK.out (i := 7) (u := .int .u8 (b7.toNat : Int)) rfl, setCell_id HPK.out (i := 8) (u := .int .u8 (b8.toNat : Int)) rfl, setCell_id HPK.out (i := 9) (u := .int .u8 (b9.toNat : Int)) rfl, setCell_id HPK.out (i := 10) (u := .int .u8 (b10.toNat : Int)) rfl, setCell_id HPK.out (i := 11) (u := .int .u8 (b11.toNat : Int)) rfl]
 go_wp2_with fail
 (try simp only [Exit.inBlock, Exit.then])
 refine bodyPost_ret (v := ?_) (by simp [results, Tryz.results188, go_sem, t0, t1, t2, t3, t4, t5, t6, t7, t8, t9, t10, t11]; rfl) rfl ?_
 exact ⟨rfl, below_q HV.out 1⟩
theorem ok125 (b0 b1 b2 b3 b4 b5 b6 b7 b8 b9 b10 b11 : UInt8) (A : Option Addr) (n c : Nat) (s : ByteArray) (B9 : Option Addr) (p9 q9 : Nat) (w : World) (h : Rd 188 (.slice A n c) w (.tuple #[.string s, idV b0 b1 b2 b3 b4 b5 b6 b7 b8 b9 b10 b11, .slice B9 p9 q9, .bool true])) : Rd 125 (.agg #[.int .u8 12, .slice A n c]) w (.tuple #[.string s, idV b0 b1 b2 b3 b4 b5 b6 b7 b8 b9 b10 b11, .bool true]) := by
 intro W hW
 obtain ⟨Y, hY⟩ : ∃ Y, (W.alloc (.cells #[.int .u8 12, .slice A n c] 126)).alloc (.cells #[.int .u8 0, .int .u8 0, .int .u8 0, .int .u8 0, .int .u8 0, .int .u8 0, .int .u8 0, .int .u8 0, .int .u8 0, .int .u8 0, .int .u8 0, .int .u8 0] 165) = Y := ⟨_, rfl⟩
 have hXb : Below W.heap.size W (W.alloc (.cells #[.int .u8 12, .slice A n c] 126)) := below_al W _
 have hYb0 : Below (W.alloc (.cells #[.int .u8 12, .slice A n c] 126)).heap.size (W.alloc (.cells #[.int .u8 12, .slice A n c] 126)) Y := hY ▸ below_al _ _
 have hYb : Below W.heap.size W Y := hXb.trans (hYb0.mono hXb.size)
 have hYs : Y.heap.size = W.heap.size + 2 := by rw [← hY]; simp
 have hY1 : Y.heap[W.heap.size + 1]? = some (.cells #[.int .u8 0, .int .u8 0, .int .u8 0, .int .u8 0, .int .u8 0, .int .u8 0, .int .u8 0, .int .u8 0, .int .u8 0, .int .u8 0, .int .u8 0, .int .u8 0] 165 (0, 0)) := by
  have := heap_alloc_new (W.alloc (.cells #[.int .u8 12, .slice A n c] 126)) (.cells #[.int .u8 0, .int .u8 0, .int .u8 0, .int .u8 0, .int .u8 0, .int .u8 0, .int .u8 0, .int .u8 0, .int .u8 0, .int .u8 0, .int .u8 0, .int .u8 0] 165)
  rw [hY] at this
  rwa [show (W.alloc (.cells #[.int .u8 12, .slice A n c] 126)).heap.size = W.heap.size + 1 from by simp] at this
 have hY0 : Y.heap[W.heap.size]? = some (.cells #[.int .u8 12, .slice A n c] 126 (0, 0)) := by
  rw [hYb0.block W.heap.size (by simp)]
  exact heap_alloc_new W _
 have y0 : Y.cell? ⟨W.heap.size, 0, none⟩ = some (.int .u8 12) := by rw [blk_cell hY0]; rfl
 have y1 : Y.cell? ⟨W.heap.size, 1, none⟩ = some (.slice A n c) := by rw [blk_cell hY0]; rfl
 have HC := LH (h Y (hW.trans (hYb.mono hW.size)))
 have HY := LH hY
 have HY1 := LH hY1
 have HYB := LH hYb
 have HYS := LH hYs
 unfold idV at HC ⊢
 clear h hW hY hXb hYb0 hYb hYs hY1 hY0
 go_enter Tryz.func125, Tryz.ntmps125
 go_upto_region 1 with fail
 rw [HY.out]
 go_wp2_with (first | (go_at_call 188; refine HC.out.mono ?_; rintro e w1 ⟨rfl, hb1⟩))
 have hsz : W.heap.size + 2 ≤ w1.heap.size := by have := hb1.size; have := HYS.out; omega
 have pk := heap_alloc_new w1 (.cells #[.int .u8 (b0.toNat : Int), .int .u8 (b1.toNat : Int), .int .u8 (b2.toNat : Int), .int .u8 (b3.toNat : Int), .int .u8 (b4.toNat : Int), .int .u8 (b5.toNat : Int), .int .u8 (b6.toNat : Int), .int .u8 (b7.toNat : Int), .int .u8 (b8.toNat : Int), .int .u8 (b9.toNat : Int), .int .u8 (b10.toNat : Int), .int .u8 (b11.toNat : Int)] 165)
 have hv : Below w1.heap.size w1 (w1.alloc (.cells #[.int .u8 (b0.toNat : Int), .int .u8 (b1.toNat : Int), .int .u8 (b2.toNat : Int), .int .u8 (b3.toNat : Int), .int .u8 (b4.toNat : Int), .int .u8 (b5.toNat : Int), .int .u8 (b6.toNat : Int), .int .u8 (b7.toNat : Int), .int .u8 (b8.toNat : Int), .int .u8 (b9.toNat : Int), .int .u8 (b10.toNat : Int), .int .u8 (b11.toNat : Int)] 165)) := below_al w1 _
 obtain ⟨V, hV⟩ : ∃ V, w1.alloc (.cells #[.int .u8 (b0.toNat : Int), .int .u8 (b1.toNat : Int), .int .u8 (b2.toNat : Int), .int .u8 (b3.toNat : Int), .int .u8 (b4.toNat : Int), .int .u8 (b5.toNat : Int), .int .u8 (b6.toNat : Int), .int .u8 (b7.toNat : Int), .int .u8 (b8.toNat : Int), .int .u8 (b9.toNat : Int), .int .u8 (b10.toNat : Int), .int .u8 (b11.toNat : Int)] 165) = V := ⟨_, rfl⟩
 rw [hV] at pk hv ⊢
 have zk : V.heap[W.heap.size + 1]? = some (.cells #[.int .u8 0, .int .u8 0, .int .u8 0, .int .u8 0, .int .u8 0, .int .u8 0, .int .u8 0, .int .u8 0, .int .u8 0, .int .u8 0, .int .u8 0, .int .u8 0] 165 (0, 0)) := (hv.block _ (by omega)).trans ((hb1.block _ (by have := HYS.out; omega)).trans HY1.out)
 have HB := LH (HYB.out.trans ((hb1.trans (hv.mono hb1.size)).mono HYB.out.size))
 have p0 : V.cell? ⟨w1.heap.size, 0, none⟩ = some (.int .u8 (b0.toNat : Int)) := by rw [blk_cell pk]; rfl
 have p1 : V.cell? ⟨w1.heap.size, 1, none⟩ = some (.int .u8 (b1.toNat : Int)) := by rw [blk_cell pk]; rfl
 have p2 : V.cell? ⟨w1.heap.size, 2, none⟩ = some (.int .u8 (b2.toNat : Int)) := by rw [blk_cell pk]; rfl
 have p3 : V.cell? ⟨w1.heap.size, 3, none⟩ = some (.int .u8 (b3.toNat : Int)) := by rw [blk_cell pk]; rfl
 have p4 : V.cell? ⟨w1.heap.size, 4, none⟩ = some (.int .u8 (b4.toNat : Int)) := by rw [blk_cell pk]; rfl
 have p5 : V.cell? ⟨w1.heap.size, 5, none⟩ = some (.int .u8 (b5.toNat : Int)) := by rw [blk_cell pk]; rfl
 have p6 : V.cell? ⟨w1.heap.size, 6, none⟩ = some (.int .u8 (b6.toNat : Int)) := by rw [blk_cell pk]; rfl
 have p7 : V.cell? ⟨w1.heap.size, 7, none⟩ = some (.int .u8 (b7.toNat : Int)) := by rw [blk_cell pk]; rfl
 have p8 : V.cell? ⟨w1.heap.size, 8, none⟩ = some (.int .u8 (b8.toNat : Int)) := by rw [blk_cell pk]; rfl
 have p9 : V.cell? ⟨w1.heap.size, 9, none⟩ = some (.int .u8 (b9.toNat : Int)) := by rw [blk_cell pk]; rfl
 have p10 : V.cell? ⟨w1.heap.size, 10, none⟩ = some (.int .u8 (b10.toNat : Int)) := by rw [blk_cell pk]; rfl
 have p11 : V.cell? ⟨w1.heap.size, 11, none⟩ = some (.int .u8 (b11.toNat : Int)) := by rw [blk_cell pk]; rfl
 have s0 : V.cell? ⟨W.heap.size + 1, 0, none⟩ = some (.int .u8 0) := by rw [blk_cell zk]; rfl
 have s1 : V.cell? ⟨W.heap.size + 1, 1, none⟩ = some (.int .u8 0) := by rw [blk_cell zk]; rfl
 have s2 : V.cell? ⟨W.heap.size + 1, 2, none⟩ = some (.int .u8 0) := by rw [blk_cell zk]; rfl
 have s3 : V.cell? ⟨W.heap.size + 1, 3, none⟩ = some (.int .u8 0) := by rw [blk_cell zk]; rfl
 have s4 : V.cell? ⟨W.heap.size + 1, 4, none⟩ = some (.int .u8 0) := by rw [blk_cell zk]; rfl
 have s5 : V.cell? ⟨W.heap.size + 1, 5, none⟩ = some (.int .u8 0) := by rw [blk_cell zk]; rfl
 have s6 : V.cell? ⟨W.heap.size + 1, 6, none⟩ = some (.int .u8 0) := by rw [blk_cell zk]; rfl
 have s7 : V.cell? ⟨W.heap.size + 1, 7, none⟩ = some (.int .u8 0) := by rw [blk_cell zk]; rfl
 have s8 : V.cell? ⟨W.heap.size + 1, 8, none⟩ = some (.int .u8 0) := by rw [blk_cell zk]; rfl
 have s9 : V.cell? ⟨W.heap.size + 1, 9, none⟩ = some (.int .u8 0) := by rw [blk_cell zk]; rfl
 have s10 : V.cell? ⟨W.heap.size + 1, 10, none⟩ = some (.int .u8 0) := by rw [blk_cell zk]; rfl
 have s11 : V.cell? ⟨W.heap.size + 1, 11, none⟩ = some (.int .u8 0) := by rw [blk_cell zk]; rfl
 have z := fun i => blk_frozen zk i
 have HZ := LH zk
 clear hb1 hsz hv hV pk zk
 go_region
 have pk := set12 V (W.heap.size + 1) 165 (.int .u8 0) HZ.out (.int .u8 (b0.toNat : Int)) (.int .u8 (b1.toNat : Int)) (.int .u8 (b2.toNat : Int)) (.int .u8 (b3.toNat : Int)) (.int .u8 (b4.toNat : Int)) (.int .u8 (b5.toNat : Int)) (.int .u8 (b6.toNat : Int)) (.int .u8 (b7.toNat : Int)) (.int .u8 (b8.toNat : Int)) (.int .u8 (b9.toNat : Int)) (.int .u8 (b10.toNat : Int)) (.int .u8 (b11.toNat : Int))
 have HV := LH (show Below W.heap.size W (((((((((((((V).setCell ⟨W.heap.size + 1, 0, none⟩ (.int .u8 (b0.toNat : Int))).setCell ⟨W.heap.size + 1, 1, none⟩ (.int .u8 (b1.toNat : Int))).setCell ⟨W.heap.size + 1, 2, none⟩ (.int .u8 (b2.toNat : Int))).setCell ⟨W.heap.size + 1, 3, none⟩ (.int .u8 (b3.toNat : Int))).setCell ⟨W.heap.size + 1, 4, none⟩ (.int .u8 (b4.toNat : Int))).setCell ⟨W.heap.size + 1, 5, none⟩ (.int .u8 (b5.toNat : Int))).setCell ⟨W.heap.size + 1, 6, none⟩ (.int .u8 (b6.toNat : Int))).setCell ⟨W.heap.size + 1, 7, none⟩ (.int .u8 (b7.toNat : Int))).setCell ⟨W.heap.size + 1, 8, none⟩ (.int .u8 (b8.toNat : Int))).setCell ⟨W.heap.size + 1, 9, none⟩ (.int .u8 (b9.toNat : Int))).setCell ⟨W.heap.size + 1, 10, none⟩ (.int .u8 (b10.toNat : Int))).setCell ⟨W.heap.size + 1, 11, none⟩ (.int .u8 (b11.toNat : Int))) from Below.setCell (p := ⟨W.heap.size + 1, 11, none⟩) (Below.setCell (p := ⟨W.heap.size + 1, 10, none⟩) (Below.setCell (p := ⟨W.heap.size + 1, 9, none⟩) (Below.setCell (p := ⟨W.heap.size + 1, 8, none⟩) (Below.setCell (p := ⟨W.heap.size + 1, 7, none⟩) (Below.setCell (p := ⟨W.heap.size + 1, 6, none⟩) (Below.setCell (p := ⟨W.heap.size + 1, 5, none⟩) (Below.setCell (p := ⟨W.heap.size + 1, 4, none⟩) (Below.setCell (p := ⟨W.heap.size + 1, 3, none⟩) (Below.setCell (p := ⟨W.heap.size + 1, 2, none⟩) (Below.setCell (p := ⟨W.heap.size + 1, 1, none⟩) (Below.setCell (p := ⟨W.heap.size + 1, 0, none⟩) (HB.out) (Nat.le_succ _) _) (Nat.le_succ _) _) (Nat.le_succ _) _) (Nat.le_succ _) _) (Nat.le_succ _) _) (Nat.le_succ _) _) (Nat.le_succ _) _) (Nat.le_succ _) _) (Nat.le_succ _) _) (Nat.le_succ _) _) (Nat.le_succ _) _) (Nat.le_succ _) _)
 obtain ⟨V2, hV2⟩ : ∃ V2, ((((((((((((V).setCell ⟨W.heap.size + 1, 0, none⟩ (.int .u8 (b0.toNat : Int))).setCell ⟨W.heap.size + 1, 1, none⟩ (.int .u8 (b1.toNat : Int))).setCell ⟨W.heap.size + 1, 2, none⟩ (.int .u8 (b2.toNat : Int))).setCell ⟨W.heap.size + 1, 3, none⟩ (.int .u8 (b3.toNat : Int))).setCell ⟨W.heap.size + 1, 4, none⟩ (.int .u8 (b4.toNat : Int))).setCell ⟨W.heap.size + 1, 5, none⟩ (.int .u8 (b5.toNat : Int))).setCell ⟨W.heap.size + 1, 6, none⟩ (.int .u8 (b6.toNat : Int))).setCell ⟨W.heap.size + 1, 7, none⟩ (.int .u8 (b7.toNat : Int))).setCell ⟨W.heap.size + 1, 8, none⟩ (.int .u8 (b8.toNat : Int))).setCell ⟨W.heap.size + 1, 9, none⟩ (.int .u8 (b9.toNat : Int))).setCell ⟨W.heap.size + 1, 10, none⟩ (.int .u8 (b10.toNat : Int))).setCell ⟨W.heap.size + 1, 11, none⟩ (.int .u8 (b11.toNat : Int)) = V2 := ⟨_, rfl⟩
 rw [hV2] at pk HV ⊢
 clear p0 s0 p1 s1 p2 s2 p3 s3 p4 s4 p5 s5 p6 s6 p7 s7 p8 s8 p9 s9 p10 s10 p11 s11 hV2
 have t0 : V2.cell? ⟨W.heap.size + 1, 0, none⟩ = some (.int .u8 (b0.toNat : Int)) := by rw [blk_cell pk]; rfl
 have t1 : V2.cell? ⟨W.heap.size + 1, 1, none⟩ = some (.int .u8 (b1.toNat : Int)) := by rw [blk_cell pk]; rfl
 have t2 : V2.cell? ⟨W.heap.size + 1, 2, none⟩ = some (.int .u8 (b2.toNat : Int)) := by rw [blk_cell pk]; rfl
 have t3 : V2.cell? ⟨W.heap.size + 1, 3, none⟩ = some (.int .u8 (b3.toNat : Int)) := by rw [blk_cell pk]; rfl
 have t4 : V2.cell? ⟨W.heap.size + 1, 4, none⟩ = some (.int .u8 (b4.toNat : Int)) := by rw [blk_cell pk]; rfl
 have t5 : V2.cell? ⟨W.heap.size + 1, 5, none⟩ = some (.int .u8 (b5.toNat : Int)) := by rw [blk_cell pk]; rfl
 have t6 : V2.cell? ⟨W.heap.size + 1, 6, none⟩ = some (.int .u8 (b6.toNat : Int)) := by rw [blk_cell pk]; rfl
 have t7 : V2.cell? ⟨W.heap.size + 1, 7, none⟩ = some (.int .u8 (b7.toNat : Int)) := by rw [blk_cell pk]; rfl
 have t8 : V2.cell? ⟨W.heap.size + 1, 8, none⟩ = some (.int .u8 (b8.toNat : Int)) := by rw [blk_cell pk]; rfl
 have t9 : V2.cell? ⟨W.heap.size + 1, 9, none⟩ = some (.int .u8 (b9.toNat : Int)) := by rw [blk_cell pk]; rfl
 have t10 : V2.cell? ⟨W.heap.size + 1, 10, none⟩ = some (.int .u8 (b10.toNat : Int)) := by rw [blk_cell pk]; rfl
 have t11 : V2.cell? ⟨W.heap.size + 1, 11, none⟩ = some (.int .u8 (b11.toNat : Int)) := by rw [blk_cell pk]; rfl
 go_wp2_with fail
 (try simp only [Exit.inBlock, Exit.then])
 refine bodyPost_ret (v := ?_) (by simp [results, Tryz.results125, go_sem, t0, t1, t2, t3, t4, t5, t6, t7, t8, t9, t10, t11]; rfl) rfl ?_
 exact ⟨rfl, below_q HV.out 1⟩
theorem idHex_core (xs : List Int) (c0 c1 c2 c3 c4 c5 c6 c7 c8 c9 c10 c11 : Int) (hxs : xs = [c0, c1, c2, c3, c4, c5, c6, c7, c8, c9, c10, c11]) (hr : ∀ i, i < 12 → 0 ≤ xs.getD i 0 ∧ xs.getD i 0 < 256) (w : World) : Calls Tryz.prog 119 #[.agg #[.int .u8 c0, .int .u8 c1, .int .u8 c2, .int .u8 c3, .int .u8 c4, .int .u8 c5, .int .u8 c6, .int .u8 c7, .int .u8 c8, .int .u8 c9, .int .u8 c10, .int .u8 c11]] w fun e w' => e = .returned (.string (hexB (Lib.bytesOf xs))) ∧ Below w.heap.size w w' := by
 have HXS := LH hxs
 have hlen : (Lib.bytesOf xs).length = 12 := by rw [hxs]; rfl
 clear hxs
 go_enter Tryz.func119, Tryz.ntmps119
 go_wp2
 refine wp_region_any (by kernel_rfl) ?_
 try (change wpAny _ _ _ _ _ _ _ (World.drew _))
 obtain ⟨h1, h2, h3⟩ := two_alloc w (Obj.cells #[.int .u8 c0, .int .u8 c1, .int .u8 c2, .int .u8 c3, .int .u8 c4, .int .u8 c5, .int .u8 c6, .int .u8 c7, .int .u8 c8, .int .u8 c9, .int .u8 c10, .int .u8 c11] 165 (0, 0)) (Obj.cells #[.int .u8 0, .int .u8 0, .int .u8 0, .int .u8 0, .int .u8 0, .int .u8 0, .int .u8 0, .int .u8 0, .int .u8 0, .int .u8 0, .int .u8 0, .int .u8 0, .int .u8 0, .int .u8 0, .int .u8 0, .int .u8 0, .int .u8 0, .int .u8 0, .int .u8 0, .int .u8 0, .int .u8 0, .int .u8 0, .int .u8 0, .int .u8 0] 134 (0, 0))
 generalize (((w.alloc (Obj.cells #[.int .u8 c0, .int .u8 c1, .int .u8 c2, .int .u8 c3, .int .u8 c4, .int .u8 c5, .int .u8 c6, .int .u8 c7, .int .u8 c8, .int .u8 c9, .int .u8 c10, .int .u8 c11] 165 (0, 0))).alloc (Obj.cells #[.int .u8 0, .int .u8 0, .int .u8 0, .int .u8 0, .int .u8 0, .int .u8 0, .int .u8 0, .int .u8 0, .int .u8 0, .int .u8 0, .int .u8 0, .int .u8 0, .int .u8 0, .int .u8 0, .int .u8 0, .int .u8 0, .int .u8 0, .int .u8 0, .int .u8 0, .int .u8 0, .int .u8 0, .int .u8 0, .int .u8 0, .int .u8 0] 134 (0, 0))).drew) = W at h1 h2 h3 ⊢
 refine wpAny_take (i := 0) (v := .slice (some ⟨w.heap.size + 1, 0, none⟩) 24 24) rfl (by kernel_rfl) (by kernel_rfl) (by kernel_rfl) (fun _ _ _ h => h) (Or.inl ⟨by rfl, fun w => ?_⟩) ?_
 ·go_simp
 refine wpAny_take (i := 1) (v := .slice (some ⟨w.heap.size, 0, none⟩) 12 12) rfl (by kernel_rfl) (by kernel_rfl) (by kernel_rfl) (fun _ _ _ h => h) (Or.inl ⟨by rfl, fun w => ?_⟩) ?_
 ·go_simp
 refine wpAny_ready (rs := [2]) (by kernel_rfl) (by simp) ?_
 refine AllReady.cons rfl (fun K hK => ?_) AllReady.nil
 go_simp
 have hcall : Calls Tryz.prog 182 #[.slice (some ⟨w.heap.size + 1, 0, none⟩) 24 24, .slice (some ⟨w.heap.size, 0, none⟩) 12 12] W fun e w' => e = .returned (.int .i64 (((12 : Nat) : Int) * 2)) ∧ w'.rowIs (w.heap.size + 1) 134 24 (Lib.Hx.row (fun _ => .int .u8 0) 0 (Lib.bytesOf xs) 12) ∧ W.grownBy w' (some (w.heap.size + 1)) :=
  Tryz.hex_Encode_tag 134 (w.heap.size + 1) 0 24 24 24 (fun _ => .int .u8 0) w.heap.size 0 12 12 xs W (by rw [HXS.out]; rfl) hr (by
   intro i hi
   rw [Nat.zero_add, blk_cell h1, HXS.out]
   match i, hi with
   | 0, _ | 1, _ | 2, _ | 3, _ | 4, _ | 5, _ | 6, _ | 7, _ | 8, _ | 9, _ | 10, _ | 11, _ => rfl
   | n + 12, h => exact absurd h (by omega)) ⟨_, h2, rfl, by
   intro i hi
   match i, hi with
   | 0, _ | 1, _ | 2, _ | 3, _ | 4, _ | 5, _ | 6, _ | 7, _ | 8, _ | 9, _ | 10, _ | 11, _ | 12, _ | 13, _ | 14, _ | 15, _ | 16, _ | 17, _ | 18, _ | 19, _ | 20, _ | 21, _ | 22, _ | 23, _ => rfl
   | n + 24, h => exact absurd h (by omega)⟩ (by omega) (by omega) (by omega) (by omega)
 refine hcall.mono ?_
 rintro e w3 ⟨rfl, hrow, hgr⟩
 refine hK _ _ ?_
 clear hK K hcall
 refine wpAny_done (by kernel_rfl) ?_ _
 have hconv : (convert 23 9 (.slice (some ⟨w.heap.size + 1, 0, none⟩) 24 24)).run Tryz.prog w3 = .ok (.string (hexB (Lib.bytesOf xs))) w3 := hexB_conv hlen hrow
 have hb3 : Below w.heap.size w w3 := h3.trans ((Below.refl w.heap.size W).grown hgr h3.size (fun k hk => by cases hk; omega))
 clear hrow hgr h1 h2 h3
 go_wp2
 go_ret
 exact ⟨rfl, hb3⟩
theorem readLen_le (g o n c N : Nat) (l : List UInt8) (w : World) (hn : n = 4 + l.length) (hc : n ≤ c) (hc4 : 4 < c) (hcb : c ≤ 9223372036854775807) (hN : N < 2147483648) (hr : RD w g o (le32 N ++ l)) :
  Calls Tryz.prog 73 #[.slice (some ⟨g, o, none⟩) n c] w fun e w' => e = .returned (.tuple #[.int .i32 (N : Int), .slice (some ⟨g, o + 4, none⟩) (n - 4) (c - 4), .bool true]) ∧ Below w.heap.size w w' := by
 obtain ⟨c0, c1, c2, c3⟩ := rd32 hr
 have h := readI32_b g o (n - 4) (c - 4) (N % 256) (N / 256 % 256) (N / 65536 % 256) (N / 16777216 % 256) w (by omega) (by omega) (by omega) (by omega) (by omega) (by omega) (by omega) (by omega) c0 c1 c2 c3
 rw [show 4 + (n - 4) = n from by omega, show 4 + (c - 4) = c from by omega, show N % 256 + N / 256 % 256 * 256 + N / 65536 % 256 * 65536 + N / 16777216 % 256 * 16777216 = N from by omega] at h
 rw [s32_lt hN] at h
 have HC := LH h
 clear h hr hn c0 c1 c2 c3
 go_enter Tryz.func73, Tryz.ntmps73
 go_wp2_with (go_at_call 105; refine HC.out.mono ?_; rintro e w1 ⟨rfl, hb1⟩)
 go_ret3
 exact ⟨rfl, hb1⟩
def VLen (k : Int) (m : Nat) (v : Value) (w : World) : Prop := ∀ W, Below w.heap.size w W → Calls Tryz.prog 107 #[v, .int .u8 k] W fun e w' => e = .returned (.tuple #[.int .i32 (m : Int), .bool true]) ∧ Below W.heap.size W w'
theorem vlen8 (X : Option Addr) (n c : Nat) (w : World) : VLen 8 1 (.slice X n c) w := by
 intro W hW
 clear hW
 go_enter Tryz.func107, Tryz.ntmps107
 go_wp2_with fail
 go_ret2
 exact ⟨rfl, Below.refl _ _⟩
theorem vlen9 (X : Option Addr) (n c : Nat) (w : World) : VLen 9 8 (.slice X n c) w := by
 intro W hW
 clear hW
 go_enter Tryz.func107, Tryz.ntmps107
 go_wp2_with fail
 go_ret2
 exact ⟨rfl, Below.refl _ _⟩
theorem vlen1 (X : Option Addr) (n c : Nat) (w : World) : VLen 1 8 (.slice X n c) w := by
 intro W hW
 clear hW
 go_enter Tryz.func107, Tryz.ntmps107
 go_wp2_with fail
 go_ret2
 exact ⟨rfl, Below.refl _ _⟩
theorem vlen18 (X : Option Addr) (n c : Nat) (w : World) : VLen 18 8 (.slice X n c) w := by
 intro W hW
 clear hW
 go_enter Tryz.func107, Tryz.ntmps107
 go_wp2_with fail
 go_ret2
 exact ⟨rfl, Below.refl _ _⟩
theorem vlen17 (X : Option Addr) (n c : Nat) (w : World) : VLen 17 8 (.slice X n c) w := by
 intro W hW
 clear hW
 go_enter Tryz.func107, Tryz.ntmps107
 go_wp2_with fail
 go_ret2
 exact ⟨rfl, Below.refl _ _⟩
theorem vlen19 (X : Option Addr) (n c : Nat) (w : World) : VLen 19 16 (.slice X n c) w := by
 intro W hW
 clear hW
 go_enter Tryz.func107, Tryz.ntmps107
 go_wp2_with fail
 go_ret2
 exact ⟨rfl, Below.refl _ _⟩
theorem vlen16 (X : Option Addr) (n c : Nat) (w : World) : VLen 16 4 (.slice X n c) w := by
 intro W hW
 clear hW
 go_enter Tryz.func107, Tryz.ntmps107
 go_wp2_with fail
 go_ret2
 exact ⟨rfl, Below.refl _ _⟩
theorem vlen127 (X : Option Addr) (n c : Nat) (w : World) : VLen 127 0 (.slice X n c) w := by
 intro W hW
 clear hW
 go_enter Tryz.func107, Tryz.ntmps107
 go_wp2_with fail
 go_ret2
 exact ⟨rfl, Below.refl _ _⟩
theorem vlen255 (X : Option Addr) (n c : Nat) (w : World) : VLen 255 0 (.slice X n c) w := by
 intro W hW
 clear hW
 go_enter Tryz.func107, Tryz.ntmps107
 go_wp2_with fail
 go_ret2
 exact ⟨rfl, Below.refl _ _⟩
theorem vlen10 (X : Option Addr) (n c : Nat) (w : World) : VLen 10 0 (.slice X n c) w := by
 intro W hW
 clear hW
 go_enter Tryz.func107, Tryz.ntmps107
 go_wp2_with fail
 go_ret2
 exact ⟨rfl, Below.refl _ _⟩
theorem vlen6 (X : Option Addr) (n c : Nat) (w : World) : VLen 6 0 (.slice X n c) w := by
 intro W hW
 clear hW
 go_enter Tryz.func107, Tryz.ntmps107
 go_wp2_with fail
 go_ret2
 exact ⟨rfl, Below.refl _ _⟩
theorem vlen7 (X : Option Addr) (n c : Nat) (w : World) : VLen 7 12 (.slice X n c) w := by
 intro W hW
 clear hW
 go_enter Tryz.func107, Tryz.ntmps107
 go_wp2_with fail
 go_ret2
 exact ⟨rfl, Below.refl _ _⟩
theorem vlen3 (g o n c N : Nat) (l : List UInt8) (w : World) (hn : n = 4 + l.length) (hc : n ≤ c) (hc4 : 4 < c) (hcb : c ≤ 9223372036854775807) (hN : N < 1000000000) (hr : RD w g o (le32 N ++ l)) : VLen 3 (N + 0) (.slice (some ⟨g, o, none⟩) n c) w := by
 intro W hW
 have HC := LH (readLen_le g o n c N l W hn hc hc4 hcb (by omega) (hr.lat hW))
 clear hr hn hW
 go_enter Tryz.func107, Tryz.ntmps107
 go_wp2_with (go_at_call 73; refine HC.out.mono ?_; rintro e w1 ⟨rfl, hb1⟩)
 go_ret2
 exact ⟨rfl, hb1⟩
theorem vlen4 (g o n c N : Nat) (l : List UInt8) (w : World) (hn : n = 4 + l.length) (hc : n ≤ c) (hc4 : 4 < c) (hcb : c ≤ 9223372036854775807) (hN : N < 1000000000) (hr : RD w g o (le32 N ++ l)) : VLen 4 (N + 0) (.slice (some ⟨g, o, none⟩) n c) w := by
 intro W hW
 have HC := LH (readLen_le g o n c N l W hn hc hc4 hcb (by omega) (hr.lat hW))
 clear hr hn hW
 go_enter Tryz.func107, Tryz.ntmps107
 go_wp2_with (go_at_call 73; refine HC.out.mono ?_; rintro e w1 ⟨rfl, hb1⟩)
 go_ret2
 exact ⟨rfl, hb1⟩
theorem vlen5 (g o n c N : Nat) (l : List UInt8) (w : World) (hn : n = 4 + l.length) (hc : n ≤ c) (hc4 : 4 < c) (hcb : c ≤ 9223372036854775807) (hN : N < 1000000000) (hr : RD w g o (le32 N ++ l)) : VLen 5 (N + 5) (.slice (some ⟨g, o, none⟩) n c) w := by
 intro W hW
 have HC := LH (readLen_le g o n c N l W hn hc hc4 hcb (by omega) (hr.lat hW))
 clear hr hn hW
 go_enter Tryz.func107, Tryz.ntmps107
 go_wp2_with (go_at_call 73; refine HC.out.mono ?_; rintro e w1 ⟨rfl, hb1⟩)
 go_ret2
 exact ⟨rfl, hb1⟩
theorem vlen12 (g o n c N : Nat) (l : List UInt8) (w : World) (hn : n = 4 + l.length) (hc : n ≤ c) (hc4 : 4 < c) (hcb : c ≤ 9223372036854775807) (hN : N < 1000000000) (hr : RD w g o (le32 N ++ l)) : VLen 12 (N + 16) (.slice (some ⟨g, o, none⟩) n c) w := by
 intro W hW
 have HC := LH (readLen_le g o n c N l W hn hc hc4 hcb (by omega) (hr.lat hW))
 clear hr hn hW
 go_enter Tryz.func107, Tryz.ntmps107
 go_wp2_with (go_at_call 73; refine HC.out.mono ?_; rintro e w1 ⟨rfl, hb1⟩)
 go_ret2
 exact ⟨rfl, hb1⟩
theorem vlen2 (g o n c N : Nat) (l : List UInt8) (w : World) (hn : n = 4 + l.length) (hc : n ≤ c) (hc4 : 4 < c) (hcb : c ≤ 9223372036854775807) (hN : N < 1000000000) (hr : RD w g o (le32 N ++ l)) : VLen 2 (N + 4) (.slice (some ⟨g, o, none⟩) n c) w := by
 intro W hW
 have HC := LH (readLen_le g o n c N l W hn hc hc4 hcb (by omega) (hr.lat hW))
 clear hr hn hW
 go_enter Tryz.func107, Tryz.ntmps107
 go_wp2_with (go_at_call 73; refine HC.out.mono ?_; rintro e w1 ⟨rfl, hb1⟩)
 go_ret2
 exact ⟨rfl, hb1⟩
theorem vlen13 (g o n c N : Nat) (l : List UInt8) (w : World) (hn : n = 4 + l.length) (hc : n ≤ c) (hc4 : 4 < c) (hcb : c ≤ 9223372036854775807) (hN : N < 1000000000) (hr : RD w g o (le32 N ++ l)) : VLen 13 (N + 4) (.slice (some ⟨g, o, none⟩) n c) w := by
 intro W hW
 have HC := LH (readLen_le g o n c N l W hn hc hc4 hcb (by omega) (hr.lat hW))
 clear hr hn hW
 go_enter Tryz.func107, Tryz.ntmps107
 go_wp2_with (go_at_call 73; refine HC.out.mono ?_; rintro e w1 ⟨rfl, hb1⟩)
 go_ret2
 exact ⟨rfl, hb1⟩
theorem vlen14 (g o n c N : Nat) (l : List UInt8) (w : World) (hn : n = 4 + l.length) (hc : n ≤ c) (hc4 : 4 < c) (hcb : c ≤ 9223372036854775807) (hN : N < 1000000000) (hr : RD w g o (le32 N ++ l)) : VLen 14 (N + 4) (.slice (some ⟨g, o, none⟩) n c) w := by
 intro W hW
 have HC := LH (readLen_le g o n c N l W hn hc hc4 hcb (by omega) (hr.lat hW))
 clear hr hn hW
 go_enter Tryz.func107, Tryz.ntmps107
 go_wp2_with (go_at_call 73; refine HC.out.mono ?_; rintro e w1 ⟨rfl, hb1⟩)
 go_ret2
 exact ⟨rfl, hb1⟩
theorem vlen11 (g o n c : Nat) (s u : ByteArray) (r : List UInt8) (w : World) (hn : n = s.size + 1 + (u.size + 1) + r.length) (hc : n ≤ c) (hcb : c ≤ 9223372036854775807) (hs : s.size ≤ 1000000) (hu : u.size ≤ 1000000) (h0 : 0 ∉ s.data.toList) (h1 : 0 ∉ u.data.toList) (hr : RD w g o (s.data.toList ++ 0 :: (u.data.toList ++ 0 :: r))) : VLen 11 (s.size + 1 + u.size + 1) (.slice (some ⟨g, o, none⟩) n c) w := by
 intro W hW
 have e1 : s.data.toList.length = s.size := Array.length_toList
 have e2 : u.data.toList.length = u.size := Array.length_toList
 have hr2 : RD w g (o + (s.size + 1)) (u.data.toList ++ 0 :: r) := by
  have := RD.right (a := s.data.toList ++ [0]) (b := u.data.toList ++ 0 :: r) (by simpa using hr)
  rwa [List.length_append, e1] at this
 have HC := LH (e1 ▸ ix_zero g o n c s.data.toList (u.data.toList ++ 0 :: r) W (by simp; omega) h0 (hr.lat hW))
 have HD := LH (e2 ▸ ix_zero g (o + (s.size + 1)) (n - (s.size + 1)) (c - (s.size + 1)) u.data.toList r W (by omega) h1 (hr2.lat hW))
 obtain ⟨k, hk⟩ : ∃ k, s.size = k := ⟨_, rfl⟩
 obtain ⟨j, hj⟩ : ∃ k, u.size = k := ⟨_, rfl⟩
 simp only [hk, hj] at HC HD hs hu hn ⊢
 have hn1 : k + 1 + (j + 1) ≤ n := by omega
 clear hr hr2 hn hW h0 h1 e1 e2 hk hj
 go_enter Tryz.func107, Tryz.ntmps107
 go_wp2_with (first | (with_reducible show Calls _ _ #[.slice (some ⟨_, o, none⟩) _ _, _] _ _; go_at_call 167; refine HC.out.mono ?_; rintro e w1 ⟨rfl, rfl⟩) | (go_at_call 167; refine HD.out.mono ?_; rintro e w2 ⟨rfl, rfl⟩))
 go_ret2
 exact ⟨rfl, Below.refl _ _⟩
theorem rdVal (g o n c m : Nat) (k : Int) (w : World) (hm : m ≤ n) (hc : n < c) (hcb : c ≤ 9223372036854775807) (hmb : m < 2000000000) (h : VLen k m (.slice (some ⟨g, o, none⟩) n c) w) (W : World) (hW : Below w.heap.size w W) :
  Calls Tryz.prog 224 #[.slice (some ⟨g, o, none⟩) n c, .int .u8 k] W fun e w' => e = .returned (.tuple #[.slice (some ⟨g, o, none⟩) m c, .slice (some ⟨g, o + m, none⟩) (n - m) (c - m), .bool true]) ∧ Below W.heap.size W w' := by
 have HC := LH (h W hW)
 clear h hW
 go_enter Tryz.func224, Tryz.ntmps224
 go_wp2_with (go_at_call 107; refine HC.out.mono ?_; rintro e w1 ⟨rfl, hb1⟩)
 go_quiet (fail)
 go_wp2_with fail
 go_ret3
 exact ⟨rfl, below_q hb1 _⟩
theorem readVal (g o n c m : Nat) (k : Int) (w : World) (hm : m ≤ n) (hc : n < c) (hcb : c ≤ 9223372036854775807) (hmb : m < 2000000000) (h : VLen k m (.slice (some ⟨g, o, none⟩) n c) w) (W : World) (hW : Below w.heap.size w W) :
  Calls Tryz.prog 169 #[.slice (some ⟨g, o, none⟩) n c, .int .u8 k] W fun e w' => e = .returned (.tuple #[.agg #[.int .u8 k, .slice (some ⟨g, o, none⟩) m c], .slice (some ⟨g, o + m, none⟩) (n - m) (c - m), .bool true]) ∧ Below W.heap.size W w' := by
 have HC := LH (fun X hX => rdVal g o n c m k w hm hc hcb hmb h X hX)
 have HW := LH hW
 obtain ⟨Y, hY⟩ : ∃ Y, W.alloc (.cells #[.int .u8 0, .slice none 0 0] 126) = Y := ⟨_, rfl⟩
 have hYb : Below W.heap.size W Y := hY ▸ below_al _ _
 have hYs : Y.heap.size = W.heap.size + 1 := by rw [← hY]; simp
 have hY1 : Y.heap[W.heap.size]? = some (.cells #[.int .u8 0, .slice none 0 0] 126 (0, 0)) := hY ▸ heap_alloc_new W _
 have HY := LH hY
 have HY1 := LH hY1
 have HYB := LH hYb
 have HYS := LH hYs
 clear h hW hY hYb hYs hY1
 go_enter Tryz.func169, Tryz.ntmps169
 go_upto_region 1 with fail
 rw [HY.out]
 go_wp2_with (first | (go_at_call 224; refine (HC.out _ (HW.out.trans (HYB.out.mono HW.out.size))).mono ?_; rintro e w1 ⟨rfl, hb1⟩; refine Hid.out ?_))
 refine LH ?_
 have zk : w1.heap[W.heap.size]? = some (.cells #[.int .u8 0, .slice none 0 0] 126 (0, 0)) := (hb1.block _ (by have := HYS.out; omega)).trans HY1.out
 have HB := LH (HYB.out.trans (hb1.mono HYB.out.size))
 have s0 : w1.cell? ⟨W.heap.size, 0, none⟩ = some (.int .u8 0) := by rw [blk_cell zk]; rfl
 have s1 : w1.cell? ⟨W.heap.size, 1, none⟩ = some (.slice none 0 0) := by rw [blk_cell zk]; rfl
 have z := fun i => blk_frozen zk i
 have HZ := LH zk
 clear hb1 zk
 go_wp2_with fail
 have k0 : (w1.setCell ⟨W.heap.size, 0, none⟩ (.int .u8 k)).heap[W.heap.size]? = some (.cells #[.int .u8 k, .slice none 0 0] 126 (0, 0)) := blk_set HZ.out 0 _
 have k1 : ((w1.setCell ⟨W.heap.size, 0, none⟩ (.int .u8 k)).setCell ⟨W.heap.size, 1, none⟩ (.slice (some ⟨g, o, none⟩) m c)).heap[W.heap.size]? = some (.cells #[.int .u8 k, .slice (some ⟨g, o, none⟩) m c] 126 (0, 0)) := blk_set k0 1 _
 have HV := LH (show Below W.heap.size W ((w1.setCell ⟨W.heap.size, 0, none⟩ (.int .u8 k)).setCell ⟨W.heap.size, 1, none⟩ (.slice (some ⟨g, o, none⟩) m c)) from Below.setCell (p := ⟨W.heap.size, 1, none⟩) (Below.setCell (p := ⟨W.heap.size, 0, none⟩) HB.out (Nat.le_refl _) _) (Nat.le_refl _) _)
 obtain ⟨V, hV⟩ : ∃ V, (w1.setCell ⟨W.heap.size, 0, none⟩ (.int .u8 k)).setCell ⟨W.heap.size, 1, none⟩ (.slice (some ⟨g, o, none⟩) m c) = V := ⟨_, rfl⟩
 rw [hV] at k1 HV ⊢
 have t0 : V.cell? ⟨W.heap.size, 0, none⟩ = some (.int .u8 k) := by rw [blk_cell k1]; rfl
 have t1 : V.cell? ⟨W.heap.size, 1, none⟩ = some (.slice (some ⟨g, o, none⟩) m c) := by rw [blk_cell k1]; rfl
 (try simp only [Exit.inBlock, Exit.then])
 refine bodyPost_ret (v := ?_) (by simp [results, Tryz.results169, go_sem, t0, t1]; rfl) rfl ?_
 exact ⟨rfl, HV.out⟩
set_option maxHeartbeats 8000000
theorem getD_name (kb : UInt8) (t r : List UInt8) (h0 : 0 ∉ t) (i : Nat) (h1 : 1 ≤ i) (hi : i < 1 + t.length) : ((kb :: (t ++ 0 :: r)).getD i 0).toNat ≠ 0 := by
 obtain ⟨j, rfl⟩ : ∃ j, i = j + 1 := ⟨i - 1, by omega⟩
 rw [List.getD_eq_getElem?_getD, List.getElem?_cons_succ, List.getElem?_append_left (by omega), List.getElem?_eq_getElem (show j < t.length by omega)]
 intro h
 refine h0 ?_
 have : t[j] = 0 := by
  have h2 : (t[j]).toNat = 0 := h
  exact UInt8.toNat_inj.1 h2
 exact this ▸ List.getElem_mem _
theorem readElem (g o n c e m : Nat) (k : Int) (kb : UInt8) (t r : List UInt8) (w : World) (hk : (kb.toNat : Int) = k) (he : t.length + 1 = e) (hn : n = e + 1 + r.length) (hm : m < r.length) (hc : n ≤ c) (hcb : c ≤ 9223372036854775807) (hmb : m < 2000000000) (h0 : 0 ∉ t) (hr : RD w g o (kb :: (t ++ 0 :: r)))
  (h : VLen k m (.slice (some ⟨g, o + (e + 1), none⟩) (n - (e + 1)) (c - (e + 1))) w) :
  Calls Tryz.prog 76 #[.slice (some ⟨g, o, none⟩) n c] w fun e9 w' => e9 = .returned (.tuple #[.slice (some ⟨g, o, none⟩) (e + 1 + m) c, .slice (some ⟨g, o + (e + 1 + m), none⟩) (n - (e + 1 + m)) (c - (e + 1 + m)), .bool true]) ∧ Below w.heap.size w w' := by
 have hlen : (kb :: (t ++ 0 :: r)).length = n := by simp; omega
 have c0 : w.cell? ⟨g, o, none⟩ = some (.int .u8 k) := by have := hr 0 kb rfl; rwa [hk] at this
 have hcell : ∀ i, i < n → w.cell? ⟨g, o + i, none⟩ = some (.int .u8 (((kb :: (t ++ 0 :: r)).getD i 0).toNat : Int)) := fun i hi => hr.at i (by omega)
 have hz : ((kb :: (t ++ 0 :: r)).getD e 0).toNat = 0 := by
  rw [List.getD_eq_getElem?_getD, ← he, List.getElem?_cons_succ, List.getElem?_append_right (by omega), show t.length - t.length = 0 from by omega]
  rfl
 have HN := LH (fun i h1 (hi : i < e) => getD_name kb t r h0 i h1 (by omega))
 have HCELL := LH hcell
 have HZ := LH hz
 have HV := LH (fun W hW => h W hW)
 have hn2 : e + 1 + m < n := by omega
 have he1 : 1 ≤ e := by omega
 clear hr h hcell hz hlen hk he hn hm h0
 generalize (kb :: (t ++ 0 :: r)) = L at HN HCELL HZ
 go_enter Tryz.func76, Tryz.ntmps76
 go_wp2_with fail
 go_loop [6] (fun i => ∃ q : Nat, i = .int .i64 q ∧ 1 ≤ q ∧ q ≤ e) (fun i => e - (intOf i).toNat)
 case atStart => exact ⟨1, rfl, by omega, by omega⟩
 case round =>
  obtain ⟨q, rfl, h1, h2⟩ := hrel
  have cq := HCELL.out q (by omega)
  by_cases hlt : q < e
  ·have hne := HN.out q h1 (by omega)
   obtain ⟨x, hx⟩ : ∃ x, (L.getD q 0).toNat = x := ⟨_, rfl⟩
   rw [hx] at cq hne
   have hq : ((x : Int) != 0) = true := by simp; omega
   clear hx hne
   go_wp2_with fail
   go_round
   case rel => exact ⟨q + 1, by go_num, by omega, by omega⟩
   case measure => simp [intOf]; omega
  ·obtain rfl : q = e := by omega
   have hz := HZ.out
   rw [hz] at cq
   clear hz
   go_wp2_with (go_at_call 107; refine (HV.out _ (Below.refl _ _)).mono ?_; rintro e9 w1 ⟨rfl, hb1⟩)
   go_quiet (fail)
   go_wp2_with fail
   go_ret3
   exact ⟨rfl, below_q hb1 _⟩
theorem valErr (g o n c p m : Nat) (k : Int) (kb : UInt8) (t r : List UInt8) (w : World) (hk : (kb.toNat : Int) = k) (hp : t.length = p) (hn : n = p + 2 + m) (hm : r.length = m) (hc : n < c) (hcb : c ≤ 9223372036854775807) (hmb : m < 2000000000) (h0 : 0 ∉ t) (hr : RD w g o (kb :: (t ++ 0 :: r)))
  (h : VLen k m (.slice (some ⟨g, o + (p + 2), none⟩) (n - (p + 2)) (c - (p + 2))) w) : Rd 108 (.slice (some ⟨g, o, none⟩) n c) w (.tuple #[.agg #[.int .u8 k, .slice (some ⟨g, o + (p + 2), none⟩) m (c - (p + 2))], .nilIface]) := by
 intro W hW
 have hix := fun (X : World) (hX : Below w.heap.size w X) => hp ▸ ix_zero g (o + 1) (n - 1) (c - 1) t r X (by omega) h0 (RD.right (a := [kb]) (hr.lat hX))
 have c0 : ∀ X, Below w.heap.size w X → X.cell? ⟨g, o, none⟩ = some (.int .u8 k) := fun X hX => by have := hr.lat hX 0 kb rfl; rwa [hk] at this
 have HV := LH (fun X hX => readVal g (o + (p + 2)) (n - (p + 2)) (c - (p + 2)) m k w (by omega) (by omega) (by omega) hmb h X hX)
 obtain ⟨Y, hY⟩ : ∃ Y, W.alloc (.cells #[.int .u8 0, .slice none 0 0] 126) = Y := ⟨_, rfl⟩
 have hYb : Below W.heap.size W Y := hY ▸ below_al _ _
 have hYs : Y.heap.size = W.heap.size + 1 := by rw [← hY]; simp
 have hY1 : Y.heap[W.heap.size]? = some (.cells #[.int .u8 0, .slice none 0 0] 126 (0, 0)) := hY ▸ heap_alloc_new W _
 have hwY := hW.trans (hYb.mono hW.size)
 have HX := LH (hix Y hwY)
 have HC0 := LH (fun X (hX : Below Y.heap.size Y X) => c0 X (hwY.trans (hX.mono hwY.size)))
 have HVV := LH (fun X (hX : Below Y.heap.size Y X) => HV.out X (hwY.trans (hX.mono hwY.size)))
 have HY := LH hY
 have HY1 := LH hY1
 have HYB := LH hYb
 have HYS := LH hYs
 have HN := LH hn
 have hn2 : p + 2 + m ≤ n := by omega
 clear hr h hW hY hYb hYs hY1 hwY hix c0 HV hk hp hm h0 hn
 go_enter Tryz.func108, Tryz.ntmps108
 go_upto_region 1 with fail
 rw [HY.out]
 go_wp2_with (go_at_call 167; refine HX.out.mono ?_; rintro e w1 ⟨rfl, rfl⟩)
 have c0 := HC0.out w1 (Below.refl _ _)
 have hA : (0 : Int) < (n : Int) := by omega
 have hA2 : 0 < n := by omega
 have hA3 : ¬ n = 0 := by omega
 have hB : (p : Int) + 2 ≤ (n : Int) := by omega
 have hB1 : (0 : Int) ≤ (p : Int) + 2 := by omega
 have hB2 : (p : Int) + 2 ≤ (c : Int) := by omega
 have hC : ¬ c = p + 2 := by omega
 have hC2 : n ≤ c := by omega
 have hw : IntKind.i64.wrap ((p : Int) + 2) = (p : Int) + 2 := by rw [IntKind.wrap_i64]; omega
 have hw2 : ((p : Int) + 2).toNat = p + 2 := by omega
 go_region_held3 (fun w' => w'.cell? ⟨g, o, none⟩ = some (.int .u8 k)) (first | exact c0 | exact HC0.out _ (by first | exact below_q (Below.refl _ _) 1 | exact below_q (below_al _ _) 1 | exact (below_q (Below.refl _ _) 1).trans (below_al _ _)) | exact cell_later (below_al _ _) c0 | exact HC0.out _ (Below.setCell (p := ⟨w1.heap.size, 1, none⟩) (Below.setCell (p := ⟨w1.heap.size, 0, none⟩) hbw (Nat.le_refl _) _) (Nat.le_refl _) _)) ((go_at_call 169; refine (HVV.out _ (by first | exact below_q (Below.refl _ _) 1 | exact below_q (below_al _ _) 1 | exact (below_q (Below.refl _ _) 1).trans (below_al _ _))).mono ?_; rintro e w2 ⟨rfl, hb2⟩; have hbw : Below w1.heap.size w1 w2 := (by first | exact (below_q (Below.refl _ _) 1).trans hb2 | exact (below_q (below_al _ _) 1).trans (hb2.mono (by simp))); have c0 := HC0.out w2 hbw; (try (have hz : w2.heap[w1.heap.size]? = some (.cells #[.int .u8 0, .slice none 0 0] 126 (0, 0)) := (hb2.block _ (by simp)).trans (heap_alloc_new w1 _); have e0 : w2.cell? ⟨w1.heap.size, 0, none⟩ = some (.int .u8 0) := (by rw [blk_cell hz]; rfl); have e1 : w2.cell? ⟨w1.heap.size, 1, none⟩ = some (.slice none 0 0) := (by rw [blk_cell hz]; rfl); have ez := fun i => blk_frozen hz i))))
 ·have pk := heap_alloc_new w2 (.cells #[.int .u8 k, (.slice (some ⟨g, o + (p + 2), none⟩) m (c - (p + 2)))] 126)
  have hv : Below w2.heap.size w2 (w2.alloc (.cells #[.int .u8 k, (.slice (some ⟨g, o + (p + 2), none⟩) m (c - (p + 2)))] 126)) := below_al w2 _
  obtain ⟨V, hV⟩ : ∃ V, w2.alloc (.cells #[.int .u8 k, (.slice (some ⟨g, o + (p + 2), none⟩) m (c - (p + 2)))] 126) = V := ⟨_, rfl⟩
  rw [hV] at pk hv ⊢
  have hsz := hbw.size
  have hys := HYS.out
  have zk : V.heap[W.heap.size]? = some (.cells #[.int .u8 0, .slice none 0 0] 126 (0, 0)) := (hv.block _ (by omega)).trans ((hbw.block _ (by omega)).trans HY1.out)
  have hwV : Below W.heap.size W V := HYB.out.trans ((hbw.trans (hv.mono hsz)).mono (by omega))
  clear hV hv hsz hys hbw hb2 c0
  have s0 : V.cell? ⟨W.heap.size, 0, none⟩ = some (.int .u8 0) := by rw [blk_cell zk]; rfl
  have s1 : V.cell? ⟨W.heap.size, 1, none⟩ = some (.slice none 0 0) := by rw [blk_cell zk]; rfl
  have q0 : V.cell? ⟨w2.heap.size, 0, none⟩ = some (.int .u8 k) := by rw [blk_cell pk]; rfl
  have q1 : V.cell? ⟨w2.heap.size, 1, none⟩ = some (.slice (some ⟨g, o + (p + 2), none⟩) m (c - (p + 2))) := by rw [blk_cell pk]; rfl
  have z := fun i => blk_frozen zk i
  have HZ := LH zk
  have HB := LH hwV
  clear zk pk hwV
  go_wp2_with fail
  have k0 : (V.setCell ⟨W.heap.size, 0, none⟩ (.int .u8 k)).heap[W.heap.size]? = some (.cells #[.int .u8 k, .slice none 0 0] 126 (0, 0)) := blk_set HZ.out 0 _
  have k1 : ((V.setCell ⟨W.heap.size, 0, none⟩ (.int .u8 k)).setCell ⟨W.heap.size, 1, none⟩ (.slice (some ⟨g, o + (p + 2), none⟩) m (c - (p + 2)))).heap[W.heap.size]? = some (.cells #[.int .u8 k, (.slice (some ⟨g, o + (p + 2), none⟩) m (c - (p + 2)))] 126 (0, 0)) := blk_set k0 1 _
  have HU := LH (show Below W.heap.size W ((V.setCell ⟨W.heap.size, 0, none⟩ (.int .u8 k)).setCell ⟨W.heap.size, 1, none⟩ (.slice (some ⟨g, o + (p + 2), none⟩) m (c - (p + 2)))) from Below.setCell (p := ⟨W.heap.size, 1, none⟩) (Below.setCell (p := ⟨W.heap.size, 0, none⟩) HB.out (Nat.le_refl _) _) (Nat.le_refl _) _)
  obtain ⟨U, hU⟩ : ∃ U, (V.setCell ⟨W.heap.size, 0, none⟩ (.int .u8 k)).setCell ⟨W.heap.size, 1, none⟩ (.slice (some ⟨g, o + (p + 2), none⟩) m (c - (p + 2))) = U := ⟨_, rfl⟩
  rw [hU] at k1 HU ⊢
  have t0 : U.cell? ⟨W.heap.size, 0, none⟩ = some (.int .u8 k) := by rw [blk_cell k1]; rfl
  have t1 : U.cell? ⟨W.heap.size, 1, none⟩ = some (.slice (some ⟨g, o + (p + 2), none⟩) m (c - (p + 2))) := by rw [blk_cell k1]; rfl
  (try simp only [Exit.inBlock, Exit.then])
  refine bodyPost_ret (v := ?_) (by simp [results, Tryz.results108, go_sem, t0, t1]; rfl) rfl ?_
  exact ⟨rfl, HU.out⟩
 ·have hz : w2.heap[w1.heap.size]? = some (.cells #[.int .u8 0, .slice none 0 0] 126 (0, 0)) := (hb2.block _ (by simp)).trans (heap_alloc_new w1 _)
  have pk : ((w2.setCell ⟨w1.heap.size, 0, none⟩ (.int .u8 k)).setCell ⟨w1.heap.size, 1, none⟩ (.slice (some ⟨g, o + (p + 2), none⟩) m (c - (p + 2)))).heap[w1.heap.size]? = some (.cells #[.int .u8 k, (.slice (some ⟨g, o + (p + 2), none⟩) m (c - (p + 2)))] 126 (0, 0)) := blk_set (cs := #[.int .u8 k, .slice none 0 0]) (blk_set hz 0 _) 1 _
  have hv : Below w1.heap.size w1 ((w2.setCell ⟨w1.heap.size, 0, none⟩ (.int .u8 k)).setCell ⟨w1.heap.size, 1, none⟩ (.slice (some ⟨g, o + (p + 2), none⟩) m (c - (p + 2)))) := Below.setCell (p := ⟨w1.heap.size, 1, none⟩) (Below.setCell (p := ⟨w1.heap.size, 0, none⟩) hbw (Nat.le_refl _) _) (Nat.le_refl _) _
  obtain ⟨V, hV⟩ : ∃ V, (w2.setCell ⟨w1.heap.size, 0, none⟩ (.int .u8 k)).setCell ⟨w1.heap.size, 1, none⟩ (.slice (some ⟨g, o + (p + 2), none⟩) m (c - (p + 2))) = V := ⟨_, rfl⟩
  rw [hV] at pk hv ⊢
  have hys := HYS.out
  have zk : V.heap[W.heap.size]? = some (.cells #[.int .u8 0, .slice none 0 0] 126 (0, 0)) := (hv.block _ (by omega)).trans HY1.out
  have hwV : Below W.heap.size W V := HYB.out.trans (hv.mono (by omega))
  clear hV hv hys hbw hb2 c0 hz
  have s0 : V.cell? ⟨W.heap.size, 0, none⟩ = some (.int .u8 0) := by rw [blk_cell zk]; rfl
  have s1 : V.cell? ⟨W.heap.size, 1, none⟩ = some (.slice none 0 0) := by rw [blk_cell zk]; rfl
  have q0 : V.cell? ⟨w1.heap.size, 0, none⟩ = some (.int .u8 k) := by rw [blk_cell pk]; rfl
  have q1 : V.cell? ⟨w1.heap.size, 1, none⟩ = some (.slice (some ⟨g, o + (p + 2), none⟩) m (c - (p + 2))) := by rw [blk_cell pk]; rfl
  have z := fun i => blk_frozen zk i
  have HZ := LH zk
  have HB := LH hwV
  clear zk pk hwV
  go_wp2_with fail
  have k0 : (V.setCell ⟨W.heap.size, 0, none⟩ (.int .u8 k)).heap[W.heap.size]? = some (.cells #[.int .u8 k, .slice none 0 0] 126 (0, 0)) := blk_set HZ.out 0 _
  have k1 : ((V.setCell ⟨W.heap.size, 0, none⟩ (.int .u8 k)).setCell ⟨W.heap.size, 1, none⟩ (.slice (some ⟨g, o + (p + 2), none⟩) m (c - (p + 2)))).heap[W.heap.size]? = some (.cells #[.int .u8 k, (.slice (some ⟨g, o + (p + 2), none⟩) m (c - (p + 2)))] 126 (0, 0)) := blk_set k0 1 _
  have HU := LH (show Below W.heap.size W ((V.setCell ⟨W.heap.size, 0, none⟩ (.int .u8 k)).setCell ⟨W.heap.size, 1, none⟩ (.slice (some ⟨g, o + (p + 2), none⟩) m (c - (p + 2)))) from Below.setCell (p := ⟨W.heap.size, 1, none⟩) (Below.setCell (p := ⟨W.heap.size, 0, none⟩) HB.out (Nat.le_refl _) _) (Nat.le_refl _) _)
  obtain ⟨U, hU⟩ : ∃ U, (V.setCell ⟨W.heap.size, 0, none⟩ (.int .u8 k)).setCell ⟨W.heap.size, 1, none⟩ (.slice (some ⟨g, o + (p + 2), none⟩) m (c - (p + 2))) = U := ⟨_, rfl⟩
  rw [hU] at k1 HU ⊢
  have t0 : U.cell? ⟨W.heap.size, 0, none⟩ = some (.int .u8 k) := by rw [blk_cell k1]; rfl
  have t1 : U.cell? ⟨W.heap.size, 1, none⟩ = some (.slice (some ⟨g, o + (p + 2), none⟩) m (c - (p + 2))) := by rw [blk_cell k1]; rfl
  (try simp only [Exit.inBlock, Exit.then])
  refine bodyPost_ret (v := ?_) (by simp [results, Tryz.results108, go_sem, t0, t1]; rfl) rfl ?_
  exact ⟨rfl, HU.out⟩
theorem elemVal (A : Option Addr) (n c : Nat) (k : Int) (X : Option Addr) (m c2 : Nat) (w : World) (h : Rd 108 (.slice A n c) w (.tuple #[.agg #[.int .u8 k, .slice X m c2], .nilIface])) : Rd 77 (.slice A n c) w (.agg #[.int .u8 k, .slice X m c2]) := by
 intro W hW
 obtain ⟨Y, hY⟩ : ∃ Y, W.alloc (.cells #[.int .u8 0, .slice none 0 0] 126) = Y := ⟨_, rfl⟩
 have hYb : Below W.heap.size W Y := hY ▸ below_al _ _
 have hYs : Y.heap.size = W.heap.size + 1 := by rw [← hY]; simp
 have hY1 : Y.heap[W.heap.size]? = some (.cells #[.int .u8 0, .slice none 0 0] 126 (0, 0)) := hY ▸ heap_alloc_new W _
 have HC := LH (h Y (hW.trans (hYb.mono hW.size)))
 have HY := LH hY
 have HY1 := LH hY1
 have HYB := LH hYb
 have HYS := LH hYs
 clear h hW hY hYb hYs hY1
 go_enter Tryz.func77, Tryz.ntmps77
 go_upto_region 1 with fail
 rw [HY.out]
 go_wp2_with (first | (go_at_call 108; refine HC.out.mono ?_; rintro e w2 ⟨rfl, hbw⟩) | (with_reducible show wpList _ _ _ (⟨some 10, _, _, _, _, _⟩ :: _) _ _; refine Hid.out ?_))
 refine LH ?_
 have pk := heap_alloc_new w2 (.cells #[.int .u8 k, (.slice X m c2)] 126)
 have hv : Below w2.heap.size w2 (w2.alloc (.cells #[.int .u8 k, (.slice X m c2)] 126)) := below_al w2 _
 obtain ⟨V, hV⟩ : ∃ V, w2.alloc (.cells #[.int .u8 k, (.slice X m c2)] 126) = V := ⟨_, rfl⟩
 rw [hV] at pk hv ⊢
 have hsz := hbw.size
 have hys := HYS.out
 have zk : V.heap[W.heap.size]? = some (.cells #[.int .u8 0, .slice none 0 0] 126 (0, 0)) := (hv.block _ (by omega)).trans ((hbw.block _ (by omega)).trans HY1.out)
 have hwV : Below W.heap.size W V := HYB.out.trans ((hbw.trans (hv.mono hsz)).mono (by omega))
 clear hV hv hsz hys hbw
 have s0 : V.cell? ⟨W.heap.size, 0, none⟩ = some (.int .u8 0) := by rw [blk_cell zk]; rfl
 have s1 : V.cell? ⟨W.heap.size, 1, none⟩ = some (.slice none 0 0) := by rw [blk_cell zk]; rfl
 have q0 : V.cell? ⟨w2.heap.size, 0, none⟩ = some (.int .u8 k) := by rw [blk_cell pk]; rfl
 have q1 : V.cell? ⟨w2.heap.size, 1, none⟩ = some (.slice X m c2) := by rw [blk_cell pk]; rfl
 have z := fun i => blk_frozen zk i
 have HZ := LH zk
 have HB := LH hwV
 clear zk pk hwV
 go_wp2_with fail
 have k0 : (V.setCell ⟨W.heap.size, 0, none⟩ (.int .u8 k)).heap[W.heap.size]? = some (.cells #[.int .u8 k, .slice none 0 0] 126 (0, 0)) := blk_set HZ.out 0 _
 have k1 : ((V.setCell ⟨W.heap.size, 0, none⟩ (.int .u8 k)).setCell ⟨W.heap.size, 1, none⟩ (.slice X m c2)).heap[W.heap.size]? = some (.cells #[.int .u8 k, (.slice X m c2)] 126 (0, 0)) := blk_set k0 1 _
 have HU := LH (show Below W.heap.size W ((V.setCell ⟨W.heap.size, 0, none⟩ (.int .u8 k)).setCell ⟨W.heap.size, 1, none⟩ (.slice X m c2)) from Below.setCell (p := ⟨W.heap.size, 1, none⟩) (Below.setCell (p := ⟨W.heap.size, 0, none⟩) HB.out (Nat.le_refl _) _) (Nat.le_refl _) _)
 obtain ⟨U, hU⟩ : ∃ U, (V.setCell ⟨W.heap.size, 0, none⟩ (.int .u8 k)).setCell ⟨W.heap.size, 1, none⟩ (.slice X m c2) = U := ⟨_, rfl⟩
 rw [hU] at k1 HU ⊢
 have t0 : U.cell? ⟨W.heap.size, 0, none⟩ = some (.int .u8 k) := by rw [blk_cell k1]; rfl
 have t1 : U.cell? ⟨W.heap.size, 1, none⟩ = some (.slice X m c2) := by rw [blk_cell k1]; rfl
 (try simp only [Exit.inBlock, Exit.then])
 refine bodyPost_ret (v := ?_) (by simp [results, Tryz.results77, go_sem, t0, t1]; rfl) rfl ?_
 exact ⟨rfl, HU.out⟩
end Go.Proofs.YtpfkgpcnhdkkbaaGreatDoor
