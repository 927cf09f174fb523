import Derived.Test.YtpfkgpcnhdkkbaaGreatDoorNEw
import Derived.Maps.AppendAt
import Derived.Lib.UnsafeStr
namespace Go.Proofs.YtpfkgpcnhdkkbaaGreatDoor
open Go.RowKit
set_option linter.unusedVariables false
set_option linter.unusedSimpArgs false

theorem info5 : (Tryz.prog.info? 5).map (fun i => (i.zero, i.size, i.bytes)) = some (some (.int .u8 0), 1, 1) := by kernel_rfl

/-- What a slice of bytes reads as: 'l', from the address on. -/
def RB (w : World) (A : Option Addr) (l : List UInt8) : Prop := 0 < l.length → ∃ ad, A = some ad ∧ ∀ (j : Nat) (b : UInt8), l[j]? = some b → w.cell? (ad.add j) = some (.int .u8 (b.toNat : Int))

theorem IsEW.buf {g B wb : Nat} {canon esc : Bool} {buf : List UInt8} {modes : List Int} {w : World} (h : IsEW g B wb canon esc buf modes w) : ∃ bv, w.cell? ⟨g, 1, none⟩ = some bv := by
  obtain ⟨hB, bv, sb, len, cap, ms, hg, _⟩ := h
  exact ⟨bv, by rw [blk_cell hg]; rfl⟩
theorem IsEW.grown {g B wb : Nat} {canon esc : Bool} {buf l : List UInt8} {modes : List Int} {w w1 : World} (h : IsEW g B wb canon esc buf modes w) {bv v1 : Value} (hbv : w.cell? ⟨g, 1, none⟩ = some bv)
    (hown : w1.ownsRow B 5 1 v1 (buf ++ l).length (Lib.byteCells (buf ++ l))) (hg1 : w.grownBy w1 bv.ownBlock) :
    w1.cell? ⟨g, 1, none⟩ = some bv ∧ w1.frozen? ⟨g, 1, none⟩ = false ∧ IsEW g B wb canon esc (buf ++ l) modes (w1.setCell ⟨g, 1, none⟩ v1) ∧ EStep B w (w1.setCell ⟨g, 1, none⟩ v1) := by
  obtain ⟨hB, bv', sb, len, cap, ms, hg, hown0, hsB, hs, r⟩ := h
  have hlt := blk_lt hg
  have e : bv = bv' := by
    rw [blk_cell hg] at hbv
    simpa using hbv.symm
  subst e
  have hgg : w1.heap[g]? = _ := (hg1.block g (blk_lt hg) (fun e => own_ne hown0 hg (by decide) e.symm)).trans hg
  have hss : w1.heap[sb]? = _ := (hg1.block sb (blk_lt hs) (fun e => own_ne hown0 hs (by decide) e.symm)).trans hs
  refine ⟨by rw [blk_cell hgg]; rfl, blk_frozen hgg 1, ⟨hB, v1, sb, len, cap, ms, ?_, ?_, hsB, ?_, r⟩, ?_⟩
  · rw [blk_set hgg]
    simp only [List.setIfInBounds_toArray, List.set_cons_succ, List.set_cons_zero]
  · exact ownsRow_of_block hown (fun k hk => Below.heap_setCell _ _ _ k (by rintro rfl; exact own_ne hown hgg (by decide) hk))
  · exact (Below.heap_setCell _ _ _ sb (ne_of_tag hs hg (by decide))).trans hss
  · refine EStep.set ⟨(Below.refl B w).grown hg1 (by omega) (fun k hk => (hown0.lt k hk).1), (EKept.refl w).grown hg1 (fun k hk => ?_)⟩ hgg (by decide) hB 1 v1
    obtain ⟨cur, hc⟩ := own_blk hown0 k hk
    exact ⟨cur, _, hc⟩

end Go.Proofs.YtpfkgpcnhdkkbaaGreatDoor
