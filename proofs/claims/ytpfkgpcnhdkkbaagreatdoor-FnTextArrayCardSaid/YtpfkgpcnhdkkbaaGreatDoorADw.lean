/- spec.DocValue and spec.DocBytes: every value that the long text takes. -/
import Derived.Test.YtpfkgpcnhdkkbaaGreatDoorAGe
import Derived.Test.YtpfkgpcnhdkkbaaGreatDoorAMa
namespace Go.Proofs.YtpfkgpcnhdkkbaaGreatDoor
open Go.RowKit
set_option linter.unusedVariables false
set_option linter.unusedSimpArgs false
set_option maxRecDepth 100000
def DocAt (w0 : World) (d : Nat) : Prop := ∀ (t : VT d) (cs : List Value), IsV w0 d t cs → FitV d t → RightV d t → LongV d t → (valB d t).length ≤ 1000000 → ∀ W, Below w0.heap.size w0 W →
 Calls Tryz.prog 17 #[.agg cs.toArray] W (ObPost W.heap.size (valB d t) W)
theorem kindV_ok : ∀ (d : Nat) (t : VT d), RightV d t → -1000000 ≤ kindV d t ∧ kindV d t ≤ 1000000
 | 0, t, _ => t.elim
 | d + 1, t, hR => by
  have h : RightR (RightV d) t := hR
  have := h.kind
  show -1000000 ≤ t.kind ∧ t.kind ≤ 1000000
  omega
theorem IsV.form0 {w : World} : ∀ {d : Nat} {t : VT d} {cs : List Value}, IsV w d t cs → Cells8 cs ∧ cs[0]? = some (.int .i64 (kindV d t))
 | 0, t, _, _ => t.elim
 | d + 1, t, cs, h => by
  refine ⟨h.form, ?_⟩
  obtain ⟨bv, kv, e, _⟩ := h
  rw [e]
  rfl
theorem body_item_le {K : Type} (kf : K → Int) (f : K → List UInt8) (l : List (ByteArray × K)) (p : ByteArray × K) (hp : p ∈ l) : (f p.2).length ≤ (bodyB kf f l).length := by
 unfold bodyB
 induction l with
 | nil => simp at hp
 | cons a l ih =>
  simp only [List.flatMap_cons, List.length_append]
  rcases List.mem_cons.1 hp with rfl | h
  ·have := elB_len (kf p.2) p.1 (f p.2); omega
  ·have := ih h; omega
theorem doc_envD {w0 : World} {d : Nat} (IH : DocAt w0 d) (l : List (ByteArray × VT d)) (hF : ∀ p ∈ l, p.1.size ≤ 300 ∧ UT p.1 ∧ FitV d p.2) (hR : ∀ p ∈ l, RightV d p.2) (hL : ∀ p ∈ l, LongV d p.2) (hl : ∀ p ∈ l, (valB d p.2).length ≤ 1000000) : DbEnv (VT d) (kindV d) (valB d) (IsV w0 d) l w0 :=
 ⟨fun p hp => (hF p hp).1, fun p hp cs h => h.form0, fun p hp => kindV_ok d p.2 (hR p hp), hl, fun p hp cs h W hW => IH p.2 cs h (hF p hp).2.2 (hR p hp) (hL p hp) (hl p hp) W hW⟩
theorem docBytes_at {w0 : World} {d : Nat} (IH : DocAt w0 d) (l : List (ByteArray × VT d)) (hF : ∀ p ∈ l, p.1.size ≤ 300 ∧ UT p.1 ∧ FitV d p.2) (hR : ∀ p ∈ l, RightV d p.2) (hL : ∀ p ∈ l, LongV d p.2) (hl : (docB (kindV d) (valB d) l).length ≤ 1000000)
  (A : Option Addr) (c : Nat) (hkv : KidsV w0 (IsV w0 d) (.slice A l.length c) l) (W : World) (hW : Below w0.heap.size w0 W) : Calls Tryz.prog 13 #[.slice A l.length c] W (ObPost W.heap.size (docB (kindV d) (valB d) l) W) := by
 have h1 : (bodyB (kindV d) (valB d) l).length ≤ 1000000 := by unfold docB at hl; rw [docW_len] at hl; omega
 have h2 : l.length ≤ 140737488351232 := by
  obtain ⟨A', c', e, q1, q2, _⟩ := hkv
  omega
 exact docBytes_any A l.length c w0 W (doc_envD IH l hF hR hL (fun p hp => Nat.le_trans (body_item_le _ _ l p hp) h1)) rfl hkv h2 hW (by omega)
theorem doc_step (w0 : World) (d : Nat) (IH : DocAt w0 d) : DocAt w0 (d + 1) := by
 intro t cs hv hF hR hL hl W hW
 obtain ⟨kind, text, more, n, bits, high, b, kids⟩ := t
 obtain ⟨bv, kv, rfl, hk, hn, hbits, hhigh, hts, hms, ⟨A1, c1, rfl, hc1, hc1b, hrb⟩, hkv⟩ := hv
 obtain ⟨A2, c2, rfl, hc2, hc2b, hkr⟩ := id hkv
 have hF' : FitR (FitV d) ⟨kind, text, more, n, bits, high, b, kids⟩ := hF
 have hR' : RightR (RightV d) ⟨kind, text, more, n, bits, high, b, kids⟩ := hR
 have hL' : LongR (LongV d) ⟨kind, text, more, n, bits, high, b, kids⟩ := hL
 have hl' : (valR (kindV d) (valB d) ⟨kind, text, more, n, bits, high, b, kids⟩).length ≤ 1000000 := hl
 have hfk := hF'.kids
 have hft := hF'.text
 have hfm := hF'.more
 have hfb := hF'.b
 have hrk := hR'.kind
 have hkk := hR'.kids
 have h15 := hL'.kind
 have hlk := fun p hp => (hL'.kids p hp).2.2
 have hrb' := hrb.lat hW
 simp only at hk hn hbits hhigh hts hms hrb' hfk hft hfm hfb hrk hkk h15 hlk hl' hkv hkr hc2 hc2b hc1 hc1b ⊢
 show Calls Tryz.prog 17 #[valV kind text more n bits high (.slice A1 b.length c1) (.slice A2 kids.length c2)] W (ObPost W.heap.size (valR (kindV d) (valB d) ⟨kind, text, more, n, bits, high, b, kids⟩) W)
 have hcase : kind = 1 ∨ kind = 2 ∨ kind = 3 ∨ kind = 4 ∨ kind = 5 ∨ kind = 6 ∨ kind = 7 ∨ kind = 8 ∨ kind = 9 ∨ kind = 10 ∨ kind = 11 ∨ kind = 12 ∨ kind = 13 ∨ kind = 14 ∨ kind = 16 ∨ kind = 17 ∨ kind = 18 ∨ kind = 19 ∨ kind = 127 ∨ kind = 255 := by omega
 clear hL hL' hF hF' hR hR' hl
 rcases hcase with rfl | rfl | rfl | rfl | rfl | rfl | rfl | rfl | rfl | rfl | rfl | rfl | rfl | rfl | rfl | rfl | rfl | rfl | rfl | rfl
 ·exact docv1 text more n bits high A1 A2 _ c1 _ c2 W hbits
 ·exact docv2 text more n bits high A1 A2 _ c1 _ c2 W (by omega)
 ·exact docv3 text more n bits high A1 A2 _ c1 _ c2 W _ (fun W2 hW2 => docBytes_at IH kids hfk (hkk (by decide)) hlk hl' A2 c2 hkv W2 (hW.trans (hW2.mono hW.size)))
 ·exact docv4 text more n bits high A1 A2 _ c1 _ c2 W _ (fun W2 hW2 => docBytes_at IH kids hfk (hkk (by decide)) hlk hl' A2 c2 hkv W2 (hW.trans (hW2.mono hW.size)))
 ·by_cases h2 : n = 2
  ·exact docv5old text more n bits high A1 A2 _ c1 _ c2 W b rfl (by omega) h2 hrb'
  ·exact docv5 text more n bits high A1 A2 _ c1 _ c2 W b rfl (by omega) h2 hrb'
 ·exact docv6 text more n bits high A1 A2 _ c1 _ c2 W
 ·exact docv7 text more n bits high A1 A2 _ c1 _ c2 W b rfl (by omega) hrb'
 ·exact docv8 text more n bits high A1 A2 _ c1 _ c2 W
 ·exact docv9 text more n bits high A1 A2 _ c1 _ c2 W
 ·exact docv10 text more n bits high A1 A2 _ c1 _ c2 W
 ·exact docv11 text more n bits high A1 A2 _ c1 _ c2 W (by omega) (by omega)
 ·exact docv12 text more n bits high A1 A2 _ c1 _ c2 W b rfl (by omega) (by omega) hrb'
 ·exact docv13 text more n bits high A1 A2 _ c1 _ c2 W (by omega)
 ·exact docv14 text more n bits high A1 A2 _ c1 _ c2 W (by omega)
 ·exact docv16 text more n bits high A1 A2 _ c1 _ c2 W hn
 ·exact docv17 text more n bits high A1 A2 _ c1 _ c2 W hbits
 ·exact docv18 text more n bits high A1 A2 _ c1 _ c2 W
 ·exact docv19 text more n bits high A1 A2 _ c1 _ c2 W hbits hhigh
 ·exact docv127 text more n bits high A1 A2 _ c1 _ c2 W
 ·exact docv255 text more n bits high A1 A2 _ c1 _ c2 W
theorem docVal_at (w0 : World) : ∀ d, DocAt w0 d
 | 0 => fun t => t.elim
 | d + 1 => doc_step w0 d (docVal_at w0 d)
end Go.Proofs.YtpfkgpcnhdkkbaaGreatDoor
