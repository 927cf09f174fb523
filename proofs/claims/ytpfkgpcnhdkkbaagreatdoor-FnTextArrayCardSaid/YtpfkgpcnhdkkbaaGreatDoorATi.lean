/- What the implementation's reader asks of a value; how long a value's bytes are, as it counts them. -/
import Derived.Test.YtpfkgpcnhdkkbaaGreatDoorAGf
import Derived.Test.YtpfkgpcnhdkkbaaGreatDoorAGc
import Derived.Test.YtpfkgpcnhdkkbaaGreatDoorAGa
namespace Go.Proofs.YtpfkgpcnhdkkbaaGreatDoor
open Go.RowKit
set_option linter.unusedVariables false
set_option linter.unusedSimpArgs false
set_option maxRecDepth 100000
structure OkR {K : Type} (fk : K → Prop) (t : VR K) : Prop where
 text : t.text.size ≤ 300 ∧ UT t.text
 more : t.more.size ≤ 300 ∧ UT t.more
 b : t.b.length ≤ 300
 rising : t.kind = 11 → Rising t.more.data.toList
 kind : (1 ≤ t.kind ∧ t.kind ≤ 19 ∧ t.kind ≠ 15) ∨ t.kind = 127 ∨ t.kind = 255
 bin : t.kind = 5 → 0 ≤ t.n ∧ t.n ≤ 255
 id : t.kind = 7 ∨ t.kind = 12 → t.b.length = 12
 bool : t.kind = 8 → t.n = 0 ∨ t.n = 1
 i32 : t.kind = 16 → -2147483648 ≤ t.n ∧ t.n ≤ 2147483647
 ptr : t.kind = 12 → sout true t.text = 34 :: (t.text.data.toList ++ [34])
 dbl : t.kind = 1 → 69 ∉ dblT t.bits
 n : I64 t.n
 bits : t.bits < 18446744073709551616
 high : t.high < 18446744073709551616
 re : t.kind = 11 → 0 ∉ t.text.data.toList ∧ 0 ∉ t.more.data.toList
 kids : (t.kind = 3 ∨ t.kind = 4) → ∀ p ∈ t.kids, p.1.size ≤ 300 ∧ UT p.1 ∧ p.1.size ≠ 0 ∧ 0 ∉ p.1.data.toList ∧ sout true p.1 = 34 :: (p.1.data.toList ++ [34]) ∧ fk p.2
def OkV : (d : Nat) → VT d → Prop
 | 0, t => t.elim
 | d + 1, t => OkR (OkV d) t
theorem plain_mem {s : ByteArray} (h : plainB s = true) : 0 ∉ s.data.toList := by
 unfold plainB at h
 rw [List.all_eq_true] at h
 intro h0
 have := h 0 h0
 simp at this
theorem okV_of (w : World) : ∀ (d : Nat) (t : VT d) (cs : List Value) (deep : Nat), IsV w d t cs → FitV d t → rightB d t deep = true → LongV d t → OkV d t
 | 0, t, _, _, _, _, _, _ => t.elim
 | d + 1, t, cs, 0, _, _, h, _ => by cases h
 | d + 1, t, cs, deep + 1, hv, hF, hB, hL => by
  have hR : RightR (RightV d) t := rightB_right (d + 1) t (deep + 1) hB
  have hF' : FitR (FitV d) t := hF
  have hL' : LongR (LongV d) t := hL
  have hp : rightP (fun k => rightB d k deep) t := by
   refine Classical.byContradiction fun hn => ?_
   have h2 : rightR (fun k => rightB d k deep) t = false := rightR_no hn
   have h3 : rightR (fun k => rightB d k deep) t = true := hB
   rw [h2] at h3
   cases h3
  obtain ⟨_, _, h3⟩ := hp
  obtain ⟨bv, kv, e, hk, hn, hbits, hhigh, hts, hms, hbv, ⟨A2, c2, e2, hc2, hc2b, hkr⟩⟩ := hv
  have hkd := hR.kind
  have h15 := hL'.kind
  refine ⟨hF'.text, hF'.more, hF'.b, hF'.rising, by omega, hR.bin, hR.id, hR.bool, hR.i32, hL'.ptr, fun h1 => ?_, hn, hbits, hhigh, fun h1 => ?_, fun h1 p hp => ?_⟩
  ·have h69 := hL'.dbl h1
   intro hm
   refine h69 ?_
   unfold dblOut
   have hx : (aux0.dbl t.bits).data.toList = dblT t.bits := rfl
   split
   ·rw [hx]; exact hm
   ·rw [hx]; simp [hm]
  ·rw [h1] at h3
   simp at h3
   exact ⟨plain_mem h3.1, plain_mem h3.2⟩
  ·have h4 : kidsOk (fun k => rightB d k deep) t.kind t.kids := by rcases h1 with e | e <;> simpa [e] using h3
   obtain ⟨i, hi, rfl⟩ := List.getElem_of_mem hp
   have hget := List.getElem?_eq_getElem hi
   have h5 := h4 i _ hget
   unfold kidOk at h5
   simp only [Bool.and_eq_true] at h5
   obtain ⟨hn0, ad, cs0, e0, hR0, _, _⟩ := hkr i _ _ hget
   have hfk := hF'.kids _ hp
   have hlk := hL'.kids _ hp
   exact ⟨hfk.1, hfk.2.1, hlk.1, plain_mem h5.1.1, hlk.2.1, okV_of w d _ cs0 deep hR0 hfk.2.2 h5.2 hlk.2.2⟩
theorem vlen_any {K : Type} (fk : K → Prop) (kf : K → Int) (f : K → List UInt8) (t : VR K) (hO : OkR fk t) (L : List UInt8) (hL : valR kf f t = L) (hlen : L.length ≤ 10000000) (g o c : Nat) (r : List UInt8) (w : World) (hc : L.length + r.length ≤ c) (hcb : c ≤ 9223372036854775807) (hr : RD w g o (L ++ r)) :
  VLen t.kind L.length (.slice (some ⟨g, o, none⟩) (L.length + r.length) c) w := by
 obtain ⟨kind, text, more, n, bits, high, b, kids⟩ := t
 have ht := hO.text.1
 have hm := hO.more.1
 have hb := hO.b
 have hid := hO.id
 have hre := hO.re
 have hkd := hO.kind
 clear hO
 simp only at ht hm hb hid hre hkd ⊢
 have hcase : kind = 1 ∨ kind = 2 ∨ kind = 3 ∨ kind = 4 ∨ kind = 5 ∨ kind = 6 ∨ kind = 7 ∨ kind = 8 ∨ kind = 9 ∨ kind = 10 ∨ kind = 11 ∨ kind = 12 ∨ kind = 13 ∨ kind = 14 ∨ kind = 16 ∨ kind = 17 ∨ kind = 18 ∨ kind = 19 ∨ kind = 127 ∨ kind = 255 := by omega
 have e1 : text.data.toList.length = text.size := Array.length_toList
 have e2 : more.data.toList.length = more.size := Array.length_toList
 have htx : ∀ k, (∀ (N : Nat) (l : List UInt8), RD w g o (le32 N ++ l) → 4 + l.length ≤ c → 4 < c → N < 1000000000 → VLen k (N + 4) (.slice (some ⟨g, o, none⟩) (4 + l.length) c) w) → L = txB text → VLen k L.length (.slice (some ⟨g, o, none⟩) (L.length + r.length) c) w := by
  intro k h e
  subst e
  have h1 := h (text.size + 1) (text.data.toList ++ [0] ++ r) (by rw [show le32 (text.size + 1) ++ (text.data.toList ++ [0] ++ r) = txB text ++ r from by simp [txB]]; exact hr) (by have := txB_len text; simp only [List.length_append, List.length_cons, List.length_nil]; omega) (by have := txB_len text; omega) (by omega)
  rw [show text.size + 1 + 4 = (txB text).length from by rw [txB_len], show 4 + List.length (text.data.toList ++ [0] ++ r : List UInt8) = (txB text).length + r.length from by rw [txB_len]; simp only [List.length_append, List.length_cons, List.length_nil]; omega] at h1
  exact h1
 have hdoc : ∀ k, (∀ (N : Nat) (l : List UInt8), RD w g o (le32 N ++ l) → 4 + l.length ≤ c → 4 < c → N < 1000000000 → VLen k (N + 0) (.slice (some ⟨g, o, none⟩) (4 + l.length) c) w) → L = docB kf f kids → VLen k L.length (.slice (some ⟨g, o, none⟩) (L.length + r.length) c) w := by
  intro k h e
  obtain ⟨y, hy⟩ : ∃ y, bodyB kf f kids = y := ⟨_, rfl⟩
  unfold docB at e
  rw [hy] at e
  subst e
  have hw := docW_len y
  have h1 := h (y.length + 5) (y ++ [0] ++ r) (by rw [show le32 (y.length + 5) ++ (y ++ [0] ++ r) = docW y ++ r from by simp [docW]]; exact hr) (by simp only [List.length_append, List.length_cons, List.length_nil]; omega) (by omega) (by omega)
  rw [show y.length + 5 + 0 = (docW y).length from by rw [hw], show 4 + List.length (y ++ [0] ++ r : List UInt8) = (docW y).length + r.length from by rw [hw]; simp only [List.length_append, List.length_cons, List.length_nil]; omega] at h1
  exact h1
 have hlist : ∀ k m, (∀ N, VLen k m (.slice (some ⟨g, o, none⟩) N c) w) → L.length = m → VLen k L.length (.slice (some ⟨g, o, none⟩) (L.length + r.length) c) w := by
  intro k m h e
  have h1 := h (L.length + r.length)
  rw [← e] at h1
  exact h1
 rcases hcase with rfl | rfl | rfl | rfl | rfl | rfl | rfl | rfl | rfl | rfl | rfl | rfl | rfl | rfl | rfl | rfl | rfl | rfl | rfl | rfl
 ·exact hlist 1 8 (fun N => vlen1 _ N c w) (by rw [← hL]; rfl)
 ·exact htx 2 (fun N l h1 h2 h4 h3 => vlen2 g o _ c N l w rfl h2 h4 hcb h3 h1) (by rw [← hL]; rfl)
 ·exact hdoc 3 (fun N l h1 h2 h4 h3 => vlen3 g o _ c N l w rfl h2 h4 hcb h3 h1) (by rw [← hL]; rfl)
 ·exact hdoc 4 (fun N l h1 h2 h4 h3 => vlen4 g o _ c N l w rfl h2 h4 hcb h3 h1) (by rw [← hL]; rfl)
 ·have e : L = binB n b := by rw [← hL]; rfl
  subst e
  unfold binB at hr hc ⊢
  by_cases h2 : n = 2
  ·rw [if_pos h2] at hr hc ⊢
   have h1 := vlen5 g o (4 + (2 :: (le32 b.length ++ b) ++ r).length) c (b.length + 4) (2 :: (le32 b.length ++ b) ++ r) w rfl (by simp only [List.length_append, List.length_cons, le32_len] at hc ⊢; omega) (by simp only [List.length_append, List.length_cons, le32_len] at hc; omega) hcb (by omega) (by simpa using hr)
   have e3 : (le32 (b.length + 4) ++ 2 :: (le32 b.length ++ b)).length = b.length + 4 + 5 := by simp only [List.length_append, List.length_cons, le32_len]; omega
   rw [e3]
   rw [show 4 + (2 :: (le32 b.length ++ b) ++ r).length = b.length + 4 + 5 + r.length from by simp only [List.length_append, List.length_cons, le32_len]; omega] at h1
   exact h1
  ·rw [if_neg h2] at hr hc ⊢
   have h1 := vlen5 g o (4 + (u8 n :: b ++ r).length) c b.length (u8 n :: b ++ r) w rfl (by simp only [List.length_append, List.length_cons, le32_len] at hc ⊢; omega) (by simp only [List.length_append, List.length_cons, le32_len] at hc; omega) hcb (by omega) (by simpa using hr)
   have e3 : (le32 b.length ++ u8 n :: b).length = b.length + 5 := by simp only [List.length_append, List.length_cons, le32_len]; omega
   rw [e3]
   rw [show 4 + (u8 n :: b ++ r).length = b.length + 5 + r.length from by simp only [List.length_append, List.length_cons]; omega] at h1
   exact h1
 ·exact hlist 6 0 (fun N => vlen6 _ N c w) (by rw [← hL]; rfl)
 ·exact hlist 7 12 (fun N => vlen7 _ N c w) (by rw [← hL]; exact hid (.inl rfl))
 ·exact hlist 8 1 (fun N => vlen8 _ N c w) (by rw [← hL]; rfl)
 ·exact hlist 9 8 (fun N => vlen9 _ N c w) (by rw [← hL]; rfl)
 ·exact hlist 10 0 (fun N => vlen10 _ N c w) (by rw [← hL]; rfl)
 ·have e : L = text.data.toList ++ 0 :: (more.data.toList ++ [0]) := by rw [← hL]; rfl
  subst e
  have e3 : (text.data.toList ++ 0 :: (more.data.toList ++ [0])).length = text.size + 1 + more.size + 1 := by simp only [List.length_append, List.length_cons, List.length_nil]; omega
  rw [e3] at hc ⊢
  exact vlen11 g o _ c text more r w (by omega) hc hcb (by omega) (by omega) (hre rfl).1 (hre rfl).2 (by simpa using hr)
 ·have e : L = txB text ++ b := by rw [← hL]; rfl
  subst e
  have h12 := hid (.inr rfl)
  have e3 : (txB text ++ b).length = text.size + 1 + 16 := by rw [List.length_append, txB_len]; omega
  have h1 := vlen12 g o (4 + (text.data.toList ++ [0] ++ b ++ r).length) c (text.size + 1) (text.data.toList ++ [0] ++ b ++ r) w rfl (by rw [e3] at hc; simp only [List.length_append, List.length_cons, List.length_nil]; omega) (by rw [e3] at hc; omega) hcb (by omega) (by rw [show le32 (text.size + 1) ++ (text.data.toList ++ [0] ++ b ++ r) = txB text ++ b ++ r from by simp [txB]]; exact hr)
  rw [e3]
  rw [show 4 + List.length (text.data.toList ++ [0] ++ b ++ r : List UInt8) = text.size + 1 + 16 + r.length from by simp only [List.length_append, List.length_cons, List.length_nil]; omega] at h1
  exact h1
 ·exact htx 13 (fun N l h1 h2 h4 h3 => vlen13 g o _ c N l w rfl h2 h4 hcb h3 h1) (by rw [← hL]; rfl)
 ·exact htx 14 (fun N l h1 h2 h4 h3 => vlen14 g o _ c N l w rfl h2 h4 hcb h3 h1) (by rw [← hL]; rfl)
 ·exact hlist 16 4 (fun N => vlen16 _ N c w) (by rw [← hL]; rfl)
 ·exact hlist 17 8 (fun N => vlen17 _ N c w) (by rw [← hL]; rfl)
 ·exact hlist 18 8 (fun N => vlen18 _ N c w) (by rw [← hL]; rfl)
 ·exact hlist 19 16 (fun N => vlen19 _ N c w) (by rw [← hL]; rfl)
 ·exact hlist 127 0 (fun N => vlen127 _ N c w) (by rw [← hL]; rfl)
 ·exact hlist 255 0 (fun N => vlen255 _ N c w) (by rw [← hL]; rfl)
end Go.Proofs.YtpfkgpcnhdkkbaaGreatDoor
