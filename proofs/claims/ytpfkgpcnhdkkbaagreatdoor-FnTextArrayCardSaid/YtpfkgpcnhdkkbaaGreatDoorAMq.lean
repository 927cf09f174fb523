/- A region that draws its order: a head that reads, one operation that writes, and a tail that reads: one walk of the lexical order serves every order; no condition. -/
import Derived.Test.YtpfkgpcnhdkkbaaGreatDoorAGm
namespace Go.Proofs.YtpfkgpcnhdkkbaaGreatDoor
section
variable {P : Program} {ops : Array Oper} {md : Region.Mode} {C : World → Prop}
def chainM (md : Region.Mode) (ops : Array Oper) (n : Nat) : Bool :=
 (List.range ops.size).all fun t => decide (t ≤ n) || (List.range t).any fun j => decide (n ≤ j) && Region.waitsFor md ops t j
theorem tail_waitsM {n : Nat} {listed : Array Bool} (hs : Region.sinkB md ops n = true) (hc : chainM md ops n = true) (hn : n < ops.size) (inv : HeadInv md ops n listed) :
  ∀ (d i : Nat), n - i = d → i < n → listed.getD i true = false → ∀ t, n ≤ t → t ∉ Region.ready md ops listed := by
 intro d
 induction d using Nat.strongRecOn with
 | _ d ih =>
  intro i hd hi hun t ht hr
  obtain ⟨_, ot, hot, hall⟩ := mem_ready.1 hr
  have htlt : t < ops.size := (Array.getElem?_eq_some_iff.1 hot).1
  by_cases htn : t = n
  ·subst htn
   have h1 := List.all_eq_true.1 hs i (List.mem_range.2 hi)
   obtain ⟨j, hj, hj2⟩ := List.any_eq_true.1 h1
   simp only [Bool.and_eq_true, decide_eq_true_eq] at hj2
   obtain ⟨oj, hoj, e, he, hb, hon⟩ := Region.waitsFor_spec hj2.2
   have hjle : j ≤ t := by have := List.mem_range.1 hj; omega
   by_cases hjt : j = t
   ·subst hjt
    have : oj = ot := Option.some.inj (hoj.symm.trans hot)
    subst this
    have h2 := hall e he hb
    rw [hon, getD_both hun] at h2
    cases h2
   ·cases hl : listed.getD j false with
    | true =>
     have h2 := inv.closed j oj hoj hl e he hb
     rw [hon, getD_both hun] at h2
     cases h2
    | false =>
     have hjs : j < listed.size := by rw [inv.size]; omega
     exact ih (t - j) (by omega) j rfl (by omega) (getD_in hjs hl) t (Nat.le_refl _) hr
  ·have h1 := List.all_eq_true.1 hc t (List.mem_range.2 htlt)
   simp only [Bool.or_eq_true, decide_eq_true_eq] at h1
   rcases h1 with h1 | h1
   ·omega
   ·obtain ⟨j, hj, hj2⟩ := List.any_eq_true.1 h1
    simp only [Bool.and_eq_true, decide_eq_true_eq] at hj2
    have hjt := List.mem_range.1 hj
    obtain ⟨o', ho', e, he, hb, hon⟩ := Region.waitsFor_spec hj2.2
    have : o' = ot := Option.some.inj (ho'.symm.trans hot)
    subst this
    have h2 := hall e he hb
    rw [hon] at h2
    have h3 := inv.tail j hj2.1 (by omega)
    rw [getD_both h3] at h2
    cases h2
theorem wpAnyLM_first {n i : Nat} {oi : Oper} {v : Value} {L : Array Bool → Act → Prop} (hi : ops[i]? = some oi) (hsel : ∀ (j : Nat) (o : Oper) cs b, ops[j]? = some o → o.op ≠ .select cs b)
  (hs : Region.sinkB md ops n = true) (hc : chainM md ops n = true) (hn : n < ops.size) (hin : i < n)
  (hdone : ∀ listed a, L listed a → ∀ j ∈ Region.ready md ops listed, n ≤ j) :
  ∀ (f : Nat) (listed : Array Bool) (a : Act), HeadInv md ops n listed →
   (∀ j oj, ops[j]? = some oj → j ≠ i → listed.getD j true = false → (∀ e ∈ oj.after, Region.binds md e = true → e.on ≠ i) → oi.apart ops oj = true) →
   i ∈ Region.ready md ops listed → YieldsIn P ops C oi v a →
   wpAnyLQ P md ops C n L f (listed.setIfInBounds i true) (a.put oi.dst v) → wpAnyLQ P md ops C n L (f + 1) listed a := by
 intro f
 induction f with
 | zero =>
  intro listed a inv _ hr hy H
  have hun := (mem_ready.1 hr).1
  refine ⟨fun h => (by rw [h] at hr; cases hr), fun j hj => ?_⟩
  have hjn : j < n := by
   rcases Nat.lt_or_ge j n with h | h
   ·exact h
   ·exact absurd hj (tail_waitsM hs hc hn inv _ i rfl hin hun j h)
  refine ⟨hjn, ?_⟩
  by_cases hji : j = i
  ·subst hji; exact hy.qOp hi H
  ·have := hdone _ _ H j (ready_mono hj hji)
   omega
 | succ f ih =>
  intro listed a inv hfree hr hy H
  have hun := (mem_ready.1 hr).1
  refine ⟨fun h => (by rw [h] at hr; cases hr), fun j hj => ?_⟩
  have hjn : j < n := by
   rcases Nat.lt_or_ge j n with h | h
   ·exact h
   ·exact absurd hj (tail_waitsM hs hc hn inv _ i rfl hin hun j h)
  refine ⟨hjn, ?_⟩
  by_cases hji : j = i
  ·subst hji; exact hy.qOp hi H
  ·have h1 := (H.2 j (ready_mono hj hji)).2
   obtain ⟨hjun, oj, hoj, hall⟩ := mem_ready.1 hj
   have hnot : ∀ e ∈ oj.after, Region.binds md e = true → e.on ≠ i := fun e he hb heq => by
    have h1 := hall e he hb
    rw [heq, getD_both hun] at h1
    cases h1
   have h2 := qOp_put hoj (hfree j oj hoj hji hjun hnot) (fun cs b => hsel i oi cs b hi) (fun cs b => hsel j oj cs b hoj) hy h1
   have hfree' : ∀ k ok, ops[k]? = some ok → k ≠ i → (listed.setIfInBounds j true).getD k true = false →
     (∀ e ∈ ok.after, Region.binds md e = true → e.on ≠ i) → oi.apart ops ok = true := fun k ok hk hki hun hno => by
    refine hfree k ok hk hki ?_ hno
    by_cases hjk : j = k
    ·subst hjk; exact hjun
    ·rw [getD_set_ne true hjk] at hun; exact hun
   refine qOp_mono (fun a' h3 => ih (listed.setIfInBounds j true) a' (inv.set hj hjn) hfree' (ready_mono hr (Ne.symm hji)) h3.1 ?_) h2
   rw [Array.setIfInBounds_comm _ _ hji]
   exact h3.2
def midB (md : Region.Mode) (ops : Array Oper) (n : Nat) (listed : Array Bool) : Bool :=
 decide (Region.ready md ops listed = [n]) && Region.lexFrom md ops (ops.size - n - 1) (n + 1) (listed.setIfInBounds n true)
def lexHeadM (md : Region.Mode) (ops : Array Oper) (n : Nat) : Nat → Nat → Array Bool → Bool
 | 0, _, listed => midB md ops n listed
 | f + 1, k, listed => (Region.ready md ops listed).contains k && Region.free md ops listed k && lexHeadM md ops n f (k + 1) (listed.setIfInBounds k true)
def lexMidB (md : Region.Mode) (ops : Array Oper) (n : Nat) : Bool :=
 Region.noSelect ops && decide (n < ops.size) && Region.sinkB md ops n && chainM md ops n && lexHeadM md ops n n 0 (Array.replicate ops.size false)
theorem midB_ready {n : Nat} {listed : Array Bool} (h : midB md ops n listed = true) : ∀ j ∈ Region.ready md ops listed, n ≤ j := by
 intro j hj
 simp only [midB, Bool.and_eq_true, decide_eq_true_eq] at h
 rw [h.1] at hj
 have : j = n := by simpa using hj
 omega
theorem wpAnyLM_lex {n : Nat} {Lq : Act → Prop} (hsel : Region.noSelect ops = true) (hs : Region.sinkB md ops n = true) (hc : chainM md ops n = true) (hn : n < ops.size) :
  ∀ (l : List Oper) (k : Nat) (listed : Array Bool) (a : Act), (∀ j, j < l.length → l[j]? = ops[k + j]?) → k + l.length = n → HeadInv md ops n listed →
  lexHeadM md ops n l.length k listed = true → wpQuiet P ops C Lq l a →
  wpAnyLQ P md ops C n (fun listed' a' => midB md ops n listed' = true ∧ Lq a') l.length listed a
 | [], k, listed, a, _, hk, _, hB, h => by
  exact ⟨by simpa [lexHeadM] using hB, h⟩
 | o :: l, k, listed, a, hl, hk, inv, hB, h => by
  have h0 : ops[k]? = some o := by simpa using (hl 0 (by simp)).symm
  simp only [List.length_cons, lexHeadM, Bool.and_eq_true] at hB
  obtain ⟨⟨hr, hf⟩, hB'⟩ := hB
  have hkn : k < n := by simp only [List.length_cons] at hk; omega
  have hr' : k ∈ Region.ready md ops listed := by simpa using hr
  have hst : qOp P ops C k (wpQuiet P ops C Lq l) a := by unfold qOp; simp only [h0]; exact h
  obtain ⟨v, hy, hK⟩ := yieldsIn_of_qOp h0 hst
  exact wpAnyLM_first h0 (Region.noSelect_spec hsel) hs hc hn hkn (fun listed' a' hL => midB_ready hL.1) l.length listed a inv (Region.free_spec h0 hf) hr' hy
   (wpAnyLM_lex hsel hs hc hn l (k + 1) _ _ (fun j hj => by have := hl (j + 1) (by simp; omega); simpa [Nat.add_assoc, Nat.add_comm 1 j] using this) (by simp only [List.length_cons] at hk; omega) (inv.set hr' hkn) hB' hK)
def midQ (P : Program) (ops : Array Oper) (Q : Exit → Act → World → Prop) (l : List Oper) : Exit → Act → World → Prop
 | .normal, a, w => wpQuiet P ops (fun w' => ∃ n, w' = w.drewN n) (fun a' => ∀ w', (∃ n, w' = w.drewN n) → Q .normal a' w') l a
 | e, a, w => Q e a w
theorem letsOut_mid {Q : Exit → Act → World → Prop} {l : List Oper} (h : LetsOut (midQ P ops Q l)) : LetsOut Q := h
theorem wpMid {Q : Exit → Act → World → Prop} {l : List Oper} {o : Oper} {i : Nat} {a : Act} {w : World} {K : Act → World → Prop} (hi : ops[i]? = some o) (hK : ∀ a w, midQ P ops Q l .normal a w → K a w)
  (h : wpList P ops (midQ P ops Q l) [o] a w) : wpOp P ops Q i K a w := by
 unfold wpOp
 simp only [hi]
 unfold wpList at h
 split
 ·rename_i hw
  rw [if_pos hw] at h
  refine h.imp ?_ (fun h => ⟨h.1, letsOut_mid h.2⟩)
  intro hh
  unfold Oper.wp at *
  generalize (execOp a.eval o).run P w = r at *
  cases r with
  | ok n w' =>
   cases n <;> simp only [Oper.upon] at hh ⊢ <;>
    first
     | exact hK _ _ hh
     | exact Calls.mono hh (fun e w'' he => by
       cases e
       ·exact hK _ _ he
       ·exact he
       ·exact letsOut_mid he)
     | exact Rows.mono hh (fun _ _ he => hK _ _ he)
  | halt x w' => cases x <;> simp only [Oper.upon] at hh ⊢ <;> exact hh
 ·rename_i hw
  rw [if_neg hw] at h
  exact hK _ _ h
theorem wp_region_quiet_mid {id : Nat} {Q : Exit → Act → World → Prop} {a : Act} {w : World} {l : List Oper} (n : Nat) (hm : P.follows .mixedOrders = true) (hB : lexMidB .any l.toArray n = true)
  (h : wpQuiet P l.toArray (fun w' => ∃ n, w' = w.drewN n) (fun a' => ∀ w', (∃ n, w' = w.drewN n) → wpList P l.toArray (midQ P l.toArray Q (l.drop (n + 1))) ((l.drop n).take 1) a' w') (l.take n) a) : (Code.region id l.toArray true).wp P Q a w := by
 simp only [lexMidB, Bool.and_eq_true, decide_eq_true_eq] at hB
 obtain ⟨⟨⟨⟨hsel, hn⟩, hs⟩, hc⟩, hlex⟩ := hB
 have hn' : n < l.length := by simpa using hn
 have htl : (l.take n).length = n := by simp; omega
 have hrest : (l.drop (n + 1)).length = l.toArray.size - n - 1 := by simp; omega
 have hone : (l.drop n).take 1 = [l[n]] := by rw [List.drop_eq_getElem_cons hn']; rfl
 have inv0 : HeadInv .any l.toArray n (Array.replicate l.toArray.size false) :=
  ⟨by simp, fun j oj _ hl => (by rw [getD_replicate_false] at hl; cases hl), fun t _ ht => getD_in (by simpa using ht) (getD_replicate_false _ _)⟩
 have H := wpAnyLM_lex (P := P) (C := fun w' => ∃ n, w' = w.drewN n) (md := .any) hsel hs hc hn (l.take n) 0 _ a (fun j hj => by
  have hj' : j < n := by rw [htl] at hj; exact hj
  simp [hj']) (by simpa using htl) inv0 (by rw [htl]; exact hlex) h
 refine wp_region_any hm ?_
 have := wpAny_of_headQ (C := fun w' => ∃ n, w' = w.drewN n) (Q' := Q) (g := l.toArray.size - n - 1 + 1) (fun listed a' w' hw' hL => by
  have hL1 := hL.1
  simp only [midB, Bool.and_eq_true, decide_eq_true_eq] at hL1
  refine ⟨fun h => (by rw [h] at hL1; cases hL1.1), fun i hi => ?_⟩
  rw [hL1.1] at hi
  obtain rfl : i = n := by simpa using hi
  have hg := hL.2 w' hw'
  rw [hone] at hg
  refine wpMid (by simp [hn']) (fun a2 w2 hq => ?_) hg
  have hlx := wpAnyQ_lex (P := P) (C := fun w' => ∃ n, w' = w2.drewN n) (md := .any) (Q := fun a' => ∀ w', (∃ n, w' = w2.drewN n) → Q .normal a' w') hsel (l.drop (i + 1)) (i + 1) (listed.setIfInBounds i true) a2 (fun j => by simp [List.getElem?_drop]) (by rw [hrest]; exact hL1.2) hq
  rw [hrest] at hlx
  exact wpAny_of_quiet (C := fun w' => ∃ n, w' = w2.drewN n) (Q := fun a' => ∀ w', (∃ n, w' = w2.drewN n) → Q .normal a' w') (fun a w hw hQ => hQ w hw) _ _ _ w2 ⟨0, rfl⟩ hlx) _ _ _ { w with drawn := w.drawn + 1 } ⟨1, rfl⟩ H
 rw [htl, show n + (l.toArray.size - n - 1 + 1) = l.toArray.size by omega] at this
 exact this
end
section
variable {P : Program} {C : World → Prop}
theorem wp_region_quiet_cls {id : Nat} {Q : Exit → Act → World → Prop} {a : Act} {w : World} {l : List Oper} (hm : P.follows .mixedOrders = true) (hB : Region.lexB .any l.toArray = true) (hC : C { w with drawn := w.drawn + 1 })
  (h : wpQuiet P l.toArray C (fun a' => ∀ w', C w' → Q .normal a' w') l a) : (Code.region id l.toArray true).wp P Q a w :=
 wp_region_quiet (C := C) hm hB hC (by simpa using h)
theorem quiet_val {ops : Array Oper} {Q : Act → Prop} {a : Act} {o : Oper} {rest : List Oper} (v : Value) (hw : Region.wanted o (yielded ops a.tmps) = true) (h : ∀ W, C W → (execOp a.eval o).run P W = .ok (.value v) W) (hK : wpQuiet P ops C Q rest (a.put o.dst v)) :
  wpQuiet P ops C Q (o :: rest) a := by
 unfold wpQuiet
 rw [if_pos hw]
 exact ⟨v, fun W hW => by unfold Oper.quietAt; rw [h W hW]; exact ⟨rfl, rfl⟩, hK⟩
theorem quiet_enter {ops : Array Oper} {Q : Act → Prop} {a : Act} {o : Oper} {rest : List Oper} (v : Value) (f : FuncId) (args : Array Value) (hw : Region.wanted o (yielded ops a.tmps) = true) (h : ∀ W, C W → (execOp a.eval o).run P W = .ok (.enter f args) W)
  (hc : ∀ W, C W → Calls P f args W fun e W' => e = .returned v ∧ C W') (hK : wpQuiet P ops C Q rest (a.put o.dst v)) :
  wpQuiet P ops C Q (o :: rest) a := by
 unfold wpQuiet
 rw [if_pos hw]
 exact ⟨v, fun W hW => by unfold Oper.quietAt; rw [h W hW]; exact ⟨rfl, hc W hW⟩, hK⟩
end
end Go.Proofs.YtpfkgpcnhdkkbaaGreatDoor
