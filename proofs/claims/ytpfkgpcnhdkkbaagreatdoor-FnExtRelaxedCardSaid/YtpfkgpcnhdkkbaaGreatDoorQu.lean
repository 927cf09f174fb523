/- A region that draws its order and whose first operation only copies a slot that nothing before the tail needs: the copy is taken first; the rest as in Qt. -/
import Derived.Test.YtpfkgpcnhdkkbaaGreatDoorQt
namespace Go.Proofs.YtpfkgpcnhdkkbaaGreatDoor
section
variable {P : Program} {ops : Array Oper} {md : Region.Mode} {C : World → Prop}

theorem wpOp_monoQ {Q Q' : Exit → Act → World → Prop} (hQ : ∀ e a w, Q e a w → Q' e a w) {i : Nat} {a : Act} {w : World} {K K' : Act → World → Prop} (hK : ∀ a w, K a w → K' a w)
    (hh : wpOp P ops Q i K a w) : wpOp P ops Q' i K' a w := by
  unfold wpOp at *
  split
  · exact hK _ _ (by simpa [*] using hh)
  · rename_i o ho
    simp only [ho] at hh
    split
    · rename_i hw
      simp only [hw, if_true] at hh
      rcases hh with hh | ⟨h1, a', w', h2⟩
      · refine .inl ?_
        unfold Oper.wp at *
        generalize (execOp a.eval o).run P w = r at *
        cases r with
        | ok n w' =>
          cases n <;> simp only [Oper.upon] at hh ⊢
          case value u => exact hK _ _ hh
          case skip => exact hK _ _ hh
          case defer d => exact hK _ _ hh
          case enter f args =>
            refine Calls.mono hh fun e w'' he => ?_
            cases e with
            | returned u => exact hK _ _ he
            | panicked c => exact hQ _ _ _ he
            | outgrown => obtain ⟨a', w', h⟩ := he; exact ⟨a', w', hQ _ _ _ h⟩
          case row row args => exact Rows.mono hh fun u w'' he => hK _ _ he
        | halt x w' =>
          cases x <;> simp only [Oper.upon] at hh ⊢
          case panic u => exact hQ _ _ _ hh
      · exact .inr ⟨h1, a', w', hQ _ _ _ h2⟩
    · rename_i hw; simp only [hw] at hh; exact hK _ _ hh
theorem wpAny_monoQ {Q Q' : Exit → Act → World → Prop} (hQ : ∀ e a w, Q e a w → Q' e a w) : ∀ (fuel : Nat) (listed : Array Bool) (a : Act) (w : World), wpAny P md ops Q fuel listed a w → wpAny P md ops Q' fuel listed a w
  | 0, _, _, _, h => ⟨h.1, hQ _ _ _ h.2⟩
  | f + 1, _, _, _, h => ⟨fun h0 => hQ _ _ _ (h.1 h0), fun i hi => wpOp_monoQ hQ (fun a w h' => wpAny_monoQ hQ f _ a w h') (h.2 i hi)⟩

/-- The normal exit alone. -/
def onlyN (Q : Exit → Act → World → Prop) : Exit → Act → World → Prop
  | .normal, a, w => Q .normal a w
  | _, _, _ => False
theorem onlyN_le {Q : Exit → Act → World → Prop} : ∀ e a w, onlyN Q e a w → Q e a w := by
  intro e a w h
  cases e <;> first | exact h | exact h.elim

def sink1B (md : Region.Mode) (ops : Array Oper) (n : Nat) : Bool :=
  (List.range n).all fun i => decide (i = 0) || (List.range (n + 1)).any fun j => decide (i < j) && Region.waitsFor md ops j i
theorem tail_waits1 {n : Nat} {listed : Array Bool} (hs : sink1B md ops n = true) (hc : Region.chainB md ops n = true) (hn : n < ops.size) (inv : HeadInv md ops n listed) :
    ∀ (d i : Nat), n - i = d → 1 ≤ i → i < n → listed.getD i true = false → ∀ t, n ≤ t → t ∉ Region.ready md ops listed := by
  intro d
  induction d using Nat.strongRecOn with
  | _ d ih =>
    intro i hd hi1 hi hun t ht hr
    obtain ⟨_, ot, hot, hall⟩ := mem_ready.1 hr
    have htlt : t < ops.size := (Array.getElem?_eq_some_iff.1 hot).1
    by_cases htn : t = n
    · subst htn
      have h1 := List.all_eq_true.1 hs i (List.mem_range.2 hi)
      simp only [Bool.or_eq_true, decide_eq_true_eq] at h1
      have h1 := h1.resolve_left (by omega)
      obtain ⟨j, hj, hj2⟩ := List.any_eq_true.1 h1
      simp only [Bool.and_eq_true, decide_eq_true_eq] at hj2
      obtain ⟨oj, hoj, e, he, hb, hon⟩ := Region.waitsFor_spec hj2.2
      have hjle : j ≤ t := by have := List.mem_range.1 hj; omega
      by_cases hjt : j = t
      · subst hjt
        have : oj = ot := Option.some.inj (hoj.symm.trans hot)
        subst this
        have h2 := hall e he hb
        rw [hon, getD_both hun] at h2
        cases h2
      · cases hl : listed.getD j false with
        | true =>
          have h2 := inv.closed j oj hoj hl e he hb
          rw [hon, getD_both hun] at h2
          cases h2
        | false =>
          have hjs : j < listed.size := by rw [inv.size]; omega
          exact ih (t - j) (by omega) j rfl (by omega) (by omega) (getD_in hjs hl) t (Nat.le_refl _) hr
    · have h1 := List.all_eq_true.1 hc t (List.mem_range.2 htlt)
      simp only [Bool.or_eq_true, decide_eq_true_eq] at h1
      rcases h1 with h1 | h1
      · omega
      · obtain ⟨o', ho', e, he, hb, hon⟩ := Region.waitsFor_spec h1
        have : o' = ot := Option.some.inj (ho'.symm.trans hot)
        subst this
        have h2 := hall e he hb
        rw [hon, getD_both (inv.tail (t - 1) (by omega) (by omega))] at h2
        cases h2
theorem wpAnyLQ_first1 {n i : Nat} {oi : Oper} {v : Value} {L : Array Bool → Act → Prop} (hi : ops[i]? = some oi) (hsel : ∀ (j : Nat) (o : Oper) cs b, ops[j]? = some o → o.op ≠ .select cs b)
    (hs : sink1B md ops n = true) (hc : Region.chainB md ops n = true) (hn : n < ops.size) (hin : i < n) (hi1 : 1 ≤ i)
    (hdone : ∀ listed a, L listed a → ∀ j ∈ Region.ready md ops listed, n ≤ j) :
    ∀ (f : Nat) (listed : Array Bool) (a : Act), HeadInv md ops n listed →
      (∀ j oj, ops[j]? = some oj → j ≠ i → listed.getD j true = false → (∀ e ∈ oj.after, Region.binds md e = true → e.on ≠ i) → oi.apart ops oj = true) →
      i ∈ Region.ready md ops listed → YieldsIn P ops C oi v a →
      wpAnyLQ P md ops C n L f (listed.setIfInBounds i true) (a.put oi.dst v) → wpAnyLQ P md ops C n L (f + 1) listed a := by
  intro f
  induction f with
  | zero =>
    intro listed a inv _ hr hy H
    have hun := (mem_ready.1 hr).1
    refine ⟨fun h => (by rw [h] at hr; cases hr), fun j hj => ?_⟩
    have hjn : j < n := by
      rcases Nat.lt_or_ge j n with h | h
      · exact h
      · exact absurd hj (tail_waits1 hs hc hn inv _ i rfl hi1 hin hun j h)
    refine ⟨hjn, ?_⟩
    by_cases hji : j = i
    · subst hji; exact hy.qOp hi H
    · have := hdone _ _ H j (ready_mono hj hji)
      omega
  | succ f ih =>
    intro listed a inv hfree hr hy H
    have hun := (mem_ready.1 hr).1
    refine ⟨fun h => (by rw [h] at hr; cases hr), fun j hj => ?_⟩
    have hjn : j < n := by
      rcases Nat.lt_or_ge j n with h | h
      · exact h
      · exact absurd hj (tail_waits1 hs hc hn inv _ i rfl hi1 hin hun j h)
    refine ⟨hjn, ?_⟩
    by_cases hji : j = i
    · subst hji; exact hy.qOp hi H
    · have h1 := (H.2 j (ready_mono hj hji)).2
      obtain ⟨hjun, oj, hoj, hall⟩ := mem_ready.1 hj
      have hnot : ∀ e ∈ oj.after, Region.binds md e = true → e.on ≠ i := fun e he hb heq => by
        have h1 := hall e he hb
        rw [heq, getD_both hun] at h1
        cases h1
      have h2 := qOp_put hoj (hfree j oj hoj hji hjun hnot) (fun cs b => hsel i oi cs b hi) (fun cs b => hsel j oj cs b hoj) hy h1
      have hfree' : ∀ k ok, ops[k]? = some ok → k ≠ i → (listed.setIfInBounds j true).getD k true = false →
          (∀ e ∈ ok.after, Region.binds md e = true → e.on ≠ i) → oi.apart ops ok = true := fun k ok hk hki hun hno => by
        refine hfree k ok hk hki ?_ hno
        by_cases hjk : j = k
        · subst hjk; exact hjun
        · rw [getD_set_ne true hjk] at hun; exact hun
      refine qOp_mono (fun a' h3 => ih (listed.setIfInBounds j true) a' (inv.set hj hjn) hfree' (ready_mono hr (Ne.symm hji)) h3.1 ?_) h2
      rw [Array.setIfInBounds_comm _ _ hji]
      exact h3.2

theorem wpAnyLQ_lex1 {n g : Nat} {Lq : Act → Prop} (hsel : Region.noSelect ops = true) (hs : sink1B md ops n = true) (hc : Region.chainB md ops n = true) (hn : n < ops.size) :
    ∀ (l : List Oper) (k : Nat) (listed : Array Bool) (a : Act), (∀ j, j < l.length → l[j]? = ops[k + j]?) → 1 ≤ k → k + l.length = n → HeadInv md ops n listed →
    Region.lexHead md ops g l.length k listed = true → wpQuiet P ops C Lq l a →
    wpAnyLQ P md ops C n (fun listed' a' => Region.seqB md ops g n listed' = true ∧ Lq a') l.length listed a
  | [], k, listed, a, _, h1k, hk, _, hB, h => by
    have : k = n := by simpa using hk
    subst this
    exact ⟨by simpa [Region.lexHead] using hB, h⟩
  | o :: l, k, listed, a, hl, h1k, hk, inv, hB, h => by
    have h0 : ops[k]? = some o := by simpa using (hl 0 (by simp)).symm
    simp only [List.length_cons, Region.lexHead, Bool.and_eq_true] at hB
    obtain ⟨⟨hr, hf⟩, hB'⟩ := hB
    have hkn : k < n := by simp only [List.length_cons] at hk; omega
    have hr' : k ∈ Region.ready md ops listed := by simpa using hr
    have hst : qOp P ops C k (wpQuiet P ops C Lq l) a := by unfold qOp; simp only [h0]; exact h
    obtain ⟨v, hy, hK⟩ := yieldsIn_of_qOp h0 hst
    exact wpAnyLQ_first1 h0 (Region.noSelect_spec hsel) hs hc hn hkn h1k (fun listed' a' hL => seqB_ready hL.1) l.length listed a inv (Region.free_spec h0 hf) hr' hy
      (wpAnyLQ_lex1 hsel hs hc hn l (k + 1) _ _ (fun j hj => by have := hl (j + 1) (by simp; omega); simpa [Nat.add_assoc, Nat.add_comm 1 j] using this) (by omega) (by simp only [List.length_cons] at hk; omega) (inv.set hr' hkn) hB' hK)


def lexTail1B (md : Region.Mode) (ops : Array Oper) (n : Nat) : Bool :=
  Region.noSelect ops && decide (n < ops.size) && decide (1 ≤ n) && sink1B md ops n && Region.chainB md ops n && ((Region.ready md ops (Array.replicate ops.size false)).contains 0 && Region.free md ops (Array.replicate ops.size false) 0) &&
    Region.lexHead md ops (ops.size - n) (n - 1) 1 ((Array.replicate ops.size false).setIfInBounds 0 true)

theorem wp_region_quiet_tail1 {id : Nat} {Q : Exit → Act → World → Prop} {a : Act} {w : World} {o0 : Oper} {l : List Oper} (n : Nat) (v : Value) (hm : P.follows .mixedOrders = true) (hB : lexTail1B .any (o0 :: l).toArray n = true)
    (hy : Yields P (o0 :: l).toArray o0 v a)
    (h : wpQuiet P (o0 :: l).toArray (fun w' => ∃ n, w' = w.drewN n) (fun a' => ∀ w', (∃ n, w' = w.drewN n) → wpList P (o0 :: l).toArray (onlyN Q) (l.drop (n - 1)) a' w') (l.take (n - 1)) (a.put o0.dst v)) : (Code.region id (o0 :: l).toArray true).wp P Q a w := by
  simp only [lexTail1B, Bool.and_eq_true, decide_eq_true_eq] at hB
  obtain ⟨⟨⟨⟨⟨⟨hsel, hn⟩, h1n⟩, hs⟩, hc⟩, hr0, hf0⟩, hlex⟩ := hB
  have hn' : n < l.length + 1 := by simpa using hn
  have htl : (l.take (n - 1)).length = n - 1 := by simp; omega
  have hsz : (o0 :: l).toArray.size = l.length + 1 := by simp
  have hdl : (l.drop (n - 1)).length = (o0 :: l).toArray.size - n := by simp; omega
  have inv0 : HeadInv .any (o0 :: l).toArray n (Array.replicate (o0 :: l).toArray.size false) :=
    ⟨by simp, fun j oj _ hl => (by rw [getD_replicate_false] at hl; cases hl), fun t _ ht => getD_in (by simpa using ht) (getD_replicate_false _ _)⟩
  have hr0' : 0 ∈ Region.ready .any (o0 :: l).toArray (Array.replicate (o0 :: l).toArray.size false) := by simpa using hr0
  have inv1 := inv0.set hr0' (by omega)
  have H := wpAnyLQ_lex1 (P := P) (C := fun w' => ∃ n, w' = w.drewN n) (md := .any) (g := (o0 :: l).toArray.size - n) hsel hs hc hn (l.take (n - 1)) 1 _ (a.put o0.dst v) (fun j hj => by
    have hj' : j < n - 1 := by rw [htl] at hj; exact hj
    simp [hj', Nat.add_comm 1 j]) (Nat.le_refl 1) (by rw [htl]; omega) inv1 (by rw [htl]; exact hlex) h
  refine wp_region_any hm ?_
  have this := wpAny_of_headQ (C := fun w' => ∃ n, w' = w.drewN n) (Q' := onlyN Q) (g := (o0 :: l).toArray.size - n) (fun listed a' w' hw' hL => by
    have := wpAny_of_seq (md := .any) (Q' := onlyN Q) (l.drop (n - 1)) n listed a' w' (fun j => by
      rw [List.getElem?_drop]
      have : n + j = (n - 1 + j) + 1 := by omega
      rw [this]
      simp) (by rw [hdl]; exact hL.1) (hL.2 w' hw')
    rwa [hdl] at this) _ _ _ { w with drawn := w.drawn + 1 } ⟨1, rfl⟩ H
  rw [htl, show n - 1 + ((o0 :: l).toArray.size - n) = l.length by rw [hsz]; omega] at this
  have h2 := wpAny_first (P := P) (md := .any) (Q := onlyN Q) (i := 0) (oi := o0) (v := v) (ops := (o0 :: l).toArray) (by simp) (Region.noSelect_spec hsel) (fun c a w h => h) l.length _ a { w with drawn := w.drawn + 1 } (Region.free_spec (by simp) hf0) hr0' hy this
  rw [hsz]
  exact wpAny_monoQ onlyN_le _ _ _ _ h2
end
end Go.Proofs.YtpfkgpcnhdkkbaaGreatDoor
