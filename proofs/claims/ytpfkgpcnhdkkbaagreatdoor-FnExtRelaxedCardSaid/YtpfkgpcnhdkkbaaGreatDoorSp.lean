/- Sorted texts: a text in rising order is what sorting it gives; its characters and back; no condition. -/
import Derived.Test.YtpfkgpcnhdkkbaaGreatDoorShelf
import Derived.Laws.RangeString
import Derived.Laws.Cover4
import Derived.Sort.LotA
namespace Go.Proofs.YtpfkgpcnhdkkbaaGreatDoor
open Go.RowKit
set_option linter.unusedVariables false
set_option linter.unusedSimpArgs false
/-- Letters in rising order. -/
def Rising (l : List UInt8) : Prop := (∀ b ∈ l, b.toNat < 128) ∧ l.Pairwise fun a b => a.toNat ≤ b.toNat
def intsOf (l : List UInt8) : Array Int := (l.map fun b => (b.toNat : Int)).toArray
theorem intsOf_size (l : List UInt8) : (intsOf l).size = l.length := by simp [intsOf]
theorem runes_ascii (s : ByteArray) (ha : ∀ b ∈ s.data.toList, b.toNat < 128) : ∀ (f i : Nat) (acc : Array Value), s.size ≤ i + f → Conv.runesFrom s f i acc = acc ++ ((s.data.toList.drop i).map fun b => Value.int .i32 (b.toNat : Int)).toArray
  | 0, i, acc, h => by
    rw [List.drop_of_length_le (by rw [Array.length_toList]; exact h)]
    simp [Conv.runesFrom]
  | f + 1, i, acc, h => by
    unfold Conv.runesFrom
    by_cases hlt : i < s.size
    · have hl : i < s.data.toList.length := by rw [Array.length_toList]; exact hlt
      have hb : (s[i]'hlt) = s.data.toList[i]'hl := by simp; rfl
      have hm : (s[i]'hlt).toNat < 128 := by rw [hb]; exact ha _ (List.getElem_mem hl)
      rw [if_pos hlt, decode_ascii s i hlt hm]
      simp only
      rw [runes_ascii s ha f (i + 1) _ (by omega), List.drop_eq_getElem_cons hl, ← hb]
      apply Array.ext'
      simp
    · rw [if_neg hlt, List.drop_of_length_le (by rw [Array.length_toList]; show s.size ≤ i; omega)]
      simp
theorem runes_str (s : ByteArray) (ha : ∀ b ∈ s.data.toList, b.toNat < 128) : Conv.runesFrom s s.size 0 #[] = (intsOf s.data.toList).map (Value.int .i32) := by
  rw [runes_ascii s ha s.size 0 #[] (by omega)]
  apply Array.ext'
  simp [intsOf]
theorem enc_ascii (b : UInt8) (h : b.toNat < 128) : Utf8.encode (b.toNat : Int) = ⟨#[b]⟩ := by
  unfold Utf8.encode Utf8.valid
  have h1 : ((b.toNat : Int)).toNat = b.toNat := by simp
  have h2 : (b.toNat : Int) < 128 := by omega
  simp only [h1]
  have h3 : (if (decide (0 ≤ (b.toNat : Int)) && (decide ((b.toNat : Int) < 55296) || decide (57344 ≤ (b.toNat : Int)) && decide ((b.toNat : Int) ≤ 1114111))) = true then b.toNat else Utf8.runeError) = b.toNat := by
    rw [if_pos]
    simp
    omega
  first
    | (rw [h3]; simp [h])
    | (split
       · simp [h]
       · rename_i hv; exfalso; apply hv; simp; omega)
theorem fold_ascii : ∀ (l : List UInt8) (s : ByteArray), (∀ b ∈ l, b.toNat < 128) → (l.map fun b => (b.toNat : Int)).foldl (fun r n => r ++ Utf8.encode n) s = ⟨(s.data.toList ++ l).toArray⟩
  | [], s, _ => by apply ByteArray.ext; simp
  | b :: l, s, h => by
    rw [List.map_cons, List.foldl_cons, enc_ascii b (h b (by simp)), fold_ascii l _ (fun c hc => h c (by simp [hc]))]
    apply ByteArray.ext
    simp
theorem bytes_ascii (l : List UInt8) (h : ∀ b ∈ l, b.toNat < 128) : runesBytes (l.map fun b => (b.toNat : Int)) = ⟨l.toArray⟩ := by
  unfold runesBytes
  rw [fold_ascii l _ h]
  rfl
theorem sorted_same (l : List UInt8) (hr : Rising l) (d' : Array Int) (hp : Go.Sort.PermIn 0 l.length (intsOf l) d') (hs : Go.Sort.SortedIn Go.Sort.ltInt 0 l.length d') : d' = intsOf l := by
  obtain ⟨h1, _, h2⟩ := hp
  rw [intsOf_size] at h1
  have e1 : d'.extract 0 l.length = d' := by rw [← h1]; simp
  have e2 : (intsOf l).extract 0 l.length = intsOf l := by rw [← intsOf_size l]; simp
  rw [e1, e2] at h2
  apply Array.ext'
  refine List.Perm.eq_of_pairwise (le := fun a b : Int => a ≤ b) (fun a b _ _ h3 h4 => by omega) ?_ ?_ h2
  · rw [List.pairwise_iff_getElem]
    intro i j hi hj hij
    have := hs i j (Nat.zero_le _) hij (by rw [← h1]; simpa using hj)
    simp only [Go.Sort.ltInt, decide_eq_false_iff_not] at this
    have hi' : i < d'.size := by simpa using hi
    have hj' : j < d'.size := by simpa using hj
    rw [getElem!_pos d' i hi', getElem!_pos d' j hj'] at this
    simp only [Array.getElem_toList]
    omega
  · unfold intsOf
    simp only [List.pairwise_map]
    exact hr.2.imp fun h => by omega
end Go.Proofs.YtpfkgpcnhdkkbaaGreatDoor
