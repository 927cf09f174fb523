/- spec.ExtText: the kinds with elements. -/
import Derived.Test.YtpfkgpcnhdkkbaaGreatDoorAMx
import Derived.Test.YtpfkgpcnhdkkbaaGreatDoorAKx
import Derived.Test.YtpfkgpcnhdkkbaaGreatDoorAMl
import Derived.Test.YtpfkgpcnhdkkbaaGreatDoorAMf
import Derived.Laws.BitsAllLaws
import Derived.Test.YtpfkgpcnhdkkbaaGreatDoorAMk
namespace Go.Proofs.YtpfkgpcnhdkkbaaGreatDoor
open Go.RowKit
set_option linter.unusedVariables false
set_option linter.unusedSimpArgs false
set_option maxRecDepth 100000
theorem sItems_fl (l : List (List UInt8)) : (sItems l).length ≤ (l.flatMap (fun y => y ++ [44])).length ∧ (l ≠ [] → (sItems l).length + 1 = (l.flatMap (fun y => y ++ [44])).length) := by
 by_cases h : l = []
 ·subst h; simp [sItems]
 ·have := flat_comma l h
  rw [this]
  simp
theorem sItems_take (l : List (List UInt8)) (k : Nat) : (sItems (l.take k)).length ≤ (sItems l).length := by
 by_cases h : l = []
 ·subst h; simp
 ·have h1 := (sItems_fl (l.take k)).2
  have h2 := (sItems_fl l).2 h
  have h3 : ((l.take k).flatMap (fun y => y ++ [44])).length ≤ (l.flatMap (fun y => y ++ [44])).length := by
   conv => rhs; rw [← List.take_append_drop k l]
   rw [List.flatMap_append, List.length_append]
   omega
  by_cases h4 : l.take k = []
  ·rw [h4]; simp [sItems]
  ·have := h1 h4
   omega
theorem sItems_next (l : List (List UInt8)) (k : Nat) (x : List UInt8) (h : l[k]? = some x) : sItems (l.take (k + 1)) = if k = 0 then x else sItems (l.take k) ++ 44 :: x := by
 rw [List.take_add_one, h]
 show sItems (l.take k ++ [x]) = _
 rw [sItems_snoc]
 by_cases hk : k = 0
 ·subst hk; simp
 ·rw [if_neg hk, if_neg]
  intro h2
  rcases List.take_eq_nil_iff.1 h2 with h3 | h3
  ·exact hk h3
  ·subst h3; simp at h
theorem nx_cat (c : UInt8) (L : List (List UInt8)) (k : Nat) (t y : ByteArray) (hT : t = ⟨(c :: sItems (L.take k)).toArray⟩) (hn : sItems (L.take (k + 1)) = if k = 0 then y.data.toList else sItems (L.take k) ++ 44 :: y.data.toList) :
  (¬ 0 < k → t ++ y = ⟨(c :: sItems (L.take (k + 1))).toArray⟩) ∧ (0 < k → t ++ ⟨#[44]⟩ ++ y = ⟨(c :: sItems (L.take (k + 1))).toArray⟩) := by
 constructor
 ·intro hk
  obtain rfl : k = 0 := by omega
  rw [if_pos rfl] at hn
  rw [hn, hT]
  apply ByteArray.ext
  simp [sItems]
 ·intro hk
  rw [if_neg (by omega)] at hn
  rw [hn, hT]
  apply ByteArray.ext
  simp
theorem nx_size (c : UInt8) (L : List (List UInt8)) (k : Nat) (t : ByteArray) (hT : t = ⟨(c :: sItems (L.take k)).toArray⟩) (h : (sItems L).length ≤ 1000000000) : t.size ≤ 1000000001 := by
 have := sItems_take L k
 rw [hT]
 show (c :: sItems (L.take k)).toArray.size ≤ _
 rw [List.size_toArray, List.length_cons]
 omega
structure ExtEnv (K : Type) (f : K → List UInt8) (R : K → List Value → Prop) (l : List (ByteArray × K)) (canon esc : Bool) (w0 : World) : Prop where
 names : ∀ p ∈ l, p.1.size ≤ 300 ∧ UT p.1
 cells : ∀ p ∈ l, ∀ cs, R p.2 cs → Cells8 cs
 val : ∀ p ∈ l, ∀ cs, R p.2 cs → ∀ W, Below w0.heap.size w0 W → Calls Tryz.prog 10 #[.agg cs.toArray, .bool canon, .bool esc] W fun e w' => e = .returned (.tuple #[.string ⟨(f p.2).toArray⟩, .bool true]) ∧ Below W.heap.size W w'
theorem read_max : Ieee.double.read 9218868437227405311 = .number false 9007199254740991 971 := by decide +kernel
theorem neg_small {x : Nat} (h : 9223372036854775808 ≤ x) (hx : x < 18446744073709551616) : fBig x = false := by
 obtain ⟨e1, e2, e3⟩ := dbl_consts
 have hn : (x / Ieee.double.signWeight % 2 == 1) = true := by rw [e1]; simp; omega
 have key : (Ieee.double.read x).order (Ieee.double.read 9218868437227405311) ≠ some .gt := by
  rw [read_max]
  unfold Ieee.Format.read
  simp only [hn]
  have num : ∀ (m : Nat) (i : Int), (Ieee.Datum.number true m i).order (.number false 9007199254740991 971) ≠ some .gt := by
   intro m i hh
   unfold Ieee.Datum.order at hh
   simp only [Option.some.injEq] at hh
   have hlt : Ieee.signed true m (i - min i 971).toNat < Ieee.signed false 9007199254740991 (971 - min i 971).toNat := by
    unfold Ieee.signed
    have h1 : 0 < 9007199254740991 <<< (971 - min i 971).toNat := by rw [Nat.shiftLeft_eq]; exact Nat.mul_pos (by decide) (Nat.two_pow_pos _)
    simp only [if_true, Bool.false_eq_true, if_false]
    obtain ⟨p, hp⟩ : ∃ p, m <<< (i - min i 971).toNat = p := ⟨_, rfl⟩
    obtain ⟨q, hq⟩ : ∃ q, 9007199254740991 <<< (971 - min i 971).toNat = q := ⟨_, rfl⟩
    rw [hp, hq]
    rw [hq] at h1
    clear hp hq
    omega
   rw [show compare (Ieee.signed true m (i - min i 971).toNat) (Ieee.signed false 9007199254740991 (971 - min i 971).toNat) = .lt from by simp [compare, compareOfLessAndEq, hlt]] at hh
   cases hh
  split
  ·exact num _ _
  ·split
   ·exact num _ _
   ·split
    ·intro hh; cases hh
    ·intro hh; cases hh
 unfold fBig
 rw [show FloatKind.f64.format = Ieee.double from rfl]
 show ((Ieee.double.read x).order (Ieee.double.read 9218868437227405311) == some Ordering.gt) = false
 rcases hc : (Ieee.double.read x).order (Ieee.double.read 9218868437227405311) with _ | o
 ·rfl
 ·rw [hc] at key
  cases o
  ·rfl
  ·rfl
  ·exact absurd rfl key
theorem andNot63 (b : Nat) (hb : b < 18446744073709551616) : (Go.bits .andNot .u64 b 9223372036854775808).toNat = b % 9223372036854775808 := by
 rw [show (9223372036854775808 : Int) = ((9223372036854775808 : Nat) : Int) from rfl, u64_andNot_nat b 9223372036854775808 hb (by decide), Int.toNat_natCast]
 rw [show 18446744073709551615 - 9223372036854775808 = 2 ^ 63 - 1 from rfl, Nat.and_two_pow_sub_one_eq_mod]
theorem negF (b : Nat) (hb : b < 18446744073709551616) : Op.negFloat .f64 b = if b < 9223372036854775808 then b + 9223372036854775808 else b - 9223372036854775808 := by
 show b ^^^ 2 ^ 63 = _
 have h1 : (b ^^^ 2 ^ 63) % 2 ^ 63 = b % 2 ^ 63 := by rw [Nat.xor_mod_two_pow]; simp
 have h2 : (b ^^^ 2 ^ 63) / 2 ^ 63 = (b / 2 ^ 63) ^^^ 1 := by rw [Nat.xor_div_two_pow]
 have h3 : b / 2 ^ 63 = 0 ∨ b / 2 ^ 63 = 1 := by omega
 rcases h3 with h3 | h3
 ·rw [h3, show 0 ^^^ 1 = 1 from rfl] at h2
  rw [if_pos (by omega)]
  omega
 ·rw [h3, show 1 ^^^ 1 = 0 from rfl] at h2
  rw [if_neg (by omega)]
  omega
theorem dbl_num (b : Nat) (hb : b < 18446744073709551616) (h0 : fNaN b = false) : (fBig (Go.bits .andNot .u64 b 9223372036854775808).toNat = true → ¬ isNum ⟨(dblT b).toArray⟩) ∧ (fBig (Go.bits .andNot .u64 b 9223372036854775808).toNat = false → fBig b = false ∧ fBig (Op.negFloat .f64 b) = false) := by
 rw [andNot63 b hb]
 have hn := negF b hb
 constructor
 ·intro h
  by_cases hs : b < 9223372036854775808
  ·rw [Nat.mod_eq_of_lt hs] at h
   unfold dblT
   rw [h0, if_neg (by decide), if_pos h]
   decide
  ·rw [if_neg hs] at hn
   have h1 : fBig (Op.negFloat .f64 b) = true := by rw [hn]; rw [show b % 9223372036854775808 = b - 9223372036854775808 from by omega] at h; exact h
   unfold dblT
   rw [h0, if_neg (by decide), neg_small (by omega) hb, if_neg (by decide), if_pos h1]
   decide
 ·intro h
  by_cases hs : b < 9223372036854775808
  ·rw [Nat.mod_eq_of_lt hs] at h
   rw [if_pos hs] at hn
   exact ⟨h, by rw [hn]; exact neg_small (by omega) (by omega)⟩
  ·rw [if_neg hs] at hn
   refine ⟨neg_small (by omega) hb, ?_⟩
   rw [hn]; rw [show b % 9223372036854775808 = b - 9223372036854775808 from by omega] at h; exact h
theorem dbl_isnum (b : Nat) (hb : b < 18446744073709551616) (h0 : fNaN b = false) (h1 : fBig b = false) (h2 : fBig (Op.negFloat .f64 b) = false) : isNum ⟨(dblT b).toArray⟩ := by
 have hx : 46 ∈ dblT b ∨ 69 ∈ dblT b := by
  unfold dblT
  rw [h0, if_neg (by decide), h1, if_neg (by decide), h2, if_neg (by decide)]
  split
  ·assumption
  ·left; simp
 have ne : ∀ l : List UInt8, ¬ (46 ∈ l ∨ 69 ∈ l) → ¬ (⟨(dblT b).toArray⟩ : ByteArray) = ⟨l.toArray⟩ := by
  intro l hl e
  injection e with e
  have := congrArg Array.toList e
  simp only [List.toList_toArray] at this
  rw [this] at hx
  exact hl hx
 exact ⟨ne [73, 110, 102, 105, 110, 105, 116, 121] (by decide), ne [45, 73, 110, 102, 105, 110, 105, 116, 121] (by decide), ne [78, 97, 78] (by decide)⟩
theorem ret_eq {x : ByteArray} {l : List UInt8} (h : x.data.toList = l) : x = ⟨l.toArray⟩ := by
 apply ByteArray.ext
 rw [← h]
theorem soutS (esc : Bool) (s : ByteArray) (hs : s.size ≤ 300) (hu : UT s) : (soutB esc s).size ≤ 10000 := by
 show (sout esc s).toArray.size ≤ _
 rw [List.size_toArray, ← jout_eq esc s hu]
 have := jout_len esc s
 omega
theorem XB (kind : Int) (text more : ByteArray) (n : Int) (bits high : Nat) (bv kv : Value) (esc : Bool) (w : World) {W : World} (h : Below (xW kind text more n bits high bv kv esc w).heap.size (xW kind text more n bits high bv kv esc w) W) : Below w.heap.size w W :=
 (xW_below kind text more n bits high bv kv esc w).trans (h.mono (xW_below kind text more n bits high bv kv esc w).size)
theorem item_le (L : List (List UInt8)) (x : List UInt8) (h : x ∈ L) : x.length ≤ (sItems L).length := by
 obtain ⟨k, hk, rfl⟩ := List.getElem_of_mem h
 have h1 := sItems_next L k L[k] (List.getElem?_eq_getElem hk)
 have h2 := sItems_take L (k + 1)
 rw [h1] at h2
 split at h2
 ·exact h2
 ·simp only [List.length_append, List.length_cons] at h2; omega
def ExtAt (w0 : World) (esc : Bool) (d : Nat) : Prop := ∀ (t : VT d) (cs : List Value), IsV w0 d t cs → FitV d t → RightV d t → (spV esc d t).length ≤ 1000000000 → ∀ W, Below w0.heap.size w0 W →
 Calls Tryz.prog 10 #[.agg cs.toArray, .bool false, .bool esc] W fun e w' => e = .returned (.tuple #[.string ⟨(spV esc d t).toArray⟩, .bool true]) ∧ Below W.heap.size W w'
theorem arr_item_le {K : Type} (f : K → List UInt8) (l : List (ByteArray × K)) (p : ByteArray × K) (hp : p ∈ l) : (f p.2).length ≤ (sItems (spItem f l)).length := item_le (spItem f l) (f p.2) (List.mem_map.2 ⟨p, hp, rfl⟩)
theorem sout_le (esc : Bool) (s : ByteArray) (hs : s.size ≤ 300) (hu : UT s) : (sout esc s).length ≤ 1900 := by
 rw [← jout_eq esc s hu]
 have := jout_len esc s
 omega
theorem sum_le {α : Type} (l : List α) (f g : α → Nat) (h : ∀ a ∈ l, f a ≤ g a) : (l.map f).sum ≤ (l.map g).sum := by
 induction l with
 | nil => simp
 | cons a l ih =>
  have h1 := h a (by simp)
  have h2 := ih (fun b hb => h b (by simp [hb]))
  simp only [List.map_cons, List.sum_cons]
  omega
theorem sItems_sum (L : List (List UInt8)) : (sItems L).length ≤ (L.map fun y => y.length + 1).sum := by
 refine Nat.le_trans (sItems_fl L).1 ?_
 induction L with
 | nil => simp
 | cons a l ih =>
  simp only [List.flatMap_cons, List.length_append, List.map_cons, List.sum_cons, List.length_cons, List.length_nil]
  omega
theorem doc_len {K : Type} (esc : Bool) (f : K → List UInt8) (cn : K → Nat) (l : List (ByteArray × K)) (h : ∀ p ∈ l, p.1.size ≤ 300 ∧ UT p.1 ∧ (f p.2).length + 2000 ≤ 8000 * cn p.2) : (spDoc esc f l).length ≤ 2 + 8000 * (l.map fun p => cn p.2).sum ∧ (spArr f l).length ≤ 2 + 8000 * (l.map fun p => cn p.2).sum := by
 have e : 8000 * (l.map fun p => cn p.2).sum = (l.map fun p => 8000 * cn p.2).sum := by
  clear h
  induction l with
  | nil => simp
  | cons a l ih => simp only [List.map_cons, List.sum_cons] at ih ⊢; omega
 rw [e]
 constructor
 ·have h1 := sItems_sum (spMem esc f l)
  have h2 : ((spMem esc f l).map fun y => y.length + 1).sum ≤ (l.map fun p => 8000 * cn p.2).sum := by
   unfold spMem
   rw [List.map_map]
   refine sum_le l _ _ (fun p hp => ?_)
   obtain ⟨a, b, c⟩ := h p hp
   have := sout_le esc p.1 a b
   simp only [Function.comp, List.length_append, List.length_cons]
   omega
  unfold spDoc
  simp only [List.length_cons, List.length_append, List.length_nil]
  omega
 ·have h1 := sItems_sum (spItem f l)
  have h2 : ((spItem f l).map fun y => y.length + 1).sum ≤ (l.map fun p => 8000 * cn p.2).sum := by
   unfold spItem
   rw [List.map_map]
   refine sum_le l _ _ (fun p hp => ?_)
   obtain ⟨a, b, c⟩ := h p hp
   simp only [Function.comp]
   omega
  unfold spArr
  simp only [List.length_cons, List.length_append, List.length_nil]
  omega
theorem spR_len {K : Type} (esc : Bool) (fk rk : K → Prop) (f : K → List UInt8) (cn : K → Nat) (t : VR K) (hF : FitR fk t) (hR : RightR rk t) (hn : I64 t.n) (hb : t.bits < 18446744073709551616) (hh : t.high < 18446744073709551616) (h : (t.kind = 3 ∨ t.kind = 4 ∨ t.kind = 15) → ∀ p ∈ t.kids, (f p.2).length + 2000 ≤ 8000 * cn p.2) : (spR esc f t).length + 2000 ≤ 8000 * cntR cn t := by
 obtain ⟨kind, text, more, n, bits, high, b, kids⟩ := t
 have hft := hF.text
 have hfm := hF.more
 have hfb := hF.b
 have hfk := hF.kids
 have hrk := hR.kind
 have hid := hR.id
 have hbool := hR.bool
 simp only at hft hfm hfb hfk hrk hid hn hb hh h hbool
 have s1 := sout_le esc text hft.1 hft.2
 have s2 := sout_le esc more hfm.1 hfm.2
 have e1 := dblT_len bits hb
 have e2 := decT_len high bits hb
 have e3 : (Lib.itoa n).length ≤ 100 := by have := Lib.itoa_length_le n hn.1 hn.2; omega
 have e4 := decB_len (bits / 4294967296) (by omega)
 have e5 := decB_len (bits % 4294967296) (by omega)
 have e6 : (b6 b).length ≤ 500 := by rw [b6_length]; omega
 have e7 : (Lib.Hx.encode b).length ≤ 600 := by rw [Lib.Hx.encode_length]; omega
 have hc : 1 ≤ cntR cn ⟨kind, text, more, n, bits, high, b, kids⟩ := by unfold cntR; omega
 have hk3 : (kind = 3 ∨ kind = 4 ∨ kind = 15) → (spDoc esc f kids).length + 7998 ≤ 8000 * cntR cn ⟨kind, text, more, n, bits, high, b, kids⟩ ∧ (spArr f kids).length + 7998 ≤ 8000 * cntR cn ⟨kind, text, more, n, bits, high, b, kids⟩ := by
  intro hk
  have := doc_len esc f cn kids (fun p hp => ⟨(hfk p hp).1, (hfk p hp).2.1, h hk p hp⟩)
  unfold cntR
  simp only
  omega
 generalize cntR cn ⟨kind, text, more, n, bits, high, b, kids⟩ = C at hc hk3 ⊢
 have hcase : kind = 1 ∨ kind = 2 ∨ kind = 3 ∨ kind = 4 ∨ kind = 5 ∨ kind = 6 ∨ kind = 7 ∨ kind = 8 ∨ kind = 9 ∨ kind = 10 ∨ kind = 11 ∨ kind = 12 ∨ kind = 13 ∨ kind = 14 ∨ kind = 15 ∨ kind = 16 ∨ kind = 17 ∨ kind = 18 ∨ kind = 19 ∨ kind = 127 ∨ kind = 255 := by omega
 have x4 : (decB (bits / 4294967296)).data.toList.length = (decB (bits / 4294967296)).size := Array.length_toList
 have x5 : (decB (bits % 4294967296)).data.toList.length = (decB (bits % 4294967296)).size := Array.length_toList
 have x6 : (hex2B (n % 256).toNat).data.toList.length = 2 := rfl
 have x7 : (hexB b).data.toList.length = (Lib.Hx.encode b).length := rfl
 have z6 : (hex2B (n % 256).toNat).size = 2 := rfl
 have z7 : (hexB b).size = (Lib.Hx.encode b).length := rfl
 have y6 : (hex2B (n % 256).toNat).data.size = 2 := rfl
 have y7 : (hexB b).data.size = (Lib.Hx.encode b).length := rfl
 have x8 : (Lib.formatBool (decide (n = 1))).length ≤ 10 := by unfold Lib.formatBool; split <;> decide
 have x1 : (dblOut ⟨(dblT bits).toArray⟩).length ≤ 300 := by unfold dblOut; split <;> simp <;> omega
 rcases hcase with rfl | rfl | rfl | rfl | rfl | rfl | rfl | rfl | rfl | rfl | rfl | rfl | rfl | rfl | rfl | rfl | rfl | rfl | rfl | rfl | rfl <;> unfold spR
 ·show (dblOut ⟨(dblT bits).toArray⟩).length + 2000 ≤ _; omega
 ·show (sout esc text).length + 2000 ≤ _; omega
 ·have := hk3 (.inl rfl); show (spDoc esc f kids).length + 2000 ≤ _; omega
 ·have := hk3 (.inr (.inl rfl)); show (spArr f kids).length + 2000 ≤ _; omega
 all_goals (simp; omega)
end Go.Proofs.YtpfkgpcnhdkkbaaGreatDoor
