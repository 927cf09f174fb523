/- The reader's text of a value that holds no others: it is the long text; conditions: the bytes, the tables. -/
import Derived.Test.YtpfkgpcnhdkkbaaGreatDoorATi
import Derived.Test.YtpfkgpcnhdkkbaaGreatDoorADw
import Derived.Test.YtpfkgpcnhdkkbaaGreatDoorAGd
import Derived.Test.YtpfkgpcnhdkkbaaGreatDoorAGk
import Derived.Test.YtpfkgpcnhdkkbaaGreatDoorAGs
import Derived.Test.YtpfkgpcnhdkkbaaGreatDoorAGt
import Derived.Test.YtpfkgpcnhdkkbaaGreatDoorAMn
import Derived.Test.YtpfkgpcnhdkkbaaGreatDoorAMc
import Derived.Test.YtpfkgpcnhdkkbaaGreatDoorAGc
import Derived.Test.YtpfkgpcnhdkkbaaGreatDoorAMa
import Derived.Test.YtpfkgpcnhdkkbaaGreatDoorACx
import Derived.Test.YtpfkgpcnhdkkbaaGreatDoorAGi
import Derived.Test.YtpfkgpcnhdkkbaaGreatDoorAMb
import Derived.Deep.RegionWith
namespace Go.Proofs.YtpfkgpcnhdkkbaaGreatDoor
open Go.RowKit
set_option linter.unusedVariables false
set_option linter.unusedSimpArgs false
set_option maxRecDepth 100000
theorem sfrom_plain (s : ByteArray) (h : ∀ b ∈ s.data.toList, 97 ≤ b.toNat ∧ b.toNat ≤ 122) : ∀ (f i : Nat), s.size ≤ i + f → sfrom true s f i = s.data.toList.drop i
 | 0, i, hf => by
  rw [List.drop_of_length_le (by rw [Array.length_toList]; exact hf)]
  rfl
 | f + 1, i, hf => by
  have hl : s.data.toList.length = s.size := Array.length_toList
  unfold sfrom
  by_cases hi : i < s.size
  ·rw [if_pos hi]
   have hg : s.data.toList[i]? = some (s.data.toList[i]'(by omega)) := List.getElem?_eq_getElem (by omega)
   have hb := h _ (List.getElem_mem (l := s.data.toList) (n := i) (by omega))
   have hA : byA s i = (s.data.toList[i]'(by omega)).toNat := by unfold byA; rw [List.getD_eq_getElem?_getD, hg]; rfl
   have hx : xrA s i = (1, byA s i) := xrN_one _ _ _ _ _ (by omega) (by omega)
   have hs : sstep true s i = ((s.data.toList.drop i).take 1, 1) := by
    unfold sstep
    rw [hx]
    simp only
    rw [if_neg (by omega), if_neg (by omega), if_neg (by simp only [true_and]; omega), if_neg (by omega)]
   rw [hs]
   simp only
   rw [sfrom_plain s h f (i + 1) (by omega)]
   rw [← List.drop_drop, List.take_append_drop]
  ·rw [if_neg hi, List.drop_of_length_le (by omega)]
theorem sout_plain (s : ByteArray) (h : ∀ b ∈ s.data.toList, 97 ≤ b.toNat ∧ b.toNat ≤ 122) : sout true s = 34 :: (s.data.toList ++ [34]) := by
 unfold sout
 rw [sfrom_plain s h s.size 0 (by omega)]
 rfl
theorem escU (s : ByteArray) (hs : s.size ≤ 300) (hu : UT s) (w : World) (hT : TabX w) (h17 : 17 ≤ w.heap.size) : Rd 110 (.string s) w (.string (soutB true s)) := by
 intro W hW
 have h := escS_any s W (hT.below hW h17) (by have := hW.size; omega) (by omega)
 rw [jout_eq true s hu] at h
 exact h
theorem rdStr (g o n c : Nat) (s : ByteArray) (l : List UInt8) (w : World) (hn : n = s.size + 5 + l.length) (hc : n < c) (hcb : c ≤ 9223372036854775807) (hs : s.size ≤ 1000000000) (hr : RD w g o (txB s ++ l)) :
  Rd 225 (.slice (some ⟨g, o, none⟩) n c) w (.tuple #[.string s, .slice (some ⟨g, o + 4 + (s.size + 1), none⟩) (n - 4 - (s.size + 1)) (c - 4 - (s.size + 1)), .bool true]) := fun W hW => readStr_any g o n c s l W hn hc hcb hs (hr.lat hW)
theorem rb_rd {w : World} {g o : Nat} {l : List UInt8} (h : RD w g o l) : RB w (some ⟨g, o, none⟩) l := fun _ => ⟨_, rfl, fun j b hb => by rw [addrP]; exact h j b hb⟩
theorem len12 : ∀ (b : List UInt8), b.length = 12 → ∃ b0 b1 b2 b3 b4 b5 b6 b7 b8 b9 b10 b11, b = [b0, b1, b2, b3, b4, b5, b6, b7, b8, b9, b10, b11]
 | [b0, b1, b2, b3, b4, b5, b6, b7, b8, b9, b10, b11], _ => ⟨_, _, _, _, _, _, _, _, _, _, _, _, rfl⟩
theorem rdHex (b0 b1 b2 b3 b4 b5 b6 b7 b8 b9 b10 b11 : UInt8) (w : World) : Rd 119 (idV b0 b1 b2 b3 b4 b5 b6 b7 b8 b9 b10 b11) w (.string (hexB [b0, b1, b2, b3, b4, b5, b6, b7, b8, b9, b10, b11])) := by
 intro W hW
 have h := idHex_core [(b0.toNat : Int), b1.toNat, b2.toNat, b3.toNat, b4.toNat, b5.toNat, b6.toNat, b7.toNat, b8.toNat, b9.toNat, b10.toNat, b11.toNat] b0.toNat b1.toNat b2.toNat b3.toNat b4.toNat b5.toNat b6.toNat b7.toNat b8.toNat b9.toNat b10.toNat b11.toNat rfl (by
  intro i hi
  have hh : ∀ x : UInt8, 0 ≤ (x.toNat : Int) ∧ (x.toNat : Int) < 256 := fun x => ⟨by omega, by have := x.toNat_lt; omega⟩
  match i, hi with
  | 0, _ => exact hh b0
  | 1, _ => exact hh b1
  | 2, _ => exact hh b2
  | 3, _ => exact hh b3
  | 4, _ => exact hh b4
  | 5, _ => exact hh b5
  | 6, _ => exact hh b6
  | 7, _ => exact hh b7
  | 8, _ => exact hh b8
  | 9, _ => exact hh b9
  | 10, _ => exact hh b10
  | 11, _ => exact hh b11) W
 rw [show Lib.bytesOf [(b0.toNat : Int), b1.toNat, b2.toNat, b3.toNat, b4.toNat, b5.toNat, b6.toNat, b7.toNat, b8.toNat, b9.toNat, b10.toNat, b11.toNat] = [b0, b1, b2, b3, b4, b5, b6, b7, b8, b9, b10, b11] from by simp [Lib.bytesOf]] at h
 exact h
theorem s64_u64 (n : Int) (h : I64 n) : s64 (u64 n) = n := by
 obtain ⟨h1, h2⟩ := h
 unfold s64 u64
 split <;> omega
theorem s32_u32 (n : Int) (h : -2147483648 ≤ n ∧ n ≤ 2147483647) : s32 (u32 n) = n := by
 unfold s32 u32
 split <;> omega
theorem le64_two (b : Nat) (h : b < 18446744073709551616) : le64 b = le32 (b % 4294967296) ++ le32 (b / 4294967296) := by
 have e : ∀ x y : Nat, x % 256 = y % 256 → UInt8.ofNat x = UInt8.ofNat y := fun x y h => by
  apply UInt8.toNat_inj.1
  simp [h]
 unfold le64 le32
 simp only [List.cons_append, List.nil_append, List.cons.injEq, and_true]
 refine ⟨e _ _ (by omega), e _ _ (by omega), e _ _ (by omega), e _ _ (by omega), trivial, e _ _ (by omega), e _ _ (by omega), e _ _ (by omega)⟩
section
variable {K : Type} (fL : K → List UInt8) (text more : ByteArray) (n : Int) (bits high : Nat) (b : List UInt8) (kids : List (ByteArray × K)) (g o c : Nat) (w : World)
theorem tv_str (hs : text.size ≤ 300) (hc : text.size + 5 < c) (hcb : c ≤ 9223372036854775807) (hr : RD w g o (txB text)) : Rd 225 (.slice (some ⟨g, o, none⟩) (text.size + 5) c) w (.tuple #[.string text, .slice (some ⟨g, o + 4 + (text.size + 1), none⟩) (text.size + 5 - 4 - (text.size + 1)) (c - 4 - (text.size + 1)), .bool true]) :=
 rdStr g o (text.size + 5) c text [] w rfl hc hcb (by omega) (by simpa using hr)
theorem tv_2ok (hs : text.size ≤ 300) (hc : text.size + 5 < c) (hcb : c ≤ 9223372036854775807) (hr : RD w g o (txB text)) : Rd 109 (.agg #[.int .u8 2, .slice (some ⟨g, o, none⟩) (text.size + 5) c]) w (.tuple #[.string text, .bool true]) :=
 ok109 _ _ _ text _ _ _ w (hand173 _ _ _ text _ _ _ w (tv_str text g o c w hs hc hcb hr))
end
theorem VLen.lat {k : Int} {m : Nat} {v : Value} {w w2 : World} (h : VLen k m v w) (hb : Below w.heap.size w w2) : VLen k m v w2 := fun W hW => h W (hb.trans (hW.mono hb.size))
section
variable {K : Type} (kf : K → Int) (f fL : K → List UInt8) (l : List (ByteArray × K))
def posB (i : Nat) : Nat := 4 + (bodyB kf f (l.take i)).length
def lenB (i : Nat) : Nat := ((l[i]?).map fun p => (elB (kf p.2) p.1 (f p.2)).length).getD 0
def restB (i : Nat) : List UInt8 := bodyB kf f (l.drop (i + 1)) ++ [0]
theorem body_split (i : Nat) (p : ByteArray × K) (h : l[i]? = some p) : docB kf f l = le32 ((bodyB kf f l).length + 5) ++ bodyB kf f (l.take i) ++ (elB (kf p.2) p.1 (f p.2) ++ restB kf f l i) := by
 have h1 : bodyB kf f l = bodyB kf f (l.take (i + 1)) ++ bodyB kf f (l.drop (i + 1)) := by
  conv => lhs; rw [← List.take_append_drop (i + 1) l]
  unfold bodyB
  rw [List.flatMap_append]
 have h2 := body_take kf f l i p h
 unfold docB docW restB
 conv => lhs; arg 1; arg 2; rw [h1, h2]
 simp
theorem elem_at (g o c : Nat) (w : World) (hr : RD w g o (docB kf f l)) (i : Nat) (p : ByteArray × K) (h : l[i]? = some p) :
  RD w g (o + posB kf f l i) (elB (kf p.2) p.1 (f p.2) ++ restB kf f l i) ∧ (docB kf f l).length = posB kf f l i + (elB (kf p.2) p.1 (f p.2)).length + (restB kf f l i).length ∧ 1 ≤ (restB kf f l i).length ∧ posB kf f l (i + 1) = posB kf f l i + (elB (kf p.2) p.1 (f p.2)).length ∧ lenB kf f l i = (elB (kf p.2) p.1 (f p.2)).length := by
 have h1 := body_split kf f l i p h
 refine ⟨?_, ?_, ?_, ?_, ?_⟩
 ·rw [h1] at hr
  have := hr.right
  rw [List.length_append, le32_len] at this
  exact this
 ·rw [h1]
  simp only [List.length_append, le32_len, posB]
  omega
 ·simp [restB]
 ·unfold posB
  rw [body_take kf f l i p h, List.length_append]
  omega
 ·unfold lenB
  rw [h]
  rfl
structure KidEnv (g : Nat) (w : World) : Prop where
 names : ∀ p ∈ l, 0 ∉ p.1.data.toList ∧ p.1.size ≠ 0 ∧ p.1.size ≤ 300
 kinds : ∀ p ∈ l, 0 ≤ kf p.2 ∧ kf p.2 ≤ 255
 vlen : ∀ p ∈ l, ∀ (o c : Nat) (r : List UInt8), RD w g o (f p.2 ++ r) → (f p.2).length + r.length ≤ c → c ≤ 9223372036854775807 → VLen (kf p.2) (f p.2).length (.slice (some ⟨g, o, none⟩) ((f p.2).length + r.length) c) w
theorem kid_read (g o c : Nat) (w : World) (E : KidEnv kf f l g w) (hl : (docB kf f l).length ≤ 1000000) (hc : (docB kf f l).length ≤ c) (hcb : c ≤ 9223372036854775807) (hr : RD w g o (docB kf f l)) :
  LEnv g o (docB kf f l).length c l.length (posB kf f l) (lenB kf f l) w := by
 refine ⟨by simp [posB, bodyB], fun i hi => ?_, ?_, fun i hi => ?_, fun i hi => ?_, fun i hi => ?_⟩
 ·obtain ⟨p, hp⟩ : ∃ p, l[i]? = some p := ⟨_, List.getElem?_eq_getElem hi⟩
  obtain ⟨a1, a2, a3, a4, a5⟩ := elem_at kf f l g o c w hr i p hp
  rw [a4, a5]
 ·unfold posB docB
  rw [List.take_length, docW_len]
  omega
 ·obtain ⟨p, hp⟩ : ∃ p, l[i]? = some p := ⟨_, List.getElem?_eq_getElem hi⟩
  obtain ⟨a1, a2, a3, a4, a5⟩ := elem_at kf f l g o c w hr i p hp
  rw [a5]
  omega
 ·obtain ⟨p, hp⟩ : ∃ p, l[i]? = some p := ⟨_, List.getElem?_eq_getElem hi⟩
  obtain ⟨a1, a2, a3, a4, a5⟩ := elem_at kf f l g o c w hr i p hp
  rw [a5, elB_len]
  omega
 ·obtain ⟨p, hp⟩ : ∃ p, l[i]? = some p := ⟨_, List.getElem?_eq_getElem hi⟩
  obtain ⟨a1, a2, a3, a4, a5⟩ := elem_at kf f l g o c w hr i p hp
  have hmem := List.mem_of_getElem? hp
  obtain ⟨hn0, hn1, hn2⟩ := E.names p hmem
  obtain ⟨hk1, hk2⟩ := E.kinds p hmem
  have e1 : p.1.data.toList.length = p.1.size := Array.length_toList
  have el := elB_len (kf p.2) p.1 (f p.2)
  rw [a5]
  obtain ⟨q, hq⟩ : ∃ q, posB kf f l i = q := ⟨_, rfl⟩
  rw [hq] at a1 a2 ⊢
  obtain ⟨rs, hrs⟩ : ∃ rs, restB kf f l i = rs := ⟨_, rfl⟩
  rw [hrs] at a1 a2 a3
  obtain ⟨N, hN⟩ : ∃ N, (docB kf f l).length = N := ⟨_, rfl⟩
  rw [hN] at a2 hl hc ⊢
  obtain ⟨v, hv⟩ : ∃ v, f p.2 = v := ⟨_, rfl⟩
  have hvl := E.vlen p hmem (o + q + (p.1.size + 1 + 1)) (c - q - (p.1.size + 1 + 1)) rs
  rw [hv] at a1 a2 el hvl ⊢
  rw [el] at a2 ⊢
  have a1' : RD w g (o + q) (u8 (kf p.2) :: (p.1.data.toList ++ 0 :: (v ++ rs))) := by
   have : elB (kf p.2) p.1 v ++ rs = u8 (kf p.2) :: (p.1.data.toList ++ 0 :: (v ++ rs)) := by simp [elB]
   rw [← this]
   exact a1
  have a1v : RD w g (o + q + (p.1.size + 1 + 1)) (v ++ rs) := by
   have h1 : RD w g (o + q) ((u8 (kf p.2) :: (p.1.data.toList ++ [0])) ++ (v ++ rs)) := by simpa using a1'
   have h2 := h1.right
   rw [show (u8 (kf p.2) :: (p.1.data.toList ++ [0])).length = p.1.size + 1 + 1 from by simp only [List.length_cons, List.length_append, List.length_nil]; omega] at h2
   exact h2
  have hvl2 := hvl a1v (by omega) (by omega)
  rw [show v.length + rs.length = N - q - (p.1.size + 1 + 1) from by omega] at hvl2
  intro W hW
  have h := readElem g (o + q) (N - q) (c - q) (p.1.size + 1) v.length (kf p.2) (u8 (kf p.2)) p.1.data.toList (v ++ rs) W (u8_val _ ⟨hk1, hk2⟩) (by omega) (by simp only [List.length_append]; omega) (by simp only [List.length_append]; omega) (by omega) (by omega) (by omega) hn0 (a1'.lat hW) (hvl2.lat hW)
  rw [show p.1.size + 1 + 1 + v.length = p.1.size + 2 + v.length from by omega, show o + q + (p.1.size + 2 + v.length) = o + q + (p.1.size + 2 + v.length) from rfl] at h
  exact h
end
structure TxK (k : Int) (v s : List UInt8) (g : Nat) (w : World) : Prop where
 val : ∀ o c, RD w g o v → v.length < c → c ≤ 9223372036854775807 → Rd2 78 (.agg #[.int .u8 k, .slice (some ⟨g, o, none⟩) v.length c]) (.int .i64 (-1)) w (.tuple #[.string ⟨s.toArray⟩, .bool false])
 str : k = 2 → ∀ o c, RD w g o v → v.length < c → c ≤ 9223372036854775807 → ∃ x, Rd 109 (.agg #[.int .u8 2, .slice (some ⟨g, o, none⟩) v.length c]) w (.tuple #[.string x, .bool true])
 arr : k = 4 → ∀ o c, RD w g o v → v.length < c → c ≤ 9223372036854775807 → ∃ X n0 c0, Rd 112 (.agg #[.int .u8 4, .slice (some ⟨g, o, none⟩) v.length c]) w (.tuple #[.slice X n0 c0, .bool true]) ∧ Rd2 51 (.slice X n0 c0) (.int .i64 (-1)) w (.tuple #[.string ⟨s.toArray⟩, .bool false])
section
variable {K : Type} (kf : K → Int) (f fL : K → List UInt8) (l : List (ByteArray × K))
theorem elTx (p : ByteArray × K) (g : Nat) (w : World) (hn0 : 0 ∉ p.1.data.toList) (hn1 : p.1.size ≠ 0) (hn2 : p.1.size ≤ 300) (hk : 0 ≤ kf p.2 ∧ kf p.2 ≤ 255) (hf : (f p.2).length ≤ 1000000) (hfL : (fL p.2).length ≤ 1000000000)
  (hv : ∀ (o c : Nat) (r : List UInt8), RD w g o (f p.2 ++ r) → (f p.2).length + r.length ≤ c → c ≤ 9223372036854775807 → VLen (kf p.2) (f p.2).length (.slice (some ⟨g, o, none⟩) ((f p.2).length + r.length) c) w)
  (hx : TxK (kf p.2) (f p.2) (fL p.2) g w) (o c : Nat) (hr : RD w g o (elB (kf p.2) p.1 (f p.2))) (hc : (elB (kf p.2) p.1 (f p.2)).length < c) (hcb : c ≤ 9223372036854775807) :
  Rd2 104 (.slice (some ⟨g, o, none⟩) (elB (kf p.2) p.1 (f p.2)).length c) (.int .i64 (-1)) w (.tuple #[.string ⟨(meL p.1 (fL p.2)).toArray⟩, .bool false]) := by
 have e1 : p.1.data.toList.length = p.1.size := Array.length_toList
 have el := elB_len (kf p.2) p.1 (f p.2)
 have hrv : RD w g (o + (p.1.size + 2)) (f p.2) := by
  have h1 : RD w g o ((u8 (kf p.2) :: (p.1.data.toList ++ [0])) ++ f p.2) := by
   have : elB (kf p.2) p.1 (f p.2) = (u8 (kf p.2) :: (p.1.data.toList ++ [0])) ++ f p.2 := by simp [elB]
   rw [← this]
   exact hr
  have h2 := h1.right
  rw [show (u8 (kf p.2) :: (p.1.data.toList ++ [0])).length = p.1.size + 2 from by simp only [List.length_cons, List.length_append, List.length_nil]; omega] at h2
  exact h2
 rw [el] at hc ⊢
 have hvl := hv (o + (p.1.size + 2)) (c - (p.1.size + 2)) [] (by simpa using hrv) (by simp only [List.length_nil]; omega) (by omega)
 have hval := hx.val (o + (p.1.size + 2)) (c - (p.1.size + 2)) hrv (by omega) (by omega)
 have hstr := fun h => hx.str h (o + (p.1.size + 2)) (c - (p.1.size + 2)) hrv (by omega) (by omega)
 have harr := fun h => hx.arr h (o + (p.1.size + 2)) (c - (p.1.size + 2)) hrv (by omega) (by omega)
 rw [show (f p.2).length + ([] : List UInt8).length = p.1.size + 2 + (f p.2).length - (p.1.size + 2) from by simp only [List.length_nil]; omega] at hvl
 have hm : (⟨(meL p.1 (fL p.2)).toArray⟩ : ByteArray) = ⟨([34] ++ p.1.data.toList ++ [34, 58, 32] ++ (⟨(fL p.2).toArray⟩ : ByteArray).data.toList).toArray⟩ := by
  unfold meL
  simp
 rw [hm]
 have hS : (⟨(fL p.2).toArray⟩ : ByteArray).size ≤ 1000000000 := by
  show (fL p.2).toArray.size ≤ _
  rw [List.size_toArray]
  exact hfL
 have hu := u8_val (kf p.2) hk
 by_cases k2 : kf p.2 = 2
 ·obtain ⟨x, hok⟩ := hstr k2
  rw [k2] at hval hvl
  exact el_str g o _ c p.1.size (f p.2).length (u8 (kf p.2)) p.1.data.toList (f p.2) w (by rw [hu, k2]) e1 (by omega) (by omega) rfl rfl hc hcb (by omega) hn0 hr hvl _ hS x hok hval
 by_cases k4 : kf p.2 = 4
 ·obtain ⟨X, n0, c0, hok, h51⟩ := harr k4
  rw [k4] at hvl
  exact el_arr g o _ c p.1.size (f p.2).length (u8 (kf p.2)) p.1.data.toList (f p.2) w (by rw [hu, k4]) e1 (by omega) (by omega) rfl rfl hc hcb (by omega) hn0 hr hvl _ hS X n0 c0 hok h51
 exact el_other g o _ c p.1.size (f p.2).length (kf p.2) (by simpa using k2) (by simpa using k4) (u8 (kf p.2)) p.1.data.toList (f p.2) w hu e1 (by omega) (by omega) rfl rfl hc hcb (by omega) hn0 hr hvl _ hS (valStr (kf p.2) _ _ _ w _ _ hval)
structure AllEnv (g : Nat) (w : World) : Prop where
 kid : KidEnv kf f l g w
 len : ∀ p ∈ l, (f p.2).length ≤ 1000000 ∧ (fL p.2).length ≤ 1000000000
 tx : ∀ p ∈ l, TxK (kf p.2) (f p.2) (fL p.2) g w
theorem docLen (g o c : Nat) (w : World) (hl : (docB kf f l).length ≤ 1000000) (hc : (docB kf f l).length ≤ c) (hcb : c ≤ 9223372036854775807) (hr : RD w g o (docB kf f l)) : Rd 73 (.slice (some ⟨g, o, none⟩) (docB kf f l).length c) w (.tuple #[.int .i32 ((docB kf f l).length : Int), .slice (some ⟨g, o + 4, none⟩) ((docB kf f l).length - 4) (c - 4), .bool true]) := by
 have e : docB kf f l = le32 (docB kf f l).length ++ (bodyB kf f l ++ [0]) := by
  have h1 : (docB kf f l).length = (bodyB kf f l).length + 5 := docW_len _
  rw [h1]
  unfold docB docW
  simp
 have h5 : (docB kf f l).length = (bodyB kf f l).length + 5 := docW_len _
 intro W hW
 exact readLen_le g o _ c (docB kf f l).length (bodyB kf f l ++ [0]) W (by simp only [List.length_append, List.length_cons, List.length_nil]; omega) hc (by omega) hcb (by omega) (e ▸ hr.lat hW)
theorem docTx (g o c : Nat) (w : World) (E : AllEnv kf f fL l g w) (hl : (docB kf f l).length ≤ 1000000) (hc : (docB kf f l).length ≤ c) (hcb : c ≤ 9223372036854775807) (hr : RD w g o (docB kf f l)) (hs : (sItems (loMem fL l)).length ≤ 1000000000) :
  Rd2 72 (.slice (some ⟨g, o, none⟩) (docB kf f l).length c) (.int .i64 (-1)) w (.tuple #[.string ⟨(loDoc fL l).toArray⟩, .bool false]) := by
 have h5 : (docB kf f l).length = (bodyB kf f l).length + 5 := docW_len _
 have h := docN g o (docB kf f l).length c l.length (posB kf f l) (lenB kf f l) (loMem fL l) (fun i => ((l[i]?).map fun p => (⟨(meL p.1 (fL p.2)).toArray⟩ : ByteArray)).getD ⟨#[]⟩) w (by omega) (by omega) hc hcb (by simp [loMem]) hs (fun i hi => by
   obtain ⟨p, hp⟩ : ∃ p, l[i]? = some p := ⟨_, List.getElem?_eq_getElem hi⟩
   unfold loMem
   rw [List.getElem?_map]
   simp [hp]) (fun i hi => by
   obtain ⟨p, hp⟩ : ∃ p, l[i]? = some p := ⟨_, List.getElem?_eq_getElem hi⟩
   have hmem := List.mem_of_getElem? hp
   have h1 := item_le (loMem fL l) (meL p.1 (fL p.2)) (List.mem_map.2 ⟨p, hmem, rfl⟩)
   simp only [hp, Option.map_some, Option.getD_some]
   show (meL p.1 (fL p.2)).toArray.size ≤ _
   rw [List.size_toArray]
   omega) (kid_read kf f l g o c w E.kid hl hc hcb hr) (docLen kf f l g o c w hl hc hcb hr) (fun i hi => by
   obtain ⟨p, hp⟩ : ∃ p, l[i]? = some p := ⟨_, List.getElem?_eq_getElem hi⟩
   have hmem := List.mem_of_getElem? hp
   obtain ⟨a1, a2, a3, a4, a5⟩ := elem_at kf f l g o c w hr i p hp
   obtain ⟨n0, n1, n2⟩ := E.kid.names p hmem
   simp only [hp, Option.map_some, Option.getD_some]
   rw [a5]
   exact elTx kf f fL p g w n0 n1 n2 (E.kid.kinds p hmem) (E.len p hmem).1 (E.len p hmem).2 (E.kid.vlen p hmem) (E.tx p hmem) (o + posB kf f l i) (c - posB kf f l i) a1.left (by omega) (by omega))
 have e : loDoc fL l = [123] ++ sItems (loMem fL l) ++ [125] := by unfold loDoc; simp
 rw [e]
 exact h
theorem arrTx (g o c : Nat) (w : World) (E : AllEnv kf f fL l g w) (hl : (docB kf f l).length ≤ 1000000) (hc : (docB kf f l).length ≤ c) (hcb : c ≤ 9223372036854775807) (hr : RD w g o (docB kf f l)) (hs : (sItems (spItem fL l)).length ≤ 1000000000) :
  Rd2 51 (.slice (some ⟨g, o, none⟩) (docB kf f l).length c) (.int .i64 (-1)) w (.tuple #[.string ⟨(spArr fL l).toArray⟩, .bool false]) := by
 have h5 : (docB kf f l).length = (bodyB kf f l).length + 5 := docW_len _
 have h := arrN g o (docB kf f l).length c l.length (posB kf f l) (lenB kf f l) (spItem fL l) (fun i => ((l[i]?).map fun p => (⟨(fL p.2).toArray⟩ : ByteArray)).getD ⟨#[]⟩) w (by omega) (by omega) hc hcb (by simp [spItem]) hs (fun i hi => by
   obtain ⟨p, hp⟩ : ∃ p, l[i]? = some p := ⟨_, List.getElem?_eq_getElem hi⟩
   unfold spItem
   rw [List.getElem?_map]
   simp [hp]) (fun i hi => by
   obtain ⟨p, hp⟩ : ∃ p, l[i]? = some p := ⟨_, List.getElem?_eq_getElem hi⟩
   have hmem := List.mem_of_getElem? hp
   simp only [hp, Option.map_some, Option.getD_some]
   show (fL p.2).toArray.size ≤ _
   rw [List.size_toArray]
   exact (E.len p hmem).2) (kid_read kf f l g o c w E.kid hl hc hcb hr) (docLen kf f l g o c w hl hc hcb hr)
   (fun i => ((l[i]?).map fun p => kf p.2).getD 0) (fun i => some ⟨g, o + posB kf f l i + (((l[i]?).map fun p => p.1.size).getD 0 + 2), none⟩) (fun i => ((l[i]?).map fun p => (f p.2).length).getD 0) (fun i => c - posB kf f l i - (((l[i]?).map fun p => p.1.size).getD 0 + 2)) (fun i hi => by
   obtain ⟨p, hp⟩ : ∃ p, l[i]? = some p := ⟨_, List.getElem?_eq_getElem hi⟩
   have hmem := List.mem_of_getElem? hp
   obtain ⟨a1, a2, a3, a4, a5⟩ := elem_at kf f l g o c w hr i p hp
   obtain ⟨n0, n1, n2⟩ := E.kid.names p hmem
   have e1 : p.1.data.toList.length = p.1.size := Array.length_toList
   have el := elB_len (kf p.2) p.1 (f p.2)
   have hf := (E.len p hmem).1
   simp only [hp, Option.map_some, Option.getD_some]
   obtain ⟨q, hq⟩ : ∃ q, posB kf f l i = q := ⟨_, rfl⟩
   have hrE : RD w g (o + q) (elB (kf p.2) p.1 (f p.2)) := hq ▸ a1.left
   have hrv : RD w g (o + q + (p.1.size + 2)) (f p.2) := by
    have h1 : RD w g (o + q) ((u8 (kf p.2) :: (p.1.data.toList ++ [0])) ++ f p.2) := by
     have : elB (kf p.2) p.1 (f p.2) = (u8 (kf p.2) :: (p.1.data.toList ++ [0])) ++ f p.2 := by simp [elB]
     rw [← this]
     exact hrE
    have h2 := h1.right
    rw [show (u8 (kf p.2) :: (p.1.data.toList ++ [0])).length = p.1.size + 2 from by simp only [List.length_cons, List.length_append, List.length_nil]; omega] at h2
    exact h2
   rw [a5, el, hq]
   rw [hq, el] at a2
   have hvl := E.kid.vlen p hmem (o + q + (p.1.size + 2)) (c - q - (p.1.size + 2)) [] (by simpa using hrv) (by simp only [List.length_nil]; omega) (by omega)
   rw [show (f p.2).length + ([] : List UInt8).length = p.1.size + 2 + (f p.2).length - (p.1.size + 2) from by simp only [List.length_nil]; omega] at hvl
   refine ⟨?_, (E.tx p hmem).val (o + q + (p.1.size + 2)) (c - q - (p.1.size + 2)) hrv (by omega) (by omega)⟩
   exact elemVal _ _ _ (kf p.2) _ _ _ w (valErr g (o + q) _ (c - q) p.1.size (f p.2).length (kf p.2) (u8 (kf p.2)) p.1.data.toList (f p.2) w (u8_val _ (E.kid.kinds p hmem)) e1 rfl rfl (by omega) (by omega) (by omega) n0 hrE hvl))
 have e : spArr fL l = [91] ++ sItems (spItem fL l) ++ [93] := by unfold spArr; simp
 rw [e]
 exact h
end
def TxAt (d : Nat) : Prop := ∀ (t : VT d), OkV d t → (valB d t).length ≤ 1000000 → (loV d t).length ≤ 1000000000 → ∀ (g : Nat) (w : World), TabX w → 17 ≤ w.heap.size → TxK (kindV d t) (valB d t) (loV d t) g w
theorem kindV_u8 : ∀ (d : Nat) (t : VT d), OkV d t → 0 ≤ kindV d t ∧ kindV d t ≤ 255
 | 0, t, _ => t.elim
 | d + 1, t, hO => by
  have h : OkR (OkV d) t := hO
  have := h.kind
  show 0 ≤ t.kind ∧ t.kind ≤ 255
  omega
theorem vlenV : ∀ (d : Nat) (t : VT d), OkV d t → (valB d t).length ≤ 1000000 → ∀ (g o c : Nat) (r : List UInt8) (w : World), RD w g o (valB d t ++ r) → (valB d t).length + r.length ≤ c → c ≤ 9223372036854775807 → VLen (kindV d t) (valB d t).length (.slice (some ⟨g, o, none⟩) ((valB d t).length + r.length) c) w
 | 0, t, _, _ => t.elim
 | d + 1, t, hO, hl => fun g o c r w hr hc hcb => vlen_any (OkV d) (kindV d) (valB d) t hO _ rfl (by have : (valR (kindV d) (valB d) t).length ≤ 1000000 := hl; omega) g o c r w hc hcb hr
theorem docRow {K : Type} (kf : K → Int) (f : K → List UInt8) (l : List (ByteArray × K)) (g o c : Nat) (w : World) (hl : (docB kf f l).length ≤ 1000000) (hc : (docB kf f l).length < c) (hcb : c ≤ 9223372036854775807) (hr : RD w g o (docB kf f l)) :
  Rd 226 (.slice (some ⟨g, o, none⟩) (docB kf f l).length c) w (.tuple #[.slice (some ⟨g, o, none⟩) (docB kf f l).length c, .slice (some ⟨g, o + (docB kf f l).length, none⟩) 0 (c - (docB kf f l).length), .bool true]) := by
 have e : docB kf f l = le32 (docB kf f l).length ++ (bodyB kf f l ++ [0]) := by
  have h1 : (docB kf f l).length = (bodyB kf f l).length + 5 := docW_len _
  rw [h1]
  unfold docB docW
  simp
 have h5 : (docB kf f l).length = (bodyB kf f l).length + 5 := docW_len _
 intro W hW
 exact readRow_any g o _ c (bodyB kf f l ++ [0]) W (by simp only [List.length_append, List.length_cons, List.length_nil]; omega) (by omega) hc hcb (by omega) (e ▸ hr.lat hW)
theorem body_le2 {K : Type} (kf : K → Int) (f : K → List UInt8) (g : K → Nat) : ∀ (l : List (ByteArray × K)), (∀ p ∈ l, p.1.size ≤ 300 ∧ (f p.2).length + 310 ≤ 1000 * g p.2) →
  (bodyB kf f l).length ≤ 1000 * (l.map fun p => g p.2).sum
 | [], _ => by simp [bodyB]
 | p :: l, h => by
  have h1 := h p (by simp)
  have h2 := body_le2 kf f g l (fun q hq => h q (by simp [hq]))
  have e : bodyB kf f (p :: l) = elB (kf p.2) p.1 (f p.2) ++ bodyB kf f l := by simp [bodyB]
  have e2 : ((p :: l).map fun p => g p.2).sum = g p.2 + (l.map fun p => g p.2).sum := by simp
  rw [e, e2, List.length_append, elB_len]
  omega
theorem valR_len2 {K : Type} (fk rk : K → Prop) (kf : K → Int) (f : K → List UInt8) (g : K → Nat) (t : VR K) (hF : FitR fk t) (hR : RightR rk t) (h : ∀ k, fk k → rk k → (f k).length + 310 ≤ 1000 * g k) :
  (valR kf f t).length + 310 ≤ 1000 * cntR g t := by
 have h1 := hF.text.1
 have h2 := hF.more.1
 have h3 := hF.b
 have e1 : t.text.data.toList.length = t.text.size := Array.length_toList
 have e2 : t.more.data.toList.length = t.more.size := Array.length_toList
 have hb : (t.kind = 3 ∨ t.kind = 4) → (docB kf f t.kids).length ≤ 1000 * (t.kids.map fun p => g p.2).sum + 5 := by
  intro hk
  have := body_le2 kf f g t.kids (fun p hp => ⟨(hF.kids p hp).1, h p.2 (hF.kids p hp).2.2 (hR.kids (by omega) p hp)⟩)
  unfold docB
  rw [docW_len]
  omega
 have hbin : (binB t.n t.b).length ≤ t.b.length + 9 := by
  unfold binB
  split <;> simp [le32_len] <;> omega
 unfold cntR
 obtain ⟨S, hS⟩ : ∃ S, (t.kids.map fun p => g p.2).sum = S := ⟨_, rfl⟩
 rw [hS] at hb ⊢
 unfold valR
 by_cases k1 : t.kind = 1 ∨ t.kind = 17
 ·rw [if_pos k1, le64_len]; omega
 rw [if_neg k1]
 by_cases k2 : t.kind = 2 ∨ t.kind = 13 ∨ t.kind = 14
 ·rw [if_pos k2, txB_len]; omega
 rw [if_neg k2]
 by_cases k3 : t.kind = 3 ∨ t.kind = 4
 ·rw [if_pos k3]; have := hb k3; omega
 rw [if_neg k3]
 by_cases k5 : t.kind = 5
 ·rw [if_pos k5]; omega
 rw [if_neg k5]
 by_cases k7 : t.kind = 7
 ·rw [if_pos k7]; omega
 rw [if_neg k7]
 by_cases k8 : t.kind = 8
 ·rw [if_pos k8]; simp only [List.length_cons, List.length_nil]; omega
 rw [if_neg k8]
 by_cases k9 : t.kind = 9 ∨ t.kind = 18
 ·rw [if_pos k9, le64_len]; omega
 rw [if_neg k9]
 by_cases k16 : t.kind = 16
 ·rw [if_pos k16, le32_len]; omega
 rw [if_neg k16]
 by_cases k11 : t.kind = 11
 ·rw [if_pos k11]; simp only [List.length_append, List.length_cons, List.length_nil]; omega
 rw [if_neg k11]
 by_cases k12 : t.kind = 12
 ·rw [if_pos k12, List.length_append, txB_len]; omega
 rw [if_neg k12]
 by_cases k19 : t.kind = 19
 ·rw [if_pos k19, List.length_append, le64_len, le64_len]; omega
 rw [if_neg k19]
 simp only [List.length_nil]; omega
theorem valB_len2 : ∀ (d : Nat) (t : VT d), FitV d t → RightV d t → (valB d t).length + 310 ≤ 1000 * cntV d t
 | 0, t, _, _ => t.elim
 | d + 1, t, hF, hR => valR_len2 (FitV d) (RightV d) (kindV d) (valB d) (cntV d) t hF hR (fun k h1 h2 => valB_len2 d k h1 h2)
theorem lodoc_len {K : Type} (f : K → List UInt8) (cn : K → Nat) (l : List (ByteArray × K)) (h : ∀ p ∈ l, p.1.size ≤ 300 ∧ (f p.2).length + 2000 ≤ 8000 * cn p.2) : (loDoc f l).length ≤ 2 + 8000 * (l.map fun p => cn p.2).sum := by
 have e : 8000 * (l.map fun p => cn p.2).sum = (l.map fun p => 8000 * cn p.2).sum := by
  clear h
  induction l with
  | nil => simp
  | cons a l ih => simp only [List.map_cons, List.sum_cons] at ih ⊢; omega
 rw [e]
 have h1 := sItems_sum (loMem f l)
 have h2 : ((loMem f l).map fun y => y.length + 1).sum ≤ (l.map fun p => 8000 * cn p.2).sum := by
  unfold loMem
  rw [List.map_map]
  refine sum_le l _ _ (fun p hp => ?_)
  obtain ⟨a, c⟩ := h p hp
  have e1 : p.1.data.toList.length = p.1.size := Array.length_toList
  simp only [Function.comp, meL, List.length_append, List.length_cons, List.length_nil]
  omega
 unfold loDoc
 simp only [List.length_cons, List.length_append, List.length_nil]
 omega
theorem loR_len {K : Type} (fk rk : K → Prop) (f : K → List UInt8) (cn : K → Nat) (t : VR K) (hF : FitR fk t) (hR : RightR rk t) (hn : I64 t.n) (hb : t.bits < 18446744073709551616) (hh : t.high < 18446744073709551616) (h : (t.kind = 3 ∨ t.kind = 4 ∨ t.kind = 15) → ∀ p ∈ t.kids, (f p.2).length + 2000 ≤ 8000 * cn p.2) : (loR f t).length + 2000 ≤ 8000 * cntR cn t := by
 have hs := spR_len true fk rk f cn t hF hR hn hb hh h
 have hc : 1 ≤ cntR cn t := by unfold cntR; omega
 have hi : (Lib.itoa t.n).length ≤ 100 := by
  have := itoaB_size t.n hn
  have e : (itoaB t.n).size = (Lib.itoa t.n).length := List.size_toArray
  omega
 unfold loR
 by_cases k1 : t.kind = 1
 ·rw [if_pos k1]
  have := dblT_len t.bits hb
  simp only [List.length_append, List.length_cons, List.length_nil]
  omega
 rw [if_neg k1]
 by_cases k3 : t.kind = 3
 ·rw [if_pos k3]
  have := lodoc_len f cn t.kids (fun p hp => ⟨(hF.kids p hp).1, h (.inl k3) p hp⟩)
  unfold cntR
  omega
 rw [if_neg k3]
 by_cases k4 : t.kind = 4
 ·rw [if_pos k4]
  have := (doc_len true f cn t.kids (fun p hp => ⟨(hF.kids p hp).1, (hF.kids p hp).2.1, h (.inr (.inl k4)) p hp⟩)).2
  unfold cntR
  omega
 rw [if_neg k4]
 by_cases k16 : t.kind = 16
 ·rw [if_pos k16]
  simp only [List.length_append, List.length_cons, List.length_nil]
  omega
 rw [if_neg k16]
 by_cases k18 : t.kind = 18
 ·rw [if_pos k18]
  simp only [List.length_append, List.length_cons, List.length_nil]
  omega
 rw [if_neg k18]
 exact hs
theorem loV_len (w : World) : ∀ (d : Nat) (t : VT d) (cs : List Value), IsV w d t cs → FitV d t → RightV d t → (loV d t).length + 2000 ≤ 8000 * cntV d t
 | 0, t, _, _, _, _ => t.elim
 | d + 1, t, cs, hv, hF, hR => by
  obtain ⟨bv, kv, e, hk, hn, hbits, hhigh, hts, hms, hbv, ⟨A2, c2, e2, hc2, hc2b, hkr⟩⟩ := hv
  have hF' : FitR (FitV d) t := hF
  have hR' : RightR (RightV d) t := hR
  refine loR_len (FitV d) (RightV d) (loV d) (cntV d) t hF hR hn hbits hhigh (fun hk p hp => ?_)
  obtain ⟨i, hi, rfl⟩ := List.getElem_of_mem hp
  obtain ⟨_, ad, cs0, _, hR0, _, _⟩ := hkr i _ _ (List.getElem?_eq_getElem hi)
  exact loV_len w d _ cs0 hR0 (hF'.kids _ hp).2.2 (hR'.kids hk _ hp)
set_option maxHeartbeats 8000000
theorem rd2_cut {v : Value} {w : World} {S : ByteArray} {n : Int} (hN : n = -1 ∨ 1 ≤ n) (k : Int) (hz : (S.size : Int) = k) (hS : k ≤ 1000000000)
  (h1 : decide ((0 : Int) ≤ n) = false → Rd2 78 v (.int .i64 n) w (.tuple #[.string S, .bool false]))
  (h2 : decide ((0 : Int) ≤ n) = true → decide (n < k) = false → Rd2 78 v (.int .i64 n) w (.tuple #[.string S, .bool false]))
  (h3 : ∀ Z, decide ((0 : Int) ≤ n) = true → decide (n < k) = true → n < k → Hid (∀ X, Calls Tryz.prog 134 #[.string S, .int .i64 n] X fun e w' => e = .returned (.string Z) ∧ X = w') → Rd2 78 v (.int .i64 n) w (.tuple #[.string Z, .bool true])) :
  Rd2 78 v (.int .i64 n) w (cutV S n) := by
 rcases hN with rfl | hN
 ·exact h1 rfl
 ·by_cases h : k ≤ n
  ·rw [cutV_all S n (by omega) (by omega)]
   exact h2 (decide_eq_true (by omega)) (decide_eq_false (by omega))
  ·rw [cutV_less S n (by omega) (by omega)]
   refine h3 _ (decide_eq_true (by omega)) (decide_eq_true (by omega)) (by omega) (LH fun X => ?_)
   have := trunc_any S n.toNat (by omega) (by omega) (by omega) X
   rwa [show ((n.toNat : Nat) : Int) = n from by omega] at this
theorem vc2 (n : Int) (hN : n = -1 ∨ 1 ≤ n) (A : Option Addr) (m c : Nat) (x0 : ByteArray) (w : World) (hok : Rd 109 (.agg #[.int .u8 2, .slice A m c]) w (.tuple #[.string x0, .bool true])) (q : ByteArray) (hsq : q.size ≤ 100000) (hq : Rd 110 (.string x0) w (.string q)) : Rd2 78 (.agg #[.int .u8 2, .slice A m c]) (.int .i64 n) w (cutV (q : ByteArray) n) := by
 refine rd2_cut hN ((q.size : Int)) (by rfl) (by omega) (fun hn => ?_) (fun hn hl => ?_) (fun Z hn hl hm HTR => ?_)
 all_goals
  intro W hW
  have HOK := LH (hok.lat hW)
  have Hq := LH (hq.lat hW)
  clear hW hN hok hq
  go_enter Tryz.func78, Tryz.ntmps78
  go_wp2_with (first | (go_at_call 109; refine (HOK.out _ (below_al W _)).mono ?_; rintro e w0 ⟨rfl, hb0⟩; have B0 : Below W.heap.size W w0 := (below_al W _).trans (hb0.mono (below_al W _).size)) | (go_at_call 110; refine (Hq.out _ B0).mono ?_; rintro e w1 ⟨rfl, hb1⟩; have B1 : Below W.heap.size W w1 := B0.trans (hb1.mono B0.size)) | (go_at_call 134; refine (HTR.out _).mono ?_; rintro e9 w9 ⟨rfl, rfl⟩))
  go_ret2
  exact ⟨rfl, B1⟩
theorem vc1 (n : Int) (hN : n = -1 ∨ 1 ≤ n) (A : Option Addr) (m c : Nat) (x0 : Nat) (w : World) (hok : Rd 113 (.agg #[.int .u8 1, .slice A m c]) w (.tuple #[.float .f64 x0, .bool true])) (q : ByteArray) (hsq : q.size ≤ 100000) (hq : Rd 114 (.float .f64 x0) w (.string q)) : Rd2 78 (.agg #[.int .u8 1, .slice A m c]) (.int .i64 n) w (cutV (⟨#[123, 34, 36, 110, 117, 109, 98, 101, 114, 68, 111, 117, 98, 108, 101, 34, 58, 34]⟩ ++ q ++ ⟨#[34, 125]⟩ : ByteArray) n) := by
 refine rd2_cut hN (18 + (q.size : Int) + 2) (by simp only [ByteArray.size_append, Int.natCast_add]; rfl) (by omega) (fun hn => ?_) (fun hn hl => ?_) (fun Z hn hl hm HTR => ?_)
 all_goals
  intro W hW
  have HOK := LH (hok.lat hW)
  have Hq := LH (hq.lat hW)
  clear hW hN hok hq
  go_enter Tryz.func78, Tryz.ntmps78
  go_wp2_with (first | (go_at_call 113; refine (HOK.out _ (below_al W _)).mono ?_; rintro e w0 ⟨rfl, hb0⟩; have B0 : Below W.heap.size W w0 := (below_al W _).trans (hb0.mono (below_al W _).size)) | (go_at_call 114; refine (Hq.out _ B0).mono ?_; rintro e w1 ⟨rfl, hb1⟩; have B1 : Below W.heap.size W w1 := B0.trans (hb1.mono B0.size)) | (go_at_call 134; refine (HTR.out _).mono ?_; rintro e9 w9 ⟨rfl, rfl⟩))
  go_ret2
  exact ⟨rfl, B1⟩
theorem vc5 (n : Int) (hN : n = -1 ∨ 1 ≤ n) (A : Option Addr) (m c : Nat) (x0 : Int) (B1 : Option Addr) (p1 q1 : Nat) (w : World) (hok : Rd 115 (.agg #[.int .u8 5, .slice A m c]) w (.tuple #[.int .u8 x0, .slice B1 p1 q1, .bool true])) (q : ByteArray) (hsq : q.size ≤ 100000) (hq : Rd 116 (.slice B1 p1 q1) w (.string q)) (u : ByteArray) (hsu : u.size ≤ 100) (hu : Rd 117 (.int .u8 x0) w (.string u)) : Rd2 78 (.agg #[.int .u8 5, .slice A m c]) (.int .i64 n) w (cutV (⟨#[123, 34, 36, 98, 105, 110, 97, 114, 121, 34, 58, 123, 34, 98, 97, 115, 101, 54, 52, 34, 58, 34]⟩ ++ q ++ ⟨#[34, 44, 34, 115, 117, 98, 84, 121, 112, 101, 34, 58, 34]⟩ ++ u ++ ⟨#[34, 125, 125]⟩ : ByteArray) n) := by
 refine rd2_cut hN (22 + (q.size : Int) + 13 + (u.size : Int) + 3) (by simp only [ByteArray.size_append, Int.natCast_add]; rfl) (by omega) (fun hn => ?_) (fun hn hl => ?_) (fun Z hn hl hm HTR => ?_)
 all_goals
  intro W hW
  have HOK := LH (hok.lat hW)
  have Hq := LH (hq.lat hW)
  have Hu := LH (hu.lat hW)
  clear hW hN hok hq hu
  go_enter Tryz.func78, Tryz.ntmps78
  go_wp2_with (first | (go_at_call 115; refine (HOK.out _ (below_al W _)).mono ?_; rintro e w0 ⟨rfl, hb0⟩; have B0 : Below W.heap.size W w0 := (below_al W _).trans (hb0.mono (below_al W _).size)) | (go_at_call 116; refine (Hq.out _ B0).mono ?_; rintro e w1 ⟨rfl, hb1⟩; have B1 : Below W.heap.size W w1 := B0.trans (hb1.mono B0.size)) | (go_at_call 117; refine (Hu.out _ B1).mono ?_; rintro e w2 ⟨rfl, hb2⟩; have B2 : Below W.heap.size W w2 := B1.trans (hb2.mono B1.size)) | (go_at_call 134; refine (HTR.out _).mono ?_; rintro e9 w9 ⟨rfl, rfl⟩))
  go_ret2
  exact ⟨rfl, B2⟩
theorem vc6 (n : Int) (hN : n = -1 ∨ 1 ≤ n) (A : Option Addr) (m c : Nat)  (w : World) : Rd2 78 (.agg #[.int .u8 6, .slice A m c]) (.int .i64 n) w (cutV (⟨#[123, 34, 36, 117, 110, 100, 101, 102, 105, 110, 101, 100, 34, 58, 116, 114, 117, 101, 125]⟩ : ByteArray) n) := by
 refine rd2_cut hN (19) (by rfl) (by omega) (fun hn => ?_) (fun hn hl => ?_) (fun Z hn hl hm HTR => ?_)
 all_goals
  intro W hW
  clear hW hN 
  go_enter Tryz.func78, Tryz.ntmps78
  go_wp2_with (first | (go_at_call 134; refine (HTR.out _).mono ?_; rintro e9 w9 ⟨rfl, rfl⟩))
  go_ret2
  exact ⟨rfl, (below_al W _)⟩
theorem vc8 (n : Int) (hN : n = -1 ∨ 1 ≤ n) (A : Option Addr) (m c : Nat) (x0 : Bool) (w : World) (hok : Rd 120 (.agg #[.int .u8 8, .slice A m c]) w (.tuple #[.bool x0, .bool true])) (q : ByteArray) (hsq : q.size ≤ 100) (hq : Rd 121 (.bool x0) w (.string q)) : Rd2 78 (.agg #[.int .u8 8, .slice A m c]) (.int .i64 n) w (cutV (q : ByteArray) n) := by
 refine rd2_cut hN ((q.size : Int)) (by rfl) (by omega) (fun hn => ?_) (fun hn hl => ?_) (fun Z hn hl hm HTR => ?_)
 all_goals
  intro W hW
  have HOK := LH (hok.lat hW)
  have Hq := LH (hq.lat hW)
  clear hW hN hok hq
  go_enter Tryz.func78, Tryz.ntmps78
  go_wp2_with (first | (go_at_call 120; refine (HOK.out _ (below_al W _)).mono ?_; rintro e w0 ⟨rfl, hb0⟩; have B0 : Below W.heap.size W w0 := (below_al W _).trans (hb0.mono (below_al W _).size)) | (go_at_call 121; refine (Hq.out _ B0).mono ?_; rintro e w1 ⟨rfl, hb1⟩; have B1 : Below W.heap.size W w1 := B0.trans (hb1.mono B0.size)) | (go_at_call 134; refine (HTR.out _).mono ?_; rintro e9 w9 ⟨rfl, rfl⟩))
  go_ret2
  exact ⟨rfl, B1⟩
theorem vc9 (n : Int) (hN : n = -1 ∨ 1 ≤ n) (A : Option Addr) (m c : Nat) (x0 : Int) (w : World) (hok : Rd 122 (.agg #[.int .u8 9, .slice A m c]) w (.tuple #[.int .i64 x0, .bool true])) (q : ByteArray) (hsq : q.size ≤ 1000) (hq : Rd2 34 (.int .i64 x0) (.int .i64 10) w (.string q)) : Rd2 78 (.agg #[.int .u8 9, .slice A m c]) (.int .i64 n) w (cutV (⟨#[123, 34, 36, 100, 97, 116, 101, 34, 58, 123, 34, 36, 110, 117, 109, 98, 101, 114, 76, 111, 110, 103, 34, 58, 34]⟩ ++ q ++ ⟨#[34, 125, 125]⟩ : ByteArray) n) := by
 refine rd2_cut hN (25 + (q.size : Int) + 3) (by simp only [ByteArray.size_append, Int.natCast_add]; rfl) (by omega) (fun hn => ?_) (fun hn hl => ?_) (fun Z hn hl hm HTR => ?_)
 all_goals
  intro W hW
  have HOK := LH (hok.lat hW)
  have Hq := LH (hq.lat hW)
  clear hW hN hok hq
  go_enter Tryz.func78, Tryz.ntmps78
  go_wp2_with (first | (go_at_call 122; refine (HOK.out _ (below_al W _)).mono ?_; rintro e w0 ⟨rfl, hb0⟩; have B0 : Below W.heap.size W w0 := (below_al W _).trans (hb0.mono (below_al W _).size)) | (go_at_call 34; refine (Hq.out _ B0).mono ?_; rintro e w1 ⟨rfl, hb1⟩; have B1 : Below W.heap.size W w1 := B0.trans (hb1.mono B0.size)) | (go_at_call 134; refine (HTR.out _).mono ?_; rintro e9 w9 ⟨rfl, rfl⟩))
  go_ret2
  exact ⟨rfl, B1⟩
theorem vc10 (n : Int) (hN : n = -1 ∨ 1 ≤ n) (A : Option Addr) (m c : Nat)  (w : World) : Rd2 78 (.agg #[.int .u8 10, .slice A m c]) (.int .i64 n) w (cutV (⟨#[110, 117, 108, 108]⟩ : ByteArray) n) := by
 refine rd2_cut hN (4) (by rfl) (by omega) (fun hn => ?_) (fun hn hl => ?_) (fun Z hn hl hm HTR => ?_)
 all_goals
  intro W hW
  clear hW hN 
  go_enter Tryz.func78, Tryz.ntmps78
  go_wp2_with (first | (go_at_call 134; refine (HTR.out _).mono ?_; rintro e9 w9 ⟨rfl, rfl⟩))
  go_ret2
  exact ⟨rfl, (below_al W _)⟩
theorem vc11 (n : Int) (hN : n = -1 ∨ 1 ≤ n) (A : Option Addr) (m c : Nat) (x0 : ByteArray) (x1 : ByteArray) (w : World) (hok : Rd 123 (.agg #[.int .u8 11, .slice A m c]) w (.tuple #[.string x0, .string x1, .bool true])) (q : ByteArray) (hsq : q.size ≤ 100000) (hq : Rd 110 (.string x0) w (.string q)) (u : ByteArray) (hsu : u.size ≤ 100000) (hu : Rd 124 (.string x1) w (.string u)) : Rd2 78 (.agg #[.int .u8 11, .slice A m c]) (.int .i64 n) w (cutV (⟨#[123, 34, 36, 114, 101, 103, 117, 108, 97, 114, 69, 120, 112, 114, 101, 115, 115, 105, 111, 110, 34, 58, 123, 34, 112, 97, 116, 116, 101, 114, 110, 34, 58]⟩ ++ q ++ ⟨#[44, 34, 111, 112, 116, 105, 111, 110, 115, 34, 58, 34]⟩ ++ u ++ ⟨#[34, 125, 125]⟩ : ByteArray) n) := by
 refine rd2_cut hN (33 + (q.size : Int) + 12 + (u.size : Int) + 3) (by simp only [ByteArray.size_append, Int.natCast_add]; rfl) (by omega) (fun hn => ?_) (fun hn hl => ?_) (fun Z hn hl hm HTR => ?_)
 all_goals
  intro W hW
  have HOK := LH (hok.lat hW)
  have Hq := LH (hq.lat hW)
  have Hu := LH (hu.lat hW)
  clear hW hN hok hq hu
  go_enter Tryz.func78, Tryz.ntmps78
  go_wp2_with (first | (go_at_call 123; refine (HOK.out _ (below_al W _)).mono ?_; rintro e w0 ⟨rfl, hb0⟩; have B0 : Below W.heap.size W w0 := (below_al W _).trans (hb0.mono (below_al W _).size)) | (go_at_call 110; refine (Hq.out _ B0).mono ?_; rintro e w1 ⟨rfl, hb1⟩; have B1 : Below W.heap.size W w1 := B0.trans (hb1.mono B0.size)) | (go_at_call 124; refine (Hu.out _ B1).mono ?_; rintro e w2 ⟨rfl, hb2⟩; have B2 : Below W.heap.size W w2 := B1.trans (hb2.mono B1.size)) | (go_at_call 134; refine (HTR.out _).mono ?_; rintro e9 w9 ⟨rfl, rfl⟩))
  go_ret2
  exact ⟨rfl, B2⟩
theorem vc13 (n : Int) (hN : n = -1 ∨ 1 ≤ n) (A : Option Addr) (m c : Nat) (x0 : ByteArray) (w : World) (hok : Rd 126 (.agg #[.int .u8 13, .slice A m c]) w (.tuple #[.string x0, .bool true])) (q : ByteArray) (hsq : q.size ≤ 100000) (hq : Rd 110 (.string x0) w (.string q)) : Rd2 78 (.agg #[.int .u8 13, .slice A m c]) (.int .i64 n) w (cutV (⟨#[123, 34, 36, 99, 111, 100, 101, 34, 58]⟩ ++ q ++ ⟨#[125]⟩ : ByteArray) n) := by
 refine rd2_cut hN (9 + (q.size : Int) + 1) (by simp only [ByteArray.size_append, Int.natCast_add]; rfl) (by omega) (fun hn => ?_) (fun hn hl => ?_) (fun Z hn hl hm HTR => ?_)
 all_goals
  intro W hW
  have HOK := LH (hok.lat hW)
  have Hq := LH (hq.lat hW)
  clear hW hN hok hq
  go_enter Tryz.func78, Tryz.ntmps78
  go_wp2_with (first | (go_at_call 126; refine (HOK.out _ (below_al W _)).mono ?_; rintro e w0 ⟨rfl, hb0⟩; have B0 : Below W.heap.size W w0 := (below_al W _).trans (hb0.mono (below_al W _).size)) | (go_at_call 110; refine (Hq.out _ B0).mono ?_; rintro e w1 ⟨rfl, hb1⟩; have B1 : Below W.heap.size W w1 := B0.trans (hb1.mono B0.size)) | (go_at_call 134; refine (HTR.out _).mono ?_; rintro e9 w9 ⟨rfl, rfl⟩))
  go_ret2
  exact ⟨rfl, B1⟩
theorem vc14 (n : Int) (hN : n = -1 ∨ 1 ≤ n) (A : Option Addr) (m c : Nat) (x0 : ByteArray) (w : World) (hok : Rd 127 (.agg #[.int .u8 14, .slice A m c]) w (.tuple #[.string x0, .bool true])) (q : ByteArray) (hsq : q.size ≤ 100000) (hq : Rd 110 (.string x0) w (.string q)) : Rd2 78 (.agg #[.int .u8 14, .slice A m c]) (.int .i64 n) w (cutV (⟨#[123, 34, 36, 115, 121, 109, 98, 111, 108, 34, 58]⟩ ++ q ++ ⟨#[125]⟩ : ByteArray) n) := by
 refine rd2_cut hN (11 + (q.size : Int) + 1) (by simp only [ByteArray.size_append, Int.natCast_add]; rfl) (by omega) (fun hn => ?_) (fun hn hl => ?_) (fun Z hn hl hm HTR => ?_)
 all_goals
  intro W hW
  have HOK := LH (hok.lat hW)
  have Hq := LH (hq.lat hW)
  clear hW hN hok hq
  go_enter Tryz.func78, Tryz.ntmps78
  go_wp2_with (first | (go_at_call 127; refine (HOK.out _ (below_al W _)).mono ?_; rintro e w0 ⟨rfl, hb0⟩; have B0 : Below W.heap.size W w0 := (below_al W _).trans (hb0.mono (below_al W _).size)) | (go_at_call 110; refine (Hq.out _ B0).mono ?_; rintro e w1 ⟨rfl, hb1⟩; have B1 : Below W.heap.size W w1 := B0.trans (hb1.mono B0.size)) | (go_at_call 134; refine (HTR.out _).mono ?_; rintro e9 w9 ⟨rfl, rfl⟩))
  go_ret2
  exact ⟨rfl, B1⟩
theorem vc16 (n : Int) (hN : n = -1 ∨ 1 ≤ n) (A : Option Addr) (m c : Nat) (x0 : Int) (w : World) (hok : Rd 129 (.agg #[.int .u8 16, .slice A m c]) w (.tuple #[.int .i32 x0, .bool true])) (q : ByteArray) (hsq : q.size ≤ 1000) (hq : Rd2 34 (.int .i64 x0) (.int .i64 10) w (.string q)) (hx : -2147483648 ≤ x0 ∧ x0 ≤ 2147483647) : Rd2 78 (.agg #[.int .u8 16, .slice A m c]) (.int .i64 n) w (cutV (⟨#[123, 34, 36, 110, 117, 109, 98, 101, 114, 73, 110, 116, 34, 58, 34]⟩ ++ q ++ ⟨#[34, 125]⟩ : ByteArray) n) := by
 refine rd2_cut hN (15 + (q.size : Int) + 2) (by simp only [ByteArray.size_append, Int.natCast_add]; rfl) (by omega) (fun hn => ?_) (fun hn hl => ?_) (fun Z hn hl hm HTR => ?_)
 all_goals
  intro W hW
  have HOK := LH (hok.lat hW)
  have Hq := LH (hq.lat hW)
  clear hW hN hok hq
  go_enter Tryz.func78, Tryz.ntmps78
  go_wp2_with (first | (go_at_call 129; refine (HOK.out _ (below_al W _)).mono ?_; rintro e w0 ⟨rfl, hb0⟩; have B0 : Below W.heap.size W w0 := (below_al W _).trans (hb0.mono (below_al W _).size)) | (go_at_call 34; refine (Hq.out _ B0).mono ?_; rintro e w1 ⟨rfl, hb1⟩; have B1 : Below W.heap.size W w1 := B0.trans (hb1.mono B0.size)) | (go_at_call 134; refine (HTR.out _).mono ?_; rintro e9 w9 ⟨rfl, rfl⟩))
  go_ret2
  exact ⟨rfl, B1⟩
theorem vc18 (n : Int) (hN : n = -1 ∨ 1 ≤ n) (A : Option Addr) (m c : Nat) (x0 : Int) (w : World) (hok : Rd 131 (.agg #[.int .u8 18, .slice A m c]) w (.tuple #[.int .i64 x0, .bool true])) (q : ByteArray) (hsq : q.size ≤ 1000) (hq : Rd2 34 (.int .i64 x0) (.int .i64 10) w (.string q)) : Rd2 78 (.agg #[.int .u8 18, .slice A m c]) (.int .i64 n) w (cutV (⟨#[123, 34, 36, 110, 117, 109, 98, 101, 114, 76, 111, 110, 103, 34, 58, 34]⟩ ++ q ++ ⟨#[34, 125]⟩ : ByteArray) n) := by
 refine rd2_cut hN (16 + (q.size : Int) + 2) (by simp only [ByteArray.size_append, Int.natCast_add]; rfl) (by omega) (fun hn => ?_) (fun hn hl => ?_) (fun Z hn hl hm HTR => ?_)
 all_goals
  intro W hW
  have HOK := LH (hok.lat hW)
  have Hq := LH (hq.lat hW)
  clear hW hN hok hq
  go_enter Tryz.func78, Tryz.ntmps78
  go_wp2_with (first | (go_at_call 131; refine (HOK.out _ (below_al W _)).mono ?_; rintro e w0 ⟨rfl, hb0⟩; have B0 : Below W.heap.size W w0 := (below_al W _).trans (hb0.mono (below_al W _).size)) | (go_at_call 34; refine (Hq.out _ B0).mono ?_; rintro e w1 ⟨rfl, hb1⟩; have B1 : Below W.heap.size W w1 := B0.trans (hb1.mono B0.size)) | (go_at_call 134; refine (HTR.out _).mono ?_; rintro e9 w9 ⟨rfl, rfl⟩))
  go_ret2
  exact ⟨rfl, B1⟩
theorem vc17 (n : Int) (hN : n = -1 ∨ 1 ≤ n) (A : Option Addr) (m c : Nat) (x0 : Nat) (x1 : Nat) (w : World) (hok : Rd 130 (.agg #[.int .u8 17, .slice A m c]) w (.tuple #[.int .u32 (x0 : Int), .int .u32 (x1 : Int), .bool true])) (q : ByteArray) (hsq : q.size ≤ 1000) (hq : Rd2 36 (.int .u64 (x0 : Int)) (.int .i64 10) w (.string q)) (u : ByteArray) (hsu : u.size ≤ 1000) (hu : Rd2 36 (.int .u64 (x1 : Int)) (.int .i64 10) w (.string u)) (hx0 : x0 < 4294967296) (hx1 : x1 < 4294967296) : Rd2 78 (.agg #[.int .u8 17, .slice A m c]) (.int .i64 n) w (cutV (⟨#[123, 34, 36, 116, 105, 109, 101, 115, 116, 97, 109, 112, 34, 58, 123, 34, 116, 34, 58]⟩ ++ q ++ ⟨#[44, 34, 105, 34, 58]⟩ ++ u ++ ⟨#[125, 125]⟩ : ByteArray) n) := by
 refine rd2_cut hN (19 + (q.size : Int) + 5 + (u.size : Int) + 2) (by simp only [ByteArray.size_append, Int.natCast_add]; rfl) (by omega) (fun hn => ?_) (fun hn hl => ?_) (fun Z hn hl hm HTR => ?_)
 all_goals
  intro W hW
  have HOK := LH (hok.lat hW)
  have Hq := LH (hq.lat hW)
  have Hu := LH (hu.lat hW)
  clear hW hN hok hq hu
  go_enter Tryz.func78, Tryz.ntmps78
  go_wp2_with (first | (go_at_call 130; refine (HOK.out _ (below_al W _)).mono ?_; rintro e w0 ⟨rfl, hb0⟩; have B0 : Below W.heap.size W w0 := (below_al W _).trans (hb0.mono (below_al W _).size)) | (go_at_call 36; refine (Hq.out _ B0).mono ?_; rintro e w1 ⟨rfl, hb1⟩; have B1 : Below W.heap.size W w1 := B0.trans (hb1.mono B0.size)) | (go_at_call 36; refine (Hu.out _ B1).mono ?_; rintro e w2 ⟨rfl, hb2⟩; have B2 : Below W.heap.size W w2 := B1.trans (hb2.mono B1.size)) | (go_at_call 134; refine (HTR.out _).mono ?_; rintro e9 w9 ⟨rfl, rfl⟩))
  go_ret2
  exact ⟨rfl, B2⟩
theorem vc19 (n : Int) (hN : n = -1 ∨ 1 ≤ n) (A : Option Addr) (m c : Nat) (x0 : Nat) (x1 : Nat) (w : World) (hok : Rd 132 (.agg #[.int .u8 19, .slice A m c]) w (.tuple #[.int .u64 (x0 : Int), .int .u64 (x1 : Int), .bool true])) (q : ByteArray) (hsq : q.size ≤ 1000) (hq : Rd2 133 (.int .u64 (x0 : Int)) (.int .u64 (x1 : Int)) w (.string q)) : Rd2 78 (.agg #[.int .u8 19, .slice A m c]) (.int .i64 n) w (cutV (⟨#[123, 34, 36, 110, 117, 109, 98, 101, 114, 68, 101, 99, 105, 109, 97, 108, 34, 58, 34]⟩ ++ q ++ ⟨#[34, 125]⟩ : ByteArray) n) := by
 refine rd2_cut hN (19 + (q.size : Int) + 2) (by simp only [ByteArray.size_append, Int.natCast_add]; rfl) (by omega) (fun hn => ?_) (fun hn hl => ?_) (fun Z hn hl hm HTR => ?_)
 all_goals
  intro W hW
  have HOK := LH (hok.lat hW)
  have Hq := LH (hq.lat hW)
  clear hW hN hok hq
  go_enter Tryz.func78, Tryz.ntmps78
  go_wp2_with (first | (go_at_call 132; refine (HOK.out _ (below_al W _)).mono ?_; rintro e w0 ⟨rfl, hb0⟩; have B0 : Below W.heap.size W w0 := (below_al W _).trans (hb0.mono (below_al W _).size)) | (go_at_call 133; refine (Hq.out _ B0).mono ?_; rintro e w1 ⟨rfl, hb1⟩; have B1 : Below W.heap.size W w1 := B0.trans (hb1.mono B0.size)) | (go_at_call 134; refine (HTR.out _).mono ?_; rintro e9 w9 ⟨rfl, rfl⟩))
  go_ret2
  exact ⟨rfl, B1⟩
theorem vc255 (n : Int) (hN : n = -1 ∨ 1 ≤ n) (A : Option Addr) (m c : Nat)  (w : World) : Rd2 78 (.agg #[.int .u8 255, .slice A m c]) (.int .i64 n) w (cutV (⟨#[123, 34, 36, 109, 105, 110, 75, 101, 121, 34, 58, 49, 125]⟩ : ByteArray) n) := by
 refine rd2_cut hN (13) (by rfl) (by omega) (fun hn => ?_) (fun hn hl => ?_) (fun Z hn hl hm HTR => ?_)
 all_goals
  intro W hW
  clear hW hN 
  go_enter Tryz.func78, Tryz.ntmps78
  go_wp2_with (first | (go_at_call 134; refine (HTR.out _).mono ?_; rintro e9 w9 ⟨rfl, rfl⟩))
  go_ret2
  exact ⟨rfl, (below_al W _)⟩
theorem vc127 (n : Int) (hN : n = -1 ∨ 1 ≤ n) (A : Option Addr) (m c : Nat)  (w : World) : Rd2 78 (.agg #[.int .u8 127, .slice A m c]) (.int .i64 n) w (cutV (⟨#[123, 34, 36, 109, 97, 120, 75, 101, 121, 34, 58, 49, 125]⟩ : ByteArray) n) := by
 refine rd2_cut hN (13) (by rfl) (by omega) (fun hn => ?_) (fun hn hl => ?_) (fun Z hn hl hm HTR => ?_)
 all_goals
  intro W hW
  clear hW hN 
  go_enter Tryz.func78, Tryz.ntmps78
  go_wp2_with (first | (go_at_call 134; refine (HTR.out _).mono ?_; rintro e9 w9 ⟨rfl, rfl⟩))
  go_ret2
  exact ⟨rfl, (below_al W _)⟩
theorem vc7 (b0 b1 b2 b3 b4 b5 b6 b7 b8 b9 b10 b11 : UInt8) (n : Int) (hN : n = -1 ∨ 1 ≤ n) (A : Option Addr) (m c : Nat) (w : World) (hok : Rd 118 (.agg #[.int .u8 7, .slice A m c]) w (.tuple #[idV b0 b1 b2 b3 b4 b5 b6 b7 b8 b9 b10 b11, .bool true])) (q : ByteArray) (hs : q.size ≤ 1000) (hq : Rd 119 (idV b0 b1 b2 b3 b4 b5 b6 b7 b8 b9 b10 b11) w (.string q)) : Rd2 78 (.agg #[.int .u8 7, .slice A m c]) (.int .i64 n) w (cutV (⟨#[123, 34, 36, 111, 105, 100, 34, 58, 34]⟩ ++ q ++ ⟨#[34, 125]⟩ : ByteArray) n) := by
 refine rd2_cut hN (9 + (q.size : Int) + 2) (by simp only [ByteArray.size_append, Int.natCast_add]; rfl) (by omega) (fun hn => ?_) (fun hn hl => ?_) (fun Z hn hl hm HTR => ?_)
 all_goals
  intro W hW
  unfold idV at hok hq
  have HOK := LH (hok.lat hW)
  have HQ := LH (hq.lat hW)
  clear hW hN hok hq
  go_enter Tryz.func78, Tryz.ntmps78
  go_wp2_with (first | (go_at_call 118; refine (HOK.out _ (below_al W _)).mono ?_; rintro e w0 ⟨rfl, hb0⟩; have B0 : Below W.heap.size W w0 := (below_al W _).trans (hb0.mono (below_al W _).size)) | (go_at_call 119; refine (HQ.out _ (B0.trans ((below_al w0 _).mono B0.size))).mono ?_; rintro e w1 ⟨rfl, hb1⟩; have B1 := (B0.trans ((below_al w0 _).mono B0.size)).trans (hb1.mono (B0.trans ((below_al w0 _).mono B0.size)).size)) | (go_at_call 134; refine (HTR.out _).mono ?_; rintro e9 w9 ⟨rfl, rfl⟩))
  go_ret2
  exact ⟨rfl, B1⟩
theorem vc12 (b0 b1 b2 b3 b4 b5 b6 b7 b8 b9 b10 b11 : UInt8) (n : Int) (hN : n = -1 ∨ 1 ≤ n) (A : Option Addr) (m c : Nat) (s : ByteArray) (w : World) (hok : Rd 125 (.agg #[.int .u8 12, .slice A m c]) w (.tuple #[.string s, idV b0 b1 b2 b3 b4 b5 b6 b7 b8 b9 b10 b11, .bool true])) (q : ByteArray) (hs : q.size ≤ 1000) (hq : Rd 119 (idV b0 b1 b2 b3 b4 b5 b6 b7 b8 b9 b10 b11) w (.string q)) (u : ByteArray) (hu : u.size ≤ 100000) (hu2 : Rd 110 (.string s) w (.string u)) : Rd2 78 (.agg #[.int .u8 12, .slice A m c]) (.int .i64 n) w (cutV (⟨#[123, 34, 36, 100, 98, 80, 111, 105, 110, 116, 101, 114, 34, 58, 123, 34, 36, 114, 101, 102, 34, 58]⟩ ++ u ++ ⟨#[44, 34, 36, 105, 100, 34, 58, 123, 34, 36, 111, 105, 100, 34, 58, 34]⟩ ++ q ++ ⟨#[34, 125, 125, 125]⟩ : ByteArray) n) := by
 refine rd2_cut hN _ rfl (by have e : ((⟨#[123, 34, 36, 100, 98, 80, 111, 105, 110, 116, 101, 114, 34, 58, 123, 34, 36, 114, 101, 102, 34, 58]⟩ ++ u ++ ⟨#[44, 34, 36, 105, 100, 34, 58, 123, 34, 36, 111, 105, 100, 34, 58, 34]⟩ ++ q ++ ⟨#[34, 125, 125, 125]⟩ : ByteArray).size : Int) = 22 + (u.size : Int) + 16 + (q.size : Int) + 4 := (by simp only [ByteArray.size_append, Int.natCast_add]; rfl); omega) (fun hn => ?_) (fun hn hl => ?_) (fun Z hn hl hm HTR => ?_)
 all_goals
  intro W hW
  unfold idV at hok hq
  have HOK := LH (hok.lat hW)
  have HQ := LH (hq.lat hW)
  have HU := LH (hu2.lat hW)
  obtain ⟨z, hzz⟩ : ∃ z, ⟨#[123, 34, 36, 100, 98, 80, 111, 105, 110, 116, 101, 114, 34, 58, 123, 34, 36, 114, 101, 102, 34, 58]⟩ ++ u ++ ⟨#[44, 34, 36, 105, 100, 34, 58, 123, 34, 36, 111, 105, 100, 34, 58, 34]⟩ ++ q ++ ⟨#[34, 125, 125, 125]⟩ = z := ⟨_, rfl⟩
  have hzs : z.size ≤ 1000000 := by rw [← hzz]; simp only [ByteArray.size_append]; have : (⟨#[123, 34, 36, 100, 98, 80, 111, 105, 110, 116, 101, 114, 34, 58, 123, 34, 36, 114, 101, 102, 34, 58]⟩ : ByteArray).size = 22 := rfl; have : (⟨#[44, 34, 36, 105, 100, 34, 58, 123, 34, 36, 111, 105, 100, 34, 58, 34]⟩ : ByteArray).size = 16 := rfl; have : (⟨#[34, 125, 125, 125]⟩ : ByteArray).size = 4 := rfl; omega
  try rw [hzz]
  try rw [hzz] at hl
  try rw [hzz] at hm HTR
  have HZ := LH hzz
  clear hW hN hok hq hu2 hzz
  go_enter Tryz.func78, Tryz.ntmps78
  go_wp2_with (first | (go_at_call 125; refine (HOK.out _ (below_al W _)).mono ?_; rintro e w0 ⟨rfl, hb0⟩; have B0 : Below W.heap.size W w0 := (below_al W _).trans (hb0.mono (below_al W _).size)))
  have pk := heap_alloc_new w0 (.cells #[.int .u8 (b0.toNat : Int), .int .u8 (b1.toNat : Int), .int .u8 (b2.toNat : Int), .int .u8 (b3.toNat : Int), .int .u8 (b4.toNat : Int), .int .u8 (b5.toNat : Int), .int .u8 (b6.toNat : Int), .int .u8 (b7.toNat : Int), .int .u8 (b8.toNat : Int), .int .u8 (b9.toNat : Int), .int .u8 (b10.toNat : Int), .int .u8 (b11.toNat : Int)] 165)
  have hv : Below w0.heap.size w0 (w0.alloc (.cells #[.int .u8 (b0.toNat : Int), .int .u8 (b1.toNat : Int), .int .u8 (b2.toNat : Int), .int .u8 (b3.toNat : Int), .int .u8 (b4.toNat : Int), .int .u8 (b5.toNat : Int), .int .u8 (b6.toNat : Int), .int .u8 (b7.toNat : Int), .int .u8 (b8.toNat : Int), .int .u8 (b9.toNat : Int), .int .u8 (b10.toNat : Int), .int .u8 (b11.toNat : Int)] 165)) := below_al w0 _
  obtain ⟨V, hV⟩ : ∃ V, w0.alloc (.cells #[.int .u8 (b0.toNat : Int), .int .u8 (b1.toNat : Int), .int .u8 (b2.toNat : Int), .int .u8 (b3.toNat : Int), .int .u8 (b4.toNat : Int), .int .u8 (b5.toNat : Int), .int .u8 (b6.toNat : Int), .int .u8 (b7.toNat : Int), .int .u8 (b8.toNat : Int), .int .u8 (b9.toNat : Int), .int .u8 (b10.toNat : Int), .int .u8 (b11.toNat : Int)] 165) = V := ⟨_, rfl⟩
  rw [hV] at pk hv ⊢
  have HPK := LH (fun (X : World) (hX : Below V.heap.size V X) => (hX.block w0.heap.size (by rw [← hV]; simp)).trans pk)
  have HV := LH (B0.trans (hv.mono B0.size))
  clear pk hv hV B0 hb0
  refine wp_region_quiet_cls (C := fun X => Below V.heap.size V X) (by kernel_rfl) (by kernel_rfl) (below_q (Below.refl _ _) 1) ?_
  refine quiet_val (.string s) (by kernel_rfl) (fun X hX => by go_simp) ?_
  refine quiet_enter (.string u) 110 #[.string s] (by kernel_rfl) (fun X hX => by go_simp) (fun X hX => (HU.out X (HV.out.trans (hX.mono HV.out.size))).mono fun e X2 ⟨q1, q2⟩ => ⟨q1, hX.trans (q2.mono hX.size)⟩) ?_
  refine quiet_val (.string (⟨#[123, 34, 36, 100, 98, 80, 111, 105, 110, 116, 101, 114, 34, 58, 123, 34, 36, 114, 101, 102, 34, 58]⟩ ++ u)) (by kernel_rfl) (fun X hX => by go_simp; omega) ?_
  refine quiet_val (.string (⟨#[123, 34, 36, 100, 98, 80, 111, 105, 110, 116, 101, 114, 34, 58, 123, 34, 36, 114, 101, 102, 34, 58]⟩ ++ u ++ ⟨#[44, 34, 36, 105, 100, 34, 58, 123, 34, 36, 111, 105, 100, 34, 58, 34]⟩)) (by kernel_rfl) (fun X hX => by go_simp; omega) ?_
  refine quiet_val (.agg #[.int .u8 (b0.toNat : Int), .int .u8 (b1.toNat : Int), .int .u8 (b2.toNat : Int), .int .u8 (b3.toNat : Int), .int .u8 (b4.toNat : Int), .int .u8 (b5.toNat : Int), .int .u8 (b6.toNat : Int), .int .u8 (b7.toNat : Int), .int .u8 (b8.toNat : Int), .int .u8 (b9.toNat : Int), .int .u8 (b10.toNat : Int), .int .u8 (b11.toNat : Int)]) (by kernel_rfl) (fun X hX => by have hk := HPK.out X hX; have c0 : X.cell? ⟨w0.heap.size, 0, none⟩ = some (.int .u8 (b0.toNat : Int)) := (by rw [blk_cell hk]; rfl); have c1 : X.cell? ⟨w0.heap.size, 1, none⟩ = some (.int .u8 (b1.toNat : Int)) := (by rw [blk_cell hk]; rfl); have c2 : X.cell? ⟨w0.heap.size, 2, none⟩ = some (.int .u8 (b2.toNat : Int)) := (by rw [blk_cell hk]; rfl); have c3 : X.cell? ⟨w0.heap.size, 3, none⟩ = some (.int .u8 (b3.toNat : Int)) := (by rw [blk_cell hk]; rfl); have c4 : X.cell? ⟨w0.heap.size, 4, none⟩ = some (.int .u8 (b4.toNat : Int)) := (by rw [blk_cell hk]; rfl); have c5 : X.cell? ⟨w0.heap.size, 5, none⟩ = some (.int .u8 (b5.toNat : Int)) := (by rw [blk_cell hk]; rfl); have c6 : X.cell? ⟨w0.heap.size, 6, none⟩ = some (.int .u8 (b6.toNat : Int)) := (by rw [blk_cell hk]; rfl); have c7 : X.cell? ⟨w0.heap.size, 7, none⟩ = some (.int .u8 (b7.toNat : Int)) := (by rw [blk_cell hk]; rfl); have c8 : X.cell? ⟨w0.heap.size, 8, none⟩ = some (.int .u8 (b8.toNat : Int)) := (by rw [blk_cell hk]; rfl); have c9 : X.cell? ⟨w0.heap.size, 9, none⟩ = some (.int .u8 (b9.toNat : Int)) := (by rw [blk_cell hk]; rfl); have c10 : X.cell? ⟨w0.heap.size, 10, none⟩ = some (.int .u8 (b10.toNat : Int)) := (by rw [blk_cell hk]; rfl); have c11 : X.cell? ⟨w0.heap.size, 11, none⟩ = some (.int .u8 (b11.toNat : Int)) := (by rw [blk_cell hk]; rfl); go_simp) ?_
  refine quiet_enter (.string q) 119 #[.agg #[.int .u8 (b0.toNat : Int), .int .u8 (b1.toNat : Int), .int .u8 (b2.toNat : Int), .int .u8 (b3.toNat : Int), .int .u8 (b4.toNat : Int), .int .u8 (b5.toNat : Int), .int .u8 (b6.toNat : Int), .int .u8 (b7.toNat : Int), .int .u8 (b8.toNat : Int), .int .u8 (b9.toNat : Int), .int .u8 (b10.toNat : Int), .int .u8 (b11.toNat : Int)]] (by kernel_rfl) (fun X hX => by go_simp) (fun X hX => (HQ.out X (HV.out.trans (hX.mono HV.out.size))).mono fun e X2 ⟨q1, q2⟩ => ⟨q1, hX.trans (q2.mono hX.size)⟩) ?_
  refine quiet_val (.string (⟨#[123, 34, 36, 100, 98, 80, 111, 105, 110, 116, 101, 114, 34, 58, 123, 34, 36, 114, 101, 102, 34, 58]⟩ ++ u ++ ⟨#[44, 34, 36, 105, 100, 34, 58, 123, 34, 36, 111, 105, 100, 34, 58, 34]⟩ ++ q)) (by kernel_rfl) (fun X hX => by go_simp; omega) ?_
  refine quiet_val (.string z) (by kernel_rfl) (fun X hX => by have hz1 := HZ.out; go_simp; omega) ?_
  refine quiet_val (.string z) (by kernel_rfl) (fun X hX => by go_simp) ?_
  refine wpQuiet_nil ?_
  intro X hX
  go_simp
  go_wp2_with (go_at_call 134; refine (HTR.out _).mono ?_; rintro e9 w9 ⟨rfl, rfl⟩)
  go_ret2
  exact ⟨rfl, HV.out.trans (hX.mono HV.out.size)⟩
section
variable {K : Type} (fL : K → List UInt8) (text more : ByteArray) (n : Int) (bits high : Nat) (b : List UInt8) (kids : List (ByteArray × K)) (g o c : Nat) (w : World)
theorem tc_1 (nn : Int) (hN : nn = -1 ∨ 1 ≤ nn) (hb : bits < 18446744073709551616) (h69 : 69 ∉ dblT bits) (hc : 8 < c) (hcb : c ≤ 9223372036854775807) (hr : RD w g o (le64 bits)) (hT : TabC w) (h17 : 17 ≤ w.heap.size) :
  Rd2 78 (.agg #[.int .u8 1, .slice (some ⟨g, o, none⟩) 8 c]) (.int .i64 nn) w (cutV ⟨(loR fL ⟨1, text, more, n, bits, high, b, kids⟩).toArray⟩ nn) := by
 have h := vc1 nn hN (some ⟨g, o, none⟩) 8 c bits w (ok113 _ _ _ bits _ _ _ w (fun W hW => readDbl_any g o 8 c bits [] W rfl hc hcb hb (by simpa using hr.lat hW))) ⟨(dblT bits).toArray⟩ (by show (dblT bits).toArray.size ≤ _; rw [List.size_toArray]; have := dblT_len bits hb; omega) (fun W hW => coreDouble_any bits hb h69 W (hT.below hW h17) (by have := hW.size; omega))
 rw [show (⟨#[123, 34, 36, 110, 117, 109, 98, 101, 114, 68, 111, 117, 98, 108, 101, 34, 58, 34]⟩ ++ ⟨(dblT bits).toArray⟩ ++ ⟨#[34, 125]⟩ : ByteArray) = ⟨(loR fL ⟨1, text, more, n, bits, high, b, kids⟩).toArray⟩ from ret_eq (by unfold loR; simp)] at h
 exact h
theorem tc_2 (nn : Int) (hN : nn = -1 ∨ 1 ≤ nn) (hs : text.size ≤ 300) (hu : UT text) (hc : text.size + 5 < c) (hcb : c ≤ 9223372036854775807) (hr : RD w g o (txB text)) (hT : TabX w) (h17 : 17 ≤ w.heap.size) :
  Rd2 78 (.agg #[.int .u8 2, .slice (some ⟨g, o, none⟩) (text.size + 5) c]) (.int .i64 nn) w (cutV ⟨(loR fL ⟨2, text, more, n, bits, high, b, kids⟩).toArray⟩ nn) :=
 vc2 nn hN _ _ _ text w (ok109 _ _ _ text _ _ _ w (hand173 _ _ _ text _ _ _ w (tv_str text g o c w hs hc hcb hr))) (soutB true text) (by have := soutB_size true text hs hu; omega) (escU text hs hu w hT h17)
theorem tc_13 (nn : Int) (hN : nn = -1 ∨ 1 ≤ nn) (hs : text.size ≤ 300) (hu : UT text) (hc : text.size + 5 < c) (hcb : c ≤ 9223372036854775807) (hr : RD w g o (txB text)) (hT : TabX w) (h17 : 17 ≤ w.heap.size) :
  Rd2 78 (.agg #[.int .u8 13, .slice (some ⟨g, o, none⟩) (text.size + 5) c]) (.int .i64 nn) w (cutV ⟨(loR fL ⟨13, text, more, n, bits, high, b, kids⟩).toArray⟩ nn) := by
 have h := vc13 nn hN _ _ _ text w (ok126 _ _ _ text _ _ _ w (hand189 _ _ _ text _ _ _ w (tv_str text g o c w hs hc hcb hr))) (soutB true text) (by have := soutB_size true text hs hu; omega) (escU text hs hu w hT h17)
 rw [show (⟨#[123, 34, 36, 99, 111, 100, 101, 34, 58]⟩ ++ soutB true text ++ ⟨#[125]⟩ : ByteArray) = ⟨(loR fL ⟨13, text, more, n, bits, high, b, kids⟩).toArray⟩ from ret_eq (by unfold loR spR; simp [soutB])] at h
 exact h
theorem tc_14 (nn : Int) (hN : nn = -1 ∨ 1 ≤ nn) (hs : text.size ≤ 300) (hu : UT text) (hc : text.size + 5 < c) (hcb : c ≤ 9223372036854775807) (hr : RD w g o (txB text)) (hT : TabX w) (h17 : 17 ≤ w.heap.size) :
  Rd2 78 (.agg #[.int .u8 14, .slice (some ⟨g, o, none⟩) (text.size + 5) c]) (.int .i64 nn) w (cutV ⟨(loR fL ⟨14, text, more, n, bits, high, b, kids⟩).toArray⟩ nn) := by
 have h := vc14 nn hN _ _ _ text w (ok127 _ _ _ text _ _ _ w (hand190 _ _ _ text _ _ _ w (tv_str text g o c w hs hc hcb hr))) (soutB true text) (by have := soutB_size true text hs hu; omega) (escU text hs hu w hT h17)
 rw [show (⟨#[123, 34, 36, 115, 121, 109, 98, 111, 108, 34, 58]⟩ ++ soutB true text ++ ⟨#[125]⟩ : ByteArray) = ⟨(loR fL ⟨14, text, more, n, bits, high, b, kids⟩).toArray⟩ from ret_eq (by unfold loR spR; simp [soutB])] at h
 exact h
theorem tc_6 (nn : Int) (hN : nn = -1 ∨ 1 ≤ nn) (hc : 0 < c) : Rd2 78 (.agg #[.int .u8 6, .slice (some ⟨g, o, none⟩) 0 c]) (.int .i64 nn) w (cutV ⟨(loR fL ⟨6, text, more, n, bits, high, b, kids⟩).toArray⟩ nn) := vc6 nn hN _ _ _ w
theorem tc_10 (nn : Int) (hN : nn = -1 ∨ 1 ≤ nn) (hc : 0 < c) : Rd2 78 (.agg #[.int .u8 10, .slice (some ⟨g, o, none⟩) 0 c]) (.int .i64 nn) w (cutV ⟨(loR fL ⟨10, text, more, n, bits, high, b, kids⟩).toArray⟩ nn) := vc10 nn hN _ _ _ w
theorem tc_127 (nn : Int) (hN : nn = -1 ∨ 1 ≤ nn) (hc : 0 < c) : Rd2 78 (.agg #[.int .u8 127, .slice (some ⟨g, o, none⟩) 0 c]) (.int .i64 nn) w (cutV ⟨(loR fL ⟨127, text, more, n, bits, high, b, kids⟩).toArray⟩ nn) := vc127 nn hN _ _ _ w
theorem tc_255 (nn : Int) (hN : nn = -1 ∨ 1 ≤ nn) (hc : 0 < c) : Rd2 78 (.agg #[.int .u8 255, .slice (some ⟨g, o, none⟩) 0 c]) (.int .i64 nn) w (cutV ⟨(loR fL ⟨255, text, more, n, bits, high, b, kids⟩).toArray⟩ nn) := vc255 nn hN _ _ _ w
theorem tc_7 (nn : Int) (hN : nn = -1 ∨ 1 ≤ nn) (hb : b.length = 12) (hc : 12 < c) (hcb : c ≤ 9223372036854775807) (hr : RD w g o b) : Rd2 78 (.agg #[.int .u8 7, .slice (some ⟨g, o, none⟩) 12 c]) (.int .i64 nn) w (cutV ⟨(loR fL ⟨7, text, more, n, bits, high, b, kids⟩).toArray⟩ nn) := by
 obtain ⟨b0, b1, b2, b3, b4, b5, b6, b7, b8, b9, b10, b11, rfl⟩ := len12 b hb
 have h := vc7 b0 b1 b2 b3 b4 b5 b6 b7 b8 b9 b10 b11 nn hN _ _ _ w (ok118 b0 b1 b2 b3 b4 b5 b6 b7 b8 b9 b10 b11 _ _ _ _ _ _ w (fun W hW => readID_core b0 b1 b2 b3 b4 b5 b6 b7 b8 b9 b10 b11 g o 12 c W (by omega) hc hcb (hr.lat hW))) _ (by rw [hexB_size]; simp) (rdHex b0 b1 b2 b3 b4 b5 b6 b7 b8 b9 b10 b11 w)
 rw [show (⟨#[123, 34, 36, 111, 105, 100, 34, 58, 34]⟩ ++ hexB [b0, b1, b2, b3, b4, b5, b6, b7, b8, b9, b10, b11] ++ ⟨#[34, 125]⟩ : ByteArray) = ⟨(loR fL ⟨7, text, more, n, bits, high, [b0, b1, b2, b3, b4, b5, b6, b7, b8, b9, b10, b11], kids⟩).toArray⟩ from ret_eq (by unfold loR spR; simp)] at h
 exact h
theorem tc_12 (nn : Int) (hN : nn = -1 ∨ 1 ≤ nn) (hs : text.size ≤ 300) (hu : UT text) (hb : b.length = 12) (hc : text.size + 17 < c) (hcb : c ≤ 9223372036854775807) (hr : RD w g o (txB text ++ b)) (hT : TabX w) (h17 : 17 ≤ w.heap.size) :
  Rd2 78 (.agg #[.int .u8 12, .slice (some ⟨g, o, none⟩) (text.size + 17) c]) (.int .i64 nn) w (cutV ⟨(loR fL ⟨12, text, more, n, bits, high, b, kids⟩).toArray⟩ nn) := by
 obtain ⟨b0, b1, b2, b3, b4, b5, b6, b7, b8, b9, b10, b11, rfl⟩ := len12 b hb
 have h1 := rdStr g o (text.size + 17) c text [b0, b1, b2, b3, b4, b5, b6, b7, b8, b9, b10, b11] w (by simp) hc hcb (by omega) hr
 have hr2 : RD w g (o + 4 + (text.size + 1)) [b0, b1, b2, b3, b4, b5, b6, b7, b8, b9, b10, b11] := by
  have := hr.right
  rw [txB_len, show o + (text.size + 5) = o + 4 + (text.size + 1) from by omega] at this
  exact this
 have h := vc12 b0 b1 b2 b3 b4 b5 b6 b7 b8 b9 b10 b11 nn hN _ _ _ text w (ok125 b0 b1 b2 b3 b4 b5 b6 b7 b8 b9 b10 b11 _ _ _ text _ _ _ w (readPtr_core b0 b1 b2 b3 b4 b5 b6 b7 b8 b9 b10 b11 _ _ _ text _ _ _ _ _ _ w h1 (fun W hW => readID_core b0 b1 b2 b3 b4 b5 b6 b7 b8 b9 b10 b11 g _ _ _ W (by omega) (by omega) (by omega) (hr2.lat hW)))) _ (by rw [hexB_size]; simp) (rdHex b0 b1 b2 b3 b4 b5 b6 b7 b8 b9 b10 b11 w) (soutB true text) (by have := soutB_size true text hs hu; omega) (escU text hs hu w hT h17)
 rw [show (⟨#[123, 34, 36, 100, 98, 80, 111, 105, 110, 116, 101, 114, 34, 58, 123, 34, 36, 114, 101, 102, 34, 58]⟩ ++ soutB true text ++ ⟨#[44, 34, 36, 105, 100, 34, 58, 123, 34, 36, 111, 105, 100, 34, 58, 34]⟩ ++ hexB [b0, b1, b2, b3, b4, b5, b6, b7, b8, b9, b10, b11] ++ ⟨#[34, 125, 125, 125]⟩ : ByteArray) = ⟨(loR fL ⟨12, text, more, n, bits, high, [b0, b1, b2, b3, b4, b5, b6, b7, b8, b9, b10, b11], kids⟩).toArray⟩ from ret_eq (by unfold loR spR; simp [soutB])] at h
 exact h
theorem tc_8 (nn : Int) (hN : nn = -1 ∨ 1 ≤ nn) (hn : n = 0 ∨ n = 1) (hc : 1 < c) (hcb : c ≤ 9223372036854775807) (hr : RD w g o [u8 n]) : Rd2 78 (.agg #[.int .u8 8, .slice (some ⟨g, o, none⟩) 1 c]) (.int .i64 nn) w (cutV ⟨(loR fL ⟨8, text, more, n, bits, high, b, kids⟩).toArray⟩ nn) := by
 have hv : (((u8 n).toNat : Int) == 1) = decide (n = 1) := by rcases hn with rfl | rfl <;> rfl
 have h := vc8 nn hN (some ⟨g, o, none⟩) 1 c (decide (n = 1)) w (ok120 _ _ _ _ _ _ _ w (fun W hW => hv ▸ readBool_any g o 1 c (u8 n).toNat W (by omega) hc hcb (u8 n).toNat_lt (hr.lat hW 0 _ rfl))) ⟨(Lib.formatBool (decide (n = 1))).toArray⟩ (by rcases hn with rfl | rfl <;> decide) (fun W hW => (Tryz.strconv_FormatBool _ W).mono fun e w' ⟨q1, q2⟩ => ⟨q1, by rw [q2]; exact Below.refl _ _⟩)
 exact h
theorem tc_9 (nn : Int) (hN : nn = -1 ∨ 1 ≤ nn) (hn : I64 n) (hc : 8 < c) (hcb : c ≤ 9223372036854775807) (hr : RD w g o (le64 (u64 n))) (hT : TabC w) (h17 : 17 ≤ w.heap.size) : Rd2 78 (.agg #[.int .u8 9, .slice (some ⟨g, o, none⟩) 8 c]) (.int .i64 nn) w (cutV ⟨(loR fL ⟨9, text, more, n, bits, high, b, kids⟩).toArray⟩ nn) := by
 have hz := itoaB_size n hn
 have h := vc9 nn hN (some ⟨g, o, none⟩) 8 c n w (ok122 _ _ _ _ _ _ _ w (hand185 _ _ _ _ _ _ _ w (fun W hW => s64_u64 n hn ▸ readI64_any g o 8 c (u64 n) [] W rfl hc hcb (u64_lt n) (by simpa using hr.lat hW)))) (itoaB n) (by omega) (fun W hW => fmtInt_c n W hn (hT.below hW h17))
 rw [show (⟨#[123, 34, 36, 100, 97, 116, 101, 34, 58, 123, 34, 36, 110, 117, 109, 98, 101, 114, 76, 111, 110, 103, 34, 58, 34]⟩ ++ itoaB n ++ ⟨#[34, 125, 125]⟩ : ByteArray) = ⟨(loR fL ⟨9, text, more, n, bits, high, b, kids⟩).toArray⟩ from ret_eq (by unfold loR spR; simp [itoaB])] at h
 exact h
theorem tc_18 (nn : Int) (hN : nn = -1 ∨ 1 ≤ nn) (hn : I64 n) (hc : 8 < c) (hcb : c ≤ 9223372036854775807) (hr : RD w g o (le64 (u64 n))) (hT : TabC w) (h17 : 17 ≤ w.heap.size) : Rd2 78 (.agg #[.int .u8 18, .slice (some ⟨g, o, none⟩) 8 c]) (.int .i64 nn) w (cutV ⟨(loR fL ⟨18, text, more, n, bits, high, b, kids⟩).toArray⟩ nn) := by
 have hz := itoaB_size n hn
 have h := vc18 nn hN (some ⟨g, o, none⟩) 8 c n w (ok131 _ _ _ _ _ _ _ w (hand194 _ _ _ _ _ _ _ w (fun W hW => s64_u64 n hn ▸ readI64_any g o 8 c (u64 n) [] W rfl hc hcb (u64_lt n) (by simpa using hr.lat hW)))) (itoaB n) (by omega) (fun W hW => fmtInt_c n W hn (hT.below hW h17))
 rw [show (⟨#[123, 34, 36, 110, 117, 109, 98, 101, 114, 76, 111, 110, 103, 34, 58, 34]⟩ ++ itoaB n ++ ⟨#[34, 125]⟩ : ByteArray) = ⟨(loR fL ⟨18, text, more, n, bits, high, b, kids⟩).toArray⟩ from ret_eq (by unfold loR; simp [itoaB])] at h
 exact h
theorem tc_16 (nn : Int) (hN : nn = -1 ∨ 1 ≤ nn) (hn : -2147483648 ≤ n ∧ n ≤ 2147483647) (hc : 4 < c) (hcb : c ≤ 9223372036854775807) (hr : RD w g o (le32 (u32 n))) (hT : TabC w) (h17 : 17 ≤ w.heap.size) : Rd2 78 (.agg #[.int .u8 16, .slice (some ⟨g, o, none⟩) 4 c]) (.int .i64 nn) w (cutV ⟨(loR fL ⟨16, text, more, n, bits, high, b, kids⟩).toArray⟩ nn) := by
 have hn64 : I64 n := ⟨by omega, by omega⟩
 have hz := itoaB_size n hn64
 have h := vc16 nn hN (some ⟨g, o, none⟩) 4 c n w (ok129 _ _ _ _ _ _ _ w (hand192 _ _ _ _ _ _ _ w (fun W hW => s32_u32 n hn ▸ readI32_any g o 4 c (u32 n) [] W rfl hc hcb (by unfold u32; omega) (by simpa using hr.lat hW)))) (itoaB n) (by omega) (fun W hW => fmtInt_c n W hn64 (hT.below hW h17)) hn
 rw [show (⟨#[123, 34, 36, 110, 117, 109, 98, 101, 114, 73, 110, 116, 34, 58, 34]⟩ ++ itoaB n ++ ⟨#[34, 125]⟩ : ByteArray) = ⟨(loR fL ⟨16, text, more, n, bits, high, b, kids⟩).toArray⟩ from ret_eq (by unfold loR; simp [itoaB])] at h
 exact h
theorem tc_17 (nn : Int) (hN : nn = -1 ∨ 1 ≤ nn) (hb : bits < 18446744073709551616) (hc : 8 < c) (hcb : c ≤ 9223372036854775807) (hr : RD w g o (le64 bits)) (hT : TabC w) (h17 : 17 ≤ w.heap.size) : Rd2 78 (.agg #[.int .u8 17, .slice (some ⟨g, o, none⟩) 8 c]) (.int .i64 nn) w (cutV ⟨(loR fL ⟨17, text, more, n, bits, high, b, kids⟩).toArray⟩ nn) := by
 rw [le64_two bits hb] at hr
 have z1 := decB_len (bits / 4294967296) (by omega)
 have z2 := decB_len (bits % 4294967296) (by omega)
 have h := vc17 nn hN (some ⟨g, o, none⟩) 8 c (bits / 4294967296) (bits % 4294967296) w (ok130 _ _ _ _ _ _ _ _ w (fun W hW => readTs_any g o 8 c (bits % 4294967296) (bits / 4294967296) W rfl hc hcb (by omega) (by omega) (hr.lat hW))) (decB (bits / 4294967296)) (by omega) (fun W hW => fmtUint_c (bits / 4294967296) (by omega) W (hT.below hW h17)) (decB (bits % 4294967296)) (by omega) (fun W hW => fmtUint_c (bits % 4294967296) (by omega) W (hT.below hW h17)) (by omega) (by omega)
 rw [show (⟨#[123, 34, 36, 116, 105, 109, 101, 115, 116, 97, 109, 112, 34, 58, 123, 34, 116, 34, 58]⟩ ++ decB (bits / 4294967296) ++ ⟨#[44, 34, 105, 34, 58]⟩ ++ decB (bits % 4294967296) ++ ⟨#[125, 125]⟩ : ByteArray) = ⟨(loR fL ⟨17, text, more, n, bits, high, b, kids⟩).toArray⟩ from ret_eq (by unfold loR spR; simp [decB])] at h
 exact h
theorem tc_19 (nn : Int) (hN : nn = -1 ∨ 1 ≤ nn) (hb : bits < 18446744073709551616) (hh : high < 18446744073709551616) (hc : 16 < c) (hcb : c ≤ 9223372036854775807) (hr : RD w g o (le64 bits ++ le64 high)) (hT : TabC w) (h17 : 17 ≤ w.heap.size) : Rd2 78 (.agg #[.int .u8 19, .slice (some ⟨g, o, none⟩) 16 c]) (.int .i64 nn) w (cutV ⟨(loR fL ⟨19, text, more, n, bits, high, b, kids⟩).toArray⟩ nn) := by
 have h := vc19 nn hN (some ⟨g, o, none⟩) 16 c high bits w (ok132 _ _ _ _ _ _ _ _ w (fun W hW => readDec_any g o 16 c bits high W rfl hc hcb hb hh (hr.lat hW))) ⟨(decT high bits).toArray⟩ (by show (decT high bits).toArray.size ≤ _; rw [List.size_toArray]; exact decT_len high bits hb) (fun W hW => decStr_any high bits hh hb W (hT.below hW h17) (by have := hW.size; omega))
 rw [show (⟨#[123, 34, 36, 110, 117, 109, 98, 101, 114, 68, 101, 99, 105, 109, 97, 108, 34, 58, 34]⟩ ++ ⟨(decT high bits).toArray⟩ ++ ⟨#[34, 125]⟩ : ByteArray) = ⟨(loR fL ⟨19, text, more, n, bits, high, b, kids⟩).toArray⟩ from ret_eq (by unfold loR spR; simp)] at h
 exact h
theorem tc_11 (nn : Int) (hN : nn = -1 ∨ 1 ≤ nn) (hs : text.size ≤ 300) (hu : UT text) (hm : more.size ≤ 300) (hri : Rising more.data.toList) (h0 : 0 ∉ text.data.toList) (h1 : 0 ∉ more.data.toList) (hc : text.size + 1 + (more.size + 1) < c) (hcb : c ≤ 9223372036854775807) (hr : RD w g o (text.data.toList ++ 0 :: (more.data.toList ++ [0]))) (hT : TabX w) (h17 : 17 ≤ w.heap.size) :
  Rd2 78 (.agg #[.int .u8 11, .slice (some ⟨g, o, none⟩) (text.size + 1 + (more.size + 1)) c]) (.int .i64 nn) w (cutV ⟨(loR fL ⟨11, text, more, n, bits, high, b, kids⟩).toArray⟩ nn) := by
 have h := vc11 nn hN (some ⟨g, o, none⟩) (text.size + 1 + (more.size + 1)) c text more w (ok123 _ _ _ _ _ _ _ _ w (fun W hW => regex_any g o _ c text more W rfl hc hcb h0 h1 (hr.lat hW))) (soutB true text) (by have := soutB_size true text hs hu; omega) (escU text hs hu w hT h17) more (by omega) (fun W hW => srx_any more (by omega) hri W)
 rw [show (⟨#[123, 34, 36, 114, 101, 103, 117, 108, 97, 114, 69, 120, 112, 114, 101, 115, 115, 105, 111, 110, 34, 58, 123, 34, 112, 97, 116, 116, 101, 114, 110, 34, 58]⟩ ++ soutB true text ++ ⟨#[44, 34, 111, 112, 116, 105, 111, 110, 115, 34, 58, 34]⟩ ++ more ++ ⟨#[34, 125, 125]⟩ : ByteArray) = ⟨(loR fL ⟨11, text, more, n, bits, high, b, kids⟩).toArray⟩ from ret_eq (by unfold loR spR; simp [soutB, sout_plain more hri.1])] at h
 exact h
theorem tc_5 (nn : Int) (hN : nn = -1 ∨ 1 ≤ nn) (hn : 0 ≤ n ∧ n ≤ 255) (hb : b.length ≤ 300) (hc : (binB n b).length < c) (hcb : c ≤ 9223372036854775807) (hr : RD w g o (binB n b)) : Rd2 78 (.agg #[.int .u8 5, .slice (some ⟨g, o, none⟩) (binB n b).length c]) (.int .i64 nn) w (cutV ⟨(loR fL ⟨5, text, more, n, bits, high, b, kids⟩).toArray⟩ nn) := by
 have hz : (b6B b).size ≤ 100000 := by show (b6 b).toArray.size ≤ _; rw [List.size_toArray, b6_length]; omega
 have hx : Rd 117 (.int .u8 n) w (.string (hex2B (n % 256).toNat)) := fun W hW => by
  have := hex2x_any (n % 256).toNat (by omega) W
  rwa [show (((n % 256).toNat : Nat) : Int) = n from by omega] at this
 have hfin : ∀ (h : Rd2 78 (.agg #[.int .u8 5, .slice (some ⟨g, o, none⟩) (binB n b).length c]) (.int .i64 nn) w (cutV (⟨#[123, 34, 36, 98, 105, 110, 97, 114, 121, 34, 58, 123, 34, 98, 97, 115, 101, 54, 52, 34, 58, 34]⟩ ++ b6B b ++ ⟨#[34, 44, 34, 115, 117, 98, 84, 121, 112, 101, 34, 58, 34]⟩ ++ hex2B (n % 256).toNat ++ ⟨#[34, 125, 125]⟩) nn)), Rd2 78 (.agg #[.int .u8 5, .slice (some ⟨g, o, none⟩) (binB n b).length c]) (.int .i64 nn) w (cutV ⟨(loR fL ⟨5, text, more, n, bits, high, b, kids⟩).toArray⟩ nn) := by
  intro h
  rw [show (⟨#[123, 34, 36, 98, 105, 110, 97, 114, 121, 34, 58, 123, 34, 98, 97, 115, 101, 54, 52, 34, 58, 34]⟩ ++ b6B b ++ ⟨#[34, 44, 34, 115, 117, 98, 84, 121, 112, 101, 34, 58, 34]⟩ ++ hex2B (n % 256).toNat ++ ⟨#[34, 125, 125]⟩ : ByteArray) = ⟨(loR fL ⟨5, text, more, n, bits, high, b, kids⟩).toArray⟩ from ret_eq (by unfold loR spR; simp [b6B])] at h
  exact h
 refine hfin ?_
 by_cases h2 : n = 2
 ·subst h2
  have e : binB 2 b = le32 (b.length + 4) ++ 2 :: (le32 b.length ++ b) := if_pos rfl
  rw [e] at hr hc ⊢
  have el : (le32 (b.length + 4) ++ 2 :: (le32 b.length ++ b)).length = 9 + b.length := by simp only [List.length_append, List.length_cons, le32_len]; omega
  rw [el] at hc ⊢
  have hr2 : RD w g (o + 4 + 1 + 4) b := by
   have q : RD w g o ((le32 (b.length + 4) ++ 2 :: le32 b.length) ++ b) := by simpa using hr
   have := q.right
   rw [show (le32 (b.length + 4) ++ 2 :: le32 b.length).length = 9 from rfl, show o + 9 = o + 4 + 1 + 4 from by omega] at this
   exact this
  exact vc5 nn hN (some ⟨g, o, none⟩) (9 + b.length) c 2 (some ⟨g, o + 4 + 1 + 4, none⟩) b.length (c - 4 - 1 - 4) w (ok115 _ _ _ _ _ _ _ _ _ _ w (fun W hW => readBin_old g o (9 + b.length) c b.length b W rfl rfl hc hcb (by omega) (hr.lat hW))) (b6B b) hz (fun W hW => zx64_any b.length b _ (c - 4 - 1 - 4) W rfl (by omega) (rb_rd (hr2.lat hW)) (by omega) (by omega)) _ (by show 2 ≤ 100; omega) hx
 ·have e : binB n b = le32 b.length ++ u8 n :: b := if_neg h2
  rw [e] at hr hc ⊢
  have el : (le32 b.length ++ u8 n :: b).length = 5 + b.length := by simp only [List.length_append, List.length_cons, le32_len]; omega
  rw [el] at hc ⊢
  have hr2 : RD w g (o + 4 + 1) b := by
   have q : RD w g o ((le32 b.length ++ [u8 n]) ++ b) := by simpa using hr
   have := q.right
   rw [show (le32 b.length ++ [u8 n]).length = 5 from rfl, show o + 5 = o + 4 + 1 from by omega] at this
   exact this
  exact vc5 nn hN (some ⟨g, o, none⟩) (5 + b.length) c n (some ⟨g, o + 4 + 1, none⟩) b.length (c - 4 - 1) w (ok115 _ _ _ _ _ _ _ _ _ _ w (fun W hW => readBin_plain g o (5 + b.length) c b.length n hn (by simpa using h2) b W rfl rfl hc hcb (by omega) (hr.lat hW))) (b6B b) hz (fun W hW => zx64_any b.length b _ (c - 4 - 1) W rfl (by omega) (rb_rd (hr2.lat hW)) (by omega) (by omega)) _ (by show 2 ≤ 100; omega) hx
end
def NN (nn : Int) : Prop := nn = -1 ∨ (1 ≤ nn ∧ nn ≤ 100000)
structure TcK (k : Int) (v s : List UInt8) (g : Nat) (w : World) : Prop where
 val : ∀ nn, NN nn → ∀ o c, RD w g o v → v.length < c → c ≤ 9223372036854775807 → Rd2 78 (.agg #[.int .u8 k, .slice (some ⟨g, o, none⟩) v.length c]) (.int .i64 nn) w (cutV ⟨s.toArray⟩ nn)
 str : k = 2 → ∀ o c, RD w g o v → v.length < c → c ≤ 9223372036854775807 → ∃ x, Rd 109 (.agg #[.int .u8 2, .slice (some ⟨g, o, none⟩) v.length c]) w (.tuple #[.string x, .bool true])
 arr : k = 4 → ∀ o c, RD w g o v → v.length < c → c ≤ 9223372036854775807 → ∃ X n0 c0, Rd 112 (.agg #[.int .u8 4, .slice (some ⟨g, o, none⟩) v.length c]) w (.tuple #[.slice X n0 c0, .bool true]) ∧ ∀ nn, NN nn → Rd2 51 (.slice X n0 c0) (.int .i64 nn) w (cutV ⟨s.toArray⟩ nn)
theorem TcK.tx {k : Int} {v s : List UInt8} {g : Nat} {w : World} (h : TcK k v s g w) : TxK k v s g w :=
 ⟨fun o c hr hc hcb => h.val (-1) (.inl rfl) o c hr hc hcb, h.str, fun hk o c hr hc hcb => by
  obtain ⟨X, n0, c0, h1, h2⟩ := h.arr hk o c hr hc hcb
  exact ⟨X, n0, c0, h1, h2 (-1) (.inl rfl)⟩⟩
theorem cutV_of (X Y : List UInt8) (M : Nat) (h : M < X.length) (hc : cutL X M = Y) : cutV ⟨X.toArray⟩ M = .tuple #[.string ⟨Y.toArray⟩, .bool true] := by
 rw [cutV_less _ _ (by omega) (by show _ < (X.toArray.size : Int); rw [List.size_toArray]; omega)]
 subst hc
 rfl
section
variable {K : Type} (kf : K → Int) (f fL : K → List UInt8) (l : List (ByteArray × K))
theorem elTc (p : ByteArray × K) (g : Nat) (w : World) (hn0 : 0 ∉ p.1.data.toList) (hn1 : p.1.size ≠ 0) (hn2 : p.1.size ≤ 300) (hnd : hdOk p.1.data.toList) (hk : 0 ≤ kf p.2 ∧ kf p.2 ≤ 255) (hf : (f p.2).length ≤ 1000000) (hfL : (fL p.2).length ≤ 1000000000) (hfd : hdOk (fL p.2)) (hf1 : 1 ≤ (fL p.2).length)
  (hv : ∀ (o c : Nat) (r : List UInt8), RD w g o (f p.2 ++ r) → (f p.2).length + r.length ≤ c → c ≤ 9223372036854775807 → VLen (kf p.2) (f p.2).length (.slice (some ⟨g, o, none⟩) ((f p.2).length + r.length) c) w)
  (hx : TcK (kf p.2) (f p.2) (fL p.2) g w) (o c : Nat) (hr : RD w g o (elB (kf p.2) p.1 (f p.2))) (hc : (elB (kf p.2) p.1 (f p.2)).length < c) (hcb : c ≤ 9223372036854775807) (M : Nat) (hM1 : 1 ≤ M) (hMb : M ≤ 100000) :
  Rd2 104 (.slice (some ⟨g, o, none⟩) (elB (kf p.2) p.1 (f p.2)).length c) (.int .i64 (M : Int)) w (cutV ⟨(meL p.1 (fL p.2)).toArray⟩ M) := by
 have e1 : p.1.data.toList.length = p.1.size := Array.length_toList
 have el := elB_len (kf p.2) p.1 (f p.2)
 have hrv : RD w g (o + (p.1.size + 2)) (f p.2) := by
  have h1 : RD w g o ((u8 (kf p.2) :: (p.1.data.toList ++ [0])) ++ f p.2) := by
   have : elB (kf p.2) p.1 (f p.2) = (u8 (kf p.2) :: (p.1.data.toList ++ [0])) ++ f p.2 := by simp [elB]
   rw [← this]
   exact hr
  have h2 := h1.right
  rw [show (u8 (kf p.2) :: (p.1.data.toList ++ [0])).length = p.1.size + 2 from by simp only [List.length_cons, List.length_append, List.length_nil]; omega] at h2
  exact h2
 rw [el] at hc ⊢
 have hvl := hv (o + (p.1.size + 2)) (c - (p.1.size + 2)) [] (by simpa using hrv) (by simp only [List.length_nil]; omega) (by omega)
 rw [show (f p.2).length + ([] : List UInt8).length = p.1.size + 2 + (f p.2).length - (p.1.size + 2) from by simp only [List.length_nil]; omega] at hvl
 have hu := u8_val (kf p.2) hk
 have hS : (⟨(fL p.2).toArray⟩ : ByteArray).size ≤ 1000000000 := by
  show (fL p.2).toArray.size ≤ _
  rw [List.size_toArray]
  exact hfL
 have hSz : (⟨(fL p.2).toArray⟩ : ByteArray).size = (fL p.2).length := by show (fL p.2).toArray.size = _; rw [List.size_toArray]
 have hme : meL p.1 (fL p.2) = [34] ++ p.1.data.toList ++ [34, 58, 32] ++ fL p.2 := by unfold meL; simp
 have hpl : ([34] ++ p.1.data.toList ++ [34, 58, 32]).length = p.1.size + 4 := by simp only [List.length_append, List.length_cons, List.length_nil]; omega
 have hll : ([34] ++ p.1.data.toList ++ [34, 58, 32] ++ fL p.2).length = p.1.size + 4 + (fL p.2).length := by rw [List.length_append, hpl]
 rw [hme]
 by_cases m1 : M = 1
 ·subst m1
  rw [cutV_of _ [34] 1 (by omega) (by
   rw [List.append_assoc, List.append_assoc, cut_hi [34] _ 1 (hd_app hnd (by omega)) (by simp)]
   rw [show 1 - ([34] : List UInt8).length = 0 from rfl, cut_zero]; rfl)]
  exact elc_one g o _ c (by omega) w
 have go := fun (R : Value) hR => elc g o _ c p.1.size (f p.2).length (kf p.2) (u8 (kf p.2)) p.1.data.toList (f p.2) w hu e1 (by omega) (by omega) rfl rfl hc hcb (by omega) hn0 hr M hMb (by omega) hvl R hR
 by_cases m2 : M ≤ p.1.size
 ·rw [cutV_of _ ([34] ++ cutL p.1.data.toList (M - 1)) M (by omega) (by
   rw [List.append_assoc, cut_lo _ _ _ (by simp only [List.length_append, List.length_cons, List.length_nil]; omega), cut_hi [34] _ M hnd (by simp only [List.length_cons, List.length_nil]; omega)]
   rfl)]
  exact go _ (.key (by omega) m2)
 have hsx : ∀ j Y, M = p.1.size + j → 1 ≤ j → j < 4 → cutL [34, 58, 32] (j - 1) = Y → cutV ⟨([34] ++ p.1.data.toList ++ [34, 58, 32] ++ fL p.2).toArray⟩ M = .tuple #[.string ⟨([34] ++ p.1.data.toList ++ Y).toArray⟩, .bool true] := fun j Y hj j1 j4 hY => cutV_of _ _ M (by omega) (by
   have h1 : ([34] ++ p.1.data.toList).length = p.1.size + 1 := by simp only [List.length_append, List.length_cons, List.length_nil]; omega
   rw [cut_lo _ _ _ (by omega), cut_hi _ _ _ (hd_con (by decide)) (by omega), h1, show M - (p.1.size + 1) = j - 1 from by omega, hY])
 by_cases m5 : M < p.1.size + 4
 ·obtain ⟨q, hq⟩ : ∃ q, M = p.1.size + (q + 1) := ⟨M - p.1.size - 1, by omega⟩
  have hq2 : q ≤ 2 := by omega
  rw [hsx (q + 1) _ hq (by omega) (by omega) (show cutL [34, 58, 32] (q + 1 - 1) = ([34, 58, 32] : List UInt8).take q from by
   rw [Nat.add_sub_cancel]
   match q, hq2 with
   | 0, _ => decide
   | 1, _ => decide
   | 2, _ => decide)]
  exact go _ (.sfx q hq2 (by omega))
 by_cases m6 : p.1.size + 4 = M
 ·rw [cutV_of _ ([34] ++ p.1.data.toList ++ [34, 58, 32]) M (by omega) (by
   rw [cut_hi _ _ _ hfd (by omega), hpl, show M - (p.1.size + 4) = 0 from by omega, cut_zero, List.append_nil])]
  exact go _ (.full m6)
 have hnn : NN ((M : Int) - ((p.1.size : Int) + 4)) := .inr ⟨by omega, by omega⟩
 obtain ⟨y, tr, hy⟩ := cutV_parts ⟨(fL p.2).toArray⟩ ((M : Int) - ((p.1.size : Int) + 4))
 obtain ⟨hap, hys⟩ := cutV_app ([34] ++ p.1.data.toList ++ [34, 58, 32]) ⟨(fL p.2).toArray⟩ (M : Int) ((M : Int) - ((p.1.size : Int) + 4)) (by omega) (by omega) (by simpa using hfd) y tr hy
 have hap2 : cutV ⟨([34] ++ p.1.data.toList ++ [34, 58, 32] ++ fL p.2).toArray⟩ (M : Int) = .tuple #[.string ⟨([34] ++ p.1.data.toList ++ [34, 58, 32] ++ y.data.toList).toArray⟩, .bool tr] := hap
 have hval := hx.val _ hnn (o + (p.1.size + 2)) (c - (p.1.size + 2)) hrv (by omega) (by omega)
 rw [hy] at hval
 by_cases k2 : kf p.2 = 2
 ·obtain ⟨x, hok⟩ := hx.str k2 (o + (p.1.size + 2)) (c - (p.1.size + 2)) hrv (by omega) (by omega)
  rw [hap2]
  exact go _ (.str (by omega) k2 y (by omega) tr x (k2 ▸ hok) hval)
 by_cases k4 : kf p.2 = 4
 ·obtain ⟨X, n0, c0, hok, h51⟩ := hx.arr k4 (o + (p.1.size + 2)) (c - (p.1.size + 2)) hrv (by omega) (by omega)
  rw [hap2]
  exact go _ (.arr (by omega) k4 y (by omega) tr X n0 c0 (k4 ▸ hok) (hy ▸ h51 _ hnn))
 have hfull := valStr (kf p.2) _ _ _ w _ _ (hx.tx.val (o + (p.1.size + 2)) (c - (p.1.size + 2)) hrv (by omega) (by omega))
 by_cases hle : p.1.size + 4 + (fL p.2).length ≤ M
 ·have hV : cutV ⟨([34] ++ p.1.data.toList ++ [34, 58, 32] ++ fL p.2).toArray⟩ (M : Int) = .tuple #[.string ⟨([34] ++ p.1.data.toList ++ [34, 58, 32] ++ (⟨(fL p.2).toArray⟩ : ByteArray).data.toList).toArray⟩, .bool false] :=
   cutV_all _ _ (by omega) (by show (([34] ++ p.1.data.toList ++ [34, 58, 32] ++ fL p.2).toArray.size : Int) ≤ _; rw [List.size_toArray]; omega)
  rw [hV]
  exact go _ (.all (by omega) (by simpa using k2) (by simpa using k4) ⟨(fL p.2).toArray⟩ (by omega) hfull)
 ·rw [cutV_of _ ([34] ++ p.1.data.toList ++ [34, 58, 32] ++ cutL (⟨(fL p.2).toArray⟩ : ByteArray).data.toList (M - (p.1.size + 4))) M (by omega) (by
   rw [cut_hi _ _ _ hfd (by omega), hpl])]
  exact go _ (.less (by omega) (by simpa using k2) (by simpa using k4) ⟨(fL p.2).toArray⟩ hS (by omega) hfull)
structure AllC (g : Nat) (w : World) : Prop where
 kid : KidEnv kf f l g w
 len : ∀ p ∈ l, (f p.2).length ≤ 1000000 ∧ (fL p.2).length ≤ 1000000000
 tx : ∀ p ∈ l, TcK (kf p.2) (f p.2) (fL p.2) g w
 hd : ∀ p ∈ l, hdOk p.1.data.toList ∧ hdOk (fL p.2) ∧ 1 ≤ (fL p.2).length
theorem AllC.all {kf : K → Int} {f fL : K → List UInt8} {l : List (ByteArray × K)} {g : Nat} {w : World} (h : AllC kf f fL l g w) : AllEnv kf f fL l g w := ⟨h.kid, h.len, fun p hp => (h.tx p hp).tx⟩
theorem docTc (g o c : Nat) (w : World) (E : AllC kf f fL l g w) (hl : (docB kf f l).length ≤ 1000000) (hc : (docB kf f l).length ≤ c) (hcb : c ≤ 9223372036854775807) (hr : RD w g o (docB kf f l)) (hs : (sItems (loMem fL l)).length ≤ 1000000000) (M : Nat) (hM1 : 1 ≤ M) (hMb : M ≤ 100000) :
  Rd2 72 (.slice (some ⟨g, o, none⟩) (docB kf f l).length c) (.int .i64 (M : Int)) w (cutV ⟨(loDoc fL l).toArray⟩ M) := by
 have h5 : (docB kf f l).length = (bodyB kf f l).length + 5 := docW_len _
 have h := docC g o (docB kf f l).length c l.length (posB kf f l) (lenB kf f l) (loMem fL l) (fun i => ((l[i]?).map fun p => (⟨(meL p.1 (fL p.2)).toArray⟩ : ByteArray)).getD ⟨#[]⟩) w M hM1 hMb (by omega) (by omega) hc hcb (by simp [loMem]) (fun i hi => by
   obtain ⟨p, hp⟩ : ∃ p, l[i]? = some p := ⟨_, List.getElem?_eq_getElem hi⟩
   unfold loMem
   rw [List.getElem?_map]
   simp [hp]) (fun i hi => by
   obtain ⟨p, hp⟩ : ∃ p, l[i]? = some p := ⟨_, List.getElem?_eq_getElem hi⟩
   have hmem := List.mem_of_getElem? hp
   have h1 := item_le (loMem fL l) (meL p.1 (fL p.2)) (List.mem_map.2 ⟨p, hmem, rfl⟩)
   simp only [hp, Option.map_some, Option.getD_some]
   refine ⟨?_, ?_, hd_con (by decide)⟩
   ·show (meL p.1 (fL p.2)).toArray.size ≤ _
    rw [List.size_toArray]
    omega
   ·show 1 ≤ (meL p.1 (fL p.2)).toArray.size
    rw [List.size_toArray]
    simp [meL]) (kid_read kf f l g o c w E.kid hl hc hcb hr) (docLen kf f l g o c w hl hc hcb hr) (fun i hi m m1 m2 => by
   obtain ⟨p, hp⟩ : ∃ p, l[i]? = some p := ⟨_, List.getElem?_eq_getElem hi⟩
   have hmem := List.mem_of_getElem? hp
   obtain ⟨a1, a2, a3, a4, a5⟩ := elem_at kf f l g o c w hr i p hp
   obtain ⟨n0, n1, n2⟩ := E.kid.names p hmem
   obtain ⟨d1, d2, d3⟩ := E.hd p hmem
   obtain ⟨q, rfl⟩ : ∃ q : Nat, m = q := ⟨m.toNat, by omega⟩
   simp only [hp, Option.map_some, Option.getD_some]
   rw [a5]
   exact elTc kf f fL p g w n0 n1 n2 d1 (E.kid.kinds p hmem) (E.len p hmem).1 (E.len p hmem).2 d2 d3 (E.kid.vlen p hmem) (E.tx p hmem) (o + posB kf f l i) (c - posB kf f l i) a1.left (by omega) (by omega) q (by omega) (by omega))
 have e : loDoc fL l = brk 123 125 (loMem fL l) := by unfold loDoc brk; simp
 rw [e]
 exact h
theorem arrTc (g o c : Nat) (w : World) (E : AllC kf f fL l g w) (hl : (docB kf f l).length ≤ 1000000) (hc : (docB kf f l).length ≤ c) (hcb : c ≤ 9223372036854775807) (hr : RD w g o (docB kf f l)) (hs : (sItems (spItem fL l)).length ≤ 1000000000) (M : Nat) (hM1 : 1 ≤ M) (hMb : M ≤ 100000) :
  Rd2 51 (.slice (some ⟨g, o, none⟩) (docB kf f l).length c) (.int .i64 (M : Int)) w (cutV ⟨(spArr fL l).toArray⟩ M) := by
 have h5 : (docB kf f l).length = (bodyB kf f l).length + 5 := docW_len _
 have h := arrC g o (docB kf f l).length c l.length (posB kf f l) (lenB kf f l) (spItem fL l) (fun i => ((l[i]?).map fun p => (⟨(fL p.2).toArray⟩ : ByteArray)).getD ⟨#[]⟩) w M hM1 hMb (by omega) (by omega) hc hcb (by simp [spItem]) (fun i hi => by
   obtain ⟨p, hp⟩ : ∃ p, l[i]? = some p := ⟨_, List.getElem?_eq_getElem hi⟩
   unfold spItem
   rw [List.getElem?_map]
   simp [hp]) (fun i hi => by
   obtain ⟨p, hp⟩ : ∃ p, l[i]? = some p := ⟨_, List.getElem?_eq_getElem hi⟩
   have hmem := List.mem_of_getElem? hp
   simp only [hp, Option.map_some, Option.getD_some]
   obtain ⟨_, d2, d3⟩ := E.hd p hmem
   refine ⟨?_, ?_, by simpa using d2⟩
   ·show (fL p.2).toArray.size ≤ _
    rw [List.size_toArray]
    exact (E.len p hmem).2
   ·show 1 ≤ (fL p.2).toArray.size
    rw [List.size_toArray]
    exact d3) (kid_read kf f l g o c w E.kid hl hc hcb hr) (docLen kf f l g o c w hl hc hcb hr)
   (fun i => ((l[i]?).map fun p => kf p.2).getD 0) (fun i => some ⟨g, o + posB kf f l i + (((l[i]?).map fun p => p.1.size).getD 0 + 2), none⟩) (fun i => ((l[i]?).map fun p => (f p.2).length).getD 0) (fun i => c - posB kf f l i - (((l[i]?).map fun p => p.1.size).getD 0 + 2)) (fun i hi => by
   obtain ⟨p, hp⟩ : ∃ p, l[i]? = some p := ⟨_, List.getElem?_eq_getElem hi⟩
   have hmem := List.mem_of_getElem? hp
   obtain ⟨a1, a2, a3, a4, a5⟩ := elem_at kf f l g o c w hr i p hp
   obtain ⟨n0, n1, n2⟩ := E.kid.names p hmem
   have e1 : p.1.data.toList.length = p.1.size := Array.length_toList
   have el := elB_len (kf p.2) p.1 (f p.2)
   have hf := (E.len p hmem).1
   simp only [hp, Option.map_some, Option.getD_some]
   obtain ⟨q, hq⟩ : ∃ q, posB kf f l i = q := ⟨_, rfl⟩
   have hrE : RD w g (o + q) (elB (kf p.2) p.1 (f p.2)) := hq ▸ a1.left
   have hrv : RD w g (o + q + (p.1.size + 2)) (f p.2) := by
    have h1 : RD w g (o + q) ((u8 (kf p.2) :: (p.1.data.toList ++ [0])) ++ f p.2) := by
     have : elB (kf p.2) p.1 (f p.2) = (u8 (kf p.2) :: (p.1.data.toList ++ [0])) ++ f p.2 := by simp [elB]
     rw [← this]
     exact hrE
    have h2 := h1.right
    rw [show (u8 (kf p.2) :: (p.1.data.toList ++ [0])).length = p.1.size + 2 from by simp only [List.length_cons, List.length_append, List.length_nil]; omega] at h2
    exact h2
   rw [a5, el, hq]
   rw [hq, el] at a2
   have hvl := E.kid.vlen p hmem (o + q + (p.1.size + 2)) (c - q - (p.1.size + 2)) [] (by simpa using hrv) (by simp only [List.length_nil]; omega) (by omega)
   rw [show (f p.2).length + ([] : List UInt8).length = p.1.size + 2 + (f p.2).length - (p.1.size + 2) from by simp only [List.length_nil]; omega] at hvl
   refine ⟨?_, fun m m1 m2 => (E.tx p hmem).val m (.inr ⟨m1, by omega⟩) (o + q + (p.1.size + 2)) (c - q - (p.1.size + 2)) hrv (by omega) (by omega)⟩
   exact elemVal _ _ _ (kf p.2) _ _ _ w (valErr g (o + q) _ (c - q) p.1.size (f p.2).length (kf p.2) (u8 (kf p.2)) p.1.data.toList (f p.2) w (u8_val _ (E.kid.kinds p hmem)) e1 rfl rfl (by omega) (by omega) (by omega) n0 hrE hvl))
 have e : spArr fL l = brk 91 93 (spItem fL l) := by unfold spArr brk; simp
 rw [e]
 exact h
end
def As (l : List UInt8) : Prop := ∀ b ∈ l, b.toNat < 128
theorem As.app {a b : List UInt8} (ha : As a) (hb : As b) : As (a ++ b) := fun x hx => (List.mem_append.1 hx).elim (ha x) (hb x)
theorem As.con {x : UInt8} {b : List UInt8} (hx : x.toNat < 128) (hb : As b) : As (x :: b) := fun y hy => by
 rcases List.mem_cons.1 hy with rfl | h
 ·exact hx
 ·exact hb y h
theorem As.nil : As [] := fun x hx => by cases hx
theorem as_byte (n : Nat) (h : n < 128) : (UInt8.ofNat n).toNat < 128 := by rw [UInt8.toNat_ofNat']; omega
theorem as_dec (u : Nat) : As (Lib.decDigits u) := by
 induction u using Nat.strongRecOn with
 | _ u ih =>
  rw [Lib.decDigits]
  split
  ·exact .con (as_byte _ (by omega)) .nil
  ·exact (ih (u / 10) (by omega)).app (.con (as_byte _ (by omega)) .nil)
theorem as_itoa (n : Int) : As (Lib.itoa n) := by
 unfold Lib.itoa
 split
 ·exact .con (by decide) (as_dec _)
 ·exact as_dec _
theorem as_pad (C : Nat) : ∀ k, As (padD C k)
 | 0 => .nil
 | k + 1 => .con (as_byte _ (by omega)) (as_pad C k)
theorem as_fin (neg : Bool) (C : Nat) (e : Int) : As (decFin neg C e) := by
 unfold decFin
 refine As.app ?_ (As.app ?_ ?_)
 ·split
  ·exact .con (by decide) .nil
  ·exact .nil
 ·unfold decBody
  split
  ·show As (if C < 10 then _ else _)
   split
   ·exact as_dec _
   ·exact .con (as_byte _ (by omega)) (.con (by decide) (as_pad _ _))
  ·split
   ·exact as_dec _
   ·exact (as_dec _).app (.con (by decide) (as_pad _ _))
 ·unfold decExpT
  split
  ·exact As.app (.con (by decide) (.con (by decide) .nil)) (as_itoa _)
  ·split
   ·exact As.app (.con (by decide) .nil) (as_itoa _)
   ·exact .nil
theorem as_decT (h l : Nat) : As (decT h l) := by
 unfold decT
 split
 ·unfold As; decide
 ·split
  ·refine As.app ?_ (by unfold As; decide)
   split
   ·exact .con (by decide) .nil
   ·exact .nil
  ·split
   ·exact as_fin _ _ _
   ·exact as_fin _ _ _
theorem as_dbl (b : Nat) (hb : b < 18446744073709551616) : As (dblT b) := by
 unfold dblT
 split
 ·unfold As; decide
 ·rename_i h0
  split
  ·unfold As; decide
  ·rename_i h1
   split
   ·unfold As; decide
   ·rename_i h2
    have hf := fT_spec b hb (fin_exp b (by simpa using h0) (by simpa using h1) (by simpa using h2) hb)
    have ha : As (fT b) := fun c hc => numB_lt (hf.num c hc)
    split
    ·exact ha
    ·exact ha.app (by unfold As; decide)
theorem b6c_fin : ∀ k : Fin 64, (b6c k.val).toNat < 128 := by decide +kernel
theorem as_b6 : ∀ l : List UInt8, As (b6 l)
 | [] => .nil
 | [a] => by
  have h := fun n hn => b6c_fin ⟨n, hn⟩
  have ha := a.toNat_lt
  exact .con (h _ (by omega)) (.con (h _ (by omega)) (.con (by decide) (.con (by decide) .nil)))
 | [a, b] => by
  have h := fun n hn => b6c_fin ⟨n, hn⟩
  have ha := a.toNat_lt
  have hb := b.toNat_lt
  exact .con (h _ (by omega)) (.con (h _ (by omega)) (.con (h _ (by omega)) (.con (by decide) .nil)))
 | a :: b :: c :: t => by
  have h := fun n hn => b6c_fin ⟨n, hn⟩
  have ha := a.toNat_lt
  have hb := b.toNat_lt
  have hc := c.toNat_lt
  exact .con (h _ (by omega)) (.con (h _ (by omega)) (.con (h _ (by omega)) (.con (h _ (by omega)) (as_b6 t))))
theorem dig_fin : ∀ k : Fin 16, (Lib.Hx.digit k.val).toNat < 128 ∧ (hexd k.val).toNat < 128 := by decide +kernel
theorem as_hex (l : List UInt8) : As (hexB l).data.toList := by
 show As (Lib.Hx.encode l)
 induction l with
 | nil => exact .nil
 | cons a t ih =>
  have ha := a.toNat_lt
  rw [Lib.Hx.encode_cons]
  exact .con (dig_fin ⟨a.toNat / 16, by omega⟩).1 (.con (dig_fin ⟨a.toNat % 16, by omega⟩).1 ih)
theorem as_hex2 (m : Nat) (h : m < 256) : As (hex2B m).data.toList := .con (dig_fin ⟨m / 16, by omega⟩).2 (.con (dig_fin ⟨m % 16, by omega⟩).2 .nil)
theorem as_bool (b : Bool) : As (Lib.formatBool b) := by cases b <;> (unfold As; decide +kernel)
theorem step_vu (s : ByteArray) (i : Nat) (h : i < s.size) (hu : 1 ≤ (xrA s i).1) : VU (sstep true s i).1 := by
 have hr := xrA_L s i
 obtain ⟨q, hq⟩ : ∃ q, xrA s i = q := ⟨_, rfl⟩
 rw [hq] at hu hr
 obtain ⟨k, c⟩ := q
 have hrn := (rn_of _ k c hr.symm hu).1
 unfold sstep
 rw [hq]
 simp only
 split
 ·exact VU.asc _ (As.con (by decide) (.con (as_byte _ (by omega)) .nil))
 ·split
  ·refine VU.asc _ (As.con (by decide) (.con ?_ .nil))
   unfold esLet
   repeat' split
   all_goals decide
  ·split
   ·have hc : c < 128 := by omega
    exact VU.asc _ (As.con (by decide) (.con (by decide) (.con (by decide) (.con (by decide) (.con (dig_fin ⟨c / 16, by omega⟩).2 (.con (dig_fin ⟨c % 16, by omega⟩).2 .nil))))))
   ·split
    ·exact VU.asc _ (As.con (by decide) (.con (by decide) (.con (by decide) (.con (by decide) (.con (by decide) (.con (as_byte _ (by omega)) .nil))))))
    ·have := VU.cons _ [] hrn .nil
     rwa [List.append_nil] at this
theorem sfrom_vu (s : ByteArray) : ∀ f i, u8At s f i → VU (sfrom true s f i)
 | 0, i, _ => .nil
 | f + 1, i, h => by
  unfold sfrom
  split
  ·rename_i hlt
   obtain ⟨h1, h2⟩ : 1 ≤ (xrA s i).1 ∧ u8At s f (i + (xrA s i).1) := h.resolve_left (by omega)
   exact (step_vu s i hlt h1).append (sfrom_vu s f _ h2)
  ·exact .nil
theorem sout_vu (s : ByteArray) (h : UT s) : VU (sout true s) := by
 unfold sout
 exact .one _ (by decide) ((sfrom_vu s _ _ h).append (VU.asc _ (by decide)))
theorem items_vu : ∀ (l : List (List UInt8)), (∀ x ∈ l, VU x) → VU (sItems l)
 | [], _ => .nil
 | [x], h => by simpa [sItems] using h x (by simp)
 | x :: y :: l, h => by
  have := items_vu (y :: l) (fun z hz => h z (by simp [hz]))
  show VU (x ++ 44 :: sItems (y :: l))
  exact (h x (by simp)).append (.one _ (by decide) this)
theorem loR_vu {K : Type} (fk : K → Prop) (f : K → List UInt8) (t : VR K) (hO : OkR fk t) (h : ∀ k, fk k → VU (f k)) : VU (loR f t) ∧ 1 ≤ (loR f t).length := by
 have hk := hO.kind
 have hbits := hO.bits
 have hn : (t.n % 256).toNat < 256 := by omega
 have hkd := hO.kids
 have hd : t.kind = 3 → VU (loDoc f t.kids) := fun hk => by
  unfold loDoc
  refine .one _ (by decide) ((items_vu _ (fun x hx => ?_)).append (VU.asc _ (by decide)))
  obtain ⟨p, hp, rfl⟩ := List.mem_map.1 hx
  obtain ⟨_, h2, _, _, _, h6⟩ := hkd (.inl hk) p hp
  unfold meL
  exact .one _ (by decide) ((h2.vu.append (VU.asc _ (by decide))).append (h _ h6))
 have ha : t.kind = 4 → VU (spArr f t.kids) := fun hk => by
  unfold spArr
  refine .one _ (by decide) ((items_vu _ (fun x hx => ?_)).append (VU.asc _ (by decide)))
  obtain ⟨p, hp, rfl⟩ := List.mem_map.1 hx
  obtain ⟨_, _, _, _, _, h6⟩ := hkd (.inr hk) p hp
  exact h _ h6
 have hcase : t.kind = 1 ∨ t.kind = 2 ∨ t.kind = 3 ∨ t.kind = 4 ∨ t.kind = 5 ∨ t.kind = 6 ∨ t.kind = 7 ∨ t.kind = 8 ∨ t.kind = 9 ∨ t.kind = 10 ∨ t.kind = 11 ∨ t.kind = 12 ∨ t.kind = 13 ∨ t.kind = 14 ∨ t.kind = 16 ∨ t.kind = 17 ∨ t.kind = 18 ∨ t.kind = 19 ∨ t.kind = 127 ∨ t.kind = 255 := by omega
 have hA : ∀ x : List UInt8, As x → VU x := fun x h => VU.asc x h
 have hs1 := sout_vu _ hO.text.2
 have hs2 := sout_vu _ hO.more.2
 unfold loR spR
 rcases hcase with e | e | e | e | e | e | e | e | e | e | e | e | e | e | e | e | e | e | e | e
 all_goals
  simp only [e, Int.reduceEq, reduceIte]
  refine ⟨?_, ?_⟩
 all_goals first
  | exact hd e
  | exact ha e
  | exact hs1
  | exact hA _ (as_bool _)
  | exact hA _ (by unfold As; decide)
  | exact ((hA _ (by unfold As; decide)).append (hA _ (as_dbl _ hbits))).append (hA _ (by unfold As; decide))
  | exact ((((hA _ (by unfold As; decide)).append (hA _ (as_b6 _))).append (hA _ (by unfold As; decide))).append (hA _ (as_hex2 _ hn))).append (hA _ (by unfold As; decide))
  | exact ((hA _ (by unfold As; decide)).append (hA _ (as_hex _))).append (hA _ (by unfold As; decide))
  | exact ((hA _ (by unfold As; decide)).append (hA _ (as_itoa _))).append (hA _ (by unfold As; decide))
  | exact ((hA _ (by unfold As; decide)).append (hA _ (as_decT _ _))).append (hA _ (by unfold As; decide))
  | exact ((((hA _ (by unfold As; decide)).append hs1).append (hA _ (by unfold As; decide))).append hs2).append (hA _ (by unfold As; decide))
  | exact ((((hA _ (by unfold As; decide)).append hs1).append (hA _ (by unfold As; decide))).append (hA _ (as_hex _))).append (hA _ (by unfold As; decide))
  | exact ((hA _ (by unfold As; decide)).append hs1).append (hA _ (by unfold As; decide))
  | exact ((((hA _ (by unfold As; decide)).append (hA _ (as_dec _))).append (hA _ (by unfold As; decide))).append (hA _ (as_dec _))).append (hA _ (by unfold As; decide))
  | (simp [sout, loDoc, spArr]; done)
  | (cases decide (t.n = 1) <;> decide +kernel)
theorem loV_vu : ∀ (d : Nat) (t : VT d), OkV d t → VU (loV d t) ∧ 1 ≤ (loV d t).length
 | 0, t, _ => t.elim
 | d + 1, t, hO => loR_vu (OkV d) (loV d) t hO (fun k hk => (loV_vu d k hk).1)
theorem NN.n {nn : Int} (h : NN nn) : nn = -1 ∨ 1 ≤ nn := h.imp id (·.1)
def TcAt (d : Nat) : Prop := ∀ (t : VT d), OkV d t → (valB d t).length ≤ 1000000 → (loV d t).length ≤ 1000000000 → ∀ (g : Nat) (w : World), TabX w → 17 ≤ w.heap.size → TcK (kindV d t) (valB d t) (loV d t) g w
theorem allC {d : Nat} (IH : TcAt d) (l : List (ByteArray × VT d)) (hk : ∀ p ∈ l, p.1.size ≤ 300 ∧ UT p.1 ∧ p.1.size ≠ 0 ∧ 0 ∉ p.1.data.toList ∧ sout true p.1 = 34 :: (p.1.data.toList ++ [34]) ∧ OkV d p.2) (hl : ∀ p ∈ l, (valB d p.2).length ≤ 1000000) (hlo : ∀ p ∈ l, (loV d p.2).length ≤ 1000000000) (g : Nat) (w : World) (hT : TabX w) (h17 : 17 ≤ w.heap.size) : AllC (kindV d) (valB d) (loV d) l g w :=
 ⟨⟨fun p hp => ⟨(hk p hp).2.2.2.1, (hk p hp).2.2.1, (hk p hp).1⟩, fun p hp => kindV_u8 d p.2 (hk p hp).2.2.2.2.2, fun p hp o c r hr hc hcb => vlenV d p.2 (hk p hp).2.2.2.2.2 (hl p hp) g o c r w hr hc hcb⟩, fun p hp => ⟨hl p hp, hlo p hp⟩, fun p hp => IH p.2 (hk p hp).2.2.2.2.2 (hl p hp) (hlo p hp) g w hT h17, fun p hp => ⟨(hk p hp).2.1.vu.hd, (loV_vu d p.2 (hk p hp).2.2.2.2.2).1.hd, (loV_vu d p.2 (hk p hp).2.2.2.2.2).2⟩⟩
theorem tc_step (d : Nat) (IH : TcAt d) : TcAt (d + 1) := by
 intro t hO hl hlo g w hT h17
 obtain ⟨kind, text, more, n, bits, high, b, kids⟩ := t
 have hO' : OkR (OkV d) ⟨kind, text, more, n, bits, high, b, kids⟩ := hO
 have hl' : (valR (kindV d) (valB d) ⟨kind, text, more, n, bits, high, b, kids⟩).length ≤ 1000000 := hl
 have hlo' : (loR (loV d) ⟨kind, text, more, n, bits, high, b, kids⟩).length ≤ 1000000000 := hlo
 have hft := hO'.text
 have hfm := hO'.more
 have hfb := hO'.b
 have hri := hO'.rising
 have hkd := hO'.kind
 have hbin := hO'.bin
 have hid := hO'.id
 have hbool := hO'.bool
 have hi32 := hO'.i32
 have hdbl := hO'.dbl
 have hn := hO'.n
 have hbits := hO'.bits
 have hhigh := hO'.high
 have hre := hO'.re
 have hkk := hO'.kids
 clear hO hO' hl hlo
 simp only at hft hfm hfb hri hkd hbin hid hbool hi32 hdbl hn hbits hhigh hre hkk
 show TcK kind (valR (kindV d) (valB d) ⟨kind, text, more, n, bits, high, b, kids⟩) (loR (loV d) ⟨kind, text, more, n, bits, high, b, kids⟩) g w
 have hcase : kind = 1 ∨ kind = 2 ∨ kind = 3 ∨ kind = 4 ∨ kind = 5 ∨ kind = 6 ∨ kind = 7 ∨ kind = 8 ∨ kind = 9 ∨ kind = 10 ∨ kind = 11 ∨ kind = 12 ∨ kind = 13 ∨ kind = 14 ∨ kind = 16 ∨ kind = 17 ∨ kind = 18 ∨ kind = 19 ∨ kind = 127 ∨ kind = 255 := by omega
 rcases hcase with rfl | rfl | rfl | rfl | rfl | rfl | rfl | rfl | rfl | rfl | rfl | rfl | rfl | rfl | rfl | rfl | rfl | rfl | rfl | rfl
 ·exact ⟨fun nn hN o c hr hc hcb => tc_1 (loV d) text more n bits high b kids g o c w nn hN.n hbits (hdbl rfl) hc hcb hr hT.c h17, fun h => (by cases h), fun h => (by cases h)⟩
 ·refine ⟨fun nn hN o c hr hc hcb => ?_, fun _ o c hr hc hcb => ?_, fun h => (by cases h)⟩
  ·change RD w g o (txB text) at hr
   change (txB text).length < c at hc
   rw [txB_len] at hc
   have h := tc_2 (loV d) text more n bits high b kids g o c w nn hN.n hft.1 hft.2 hc hcb hr hT h17
   rw [← txB_len] at h
   exact h
  ·change RD w g o (txB text) at hr
   change (txB text).length < c at hc
   rw [txB_len] at hc
   have h := tv_2ok text g o c w hft.1 hc hcb hr
   rw [← txB_len] at h
   exact ⟨text, h⟩
 ·have hlo2 : (loDoc (loV d) kids).length ≤ 1000000000 := hlo'
  have hl2 : (docB (kindV d) (valB d) kids).length ≤ 1000000 := hl'
  have hl3 : (bodyB (kindV d) (valB d) kids).length ≤ 1000000 := by unfold docB at hl2; rw [docW_len] at hl2; omega
  have hs : (sItems (loMem (loV d) kids)).length ≤ 1000000000 := by unfold loDoc at hlo2; simp only [List.length_cons, List.length_append] at hlo2; omega
  have E := allC IH kids (hkk (.inl rfl)) (fun p hp => Nat.le_trans (body_item_le _ _ kids p hp) hl3) (fun p hp => Nat.le_trans (lo_item_le _ kids p hp) hs) g w hT h17
  refine ⟨fun nn hN o c hr hc hcb => ?_, fun h => (by cases h), fun h => (by cases h)⟩
  have h111 := ok111 _ _ _ _ _ _ _ _ _ w (hand174 _ _ _ _ _ _ _ _ _ w (docRow (kindV d) (valB d) kids g o c w hl2 hc hcb hr))
  rcases hN with rfl | ⟨h1, h2⟩
  ·rw [cutV_neg]
   exact val3 (-1) _ _ _ _ _ _ w _ false h111 (docTx (kindV d) (valB d) (loV d) kids g o c w E.all hl2 (Nat.le_of_lt hc) hcb hr hs)
  ·obtain ⟨M, rfl⟩ : ∃ M : Nat, nn = M := ⟨nn.toNat, by omega⟩
   exact val3 (M : Int) _ _ _ _ _ _ w _ _ h111 (docTc (kindV d) (valB d) (loV d) kids g o c w E hl2 (Nat.le_of_lt hc) hcb hr hs M (by omega) (by omega))
 ·have hlo2 : (spArr (loV d) kids).length ≤ 1000000000 := hlo'
  have hl2 : (docB (kindV d) (valB d) kids).length ≤ 1000000 := hl'
  have hl3 : (bodyB (kindV d) (valB d) kids).length ≤ 1000000 := by unfold docB at hl2; rw [docW_len] at hl2; omega
  have hs : (sItems (spItem (loV d) kids)).length ≤ 1000000000 := by unfold spArr at hlo2; simp only [List.length_cons, List.length_append] at hlo2; omega
  have E := allC IH kids (hkk (.inr rfl)) (fun p hp => Nat.le_trans (body_item_le _ _ kids p hp) hl3) (fun p hp => Nat.le_trans (arr_item_le _ kids p hp) hs) g w hT h17
  have hok := fun o c (hr : RD w g o (docB (kindV d) (valB d) kids)) hc hcb => ok112 _ _ _ _ _ _ _ _ _ w (hand175 _ _ _ _ _ _ _ _ _ w (docRow (kindV d) (valB d) kids g o c w hl2 hc hcb hr))
  have h51 := fun nn (hN : NN nn) o c (hr : RD w g o (docB (kindV d) (valB d) kids)) (hc : (docB (kindV d) (valB d) kids).length ≤ c) (hcb : c ≤ 9223372036854775807) => (show Rd2 51 (.slice (some ⟨g, o, none⟩) (docB (kindV d) (valB d) kids).length c) (.int .i64 nn) w (cutV ⟨(spArr (loV d) kids).toArray⟩ nn) from by
   rcases hN with rfl | ⟨h1, h2⟩
   ·rw [cutV_neg]
    exact arrTx (kindV d) (valB d) (loV d) kids g o c w E.all hl2 hc hcb hr hs
   ·obtain ⟨M, rfl⟩ : ∃ M : Nat, nn = M := ⟨nn.toNat, by omega⟩
    exact arrTc (kindV d) (valB d) (loV d) kids g o c w E hl2 hc hcb hr hs M (by omega) (by omega))
  exact ⟨fun nn hN o c hr hc hcb => val4 nn _ _ _ _ _ _ w _ _ (hok o c hr hc hcb) (h51 nn hN o c hr (Nat.le_of_lt hc) hcb), fun h => (by cases h), fun _ o c hr hc hcb => ⟨_, _, _, hok o c hr hc hcb, fun nn hN => h51 nn hN o c hr (Nat.le_of_lt hc) hcb⟩⟩
 ·exact ⟨fun nn hN o c hr hc hcb => tc_5 (loV d) text more n bits high b kids g o c w nn hN.n (hbin rfl) hfb hc hcb hr, fun h => (by cases h), fun h => (by cases h)⟩
 ·exact ⟨fun nn hN o c hr hc hcb => tc_6 (loV d) text more n bits high b kids g o c w nn hN.n hc, fun h => (by cases h), fun h => (by cases h)⟩
 ·have h12 := hid (.inl rfl)
  refine ⟨fun nn hN o c hr hc hcb => ?_, fun h => (by cases h), fun h => (by cases h)⟩
  change RD w g o b at hr
  change b.length < c at hc
  rw [h12] at hc
  have h := tc_7 (loV d) text more n bits high b kids g o c w nn hN.n h12 hc hcb hr
  rw [← h12] at h
  exact h
 ·exact ⟨fun nn hN o c hr hc hcb => tc_8 (loV d) text more n bits high b kids g o c w nn hN.n (hbool rfl) hc hcb hr, fun h => (by cases h), fun h => (by cases h)⟩
 ·exact ⟨fun nn hN o c hr hc hcb => tc_9 (loV d) text more n bits high b kids g o c w nn hN.n hn hc hcb hr hT.c h17, fun h => (by cases h), fun h => (by cases h)⟩
 ·exact ⟨fun nn hN o c hr hc hcb => tc_10 (loV d) text more n bits high b kids g o c w nn hN.n hc, fun h => (by cases h), fun h => (by cases h)⟩
 ·have e3 : (text.data.toList ++ 0 :: (more.data.toList ++ [0])).length = text.size + 1 + (more.size + 1) := by
   have e1 : text.data.toList.length = text.size := Array.length_toList
   have e2 : more.data.toList.length = more.size := Array.length_toList
   simp only [List.length_append, List.length_cons, List.length_nil]; omega
  refine ⟨fun nn hN o c hr hc hcb => ?_, fun h => (by cases h), fun h => (by cases h)⟩
  change RD w g o (text.data.toList ++ 0 :: (more.data.toList ++ [0])) at hr
  change (text.data.toList ++ 0 :: (more.data.toList ++ [0])).length < c at hc
  rw [e3] at hc
  have h := tc_11 (loV d) text more n bits high b kids g o c w nn hN.n hft.1 hft.2 hfm.1 (hri rfl) (hre rfl).1 (hre rfl).2 hc hcb hr hT h17
  rw [← e3] at h
  exact h
 ·have h12 := hid (.inr rfl)
  have e3 : (txB text ++ b).length = text.size + 17 := by rw [List.length_append, txB_len]; omega
  refine ⟨fun nn hN o c hr hc hcb => ?_, fun h => (by cases h), fun h => (by cases h)⟩
  change RD w g o (txB text ++ b) at hr
  change (txB text ++ b).length < c at hc
  rw [e3] at hc
  have h := tc_12 (loV d) text more n bits high b kids g o c w nn hN.n hft.1 hft.2 h12 hc hcb hr hT h17
  rw [← e3] at h
  exact h
 ·refine ⟨fun nn hN o c hr hc hcb => ?_, fun h => (by cases h), fun h => (by cases h)⟩
  change RD w g o (txB text) at hr
  change (txB text).length < c at hc
  rw [txB_len] at hc
  have h := tc_13 (loV d) text more n bits high b kids g o c w nn hN.n hft.1 hft.2 hc hcb hr hT h17
  rw [← txB_len] at h
  exact h
 ·refine ⟨fun nn hN o c hr hc hcb => ?_, fun h => (by cases h), fun h => (by cases h)⟩
  change RD w g o (txB text) at hr
  change (txB text).length < c at hc
  rw [txB_len] at hc
  have h := tc_14 (loV d) text more n bits high b kids g o c w nn hN.n hft.1 hft.2 hc hcb hr hT h17
  rw [← txB_len] at h
  exact h
 ·exact ⟨fun nn hN o c hr hc hcb => tc_16 (loV d) text more n bits high b kids g o c w nn hN.n (hi32 rfl) hc hcb hr hT.c h17, fun h => (by cases h), fun h => (by cases h)⟩
 ·exact ⟨fun nn hN o c hr hc hcb => tc_17 (loV d) text more n bits high b kids g o c w nn hN.n hbits hc hcb hr hT.c h17, fun h => (by cases h), fun h => (by cases h)⟩
 ·exact ⟨fun nn hN o c hr hc hcb => tc_18 (loV d) text more n bits high b kids g o c w nn hN.n hn hc hcb hr hT.c h17, fun h => (by cases h), fun h => (by cases h)⟩
 ·exact ⟨fun nn hN o c hr hc hcb => tc_19 (loV d) text more n bits high b kids g o c w nn hN.n hbits hhigh hc hcb hr hT.c h17, fun h => (by cases h), fun h => (by cases h)⟩
 ·exact ⟨fun nn hN o c hr hc hcb => tc_127 (loV d) text more n bits high b kids g o c w nn hN.n hc, fun h => (by cases h), fun h => (by cases h)⟩
 ·exact ⟨fun nn hN o c hr hc hcb => tc_255 (loV d) text more n bits high b kids g o c w nn hN.n hc, fun h => (by cases h), fun h => (by cases h)⟩
theorem tc_all : ∀ d, TcAt d
 | 0 => fun t => t.elim
 | d + 1 => tc_step d (tc_all d)
theorem arr_zero (g o n c : Nat) (w : World) (hn : 5 ≤ n) (hnb : n ≤ 1000000000) (hlen : Rd 73 (.slice (some ⟨g, o, none⟩) n c) w (.tuple #[.int .i32 (n : Int), .slice (some ⟨g, o + 4, none⟩) (n - 4) (c - 4), .bool true])) : Rd2 51 (.slice (some ⟨g, o, none⟩) n c) (.int .i64 ((0 : Nat) : Int)) w (.tuple #[.string ⟨#[]⟩, .bool true]) := by
 intro W hW
 have HL := LH (hlen W hW)
 clear hlen hW
 show Calls Tryz.prog 51 #[.slice (some ⟨g, o, none⟩) n c, .int .i64 0] W _
 go_enter Tryz.func51, Tryz.ntmps51
 go_wp2_with (go_at_call 73; refine HL.out.mono ?_; rintro e0 W1 ⟨rfl, hb0⟩)
 go_ret2
 exact ⟨rfl, hb0⟩
theorem texts_arr (w0 : World) (d : Nat) (t : VT d) (k : Int) (tx mr : ByteArray) (n : Int) (b h : Nat) (A1 A2 : Option Addr) (n1 c1 n2 c2 : Nat) (hk4 : k = 4)
  (hv : IsV w0 d t [.int .i64 k, .string tx, .string mr, .int .i64 n, .int .u64 (b : Int), .int .u64 (h : Int), .slice A1 n1 c1, .slice A2 n2 c2]) (hF : Fits d t) (hL : LongV d t) (hT : TabC w0) (h17 : 17 ≤ w0.heap.size) :
  ∃ (D : List UInt8) (S : ByteArray), S.size ≤ 3000000 ∧ 5 ≤ D.length ∧ VU S.data.toList ∧
   (∀ W, Below w0.heap.size w0 W → Calls Tryz.prog 17 #[valV k tx mr n b h (.slice A1 n1 c1) (.slice A2 n2 c2)] W (ObPost W.heap.size D W)) ∧
   (∀ W, Below w0.heap.size w0 W → Calls Tryz.prog 15 #[valV k tx mr n b h (.slice A1 n1 c1) (.slice A2 n2 c2)] W fun e w' => e = .returned (.string S) ∧ Below W.heap.size W w') ∧
   (∀ (g o c : Nat) (w : World), RD w g o D → D.length ≤ c → c ≤ 9223372036854775807 → TabX w → 17 ≤ w.heap.size → ∀ nn, (nn = -1 ∨ (0 ≤ nn ∧ nn ≤ 100000)) → Rd2 51 (.slice (some ⟨g, o, none⟩) D.length c) (.int .i64 nn) w (cutV S nn)) := by
 cases d with
 | zero => exact t.elim
 | succ d =>
  obtain ⟨hfd, hcnt, hrb⟩ := hF
  have hR := rightB_right (d + 1) t 200 hrb
  have hFV := hfd.fit
  have hOk := okV_of w0 (d + 1) t _ 200 hv hFV hrb hL
  have hlo := loV_len w0 (d + 1) t _ hv hFV hR
  have hva := valB_len2 (d + 1) t hFV hR
  have hvu := (loV_vu (d + 1) t hOk).1
  have hdv := docVal_at w0 (d + 1) t _ hv hFV hR hL (by omega)
  have h15 := longVal_at w0 hT h17 (d + 1) t _ hv hFV hR hL (by omega)
  obtain ⟨kind, text, more, n', bits, high, b', kids⟩ := t
  obtain ⟨bv, kv, e, hk, hn, hbits, hhigh, hts, hms, ⟨A1', c1', rfl, hc1, hc1b, hrb'⟩, hkv⟩ := id hv
  obtain ⟨A2', c2', rfl, hc2, hc2b, hkr⟩ := id hkv
  have hOk' : OkR (OkV d) ⟨kind, text, more, n', bits, high, b', kids⟩ := hOk
  have hR' : RightR (RightV d) ⟨kind, text, more, n', bits, high, b', kids⟩ := hR
  have hF' : FitR (FitV d) ⟨kind, text, more, n', bits, high, b', kids⟩ := hFV
  have hL' : LongR (LongV d) ⟨kind, text, more, n', bits, high, b', kids⟩ := hL
  simp only [List.cons.injEq, Value.int.injEq, Value.slice.injEq, and_true, true_and] at e
  obtain ⟨e1, _, _, _, _, _, _, rfl, rfl, rfl⟩ := e
  obtain rfl : kind = 4 := by omega
  have hva2 : (docB (kindV d) (valB d) kids).length + 310 ≤ 1000 * cntV (d + 1) ⟨4, text, more, n', bits, high, b', kids⟩ := hva
  have hlo2 : (spArr (loV d) kids).length + 2000 ≤ 8000 * cntV (d + 1) ⟨4, text, more, n', bits, high, b', kids⟩ := hlo
  have hl2 : (docB (kindV d) (valB d) kids).length ≤ 1000000 := by omega
  have hl3 : (bodyB (kindV d) (valB d) kids).length ≤ 1000000 := by unfold docB at hl2; rw [docW_len] at hl2; omega
  have hs : (sItems (spItem (loV d) kids)).length ≤ 1000000000 := by unfold spArr at hlo2; simp only [List.length_cons, List.length_append] at hlo2; omega
  have E := fun g w (hTX : TabX w) (h17' : 17 ≤ w.heap.size) => allC (tc_all d) kids (hOk'.kids (.inr rfl)) (fun p hp => Nat.le_trans (body_item_le _ _ kids p hp) hl3) (fun p hp => Nat.le_trans (arr_item_le _ kids p hp) hs) g w hTX h17'
  refine ⟨docB (kindV d) (valB d) kids, ⟨(spArr (loV d) kids).toArray⟩, ?_, ?_, hvu, fun W hW => hdv W hW, fun W hW => h15 W hW, fun g o c w hr hc hcb hTX h17' nn hnn => ?_⟩
  ·show (spArr (loV d) kids).toArray.size ≤ _
   rw [List.size_toArray]
   omega
  ·unfold docB
   rw [docW_len]
   omega
  ·rcases hnn with rfl | ⟨h0, h1⟩
   ·rw [cutV_neg]
    exact arrTx (kindV d) (valB d) (loV d) kids g o c w (E g w hTX h17').all hl2 hc hcb hr hs
   ·obtain ⟨M, rfl⟩ : ∃ M : Nat, nn = M := ⟨nn.toNat, by omega⟩
    by_cases hM : M = 0
    ·subst hM
     have hz := arr_zero g o (docB (kindV d) (valB d) kids).length c w (by unfold docB; rw [docW_len]; omega) (by omega) (docLen (kindV d) (valB d) kids g o c w hl2 hc hcb hr)
     have e : cutV ⟨(spArr (loV d) kids).toArray⟩ ((0 : Nat) : Int) = .tuple #[.string ⟨#[]⟩, .bool true] := cutV_of _ [] 0 (by unfold spArr; simp) (cut_zero _)
     rw [e]
     exact hz
    ·exact arrTc (kindV d) (valB d) (loV d) kids g o c w (E g w hTX h17') hl2 hc hcb hr hs M (by omega) (by omega)
def DocPostT (W : World) (e : Ending) (w' : World) : Prop := ∃ (tx mr : ByteArray) (n : Int) (b h : Nat) (A1 A2 : Option Addr) (n1 c1 n2 c2 : Nat) (d : Nat) (t : VT d),
 e = .returned (.agg #[.int .i64 3, .string tx, .string mr, .int .i64 n, .int .u64 (b : Int), .int .u64 (h : Int), .slice A1 n1 c1, .slice A2 n2 c2]) ∧
 IsV w' d t [.int .i64 3, .string tx, .string mr, .int .i64 n, .int .u64 (b : Int), .int .u64 (h : Int), .slice A1 n1 c1, .slice A2 n2 c2] ∧ Below W.heap.size W w'
theorem OB.rd {B : Nat} {v : Value} {l : List UInt8} {W0 w : World} (h : OB B v l W0 w) (hl : 0 < l.length) : ∃ g c, v = .slice (some ⟨g, 0, none⟩) l.length c ∧ l.length ≤ c ∧ c ≤ 9223372036854775807 ∧ RD w g 0 l := by
 obtain ⟨h1, h2⟩ := h.1.1
 rcases h2 with ⟨rfl, hn⟩ | ⟨k, cap, cur, fr, rfl, hg, hh, hfz, hcap, hm, hsz, htake⟩
 ·omega
 ·refine ⟨k, cap, rfl, hcap, by unfold maxLen at hm; omega, fun i b hi => ?_⟩
  have hi' : i < l.length := (List.getElem?_eq_some_iff.1 hi).1
  rw [Nat.zero_add, blk_cell hh]
  have h3 : (cur.toList.take (l.length * 1))[i]? = (Lib.byteCells l)[i]? := by rw [htake]
  rw [List.getElem?_take, if_pos (by omega), Array.getElem?_toList] at h3
  rw [h3]
  simp [Lib.byteCells, hi]
set_option maxHeartbeats 8000000
theorem text52 (A : Option Addr) (n c : Nat) (S : ByteArray) (w : World) (h : Rd2 51 (.slice A n c) (.int .i64 (-1)) w (.tuple #[.string S, .bool false])) : Rd 52 (.slice A n c) w (.string S) := by
 intro W hW
 have HC := LH (h W hW)
 clear h hW
 go_enter Tryz.func52, Tryz.ntmps52
 go_wp2_with (go_at_call 51; refine HC.out.mono ?_; rintro e w1 ⟨rfl, hb1⟩)
 go_ret
 exact ⟨rfl, hb1⟩
theorem text19 (A : Option Addr) (n c : Nat) (S : ByteArray) (w : World) (h : Rd 52 (.slice A n c) w (.string S)) : Rd 19 (.slice A n c) w (.string S) := by
 intro W hW
 have HC := LH (h W hW)
 clear h hW
 go_enter Tryz.func19, Tryz.ntmps19
 go_wp2_with (go_at_call 52; refine HC.out.mono ?_; rintro e w1 ⟨rfl, hb1⟩)
 go_ret
 exact ⟨rfl, hb1⟩
theorem text18 (A : Option Addr) (n c : Nat) (nn : Int) (S : ByteArray) (tr : Bool) (w : World) (h : Rd2 51 (.slice A n c) (.int .i64 nn) w (.tuple #[.string S, .bool tr])) : Rd2 18 (.slice A n c) (.int .i64 nn) w (.tuple #[.string S, .bool tr]) := by
 intro W hW
 have HC := LH (h W hW)
 clear h hW
 go_enter Tryz.func18, Tryz.ntmps18
 go_wp2_with (go_at_call 51; refine HC.out.mono ?_; rintro e w1 ⟨rfl, hb1⟩)
 go_ret2
 exact ⟨rfl, hb1⟩
structure ArrIn (W w1 Y : World) (p : Nat) (d : Nat) (t : VT d) (tx mr : ByteArray) (n : Int) (b h : Nat) (A1 A2 : Option Addr) (n1 c1 n2 c2 : Nat) : Prop where
 below : Below W.heap.size W Y
 up : Below w1.heap.size w1 Y
 box : ∀ V, Below Y.heap.size Y V → ∀ i v, (#[.int .i64 4, .string tx, .string mr, .int .i64 n, .int .u64 (b : Int), .int .u64 (h : Int), .slice A1 n1 c1, .slice A2 n2 c2] : Array Value)[i]? = some v → V.cell? ⟨p, i, none⟩ = some v
 isv : IsV Y d t [.int .i64 4, .string tx, .string mr, .int .i64 n, .int .u64 (b : Int), .int .u64 (h : Int), .slice A1 n1 c1, .slice A2 n2 c2]
theorem arrIn_wrap (W w1 : World) (hb : Below W.heap.size W w1) (d : Nat) (t : VT d) (k : Int) (tx mr : ByteArray) (n : Int) (b h : Nat) (A1 A2 : Option Addr) (n1 c1 n2 c2 : Nat)
  (hv : IsV W d t [.int .i64 k, .string tx, .string mr, .int .i64 n, .int .u64 (b : Int), .int .u64 (h : Int), .slice A1 n1 c1, .slice A2 n2 c2]) :
  ∃ Y, ((w1.alloc (.cells #[.int .i64 4, .string ⟨#[]⟩, .string ⟨#[]⟩, .int .i64 0, .int .u64 0, .int .u64 0, .slice none 0 0, .slice (some ⟨w1.heap.size + 1, 0, none⟩) 1 1] 26)).alloc (.cells #[.string ⟨#[48]⟩, .int .i64 k, .string tx, .string mr, .int .i64 n, .int .u64 (b : Int), .int .u64 (h : Int), .slice A1 n1 c1, .slice A2 n2 c2] 38)) = Y ∧
   ArrIn W w1 Y w1.heap.size (d + 1) (⟨4, ⟨#[]⟩, ⟨#[]⟩, 0, 0, 0, [], [(⟨#[48]⟩, t)]⟩ : VR (VT d)) ⟨#[]⟩ ⟨#[]⟩ 0 0 0 none (some ⟨w1.heap.size + 1, 0, none⟩) 0 0 1 1 := by
 obtain ⟨Z, hZ, hZb, hZs, hZc⟩ := box_cells w1 4 ⟨#[]⟩ ⟨#[]⟩ 0 0 0 (.slice none 0 0) (.slice (some ⟨w1.heap.size + 1, 0, none⟩) 1 1)
 have hZ' : w1.alloc (.cells #[.int .i64 4, .string ⟨#[]⟩, .string ⟨#[]⟩, .int .i64 0, .int .u64 0, .int .u64 0, .slice none 0 0, .slice (some ⟨w1.heap.size + 1, 0, none⟩) 1 1] 26) = Z := hZ
 rw [hZ']
 obtain ⟨Y, hY⟩ : ∃ Y, Z.alloc (.cells #[.string ⟨#[48]⟩, .int .i64 k, .string tx, .string mr, .int .i64 n, .int .u64 (b : Int), .int .u64 (h : Int), .slice A1 n1 c1, .slice A2 n2 c2] 38) = Y := ⟨_, rfl⟩
 have hYb : Below Z.heap.size Z Y := hY ▸ below_al _ _
 have hYc := heap_alloc_new Z (.cells #[.string ⟨#[48]⟩, .int .i64 k, .string tx, .string mr, .int .i64 n, .int .u64 (b : Int), .int .u64 (h : Int), .slice A1 n1 c1, .slice A2 n2 c2] 38)
 rw [hY, hZs] at hYc
 have hWZ : Below W.heap.size W Z := hb.trans (hZb.mono hb.size)
 have hWY := hWZ.trans (hYb.mono hWZ.size)
 refine ⟨Y, hY, hWY, hZb.trans (hYb.mono hZb.size), fun V hV i v hi => hZc V (hYb.trans (hV.mono hYb.size)) i v hi, ?_⟩
 refine ⟨_, _, rfl, (by show I64 4; unfold I64; omega), (by show I64 0; unfold I64; omega), (by show 0 < _; omega), (by show 0 < _; omega), (by show (⟨#[]⟩ : ByteArray).size ≤ _; decide), (by show (⟨#[]⟩ : ByteArray).size ≤ _; decide), ⟨none, 0, rfl, Nat.le_refl 0, by omega, fun h => absurd h (Nat.lt_irrefl 0)⟩, ⟨some ⟨w1.heap.size + 1, 0, none⟩, 1, rfl, Nat.le_refl 1, by omega, fun i name kk hi => ?_⟩⟩
 match i, hi with
 | 0, hi =>
  simp only [List.getElem?_cons_zero, Option.some.injEq, Prod.mk.injEq] at hi
  obtain ⟨rfl, rfl⟩ := hi
  refine ⟨by decide, ⟨w1.heap.size + 1, 0, none⟩, _, rfl, IsV.later hWY d t _ hv, rfl, fun j u hu => ?_⟩
  rw [addr0, blk_cell hYc, ← hu]
  simp
 | i + 1, hi => simp at hi
theorem arrIn_same (W w1 : World) (hb : Below W.heap.size W w1) (d : Nat) (t : VT d) (tx mr : ByteArray) (n : Int) (b h : Nat) (A1 A2 : Option Addr) (n1 c1 n2 c2 : Nat)
  (hv : IsV W d t [.int .i64 4, .string tx, .string mr, .int .i64 n, .int .u64 (b : Int), .int .u64 (h : Int), .slice A1 n1 c1, .slice A2 n2 c2]) :
  ∃ Y, (w1.alloc (.cells #[.int .i64 4, .string tx, .string mr, .int .i64 n, .int .u64 (b : Int), .int .u64 (h : Int), .slice A1 n1 c1, .slice A2 n2 c2] 26)) = Y ∧ ArrIn W w1 Y w1.heap.size d t tx mr n b h A1 A2 n1 c1 n2 c2 := by
 obtain ⟨Y, hY, hYb, hYs, hYc⟩ := box_cells w1 4 tx mr n b h (.slice A1 n1 c1) (.slice A2 n2 c2)
 have hWY := hb.trans (hYb.mono hb.size)
 exact ⟨Y, hY, hWY, hYb, hYc, IsV.later hWY d t _ hv⟩
theorem law_array (W : World) (d : Nat) (t : VT d) (k : Int) (tx mr : ByteArray) (n : Int) (b h : Nat) (A1 A2 : Option Addr) (n1 c1 n2 c2 : Nat) (z : Nat) (hz : z < 65536)
  (hv : IsV W d t [.int .i64 k, .string tx, .string mr, .int .i64 n, .int .u64 (b : Int), .int .u64 (h : Int), .slice A1 n1 c1, .slice A2 n2 c2]) (hT : TabX W) (h17 : 17 ≤ W.heap.size) :
  Calls Tryz.prog 6 #[.agg #[.int .i64 k, .string tx, .string mr, .int .i64 n, .int .u64 (b : Int), .int .u64 (h : Int), .slice A1 n1 c1, .slice A2 n2 c2], .int .u16 (z : Int)] W fun e w' => e = .returned (.bool true) ∧ Below W.heap.size W w' := by
 have hsz : tx.size ≤ 140737488351232 ∧ mr.size ≤ 140737488351232 ∧ n1 ≤ 140737488351232 ∧ n2 ≤ 140737488351232 := by
  cases d with
  | zero => exact t.elim
  | succ d =>
   obtain ⟨bv, kv, e, _, _, _, _, h1, h2, ⟨A, c, e1, h3, h4, _⟩, ⟨B, c', e2, h5, h6, _⟩⟩ := id hv
   simp only [List.cons.injEq, Value.string.injEq, Value.slice.injEq, and_true] at e e1 e2
   obtain ⟨_, rfl, rfl, _, _, _, rfl, rfl⟩ := e
   injection e1 with _ e1 e1c
   injection e2 with _ e2 e2c
   exact ⟨h1, h2, by omega, by omega⟩
 have HZZ := LH (fun V => zz_any k tx mr n b h A1 A2 n1 c1 n2 c2 V hsz.1 hsz.2.1 hsz.2.2.1 hsz.2.2.2)
 have HIN : k = 4 → ∀ w1, Below W.heap.size W w1 → ∃ Y, (w1.alloc (.cells #[.int .i64 k, .string tx, .string mr, .int .i64 n, .int .u64 (b : Int), .int .u64 (h : Int), .slice A1 n1 c1, .slice A2 n2 c2] 26)) = Y ∧ ArrIn W w1 Y w1.heap.size d t tx mr n b h A1 A2 n1 c1 n2 c2 := fun hk w1 hb => by
  subst hk
  exact arrIn_same W w1 hb d t tx mr n b h A1 A2 n1 c1 n2 c2 hv
 have HINS := LH HIN
 have HINW := LH (fun w1 hb => arrIn_wrap W w1 hb d t k tx mr n b h A1 A2 n1 c1 n2 c2 hv)
 have HTX := LH (fun (w2 : World) (hw2 : Below W.heap.size W w2) (d : Nat) (t : VT d) (tx mr : ByteArray) (n : Int) (b h : Nat) (A1 A2 : Option Addr) (n1 c1 n2 c2 : Nat) (hv2 : IsV w2 d t [.int .i64 4, .string tx, .string mr, .int .i64 n, .int .u64 (b : Int), .int .u64 (h : Int), .slice A1 n1 c1, .slice A2 n2 c2]) (hf : Fits d t ∧ LongV d t) =>
  texts_arr w2 d t 4 tx mr n b h A1 A2 n1 c1 n2 c2 rfl hv2 hf.1 hf.2 (hT.below hw2 h17).c (by have := hw2.size; omega))
 have HXT := LH (fun (w2 : World) (hw2 : Below W.heap.size W w2) => (⟨hT.below hw2 h17, by have := hw2.size; omega⟩ : TabX w2 ∧ 17 ≤ w2.heap.size))
 have HFX := LH (fun (w2 : World) (hw2 : Below W.heap.size W w2) (d : Nat) (t : VT d) (cs : List Value) (hv2 : IsV w2 d t cs) (Y : World) (hY : Below w2.heap.size w2 Y) => extLong_any w2 (hT.below hw2 h17).c (by have := hw2.size; omega) d t cs hv2 Y hY)
 unfold valV at HZZ
 obtain ⟨X, hX, hXb, hXs, hXc⟩ := box_cells W k tx mr n b h (.slice A1 n1 c1) (.slice A2 n2 c2)
 obtain ⟨l0, l1, l2, l3, l4, l5, l6, l7⟩ := box8 (hXc X (Below.refl _ _))
 have HX := LH hX
 have HXB := LH hXb
 have HXC := LH hXc
 clear hv hT h17 hsz hX hXb hXc hXs HIN
 go_enter Tryz.func6, Tryz.ntmps6
 go_upto_region 1 with fail
 rw [HX.out]
 go_wp2_with (go_at_call 7; refine (HZZ.out _).mono ?_; rintro e w1 ⟨v, rfl, hb1⟩; refine Hid.out ?_)
 refine LH ?_
 clear l0 l1 l2 l3 l4 l5 l6 l7
 have HB1 := LH (HXB.out.trans (hb1.mono HXB.out.size))
 have HBX1 := LH hb1
 obtain ⟨l0, l1, l2, l3, l4, l5, l6, l7⟩ := box8 (HXC.out w1 hb1)
 clear hb1
 cases v
 ·go_wp2_with fail
  go_ret
  exact ⟨rfl, HB1.out⟩
 ·by_cases hk : k = 4
  ·have hk4 : (k != 4) = false := by simp [hk]
   obtain ⟨Y, hY, HA⟩ := HINS.out hk w1 HB1.out
   have HYE := LH hY
   have HAI := LH HA
   clear hk hY HA
   go_upto_region 4 with fail
   rw [HYE.out]
   clear l0 l1 l2 l3 l4 l5 l6 l7
   obtain ⟨l0, l1, l2, l3, l4, l5, l6, l7⟩ := box8 (HXC.out Y (HBX1.out.trans (HAI.out.up.mono HBX1.out.size)))
   obtain ⟨k0, k1, k2, k3, k4, k5, k6, k7⟩ := box8 (HAI.out.box Y (Below.refl _ _))
   go_upto_region 6 with fail
   have HT2 := LH (HTX.out Y HAI.out.below _ _ _ _ _ _ _ _ _ _ _ _ _ HAI.out.isv)
   have HF := LH (HFX.out Y HAI.out.below _ _ _ HAI.out.isv Y (Below.refl _ _))
   go_wp2_with (go_at_call 12; refine HF.out.mono ?_; rintro e w3 ⟨v, rfl, hf, hb3⟩; refine Hid.out ?_)
   refine LH ?_
   clear l0 l1 l2 l3 l4 l5 l6 l7 k0 k1 k2 k3 k4 k5 k6 k7
   have HB3 := LH hb3
   have HB3W := LH (HAI.out.below.trans (hb3.mono HAI.out.below.size))
   clear hb3
   cases v
   ·clear hf
    go_wp2_with fail
    go_ret
    exact ⟨rfl, HB3W.out⟩
   ·obtain ⟨D, S, hS, hD5, hvu, h17, h15, h51⟩ := HT2.out (hf rfl)
    unfold valV at h15 h17
    have H17 := LH h17
    have H15 := LH h15
    have H51 := LH h51
    have HD5 := LH hD5
    have HVU := LH hvu
    have HSZ := LH hS
    clear hf h17 h15 h51 hD5 hvu hS
    obtain ⟨l0, l1, l2, l3, l4, l5, l6, l7⟩ := box8 (HAI.out.box w3 HB3.out)
    go_upto_region 8 with fail
    go_region_with (first | (go_at_call 17; refine (H17.out _ ?_).mono ?_; exact HB3.out.drew; rintro e w4 ⟨v4, rfl, o4⟩; have B4 : Below Y.heap.size Y w4 := HB3.out.drew.trans (o4.below.mono HB3.out.drew.size); obtain ⟨m0, m1, m2, m3, m4, m5, m6, m7⟩ := box8 (HAI.out.box w4 B4)) | (go_at_call 15; refine (H15.out _ ?_).mono ?_; exact B4; rintro e w5 ⟨rfl, hb5⟩))
    all_goals
     obtain ⟨g, c, rfl, hDc, hcb, hrd⟩ := o4.rd (by have := HD5.out; omega)
     have hzn : (0 : Int) ≤ (z : Int) ∧ (z : Int) ≤ 100000 := ⟨by omega, by omega⟩
     have B4W := HAI.out.below.trans (B4.mono HAI.out.below.size)
     have hx4 := HXT.out w4 B4W
     have hall := H51.out g 0 c w4 hrd hDc hcb hx4.1 hx4.2
     have H18 := LH (text18 _ _ _ (z : Int) _ _ w4 (hall (z : Int) (.inr hzn)))
     have H19 := LH (text19 _ _ _ S w4 (text52 _ _ _ S w4 (hall (-1) (.inl rfl))))
     have H20 := LH (fun X => extCut_any S z HVU.out (by omega) (by have := HSZ.out; omega) X)
     have HB5 := LH hb5
     have HB4W := LH B4W
     clear hall hx4 hrd hDc hcb o4 hb5 B4 B4W m0 m1 m2 m3 m4 m5 m6 m7
     obtain ⟨y, hy⟩ : ∃ y : ByteArray, (if 0 ≤ (z : Int) then (⟨(cutL S.data.toList ((z : Int).toNat)).toArray⟩ : ByteArray) else S) = y := ⟨_, rfl⟩
     have hy2 : (⟨(cutL S.data.toList z).toArray⟩ : ByteArray) = y := by rw [← hy, if_pos hzn.1, Int.toNat_natCast]
     have hdz : decide ((0 : Int) ≤ (z : Int) ∧ (z : Int) < (S.size : Int)) = decide ((z : Int) < (S.size : Int)) := decide_eq_decide.2 ⟨fun h => h.2, fun h => ⟨hzn.1, h⟩⟩
     obtain ⟨q, hqn⟩ : ∃ q, decide (z < S.size) = q := ⟨_, rfl⟩
     have hq : decide ((z : Int) < (S.size : Int)) = q := hqn ▸ decide_eq_decide.2 (by omega)
     rw [hy, hdz, hq] at H18
     rw [hy2] at H20
     have hss : (S.toList == S.toList) = true := by simp
     have hss2 : (S == S) = true := ba_beq S
     have hyy : (y.toList == y.toList) = true := by simp
     have hyy2 : (y == y) = true := ba_beq y
     have hqq : (q == q) = true := by cases q <;> rfl
     clear hy hy2 hdz
     go_wp2_with (first | (go_at_call 18; refine (H18.out _ HB5.out).mono ?_; rintro e w6 ⟨rfl, hb6⟩; have B6 := HB5.out.trans (hb6.mono HB5.out.size)) | (go_at_call 19; refine (H19.out _ B6).mono ?_; rintro e w7 ⟨rfl, hb7⟩; have B7 := B6.trans (hb7.mono B6.size)) | (go_at_call 20; refine (H20.out _).mono ?_; rintro e w8 ⟨rfl, rfl⟩))
     go_ret
     exact ⟨rfl, HB4W.out.trans (B7.mono HB4W.out.size)⟩
  ·have hk4 : (k != 4) = true := by simp [hk]
   obtain ⟨Y, hY, HA⟩ := HINW.out w1 HB1.out
   have HYE := LH hY
   have HAI := LH HA
   clear hk hY HA
   go_upto_region 4 with fail
   obtain ⟨V1, hV1⟩ : ∃ V1, w1.alloc (.cells #[.int .i64 k, .string tx, .string mr, .int .i64 n, .int .u64 (b : Int), .int .u64 (h : Int), .slice A1 n1 c1, .slice A2 n2 c2] 26) = V1 := ⟨_, rfl⟩
   have hV1b : Below w1.heap.size w1 V1 := hV1 ▸ below_al _ _
   clear l0 l1 l2 l3 l4 l5 l6 l7
   obtain ⟨l0, l1, l2, l3, l4, l5, l6, l7⟩ := box8 (HXC.out V1 (HBX1.out.trans (hV1b.mono HBX1.out.size)))
   subst hV1
   go_upto_region 6 with fail
   rw [HYE.out]
   obtain ⟨k0, k1, k2, k3, k4, k5, k6, k7⟩ := box8 (HAI.out.box Y (Below.refl _ _))
   have HT2 := LH (HTX.out Y HAI.out.below _ _ _ _ _ _ _ _ _ _ _ _ _ HAI.out.isv)
   have HF := LH (HFX.out Y HAI.out.below _ _ _ HAI.out.isv Y (Below.refl _ _))
   go_wp2_with (go_at_call 12; refine HF.out.mono ?_; rintro e w3 ⟨v, rfl, hf, hb3⟩; refine Hid.out ?_)
   refine LH ?_
   clear l0 l1 l2 l3 l4 l5 l6 l7 k0 k1 k2 k3 k4 k5 k6 k7
   have HB3 := LH hb3
   have HB3W := LH (HAI.out.below.trans (hb3.mono HAI.out.below.size))
   clear hb3
   cases v
   ·clear hf
    go_wp2_with fail
    go_ret
    exact ⟨rfl, HB3W.out⟩
   ·obtain ⟨D, S, hS, hD5, hvu, h17, h15, h51⟩ := HT2.out (hf rfl)
    unfold valV at h15 h17
    have H17 := LH h17
    have H15 := LH h15
    have H51 := LH h51
    have HD5 := LH hD5
    have HVU := LH hvu
    have HSZ := LH hS
    clear hf h17 h15 h51 hD5 hvu hS
    obtain ⟨l0, l1, l2, l3, l4, l5, l6, l7⟩ := box8 (HAI.out.box w3 HB3.out)
    go_upto_region 8 with fail
    go_region_with (first | (go_at_call 17; refine (H17.out _ ?_).mono ?_; exact HB3.out.drew; rintro e w4 ⟨v4, rfl, o4⟩; have B4 : Below Y.heap.size Y w4 := HB3.out.drew.trans (o4.below.mono HB3.out.drew.size); obtain ⟨m0, m1, m2, m3, m4, m5, m6, m7⟩ := box8 (HAI.out.box w4 B4)) | (go_at_call 15; refine (H15.out _ ?_).mono ?_; exact B4; rintro e w5 ⟨rfl, hb5⟩))
    all_goals
     obtain ⟨g, c, rfl, hDc, hcb, hrd⟩ := o4.rd (by have := HD5.out; omega)
     have hzn : (0 : Int) ≤ (z : Int) ∧ (z : Int) ≤ 100000 := ⟨by omega, by omega⟩
     have B4W := HAI.out.below.trans (B4.mono HAI.out.below.size)
     have hx4 := HXT.out w4 B4W
     have hall := H51.out g 0 c w4 hrd hDc hcb hx4.1 hx4.2
     have H18 := LH (text18 _ _ _ (z : Int) _ _ w4 (hall (z : Int) (.inr hzn)))
     have H19 := LH (text19 _ _ _ S w4 (text52 _ _ _ S w4 (hall (-1) (.inl rfl))))
     have H20 := LH (fun X => extCut_any S z HVU.out (by omega) (by have := HSZ.out; omega) X)
     have HB5 := LH hb5
     have HB4W := LH B4W
     clear hall hx4 hrd hDc hcb o4 hb5 B4 B4W m0 m1 m2 m3 m4 m5 m6 m7
     obtain ⟨y, hy⟩ : ∃ y : ByteArray, (if 0 ≤ (z : Int) then (⟨(cutL S.data.toList ((z : Int).toNat)).toArray⟩ : ByteArray) else S) = y := ⟨_, rfl⟩
     have hy2 : (⟨(cutL S.data.toList z).toArray⟩ : ByteArray) = y := by rw [← hy, if_pos hzn.1, Int.toNat_natCast]
     have hdz : decide ((0 : Int) ≤ (z : Int) ∧ (z : Int) < (S.size : Int)) = decide ((z : Int) < (S.size : Int)) := decide_eq_decide.2 ⟨fun h => h.2, fun h => ⟨hzn.1, h⟩⟩
     obtain ⟨q, hqn⟩ : ∃ q, decide (z < S.size) = q := ⟨_, rfl⟩
     have hq : decide ((z : Int) < (S.size : Int)) = q := hqn ▸ decide_eq_decide.2 (by omega)
     rw [hy, hdz, hq] at H18
     rw [hy2] at H20
     have hss : (S.toList == S.toList) = true := by simp
     have hss2 : (S == S) = true := ba_beq S
     have hyy : (y.toList == y.toList) = true := by simp
     have hyy2 : (y == y) = true := ba_beq y
     have hqq : (q == q) = true := by cases q <;> rfl
     clear hy hy2 hdz
     go_wp2_with (first | (go_at_call 18; refine (H18.out _ HB5.out).mono ?_; rintro e w6 ⟨rfl, hb6⟩; have B6 := HB5.out.trans (hb6.mono HB5.out.size)) | (go_at_call 19; refine (H19.out _ B6).mono ?_; rintro e w7 ⟨rfl, hb7⟩; have B7 := B6.trans (hb7.mono B6.size)) | (go_at_call 20; refine (H20.out _).mono ?_; rintro e w8 ⟨rfl, rfl⟩))
     go_ret
     exact ⟨rfl, HB4W.out.trans (B7.mono HB4W.out.size)⟩
end Go.Proofs.YtpfkgpcnhdkkbaaGreatDoor
