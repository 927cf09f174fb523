/- The reader's text of a value that holds no others: it is the long text; conditions: the bytes, the tables. -/
import Derived.Test.YtpfkgpcnhdkkbaaGreatDoorNTi
import Derived.Test.YtpfkgpcnhdkkbaaGreatDoorNDw
import Derived.Test.YtpfkgpcnhdkkbaaGreatDoorNGd
import Derived.Test.YtpfkgpcnhdkkbaaGreatDoorNGk
import Derived.Test.YtpfkgpcnhdkkbaaGreatDoorNGs
import Derived.Test.YtpfkgpcnhdkkbaaGreatDoorNGt
import Derived.Test.YtpfkgpcnhdkkbaaGreatDoorNMn
import Derived.Test.YtpfkgpcnhdkkbaaGreatDoorNMc
import Derived.Test.YtpfkgpcnhdkkbaaGreatDoorNGc
import Derived.Test.YtpfkgpcnhdkkbaaGreatDoorNMa
import Derived.Test.YtpfkgpcnhdkkbaaGreatDoorNMb
namespace Go.Proofs.YtpfkgpcnhdkkbaaGreatDoor
open Go.RowKit
set_option linter.unusedVariables false
set_option linter.unusedSimpArgs false
set_option maxRecDepth 100000
theorem sfrom_plain (s : ByteArray) (h : ∀ b ∈ s.data.toList, 97 ≤ b.toNat ∧ b.toNat ≤ 122) : ∀ (f i : Nat), s.size ≤ i + f → sfrom true s f i = s.data.toList.drop i
  | 0, i, hf => by
    rw [List.drop_of_length_le (by rw [Array.length_toList]; exact hf)]
    rfl
  | f + 1, i, hf => by
    have hl : s.data.toList.length = s.size := Array.length_toList
    unfold sfrom
    by_cases hi : i < s.size
    · rw [if_pos hi]
      have hg : s.data.toList[i]? = some (s.data.toList[i]'(by omega)) := List.getElem?_eq_getElem (by omega)
      have hb := h _ (List.getElem_mem (l := s.data.toList) (n := i) (by omega))
      have hA : byA s i = (s.data.toList[i]'(by omega)).toNat := by unfold byA; rw [List.getD_eq_getElem?_getD, hg]; rfl
      have hx : xrA s i = (1, byA s i) := xrN_one _ _ _ _ _ (by omega) (by omega)
      have hs : sstep true s i = ((s.data.toList.drop i).take 1, 1) := by
        unfold sstep
        rw [hx]
        simp only
        rw [if_neg (by omega), if_neg (by omega), if_neg (by simp only [true_and]; omega), if_neg (by omega)]
      rw [hs]
      simp only
      rw [sfrom_plain s h f (i + 1) (by omega)]
      rw [← List.drop_drop, List.take_append_drop]
    · rw [if_neg hi, List.drop_of_length_le (by omega)]
theorem sout_plain (s : ByteArray) (h : ∀ b ∈ s.data.toList, 97 ≤ b.toNat ∧ b.toNat ≤ 122) : sout true s = 34 :: (s.data.toList ++ [34]) := by
  unfold sout
  rw [sfrom_plain s h s.size 0 (by omega)]
  rfl
theorem escU (s : ByteArray) (hs : s.size ≤ 300) (hu : UT s) (w : World) (hT : TabX w) (h17 : 17 ≤ w.heap.size) : Rd 110 (.string s) w (.string (soutB true s)) := by
  intro W hW
  have h := escS_any s W (hT.below hW h17) (by have := hW.size; omega) (by omega)
  rw [jout_eq true s hu] at h
  exact h
theorem rdStr (g o n c : Nat) (s : ByteArray) (l : List UInt8) (w : World) (hn : n = s.size + 5 + l.length) (hc : n < c) (hcb : c ≤ 9223372036854775807) (hs : s.size ≤ 1000000000) (hr : RD w g o (txB s ++ l)) :
    Rd 225 (.slice (some ⟨g, o, none⟩) n c) w (.tuple #[.string s, .slice (some ⟨g, o + 4 + (s.size + 1), none⟩) (n - 4 - (s.size + 1)) (c - 4 - (s.size + 1)), .bool true]) := fun W hW => readStr_any g o n c s l W hn hc hcb hs (hr.lat hW)
theorem rb_rd {w : World} {g o : Nat} {l : List UInt8} (h : RD w g o l) : RB w (some ⟨g, o, none⟩) l := fun _ => ⟨_, rfl, fun j b hb => by rw [addrP]; exact h j b hb⟩
theorem len12 : ∀ (b : List UInt8), b.length = 12 → ∃ b0 b1 b2 b3 b4 b5 b6 b7 b8 b9 b10 b11, b = [b0, b1, b2, b3, b4, b5, b6, b7, b8, b9, b10, b11]
  | [b0, b1, b2, b3, b4, b5, b6, b7, b8, b9, b10, b11], _ => ⟨_, _, _, _, _, _, _, _, _, _, _, _, rfl⟩
theorem rdHex (b0 b1 b2 b3 b4 b5 b6 b7 b8 b9 b10 b11 : UInt8) (w : World) : Rd 119 (idV b0 b1 b2 b3 b4 b5 b6 b7 b8 b9 b10 b11) w (.string (hexB [b0, b1, b2, b3, b4, b5, b6, b7, b8, b9, b10, b11])) := by
  intro W hW
  have h := idHex_core [(b0.toNat : Int), b1.toNat, b2.toNat, b3.toNat, b4.toNat, b5.toNat, b6.toNat, b7.toNat, b8.toNat, b9.toNat, b10.toNat, b11.toNat] b0.toNat b1.toNat b2.toNat b3.toNat b4.toNat b5.toNat b6.toNat b7.toNat b8.toNat b9.toNat b10.toNat b11.toNat rfl (by
    intro i hi
    have hh : ∀ x : UInt8, 0 ≤ (x.toNat : Int) ∧ (x.toNat : Int) < 256 := fun x => ⟨by omega, by have := x.toNat_lt; omega⟩
    match i, hi with
    | 0, _ => exact hh b0
    | 1, _ => exact hh b1
    | 2, _ => exact hh b2
    | 3, _ => exact hh b3
    | 4, _ => exact hh b4
    | 5, _ => exact hh b5
    | 6, _ => exact hh b6
    | 7, _ => exact hh b7
    | 8, _ => exact hh b8
    | 9, _ => exact hh b9
    | 10, _ => exact hh b10
    | 11, _ => exact hh b11) W
  rw [show Lib.bytesOf [(b0.toNat : Int), b1.toNat, b2.toNat, b3.toNat, b4.toNat, b5.toNat, b6.toNat, b7.toNat, b8.toNat, b9.toNat, b10.toNat, b11.toNat] = [b0, b1, b2, b3, b4, b5, b6, b7, b8, b9, b10, b11] from by simp [Lib.bytesOf]] at h
  exact h
theorem s64_u64 (n : Int) (h : I64 n) : s64 (u64 n) = n := by
  obtain ⟨h1, h2⟩ := h
  unfold s64 u64
  split <;> omega
theorem s32_u32 (n : Int) (h : -2147483648 ≤ n ∧ n ≤ 2147483647) : s32 (u32 n) = n := by
  unfold s32 u32
  split <;> omega
theorem le64_two (b : Nat) (h : b < 18446744073709551616) : le64 b = le32 (b % 4294967296) ++ le32 (b / 4294967296) := by
  have e : ∀ x y : Nat, x % 256 = y % 256 → UInt8.ofNat x = UInt8.ofNat y := fun x y h => by
    apply UInt8.toNat_inj.1
    simp [h]
  unfold le64 le32
  simp only [List.cons_append, List.nil_append, List.cons.injEq, and_true]
  refine ⟨e _ _ (by omega), e _ _ (by omega), e _ _ (by omega), e _ _ (by omega), trivial, e _ _ (by omega), e _ _ (by omega), e _ _ (by omega)⟩
section
variable {K : Type} (fL : K → List UInt8) (text more : ByteArray) (n : Int) (bits high : Nat) (b : List UInt8) (kids : List (ByteArray × K)) (g o c : Nat) (w : World)
theorem tv_1 (hb : bits < 18446744073709551616) (h69 : 69 ∉ dblT bits) (hc : 8 < c) (hcb : c ≤ 9223372036854775807) (hr : RD w g o (le64 bits)) (hT : TabC w) (h17 : 17 ≤ w.heap.size) :
    Rd2 78 (.agg #[.int .u8 1, .slice (some ⟨g, o, none⟩) 8 c]) (.int .i64 (-1)) w (.tuple #[.string ⟨(loR fL ⟨1, text, more, n, bits, high, b, kids⟩).toArray⟩, .bool false]) := by
  have h := val1 (-1) rfl (some ⟨g, o, none⟩) 8 c bits w (ok113 _ _ _ bits _ _ _ w (fun W hW => readDbl_any g o 8 c bits [] W rfl hc hcb hb (by simpa using hr.lat hW))) ⟨(dblT bits).toArray⟩ (by show (dblT bits).toArray.size ≤ _; rw [List.size_toArray]; have := dblT_len bits hb; omega) (fun W hW => coreDouble_any bits hb h69 W (hT.below hW h17) (by have := hW.size; omega))
  rw [show (⟨#[123, 34, 36, 110, 117, 109, 98, 101, 114, 68, 111, 117, 98, 108, 101, 34, 58, 34]⟩ ++ ⟨(dblT bits).toArray⟩ ++ ⟨#[34, 125]⟩ : ByteArray) = ⟨(loR fL ⟨1, text, more, n, bits, high, b, kids⟩).toArray⟩ from ret_eq (by unfold loR; simp)] at h
  exact h
theorem tv_str (hs : text.size ≤ 300) (hc : text.size + 5 < c) (hcb : c ≤ 9223372036854775807) (hr : RD w g o (txB text)) : Rd 225 (.slice (some ⟨g, o, none⟩) (text.size + 5) c) w (.tuple #[.string text, .slice (some ⟨g, o + 4 + (text.size + 1), none⟩) (text.size + 5 - 4 - (text.size + 1)) (c - 4 - (text.size + 1)), .bool true]) :=
  rdStr g o (text.size + 5) c text [] w rfl hc hcb (by omega) (by simpa using hr)
theorem tv_2 (hs : text.size ≤ 300) (hu : UT text) (hc : text.size + 5 < c) (hcb : c ≤ 9223372036854775807) (hr : RD w g o (txB text)) (hT : TabX w) (h17 : 17 ≤ w.heap.size) :
    Rd2 78 (.agg #[.int .u8 2, .slice (some ⟨g, o, none⟩) (text.size + 5) c]) (.int .i64 (-1)) w (.tuple #[.string ⟨(loR fL ⟨2, text, more, n, bits, high, b, kids⟩).toArray⟩, .bool false]) :=
  val2 (-1) rfl _ _ _ text w (ok109 _ _ _ text _ _ _ w (hand173 _ _ _ text _ _ _ w (tv_str text g o c w hs hc hcb hr))) (soutB true text) (by have := soutB_size true text hs hu; omega) (escU text hs hu w hT h17)
theorem tv_2ok (hs : text.size ≤ 300) (hc : text.size + 5 < c) (hcb : c ≤ 9223372036854775807) (hr : RD w g o (txB text)) : Rd 109 (.agg #[.int .u8 2, .slice (some ⟨g, o, none⟩) (text.size + 5) c]) w (.tuple #[.string text, .bool true]) :=
  ok109 _ _ _ text _ _ _ w (hand173 _ _ _ text _ _ _ w (tv_str text g o c w hs hc hcb hr))
theorem tv_13 (hs : text.size ≤ 300) (hu : UT text) (hc : text.size + 5 < c) (hcb : c ≤ 9223372036854775807) (hr : RD w g o (txB text)) (hT : TabX w) (h17 : 17 ≤ w.heap.size) :
    Rd2 78 (.agg #[.int .u8 13, .slice (some ⟨g, o, none⟩) (text.size + 5) c]) (.int .i64 (-1)) w (.tuple #[.string ⟨(loR fL ⟨13, text, more, n, bits, high, b, kids⟩).toArray⟩, .bool false]) := by
  have h := val13 (-1) rfl _ _ _ text w (ok126 _ _ _ text _ _ _ w (hand189 _ _ _ text _ _ _ w (tv_str text g o c w hs hc hcb hr))) (soutB true text) (by have := soutB_size true text hs hu; omega) (escU text hs hu w hT h17)
  rw [show (⟨#[123, 34, 36, 99, 111, 100, 101, 34, 58]⟩ ++ soutB true text ++ ⟨#[125]⟩ : ByteArray) = ⟨(loR fL ⟨13, text, more, n, bits, high, b, kids⟩).toArray⟩ from ret_eq (by unfold loR spR; simp [soutB])] at h
  exact h
theorem tv_14 (hs : text.size ≤ 300) (hu : UT text) (hc : text.size + 5 < c) (hcb : c ≤ 9223372036854775807) (hr : RD w g o (txB text)) (hT : TabX w) (h17 : 17 ≤ w.heap.size) :
    Rd2 78 (.agg #[.int .u8 14, .slice (some ⟨g, o, none⟩) (text.size + 5) c]) (.int .i64 (-1)) w (.tuple #[.string ⟨(loR fL ⟨14, text, more, n, bits, high, b, kids⟩).toArray⟩, .bool false]) := by
  have h := val14 (-1) rfl _ _ _ text w (ok127 _ _ _ text _ _ _ w (hand190 _ _ _ text _ _ _ w (tv_str text g o c w hs hc hcb hr))) (soutB true text) (by have := soutB_size true text hs hu; omega) (escU text hs hu w hT h17)
  rw [show (⟨#[123, 34, 36, 115, 121, 109, 98, 111, 108, 34, 58]⟩ ++ soutB true text ++ ⟨#[125]⟩ : ByteArray) = ⟨(loR fL ⟨14, text, more, n, bits, high, b, kids⟩).toArray⟩ from ret_eq (by unfold loR spR; simp [soutB])] at h
  exact h
theorem tv_6 (hc : 0 < c) : Rd2 78 (.agg #[.int .u8 6, .slice (some ⟨g, o, none⟩) 0 c]) (.int .i64 (-1)) w (.tuple #[.string ⟨(loR fL ⟨6, text, more, n, bits, high, b, kids⟩).toArray⟩, .bool false]) := val6 (-1) rfl _ _ _ w
theorem tv_10 (hc : 0 < c) : Rd2 78 (.agg #[.int .u8 10, .slice (some ⟨g, o, none⟩) 0 c]) (.int .i64 (-1)) w (.tuple #[.string ⟨(loR fL ⟨10, text, more, n, bits, high, b, kids⟩).toArray⟩, .bool false]) := val10 (-1) rfl _ _ _ w
theorem tv_127 (hc : 0 < c) : Rd2 78 (.agg #[.int .u8 127, .slice (some ⟨g, o, none⟩) 0 c]) (.int .i64 (-1)) w (.tuple #[.string ⟨(loR fL ⟨127, text, more, n, bits, high, b, kids⟩).toArray⟩, .bool false]) := val127 (-1) rfl _ _ _ w
theorem tv_255 (hc : 0 < c) : Rd2 78 (.agg #[.int .u8 255, .slice (some ⟨g, o, none⟩) 0 c]) (.int .i64 (-1)) w (.tuple #[.string ⟨(loR fL ⟨255, text, more, n, bits, high, b, kids⟩).toArray⟩, .bool false]) := val255 (-1) rfl _ _ _ w
theorem tv_7 (hb : b.length = 12) (hc : 12 < c) (hcb : c ≤ 9223372036854775807) (hr : RD w g o b) : Rd2 78 (.agg #[.int .u8 7, .slice (some ⟨g, o, none⟩) 12 c]) (.int .i64 (-1)) w (.tuple #[.string ⟨(loR fL ⟨7, text, more, n, bits, high, b, kids⟩).toArray⟩, .bool false]) := by
  obtain ⟨b0, b1, b2, b3, b4, b5, b6, b7, b8, b9, b10, b11, rfl⟩ := len12 b hb
  have h := val7 b0 b1 b2 b3 b4 b5 b6 b7 b8 b9 b10 b11 (-1) rfl _ _ _ w (ok118 b0 b1 b2 b3 b4 b5 b6 b7 b8 b9 b10 b11 _ _ _ _ _ _ w (fun W hW => readID_core b0 b1 b2 b3 b4 b5 b6 b7 b8 b9 b10 b11 g o 12 c W (by omega) hc hcb (hr.lat hW))) _ (by rw [hexB_size]; simp) (rdHex b0 b1 b2 b3 b4 b5 b6 b7 b8 b9 b10 b11 w)
  rw [show (⟨#[123, 34, 36, 111, 105, 100, 34, 58, 34]⟩ ++ hexB [b0, b1, b2, b3, b4, b5, b6, b7, b8, b9, b10, b11] ++ ⟨#[34, 125]⟩ : ByteArray) = ⟨(loR fL ⟨7, text, more, n, bits, high, [b0, b1, b2, b3, b4, b5, b6, b7, b8, b9, b10, b11], kids⟩).toArray⟩ from ret_eq (by unfold loR spR; simp)] at h
  exact h
theorem tv_12 (hs : text.size ≤ 300) (hu : UT text) (hb : b.length = 12) (hc : text.size + 17 < c) (hcb : c ≤ 9223372036854775807) (hr : RD w g o (txB text ++ b)) (hT : TabX w) (h17 : 17 ≤ w.heap.size) :
    Rd2 78 (.agg #[.int .u8 12, .slice (some ⟨g, o, none⟩) (text.size + 17) c]) (.int .i64 (-1)) w (.tuple #[.string ⟨(loR fL ⟨12, text, more, n, bits, high, b, kids⟩).toArray⟩, .bool false]) := by
  obtain ⟨b0, b1, b2, b3, b4, b5, b6, b7, b8, b9, b10, b11, rfl⟩ := len12 b hb
  have h1 := rdStr g o (text.size + 17) c text [b0, b1, b2, b3, b4, b5, b6, b7, b8, b9, b10, b11] w (by simp) hc hcb (by omega) hr
  have hr2 : RD w g (o + 4 + (text.size + 1)) [b0, b1, b2, b3, b4, b5, b6, b7, b8, b9, b10, b11] := by
    have := hr.right
    rw [txB_len, show o + (text.size + 5) = o + 4 + (text.size + 1) from by omega] at this
    exact this
  have h := val12 b0 b1 b2 b3 b4 b5 b6 b7 b8 b9 b10 b11 (-1) rfl _ _ _ text w (ok125 b0 b1 b2 b3 b4 b5 b6 b7 b8 b9 b10 b11 _ _ _ text _ _ _ w (readPtr_core b0 b1 b2 b3 b4 b5 b6 b7 b8 b9 b10 b11 _ _ _ text _ _ _ _ _ _ w h1 (fun W hW => readID_core b0 b1 b2 b3 b4 b5 b6 b7 b8 b9 b10 b11 g _ _ _ W (by omega) (by omega) (by omega) (hr2.lat hW)))) _ (by rw [hexB_size]; simp) (rdHex b0 b1 b2 b3 b4 b5 b6 b7 b8 b9 b10 b11 w) (soutB true text) (by have := soutB_size true text hs hu; omega) (escU text hs hu w hT h17)
  rw [show (⟨#[123, 34, 36, 100, 98, 80, 111, 105, 110, 116, 101, 114, 34, 58, 123, 34, 36, 114, 101, 102, 34, 58]⟩ ++ soutB true text ++ ⟨#[44, 34, 36, 105, 100, 34, 58, 123, 34, 36, 111, 105, 100, 34, 58, 34]⟩ ++ hexB [b0, b1, b2, b3, b4, b5, b6, b7, b8, b9, b10, b11] ++ ⟨#[34, 125, 125, 125]⟩ : ByteArray) = ⟨(loR fL ⟨12, text, more, n, bits, high, [b0, b1, b2, b3, b4, b5, b6, b7, b8, b9, b10, b11], kids⟩).toArray⟩ from ret_eq (by unfold loR spR; simp [soutB])] at h
  exact h
theorem tv_8 (hn : n = 0 ∨ n = 1) (hc : 1 < c) (hcb : c ≤ 9223372036854775807) (hr : RD w g o [u8 n]) : Rd2 78 (.agg #[.int .u8 8, .slice (some ⟨g, o, none⟩) 1 c]) (.int .i64 (-1)) w (.tuple #[.string ⟨(loR fL ⟨8, text, more, n, bits, high, b, kids⟩).toArray⟩, .bool false]) := by
  have hv : (((u8 n).toNat : Int) == 1) = decide (n = 1) := by rcases hn with rfl | rfl <;> rfl
  have h := val8 (-1) rfl (some ⟨g, o, none⟩) 1 c (decide (n = 1)) w (ok120 _ _ _ _ _ _ _ w (fun W hW => hv ▸ readBool_any g o 1 c (u8 n).toNat W (by omega) hc hcb (u8 n).toNat_lt (hr.lat hW 0 _ rfl))) ⟨(Lib.formatBool (decide (n = 1))).toArray⟩ (by rcases hn with rfl | rfl <;> decide) (fun W hW => (Tryz.strconv_FormatBool _ W).mono fun e w' ⟨q1, q2⟩ => ⟨q1, by rw [q2]; exact Below.refl _ _⟩)
  exact h
theorem tv_9 (hn : I64 n) (hc : 8 < c) (hcb : c ≤ 9223372036854775807) (hr : RD w g o (le64 (u64 n))) (hT : TabC w) (h17 : 17 ≤ w.heap.size) : Rd2 78 (.agg #[.int .u8 9, .slice (some ⟨g, o, none⟩) 8 c]) (.int .i64 (-1)) w (.tuple #[.string ⟨(loR fL ⟨9, text, more, n, bits, high, b, kids⟩).toArray⟩, .bool false]) := by
  have hz := itoaB_size n hn
  have h := val9 (-1) rfl (some ⟨g, o, none⟩) 8 c n w (ok122 _ _ _ _ _ _ _ w (hand185 _ _ _ _ _ _ _ w (fun W hW => s64_u64 n hn ▸ readI64_any g o 8 c (u64 n) [] W rfl hc hcb (u64_lt n) (by simpa using hr.lat hW)))) (itoaB n) (by omega) (fun W hW => fmtInt_c n W hn (hT.below hW h17))
  rw [show (⟨#[123, 34, 36, 100, 97, 116, 101, 34, 58, 123, 34, 36, 110, 117, 109, 98, 101, 114, 76, 111, 110, 103, 34, 58, 34]⟩ ++ itoaB n ++ ⟨#[34, 125, 125]⟩ : ByteArray) = ⟨(loR fL ⟨9, text, more, n, bits, high, b, kids⟩).toArray⟩ from ret_eq (by unfold loR spR; simp [itoaB])] at h
  exact h
theorem tv_18 (hn : I64 n) (hc : 8 < c) (hcb : c ≤ 9223372036854775807) (hr : RD w g o (le64 (u64 n))) (hT : TabC w) (h17 : 17 ≤ w.heap.size) : Rd2 78 (.agg #[.int .u8 18, .slice (some ⟨g, o, none⟩) 8 c]) (.int .i64 (-1)) w (.tuple #[.string ⟨(loR fL ⟨18, text, more, n, bits, high, b, kids⟩).toArray⟩, .bool false]) := by
  have hz := itoaB_size n hn
  have h := val18 (-1) rfl (some ⟨g, o, none⟩) 8 c n w (ok131 _ _ _ _ _ _ _ w (hand194 _ _ _ _ _ _ _ w (fun W hW => s64_u64 n hn ▸ readI64_any g o 8 c (u64 n) [] W rfl hc hcb (u64_lt n) (by simpa using hr.lat hW)))) (itoaB n) (by omega) (fun W hW => fmtInt_c n W hn (hT.below hW h17))
  rw [show (⟨#[123, 34, 36, 110, 117, 109, 98, 101, 114, 76, 111, 110, 103, 34, 58, 34]⟩ ++ itoaB n ++ ⟨#[34, 125]⟩ : ByteArray) = ⟨(loR fL ⟨18, text, more, n, bits, high, b, kids⟩).toArray⟩ from ret_eq (by unfold loR; simp [itoaB])] at h
  exact h
theorem tv_16 (hn : -2147483648 ≤ n ∧ n ≤ 2147483647) (hc : 4 < c) (hcb : c ≤ 9223372036854775807) (hr : RD w g o (le32 (u32 n))) (hT : TabC w) (h17 : 17 ≤ w.heap.size) : Rd2 78 (.agg #[.int .u8 16, .slice (some ⟨g, o, none⟩) 4 c]) (.int .i64 (-1)) w (.tuple #[.string ⟨(loR fL ⟨16, text, more, n, bits, high, b, kids⟩).toArray⟩, .bool false]) := by
  have hn64 : I64 n := ⟨by omega, by omega⟩
  have hz := itoaB_size n hn64
  have h := val16 (-1) rfl (some ⟨g, o, none⟩) 4 c n w (ok129 _ _ _ _ _ _ _ w (hand192 _ _ _ _ _ _ _ w (fun W hW => s32_u32 n hn ▸ readI32_any g o 4 c (u32 n) [] W rfl hc hcb (by unfold u32; omega) (by simpa using hr.lat hW)))) (itoaB n) (by omega) (fun W hW => fmtInt_c n W hn64 (hT.below hW h17)) hn
  rw [show (⟨#[123, 34, 36, 110, 117, 109, 98, 101, 114, 73, 110, 116, 34, 58, 34]⟩ ++ itoaB n ++ ⟨#[34, 125]⟩ : ByteArray) = ⟨(loR fL ⟨16, text, more, n, bits, high, b, kids⟩).toArray⟩ from ret_eq (by unfold loR; simp [itoaB])] at h
  exact h
theorem tv_17 (hb : bits < 18446744073709551616) (hc : 8 < c) (hcb : c ≤ 9223372036854775807) (hr : RD w g o (le64 bits)) (hT : TabC w) (h17 : 17 ≤ w.heap.size) : Rd2 78 (.agg #[.int .u8 17, .slice (some ⟨g, o, none⟩) 8 c]) (.int .i64 (-1)) w (.tuple #[.string ⟨(loR fL ⟨17, text, more, n, bits, high, b, kids⟩).toArray⟩, .bool false]) := by
  rw [le64_two bits hb] at hr
  have z1 := decB_len (bits / 4294967296) (by omega)
  have z2 := decB_len (bits % 4294967296) (by omega)
  have h := val17 (-1) rfl (some ⟨g, o, none⟩) 8 c (bits / 4294967296) (bits % 4294967296) w (ok130 _ _ _ _ _ _ _ _ w (fun W hW => readTs_any g o 8 c (bits % 4294967296) (bits / 4294967296) W rfl hc hcb (by omega) (by omega) (hr.lat hW))) (decB (bits / 4294967296)) (by omega) (fun W hW => fmtUint_c (bits / 4294967296) (by omega) W (hT.below hW h17)) (decB (bits % 4294967296)) (by omega) (fun W hW => fmtUint_c (bits % 4294967296) (by omega) W (hT.below hW h17)) (by omega) (by omega)
  rw [show (⟨#[123, 34, 36, 116, 105, 109, 101, 115, 116, 97, 109, 112, 34, 58, 123, 34, 116, 34, 58]⟩ ++ decB (bits / 4294967296) ++ ⟨#[44, 34, 105, 34, 58]⟩ ++ decB (bits % 4294967296) ++ ⟨#[125, 125]⟩ : ByteArray) = ⟨(loR fL ⟨17, text, more, n, bits, high, b, kids⟩).toArray⟩ from ret_eq (by unfold loR spR; simp [decB])] at h
  exact h
theorem tv_19 (hb : bits < 18446744073709551616) (hh : high < 18446744073709551616) (hc : 16 < c) (hcb : c ≤ 9223372036854775807) (hr : RD w g o (le64 bits ++ le64 high)) (hT : TabC w) (h17 : 17 ≤ w.heap.size) : Rd2 78 (.agg #[.int .u8 19, .slice (some ⟨g, o, none⟩) 16 c]) (.int .i64 (-1)) w (.tuple #[.string ⟨(loR fL ⟨19, text, more, n, bits, high, b, kids⟩).toArray⟩, .bool false]) := by
  have h := val19 (-1) rfl (some ⟨g, o, none⟩) 16 c high bits w (ok132 _ _ _ _ _ _ _ _ w (fun W hW => readDec_any g o 16 c bits high W rfl hc hcb hb hh (hr.lat hW))) ⟨(decT high bits).toArray⟩ (by show (decT high bits).toArray.size ≤ _; rw [List.size_toArray]; exact decT_len high bits hb) (fun W hW => decStr_any high bits hh hb W (hT.below hW h17) (by have := hW.size; omega))
  rw [show (⟨#[123, 34, 36, 110, 117, 109, 98, 101, 114, 68, 101, 99, 105, 109, 97, 108, 34, 58, 34]⟩ ++ ⟨(decT high bits).toArray⟩ ++ ⟨#[34, 125]⟩ : ByteArray) = ⟨(loR fL ⟨19, text, more, n, bits, high, b, kids⟩).toArray⟩ from ret_eq (by unfold loR spR; simp)] at h
  exact h
theorem tv_11 (hs : text.size ≤ 300) (hu : UT text) (hm : more.size ≤ 300) (hri : Rising more.data.toList) (h0 : 0 ∉ text.data.toList) (h1 : 0 ∉ more.data.toList) (hc : text.size + 1 + (more.size + 1) < c) (hcb : c ≤ 9223372036854775807) (hr : RD w g o (text.data.toList ++ 0 :: (more.data.toList ++ [0]))) (hT : TabX w) (h17 : 17 ≤ w.heap.size) :
    Rd2 78 (.agg #[.int .u8 11, .slice (some ⟨g, o, none⟩) (text.size + 1 + (more.size + 1)) c]) (.int .i64 (-1)) w (.tuple #[.string ⟨(loR fL ⟨11, text, more, n, bits, high, b, kids⟩).toArray⟩, .bool false]) := by
  have h := val11 (-1) rfl (some ⟨g, o, none⟩) (text.size + 1 + (more.size + 1)) c text more w (ok123 _ _ _ _ _ _ _ _ w (fun W hW => regex_any g o _ c text more W rfl hc hcb h0 h1 (hr.lat hW))) (soutB true text) (by have := soutB_size true text hs hu; omega) (escU text hs hu w hT h17) more (by omega) (fun W hW => srx_any more (by omega) hri W)
  rw [show (⟨#[123, 34, 36, 114, 101, 103, 117, 108, 97, 114, 69, 120, 112, 114, 101, 115, 115, 105, 111, 110, 34, 58, 123, 34, 112, 97, 116, 116, 101, 114, 110, 34, 58]⟩ ++ soutB true text ++ ⟨#[44, 34, 111, 112, 116, 105, 111, 110, 115, 34, 58, 34]⟩ ++ more ++ ⟨#[34, 125, 125]⟩ : ByteArray) = ⟨(loR fL ⟨11, text, more, n, bits, high, b, kids⟩).toArray⟩ from ret_eq (by unfold loR spR; simp [soutB, sout_plain more hri.1])] at h
  exact h
theorem tv_5 (hn : 0 ≤ n ∧ n ≤ 255) (hb : b.length ≤ 300) (hc : (binB n b).length < c) (hcb : c ≤ 9223372036854775807) (hr : RD w g o (binB n b)) : Rd2 78 (.agg #[.int .u8 5, .slice (some ⟨g, o, none⟩) (binB n b).length c]) (.int .i64 (-1)) w (.tuple #[.string ⟨(loR fL ⟨5, text, more, n, bits, high, b, kids⟩).toArray⟩, .bool false]) := by
  have hz : (b6B b).size ≤ 100000 := by show (b6 b).toArray.size ≤ _; rw [List.size_toArray, b6_length]; omega
  have hx : Rd 117 (.int .u8 n) w (.string (hex2B (n % 256).toNat)) := fun W hW => by
    have := hex2x_any (n % 256).toNat (by omega) W
    rwa [show (((n % 256).toNat : Nat) : Int) = n from by omega] at this
  have hfin : ∀ (h : Rd2 78 (.agg #[.int .u8 5, .slice (some ⟨g, o, none⟩) (binB n b).length c]) (.int .i64 (-1)) w (.tuple #[.string (⟨#[123, 34, 36, 98, 105, 110, 97, 114, 121, 34, 58, 123, 34, 98, 97, 115, 101, 54, 52, 34, 58, 34]⟩ ++ b6B b ++ ⟨#[34, 44, 34, 115, 117, 98, 84, 121, 112, 101, 34, 58, 34]⟩ ++ hex2B (n % 256).toNat ++ ⟨#[34, 125, 125]⟩), .bool false])), Rd2 78 (.agg #[.int .u8 5, .slice (some ⟨g, o, none⟩) (binB n b).length c]) (.int .i64 (-1)) w (.tuple #[.string ⟨(loR fL ⟨5, text, more, n, bits, high, b, kids⟩).toArray⟩, .bool false]) := by
    intro h
    rw [show (⟨#[123, 34, 36, 98, 105, 110, 97, 114, 121, 34, 58, 123, 34, 98, 97, 115, 101, 54, 52, 34, 58, 34]⟩ ++ b6B b ++ ⟨#[34, 44, 34, 115, 117, 98, 84, 121, 112, 101, 34, 58, 34]⟩ ++ hex2B (n % 256).toNat ++ ⟨#[34, 125, 125]⟩ : ByteArray) = ⟨(loR fL ⟨5, text, more, n, bits, high, b, kids⟩).toArray⟩ from ret_eq (by unfold loR spR; simp [b6B])] at h
    exact h
  refine hfin ?_
  by_cases h2 : n = 2
  · subst h2
    have e : binB 2 b = le32 (b.length + 4) ++ 2 :: (le32 b.length ++ b) := if_pos rfl
    rw [e] at hr hc ⊢
    have el : (le32 (b.length + 4) ++ 2 :: (le32 b.length ++ b)).length = 9 + b.length := by simp only [List.length_append, List.length_cons, le32_len]; omega
    rw [el] at hc ⊢
    have hr2 : RD w g (o + 4 + 1 + 4) b := by
      have q : RD w g o ((le32 (b.length + 4) ++ 2 :: le32 b.length) ++ b) := by simpa using hr
      have := q.right
      rw [show (le32 (b.length + 4) ++ 2 :: le32 b.length).length = 9 from rfl, show o + 9 = o + 4 + 1 + 4 from by omega] at this
      exact this
    exact val5 (-1) rfl (some ⟨g, o, none⟩) (9 + b.length) c 2 (some ⟨g, o + 4 + 1 + 4, none⟩) b.length (c - 4 - 1 - 4) w (ok115 _ _ _ _ _ _ _ _ _ _ w (fun W hW => readBin_old g o (9 + b.length) c b.length b W rfl rfl hc hcb (by omega) (hr.lat hW))) (b6B b) hz (fun W hW => zx64_any b.length b _ (c - 4 - 1 - 4) W rfl (by omega) (rb_rd (hr2.lat hW)) (by omega) (by omega)) _ (by show 2 ≤ 100; omega) hx
  · have e : binB n b = le32 b.length ++ u8 n :: b := if_neg h2
    rw [e] at hr hc ⊢
    have el : (le32 b.length ++ u8 n :: b).length = 5 + b.length := by simp only [List.length_append, List.length_cons, le32_len]; omega
    rw [el] at hc ⊢
    have hr2 : RD w g (o + 4 + 1) b := by
      have q : RD w g o ((le32 b.length ++ [u8 n]) ++ b) := by simpa using hr
      have := q.right
      rw [show (le32 b.length ++ [u8 n]).length = 5 from rfl, show o + 5 = o + 4 + 1 from by omega] at this
      exact this
    exact val5 (-1) rfl (some ⟨g, o, none⟩) (5 + b.length) c n (some ⟨g, o + 4 + 1, none⟩) b.length (c - 4 - 1) w (ok115 _ _ _ _ _ _ _ _ _ _ w (fun W hW => readBin_plain g o (5 + b.length) c b.length n hn (by simpa using h2) b W rfl rfl hc hcb (by omega) (hr.lat hW))) (b6B b) hz (fun W hW => zx64_any b.length b _ (c - 4 - 1) W rfl (by omega) (rb_rd (hr2.lat hW)) (by omega) (by omega)) _ (by show 2 ≤ 100; omega) hx
end
theorem VLen.lat {k : Int} {m : Nat} {v : Value} {w w2 : World} (h : VLen k m v w) (hb : Below w.heap.size w w2) : VLen k m v w2 := fun W hW => h W (hb.trans (hW.mono hb.size))
section
variable {K : Type} (kf : K → Int) (f fL : K → List UInt8) (l : List (ByteArray × K))
def posB (i : Nat) : Nat := 4 + (bodyB kf f (l.take i)).length
def lenB (i : Nat) : Nat := ((l[i]?).map fun p => (elB (kf p.2) p.1 (f p.2)).length).getD 0
def restB (i : Nat) : List UInt8 := bodyB kf f (l.drop (i + 1)) ++ [0]
theorem body_split (i : Nat) (p : ByteArray × K) (h : l[i]? = some p) : docB kf f l = le32 ((bodyB kf f l).length + 5) ++ bodyB kf f (l.take i) ++ (elB (kf p.2) p.1 (f p.2) ++ restB kf f l i) := by
  have h1 : bodyB kf f l = bodyB kf f (l.take (i + 1)) ++ bodyB kf f (l.drop (i + 1)) := by
    conv => lhs; rw [← List.take_append_drop (i + 1) l]
    unfold bodyB
    rw [List.flatMap_append]
  have h2 := body_take kf f l i p h
  unfold docB docW restB
  conv => lhs; arg 1; arg 2; rw [h1, h2]
  simp
/-- Where an element lies. -/
theorem elem_at (g o c : Nat) (w : World) (hr : RD w g o (docB kf f l)) (i : Nat) (p : ByteArray × K) (h : l[i]? = some p) :
    RD w g (o + posB kf f l i) (elB (kf p.2) p.1 (f p.2) ++ restB kf f l i) ∧ (docB kf f l).length = posB kf f l i + (elB (kf p.2) p.1 (f p.2)).length + (restB kf f l i).length ∧ 1 ≤ (restB kf f l i).length ∧ posB kf f l (i + 1) = posB kf f l i + (elB (kf p.2) p.1 (f p.2)).length ∧ lenB kf f l i = (elB (kf p.2) p.1 (f p.2)).length := by
  have h1 := body_split kf f l i p h
  refine ⟨?_, ?_, ?_, ?_, ?_⟩
  · rw [h1] at hr
    have := hr.right
    rw [List.length_append, le32_len] at this
    exact this
  · rw [h1]
    simp only [List.length_append, le32_len, posB]
    omega
  · simp [restB]
  · unfold posB
    rw [body_take kf f l i p h, List.length_append]
    omega
  · unfold lenB
    rw [h]
    rfl
/-- What is known of the values. -/
structure KidEnv (g : Nat) (w : World) : Prop where
  names : ∀ p ∈ l, 0 ∉ p.1.data.toList ∧ p.1.size ≠ 0 ∧ p.1.size ≤ 300
  kinds : ∀ p ∈ l, 0 ≤ kf p.2 ∧ kf p.2 ≤ 255
  vlen : ∀ p ∈ l, ∀ (o c : Nat) (r : List UInt8), RD w g o (f p.2 ++ r) → (f p.2).length + r.length ≤ c → c ≤ 9223372036854775807 → VLen (kf p.2) (f p.2).length (.slice (some ⟨g, o, none⟩) ((f p.2).length + r.length) c) w
theorem kid_read (g o c : Nat) (w : World) (E : KidEnv kf f l g w) (hl : (docB kf f l).length ≤ 1000000) (hc : (docB kf f l).length ≤ c) (hcb : c ≤ 9223372036854775807) (hr : RD w g o (docB kf f l)) :
    LEnv g o (docB kf f l).length c l.length (posB kf f l) (lenB kf f l) w := by
  refine ⟨by simp [posB, bodyB], fun i hi => ?_, ?_, fun i hi => ?_, fun i hi => ?_, fun i hi => ?_⟩
  · obtain ⟨p, hp⟩ : ∃ p, l[i]? = some p := ⟨_, List.getElem?_eq_getElem hi⟩
    obtain ⟨a1, a2, a3, a4, a5⟩ := elem_at kf f l g o c w hr i p hp
    rw [a4, a5]
  · unfold posB docB
    rw [List.take_length, docW_len]
    omega
  · obtain ⟨p, hp⟩ : ∃ p, l[i]? = some p := ⟨_, List.getElem?_eq_getElem hi⟩
    obtain ⟨a1, a2, a3, a4, a5⟩ := elem_at kf f l g o c w hr i p hp
    rw [a5]
    omega
  · obtain ⟨p, hp⟩ : ∃ p, l[i]? = some p := ⟨_, List.getElem?_eq_getElem hi⟩
    obtain ⟨a1, a2, a3, a4, a5⟩ := elem_at kf f l g o c w hr i p hp
    rw [a5, elB_len]
    omega
  · obtain ⟨p, hp⟩ : ∃ p, l[i]? = some p := ⟨_, List.getElem?_eq_getElem hi⟩
    obtain ⟨a1, a2, a3, a4, a5⟩ := elem_at kf f l g o c w hr i p hp
    have hmem := List.mem_of_getElem? hp
    obtain ⟨hn0, hn1, hn2⟩ := E.names p hmem
    obtain ⟨hk1, hk2⟩ := E.kinds p hmem
    have e1 : p.1.data.toList.length = p.1.size := Array.length_toList
    have el := elB_len (kf p.2) p.1 (f p.2)
    rw [a5]
    obtain ⟨q, hq⟩ : ∃ q, posB kf f l i = q := ⟨_, rfl⟩
    rw [hq] at a1 a2 ⊢
    obtain ⟨rs, hrs⟩ : ∃ rs, restB kf f l i = rs := ⟨_, rfl⟩
    rw [hrs] at a1 a2 a3
    obtain ⟨N, hN⟩ : ∃ N, (docB kf f l).length = N := ⟨_, rfl⟩
    rw [hN] at a2 hl hc ⊢
    obtain ⟨v, hv⟩ : ∃ v, f p.2 = v := ⟨_, rfl⟩
    have hvl := E.vlen p hmem (o + q + (p.1.size + 1 + 1)) (c - q - (p.1.size + 1 + 1)) rs
    rw [hv] at a1 a2 el hvl ⊢
    rw [el] at a2 ⊢
    have a1' : RD w g (o + q) (u8 (kf p.2) :: (p.1.data.toList ++ 0 :: (v ++ rs))) := by
      have : elB (kf p.2) p.1 v ++ rs = u8 (kf p.2) :: (p.1.data.toList ++ 0 :: (v ++ rs)) := by simp [elB]
      rw [← this]
      exact a1
    have a1v : RD w g (o + q + (p.1.size + 1 + 1)) (v ++ rs) := by
      have h1 : RD w g (o + q) ((u8 (kf p.2) :: (p.1.data.toList ++ [0])) ++ (v ++ rs)) := by simpa using a1'
      have h2 := h1.right
      rw [show (u8 (kf p.2) :: (p.1.data.toList ++ [0])).length = p.1.size + 1 + 1 from by simp only [List.length_cons, List.length_append, List.length_nil]; omega] at h2
      exact h2
    have hvl2 := hvl a1v (by omega) (by omega)
    rw [show v.length + rs.length = N - q - (p.1.size + 1 + 1) from by omega] at hvl2
    intro W hW
    have h := readElem g (o + q) (N - q) (c - q) (p.1.size + 1) v.length (kf p.2) (u8 (kf p.2)) p.1.data.toList (v ++ rs) W (u8_val _ ⟨hk1, hk2⟩) (by omega) (by simp only [List.length_append]; omega) (by simp only [List.length_append]; omega) (by omega) (by omega) (by omega) hn0 (a1'.lat hW) (hvl2.lat hW)
    rw [show p.1.size + 1 + 1 + v.length = p.1.size + 2 + v.length from by omega, show o + q + (p.1.size + 2 + v.length) = o + q + (p.1.size + 2 + v.length) from rfl] at h
    exact h
end
/-- What the reader says of one value, wherever its bytes lie in a block. -/
structure TxK (k : Int) (v s : List UInt8) (g : Nat) (w : World) : Prop where
  val : ∀ o c, RD w g o v → v.length < c → c ≤ 9223372036854775807 → Rd2 78 (.agg #[.int .u8 k, .slice (some ⟨g, o, none⟩) v.length c]) (.int .i64 (-1)) w (.tuple #[.string ⟨s.toArray⟩, .bool false])
  str : k = 2 → ∀ o c, RD w g o v → v.length < c → c ≤ 9223372036854775807 → ∃ x, Rd 109 (.agg #[.int .u8 2, .slice (some ⟨g, o, none⟩) v.length c]) w (.tuple #[.string x, .bool true])
  arr : k = 4 → ∀ o c, RD w g o v → v.length < c → c ≤ 9223372036854775807 → ∃ X n0 c0, Rd 112 (.agg #[.int .u8 4, .slice (some ⟨g, o, none⟩) v.length c]) w (.tuple #[.slice X n0 c0, .bool true]) ∧ Rd2 51 (.slice X n0 c0) (.int .i64 (-1)) w (.tuple #[.string ⟨s.toArray⟩, .bool false])
section
variable {K : Type} (kf : K → Int) (f fL : K → List UInt8) (l : List (ByteArray × K))
theorem elTx (p : ByteArray × K) (g : Nat) (w : World) (hn0 : 0 ∉ p.1.data.toList) (hn1 : p.1.size ≠ 0) (hn2 : p.1.size ≤ 300) (hk : 0 ≤ kf p.2 ∧ kf p.2 ≤ 255) (hf : (f p.2).length ≤ 1000000) (hfL : (fL p.2).length ≤ 1000000000)
    (hv : ∀ (o c : Nat) (r : List UInt8), RD w g o (f p.2 ++ r) → (f p.2).length + r.length ≤ c → c ≤ 9223372036854775807 → VLen (kf p.2) (f p.2).length (.slice (some ⟨g, o, none⟩) ((f p.2).length + r.length) c) w)
    (hx : TxK (kf p.2) (f p.2) (fL p.2) g w) (o c : Nat) (hr : RD w g o (elB (kf p.2) p.1 (f p.2))) (hc : (elB (kf p.2) p.1 (f p.2)).length < c) (hcb : c ≤ 9223372036854775807) :
    Rd2 104 (.slice (some ⟨g, o, none⟩) (elB (kf p.2) p.1 (f p.2)).length c) (.int .i64 (-1)) w (.tuple #[.string ⟨(meL p.1 (fL p.2)).toArray⟩, .bool false]) := by
  have e1 : p.1.data.toList.length = p.1.size := Array.length_toList
  have el := elB_len (kf p.2) p.1 (f p.2)
  have hrv : RD w g (o + (p.1.size + 2)) (f p.2) := by
    have h1 : RD w g o ((u8 (kf p.2) :: (p.1.data.toList ++ [0])) ++ f p.2) := by
      have : elB (kf p.2) p.1 (f p.2) = (u8 (kf p.2) :: (p.1.data.toList ++ [0])) ++ f p.2 := by simp [elB]
      rw [← this]
      exact hr
    have h2 := h1.right
    rw [show (u8 (kf p.2) :: (p.1.data.toList ++ [0])).length = p.1.size + 2 from by simp only [List.length_cons, List.length_append, List.length_nil]; omega] at h2
    exact h2
  rw [el] at hc ⊢
  have hvl := hv (o + (p.1.size + 2)) (c - (p.1.size + 2)) [] (by simpa using hrv) (by simp only [List.length_nil]; omega) (by omega)
  have hval := hx.val (o + (p.1.size + 2)) (c - (p.1.size + 2)) hrv (by omega) (by omega)
  have hstr := fun h => hx.str h (o + (p.1.size + 2)) (c - (p.1.size + 2)) hrv (by omega) (by omega)
  have harr := fun h => hx.arr h (o + (p.1.size + 2)) (c - (p.1.size + 2)) hrv (by omega) (by omega)
  rw [show (f p.2).length + ([] : List UInt8).length = p.1.size + 2 + (f p.2).length - (p.1.size + 2) from by simp only [List.length_nil]; omega] at hvl
  have hm : (⟨(meL p.1 (fL p.2)).toArray⟩ : ByteArray) = ⟨([34] ++ p.1.data.toList ++ [34, 58, 32] ++ (⟨(fL p.2).toArray⟩ : ByteArray).data.toList).toArray⟩ := by
    unfold meL
    simp
  rw [hm]
  have hS : (⟨(fL p.2).toArray⟩ : ByteArray).size ≤ 1000000000 := by
    show (fL p.2).toArray.size ≤ _
    rw [List.size_toArray]
    exact hfL
  have hu := u8_val (kf p.2) hk
  by_cases k2 : kf p.2 = 2
  · obtain ⟨x, hok⟩ := hstr k2
    rw [k2] at hval hvl
    exact el_str g o _ c p.1.size (f p.2).length (u8 (kf p.2)) p.1.data.toList (f p.2) w (by rw [hu, k2]) e1 (by omega) (by omega) rfl rfl hc hcb (by omega) hn0 hr hvl _ hS x hok hval
  by_cases k4 : kf p.2 = 4
  · obtain ⟨X, n0, c0, hok, h51⟩ := harr k4
    rw [k4] at hvl
    exact el_arr g o _ c p.1.size (f p.2).length (u8 (kf p.2)) p.1.data.toList (f p.2) w (by rw [hu, k4]) e1 (by omega) (by omega) rfl rfl hc hcb (by omega) hn0 hr hvl _ hS X n0 c0 hok h51
  exact el_other g o _ c p.1.size (f p.2).length (kf p.2) (by simpa using k2) (by simpa using k4) (u8 (kf p.2)) p.1.data.toList (f p.2) w hu e1 (by omega) (by omega) rfl rfl hc hcb (by omega) hn0 hr hvl _ hS (valStr (kf p.2) _ _ _ w _ _ hval)
/-- What is known of the kids, all of it. -/
structure AllEnv (g : Nat) (w : World) : Prop where
  kid : KidEnv kf f l g w
  len : ∀ p ∈ l, (f p.2).length ≤ 1000000 ∧ (fL p.2).length ≤ 1000000000
  tx : ∀ p ∈ l, TxK (kf p.2) (f p.2) (fL p.2) g w
theorem docLen (g o c : Nat) (w : World) (hl : (docB kf f l).length ≤ 1000000) (hc : (docB kf f l).length ≤ c) (hcb : c ≤ 9223372036854775807) (hr : RD w g o (docB kf f l)) : Rd 73 (.slice (some ⟨g, o, none⟩) (docB kf f l).length c) w (.tuple #[.int .i32 ((docB kf f l).length : Int), .slice (some ⟨g, o + 4, none⟩) ((docB kf f l).length - 4) (c - 4), .bool true]) := by
  have e : docB kf f l = le32 (docB kf f l).length ++ (bodyB kf f l ++ [0]) := by
    have h1 : (docB kf f l).length = (bodyB kf f l).length + 5 := docW_len _
    rw [h1]
    unfold docB docW
    simp
  have h5 : (docB kf f l).length = (bodyB kf f l).length + 5 := docW_len _
  intro W hW
  exact readLen_le g o _ c (docB kf f l).length (bodyB kf f l ++ [0]) W (by simp only [List.length_append, List.length_cons, List.length_nil]; omega) hc (by omega) hcb (by omega) (e ▸ hr.lat hW)
theorem docTx (g o c : Nat) (w : World) (E : AllEnv kf f fL l g w) (hl : (docB kf f l).length ≤ 1000000) (hc : (docB kf f l).length ≤ c) (hcb : c ≤ 9223372036854775807) (hr : RD w g o (docB kf f l)) (hs : (sItems (loMem fL l)).length ≤ 1000000000) :
    Rd2 72 (.slice (some ⟨g, o, none⟩) (docB kf f l).length c) (.int .i64 (-1)) w (.tuple #[.string ⟨(loDoc fL l).toArray⟩, .bool false]) := by
  have h5 : (docB kf f l).length = (bodyB kf f l).length + 5 := docW_len _
  have h := docN g o (docB kf f l).length c l.length (posB kf f l) (lenB kf f l) (loMem fL l) (fun i => ((l[i]?).map fun p => (⟨(meL p.1 (fL p.2)).toArray⟩ : ByteArray)).getD ⟨#[]⟩) w (by omega) (by omega) hc hcb (by simp [loMem]) hs (fun i hi => by
      obtain ⟨p, hp⟩ : ∃ p, l[i]? = some p := ⟨_, List.getElem?_eq_getElem hi⟩
      unfold loMem
      rw [List.getElem?_map]
      simp [hp]) (fun i hi => by
      obtain ⟨p, hp⟩ : ∃ p, l[i]? = some p := ⟨_, List.getElem?_eq_getElem hi⟩
      have hmem := List.mem_of_getElem? hp
      have h1 := item_le (loMem fL l) (meL p.1 (fL p.2)) (List.mem_map.2 ⟨p, hmem, rfl⟩)
      simp only [hp, Option.map_some, Option.getD_some]
      show (meL p.1 (fL p.2)).toArray.size ≤ _
      rw [List.size_toArray]
      omega) (kid_read kf f l g o c w E.kid hl hc hcb hr) (docLen kf f l g o c w hl hc hcb hr) (fun i hi => by
      obtain ⟨p, hp⟩ : ∃ p, l[i]? = some p := ⟨_, List.getElem?_eq_getElem hi⟩
      have hmem := List.mem_of_getElem? hp
      obtain ⟨a1, a2, a3, a4, a5⟩ := elem_at kf f l g o c w hr i p hp
      obtain ⟨n0, n1, n2⟩ := E.kid.names p hmem
      simp only [hp, Option.map_some, Option.getD_some]
      rw [a5]
      exact elTx kf f fL p g w n0 n1 n2 (E.kid.kinds p hmem) (E.len p hmem).1 (E.len p hmem).2 (E.kid.vlen p hmem) (E.tx p hmem) (o + posB kf f l i) (c - posB kf f l i) a1.left (by omega) (by omega))
  have e : loDoc fL l = [123] ++ sItems (loMem fL l) ++ [125] := by unfold loDoc; simp
  rw [e]
  exact h
theorem arrTx (g o c : Nat) (w : World) (E : AllEnv kf f fL l g w) (hl : (docB kf f l).length ≤ 1000000) (hc : (docB kf f l).length ≤ c) (hcb : c ≤ 9223372036854775807) (hr : RD w g o (docB kf f l)) (hs : (sItems (spItem fL l)).length ≤ 1000000000) :
    Rd2 51 (.slice (some ⟨g, o, none⟩) (docB kf f l).length c) (.int .i64 (-1)) w (.tuple #[.string ⟨(spArr fL l).toArray⟩, .bool false]) := by
  have h5 : (docB kf f l).length = (bodyB kf f l).length + 5 := docW_len _
  have h := arrN g o (docB kf f l).length c l.length (posB kf f l) (lenB kf f l) (spItem fL l) (fun i => ((l[i]?).map fun p => (⟨(fL p.2).toArray⟩ : ByteArray)).getD ⟨#[]⟩) w (by omega) (by omega) hc hcb (by simp [spItem]) hs (fun i hi => by
      obtain ⟨p, hp⟩ : ∃ p, l[i]? = some p := ⟨_, List.getElem?_eq_getElem hi⟩
      unfold spItem
      rw [List.getElem?_map]
      simp [hp]) (fun i hi => by
      obtain ⟨p, hp⟩ : ∃ p, l[i]? = some p := ⟨_, List.getElem?_eq_getElem hi⟩
      have hmem := List.mem_of_getElem? hp
      simp only [hp, Option.map_some, Option.getD_some]
      show (fL p.2).toArray.size ≤ _
      rw [List.size_toArray]
      exact (E.len p hmem).2) (kid_read kf f l g o c w E.kid hl hc hcb hr) (docLen kf f l g o c w hl hc hcb hr)
      (fun i => ((l[i]?).map fun p => kf p.2).getD 0) (fun i => some ⟨g, o + posB kf f l i + (((l[i]?).map fun p => p.1.size).getD 0 + 2), none⟩) (fun i => ((l[i]?).map fun p => (f p.2).length).getD 0) (fun i => c - posB kf f l i - (((l[i]?).map fun p => p.1.size).getD 0 + 2)) (fun i hi => by
      obtain ⟨p, hp⟩ : ∃ p, l[i]? = some p := ⟨_, List.getElem?_eq_getElem hi⟩
      have hmem := List.mem_of_getElem? hp
      obtain ⟨a1, a2, a3, a4, a5⟩ := elem_at kf f l g o c w hr i p hp
      obtain ⟨n0, n1, n2⟩ := E.kid.names p hmem
      have e1 : p.1.data.toList.length = p.1.size := Array.length_toList
      have el := elB_len (kf p.2) p.1 (f p.2)
      have hf := (E.len p hmem).1
      simp only [hp, Option.map_some, Option.getD_some]
      obtain ⟨q, hq⟩ : ∃ q, posB kf f l i = q := ⟨_, rfl⟩
      have hrE : RD w g (o + q) (elB (kf p.2) p.1 (f p.2)) := hq ▸ a1.left
      have hrv : RD w g (o + q + (p.1.size + 2)) (f p.2) := by
        have h1 : RD w g (o + q) ((u8 (kf p.2) :: (p.1.data.toList ++ [0])) ++ f p.2) := by
          have : elB (kf p.2) p.1 (f p.2) = (u8 (kf p.2) :: (p.1.data.toList ++ [0])) ++ f p.2 := by simp [elB]
          rw [← this]
          exact hrE
        have h2 := h1.right
        rw [show (u8 (kf p.2) :: (p.1.data.toList ++ [0])).length = p.1.size + 2 from by simp only [List.length_cons, List.length_append, List.length_nil]; omega] at h2
        exact h2
      rw [a5, el, hq]
      rw [hq, el] at a2
      have hvl := E.kid.vlen p hmem (o + q + (p.1.size + 2)) (c - q - (p.1.size + 2)) [] (by simpa using hrv) (by simp only [List.length_nil]; omega) (by omega)
      rw [show (f p.2).length + ([] : List UInt8).length = p.1.size + 2 + (f p.2).length - (p.1.size + 2) from by simp only [List.length_nil]; omega] at hvl
      refine ⟨?_, (E.tx p hmem).val (o + q + (p.1.size + 2)) (c - q - (p.1.size + 2)) hrv (by omega) (by omega)⟩
      exact elemVal _ _ _ (kf p.2) _ _ _ w (valErr g (o + q) _ (c - q) p.1.size (f p.2).length (kf p.2) (u8 (kf p.2)) p.1.data.toList (f p.2) w (u8_val _ (E.kid.kinds p hmem)) e1 rfl rfl (by omega) (by omega) (by omega) n0 hrE hvl))
  have e : spArr fL l = [91] ++ sItems (spItem fL l) ++ [93] := by unfold spArr; simp
  rw [e]
  exact h
end
/-- What is claimed of the reader at one depth. -/
def TxAt (d : Nat) : Prop := ∀ (t : VT d), OkV d t → (valB d t).length ≤ 1000000 → (loV d t).length ≤ 1000000000 → ∀ (g : Nat) (w : World), TabX w → 17 ≤ w.heap.size → TxK (kindV d t) (valB d t) (loV d t) g w
theorem kindV_u8 : ∀ (d : Nat) (t : VT d), OkV d t → 0 ≤ kindV d t ∧ kindV d t ≤ 255
  | 0, t, _ => t.elim
  | d + 1, t, hO => by
    have h : OkR (OkV d) t := hO
    have := h.kind
    show 0 ≤ t.kind ∧ t.kind ≤ 255
    omega
theorem vlenV : ∀ (d : Nat) (t : VT d), OkV d t → (valB d t).length ≤ 1000000 → ∀ (g o c : Nat) (r : List UInt8) (w : World), RD w g o (valB d t ++ r) → (valB d t).length + r.length ≤ c → c ≤ 9223372036854775807 → VLen (kindV d t) (valB d t).length (.slice (some ⟨g, o, none⟩) ((valB d t).length + r.length) c) w
  | 0, t, _, _ => t.elim
  | d + 1, t, hO, hl => fun g o c r w hr hc hcb => vlen_any (OkV d) (kindV d) (valB d) t hO _ rfl (by have : (valR (kindV d) (valB d) t).length ≤ 1000000 := hl; omega) g o c r w hc hcb hr
theorem allEnv {d : Nat} (IH : TxAt d) (l : List (ByteArray × VT d)) (hk : ∀ p ∈ l, p.1.size ≤ 300 ∧ UT p.1 ∧ p.1.size ≠ 0 ∧ 0 ∉ p.1.data.toList ∧ sout true p.1 = 34 :: (p.1.data.toList ++ [34]) ∧ OkV d p.2) (hl : ∀ p ∈ l, (valB d p.2).length ≤ 1000000) (hlo : ∀ p ∈ l, (loV d p.2).length ≤ 1000000000) (g : Nat) (w : World) (hT : TabX w) (h17 : 17 ≤ w.heap.size) : AllEnv (kindV d) (valB d) (loV d) l g w :=
  ⟨⟨fun p hp => ⟨(hk p hp).2.2.2.1, (hk p hp).2.2.1, (hk p hp).1⟩, fun p hp => kindV_u8 d p.2 (hk p hp).2.2.2.2.2, fun p hp o c r hr hc hcb => vlenV d p.2 (hk p hp).2.2.2.2.2 (hl p hp) g o c r w hr hc hcb⟩, fun p hp => ⟨hl p hp, hlo p hp⟩, fun p hp => IH p.2 (hk p hp).2.2.2.2.2 (hl p hp) (hlo p hp) g w hT h17⟩
theorem docRow {K : Type} (kf : K → Int) (f : K → List UInt8) (l : List (ByteArray × K)) (g o c : Nat) (w : World) (hl : (docB kf f l).length ≤ 1000000) (hc : (docB kf f l).length < c) (hcb : c ≤ 9223372036854775807) (hr : RD w g o (docB kf f l)) :
    Rd 226 (.slice (some ⟨g, o, none⟩) (docB kf f l).length c) w (.tuple #[.slice (some ⟨g, o, none⟩) (docB kf f l).length c, .slice (some ⟨g, o + (docB kf f l).length, none⟩) 0 (c - (docB kf f l).length), .bool true]) := by
  have e : docB kf f l = le32 (docB kf f l).length ++ (bodyB kf f l ++ [0]) := by
    have h1 : (docB kf f l).length = (bodyB kf f l).length + 5 := docW_len _
    rw [h1]
    unfold docB docW
    simp
  have h5 : (docB kf f l).length = (bodyB kf f l).length + 5 := docW_len _
  intro W hW
  exact readRow_any g o _ c (bodyB kf f l ++ [0]) W (by simp only [List.length_append, List.length_cons, List.length_nil]; omega) (by omega) hc hcb (by omega) (e ▸ hr.lat hW)
theorem tx_step (d : Nat) (IH : TxAt d) : TxAt (d + 1) := by
  intro t hO hl hlo g w hT h17
  obtain ⟨kind, text, more, n, bits, high, b, kids⟩ := t
  have hO' : OkR (OkV d) ⟨kind, text, more, n, bits, high, b, kids⟩ := hO
  have hl' : (valR (kindV d) (valB d) ⟨kind, text, more, n, bits, high, b, kids⟩).length ≤ 1000000 := hl
  have hlo' : (loR (loV d) ⟨kind, text, more, n, bits, high, b, kids⟩).length ≤ 1000000000 := hlo
  have hft := hO'.text
  have hfm := hO'.more
  have hfb := hO'.b
  have hri := hO'.rising
  have hkd := hO'.kind
  have hbin := hO'.bin
  have hid := hO'.id
  have hbool := hO'.bool
  have hi32 := hO'.i32
  have hdbl := hO'.dbl
  have hn := hO'.n
  have hbits := hO'.bits
  have hhigh := hO'.high
  have hre := hO'.re
  have hkk := hO'.kids
  clear hO hO' hl hlo
  simp only at hft hfm hfb hri hkd hbin hid hbool hi32 hdbl hn hbits hhigh hre hkk
  show TxK kind (valR (kindV d) (valB d) ⟨kind, text, more, n, bits, high, b, kids⟩) (loR (loV d) ⟨kind, text, more, n, bits, high, b, kids⟩) g w
  have hcase : kind = 1 ∨ kind = 2 ∨ kind = 3 ∨ kind = 4 ∨ kind = 5 ∨ kind = 6 ∨ kind = 7 ∨ kind = 8 ∨ kind = 9 ∨ kind = 10 ∨ kind = 11 ∨ kind = 12 ∨ kind = 13 ∨ kind = 14 ∨ kind = 16 ∨ kind = 17 ∨ kind = 18 ∨ kind = 19 ∨ kind = 127 ∨ kind = 255 := by omega
  rcases hcase with rfl | rfl | rfl | rfl | rfl | rfl | rfl | rfl | rfl | rfl | rfl | rfl | rfl | rfl | rfl | rfl | rfl | rfl | rfl | rfl
  · exact ⟨fun o c hr hc hcb => tv_1 (loV d) text more n bits high b kids g o c w hbits (hdbl rfl) hc hcb hr hT.c h17, fun h => (by cases h), fun h => (by cases h)⟩
  · refine ⟨fun o c hr hc hcb => ?_, fun _ o c hr hc hcb => ?_, fun h => (by cases h)⟩
    · change RD w g o (txB text) at hr
      change (txB text).length < c at hc
      rw [txB_len] at hc
      have h := tv_2 (loV d) text more n bits high b kids g o c w hft.1 hft.2 hc hcb hr hT h17
      rw [← txB_len] at h
      exact h
    · change RD w g o (txB text) at hr
      change (txB text).length < c at hc
      rw [txB_len] at hc
      have h := tv_2ok text g o c w hft.1 hc hcb hr
      rw [← txB_len] at h
      exact ⟨text, h⟩
  · have hlo2 : (loDoc (loV d) kids).length ≤ 1000000000 := hlo'
    have hl2 : (docB (kindV d) (valB d) kids).length ≤ 1000000 := hl'
    have hl3 : (bodyB (kindV d) (valB d) kids).length ≤ 1000000 := by unfold docB at hl2; rw [docW_len] at hl2; omega
    have hs : (sItems (loMem (loV d) kids)).length ≤ 1000000000 := by unfold loDoc at hlo2; simp only [List.length_cons, List.length_append] at hlo2; omega
    have E := allEnv IH kids (hkk (.inl rfl)) (fun p hp => Nat.le_trans (body_item_le _ _ kids p hp) hl3) (fun p hp => Nat.le_trans (lo_item_le _ kids p hp) hs) g w hT h17
    refine ⟨fun o c hr hc hcb => ?_, fun h => (by cases h), fun h => (by cases h)⟩
    exact val3 (-1) _ _ _ _ _ _ w _ false (ok111 _ _ _ _ _ _ _ _ _ w (hand174 _ _ _ _ _ _ _ _ _ w (docRow (kindV d) (valB d) kids g o c w hl2 hc hcb hr))) (docTx (kindV d) (valB d) (loV d) kids g o c w E hl2 (Nat.le_of_lt hc) hcb hr hs)
  · have hlo2 : (spArr (loV d) kids).length ≤ 1000000000 := hlo'
    have hl2 : (docB (kindV d) (valB d) kids).length ≤ 1000000 := hl'
    have hl3 : (bodyB (kindV d) (valB d) kids).length ≤ 1000000 := by unfold docB at hl2; rw [docW_len] at hl2; omega
    have hs : (sItems (spItem (loV d) kids)).length ≤ 1000000000 := by unfold spArr at hlo2; simp only [List.length_cons, List.length_append] at hlo2; omega
    have E := allEnv IH kids (hkk (.inr rfl)) (fun p hp => Nat.le_trans (body_item_le _ _ kids p hp) hl3) (fun p hp => Nat.le_trans (arr_item_le _ kids p hp) hs) g w hT h17
    have hok := fun o c (hr : RD w g o (docB (kindV d) (valB d) kids)) hc hcb => ok112 _ _ _ _ _ _ _ _ _ w (hand175 _ _ _ _ _ _ _ _ _ w (docRow (kindV d) (valB d) kids g o c w hl2 hc hcb hr))
    have h51 := fun o c (hr : RD w g o (docB (kindV d) (valB d) kids)) hc hcb => arrTx (kindV d) (valB d) (loV d) kids g o c w E hl2 hc hcb hr hs
    exact ⟨fun o c hr hc hcb => val4 (-1) _ _ _ _ _ _ w _ false (hok o c hr hc hcb) (h51 o c hr (Nat.le_of_lt hc) hcb), fun h => (by cases h), fun _ o c hr hc hcb => ⟨_, _, _, hok o c hr hc hcb, h51 o c hr (Nat.le_of_lt hc) hcb⟩⟩
  · exact ⟨fun o c hr hc hcb => tv_5 (loV d) text more n bits high b kids g o c w (hbin rfl) hfb hc hcb hr, fun h => (by cases h), fun h => (by cases h)⟩
  · exact ⟨fun o c hr hc hcb => tv_6 (loV d) text more n bits high b kids g o c w hc, fun h => (by cases h), fun h => (by cases h)⟩
  · have h12 := hid (.inl rfl)
    refine ⟨fun o c hr hc hcb => ?_, fun h => (by cases h), fun h => (by cases h)⟩
    change RD w g o b at hr
    change b.length < c at hc
    rw [h12] at hc
    have h := tv_7 (loV d) text more n bits high b kids g o c w h12 hc hcb hr
    rw [← h12] at h
    exact h
  · exact ⟨fun o c hr hc hcb => tv_8 (loV d) text more n bits high b kids g o c w (hbool rfl) hc hcb hr, fun h => (by cases h), fun h => (by cases h)⟩
  · exact ⟨fun o c hr hc hcb => tv_9 (loV d) text more n bits high b kids g o c w hn hc hcb hr hT.c h17, fun h => (by cases h), fun h => (by cases h)⟩
  · exact ⟨fun o c hr hc hcb => tv_10 (loV d) text more n bits high b kids g o c w hc, fun h => (by cases h), fun h => (by cases h)⟩
  · have e3 : (text.data.toList ++ 0 :: (more.data.toList ++ [0])).length = text.size + 1 + (more.size + 1) := by
      have e1 : text.data.toList.length = text.size := Array.length_toList
      have e2 : more.data.toList.length = more.size := Array.length_toList
      simp only [List.length_append, List.length_cons, List.length_nil]; omega
    refine ⟨fun o c hr hc hcb => ?_, fun h => (by cases h), fun h => (by cases h)⟩
    change RD w g o (text.data.toList ++ 0 :: (more.data.toList ++ [0])) at hr
    change (text.data.toList ++ 0 :: (more.data.toList ++ [0])).length < c at hc
    rw [e3] at hc
    have h := tv_11 (loV d) text more n bits high b kids g o c w hft.1 hft.2 hfm.1 (hri rfl) (hre rfl).1 (hre rfl).2 hc hcb hr hT h17
    rw [← e3] at h
    exact h
  · have h12 := hid (.inr rfl)
    have e3 : (txB text ++ b).length = text.size + 17 := by rw [List.length_append, txB_len]; omega
    refine ⟨fun o c hr hc hcb => ?_, fun h => (by cases h), fun h => (by cases h)⟩
    change RD w g o (txB text ++ b) at hr
    change (txB text ++ b).length < c at hc
    rw [e3] at hc
    have h := tv_12 (loV d) text more n bits high b kids g o c w hft.1 hft.2 h12 hc hcb hr hT h17
    rw [← e3] at h
    exact h
  · refine ⟨fun o c hr hc hcb => ?_, fun h => (by cases h), fun h => (by cases h)⟩
    change RD w g o (txB text) at hr
    change (txB text).length < c at hc
    rw [txB_len] at hc
    have h := tv_13 (loV d) text more n bits high b kids g o c w hft.1 hft.2 hc hcb hr hT h17
    rw [← txB_len] at h
    exact h
  · refine ⟨fun o c hr hc hcb => ?_, fun h => (by cases h), fun h => (by cases h)⟩
    change RD w g o (txB text) at hr
    change (txB text).length < c at hc
    rw [txB_len] at hc
    have h := tv_14 (loV d) text more n bits high b kids g o c w hft.1 hft.2 hc hcb hr hT h17
    rw [← txB_len] at h
    exact h
  · exact ⟨fun o c hr hc hcb => tv_16 (loV d) text more n bits high b kids g o c w (hi32 rfl) hc hcb hr hT.c h17, fun h => (by cases h), fun h => (by cases h)⟩
  · exact ⟨fun o c hr hc hcb => tv_17 (loV d) text more n bits high b kids g o c w hbits hc hcb hr hT.c h17, fun h => (by cases h), fun h => (by cases h)⟩
  · exact ⟨fun o c hr hc hcb => tv_18 (loV d) text more n bits high b kids g o c w hn hc hcb hr hT.c h17, fun h => (by cases h), fun h => (by cases h)⟩
  · exact ⟨fun o c hr hc hcb => tv_19 (loV d) text more n bits high b kids g o c w hbits hhigh hc hcb hr hT.c h17, fun h => (by cases h), fun h => (by cases h)⟩
  · exact ⟨fun o c hr hc hcb => tv_127 (loV d) text more n bits high b kids g o c w hc, fun h => (by cases h), fun h => (by cases h)⟩
  · exact ⟨fun o c hr hc hcb => tv_255 (loV d) text more n bits high b kids g o c w hc, fun h => (by cases h), fun h => (by cases h)⟩
theorem tx_all : ∀ d, TxAt d
  | 0 => fun t => t.elim
  | d + 1 => tx_step d (tx_all d)
theorem body_le2 {K : Type} (kf : K → Int) (f : K → List UInt8) (g : K → Nat) : ∀ (l : List (ByteArray × K)), (∀ p ∈ l, p.1.size ≤ 300 ∧ (f p.2).length + 310 ≤ 1000 * g p.2) →
    (bodyB kf f l).length ≤ 1000 * (l.map fun p => g p.2).sum
  | [], _ => by simp [bodyB]
  | p :: l, h => by
    have h1 := h p (by simp)
    have h2 := body_le2 kf f g l (fun q hq => h q (by simp [hq]))
    have e : bodyB kf f (p :: l) = elB (kf p.2) p.1 (f p.2) ++ bodyB kf f l := by simp [bodyB]
    have e2 : ((p :: l).map fun p => g p.2).sum = g p.2 + (l.map fun p => g p.2).sum := by simp
    rw [e, e2, List.length_append, elB_len]
    omega
theorem valR_len2 {K : Type} (fk rk : K → Prop) (kf : K → Int) (f : K → List UInt8) (g : K → Nat) (t : VR K) (hF : FitR fk t) (hR : RightR rk t) (h : ∀ k, fk k → rk k → (f k).length + 310 ≤ 1000 * g k) :
    (valR kf f t).length + 310 ≤ 1000 * cntR g t := by
  have h1 := hF.text.1
  have h2 := hF.more.1
  have h3 := hF.b
  have e1 : t.text.data.toList.length = t.text.size := Array.length_toList
  have e2 : t.more.data.toList.length = t.more.size := Array.length_toList
  have hb : (t.kind = 3 ∨ t.kind = 4) → (docB kf f t.kids).length ≤ 1000 * (t.kids.map fun p => g p.2).sum + 5 := by
    intro hk
    have := body_le2 kf f g t.kids (fun p hp => ⟨(hF.kids p hp).1, h p.2 (hF.kids p hp).2.2 (hR.kids (by omega) p hp)⟩)
    unfold docB
    rw [docW_len]
    omega
  have hbin : (binB t.n t.b).length ≤ t.b.length + 9 := by
    unfold binB
    split <;> simp [le32_len] <;> omega
  unfold cntR
  obtain ⟨S, hS⟩ : ∃ S, (t.kids.map fun p => g p.2).sum = S := ⟨_, rfl⟩
  rw [hS] at hb ⊢
  unfold valR
  by_cases k1 : t.kind = 1 ∨ t.kind = 17
  · rw [if_pos k1, le64_len]; omega
  rw [if_neg k1]
  by_cases k2 : t.kind = 2 ∨ t.kind = 13 ∨ t.kind = 14
  · rw [if_pos k2, txB_len]; omega
  rw [if_neg k2]
  by_cases k3 : t.kind = 3 ∨ t.kind = 4
  · rw [if_pos k3]; have := hb k3; omega
  rw [if_neg k3]
  by_cases k5 : t.kind = 5
  · rw [if_pos k5]; omega
  rw [if_neg k5]
  by_cases k7 : t.kind = 7
  · rw [if_pos k7]; omega
  rw [if_neg k7]
  by_cases k8 : t.kind = 8
  · rw [if_pos k8]; simp only [List.length_cons, List.length_nil]; omega
  rw [if_neg k8]
  by_cases k9 : t.kind = 9 ∨ t.kind = 18
  · rw [if_pos k9, le64_len]; omega
  rw [if_neg k9]
  by_cases k16 : t.kind = 16
  · rw [if_pos k16, le32_len]; omega
  rw [if_neg k16]
  by_cases k11 : t.kind = 11
  · rw [if_pos k11]; simp only [List.length_append, List.length_cons, List.length_nil]; omega
  rw [if_neg k11]
  by_cases k12 : t.kind = 12
  · rw [if_pos k12, List.length_append, txB_len]; omega
  rw [if_neg k12]
  by_cases k19 : t.kind = 19
  · rw [if_pos k19, List.length_append, le64_len, le64_len]; omega
  rw [if_neg k19]
  simp only [List.length_nil]; omega
theorem valB_len2 : ∀ (d : Nat) (t : VT d), FitV d t → RightV d t → (valB d t).length + 310 ≤ 1000 * cntV d t
  | 0, t, _, _ => t.elim
  | d + 1, t, hF, hR => valR_len2 (FitV d) (RightV d) (kindV d) (valB d) (cntV d) t hF hR (fun k h1 h2 => valB_len2 d k h1 h2)
theorem lodoc_len {K : Type} (f : K → List UInt8) (cn : K → Nat) (l : List (ByteArray × K)) (h : ∀ p ∈ l, p.1.size ≤ 300 ∧ (f p.2).length + 2000 ≤ 8000 * cn p.2) : (loDoc f l).length ≤ 2 + 8000 * (l.map fun p => cn p.2).sum := by
  have e : 8000 * (l.map fun p => cn p.2).sum = (l.map fun p => 8000 * cn p.2).sum := by
    clear h
    induction l with
    | nil => simp
    | cons a l ih => simp only [List.map_cons, List.sum_cons] at ih ⊢; omega
  rw [e]
  have h1 := sItems_sum (loMem f l)
  have h2 : ((loMem f l).map fun y => y.length + 1).sum ≤ (l.map fun p => 8000 * cn p.2).sum := by
    unfold loMem
    rw [List.map_map]
    refine sum_le l _ _ (fun p hp => ?_)
    obtain ⟨a, c⟩ := h p hp
    have e1 : p.1.data.toList.length = p.1.size := Array.length_toList
    simp only [Function.comp, meL, List.length_append, List.length_cons, List.length_nil]
    omega
  unfold loDoc
  simp only [List.length_cons, List.length_append, List.length_nil]
  omega
theorem loR_len {K : Type} (fk rk : K → Prop) (f : K → List UInt8) (cn : K → Nat) (t : VR K) (hF : FitR fk t) (hR : RightR rk t) (hn : I64 t.n) (hb : t.bits < 18446744073709551616) (hh : t.high < 18446744073709551616) (h : (t.kind = 3 ∨ t.kind = 4 ∨ t.kind = 15) → ∀ p ∈ t.kids, (f p.2).length + 2000 ≤ 8000 * cn p.2) : (loR f t).length + 2000 ≤ 8000 * cntR cn t := by
  have hs := spR_len true fk rk f cn t hF hR hn hb hh h
  have hc : 1 ≤ cntR cn t := by unfold cntR; omega
  have hi : (Lib.itoa t.n).length ≤ 100 := by
    have := itoaB_size t.n hn
    have e : (itoaB t.n).size = (Lib.itoa t.n).length := List.size_toArray
    omega
  unfold loR
  by_cases k1 : t.kind = 1
  · rw [if_pos k1]
    have := dblT_len t.bits hb
    simp only [List.length_append, List.length_cons, List.length_nil]
    omega
  rw [if_neg k1]
  by_cases k3 : t.kind = 3
  · rw [if_pos k3]
    have := lodoc_len f cn t.kids (fun p hp => ⟨(hF.kids p hp).1, h (.inl k3) p hp⟩)
    unfold cntR
    omega
  rw [if_neg k3]
  by_cases k4 : t.kind = 4
  · rw [if_pos k4]
    have := (doc_len true f cn t.kids (fun p hp => ⟨(hF.kids p hp).1, (hF.kids p hp).2.1, h (.inr (.inl k4)) p hp⟩)).2
    unfold cntR
    omega
  rw [if_neg k4]
  by_cases k16 : t.kind = 16
  · rw [if_pos k16]
    simp only [List.length_append, List.length_cons, List.length_nil]
    omega
  rw [if_neg k16]
  by_cases k18 : t.kind = 18
  · rw [if_pos k18]
    simp only [List.length_append, List.length_cons, List.length_nil]
    omega
  rw [if_neg k18]
  exact hs
theorem loV_len (w : World) : ∀ (d : Nat) (t : VT d) (cs : List Value), IsV w d t cs → FitV d t → RightV d t → (loV d t).length + 2000 ≤ 8000 * cntV d t
  | 0, t, _, _, _, _ => t.elim
  | d + 1, t, cs, hv, hF, hR => by
    obtain ⟨bv, kv, e, hk, hn, hbits, hhigh, hts, hms, hbv, ⟨A2, c2, e2, hc2, hc2b, hkr⟩⟩ := hv
    have hF' : FitR (FitV d) t := hF
    have hR' : RightR (RightV d) t := hR
    refine loR_len (FitV d) (RightV d) (loV d) (cntV d) t hF hR hn hbits hhigh (fun hk p hp => ?_)
    obtain ⟨i, hi, rfl⟩ := List.getElem_of_mem hp
    obtain ⟨_, ad, cs0, _, hR0, _, _⟩ := hkr i _ _ (List.getElem?_eq_getElem hi)
    exact loV_len w d _ cs0 hR0 (hF'.kids _ hp).2.2 (hR'.kids hk _ hp)
/-- The last byte alone is no element. -/
theorem readElem_no (g o c : Nat) (b : Int) (w : World) (hc : 1 ≤ c) (hcb : c ≤ 9223372036854775807) (h0 : w.cell? ⟨g, o, none⟩ = some (.int .u8 b)) :
    Rd 76 (.slice (some ⟨g, o, none⟩) 1 c) w (.tuple #[.slice none 0 0, .slice (some ⟨g, o, none⟩) 1 c, .bool false]) := by
  intro W hW
  have c0 : W.cell? ⟨g, o, none⟩ = some (.int .u8 b) := (hW.cell (p := ⟨g, o, none⟩) (World.block_lt_of_cell? w _ h0)).trans h0
  clear hW h0
  go_enter Tryz.func76, Tryz.ntmps76
  go_wp2_with fail
  go_loop [6] (fun i => i = .int .i64 1) (fun i => 0)
  case atStart => exact rfl
  case round =>
    obtain rfl := hrel
    go_wp2_with fail
    go_ret3
    exact ⟨rfl, Below.refl _ _⟩
section
variable {K : Type} (kf : K → Int) (f fL : K → List UInt8) (l : List (ByteArray × K)) 
/-- Where an element lies. -/
theorem elem_at2 (hd : List UInt8) (h4 : hd.length = 4) (g o c : Nat) (w : World) (hr : RD w g o (hd ++ (bodyB kf f l ++ [0]))) (i : Nat) (p : ByteArray × K) (h : l[i]? = some p) :
    RD w g (o + posB kf f l i) (elB (kf p.2) p.1 (f p.2) ++ restB kf f l i) ∧ (docB kf f l).length = posB kf f l i + (elB (kf p.2) p.1 (f p.2)).length + (restB kf f l i).length ∧ 1 ≤ (restB kf f l i).length ∧ posB kf f l (i + 1) = posB kf f l i + (elB (kf p.2) p.1 (f p.2)).length ∧ lenB kf f l i = (elB (kf p.2) p.1 (f p.2)).length := by
  have h1 := body_split kf f l i p h
  refine ⟨?_, ?_, ?_, ?_, ?_⟩
  · have h2 : bodyB kf f l ++ [0] = bodyB kf f (l.take i) ++ (elB (kf p.2) p.1 (f p.2) ++ restB kf f l i) := by
      have h3 := h1
      unfold docB docW at h3
      simp only [List.append_assoc] at h3
      exact (List.append_right_inj _).1 h3
    rw [h2, ← List.append_assoc] at hr
    have := hr.right
    rw [List.length_append, h4] at this
    exact this
  · rw [h1]
    simp only [List.length_append, le32_len, posB]
    omega
  · simp [restB]
  · unfold posB
    rw [body_take kf f l i p h, List.length_append]
    omega
  · unfold lenB
    rw [h]
    rfl
theorem kid_read2 (hd : List UInt8) (h4 : hd.length = 4) (g o c : Nat) (w : World) (E : KidEnv kf f l g w) (hl : (docB kf f l).length ≤ 1000000) (hc : (docB kf f l).length ≤ c) (hcb : c ≤ 9223372036854775807) (hr : RD w g o (hd ++ (bodyB kf f l ++ [0]))) :
    LEnv g o (docB kf f l).length c l.length (posB kf f l) (lenB kf f l) w := by
  refine ⟨by simp [posB, bodyB], fun i hi => ?_, ?_, fun i hi => ?_, fun i hi => ?_, fun i hi => ?_⟩
  · obtain ⟨p, hp⟩ : ∃ p, l[i]? = some p := ⟨_, List.getElem?_eq_getElem hi⟩
    obtain ⟨a1, a2, a3, a4, a5⟩ := elem_at2 kf f l hd h4 g o c w hr i p hp
    rw [a4, a5]
  · unfold posB docB
    rw [List.take_length, docW_len]
    omega
  · obtain ⟨p, hp⟩ : ∃ p, l[i]? = some p := ⟨_, List.getElem?_eq_getElem hi⟩
    obtain ⟨a1, a2, a3, a4, a5⟩ := elem_at2 kf f l hd h4 g o c w hr i p hp
    rw [a5]
    omega
  · obtain ⟨p, hp⟩ : ∃ p, l[i]? = some p := ⟨_, List.getElem?_eq_getElem hi⟩
    obtain ⟨a1, a2, a3, a4, a5⟩ := elem_at2 kf f l hd h4 g o c w hr i p hp
    rw [a5, elB_len]
    omega
  · obtain ⟨p, hp⟩ : ∃ p, l[i]? = some p := ⟨_, List.getElem?_eq_getElem hi⟩
    obtain ⟨a1, a2, a3, a4, a5⟩ := elem_at2 kf f l hd h4 g o c w hr i p hp
    have hmem := List.mem_of_getElem? hp
    obtain ⟨hn0, hn1, hn2⟩ := E.names p hmem
    obtain ⟨hk1, hk2⟩ := E.kinds p hmem
    have e1 : p.1.data.toList.length = p.1.size := Array.length_toList
    have el := elB_len (kf p.2) p.1 (f p.2)
    rw [a5]
    obtain ⟨q, hq⟩ : ∃ q, posB kf f l i = q := ⟨_, rfl⟩
    rw [hq] at a1 a2 ⊢
    obtain ⟨rs, hrs⟩ : ∃ rs, restB kf f l i = rs := ⟨_, rfl⟩
    rw [hrs] at a1 a2 a3
    obtain ⟨N, hN⟩ : ∃ N, (docB kf f l).length = N := ⟨_, rfl⟩
    rw [hN] at a2 hl hc ⊢
    obtain ⟨v, hv⟩ : ∃ v, f p.2 = v := ⟨_, rfl⟩
    have hvl := E.vlen p hmem (o + q + (p.1.size + 1 + 1)) (c - q - (p.1.size + 1 + 1)) rs
    rw [hv] at a1 a2 el hvl ⊢
    rw [el] at a2 ⊢
    have a1' : RD w g (o + q) (u8 (kf p.2) :: (p.1.data.toList ++ 0 :: (v ++ rs))) := by
      have : elB (kf p.2) p.1 v ++ rs = u8 (kf p.2) :: (p.1.data.toList ++ 0 :: (v ++ rs)) := by simp [elB]
      rw [← this]
      exact a1
    have a1v : RD w g (o + q + (p.1.size + 1 + 1)) (v ++ rs) := by
      have h1 : RD w g (o + q) ((u8 (kf p.2) :: (p.1.data.toList ++ [0])) ++ (v ++ rs)) := by simpa using a1'
      have h2 := h1.right
      rw [show (u8 (kf p.2) :: (p.1.data.toList ++ [0])).length = p.1.size + 1 + 1 from by simp only [List.length_cons, List.length_append, List.length_nil]; omega] at h2
      exact h2
    have hvl2 := hvl a1v (by omega) (by omega)
    rw [show v.length + rs.length = N - q - (p.1.size + 1 + 1) from by omega] at hvl2
    intro W hW
    have h := readElem g (o + q) (N - q) (c - q) (p.1.size + 1) v.length (kf p.2) (u8 (kf p.2)) p.1.data.toList (v ++ rs) W (u8_val _ ⟨hk1, hk2⟩) (by omega) (by simp only [List.length_append]; omega) (by simp only [List.length_append]; omega) (by omega) (by omega) (by omega) hn0 (a1'.lat hW) (hvl2.lat hW)
    rw [show p.1.size + 1 + 1 + v.length = p.1.size + 2 + v.length from by omega, show o + q + (p.1.size + 2 + v.length) = o + q + (p.1.size + 2 + v.length) from rfl] at h
    exact h
theorem docTxOver (Ln : Nat) (hLn : (docB kf f l).length < Ln) (hLb : Ln ≤ 1000000000) (g o c : Nat) (w : World) (E : AllEnv kf f fL l g w) (hl : (docB kf f l).length ≤ 1000000) (hc : (docB kf f l).length ≤ c) (hcb : c ≤ 9223372036854775807) (hr : RD w g o (le32 Ln ++ (bodyB kf f l ++ [0]))) (hs : (sItems (loMem fL l)).length ≤ 1000000000) :
    Rd2 72 (.slice (some ⟨g, o, none⟩) (docB kf f l).length c) (.int .i64 (-1)) w (.tuple #[.string ⟨#[]⟩, .bool false]) := by
  have h5 : (docB kf f l).length = (bodyB kf f l).length + 5 := docW_len _
  exact docOver g o (docB kf f l).length c l.length Ln hLn hLb (posB kf f l) (lenB kf f l) (loMem fL l) (fun i => ((l[i]?).map fun p => (⟨(meL p.1 (fL p.2)).toArray⟩ : ByteArray)).getD ⟨#[]⟩) w (by omega) (by omega) hc hcb (by simp [loMem]) hs (fun i hi => by
      obtain ⟨p, hp⟩ : ∃ p, l[i]? = some p := ⟨_, List.getElem?_eq_getElem hi⟩
      unfold loMem
      rw [List.getElem?_map]
      simp [hp]) (fun i hi => by
      obtain ⟨p, hp⟩ : ∃ p, l[i]? = some p := ⟨_, List.getElem?_eq_getElem hi⟩
      have hmem := List.mem_of_getElem? hp
      have h1 := item_le (loMem fL l) (meL p.1 (fL p.2)) (List.mem_map.2 ⟨p, hmem, rfl⟩)
      simp only [hp, Option.map_some, Option.getD_some]
      show (meL p.1 (fL p.2)).toArray.size ≤ _
      rw [List.size_toArray]
      omega) (kid_read2 kf f l (le32 Ln) (le32_len Ln) g o c w E.kid hl hc hcb hr) (fun W hW => readLen_le g o _ c Ln (bodyB kf f l ++ [0]) W (by simp only [List.length_append, List.length_cons, List.length_nil]; omega) hc (by omega) hcb (by omega) (hr.lat hW)) (fun i hi => by
      obtain ⟨p, hp⟩ : ∃ p, l[i]? = some p := ⟨_, List.getElem?_eq_getElem hi⟩
      have hmem := List.mem_of_getElem? hp
      obtain ⟨a1, a2, a3, a4, a5⟩ := elem_at2 kf f l (le32 Ln) (le32_len Ln) g o c w hr i p hp
      obtain ⟨n0, n1, n2⟩ := E.kid.names p hmem
      simp only [hp, Option.map_some, Option.getD_some]
      rw [a5]
      exact elTx kf f fL p g w n0 n1 n2 (E.kid.kinds p hmem) (E.len p hmem).1 (E.len p hmem).2 (E.kid.vlen p hmem) (E.tx p hmem) (o + posB kf f l i) (c - posB kf f l i) a1.left (by omega) (by omega)) (by
      have hpos : posB kf f l l.length = (docB kf f l).length - 1 := by unfold posB; rw [List.take_length]; omega
      have hr0 : RD w g (o + posB kf f l l.length) [0] := by
        have h6 : RD w g o ((le32 Ln ++ bodyB kf f l) ++ [0]) := by rw [List.append_assoc]; exact hr
        have h7 := h6.right
        rw [List.length_append, le32_len] at h7
        unfold posB
        rw [List.take_length]
        exact h7
      have e1 : (docB kf f l).length - posB kf f l l.length = 1 := by omega
      rw [e1]
      exact readElem_no g _ _ 0 w (by omega) (by omega) (hr0 0 0 rfl))
end
/-- Behind the guards: the bytes, the long text, what the reader says. -/
theorem texts_over (w0 : World) (d : Nat) (t : VT d) (k : Int) (tx mr : ByteArray) (n : Int) (b h : Nat) (A1 A2 : Option Addr) (n1 c1 n2 c2 : Nat) (hk3 : k = 3)
    (hv : IsV w0 d t [.int .i64 k, .string tx, .string mr, .int .i64 n, .int .u64 (b : Int), .int .u64 (h : Int), .slice A1 n1 c1, .slice A2 n2 c2]) (hF : Fits d t) (hL : LongV d t) (hT : TabC w0) (h17 : 17 ≤ w0.heap.size) :
    ∃ (D : List UInt8) (S : ByteArray), (1 ≤ S.size ∧ D = le32 D.length ++ D.drop 4) ∧ 5 ≤ D.length ∧ D.length ≤ 1000000 ∧
      (∀ W, Below w0.heap.size w0 W → Calls Tryz.prog 13 #[.slice A2 n2 c2] W (ObPost W.heap.size D W)) ∧
      (∀ W, Below w0.heap.size w0 W → Calls Tryz.prog 15 #[valV k tx mr n b h (.slice A1 n1 c1) (.slice A2 n2 c2)] W fun e w' => e = .returned (.string S) ∧ Below W.heap.size W w') ∧
      (∀ (g o c : Nat) (w : World), RD w g o D → D.length ≤ c → c ≤ 9223372036854775807 → TabX w → 17 ≤ w.heap.size → Rd2 72 (.slice (some ⟨g, o, none⟩) D.length c) (.int .i64 (-1)) w (.tuple #[.string S, .bool false])) ∧
      (∀ (Ln g o c : Nat) (w : World), D.length < Ln → Ln ≤ 1000000000 → RD w g o (le32 Ln ++ D.drop 4) → D.length ≤ c → c ≤ 9223372036854775807 → TabX w → 17 ≤ w.heap.size → Rd2 72 (.slice (some ⟨g, o, none⟩) D.length c) (.int .i64 (-1)) w (.tuple #[.string ⟨#[]⟩, .bool false])) := by
  cases d with
  | zero => exact t.elim
  | succ d =>
    obtain ⟨hfd, hcnt, hrb⟩ := hF
    have hR := rightB_right (d + 1) t 200 hrb
    have hFV := hfd.fit
    have hOk := okV_of w0 (d + 1) t _ 200 hv hFV hrb hL
    have hlo := loV_len w0 (d + 1) t _ hv hFV hR
    have hva := valB_len2 (d + 1) t hFV hR
    have h15 := longVal_at w0 hT h17 (d + 1) t _ hv hFV hR hL (by omega)
    obtain ⟨kind, text, more, n', bits, high, b', kids⟩ := t
    obtain ⟨bv, kv, e, hk, hn, hbits, hhigh, hts, hms, ⟨A1', c1', rfl, hc1, hc1b, hrb'⟩, hkv⟩ := id hv
    obtain ⟨A2', c2', rfl, hc2, hc2b, hkr⟩ := id hkv
    have hOk' : OkR (OkV d) ⟨kind, text, more, n', bits, high, b', kids⟩ := hOk
    have hR' : RightR (RightV d) ⟨kind, text, more, n', bits, high, b', kids⟩ := hR
    have hF' : FitR (FitV d) ⟨kind, text, more, n', bits, high, b', kids⟩ := hFV
    have hL' : LongR (LongV d) ⟨kind, text, more, n', bits, high, b', kids⟩ := hL
    simp only [List.cons.injEq, Value.int.injEq, Value.slice.injEq, and_true, true_and] at e
    obtain ⟨e1, _, _, _, _, _, _, rfl, rfl, rfl⟩ := e
    obtain rfl : kind = 3 := by omega
    have hva2 : (docB (kindV d) (valB d) kids).length + 310 ≤ 1000 * cntV (d + 1) ⟨3, text, more, n', bits, high, b', kids⟩ := hva
    have hlo2 : (loDoc (loV d) kids).length + 2000 ≤ 8000 * cntV (d + 1) ⟨3, text, more, n', bits, high, b', kids⟩ := hlo
    have hl2 : (docB (kindV d) (valB d) kids).length ≤ 1000000 := by omega
    have hl3 : (bodyB (kindV d) (valB d) kids).length ≤ 1000000 := by unfold docB at hl2; rw [docW_len] at hl2; omega
    have hs : (sItems (loMem (loV d) kids)).length ≤ 1000000000 := by unfold loDoc at hlo2; simp only [List.length_cons, List.length_append] at hlo2; omega
    have hlen5 : (docB (kindV d) (valB d) kids).length = (bodyB (kindV d) (valB d) kids).length + 5 := docW_len _
    have hdrop : (docB (kindV d) (valB d) kids).drop 4 = bodyB (kindV d) (valB d) kids ++ [0] := by
      unfold docB docW
      rw [List.append_assoc, List.drop_left' (le32_len _)]
    refine ⟨docB (kindV d) (valB d) kids, ⟨(loDoc (loV d) kids).toArray⟩, ?_, ?_, hl2, fun W hW => docBytes_at (docVal_at w0 d) kids hF'.kids (hR'.kids (.inl rfl)) (fun p hp => (hL'.kids p hp).2.2) hl2 _ _ hkv W hW, fun W hW => ?_, fun g o c w hr hc hcb hTX h17' => ?_, fun Ln g o c w hLn hLb hr hc hcb hTX h17' => ?_⟩
    · refine ⟨?_, ?_⟩
      · show 1 ≤ (loDoc (loV d) kids).toArray.size
        rw [List.size_toArray]
        unfold loDoc
        simp
      · rw [hdrop, hlen5]
        unfold docB docW
        simp
    · unfold docB
      rw [docW_len]
      omega
    · exact h15 W hW
    · exact docTx (kindV d) (valB d) (loV d) kids g o c w (allEnv (tx_all d) kids (hOk'.kids (.inl rfl)) (fun p hp => Nat.le_trans (body_item_le _ _ kids p hp) hl3) (fun p hp => Nat.le_trans (lo_item_le _ kids p hp) hs) g w hTX h17') hl2 hc hcb hr hs
    · rw [hdrop] at hr
      exact docTxOver (kindV d) (valB d) (loV d) kids Ln hLn hLb g o c w (allEnv (tx_all d) kids (hOk'.kids (.inl rfl)) (fun p hp => Nat.le_trans (body_item_le _ _ kids p hp) hl3) (fun p hp => Nat.le_trans (lo_item_le _ kids p hp) hs) g w hTX h17') hl2 hc hcb hr hs
theorem le32_over (L z : Nat) (rest : List UInt8) (h : L / 256 % 256 + z < 256) : (le32 L ++ rest).set 1 (UInt8.ofNat (L / 256 % 256 + z)) = le32 (L + 256 * z) ++ rest := by
  have e : ∀ a b : Nat, a % 256 = b % 256 → UInt8.ofNat a = UInt8.ofNat b := fun a b h => UInt8.toNat_inj.1 (by rw [UInt8.toNat_ofNat', UInt8.toNat_ofNat']; exact h)
  unfold le32
  show [UInt8.ofNat L, UInt8.ofNat (L / 256 % 256 + z), UInt8.ofNat (L / 65536), UInt8.ofNat (L / 16777216)] ++ rest = _
  rw [e L (L + 256 * z) (by omega), e (L / 256 % 256 + z) ((L + 256 * z) / 256) (by omega), e (L / 65536) ((L + 256 * z) / 65536) (by omega), e (L / 16777216) ((L + 256 * z) / 16777216) (by omega)]
/-- extDocument: some document, whose value is known. -/
def DocPostT (W : World) (e : Ending) (w' : World) : Prop := ∃ (tx mr : ByteArray) (n : Int) (b h : Nat) (A1 A2 : Option Addr) (n1 c1 n2 c2 : Nat) (d : Nat) (t : VT d),
  e = .returned (.agg #[.int .i64 3, .string tx, .string mr, .int .i64 n, .int .u64 (b : Int), .int .u64 (h : Int), .slice A1 n1 c1, .slice A2 n2 c2]) ∧
  IsV w' d t [.int .i64 3, .string tx, .string mr, .int .i64 n, .int .u64 (b : Int), .int .u64 (h : Int), .slice A1 n1 c1, .slice A2 n2 c2] ∧ Below W.heap.size W w'
theorem extDocumentT_any (w0 : World) (d : Nat) (t : VT d) (k : Int) (tx mr : ByteArray) (n : Int) (b h : Nat) (A1 A2 : Option Addr) (n1 c1 n2 c2 : Nat)
    (hv : IsV w0 d t [.int .i64 k, .string tx, .string mr, .int .i64 n, .int .u64 (b : Int), .int .u64 (h : Int), .slice A1 n1 c1, .slice A2 n2 c2]) (W : World) (hW : Below w0.heap.size w0 W) :
    Calls Tryz.prog 8 #[valV k tx mr n b h (.slice A1 n1 c1) (.slice A2 n2 c2)] W (DocPostT W) := by
  by_cases hk : k = 3
  · subst hk
    refine (extDoc_same tx mr n b h A1 A2 n1 c1 n2 c2 W).mono ?_
    rintro e w' ⟨rfl, hb⟩
    exact ⟨tx, mr, n, b, h, A1, A2, n1, c1, n2, c2, d, t, rfl, IsV.later (hW.trans (hb.mono hW.size)) d t _ hv, hb⟩
  · refine (extDoc_wrap k hk tx mr n b h A1 A2 n1 c1 n2 c2 W).mono ?_
    rintro e w' ⟨g, rfl, hb, hr⟩
    refine ⟨⟨#[]⟩, ⟨#[]⟩, 0, 0, 0, none, some ⟨g, 0, none⟩, 0, 0, 1, 1, d + 1, (⟨3, ⟨#[]⟩, ⟨#[]⟩, 0, 0, 0, [], [(⟨#[97]⟩, t)]⟩ : VR (VT d)), rfl, ?_, hb⟩
    refine ⟨_, _, rfl, (by show I64 3; unfold I64; omega), (by show I64 0; unfold I64; omega), (by show 0 < _; omega), (by show 0 < _; omega), (by show (⟨#[]⟩ : ByteArray).size ≤ _; decide), (by show (⟨#[]⟩ : ByteArray).size ≤ _; decide), ⟨none, 0, rfl, Nat.le_refl 0, by omega, fun h => absurd h (Nat.lt_irrefl 0)⟩, ⟨some ⟨g, 0, none⟩, 1, rfl, Nat.le_refl 1, by omega, fun i name kk hi => ?_⟩⟩
    match i, hi with
    | 0, hi =>
      simp only [List.getElem?_cons_zero, Option.some.injEq, Prod.mk.injEq] at hi
      obtain ⟨rfl, rfl⟩ := hi
      refine ⟨by decide, ⟨g, 0, none⟩, _, rfl, IsV.later (hW.trans (hb.mono hW.size)) d t _ hv, rfl, fun j u hu => ?_⟩
      rw [addr0]
      have := hr j u hu
      simpa using this
    | i + 1, hi => simp at hi
theorem OB.rd {B : Nat} {v : Value} {l : List UInt8} {W0 w : World} (h : OB B v l W0 w) (hl : 0 < l.length) : ∃ g c, v = .slice (some ⟨g, 0, none⟩) l.length c ∧ l.length ≤ c ∧ c ≤ 9223372036854775807 ∧ RD w g 0 l := by
  obtain ⟨h1, h2⟩ := h.1.1
  rcases h2 with ⟨rfl, hn⟩ | ⟨k, cap, cur, fr, rfl, hg, hh, hfz, hcap, hm, hsz, htake⟩
  · omega
  · refine ⟨k, cap, rfl, hcap, by unfold maxLen at hm; omega, fun i b hi => ?_⟩
    have hi' : i < l.length := (List.getElem?_eq_some_iff.1 hi).1
    rw [Nat.zero_add, blk_cell hh]
    have h3 : (cur.toList.take (l.length * 1))[i]? = (Lib.byteCells l)[i]? := by rw [htake]
    rw [List.getElem?_take, if_pos (by omega), Array.getElem?_toList] at h3
    rw [h3]
    simp [Lib.byteCells, hi]
theorem text46 (A : Option Addr) (n c : Nat) (S : ByteArray) (tr : Bool) (w : World) (h : Rd2 72 (.slice A n c) (.int .i64 (-1)) w (.tuple #[.string S, .bool tr])) : Rd 46 (.slice A n c) w (.string S) := by
  intro W hW
  have HC := Lib.hid (h W hW)
  clear h hW
  go_enter Tryz.func46, Tryz.ntmps46
  go_wp2_with (go_at_call 72; refine HC.out.mono ?_; rintro e w1 ⟨rfl, hb1⟩)
  go_ret
  exact ⟨rfl, hb1⟩
theorem text14 (A : Option Addr) (n c : Nat) (S : ByteArray) (w : World) (h : Rd 46 (.slice A n c) w (.string S)) : Rd 14 (.slice A n c) w (.string S) := by
  intro W hW
  have HC := Lib.hid (h W hW)
  clear h hW
  go_enter Tryz.func14, Tryz.ntmps14
  go_wp2_with (go_at_call 46; refine HC.out.mono ?_; rintro e w1 ⟨rfl, hb1⟩)
  go_ret
  exact ⟨rfl, hb1⟩
/-- A copy of bytes, appended to an empty literal: a block of its own, nothing of it frozen. -/
theorem ob_fresh {ops : Array Oper} {rest : List Oper} {o : Oper} {a : Act} {Q : Exit → Act → World → Prop} (hgd : o.guard = none) (s x : Operand)
    (ho : o.op = .call { callee := .builtin .append, args := #[s, x], argTypes := #[23, 23] })
    {w : World} (hs : a.eval s = .slice (some ⟨w.heap.size, 0, none⟩) 0 0) {ad : Addr} {m c : Nat} (t : List UInt8) (hm : t.length = m)
    (hx : a.eval x = .slice (some ad) m c) (hR : ∀ (j : Nat) (b : UInt8), t[j]? = some b → (w.alloc (.cells #[] 5)).cell? (ad.add j) = some (.int .u8 (b.toNat : Int))) (hlen : t.length ≤ 1000000000) (hpos : 0 < t.length)
    (h : ∀ g c' cur w', OB w.heap.size (.slice (some ⟨g, 0, none⟩) m c') t w w' → w'.heap[g]? = some (.cells cur 5 (0, 0)) → w.heap.size ≤ g → wpList Tryz.prog ops Q rest (a.put o.dst (.slice (some ⟨g, 0, none⟩) m c')) w') : wpList Tryz.prog ops Q (o :: rest) a (w.alloc (.cells #[] 5)) := by
  obtain ⟨i0, hi, hz0, hz1, hz2⟩ := info_parts info5
  refine wpList_append_own _ hgd s x 23 ho w.heap.size 5 i0 (.int .u8 0) 1 1 Tryz.underlying23 hi hz0 hz1 hz2 rfl (by decide) _ 0 [] hs ⟨rfl, .inr ⟨w.heap.size, 0, #[], rfl, Nat.le_refl _, heap_alloc_new w _, Nat.le_refl _, Nat.zero_le _, rfl, rfl⟩⟩ ad m c (Lib.byteCells t) hx (by rw [bc_len, hm]; omega) ?_ ?_ (by unfold maxLen; omega) (by omega) (by simp) ?_
  · intro j u hj
    simp only [Lib.byteCells, List.getElem?_map, Option.map_eq_some_iff] at hj
    obtain ⟨b, hb', rfl⟩ := hj
    exact hR j b hb'
  · intro u hu
    simp only [Lib.byteCells, List.mem_map] at hu
    obtain ⟨q, _, rfl⟩ := hu
    rfl
  · intro v' w' ho' hg _
    obtain ⟨hl, hor⟩ := ho'
    rw [Nat.zero_add, List.nil_append] at hl hor
    rcases hor with ⟨rfl, h0⟩ | ⟨g, cap, cur, rfl, hg0, hh, hc1, hc2, hc3, hc4⟩
    · omega
    · refine h g cap cur w' ?_ hh hg0
      refine (OB.made w 0 #[] rfl (by omega)).grow ?_ hg
      subst hm
      exact ⟨by rw [bc_len]; omega, .inr ⟨g, cap, cur, (0, 0), rfl, hg0, hh, Nat.zero_le _, hc1, hc2, hc3, hc4⟩⟩
theorem getD_le32 (L : Nat) (r : List UInt8) : ((le32 L ++ r).getD 1 0).toNat = L / 256 % 256 := by
  show (UInt8.ofNat (L / 256)).toNat = _
  rw [UInt8.toNat_ofNat']
theorem rd_set {w : World} {g : Nat} {cur : Array Value} {D : List UInt8} (hb : w.heap[g]? = some (.cells cur 5 (0, 0))) (hr : RD w g 0 D) (b : UInt8) (h1 : 1 < D.length) : RD (w.setCell ⟨g, 1, none⟩ (.int .u8 (b.toNat : Int))) g 0 (D.set 1 b) := by
  intro j x hx
  rw [Nat.zero_add, blk_cell (blk_set hb 1 _)]
  have hc : ∀ (i : Nat) (y : UInt8), D[i]? = some y → cur[i]? = some (Value.int .u8 (y.toNat : Int)) := fun i y hy => by
    have := hr i y hy
    rwa [Nat.zero_add, blk_cell hb] at this
  have hcs : 1 < cur.size := by
    have := hc 1 _ (List.getElem?_eq_getElem h1)
    exact (Array.getElem?_eq_some_iff.1 this).1
  by_cases hj : j = 1
  · subst hj
    rw [Array.getElem?_setIfInBounds_self_of_lt hcs]
    rw [List.getElem?_set_self h1] at hx
    injection hx with hx
    rw [hx]
  · rw [Array.getElem?_setIfInBounds_ne (by omega)]
    rw [List.getElem?_set_ne (by omega)] at hx
    exact hc j x hx
set_option maxHeartbeats 4000000 in
theorem law_nothing (W : World) (d : Nat) (t : VT d) (k : Int) (tx mr : ByteArray) (n : Int) (b h : Nat) (A1 A2 : Option Addr) (n1 c1 n2 c2 : Nat) (z : Nat) (hz : z < 256)
    (hv : IsV W d t [.int .i64 k, .string tx, .string mr, .int .i64 n, .int .u64 (b : Int), .int .u64 (h : Int), .slice A1 n1 c1, .slice A2 n2 c2]) (hT : TabX W) (h17 : 17 ≤ W.heap.size) :
    Calls Tryz.prog 4 #[.agg #[.int .i64 k, .string tx, .string mr, .int .i64 n, .int .u64 (b : Int), .int .u64 (h : Int), .slice A1 n1 c1, .slice A2 n2 c2], .int .u8 (z : Int)] W fun e w' => e = .returned (.bool true) ∧ Below W.heap.size W w' := by
  have hsz : tx.size ≤ 140737488351232 ∧ mr.size ≤ 140737488351232 ∧ n1 ≤ 140737488351232 ∧ n2 ≤ 140737488351232 := by
    cases d with
    | zero => exact t.elim
    | succ d =>
      obtain ⟨bv, kv, e, _, _, _, _, h1, h2, ⟨A, c, e1, h3, h4, _⟩, ⟨B, c', e2, h5, h6, _⟩⟩ := id hv
      simp only [List.cons.injEq, Value.string.injEq, Value.slice.injEq, and_true] at e e1 e2
      obtain ⟨_, rfl, rfl, _, _, _, rfl, rfl⟩ := e
      injection e1 with _ e1 e1c
      injection e2 with _ e2 e2c
      exact ⟨h1, h2, by omega, by omega⟩
  have HZ := Lib.hid (fun V => zz_any k tx mr n b h A1 A2 n1 c1 n2 c2 V hsz.1 hsz.2.1 hsz.2.2.1 hsz.2.2.2)
  have HD := Lib.hid (fun V hV => extDocumentT_any W d t k tx mr n b h A1 A2 n1 c1 n2 c2 hv V hV)
  have HTX := Lib.hid (fun (w2 : World) (hw2 : Below W.heap.size W w2) (d : Nat) (t : VT d) (tx mr : ByteArray) (n : Int) (b h : Nat) (A1 A2 : Option Addr) (n1 c1 n2 c2 : Nat) (hv2 : IsV w2 d t [.int .i64 3, .string tx, .string mr, .int .i64 n, .int .u64 (b : Int), .int .u64 (h : Int), .slice A1 n1 c1, .slice A2 n2 c2]) (hf : Fits d t ∧ LongV d t) =>
    texts_over w2 d t 3 tx mr n b h A1 A2 n1 c1 n2 c2 rfl hv2 hf.1 hf.2 (hT.below hw2 h17).c (by have := hw2.size; omega))
  have HXT := Lib.hid (fun (w2 : World) (hw2 : Below W.heap.size W w2) => (⟨hT.below hw2 h17, by have := hw2.size; omega⟩ : TabX w2 ∧ 17 ≤ w2.heap.size))
  have HFX := Lib.hid (fun (w2 : World) (hw2 : Below W.heap.size W w2) (d : Nat) (t : VT d) (cs : List Value) (hv2 : IsV w2 d t cs) (Y : World) (hY : Below w2.heap.size w2 Y) => extLong_any w2 (hT.below hw2 h17).c (by have := hw2.size; omega) d t cs hv2 Y hY)
  unfold valV at HZ HD
  obtain ⟨X, hX, hXb, hXs, hXc⟩ := box_cells W k tx mr n b h (.slice A1 n1 c1) (.slice A2 n2 c2)
  obtain ⟨l0, l1, l2, l3, l4, l5, l6, l7⟩ := box8 (hXc X (Below.refl _ _))
  have HX := Lib.hid hX
  have HXB := Lib.hid hXb
  have HXC := Lib.hid hXc
  clear hv hT h17 hsz hX hXb hXc hXs
  go_enter Tryz.func4, Tryz.ntmps4
  go_upto_region 1 with fail
  rw [HX.out]
  go_wp2_with (go_at_call 7; refine (HZ.out _).mono ?_; rintro e w1 ⟨v, rfl, hb1⟩; refine Hid.out ?_)
  refine Lib.hid ?_
  clear l0 l1 l2 l3 l4 l5 l6 l7
  have HB1 := Lib.hid (HXB.out.trans (hb1.mono HXB.out.size))
  obtain ⟨l0, l1, l2, l3, l4, l5, l6, l7⟩ := box8 (HXC.out w1 hb1)
  clear hb1
  cases v
  · go_wp2_with fail
    go_ret
    exact ⟨rfl, HB1.out⟩
  · go_wp2_with (go_at_call 8; refine (HD.out _ HB1.out).mono ?_; rintro e w2 ⟨tx2, mr2, vn2, b2, h2, B1, B2, m1, e1, m2, e2, d2, t2, rfl, hv2, hb2⟩; refine Hid.out ?_)
    refine Lib.hid ?_
    clear l0 l1 l2 l3 l4 l5 l6 l7
    have hB2 := HB1.out.trans (hb2.mono HB1.out.size)
    have HB2 := Lib.hid hB2
    have HT2 := Lib.hid (HTX.out w2 hB2 d2 t2 tx2 mr2 vn2 b2 h2 B1 B2 m1 e1 m2 e2 hv2)
    obtain ⟨Y, hY, hYb, hYs, hYc⟩ := box_cells w2 3 tx2 mr2 vn2 b2 h2 (.slice B1 m1 e1) (.slice B2 m2 e2)
    have HF := Lib.hid (HFX.out w2 hB2 d2 t2 _ hv2 Y hYb)
    obtain ⟨l0, l1, l2, l3, l4, l5, l6, l7⟩ := box8 (hYc Y (Below.refl _ _))
    have HY := Lib.hid hY
    have HYB := Lib.hid hYb
    have HYC := Lib.hid hYc
    clear hB2 hb2 hv2 hY hYb hYc hYs
    go_upto_region 4 with fail
    rw [HY.out]
    go_wp2_with (go_at_call 12; refine HF.out.mono ?_; rintro e w3 ⟨v, rfl, hf, hb3⟩; refine Hid.out ?_)
    refine Lib.hid ?_
    clear l0 l1 l2 l3 l4 l5 l6 l7
    obtain ⟨l0, l1, l2, l3, l4, l5, l6, l7⟩ := box8 (HYC.out w3 hb3)
    have HB3Y := Lib.hid hb3
    have HB3 := Lib.hid (HYB.out.trans (hb3.mono HYB.out.size))
    clear hb3
    cases v
    · clear hf
      go_wp2_with fail
      go_ret
      exact ⟨rfl, HB2.out.trans (HB3.out.mono HB2.out.size)⟩
    · obtain ⟨D, S, ⟨hS, hDe⟩, hD5, hDm, h13, h15, h72, hov⟩ := HT2.out (hf rfl)
      have H13 := Lib.hid h13
      have H72 := Lib.hid h72
      have HOV := Lib.hid hov
      have HD5 := Lib.hid hD5
      have HDM := Lib.hid hDm
      have HDE := Lib.hid hDe
      have HS1 := Lib.hid hS
      have HB3W := Lib.hid (HB2.out.trans (HB3.out.mono HB2.out.size))
      clear hf h13 h15 h72 hov hD5 hDm hDe hS
      go_wp2_with (go_at_call 13; refine (H13.out _ HB3.out).mono ?_; rintro e w4 ⟨v4, rfl, o4⟩; refine Hid.out ?_)
      refine Lib.hid ?_
      clear l0 l1 l2 l3 l4 l5 l6 l7
      obtain ⟨g, c, rfl, hDc, hcb, hrd⟩ := o4.rd (by have := HD5.out; omega)
      have HB4 := Lib.hid (HB3.out.trans (o4.below.mono HB3.out.size))
      have HB4W := Lib.hid (HB2.out.trans (HB4.out.mono HB2.out.size))
      have HRD := Lib.hid hrd
      have HDC := Lib.hid hDc
      have HCB := Lib.hid hcb
      clear o4 hrd hDc hcb
      go_wp2_with (at_builtin; refine ob_fresh rfl _ _ rfl rfl D rfl rfl (fun j b hj => by have h9 := (HRD.out.lat (below_al w4 (.cells #[] 5))) j b hj; rw [Nat.zero_add] at h9; rw [addr0]; exact h9) (by have := HDM.out; omega) (by have := HD5.out; omega) ?_; intro g2 c2 cur w5 o5 hb5 hg5; refine Hid.out ?_)
      refine Lib.hid ?_
      obtain ⟨x, hx⟩ : ∃ x, (D.getD 1 0).toNat = x := ⟨_, rfl⟩
      obtain ⟨g3, c3, heq, hDc3, hcb3, hrd3⟩ := o5.rd (by have := HD5.out; omega)
      injection heq with heq1 _ heq3
      injection heq1 with heq1
      injection heq1 with heq1
      subst heq1 heq3
      have c1 : w5.cell? ⟨g2, 1, none⟩ = some (.int .u8 (x : Int)) := by
        have := hrd3.at 1 (by have := HD5.out; omega)
        rwa [hx] at this
      have hfz := blk_frozen hb5 1
      have h5 := HD5.out
      by_cases hgt : 100 < x
      · have hd : decide ((100 : Int) < (x : Int)) = true := decide_eq_true (by omega)
        have HB5 := Lib.hid (HB4W.out.trans (o5.below.mono HB4W.out.size))
        clear o5 hb5 hrd3
        go_wp2_with fail
        go_ret
        exact ⟨rfl, HB5.out⟩
      · have hd : decide ((100 : Int) < (x : Int)) = false := decide_eq_false (by omega)
        have hdx : x = D.length / 256 % 256 := by
          rw [← hx, HDE.out, getD_le32]
          have := congrArg List.length HDE.out
          omega
        obtain ⟨b6, hb6⟩ : ∃ b6, UInt8.ofNat (x + (1 + z % 100)) = b6 := ⟨_, rfl⟩
        have hb6n : b6.toNat = x + (1 + z % 100) := by rw [← hb6, UInt8.toNat_ofNat']; omega
        have hset : D.set 1 b6 = le32 (D.length + 256 * (1 + z % 100)) ++ D.drop 4 := by
          have h9 := le32_over D.length (1 + z % 100) (D.drop 4) (by omega)
          rw [← HDE.out] at h9
          rw [← hb6, hdx]
          exact h9
        obtain ⟨w6, hw6⟩ : ∃ w6, w5.setCell ⟨g2, 1, none⟩ (.int .u8 ((x : Int) + (1 + (z : Int) % 100))) = w6 := ⟨_, rfl⟩
        have hrd6 : RD w6 g2 0 (D.set 1 b6) := by
          have h9 := rd_set hb5 hrd3 b6 (by omega)
          rw [show ((b6.toNat : Nat) : Int) = (x : Int) + (1 + (z : Int) % 100) from by rw [hb6n]; omega, hw6] at h9
          exact h9
        rw [hset] at hrd6
        have hb46 : Below w4.heap.size w4 w6 := hw6 ▸ o5.below.setCell hg5 _
        have HB6W := Lib.hid (HB4W.out.trans (hb46.mono HB4W.out.size))
        have hx6 := HXT.out w6 HB6W.out
        have hA := text14 _ _ _ _ w6 (text46 _ _ _ _ false w6 (HOV.out (D.length + 256 * (1 + z % 100)) g2 0 c2 w6 (by omega) (by have := HDM.out; omega) hrd6 hDc3 hcb3 hx6.1 hx6.2))
        have hB := text14 _ _ _ _ w6 (text46 _ _ _ _ false w6 (H72.out g 0 c w6 (HRD.out.lat hb46) HDC.out HCB.out hx6.1 hx6.2))
        have HA14 := Lib.hid hA
        have HB14 := Lib.hid hB
        have HW6 := Lib.hid hw6
        have hne0 := full_of_size HS1.out
        clear hA hB hw6 hx6 hb46 hrd6 hset hb6n hb6 hdx o5 hrd3
        go_upto_region 11 with fail
        rw [HW6.out]
        go_wp2_with (first | (go_at_call 14; refine (HA14.out _ (Below.refl _ _)).mono ?_; rintro e w7 ⟨rfl, hb7⟩) | (go_at_call 14; refine (HB14.out _ hb7).mono ?_; rintro e w8 ⟨rfl, hb8⟩))
        go_ret
        exact ⟨rfl, HB6W.out.trans ((hb7.trans (hb8.mono hb7.size)).mono HB6W.out.size)⟩
end Go.Proofs.YtpfkgpcnhdkkbaaGreatDoor
