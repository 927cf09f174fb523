/- spec.ExtLong: every value; conditions: the tables. -/
import Derived.Test.YtpfkgpcnhdkkbaaGreatDoorAMa
import Derived.Test.YtpfkgpcnhdkkbaaGreatDoorAXc
import Derived.Test.YtpfkgpcnhdkkbaaGreatDoorALg
import Derived.Test.YtpfkgpcnhdkkbaaGreatDoorAFm
import Derived.Test.YtpfkgpcnhdkkbaaGreatDoorAGq
import Derived.Test.YtpfkgpcnhdkkbaaGreatDoorAMb
namespace Go.Proofs.YtpfkgpcnhdkkbaaGreatDoor
set_option maxHeartbeats 8000000
open Go.RowKit
set_option linter.unusedVariables false
set_option linter.unusedSimpArgs false
set_option maxRecDepth 100000
theorem lc_2 {K : Type} (f : K → List UInt8) (text more : ByteArray) (n : Int) (bits high : Nat) (b : List UInt8) (kids : List (ByteArray × K)) (bv kv : Value) (w : World) (hs : text.size ≤ 300) (hu : UT text)  :
  Calls Tryz.prog 10 #[valV 2 text more n bits high bv kv, .bool true, .bool true] w fun e w' => e = .returned (.tuple #[.string ⟨(spR true f ⟨2, text, more, n, bits, high, b, kids⟩).toArray⟩, .bool true]) ∧ Below w.heap.size w w' := by
 have hq : soutB true text = ⟨(spR true f ⟨2, text, more, n, bits, high, b, kids⟩).toArray⟩ := by
  refine ret_eq ?_
  show _ = spR true f ⟨2, text, more, n, bits, high, b, kids⟩
  unfold spR
  simp [wrapB, soutB, hexB, b6B, itoaB, decB]
 rw [← hq]
 exact ext_string text more n bits high bv kv true true w hs hu
theorem lc_6 {K : Type} (f : K → List UInt8) (text more : ByteArray) (n : Int) (bits high : Nat) (b : List UInt8) (kids : List (ByteArray × K)) (bv kv : Value) (w : World)  :
  Calls Tryz.prog 10 #[valV 6 text more n bits high bv kv, .bool true, .bool true] w fun e w' => e = .returned (.tuple #[.string ⟨(spR true f ⟨6, text, more, n, bits, high, b, kids⟩).toArray⟩, .bool true]) ∧ Below w.heap.size w w' := by
 have hq : wrapB ⟨#[36, 117, 110, 100, 101, 102, 105, 110, 101, 100]⟩ ⟨#[116, 114, 117, 101]⟩ = ⟨(spR true f ⟨6, text, more, n, bits, high, b, kids⟩).toArray⟩ := by
  refine ret_eq ?_
  show _ = spR true f ⟨6, text, more, n, bits, high, b, kids⟩
  unfold spR
  simp [wrapB, soutB, hexB, b6B, itoaB, decB]
 rw [← hq]
 exact ext_undefined text more n bits high bv kv true true w
theorem lc_255 {K : Type} (f : K → List UInt8) (text more : ByteArray) (n : Int) (bits high : Nat) (b : List UInt8) (kids : List (ByteArray × K)) (bv kv : Value) (w : World)  :
  Calls Tryz.prog 10 #[valV 255 text more n bits high bv kv, .bool true, .bool true] w fun e w' => e = .returned (.tuple #[.string ⟨(spR true f ⟨255, text, more, n, bits, high, b, kids⟩).toArray⟩, .bool true]) ∧ Below w.heap.size w w' := by
 have hq : wrapB ⟨#[36, 109, 105, 110, 75, 101, 121]⟩ ⟨#[49]⟩ = ⟨(spR true f ⟨255, text, more, n, bits, high, b, kids⟩).toArray⟩ := by
  refine ret_eq ?_
  show _ = spR true f ⟨255, text, more, n, bits, high, b, kids⟩
  unfold spR
  simp [wrapB, soutB, hexB, b6B, itoaB, decB]
 rw [← hq]
 exact ext_min text more n bits high bv kv true true w
theorem lc_127 {K : Type} (f : K → List UInt8) (text more : ByteArray) (n : Int) (bits high : Nat) (b : List UInt8) (kids : List (ByteArray × K)) (bv kv : Value) (w : World)  :
  Calls Tryz.prog 10 #[valV 127 text more n bits high bv kv, .bool true, .bool true] w fun e w' => e = .returned (.tuple #[.string ⟨(spR true f ⟨127, text, more, n, bits, high, b, kids⟩).toArray⟩, .bool true]) ∧ Below w.heap.size w w' := by
 have hq : wrapB ⟨#[36, 109, 97, 120, 75, 101, 121]⟩ ⟨#[49]⟩ = ⟨(spR true f ⟨127, text, more, n, bits, high, b, kids⟩).toArray⟩ := by
  refine ret_eq ?_
  show _ = spR true f ⟨127, text, more, n, bits, high, b, kids⟩
  unfold spR
  simp [wrapB, soutB, hexB, b6B, itoaB, decB]
 rw [← hq]
 exact ext_max text more n bits high bv kv true true w
theorem lc_10 {K : Type} (f : K → List UInt8) (text more : ByteArray) (n : Int) (bits high : Nat) (b : List UInt8) (kids : List (ByteArray × K)) (bv kv : Value) (w : World)  :
  Calls Tryz.prog 10 #[valV 10 text more n bits high bv kv, .bool true, .bool true] w fun e w' => e = .returned (.tuple #[.string ⟨(spR true f ⟨10, text, more, n, bits, high, b, kids⟩).toArray⟩, .bool true]) ∧ Below w.heap.size w w' := by
 have hq : (⟨#[110, 117, 108, 108]⟩ : ByteArray) = ⟨(spR true f ⟨10, text, more, n, bits, high, b, kids⟩).toArray⟩ := by
  refine ret_eq ?_
  show _ = spR true f ⟨10, text, more, n, bits, high, b, kids⟩
  unfold spR
  simp [wrapB, soutB, hexB, b6B, itoaB, decB]
 rw [← hq]
 exact ext_null text more n bits high bv kv true true w
theorem lc_13 {K : Type} (f : K → List UInt8) (text more : ByteArray) (n : Int) (bits high : Nat) (b : List UInt8) (kids : List (ByteArray × K)) (bv kv : Value) (w : World) (hs : text.size ≤ 300) (hu : UT text)  :
  Calls Tryz.prog 10 #[valV 13 text more n bits high bv kv, .bool true, .bool true] w fun e w' => e = .returned (.tuple #[.string ⟨(spR true f ⟨13, text, more, n, bits, high, b, kids⟩).toArray⟩, .bool true]) ∧ Below w.heap.size w w' := by
 have hq : wrapB ⟨#[36, 99, 111, 100, 101]⟩ (soutB true text) = ⟨(spR true f ⟨13, text, more, n, bits, high, b, kids⟩).toArray⟩ := by
  refine ret_eq ?_
  show _ = spR true f ⟨13, text, more, n, bits, high, b, kids⟩
  unfold spR
  simp [wrapB, soutB, hexB, b6B, itoaB, decB]
 rw [← hq]
 exact ext_js text more n bits high bv kv true true w hs hu
theorem lc_14 {K : Type} (f : K → List UInt8) (text more : ByteArray) (n : Int) (bits high : Nat) (b : List UInt8) (kids : List (ByteArray × K)) (bv kv : Value) (w : World) (hs : text.size ≤ 300) (hu : UT text)  :
  Calls Tryz.prog 10 #[valV 14 text more n bits high bv kv, .bool true, .bool true] w fun e w' => e = .returned (.tuple #[.string ⟨(spR true f ⟨14, text, more, n, bits, high, b, kids⟩).toArray⟩, .bool true]) ∧ Below w.heap.size w w' := by
 have hq : wrapB ⟨#[36, 115, 121, 109, 98, 111, 108]⟩ (soutB true text) = ⟨(spR true f ⟨14, text, more, n, bits, high, b, kids⟩).toArray⟩ := by
  refine ret_eq ?_
  show _ = spR true f ⟨14, text, more, n, bits, high, b, kids⟩
  unfold spR
  simp [wrapB, soutB, hexB, b6B, itoaB, decB]
 rw [← hq]
 exact ext_symbol text more n bits high bv kv true true w hs hu
theorem lc_9 {K : Type} (f : K → List UInt8) (text more : ByteArray) (n : Int) (bits high : Nat) (b : List UInt8) (kids : List (ByteArray × K)) (bv kv : Value) (w : World) (hn : I64 n) (hT : TabC w) (h17 : 17 ≤ w.heap.size)  :
  Calls Tryz.prog 10 #[valV 9 text more n bits high bv kv, .bool true, .bool true] w fun e w' => e = .returned (.tuple #[.string ⟨(spR true f ⟨9, text, more, n, bits, high, b, kids⟩).toArray⟩, .bool true]) ∧ Below w.heap.size w w' := by
 have hz := itoaB_size n hn
 have hq : wrapB ⟨#[36, 100, 97, 116, 101]⟩ (⟨#[123, 34, 36, 110, 117, 109, 98, 101, 114, 76, 111, 110, 103, 34, 58, 34]⟩ ++ itoaB n ++ ⟨#[34, 125]⟩) = ⟨(spR true f ⟨9, text, more, n, bits, high, b, kids⟩).toArray⟩ := by
  refine ret_eq ?_
  show _ = spR true f ⟨9, text, more, n, bits, high, b, kids⟩
  unfold spR
  simp [wrapB, soutB, hexB, b6B, itoaB, decB]
 rw [← hq]
 exact ext_date text more n bits high bv kv true true w (itoaB n) (by omega) (fun W hW => fmtInt_c n W hn (hT.below (XB 9 text more n bits high bv kv true w hW) h17))
theorem lc_8 {K : Type} (f : K → List UInt8) (text more : ByteArray) (n : Int) (bits high : Nat) (b : List UInt8) (kids : List (ByteArray × K)) (bv kv : Value) (w : World) (hn : n = 0 ∨ n = 1) :
  Calls Tryz.prog 10 #[valV 8 text more n bits high bv kv, .bool true, .bool true] w fun e w' => e = .returned (.tuple #[.string ⟨(spR true f ⟨8, text, more, n, bits, high, b, kids⟩).toArray⟩, .bool true]) ∧ Below w.heap.size w w' := by
 rcases hn with hn | hn
 ·have h := ext_false text more n bits high bv kv true true w hn
  subst hn
  exact h
 ·have h := ext_true text more n bits high bv kv true true w hn
  subst hn
  exact h
theorem lc_7 {K : Type} (f : K → List UInt8) (text more : ByteArray) (n : Int) (bits high : Nat) (b : List UInt8) (kids : List (ByteArray × K)) (A : Option Addr) (c : Nat) (kv : Value) (w : World) (hb : b.length = 12) (hr : RB w A b)  :
  Calls Tryz.prog 10 #[valV 7 text more n bits high (.slice A b.length c) kv, .bool true, .bool true] w fun e w' => e = .returned (.tuple #[.string ⟨(spR true f ⟨7, text, more, n, bits, high, b, kids⟩).toArray⟩, .bool true]) ∧ Below w.heap.size w w' := by
 have hq : wrapB ⟨#[36, 111, 105, 100]⟩ ⟨([34] ++ Lib.Hx.encode b ++ [34]).toArray⟩ = ⟨(spR true f ⟨7, text, more, n, bits, high, b, kids⟩).toArray⟩ := by
  refine ret_eq ?_
  show _ = spR true f ⟨7, text, more, n, bits, high, b, kids⟩
  unfold spR
  simp [wrapB, soutB, hexB, b6B, itoaB, decB]
 rw [← hq]
 exact ext_id text more n bits high A b.length c kv true true w ⟨([34] ++ Lib.Hx.encode b ++ [34]).toArray⟩ (by simp [ByteArray.size, Lib.Hx.encode_length]; omega) (fun W hW => extID_any b.length b A c W rfl (by omega) (hr.lat (XB 7 text more n bits high (.slice A b.length c) kv true w hW)))
theorem lc_5 {K : Type} (f : K → List UInt8) (text more : ByteArray) (n : Int) (bits high : Nat) (b : List UInt8) (kids : List (ByteArray × K)) (A : Option Addr) (c : Nat) (kv : Value) (w : World) (hb : b.length ≤ 300) (hn : 0 ≤ n ∧ n ≤ 255) (hr : RB w A b)  :
  Calls Tryz.prog 10 #[valV 5 text more n bits high (.slice A b.length c) kv, .bool true, .bool true] w fun e w' => e = .returned (.tuple #[.string ⟨(spR true f ⟨5, text, more, n, bits, high, b, kids⟩).toArray⟩, .bool true]) ∧ Below w.heap.size w w' := by
 have hq : wrapB ⟨#[36, 98, 105, 110, 97, 114, 121]⟩ (⟨#[123, 34, 98, 97, 115, 101, 54, 52, 34, 58, 34]⟩ ++ b6B b ++ ⟨#[34, 44, 34, 115, 117, 98, 84, 121, 112, 101, 34, 58, 34]⟩ ++ hex2B (n % 256).toNat ++ ⟨#[34, 125]⟩) = ⟨(spR true f ⟨5, text, more, n, bits, high, b, kids⟩).toArray⟩ := by
  refine ret_eq ?_
  show _ = spR true f ⟨5, text, more, n, bits, high, b, kids⟩
  unfold spR
  simp [wrapB, soutB, hexB, b6B, itoaB, decB]
 rw [← hq]
 exact ext_bin text more n bits high A b.length c kv true true w (b6B b) (hex2B (n % 256).toNat) (by show (b6 b).toArray.size ≤ _; rw [List.size_toArray, b6_length]; omega) (by show 2 ≤ 100; omega) (fun W hW => extBase64_any b A c W (by omega) (hr.lat (XB 5 text more n bits high (.slice A b.length c) kv true w hW))) (fun W => by have := extHex_any (n % 256).toNat (by omega) W; rwa [show (((n % 256).toNat : Nat) : Int) = n % 256 from by omega] at this)
theorem lc_12 {K : Type} (f : K → List UInt8) (text more : ByteArray) (n : Int) (bits high : Nat) (b : List UInt8) (kids : List (ByteArray × K)) (A : Option Addr) (c : Nat) (kv : Value) (w : World) (hs : text.size ≤ 300) (hu : UT text) (hb : b.length = 12) (hr : RB w A b)  :
  Calls Tryz.prog 10 #[valV 12 text more n bits high (.slice A b.length c) kv, .bool true, .bool true] w fun e w' => e = .returned (.tuple #[.string ⟨(spR true f ⟨12, text, more, n, bits, high, b, kids⟩).toArray⟩, .bool true]) ∧ Below w.heap.size w w' := by
 have h1 : (soutB true text).size ≤ 100000 := by have := soutS true text hs hu; omega
 obtain ⟨z, hz⟩ : ∃ z : ByteArray, ⟨([34] ++ Lib.Hx.encode b ++ [34]).toArray⟩ = z := ⟨_, rfl⟩
 have h2 : z.size ≤ 100000 := by rw [← hz]; simp [ByteArray.size, Lib.Hx.encode_length]; omega
 have hq : wrapB ⟨#[36, 100, 98, 80, 111, 105, 110, 116, 101, 114]⟩ (⟨#[123, 34, 36, 114, 101, 102, 34, 58]⟩ ++ soutB true text ++ ⟨#[44, 34, 36, 105, 100, 34, 58, 123, 34, 36, 111, 105, 100, 34, 58]⟩ ++ z ++ ⟨#[125, 125]⟩) = ⟨(spR true f ⟨12, text, more, n, bits, high, b, kids⟩).toArray⟩ := by
  refine ret_eq ?_
  rw [← hz]
  show _ = spR true f ⟨12, text, more, n, bits, high, b, kids⟩
  unfold spR
  simp [wrapB, soutB, hexB, b6B, itoaB, decB]
 rw [← hq]
 exact ext_ptr text more n bits high A b.length c kv true true w (soutB true text) z h1 h2 (fun W hW => str_any text true (w.heap.size + 1) W (by omega) hu (xW_esc 12 text more n bits high (.slice A b.length c) kv true w W hW)) (fun W hW => hz ▸ extID_any b.length b A c W rfl (by omega) (hr.lat (XB 12 text more n bits high (.slice A b.length c) kv true w hW)))
theorem lc_11 {K : Type} (f : K → List UInt8) (text more : ByteArray) (n : Int) (bits high : Nat) (b : List UInt8) (kids : List (ByteArray × K)) (bv kv : Value) (w : World) (hs : text.size ≤ 300) (hu : UT text) (hm : more.size ≤ 300) (hv : UT more) (hri : Rising more.data.toList) :
  Calls Tryz.prog 10 #[valV 11 text more n bits high bv kv, .bool true, .bool true] w fun e w' => e = .returned (.tuple #[.string ⟨(spR true f ⟨11, text, more, n, bits, high, b, kids⟩).toArray⟩, .bool true]) ∧ Below w.heap.size w w' := by
 have hq : wrapB ⟨#[36, 114, 101, 103, 117, 108, 97, 114, 69, 120, 112, 114, 101, 115, 115, 105, 111, 110]⟩ (⟨#[123, 34, 112, 97, 116, 116, 101, 114, 110, 34, 58]⟩ ++ soutB true text ++ ⟨#[44, 34, 111, 112, 116, 105, 111, 110, 115, 34, 58]⟩ ++ soutB true more ++ ⟨#[125]⟩) = ⟨(spR true f ⟨11, text, more, n, bits, high, b, kids⟩).toArray⟩ := by
  refine ret_eq ?_
  show _ = spR true f ⟨11, text, more, n, bits, high, b, kids⟩
  unfold spR
  simp [wrapB, soutB, hexB, b6B, itoaB, decB]
 rw [← hq]
 exact ext_regex text more n bits high bv kv true true w (soutB true text) (soutB true more) more (by have := soutS true text hs hu; omega) (by have := soutS true more hm hv; omega) (fun W hW => str_any text true (w.heap.size + 1) W (by omega) hu (xW_esc 11 text more n bits high bv kv true w W hW)) (fun W => extSorted_any more (by omega) hri W) (fun W hW => str_any more true (w.heap.size + 1) W (by omega) hv (xW_esc 11 text more n bits high bv kv true w W hW))
theorem lc_17 {K : Type} (f : K → List UInt8) (text more : ByteArray) (n : Int) (bits high : Nat) (b : List UInt8) (kids : List (ByteArray × K)) (bv kv : Value) (w : World) (hbits : bits < 18446744073709551616) (hT : TabC w) (h17 : 17 ≤ w.heap.size)  :
  Calls Tryz.prog 10 #[valV 17 text more n bits high bv kv, .bool true, .bool true] w fun e w' => e = .returned (.tuple #[.string ⟨(spR true f ⟨17, text, more, n, bits, high, b, kids⟩).toArray⟩, .bool true]) ∧ Below w.heap.size w w' := by
 have hq : wrapB ⟨#[36, 116, 105, 109, 101, 115, 116, 97, 109, 112]⟩ (⟨#[123, 34, 116, 34, 58]⟩ ++ decB (bits / 4294967296) ++ ⟨#[44, 34, 105, 34, 58]⟩ ++ decB (bits % 4294967296) ++ ⟨#[125]⟩) = ⟨(spR true f ⟨17, text, more, n, bits, high, b, kids⟩).toArray⟩ := by
  refine ret_eq ?_
  show _ = spR true f ⟨17, text, more, n, bits, high, b, kids⟩
  unfold spR
  simp [wrapB, soutB, hexB, b6B, itoaB, decB]
 rw [← hq]
 exact ext_ts text more n bits high bv kv true true w (decB (bits / 4294967296)) (decB (bits % 4294967296)) hbits (by have := decB_len (bits / 4294967296) (by omega); omega) (by have := decB_len (bits % 4294967296) (by omega); omega) (fun W hW => fmtUint_c (bits / 4294967296) (by omega) W (hT.below (XB 17 text more n bits high bv kv true w hW) h17)) (fun W hW => fmtUint_c (bits % 4294967296) (by omega) W (hT.below (XB 17 text more n bits high bv kv true w hW) h17))
theorem lc_19 {K : Type} (f : K → List UInt8) (text more : ByteArray) (n : Int) (bits high : Nat) (b : List UInt8) (kids : List (ByteArray × K)) (bv kv : Value) (w : World) (hbits : bits < 18446744073709551616) (hhigh : high < 18446744073709551616) :
  Calls Tryz.prog 10 #[valV 19 text more n bits high bv kv, .bool true, .bool true] w fun e w' => e = .returned (.tuple #[.string ⟨(spR true f ⟨19, text, more, n, bits, high, b, kids⟩).toArray⟩, .bool true]) ∧ Below w.heap.size w w' := by
 obtain ⟨kd, ng, ds, ex, _, _, _, _, c1, c2⟩ := decOf_ex high bits hhigh hbits
 have hq : wrapB ⟨#[36, 110, 117, 109, 98, 101, 114, 68, 101, 99, 105, 109, 97, 108]⟩ (⟨#[34]⟩ ++ ⟨(decT high bits).toArray⟩ ++ ⟨#[34]⟩) = ⟨(spR true f ⟨19, text, more, n, bits, high, b, kids⟩).toArray⟩ := by
  refine ret_eq ?_
  show _ = spR true f ⟨19, text, more, n, bits, high, b, kids⟩
  unfold spR
  simp [wrapB, soutB, hexB, b6B, itoaB, decB]
 rw [← hq]
 exact ext_dec text more n bits high bv kv true true w ⟨(decT high bits).toArray⟩ (by show (decT high bits).toArray.size ≤ _; rw [List.size_toArray]; exact decT_len high bits hbits) kd ng ds ex c1 c2
theorem lw_1 {K : Type} (f : K → List UInt8) (text more : ByteArray) (n : Int) (bits high : Nat) (b : List UInt8) (kids : List (ByteArray × K)) (bv kv : Value) (esc : Bool) (w : World) (hbits : bits < 18446744073709551616) (hT : TabC w) (h17 : 17 ≤ w.heap.size) :
  Calls Tryz.prog 10 #[valV 1 text more n bits high bv kv, .bool false, .bool esc] w fun e w' => e = .returned (.tuple #[.string ⟨(spR esc f ⟨1, text, more, n, bits, high, b, kids⟩).toArray⟩, .bool true]) ∧ Below w.heap.size w w' := by
 obtain ⟨x, hx⟩ : ∃ x : ByteArray, ⟨(dblT bits).toArray⟩ = x := ⟨_, rfl⟩
 have hs : x.size ≤ 1000 := by
  rw [← hx]
  show (dblT bits).toArray.size ≤ _
  rw [List.size_toArray]
  have := dblT_len bits hbits
  omega
 have hc : ∀ W, Below (xW 1 text more n bits high bv kv esc w).heap.size (xW 1 text more n bits high bv kv esc w) W → Calls Tryz.prog 27 #[.float .f64 bits] W fun e w' => e = .returned (.string x) ∧ Below W.heap.size W w' := by
  intro W hW
  have hB := XB 1 text more n bits high bv kv esc w hW
  exact hx ▸ extDouble_any bits hbits W (hT.below hB h17) (by have := hB.size; omega)
 have hr : spR esc f ⟨1, text, more, n, bits, high, b, kids⟩ = dblOut x := by rw [← hx]; rfl
 have hw : ¬ isNum x → wrapB ⟨#[36, 110, 117, 109, 98, 101, 114, 68, 111, 117, 98, 108, 101]⟩ (⟨#[34]⟩ ++ x ++ ⟨#[34]⟩) = ⟨(dblOut x).toArray⟩ := by
  intro hn
  refine ret_eq ?_
  unfold dblOut
  rw [if_neg hn]
  simp [wrapB]
 rw [hr]
 cases h0 : fNaN bits
 ·obtain ⟨d1, d2⟩ := dbl_num bits hbits h0
  cases h1 : fBig (Go.bits .andNot .u64 bits 9223372036854775808).toNat
  ·obtain ⟨g1, g2⟩ := d2 h1
   have hn := dbl_isnum bits hbits h0 g1 g2
   rw [hx] at hn
   have hq : x = ⟨(dblOut x).toArray⟩ := ret_eq (by unfold dblOut; rw [if_pos hn])
   rw [← hq]
   exact ext_dbl_fin text more n bits high bv kv esc w x hs hc h0 h1
  ·have hn := d1 h1
   rw [hx] at hn
   rw [← hw hn]
   exact ext_dbl_inf text more n bits high bv kv esc w x hs hc h0 h1
 ·have hn : ¬ isNum x := by
   rw [← hx]
   unfold dblT
   rw [h0, if_pos rfl]
   decide
  rw [← hw hn]
  exact ext_dbl_nan text more n bits high bv kv esc w x hs hc h0
theorem lc_16 {K : Type} (f : K → List UInt8) (text more : ByteArray) (n : Int) (bits high : Nat) (b : List UInt8) (kids : List (ByteArray × K)) (bv kv : Value) (w : World) (hn : I64 n) (hT : TabC w) (h17 : 17 ≤ w.heap.size)  :
  Calls Tryz.prog 10 #[valV 16 text more n bits high bv kv, .bool true, .bool true] w fun e w' => e = .returned (.tuple #[.string ⟨(loR f ⟨16, text, more, n, bits, high, b, kids⟩).toArray⟩, .bool true]) ∧ Below w.heap.size w w' := by
 have hz := itoaB_size n hn
 have hq : wrapB ⟨#[36, 110, 117, 109, 98, 101, 114, 73, 110, 116]⟩ (⟨#[34]⟩ ++ itoaB n ++ ⟨#[34]⟩) = ⟨(loR f ⟨16, text, more, n, bits, high, b, kids⟩).toArray⟩ := by
  refine ret_eq ?_
  unfold loR
  simp [wrapB, itoaB]
 rw [← hq]
 exact ext_int32C text more n bits high bv kv true w (itoaB n) (by omega) (fun W hW => fmtInt_c n W hn (hT.below (XB 16 text more n bits high bv kv true w hW) h17))
theorem lc_18 {K : Type} (f : K → List UInt8) (text more : ByteArray) (n : Int) (bits high : Nat) (b : List UInt8) (kids : List (ByteArray × K)) (bv kv : Value) (w : World) (hn : I64 n) (hT : TabC w) (h17 : 17 ≤ w.heap.size)  :
  Calls Tryz.prog 10 #[valV 18 text more n bits high bv kv, .bool true, .bool true] w fun e w' => e = .returned (.tuple #[.string ⟨(loR f ⟨18, text, more, n, bits, high, b, kids⟩).toArray⟩, .bool true]) ∧ Below w.heap.size w w' := by
 have hz := itoaB_size n hn
 have hq : wrapB ⟨#[36, 110, 117, 109, 98, 101, 114, 76, 111, 110, 103]⟩ (⟨#[34]⟩ ++ itoaB n ++ ⟨#[34]⟩) = ⟨(loR f ⟨18, text, more, n, bits, high, b, kids⟩).toArray⟩ := by
  refine ret_eq ?_
  unfold loR
  simp [wrapB, itoaB]
 rw [← hq]
 exact ext_int64C text more n bits high bv kv true w (itoaB n) (by omega) (fun W hW => fmtInt_c n W hn (hT.below (XB 18 text more n bits high bv kv true w hW) h17))
theorem lc_1 {K : Type} (f : K → List UInt8) (text more : ByteArray) (n : Int) (bits high : Nat) (b : List UInt8) (kids : List (ByteArray × K)) (bv kv : Value) (w : World) (hbits : bits < 18446744073709551616) (hT : TabC w) (h17 : 17 ≤ w.heap.size)  :
  Calls Tryz.prog 10 #[valV 1 text more n bits high bv kv, .bool true, .bool true] w fun e w' => e = .returned (.tuple #[.string ⟨(loR f ⟨1, text, more, n, bits, high, b, kids⟩).toArray⟩, .bool true]) ∧ Below w.heap.size w w' := by
 obtain ⟨x, hx⟩ : ∃ x : ByteArray, ⟨(dblT bits).toArray⟩ = x := ⟨_, rfl⟩
 have hs : x.size ≤ 1000 := by
  rw [← hx]
  show (dblT bits).toArray.size ≤ _
  rw [List.size_toArray]
  have := dblT_len bits hbits
  omega
 have hq : wrapB ⟨#[36, 110, 117, 109, 98, 101, 114, 68, 111, 117, 98, 108, 101]⟩ (⟨#[34]⟩ ++ x ++ ⟨#[34]⟩) = ⟨(loR f ⟨1, text, more, n, bits, high, b, kids⟩).toArray⟩ := by
  refine ret_eq ?_
  rw [← hx]
  unfold loR
  simp [wrapB]
 rw [← hq]
 refine ext_dblC text more n bits high bv kv true w x hs (fun W hW => ?_)
 have hB := XB 1 text more n bits high bv kv true w hW
 exact hx ▸ extDouble_any bits hbits W (hT.below hB h17) (by have := hB.size; omega)
def LongAt (w0 : World) (d : Nat) : Prop := ∀ (t : VT d) (cs : List Value), IsV w0 d t cs → FitV d t → RightV d t → LongV d t → (loV d t).length ≤ 1000000000 → ∀ W, Below w0.heap.size w0 W →
 Calls Tryz.prog 15 #[.agg cs.toArray] W fun e w' => e = .returned (.string ⟨(loV d t).toArray⟩) ∧ Below W.heap.size W w'
theorem lg_env {w0 : World} {d : Nat} (IH : LongAt w0 d) (l : List (ByteArray × VT d)) (hF : ∀ p ∈ l, p.1.size ≤ 300 ∧ UT p.1 ∧ FitV d p.2) (hR : ∀ p ∈ l, RightV d p.2) (hL : ∀ p ∈ l, LongV d p.2) (hl : ∀ p ∈ l, (loV d p.2).length ≤ 1000000000) : LgEnv (VT d) (loV d) (IsV w0 d) l w0 :=
 ⟨fun p hp => (hF p hp).1, fun p hp cs h => h.form, fun p hp cs h W hW => IH p.2 cs h (hF p hp).2.2 (hR p hp) (hL p hp) (hl p hp) W hW⟩
theorem lo_item_le {K : Type} (f : K → List UInt8) (l : List (ByteArray × K)) (p : ByteArray × K) (hp : p ∈ l) : (f p.2).length ≤ (sItems (loMem f l)).length := by
 have := item_le (loMem f l) (meL p.1 (f p.2)) (List.mem_map.2 ⟨p, hp, rfl⟩)
 unfold meL at this
 simp only [List.length_append, List.length_cons] at this
 omega
theorem long_step (w0 : World) (hT0 : TabC w0) (h17 : 17 ≤ w0.heap.size) (d : Nat) (IH : LongAt w0 d) : LongAt w0 (d + 1) := by
 intro t cs hv hF hR hL hl W hW
 obtain ⟨kind, text, more, n, bits, high, b, kids⟩ := t
 obtain ⟨bv, kv, rfl, hk, hn, hbits, hhigh, hts, hms, ⟨A1, c1, rfl, hc1, hc1b, hrb⟩, hkv⟩ := hv
 obtain ⟨A2, c2, rfl, hc2, hc2b, hkr⟩ := id hkv
 have hT := fun W2 (hW2 : Below w0.heap.size w0 W2) => hT0.below hW2 h17
 have h17' : ∀ W2, Below w0.heap.size w0 W2 → 17 ≤ W2.heap.size := fun W2 hW2 => by have := hW2.size; omega
 have hF' : FitR (FitV d) ⟨kind, text, more, n, bits, high, b, kids⟩ := hF
 have hR' : RightR (RightV d) ⟨kind, text, more, n, bits, high, b, kids⟩ := hR
 have hL' : LongR (LongV d) ⟨kind, text, more, n, bits, high, b, kids⟩ := hL
 have hl' : (loR (loV d) ⟨kind, text, more, n, bits, high, b, kids⟩).length ≤ 1000000000 := hl
 have hfk := hF'.kids
 have hft := hF'.text
 have hfm := hF'.more
 have hfb := hF'.b
 have hri := hF'.rising
 have hrk := hR'.kind
 have hbin := hR'.bin
 have hid := hR'.id
 have hbool := hR'.bool
 have hkk := hR'.kids
 have h15 := hL'.kind
 have hlk := fun p hp => (hL'.kids p hp).2.2
 have hrb' : ∀ W2, Below w0.heap.size w0 W2 → RB W2 A1 b := fun W2 hW2 => hrb.lat hW2
 simp only at hk hn hbits hhigh hts hms hrb' hfk hft hfm hfb hri hrk hbin hid hbool hkk h15 hlk hl' hkv hkr hc2 hc2b hc1 hc1b ⊢
 show Calls Tryz.prog 15 #[valV kind text more n bits high (.slice A1 b.length c1) (.slice A2 kids.length c2)] W fun e w' => e = .returned (.string ⟨(loR (loV d) ⟨kind, text, more, n, bits, high, b, kids⟩).toArray⟩) ∧ Below W.heap.size W w'
 have hcase : kind = 1 ∨ kind = 2 ∨ kind = 3 ∨ kind = 4 ∨ kind = 5 ∨ kind = 6 ∨ kind = 7 ∨ kind = 8 ∨ kind = 9 ∨ kind = 10 ∨ kind = 11 ∨ kind = 12 ∨ kind = 13 ∨ kind = 14 ∨ kind = 16 ∨ kind = 17 ∨ kind = 18 ∨ kind = 19 ∨ kind = 127 ∨ kind = 255 := by omega
 have hoth := fun (k : Int) (h3 : (k == 3) = false) (h4 : (k == 4) = false) (S : ByteArray) (hc : ∀ W2, Below w0.heap.size w0 W2 → Calls Tryz.prog 10 #[valV k text more n bits high (.slice A1 b.length c1) (.slice A2 kids.length c2), .bool true, .bool true] W2 fun e w' => e = .returned (.tuple #[.string S, .bool true]) ∧ Below W2.heap.size W2 w') =>
  long_other k text more n bits high A1 A2 b.length c1 kids.length c2 S h3 h4 w0 hc W hW
 clear hL hL' hF hF' hR hR' hl
 rcases hcase with rfl | rfl | rfl | rfl | rfl | rfl | rfl | rfl | rfl | rfl | rfl | rfl | rfl | rfl | rfl | rfl | rfl | rfl | rfl | rfl
 ·exact hoth 1 rfl rfl _ (fun W2 hW2 => lc_1 (loV d) text more n bits high b kids _ _ W2 hbits (hT W2 hW2) (h17' W2 hW2))
 ·exact hoth 2 rfl rfl _ (fun W2 hW2 => lc_2 (loV d) text more n bits high b kids _ _ W2 hft.1 hft.2)
 ·have hl2 : (loDoc (loV d) kids).length ≤ 1000000000 := hl'
  have hl3 : (sItems (loMem (loV d) kids)).length ≤ 1000000000 := by unfold loDoc at hl2; simp only [List.length_cons, List.length_append] at hl2; omega
  have hi : ∀ p ∈ kids, (loV d p.2).length ≤ 1000000000 := fun p hp => Nat.le_trans (lo_item_le _ kids p hp) hl3
  exact long_doc text more n bits high _ A2 kids.length c2 w0 W (lg_env IH kids hfk (hkk (by decide)) hlk hi) rfl hkv (by omega) hW hl3 hi
 ·have hl2 : (spArr (loV d) kids).length ≤ 1000000000 := hl'
  have hl3 : (sItems (spItem (loV d) kids)).length ≤ 1000000000 := by unfold spArr at hl2; simp only [List.length_cons, List.length_append] at hl2; omega
  have hi : ∀ p ∈ kids, (loV d p.2).length ≤ 1000000000 := fun p hp => Nat.le_trans (arr_item_le _ kids p hp) hl3
  exact long_arr text more n bits high _ A2 kids.length c2 w0 W (lg_env IH kids hfk (hkk (by decide)) hlk hi) rfl hkv (by omega) hW hl3 hi
 ·exact hoth 5 rfl rfl _ (fun W2 hW2 => lc_5 (loV d) text more n bits high b kids A1 c1 _ W2 hfb (hbin rfl) (hrb' W2 hW2))
 ·exact hoth 6 rfl rfl _ (fun W2 hW2 => lc_6 (loV d) text more n bits high b kids _ _ W2)
 ·exact hoth 7 rfl rfl _ (fun W2 hW2 => lc_7 (loV d) text more n bits high b kids A1 c1 _ W2 (hid (.inl rfl)) (hrb' W2 hW2))
 ·exact hoth 8 rfl rfl _ (fun W2 hW2 => lc_8 (loV d) text more n bits high b kids _ _ W2 (hbool rfl))
 ·exact hoth 9 rfl rfl _ (fun W2 hW2 => lc_9 (loV d) text more n bits high b kids _ _ W2 hn (hT W2 hW2) (h17' W2 hW2))
 ·exact hoth 10 rfl rfl _ (fun W2 hW2 => lc_10 (loV d) text more n bits high b kids _ _ W2)
 ·exact hoth 11 rfl rfl _ (fun W2 hW2 => lc_11 (loV d) text more n bits high b kids _ _ W2 hft.1 hft.2 hfm.1 hfm.2 (hri rfl))
 ·exact hoth 12 rfl rfl _ (fun W2 hW2 => lc_12 (loV d) text more n bits high b kids A1 c1 _ W2 hft.1 hft.2 (hid (.inr rfl)) (hrb' W2 hW2))
 ·exact hoth 13 rfl rfl _ (fun W2 hW2 => lc_13 (loV d) text more n bits high b kids _ _ W2 hft.1 hft.2)
 ·exact hoth 14 rfl rfl _ (fun W2 hW2 => lc_14 (loV d) text more n bits high b kids _ _ W2 hft.1 hft.2)
 ·exact hoth 16 rfl rfl _ (fun W2 hW2 => lc_16 (loV d) text more n bits high b kids _ _ W2 hn (hT W2 hW2) (h17' W2 hW2))
 ·exact hoth 17 rfl rfl _ (fun W2 hW2 => lc_17 (loV d) text more n bits high b kids _ _ W2 hbits (hT W2 hW2) (h17' W2 hW2))
 ·exact hoth 18 rfl rfl _ (fun W2 hW2 => lc_18 (loV d) text more n bits high b kids _ _ W2 hn (hT W2 hW2) (h17' W2 hW2))
 ·exact hoth 19 rfl rfl _ (fun W2 hW2 => lc_19 (loV d) text more n bits high b kids _ _ W2 hbits hhigh)
 ·exact hoth 127 rfl rfl _ (fun W2 hW2 => lc_127 (loV d) text more n bits high b kids _ _ W2)
 ·exact hoth 255 rfl rfl _ (fun W2 hW2 => lc_255 (loV d) text more n bits high b kids _ _ W2)
theorem longVal_at (w0 : World) (hT0 : TabC w0) (h17 : 17 ≤ w0.heap.size) : ∀ d, LongAt w0 d
 | 0 => fun t => t.elim
 | d + 1 => long_step w0 hT0 h17 d (longVal_at w0 hT0 h17 d)
set_option maxHeartbeats 8000000
def quoB (s : ByteArray) : ByteArray := ⟨#[34]⟩ ++ s ++ ⟨#[34]⟩
open Classical in
noncomputable def kidL {K : Type} (fk : K → Bool) (p : ByteArray × K) : Bool := !decide (p.1 = ⟨#[]⟩) && decide (soutB true p.1 = quoB p.1) && fk p.2
theorem all_no {K : Type} {g : K → Bool} {l : List K} {i : Nat} {p : K} (h : l[i]? = some p) (hp : g p = false) : l.all g = false := List.all_eq_false.2 ⟨p, List.mem_of_getElem? h, by simp [hp]⟩
theorem all_yes {K : Type} {g : K → Bool} {l : List K} (h : ∀ (j : Nat) (p : K), l[j]? = some p → g p = true) : l.all g = true := List.all_eq_true.2 fun p hp => by
 obtain ⟨j, hj, rfl⟩ := List.getElem_of_mem hp
 exact h j _ (List.getElem?_eq_getElem hj)
theorem quoB_size (s : ByteArray) : (quoB s).size = s.size + 2 := by
 unfold quoB
 simp only [ByteArray.size_append]
 have : (⟨#[34]⟩ : ByteArray).size = 1 := rfl
 omega
theorem soutB_size (esc : Bool) (s : ByteArray) (hs : s.size ≤ 300) (hu : UT s) : (soutB esc s).size ≤ 1900 := by
 show (sout esc s).toArray.size ≤ _
 rw [List.size_toArray]
 have := jout_len esc s
 rw [← jout_eq esc s hu]
 omega
structure LfEnv (K : Type) (fk : K → Bool) (R : K → List Value → Prop) (l : List (ByteArray × K)) (w0 : World) : Prop where
 names : ∀ p ∈ l, p.1.size ≤ 300 ∧ UT p.1
 cells : ∀ p ∈ l, ∀ cs, R p.2 cs → Cells8 cs
 val : ∀ p ∈ l, ∀ cs, R p.2 cs → ∀ W, Below w0.heap.size w0 W → Calls Tryz.prog 43 #[.agg cs.toArray] W fun e w' => e = .returned (.bool (fk p.2)) ∧ Below W.heap.size W w'
theorem lf_15 {K : Type} (fk : K → Bool) (R : K → List Value → Prop) (l : List (ByteArray × K)) (w0 : World) (tx more : ByteArray) (n : Int) (bits high : Nat) (A B : Option Addr) (m c m2 c2 : Nat) (hm2 : m2 ≤ 140737488351232) (E : LfEnv K fk R l w0) (hml : m2 = l.length) (hkv : KidsV w0 R (.slice B m2 c2) l) (w : World) (hw : Below w0.heap.size w0 w) :
  Calls Tryz.prog 43 #[valV 15 tx more n bits high (.slice A m c) (.slice B m2 c2)] w fun e w' => e = .returned (.bool false) ∧ Below w.heap.size w w' := by
 have HEV := LH E
 have HKV := LH hkv
 have HML := LH hml
 have HW0 := LH hw
 clear E hkv hml hw
 unfold valV
 obtain ⟨X, hX, hXb, hXs, hXc⟩ := box_cells w 15 tx more n bits high (.slice A m c) (.slice B m2 c2)
 have HXB := LH hXb
 have HX := LH hX
 have HXC := LH hXc
 clear hX hXb hXc hXs
 go_enter Tryz.func43, Tryz.ntmps43
 go_upto_region 1 with fail
 rw [HX.out]
 refine hq_region (C := fun W => Below X.heap.size X W) (by kernel_rfl) (by kernel_rfl) (below_dr X 1) ?_
 refine hqv (.pointer (some ⟨w.heap.size, 0, none⟩)) ?_
 refine hq_val (.int .i64 15) (by kernel_rfl) (fun W hW => by have h0 := HXC.out W hW 0 _ rfl; go_simp) ?_
 refine hqv (.bool true) ?_
 refine hqv (.bool true) ?_
 refine hqs ?_
 refine hqs ?_
 refine hqs ?_
 refine hqs ?_
 refine hqs ?_
 refine hqs ?_
 refine hqs ?_
 refine hqs ?_
 refine hqs ?_
 refine hqs ?_
 refine hqs ?_
 refine hqs ?_
 refine hqs ?_
 refine hqv (.bool true) ?_
 refine hq_nil ?_
 intro W hW
 have HXW := LH (hW)
 go_simp
 go_wp2_with fail
 go_ret
 exact ⟨congrArg (fun b => Ending.returned (Value.bool b)) (rfl), HXB.out.trans (HXW.out.mono HXB.out.size)⟩
theorem lf_12no {K : Type} (fk : K → Bool) (R : K → List Value → Prop) (l : List (ByteArray × K)) (w0 : World) (tx more : ByteArray) (n : Int) (bits high : Nat) (A B : Option Addr) (m c m2 c2 : Nat) (hm2 : m2 ≤ 140737488351232) (E : LfEnv K fk R l w0) (hml : m2 = l.length) (hkv : KidsV w0 R (.slice B m2 c2) l) (ht : tx.size ≤ 300 ∧ UT tx) (hq : ¬ soutB true tx = quoB tx) (w : World) (hw : Below w0.heap.size w0 w) :
  Calls Tryz.prog 43 #[valV 12 tx more n bits high (.slice A m c) (.slice B m2 c2)] w fun e w' => e = .returned (.bool false) ∧ Below w.heap.size w w' := by
 have HEV := LH E
 have HKV := LH hkv
 have HML := LH hml
 have HW0 := LH hw
 obtain ⟨hts, htu⟩ := ht
 have hSs := soutB_size true tx hts htu
 have hzs := quoB_size tx
 obtain ⟨S, hS⟩ : ∃ S, soutB true tx = S := ⟨_, rfl⟩
 obtain ⟨z, hz⟩ : ∃ z, quoB tx = z := ⟨_, rfl⟩
 have HS := LH (fun W => hS ▸ extString_any tx true W (by omega) htu)
 rw [hS] at hSs hq
 rw [hz] at hzs hq
 have HZ := LH (show ⟨#[34]⟩ ++ tx ++ ⟨#[34]⟩ = z from hz)
 have hs3 : (S.toList == z.toList) = false := ba_ne hq
 have hs4 : (S == z) = false := ba_bne hq
 clear hS hz htu hq
 clear E hkv hml hw
 unfold valV
 obtain ⟨X, hX, hXb, hXs, hXc⟩ := box_cells w 12 tx more n bits high (.slice A m c) (.slice B m2 c2)
 have HXB := LH hXb
 have HX := LH hX
 have HXC := LH hXc
 clear hX hXb hXc hXs
 go_enter Tryz.func43, Tryz.ntmps43
 go_upto_region 1 with fail
 rw [HX.out]
 refine hq_region (C := fun W => Below X.heap.size X W) (by kernel_rfl) (by kernel_rfl) (below_dr X 1) ?_
 refine hqv (.pointer (some ⟨w.heap.size, 0, none⟩)) ?_
 refine hq_val (.int .i64 12) (by kernel_rfl) (fun W hW => by have h0 := HXC.out W hW 0 _ rfl; go_simp) ?_
 refine hqv (.bool false) ?_
 refine hqv (.bool false) ?_
 refine hqv (.pointer (some ⟨w.heap.size, 0, none⟩)) ?_
 refine hq_val (.int .i64 12) (by kernel_rfl) (fun W hW => by have h0 := HXC.out W hW 0 _ rfl; go_simp) ?_
 refine hqv (.bool true) ?_
 refine hqv (.bool true) ?_
 refine hqv (.pointer (some ⟨w.heap.size, 1, none⟩)) ?_
 refine hq_val (.string tx) (by kernel_rfl) (fun W hW => by have h0 := HXC.out W hW 1 _ rfl; go_simp) ?_
 refine hq_enter (.string S) 24 #[.string tx, .bool true] (by kernel_rfl) (fun W hW => by go_simp) (fun W hW => (HS.out W).mono fun e W2 ⟨q1, q2⟩ => ⟨q1, hW.trans (q2.mono hW.size)⟩) ?_
 refine hqv (.pointer (some ⟨w.heap.size, 1, none⟩)) ?_
 refine hq_val (.string tx) (by kernel_rfl) (fun W hW => by have h0 := HXC.out W hW 1 _ rfl; go_simp) ?_
 refine hq_val (.string (⟨#[34]⟩ ++ tx)) (by kernel_rfl) (fun W hW => by go_simp; omega) ?_
 refine hq_val (.string z) (by kernel_rfl) (fun W hW => by have q := HZ.out; go_simp; omega) ?_
 refine hqv (.bool true) ?_
 refine hqv (.bool true) ?_
 refine hqv (.bool true) ?_
 refine hq_nil ?_
 intro W hW
 have HXW := LH (hW)
 go_simp
 go_wp2_with fail
 go_ret
 exact ⟨congrArg (fun b => Ending.returned (Value.bool b)) (rfl), HXB.out.trans (HXW.out.mono HXB.out.size)⟩
theorem lf_oth {K : Type} (fk : K → Bool) (R : K → List Value → Prop) (l : List (ByteArray × K)) (w0 : World) (kind : Int) (tx more : ByteArray) (n : Int) (bits high : Nat) (A B : Option Addr) (m c m2 c2 : Nat) (hm2 : m2 ≤ 140737488351232) (E : LfEnv K fk R l w0) (hml : m2 = l.length) (hkv : KidsV w0 R (.slice B m2 c2) l) (k15 : (kind == 15) = false) (k12 : (kind == 12) = false) (k1 : (kind == 1) = false) (w : World) (hw : Below w0.heap.size w0 w) :
  Calls Tryz.prog 43 #[valV kind tx more n bits high (.slice A m c) (.slice B m2 c2)] w fun e w' => e = .returned (.bool (l.all (kidL fk))) ∧ Below w.heap.size w w' := by
 have HEV := LH E
 have HKV := LH hkv
 have HML := LH hml
 have HW0 := LH hw
 clear E hkv hml hw
 unfold valV
 obtain ⟨X, hX, hXb, hXs, hXc⟩ := box_cells w kind tx more n bits high (.slice A m c) (.slice B m2 c2)
 have HXB := LH hXb
 have HX := LH hX
 have HXC := LH hXc
 clear hX hXb hXc hXs
 go_enter Tryz.func43, Tryz.ntmps43
 go_upto_region 1 with fail
 rw [HX.out]
 refine hq_region (C := fun W => Below X.heap.size X W) (by kernel_rfl) (by kernel_rfl) (below_dr X 1) ?_
 refine hqv (.pointer (some ⟨w.heap.size, 0, none⟩)) ?_
 refine hq_val (.int .i64 kind) (by kernel_rfl) (fun W hW => by have h0 := HXC.out W hW 0 _ rfl; go_simp) ?_
 refine hqv (.bool false) ?_
 refine hqv (.bool false) ?_
 refine hqv (.pointer (some ⟨w.heap.size, 0, none⟩)) ?_
 refine hq_val (.int .i64 kind) (by kernel_rfl) (fun W hW => by have h0 := HXC.out W hW 0 _ rfl; go_simp) ?_
 refine hqv (.bool false) ?_
 refine hqv (.bool false) ?_
 refine hqs ?_
 refine hqs ?_
 refine hqs ?_
 refine hqs ?_
 refine hqs ?_
 refine hqs ?_
 refine hqs ?_
 refine hqs ?_
 refine hqv (.bool false) ?_
 refine hqv (.bool false) ?_
 refine hq_nil ?_
 intro W hW
 have HXW := LH hW
 go_simp
 have c0 := HXC.out _ HXW.out 0 _ rfl
 have c7 := HXC.out _ HXW.out 7 _ rfl
 clear hW
 go_wp2_with fail
 clear c0 c7
 go_loopw [47] (fun i wr => ∃ k : Nat, k ≤ m2 ∧ i = .int .i64 k ∧ Hid (Below X.heap.size X wr) ∧ Hid (∀ j p, j < k → l[j]? = some p → kidL fk p = true)) (fun i _ => m2 - (intOf i).toNat)
 case atStart => exact ⟨0, Nat.zero_le _, rfl, HXW.out, fun j p hj => absurd hj (Nat.not_lt_zero _)⟩
 case round =>
  obtain ⟨k, hk, rfl, HR, HP⟩ := hrel
  by_cases hlt : k < m2
  ·obtain ⟨name, kd, bb, o, cs, hget, rfl, hR, hcs, hrange⟩ := HKV.out.elem (i := k) (by have := HML.out; omega)
   have hmem : (name, kd) ∈ l := List.mem_of_getElem? hget
   have hxr : Below w0.heap.size w0 wr := HW0.out.trans ((HXB.out.trans (HR.out.mono HXB.out.size)).mono HW0.out.size)
   have hrg := rangeAt_later hrange hxr
   obtain ⟨kk, t1, mr1, en, vb, vh, B1, B2, m1, e1, m2', e2, rfl⟩ := HEV.out.cells _ hmem cs hR
   have hns := (HEV.out.names _ hmem).1
   have hnu := (HEV.out.names _ hmem).2
   simp only at hns hnu
   have HRG := LH hrg
   have HGET := LH hget
   obtain ⟨V, hVV⟩ : ∃ V, wr.alloc (.cells #[.string name, .int .i64 kk, .string t1, .string mr1, .int .i64 en, .int .u64 (vb : Int), .int .u64 (vh : Int), .slice B1 m1 e1, .slice B2 m2' e2] 38) = V := ⟨_, rfl⟩
   have hwV : Below wr.heap.size wr V := hVV ▸ below_allocB wr _
   have hVs : V.heap.size = wr.heap.size + 1 := by rw [← hVV]; simp
   have hVc : ∀ i v, (#[.string name, .int .i64 kk, .string t1, .string mr1, .int .i64 en, .int .u64 (vb : Int), .int .u64 (vh : Int), .slice B1 m1 e1, .slice B2 m2' e2] : Array Value)[i]? = some v → ∀ W, Below V.heap.size V W → W.cell? ⟨wr.heap.size, i, none⟩ = some v := by
    intro i v hv W hW
    rw [hW.cell (p := ⟨wr.heap.size, i, none⟩) (by rw [hVs]; simp), ← hVV]
    exact (blk_cell (heap_alloc_new wr _) i).trans hv
   have HE0 := LH (hVc 0 _ rfl)
   have HE1 := LH (fun W hW => (⟨hVc 1 _ rfl W hW, hVc 2 _ rfl W hW, hVc 3 _ rfl W hW, hVc 4 _ rfl W hW, hVc 5 _ rfl W hW, hVc 6 _ rfl W hW, hVc 7 _ rfl W hW, hVc 8 _ rfl W hW⟩ : _ ∧ _ ∧ _ ∧ _ ∧ _ ∧ _ ∧ _ ∧ _))
   have hXV : Below X.heap.size X V := HR.out.trans (hwV.mono HR.out.size)
   have HV := LH (fun W (hW : Below V.heap.size V W) => HEV.out.val _ hmem _ hR W (hxr.trans ((hwV.trans (hW.mono hwV.size)).mono hxr.size)))
   have hSs := soutB_size true name hns hnu
   have hzs := quoB_size name
   obtain ⟨S, hS⟩ : ∃ S, soutB true name = S := ⟨_, rfl⟩
   obtain ⟨z, hz⟩ : ∃ z, quoB name = z := ⟨_, rfl⟩
   have HS := LH (fun W => hS ▸ extString_any name true W (by omega) hnu)
   have HXV := LH hXV
   obtain ⟨v, hv⟩ : ∃ v, fk kd = v := ⟨_, rfl⟩
   have hno : kidL fk (name, kd) = (!decide (name = ⟨#[]⟩) && decide (S = z) && v) := by
    unfold kidL
    rw [← hS, ← hz, ← hv]
   rw [hS] at hSs
   rw [hz] at hzs
   have HZ := LH (show ⟨#[34]⟩ ++ name ++ ⟨#[34]⟩ = z from hz)
   simp only [hv] at HV
   have HNO := LH hno
   have HVV := LH hVV
   clear hrange hrg hget hR hcs hxr hwV hVc hVs hXV hno hv hmem hVV hS hz hnu
   go_wp2_with (with_reducible show wpList _ _ _ (⟨some 50, _, _, _, _, _⟩ :: _) _ _; refine Hid.out ?_)
   refine LH ?_
   refine wpList_load_mid rfl 38 (.tmp 49) rfl bb (o + k * 9) rfl [.string name, .int .i64 kk, .string t1, .string mr1, .int .i64 en, .int .u64 (vb : Int), .int .u64 (vh : Int), .slice B1 m1 e1, .slice B2 m2' e2] _ HRG.out Tryz.underlying38 rfl (by rw [info38s]; rfl) ?_
   go_wp2_with fail
   rw [HVV.out]
   by_cases hn0 : name = ⟨#[]⟩
   ·have hs : (name.toList == (⟨#[]⟩ : ByteArray).toList) = true := by rw [hn0]; simp
    have hs2 : (name == ⟨#[]⟩) = true := by rw [hn0]; exact ba_beq _
    have hs5 : name.toList = [] := by rw [hn0, ByteArray.toList_eq]
    have HN0 := LH hn0
    clear hn0
    refine hq_region (C := fun W => Below V.heap.size V W) (by kernel_rfl) (by kernel_rfl) (below_dr V 1) ?_
    refine hqv (.pointer (some ⟨wr.heap.size, 0, none⟩)) ?_
    refine hq_val (.string name) (by kernel_rfl) (fun W hW => by have h0 := HE0.out W hW; go_simp) ?_
    refine hqv (.bool true) ?_
    refine hqv (.bool true) ?_
    refine hqs ?_
    refine hqs ?_
    refine hqs ?_
    refine hqs ?_
    refine hqs ?_
    refine hqs ?_
    refine hqs ?_
    refine hqs ?_
    refine hqv (.bool true) ?_
    refine hqv (.bool true) ?_
    refine hqs ?_
    refine hqs ?_
    refine hqs ?_
    refine hqs ?_
    refine hqv (.bool true) ?_
    refine hq_nil ?_
    intro W hW
    have HXW := LH (HXV.out.trans (hW.mono HXV.out.size))
    go_simp
    go_wp2_with fail
    go_ret
    exact ⟨congrArg (fun b => Ending.returned (Value.bool b)) ((all_no HGET.out (HNO.out.trans (by simp [HN0.out]))).symm), HXB.out.trans (HXW.out.mono HXB.out.size)⟩
   ·have hs : (name.toList == (⟨#[]⟩ : ByteArray).toList) = false := ba_ne hn0
    have hs2 : (name == ⟨#[]⟩) = false := ba_bne hn0
    have hs5 : ¬ name.toList = [] := fun h => hn0 (ByteArray.ext (Array.toList_inj.1 ((ByteArray.toList_eq name).symm.trans h)))
    have HN0 := LH hn0
    clear hn0
    by_cases hq : S = z
    ·have hs3 : (S.toList == z.toList) = true := by rw [hq]; simp
     have hs4 : (S == z) = true := by rw [hq]; exact ba_beq _
     have HQQ := LH hq
     clear hq
     cases v
     ·refine hq_region (C := fun W => Below V.heap.size V W) (by kernel_rfl) (by kernel_rfl) (below_dr V 1) ?_
      refine hqv (.pointer (some ⟨wr.heap.size, 0, none⟩)) ?_
      refine hq_val (.string name) (by kernel_rfl) (fun W hW => by have h0 := HE0.out W hW; go_simp) ?_
      refine hqv (.bool false) ?_
      refine hqv (.bool false) ?_
      refine hqv (.pointer (some ⟨wr.heap.size, 0, none⟩)) ?_
      refine hq_val (.string name) (by kernel_rfl) (fun W hW => by have h0 := HE0.out W hW; go_simp) ?_
      refine hq_enter (.string S) 24 #[.string name, .bool true] (by kernel_rfl) (fun W hW => by go_simp) (fun W hW => (HS.out W).mono fun e W2 ⟨q1, q2⟩ => ⟨q1, hW.trans (q2.mono hW.size)⟩) ?_
      refine hqv (.pointer (some ⟨wr.heap.size, 0, none⟩)) ?_
      refine hq_val (.string name) (by kernel_rfl) (fun W hW => by have h0 := HE0.out W hW; go_simp) ?_
      refine hq_val (.string (⟨#[34]⟩ ++ name)) (by kernel_rfl) (fun W hW => by go_simp; omega) ?_
      refine hq_val (.string z) (by kernel_rfl) (fun W hW => by have q := HZ.out; go_simp; omega) ?_
      refine hqv (.bool false) ?_
      refine hqv (.bool false) ?_
      refine hqv (.bool false) ?_
      refine hqv (.pointer (some ⟨wr.heap.size, 1, none⟩)) ?_
      refine hq_val (.agg #[.int .i64 kk, .string t1, .string mr1, .int .i64 en, .int .u64 (vb : Int), .int .u64 (vh : Int), .slice B1 m1 e1, .slice B2 m2' e2]) (by kernel_rfl) (fun W hW => by obtain ⟨h1, h2, h3, h4, h5, h6, h7, h8⟩ := HE1.out W hW; go_simp) ?_
      refine hq_enter (.bool false) 43 #[.agg #[.int .i64 kk, .string t1, .string mr1, .int .i64 en, .int .u64 (vb : Int), .int .u64 (vh : Int), .slice B1 m1 e1, .slice B2 m2' e2]] (by kernel_rfl) (fun W hW => by go_simp) (fun W hW => (HV.out W hW).mono fun e W2 ⟨q1, q2⟩ => ⟨q1, hW.trans (q2.mono hW.size)⟩) ?_
      refine hqv (.bool true) ?_
      refine hqv (.bool true) ?_
      refine hq_nil ?_
      intro W hW
      have HXW := LH (HXV.out.trans (hW.mono HXV.out.size))
      go_simp
      go_wp2_with fail
      go_ret
      exact ⟨congrArg (fun b => Ending.returned (Value.bool b)) ((all_no HGET.out (HNO.out.trans (by simp [HN0.out]))).symm), HXB.out.trans (HXW.out.mono HXB.out.size)⟩
     ·refine hq_region (C := fun W => Below V.heap.size V W) (by kernel_rfl) (by kernel_rfl) (below_dr V 1) ?_
      refine hqv (.pointer (some ⟨wr.heap.size, 0, none⟩)) ?_
      refine hq_val (.string name) (by kernel_rfl) (fun W hW => by have h0 := HE0.out W hW; go_simp) ?_
      refine hqv (.bool false) ?_
      refine hqv (.bool false) ?_
      refine hqv (.pointer (some ⟨wr.heap.size, 0, none⟩)) ?_
      refine hq_val (.string name) (by kernel_rfl) (fun W hW => by have h0 := HE0.out W hW; go_simp) ?_
      refine hq_enter (.string S) 24 #[.string name, .bool true] (by kernel_rfl) (fun W hW => by go_simp) (fun W hW => (HS.out W).mono fun e W2 ⟨q1, q2⟩ => ⟨q1, hW.trans (q2.mono hW.size)⟩) ?_
      refine hqv (.pointer (some ⟨wr.heap.size, 0, none⟩)) ?_
      refine hq_val (.string name) (by kernel_rfl) (fun W hW => by have h0 := HE0.out W hW; go_simp) ?_
      refine hq_val (.string (⟨#[34]⟩ ++ name)) (by kernel_rfl) (fun W hW => by go_simp; omega) ?_
      refine hq_val (.string z) (by kernel_rfl) (fun W hW => by have q := HZ.out; go_simp; omega) ?_
      refine hqv (.bool false) ?_
      refine hqv (.bool false) ?_
      refine hqv (.bool false) ?_
      refine hqv (.pointer (some ⟨wr.heap.size, 1, none⟩)) ?_
      refine hq_val (.agg #[.int .i64 kk, .string t1, .string mr1, .int .i64 en, .int .u64 (vb : Int), .int .u64 (vh : Int), .slice B1 m1 e1, .slice B2 m2' e2]) (by kernel_rfl) (fun W hW => by obtain ⟨h1, h2, h3, h4, h5, h6, h7, h8⟩ := HE1.out W hW; go_simp) ?_
      refine hq_enter (.bool true) 43 #[.agg #[.int .i64 kk, .string t1, .string mr1, .int .i64 en, .int .u64 (vb : Int), .int .u64 (vh : Int), .slice B1 m1 e1, .slice B2 m2' e2]] (by kernel_rfl) (fun W hW => by go_simp) (fun W hW => (HV.out W hW).mono fun e W2 ⟨q1, q2⟩ => ⟨q1, hW.trans (q2.mono hW.size)⟩) ?_
      refine hqv (.bool false) ?_
      refine hqv (.bool false) ?_
      refine hq_nil ?_
      intro W hW
      have HXW := LH (HXV.out.trans (hW.mono HXV.out.size))
      go_simp
      go_wp2_with fail
      go_roundw
      case rel =>
       refine ⟨k + 1, by omega, by go_num, HXW.out, fun j p hj hg => ?_⟩
       by_cases e : j = k
       ·subst e
        rw [HGET.out] at hg
        injection hg with hg
        subst hg
        exact HNO.out.trans (by simp [HN0.out, HQQ.out])
       ·exact HP.out j p (by omega) hg
      case measure => simp [intOf]; omega
    ·have hs3 : (S.toList == z.toList) = false := ba_ne hq
     have hs4 : (S == z) = false := ba_bne hq
     have HQQ := LH hq
     clear hq
     refine hq_region (C := fun W => Below V.heap.size V W) (by kernel_rfl) (by kernel_rfl) (below_dr V 1) ?_
     refine hqv (.pointer (some ⟨wr.heap.size, 0, none⟩)) ?_
     refine hq_val (.string name) (by kernel_rfl) (fun W hW => by have h0 := HE0.out W hW; go_simp) ?_
     refine hqv (.bool false) ?_
     refine hqv (.bool false) ?_
     refine hqv (.pointer (some ⟨wr.heap.size, 0, none⟩)) ?_
     refine hq_val (.string name) (by kernel_rfl) (fun W hW => by have h0 := HE0.out W hW; go_simp) ?_
     refine hq_enter (.string S) 24 #[.string name, .bool true] (by kernel_rfl) (fun W hW => by go_simp) (fun W hW => (HS.out W).mono fun e W2 ⟨q1, q2⟩ => ⟨q1, hW.trans (q2.mono hW.size)⟩) ?_
     refine hqv (.pointer (some ⟨wr.heap.size, 0, none⟩)) ?_
     refine hq_val (.string name) (by kernel_rfl) (fun W hW => by have h0 := HE0.out W hW; go_simp) ?_
     refine hq_val (.string (⟨#[34]⟩ ++ name)) (by kernel_rfl) (fun W hW => by go_simp; omega) ?_
     refine hq_val (.string z) (by kernel_rfl) (fun W hW => by have q := HZ.out; go_simp; omega) ?_
     refine hqv (.bool true) ?_
     refine hqv (.bool true) ?_
     refine hqv (.bool true) ?_
     refine hqs ?_
     refine hqs ?_
     refine hqs ?_
     refine hqs ?_
     refine hqv (.bool true) ?_
     refine hq_nil ?_
     intro W hW
     have HXW := LH (HXV.out.trans (hW.mono HXV.out.size))
     go_simp
     go_wp2_with fail
     go_ret
     exact ⟨congrArg (fun b => Ending.returned (Value.bool b)) ((all_no HGET.out (HNO.out.trans (by simp [HQQ.out]))).symm), HXB.out.trans (HXW.out.mono HXB.out.size)⟩
  ·go_wp2_with fail
   go_ret
   refine ⟨congrArg (fun b => Ending.returned (Value.bool b)) (all_yes fun j p hj => HP.out j p (by have := (List.getElem?_eq_some_iff.1 hj).1; have := HML.out; omega) hj).symm, HXB.out.trans (HR.out.mono HXB.out.size)⟩
theorem lf_12 {K : Type} (fk : K → Bool) (R : K → List Value → Prop) (l : List (ByteArray × K)) (w0 : World) (tx more : ByteArray) (n : Int) (bits high : Nat) (A B : Option Addr) (m c m2 c2 : Nat) (hm2 : m2 ≤ 140737488351232) (E : LfEnv K fk R l w0) (hml : m2 = l.length) (hkv : KidsV w0 R (.slice B m2 c2) l) (ht : tx.size ≤ 300 ∧ UT tx) (hq : soutB true tx = quoB tx) (w : World) (hw : Below w0.heap.size w0 w) :
  Calls Tryz.prog 43 #[valV 12 tx more n bits high (.slice A m c) (.slice B m2 c2)] w fun e w' => e = .returned (.bool (l.all (kidL fk))) ∧ Below w.heap.size w w' := by
 have HEV := LH E
 have HKV := LH hkv
 have HML := LH hml
 have HW0 := LH hw
 obtain ⟨hts, htu⟩ := ht
 have hSs := soutB_size true tx hts htu
 have hzs := quoB_size tx
 obtain ⟨S, hS⟩ : ∃ S, soutB true tx = S := ⟨_, rfl⟩
 obtain ⟨z, hz⟩ : ∃ z, quoB tx = z := ⟨_, rfl⟩
 have HS := LH (fun W => hS ▸ extString_any tx true W (by omega) htu)
 rw [hS] at hSs hq
 rw [hz] at hzs hq
 have HZ := LH (show ⟨#[34]⟩ ++ tx ++ ⟨#[34]⟩ = z from hz)
 have hs3 : (S.toList == z.toList) = true := by rw [hq]; simp
 have hs4 : (S == z) = true := by rw [hq]; exact ba_beq _
 clear hS hz htu hq
 clear E hkv hml hw
 unfold valV
 obtain ⟨X, hX, hXb, hXs, hXc⟩ := box_cells w 12 tx more n bits high (.slice A m c) (.slice B m2 c2)
 have HXB := LH hXb
 have HX := LH hX
 have HXC := LH hXc
 clear hX hXb hXc hXs
 go_enter Tryz.func43, Tryz.ntmps43
 go_upto_region 1 with fail
 rw [HX.out]
 refine hq_region (C := fun W => Below X.heap.size X W) (by kernel_rfl) (by kernel_rfl) (below_dr X 1) ?_
 refine hqv (.pointer (some ⟨w.heap.size, 0, none⟩)) ?_
 refine hq_val (.int .i64 12) (by kernel_rfl) (fun W hW => by have h0 := HXC.out W hW 0 _ rfl; go_simp) ?_
 refine hqv (.bool false) ?_
 refine hqv (.bool false) ?_
 refine hqv (.pointer (some ⟨w.heap.size, 0, none⟩)) ?_
 refine hq_val (.int .i64 12) (by kernel_rfl) (fun W hW => by have h0 := HXC.out W hW 0 _ rfl; go_simp) ?_
 refine hqv (.bool true) ?_
 refine hqv (.bool true) ?_
 refine hqv (.pointer (some ⟨w.heap.size, 1, none⟩)) ?_
 refine hq_val (.string tx) (by kernel_rfl) (fun W hW => by have h0 := HXC.out W hW 1 _ rfl; go_simp) ?_
 refine hq_enter (.string S) 24 #[.string tx, .bool true] (by kernel_rfl) (fun W hW => by go_simp) (fun W hW => (HS.out W).mono fun e W2 ⟨q1, q2⟩ => ⟨q1, hW.trans (q2.mono hW.size)⟩) ?_
 refine hqv (.pointer (some ⟨w.heap.size, 1, none⟩)) ?_
 refine hq_val (.string tx) (by kernel_rfl) (fun W hW => by have h0 := HXC.out W hW 1 _ rfl; go_simp) ?_
 refine hq_val (.string (⟨#[34]⟩ ++ tx)) (by kernel_rfl) (fun W hW => by go_simp; omega) ?_
 refine hq_val (.string z) (by kernel_rfl) (fun W hW => by have q := HZ.out; go_simp; omega) ?_
 refine hqv (.bool false) ?_
 refine hqv (.bool false) ?_
 refine hqv (.bool false) ?_
 refine hq_nil ?_
 intro W hW
 have HXW := LH hW
 go_simp
 have c0 := HXC.out _ HXW.out 0 _ rfl
 have c7 := HXC.out _ HXW.out 7 _ rfl
 clear hW
 go_wp2_with fail
 clear c0 c7
 go_loopw [47] (fun i wr => ∃ k : Nat, k ≤ m2 ∧ i = .int .i64 k ∧ Hid (Below X.heap.size X wr) ∧ Hid (∀ j p, j < k → l[j]? = some p → kidL fk p = true)) (fun i _ => m2 - (intOf i).toNat)
 case atStart => exact ⟨0, Nat.zero_le _, rfl, HXW.out, fun j p hj => absurd hj (Nat.not_lt_zero _)⟩
 case round =>
  obtain ⟨k, hk, rfl, HR, HP⟩ := hrel
  by_cases hlt : k < m2
  ·obtain ⟨name, kd, bb, o, cs, hget, rfl, hR, hcs, hrange⟩ := HKV.out.elem (i := k) (by have := HML.out; omega)
   have hmem : (name, kd) ∈ l := List.mem_of_getElem? hget
   have hxr : Below w0.heap.size w0 wr := HW0.out.trans ((HXB.out.trans (HR.out.mono HXB.out.size)).mono HW0.out.size)
   have hrg := rangeAt_later hrange hxr
   obtain ⟨kk, t1, mr1, en, vb, vh, B1, B2, m1, e1, m2', e2, rfl⟩ := HEV.out.cells _ hmem cs hR
   have hns := (HEV.out.names _ hmem).1
   have hnu := (HEV.out.names _ hmem).2
   simp only at hns hnu
   have HRG := LH hrg
   have HGET := LH hget
   obtain ⟨V, hVV⟩ : ∃ V, wr.alloc (.cells #[.string name, .int .i64 kk, .string t1, .string mr1, .int .i64 en, .int .u64 (vb : Int), .int .u64 (vh : Int), .slice B1 m1 e1, .slice B2 m2' e2] 38) = V := ⟨_, rfl⟩
   have hwV : Below wr.heap.size wr V := hVV ▸ below_allocB wr _
   have hVs : V.heap.size = wr.heap.size + 1 := by rw [← hVV]; simp
   have hVc : ∀ i v, (#[.string name, .int .i64 kk, .string t1, .string mr1, .int .i64 en, .int .u64 (vb : Int), .int .u64 (vh : Int), .slice B1 m1 e1, .slice B2 m2' e2] : Array Value)[i]? = some v → ∀ W, Below V.heap.size V W → W.cell? ⟨wr.heap.size, i, none⟩ = some v := by
    intro i v hv W hW
    rw [hW.cell (p := ⟨wr.heap.size, i, none⟩) (by rw [hVs]; simp), ← hVV]
    exact (blk_cell (heap_alloc_new wr _) i).trans hv
   have HE0 := LH (hVc 0 _ rfl)
   have HE1 := LH (fun W hW => (⟨hVc 1 _ rfl W hW, hVc 2 _ rfl W hW, hVc 3 _ rfl W hW, hVc 4 _ rfl W hW, hVc 5 _ rfl W hW, hVc 6 _ rfl W hW, hVc 7 _ rfl W hW, hVc 8 _ rfl W hW⟩ : _ ∧ _ ∧ _ ∧ _ ∧ _ ∧ _ ∧ _ ∧ _))
   have hXV : Below X.heap.size X V := HR.out.trans (hwV.mono HR.out.size)
   have HV := LH (fun W (hW : Below V.heap.size V W) => HEV.out.val _ hmem _ hR W (hxr.trans ((hwV.trans (hW.mono hwV.size)).mono hxr.size)))
   have hSs := soutB_size true name hns hnu
   have hzs := quoB_size name
   obtain ⟨S, hS⟩ : ∃ S, soutB true name = S := ⟨_, rfl⟩
   obtain ⟨z, hz⟩ : ∃ z, quoB name = z := ⟨_, rfl⟩
   have HS := LH (fun W => hS ▸ extString_any name true W (by omega) hnu)
   have HXV := LH hXV
   obtain ⟨v, hv⟩ : ∃ v, fk kd = v := ⟨_, rfl⟩
   have hno : kidL fk (name, kd) = (!decide (name = ⟨#[]⟩) && decide (S = z) && v) := by
    unfold kidL
    rw [← hS, ← hz, ← hv]
   rw [hS] at hSs
   rw [hz] at hzs
   have HZ := LH (show ⟨#[34]⟩ ++ name ++ ⟨#[34]⟩ = z from hz)
   simp only [hv] at HV
   have HNO := LH hno
   have HVV := LH hVV
   clear hrange hrg hget hR hcs hxr hwV hVc hVs hXV hno hv hmem hVV hS hz hnu
   go_wp2_with (with_reducible show wpList _ _ _ (⟨some 50, _, _, _, _, _⟩ :: _) _ _; refine Hid.out ?_)
   refine LH ?_
   refine wpList_load_mid rfl 38 (.tmp 49) rfl bb (o + k * 9) rfl [.string name, .int .i64 kk, .string t1, .string mr1, .int .i64 en, .int .u64 (vb : Int), .int .u64 (vh : Int), .slice B1 m1 e1, .slice B2 m2' e2] _ HRG.out Tryz.underlying38 rfl (by rw [info38s]; rfl) ?_
   go_wp2_with fail
   rw [HVV.out]
   by_cases hn0 : name = ⟨#[]⟩
   ·have hs : (name.toList == (⟨#[]⟩ : ByteArray).toList) = true := by rw [hn0]; simp
    have hs2 : (name == ⟨#[]⟩) = true := by rw [hn0]; exact ba_beq _
    have hs5 : name.toList = [] := by rw [hn0, ByteArray.toList_eq]
    have HN0 := LH hn0
    clear hn0
    refine hq_region (C := fun W => Below V.heap.size V W) (by kernel_rfl) (by kernel_rfl) (below_dr V 1) ?_
    refine hqv (.pointer (some ⟨wr.heap.size, 0, none⟩)) ?_
    refine hq_val (.string name) (by kernel_rfl) (fun W hW => by have h0 := HE0.out W hW; go_simp) ?_
    refine hqv (.bool true) ?_
    refine hqv (.bool true) ?_
    refine hqs ?_
    refine hqs ?_
    refine hqs ?_
    refine hqs ?_
    refine hqs ?_
    refine hqs ?_
    refine hqs ?_
    refine hqs ?_
    refine hqv (.bool true) ?_
    refine hqv (.bool true) ?_
    refine hqs ?_
    refine hqs ?_
    refine hqs ?_
    refine hqs ?_
    refine hqv (.bool true) ?_
    refine hq_nil ?_
    intro W hW
    have HXW := LH (HXV.out.trans (hW.mono HXV.out.size))
    go_simp
    go_wp2_with fail
    go_ret
    exact ⟨congrArg (fun b => Ending.returned (Value.bool b)) ((all_no HGET.out (HNO.out.trans (by simp [HN0.out]))).symm), HXB.out.trans (HXW.out.mono HXB.out.size)⟩
   ·have hs : (name.toList == (⟨#[]⟩ : ByteArray).toList) = false := ba_ne hn0
    have hs2 : (name == ⟨#[]⟩) = false := ba_bne hn0
    have hs5 : ¬ name.toList = [] := fun h => hn0 (ByteArray.ext (Array.toList_inj.1 ((ByteArray.toList_eq name).symm.trans h)))
    have HN0 := LH hn0
    clear hn0
    by_cases hq : S = z
    ·have hs3 : (S.toList == z.toList) = true := by rw [hq]; simp
     have hs4 : (S == z) = true := by rw [hq]; exact ba_beq _
     have HQQ := LH hq
     clear hq
     cases v
     ·refine hq_region (C := fun W => Below V.heap.size V W) (by kernel_rfl) (by kernel_rfl) (below_dr V 1) ?_
      refine hqv (.pointer (some ⟨wr.heap.size, 0, none⟩)) ?_
      refine hq_val (.string name) (by kernel_rfl) (fun W hW => by have h0 := HE0.out W hW; go_simp) ?_
      refine hqv (.bool false) ?_
      refine hqv (.bool false) ?_
      refine hqv (.pointer (some ⟨wr.heap.size, 0, none⟩)) ?_
      refine hq_val (.string name) (by kernel_rfl) (fun W hW => by have h0 := HE0.out W hW; go_simp) ?_
      refine hq_enter (.string S) 24 #[.string name, .bool true] (by kernel_rfl) (fun W hW => by go_simp) (fun W hW => (HS.out W).mono fun e W2 ⟨q1, q2⟩ => ⟨q1, hW.trans (q2.mono hW.size)⟩) ?_
      refine hqv (.pointer (some ⟨wr.heap.size, 0, none⟩)) ?_
      refine hq_val (.string name) (by kernel_rfl) (fun W hW => by have h0 := HE0.out W hW; go_simp) ?_
      refine hq_val (.string (⟨#[34]⟩ ++ name)) (by kernel_rfl) (fun W hW => by go_simp; omega) ?_
      refine hq_val (.string z) (by kernel_rfl) (fun W hW => by have q := HZ.out; go_simp; omega) ?_
      refine hqv (.bool false) ?_
      refine hqv (.bool false) ?_
      refine hqv (.bool false) ?_
      refine hqv (.pointer (some ⟨wr.heap.size, 1, none⟩)) ?_
      refine hq_val (.agg #[.int .i64 kk, .string t1, .string mr1, .int .i64 en, .int .u64 (vb : Int), .int .u64 (vh : Int), .slice B1 m1 e1, .slice B2 m2' e2]) (by kernel_rfl) (fun W hW => by obtain ⟨h1, h2, h3, h4, h5, h6, h7, h8⟩ := HE1.out W hW; go_simp) ?_
      refine hq_enter (.bool false) 43 #[.agg #[.int .i64 kk, .string t1, .string mr1, .int .i64 en, .int .u64 (vb : Int), .int .u64 (vh : Int), .slice B1 m1 e1, .slice B2 m2' e2]] (by kernel_rfl) (fun W hW => by go_simp) (fun W hW => (HV.out W hW).mono fun e W2 ⟨q1, q2⟩ => ⟨q1, hW.trans (q2.mono hW.size)⟩) ?_
      refine hqv (.bool true) ?_
      refine hqv (.bool true) ?_
      refine hq_nil ?_
      intro W hW
      have HXW := LH (HXV.out.trans (hW.mono HXV.out.size))
      go_simp
      go_wp2_with fail
      go_ret
      exact ⟨congrArg (fun b => Ending.returned (Value.bool b)) ((all_no HGET.out (HNO.out.trans (by simp [HN0.out]))).symm), HXB.out.trans (HXW.out.mono HXB.out.size)⟩
     ·refine hq_region (C := fun W => Below V.heap.size V W) (by kernel_rfl) (by kernel_rfl) (below_dr V 1) ?_
      refine hqv (.pointer (some ⟨wr.heap.size, 0, none⟩)) ?_
      refine hq_val (.string name) (by kernel_rfl) (fun W hW => by have h0 := HE0.out W hW; go_simp) ?_
      refine hqv (.bool false) ?_
      refine hqv (.bool false) ?_
      refine hqv (.pointer (some ⟨wr.heap.size, 0, none⟩)) ?_
      refine hq_val (.string name) (by kernel_rfl) (fun W hW => by have h0 := HE0.out W hW; go_simp) ?_
      refine hq_enter (.string S) 24 #[.string name, .bool true] (by kernel_rfl) (fun W hW => by go_simp) (fun W hW => (HS.out W).mono fun e W2 ⟨q1, q2⟩ => ⟨q1, hW.trans (q2.mono hW.size)⟩) ?_
      refine hqv (.pointer (some ⟨wr.heap.size, 0, none⟩)) ?_
      refine hq_val (.string name) (by kernel_rfl) (fun W hW => by have h0 := HE0.out W hW; go_simp) ?_
      refine hq_val (.string (⟨#[34]⟩ ++ name)) (by kernel_rfl) (fun W hW => by go_simp; omega) ?_
      refine hq_val (.string z) (by kernel_rfl) (fun W hW => by have q := HZ.out; go_simp; omega) ?_
      refine hqv (.bool false) ?_
      refine hqv (.bool false) ?_
      refine hqv (.bool false) ?_
      refine hqv (.pointer (some ⟨wr.heap.size, 1, none⟩)) ?_
      refine hq_val (.agg #[.int .i64 kk, .string t1, .string mr1, .int .i64 en, .int .u64 (vb : Int), .int .u64 (vh : Int), .slice B1 m1 e1, .slice B2 m2' e2]) (by kernel_rfl) (fun W hW => by obtain ⟨h1, h2, h3, h4, h5, h6, h7, h8⟩ := HE1.out W hW; go_simp) ?_
      refine hq_enter (.bool true) 43 #[.agg #[.int .i64 kk, .string t1, .string mr1, .int .i64 en, .int .u64 (vb : Int), .int .u64 (vh : Int), .slice B1 m1 e1, .slice B2 m2' e2]] (by kernel_rfl) (fun W hW => by go_simp) (fun W hW => (HV.out W hW).mono fun e W2 ⟨q1, q2⟩ => ⟨q1, hW.trans (q2.mono hW.size)⟩) ?_
      refine hqv (.bool false) ?_
      refine hqv (.bool false) ?_
      refine hq_nil ?_
      intro W hW
      have HXW := LH (HXV.out.trans (hW.mono HXV.out.size))
      go_simp
      go_wp2_with fail
      go_roundw
      case rel =>
       refine ⟨k + 1, by omega, by go_num, HXW.out, fun j p hj hg => ?_⟩
       by_cases e : j = k
       ·subst e
        rw [HGET.out] at hg
        injection hg with hg
        subst hg
        exact HNO.out.trans (by simp [HN0.out, HQQ.out])
       ·exact HP.out j p (by omega) hg
      case measure => simp [intOf]; omega
    ·have hs3 : (S.toList == z.toList) = false := ba_ne hq
     have hs4 : (S == z) = false := ba_bne hq
     have HQQ := LH hq
     clear hq
     refine hq_region (C := fun W => Below V.heap.size V W) (by kernel_rfl) (by kernel_rfl) (below_dr V 1) ?_
     refine hqv (.pointer (some ⟨wr.heap.size, 0, none⟩)) ?_
     refine hq_val (.string name) (by kernel_rfl) (fun W hW => by have h0 := HE0.out W hW; go_simp) ?_
     refine hqv (.bool false) ?_
     refine hqv (.bool false) ?_
     refine hqv (.pointer (some ⟨wr.heap.size, 0, none⟩)) ?_
     refine hq_val (.string name) (by kernel_rfl) (fun W hW => by have h0 := HE0.out W hW; go_simp) ?_
     refine hq_enter (.string S) 24 #[.string name, .bool true] (by kernel_rfl) (fun W hW => by go_simp) (fun W hW => (HS.out W).mono fun e W2 ⟨q1, q2⟩ => ⟨q1, hW.trans (q2.mono hW.size)⟩) ?_
     refine hqv (.pointer (some ⟨wr.heap.size, 0, none⟩)) ?_
     refine hq_val (.string name) (by kernel_rfl) (fun W hW => by have h0 := HE0.out W hW; go_simp) ?_
     refine hq_val (.string (⟨#[34]⟩ ++ name)) (by kernel_rfl) (fun W hW => by go_simp; omega) ?_
     refine hq_val (.string z) (by kernel_rfl) (fun W hW => by have q := HZ.out; go_simp; omega) ?_
     refine hqv (.bool true) ?_
     refine hqv (.bool true) ?_
     refine hqv (.bool true) ?_
     refine hqs ?_
     refine hqs ?_
     refine hqs ?_
     refine hqs ?_
     refine hqv (.bool true) ?_
     refine hq_nil ?_
     intro W hW
     have HXW := LH (HXV.out.trans (hW.mono HXV.out.size))
     go_simp
     go_wp2_with fail
     go_ret
     exact ⟨congrArg (fun b => Ending.returned (Value.bool b)) ((all_no HGET.out (HNO.out.trans (by simp [HQQ.out]))).symm), HXB.out.trans (HXW.out.mono HXB.out.size)⟩
  ·go_wp2_with fail
   go_ret
   refine ⟨congrArg (fun b => Ending.returned (Value.bool b)) (all_yes fun j p hj => HP.out j p (by have := (List.getElem?_eq_some_iff.1 hj).1; have := HML.out; omega) hj).symm, HXB.out.trans (HR.out.mono HXB.out.size)⟩
theorem lf_1no {K : Type} (fk : K → Bool) (R : K → List Value → Prop) (l : List (ByteArray × K)) (w0 : World) (tx more : ByteArray) (n : Int) (bits high : Nat) (A B : Option Addr) (m c m2 c2 : Nat) (hm2 : m2 ≤ 140737488351232) (E : LfEnv K fk R l w0) (hml : m2 = l.length) (hkv : KidsV w0 R (.slice B m2 c2) l) (x : ByteArray) (hxs : x.size ≤ 100000) (hx1 : 69 ∈ x.data.toList) (hc : ∀ W, Below w0.heap.size w0 W → Calls Tryz.prog 10 #[valV 1 tx more n bits high (.slice A m c) (.slice B m2 c2), .bool false, .bool false] W fun e w' => e = .returned (.tuple #[.string x, .bool true]) ∧ Below W.heap.size W w') (w : World) (hw : Below w0.heap.size w0 w) :
  Calls Tryz.prog 43 #[valV 1 tx more n bits high (.slice A m c) (.slice B m2 c2)] w fun e w' => e = .returned (.bool false) ∧ Below w.heap.size w w' := by
 have HEV := LH E
 have HKV := LH hkv
 have HML := LH hml
 have HW0 := LH hw
 have HX1 := LH hx1
 have HC0 := LH hc
 clear hx1 hc
 clear E hkv hml hw
 unfold valV at HC0 ⊢
 obtain ⟨X, hX, hXb, hXs, hXc⟩ := box_cells w 1 tx more n bits high (.slice A m c) (.slice B m2 c2)
 have HXB := LH hXb
 have HX := LH hX
 have HXC := LH hXc
 clear hX hXb hXc hXs
 go_enter Tryz.func43, Tryz.ntmps43
 go_upto_region 1 with fail
 rw [HX.out]
 refine hq_region (C := fun W => Below X.heap.size X W) (by kernel_rfl) (by kernel_rfl) (below_dr X 1) ?_
 refine hqv (.pointer (some ⟨w.heap.size, 0, none⟩)) ?_
 refine hq_val (.int .i64 1) (by kernel_rfl) (fun W hW => by have h0 := HXC.out W hW 0 _ rfl; go_simp) ?_
 refine hqv (.bool false) ?_
 refine hqv (.bool false) ?_
 refine hqv (.pointer (some ⟨w.heap.size, 0, none⟩)) ?_
 refine hq_val (.int .i64 1) (by kernel_rfl) (fun W hW => by have h0 := HXC.out W hW 0 _ rfl; go_simp) ?_
 refine hqv (.bool false) ?_
 refine hqv (.bool false) ?_
 refine hqs ?_
 refine hqs ?_
 refine hqs ?_
 refine hqs ?_
 refine hqs ?_
 refine hqs ?_
 refine hqs ?_
 refine hqs ?_
 refine hqv (.bool false) ?_
 refine hqv (.bool false) ?_
 refine hq_nil ?_
 intro W hW
 have HXW := LH hW
 go_simp
 obtain ⟨c0, c1, c2', c3, c4, c5, c6, c7⟩ := box8 (HXC.out _ HXW.out)
 clear hW
 go_wp2_with (go_at_call 10; refine (HC0.out _ (HW0.out.trans ((HXB.out.trans (HXW.out.mono HXB.out.size)).mono HW0.out.size))).mono ?_; rintro e w1 ⟨rfl, hb1⟩)
 have HX1W := LH (HXW.out.trans (hb1.mono HXW.out.size))
 clear c0 c1 c2' c3 c4 c5 c6 c7 hb1
 go_loopw [5] (fun i wr => ∃ k : Nat, k ≤ x.size ∧ i = .int .i64 k ∧ Hid (Below X.heap.size X wr) ∧ Hid (∀ j b, j < k → x.data.toList[j]? = some b → b ≠ 69)) (fun i _ => x.size - (intOf i).toNat)
 case atStart => exact ⟨0, Nat.zero_le _, rfl, HX1W.out, fun j b hj => absurd hj (Nat.not_lt_zero _)⟩
 case round =>
  obtain ⟨k, hk, rfl, HR, HP⟩ := hrel
  by_cases hlt : k < x.size
  ·have hll : k < x.data.toList.length := by rw [Array.length_toList]; exact hlt
   have hx : ∀ h : k < x.size, ((x[k]'h).toNat : Int) = (byA x k : Int) := fun h => byA_at x k h
   have hb : x.data.toList[k]? = some (x.data.toList[k]'hll) := List.getElem?_eq_getElem hll
   have hbA : byA x k = (x.data.toList[k]'hll).toNat := by unfold byA; rw [List.getD_eq_getElem?_getD, hb]; rfl
   have HB := LH hb
   have HBA := LH hbA
   generalize byA x k = y at hx HBA
   clear hb hbA
   by_cases hz : y = 69
   ·have hz1 : ((y : Int) == 69) = true := by simp [hz]
    have HZ := LH hz
    clear hz
    go_wp2_with fail
    go_ret
    exact ⟨rfl, HXB.out.trans (HR.out.mono HXB.out.size)⟩
   ·have hz1 : ((y : Int) == 69) = false := by simp; omega
    have HZ := LH hz
    clear hz
    go_wp2_with fail
    go_roundw
    case rel =>
     refine ⟨k + 1, by omega, by go_num, HR.out, fun j b hj hg => ?_⟩
     by_cases e : j = k
     ·subst e
      rw [HB.out] at hg
      injection hg with hg
      intro h0
      have h1 := HBA.out
      rw [hg, h0] at h1
      exact HZ.out h1
     ·exact HP.out j b (by omega) hg
    case measure => simp [intOf]; omega
  ·obtain rfl : k = x.size := by omega
   refine absurd HX1.out (fun h => ?_)
   obtain ⟨j, hj, he⟩ := List.getElem_of_mem h
   exact HP.out j _ (by rw [Array.length_toList] at hj; exact hj) (List.getElem?_eq_getElem hj) he
theorem lf_1 {K : Type} (fk : K → Bool) (R : K → List Value → Prop) (l : List (ByteArray × K)) (w0 : World) (tx more : ByteArray) (n : Int) (bits high : Nat) (A B : Option Addr) (m c m2 c2 : Nat) (hm2 : m2 ≤ 140737488351232) (E : LfEnv K fk R l w0) (hml : m2 = l.length) (hkv : KidsV w0 R (.slice B m2 c2) l) (x : ByteArray) (hxs : x.size ≤ 100000) (hx1 : ¬ (69 ∈ x.data.toList)) (hc : ∀ W, Below w0.heap.size w0 W → Calls Tryz.prog 10 #[valV 1 tx more n bits high (.slice A m c) (.slice B m2 c2), .bool false, .bool false] W fun e w' => e = .returned (.tuple #[.string x, .bool true]) ∧ Below W.heap.size W w') (w : World) (hw : Below w0.heap.size w0 w) :
  Calls Tryz.prog 43 #[valV 1 tx more n bits high (.slice A m c) (.slice B m2 c2)] w fun e w' => e = .returned (.bool (l.all (kidL fk))) ∧ Below w.heap.size w w' := by
 have HEV := LH E
 have HKV := LH hkv
 have HML := LH hml
 have HW0 := LH hw
 have HX1 := LH hx1
 have HC0 := LH hc
 clear hx1 hc
 clear E hkv hml hw
 unfold valV at HC0 ⊢
 obtain ⟨X, hX, hXb, hXs, hXc⟩ := box_cells w 1 tx more n bits high (.slice A m c) (.slice B m2 c2)
 have HXB := LH hXb
 have HX := LH hX
 have HXC := LH hXc
 clear hX hXb hXc hXs
 go_enter Tryz.func43, Tryz.ntmps43
 go_upto_region 1 with fail
 rw [HX.out]
 refine hq_region (C := fun W => Below X.heap.size X W) (by kernel_rfl) (by kernel_rfl) (below_dr X 1) ?_
 refine hqv (.pointer (some ⟨w.heap.size, 0, none⟩)) ?_
 refine hq_val (.int .i64 1) (by kernel_rfl) (fun W hW => by have h0 := HXC.out W hW 0 _ rfl; go_simp) ?_
 refine hqv (.bool false) ?_
 refine hqv (.bool false) ?_
 refine hqv (.pointer (some ⟨w.heap.size, 0, none⟩)) ?_
 refine hq_val (.int .i64 1) (by kernel_rfl) (fun W hW => by have h0 := HXC.out W hW 0 _ rfl; go_simp) ?_
 refine hqv (.bool false) ?_
 refine hqv (.bool false) ?_
 refine hqs ?_
 refine hqs ?_
 refine hqs ?_
 refine hqs ?_
 refine hqs ?_
 refine hqs ?_
 refine hqs ?_
 refine hqs ?_
 refine hqv (.bool false) ?_
 refine hqv (.bool false) ?_
 refine hq_nil ?_
 intro W hW
 have HXW := LH hW
 go_simp
 obtain ⟨c0, c1, c2', c3, c4, c5, c6, c7⟩ := box8 (HXC.out _ HXW.out)
 clear hW
 go_wp2_with (go_at_call 10; refine (HC0.out _ (HW0.out.trans ((HXB.out.trans (HXW.out.mono HXB.out.size)).mono HW0.out.size))).mono ?_; rintro e w1 ⟨rfl, hb1⟩)
 have HX1W := LH (HXW.out.trans (hb1.mono HXW.out.size))
 clear c0 c1 c2' c3 c4 c5 c6 c7 hb1
 go_loopw [5] (fun i wr => ∃ k : Nat, k ≤ x.size ∧ i = .int .i64 k ∧ Hid (Below X.heap.size X wr) ∧ Hid (∀ j b, j < k → x.data.toList[j]? = some b → b ≠ 69)) (fun i _ => x.size - (intOf i).toNat)
 case atStart => exact ⟨0, Nat.zero_le _, rfl, HX1W.out, fun j b hj => absurd hj (Nat.not_lt_zero _)⟩
 case round =>
  obtain ⟨k, hk, rfl, HR, HP⟩ := hrel
  by_cases hlt : k < x.size
  ·have hll : k < x.data.toList.length := by rw [Array.length_toList]; exact hlt
   have hx : ∀ h : k < x.size, ((x[k]'h).toNat : Int) = (byA x k : Int) := fun h => byA_at x k h
   have hb : x.data.toList[k]? = some (x.data.toList[k]'hll) := List.getElem?_eq_getElem hll
   have hbA : byA x k = (x.data.toList[k]'hll).toNat := by unfold byA; rw [List.getD_eq_getElem?_getD, hb]; rfl
   have HB := LH hb
   have HBA := LH hbA
   generalize byA x k = y at hx HBA
   clear hb hbA
   by_cases hz : y = 69
   ·have hz1 : ((y : Int) == 69) = true := by simp [hz]
    have HZ := LH hz
    clear hz
    refine absurd (List.mem_of_getElem? HB.out) ?_
    have h1 := HBA.out
    rw [HZ.out] at h1
    have h2 : (x.data.toList[k]'hll) = 69 := UInt8.toNat_inj.1 h1.symm
    rw [h2]
    exact HX1.out
   ·have hz1 : ((y : Int) == 69) = false := by simp; omega
    have HZ := LH hz
    clear hz
    go_wp2_with fail
    go_roundw
    case rel =>
     refine ⟨k + 1, by omega, by go_num, HR.out, fun j b hj hg => ?_⟩
     by_cases e : j = k
     ·subst e
      rw [HB.out] at hg
      injection hg with hg
      intro h0
      have h1 := HBA.out
      rw [hg, h0] at h1
      exact HZ.out h1
     ·exact HP.out j b (by omega) hg
    case measure => simp [intOf]; omega
  ·obtain rfl : k = x.size := by omega
   clear HP
   have HR1 := LH HR.out
   have c7 := HXC.out _ HR1.out 7 _ rfl
   clear HR
   go_wp2_with fail
   clear c7
   go_loopw [47] (fun i wr => ∃ k : Nat, k ≤ m2 ∧ i = .int .i64 k ∧ Hid (Below X.heap.size X wr) ∧ Hid (∀ j p, j < k → l[j]? = some p → kidL fk p = true)) (fun i _ => m2 - (intOf i).toNat)
   case atStart => exact ⟨0, Nat.zero_le _, rfl, HR1.out, fun j p hj => absurd hj (Nat.not_lt_zero _)⟩
   case round =>
    obtain ⟨k, hk, rfl, HR, HP⟩ := hrel
    by_cases hlt : k < m2
    ·obtain ⟨name, kd, bb, o, cs, hget, rfl, hR, hcs, hrange⟩ := HKV.out.elem (i := k) (by have := HML.out; omega)
     have hmem : (name, kd) ∈ l := List.mem_of_getElem? hget
     have hxr : Below w0.heap.size w0 wr := HW0.out.trans ((HXB.out.trans (HR.out.mono HXB.out.size)).mono HW0.out.size)
     have hrg := rangeAt_later hrange hxr
     obtain ⟨kk, t1, mr1, en, vb, vh, B1, B2, m1, e1, m2', e2, rfl⟩ := HEV.out.cells _ hmem cs hR
     have hns := (HEV.out.names _ hmem).1
     have hnu := (HEV.out.names _ hmem).2
     simp only at hns hnu
     have HRG := LH hrg
     have HGET := LH hget
     obtain ⟨V, hVV⟩ : ∃ V, wr.alloc (.cells #[.string name, .int .i64 kk, .string t1, .string mr1, .int .i64 en, .int .u64 (vb : Int), .int .u64 (vh : Int), .slice B1 m1 e1, .slice B2 m2' e2] 38) = V := ⟨_, rfl⟩
     have hwV : Below wr.heap.size wr V := hVV ▸ below_allocB wr _
     have hVs : V.heap.size = wr.heap.size + 1 := by rw [← hVV]; simp
     have hVc : ∀ i v, (#[.string name, .int .i64 kk, .string t1, .string mr1, .int .i64 en, .int .u64 (vb : Int), .int .u64 (vh : Int), .slice B1 m1 e1, .slice B2 m2' e2] : Array Value)[i]? = some v → ∀ W, Below V.heap.size V W → W.cell? ⟨wr.heap.size, i, none⟩ = some v := by
      intro i v hv W hW
      rw [hW.cell (p := ⟨wr.heap.size, i, none⟩) (by rw [hVs]; simp), ← hVV]
      exact (blk_cell (heap_alloc_new wr _) i).trans hv
     have HE0 := LH (hVc 0 _ rfl)
     have HE1 := LH (fun W hW => (⟨hVc 1 _ rfl W hW, hVc 2 _ rfl W hW, hVc 3 _ rfl W hW, hVc 4 _ rfl W hW, hVc 5 _ rfl W hW, hVc 6 _ rfl W hW, hVc 7 _ rfl W hW, hVc 8 _ rfl W hW⟩ : _ ∧ _ ∧ _ ∧ _ ∧ _ ∧ _ ∧ _ ∧ _))
     have hXV : Below X.heap.size X V := HR.out.trans (hwV.mono HR.out.size)
     have HV := LH (fun W (hW : Below V.heap.size V W) => HEV.out.val _ hmem _ hR W (hxr.trans ((hwV.trans (hW.mono hwV.size)).mono hxr.size)))
     have hSs := soutB_size true name hns hnu
     have hzs := quoB_size name
     obtain ⟨S, hS⟩ : ∃ S, soutB true name = S := ⟨_, rfl⟩
     obtain ⟨z, hz⟩ : ∃ z, quoB name = z := ⟨_, rfl⟩
     have HS := LH (fun W => hS ▸ extString_any name true W (by omega) hnu)
     have HXV := LH hXV
     obtain ⟨v, hv⟩ : ∃ v, fk kd = v := ⟨_, rfl⟩
     have hno : kidL fk (name, kd) = (!decide (name = ⟨#[]⟩) && decide (S = z) && v) := by
      unfold kidL
      rw [← hS, ← hz, ← hv]
     rw [hS] at hSs
     rw [hz] at hzs
     have HZ := LH (show ⟨#[34]⟩ ++ name ++ ⟨#[34]⟩ = z from hz)
     simp only [hv] at HV
     have HNO := LH hno
     have HVV := LH hVV
     clear hrange hrg hget hR hcs hxr hwV hVc hVs hXV hno hv hmem hVV hS hz hnu
     go_wp2_with (with_reducible show wpList _ _ _ (⟨some 50, _, _, _, _, _⟩ :: _) _ _; refine Hid.out ?_)
     refine LH ?_
     refine wpList_load_mid rfl 38 (.tmp 49) rfl bb (o + k * 9) rfl [.string name, .int .i64 kk, .string t1, .string mr1, .int .i64 en, .int .u64 (vb : Int), .int .u64 (vh : Int), .slice B1 m1 e1, .slice B2 m2' e2] _ HRG.out Tryz.underlying38 rfl (by rw [info38s]; rfl) ?_
     go_wp2_with fail
     rw [HVV.out]
     by_cases hn0 : name = ⟨#[]⟩
     ·have hs : (name.toList == (⟨#[]⟩ : ByteArray).toList) = true := by rw [hn0]; simp
      have hs2 : (name == ⟨#[]⟩) = true := by rw [hn0]; exact ba_beq _
      have hs5 : name.toList = [] := by rw [hn0, ByteArray.toList_eq]
      have HN0 := LH hn0
      clear hn0
      refine hq_region (C := fun W => Below V.heap.size V W) (by kernel_rfl) (by kernel_rfl) (below_dr V 1) ?_
      refine hqv (.pointer (some ⟨wr.heap.size, 0, none⟩)) ?_
      refine hq_val (.string name) (by kernel_rfl) (fun W hW => by have h0 := HE0.out W hW; go_simp) ?_
      refine hqv (.bool true) ?_
      refine hqv (.bool true) ?_
      refine hqs ?_
      refine hqs ?_
      refine hqs ?_
      refine hqs ?_
      refine hqs ?_
      refine hqs ?_
      refine hqs ?_
      refine hqs ?_
      refine hqv (.bool true) ?_
      refine hqv (.bool true) ?_
      refine hqs ?_
      refine hqs ?_
      refine hqs ?_
      refine hqs ?_
      refine hqv (.bool true) ?_
      refine hq_nil ?_
      intro W hW
      have HXW := LH (HXV.out.trans (hW.mono HXV.out.size))
      go_simp
      go_wp2_with fail
      go_ret
      exact ⟨congrArg (fun b => Ending.returned (Value.bool b)) ((all_no HGET.out (HNO.out.trans (by simp [HN0.out]))).symm), HXB.out.trans (HXW.out.mono HXB.out.size)⟩
     ·have hs : (name.toList == (⟨#[]⟩ : ByteArray).toList) = false := ba_ne hn0
      have hs2 : (name == ⟨#[]⟩) = false := ba_bne hn0
      have hs5 : ¬ name.toList = [] := fun h => hn0 (ByteArray.ext (Array.toList_inj.1 ((ByteArray.toList_eq name).symm.trans h)))
      have HN0 := LH hn0
      clear hn0
      by_cases hq : S = z
      ·have hs3 : (S.toList == z.toList) = true := by rw [hq]; simp
       have hs4 : (S == z) = true := by rw [hq]; exact ba_beq _
       have HQQ := LH hq
       clear hq
       cases v
       ·refine hq_region (C := fun W => Below V.heap.size V W) (by kernel_rfl) (by kernel_rfl) (below_dr V 1) ?_
        refine hqv (.pointer (some ⟨wr.heap.size, 0, none⟩)) ?_
        refine hq_val (.string name) (by kernel_rfl) (fun W hW => by have h0 := HE0.out W hW; go_simp) ?_
        refine hqv (.bool false) ?_
        refine hqv (.bool false) ?_
        refine hqv (.pointer (some ⟨wr.heap.size, 0, none⟩)) ?_
        refine hq_val (.string name) (by kernel_rfl) (fun W hW => by have h0 := HE0.out W hW; go_simp) ?_
        refine hq_enter (.string S) 24 #[.string name, .bool true] (by kernel_rfl) (fun W hW => by go_simp) (fun W hW => (HS.out W).mono fun e W2 ⟨q1, q2⟩ => ⟨q1, hW.trans (q2.mono hW.size)⟩) ?_
        refine hqv (.pointer (some ⟨wr.heap.size, 0, none⟩)) ?_
        refine hq_val (.string name) (by kernel_rfl) (fun W hW => by have h0 := HE0.out W hW; go_simp) ?_
        refine hq_val (.string (⟨#[34]⟩ ++ name)) (by kernel_rfl) (fun W hW => by go_simp; omega) ?_
        refine hq_val (.string z) (by kernel_rfl) (fun W hW => by have q := HZ.out; go_simp; omega) ?_
        refine hqv (.bool false) ?_
        refine hqv (.bool false) ?_
        refine hqv (.bool false) ?_
        refine hqv (.pointer (some ⟨wr.heap.size, 1, none⟩)) ?_
        refine hq_val (.agg #[.int .i64 kk, .string t1, .string mr1, .int .i64 en, .int .u64 (vb : Int), .int .u64 (vh : Int), .slice B1 m1 e1, .slice B2 m2' e2]) (by kernel_rfl) (fun W hW => by obtain ⟨h1, h2, h3, h4, h5, h6, h7, h8⟩ := HE1.out W hW; go_simp) ?_
        refine hq_enter (.bool false) 43 #[.agg #[.int .i64 kk, .string t1, .string mr1, .int .i64 en, .int .u64 (vb : Int), .int .u64 (vh : Int), .slice B1 m1 e1, .slice B2 m2' e2]] (by kernel_rfl) (fun W hW => by go_simp) (fun W hW => (HV.out W hW).mono fun e W2 ⟨q1, q2⟩ => ⟨q1, hW.trans (q2.mono hW.size)⟩) ?_
        refine hqv (.bool true) ?_
        refine hqv (.bool true) ?_
        refine hq_nil ?_
        intro W hW
        have HXW := LH (HXV.out.trans (hW.mono HXV.out.size))
        go_simp
        go_wp2_with fail
        go_ret
        exact ⟨congrArg (fun b => Ending.returned (Value.bool b)) ((all_no HGET.out (HNO.out.trans (by simp [HN0.out]))).symm), HXB.out.trans (HXW.out.mono HXB.out.size)⟩
       ·refine hq_region (C := fun W => Below V.heap.size V W) (by kernel_rfl) (by kernel_rfl) (below_dr V 1) ?_
        refine hqv (.pointer (some ⟨wr.heap.size, 0, none⟩)) ?_
        refine hq_val (.string name) (by kernel_rfl) (fun W hW => by have h0 := HE0.out W hW; go_simp) ?_
        refine hqv (.bool false) ?_
        refine hqv (.bool false) ?_
        refine hqv (.pointer (some ⟨wr.heap.size, 0, none⟩)) ?_
        refine hq_val (.string name) (by kernel_rfl) (fun W hW => by have h0 := HE0.out W hW; go_simp) ?_
        refine hq_enter (.string S) 24 #[.string name, .bool true] (by kernel_rfl) (fun W hW => by go_simp) (fun W hW => (HS.out W).mono fun e W2 ⟨q1, q2⟩ => ⟨q1, hW.trans (q2.mono hW.size)⟩) ?_
        refine hqv (.pointer (some ⟨wr.heap.size, 0, none⟩)) ?_
        refine hq_val (.string name) (by kernel_rfl) (fun W hW => by have h0 := HE0.out W hW; go_simp) ?_
        refine hq_val (.string (⟨#[34]⟩ ++ name)) (by kernel_rfl) (fun W hW => by go_simp; omega) ?_
        refine hq_val (.string z) (by kernel_rfl) (fun W hW => by have q := HZ.out; go_simp; omega) ?_
        refine hqv (.bool false) ?_
        refine hqv (.bool false) ?_
        refine hqv (.bool false) ?_
        refine hqv (.pointer (some ⟨wr.heap.size, 1, none⟩)) ?_
        refine hq_val (.agg #[.int .i64 kk, .string t1, .string mr1, .int .i64 en, .int .u64 (vb : Int), .int .u64 (vh : Int), .slice B1 m1 e1, .slice B2 m2' e2]) (by kernel_rfl) (fun W hW => by obtain ⟨h1, h2, h3, h4, h5, h6, h7, h8⟩ := HE1.out W hW; go_simp) ?_
        refine hq_enter (.bool true) 43 #[.agg #[.int .i64 kk, .string t1, .string mr1, .int .i64 en, .int .u64 (vb : Int), .int .u64 (vh : Int), .slice B1 m1 e1, .slice B2 m2' e2]] (by kernel_rfl) (fun W hW => by go_simp) (fun W hW => (HV.out W hW).mono fun e W2 ⟨q1, q2⟩ => ⟨q1, hW.trans (q2.mono hW.size)⟩) ?_
        refine hqv (.bool false) ?_
        refine hqv (.bool false) ?_
        refine hq_nil ?_
        intro W hW
        have HXW := LH (HXV.out.trans (hW.mono HXV.out.size))
        go_simp
        go_wp2_with fail
        go_roundw
        case rel =>
         refine ⟨k + 1, by omega, by go_num, HXW.out, fun j p hj hg => ?_⟩
         by_cases e : j = k
         ·subst e
          rw [HGET.out] at hg
          injection hg with hg
          subst hg
          exact HNO.out.trans (by simp [HN0.out, HQQ.out])
         ·exact HP.out j p (by omega) hg
        case measure => simp [intOf]; omega
      ·have hs3 : (S.toList == z.toList) = false := ba_ne hq
       have hs4 : (S == z) = false := ba_bne hq
       have HQQ := LH hq
       clear hq
       refine hq_region (C := fun W => Below V.heap.size V W) (by kernel_rfl) (by kernel_rfl) (below_dr V 1) ?_
       refine hqv (.pointer (some ⟨wr.heap.size, 0, none⟩)) ?_
       refine hq_val (.string name) (by kernel_rfl) (fun W hW => by have h0 := HE0.out W hW; go_simp) ?_
       refine hqv (.bool false) ?_
       refine hqv (.bool false) ?_
       refine hqv (.pointer (some ⟨wr.heap.size, 0, none⟩)) ?_
       refine hq_val (.string name) (by kernel_rfl) (fun W hW => by have h0 := HE0.out W hW; go_simp) ?_
       refine hq_enter (.string S) 24 #[.string name, .bool true] (by kernel_rfl) (fun W hW => by go_simp) (fun W hW => (HS.out W).mono fun e W2 ⟨q1, q2⟩ => ⟨q1, hW.trans (q2.mono hW.size)⟩) ?_
       refine hqv (.pointer (some ⟨wr.heap.size, 0, none⟩)) ?_
       refine hq_val (.string name) (by kernel_rfl) (fun W hW => by have h0 := HE0.out W hW; go_simp) ?_
       refine hq_val (.string (⟨#[34]⟩ ++ name)) (by kernel_rfl) (fun W hW => by go_simp; omega) ?_
       refine hq_val (.string z) (by kernel_rfl) (fun W hW => by have q := HZ.out; go_simp; omega) ?_
       refine hqv (.bool true) ?_
       refine hqv (.bool true) ?_
       refine hqv (.bool true) ?_
       refine hqs ?_
       refine hqs ?_
       refine hqs ?_
       refine hqs ?_
       refine hqv (.bool true) ?_
       refine hq_nil ?_
       intro W hW
       have HXW := LH (HXV.out.trans (hW.mono HXV.out.size))
       go_simp
       go_wp2_with fail
       go_ret
       exact ⟨congrArg (fun b => Ending.returned (Value.bool b)) ((all_no HGET.out (HNO.out.trans (by simp [HQQ.out]))).symm), HXB.out.trans (HXW.out.mono HXB.out.size)⟩
    ·go_wp2_with fail
     go_ret
     refine ⟨congrArg (fun b => Ending.returned (Value.bool b)) (all_yes fun j p hj => HP.out j p (by have := (List.getElem?_eq_some_iff.1 hj).1; have := HML.out; omega) hj).symm, HXB.out.trans (HR.out.mono HXB.out.size)⟩
set_option maxHeartbeats 8000000
theorem quo_iff (s : ByteArray) : soutB true s = quoB s ↔ sout true s = 34 :: (s.data.toList ++ [34]) := by
 have e : (quoB s).data.toList = 34 :: (s.data.toList ++ [34]) := by simp [quoB]
 constructor
 ·intro h
  rw [← e, ← h]
  simp [soutB]
 ·intro h
  apply ByteArray.ext
  apply Array.toList_inj.1
  rw [e, ← h]
  simp [soutB]
theorem empty_iff (s : ByteArray) : s = ⟨#[]⟩ ↔ s.size = 0 := by
 constructor
 ·intro h; rw [h]; rfl
 ·intro h
  apply ByteArray.ext
  exact Array.eq_empty_of_size_eq_zero h
open Classical in
noncomputable def longB (d : Nat) (t : VT d) : Bool := decide (LongV d t)
theorem longB_iff (d : Nat) (t : VT d) : longB d t = true ↔ LongV d t := by simp [longB]
theorem kidL_iff {d : Nat} (p : ByteArray × VT d) : kidL (longB d) p = true ↔ (p.1.size ≠ 0 ∧ sout true p.1 = 34 :: (p.1.data.toList ++ [34]) ∧ LongV d p.2) := by
 unfold kidL
 simp only [Bool.and_eq_true, decide_eq_true_eq, Bool.not_eq_true', decide_eq_false_iff_not, quo_iff, empty_iff, longB_iff, and_assoc, ne_eq]
theorem kids_iff {d : Nat} (l : List (ByteArray × VT d)) : l.all (kidL (longB d)) = true ↔ ∀ p ∈ l, p.1.size ≠ 0 ∧ sout true p.1 = 34 :: (p.1.data.toList ++ [34]) ∧ LongV d p.2 := by
 rw [List.all_eq_true]
 exact forall_congr' fun p => forall_congr' fun _ => kidL_iff p
theorem bool_iff {a b : Bool} (h : a = true ↔ b = true) : a = b := by
 cases a <;> cases b <;> simp at h ⊢
def FitsAt (w0 : World) (d : Nat) : Prop := ∀ (t : VT d) (cs : List Value), IsV w0 d t cs → FitV d t → ∀ W, Below w0.heap.size w0 W →
 Calls Tryz.prog 43 #[.agg cs.toArray] W fun e w' => e = .returned (.bool (longB d t)) ∧ Below W.heap.size W w'
theorem dblOut_len (x : ByteArray) : (dblOut x).length ≤ x.size + 20 := by
 have : x.data.toList.length = x.size := Array.length_toList
 unfold dblOut
 split
 ·omega
 ·simp only [List.length_append, List.length_cons, List.length_nil]; omega
theorem fits_step (w0 : World) (hT0 : TabC w0) (h17 : 17 ≤ w0.heap.size) (d : Nat) (IH : FitsAt w0 d) : FitsAt w0 (d + 1) := by
 intro t cs hv hF W hW
 obtain ⟨kind, text, more, n, bits, high, b, kids⟩ := t
 obtain ⟨bv, kv, rfl, hk, hn, hbits, hhigh, hts, hms, ⟨A1, c1, rfl, hc1, hc1b, hrb⟩, hkv⟩ := hv
 obtain ⟨A2, c2, rfl, hc2, hc2b, hkr⟩ := id hkv
 have hF' : FitR (FitV d) ⟨kind, text, more, n, bits, high, b, kids⟩ := hF
 have hfk := hF'.kids
 have hft := hF'.text
 have hb : ∀ r : Bool, (r = true ↔ LongR (LongV d) ⟨kind, text, more, n, bits, high, b, kids⟩) → longB (d + 1) ⟨kind, text, more, n, bits, high, b, kids⟩ = r := fun r h => bool_iff ((longB_iff _ _).trans h.symm)
 simp only at hk hn hbits hhigh hts hms hfk hft hkv hkr hc2 hc2b hc1 hc1b hrb ⊢
 show Calls Tryz.prog 43 #[valV kind text more n bits high (.slice A1 b.length c1) (.slice A2 kids.length c2)] W fun e w' => e = .returned (.bool (longB (d + 1) ⟨kind, text, more, n, bits, high, b, kids⟩)) ∧ Below W.heap.size W w'
 have E : LfEnv (VT d) (longB d) (IsV w0 d) kids w0 := ⟨fun p hp => ⟨(hfk p hp).1, (hfk p hp).2.1⟩, fun p hp cs h => h.form, fun p hp cs h W2 hW2 => IH p.2 cs h (hfk p hp).2.2 W2 hW2⟩
 have hlb : kids.length ≤ 140737488351232 := by omega
 by_cases k15 : kind = 15
 ·rw [hb false ⟨fun h => (by cases h), fun h => absurd k15 h.kind⟩]
  subst k15
  exact lf_15 (longB d) (IsV w0 d) kids w0 text more n bits high A1 A2 b.length c1 kids.length c2 hlb E rfl hkv W hW
 by_cases k12 : kind = 12
 ·by_cases hq : soutB true text = quoB text
  ·rw [hb (kids.all (kidL (longB d))) ⟨fun h => ⟨k15, fun _ => (quo_iff text).1 hq, fun h1 => (by simp only at h1; omega), (kids_iff kids).1 h⟩, fun h => (kids_iff kids).2 h.kids⟩]
   subst k12
   exact lf_12 (longB d) (IsV w0 d) kids w0 text more n bits high A1 A2 b.length c1 kids.length c2 hlb E rfl hkv hft hq W hW
  ·rw [hb false ⟨fun h => (by cases h), fun h => absurd ((quo_iff text).2 (h.ptr k12)) hq⟩]
   subst k12
   exact lf_12no (longB d) (IsV w0 d) kids w0 text more n bits high A1 A2 b.length c1 kids.length c2 hlb E rfl hkv hft hq W hW
 by_cases k1 : kind = 1
 ·obtain ⟨x, hx⟩ : ∃ x : ByteArray, ⟨(dblOut (aux0.dbl bits)).toArray⟩ = x := ⟨_, rfl⟩
  have hxs : x.size ≤ 100000 := by
   rw [← hx]
   show (dblOut (aux0.dbl bits)).toArray.size ≤ _
   rw [List.size_toArray]
   have h1 := dblOut_len (aux0.dbl bits)
   have h2 := dblT_len bits hbits
   have h3 : (aux0.dbl bits).size = (dblT bits).length := List.size_toArray
   omega
  have hxl : x.data.toList = dblOut (aux0.dbl bits) := by rw [← hx]
  have hc : ∀ W2, Below w0.heap.size w0 W2 → Calls Tryz.prog 10 #[valV 1 text more n bits high (.slice A1 b.length c1) (.slice A2 kids.length c2), .bool false, .bool false] W2 fun e w' => e = .returned (.tuple #[.string x, .bool true]) ∧ Below W2.heap.size W2 w' := by
   intro W2 hW2
   have h := lw_1 (fun _ : Unit => []) text more n bits high b [] (.slice A1 b.length c1) (.slice A2 kids.length c2) false W2 hbits (hT0.below hW2 h17) (by have := hW2.size; omega)
   rw [← hx]
   exact h
  by_cases h69 : 69 ∈ x.data.toList
  ·rw [hb false ⟨fun h => (by cases h), fun h => absurd (hxl ▸ h69) (h.dbl k1)⟩]
   subst k1
   exact lf_1no (longB d) (IsV w0 d) kids w0 text more n bits high A1 A2 b.length c1 kids.length c2 hlb E rfl hkv x hxs h69 hc W hW
  ·rw [hb (kids.all (kidL (longB d))) ⟨fun h => ⟨k15, fun h1 => absurd h1 k12, fun _ => hxl ▸ h69, (kids_iff kids).1 h⟩, fun h => (kids_iff kids).2 h.kids⟩]
   subst k1
   exact lf_1 (longB d) (IsV w0 d) kids w0 text more n bits high A1 A2 b.length c1 kids.length c2 hlb E rfl hkv x hxs h69 hc W hW
 rw [hb (kids.all (kidL (longB d))) ⟨fun h => ⟨k15, fun h1 => absurd h1 k12, fun h1 => absurd h1 k1, (kids_iff kids).1 h⟩, fun h => (kids_iff kids).2 h.kids⟩]
 exact lf_oth (longB d) (IsV w0 d) kids w0 kind text more n bits high A1 A2 b.length c1 kids.length c2 hlb E rfl hkv (by simpa using k15) (by simpa using k12) (by simpa using k1) W hW
theorem longFits_at (w0 : World) (hT0 : TabC w0) (h17 : 17 ≤ w0.heap.size) : ∀ d, FitsAt w0 d
 | 0 => fun t => t.elim
 | d + 1 => fits_step w0 hT0 h17 d (longFits_at w0 hT0 h17 d)
def LongPost (d : Nat) (t : VT d) (w : World) (e : Ending) (w' : World) : Prop := ∃ v : Bool, e = .returned (.bool v) ∧ (v = true → Fits d t ∧ LongV d t) ∧ Below w.heap.size w w'
theorem extLong_any (w0 : World) (hT0 : TabC w0) (h17 : 17 ≤ w0.heap.size) (d : Nat) (t : VT d) (cs : List Value) (hv : IsV w0 d t cs) (W : World) (hW : Below w0.heap.size w0 W) : Calls Tryz.prog 12 #[.agg cs.toArray] W (LongPost d t W) := by
 have H9 := fun V hV => extFits_any w0 d t cs hv V hV
 have H43 := fun (hF : Fits d t) V hV => longFits_at w0 hT0 h17 d t cs hv hF.1.fit V hV
 obtain ⟨k, tx, mr, n, b, h, A1, A2, n1, c1, n2, c2, rfl⟩ := hv.form
 have HC9 := LH (fun V (hV : Below w0.heap.size w0 V) => show Calls Tryz.prog 9 #[.agg #[.int .i64 k, .string tx, .string mr, .int .i64 n, .int .u64 (b : Int), .int .u64 (h : Int), .slice A1 n1 c1, .slice A2 n2 c2]] V (FitsPost d t V) from H9 V hV)
 have HC43 := LH (fun (hF : Fits d t) V (hV : Below w0.heap.size w0 V) => show Calls Tryz.prog 43 #[.agg #[.int .i64 k, .string tx, .string mr, .int .i64 n, .int .u64 (b : Int), .int .u64 (h : Int), .slice A1 n1 c1, .slice A2 n2 c2]] V (fun e w' => e = .returned (.bool (longB d t)) ∧ Below V.heap.size V w') from H43 hF V hV)
 obtain ⟨X, hX, hXb, hXs, hXc⟩ := box_cells W k tx mr n b h (.slice A1 n1 c1) (.slice A2 n2 c2)
 have HWX := LH (hW.trans (hXb.mono hW.size))
 have HXB := LH hXb
 have HXC := LH hXc
 have HX := LH hX
 obtain ⟨l0, l1, l2, l3, l4, l5, l6, l7⟩ := box8 (hXc X (Below.refl _ _))
 clear hv H9 H43 hX hXb hXc hXs hW
 go_enter Tryz.func12, Tryz.ntmps12
 go_upto_region 1 with fail
 rw [HX.out]
 go_wp2_with (go_at_call 9; refine (HC9.out _ HWX.out).mono ?_; rintro e w3 ⟨v, rfl, hp, hb3⟩; refine Hid.out ?_)
 refine LH ?_
 have HP := LH hp
 have HB3 := LH hb3
 obtain ⟨q0, q1, q2, q3, q4, q5, q6, q7⟩ := box8 (HXC.out w3 hb3)
 clear l0 l1 l2 l3 l4 l5 l6 l7 hp hb3
 cases v
 ·go_wp2_with fail
  go_ret
  exact ⟨false, rfl, (fun h => by cases h), HXB.out.trans (HB3.out.mono HXB.out.size)⟩
 ·have HF := LH (HP.out rfl)
  go_wp2_with (go_at_call 43; refine (HC43.out HF.out _ (HWX.out.trans (HB3.out.mono HWX.out.size))).mono ?_; rintro e w4 ⟨rfl, hb4⟩; have HB4 := LH (HB3.out.trans (hb4.mono HB3.out.size)); clear hb4)
  go_ret
  exact ⟨longB d t, rfl, fun hr => ⟨HF.out, (longB_iff d t).1 hr⟩, HXB.out.trans (HB4.out.mono HXB.out.size)⟩
end Go.Proofs.YtpfkgpcnhdkkbaaGreatDoor
