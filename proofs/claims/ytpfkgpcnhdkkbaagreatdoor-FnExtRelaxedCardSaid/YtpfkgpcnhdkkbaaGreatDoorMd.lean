/- writeScalarExt, kind by kind. -/
import Derived.Test.YtpfkgpcnhdkkbaaGreatDoorMf
import Derived.Test.YtpfkgpcnhdkkbaaGreatDoorMe
import Derived.Test.YtpfkgpcnhdkkbaaGreatDoorSa
import Derived.Test.YtpfkgpcnhdkkbaaGreatDoorMq
import Derived.Test.YtpfkgpcnhdkkbaaGreatDoorQt
namespace Go.Proofs.YtpfkgpcnhdkkbaaGreatDoor
open Go.RowKit
set_option linter.unusedVariables false
set_option linter.unusedSimpArgs false
set_option maxHeartbeats 800000 in
set_option maxRecDepth 100000 in
theorem scalar_true {g B wb : Nat} {esc : Bool} {buf : List UInt8} {modes : List Int} {m : Int} {w : World} (text more : ByteArray) (n : Int) (bits high : Nat) (bv kv : Value) (h : IsEW g B wb false esc buf (modes ++ [m]) w) (hp : 0 < modes.length) (hm : m = 4 ∨ m = 5) (hl : Room buf.length) (hT : Tabs w) (h17 : 17 ≤ B) (hn : n = 1) :
    Calls Tryz.prog 101 #[.pointer (some ⟨g, 0, none⟩), valV 8 text more n bits high bv kv] w fun e w' => e = .returned .nilIface ∧ IsEW g B wb false esc (buf ++ (Lib.formatBool true ++ [44])) modes w' ∧ EStep B w w' := by
  subst hn
  unfold valV
  have hB := Lib.hid h.lt
  have H1 := Lib.hid (h.below (below_allocB w (.cells #[.int .i64 8, .string text, .string more, .int .i64 1, .int .u64 (bits : Int), .int .u64 (high : Int), bv, kv] 26)))
  have T1 := Lib.hid (hT.below (below_allocB w (.cells #[.int .i64 8, .string text, .string more, .int .i64 1, .int .u64 (bits : Int), .int .u64 (high : Int), bv, kv] 26)) (by have := h.lt; omega))
  have S1 := Lib.hid (EStep.of_below (B := B) (below_allocB w (.cells #[.int .i64 8, .string text, .string more, .int .i64 1, .int .u64 (bits : Int), .int .u64 (high : Int), bv, kv] 26)) (by have := h.lt; omega))
  clear h hT
  go_enter Tryz.func101, Tryz.ntmps101
  go_wp2_with (go_at_call 153; refine (writeBool_any true H1.out hp hm hl).mono ?_; rintro e w2 ⟨rfl, h2, s2⟩; refine Hid.out ?_)
  refine Lib.hid ?_
  have H2 := Lib.hid h2
  have S2 := Lib.hid s2
  clear h2 s2
  go_wp2
  go_ret
  exact ⟨rfl, H2.out, S1.out.trans S2.out⟩
set_option maxHeartbeats 800000 in
set_option maxRecDepth 100000 in
theorem scalar_false {g B wb : Nat} {esc : Bool} {buf : List UInt8} {modes : List Int} {m : Int} {w : World} (text more : ByteArray) (n : Int) (bits high : Nat) (bv kv : Value) (h : IsEW g B wb false esc buf (modes ++ [m]) w) (hp : 0 < modes.length) (hm : m = 4 ∨ m = 5) (hl : Room buf.length) (hT : Tabs w) (h17 : 17 ≤ B) (hn : n = 0) :
    Calls Tryz.prog 101 #[.pointer (some ⟨g, 0, none⟩), valV 8 text more n bits high bv kv] w fun e w' => e = .returned .nilIface ∧ IsEW g B wb false esc (buf ++ (Lib.formatBool false ++ [44])) modes w' ∧ EStep B w w' := by
  subst hn
  unfold valV
  have hB := Lib.hid h.lt
  have H1 := Lib.hid (h.below (below_allocB w (.cells #[.int .i64 8, .string text, .string more, .int .i64 0, .int .u64 (bits : Int), .int .u64 (high : Int), bv, kv] 26)))
  have T1 := Lib.hid (hT.below (below_allocB w (.cells #[.int .i64 8, .string text, .string more, .int .i64 0, .int .u64 (bits : Int), .int .u64 (high : Int), bv, kv] 26)) (by have := h.lt; omega))
  have S1 := Lib.hid (EStep.of_below (B := B) (below_allocB w (.cells #[.int .i64 8, .string text, .string more, .int .i64 0, .int .u64 (bits : Int), .int .u64 (high : Int), bv, kv] 26)) (by have := h.lt; omega))
  clear h hT
  go_enter Tryz.func101, Tryz.ntmps101
  go_wp2_with (go_at_call 153; refine (writeBool_any false H1.out hp hm hl).mono ?_; rintro e w2 ⟨rfl, h2, s2⟩; refine Hid.out ?_)
  refine Lib.hid ?_
  have H2 := Lib.hid h2
  have S2 := Lib.hid s2
  clear h2 s2
  go_wp2
  go_ret
  exact ⟨rfl, H2.out, S1.out.trans S2.out⟩
section
variable {P : Program} {C : World → Prop}
theorem wp_region_cls_tail {id : Nat} {Q : Exit → Act → World → Prop} {a : Act} {w : World} {l : List Oper} (n : Nat) (hm : P.follows .mixedOrders = true) (hB : Region.lexTailB .any l.toArray n = true) (hC : C { w with drawn := w.drawn + 1 })
    (h : wpQuiet P l.toArray C (fun a' => ∀ w', C w' → wpList P l.toArray Q (l.drop n) a' w') (l.take n) a) : (Code.region id l.toArray true).wp P Q a w := by
  simp only [Region.lexTailB, Bool.and_eq_true, decide_eq_true_eq] at hB
  obtain ⟨⟨⟨⟨hsel, hn⟩, hs⟩, hc⟩, hlex⟩ := hB
  have hn' : n < l.length := by simpa using hn
  have htl : (l.take n).length = n := by simp; omega
  have hdl : (l.drop n).length = l.toArray.size - n := by simp
  have inv0 : HeadInv .any l.toArray n (Array.replicate l.toArray.size false) :=
    ⟨by simp, fun j oj _ hl => (by rw [getD_replicate_false] at hl; cases hl), fun t _ ht => getD_in (by simpa using ht) (getD_replicate_false _ _)⟩
  have H := wpAnyLQ_lex (P := P) (C := C) (md := .any) (g := l.toArray.size - n) hsel hs hc hn (l.take n) 0 _ a (fun j hj => by
    have hj' : j < n := by rw [htl] at hj; exact hj
    simp [hj']) (by simpa using htl) inv0 (by rw [htl]; exact hlex) h
  refine wp_region_any hm ?_
  have := wpAny_of_headQ (C := C) (Q' := Q) (g := l.toArray.size - n) (fun listed a' w' hw' hL => by
    have := wpAny_of_seq (md := .any) (Q' := Q) (l.drop n) n listed a' w' (fun j => by simp [List.getElem?_drop]) (by rw [hdl]; exact hL.1) (hL.2 w' hw')
    rwa [hdl] at this) _ _ _ { w with drawn := w.drawn + 1 } hC H
  rw [htl, show n + (l.toArray.size - n) = l.toArray.size by omega] at this
  exact this
end
theorem hex_any (b0 b1 b2 b3 b4 b5 b6 b7 b8 b9 b10 b11 : UInt8) (w : World) : Calls Tryz.prog 220 #[.agg #[.int .u8 (b0.toNat : Int), .int .u8 (b1.toNat : Int), .int .u8 (b2.toNat : Int), .int .u8 (b3.toNat : Int), .int .u8 (b4.toNat : Int), .int .u8 (b5.toNat : Int), .int .u8 (b6.toNat : Int), .int .u8 (b7.toNat : Int), .int .u8 (b8.toNat : Int), .int .u8 (b9.toNat : Int), .int .u8 (b10.toNat : Int), .int .u8 (b11.toNat : Int)]] w fun e w' => e = .returned (.string (hexB [b0, b1, b2, b3, b4, b5, b6, b7, b8, b9, b10, b11])) ∧ Below w.heap.size w w' := by
  have h : Lib.bytesOf [(b0.toNat : Int), (b1.toNat : Int), (b2.toNat : Int), (b3.toNat : Int), (b4.toNat : Int), (b5.toNat : Int), (b6.toNat : Int), (b7.toNat : Int), (b8.toNat : Int), (b9.toNat : Int), (b10.toNat : Int), (b11.toNat : Int)] = [b0, b1, b2, b3, b4, b5, b6, b7, b8, b9, b10, b11] := by simp [Lib.bytesOf]
  rw [← h]
  have l0 := b0.toNat_lt
  have l1 := b1.toNat_lt
  have l2 := b2.toNat_lt
  have l3 := b3.toNat_lt
  have l4 := b4.toNat_lt
  have l5 := b5.toNat_lt
  have l6 := b6.toNat_lt
  have l7 := b7.toNat_lt
  have l8 := b8.toNat_lt
  have l9 := b9.toNat_lt
  have l10 := b10.toNat_lt
  have l11 := b11.toNat_lt
  refine hex_core _ _ _ _ _ _ _ _ _ _ _ _ _ rfl (fun i hi => ?_) w
  match i, hi with
  | 0, _ => exact ⟨by show (0 : Int) ≤ (b0.toNat : Int); omega, by show (b0.toNat : Int) < 256; omega⟩
  | 1, _ => exact ⟨by show (0 : Int) ≤ (b1.toNat : Int); omega, by show (b1.toNat : Int) < 256; omega⟩
  | 2, _ => exact ⟨by show (0 : Int) ≤ (b2.toNat : Int); omega, by show (b2.toNat : Int) < 256; omega⟩
  | 3, _ => exact ⟨by show (0 : Int) ≤ (b3.toNat : Int); omega, by show (b3.toNat : Int) < 256; omega⟩
  | 4, _ => exact ⟨by show (0 : Int) ≤ (b4.toNat : Int); omega, by show (b4.toNat : Int) < 256; omega⟩
  | 5, _ => exact ⟨by show (0 : Int) ≤ (b5.toNat : Int); omega, by show (b5.toNat : Int) < 256; omega⟩
  | 6, _ => exact ⟨by show (0 : Int) ≤ (b6.toNat : Int); omega, by show (b6.toNat : Int) < 256; omega⟩
  | 7, _ => exact ⟨by show (0 : Int) ≤ (b7.toNat : Int); omega, by show (b7.toNat : Int) < 256; omega⟩
  | 8, _ => exact ⟨by show (0 : Int) ≤ (b8.toNat : Int); omega, by show (b8.toNat : Int) < 256; omega⟩
  | 9, _ => exact ⟨by show (0 : Int) ≤ (b9.toNat : Int); omega, by show (b9.toNat : Int) < 256; omega⟩
  | 10, _ => exact ⟨by show (0 : Int) ≤ (b10.toNat : Int); omega, by show (b10.toNat : Int) < 256; omega⟩
  | 11, _ => exact ⟨by show (0 : Int) ≤ (b11.toNat : Int); omega, by show (b11.toNat : Int) < 256; omega⟩
theorem dec_new (h l : Int) (w : World) : Calls Tryz.prog 164 #[.int .u64 h, .int .u64 l] w fun e w' => e = .returned (.agg #[.int .u64 h, .int .u64 l]) ∧ Below w.heap.size w w' := by
  go_enter Tryz.func164, Tryz.ntmps164
  go_wp2
  exact bodyPost_ret (v := .agg #[.int .u64 h, .int .u64 l]) (by simp [results, Tryz.results164, go_sem]) rfl ⟨rfl, below_allocB w _⟩
set_option maxHeartbeats 800000 in
set_option maxRecDepth 100000 in
theorem scalar_dbl_plain {g B wb : Nat} {esc : Bool} {buf : List UInt8} {modes : List Int} {m : Int} {w : World} (text more : ByteArray) (n : Int) (bits high : Nat) (bv kv : Value) (h : IsEW g B wb false esc buf (modes ++ [m]) w) (hp : 0 < modes.length) (hm : m = 4 ∨ m = 5) (hl : Room buf.length) (hT : Tabs w) (h17 : 17 ≤ B) (x : ByteArray) (hx : x.size ≤ 10000) (hn : isNum x) (cx : ∀ W, Tabs W → 17 ≤ W.heap.size → Calls Tryz.prog 216 #[.float .f64 bits] W fun e w' => e = .returned (.string x) ∧ Below W.heap.size W w') :
    Calls Tryz.prog 101 #[.pointer (some ⟨g, 0, none⟩), valV 1 text more n bits high bv kv] w fun e w' => e = .returned .nilIface ∧ IsEW g B wb false esc (buf ++ (x.data.toList ++ [44])) modes w' ∧ EStep B w w' := by
  have HX := Lib.hid cx
  clear cx
  have HN := Lib.hid hn
  clear hn
  unfold valV
  have hB := Lib.hid h.lt
  have H1 := Lib.hid (h.below (below_allocB w (.cells #[.int .i64 1, .string text, .string more, .int .i64 n, .int .u64 (bits : Int), .int .u64 (high : Int), bv, kv] 26)))
  have T1 := Lib.hid (hT.below (below_allocB w (.cells #[.int .i64 1, .string text, .string more, .int .i64 n, .int .u64 (bits : Int), .int .u64 (high : Int), bv, kv] 26)) (by have := h.lt; omega))
  have S1 := Lib.hid (EStep.of_below (B := B) (below_allocB w (.cells #[.int .i64 1, .string text, .string more, .int .i64 n, .int .u64 (bits : Int), .int .u64 (high : Int), bv, kv] 26)) (by have := h.lt; omega))
  clear h hT
  go_enter Tryz.func101, Tryz.ntmps101
  go_wp2_with (go_at_call 147; refine (writeDouble_plain bits x H1.out hp hm hl T1.out h17 hx HN.out.1 HN.out.2.1 HN.out.2.2 HX.out).mono ?_; rintro e w2 ⟨rfl, h2, s2⟩; refine Hid.out ?_)
  refine Lib.hid ?_
  have H2 := Lib.hid h2
  have S2 := Lib.hid s2
  clear h2 s2
  go_wp2
  go_ret
  exact ⟨rfl, H2.out, S1.out.trans S2.out⟩
set_option maxHeartbeats 800000 in
set_option maxRecDepth 100000 in
theorem scalar_dbl_inf {g B wb : Nat} {esc : Bool} {buf : List UInt8} {modes : List Int} {m : Int} {w : World} (text more : ByteArray) (n : Int) (bits high : Nat) (bv kv : Value) (h : IsEW g B wb false esc buf (modes ++ [m]) w) (hp : 0 < modes.length) (hm : m = 4 ∨ m = 5) (hl : Room buf.length) (hT : Tabs w) (h17 : 17 ≤ B) (cx : ∀ W, Tabs W → 17 ≤ W.heap.size → Calls Tryz.prog 216 #[.float .f64 bits] W fun e w' => e = .returned (.string ⟨#[73, 110, 102, 105, 110, 105, 116, 121]⟩) ∧ Below W.heap.size W w') :
    Calls Tryz.prog 101 #[.pointer (some ⟨g, 0, none⟩), valV 1 text more n bits high bv kv] w fun e w' => e = .returned .nilIface ∧ IsEW g B wb false esc (buf ++ [123, 34, 36, 110, 117, 109, 98, 101, 114, 68, 111, 117, 98, 108, 101, 34, 58, 34, 73, 110, 102, 105, 110, 105, 116, 121, 34, 125, 44]) modes w' ∧ EStep B w w' := by
  have HX := Lib.hid cx
  clear cx
  unfold valV
  have hB := Lib.hid h.lt
  have H1 := Lib.hid (h.below (below_allocB w (.cells #[.int .i64 1, .string text, .string more, .int .i64 n, .int .u64 (bits : Int), .int .u64 (high : Int), bv, kv] 26)))
  have T1 := Lib.hid (hT.below (below_allocB w (.cells #[.int .i64 1, .string text, .string more, .int .i64 n, .int .u64 (bits : Int), .int .u64 (high : Int), bv, kv] 26)) (by have := h.lt; omega))
  have S1 := Lib.hid (EStep.of_below (B := B) (below_allocB w (.cells #[.int .i64 1, .string text, .string more, .int .i64 n, .int .u64 (bits : Int), .int .u64 (high : Int), bv, kv] 26)) (by have := h.lt; omega))
  clear h hT
  go_enter Tryz.func101, Tryz.ntmps101
  go_wp2_with (go_at_call 147; refine (writeDouble_inf bits H1.out hp hm hl T1.out h17 HX.out).mono ?_; rintro e w2 ⟨rfl, h2, s2⟩; refine Hid.out ?_)
  refine Lib.hid ?_
  have H2 := Lib.hid h2
  have S2 := Lib.hid s2
  clear h2 s2
  go_wp2
  go_ret
  exact ⟨rfl, H2.out, S1.out.trans S2.out⟩
set_option maxHeartbeats 800000 in
set_option maxRecDepth 100000 in
theorem scalar_dbl_ninf {g B wb : Nat} {esc : Bool} {buf : List UInt8} {modes : List Int} {m : Int} {w : World} (text more : ByteArray) (n : Int) (bits high : Nat) (bv kv : Value) (h : IsEW g B wb false esc buf (modes ++ [m]) w) (hp : 0 < modes.length) (hm : m = 4 ∨ m = 5) (hl : Room buf.length) (hT : Tabs w) (h17 : 17 ≤ B) (cx : ∀ W, Tabs W → 17 ≤ W.heap.size → Calls Tryz.prog 216 #[.float .f64 bits] W fun e w' => e = .returned (.string ⟨#[45, 73, 110, 102, 105, 110, 105, 116, 121]⟩) ∧ Below W.heap.size W w') :
    Calls Tryz.prog 101 #[.pointer (some ⟨g, 0, none⟩), valV 1 text more n bits high bv kv] w fun e w' => e = .returned .nilIface ∧ IsEW g B wb false esc (buf ++ [123, 34, 36, 110, 117, 109, 98, 101, 114, 68, 111, 117, 98, 108, 101, 34, 58, 34, 45, 73, 110, 102, 105, 110, 105, 116, 121, 34, 125, 44]) modes w' ∧ EStep B w w' := by
  have HX := Lib.hid cx
  clear cx
  unfold valV
  have hB := Lib.hid h.lt
  have H1 := Lib.hid (h.below (below_allocB w (.cells #[.int .i64 1, .string text, .string more, .int .i64 n, .int .u64 (bits : Int), .int .u64 (high : Int), bv, kv] 26)))
  have T1 := Lib.hid (hT.below (below_allocB w (.cells #[.int .i64 1, .string text, .string more, .int .i64 n, .int .u64 (bits : Int), .int .u64 (high : Int), bv, kv] 26)) (by have := h.lt; omega))
  have S1 := Lib.hid (EStep.of_below (B := B) (below_allocB w (.cells #[.int .i64 1, .string text, .string more, .int .i64 n, .int .u64 (bits : Int), .int .u64 (high : Int), bv, kv] 26)) (by have := h.lt; omega))
  clear h hT
  go_enter Tryz.func101, Tryz.ntmps101
  go_wp2_with (go_at_call 147; refine (writeDouble_ninf bits H1.out hp hm hl T1.out h17 HX.out).mono ?_; rintro e w2 ⟨rfl, h2, s2⟩; refine Hid.out ?_)
  refine Lib.hid ?_
  have H2 := Lib.hid h2
  have S2 := Lib.hid s2
  clear h2 s2
  go_wp2
  go_ret
  exact ⟨rfl, H2.out, S1.out.trans S2.out⟩
set_option maxHeartbeats 800000 in
set_option maxRecDepth 100000 in
theorem scalar_dbl_nan {g B wb : Nat} {esc : Bool} {buf : List UInt8} {modes : List Int} {m : Int} {w : World} (text more : ByteArray) (n : Int) (bits high : Nat) (bv kv : Value) (h : IsEW g B wb false esc buf (modes ++ [m]) w) (hp : 0 < modes.length) (hm : m = 4 ∨ m = 5) (hl : Room buf.length) (hT : Tabs w) (h17 : 17 ≤ B) (cx : ∀ W, Tabs W → 17 ≤ W.heap.size → Calls Tryz.prog 216 #[.float .f64 bits] W fun e w' => e = .returned (.string ⟨#[78, 97, 78]⟩) ∧ Below W.heap.size W w') :
    Calls Tryz.prog 101 #[.pointer (some ⟨g, 0, none⟩), valV 1 text more n bits high bv kv] w fun e w' => e = .returned .nilIface ∧ IsEW g B wb false esc (buf ++ [123, 34, 36, 110, 117, 109, 98, 101, 114, 68, 111, 117, 98, 108, 101, 34, 58, 34, 78, 97, 78, 34, 125, 44]) modes w' ∧ EStep B w w' := by
  have HX := Lib.hid cx
  clear cx
  unfold valV
  have hB := Lib.hid h.lt
  have H1 := Lib.hid (h.below (below_allocB w (.cells #[.int .i64 1, .string text, .string more, .int .i64 n, .int .u64 (bits : Int), .int .u64 (high : Int), bv, kv] 26)))
  have T1 := Lib.hid (hT.below (below_allocB w (.cells #[.int .i64 1, .string text, .string more, .int .i64 n, .int .u64 (bits : Int), .int .u64 (high : Int), bv, kv] 26)) (by have := h.lt; omega))
  have S1 := Lib.hid (EStep.of_below (B := B) (below_allocB w (.cells #[.int .i64 1, .string text, .string more, .int .i64 n, .int .u64 (bits : Int), .int .u64 (high : Int), bv, kv] 26)) (by have := h.lt; omega))
  clear h hT
  go_enter Tryz.func101, Tryz.ntmps101
  go_wp2_with (go_at_call 147; refine (writeDouble_nan bits H1.out hp hm hl T1.out h17 HX.out).mono ?_; rintro e w2 ⟨rfl, h2, s2⟩; refine Hid.out ?_)
  refine Lib.hid ?_
  have H2 := Lib.hid h2
  have S2 := Lib.hid s2
  clear h2 s2
  go_wp2
  go_ret
  exact ⟨rfl, H2.out, S1.out.trans S2.out⟩
theorem scalar_double {g B wb : Nat} {esc : Bool} {buf : List UInt8} {modes : List Int} {m : Int} {w : World} (text more : ByteArray) (n : Int) (bits high : Nat) (bv kv : Value) (h : IsEW g B wb false esc buf (modes ++ [m]) w) (hp : 0 < modes.length) (hm : m = 4 ∨ m = 5) (hl : Room buf.length) (hT : Tabs w) (h17 : 17 ≤ B) (x : ByteArray) (hx : x.size ≤ 10000) (cx : ∀ W, Tabs W → 17 ≤ W.heap.size → Calls Tryz.prog 216 #[.float .f64 bits] W fun e w' => e = .returned (.string x) ∧ Below W.heap.size W w') :
    Calls Tryz.prog 101 #[.pointer (some ⟨g, 0, none⟩), valV 1 text more n bits high bv kv] w fun e w' => e = .returned .nilIface ∧ IsEW g B wb false esc (buf ++ (dblOut x ++ [44])) modes w' ∧ EStep B w w' := by
  by_cases hn : isNum x
  · unfold dblOut
    rw [if_pos hn]
    exact scalar_dbl_plain text more n bits high bv kv h hp hm hl hT h17 x hx hn cx
  · have hd : dblOut x = [123, 34, 36, 110, 117, 109, 98, 101, 114, 68, 111, 117, 98, 108, 101, 34, 58, 34] ++ x.data.toList ++ [34, 125] := by unfold dblOut; rw [if_neg hn]
    rw [hd]
    by_cases h1 : x = ⟨#[73, 110, 102, 105, 110, 105, 116, 121]⟩
    · subst h1
      exact scalar_dbl_inf text more n bits high bv kv h hp hm hl hT h17 cx
    · by_cases h2 : x = ⟨#[45, 73, 110, 102, 105, 110, 105, 116, 121]⟩
      · subst h2
        exact scalar_dbl_ninf text more n bits high bv kv h hp hm hl hT h17 cx
      · by_cases h3 : x = ⟨#[78, 97, 78]⟩
        · subst h3
          exact scalar_dbl_nan text more n bits high bv kv h hp hm hl hT h17 cx
        · exact absurd ⟨h1, h2, h3⟩ hn
set_option maxHeartbeats 800000 in
set_option maxRecDepth 100000 in
theorem scalar_bin {g B wb : Nat} {esc : Bool} {buf : List UInt8} {modes : List Int} {m : Int} {w : World} (text more : ByteArray) (n : Int) (bits high : Nat) (bv kv : Value) (h : IsEW g B wb false esc buf (modes ++ [m]) w) (hp : 0 < modes.length) (hm : m = 4 ∨ m = 5) (hl : Room buf.length) (hT : Tabs w) (h17 : 17 ≤ B) (k : Nat) (hk : k < 256) (hn : n = (k : Int)) (b64 : ByteArray) (hb64 : b64.size ≤ 10000000) (hh2 : (hex2B k).size ≤ 10) (c64 : ∀ W, Below w.heap.size w W → Calls Tryz.prog 218 #[bv] W fun e w' => e = .returned (.string b64) ∧ Below W.heap.size W w') :
    Calls Tryz.prog 101 #[.pointer (some ⟨g, 0, none⟩), valV 5 text more n bits high bv kv] w fun e w' => e = .returned .nilIface ∧ IsEW g B wb false esc (buf ++ ([123, 34, 36, 98, 105, 110, 97, 114, 121, 34, 58, 123, 34, 98, 97, 115, 101, 54, 52, 34, 58, 34] ++ b64.data.toList ++ ([34, 44, 34, 115, 117, 98, 84, 121, 112, 101, 34, 58, 34] ++ (hex2B k).data.toList ++ [34, 125, 125, 44]))) modes w' ∧ EStep B w w' := by
  subst hn
  have HX := Lib.hid (fun (W : World) (hW : Below (w.alloc (.cells #[.int .i64 5, .string text, .string more, .int .i64 (k : Int), .int .u64 (bits : Int), .int .u64 (high : Int), bv, kv] 26)).heap.size (w.alloc (.cells #[.int .i64 5, .string text, .string more, .int .i64 (k : Int), .int .u64 (bits : Int), .int .u64 (high : Int), bv, kv] 26)) W) => c64 W ((below_allocB w _).trans (hW.mono (below_allocB w _).size)))
  clear c64
  unfold valV
  have hB := Lib.hid h.lt
  have H1 := Lib.hid (h.below (below_allocB w (.cells #[.int .i64 5, .string text, .string more, .int .i64 (k : Int), .int .u64 (bits : Int), .int .u64 (high : Int), bv, kv] 26)))
  have T1 := Lib.hid (hT.below (below_allocB w (.cells #[.int .i64 5, .string text, .string more, .int .i64 (k : Int), .int .u64 (bits : Int), .int .u64 (high : Int), bv, kv] 26)) (by have := h.lt; omega))
  have S1 := Lib.hid (EStep.of_below (B := B) (below_allocB w (.cells #[.int .i64 5, .string text, .string more, .int .i64 (k : Int), .int .u64 (bits : Int), .int .u64 (high : Int), bv, kv] 26)) (by have := h.lt; omega))
  clear h hT
  go_enter Tryz.func101, Tryz.ntmps101
  go_wp2_with (go_at_call 149; refine (writeBinary_any bv (k : Int) b64 (hex2B k) H1.out hp hm hl T1.out h17 hb64 hh2 HX.out (fun W hW => hex2_any k (by omega) W)).mono ?_; rintro e w2 ⟨rfl, h2, s2⟩; refine Hid.out ?_)
  refine Lib.hid ?_
  have H2 := Lib.hid h2
  have S2 := Lib.hid s2
  clear h2 s2
  go_wp2
  go_ret
  exact ⟨rfl, H2.out, S1.out.trans S2.out⟩
set_option maxHeartbeats 800000 in
set_option maxRecDepth 100000 in
theorem scalar_id {g B wb : Nat} {esc : Bool} {buf : List UInt8} {modes : List Int} {m : Int} {w : World} (text more : ByteArray) (n : Int) (bits high : Nat) (kv : Value) (h : IsEW g B wb false esc buf (modes ++ [m]) w) (hp : 0 < modes.length) (hm : m = 4 ∨ m = 5) (hl : Room buf.length) (hT : Tabs w) (h17 : 17 ≤ B) (b0 b1 b2 b3 b4 b5 b6 b7 b8 b9 b10 b11 : UInt8) (A : Option Addr) (c : Nat) (hr : RB w A [b0, b1, b2, b3, b4, b5, b6, b7, b8, b9, b10, b11]) :
    Calls Tryz.prog 101 #[.pointer (some ⟨g, 0, none⟩), valV 7 text more n bits high (.slice A 12 c) kv] w fun e w' => e = .returned .nilIface ∧ IsEW g B wb false esc (buf ++ ([123, 34, 36, 111, 105, 100, 34, 58, 34] ++ (hexB [b0, b1, b2, b3, b4, b5, b6, b7, b8, b9, b10, b11]).data.toList ++ [34, 125, 44])) modes w' ∧ EStep B w w' := by
  unfold valV
  have hB := Lib.hid h.lt
  have H1 := Lib.hid (h.below (below_allocB w (.cells #[.int .i64 7, .string text, .string more, .int .i64 n, .int .u64 (bits : Int), .int .u64 (high : Int), .slice A 12 c, kv] 26)))
  have T1 := Lib.hid (hT.below (below_allocB w (.cells #[.int .i64 7, .string text, .string more, .int .i64 n, .int .u64 (bits : Int), .int .u64 (high : Int), .slice A 12 c, kv] 26)) (by have := h.lt; omega))
  have S1 := Lib.hid (EStep.of_below (B := B) (below_allocB w (.cells #[.int .i64 7, .string text, .string more, .int .i64 n, .int .u64 (bits : Int), .int .u64 (high : Int), .slice A 12 c, kv] 26)) (by have := h.lt; omega))
  have HR := Lib.hid (hr.later (below_allocB w (.cells #[.int .i64 7, .string text, .string more, .int .i64 n, .int .u64 (bits : Int), .int .u64 (high : Int), .slice A 12 c, kv] 26)))
  clear hr
  clear h hT
  go_enter Tryz.func101, Tryz.ntmps101
  go_wp2_with (go_at_call 152; refine (id_core b0 b1 b2 b3 b4 b5 b6 b7 b8 b9 b10 b11 A c _ HR.out).mono ?_; rintro e w1 ⟨rfl, hb1⟩; refine Hid.out ?_)
  refine Lib.hid ?_
  have H1' := Lib.hid (H1.out.below hb1)
  have T1' := Lib.hid (T1.out.below hb1 (by have := H1.out.lt; omega))
  have S1' := Lib.hid (S1.out.trans (EStep.of_below (B := B) hb1 (by have := H1.out.lt; omega)))
  clear hb1
  go_wp2_with (go_at_call 151; refine (writeObjectID_any (hexB [b0, b1, b2, b3, b4, b5, b6, b7, b8, b9, b10, b11]) (b0.toNat : Int) (b1.toNat : Int) (b2.toNat : Int) (b3.toNat : Int) (b4.toNat : Int) (b5.toNat : Int) (b6.toNat : Int) (b7.toNat : Int) (b8.toNat : Int) (b9.toNat : Int) (b10.toNat : Int) (b11.toNat : Int) H1'.out hp hm hl T1'.out h17 (by rw [hexB_size]; simp) (fun W _ => hex_any b0 b1 b2 b3 b4 b5 b6 b7 b8 b9 b10 b11 W)).mono ?_; rintro e w2 ⟨rfl, h2, s2⟩; refine Hid.out ?_)
  refine Lib.hid ?_
  have H2 := Lib.hid h2
  have S2 := Lib.hid s2
  clear h2 s2
  go_wp2
  go_ret
  exact ⟨rfl, H2.out, S1'.out.trans S2.out⟩
set_option maxHeartbeats 800000 in
set_option maxRecDepth 100000 in
theorem scalar_ptr {g B wb : Nat} {esc : Bool} {buf : List UInt8} {modes : List Int} {m : Int} {w : World} (text more : ByteArray) (n : Int) (bits high : Nat) (kv : Value) (h : IsEW g B wb false esc buf (modes ++ [m]) w) (hp : 0 < modes.length) (hm : m = 4 ∨ m = 5) (hl : Room buf.length) (hT : Tabs w) (h17 : 17 ≤ B) (ht : text.size ≤ 10000000) (b0 b1 b2 b3 b4 b5 b6 b7 b8 b9 b10 b11 : UInt8) (A : Option Addr) (c : Nat) (hr : RB w A [b0, b1, b2, b3, b4, b5, b6, b7, b8, b9, b10, b11]) :
    Calls Tryz.prog 101 #[.pointer (some ⟨g, 0, none⟩), valV 12 text more n bits high (.slice A 12 c) kv] w fun e w' => e = .returned .nilIface ∧ IsEW g B wb false esc (buf ++ ([123, 34, 36, 100, 98, 80, 111, 105, 110, 116, 101, 114, 34, 58, 123, 34, 36, 114, 101, 102, 34, 58, 34] ++ text.data.toList ++ [34, 44, 34, 36, 105, 100, 34, 58, 123, 34, 36, 111, 105, 100, 34, 58, 34] ++ (hexB [b0, b1, b2, b3, b4, b5, b6, b7, b8, b9, b10, b11]).data.toList ++ [34, 125, 125, 125, 44])) modes w' ∧ EStep B w w' := by
  unfold valV
  have hB := Lib.hid h.lt
  have H1 := Lib.hid (h.below (below_allocB w (.cells #[.int .i64 12, .string text, .string more, .int .i64 n, .int .u64 (bits : Int), .int .u64 (high : Int), .slice A 12 c, kv] 26)))
  have T1 := Lib.hid (hT.below (below_allocB w (.cells #[.int .i64 12, .string text, .string more, .int .i64 n, .int .u64 (bits : Int), .int .u64 (high : Int), .slice A 12 c, kv] 26)) (by have := h.lt; omega))
  have S1 := Lib.hid (EStep.of_below (B := B) (below_allocB w (.cells #[.int .i64 12, .string text, .string more, .int .i64 n, .int .u64 (bits : Int), .int .u64 (high : Int), .slice A 12 c, kv] 26)) (by have := h.lt; omega))
  have HR := Lib.hid (hr.later (below_allocB w (.cells #[.int .i64 12, .string text, .string more, .int .i64 n, .int .u64 (bits : Int), .int .u64 (high : Int), .slice A 12 c, kv] 26)))
  have b0 := heap_alloc_new w (.cells #[.int .i64 12, .string text, .string more, .int .i64 n, .int .u64 (bits : Int), .int .u64 (high : Int), .slice A 12 c, kv] 26)
  have hlt : w.heap.size < (w.alloc (.cells #[.int .i64 12, .string text, .string more, .int .i64 n, .int .u64 (bits : Int), .int .u64 (high : Int), .slice A 12 c, kv] 26)).heap.size := by simp
  have hc1 := Lib.hid (fun (W : World) (hW : Below (w.alloc (.cells #[.int .i64 12, .string text, .string more, .int .i64 n, .int .u64 (bits : Int), .int .u64 (high : Int), .slice A 12 c, kv] 26)).heap.size (w.alloc (.cells #[.int .i64 12, .string text, .string more, .int .i64 n, .int .u64 (bits : Int), .int .u64 (high : Int), .slice A 12 c, kv] 26)) W) => ((hW.cell (p := ⟨w.heap.size, 1, none⟩) hlt).trans (blk_cell b0 1) : W.cell? ⟨w.heap.size, 1, none⟩ = some (.string text)))
  have hc6 := Lib.hid (fun (W : World) (hW : Below (w.alloc (.cells #[.int .i64 12, .string text, .string more, .int .i64 n, .int .u64 (bits : Int), .int .u64 (high : Int), .slice A 12 c, kv] 26)).heap.size (w.alloc (.cells #[.int .i64 12, .string text, .string more, .int .i64 n, .int .u64 (bits : Int), .int .u64 (high : Int), .slice A 12 c, kv] 26)) W) => ((hW.cell (p := ⟨w.heap.size, 6, none⟩) hlt).trans (blk_cell b0 6) : W.cell? ⟨w.heap.size, 6, none⟩ = some (.slice A 12 c)))
  clear h hT hr b0 hlt
  go_enter Tryz.func101, Tryz.ntmps101
  go_wp2_with fail
  refine wp_region_cls_tail (C := fun W => Below (w.alloc (.cells #[.int .i64 12, .string text, .string more, .int .i64 n, .int .u64 (bits : Int), .int .u64 (high : Int), .slice A 12 c, kv] 26)).heap.size (w.alloc (.cells #[.int .i64 12, .string text, .string more, .int .i64 n, .int .u64 (bits : Int), .int .u64 (high : Int), .slice A 12 c, kv] 26)) W) 6 (by kernel_rfl) (by kernel_rfl) (below_dr _ 1) ?_
  simp only [List.take_succ_cons, List.take_zero, List.drop_succ_cons, List.drop_zero]
  refine quiet_val (.pointer (some ⟨g, 0, none⟩)) (by kernel_rfl) (fun W hW => by go_simp) ?_
  refine quiet_val (.pointer (some ⟨w.heap.size, 1, none⟩)) (by kernel_rfl) (fun W hW => by go_simp) ?_
  refine quiet_val (.string text) (by kernel_rfl) (fun W hW => by have k := hc1.out W hW; go_simp) ?_
  refine quiet_val (.pointer (some ⟨w.heap.size, 6, none⟩)) (by kernel_rfl) (fun W hW => by go_simp) ?_
  refine quiet_val (.slice A 12 c) (by kernel_rfl) (fun W hW => by have k := hc6.out W hW; go_simp) ?_
  refine quiet_enter (.agg #[.int .u8 (b0.toNat : Int), .int .u8 (b1.toNat : Int), .int .u8 (b2.toNat : Int), .int .u8 (b3.toNat : Int), .int .u8 (b4.toNat : Int), .int .u8 (b5.toNat : Int), .int .u8 (b6.toNat : Int), .int .u8 (b7.toNat : Int), .int .u8 (b8.toNat : Int), .int .u8 (b9.toNat : Int), .int .u8 (b10.toNat : Int), .int .u8 (b11.toNat : Int)]) 152 #[.slice A 12 c] (by kernel_rfl) (fun W hW => by go_simp) (fun W hW => (id_core b0 b1 b2 b3 b4 b5 b6 b7 b8 b9 b10 b11 A c W (HR.out.later hW)).mono fun en W' ⟨h1, h2⟩ => ⟨h1, hW.trans (h2.mono hW.size)⟩) ?_
  refine wpQuiet_nil ?_
  intro W hW
  have H1' := Lib.hid (H1.out.below hW)
  have T1' := Lib.hid (T1.out.below hW (by have := H1.out.lt; omega))
  have S1' := Lib.hid (S1.out.trans (EStep.of_below (B := B) hW (by have := H1.out.lt; omega)))
  clear hW
  go_wp2_with (go_at_call 157; refine (writeDBPointer_any text (hexB [b0, b1, b2, b3, b4, b5, b6, b7, b8, b9, b10, b11]) (b0.toNat : Int) (b1.toNat : Int) (b2.toNat : Int) (b3.toNat : Int) (b4.toNat : Int) (b5.toNat : Int) (b6.toNat : Int) (b7.toNat : Int) (b8.toNat : Int) (b9.toNat : Int) (b10.toNat : Int) (b11.toNat : Int) H1'.out hp hm hl T1'.out h17 ht (by rw [hexB_size]; simp) (fun W _ => hex_any b0 b1 b2 b3 b4 b5 b6 b7 b8 b9 b10 b11 W)).mono ?_; rintro e w2 ⟨rfl, h2, s2⟩; refine Hid.out ?_)
  refine Lib.hid ?_
  have H2 := Lib.hid h2
  have S2 := Lib.hid s2
  clear h2 s2
  go_wp2_with fail
  go_ret
  exact ⟨rfl, H2.out, S1'.out.trans S2.out⟩
set_option maxHeartbeats 800000 in
set_option maxRecDepth 100000 in
theorem scalar_dec {g B wb : Nat} {esc : Bool} {buf : List UInt8} {modes : List Int} {m : Int} {w : World} (text more : ByteArray) (n : Int) (bits high : Nat) (bv kv : Value) (h : IsEW g B wb false esc buf (modes ++ [m]) w) (hp : 0 < modes.length) (hm : m = 4 ∨ m = 5) (hl : Room buf.length) (hT : Tabs w) (h17 : 17 ≤ B) (ds : ByteArray) (hds : ds.size ≤ 10000) (cd : ∀ W, Tabs W → 17 ≤ W.heap.size → Calls Tryz.prog 222 #[.agg #[.int .u64 (high : Int), .int .u64 (bits : Int)]] W fun e w' => e = .returned (.string ds) ∧ Below W.heap.size W w') :
    Calls Tryz.prog 101 #[.pointer (some ⟨g, 0, none⟩), valV 19 text more n bits high bv kv] w fun e w' => e = .returned .nilIface ∧ IsEW g B wb false esc (buf ++ ([123, 34, 36, 110, 117, 109, 98, 101, 114, 68, 101, 99, 105, 109, 97, 108, 34, 58, 34] ++ ds.data.toList ++ [34, 125, 44])) modes w' ∧ EStep B w w' := by
  have HX := Lib.hid cd
  clear cd
  unfold valV
  have hB := Lib.hid h.lt
  have H1 := Lib.hid (h.below (below_allocB w (.cells #[.int .i64 19, .string text, .string more, .int .i64 n, .int .u64 (bits : Int), .int .u64 (high : Int), bv, kv] 26)))
  have T1 := Lib.hid (hT.below (below_allocB w (.cells #[.int .i64 19, .string text, .string more, .int .i64 n, .int .u64 (bits : Int), .int .u64 (high : Int), bv, kv] 26)) (by have := h.lt; omega))
  have S1 := Lib.hid (EStep.of_below (B := B) (below_allocB w (.cells #[.int .i64 19, .string text, .string more, .int .i64 n, .int .u64 (bits : Int), .int .u64 (high : Int), bv, kv] 26)) (by have := h.lt; omega))
  clear h hT
  go_enter Tryz.func101, Tryz.ntmps101
  go_wp2_with (go_at_call 164; refine (dec_new (high : Int) (bits : Int) _).mono ?_; rintro e w1 ⟨rfl, hb1⟩; refine Hid.out ?_)
  refine Lib.hid ?_
  have H1' := Lib.hid (H1.out.below hb1)
  have T1' := Lib.hid (T1.out.below hb1 (by have := H1.out.lt; omega))
  have S1' := Lib.hid (S1.out.trans (EStep.of_below (B := B) hb1 (by have := H1.out.lt; omega)))
  clear hb1
  go_wp2_with (go_at_call 163; refine (writeDecimal_any (high : Int) (bits : Int) ds H1'.out hp hm hl T1'.out h17 hds HX.out).mono ?_; rintro e w2 ⟨rfl, h2, s2⟩; refine Hid.out ?_)
  refine Lib.hid ?_
  have H2 := Lib.hid h2
  have S2 := Lib.hid s2
  clear h2 s2
  go_wp2
  go_ret
  exact ⟨rfl, H2.out, S1'.out.trans S2.out⟩
set_option maxHeartbeats 800000 in
set_option maxRecDepth 100000 in
theorem scalar_stamp {g B wb : Nat} {esc : Bool} {buf : List UInt8} {modes : List Int} {m : Int} {w : World} (text more : ByteArray) (n : Int) (bits high : Nat) (bv kv : Value) (h : IsEW g B wb false esc buf (modes ++ [m]) w) (hp : 0 < modes.length) (hm : m = 4 ∨ m = 5) (hl : Room buf.length) (hT : Tabs w) (h17 : 17 ≤ B) (hb : bits < 18446744073709551616) (hz1 : (decB (bits / 4294967296)).size ≤ 1000) (hz2 : (decB (bits % 4294967296)).size ≤ 1000) :
    Calls Tryz.prog 101 #[.pointer (some ⟨g, 0, none⟩), valV 17 text more n bits high bv kv] w fun e w' => e = .returned .nilIface ∧ IsEW g B wb false esc (buf ++ ([123, 34, 36, 116, 105, 109, 101, 115, 116, 97, 109, 112, 34, 58, 123, 34, 116, 34, 58] ++ (decB (bits / 4294967296)).data.toList ++ [44, 34, 105, 34, 58] ++ (decB (bits % 4294967296)).data.toList ++ [125, 125, 44])) modes w' ∧ EStep B w w' := by
  unfold valV
  have hB := Lib.hid h.lt
  have H1 := Lib.hid (h.below (below_allocB w (.cells #[.int .i64 17, .string text, .string more, .int .i64 n, .int .u64 (bits : Int), .int .u64 (high : Int), bv, kv] 26)))
  have T1 := Lib.hid (hT.below (below_allocB w (.cells #[.int .i64 17, .string text, .string more, .int .i64 n, .int .u64 (bits : Int), .int .u64 (high : Int), bv, kv] 26)) (by have := h.lt; omega))
  have S1 := Lib.hid (EStep.of_below (B := B) (below_allocB w (.cells #[.int .i64 17, .string text, .string more, .int .i64 n, .int .u64 (bits : Int), .int .u64 (high : Int), bv, kv] 26)) (by have := h.lt; omega))
  clear h hT
  go_enter Tryz.func101, Tryz.ntmps101
  go_wp2_with (go_at_call 161; refine (writeTimestamp_any ((bits / 4294967296 : Nat) : Int) ((bits % 4294967296 : Nat) : Int) (decB (bits / 4294967296)) (decB (bits % 4294967296)) H1.out hp hm hl T1.out h17 (by omega) (by omega) (by omega) (by omega) hz1 hz2 (fun W hW => fmtUint_any _ (by omega) W hW) (fun W hW => fmtUint_any _ (by omega) W hW)).mono ?_; rintro e w2 ⟨rfl, h2, s2⟩; refine Hid.out ?_)
  refine Lib.hid ?_
  have H2 := Lib.hid h2
  have S2 := Lib.hid s2
  clear h2 s2
  go_wp2
  go_ret
  exact ⟨rfl, H2.out, S1.out.trans S2.out⟩
end Go.Proofs.YtpfkgpcnhdkkbaaGreatDoor
