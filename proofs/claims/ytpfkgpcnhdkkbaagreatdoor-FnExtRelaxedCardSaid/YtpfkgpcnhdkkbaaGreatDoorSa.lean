/- writeScalarExt, kind by kind. -/
import Derived.Test.YtpfkgpcnhdkkbaaGreatDoorMf
import Derived.Test.YtpfkgpcnhdkkbaaGreatDoorYf
import Derived.Test.YtpfkgpcnhdkkbaaGreatDoorMe
namespace Go.Proofs.YtpfkgpcnhdkkbaaGreatDoor
open Go.RowKit
set_option linter.unusedVariables false
set_option linter.unusedSimpArgs false
set_option maxHeartbeats 800000 in
set_option maxRecDepth 100000 in
theorem scalar_null {g B wb : Nat} {esc : Bool} {buf : List UInt8} {modes : List Int} {m : Int} {w : World} (text more : ByteArray) (n : Int) (bits high : Nat) (bv kv : Value) (h : IsEW g B wb false esc buf (modes ++ [m]) w) (hp : 0 < modes.length) (hm : m = 4 ∨ m = 5) (hl : Room buf.length) (hT : Tabs w) (h17 : 17 ≤ B)  :
    Calls Tryz.prog 101 #[.pointer (some ⟨g, 0, none⟩), valV 10 text more n bits high bv kv] w fun e w' => e = .returned .nilIface ∧ IsEW g B wb false esc (buf ++ [110, 117, 108, 108, 44]) modes w' ∧ EStep B w w' := by
  unfold valV
  have hB := Lib.hid h.lt
  have H1 := Lib.hid (h.below (below_allocB w (.cells #[.int .i64 10, .string text, .string more, .int .i64 n, .int .u64 (bits : Int), .int .u64 (high : Int), bv, kv] 26)))
  have T1 := Lib.hid (hT.below (below_allocB w (.cells #[.int .i64 10, .string text, .string more, .int .i64 n, .int .u64 (bits : Int), .int .u64 (high : Int), bv, kv] 26)) (by have := h.lt; omega))
  have S1 := Lib.hid (EStep.of_below (B := B) (below_allocB w (.cells #[.int .i64 10, .string text, .string more, .int .i64 n, .int .u64 (bits : Int), .int .u64 (high : Int), bv, kv] 26)) (by have := h.lt; omega))
  clear h hT
  go_enter Tryz.func101, Tryz.ntmps101
  go_wp2_with (go_at_call 155; refine (writeNull_any H1.out hp hm hl).mono ?_; rintro e w2 ⟨rfl, h2, s2⟩; refine Hid.out ?_)
  refine Lib.hid ?_
  have H2 := Lib.hid h2
  have S2 := Lib.hid s2
  clear h2 s2
  go_wp2
  go_ret
  exact ⟨rfl, H2.out, S1.out.trans S2.out⟩
set_option maxHeartbeats 800000 in
set_option maxRecDepth 100000 in
theorem scalar_string {g B wb : Nat} {esc : Bool} {buf : List UInt8} {modes : List Int} {m : Int} {w : World} (text more : ByteArray) (n : Int) (bits high : Nat) (bv kv : Value) (h : IsEW g B wb false esc buf (modes ++ [m]) w) (hp : 0 < modes.length) (hm : m = 4 ∨ m = 5) (hl : Room buf.length) (hT : Tabs w) (h17 : 17 ≤ B) (ht : text.size ≤ 10000000) :
    Calls Tryz.prog 101 #[.pointer (some ⟨g, 0, none⟩), valV 2 text more n bits high bv kv] w fun e w' => e = .returned .nilIface ∧ IsEW g B wb false esc (buf ++ (jout esc text ++ [44])) modes w' ∧ EStep B w w' := by
  unfold valV
  have hB := Lib.hid h.lt
  have H1 := Lib.hid (h.below (below_allocB w (.cells #[.int .i64 2, .string text, .string more, .int .i64 n, .int .u64 (bits : Int), .int .u64 (high : Int), bv, kv] 26)))
  have T1 := Lib.hid (hT.below (below_allocB w (.cells #[.int .i64 2, .string text, .string more, .int .i64 n, .int .u64 (bits : Int), .int .u64 (high : Int), bv, kv] 26)) (by have := h.lt; omega))
  have S1 := Lib.hid (EStep.of_below (B := B) (below_allocB w (.cells #[.int .i64 2, .string text, .string more, .int .i64 n, .int .u64 (bits : Int), .int .u64 (high : Int), bv, kv] 26)) (by have := h.lt; omega))
  clear h hT
  go_enter Tryz.func101, Tryz.ntmps101
  go_wp2_with (go_at_call 148; refine (writeString_any text H1.out hp hm hl T1.out h17 (by omega)).mono ?_; rintro e w2 ⟨rfl, h2, s2⟩; refine Hid.out ?_)
  refine Lib.hid ?_
  have H2 := Lib.hid h2
  have S2 := Lib.hid s2
  clear h2 s2
  go_wp2
  go_ret
  exact ⟨rfl, H2.out, S1.out.trans S2.out⟩
set_option maxHeartbeats 800000 in
set_option maxRecDepth 100000 in
theorem scalar_undefined {g B wb : Nat} {esc : Bool} {buf : List UInt8} {modes : List Int} {m : Int} {w : World} (text more : ByteArray) (n : Int) (bits high : Nat) (bv kv : Value) (h : IsEW g B wb false esc buf (modes ++ [m]) w) (hp : 0 < modes.length) (hm : m = 4 ∨ m = 5) (hl : Room buf.length) (hT : Tabs w) (h17 : 17 ≤ B)  :
    Calls Tryz.prog 101 #[.pointer (some ⟨g, 0, none⟩), valV 6 text more n bits high bv kv] w fun e w' => e = .returned .nilIface ∧ IsEW g B wb false esc (buf ++ [123, 34, 36, 117, 110, 100, 101, 102, 105, 110, 101, 100, 34, 58, 116, 114, 117, 101, 125, 44]) modes w' ∧ EStep B w w' := by
  unfold valV
  have hB := Lib.hid h.lt
  have H1 := Lib.hid (h.below (below_allocB w (.cells #[.int .i64 6, .string text, .string more, .int .i64 n, .int .u64 (bits : Int), .int .u64 (high : Int), bv, kv] 26)))
  have T1 := Lib.hid (hT.below (below_allocB w (.cells #[.int .i64 6, .string text, .string more, .int .i64 n, .int .u64 (bits : Int), .int .u64 (high : Int), bv, kv] 26)) (by have := h.lt; omega))
  have S1 := Lib.hid (EStep.of_below (B := B) (below_allocB w (.cells #[.int .i64 6, .string text, .string more, .int .i64 n, .int .u64 (bits : Int), .int .u64 (high : Int), bv, kv] 26)) (by have := h.lt; omega))
  clear h hT
  go_enter Tryz.func101, Tryz.ntmps101
  go_wp2_with (go_at_call 150; refine (writeUndefined_any H1.out hp hm hl).mono ?_; rintro e w2 ⟨rfl, h2, s2⟩; refine Hid.out ?_)
  refine Lib.hid ?_
  have H2 := Lib.hid h2
  have S2 := Lib.hid s2
  clear h2 s2
  go_wp2
  go_ret
  exact ⟨rfl, H2.out, S1.out.trans S2.out⟩
set_option maxHeartbeats 800000 in
set_option maxRecDepth 100000 in
theorem scalar_min {g B wb : Nat} {esc : Bool} {buf : List UInt8} {modes : List Int} {m : Int} {w : World} (text more : ByteArray) (n : Int) (bits high : Nat) (bv kv : Value) (h : IsEW g B wb false esc buf (modes ++ [m]) w) (hp : 0 < modes.length) (hm : m = 4 ∨ m = 5) (hl : Room buf.length) (hT : Tabs w) (h17 : 17 ≤ B)  :
    Calls Tryz.prog 101 #[.pointer (some ⟨g, 0, none⟩), valV 255 text more n bits high bv kv] w fun e w' => e = .returned .nilIface ∧ IsEW g B wb false esc (buf ++ [123, 34, 36, 109, 105, 110, 75, 101, 121, 34, 58, 49, 125, 44]) modes w' ∧ EStep B w w' := by
  unfold valV
  have hB := Lib.hid h.lt
  have H1 := Lib.hid (h.below (below_allocB w (.cells #[.int .i64 255, .string text, .string more, .int .i64 n, .int .u64 (bits : Int), .int .u64 (high : Int), bv, kv] 26)))
  have T1 := Lib.hid (hT.below (below_allocB w (.cells #[.int .i64 255, .string text, .string more, .int .i64 n, .int .u64 (bits : Int), .int .u64 (high : Int), bv, kv] 26)) (by have := h.lt; omega))
  have S1 := Lib.hid (EStep.of_below (B := B) (below_allocB w (.cells #[.int .i64 255, .string text, .string more, .int .i64 n, .int .u64 (bits : Int), .int .u64 (high : Int), bv, kv] 26)) (by have := h.lt; omega))
  clear h hT
  go_enter Tryz.func101, Tryz.ntmps101
  go_wp2_with (go_at_call 165; refine (writeMinKey_any H1.out hp hm hl).mono ?_; rintro e w2 ⟨rfl, h2, s2⟩; refine Hid.out ?_)
  refine Lib.hid ?_
  have H2 := Lib.hid h2
  have S2 := Lib.hid s2
  clear h2 s2
  go_wp2
  go_ret
  exact ⟨rfl, H2.out, S1.out.trans S2.out⟩
set_option maxHeartbeats 800000 in
set_option maxRecDepth 100000 in
theorem scalar_max {g B wb : Nat} {esc : Bool} {buf : List UInt8} {modes : List Int} {m : Int} {w : World} (text more : ByteArray) (n : Int) (bits high : Nat) (bv kv : Value) (h : IsEW g B wb false esc buf (modes ++ [m]) w) (hp : 0 < modes.length) (hm : m = 4 ∨ m = 5) (hl : Room buf.length) (hT : Tabs w) (h17 : 17 ≤ B)  :
    Calls Tryz.prog 101 #[.pointer (some ⟨g, 0, none⟩), valV 127 text more n bits high bv kv] w fun e w' => e = .returned .nilIface ∧ IsEW g B wb false esc (buf ++ [123, 34, 36, 109, 97, 120, 75, 101, 121, 34, 58, 49, 125, 44]) modes w' ∧ EStep B w w' := by
  unfold valV
  have hB := Lib.hid h.lt
  have H1 := Lib.hid (h.below (below_allocB w (.cells #[.int .i64 127, .string text, .string more, .int .i64 n, .int .u64 (bits : Int), .int .u64 (high : Int), bv, kv] 26)))
  have T1 := Lib.hid (hT.below (below_allocB w (.cells #[.int .i64 127, .string text, .string more, .int .i64 n, .int .u64 (bits : Int), .int .u64 (high : Int), bv, kv] 26)) (by have := h.lt; omega))
  have S1 := Lib.hid (EStep.of_below (B := B) (below_allocB w (.cells #[.int .i64 127, .string text, .string more, .int .i64 n, .int .u64 (bits : Int), .int .u64 (high : Int), bv, kv] 26)) (by have := h.lt; omega))
  clear h hT
  go_enter Tryz.func101, Tryz.ntmps101
  go_wp2_with (go_at_call 166; refine (writeMaxKey_any H1.out hp hm hl).mono ?_; rintro e w2 ⟨rfl, h2, s2⟩; refine Hid.out ?_)
  refine Lib.hid ?_
  have H2 := Lib.hid h2
  have S2 := Lib.hid s2
  clear h2 s2
  go_wp2
  go_ret
  exact ⟨rfl, H2.out, S1.out.trans S2.out⟩
set_option maxHeartbeats 800000 in
set_option maxRecDepth 100000 in
theorem scalar_int64 {g B wb : Nat} {esc : Bool} {buf : List UInt8} {modes : List Int} {m : Int} {w : World} (text more : ByteArray) (n : Int) (bits high : Nat) (bv kv : Value) (h : IsEW g B wb false esc buf (modes ++ [m]) w) (hp : 0 < modes.length) (hm : m = 4 ∨ m = 5) (hl : Room buf.length) (hT : Tabs w) (h17 : 17 ≤ B) (hn : I64 n) :
    Calls Tryz.prog 101 #[.pointer (some ⟨g, 0, none⟩), valV 18 text more n bits high bv kv] w fun e w' => e = .returned .nilIface ∧ IsEW g B wb false esc (buf ++ ((Lib.itoa n) ++ [44])) modes w' ∧ EStep B w w' := by
  unfold valV
  have hB := Lib.hid h.lt
  have H1 := Lib.hid (h.below (below_allocB w (.cells #[.int .i64 18, .string text, .string more, .int .i64 n, .int .u64 (bits : Int), .int .u64 (high : Int), bv, kv] 26)))
  have T1 := Lib.hid (hT.below (below_allocB w (.cells #[.int .i64 18, .string text, .string more, .int .i64 n, .int .u64 (bits : Int), .int .u64 (high : Int), bv, kv] 26)) (by have := h.lt; omega))
  have S1 := Lib.hid (EStep.of_below (B := B) (below_allocB w (.cells #[.int .i64 18, .string text, .string more, .int .i64 n, .int .u64 (bits : Int), .int .u64 (high : Int), bv, kv] 26)) (by have := h.lt; omega))
  clear h hT
  go_enter Tryz.func101, Tryz.ntmps101
  go_wp2_with (go_at_call 162; refine (writeInt64_any n H1.out hp hm hl hn T1.out h17).mono ?_; rintro e w2 ⟨rfl, h2, s2⟩; refine Hid.out ?_)
  refine Lib.hid ?_
  have H2 := Lib.hid h2
  have S2 := Lib.hid s2
  clear h2 s2
  go_wp2
  go_ret
  exact ⟨rfl, H2.out, S1.out.trans S2.out⟩
set_option maxHeartbeats 800000 in
set_option maxRecDepth 100000 in
theorem scalar_date {g B wb : Nat} {esc : Bool} {buf : List UInt8} {modes : List Int} {m : Int} {w : World} (text more : ByteArray) (n : Int) (bits high : Nat) (bv kv : Value) (h : IsEW g B wb false esc buf (modes ++ [m]) w) (hp : 0 < modes.length) (hm : m = 4 ∨ m = 5) (hl : Room buf.length) (hT : Tabs w) (h17 : 17 ≤ B) (hn : I64 n) :
    Calls Tryz.prog 101 #[.pointer (some ⟨g, 0, none⟩), valV 9 text more n bits high bv kv] w fun e w' => e = .returned .nilIface ∧ IsEW g B wb false esc (buf ++ ([123, 34, 36, 100, 97, 116, 101, 34, 58, 123, 34, 36, 110, 117, 109, 98, 101, 114, 76, 111, 110, 103, 34, 58, 34] ++ Lib.itoa n ++ [34, 125, 125, 44])) modes w' ∧ EStep B w w' := by
  unfold valV
  have hB := Lib.hid h.lt
  have H1 := Lib.hid (h.below (below_allocB w (.cells #[.int .i64 9, .string text, .string more, .int .i64 n, .int .u64 (bits : Int), .int .u64 (high : Int), bv, kv] 26)))
  have T1 := Lib.hid (hT.below (below_allocB w (.cells #[.int .i64 9, .string text, .string more, .int .i64 n, .int .u64 (bits : Int), .int .u64 (high : Int), bv, kv] 26)) (by have := h.lt; omega))
  have S1 := Lib.hid (EStep.of_below (B := B) (below_allocB w (.cells #[.int .i64 9, .string text, .string more, .int .i64 n, .int .u64 (bits : Int), .int .u64 (high : Int), bv, kv] 26)) (by have := h.lt; omega))
  clear h hT
  go_enter Tryz.func101, Tryz.ntmps101
  go_wp2_with (go_at_call 154; refine (writeDateTime_any n H1.out hp hm hl hn T1.out h17).mono ?_; rintro e w2 ⟨rfl, h2, s2⟩; refine Hid.out ?_)
  refine Lib.hid ?_
  have H2 := Lib.hid h2
  have S2 := Lib.hid s2
  clear h2 s2
  go_wp2
  go_ret
  exact ⟨rfl, H2.out, S1.out.trans S2.out⟩
set_option maxHeartbeats 800000 in
set_option maxRecDepth 100000 in
theorem scalar_js {g B wb : Nat} {esc : Bool} {buf : List UInt8} {modes : List Int} {m : Int} {w : World} (text more : ByteArray) (n : Int) (bits high : Nat) (bv kv : Value) (h : IsEW g B wb false esc buf (modes ++ [m]) w) (hp : 0 < modes.length) (hm : m = 4 ∨ m = 5) (hl : Room buf.length) (hT : Tabs w) (h17 : 17 ≤ B) (ht : text.size ≤ 10000000) :
    Calls Tryz.prog 101 #[.pointer (some ⟨g, 0, none⟩), valV 13 text more n bits high bv kv] w fun e w' => e = .returned .nilIface ∧ IsEW g B wb false esc (buf ++ ([123, 34, 36, 99, 111, 100, 101, 34, 58] ++ jout esc text ++ [125, 44])) modes w' ∧ EStep B w w' := by
  unfold valV
  have hB := Lib.hid h.lt
  have H1 := Lib.hid (h.below (below_allocB w (.cells #[.int .i64 13, .string text, .string more, .int .i64 n, .int .u64 (bits : Int), .int .u64 (high : Int), bv, kv] 26)))
  have T1 := Lib.hid (hT.below (below_allocB w (.cells #[.int .i64 13, .string text, .string more, .int .i64 n, .int .u64 (bits : Int), .int .u64 (high : Int), bv, kv] 26)) (by have := h.lt; omega))
  have S1 := Lib.hid (EStep.of_below (B := B) (below_allocB w (.cells #[.int .i64 13, .string text, .string more, .int .i64 n, .int .u64 (bits : Int), .int .u64 (high : Int), bv, kv] 26)) (by have := h.lt; omega))
  clear h hT
  go_enter Tryz.func101, Tryz.ntmps101
  go_wp2_with (go_at_call 158; refine (writeJavascript_any text H1.out hp hm hl T1.out h17 ht).mono ?_; rintro e w2 ⟨rfl, h2, s2⟩; refine Hid.out ?_)
  refine Lib.hid ?_
  have H2 := Lib.hid h2
  have S2 := Lib.hid s2
  clear h2 s2
  go_wp2
  go_ret
  exact ⟨rfl, H2.out, S1.out.trans S2.out⟩
set_option maxHeartbeats 800000 in
set_option maxRecDepth 100000 in
theorem scalar_symbol {g B wb : Nat} {esc : Bool} {buf : List UInt8} {modes : List Int} {m : Int} {w : World} (text more : ByteArray) (n : Int) (bits high : Nat) (bv kv : Value) (h : IsEW g B wb false esc buf (modes ++ [m]) w) (hp : 0 < modes.length) (hm : m = 4 ∨ m = 5) (hl : Room buf.length) (hT : Tabs w) (h17 : 17 ≤ B) (ht : text.size ≤ 10000000) :
    Calls Tryz.prog 101 #[.pointer (some ⟨g, 0, none⟩), valV 14 text more n bits high bv kv] w fun e w' => e = .returned .nilIface ∧ IsEW g B wb false esc (buf ++ ([123, 34, 36, 115, 121, 109, 98, 111, 108, 34, 58] ++ jout esc text ++ [125, 44])) modes w' ∧ EStep B w w' := by
  unfold valV
  have hB := Lib.hid h.lt
  have H1 := Lib.hid (h.below (below_allocB w (.cells #[.int .i64 14, .string text, .string more, .int .i64 n, .int .u64 (bits : Int), .int .u64 (high : Int), bv, kv] 26)))
  have T1 := Lib.hid (hT.below (below_allocB w (.cells #[.int .i64 14, .string text, .string more, .int .i64 n, .int .u64 (bits : Int), .int .u64 (high : Int), bv, kv] 26)) (by have := h.lt; omega))
  have S1 := Lib.hid (EStep.of_below (B := B) (below_allocB w (.cells #[.int .i64 14, .string text, .string more, .int .i64 n, .int .u64 (bits : Int), .int .u64 (high : Int), bv, kv] 26)) (by have := h.lt; omega))
  clear h hT
  go_enter Tryz.func101, Tryz.ntmps101
  go_wp2_with (go_at_call 159; refine (writeSymbol_any text H1.out hp hm hl T1.out h17 ht).mono ?_; rintro e w2 ⟨rfl, h2, s2⟩; refine Hid.out ?_)
  refine Lib.hid ?_
  have H2 := Lib.hid h2
  have S2 := Lib.hid s2
  clear h2 s2
  go_wp2
  go_ret
  exact ⟨rfl, H2.out, S1.out.trans S2.out⟩
set_option maxHeartbeats 800000 in
set_option maxRecDepth 100000 in
theorem scalar_int32 {g B wb : Nat} {esc : Bool} {buf : List UInt8} {modes : List Int} {m : Int} {w : World} (text more : ByteArray) (n : Int) (bits high : Nat) (bv kv : Value) (h : IsEW g B wb false esc buf (modes ++ [m]) w) (hp : 0 < modes.length) (hm : m = 4 ∨ m = 5) (hl : Room buf.length) (hT : Tabs w) (h17 : 17 ≤ B) (hn : -2147483648 ≤ n ∧ n ≤ 2147483647) :
    Calls Tryz.prog 101 #[.pointer (some ⟨g, 0, none⟩), valV 16 text more n bits high bv kv] w fun e w' => e = .returned .nilIface ∧ IsEW g B wb false esc (buf ++ ((Lib.itoa n) ++ [44])) modes w' ∧ EStep B w w' := by
  unfold valV
  have hB := Lib.hid h.lt
  have H1 := Lib.hid (h.below (below_allocB w (.cells #[.int .i64 16, .string text, .string more, .int .i64 n, .int .u64 (bits : Int), .int .u64 (high : Int), bv, kv] 26)))
  have T1 := Lib.hid (hT.below (below_allocB w (.cells #[.int .i64 16, .string text, .string more, .int .i64 n, .int .u64 (bits : Int), .int .u64 (high : Int), bv, kv] 26)) (by have := h.lt; omega))
  have S1 := Lib.hid (EStep.of_below (B := B) (below_allocB w (.cells #[.int .i64 16, .string text, .string more, .int .i64 n, .int .u64 (bits : Int), .int .u64 (high : Int), bv, kv] 26)) (by have := h.lt; omega))
  clear h hT
  go_enter Tryz.func101, Tryz.ntmps101
  go_wp2_with (go_at_call 160; refine (writeInt32_any n H1.out hp hm hl hn T1.out h17).mono ?_; rintro e w2 ⟨rfl, h2, s2⟩; refine Hid.out ?_)
  refine Lib.hid ?_
  have H2 := Lib.hid h2
  have S2 := Lib.hid s2
  clear h2 s2
  go_wp2
  go_ret
  exact ⟨rfl, H2.out, S1.out.trans S2.out⟩
set_option maxHeartbeats 800000 in
set_option maxRecDepth 100000 in
theorem scalar_regex {g B wb : Nat} {esc : Bool} {buf : List UInt8} {modes : List Int} {m : Int} {w : World} (text more : ByteArray) (n : Int) (bits high : Nat) (bv kv : Value) (h : IsEW g B wb false esc buf (modes ++ [m]) w) (hp : 0 < modes.length) (hm : m = 4 ∨ m = 5) (hl : Room buf.length) (hT : Tabs w) (h17 : 17 ≤ B) (so : ByteArray) (ht : text.size ≤ 10000000) (hso : so.size ≤ 10000000) (hcs : ∀ W, 17 ≤ W.heap.size → Calls Tryz.prog 221 #[.string more] W fun e w' => e = .returned (.string so) ∧ Below W.heap.size W w') :
    Calls Tryz.prog 101 #[.pointer (some ⟨g, 0, none⟩), valV 11 text more n bits high bv kv] w fun e w' => e = .returned .nilIface ∧ IsEW g B wb false esc (buf ++ ([123, 34, 36, 114, 101, 103, 117, 108, 97, 114, 69, 120, 112, 114, 101, 115, 115, 105, 111, 110, 34, 58, 123, 34, 112, 97, 116, 116, 101, 114, 110, 34, 58] ++ jout esc text ++ [44, 34, 111, 112, 116, 105, 111, 110, 115, 34, 58] ++ jout esc so ++ [125, 125, 44])) modes w' ∧ EStep B w w' := by
  unfold valV
  have hB := Lib.hid h.lt
  have H1 := Lib.hid (h.below (below_allocB w (.cells #[.int .i64 11, .string text, .string more, .int .i64 n, .int .u64 (bits : Int), .int .u64 (high : Int), bv, kv] 26)))
  have T1 := Lib.hid (hT.below (below_allocB w (.cells #[.int .i64 11, .string text, .string more, .int .i64 n, .int .u64 (bits : Int), .int .u64 (high : Int), bv, kv] 26)) (by have := h.lt; omega))
  have S1 := Lib.hid (EStep.of_below (B := B) (below_allocB w (.cells #[.int .i64 11, .string text, .string more, .int .i64 n, .int .u64 (bits : Int), .int .u64 (high : Int), bv, kv] 26)) (by have := h.lt; omega))
  clear h hT
  go_enter Tryz.func101, Tryz.ntmps101
  go_wp2_with (go_at_call 156; refine (writeRegex_any text more so H1.out hp hm hl T1.out h17 ht hso hcs).mono ?_; rintro e w2 ⟨rfl, h2, s2⟩; refine Hid.out ?_)
  refine Lib.hid ?_
  have H2 := Lib.hid h2
  have S2 := Lib.hid s2
  clear h2 s2
  go_wp2
  go_ret
  exact ⟨rfl, H2.out, S1.out.trans S2.out⟩
end Go.Proofs.YtpfkgpcnhdkkbaaGreatDoor
