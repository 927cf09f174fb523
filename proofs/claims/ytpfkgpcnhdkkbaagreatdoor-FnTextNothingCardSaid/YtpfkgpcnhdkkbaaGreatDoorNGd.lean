/- bsoncore: the text of a value, by kind, nothing cut; conditions: what the callees answer. -/
import Derived.Test.YtpfkgpcnhdkkbaaGreatDoorNGc
import Derived.Test.YtpfkgpcnhdkkbaaGreatDoorNMq
import Derived.Test.YtpfkgpcnhdkkbaaGreatDoorNGa
import Derived.Test.YtpfkgpcnhdkkbaaGreatDoorNMa
namespace Go.Proofs.YtpfkgpcnhdkkbaaGreatDoor
open Go.RowKit
set_option linter.unusedVariables false
set_option linter.unusedSimpArgs false
set_option maxRecDepth 100000
/-- A call's answer to two arguments, wherever it is asked. -/
def Rd2 (f : Nat) (v u : Value) (w : World) (r : Value) : Prop := ∀ W, Below w.heap.size w W → Calls Tryz.prog f #[v, u] W fun e w' => e = .returned r ∧ Below W.heap.size W w'
theorem Rd.lat {f : Nat} {v : Value} {w w2 : World} {r : Value} (h : Rd f v w r) (hb : Below w.heap.size w w2) : Rd f v w2 r := fun W hW => h W (hb.trans (hW.mono hb.size))
theorem Rd2.lat {f : Nat} {v u : Value} {w w2 : World} {r : Value} (h : Rd2 f v u w r) (hb : Below w.heap.size w w2) : Rd2 f v u w2 r := fun W hW => h W (hb.trans (hW.mono hb.size))
set_option maxHeartbeats 2000000 in
theorem val2 (n : Int) (hn : decide ((0 : Int) ≤ n) = false) (A : Option Addr) (m c : Nat) (x0 : ByteArray) (w : World) (hok : Rd 109 (.agg #[.int .u8 2, .slice A m c]) w (.tuple #[.string x0, .bool true])) (q : ByteArray) (hsq : q.size ≤ 100000) (hq : Rd 110 (.string x0) w (.string q)) : Rd2 78 (.agg #[.int .u8 2, .slice A m c]) (.int .i64 n) w (.tuple #[.string (q), .bool false]) := by
  intro W hW
  have HOK := Lib.hid (hok.lat hW)
  have Hq := Lib.hid (hq.lat hW)
  clear hW hok hq
  go_enter Tryz.func78, Tryz.ntmps78
  go_wp2_with (first | (go_at_call 109; refine (HOK.out _ (below_al W _)).mono ?_; rintro e w0 ⟨rfl, hb0⟩; have B0 : Below W.heap.size W w0 := (below_al W _).trans (hb0.mono (below_al W _).size)) | (go_at_call 110; refine (Hq.out _ B0).mono ?_; rintro e w1 ⟨rfl, hb1⟩; have B1 : Below W.heap.size W w1 := B0.trans (hb1.mono B0.size)))
  go_ret2
  exact ⟨rfl, B1⟩
set_option maxHeartbeats 2000000 in
theorem val1 (n : Int) (hn : decide ((0 : Int) ≤ n) = false) (A : Option Addr) (m c : Nat) (x0 : Nat) (w : World) (hok : Rd 113 (.agg #[.int .u8 1, .slice A m c]) w (.tuple #[.float .f64 x0, .bool true])) (q : ByteArray) (hsq : q.size ≤ 100000) (hq : Rd 114 (.float .f64 x0) w (.string q)) : Rd2 78 (.agg #[.int .u8 1, .slice A m c]) (.int .i64 n) w (.tuple #[.string (⟨#[123, 34, 36, 110, 117, 109, 98, 101, 114, 68, 111, 117, 98, 108, 101, 34, 58, 34]⟩ ++ q ++ ⟨#[34, 125]⟩), .bool false]) := by
  intro W hW
  have HOK := Lib.hid (hok.lat hW)
  have Hq := Lib.hid (hq.lat hW)
  clear hW hok hq
  go_enter Tryz.func78, Tryz.ntmps78
  go_wp2_with (first | (go_at_call 113; refine (HOK.out _ (below_al W _)).mono ?_; rintro e w0 ⟨rfl, hb0⟩; have B0 : Below W.heap.size W w0 := (below_al W _).trans (hb0.mono (below_al W _).size)) | (go_at_call 114; refine (Hq.out _ B0).mono ?_; rintro e w1 ⟨rfl, hb1⟩; have B1 : Below W.heap.size W w1 := B0.trans (hb1.mono B0.size)))
  go_ret2
  exact ⟨rfl, B1⟩
set_option maxHeartbeats 2000000 in
theorem val5 (n : Int) (hn : decide ((0 : Int) ≤ n) = false) (A : Option Addr) (m c : Nat) (x0 : Int) (B1 : Option Addr) (p1 q1 : Nat) (w : World) (hok : Rd 115 (.agg #[.int .u8 5, .slice A m c]) w (.tuple #[.int .u8 x0, .slice B1 p1 q1, .bool true])) (q : ByteArray) (hsq : q.size ≤ 100000) (hq : Rd 116 (.slice B1 p1 q1) w (.string q)) (u : ByteArray) (hsu : u.size ≤ 100) (hu : Rd 117 (.int .u8 x0) w (.string u)) : Rd2 78 (.agg #[.int .u8 5, .slice A m c]) (.int .i64 n) w (.tuple #[.string (⟨#[123, 34, 36, 98, 105, 110, 97, 114, 121, 34, 58, 123, 34, 98, 97, 115, 101, 54, 52, 34, 58, 34]⟩ ++ q ++ ⟨#[34, 44, 34, 115, 117, 98, 84, 121, 112, 101, 34, 58, 34]⟩ ++ u ++ ⟨#[34, 125, 125]⟩), .bool false]) := by
  intro W hW
  have HOK := Lib.hid (hok.lat hW)
  have Hq := Lib.hid (hq.lat hW)
  have Hu := Lib.hid (hu.lat hW)
  clear hW hok hq hu
  go_enter Tryz.func78, Tryz.ntmps78
  go_wp2_with (first | (go_at_call 115; refine (HOK.out _ (below_al W _)).mono ?_; rintro e w0 ⟨rfl, hb0⟩; have B0 : Below W.heap.size W w0 := (below_al W _).trans (hb0.mono (below_al W _).size)) | (go_at_call 116; refine (Hq.out _ B0).mono ?_; rintro e w1 ⟨rfl, hb1⟩; have B1 : Below W.heap.size W w1 := B0.trans (hb1.mono B0.size)) | (go_at_call 117; refine (Hu.out _ B1).mono ?_; rintro e w2 ⟨rfl, hb2⟩; have B2 : Below W.heap.size W w2 := B1.trans (hb2.mono B1.size)))
  go_ret2
  exact ⟨rfl, B2⟩
set_option maxHeartbeats 2000000 in
theorem val6 (n : Int) (hn : decide ((0 : Int) ≤ n) = false) (A : Option Addr) (m c : Nat)  (w : World) : Rd2 78 (.agg #[.int .u8 6, .slice A m c]) (.int .i64 n) w (.tuple #[.string (⟨#[123, 34, 36, 117, 110, 100, 101, 102, 105, 110, 101, 100, 34, 58, 116, 114, 117, 101, 125]⟩), .bool false]) := by
  intro W hW
  clear hW 
  go_enter Tryz.func78, Tryz.ntmps78
  go_wp2_with fail
  go_ret2
  exact ⟨rfl, (below_al W _)⟩
set_option maxHeartbeats 2000000 in
theorem val8 (n : Int) (hn : decide ((0 : Int) ≤ n) = false) (A : Option Addr) (m c : Nat) (x0 : Bool) (w : World) (hok : Rd 120 (.agg #[.int .u8 8, .slice A m c]) w (.tuple #[.bool x0, .bool true])) (q : ByteArray) (hsq : q.size ≤ 100) (hq : Rd 121 (.bool x0) w (.string q)) : Rd2 78 (.agg #[.int .u8 8, .slice A m c]) (.int .i64 n) w (.tuple #[.string (q), .bool false]) := by
  intro W hW
  have HOK := Lib.hid (hok.lat hW)
  have Hq := Lib.hid (hq.lat hW)
  clear hW hok hq
  go_enter Tryz.func78, Tryz.ntmps78
  go_wp2_with (first | (go_at_call 120; refine (HOK.out _ (below_al W _)).mono ?_; rintro e w0 ⟨rfl, hb0⟩; have B0 : Below W.heap.size W w0 := (below_al W _).trans (hb0.mono (below_al W _).size)) | (go_at_call 121; refine (Hq.out _ B0).mono ?_; rintro e w1 ⟨rfl, hb1⟩; have B1 : Below W.heap.size W w1 := B0.trans (hb1.mono B0.size)))
  go_ret2
  exact ⟨rfl, B1⟩
set_option maxHeartbeats 2000000 in
theorem val9 (n : Int) (hn : decide ((0 : Int) ≤ n) = false) (A : Option Addr) (m c : Nat) (x0 : Int) (w : World) (hok : Rd 122 (.agg #[.int .u8 9, .slice A m c]) w (.tuple #[.int .i64 x0, .bool true])) (q : ByteArray) (hsq : q.size ≤ 1000) (hq : Rd2 34 (.int .i64 x0) (.int .i64 10) w (.string q)) : Rd2 78 (.agg #[.int .u8 9, .slice A m c]) (.int .i64 n) w (.tuple #[.string (⟨#[123, 34, 36, 100, 97, 116, 101, 34, 58, 123, 34, 36, 110, 117, 109, 98, 101, 114, 76, 111, 110, 103, 34, 58, 34]⟩ ++ q ++ ⟨#[34, 125, 125]⟩), .bool false]) := by
  intro W hW
  have HOK := Lib.hid (hok.lat hW)
  have Hq := Lib.hid (hq.lat hW)
  clear hW hok hq
  go_enter Tryz.func78, Tryz.ntmps78
  go_wp2_with (first | (go_at_call 122; refine (HOK.out _ (below_al W _)).mono ?_; rintro e w0 ⟨rfl, hb0⟩; have B0 : Below W.heap.size W w0 := (below_al W _).trans (hb0.mono (below_al W _).size)) | (go_at_call 34; refine (Hq.out _ B0).mono ?_; rintro e w1 ⟨rfl, hb1⟩; have B1 : Below W.heap.size W w1 := B0.trans (hb1.mono B0.size)))
  go_ret2
  exact ⟨rfl, B1⟩
set_option maxHeartbeats 2000000 in
theorem val10 (n : Int) (hn : decide ((0 : Int) ≤ n) = false) (A : Option Addr) (m c : Nat)  (w : World) : Rd2 78 (.agg #[.int .u8 10, .slice A m c]) (.int .i64 n) w (.tuple #[.string (⟨#[110, 117, 108, 108]⟩), .bool false]) := by
  intro W hW
  clear hW 
  go_enter Tryz.func78, Tryz.ntmps78
  go_wp2_with fail
  go_ret2
  exact ⟨rfl, (below_al W _)⟩
set_option maxHeartbeats 2000000 in
theorem val11 (n : Int) (hn : decide ((0 : Int) ≤ n) = false) (A : Option Addr) (m c : Nat) (x0 : ByteArray) (x1 : ByteArray) (w : World) (hok : Rd 123 (.agg #[.int .u8 11, .slice A m c]) w (.tuple #[.string x0, .string x1, .bool true])) (q : ByteArray) (hsq : q.size ≤ 100000) (hq : Rd 110 (.string x0) w (.string q)) (u : ByteArray) (hsu : u.size ≤ 100000) (hu : Rd 124 (.string x1) w (.string u)) : Rd2 78 (.agg #[.int .u8 11, .slice A m c]) (.int .i64 n) w (.tuple #[.string (⟨#[123, 34, 36, 114, 101, 103, 117, 108, 97, 114, 69, 120, 112, 114, 101, 115, 115, 105, 111, 110, 34, 58, 123, 34, 112, 97, 116, 116, 101, 114, 110, 34, 58]⟩ ++ q ++ ⟨#[44, 34, 111, 112, 116, 105, 111, 110, 115, 34, 58, 34]⟩ ++ u ++ ⟨#[34, 125, 125]⟩), .bool false]) := by
  intro W hW
  have HOK := Lib.hid (hok.lat hW)
  have Hq := Lib.hid (hq.lat hW)
  have Hu := Lib.hid (hu.lat hW)
  clear hW hok hq hu
  go_enter Tryz.func78, Tryz.ntmps78
  go_wp2_with (first | (go_at_call 123; refine (HOK.out _ (below_al W _)).mono ?_; rintro e w0 ⟨rfl, hb0⟩; have B0 : Below W.heap.size W w0 := (below_al W _).trans (hb0.mono (below_al W _).size)) | (go_at_call 110; refine (Hq.out _ B0).mono ?_; rintro e w1 ⟨rfl, hb1⟩; have B1 : Below W.heap.size W w1 := B0.trans (hb1.mono B0.size)) | (go_at_call 124; refine (Hu.out _ B1).mono ?_; rintro e w2 ⟨rfl, hb2⟩; have B2 : Below W.heap.size W w2 := B1.trans (hb2.mono B1.size)))
  go_ret2
  exact ⟨rfl, B2⟩
set_option maxHeartbeats 2000000 in
theorem val13 (n : Int) (hn : decide ((0 : Int) ≤ n) = false) (A : Option Addr) (m c : Nat) (x0 : ByteArray) (w : World) (hok : Rd 126 (.agg #[.int .u8 13, .slice A m c]) w (.tuple #[.string x0, .bool true])) (q : ByteArray) (hsq : q.size ≤ 100000) (hq : Rd 110 (.string x0) w (.string q)) : Rd2 78 (.agg #[.int .u8 13, .slice A m c]) (.int .i64 n) w (.tuple #[.string (⟨#[123, 34, 36, 99, 111, 100, 101, 34, 58]⟩ ++ q ++ ⟨#[125]⟩), .bool false]) := by
  intro W hW
  have HOK := Lib.hid (hok.lat hW)
  have Hq := Lib.hid (hq.lat hW)
  clear hW hok hq
  go_enter Tryz.func78, Tryz.ntmps78
  go_wp2_with (first | (go_at_call 126; refine (HOK.out _ (below_al W _)).mono ?_; rintro e w0 ⟨rfl, hb0⟩; have B0 : Below W.heap.size W w0 := (below_al W _).trans (hb0.mono (below_al W _).size)) | (go_at_call 110; refine (Hq.out _ B0).mono ?_; rintro e w1 ⟨rfl, hb1⟩; have B1 : Below W.heap.size W w1 := B0.trans (hb1.mono B0.size)))
  go_ret2
  exact ⟨rfl, B1⟩
set_option maxHeartbeats 2000000 in
theorem val14 (n : Int) (hn : decide ((0 : Int) ≤ n) = false) (A : Option Addr) (m c : Nat) (x0 : ByteArray) (w : World) (hok : Rd 127 (.agg #[.int .u8 14, .slice A m c]) w (.tuple #[.string x0, .bool true])) (q : ByteArray) (hsq : q.size ≤ 100000) (hq : Rd 110 (.string x0) w (.string q)) : Rd2 78 (.agg #[.int .u8 14, .slice A m c]) (.int .i64 n) w (.tuple #[.string (⟨#[123, 34, 36, 115, 121, 109, 98, 111, 108, 34, 58]⟩ ++ q ++ ⟨#[125]⟩), .bool false]) := by
  intro W hW
  have HOK := Lib.hid (hok.lat hW)
  have Hq := Lib.hid (hq.lat hW)
  clear hW hok hq
  go_enter Tryz.func78, Tryz.ntmps78
  go_wp2_with (first | (go_at_call 127; refine (HOK.out _ (below_al W _)).mono ?_; rintro e w0 ⟨rfl, hb0⟩; have B0 : Below W.heap.size W w0 := (below_al W _).trans (hb0.mono (below_al W _).size)) | (go_at_call 110; refine (Hq.out _ B0).mono ?_; rintro e w1 ⟨rfl, hb1⟩; have B1 : Below W.heap.size W w1 := B0.trans (hb1.mono B0.size)))
  go_ret2
  exact ⟨rfl, B1⟩
set_option maxHeartbeats 2000000 in
theorem val16 (n : Int) (hn : decide ((0 : Int) ≤ n) = false) (A : Option Addr) (m c : Nat) (x0 : Int) (w : World) (hok : Rd 129 (.agg #[.int .u8 16, .slice A m c]) w (.tuple #[.int .i32 x0, .bool true])) (q : ByteArray) (hsq : q.size ≤ 1000) (hq : Rd2 34 (.int .i64 x0) (.int .i64 10) w (.string q)) (hx : -2147483648 ≤ x0 ∧ x0 ≤ 2147483647) : Rd2 78 (.agg #[.int .u8 16, .slice A m c]) (.int .i64 n) w (.tuple #[.string (⟨#[123, 34, 36, 110, 117, 109, 98, 101, 114, 73, 110, 116, 34, 58, 34]⟩ ++ q ++ ⟨#[34, 125]⟩), .bool false]) := by
  intro W hW
  have HOK := Lib.hid (hok.lat hW)
  have Hq := Lib.hid (hq.lat hW)
  clear hW hok hq
  go_enter Tryz.func78, Tryz.ntmps78
  go_wp2_with (first | (go_at_call 129; refine (HOK.out _ (below_al W _)).mono ?_; rintro e w0 ⟨rfl, hb0⟩; have B0 : Below W.heap.size W w0 := (below_al W _).trans (hb0.mono (below_al W _).size)) | (go_at_call 34; refine (Hq.out _ B0).mono ?_; rintro e w1 ⟨rfl, hb1⟩; have B1 : Below W.heap.size W w1 := B0.trans (hb1.mono B0.size)))
  go_ret2
  exact ⟨rfl, B1⟩
set_option maxHeartbeats 2000000 in
theorem val18 (n : Int) (hn : decide ((0 : Int) ≤ n) = false) (A : Option Addr) (m c : Nat) (x0 : Int) (w : World) (hok : Rd 131 (.agg #[.int .u8 18, .slice A m c]) w (.tuple #[.int .i64 x0, .bool true])) (q : ByteArray) (hsq : q.size ≤ 1000) (hq : Rd2 34 (.int .i64 x0) (.int .i64 10) w (.string q)) : Rd2 78 (.agg #[.int .u8 18, .slice A m c]) (.int .i64 n) w (.tuple #[.string (⟨#[123, 34, 36, 110, 117, 109, 98, 101, 114, 76, 111, 110, 103, 34, 58, 34]⟩ ++ q ++ ⟨#[34, 125]⟩), .bool false]) := by
  intro W hW
  have HOK := Lib.hid (hok.lat hW)
  have Hq := Lib.hid (hq.lat hW)
  clear hW hok hq
  go_enter Tryz.func78, Tryz.ntmps78
  go_wp2_with (first | (go_at_call 131; refine (HOK.out _ (below_al W _)).mono ?_; rintro e w0 ⟨rfl, hb0⟩; have B0 : Below W.heap.size W w0 := (below_al W _).trans (hb0.mono (below_al W _).size)) | (go_at_call 34; refine (Hq.out _ B0).mono ?_; rintro e w1 ⟨rfl, hb1⟩; have B1 : Below W.heap.size W w1 := B0.trans (hb1.mono B0.size)))
  go_ret2
  exact ⟨rfl, B1⟩
set_option maxHeartbeats 2000000 in
theorem val17 (n : Int) (hn : decide ((0 : Int) ≤ n) = false) (A : Option Addr) (m c : Nat) (x0 : Nat) (x1 : Nat) (w : World) (hok : Rd 130 (.agg #[.int .u8 17, .slice A m c]) w (.tuple #[.int .u32 (x0 : Int), .int .u32 (x1 : Int), .bool true])) (q : ByteArray) (hsq : q.size ≤ 1000) (hq : Rd2 36 (.int .u64 (x0 : Int)) (.int .i64 10) w (.string q)) (u : ByteArray) (hsu : u.size ≤ 1000) (hu : Rd2 36 (.int .u64 (x1 : Int)) (.int .i64 10) w (.string u)) (hx0 : x0 < 4294967296) (hx1 : x1 < 4294967296) : Rd2 78 (.agg #[.int .u8 17, .slice A m c]) (.int .i64 n) w (.tuple #[.string (⟨#[123, 34, 36, 116, 105, 109, 101, 115, 116, 97, 109, 112, 34, 58, 123, 34, 116, 34, 58]⟩ ++ q ++ ⟨#[44, 34, 105, 34, 58]⟩ ++ u ++ ⟨#[125, 125]⟩), .bool false]) := by
  intro W hW
  have HOK := Lib.hid (hok.lat hW)
  have Hq := Lib.hid (hq.lat hW)
  have Hu := Lib.hid (hu.lat hW)
  clear hW hok hq hu
  go_enter Tryz.func78, Tryz.ntmps78
  go_wp2_with (first | (go_at_call 130; refine (HOK.out _ (below_al W _)).mono ?_; rintro e w0 ⟨rfl, hb0⟩; have B0 : Below W.heap.size W w0 := (below_al W _).trans (hb0.mono (below_al W _).size)) | (go_at_call 36; refine (Hq.out _ B0).mono ?_; rintro e w1 ⟨rfl, hb1⟩; have B1 : Below W.heap.size W w1 := B0.trans (hb1.mono B0.size)) | (go_at_call 36; refine (Hu.out _ B1).mono ?_; rintro e w2 ⟨rfl, hb2⟩; have B2 : Below W.heap.size W w2 := B1.trans (hb2.mono B1.size)))
  go_ret2
  exact ⟨rfl, B2⟩
set_option maxHeartbeats 2000000 in
theorem val19 (n : Int) (hn : decide ((0 : Int) ≤ n) = false) (A : Option Addr) (m c : Nat) (x0 : Nat) (x1 : Nat) (w : World) (hok : Rd 132 (.agg #[.int .u8 19, .slice A m c]) w (.tuple #[.int .u64 (x0 : Int), .int .u64 (x1 : Int), .bool true])) (q : ByteArray) (hsq : q.size ≤ 1000) (hq : Rd2 133 (.int .u64 (x0 : Int)) (.int .u64 (x1 : Int)) w (.string q)) : Rd2 78 (.agg #[.int .u8 19, .slice A m c]) (.int .i64 n) w (.tuple #[.string (⟨#[123, 34, 36, 110, 117, 109, 98, 101, 114, 68, 101, 99, 105, 109, 97, 108, 34, 58, 34]⟩ ++ q ++ ⟨#[34, 125]⟩), .bool false]) := by
  intro W hW
  have HOK := Lib.hid (hok.lat hW)
  have Hq := Lib.hid (hq.lat hW)
  clear hW hok hq
  go_enter Tryz.func78, Tryz.ntmps78
  go_wp2_with (first | (go_at_call 132; refine (HOK.out _ (below_al W _)).mono ?_; rintro e w0 ⟨rfl, hb0⟩; have B0 : Below W.heap.size W w0 := (below_al W _).trans (hb0.mono (below_al W _).size)) | (go_at_call 133; refine (Hq.out _ B0).mono ?_; rintro e w1 ⟨rfl, hb1⟩; have B1 : Below W.heap.size W w1 := B0.trans (hb1.mono B0.size)))
  go_ret2
  exact ⟨rfl, B1⟩
set_option maxHeartbeats 2000000 in
theorem val255 (n : Int) (hn : decide ((0 : Int) ≤ n) = false) (A : Option Addr) (m c : Nat)  (w : World) : Rd2 78 (.agg #[.int .u8 255, .slice A m c]) (.int .i64 n) w (.tuple #[.string (⟨#[123, 34, 36, 109, 105, 110, 75, 101, 121, 34, 58, 49, 125]⟩), .bool false]) := by
  intro W hW
  clear hW 
  go_enter Tryz.func78, Tryz.ntmps78
  go_wp2_with fail
  go_ret2
  exact ⟨rfl, (below_al W _)⟩
set_option maxHeartbeats 2000000 in
theorem val127 (n : Int) (hn : decide ((0 : Int) ≤ n) = false) (A : Option Addr) (m c : Nat)  (w : World) : Rd2 78 (.agg #[.int .u8 127, .slice A m c]) (.int .i64 n) w (.tuple #[.string (⟨#[123, 34, 36, 109, 97, 120, 75, 101, 121, 34, 58, 49, 125]⟩), .bool false]) := by
  intro W hW
  clear hW 
  go_enter Tryz.func78, Tryz.ntmps78
  go_wp2_with fail
  go_ret2
  exact ⟨rfl, (below_al W _)⟩
theorem val3 (n : Int) (A : Option Addr) (m c : Nat) (B0 : Option Addr) (p0 q0 : Nat) (w : World) (S : ByteArray) (tr : Bool) (hok : Rd 111 (.agg #[.int .u8 3, .slice A m c]) w (.tuple #[.slice B0 p0 q0, .bool true])) (hd : Rd2 72 (.slice B0 p0 q0) (.int .i64 n) w (.tuple #[.string S, .bool tr])) : Rd2 78 (.agg #[.int .u8 3, .slice A m c]) (.int .i64 n) w (.tuple #[.string S, .bool tr]) := by
  intro W hW
  have HOK := Lib.hid (hok.lat hW)
  have HD := Lib.hid (hd.lat hW)
  clear hW hok hd
  go_enter Tryz.func78, Tryz.ntmps78
  go_wp2_with (first | (go_at_call 111; refine (HOK.out _ (below_al W _)).mono ?_; rintro e w0 ⟨rfl, hb0⟩; have B0 : Below W.heap.size W w0 := (below_al W _).trans (hb0.mono (below_al W _).size)) | (go_at_call 72; refine (HD.out _ B0).mono ?_; rintro e w1 ⟨rfl, hb1⟩))
  go_ret2
  exact ⟨rfl, B0.trans (hb1.mono B0.size)⟩
theorem val4 (n : Int) (A : Option Addr) (m c : Nat) (B0 : Option Addr) (p0 q0 : Nat) (w : World) (S : ByteArray) (tr : Bool) (hok : Rd 112 (.agg #[.int .u8 4, .slice A m c]) w (.tuple #[.slice B0 p0 q0, .bool true])) (hd : Rd2 51 (.slice B0 p0 q0) (.int .i64 n) w (.tuple #[.string S, .bool tr])) : Rd2 78 (.agg #[.int .u8 4, .slice A m c]) (.int .i64 n) w (.tuple #[.string S, .bool tr]) := by
  intro W hW
  have HOK := Lib.hid (hok.lat hW)
  have HD := Lib.hid (hd.lat hW)
  clear hW hok hd
  go_enter Tryz.func78, Tryz.ntmps78
  go_wp2_with (first | (go_at_call 112; refine (HOK.out _ (below_al W _)).mono ?_; rintro e w0 ⟨rfl, hb0⟩; have B0 : Below W.heap.size W w0 := (below_al W _).trans (hb0.mono (below_al W _).size)) | (go_at_call 51; refine (HD.out _ B0).mono ?_; rintro e w1 ⟨rfl, hb1⟩))
  go_ret2
  exact ⟨rfl, B0.trans (hb1.mono B0.size)⟩
set_option maxHeartbeats 4000000 in
theorem val7 (b0 b1 b2 b3 b4 b5 b6 b7 b8 b9 b10 b11 : UInt8) (n : Int) (hn : decide ((0 : Int) ≤ n) = false) (A : Option Addr) (m c : Nat) (w : World) (hok : Rd 118 (.agg #[.int .u8 7, .slice A m c]) w (.tuple #[idV b0 b1 b2 b3 b4 b5 b6 b7 b8 b9 b10 b11, .bool true])) (q : ByteArray) (hs : q.size ≤ 1000) (hq : Rd 119 (idV b0 b1 b2 b3 b4 b5 b6 b7 b8 b9 b10 b11) w (.string q)) : Rd2 78 (.agg #[.int .u8 7, .slice A m c]) (.int .i64 n) w (.tuple #[.string (⟨#[123, 34, 36, 111, 105, 100, 34, 58, 34]⟩ ++ q ++ ⟨#[34, 125]⟩), .bool false]) := by
  intro W hW
  unfold idV at hok hq
  have HOK := Lib.hid (hok.lat hW)
  have HQ := Lib.hid (hq.lat hW)
  clear hW hok hq
  go_enter Tryz.func78, Tryz.ntmps78
  go_wp2_with (first | (go_at_call 118; refine (HOK.out _ (below_al W _)).mono ?_; rintro e w0 ⟨rfl, hb0⟩; have B0 : Below W.heap.size W w0 := (below_al W _).trans (hb0.mono (below_al W _).size)) | (go_at_call 119; refine (HQ.out _ (B0.trans ((below_al w0 _).mono B0.size))).mono ?_; rintro e w1 ⟨rfl, hb1⟩; have B1 := (B0.trans ((below_al w0 _).mono B0.size)).trans (hb1.mono (B0.trans ((below_al w0 _).mono B0.size)).size)))
  go_ret2
  exact ⟨rfl, B1⟩
set_option maxHeartbeats 4000000 in
theorem val12 (b0 b1 b2 b3 b4 b5 b6 b7 b8 b9 b10 b11 : UInt8) (n : Int) (hn : decide ((0 : Int) ≤ n) = false) (A : Option Addr) (m c : Nat) (s : ByteArray) (w : World) (hok : Rd 125 (.agg #[.int .u8 12, .slice A m c]) w (.tuple #[.string s, idV b0 b1 b2 b3 b4 b5 b6 b7 b8 b9 b10 b11, .bool true])) (q : ByteArray) (hs : q.size ≤ 1000) (hq : Rd 119 (idV b0 b1 b2 b3 b4 b5 b6 b7 b8 b9 b10 b11) w (.string q)) (u : ByteArray) (hu : u.size ≤ 100000) (hu2 : Rd 110 (.string s) w (.string u)) : Rd2 78 (.agg #[.int .u8 12, .slice A m c]) (.int .i64 n) w (.tuple #[.string (⟨#[123, 34, 36, 100, 98, 80, 111, 105, 110, 116, 101, 114, 34, 58, 123, 34, 36, 114, 101, 102, 34, 58]⟩ ++ u ++ ⟨#[44, 34, 36, 105, 100, 34, 58, 123, 34, 36, 111, 105, 100, 34, 58, 34]⟩ ++ q ++ ⟨#[34, 125, 125, 125]⟩), .bool false]) := by
  intro W hW
  unfold idV at hok hq
  have HOK := Lib.hid (hok.lat hW)
  have HQ := Lib.hid (hq.lat hW)
  have HU := Lib.hid (hu2.lat hW)
  obtain ⟨z, hzz⟩ : ∃ z, ⟨#[123, 34, 36, 100, 98, 80, 111, 105, 110, 116, 101, 114, 34, 58, 123, 34, 36, 114, 101, 102, 34, 58]⟩ ++ u ++ ⟨#[44, 34, 36, 105, 100, 34, 58, 123, 34, 36, 111, 105, 100, 34, 58, 34]⟩ ++ q ++ ⟨#[34, 125, 125, 125]⟩ = z := ⟨_, rfl⟩
  have hzs : z.size ≤ 1000000 := by rw [← hzz]; simp only [ByteArray.size_append]; have : (⟨#[123, 34, 36, 100, 98, 80, 111, 105, 110, 116, 101, 114, 34, 58, 123, 34, 36, 114, 101, 102, 34, 58]⟩ : ByteArray).size = 22 := rfl; have : (⟨#[44, 34, 36, 105, 100, 34, 58, 123, 34, 36, 111, 105, 100, 34, 58, 34]⟩ : ByteArray).size = 16 := rfl; have : (⟨#[34, 125, 125, 125]⟩ : ByteArray).size = 4 := rfl; omega
  rw [hzz]
  have HZ := Lib.hid hzz
  clear hW hok hq hu2 hzz
  go_enter Tryz.func78, Tryz.ntmps78
  go_wp2_with (first | (go_at_call 125; refine (HOK.out _ (below_al W _)).mono ?_; rintro e w0 ⟨rfl, hb0⟩; have B0 : Below W.heap.size W w0 := (below_al W _).trans (hb0.mono (below_al W _).size)))
  have pk := heap_alloc_new w0 (.cells #[.int .u8 (b0.toNat : Int), .int .u8 (b1.toNat : Int), .int .u8 (b2.toNat : Int), .int .u8 (b3.toNat : Int), .int .u8 (b4.toNat : Int), .int .u8 (b5.toNat : Int), .int .u8 (b6.toNat : Int), .int .u8 (b7.toNat : Int), .int .u8 (b8.toNat : Int), .int .u8 (b9.toNat : Int), .int .u8 (b10.toNat : Int), .int .u8 (b11.toNat : Int)] 165)
  have hv : Below w0.heap.size w0 (w0.alloc (.cells #[.int .u8 (b0.toNat : Int), .int .u8 (b1.toNat : Int), .int .u8 (b2.toNat : Int), .int .u8 (b3.toNat : Int), .int .u8 (b4.toNat : Int), .int .u8 (b5.toNat : Int), .int .u8 (b6.toNat : Int), .int .u8 (b7.toNat : Int), .int .u8 (b8.toNat : Int), .int .u8 (b9.toNat : Int), .int .u8 (b10.toNat : Int), .int .u8 (b11.toNat : Int)] 165)) := below_al w0 _
  obtain ⟨V, hV⟩ : ∃ V, w0.alloc (.cells #[.int .u8 (b0.toNat : Int), .int .u8 (b1.toNat : Int), .int .u8 (b2.toNat : Int), .int .u8 (b3.toNat : Int), .int .u8 (b4.toNat : Int), .int .u8 (b5.toNat : Int), .int .u8 (b6.toNat : Int), .int .u8 (b7.toNat : Int), .int .u8 (b8.toNat : Int), .int .u8 (b9.toNat : Int), .int .u8 (b10.toNat : Int), .int .u8 (b11.toNat : Int)] 165) = V := ⟨_, rfl⟩
  rw [hV] at pk hv ⊢
  have HPK := Lib.hid (fun (X : World) (hX : Below V.heap.size V X) => (hX.block w0.heap.size (by rw [← hV]; simp)).trans pk)
  have HV := Lib.hid (B0.trans (hv.mono B0.size))
  clear pk hv hV B0 hb0
  refine wp_region_quiet_cls (C := fun X => Below V.heap.size V X) (by kernel_rfl) (by kernel_rfl) (below_q (Below.refl _ _) 1) ?_
  refine quiet_val (.string s) (by kernel_rfl) (fun X hX => by go_simp) ?_
  refine quiet_enter (.string u) 110 #[.string s] (by kernel_rfl) (fun X hX => by go_simp) (fun X hX => (HU.out X (HV.out.trans (hX.mono HV.out.size))).mono fun e X2 ⟨q1, q2⟩ => ⟨q1, hX.trans (q2.mono hX.size)⟩) ?_
  refine quiet_val (.string (⟨#[123, 34, 36, 100, 98, 80, 111, 105, 110, 116, 101, 114, 34, 58, 123, 34, 36, 114, 101, 102, 34, 58]⟩ ++ u)) (by kernel_rfl) (fun X hX => by go_simp; omega) ?_
  refine quiet_val (.string (⟨#[123, 34, 36, 100, 98, 80, 111, 105, 110, 116, 101, 114, 34, 58, 123, 34, 36, 114, 101, 102, 34, 58]⟩ ++ u ++ ⟨#[44, 34, 36, 105, 100, 34, 58, 123, 34, 36, 111, 105, 100, 34, 58, 34]⟩)) (by kernel_rfl) (fun X hX => by go_simp; omega) ?_
  refine quiet_val (.agg #[.int .u8 (b0.toNat : Int), .int .u8 (b1.toNat : Int), .int .u8 (b2.toNat : Int), .int .u8 (b3.toNat : Int), .int .u8 (b4.toNat : Int), .int .u8 (b5.toNat : Int), .int .u8 (b6.toNat : Int), .int .u8 (b7.toNat : Int), .int .u8 (b8.toNat : Int), .int .u8 (b9.toNat : Int), .int .u8 (b10.toNat : Int), .int .u8 (b11.toNat : Int)]) (by kernel_rfl) (fun X hX => by have hk := HPK.out X hX; have c0 : X.cell? ⟨w0.heap.size, 0, none⟩ = some (.int .u8 (b0.toNat : Int)) := (by rw [blk_cell hk]; rfl); have c1 : X.cell? ⟨w0.heap.size, 1, none⟩ = some (.int .u8 (b1.toNat : Int)) := (by rw [blk_cell hk]; rfl); have c2 : X.cell? ⟨w0.heap.size, 2, none⟩ = some (.int .u8 (b2.toNat : Int)) := (by rw [blk_cell hk]; rfl); have c3 : X.cell? ⟨w0.heap.size, 3, none⟩ = some (.int .u8 (b3.toNat : Int)) := (by rw [blk_cell hk]; rfl); have c4 : X.cell? ⟨w0.heap.size, 4, none⟩ = some (.int .u8 (b4.toNat : Int)) := (by rw [blk_cell hk]; rfl); have c5 : X.cell? ⟨w0.heap.size, 5, none⟩ = some (.int .u8 (b5.toNat : Int)) := (by rw [blk_cell hk]; rfl); have c6 : X.cell? ⟨w0.heap.size, 6, none⟩ = some (.int .u8 (b6.toNat : Int)) := (by rw [blk_cell hk]; rfl); have c7 : X.cell? ⟨w0.heap.size, 7, none⟩ = some (.int .u8 (b7.toNat : Int)) := (by rw [blk_cell hk]; rfl); have c8 : X.cell? ⟨w0.heap.size, 8, none⟩ = some (.int .u8 (b8.toNat : Int)) := (by rw [blk_cell hk]; rfl); have c9 : X.cell? ⟨w0.heap.size, 9, none⟩ = some (.int .u8 (b9.toNat : Int)) := (by rw [blk_cell hk]; rfl); have c10 : X.cell? ⟨w0.heap.size, 10, none⟩ = some (.int .u8 (b10.toNat : Int)) := (by rw [blk_cell hk]; rfl); have c11 : X.cell? ⟨w0.heap.size, 11, none⟩ = some (.int .u8 (b11.toNat : Int)) := (by rw [blk_cell hk]; rfl); go_simp) ?_
  refine quiet_enter (.string q) 119 #[.agg #[.int .u8 (b0.toNat : Int), .int .u8 (b1.toNat : Int), .int .u8 (b2.toNat : Int), .int .u8 (b3.toNat : Int), .int .u8 (b4.toNat : Int), .int .u8 (b5.toNat : Int), .int .u8 (b6.toNat : Int), .int .u8 (b7.toNat : Int), .int .u8 (b8.toNat : Int), .int .u8 (b9.toNat : Int), .int .u8 (b10.toNat : Int), .int .u8 (b11.toNat : Int)]] (by kernel_rfl) (fun X hX => by go_simp) (fun X hX => (HQ.out X (HV.out.trans (hX.mono HV.out.size))).mono fun e X2 ⟨q1, q2⟩ => ⟨q1, hX.trans (q2.mono hX.size)⟩) ?_
  refine quiet_val (.string (⟨#[123, 34, 36, 100, 98, 80, 111, 105, 110, 116, 101, 114, 34, 58, 123, 34, 36, 114, 101, 102, 34, 58]⟩ ++ u ++ ⟨#[44, 34, 36, 105, 100, 34, 58, 123, 34, 36, 111, 105, 100, 34, 58, 34]⟩ ++ q)) (by kernel_rfl) (fun X hX => by go_simp; omega) ?_
  refine quiet_val (.string z) (by kernel_rfl) (fun X hX => by have hz1 := HZ.out; go_simp; omega) ?_
  refine quiet_val (.string z) (by kernel_rfl) (fun X hX => by go_simp) ?_
  refine wpQuiet_nil ?_
  intro X hX
  go_simp
  go_wp2_with fail
  go_ret2
  exact ⟨rfl, HV.out.trans (hX.mono HV.out.size)⟩
theorem valStr (k : Int) (A : Option Addr) (m c : Nat) (w : World) (S : ByteArray) (tr : Bool) (h : Rd2 78 (.agg #[.int .u8 k, .slice A m c]) (.int .i64 (-1)) w (.tuple #[.string S, .bool tr])) : Rd 170 (.agg #[.int .u8 k, .slice A m c]) w (.string S) := by
  intro W hW
  have HC := Lib.hid (h.lat hW)
  clear hW h
  go_enter Tryz.func170, Tryz.ntmps170
  go_wp2_with (go_at_call 78; refine (HC.out _ (below_al W _)).mono ?_; rintro e w1 ⟨rfl, hb1⟩)
  go_ret
  exact ⟨rfl, (below_al W _).trans (hb1.mono (below_al W _).size)⟩
theorem two_cells {w : World} {b : Nat} {x y : Value} {t : TypeId} {fr : Nat × Nat} (h : w.heap[b]? = some (.cells #[x, y] t fr)) : w.cell? ⟨b, 0, none⟩ = some x ∧ w.cell? ⟨b, 1, none⟩ = some y := ⟨by rw [blk_cell h]; rfl, by rw [blk_cell h]; rfl⟩
set_option maxHeartbeats 4000000 in
theorem el_str (g o n c p m : Nat) (kb : UInt8) (t r : List UInt8) (w : World) (hk : (kb.toNat : Int) = 2) (hp : t.length = p) (hp0 : 0 < p) (hpb : p ≤ 1000000) (hn : n = p + 2 + m) (hm : r.length = m) (hc : n < c) (hcb : c ≤ 9223372036854775807) (hmb : m < 2000000000) (h0 : 0 ∉ t) (hr : RD w g o (kb :: (t ++ 0 :: r)))
    (h : VLen 2 m (.slice (some ⟨g, o + (p + 2), none⟩) (n - (p + 2)) (c - (p + 2))) w) (S : ByteArray) (hS : S.size ≤ 1000000000) (x0 : ByteArray) (hok : Rd 109 (.agg #[.int .u8 2, (.slice (some ⟨g, o + (p + 2), none⟩) m (c - (p + 2)))]) w (.tuple #[.string x0, .bool true])) (hs : Rd2 78 (.agg #[.int .u8 2, (.slice (some ⟨g, o + (p + 2), none⟩) m (c - (p + 2)))]) (.int .i64 (-1)) w (.tuple #[.string S, .bool false])) : Rd2 104 (.slice (some ⟨g, o, none⟩) n c) (.int .i64 (-1)) w (.tuple #[.string ⟨([34] ++ t ++ [34, 58, 32] ++ S.data.toList).toArray⟩, .bool false]) := by
  intro W hW
  have hrW := hr.lat hW
  have hix := hp ▸ ix_zero g (o + 1) (n - 1) (c - 1) t r W (by omega) h0 (RD.right (a := [kb]) hrW)
  have c0 : W.cell? ⟨g, o, none⟩ = some (.int .u8 2) := by have := hrW 0 kb rfl; rwa [hk] at this
  have hgW : g < W.heap.size := World.block_lt_of_cell? W _ c0
  have hrt : RD W g (o + 1) t := (RD.right (a := [kb]) (b := t ++ 0 :: r) hrW).left
  obtain ⟨Y, hY⟩ : ∃ Y, W.alloc (.cells #[.pointer none, .slice none 0 0] 118) = Y := ⟨_, rfl⟩
  have hYb : Below W.heap.size W Y := hY ▸ below_al _ _
  have hYs : Y.heap.size = W.heap.size + 1 := by rw [← hY]; simp
  have hsb : SB W.heap.size [] Y := hY ▸ SB.made W
  have HIX := Lib.hid hix
  have HG := Lib.hid hgW
  have HRT := Lib.hid (fun X (hX : Below W.heap.size W X) => hrt.lat hX)
  have HY := Lib.hid hY
  have HYB := Lib.hid hYb
  have HSB := Lib.hid hsb
  have HV := Lib.hid (fun X (hX : Below W.heap.size W X) => readVal g (o + (p + 2)) (n - (p + 2)) (c - (p + 2)) m 2 w (by omega) (by omega) (by omega) hmb h X (hW.trans (hX.mono hW.size)))
  have HOK := Lib.hid (hok.lat hW)
  have HS := Lib.hid (hs.lat hW)
  have HP := Lib.hid hp
  have hn2 : p + 2 + m ≤ n := by omega
  have hd : ((p : Int) == 0) = false := by simp; omega
  clear hr h hW hrW hix hrt hY hYb hYs hsb hgW hk hp hn hm h0 hok hs
  go_enter Tryz.func104, Tryz.ntmps104
  go_upto_region 13 with (go_at_call 167; refine HIX.out.mono ?_; rintro e w0 ⟨rfl, hw0⟩; obtain rfl := hw0)
  rw [HY.out]
  go_wp2_with (first | (go_at_call 74; refine (sb_byte HSB.out 34 34 rfl (by simp)).mono ?_; rintro e w1 ⟨rfl, s1, b1⟩; have B1 := HYB.out.trans b1) | (go_at_call 168; refine (sb_row s1 g (o + 1) p _ t HP.out HG.out (HRT.out w1 B1) (by have := HP.out; simp; omega)).mono ?_; rintro e w2 ⟨rfl, s2, b2⟩; have B2 := B1.trans b2) | (go_at_call 79; refine (sb_text s2 ⟨#[34, 58, 32]⟩ (by have := HP.out; have : (⟨#[34, 58, 32]⟩ : ByteArray).size = 3 := rfl; simp; omega)).mono ?_; rintro e w3 ⟨rfl, s3, b3⟩; have B3 := B2.trans b3) | (go_at_call 169; refine (HV.out _ B3).mono ?_; rintro e w4 ⟨rfl, hb4⟩; have B4 := B3.trans (hb4.mono B3.size)) | (with_reducible show wpList _ _ _ (⟨some 96, _, _, _, _, _⟩ :: _) _ _; refine Hid.out ?_))
  refine Lib.hid ?_
  have s4 := s3.later hb4
  have hpk := heap_alloc_new w4 (.cells #[.int .u8 2, (.slice (some ⟨g, o + (p + 2), none⟩) m (c - (p + 2)))] 126)
  have hv : Below w4.heap.size w4 (w4.alloc (.cells #[.int .u8 2, (.slice (some ⟨g, o + (p + 2), none⟩) m (c - (p + 2)))] 126)) := below_al w4 _
  obtain ⟨V, hV⟩ : ∃ V, w4.alloc (.cells #[.int .u8 2, (.slice (some ⟨g, o + (p + 2), none⟩) m (c - (p + 2)))] 126) = V := ⟨_, rfl⟩
  rw [hV] at hpk hv ⊢
  have hlt : w4.heap.size < V.heap.size := by rw [← hV]; simp
  have HPK := Lib.hid (fun (X : World) (hX : Below V.heap.size V X) => two_cells ((hX.block w4.heap.size hlt).trans hpk))
  have HSV := Lib.hid (s4.later hv)
  have HBV := Lib.hid (B4.trans (hv.mono B4.size))
  obtain ⟨q0, q1⟩ := HPK.out V (Below.refl _ _)
  clear s1 s2 s3 s4 B1 B2 B3 B4 b1 b2 b3 hb4 hpk hv hV hlt HV HSB HRT HIX
  go_wp2_with (first | (go_at_call 109; refine (HOK.out _ (HBV.out.trans (((Below.refl V.heap.size V)).mono HBV.out.size))).mono ?_; rintro e y5 ⟨rfl, hx5⟩; have X5 : Below V.heap.size V y5 := hx5; obtain ⟨u5, v5⟩ := HPK.out y5 X5) | (go_at_call 78; refine (HS.out _ (HBV.out.trans ((X5).mono HBV.out.size))).mono ?_; rintro e y6 ⟨rfl, hx6⟩; have X6 : Below V.heap.size V y6 := X5.trans (hx6.mono X5.size); obtain ⟨u6, v6⟩ := HPK.out y6 X6) | (go_at_call 79; refine (sb_text (HSV.out.later X6) S (by have := HP.out; simp; omega)).mono ?_; rintro e w8 ⟨rfl, s8, b8⟩; have B8 := (HBV.out.trans (X6.mono HBV.out.size)).trans b8) | (go_at_call 80; refine (sb_str s8).mono ?_; rintro e w9 ⟨rfl, b9⟩; have B9 := B8.trans b9))
  go_ret2
  exact ⟨by simp, B9⟩
set_option maxHeartbeats 4000000 in
theorem el_arr (g o n c p m : Nat) (kb : UInt8) (t r : List UInt8) (w : World) (hk : (kb.toNat : Int) = 4) (hp : t.length = p) (hp0 : 0 < p) (hpb : p ≤ 1000000) (hn : n = p + 2 + m) (hm : r.length = m) (hc : n < c) (hcb : c ≤ 9223372036854775807) (hmb : m < 2000000000) (h0 : 0 ∉ t) (hr : RD w g o (kb :: (t ++ 0 :: r)))
    (h : VLen 4 m (.slice (some ⟨g, o + (p + 2), none⟩) (n - (p + 2)) (c - (p + 2))) w) (S : ByteArray) (hS : S.size ≤ 1000000000) (X0 : Option Addr) (n0 c0' : Nat) (hok : Rd 112 (.agg #[.int .u8 4, (.slice (some ⟨g, o + (p + 2), none⟩) m (c - (p + 2)))]) w (.tuple #[.slice X0 n0 c0', .bool true])) (hs : Rd2 51 (.slice X0 n0 c0') (.int .i64 (-1)) w (.tuple #[.string S, .bool false])) : Rd2 104 (.slice (some ⟨g, o, none⟩) n c) (.int .i64 (-1)) w (.tuple #[.string ⟨([34] ++ t ++ [34, 58, 32] ++ S.data.toList).toArray⟩, .bool false]) := by
  intro W hW
  have hrW := hr.lat hW
  have hix := hp ▸ ix_zero g (o + 1) (n - 1) (c - 1) t r W (by omega) h0 (RD.right (a := [kb]) hrW)
  have c0 : W.cell? ⟨g, o, none⟩ = some (.int .u8 4) := by have := hrW 0 kb rfl; rwa [hk] at this
  have hgW : g < W.heap.size := World.block_lt_of_cell? W _ c0
  have hrt : RD W g (o + 1) t := (RD.right (a := [kb]) (b := t ++ 0 :: r) hrW).left
  obtain ⟨Y, hY⟩ : ∃ Y, W.alloc (.cells #[.pointer none, .slice none 0 0] 118) = Y := ⟨_, rfl⟩
  have hYb : Below W.heap.size W Y := hY ▸ below_al _ _
  have hYs : Y.heap.size = W.heap.size + 1 := by rw [← hY]; simp
  have hsb : SB W.heap.size [] Y := hY ▸ SB.made W
  have HIX := Lib.hid hix
  have HG := Lib.hid hgW
  have HRT := Lib.hid (fun X (hX : Below W.heap.size W X) => hrt.lat hX)
  have HY := Lib.hid hY
  have HYB := Lib.hid hYb
  have HSB := Lib.hid hsb
  have HV := Lib.hid (fun X (hX : Below W.heap.size W X) => readVal g (o + (p + 2)) (n - (p + 2)) (c - (p + 2)) m 4 w (by omega) (by omega) (by omega) hmb h X (hW.trans (hX.mono hW.size)))
  have HNO := Lib.hid (no109 4 (by decide) (some ⟨g, o + (p + 2), none⟩) m (c - (p + 2)) W)
  have HOK := Lib.hid (hok.lat hW)
  have HS := Lib.hid (hs.lat hW)
  have HP := Lib.hid hp
  have hn2 : p + 2 + m ≤ n := by omega
  have hd : ((p : Int) == 0) = false := by simp; omega
  clear hr h hW hrW hix hrt hY hYb hYs hsb hgW hk hp hn hm h0 hok hs
  go_enter Tryz.func104, Tryz.ntmps104
  go_upto_region 13 with (go_at_call 167; refine HIX.out.mono ?_; rintro e w0 ⟨rfl, hw0⟩; obtain rfl := hw0)
  rw [HY.out]
  go_wp2_with (first | (go_at_call 74; refine (sb_byte HSB.out 34 34 rfl (by simp)).mono ?_; rintro e w1 ⟨rfl, s1, b1⟩; have B1 := HYB.out.trans b1) | (go_at_call 168; refine (sb_row s1 g (o + 1) p _ t HP.out HG.out (HRT.out w1 B1) (by have := HP.out; simp; omega)).mono ?_; rintro e w2 ⟨rfl, s2, b2⟩; have B2 := B1.trans b2) | (go_at_call 79; refine (sb_text s2 ⟨#[34, 58, 32]⟩ (by have := HP.out; have : (⟨#[34, 58, 32]⟩ : ByteArray).size = 3 := rfl; simp; omega)).mono ?_; rintro e w3 ⟨rfl, s3, b3⟩; have B3 := B2.trans b3) | (go_at_call 169; refine (HV.out _ B3).mono ?_; rintro e w4 ⟨rfl, hb4⟩; have B4 := B3.trans (hb4.mono B3.size)) | (with_reducible show wpList _ _ _ (⟨some 96, _, _, _, _, _⟩ :: _) _ _; refine Hid.out ?_))
  refine Lib.hid ?_
  have s4 := s3.later hb4
  have hpk := heap_alloc_new w4 (.cells #[.int .u8 4, (.slice (some ⟨g, o + (p + 2), none⟩) m (c - (p + 2)))] 126)
  have hv : Below w4.heap.size w4 (w4.alloc (.cells #[.int .u8 4, (.slice (some ⟨g, o + (p + 2), none⟩) m (c - (p + 2)))] 126)) := below_al w4 _
  obtain ⟨V, hV⟩ : ∃ V, w4.alloc (.cells #[.int .u8 4, (.slice (some ⟨g, o + (p + 2), none⟩) m (c - (p + 2)))] 126) = V := ⟨_, rfl⟩
  rw [hV] at hpk hv ⊢
  have hlt : w4.heap.size < V.heap.size := by rw [← hV]; simp
  have HPK := Lib.hid (fun (X : World) (hX : Below V.heap.size V X) => two_cells ((hX.block w4.heap.size hlt).trans hpk))
  have HSV := Lib.hid (s4.later hv)
  have HBV := Lib.hid (B4.trans (hv.mono B4.size))
  obtain ⟨q0, q1⟩ := HPK.out V (Below.refl _ _)
  clear s1 s2 s3 s4 B1 B2 B3 B4 b1 b2 b3 hb4 hpk hv hV hlt HV HSB HRT HIX
  go_wp2_with (first | (go_at_call 109; refine (HNO.out _ (HBV.out.trans (((Below.refl V.heap.size V)).mono HBV.out.size))).mono ?_; rintro e y5 ⟨rfl, hx5⟩; have X5 : Below V.heap.size V y5 := hx5; obtain ⟨u5, v5⟩ := HPK.out y5 X5) | (go_at_call 112; refine (HOK.out _ (HBV.out.trans ((X5).mono HBV.out.size))).mono ?_; rintro e y6 ⟨rfl, hx6⟩; have X6 : Below V.heap.size V y6 := X5.trans (hx6.mono X5.size); obtain ⟨u6, v6⟩ := HPK.out y6 X6) | (go_at_call 51; refine (HS.out _ (HBV.out.trans ((X6).mono HBV.out.size))).mono ?_; rintro e y7 ⟨rfl, hx7⟩; have X7 : Below V.heap.size V y7 := X6.trans (hx7.mono X6.size); obtain ⟨u7, v7⟩ := HPK.out y7 X7) | (go_at_call 79; refine (sb_text (HSV.out.later X7) S (by have := HP.out; simp; omega)).mono ?_; rintro e w8 ⟨rfl, s8, b8⟩; have B8 := (HBV.out.trans (X7.mono HBV.out.size)).trans b8) | (go_at_call 80; refine (sb_str s8).mono ?_; rintro e w9 ⟨rfl, b9⟩; have B9 := B8.trans b9))
  go_ret2
  exact ⟨by simp, B9⟩
set_option maxHeartbeats 4000000 in
theorem el_other (g o n c p m : Nat) (k : Int) (hk2 : (k != 2) = true) (hk4 : (k != 4) = true) (kb : UInt8) (t r : List UInt8) (w : World) (hk : (kb.toNat : Int) = k) (hp : t.length = p) (hp0 : 0 < p) (hpb : p ≤ 1000000) (hn : n = p + 2 + m) (hm : r.length = m) (hc : n < c) (hcb : c ≤ 9223372036854775807) (hmb : m < 2000000000) (h0 : 0 ∉ t) (hr : RD w g o (kb :: (t ++ 0 :: r)))
    (h : VLen k m (.slice (some ⟨g, o + (p + 2), none⟩) (n - (p + 2)) (c - (p + 2))) w) (S : ByteArray) (hS : S.size ≤ 1000000000) (hs : Rd 170 (.agg #[.int .u8 k, (.slice (some ⟨g, o + (p + 2), none⟩) m (c - (p + 2)))]) w (.string S)) : Rd2 104 (.slice (some ⟨g, o, none⟩) n c) (.int .i64 (-1)) w (.tuple #[.string ⟨([34] ++ t ++ [34, 58, 32] ++ S.data.toList).toArray⟩, .bool false]) := by
  intro W hW
  have hrW := hr.lat hW
  have hix := hp ▸ ix_zero g (o + 1) (n - 1) (c - 1) t r W (by omega) h0 (RD.right (a := [kb]) hrW)
  have c0 : W.cell? ⟨g, o, none⟩ = some (.int .u8 k) := by have := hrW 0 kb rfl; rwa [hk] at this
  have hgW : g < W.heap.size := World.block_lt_of_cell? W _ c0
  have hrt : RD W g (o + 1) t := (RD.right (a := [kb]) (b := t ++ 0 :: r) hrW).left
  obtain ⟨Y, hY⟩ : ∃ Y, W.alloc (.cells #[.pointer none, .slice none 0 0] 118) = Y := ⟨_, rfl⟩
  have hYb : Below W.heap.size W Y := hY ▸ below_al _ _
  have hYs : Y.heap.size = W.heap.size + 1 := by rw [← hY]; simp
  have hsb : SB W.heap.size [] Y := hY ▸ SB.made W
  have HIX := Lib.hid hix
  have HG := Lib.hid hgW
  have HRT := Lib.hid (fun X (hX : Below W.heap.size W X) => hrt.lat hX)
  have HY := Lib.hid hY
  have HYB := Lib.hid hYb
  have HSB := Lib.hid hsb
  have HV := Lib.hid (fun X (hX : Below W.heap.size W X) => readVal g (o + (p + 2)) (n - (p + 2)) (c - (p + 2)) m k w (by omega) (by omega) (by omega) hmb h X (hW.trans (hX.mono hW.size)))
  have HNO := Lib.hid (no109 k hk2 (some ⟨g, o + (p + 2), none⟩) m (c - (p + 2)) W)
  have HNA := Lib.hid (no112 k hk4 (some ⟨g, o + (p + 2), none⟩) m (c - (p + 2)) W)
  have HS := Lib.hid (hs.lat hW)
  have HP := Lib.hid hp
  have hn2 : p + 2 + m ≤ n := by omega
  have hd : ((p : Int) == 0) = false := by simp; omega
  clear hr h hW hrW hix hrt hY hYb hYs hsb hgW hk hp hn hm h0 hs
  go_enter Tryz.func104, Tryz.ntmps104
  go_upto_region 13 with (go_at_call 167; refine HIX.out.mono ?_; rintro e w0 ⟨rfl, hw0⟩; obtain rfl := hw0)
  rw [HY.out]
  go_wp2_with (first | (go_at_call 74; refine (sb_byte HSB.out 34 34 rfl (by simp)).mono ?_; rintro e w1 ⟨rfl, s1, b1⟩; have B1 := HYB.out.trans b1) | (go_at_call 168; refine (sb_row s1 g (o + 1) p _ t HP.out HG.out (HRT.out w1 B1) (by have := HP.out; simp; omega)).mono ?_; rintro e w2 ⟨rfl, s2, b2⟩; have B2 := B1.trans b2) | (go_at_call 79; refine (sb_text s2 ⟨#[34, 58, 32]⟩ (by have := HP.out; have : (⟨#[34, 58, 32]⟩ : ByteArray).size = 3 := rfl; simp; omega)).mono ?_; rintro e w3 ⟨rfl, s3, b3⟩; have B3 := B2.trans b3) | (go_at_call 169; refine (HV.out _ B3).mono ?_; rintro e w4 ⟨rfl, hb4⟩; have B4 := B3.trans (hb4.mono B3.size)) | (with_reducible show wpList _ _ _ (⟨some 96, _, _, _, _, _⟩ :: _) _ _; refine Hid.out ?_))
  refine Lib.hid ?_
  have s4 := s3.later hb4
  have hpk := heap_alloc_new w4 (.cells #[.int .u8 k, (.slice (some ⟨g, o + (p + 2), none⟩) m (c - (p + 2)))] 126)
  have hv : Below w4.heap.size w4 (w4.alloc (.cells #[.int .u8 k, (.slice (some ⟨g, o + (p + 2), none⟩) m (c - (p + 2)))] 126)) := below_al w4 _
  obtain ⟨V, hV⟩ : ∃ V, w4.alloc (.cells #[.int .u8 k, (.slice (some ⟨g, o + (p + 2), none⟩) m (c - (p + 2)))] 126) = V := ⟨_, rfl⟩
  rw [hV] at hpk hv ⊢
  have hlt : w4.heap.size < V.heap.size := by rw [← hV]; simp
  have HPK := Lib.hid (fun (X : World) (hX : Below V.heap.size V X) => two_cells ((hX.block w4.heap.size hlt).trans hpk))
  have HSV := Lib.hid (s4.later hv)
  have HBV := Lib.hid (B4.trans (hv.mono B4.size))
  obtain ⟨q0, q1⟩ := HPK.out V (Below.refl _ _)
  clear s1 s2 s3 s4 B1 B2 B3 B4 b1 b2 b3 hb4 hpk hv hV hlt HV HSB HRT HIX
  go_wp2_with (first | (go_at_call 109; refine (HNO.out _ (HBV.out.trans (((Below.refl V.heap.size V)).mono HBV.out.size))).mono ?_; rintro e y5 ⟨rfl, hx5⟩; have X5 : Below V.heap.size V y5 := hx5; obtain ⟨u5, v5⟩ := HPK.out y5 X5) | (go_at_call 112; refine (HNA.out _ (HBV.out.trans ((X5).mono HBV.out.size))).mono ?_; rintro e y6 ⟨rfl, hx6⟩; have X6 : Below V.heap.size V y6 := X5.trans (hx6.mono X5.size); obtain ⟨u6, v6⟩ := HPK.out y6 X6) | (go_at_call 170; refine (HS.out _ (HBV.out.trans ((X6).mono HBV.out.size))).mono ?_; rintro e y7 ⟨rfl, hx7⟩; have X7 : Below V.heap.size V y7 := X6.trans (hx7.mono X6.size); obtain ⟨u7, v7⟩ := HPK.out y7 X7) | (go_at_call 79; refine (sb_text (HSV.out.later X7) S (by have := HP.out; simp; omega)).mono ?_; rintro e w8 ⟨rfl, s8, b8⟩; have B8 := (HBV.out.trans (X7.mono HBV.out.size)).trans b8) | (go_at_call 80; refine (sb_str s8).mono ?_; rintro e w9 ⟨rfl, b9⟩; have B9 := B8.trans b9))
  go_ret2
  exact ⟨by simp, B9⟩
/-- Where the elements of a row lie, and what is read off there. -/
structure LEnv (g o n c N : Nat) (pos e : Nat → Nat) (w : World) : Prop where
  p0 : pos 0 = 4
  next : ∀ i, i < N → pos (i + 1) = pos i + e i
  fin : pos N + 1 = n
  le : ∀ i, i < N → pos i + e i + 1 ≤ n
  e1 : ∀ i, i < N → 1 ≤ e i
  rd : ∀ i, i < N → Rd 76 (.slice (some ⟨g, o + pos i, none⟩) (n - pos i) (c - pos i)) w (.tuple #[.slice (some ⟨g, o + pos i, none⟩) (e i) (c - pos i), .slice (some ⟨g, o + pos i + e i, none⟩) (n - pos i - e i) (c - pos i - e i), .bool true])
theorem LEnv.lat {g o n c N : Nat} {pos e : Nat → Nat} {w w2 : World} (h : LEnv g o n c N pos e w) (hb : Below w.heap.size w w2) : LEnv g o n c N pos e w2 := ⟨h.p0, h.next, h.fin, h.le, h.e1, fun i hi => (h.rd i hi).lat hb⟩
theorem next7 {g o n c p e q : Nat} (h : q = p + e) : Value.slice (some ⟨g, o + p + e, none⟩) (n - p - e) (c - p - e) = .slice (some ⟨g, o + q, none⟩) (n - q) (c - q) := by
  subst h
  rw [Nat.add_assoc, Nat.sub_sub, Nat.sub_sub]
/-- One item more, as bytes. -/
theorem items_next (a : UInt8) (L : List (List UInt8)) (k : Nat) (x : List UInt8) (h : L[k]? = some x) : (k = 0 → (a :: sItems (L.take k)) ++ x = a :: sItems (L.take (k + 1))) ∧ (0 < k → (a :: sItems (L.take k)) ++ [44] ++ x = a :: sItems (L.take (k + 1))) := by
  have hn := sItems_next L k x h
  constructor
  · intro hk
    subst hk
    rw [hn]
    simp [sItems]
  · intro hk
    rw [hn, if_neg (by omega)]
    simp
theorem items_len (a : UInt8) (L : List (List UInt8)) (k : Nat) (h : (sItems L).length ≤ 1000000000) : (a :: sItems (L.take k)).length ≤ 1000000001 := by
  have := sItems_take L k
  rw [List.length_cons]; omega
set_option maxHeartbeats 4000000 in
theorem docN (g o n c N : Nat) (pos e : Nat → Nat) (TL : List (List UInt8)) (T : Nat → ByteArray) (w : World) (hn : 5 ≤ n) (hnb : n ≤ 1000000000) (hc : n ≤ c) (hcb : c ≤ 9223372036854775807) (hN : TL.length = N) (hTL : (sItems TL).length ≤ 1000000000) (hT : ∀ i, i < N → TL[i]? = some (T i).data.toList) (hTs : ∀ i, i < N → (T i).size ≤ 1000000000)
    (E : LEnv g o n c N pos e w) (hlen : Rd 73 (.slice (some ⟨g, o, none⟩) n c) w (.tuple #[.int .i32 (n : Int), .slice (some ⟨g, o + 4, none⟩) (n - 4) (c - 4), .bool true])) (hst : ∀ i, i < N → Rd2 104 (.slice (some ⟨g, o + pos i, none⟩) (e i) (c - pos i)) (.int .i64 (-1)) w (.tuple #[.string (T i), .bool false])) :
    Rd2 72 (.slice (some ⟨g, o, none⟩) n c) (.int .i64 (-1)) w (.tuple #[.string ⟨([123] ++ sItems TL ++ [125]).toArray⟩, .bool false]) := by
  intro W hW
  have HE := Lib.hid (E.lat hW)
  have HL := Lib.hid (hlen W hW)
  have HSTT := Lib.hid (fun i hi => (hst i hi).lat hW)
  have HN := Lib.hid hN
  have HTL := Lib.hid hTL
  have HT := Lib.hid hT
  have HTS := Lib.hid hTs
  clear E hlen hN hTL hT hTs hst hW
  go_enter Tryz.func72, Tryz.ntmps72
  go_upto_region 8 with (go_at_call 73; refine HL.out.mono ?_; rintro e0 W1 ⟨rfl, hb0⟩)
  have HB0 := Lib.hid hb0
  obtain ⟨Y, hY⟩ : ∃ Y, W1.alloc (.cells #[.pointer none, .slice none 0 0] 118) = Y := ⟨_, rfl⟩
  have hYb : Below W1.heap.size W1 Y := hY ▸ below_al _ _
  have hsb : SB W1.heap.size [] Y := hY ▸ SB.made W1
  have HY := Lib.hid hY
  have HWY := Lib.hid (hb0.trans (hYb.mono hb0.size))
  have HWS := Lib.hid hb0.size
  have HSB := Lib.hid hsb
  clear hY hYb hsb hb0
  go_upto_region 9 with fail
  rw [HY.out]
  go_wp2_with (go_at_call 74; refine (sb_byte HSB.out 123 123 rfl (by simp)).mono ?_; rintro e1 w1 ⟨rfl, s1, b1⟩)
  have HS1 := Lib.hid s1
  have HB1 := Lib.hid (HWY.out.trans (b1.mono HWS.out))
  clear s1 b1
  go_loopw [6, 7, 10, 13] (fun s6 s7 s10 s13 wr => ∃ k : Nat, k ≤ N ∧ s6 = .int .i32 ((n : Int) - 1 - (pos k : Int)) ∧ s7 = .slice (some ⟨g, o + pos k, none⟩) (n - pos k) (c - pos k) ∧ s10 = .bool false ∧ s13 = .bool (k == 0) ∧ pos k + 1 ≤ n ∧ Hid (SB W1.heap.size (123 :: sItems (TL.take k)) wr) ∧ Hid (Below W.heap.size W wr)) (fun s6 _ _ _ _ => (intOf s6).toNat)
  case atStart =>
    refine ⟨0, Nat.zero_le _, ?_, ?_, rfl, rfl, by rw [HE.out.p0]; omega, HS1.out, HB1.out⟩
    · rw [HE.out.p0]; go_num
    · rw [HE.out.p0]
  case round =>
    obtain ⟨k, hk, rfl, rfl, rfl, rfl, hsn, HS, HR⟩ := hrel
    by_cases hlt : k < N
    · have hle := HE.out.le k hlt
      have he1 := HE.out.e1 k hlt
      have HNX := Lib.hid (HE.out.next k hlt)
      have HRD := Lib.hid (HE.out.rd k hlt)
      have HST := Lib.hid (HSTT.out k hlt)
      have HIN := Lib.hid (items_next 123 TL k _ (HT.out k hlt))
      have HTZ := Lib.hid (HTS.out k hlt)
      obtain ⟨p, hp⟩ : ∃ p, pos k = p := ⟨_, rfl⟩
      obtain ⟨ek, hek⟩ : ∃ p, e k = p := ⟨_, rfl⟩
      obtain ⟨Tk, hTk⟩ : ∃ p, T k = p := ⟨_, rfl⟩
      simp only [hp, hek, hTk] at HRD HST HNX HIN HTZ hle he1 hsn ⊢
      have hf : decide ((0 : Int) < (n : Int) - 1 - (p : Int)) = true := decide_eq_true (by omega)
      have hf2 : decide ((n : Int) - 1 - (p : Int) - (ek : Int) < 0) = false := by simp; omega
      have HPP := Lib.hid hp
      clear hp hek hTk
      by_cases hk0 : k = 0
      · have hz : (k == 0) = true := by simp [hk0]
        have HK0 := Lib.hid hk0
        clear hk0
        go_wp2_with (first | (go_at_call 76; refine (HRD.out wr HR.out).mono ?_; rintro e1 w1 ⟨rfl, hb1⟩; have B1 := HR.out.trans (hb1.mono HR.out.size)) | (go_at_call 104; refine (HST.out w1 B1).mono ?_; rintro e2 w2 ⟨rfl, bE⟩; have BE := B1.trans (bE.mono B1.size)) | (go_at_call 79; refine (sb_text ((HS.out.later hb1).later bE) Tk (by have := items_len 123 TL k HTL.out; have := HTZ.out; omega)).mono ?_; rintro e3 w3 ⟨rfl, s3, b3⟩; have HS3 := Lib.hid s3; have HB3 := Lib.hid (BE.trans (b3.mono (Nat.le_trans HWS.out (Nat.le_refl _)))); clear s3 b3 hb1 B1 bE BE))
        refine ⟨⟨k + 1, by omega, by rw [HNX.out]; go_num, next7 HNX.out, rfl, by simp, by rw [HNX.out]; omega, by rw [← HIN.out.1 HK0.out]; exact HS3.out, HB3.out⟩, ?_⟩
        simp [intOf]; omega
      · have hz : (k == 0) = false := by simp [hk0]
        have HK0 := Lib.hid hk0
        clear hk0
        go_wp2_with (first | (go_at_call 74; refine (sb_byte HS.out 44 44 rfl (by have := items_len 123 TL k HTL.out; omega)).mono ?_; rintro e0 w0 ⟨rfl, s0, b0⟩; have B0 := HR.out.trans (b0.mono HWS.out)) | (go_at_call 76; refine (HRD.out w0 B0).mono ?_; rintro e1 w1 ⟨rfl, hb1⟩; have B1 := B0.trans (hb1.mono B0.size)) | (go_at_call 104; refine (HST.out w1 B1).mono ?_; rintro e2 w2 ⟨rfl, bE⟩; have BE := B1.trans (bE.mono B1.size)) | (go_at_call 79; refine (sb_text ((s0.later hb1).later bE) Tk (by have h1 := items_len 123 TL k HTL.out; have h2 := HTZ.out; simp only [List.length_append, List.length_cons, List.length_nil] at h1 ⊢; omega)).mono ?_; rintro e3 w3 ⟨rfl, s3, b3⟩; have HS3 := Lib.hid s3; have HB3 := Lib.hid (BE.trans (b3.mono (Nat.le_trans HWS.out (Nat.le_refl _)))); clear s3 b3 hb1 B1 bE BE s0 b0 B0))
        refine ⟨⟨k + 1, by omega, by rw [HNX.out]; go_num, next7 HNX.out, rfl, by simp, by rw [HNX.out]; omega, by rw [← HIN.out.2 (Nat.pos_of_ne_zero HK0.out)]; exact HS3.out, HB3.out⟩, ?_⟩
        simp [intOf]; omega
    · obtain rfl : k = N := by omega
      have hfin := HE.out.fin
      have HTK := Lib.hid (show TL.take k = TL from List.take_of_length_le (Nat.le_of_eq HN.out))
      obtain ⟨p, hp⟩ : ∃ p, pos k = p := ⟨_, rfl⟩
      obtain ⟨bz, hbz⟩ : ∃ b, (k == 0) = b := ⟨_, rfl⟩
      simp only [hp, hbz] at hfin hsn ⊢
      have hge : n ≤ p + 1 := by omega
      have hd : decide ((p : Int) < (n : Int) - 1) = false := by simp; omega
      clear hp hbz hk hlt hfin hsn
      go_wp2_with (first | (go_at_call 74; refine (sb_byte HS.out 125 125 rfl (by have := items_len 123 TL k HTL.out; omega)).mono ?_; rintro e8 w8 ⟨rfl, s8, b8⟩; have B8 := HR.out.trans (b8.mono HWS.out)) | (go_at_call 80; refine (sb_str s8).mono ?_; rintro e9 w9 ⟨rfl, b9⟩; have B9 := B8.trans (b9.mono HWS.out)))
      go_ret2
      exact ⟨by rw [HTK.out]; simp, B9⟩
set_option maxHeartbeats 4000000 in
theorem docOver (g o n c N : Nat) (Ln : Nat) (hLn : n < Ln) (hLb : Ln ≤ 1000000000) (pos e : Nat → Nat) (TL : List (List UInt8)) (T : Nat → ByteArray) (w : World) (hn : 5 ≤ n) (hnb : n ≤ 1000000000) (hc : n ≤ c) (hcb : c ≤ 9223372036854775807) (hN : TL.length = N) (hTL : (sItems TL).length ≤ 1000000000) (hT : ∀ i, i < N → TL[i]? = some (T i).data.toList) (hTs : ∀ i, i < N → (T i).size ≤ 1000000000)
    (E : LEnv g o n c N pos e w) (hlen : Rd 73 (.slice (some ⟨g, o, none⟩) n c) w (.tuple #[.int .i32 (Ln : Int), .slice (some ⟨g, o + 4, none⟩) (n - 4) (c - 4), .bool true])) (hst : ∀ i, i < N → Rd2 104 (.slice (some ⟨g, o + pos i, none⟩) (e i) (c - pos i)) (.int .i64 (-1)) w (.tuple #[.string (T i), .bool false])) (hov : Rd 76 (.slice (some ⟨g, o + pos N, none⟩) (n - pos N) (c - pos N)) w (.tuple #[.slice none 0 0, .slice (some ⟨g, o + pos N, none⟩) (n - pos N) (c - pos N), .bool false])) :
    Rd2 72 (.slice (some ⟨g, o, none⟩) n c) (.int .i64 (-1)) w (.tuple #[.string ⟨#[]⟩, .bool false]) := by
  intro W hW
  have HE := Lib.hid (E.lat hW)
  have HL := Lib.hid (hlen W hW)
  have HSTT := Lib.hid (fun i hi => (hst i hi).lat hW)
  have HOV := Lib.hid (hov.lat hW)
  have HN := Lib.hid hN
  have HTL := Lib.hid hTL
  have HT := Lib.hid hT
  have HTS := Lib.hid hTs
  clear E hlen hN hTL hT hTs hst hov hW
  go_enter Tryz.func72, Tryz.ntmps72
  go_upto_region 8 with (go_at_call 73; refine HL.out.mono ?_; rintro e0 W1 ⟨rfl, hb0⟩)
  have HB0 := Lib.hid hb0
  obtain ⟨Y, hY⟩ : ∃ Y, W1.alloc (.cells #[.pointer none, .slice none 0 0] 118) = Y := ⟨_, rfl⟩
  have hYb : Below W1.heap.size W1 Y := hY ▸ below_al _ _
  have hsb : SB W1.heap.size [] Y := hY ▸ SB.made W1
  have HY := Lib.hid hY
  have HWY := Lib.hid (hb0.trans (hYb.mono hb0.size))
  have HWS := Lib.hid hb0.size
  have HSB := Lib.hid hsb
  clear hY hYb hsb hb0
  go_upto_region 9 with fail
  rw [HY.out]
  go_wp2_with (go_at_call 74; refine (sb_byte HSB.out 123 123 rfl (by simp)).mono ?_; rintro e1 w1 ⟨rfl, s1, b1⟩)
  have HS1 := Lib.hid s1
  have HB1 := Lib.hid (HWY.out.trans (b1.mono HWS.out))
  clear s1 b1
  go_loopw [6, 7, 10, 13] (fun s6 s7 s10 s13 wr => ∃ k : Nat, k ≤ N ∧ s6 = .int .i32 ((Ln : Int) - 1 - (pos k : Int)) ∧ s7 = .slice (some ⟨g, o + pos k, none⟩) (n - pos k) (c - pos k) ∧ s10 = .bool false ∧ s13 = .bool (k == 0) ∧ pos k + 1 ≤ n ∧ Hid (SB W1.heap.size (123 :: sItems (TL.take k)) wr) ∧ Hid (Below W.heap.size W wr)) (fun s6 _ _ _ _ => (intOf s6).toNat)
  case atStart =>
    refine ⟨0, Nat.zero_le _, ?_, ?_, rfl, rfl, by rw [HE.out.p0]; omega, HS1.out, HB1.out⟩
    · rw [HE.out.p0]; go_num
    · rw [HE.out.p0]
  case round =>
    obtain ⟨k, hk, rfl, rfl, rfl, rfl, hsn, HS, HR⟩ := hrel
    by_cases hlt : k < N
    · have hle := HE.out.le k hlt
      have he1 := HE.out.e1 k hlt
      have HNX := Lib.hid (HE.out.next k hlt)
      have HRD := Lib.hid (HE.out.rd k hlt)
      have HST := Lib.hid (HSTT.out k hlt)
      have HIN := Lib.hid (items_next 123 TL k _ (HT.out k hlt))
      have HTZ := Lib.hid (HTS.out k hlt)
      obtain ⟨p, hp⟩ : ∃ p, pos k = p := ⟨_, rfl⟩
      obtain ⟨ek, hek⟩ : ∃ p, e k = p := ⟨_, rfl⟩
      obtain ⟨Tk, hTk⟩ : ∃ p, T k = p := ⟨_, rfl⟩
      simp only [hp, hek, hTk] at HRD HST HNX HIN HTZ hle he1 hsn ⊢
      have hf : decide ((0 : Int) < (Ln : Int) - 1 - (p : Int)) = true := decide_eq_true (by omega)
      have hf2 : decide ((Ln : Int) - 1 - (p : Int) - (ek : Int) < 0) = false := by simp; omega
      have HPP := Lib.hid hp
      clear hp hek hTk
      by_cases hk0 : k = 0
      · have hz : (k == 0) = true := by simp [hk0]
        have HK0 := Lib.hid hk0
        clear hk0
        go_wp2_with (first | (go_at_call 76; refine (HRD.out wr HR.out).mono ?_; rintro e1 w1 ⟨rfl, hb1⟩; have B1 := HR.out.trans (hb1.mono HR.out.size)) | (go_at_call 104; refine (HST.out w1 B1).mono ?_; rintro e2 w2 ⟨rfl, bE⟩; have BE := B1.trans (bE.mono B1.size)) | (go_at_call 79; refine (sb_text ((HS.out.later hb1).later bE) Tk (by have := items_len 123 TL k HTL.out; have := HTZ.out; omega)).mono ?_; rintro e3 w3 ⟨rfl, s3, b3⟩; have HS3 := Lib.hid s3; have HB3 := Lib.hid (BE.trans (b3.mono (Nat.le_trans HWS.out (Nat.le_refl _)))); clear s3 b3 hb1 B1 bE BE))
        refine ⟨⟨k + 1, by omega, by rw [HNX.out]; go_num, next7 HNX.out, rfl, by simp, by rw [HNX.out]; omega, by rw [← HIN.out.1 HK0.out]; exact HS3.out, HB3.out⟩, ?_⟩
        simp [intOf]; omega
      · have hz : (k == 0) = false := by simp [hk0]
        have HK0 := Lib.hid hk0
        clear hk0
        go_wp2_with (first | (go_at_call 74; refine (sb_byte HS.out 44 44 rfl (by have := items_len 123 TL k HTL.out; omega)).mono ?_; rintro e0 w0 ⟨rfl, s0, b0⟩; have B0 := HR.out.trans (b0.mono HWS.out)) | (go_at_call 76; refine (HRD.out w0 B0).mono ?_; rintro e1 w1 ⟨rfl, hb1⟩; have B1 := B0.trans (hb1.mono B0.size)) | (go_at_call 104; refine (HST.out w1 B1).mono ?_; rintro e2 w2 ⟨rfl, bE⟩; have BE := B1.trans (bE.mono B1.size)) | (go_at_call 79; refine (sb_text ((s0.later hb1).later bE) Tk (by have h1 := items_len 123 TL k HTL.out; have h2 := HTZ.out; simp only [List.length_append, List.length_cons, List.length_nil] at h1 ⊢; omega)).mono ?_; rintro e3 w3 ⟨rfl, s3, b3⟩; have HS3 := Lib.hid s3; have HB3 := Lib.hid (BE.trans (b3.mono (Nat.le_trans HWS.out (Nat.le_refl _)))); clear s3 b3 hb1 B1 bE BE s0 b0 B0))
        refine ⟨⟨k + 1, by omega, by rw [HNX.out]; go_num, next7 HNX.out, rfl, by simp, by rw [HNX.out]; omega, by rw [← HIN.out.2 (Nat.pos_of_ne_zero HK0.out)]; exact HS3.out, HB3.out⟩, ?_⟩
        simp [intOf]; omega
    · obtain rfl : k = N := by omega
      have hfin := HE.out.fin
      obtain ⟨p, hp⟩ : ∃ p, pos k = p := ⟨_, rfl⟩
      simp only [hp] at hfin hsn HOV ⊢
      have hge : p + 1 ≤ n := by omega
      have hd : decide ((p : Int) < (Ln : Int) - 1) = true := decide_eq_true (by omega)
      clear hp hlt hfin hsn
      by_cases hk0 : k = 0
      · have hz : (k == 0) = true := by simp [hk0]
        have HK0 := Lib.hid hk0
        clear hk0
        go_wp2_with (go_at_call 76; refine (HOV.out wr HR.out).mono ?_; rintro e1 w1 ⟨rfl, hb1⟩)
        go_ret2
        exact ⟨rfl, HR.out.trans (hb1.mono HR.out.size)⟩
      · have hz : (k == 0) = false := by simp [hk0]
        have HK0 := Lib.hid hk0
        clear hk0
        go_wp2_with (first | (go_at_call 74; refine (sb_byte HS.out 44 44 rfl (by have := items_len 123 TL k HTL.out; omega)).mono ?_; rintro e0 w0 ⟨rfl, s0, b0⟩; have B0 := HR.out.trans (b0.mono HWS.out)) | (go_at_call 76; refine (HOV.out w0 B0).mono ?_; rintro e1 w1 ⟨rfl, hb1⟩))
        go_ret2
        exact ⟨rfl, B0.trans (hb1.mono B0.size)⟩
set_option maxHeartbeats 4000000 in
theorem arrN (g o n c N : Nat) (pos e : Nat → Nat) (TL : List (List UInt8)) (T : Nat → ByteArray) (w : World) (hn : 5 ≤ n) (hnb : n ≤ 1000000000) (hc : n ≤ c) (hcb : c ≤ 9223372036854775807) (hN : TL.length = N) (hTL : (sItems TL).length ≤ 1000000000) (hT : ∀ i, i < N → TL[i]? = some (T i).data.toList) (hTs : ∀ i, i < N → (T i).size ≤ 1000000000)
    (E : LEnv g o n c N pos e w) (hlen : Rd 73 (.slice (some ⟨g, o, none⟩) n c) w (.tuple #[.int .i32 (n : Int), .slice (some ⟨g, o + 4, none⟩) (n - 4) (c - 4), .bool true])) (kd : Nat → Int) (VX : Nat → Option Addr) (vm vc : Nat → Nat) (hst : ∀ i, i < N → Rd 77 (.slice (some ⟨g, o + pos i, none⟩) (e i) (c - pos i)) w (.agg #[.int .u8 (kd i), .slice (VX i) (vm i) (vc i)]) ∧ Rd2 78 (.agg #[.int .u8 (kd i), .slice (VX i) (vm i) (vc i)]) (.int .i64 (-1)) w (.tuple #[.string (T i), .bool false])) :
    Rd2 51 (.slice (some ⟨g, o, none⟩) n c) (.int .i64 (-1)) w (.tuple #[.string ⟨([91] ++ sItems TL ++ [93]).toArray⟩, .bool false]) := by
  intro W hW
  have HE := Lib.hid (E.lat hW)
  have HL := Lib.hid (hlen W hW)
  have HSTT := Lib.hid (fun i hi => And.intro ((hst i hi).1.lat hW) ((hst i hi).2.lat hW))
  have HN := Lib.hid hN
  have HTL := Lib.hid hTL
  have HT := Lib.hid hT
  have HTS := Lib.hid hTs
  clear E hlen hN hTL hT hTs hst hW
  go_enter Tryz.func51, Tryz.ntmps51
  go_upto_region 8 with (go_at_call 73; refine HL.out.mono ?_; rintro e0 W1 ⟨rfl, hb0⟩)
  have HB0 := Lib.hid hb0
  obtain ⟨Y, hY⟩ : ∃ Y, W1.alloc (.cells #[.pointer none, .slice none 0 0] 118) = Y := ⟨_, rfl⟩
  have hYb : Below W1.heap.size W1 Y := hY ▸ below_al _ _
  have hsb : SB W1.heap.size [] Y := hY ▸ SB.made W1
  have HY := Lib.hid hY
  have HWY := Lib.hid (hb0.trans (hYb.mono hb0.size))
  have HWS := Lib.hid hb0.size
  have HSB := Lib.hid hsb
  clear hY hYb hsb hb0
  go_upto_region 9 with fail
  rw [HY.out]
  go_wp2_with (go_at_call 74; refine (sb_byte HSB.out 91 91 rfl (by simp)).mono ?_; rintro e1 w1 ⟨rfl, s1, b1⟩)
  have HS1 := Lib.hid s1
  have HB1 := Lib.hid (HWY.out.trans (b1.mono HWS.out))
  clear s1 b1
  go_loopw [6, 7, 10, 13] (fun s6 s7 s10 s13 wr => ∃ k : Nat, k ≤ N ∧ s6 = .int .i32 ((n : Int) - 1 - (pos k : Int)) ∧ s7 = .slice (some ⟨g, o + pos k, none⟩) (n - pos k) (c - pos k) ∧ s10 = .bool false ∧ s13 = .bool (k == 0) ∧ pos k + 1 ≤ n ∧ Hid (SB W1.heap.size (91 :: sItems (TL.take k)) wr) ∧ Hid (Below W.heap.size W wr)) (fun s6 _ _ _ _ => (intOf s6).toNat)
  case atStart =>
    refine ⟨0, Nat.zero_le _, ?_, ?_, rfl, rfl, by rw [HE.out.p0]; omega, HS1.out, HB1.out⟩
    · rw [HE.out.p0]; go_num
    · rw [HE.out.p0]
  case round =>
    obtain ⟨k, hk, rfl, rfl, rfl, rfl, hsn, HS, HR⟩ := hrel
    by_cases hlt : k < N
    · have hle := HE.out.le k hlt
      have he1 := HE.out.e1 k hlt
      have HNX := Lib.hid (HE.out.next k hlt)
      have HRD := Lib.hid (HE.out.rd k hlt)
      have HST := Lib.hid (HSTT.out k hlt)
      have HIN := Lib.hid (items_next 91 TL k _ (HT.out k hlt))
      have HTZ := Lib.hid (HTS.out k hlt)
      obtain ⟨p, hp⟩ : ∃ p, pos k = p := ⟨_, rfl⟩
      obtain ⟨ek, hek⟩ : ∃ p, e k = p := ⟨_, rfl⟩
      obtain ⟨Tk, hTk⟩ : ∃ p, T k = p := ⟨_, rfl⟩
      simp only [hp, hek, hTk] at HRD HST HNX HIN HTZ hle he1 hsn ⊢
      have hf : decide ((0 : Int) < (n : Int) - 1 - (p : Int)) = true := decide_eq_true (by omega)
      have hf2 : decide ((n : Int) - 1 - (p : Int) - (ek : Int) < 0) = false := by simp; omega
      have HPP := Lib.hid hp
      clear hp hek hTk
      by_cases hk0 : k = 0
      · have hz : (k == 0) = true := by simp [hk0]
        have HK0 := Lib.hid hk0
        clear hk0
        go_wp2_with (first | (go_at_call 76; refine (HRD.out wr HR.out).mono ?_; rintro e1 w1 ⟨rfl, hb1⟩; have B1 := HR.out.trans (hb1.mono HR.out.size)) | (go_at_call 77; refine (HST.out.1 w1 B1).mono ?_; rintro e2 w2 ⟨rfl, bD⟩; have BD := B1.trans (bD.mono B1.size)) | (go_at_call 78; refine (HST.out.2 w2 BD).mono ?_; rintro e2 w4 ⟨rfl, bE0⟩; have bE := bD.trans (bE0.mono bD.size); have BE := B1.trans (bE.mono B1.size); clear bE0 bD BD) | (go_at_call 79; refine (sb_text ((HS.out.later hb1).later bE) Tk (by have := items_len 91 TL k HTL.out; have := HTZ.out; omega)).mono ?_; rintro e3 w3 ⟨rfl, s3, b3⟩; have HS3 := Lib.hid s3; have HB3 := Lib.hid (BE.trans (b3.mono (Nat.le_trans HWS.out (Nat.le_refl _)))); clear s3 b3 hb1 B1 bE BE))
        refine ⟨⟨k + 1, by omega, by rw [HNX.out]; go_num, next7 HNX.out, rfl, by simp, by rw [HNX.out]; omega, by rw [← HIN.out.1 HK0.out]; exact HS3.out, HB3.out⟩, ?_⟩
        simp [intOf]; omega
      · have hz : (k == 0) = false := by simp [hk0]
        have HK0 := Lib.hid hk0
        clear hk0
        go_wp2_with (first | (go_at_call 74; refine (sb_byte HS.out 44 44 rfl (by have := items_len 91 TL k HTL.out; omega)).mono ?_; rintro e0 w0 ⟨rfl, s0, b0⟩; have B0 := HR.out.trans (b0.mono HWS.out)) | (go_at_call 76; refine (HRD.out w0 B0).mono ?_; rintro e1 w1 ⟨rfl, hb1⟩; have B1 := B0.trans (hb1.mono B0.size)) | (go_at_call 77; refine (HST.out.1 w1 B1).mono ?_; rintro e2 w2 ⟨rfl, bD⟩; have BD := B1.trans (bD.mono B1.size)) | (go_at_call 78; refine (HST.out.2 w2 BD).mono ?_; rintro e2 w4 ⟨rfl, bE0⟩; have bE := bD.trans (bE0.mono bD.size); have BE := B1.trans (bE.mono B1.size); clear bE0 bD BD) | (go_at_call 79; refine (sb_text ((s0.later hb1).later bE) Tk (by have h1 := items_len 91 TL k HTL.out; have h2 := HTZ.out; simp only [List.length_append, List.length_cons, List.length_nil] at h1 ⊢; omega)).mono ?_; rintro e3 w3 ⟨rfl, s3, b3⟩; have HS3 := Lib.hid s3; have HB3 := Lib.hid (BE.trans (b3.mono (Nat.le_trans HWS.out (Nat.le_refl _)))); clear s3 b3 hb1 B1 bE BE s0 b0 B0))
        refine ⟨⟨k + 1, by omega, by rw [HNX.out]; go_num, next7 HNX.out, rfl, by simp, by rw [HNX.out]; omega, by rw [← HIN.out.2 (Nat.pos_of_ne_zero HK0.out)]; exact HS3.out, HB3.out⟩, ?_⟩
        simp [intOf]; omega
    · obtain rfl : k = N := by omega
      have hfin := HE.out.fin
      have HTK := Lib.hid (show TL.take k = TL from List.take_of_length_le (Nat.le_of_eq HN.out))
      obtain ⟨p, hp⟩ : ∃ p, pos k = p := ⟨_, rfl⟩
      obtain ⟨bz, hbz⟩ : ∃ b, (k == 0) = b := ⟨_, rfl⟩
      simp only [hp, hbz] at hfin hsn ⊢
      have hge : n ≤ p + 1 := by omega
      have hd : decide ((p : Int) < (n : Int) - 1) = false := by simp; omega
      clear hp hbz hk hlt hfin hsn
      go_wp2_with (first | (go_at_call 74; refine (sb_byte HS.out 93 93 rfl (by have := items_len 91 TL k HTL.out; omega)).mono ?_; rintro e8 w8 ⟨rfl, s8, b8⟩; have B8 := HR.out.trans (b8.mono HWS.out)) | (go_at_call 80; refine (sb_str s8).mono ?_; rintro e9 w9 ⟨rfl, b9⟩; have B9 := B8.trans (b9.mono HWS.out)))
      go_ret2
      exact ⟨by rw [HTK.out]; simp, B9⟩
end Go.Proofs.YtpfkgpcnhdkkbaaGreatDoor
