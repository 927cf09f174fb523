/- Readers of bytes: numbers of 32 bits; no condition but on sizes. -/
import Derived.Test.YtpfkgpcnhdkkbaaGreatDoorABase
import Derived.Handy
import Derived.Laws.BitsLemmas
import Derived.Lib.EndianBits
import Derived.Lib.SlBytesRow
import Derived.Test.YtpfkgpcnhdkkbaaGreatDoorAShelf
import Derived.Test.YtpfkgpcnhdkkbaaGreatDoorAMq
import Derived.Test.YtpfkgpcnhdkkbaaGreatDoorAOb
import Derived.Lib.FrozenHead2
import Derived.Lib.OthersKept
import Derived.Lib.Builder
import Derived.Lib.BufSteps
namespace Go.Proofs.YtpfkgpcnhdkkbaaGreatDoor
set_option maxHeartbeats 8000000
open Go.RowKit
set_option linter.unusedVariables false
set_option linter.unusedSimpArgs false
set_option maxRecDepth 100000
def RD (w : World) (g o : Nat) (l : List UInt8) : Prop := ∀ (j : Nat) (b : UInt8), l[j]? = some b → w.cell? ⟨g, o + j, none⟩ = some (.int .u8 (b.toNat : Int))
theorem RD.at {w : World} {g o : Nat} {l : List UInt8} (h : RD w g o l) (j : Nat) (hj : j < l.length) : w.cell? ⟨g, o + j, none⟩ = some (.int .u8 ((l.getD j 0).toNat : Int)) := by
 rw [List.getD_eq_getElem?_getD, List.getElem?_eq_getElem hj]
 exact h j _ (List.getElem?_eq_getElem hj)
theorem RD.left {w : World} {g o : Nat} {a b : List UInt8} (h : RD w g o (a ++ b)) : RD w g o a := fun j x hx => h j x (by rw [List.getElem?_append_left (List.getElem?_eq_some_iff.1 hx).1]; exact hx)
theorem RD.right {w : World} {g o : Nat} {a b : List UInt8} (h : RD w g o (a ++ b)) : RD w g (o + a.length) b := fun j x hx => by
 rw [show o + a.length + j = o + (a.length + j) from by omega]
 exact h (a.length + j) x (by rw [List.getElem?_append_right (by omega)]; simpa using hx)
theorem RD.lat {w w' : World} {g o : Nat} {l : List UInt8} (h : RD w g o l) (hb : Below w.heap.size w w') : RD w' g o l := fun j x hx => (hb.cell (World.block_lt_of_cell? w _ (h j x hx))).trans (h j x hx)
def s32 (n : Nat) : Int := if n < 2147483648 then (n : Int) else (n : Int) - 4294967296
theorem bv_wrap32 (x : Nat) : BitVec.ofInt 32 (wrap32 (x : Int)) = BitVec.ofNat 32 x := by
 apply BitVec.eq_of_toNat_eq
 simp [BitVec.toNat_ofInt, wrap32]
 omega
theorem or32_hi (v x : Nat) (hv : v < 16777216) (hx : x < 256) : bits .or .i32 (v : Int) (wrap32 ((x : Int) * 16777216)) = s32 (v + x * 16777216) := by
 have e1 : ((x : Int) * 16777216) = ((x * 16777216 : Nat) : Int) := by omega
 have e2 : (BitVec.ofInt 32 (v : Int)) = BitVec.ofNat 32 v := BitVec.ofInt_natCast _ _
 have hor : v ||| x * 16777216 = v + x * 16777216 := by
  have := Nat.two_pow_add_eq_or_of_lt (i := 24) (show v < 2 ^ 24 by omega) x
  rw [show (2 : Nat) ^ 24 = 16777216 from rfl, Nat.mul_comm] at this
  rw [Nat.or_comm, ← this]; omega
 have e3 : (BitVec.ofInt 32 (v : Int) ||| BitVec.ofInt 32 (wrap32 ((x * 16777216 : Nat) : Int))).toNat = v + x * 16777216 := by
  rw [bv_wrap32, e2, BitVec.toNat_or, BitVec.toNat_ofNat, BitVec.toNat_ofNat, Nat.mod_eq_of_lt (show v < 2 ^ 32 by omega), Nat.mod_eq_of_lt (show x * 16777216 < 2 ^ 32 by omega), hor]
 have e4 : bits .or .i32 (v : Int) (wrap32 ((x * 16777216 : Nat) : Int)) = IntKind.i32.wrap (((BitVec.ofInt 32 (v : Int) ||| BitVec.ofInt 32 (wrap32 ((x * 16777216 : Nat) : Int))).toNat : Nat) : Int) := rfl
 rw [e1, e4, e3, IntKind.wrap_i32]
 unfold s32
 split <;> omega
theorem or32_8 (a b : Nat) (ha : a < 256) (hb : b < 256) : bits .or .i32 (a : Int) ((b : Int) * 256) = ((a + b * 256 : Nat) : Int) := by
 rw [bits_join_low .i32 31 (by decide) wraps_i32 8 _ _ (by omega) (by omega) (by omega) (by omega) (by omega) (by omega)]; omega
theorem or32_16 (a b : Nat) (ha : a < 65536) (hb : b < 256) : bits .or .i32 (a : Int) ((b : Int) * 65536) = ((a + b * 65536 : Nat) : Int) := by
 rw [bits_join_low .i32 31 (by decide) wraps_i32 16 _ _ (by omega) (by omega) (by omega) (by omega) (by omega) (by omega)]; omega
theorem below_q {B : Nat} {a w : World} (h : Below B a w) (n : Nat) : Below B a (w.drewN n) := ⟨h.os, h.tape, h.output, h.size, h.block⟩
theorem readI32_b (g o m c : Nat) (b0 b1 b2 b3 : Nat) (w : World) (hm : m ≤ 9223372036854775807) (hc : m ≤ c) (hc0 : 0 < c) (hcb : c ≤ 9223372036854775807) (h0 : b0 < 256) (h1 : b1 < 256) (h2 : b2 < 256) (h3 : b3 < 256)
  (c0 : w.cell? ⟨g, o, none⟩ = some (.int .u8 (b0 : Int))) (c1 : w.cell? ⟨g, o + 1, none⟩ = some (.int .u8 (b1 : Int))) (c2 : w.cell? ⟨g, o + 2, none⟩ = some (.int .u8 (b2 : Int))) (c3 : w.cell? ⟨g, o + 3, none⟩ = some (.int .u8 (b3 : Int))) :
  Calls Tryz.prog 105 #[.slice (some ⟨g, o, none⟩) (4 + m) (4 + c)] w fun e w' => e = .returned (.tuple #[.int .i32 (s32 (b0 + b1 * 256 + b2 * 65536 + b3 * 16777216)), .slice (some ⟨g, o + 4, none⟩) m c, .bool true]) ∧ Below w.heap.size w w' := by
 go_enter Tryz.func105, Tryz.ntmps105
 go_wp2_with fail
 go_quiet (fail)
 rw [or32_8 b0 b1 h0 h1, or32_16 _ b2 (by omega) h2, or32_hi _ b3 (by omega) h3]
 go_wp2_with fail
 go_quiet (fail)
 go_wp2_with fail
 go_ret3
 exact ⟨rfl, below_q (below_q (Below.refl _ _) _) _⟩
set_option maxHeartbeats 8000000
def le32 (n : Nat) : List UInt8 := [UInt8.ofNat n, UInt8.ofNat (n / 256), UInt8.ofNat (n / 65536), UInt8.ofNat (n / 16777216)]
theorem s32_lt {n : Nat} (h : n < 2147483648) : s32 n = (n : Int) := if_pos h
theorem rd32 {w : World} {g o N : Nat} {l : List UInt8} (h : RD w g o (le32 N ++ l)) : w.cell? ⟨g, o, none⟩ = some (.int .u8 ((N % 256 : Nat) : Int)) ∧ w.cell? ⟨g, o + 1, none⟩ = some (.int .u8 ((N / 256 % 256 : Nat) : Int)) ∧ w.cell? ⟨g, o + 2, none⟩ = some (.int .u8 ((N / 65536 % 256 : Nat) : Int)) ∧ w.cell? ⟨g, o + 3, none⟩ = some (.int .u8 ((N / 16777216 % 256 : Nat) : Int)) :=
 ⟨by simpa using h 0 (UInt8.ofNat N) rfl, by simpa using h 1 (UInt8.ofNat (N / 256)) rfl, by simpa using h 2 (UInt8.ofNat (N / 65536)) rfl, by simpa using h 3 (UInt8.ofNat (N / 16777216)) rfl⟩
theorem readI32_any (g o n c N : Nat) (l : List UInt8) (w : World) (hn : n = 4 + l.length) (hc : n < c) (hcb : c ≤ 9223372036854775807) (hN : N < 4294967296) (hr : RD w g o (le32 N ++ l)) :
  Calls Tryz.prog 105 #[.slice (some ⟨g, o, none⟩) n c] w fun e w' => e = .returned (.tuple #[.int .i32 (s32 N), .slice (some ⟨g, o + 4, none⟩) (n - 4) (c - 4), .bool true]) ∧ Below w.heap.size w w' := by
 obtain ⟨c0, c1, c2, c3⟩ := rd32 hr
 have h := readI32_b g o (n - 4) (c - 4) (N % 256) (N / 256 % 256) (N / 65536 % 256) (N / 16777216 % 256) w (by omega) (by omega) (by omega) (by omega) (by omega) (by omega) (by omega) (by omega) c0 c1 c2 c3
 rw [show 4 + (n - 4) = n from by omega, show 4 + (c - 4) = c from by omega, show N % 256 + N / 256 % 256 * 256 + N / 65536 % 256 * 65536 + N / 16777216 % 256 * 16777216 = N from by omega] at h
 exact h
theorem readLen_any (g o n c N : Nat) (l : List UInt8) (w : World) (hn : n = 4 + l.length) (hc : n < c) (hcb : c ≤ 9223372036854775807) (hN : N < 2147483648) (hr : RD w g o (le32 N ++ l)) :
  Calls Tryz.prog 73 #[.slice (some ⟨g, o, none⟩) n c] w fun e w' => e = .returned (.tuple #[.int .i32 (N : Int), .slice (some ⟨g, o + 4, none⟩) (n - 4) (c - 4), .bool true]) ∧ Below w.heap.size w w' := by
 have h := readI32_any g o n c N l w hn hc hcb (by omega) hr
 rw [s32_lt hN] at h
 have HC := LH h
 clear h hr hn
 go_enter Tryz.func73, Tryz.ntmps73
 go_wp2_with (go_at_call 105; refine HC.out.mono ?_; rintro e w1 ⟨rfl, hb1⟩)
 go_ret3
 exact ⟨rfl, hb1⟩
theorem rd_str {w : World} {g o : Nat} (s : ByteArray) (hr : RD w g o s.data.toList) (c : Nat) : (convert 23 9 (.slice (some ⟨g, o, none⟩) s.size c)).run Tryz.prog w = .ok (.string s) w := by
 refine Lib.run_convert_whole (P := Tryz.prog) w 23 5 9 Tryz.underlying23 Tryz.underlying5 Tryz.underlying9 g o s ?_ c
 intro i hi
 have h' : i < s.data.toList.length := by rw [Array.length_toList]; exact hi
 exact hr i _ (List.getElem?_eq_getElem h')
def txB (s : ByteArray) : List UInt8 := le32 (s.size + 1) ++ s.data.toList ++ [0]
theorem readStr_any (g o n c : Nat) (s : ByteArray) (l : List UInt8) (w : World) (hn : n = s.size + 5 + l.length) (hc : n < c) (hcb : c ≤ 9223372036854775807) (hs : s.size ≤ 1000000000) (hr : RD w g o (txB s ++ l)) :
  Calls Tryz.prog 225 #[.slice (some ⟨g, o, none⟩) n c] w fun e w' => e = .returned (.tuple #[.string s, .slice (some ⟨g, o + 4 + (s.size + 1), none⟩) (n - 4 - (s.size + 1)) (c - 4 - (s.size + 1)), .bool true]) ∧ Below w.heap.size w w' := by
 have e1 : s.data.toList.length = s.size := Array.length_toList
 have hr' : RD w g o (le32 (s.size + 1) ++ (s.data.toList ++ ([0] ++ l))) := by simpa [txB] using hr
 have h := readLen_any g o n c (s.size + 1) (s.data.toList ++ ([0] ++ l)) w (by simp only [List.length_append, List.length_cons, List.length_nil]; omega) hc hcb (by omega) hr'
 have hrs : RD w g (o + 4) s.data.toList := hr'.right.left
 have HC := LH h
 have HS := LH (fun (W : World) (hb : Below w.heap.size w W) => rd_str (w := W) s (hrs.lat hb) (c - 4))
 obtain ⟨k, hk⟩ : ∃ k, s.size = k := ⟨_, rfl⟩
 simp only [hk] at HC HS hn hs ⊢
 have hn2 : k + 5 ≤ n := by omega
 have hd : decide (((n - 4 : Nat) : Int) < (k : Int) + 1) = false := by simp; omega
 have hd2 : ((k : Int) + 1 == 0) = false := by simp; omega
 clear h hr hr' hrs e1 hk hn
 go_enter Tryz.func225, Tryz.ntmps225
 go_wp2_with (go_at_call 73; refine HC.out.mono ?_; rintro e w1 ⟨rfl, hb1⟩; have hq := fun q => HS.out (w1.drewN q) (below_q hb1 q))
 go_quiet (fail)
 go_wp2_with fail
 go_ret3
 exact ⟨rfl, below_q hb1 _⟩
theorem below_al (w : World) (x : Obj) : Below w.heap.size w (w.alloc x) := Joins.below_alloc1 _ _
def Rd (f : Nat) (v : Value) (w : World) (r : Value) : Prop := ∀ W, Below w.heap.size w W → Calls Tryz.prog f #[v] W fun e w' => e = .returned r ∧ Below W.heap.size W w'
theorem hand173 (A : Option Addr) (n c : Nat) (x0 : ByteArray) (B1 : Option Addr) (p1 q1 : Nat) (w : World) (h : Rd 225 (.slice A n c) w (.tuple #[.string x0, .slice B1 p1 q1, .bool true])) : Rd 173 (.slice A n c) w (.tuple #[.string x0, .slice B1 p1 q1, .bool true]) := by
 intro W hW
 have HC := LH (h W hW)
 clear h hW
 go_enter Tryz.func173, Tryz.ntmps173
 go_wp2_with (go_at_call 225; refine HC.out.mono ?_; rintro e w1 ⟨rfl, hb1⟩)
 go_ret3
 exact ⟨rfl, hb1⟩
theorem hand189 (A : Option Addr) (n c : Nat) (x0 : ByteArray) (B1 : Option Addr) (p1 q1 : Nat) (w : World) (h : Rd 225 (.slice A n c) w (.tuple #[.string x0, .slice B1 p1 q1, .bool true])) : Rd 189 (.slice A n c) w (.tuple #[.string x0, .slice B1 p1 q1, .bool true]) := by
 intro W hW
 have HC := LH (h W hW)
 clear h hW
 go_enter Tryz.func189, Tryz.ntmps189
 go_wp2_with (go_at_call 225; refine HC.out.mono ?_; rintro e w1 ⟨rfl, hb1⟩)
 go_ret3
 exact ⟨rfl, hb1⟩
theorem hand190 (A : Option Addr) (n c : Nat) (x0 : ByteArray) (B1 : Option Addr) (p1 q1 : Nat) (w : World) (h : Rd 225 (.slice A n c) w (.tuple #[.string x0, .slice B1 p1 q1, .bool true])) : Rd 190 (.slice A n c) w (.tuple #[.string x0, .slice B1 p1 q1, .bool true]) := by
 intro W hW
 have HC := LH (h W hW)
 clear h hW
 go_enter Tryz.func190, Tryz.ntmps190
 go_wp2_with (go_at_call 225; refine HC.out.mono ?_; rintro e w1 ⟨rfl, hb1⟩)
 go_ret3
 exact ⟨rfl, hb1⟩
theorem hand174 (A : Option Addr) (n c : Nat) (B0 : Option Addr) (p0 q0 : Nat) (B1 : Option Addr) (p1 q1 : Nat) (w : World) (h : Rd 226 (.slice A n c) w (.tuple #[.slice B0 p0 q0, .slice B1 p1 q1, .bool true])) : Rd 174 (.slice A n c) w (.tuple #[.slice B0 p0 q0, .slice B1 p1 q1, .bool true]) := by
 intro W hW
 have HC := LH (h W hW)
 clear h hW
 go_enter Tryz.func174, Tryz.ntmps174
 go_wp2_with (go_at_call 226; refine HC.out.mono ?_; rintro e w1 ⟨rfl, hb1⟩)
 go_ret3
 exact ⟨rfl, hb1⟩
theorem hand175 (A : Option Addr) (n c : Nat) (B0 : Option Addr) (p0 q0 : Nat) (B1 : Option Addr) (p1 q1 : Nat) (w : World) (h : Rd 226 (.slice A n c) w (.tuple #[.slice B0 p0 q0, .slice B1 p1 q1, .bool true])) : Rd 175 (.slice A n c) w (.tuple #[.slice B0 p0 q0, .slice B1 p1 q1, .bool true]) := by
 intro W hW
 have HC := LH (h W hW)
 clear h hW
 go_enter Tryz.func175, Tryz.ntmps175
 go_wp2_with (go_at_call 226; refine HC.out.mono ?_; rintro e w1 ⟨rfl, hb1⟩)
 go_ret3
 exact ⟨rfl, hb1⟩
theorem hand185 (A : Option Addr) (n c : Nat) (x0 : Int) (B1 : Option Addr) (p1 q1 : Nat) (w : World) (h : Rd 231 (.slice A n c) w (.tuple #[.int .i64 x0, .slice B1 p1 q1, .bool true])) : Rd 185 (.slice A n c) w (.tuple #[.int .i64 x0, .slice B1 p1 q1, .bool true]) := by
 intro W hW
 have HC := LH (h W hW)
 clear h hW
 go_enter Tryz.func185, Tryz.ntmps185
 go_wp2_with (go_at_call 231; refine HC.out.mono ?_; rintro e w1 ⟨rfl, hb1⟩)
 go_ret3
 exact ⟨rfl, hb1⟩
theorem hand192 (A : Option Addr) (n c : Nat) (x0 : Int) (B1 : Option Addr) (p1 q1 : Nat) (w : World) (h : Rd 105 (.slice A n c) w (.tuple #[.int .i32 x0, .slice B1 p1 q1, .bool true])) : Rd 192 (.slice A n c) w (.tuple #[.int .i32 x0, .slice B1 p1 q1, .bool true]) := by
 intro W hW
 have HC := LH (h W hW)
 clear h hW
 go_enter Tryz.func192, Tryz.ntmps192
 go_wp2_with (go_at_call 105; refine HC.out.mono ?_; rintro e w1 ⟨rfl, hb1⟩)
 go_ret3
 exact ⟨rfl, hb1⟩
theorem hand194 (A : Option Addr) (n c : Nat) (x0 : Int) (B1 : Option Addr) (p1 q1 : Nat) (w : World) (h : Rd 231 (.slice A n c) w (.tuple #[.int .i64 x0, .slice B1 p1 q1, .bool true])) : Rd 194 (.slice A n c) w (.tuple #[.int .i64 x0, .slice B1 p1 q1, .bool true]) := by
 intro W hW
 have HC := LH (h W hW)
 clear h hW
 go_enter Tryz.func194, Tryz.ntmps194
 go_wp2_with (go_at_call 231; refine HC.out.mono ?_; rintro e w1 ⟨rfl, hb1⟩)
 go_ret3
 exact ⟨rfl, hb1⟩
theorem ok109 (A : Option Addr) (n c : Nat) (x0 : ByteArray) (B9 : Option Addr) (p9 q9 : Nat) (w : World) (h : Rd 173 (.slice A n c) w (.tuple #[.string x0, .slice B9 p9 q9, .bool true])) : Rd 109 (.agg #[.int .u8 2, .slice A n c]) w (.tuple #[.string x0, .bool true]) := by
 intro W hW
 have HC := LH (fun (X : World) (hX : Below W.heap.size W X) => h X (hW.trans (hX.mono hW.size)))
 clear h hW
 go_enter Tryz.func109, Tryz.ntmps109
 go_wp2_with (go_at_call 173; refine (HC.out _ (below_al W _)).mono ?_; rintro e w1 ⟨rfl, hb1⟩)
 go_ret2
 exact ⟨rfl, (below_al W _).trans (hb1.mono (below_al W _).size)⟩
theorem ok111 (A : Option Addr) (n c : Nat) (B0 : Option Addr) (p0 q0 : Nat) (B9 : Option Addr) (p9 q9 : Nat) (w : World) (h : Rd 174 (.slice A n c) w (.tuple #[.slice B0 p0 q0, .slice B9 p9 q9, .bool true])) : Rd 111 (.agg #[.int .u8 3, .slice A n c]) w (.tuple #[.slice B0 p0 q0, .bool true]) := by
 intro W hW
 have HC := LH (fun (X : World) (hX : Below W.heap.size W X) => h X (hW.trans (hX.mono hW.size)))
 clear h hW
 go_enter Tryz.func111, Tryz.ntmps111
 go_wp2_with (go_at_call 174; refine (HC.out _ (below_al W _)).mono ?_; rintro e w1 ⟨rfl, hb1⟩)
 go_ret2
 exact ⟨rfl, (below_al W _).trans (hb1.mono (below_al W _).size)⟩
theorem ok112 (A : Option Addr) (n c : Nat) (B0 : Option Addr) (p0 q0 : Nat) (B9 : Option Addr) (p9 q9 : Nat) (w : World) (h : Rd 175 (.slice A n c) w (.tuple #[.slice B0 p0 q0, .slice B9 p9 q9, .bool true])) : Rd 112 (.agg #[.int .u8 4, .slice A n c]) w (.tuple #[.slice B0 p0 q0, .bool true]) := by
 intro W hW
 have HC := LH (fun (X : World) (hX : Below W.heap.size W X) => h X (hW.trans (hX.mono hW.size)))
 clear h hW
 go_enter Tryz.func112, Tryz.ntmps112
 go_wp2_with (go_at_call 175; refine (HC.out _ (below_al W _)).mono ?_; rintro e w1 ⟨rfl, hb1⟩)
 go_ret2
 exact ⟨rfl, (below_al W _).trans (hb1.mono (below_al W _).size)⟩
theorem ok113 (A : Option Addr) (n c : Nat) (x0 : Nat) (B9 : Option Addr) (p9 q9 : Nat) (w : World) (h : Rd 176 (.slice A n c) w (.tuple #[.float .f64 x0, .slice B9 p9 q9, .bool true])) : Rd 113 (.agg #[.int .u8 1, .slice A n c]) w (.tuple #[.float .f64 x0, .bool true]) := by
 intro W hW
 have HC := LH (fun (X : World) (hX : Below W.heap.size W X) => h X (hW.trans (hX.mono hW.size)))
 clear h hW
 go_enter Tryz.func113, Tryz.ntmps113
 go_wp2_with (go_at_call 176; refine (HC.out _ (below_al W _)).mono ?_; rintro e w1 ⟨rfl, hb1⟩)
 go_ret2
 exact ⟨rfl, (below_al W _).trans (hb1.mono (below_al W _).size)⟩
theorem ok120 (A : Option Addr) (n c : Nat) (x0 : Bool) (B9 : Option Addr) (p9 q9 : Nat) (w : World) (h : Rd 183 (.slice A n c) w (.tuple #[.bool x0, .slice B9 p9 q9, .bool true])) : Rd 120 (.agg #[.int .u8 8, .slice A n c]) w (.tuple #[.bool x0, .bool true]) := by
 intro W hW
 have HC := LH (fun (X : World) (hX : Below W.heap.size W X) => h X (hW.trans (hX.mono hW.size)))
 clear h hW
 go_enter Tryz.func120, Tryz.ntmps120
 go_wp2_with (go_at_call 183; refine (HC.out _ (below_al W _)).mono ?_; rintro e w1 ⟨rfl, hb1⟩)
 go_ret2
 exact ⟨rfl, (below_al W _).trans (hb1.mono (below_al W _).size)⟩
theorem ok122 (A : Option Addr) (n c : Nat) (x0 : Int) (B9 : Option Addr) (p9 q9 : Nat) (w : World) (h : Rd 185 (.slice A n c) w (.tuple #[.int .i64 x0, .slice B9 p9 q9, .bool true])) : Rd 122 (.agg #[.int .u8 9, .slice A n c]) w (.tuple #[.int .i64 x0, .bool true]) := by
 intro W hW
 have HC := LH (fun (X : World) (hX : Below W.heap.size W X) => h X (hW.trans (hX.mono hW.size)))
 clear h hW
 go_enter Tryz.func122, Tryz.ntmps122
 go_wp2_with (go_at_call 185; refine (HC.out _ (below_al W _)).mono ?_; rintro e w1 ⟨rfl, hb1⟩)
 go_ret2
 exact ⟨rfl, (below_al W _).trans (hb1.mono (below_al W _).size)⟩
theorem ok126 (A : Option Addr) (n c : Nat) (x0 : ByteArray) (B9 : Option Addr) (p9 q9 : Nat) (w : World) (h : Rd 189 (.slice A n c) w (.tuple #[.string x0, .slice B9 p9 q9, .bool true])) : Rd 126 (.agg #[.int .u8 13, .slice A n c]) w (.tuple #[.string x0, .bool true]) := by
 intro W hW
 have HC := LH (fun (X : World) (hX : Below W.heap.size W X) => h X (hW.trans (hX.mono hW.size)))
 clear h hW
 go_enter Tryz.func126, Tryz.ntmps126
 go_wp2_with (go_at_call 189; refine (HC.out _ (below_al W _)).mono ?_; rintro e w1 ⟨rfl, hb1⟩)
 go_ret2
 exact ⟨rfl, (below_al W _).trans (hb1.mono (below_al W _).size)⟩
theorem ok127 (A : Option Addr) (n c : Nat) (x0 : ByteArray) (B9 : Option Addr) (p9 q9 : Nat) (w : World) (h : Rd 190 (.slice A n c) w (.tuple #[.string x0, .slice B9 p9 q9, .bool true])) : Rd 127 (.agg #[.int .u8 14, .slice A n c]) w (.tuple #[.string x0, .bool true]) := by
 intro W hW
 have HC := LH (fun (X : World) (hX : Below W.heap.size W X) => h X (hW.trans (hX.mono hW.size)))
 clear h hW
 go_enter Tryz.func127, Tryz.ntmps127
 go_wp2_with (go_at_call 190; refine (HC.out _ (below_al W _)).mono ?_; rintro e w1 ⟨rfl, hb1⟩)
 go_ret2
 exact ⟨rfl, (below_al W _).trans (hb1.mono (below_al W _).size)⟩
theorem ok129 (A : Option Addr) (n c : Nat) (x0 : Int) (B9 : Option Addr) (p9 q9 : Nat) (w : World) (h : Rd 192 (.slice A n c) w (.tuple #[.int .i32 x0, .slice B9 p9 q9, .bool true])) : Rd 129 (.agg #[.int .u8 16, .slice A n c]) w (.tuple #[.int .i32 x0, .bool true]) := by
 intro W hW
 have HC := LH (fun (X : World) (hX : Below W.heap.size W X) => h X (hW.trans (hX.mono hW.size)))
 clear h hW
 go_enter Tryz.func129, Tryz.ntmps129
 go_wp2_with (go_at_call 192; refine (HC.out _ (below_al W _)).mono ?_; rintro e w1 ⟨rfl, hb1⟩)
 go_ret2
 exact ⟨rfl, (below_al W _).trans (hb1.mono (below_al W _).size)⟩
theorem ok131 (A : Option Addr) (n c : Nat) (x0 : Int) (B9 : Option Addr) (p9 q9 : Nat) (w : World) (h : Rd 194 (.slice A n c) w (.tuple #[.int .i64 x0, .slice B9 p9 q9, .bool true])) : Rd 131 (.agg #[.int .u8 18, .slice A n c]) w (.tuple #[.int .i64 x0, .bool true]) := by
 intro W hW
 have HC := LH (fun (X : World) (hX : Below W.heap.size W X) => h X (hW.trans (hX.mono hW.size)))
 clear h hW
 go_enter Tryz.func131, Tryz.ntmps131
 go_wp2_with (go_at_call 194; refine (HC.out _ (below_al W _)).mono ?_; rintro e w1 ⟨rfl, hb1⟩)
 go_ret2
 exact ⟨rfl, (below_al W _).trans (hb1.mono (below_al W _).size)⟩
theorem ok115 (A : Option Addr) (n c : Nat) (x0 : Int) (B1 : Option Addr) (p1 q1 : Nat) (B9 : Option Addr) (p9 q9 : Nat) (w : World) (h : Rd 178 (.slice A n c) w (.tuple #[.int .u8 x0, .slice B1 p1 q1, .slice B9 p9 q9, .bool true])) : Rd 115 (.agg #[.int .u8 5, .slice A n c]) w (.tuple #[.int .u8 x0, .slice B1 p1 q1, .bool true]) := by
 intro W hW
 have HC := LH (fun (X : World) (hX : Below W.heap.size W X) => h X (hW.trans (hX.mono hW.size)))
 clear h hW
 go_enter Tryz.func115, Tryz.ntmps115
 go_wp2_with (go_at_call 178; refine (HC.out _ (below_al W _)).mono ?_; rintro e w1 ⟨rfl, hb1⟩)
 go_ret3
 exact ⟨rfl, (below_al W _).trans (hb1.mono (below_al W _).size)⟩
theorem ok123 (A : Option Addr) (n c : Nat) (x0 : ByteArray) (x1 : ByteArray) (B9 : Option Addr) (p9 q9 : Nat) (w : World) (h : Rd 186 (.slice A n c) w (.tuple #[.string x0, .string x1, .slice B9 p9 q9, .bool true])) : Rd 123 (.agg #[.int .u8 11, .slice A n c]) w (.tuple #[.string x0, .string x1, .bool true]) := by
 intro W hW
 have HC := LH (fun (X : World) (hX : Below W.heap.size W X) => h X (hW.trans (hX.mono hW.size)))
 clear h hW
 go_enter Tryz.func123, Tryz.ntmps123
 go_wp2_with (go_at_call 186; refine (HC.out _ (below_al W _)).mono ?_; rintro e w1 ⟨rfl, hb1⟩)
 go_ret3
 exact ⟨rfl, (below_al W _).trans (hb1.mono (below_al W _).size)⟩
theorem ok130 (A : Option Addr) (n c : Nat) (x0 : Int) (x1 : Int) (B9 : Option Addr) (p9 q9 : Nat) (w : World) (h : Rd 193 (.slice A n c) w (.tuple #[.int .u32 x0, .int .u32 x1, .slice B9 p9 q9, .bool true])) : Rd 130 (.agg #[.int .u8 17, .slice A n c]) w (.tuple #[.int .u32 x0, .int .u32 x1, .bool true]) := by
 intro W hW
 have HC := LH (fun (X : World) (hX : Below W.heap.size W X) => h X (hW.trans (hX.mono hW.size)))
 clear h hW
 go_enter Tryz.func130, Tryz.ntmps130
 go_wp2_with (go_at_call 193; refine (HC.out _ (below_al W _)).mono ?_; rintro e w1 ⟨rfl, hb1⟩)
 go_ret3
 exact ⟨rfl, (below_al W _).trans (hb1.mono (below_al W _).size)⟩
theorem ok132 (A : Option Addr) (n c : Nat) (x0 : Int) (x1 : Int) (B9 : Option Addr) (p9 q9 : Nat) (w : World) (h : Rd 195 (.slice A n c) w (.tuple #[.int .u64 x0, .int .u64 x1, .slice B9 p9 q9, .bool true])) : Rd 132 (.agg #[.int .u8 19, .slice A n c]) w (.tuple #[.int .u64 x0, .int .u64 x1, .bool true]) := by
 intro W hW
 have HC := LH (fun (X : World) (hX : Below W.heap.size W X) => h X (hW.trans (hX.mono hW.size)))
 clear h hW
 go_enter Tryz.func132, Tryz.ntmps132
 go_wp2_with (go_at_call 195; refine (HC.out _ (below_al W _)).mono ?_; rintro e w1 ⟨rfl, hb1⟩)
 go_ret3
 exact ⟨rfl, (below_al W _).trans (hb1.mono (below_al W _).size)⟩
theorem no109 (k : Int) (hk : (k != 2) = true) (A : Option Addr) (n c : Nat) (w : World) : Rd 109 (.agg #[.int .u8 k, .slice A n c]) w (.tuple #[.string ⟨#[]⟩, .bool false]) := by
 intro W hW
 clear hW
 go_enter Tryz.func109, Tryz.ntmps109
 go_wp2_with fail
 go_ret2
 exact ⟨rfl, below_al W _⟩
theorem no112 (k : Int) (hk : (k != 4) = true) (A : Option Addr) (n c : Nat) (w : World) : Rd 112 (.agg #[.int .u8 k, .slice A n c]) w (.tuple #[.slice none 0 0, .bool false]) := by
 intro W hW
 clear hW
 go_enter Tryz.func112, Tryz.ntmps112
 go_wp2_with fail
 go_ret2
 exact ⟨rfl, below_al W _⟩
set_option maxHeartbeats 8000000
def le64 (n : Nat) : List UInt8 := [UInt8.ofNat n, UInt8.ofNat (n / 256), UInt8.ofNat (n / 65536), UInt8.ofNat (n / 16777216), UInt8.ofNat (n / 4294967296), UInt8.ofNat (n / 1099511627776), UInt8.ofNat (n / 281474976710656), UInt8.ofNat (n / 72057594037927936)]
def s64 (n : Nat) : Int := if n < 9223372036854775808 then (n : Int) else (n : Int) - 18446744073709551616
theorem wr63 (n : Int) (h₀ : 0 ≤ n) (h₁ : n < 2 ^ 63) : IntKind.i64.wrap n = n := by rw [IntKind.wrap_i64]; omega
theorem or64_8 (a b : Nat) (ha : a < 256) (hb : b < 256) : bits .or .i64 (a : Int) ((b : Int) * 256) = ((a + b * 256 : Nat) : Int) := by
 rw [bits_join_low .i64 63 (by decide) wr63 8 _ _ (by omega) (by omega) (by omega) (by omega) (by omega) (by omega)]; omega
theorem or64_16 (a b : Nat) (ha : a < 65536) (hb : b < 256) : bits .or .i64 (a : Int) ((b : Int) * 65536) = ((a + b * 65536 : Nat) : Int) := by
 rw [bits_join_low .i64 63 (by decide) wr63 16 _ _ (by omega) (by omega) (by omega) (by omega) (by omega) (by omega)]; omega
theorem or64_24 (a b : Nat) (ha : a < 16777216) (hb : b < 256) : bits .or .i64 (a : Int) ((b : Int) * 16777216) = ((a + b * 16777216 : Nat) : Int) := by
 rw [bits_join_low .i64 63 (by decide) wr63 24 _ _ (by omega) (by omega) (by omega) (by omega) (by omega) (by omega)]; omega
theorem or64_32 (a b : Nat) (ha : a < 4294967296) (hb : b < 256) : bits .or .i64 (a : Int) ((b : Int) * 4294967296) = ((a + b * 4294967296 : Nat) : Int) := by
 rw [bits_join_low .i64 63 (by decide) wr63 32 _ _ (by omega) (by omega) (by omega) (by omega) (by omega) (by omega)]; omega
theorem or64_40 (a b : Nat) (ha : a < 1099511627776) (hb : b < 256) : bits .or .i64 (a : Int) ((b : Int) * 1099511627776) = ((a + b * 1099511627776 : Nat) : Int) := by
 rw [bits_join_low .i64 63 (by decide) wr63 40 _ _ (by omega) (by omega) (by omega) (by omega) (by omega) (by omega)]; omega
theorem or64_48 (a b : Nat) (ha : a < 281474976710656) (hb : b < 256) : bits .or .i64 (a : Int) ((b : Int) * 281474976710656) = ((a + b * 281474976710656 : Nat) : Int) := by
 rw [bits_join_low .i64 63 (by decide) wr63 48 _ _ (by omega) (by omega) (by omega) (by omega) (by omega) (by omega)]; omega
theorem bv_wrap64 (x : Nat) : BitVec.ofInt 64 (wrap64 (x : Int)) = BitVec.ofNat 64 x := by
 apply BitVec.eq_of_toNat_eq
 simp [BitVec.toNat_ofInt, wrap64]
 omega
theorem or64_hi (v x : Nat) (hv : v < 72057594037927936) (hx : x < 256) : bits .or .i64 (v : Int) (wrap64 ((x : Int) * 72057594037927936)) = s64 (v + x * 72057594037927936) := by
 have e1 : ((x : Int) * 72057594037927936) = ((x * 72057594037927936 : Nat) : Int) := by omega
 have e2 : (BitVec.ofInt 64 (v : Int)) = BitVec.ofNat 64 v := BitVec.ofInt_natCast _ _
 have hor : v ||| x * 72057594037927936 = v + x * 72057594037927936 := by
  have := Nat.two_pow_add_eq_or_of_lt (i := 56) (show v < 2 ^ 56 by omega) x
  rw [show (2 : Nat) ^ 56 = 72057594037927936 from rfl, Nat.mul_comm] at this
  rw [Nat.or_comm, ← this]; omega
 have e3 : (BitVec.ofInt 64 (v : Int) ||| BitVec.ofInt 64 (wrap64 ((x * 72057594037927936 : Nat) : Int))).toNat = v + x * 72057594037927936 := by
  rw [bv_wrap64, e2, BitVec.toNat_or, BitVec.toNat_ofNat, BitVec.toNat_ofNat, Nat.mod_eq_of_lt (show v < 2 ^ 64 by omega), Nat.mod_eq_of_lt (show x * 72057594037927936 < 2 ^ 64 by omega), hor]
 have e4 : bits .or .i64 (v : Int) (wrap64 ((x * 72057594037927936 : Nat) : Int)) = IntKind.i64.wrap (((BitVec.ofInt 64 (v : Int) ||| BitVec.ofInt 64 (wrap64 ((x * 72057594037927936 : Nat) : Int))).toNat : Nat) : Int) := rfl
 rw [e1, e4, e3, IntKind.wrap_i64]
 unfold s64
 split <;> omega
theorem readI64_b (g o m c : Nat) (b0 b1 b2 b3 b4 b5 b6 b7 : Nat) (w : World) (hm : m ≤ 9223372036854775807) (hc : m ≤ c) (hc0 : 0 < c) (hcb : c ≤ 9223372036854775807) (h0 : b0 < 256) (h1 : b1 < 256) (h2 : b2 < 256) (h3 : b3 < 256) (h4 : b4 < 256) (h5 : b5 < 256) (h6 : b6 < 256) (h7 : b7 < 256)
  (c0 : w.cell? ⟨g, o, none⟩ = some (.int .u8 (b0 : Int))) (c1 : w.cell? ⟨g, o + 1, none⟩ = some (.int .u8 (b1 : Int))) (c2 : w.cell? ⟨g, o + 2, none⟩ = some (.int .u8 (b2 : Int))) (c3 : w.cell? ⟨g, o + 3, none⟩ = some (.int .u8 (b3 : Int)))
  (c4 : w.cell? ⟨g, o + 4, none⟩ = some (.int .u8 (b4 : Int))) (c5 : w.cell? ⟨g, o + 5, none⟩ = some (.int .u8 (b5 : Int))) (c6 : w.cell? ⟨g, o + 6, none⟩ = some (.int .u8 (b6 : Int))) (c7 : w.cell? ⟨g, o + 7, none⟩ = some (.int .u8 (b7 : Int))) :
  Calls Tryz.prog 231 #[.slice (some ⟨g, o, none⟩) (8 + m) (8 + c)] w fun e w' => e = .returned (.tuple #[.int .i64 (s64 (b0 + b1 * 256 + b2 * 65536 + b3 * 16777216 + b4 * 4294967296 + b5 * 1099511627776 + b6 * 281474976710656 + b7 * 72057594037927936)), .slice (some ⟨g, o + 8, none⟩) m c, .bool true]) ∧ Below w.heap.size w w' := by
 go_enter Tryz.func231, Tryz.ntmps231
 go_wp2_with fail
 go_quiet (fail)
 rw [or64_8 b0 b1 h0 h1, or64_16 _ b2 (by omega) h2, or64_24 _ b3 (by omega) h3, or64_32 _ b4 (by omega) h4, or64_40 _ b5 (by omega) h5, or64_48 _ b6 (by omega) h6, or64_hi _ b7 (by omega) h7]
 go_wp2_with fail
 go_quiet (fail)
 go_wp2_with fail
 go_ret3
 exact ⟨rfl, below_q (below_q (Below.refl _ _) _) _⟩
theorem rd64 {w : World} {g o N : Nat} {l : List UInt8} (h : RD w g o (le64 N ++ l)) : w.cell? ⟨g, o, none⟩ = some (.int .u8 ((N % 256 : Nat) : Int)) ∧ w.cell? ⟨g, o + 1, none⟩ = some (.int .u8 ((N / 256 % 256 : Nat) : Int)) ∧ w.cell? ⟨g, o + 2, none⟩ = some (.int .u8 ((N / 65536 % 256 : Nat) : Int)) ∧ w.cell? ⟨g, o + 3, none⟩ = some (.int .u8 ((N / 16777216 % 256 : Nat) : Int)) ∧
  w.cell? ⟨g, o + 4, none⟩ = some (.int .u8 ((N / 4294967296 % 256 : Nat) : Int)) ∧ w.cell? ⟨g, o + 5, none⟩ = some (.int .u8 ((N / 1099511627776 % 256 : Nat) : Int)) ∧ w.cell? ⟨g, o + 6, none⟩ = some (.int .u8 ((N / 281474976710656 % 256 : Nat) : Int)) ∧ w.cell? ⟨g, o + 7, none⟩ = some (.int .u8 ((N / 72057594037927936 % 256 : Nat) : Int)) :=
 ⟨by simpa using h 0 (UInt8.ofNat N) rfl, by simpa using h 1 (UInt8.ofNat (N / 256)) rfl, by simpa using h 2 (UInt8.ofNat (N / 65536)) rfl, by simpa using h 3 (UInt8.ofNat (N / 16777216)) rfl,
  by simpa using h 4 (UInt8.ofNat (N / 4294967296)) rfl, by simpa using h 5 (UInt8.ofNat (N / 1099511627776)) rfl, by simpa using h 6 (UInt8.ofNat (N / 281474976710656)) rfl, by simpa using h 7 (UInt8.ofNat (N / 72057594037927936)) rfl⟩
theorem readI64_any (g o n c N : Nat) (l : List UInt8) (w : World) (hn : n = 8 + l.length) (hc : n < c) (hcb : c ≤ 9223372036854775807) (hN : N < 18446744073709551616) (hr : RD w g o (le64 N ++ l)) :
  Calls Tryz.prog 231 #[.slice (some ⟨g, o, none⟩) n c] w fun e w' => e = .returned (.tuple #[.int .i64 (s64 N), .slice (some ⟨g, o + 8, none⟩) (n - 8) (c - 8), .bool true]) ∧ Below w.heap.size w w' := by
 obtain ⟨c0, c1, c2, c3, c4, c5, c6, c7⟩ := rd64 hr
 have h := readI64_b g o (n - 8) (c - 8) (N % 256) (N / 256 % 256) (N / 65536 % 256) (N / 16777216 % 256) (N / 4294967296 % 256) (N / 1099511627776 % 256) (N / 281474976710656 % 256) (N / 72057594037927936 % 256) w (by omega) (by omega) (by omega) (by omega) (by omega) (by omega) (by omega) (by omega) (by omega) (by omega) (by omega) (by omega) c0 c1 c2 c3 c4 c5 c6 c7
 rw [show 8 + (n - 8) = n from by omega, show 8 + (c - 8) = c from by omega, show N % 256 + N / 256 % 256 * 256 + N / 65536 % 256 * 65536 + N / 16777216 % 256 * 16777216 + N / 4294967296 % 256 * 4294967296 + N / 1099511627776 % 256 * 1099511627776 + N / 281474976710656 % 256 * 281474976710656 + N / 72057594037927936 % 256 * 72057594037927936 = N from by omega] at h
 exact h
theorem readRow_any (g o n c : Nat) (l : List UInt8) (w : World) (hn : n = 4 + l.length) (hn4 : 4 ≤ n) (hc : n < c) (hcb : c ≤ 9223372036854775807) (hN : n < 2147483648) (hr : RD w g o (le32 n ++ l)) :
  Calls Tryz.prog 226 #[.slice (some ⟨g, o, none⟩) n c] w fun e w' => e = .returned (.tuple #[.slice (some ⟨g, o, none⟩) n c, .slice (some ⟨g, o + n, none⟩) 0 (c - n), .bool true]) ∧ Below w.heap.size w w' := by
 have HC := LH (readLen_any g o n c n l w hn hc hcb hN hr)
 clear hr hn
 have hd : decide ((n : Int) < 4) = false := by simp; omega
 go_enter Tryz.func226, Tryz.ntmps226
 go_wp2_with (go_at_call 73; refine HC.out.mono ?_; rintro e w1 ⟨rfl, hb1⟩)
 go_quiet (fail)
 go_wp2_with fail
 go_ret3
 exact ⟨by simp, below_q hb1 _⟩
theorem readBool_any (g o n c : Nat) (b : Nat) (w : World) (hn : 1 ≤ n) (hc : n < c) (hcb : c ≤ 9223372036854775807) (hb : b < 256) (c0 : w.cell? ⟨g, o, none⟩ = some (.int .u8 (b : Int))) :
  Calls Tryz.prog 183 #[.slice (some ⟨g, o, none⟩) n c] w fun e w' => e = .returned (.tuple #[.bool ((b : Int) == 1), .slice (some ⟨g, o + 1, none⟩) (n - 1) (c - 1), .bool true]) ∧ Below w.heap.size w w' := by
 go_enter Tryz.func183, Tryz.ntmps183
 go_wp2_with fail
 go_quiet (fail)
 go_wp2_with fail
 go_ret3
 exact ⟨by simp, below_q (Below.refl _ _) _⟩
theorem results_tmp4 {fn : Func} {t u v x : Tmp} (h : fn.results = #[.tmp t, .tmp u, .tmp v, .tmp x]) (tmps : Array Value) (P : Program) (w : World) :
  (results fn tmps).run P w = .ok (.tuple #[tmps.getD t undef, tmps.getD u undef, tmps.getD v undef, tmps.getD x undef]) w := by
 simp [results, h]
def u8 (n : Int) : UInt8 := UInt8.ofNat (n % 256).toNat
def binB (n : Int) (b : List UInt8) : List UInt8 := if n = 2 then le32 (b.length + 4) ++ 2 :: (le32 b.length ++ b) else le32 b.length ++ u8 n :: b
theorem u8_val (n : Int) (h : 0 ≤ n ∧ n ≤ 255) : ((u8 n).toNat : Int) = n := by
 unfold u8
 simp
 omega
theorem readBin_plain (g o n c m : Nat) (k : Int) (hk : 0 ≤ k ∧ k ≤ 255) (hk2 : (k == 2) = false) (b : List UInt8) (w : World) (hm : b.length = m) (hn : n = 5 + m) (hc : n < c) (hcb : c ≤ 9223372036854775807) (hN : m < 1000000000) (hr : RD w g o (le32 m ++ u8 k :: b)) :
  Calls Tryz.prog 178 #[.slice (some ⟨g, o, none⟩) n c] w fun e w' => e = .returned (.tuple #[.int .u8 k, .slice (some ⟨g, o + 4 + 1, none⟩) m (c - 4 - 1), .slice (some ⟨g, o + 4 + 1 + m, none⟩) (n - 4 - 1 - m) (c - 4 - 1 - m), .bool true]) ∧ Below w.heap.size w w' := by
 have hr4 : RD w g (o + 4) (u8 k :: b) := hr.right
 have c4 := hr4 0 _ rfl
 rw [u8_val k hk, Nat.add_zero] at c4
 have HC := LH (readLen_any g o n c m (u8 k :: b) w (by simp only [List.length_cons]; omega) hc hcb (by omega) hr)
 have HK := LH (fun (W : World) (hb : Below w.heap.size w W) => (hb.cell (World.block_lt_of_cell? w _ c4)).trans c4)
 have hn5 : 5 + m ≤ n := by omega
 have HN := LH hn
 have hd : decide (((n - 4 : Nat) : Int) < 1) = false := by simp; omega
 have hd2 : decide (((n - 4 - 1 : Nat) : Int) < (m : Int)) = false := by simp; omega
 clear hr hr4 c4 hn hm
 go_enter Tryz.func178, Tryz.ntmps178
 go_wp2_with (go_at_call 73; refine HC.out.mono ?_; rintro e w1 ⟨rfl, hb1⟩; have hcell := HK.out w1 hb1)
 go_quiet (fail)
 go_wp2_with fail
 go_quiet (fail)
 go_wp2_with fail
 (try simp only [Exit.inBlock, Exit.then])
 refine bodyPost_ret (results_tmp4 rfl _ _ _) rfl ?_
 exact ⟨rfl, below_q (below_q hb1 _) _⟩
theorem readBin_old (g o n c m : Nat) (b : List UInt8) (w : World) (hm : b.length = m) (hn : n = 9 + m) (hc : n < c) (hcb : c ≤ 9223372036854775807) (hN : m < 1000000000) (hr : RD w g o (le32 (m + 4) ++ 2 :: (le32 m ++ b))) :
  Calls Tryz.prog 178 #[.slice (some ⟨g, o, none⟩) n c] w fun e w' => e = .returned (.tuple #[.int .u8 2, .slice (some ⟨g, o + 4 + 1 + 4, none⟩) m (c - 4 - 1 - 4), .slice (some ⟨g, o + 4 + 1 + 4 + m, none⟩) (n - 4 - 1 - 4 - m) (c - 4 - 1 - 4 - m), .bool true]) ∧ Below w.heap.size w w' := by
 have hr4 : RD w g (o + 4) (2 :: (le32 m ++ b)) := hr.right
 have hr5 : RD w g (o + 4 + 1) (le32 m ++ b) := RD.right (a := [2]) hr4
 have c4 := hr4 0 _ rfl
 rw [Nat.add_zero] at c4
 have hlen : (le32 m).length = 4 := rfl
 have HC := LH (readLen_any g o n c (m + 4) (2 :: (le32 m ++ b)) w (by simp only [List.length_cons, List.length_append, hlen]; omega) hc hcb (by omega) hr)
 have HD := LH (fun (W : World) (hb : Below w.heap.size w W) => readLen_any g (o + 4 + 1) (n - 4 - 1) (c - 4 - 1) m b W (by omega) (by omega) (by omega) (by omega) (hr5.lat hb))
 have HK := LH (fun (W : World) (hb : Below w.heap.size w W) => (hb.cell (World.block_lt_of_cell? w _ c4)).trans c4)
 have hn5 : 9 + m ≤ n := by omega
 have HN := LH hn
 have hd : decide (((n - 4 : Nat) : Int) < 1) = false := by simp; omega
 have hd2 : decide (((n - 4 - 1 : Nat) : Int) < (m : Int) + 4) = false := by simp; omega
 clear hr hr4 hr5 c4 hn hm
 go_enter Tryz.func178, Tryz.ntmps178
 go_wp2_with (first | (go_at_call 73; refine HC.out.mono ?_; rintro e w1 ⟨rfl, hb1⟩; have hcell := HK.out w1 hb1))
 go_quiet (fail)
 go_wp2_with (go_at_call 73; refine (HD.out _ (below_q hb1 _)).mono ?_; rintro e w2 ⟨rfl, hb2⟩)
 go_quiet (fail)
 go_wp2_with fail
 (try simp only [Exit.inBlock, Exit.then])
 refine bodyPost_ret (results_tmp4 rfl _ _ _) rfl ?_
 exact ⟨rfl, below_q ((below_q hb1 _).trans (hb2.mono (below_q hb1 _).size)) _⟩
theorem indexByte_zero : ∀ (t r : List UInt8), 0 ∉ t → Lib.indexByte (t ++ 0 :: r) 0 = (t.length : Int)
 | [], r, _ => by simp [Lib.indexByte]
 | a :: t, r, h => by
  have h1 : a ≠ 0 := fun e => h (by simp [e])
  have h2 := indexByte_zero t r (fun e => h (by simp [e]))
  rw [List.cons_append, Lib.indexByte, if_neg (by simpa using h1), h2, if_neg (by rw [beq_iff_eq]; omega), List.length_cons]
  rfl
theorem ix_zero (g o n c : Nat) (t r : List UInt8) (w : World) (hn : n = t.length + 1 + r.length) (h0 : 0 ∉ t) (hr : RD w g o (t ++ 0 :: r)) :
  Calls Tryz.prog 167 #[.slice (some ⟨g, o, none⟩) n c, .int .u8 0] w fun e w' => e = .returned (.int .i64 (t.length : Int)) ∧ w' = w := by
 have hl : (t ++ 0 :: r).length = n := by simp; omega
 have h := Tryz.bytes_IndexByte g o n c ((t ++ 0 :: r).map fun b => (b.toNat : Int)) 0 w (by rw [List.length_map, hl]) (by
  intro i hi
  have := hr i _ (List.getElem?_eq_getElem (show i < (t ++ 0 :: r).length by omega))
  rw [this, List.getD_eq_getElem?_getD, List.getElem?_map, List.getElem?_eq_getElem (show i < (t ++ 0 :: r).length by omega)]
  rfl)
 have hb : Lib.bytesOf ((t ++ 0 :: r).map fun b => (b.toNat : Int)) = t ++ 0 :: r := by
  unfold Lib.bytesOf
  rw [List.map_map]
  conv => rhs; rw [← List.map_id (t ++ 0 :: r)]
  refine List.map_congr_left (fun b _ => ?_)
  simp
 rw [hb, show ((0 : Int).toNat.toUInt8) = 0 from rfl, indexByte_zero t r h0] at h
 exact h
theorem cstr_bytes (g o n c m : Nat) (t r : List UInt8) (w : World) (hm : t.length = m) (hn : n = m + 1 + r.length) (hc : n < c) (hcb : c ≤ 9223372036854775807) (h0 : 0 ∉ t) (hr : RD w g o (t ++ 0 :: r)) :
  Calls Tryz.prog 262 #[.slice (some ⟨g, o, none⟩) n c] w fun e w' => e = .returned (.tuple #[.slice (some ⟨g, o, none⟩) m c, .slice (some ⟨g, o + (m + 1), none⟩) (n - (m + 1)) (c - (m + 1)), .bool true]) ∧ Below w.heap.size w w' := by
 have HC := LH (hm ▸ ix_zero g o n c t r w (by omega) h0 hr)
 have hn1 : m + 1 ≤ n := by omega
 clear hr hn hm h0
 go_enter Tryz.func262, Tryz.ntmps262
 go_wp2_with (go_at_call 167; refine HC.out.mono ?_; rintro e w1 ⟨rfl, rfl⟩)
 go_quiet (fail)
 go_wp2_with fail
 go_ret3
 exact ⟨by simp, below_q (Below.refl _ _) _⟩
theorem cstr_any (g o n c : Nat) (s : ByteArray) (r : List UInt8) (w : World) (hn : n = s.size + 1 + r.length) (hc : n < c) (hcb : c ≤ 9223372036854775807) (h0 : 0 ∉ s.data.toList) (hr : RD w g o (s.data.toList ++ 0 :: r)) :
  Calls Tryz.prog 232 #[.slice (some ⟨g, o, none⟩) n c] w fun e w' => e = .returned (.tuple #[.string s, .slice (some ⟨g, o + (s.size + 1), none⟩) (n - (s.size + 1)) (c - (s.size + 1)), .bool true]) ∧ Below w.heap.size w w' := by
 have e1 : s.data.toList.length = s.size := Array.length_toList
 have HC := LH (cstr_bytes g o n c s.size s.data.toList r w e1 hn hc hcb h0 hr)
 have hrs : RD w g o s.data.toList := hr.left
 have HS := LH (fun (W : World) (hb : Below w.heap.size w W) => rd_str (w := W) s (hrs.lat hb) c)
 obtain ⟨k, hk⟩ : ∃ k, s.size = k := ⟨_, rfl⟩
 simp only [hk] at HC HS hn ⊢
 have hn1 : k + 1 ≤ n := by omega
 clear hr hn h0 hrs e1 hk
 go_enter Tryz.func232, Tryz.ntmps232
 go_wp2_with (go_at_call 262; refine HC.out.mono ?_; rintro e w1 ⟨rfl, hb1⟩; have hq := HS.out w1 hb1)
 go_ret3
 exact ⟨rfl, hb1⟩
theorem regex_any (g o n c : Nat) (s u : ByteArray) (w : World) (hn : n = s.size + 1 + (u.size + 1)) (hc : n < c) (hcb : c ≤ 9223372036854775807) (h0 : 0 ∉ s.data.toList) (h1 : 0 ∉ u.data.toList) (hr : RD w g o (s.data.toList ++ 0 :: (u.data.toList ++ [0]))) :
  Calls Tryz.prog 186 #[.slice (some ⟨g, o, none⟩) n c] w fun e w' => e = .returned (.tuple #[.string s, .string u, .slice (some ⟨g, o + (s.size + 1) + (u.size + 1), none⟩) (n - (s.size + 1) - (u.size + 1)) (c - (s.size + 1) - (u.size + 1)), .bool true]) ∧ Below w.heap.size w w' := by
 have e1 : s.data.toList.length = s.size := Array.length_toList
 have e2 : u.data.toList.length = u.size := Array.length_toList
 have hr2 : RD w g (o + (s.size + 1)) (u.data.toList ++ 0 :: []) := by
  have := RD.right (a := s.data.toList ++ [0]) (b := u.data.toList ++ [0]) (by simpa using hr)
  rwa [List.length_append, e1] at this
 have HC := LH (cstr_any g o n c s (u.data.toList ++ [0]) w (by simp; omega) hc hcb h0 hr)
 have HD := LH (fun (W : World) (hb : Below w.heap.size w W) => cstr_any g (o + (s.size + 1)) (n - (s.size + 1)) (c - (s.size + 1)) u [] W (by simp; omega) (by omega) (by omega) h1 (hr2.lat hb))
 obtain ⟨k, hk⟩ : ∃ k, s.size = k := ⟨_, rfl⟩
 obtain ⟨j, hj⟩ : ∃ k, u.size = k := ⟨_, rfl⟩
 simp only [hk, hj] at HC HD ⊢
 clear hr hn h0 h1 e1 e2 hr2 hk hj
 go_enter Tryz.func186, Tryz.ntmps186
 go_wp2_with (first | (with_reducible show Calls _ _ #[.slice (some ⟨_, o, none⟩) _ _] _ _; go_at_call 232; refine HC.out.mono ?_; rintro e w1 ⟨rfl, hb1⟩) | (go_at_call 232; refine (HD.out w1 hb1).mono ?_; rintro e w2 ⟨rfl, hb2⟩))
 (try simp only [Exit.inBlock, Exit.then])
 refine bodyPost_ret (results_tmp4 rfl _ _ _) rfl ?_
 exact ⟨rfl, hb1.trans (hb2.mono hb1.size)⟩
theorem le4 (N : Nat) (h : N < 4294967296) : Lib.leNat [UInt8.ofNat N, UInt8.ofNat (N / 256), UInt8.ofNat (N / 65536), UInt8.ofNat (N / 16777216)] = N := by
 simp [Lib.leNat]
 omega
theorem readU32_any (g o n c N : Nat) (l : List UInt8) (w : World) (hn : n = 4 + l.length) (hc : n < c) (hcb : c ≤ 9223372036854775807) (hN : N < 4294967296) (hr : RD w g o (le32 N ++ l)) :
  Calls Tryz.prog 235 #[.slice (some ⟨g, o, none⟩) n c] w fun e w' => e = .returned (.tuple #[.int .u32 (N : Int), .slice (some ⟨g, o + 4, none⟩) (n - 4) (c - 4), .bool true]) ∧ Below w.heap.size w w' := by
 have HC := LH (fun (W : World) (hb : Below w.heap.size w W) => le4 N hN ▸ Tryz.binary_LE_Uint32 g o n c (UInt8.ofNat N) (UInt8.ofNat (N / 256)) (UInt8.ofNat (N / 65536)) (UInt8.ofNat (N / 16777216)) W (by omega) (hr.lat hb 0 _ rfl) (hr.lat hb 1 _ rfl) (hr.lat hb 2 _ rfl) (hr.lat hb 3 _ rfl))
 have hn4 : 4 ≤ n := by omega
 clear hr hn
 go_enter Tryz.func235, Tryz.ntmps235
 go_wp2_with fail
 refine wp_region_quiet_cls (C := fun W => Below w.heap.size w W) (by kernel_rfl) (by kernel_rfl) (below_q (Below.refl _ _) 1) ?_
 refine quiet_val (.agg #[]) (by kernel_rfl) (fun W hW => by go_simp) ?_
 refine quiet_val (.slice (some ⟨g, o, none⟩) n c) (by kernel_rfl) (fun W hW => by go_simp) ?_
 refine quiet_enter (.int .u32 (N : Int)) 272 #[.agg #[], .slice (some ⟨g, o, none⟩) n c] (by kernel_rfl) (fun W hW => by go_simp) (fun W hW => (HC.out W hW).mono fun e W2 ⟨q1, q2⟩ => ⟨q1, hW.trans (q2.mono hW.size)⟩) ?_
 refine quiet_val (.slice (some ⟨g, o, none⟩) n c) (by kernel_rfl) (fun W hW => by go_simp) ?_
 refine quiet_val (.slice (some ⟨g, o + 4, none⟩) (n - 4) (c - 4)) (by kernel_rfl) (fun W hW => by go_simp; omega) ?_
 refine quiet_val (.int .u32 (N : Int)) (by kernel_rfl) (fun W hW => by go_simp) ?_
 refine quiet_val (.slice (some ⟨g, o + 4, none⟩) (n - 4) (c - 4)) (by kernel_rfl) (fun W hW => by go_simp) ?_
 refine quiet_val (.bool true) (by kernel_rfl) (fun W hW => by go_simp) ?_
 refine wpQuiet_nil ?_
 intro W hW
 go_simp
 go_wp2_with fail
 go_ret3
 exact ⟨rfl, hW⟩
theorem le8 (N : Nat) (h : N < 18446744073709551616) : Lib.leNat [UInt8.ofNat N, UInt8.ofNat (N / 256), UInt8.ofNat (N / 65536), UInt8.ofNat (N / 16777216), UInt8.ofNat (N / 4294967296), UInt8.ofNat (N / 1099511627776), UInt8.ofNat (N / 281474976710656), UInt8.ofNat (N / 72057594037927936)] = N := by
 simp [Lib.leNat]
 omega
theorem readU64_any (g o n c N : Nat) (l : List UInt8) (w : World) (hn : n = 8 + l.length) (hc : n < c) (hcb : c ≤ 9223372036854775807) (hN : N < 18446744073709551616) (hr : RD w g o (le64 N ++ l)) :
  Calls Tryz.prog 227 #[.slice (some ⟨g, o, none⟩) n c] w fun e w' => e = .returned (.tuple #[.int .u64 (N : Int), .slice (some ⟨g, o + 8, none⟩) (n - 8) (c - 8), .bool true]) ∧ Below w.heap.size w w' := by
 have HC := LH (fun (W : World) (hb : Below w.heap.size w W) => le8 N hN ▸ Tryz.binary_LE_Uint64 g o n c (UInt8.ofNat N) (UInt8.ofNat (N / 256)) (UInt8.ofNat (N / 65536)) (UInt8.ofNat (N / 16777216)) (UInt8.ofNat (N / 4294967296)) (UInt8.ofNat (N / 1099511627776)) (UInt8.ofNat (N / 281474976710656)) (UInt8.ofNat (N / 72057594037927936)) W (by omega) (hr.lat hb 0 _ rfl) (hr.lat hb 1 _ rfl) (hr.lat hb 2 _ rfl) (hr.lat hb 3 _ rfl) (hr.lat hb 4 _ rfl) (hr.lat hb 5 _ rfl) (hr.lat hb 6 _ rfl) (hr.lat hb 7 _ rfl))
 have hn4 : 8 ≤ n := by omega
 clear hr hn
 go_enter Tryz.func227, Tryz.ntmps227
 go_wp2_with fail
 refine wp_region_quiet_cls (C := fun W => Below w.heap.size w W) (by kernel_rfl) (by kernel_rfl) (below_q (Below.refl _ _) 1) ?_
 refine quiet_val (.agg #[]) (by kernel_rfl) (fun W hW => by go_simp) ?_
 refine quiet_val (.slice (some ⟨g, o, none⟩) n c) (by kernel_rfl) (fun W hW => by go_simp) ?_
 refine quiet_enter (.int .u64 (N : Int)) 261 #[.agg #[], .slice (some ⟨g, o, none⟩) n c] (by kernel_rfl) (fun W hW => by go_simp) (fun W hW => (HC.out W hW).mono fun e W2 ⟨q1, q2⟩ => ⟨q1, hW.trans (q2.mono hW.size)⟩) ?_
 refine quiet_val (.slice (some ⟨g, o, none⟩) n c) (by kernel_rfl) (fun W hW => by go_simp) ?_
 refine quiet_val (.slice (some ⟨g, o + 8, none⟩) (n - 8) (c - 8)) (by kernel_rfl) (fun W hW => by go_simp; omega) ?_
 refine quiet_val (.int .u64 (N : Int)) (by kernel_rfl) (fun W hW => by go_simp) ?_
 refine quiet_val (.slice (some ⟨g, o + 8, none⟩) (n - 8) (c - 8)) (by kernel_rfl) (fun W hW => by go_simp) ?_
 refine quiet_val (.bool true) (by kernel_rfl) (fun W hW => by go_simp) ?_
 refine wpQuiet_nil ?_
 intro W hW
 go_simp
 go_wp2_with fail
 go_ret3
 exact ⟨rfl, hW⟩
theorem readDbl_any (g o n c N : Nat) (l : List UInt8) (w : World) (hn : n = 8 + l.length) (hc : n < c) (hcb : c ≤ 9223372036854775807) (hN : N < 18446744073709551616) (hr : RD w g o (le64 N ++ l)) :
  Calls Tryz.prog 176 #[.slice (some ⟨g, o, none⟩) n c] w fun e w' => e = .returned (.tuple #[.float .f64 N, .slice (some ⟨g, o + 8, none⟩) (n - 8) (c - 8), .bool true]) ∧ Below w.heap.size w w' := by
 have HC := LH (readU64_any g o n c N l w hn hc hcb hN hr)
 clear hr hn
 go_enter Tryz.func176, Tryz.ntmps176
 go_wp2_with (go_at_call 227; refine HC.out.mono ?_; rintro e w1 ⟨rfl, hb1⟩)
 go_ret3
 exact ⟨rfl, hb1⟩
theorem readTs_any (g o n c I T : Nat) (w : World) (hn : n = 8) (hc : n < c) (hcb : c ≤ 9223372036854775807) (hI : I < 4294967296) (hT : T < 4294967296) (hr : RD w g o (le32 I ++ le32 T)) :
  Calls Tryz.prog 193 #[.slice (some ⟨g, o, none⟩) n c] w fun e w' => e = .returned (.tuple #[.int .u32 (T : Int), .int .u32 (I : Int), .slice (some ⟨g, o + 4 + 4, none⟩) (n - 4 - 4) (c - 4 - 4), .bool true]) ∧ Below w.heap.size w w' := by
 have hr2 : RD w g (o + 4) (le32 T ++ []) := by rw [List.append_nil]; exact hr.right
 have HC := LH (readU32_any g o n c I (le32 T) w (by rw [hn]; rfl) hc hcb hI hr)
 have HD := LH (fun (W : World) (hb : Below w.heap.size w W) => readU32_any g (o + 4) (n - 4) (c - 4) T [] W (by simp; omega) (by omega) (by omega) hT (hr2.lat hb))
 clear hr hn hr2
 go_enter Tryz.func193, Tryz.ntmps193
 go_wp2_with (first | (with_reducible show Calls _ _ #[.slice (some ⟨_, o, none⟩) _ _] _ _; go_at_call 235; refine HC.out.mono ?_; rintro e w1 ⟨rfl, hb1⟩) | (go_at_call 235; refine (HD.out w1 hb1).mono ?_; rintro e w2 ⟨rfl, hb2⟩))
 (try simp only [Exit.inBlock, Exit.then])
 refine bodyPost_ret (results_tmp4 rfl _ _ _) rfl ?_
 exact ⟨rfl, hb1.trans (hb2.mono hb1.size)⟩
theorem readDec_any (g o n c L H : Nat) (w : World) (hn : n = 16) (hc : n < c) (hcb : c ≤ 9223372036854775807) (hL : L < 18446744073709551616) (hH : H < 18446744073709551616) (hr : RD w g o (le64 L ++ le64 H)) :
  Calls Tryz.prog 195 #[.slice (some ⟨g, o, none⟩) n c] w fun e w' => e = .returned (.tuple #[.int .u64 (H : Int), .int .u64 (L : Int), .slice (some ⟨g, o + 8 + 8, none⟩) (n - 8 - 8) (c - 8 - 8), .bool true]) ∧ Below w.heap.size w w' := by
 have hr2 : RD w g (o + 8) (le64 H ++ []) := by rw [List.append_nil]; exact hr.right
 have HC := LH (readU64_any g o n c L (le64 H) w (by rw [hn]; rfl) hc hcb hL hr)
 have HD := LH (fun (W : World) (hb : Below w.heap.size w W) => readU64_any g (o + 8) (n - 8) (c - 8) H [] W (by simp; omega) (by omega) (by omega) hH (hr2.lat hb))
 clear hr hn hr2
 go_enter Tryz.func195, Tryz.ntmps195
 go_wp2_with (first | (with_reducible show Calls _ _ #[.slice (some ⟨_, o, none⟩) _ _] _ _; go_at_call 227; refine HC.out.mono ?_; rintro e w1 ⟨rfl, hb1⟩) | (go_at_call 227; refine (HD.out w1 hb1).mono ?_; rintro e w2 ⟨rfl, hb2⟩))
 (try simp only [Exit.inBlock, Exit.then])
 refine bodyPost_ret (results_tmp4 rfl _ _ _) rfl ?_
 exact ⟨rfl, hb1.trans (hb2.mono hb1.size)⟩
set_option maxHeartbeats 8000000
@[go_sem] theorem run171 (x : Value) (w : World) : (callFunc 171 #[x]).run Tryz.prog w = .ok (.value x) w := by
 rw [run_callFunc_extern (e := Extern.AbiNoEscape.same) Tryz.func171 (by kernel_rfl) (by kernel_rfl) (by kernel_rfl) (by kernel_rfl)]
 rfl
theorem info118 : (Tryz.prog.info? 118).map (·.size) = some 2 := by kernel_rfl
theorem copyCheck_fresh (b : Nat) (w : World) (h0 : w.cell? ⟨b, 0, none⟩ = some (.pointer none)) (hsh : w.shape? b = some (118, 2)) (hfz : w.frozen? ⟨b, 0, none⟩ = false) :
  Calls Tryz.prog 106 #[.pointer (some ⟨b, 0, none⟩)] w fun e w' => e = .returned (.tuple #[]) ∧ w' = w.setCell ⟨b, 0, none⟩ (.pointer (some ⟨b, 0, none⟩)) := by
 obtain ⟨j, hj, hjs⟩ := Option.map_eq_some_iff.1 info118
 go_enter Tryz.func106, Tryz.ntmps106
 go_wp2
 rw [Lib.run_to_unsafe w ⟨b, 0, none⟩ Tryz.underlying116 Tryz.underlying223 hj (by rw [hjs]; decide) hsh (Nat.zero_lt_succ 1)]
 simp only [Result.andThen]
 rw [Oper.upon_value]
 go_wp2
 rw [Lib.run_from_unsafe w ⟨b, 0, none⟩ Tryz.underlying223 Tryz.underlying116 hj hsh (by kernel_rfl)]
 simp only [Result.andThen]
 rw [Oper.upon_value]
 go_wp2
 go_end0
 exact ⟨rfl, rfl⟩
theorem copyCheck_used (b : Nat) (w : World) (h0 : w.cell? ⟨b, 0, none⟩ = some (.pointer (some ⟨b, 0, none⟩))) :
  Calls Tryz.prog 106 #[.pointer (some ⟨b, 0, none⟩)] w fun e w' => e = .returned (.tuple #[]) ∧ w' = w := by
 obtain ⟨j, hj, hjs⟩ := Option.map_eq_some_iff.1 info118
 have hne := Lib.run_neq_ptr_same (P := Tryz.prog) w (tp := 116) (te := 118) ⟨b, 0, none⟩ Tryz.underlying116 hj
 go_enter Tryz.func106, Tryz.ntmps106
 go_wp2
 go_end0
 exact ⟨rfl, rfl⟩
theorem copyCheck_any (b : Nat) (bs : List Value) (w : World) (h : Lib.IsBuilderF 118 5 b b bs w) :
  Calls Tryz.prog 106 #[.pointer (some ⟨b, 0, none⟩)] w fun e w' => e = .returned (.tuple #[]) ∧ Lib.BuilderAtF 118 5 b b (.pointer (some ⟨b, 0, none⟩)) bs w' ∧ Below b w w' := by
 rcases h with h | h
 ·refine (copyCheck_fresh b w h.cell0 h.shape h.frozen0).mono ?_
  rintro e w' ⟨rfl, rfl⟩
  exact ⟨rfl, h.used _, (Below.refl b w).setCell (p := ⟨b, 0, none⟩) h.1 _⟩
 ·refine (copyCheck_used b w h.cell0).mono ?_
  rintro e w' ⟨rfl, rfl⟩
  exact ⟨rfl, h, Below.refl b _⟩
def SB (b : Nat) (l : List UInt8) (w : World) : Prop := Lib.IsBuilderF 118 5 b b (Lib.byteCells l) w
theorem SB.lt {b : Nat} {l : List UInt8} {w : World} (h : SB b l w) : b < w.heap.size := by rcases h with h | h <;> exact h.lt
theorem ownsF_later {w w' : World} {B e c : Nat} {v : Value} {n : Nat} {xs : List Value} (h : w.ownsRowF B e c v n xs) (hb : Below w.heap.size w w') : w'.ownsRowF B e c v n xs := by
 obtain ⟨h1, h2⟩ := h
 refine ⟨h1, ?_⟩
 rcases h2 with h2 | ⟨k, cap, cur, fr, hv, hg, hh, r⟩
 ·exact .inl h2
 ·exact .inr ⟨k, cap, cur, fr, hv, hg, (hb.block k (blk_lt hh)).trans hh, r⟩
theorem SB.later {b : Nat} {l : List UInt8} {w w' : World} (h : SB b l w) (hb : Below w.heap.size w w') : SB b l w' := by
 rcases h with ⟨hB, v, hk, ho, hn⟩ | ⟨hB, v, hk, ho, hn⟩
 ·exact .inl ⟨hB, v, (hb.block b (blk_lt hk)).trans hk, ownsF_later ho hb, hn⟩
 ·exact .inr ⟨hB, v, (hb.block b (blk_lt hk)).trans hk, ownsF_later ho hb, hn⟩
theorem SB.made (w : World) : SB w.heap.size [] (w.alloc (.cells #[.pointer none, .slice none 0 0] 118)) :=
 .inl ⟨Nat.le_refl _, .slice none 0 0, heap_alloc_new w _, World.ownsRowF_nil _ _ 5 1, by simp [Value.ownBlock]⟩
theorem sb_len {b : Nat} {l : List UInt8} {w : World} (h : SB b l w) : Calls Tryz.prog 75 #[.pointer (some ⟨b, 0, none⟩)] w fun e w' => e = .returned (.int .i64 (l.length : Int)) ∧ w' = w := by
 have := Tryz.Builder_Len_f b b _ w h
 rwa [Lib.byteCells_length] at this
theorem sb_str {b : Nat} {l : List UInt8} {w : World} (h : SB b l w) : Calls Tryz.prog 80 #[.pointer (some ⟨b, 0, none⟩)] w fun e w' => e = .returned (.string ⟨l.toArray⟩) ∧ Below b w w' :=
 (Tryz.Builder_String_any_f b b l w h (Nat.le_of_lt (SB.lt h))).mono fun e w' hh => ⟨hh.1, hh.2.2⟩
theorem addrQ (g o j : Nat) : (⟨g, o, none⟩ : Addr).add j = ⟨g, o + j, none⟩ := by
 unfold Addr.add
 split
 ·rename_i h; subst h; rfl
 ·rfl
theorem sb_byte {b : Nat} {l : List UInt8} {w : World} (h : SB b l w) (c : UInt8) (z : Int) (hz : z = (c.toNat : Int)) (hlen : l.length + 1 ≤ 140737488355328) :
  Calls Tryz.prog 74 #[.pointer (some ⟨b, 0, none⟩), .int .u8 z] w fun e w' => e = .returned .nilIface ∧ SB b (l ++ [c]) w' ∧ Below b w w' := by
 obtain ⟨i0, hi, hz0, hz1, hz2⟩ := info_parts info5
 have HZ := LH hz
 clear hz
 have HH := LH (copyCheck_any b _ w h)
 have HL := LH h.lt
 have hcl : (Lib.byteCells l).length = l.length := Lib.byteCells_length l
 obtain ⟨bs, hbs⟩ : ∃ bs, Lib.byteCells l = bs := ⟨_, rfl⟩
 rw [hbs] at HH hcl
 have HBS := LH hbs
 have HCL := LH hcl
 clear h hbs hcl
 go_enter Tryz.func74, Tryz.ntmps74
 go_wp2_with (go_at_call 106; refine HH.out.mono ?_)
 rintro e w1 ⟨rfl, h1, hb1⟩
 obtain ⟨hB, v, hbk, hown, hne⟩ := h1
 have c0 : w1.cell? ⟨b, 0, none⟩ = some (.pointer (some ⟨b, 0, none⟩)) := by rw [Lib.cell_of_heap hbk]; rfl
 have c1 : w1.cell? ⟨b, 1, none⟩ = some v := by rw [Lib.cell_of_heap hbk]; rfl
 go_wp2_with (at_builtin; refine wpList_append_ownF _ rfl _ _ 23 rfl b 5 i0 (.int .u8 0) 1 1 Tryz.underlying23 hi hz0 hz1 hz2 rfl (by decide) _ _ _ rfl (hown.alloc _) ⟨w1.heap.size, 0, none⟩ 1 1 [.int .u8 z] rfl rfl ?c1 ?c2 ?c3 ?c4 ?c5 ?_)
 case c1 =>
  intro j u hj
  match j, hj with
  | 0, hj => simp at hj; subst hj; simp [Addr.add]
 case c2 => intro u hu; simp at hu; subst hu; rfl
 case c3 => have := HCL.out; unfold maxLen; omega
 case c4 => have := HCL.out; omega
 case c5 => have := hb1.size; have := HL.out; simp; omega
 intro v' w2 hown' hgrow _
 have hlt : b < w1.heap.size := blk_lt hbk
 have hb2 : w2.heap[b]? = some (.cells #[.pointer (some ⟨b, 0, none⟩), v] 118 (0, 0)) := by
  rw [hgrow.block b (by simp; omega) (fun e => hne e.symm), Lib.alloc_old w1 _ b hlt]
  exact hbk
 have d0 : w2.cell? ⟨b, 0, none⟩ = some (.pointer (some ⟨b, 0, none⟩)) := by rw [Lib.cell_of_heap hb2]; rfl
 have d1 : w2.cell? ⟨b, 1, none⟩ = some v := by rw [Lib.cell_of_heap hb2]; rfl
 have f1 : w2.frozen? ⟨b, 1, none⟩ = false := Lib.frozen_of_heap hb2 1
 obtain ⟨g, cap, rfl⟩ : ∃ g cap, v' = .slice (some ⟨g, 0, none⟩) (bs.length + 1) cap := by
  rcases hown'.2 with ⟨_, h0⟩ | ⟨g, cap, cur, fz, hv, _⟩
  ·omega
  ·exact ⟨g, cap, hv⟩
 have HX := LH (show SB b (l ++ [c]) (w2.setCell ⟨b, 1, none⟩ (.slice (some ⟨g, 0, none⟩) (bs.length + 1) cap)) from .inr (by
  have := Lib.BuilderAtF.put (T := 118) (e := 5) hB hb2 (bs' := bs ++ [.int .u8 z]) (by simpa using hown') (by decide)
  rw [Lib.byteCells_append, HBS.out]
  rw [HZ.out] at this
  exact this))
 have HY := LH (show Below b w (w2.setCell ⟨b, 1, none⟩ (.slice (some ⟨g, 0, none⟩) (bs.length + 1) cap)) from ((hb1.alloc (by have := hb1.size; have := HL.out; omega) _).grown hgrow (by have := hb1.size; have := HL.out; simp; omega) (fun k hk => (hown.lt k hk).1)).setCell (p := ⟨b, 1, none⟩) hB _)
 go_wp2
 go_ret
 exact ⟨rfl, HX.out, HY.out⟩
theorem sb_text {b : Nat} {l : List UInt8} {w : World} (h : SB b l w) (s : ByteArray) (hlen : l.length + s.size ≤ 140737488355328) :
  Calls Tryz.prog 79 #[.pointer (some ⟨b, 0, none⟩), .string s] w fun e w' => e = .returned (.tuple #[.int .i64 s.size, .nilIface]) ∧ SB b (l ++ s.data.toList) w' ∧ Below b w w' := by
 obtain ⟨i0, hi, hz0, hz1, hz2⟩ := info_parts info5
 have HH := LH (copyCheck_any b _ w h)
 have HL := LH h.lt
 have hcl : (Lib.byteCells l).length = l.length := Lib.byteCells_length l
 obtain ⟨bs, hbs⟩ : ∃ bs, Lib.byteCells l = bs := ⟨_, rfl⟩
 rw [hbs] at HH hcl
 have HBS := LH hbs
 have HCL := LH hcl
 clear h hbs hcl
 go_enter Tryz.func79, Tryz.ntmps79
 go_wp2_with (go_at_call 106; refine HH.out.mono ?_)
 rintro e w1 ⟨rfl, h1, hb1⟩
 obtain ⟨hB, v, hbk, hown, hne⟩ := h1
 have c0 : w1.cell? ⟨b, 0, none⟩ = some (.pointer (some ⟨b, 0, none⟩)) := by rw [Lib.cell_of_heap hbk]; rfl
 have c1 : w1.cell? ⟨b, 1, none⟩ = some v := by rw [Lib.cell_of_heap hbk]; rfl
 go_wp2_with (at_builtin; refine Lib.wpList_append_own_stringF _ rfl _ _ 23 9 rfl b 5 i0 Tryz.underlying23 Tryz.underlying9 hi hz0 hz1 hz2 _ _ _ rfl hown s rfl ?c3 ?c4 ?c5 ?_)
 case c3 => have := HCL.out; unfold maxLen; omega
 case c4 => have := HCL.out; omega
 case c5 => have := hb1.size; have := HL.out; omega
 intro v' w2 hown' hgrow _
 have hlt : b < w1.heap.size := blk_lt hbk
 have hb2 : w2.heap[b]? = some (.cells #[.pointer (some ⟨b, 0, none⟩), v] 118 (0, 0)) := by
  rw [hgrow.block b (by omega) (fun e => hne e.symm)]
  exact hbk
 have d0 : w2.cell? ⟨b, 0, none⟩ = some (.pointer (some ⟨b, 0, none⟩)) := by rw [Lib.cell_of_heap hb2]; rfl
 have d1 : w2.cell? ⟨b, 1, none⟩ = some v := by rw [Lib.cell_of_heap hb2]; rfl
 have f1 : w2.frozen? ⟨b, 1, none⟩ = false := Lib.frozen_of_heap hb2 1
 have hx0 : SB b (l ++ s.data.toList) (w2.setCell ⟨b, 1, none⟩ v') := .inr (by
  have := Lib.BuilderAtF.put (T := 118) (e := 5) hB hb2 (bs' := bs ++ Lib.strCells s) (by simpa [Lib.strCells_length] using hown') (by decide)
  rw [Lib.byteCells_append, HBS.out]
  exact this)
 have hy0 : Below b w (w2.setCell ⟨b, 1, none⟩ v') := (hb1.grown hgrow (by have := hb1.size; have := HL.out; omega) (fun k hk => (hown.lt k hk).1)).setCell (p := ⟨b, 1, none⟩) hB _
 have HX := LH hx0
 have HY := LH hy0
 obtain ⟨A, n, cap, rfl⟩ : ∃ A n cap, v' = .slice A n cap := by
  rcases hown'.2 with ⟨hv, h0⟩ | ⟨g, cap, cur, fz, hv, _⟩
  ·exact ⟨none, 0, 0, hv⟩
  ·exact ⟨_, _, cap, hv⟩
 clear hx0 hy0
 go_wp2
 go_ret2
 exact ⟨rfl, HX.out, HY.out⟩
theorem sb_row {b : Nat} {l : List UInt8} {w : World} (h : SB b l w) (g o m cp : Nat) (t : List UInt8) (hm : t.length = m) (hg : g < b) (hr : RD w g o t) (hlen : l.length + t.length ≤ 140737488355328) :
  Calls Tryz.prog 168 #[.pointer (some ⟨b, 0, none⟩), .slice (some ⟨g, o, none⟩) m cp] w fun e w' => e = .returned (.tuple #[.int .i64 m, .nilIface]) ∧ SB b (l ++ t) w' ∧ Below b w w' := by
 obtain ⟨i0, hi, hz0, hz1, hz2⟩ := info_parts info5
 have HM := LH hm
 have HR := LH hr
 have HG := LH hg
 clear hm hr hg
 have HH := LH (copyCheck_any b _ w h)
 have HL := LH h.lt
 have hcl : (Lib.byteCells l).length = l.length := Lib.byteCells_length l
 obtain ⟨bs, hbs⟩ : ∃ bs, Lib.byteCells l = bs := ⟨_, rfl⟩
 rw [hbs] at HH hcl
 have HBS := LH hbs
 have HCL := LH hcl
 clear h hbs hcl
 go_enter Tryz.func168, Tryz.ntmps168
 go_wp2_with (go_at_call 106; refine HH.out.mono ?_)
 rintro e w1 ⟨rfl, h1, hb1⟩
 obtain ⟨hB, v, hbk, hown, hne⟩ := h1
 have c0 : w1.cell? ⟨b, 0, none⟩ = some (.pointer (some ⟨b, 0, none⟩)) := by rw [Lib.cell_of_heap hbk]; rfl
 have c1 : w1.cell? ⟨b, 1, none⟩ = some v := by rw [Lib.cell_of_heap hbk]; rfl
 go_wp2_with (at_builtin; refine wpList_append_ownF _ rfl _ _ 23 rfl b 5 i0 (.int .u8 0) 1 1 Tryz.underlying23 hi hz0 hz1 hz2 rfl (by decide) _ _ _ rfl hown ⟨g, o, none⟩ m cp (Lib.byteCells t) rfl ?c0 ?c1 ?c2 ?c3 ?c4 ?c5 ?_)
 case c0 => have := HM.out; rw [bc_len]; omega
 case c1 =>
  intro j u hj
  simp only [Lib.byteCells, List.getElem?_map, Option.map_eq_some_iff] at hj
  obtain ⟨x, hx, rfl⟩ := hj
  rw [addrQ]
  exact (hb1.cell (p := ⟨g, o + j, none⟩) HG.out).trans (HR.out j x hx)
 case c2 => exact Lib.byteCells_one _
 case c3 => have := HCL.out; have := HM.out; unfold maxLen; omega
 case c4 => have := HCL.out; have := HM.out; omega
 case c5 => have := hb1.size; have := HL.out; omega
 intro v' w2 hown' hgrow _
 have hlt : b < w1.heap.size := blk_lt hbk
 have hb2 : w2.heap[b]? = some (.cells #[.pointer (some ⟨b, 0, none⟩), v] 118 (0, 0)) := by
  rw [hgrow.block b (by omega) (fun e => hne e.symm)]
  exact hbk
 have d0 : w2.cell? ⟨b, 0, none⟩ = some (.pointer (some ⟨b, 0, none⟩)) := by rw [Lib.cell_of_heap hb2]; rfl
 have d1 : w2.cell? ⟨b, 1, none⟩ = some v := by rw [Lib.cell_of_heap hb2]; rfl
 have f1 : w2.frozen? ⟨b, 1, none⟩ = false := Lib.frozen_of_heap hb2 1
 have hx0 : SB b (l ++ t) (w2.setCell ⟨b, 1, none⟩ v') := .inr (by
  have hlen2 : (bs ++ Lib.byteCells t).length = bs.length + m := by rw [List.length_append, bc_len, HM.out]
  have := Lib.BuilderAtF.put (T := 118) (e := 5) hB hb2 (bs' := bs ++ Lib.byteCells t) (by rw [hlen2]; exact hown') (by decide)
  rw [Lib.byteCells_append, HBS.out]
  exact this)
 have hy0 : Below b w (w2.setCell ⟨b, 1, none⟩ v') := (hb1.grown hgrow (by have := hb1.size; have := HL.out; omega) (fun k hk => (hown.lt k hk).1)).setCell (p := ⟨b, 1, none⟩) hB _
 have HX := LH hx0
 have HY := LH hy0
 obtain ⟨A, n, cap, rfl⟩ : ∃ A n cap, v' = .slice A n cap := by
  rcases hown'.2 with ⟨hv, h0⟩ | ⟨g, cap, cur, fz, hv, _⟩
  ·exact ⟨none, 0, 0, hv⟩
  ·exact ⟨_, _, cap, hv⟩
 clear hx0 hy0
 go_wp2
 go_ret2
 exact ⟨rfl, HX.out, HY.out⟩
end Go.Proofs.YtpfkgpcnhdkkbaaGreatDoor
