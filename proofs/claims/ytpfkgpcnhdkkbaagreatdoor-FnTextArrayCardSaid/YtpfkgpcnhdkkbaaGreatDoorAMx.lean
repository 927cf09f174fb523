/- spec.extID, spec.extSorted on texts in rising order, and the two functions that ExtText makes. -/
import Derived.Test.YtpfkgpcnhdkkbaaGreatDoorAGl
import Derived.Test.YtpfkgpcnhdkkbaaGreatDoorAGt
import Derived.Test.YtpfkgpcnhdkkbaaGreatDoorAMf
import Derived.Test.YtpfkgpcnhdkkbaaGreatDoorAMi
import Derived.Test.YtpfkgpcnhdkkbaaGreatDoorAB6
import Derived.Test.YtpfkgpcnhdkkbaaGreatDoorAMp
import Derived.Test.YtpfkgpcnhdkkbaaGreatDoorAMc
import Derived.Test.YtpfkgpcnhdkkbaaGreatDoorASa
import Derived.Test.YtpfkgpcnhdkkbaaGreatDoorAMq
namespace Go.Proofs.YtpfkgpcnhdkkbaaGreatDoor
set_option maxHeartbeats 8000000
open Go.RowKit
set_option linter.unusedVariables false
set_option linter.unusedSimpArgs false
set_option maxRecDepth 100000
theorem hexd_digit : ∀ k : Fin 16, hexd k.val = Lib.Hx.digit k.val := by decide +kernel
theorem hex2_enc (b : UInt8) : (hex2B b.toNat).data.toList = Lib.Hx.encode [b] := by
 have := b.toNat_lt
 have h1 := hexd_digit ⟨b.toNat / 16, by omega⟩
 have h2 := hexd_digit ⟨b.toNat % 16, by omega⟩
 simp only at h1 h2
 simp [hex2B, Lib.Hx.encode, h1, h2]
theorem enc_snoc (l : List UInt8) (k : Nat) (b : UInt8) (h : l[k]? = some b) : Lib.Hx.encode (l.take (k + 1)) = Lib.Hx.encode (l.take k) ++ Lib.Hx.encode [b] := by
 rw [List.take_add_one, h]
 simp [Lib.Hx.encode, List.flatMap_append]
theorem extID_any (n : Nat) (l : List UInt8) (A : Option Addr) (c : Nat) (w : World) (hn : l.length = n) (hl : n ≤ 100000) (hr : RB w A l) : Calls Tryz.prog 33 #[.slice A n c] w fun e w' => e = .returned (.string ⟨([34] ++ Lib.Hx.encode l ++ [34]).toArray⟩) ∧ Below w.heap.size w w' := by
 have HN := LH hn
 have HR := LH hr
 clear hn hr
 go_enter Tryz.func33, Tryz.ntmps33
 go_wp2_with fail
 go_loopw [3, 8] (fun s i wr => ∃ (k : Nat) (t : ByteArray), k ≤ n ∧ i = .int .i64 k ∧ s = .string t ∧ t.size ≤ 2 * k + 1 ∧ Hid (t = ⟨([34] ++ Lib.Hx.encode (l.take k)).toArray⟩) ∧ Hid (Below w.heap.size w wr)) (fun _ i _ => n - (intOf i).toNat)
 case atStart => exact ⟨0, ⟨#[34]⟩, Nat.zero_le _, rfl, rfl, by simp [ByteArray.size], rfl, Below.refl _ _⟩
 case round =>
  obtain ⟨k, t, hk, rfl, rfl, hts, HT, HB⟩ := hrel
  by_cases hlt : k < n
  ·obtain ⟨b, hb⟩ : ∃ b, l[k]? = some b := ⟨_, List.getElem?_eq_getElem (by have := HN.out; omega)⟩
   obtain ⟨ad, rfl, hcell⟩ := HR.out (by have := HN.out; omega)
   have hsp := rb_spot HR.out (by have := HN.out; omega) rfl
   obtain ⟨g, o, sp⟩ := ad
   obtain rfl : sp = none := hsp
   have hc0 := hcell k b hb
   rw [addrP] at hc0
   have hc := (HB.out.cell (World.block_lt_of_cell? w _ hc0)).trans hc0
   have hbl := b.toNat_lt
   have HSN := LH (enc_snoc l k b hb)
   have HH := LH (hex2_enc b)
   have hsz : (hex2B b.toNat).size = 2 := rfl
   obtain ⟨q, hq⟩ : ∃ q, b.toNat = q := ⟨_, rfl⟩
   rw [hq] at hc hbl HH hsz
   have HX := LH (fun W => extHex_any q (by omega) W)
   obtain ⟨hx, hhx⟩ : ∃ hx, hex2B q = hx := ⟨_, rfl⟩
   rw [hhx] at HX HH hsz
   clear hcell hc0 hb hq hhx
   go_wp2_with (go_at_call 32; refine (HX.out _).mono ?_; rintro e w2 ⟨rfl, hb2⟩)
   go_roundw
   case rel => exact ⟨k + 1, t ++ hx, by omega, by go_num, rfl, by rw [ByteArray.size_append]; omega, by
    show _ = _
    rw [HSN.out, ← HH.out, HT.out]
    apply ByteArray.ext
    simp, HB.out.trans (hb2.mono HB.out.size)⟩
   case measure => simp [intOf]; omega
  ·obtain rfl : k = n := by omega
   go_wp2_with fail
   go_ret
   refine ⟨?_, HB.out⟩
   have h1 := HT.out
   rw [List.take_of_length_le (by have := HN.out; omega)] at h1
   rw [h1]
   refine congrArg (fun x => Ending.returned (.string x)) ?_
   apply ByteArray.ext
   simp
theorem bytesW (s : ByteArray) (w : World) : (∀ j, j < s.size → (Lib.bytesWorld w 5 s).cell? ⟨w.heap.size, j, none⟩ = some (.int .u8 ((s.data.toList.getD j 0).toNat : Int))) ∧ Below w.heap.size w (Lib.bytesWorld w 5 s) ∧ w.heap.size < (Lib.bytesWorld w 5 s).heap.size :=
 ⟨fun j hj => Lib.bytesWorld_cell w 5 s j hj, ⟨rfl, rfl, rfl, by rw [Lib.bytesWorld_size]; omega, fun j hj => Lib.bytesWorld_at_old w 5 s j hj⟩, by rw [Lib.bytesWorld_size]; omega⟩
theorem extSorted_any (s : ByteArray) (hs : s.size ≤ 100000) (hr : Rising s.data.toList) (w : World) : Calls Tryz.prog 35 #[.string s] w fun e w' => e = .returned (.string s) ∧ Below w.heap.size w w' := by
 obtain ⟨hcell, hb, hlt0⟩ := bytesW s w
 obtain ⟨W1, hW1⟩ : ∃ W1, Lib.bytesWorld w 5 s = W1 := ⟨_, rfl⟩
 obtain ⟨C, hC⟩ : ∃ C, grownCap w s.size 0 5 = C := ⟨_, rfl⟩
 have hrun := conv923 w s
 rw [hW1, hC] at hrun
 rw [hW1] at hcell hb hlt0
 obtain ⟨n, hn⟩ : ∃ n, s.size = n := ⟨_, rfl⟩
 have hl : s.data.toList.length = n := by rw [Array.length_toList]; exact hn
 rw [hn] at hrun hcell hs
 have hback : ∀ q, (convert 23 9 (.slice (some ⟨w.heap.size, 0, none⟩) n C)).run Tryz.prog (W1.drewN q) = .ok (.string s) (W1.drewN q) := by
  intro q
  rw [← hn]
  refine Lib.run_convert_whole (P := Tryz.prog) (W1.drewN q) 23 5 9 Tryz.underlying23 Tryz.underlying5 Tryz.underlying9 w.heap.size 0 s ?_ C
  intro i hi
  rw [Nat.zero_add]
  refine (hcell i (by omega)).trans ?_
  have hil : i < s.data.toList.length := by omega
  rw [List.getD_eq_getElem?_getD, List.getElem?_eq_getElem hil]
  rfl
 have hpair : ∀ k, 0 < k → k < n → ¬ (s.data.toList.getD k 0).toNat < (s.data.toList.getD (k - 1) 0).toNat := by
  intro k h0 hk
  have h2 := List.pairwise_iff_getElem.1 hr.2 (k - 1) k (by omega) (by omega) (by omega)
  rw [List.getD_eq_getElem?_getD, List.getD_eq_getElem?_getD, List.getElem?_eq_getElem (by omega : k < s.data.toList.length), List.getElem?_eq_getElem (by omega : k - 1 < s.data.toList.length)]
  simp only [Option.getD_some]
  omega
 have HB := LH hb
 have HC := LH hcell
 have HP := LH hpair
 have HBK := LH hback
 have HLT := LH hlt0
 clear hW1 hC hn hl hr hb hcell hpair hback hlt0
 go_enter Tryz.func35, Tryz.ntmps35
 go_wp2_with fail
 go_loopw [10] (fun i wr => ∃ (k q : Nat), k ≤ n ∧ i = .int .i64 k ∧ wr = W1.drewN q) (fun i _ => n - (intOf i).toNat)
 case atStart => exact ⟨0, 0, Nat.zero_le _, rfl, rfl⟩
 case round =>
  obtain ⟨k, q, hk, rfl, hwr⟩ := hrel
  have hbk := HBK.out q
  rw [← hwr] at hbk
  by_cases hlt : k < n
  ·by_cases h0 : k = 0
   ·have HWR := LH hwr
    have H0 := LH h0
    have hd : decide ((0 : Int) < (k : Int)) = false := by simp; omega
    have hd2 : decide (0 < k) = false := by simp; omega
    clear hwr hbk h0
    go_wp2_with fail
    refine wp_loop_rounds 1 ?_
    rw [rounds_succ]
    go_wp2_with fail
    go_quiet (fail)
    go_wp2_with fail
    go_roundw
    case rel => exact ⟨k + 1, q + nq, by omega, by go_num, by rw [HWR.out, World.drewN_drewN]⟩
    case measure => simp [intOf]; omega
   ·have HWR := LH hwr
    have hp := HP.out k (by omega) hlt
    have c0 := HC.out k hlt
    have c1 := HC.out (k - 1) (by omega)
    obtain ⟨x, hx⟩ : ∃ x, (s.data.toList.getD k 0).toNat = x := ⟨_, rfl⟩
    obtain ⟨y, hy⟩ : ∃ x, (s.data.toList.getD (k - 1) 0).toNat = x := ⟨_, rfl⟩
    rw [hx] at c0 hp
    rw [hy] at c1 hp
    obtain ⟨k', rfl⟩ : ∃ k', k = k' + 1 := ⟨k - 1, by omega⟩
    rw [show k' + 1 - 1 = k' from rfl] at c1
    have d0 : wr.cell? ⟨w.heap.size, k' + 1, none⟩ = some (.int .u8 (x : Int)) := by rw [hwr]; exact c0
    have d1 : wr.cell? ⟨w.heap.size, k', none⟩ = some (.int .u8 (y : Int)) := by rw [hwr]; exact c1
    have hd : decide ((0 : Int) < ((k' : Int) + 1)) = true := decide_eq_true (by omega)
    have hxy : decide (x < y) = false := by simp; omega
    have hxy2 : decide ((x : Int) < (y : Int)) = false := by simp; omega
    clear hwr hbk h0 hx hy hp c0 c1
    go_wp2_with fail
    refine wp_loop_rounds 1 ?_
    rw [rounds_succ]
    go_wp2_with fail
    go_quiet (fail)
    go_wp2_with fail
    go_roundw
    case rel => exact ⟨k' + 1 + 1, q + nq, by omega, by go_num, by rw [HWR.out, World.drewN_drewN]⟩
    case measure => simp [intOf]; omega
  ·obtain rfl : k = n := by omega
   have HWR := LH hwr
   clear hwr
   go_wp2_with fail
   go_ret
   refine ⟨rfl, ?_⟩
   rw [HWR.out]
   exact below_drn HB.out q
set_option maxHeartbeats 8000000
theorem str_any (s : ByteArray) (esc : Bool) (g : Nat) (W : World) (hs : s.size ≤ 1000000000) (hu : UT s) (hc : W.cell? ⟨g, 0, none⟩ = some (.bool esc)) :
  Calls Tryz.prog 23 #[.string s, .pointer (some ⟨g, 0, none⟩)] W fun e w' => e = .returned (.string (soutB esc s)) ∧ Below W.heap.size W w' := by
 have HX := LH (fun W => extString_any s esc W hs hu)
 go_enter Tryz.func23, Tryz.ntmps23
 go_wp2_with (go_at_call 24; refine (HX.out _).mono ?_; rintro e w1 ⟨rfl, hb⟩)
 go_ret
 exact ⟨rfl, hb⟩
def wrapB (nm s : ByteArray) : ByteArray := ⟨#[123, 34]⟩ ++ nm ++ ⟨#[34, 58]⟩ ++ s ++ ⟨#[125]⟩
theorem wrap_any (nm s : ByteArray) (W : World) (h1 : nm.size ≤ 1000) (h2 : s.size ≤ 1000000000000) :
  Calls Tryz.prog 25 #[.string nm, .string s] W fun e w' => e = .returned (.tuple #[.string (wrapB nm s), .bool true]) ∧ W = w' := by
 go_enter Tryz.func25, Tryz.ntmps25
 go_wp2_with fail
 go_ret2
 exact ⟨rfl, rfl⟩
def xW (kind : Int) (text more : ByteArray) (n : Int) (bits high : Nat) (bv kv : Value) (esc : Bool) (w : World) : World :=
 (w.alloc (.cells #[.int .i64 kind, .string text, .string more, .int .i64 n, .int .u64 (bits : Int), .int .u64 (high : Int), bv, kv] 26)).alloc (.cells #[.bool esc] 4)
theorem xW_size (kind : Int) (text more : ByteArray) (n : Int) (bits high : Nat) (bv kv : Value) (esc : Bool) (w : World) : (xW kind text more n bits high bv kv esc w).heap.size = w.heap.size + 2 := by simp [xW]
theorem xW_below (kind : Int) (text more : ByteArray) (n : Int) (bits high : Nat) (bv kv : Value) (esc : Bool) (w : World) : Below w.heap.size w (xW kind text more n bits high bv kv esc w) := (below_allocB w _).trans ((below_allocB _ _).mono (by simp))
theorem xW_cell (kind : Int) (text more : ByteArray) (n : Int) (bits high : Nat) (bv kv : Value) (esc : Bool) (w : World) (i : Nat) (W : World) (hW : Below (xW kind text more n bits high bv kv esc w).heap.size (xW kind text more n bits high bv kv esc w) W) :
  W.cell? ⟨w.heap.size, i, none⟩ = (#[.int .i64 kind, .string text, .string more, .int .i64 n, .int .u64 (bits : Int), .int .u64 (high : Int), bv, kv] : Array Value)[i]? := by
 rw [hW.cell (p := ⟨w.heap.size, i, none⟩) (by rw [xW_size]; show w.heap.size < _; omega)]
 exact blk_cell ((Below.heap_alloc _ _ w.heap.size (by simp)).trans (heap_alloc_new w _)) i
theorem xW_esc (kind : Int) (text more : ByteArray) (n : Int) (bits high : Nat) (bv kv : Value) (esc : Bool) (w : World) (W : World) (hW : Below (xW kind text more n bits high bv kv esc w).heap.size (xW kind text more n bits high bv kv esc w) W) :
  W.cell? ⟨w.heap.size + 1, 0, none⟩ = some (.bool esc) := by
 rw [hW.cell (p := ⟨w.heap.size + 1, 0, none⟩) (by rw [xW_size]; show w.heap.size + 1 < _; omega)]
 have h := heap_alloc_new (w.alloc (.cells #[.int .i64 kind, .string text, .string more, .int .i64 n, .int .u64 (bits : Int), .int .u64 (high : Int), bv, kv] 26)) (.cells #[.bool esc] 4)
 rw [show (w.alloc (.cells #[.int .i64 kind, .string text, .string more, .int .i64 n, .int .u64 (bits : Int), .int .u64 (high : Int), bv, kv] 26)).heap.size = w.heap.size + 1 from by simp] at h
 exact blk_cell h 0
theorem soutB_le (esc : Bool) (s : ByteArray) (hs : s.size ≤ 300) (hu : UT s) : (soutB esc s).size ≤ 1000000 := by
 show (sout esc s).toArray.size ≤ _
 rw [List.size_toArray, ← jout_eq esc s hu]
 have := jout_len esc s
 omega
theorem isInf_0 (b : Nat) (v : Bool) (w : World) (h : fBig (bits .andNot .u64 b 9223372036854775808).toNat = v) : Calls Tryz.prog 29 #[.float .f64 b, .int .i64 0] w fun e w' => e = .returned (.bool v) ∧ w = w' := by
 subst h
 exact isInf_zero b w
theorem ext_undefined (text more : ByteArray) (n : Int) (bits high : Nat) (bv kv : Value) (canon esc : Bool) (w : World)  :
  Calls Tryz.prog 10 #[valV 6 text more n bits high bv kv, .bool canon, .bool esc] w fun e w' => e = .returned (.tuple #[.string (wrapB ⟨#[36, 117, 110, 100, 101, 102, 105, 110, 101, 100]⟩ ⟨#[116, 114, 117, 101]⟩), .bool true]) ∧ Below w.heap.size w w' := by
 unfold valV
 have HB := LH (xW_below 6 text more n bits high bv kv esc w)
 unfold xW at HB
 go_enter Tryz.func10, Tryz.ntmps10
 go_wp2_with (first | (go_at_call 25; refine (wrap_any _ _ _ (by decide) (by decide)).mono ?_; rintro e w0 ⟨rfl, hw0⟩; obtain rfl := hw0))
 go_ret2
 exact ⟨rfl, HB.out⟩
theorem ext_min (text more : ByteArray) (n : Int) (bits high : Nat) (bv kv : Value) (canon esc : Bool) (w : World)  :
  Calls Tryz.prog 10 #[valV 255 text more n bits high bv kv, .bool canon, .bool esc] w fun e w' => e = .returned (.tuple #[.string (wrapB ⟨#[36, 109, 105, 110, 75, 101, 121]⟩ ⟨#[49]⟩), .bool true]) ∧ Below w.heap.size w w' := by
 unfold valV
 have HB := LH (xW_below 255 text more n bits high bv kv esc w)
 unfold xW at HB
 go_enter Tryz.func10, Tryz.ntmps10
 go_wp2_with (first | (go_at_call 25; refine (wrap_any _ _ _ (by decide) (by decide)).mono ?_; rintro e w0 ⟨rfl, hw0⟩; obtain rfl := hw0))
 go_ret2
 exact ⟨rfl, HB.out⟩
theorem ext_max (text more : ByteArray) (n : Int) (bits high : Nat) (bv kv : Value) (canon esc : Bool) (w : World)  :
  Calls Tryz.prog 10 #[valV 127 text more n bits high bv kv, .bool canon, .bool esc] w fun e w' => e = .returned (.tuple #[.string (wrapB ⟨#[36, 109, 97, 120, 75, 101, 121]⟩ ⟨#[49]⟩), .bool true]) ∧ Below w.heap.size w w' := by
 unfold valV
 have HB := LH (xW_below 127 text more n bits high bv kv esc w)
 unfold xW at HB
 go_enter Tryz.func10, Tryz.ntmps10
 go_wp2_with (first | (go_at_call 25; refine (wrap_any _ _ _ (by decide) (by decide)).mono ?_; rintro e w0 ⟨rfl, hw0⟩; obtain rfl := hw0))
 go_ret2
 exact ⟨rfl, HB.out⟩
theorem ext_null (text more : ByteArray) (n : Int) (bits high : Nat) (bv kv : Value) (canon esc : Bool) (w : World)  :
  Calls Tryz.prog 10 #[valV 10 text more n bits high bv kv, .bool canon, .bool esc] w fun e w' => e = .returned (.tuple #[.string (⟨#[110, 117, 108, 108]⟩), .bool true]) ∧ Below w.heap.size w w' := by
 unfold valV
 have HB := LH (xW_below 10 text more n bits high bv kv esc w)
 unfold xW at HB
 go_enter Tryz.func10, Tryz.ntmps10
 go_wp2_with fail
 go_ret2
 exact ⟨rfl, HB.out⟩
theorem ext_true (text more : ByteArray) (n : Int) (bits high : Nat) (bv kv : Value) (canon esc : Bool) (w : World) (hn : n = 1) :
  Calls Tryz.prog 10 #[valV 8 text more n bits high bv kv, .bool canon, .bool esc] w fun e w' => e = .returned (.tuple #[.string (⟨#[116, 114, 117, 101]⟩), .bool true]) ∧ Below w.heap.size w w' := by
 unfold valV
 have HB := LH (xW_below 8 text more n bits high bv kv esc w)
 unfold xW at HB
 subst hn
 go_enter Tryz.func10, Tryz.ntmps10
 go_wp2_with fail
 go_ret2
 exact ⟨rfl, HB.out⟩
theorem ext_false (text more : ByteArray) (n : Int) (bits high : Nat) (bv kv : Value) (canon esc : Bool) (w : World) (hn : n = 0) :
  Calls Tryz.prog 10 #[valV 8 text more n bits high bv kv, .bool canon, .bool esc] w fun e w' => e = .returned (.tuple #[.string (⟨#[102, 97, 108, 115, 101]⟩), .bool true]) ∧ Below w.heap.size w w' := by
 unfold valV
 have HB := LH (xW_below 8 text more n bits high bv kv esc w)
 unfold xW at HB
 subst hn
 go_enter Tryz.func10, Tryz.ntmps10
 go_wp2_with fail
 go_ret2
 exact ⟨rfl, HB.out⟩
theorem ext_string (text more : ByteArray) (n : Int) (bits high : Nat) (bv kv : Value) (canon esc : Bool) (w : World) (hs : text.size ≤ 300) (hu : UT text) :
  Calls Tryz.prog 10 #[valV 2 text more n bits high bv kv, .bool canon, .bool esc] w fun e w' => e = .returned (.tuple #[.string (soutB esc text), .bool true]) ∧ Below w.heap.size w w' := by
 unfold valV
 have HC := LH (fun (W : World) (hW : Below (xW 2 text more n bits high bv kv esc w).heap.size (xW 2 text more n bits high bv kv esc w) W) => str_any text esc (w.heap.size + 1) W (by omega) hu (xW_esc 2 text more n bits high bv kv esc w W hW))
 have HB := LH (xW_below 2 text more n bits high bv kv esc w)
 unfold xW at HB HC
 go_enter Tryz.func10, Tryz.ntmps10
 go_wp2_with (first | (go_at_call 23; refine (HC.out _ (Below.refl _ _)).mono ?_; rintro e w1 ⟨rfl, hb1⟩))
 go_ret2
 exact ⟨rfl, HB.out.trans (hb1.mono HB.out.size)⟩
theorem ext_js (text more : ByteArray) (n : Int) (bits high : Nat) (bv kv : Value) (canon esc : Bool) (w : World) (hs : text.size ≤ 300) (hu : UT text) :
  Calls Tryz.prog 10 #[valV 13 text more n bits high bv kv, .bool canon, .bool esc] w fun e w' => e = .returned (.tuple #[.string (wrapB ⟨#[36, 99, 111, 100, 101]⟩ (soutB esc text)), .bool true]) ∧ Below w.heap.size w w' := by
 unfold valV
 have HC := LH (fun (W : World) (hW : Below (xW 13 text more n bits high bv kv esc w).heap.size (xW 13 text more n bits high bv kv esc w) W) => str_any text esc (w.heap.size + 1) W (by omega) hu (xW_esc 13 text more n bits high bv kv esc w W hW))
 have hsz : (soutB esc text).size ≤ 1000000 := soutB_le esc text hs hu
 generalize soutB esc text = st at HC hsz ⊢
 have HB := LH (xW_below 13 text more n bits high bv kv esc w)
 unfold xW at HB HC
 go_enter Tryz.func10, Tryz.ntmps10
 go_wp2_with (first | (go_at_call 23; refine (HC.out _ (Below.refl _ _)).mono ?_; rintro e w1 ⟨rfl, hb1⟩) | (go_at_call 25; refine (wrap_any _ _ _ (by decide) (by omega)).mono ?_; rintro e w0 ⟨rfl, hw0⟩; obtain rfl := hw0))
 go_ret2
 exact ⟨rfl, HB.out.trans (hb1.mono HB.out.size)⟩
theorem ext_symbol (text more : ByteArray) (n : Int) (bits high : Nat) (bv kv : Value) (canon esc : Bool) (w : World) (hs : text.size ≤ 300) (hu : UT text) :
  Calls Tryz.prog 10 #[valV 14 text more n bits high bv kv, .bool canon, .bool esc] w fun e w' => e = .returned (.tuple #[.string (wrapB ⟨#[36, 115, 121, 109, 98, 111, 108]⟩ (soutB esc text)), .bool true]) ∧ Below w.heap.size w w' := by
 unfold valV
 have HC := LH (fun (W : World) (hW : Below (xW 14 text more n bits high bv kv esc w).heap.size (xW 14 text more n bits high bv kv esc w) W) => str_any text esc (w.heap.size + 1) W (by omega) hu (xW_esc 14 text more n bits high bv kv esc w W hW))
 have hsz : (soutB esc text).size ≤ 1000000 := soutB_le esc text hs hu
 generalize soutB esc text = st at HC hsz ⊢
 have HB := LH (xW_below 14 text more n bits high bv kv esc w)
 unfold xW at HB HC
 go_enter Tryz.func10, Tryz.ntmps10
 go_wp2_with (first | (go_at_call 23; refine (HC.out _ (Below.refl _ _)).mono ?_; rintro e w1 ⟨rfl, hb1⟩) | (go_at_call 25; refine (wrap_any _ _ _ (by decide) (by omega)).mono ?_; rintro e w0 ⟨rfl, hw0⟩; obtain rfl := hw0))
 go_ret2
 exact ⟨rfl, HB.out.trans (hb1.mono HB.out.size)⟩
theorem ext_date (text more : ByteArray) (n : Int) (bits high : Nat) (bv kv : Value) (canon esc : Bool) (w : World) (tx : ByteArray) (hts : tx.size ≤ 1000) (cx : ∀ W, Below (xW 9 text more n bits high bv kv esc w).heap.size (xW 9 text more n bits high bv kv esc w) W → Calls Tryz.prog 34 #[.int .i64 n, .int .i64 10] W fun e w' => e = .returned (.string tx) ∧ Below W.heap.size W w') :
  Calls Tryz.prog 10 #[valV 9 text more n bits high bv kv, .bool canon, .bool esc] w fun e w' => e = .returned (.tuple #[.string (wrapB ⟨#[36, 100, 97, 116, 101]⟩ (⟨#[123, 34, 36, 110, 117, 109, 98, 101, 114, 76, 111, 110, 103, 34, 58, 34]⟩ ++ tx ++ ⟨#[34, 125]⟩)), .bool true]) ∧ Below w.heap.size w w' := by
 unfold valV
 have HC := LH cx
 clear cx
 have HB := LH (xW_below 9 text more n bits high bv kv esc w)
 unfold xW at HB HC
 go_enter Tryz.func10, Tryz.ntmps10
 go_wp2_with (first | (go_at_call 34; refine (HC.out _ (Below.refl _ _)).mono ?_; rintro e w1 ⟨rfl, hb1⟩) | (go_at_call 25; refine (wrap_any _ _ _ (by decide) (by simp only [ByteArray.size_append]; have h1 : (⟨#[123, 34, 36, 110, 117, 109, 98, 101, 114, 76, 111, 110, 103, 34, 58, 34]⟩ : ByteArray).size = 16 := rfl; have h2 : (⟨#[34, 125]⟩ : ByteArray).size = 2 := rfl; omega)).mono ?_; rintro e w0 ⟨rfl, hw0⟩; obtain rfl := hw0))
 go_ret2
 exact ⟨rfl, HB.out.trans (hb1.mono HB.out.size)⟩
theorem ext_id (text more : ByteArray) (n : Int) (bits high : Nat) (A : Option Addr) (m c : Nat) (kv : Value) (canon esc : Bool) (w : World) (tx : ByteArray) (hts : tx.size ≤ 1000) (cx : ∀ W, Below (xW 7 text more n bits high (.slice A m c) kv esc w).heap.size (xW 7 text more n bits high (.slice A m c) kv esc w) W → Calls Tryz.prog 33 #[.slice A m c] W fun e w' => e = .returned (.string tx) ∧ Below W.heap.size W w') :
  Calls Tryz.prog 10 #[valV 7 text more n bits high (.slice A m c) kv, .bool canon, .bool esc] w fun e w' => e = .returned (.tuple #[.string (wrapB ⟨#[36, 111, 105, 100]⟩ tx), .bool true]) ∧ Below w.heap.size w w' := by
 unfold valV
 have HC := LH cx
 clear cx
 have HB := LH (xW_below 7 text more n bits high (.slice A m c) kv esc w)
 unfold xW at HB HC
 go_enter Tryz.func10, Tryz.ntmps10
 go_wp2_with (first | (go_at_call 33; refine (HC.out _ (Below.refl _ _)).mono ?_; rintro e w1 ⟨rfl, hb1⟩) | (go_at_call 25; refine (wrap_any _ _ _ (by decide) (by omega)).mono ?_; rintro e w0 ⟨rfl, hw0⟩; obtain rfl := hw0))
 go_ret2
 exact ⟨rfl, HB.out.trans (hb1.mono HB.out.size)⟩
theorem ext_dec (text more : ByteArray) (n : Int) (bits high : Nat) (bv kv : Value) (canon esc : Bool) (w : World) (tx : ByteArray) (hts : tx.size ≤ 1000) (kd : Int) (ng : Bool) (ds : ByteArray) (ex : Int) (c1 : ∀ W, Calls Tryz.prog 38 #[.int .u64 (high : Int), .int .u64 (bits : Int)] W fun e w' => e = .returned (decV kd ng ds ex) ∧ Below W.heap.size W w') (c2 : ∀ W, Calls Tryz.prog 37 #[decV kd ng ds ex] W fun e w' => e = .returned (.string tx) ∧ Below W.heap.size W w') :
  Calls Tryz.prog 10 #[valV 19 text more n bits high bv kv, .bool canon, .bool esc] w fun e w' => e = .returned (.tuple #[.string (wrapB ⟨#[36, 110, 117, 109, 98, 101, 114, 68, 101, 99, 105, 109, 97, 108]⟩ (⟨#[34]⟩ ++ tx ++ ⟨#[34]⟩)), .bool true]) ∧ Below w.heap.size w w' := by
 unfold valV
 have C1 := LH c1
 have C2 := LH c2
 clear c1 c2
 unfold decV at C1 C2
 have HB := LH (xW_below 19 text more n bits high bv kv esc w)
 unfold xW at HB
 go_enter Tryz.func10, Tryz.ntmps10
 go_wp2_with (first | (go_at_call 38; refine (C1.out _).mono ?_; rintro e w1 ⟨rfl, hb1⟩) | (go_at_call 37; refine (C2.out _).mono ?_; rintro e w2 ⟨rfl, hb2⟩) | (go_at_call 25; refine (wrap_any _ _ _ (by decide) (by simp only [ByteArray.size_append]; have h1 : (⟨#[34]⟩ : ByteArray).size = 1 := rfl; omega)).mono ?_; rintro e w0 ⟨rfl, hw0⟩; obtain rfl := hw0))
 go_ret2
 exact ⟨rfl, HB.out.trans ((hb1.trans (hb2.mono hb1.size)).mono HB.out.size)⟩
theorem ext_dbl_fin (text more : ByteArray) (n : Int) (bits high : Nat) (bv kv : Value) (esc : Bool) (w : World) (x : ByteArray) (hx : x.size ≤ 1000) (cx : ∀ W, Below (xW 1 text more n bits high bv kv esc w).heap.size (xW 1 text more n bits high bv kv esc w) W → Calls Tryz.prog 27 #[.float .f64 bits] W fun e w' => e = .returned (.string x) ∧ Below W.heap.size W w') (h28 : fNaN bits = false) (h29 : fBig ((Go.bits .andNot .u64 bits 9223372036854775808).toNat) = false) :
  Calls Tryz.prog 10 #[valV 1 text more n bits high bv kv, .bool false, .bool esc] w fun e w' => e = .returned (.tuple #[.string (x), .bool true]) ∧ Below w.heap.size w w' := by
 unfold valV
 have HC := LH cx
 clear cx
 have HB := LH (xW_below 1 text more n bits high bv kv esc w)
 unfold xW at HB HC
 go_enter Tryz.func10, Tryz.ntmps10
 go_wp2_with (first | (go_at_call 27; refine (HC.out _ (Below.refl _ _)).mono ?_; rintro e w1 ⟨rfl, hb1⟩) | (go_at_call 28; refine (isNaN_s bits false _ h28).mono ?_; rintro e w2 ⟨rfl, rfl⟩) | (go_at_call 29; refine (isInf_0 bits false _ h29).mono ?_; rintro e w3 ⟨rfl, rfl⟩))
 go_ret2
 exact ⟨rfl, HB.out.trans (hb1.mono HB.out.size)⟩
theorem ext_dbl_nan (text more : ByteArray) (n : Int) (bits high : Nat) (bv kv : Value) (esc : Bool) (w : World) (x : ByteArray) (hx : x.size ≤ 1000) (cx : ∀ W, Below (xW 1 text more n bits high bv kv esc w).heap.size (xW 1 text more n bits high bv kv esc w) W → Calls Tryz.prog 27 #[.float .f64 bits] W fun e w' => e = .returned (.string x) ∧ Below W.heap.size W w') (h28 : fNaN bits = true) :
  Calls Tryz.prog 10 #[valV 1 text more n bits high bv kv, .bool false, .bool esc] w fun e w' => e = .returned (.tuple #[.string (wrapB ⟨#[36, 110, 117, 109, 98, 101, 114, 68, 111, 117, 98, 108, 101]⟩ (⟨#[34]⟩ ++ x ++ ⟨#[34]⟩)), .bool true]) ∧ Below w.heap.size w w' := by
 unfold valV
 have HC := LH cx
 clear cx
 have HB := LH (xW_below 1 text more n bits high bv kv esc w)
 unfold xW at HB HC
 go_enter Tryz.func10, Tryz.ntmps10
 go_wp2_with (first | (go_at_call 27; refine (HC.out _ (Below.refl _ _)).mono ?_; rintro e w1 ⟨rfl, hb1⟩) | (go_at_call 28; refine (isNaN_s bits true _ h28).mono ?_; rintro e w2 ⟨rfl, rfl⟩) | (go_at_call 25; refine (wrap_any _ _ _ (by decide) (by simp only [ByteArray.size_append]; have h1 : (⟨#[34]⟩ : ByteArray).size = 1 := rfl; omega)).mono ?_; rintro e w0 ⟨rfl, hw0⟩; obtain rfl := hw0))
 go_ret2
 exact ⟨rfl, HB.out.trans (hb1.mono HB.out.size)⟩
theorem ext_dbl_inf (text more : ByteArray) (n : Int) (bits high : Nat) (bv kv : Value) (esc : Bool) (w : World) (x : ByteArray) (hx : x.size ≤ 1000) (cx : ∀ W, Below (xW 1 text more n bits high bv kv esc w).heap.size (xW 1 text more n bits high bv kv esc w) W → Calls Tryz.prog 27 #[.float .f64 bits] W fun e w' => e = .returned (.string x) ∧ Below W.heap.size W w') (h28 : fNaN bits = false) (h29 : fBig (Go.bits .andNot .u64 bits 9223372036854775808).toNat = true) :
  Calls Tryz.prog 10 #[valV 1 text more n bits high bv kv, .bool false, .bool esc] w fun e w' => e = .returned (.tuple #[.string (wrapB ⟨#[36, 110, 117, 109, 98, 101, 114, 68, 111, 117, 98, 108, 101]⟩ (⟨#[34]⟩ ++ x ++ ⟨#[34]⟩)), .bool true]) ∧ Below w.heap.size w w' := by
 unfold valV
 have HC := LH cx
 clear cx
 have HB := LH (xW_below 1 text more n bits high bv kv esc w)
 unfold xW at HB HC
 go_enter Tryz.func10, Tryz.ntmps10
 go_wp2_with (first | (go_at_call 27; refine (HC.out _ (Below.refl _ _)).mono ?_; rintro e w1 ⟨rfl, hb1⟩) | (go_at_call 28; refine (isNaN_s bits false _ h28).mono ?_; rintro e w2 ⟨rfl, rfl⟩) | (go_at_call 29; refine (isInf_0 bits true _ h29).mono ?_; rintro e w3 ⟨rfl, rfl⟩) | (go_at_call 25; refine (wrap_any _ _ _ (by decide) (by simp only [ByteArray.size_append]; have h1 : (⟨#[34]⟩ : ByteArray).size = 1 := rfl; omega)).mono ?_; rintro e w0 ⟨rfl, hw0⟩; obtain rfl := hw0))
 go_ret2
 exact ⟨rfl, HB.out.trans (hb1.mono HB.out.size)⟩
set_option maxHeartbeats 8000000
theorem ext_bin (text more : ByteArray) (n : Int) (bits high : Nat) (A : Option Addr) (m c : Nat) (kv : Value) (canon esc : Bool) (w : World) (b64 hx : ByteArray) (h1 : b64.size ≤ 100000) (h2 : hx.size ≤ 100) (c1 : (∀ W, Below (xW 5 text more n bits high (.slice A m c) kv esc w).heap.size (xW 5 text more n bits high (.slice A m c) kv esc w) W → Calls Tryz.prog 31 #[.slice A m c] W fun e w' => e = .returned (.string b64) ∧ Below W.heap.size W w')) (c2 : ∀ W, Calls Tryz.prog 32 #[.int .u8 (n % 256)] W fun e w' => e = .returned (.string hx) ∧ Below W.heap.size W w') :
  Calls Tryz.prog 10 #[valV 5 text more n bits high (.slice A m c) kv, .bool canon, .bool esc] w fun e w' => e = .returned (.tuple #[.string (wrapB ⟨#[36, 98, 105, 110, 97, 114, 121]⟩ (⟨#[123, 34, 98, 97, 115, 101, 54, 52, 34, 58, 34]⟩ ++ b64 ++ ⟨#[34, 44, 34, 115, 117, 98, 84, 121, 112, 101, 34, 58, 34]⟩ ++ hx ++ ⟨#[34, 125]⟩)), .bool true]) ∧ Below w.heap.size w w' := by
 unfold valV
 obtain ⟨z, hzz⟩ : ∃ z, ⟨#[123, 34, 98, 97, 115, 101, 54, 52, 34, 58, 34]⟩ ++ b64 ++ ⟨#[34, 44, 34, 115, 117, 98, 84, 121, 112, 101, 34, 58, 34]⟩ ++ hx ++ ⟨#[34, 125]⟩ = z := ⟨_, rfl⟩
 have hzs : z.size ≤ 1000000 := by rw [← hzz]; simp only [ByteArray.size_append]; have : (⟨#[123, 34, 98, 97, 115, 101, 54, 52, 34, 58, 34]⟩ : ByteArray).size = 11 := rfl; have : (⟨#[34, 44, 34, 115, 117, 98, 84, 121, 112, 101, 34, 58, 34]⟩ : ByteArray).size = 13 := rfl; have : (⟨#[34, 125]⟩ : ByteArray).size = 2 := rfl; omega
 obtain ⟨q, hq⟩ : ∃ q, wrapB ⟨#[36, 98, 105, 110, 97, 114, 121]⟩ z = q := ⟨_, rfl⟩
 have CW := LH (fun (W : World) => show Calls Tryz.prog 25 #[.string ⟨#[36, 98, 105, 110, 97, 114, 121]⟩, .string z] W fun e w' => e = .returned (.tuple #[.string q, .bool true]) ∧ Below W.heap.size W w' from hq ▸ (wrap_any ⟨#[36, 98, 105, 110, 97, 114, 121]⟩ z W (by decide) (by omega)).mono fun e W2 ⟨q1, q2⟩ => ⟨q1, q2 ▸ Below.refl _ _⟩)
 rw [hzz, hq]
 have HZ := LH hzz
 clear hzz hq
 have HB := LH (xW_below 5 text more n bits high (.slice A m c) kv esc w)
 have HX := LH (xW_cell 5 text more n bits high (.slice A m c) kv esc w)
 have HE := LH (xW_esc 5 text more n bits high (.slice A m c) kv esc w)
 have C1 := LH c1
 have C2 := LH c2
 clear c1 c2
 have hz := xW_size 5 text more n bits high (.slice A m c) kv esc w
 obtain ⟨X, hXd⟩ : ∃ X, xW 5 text more n bits high (.slice A m c) kv esc w = X := ⟨_, rfl⟩
 rw [hXd] at HB HX HE hz C1
 have HD := LH hXd
 unfold xW at HD
 clear hXd
 go_enter Tryz.func10, Tryz.ntmps10
 go_wp2_with fail
 rw [HD.out]
 refine wp_region_quiet_cls (C := fun W => Below X.heap.size X W) (by kernel_rfl) (by kernel_rfl) (below_dr X 1) ?_
 refine quiet_val (.func (.func 25) #[] #[]) (by kernel_rfl) (fun W hW => by go_simp) ?_
 refine quiet_val (.pointer (some ⟨w.heap.size, 6, none⟩)) (by kernel_rfl) (fun W hW => by go_simp) ?_
 refine quiet_val (.slice A m c) (by kernel_rfl) (fun W hW => by have h := HX.out 6 W hW; go_simp) ?_
 refine quiet_enter (.string b64) 31 #[.slice A m c] (by kernel_rfl) (fun W hW => by go_simp) (fun W hW => (C1.out W hW).mono fun e W2 ⟨q1, q2⟩ => ⟨q1, hW.trans (q2.mono hW.size)⟩) ?_
 refine quiet_val (.string (⟨#[123, 34, 98, 97, 115, 101, 54, 52, 34, 58, 34]⟩ ++ b64)) (by kernel_rfl) (fun W hW => by go_simp; omega) ?_
 refine quiet_val (.string (⟨#[123, 34, 98, 97, 115, 101, 54, 52, 34, 58, 34]⟩ ++ b64 ++ ⟨#[34, 44, 34, 115, 117, 98, 84, 121, 112, 101, 34, 58, 34]⟩)) (by kernel_rfl) (fun W hW => by go_simp; omega) ?_
 refine quiet_val (.pointer (some ⟨w.heap.size, 3, none⟩)) (by kernel_rfl) (fun W hW => by go_simp) ?_
 refine quiet_val (.int .i64 n) (by kernel_rfl) (fun W hW => by have h := HX.out 3 W hW; go_simp) ?_
 refine quiet_val (.int .u8 (n % 256)) (by kernel_rfl) (fun W hW => by go_simp; rw [IntKind.wrap_u8]) ?_
 refine quiet_enter (.string hx) 32 #[.int .u8 (n % 256)] (by kernel_rfl) (fun W hW => by go_simp) (fun W hW => (C2.out W).mono fun e W2 ⟨q1, q2⟩ => ⟨q1, hW.trans (q2.mono hW.size)⟩) ?_
 refine quiet_val (.string (⟨#[123, 34, 98, 97, 115, 101, 54, 52, 34, 58, 34]⟩ ++ b64 ++ ⟨#[34, 44, 34, 115, 117, 98, 84, 121, 112, 101, 34, 58, 34]⟩ ++ hx)) (by kernel_rfl) (fun W hW => by go_simp; omega) ?_
 refine quiet_val (.string z) (by kernel_rfl) (fun W hW => by have hz1 := HZ.out; go_simp; omega) ?_
 refine quiet_enter (.tuple #[.string q, .bool true]) 25 #[.string ⟨#[36, 98, 105, 110, 97, 114, 121]⟩, .string z] (by kernel_rfl) (fun W hW => by go_simp) (fun W hW => (CW.out W).mono fun e W2 ⟨q1, q2⟩ => ⟨q1, hW.trans (q2.mono hW.size)⟩) ?_
 refine quiet_val (.string q) (by kernel_rfl) (fun W hW => by go_simp) ?_
 refine quiet_val (.bool true) (by kernel_rfl) (fun W hW => by go_simp) ?_
 refine quiet_val (.string q) (by kernel_rfl) (fun W hW => by go_simp) ?_
 refine quiet_val (.bool true) (by kernel_rfl) (fun W hW => by go_simp) ?_
 refine wpQuiet_nil ?_
 intro W hW
 go_simp
 go_wp2_with fail
 go_ret2
 exact ⟨rfl, HB.out.trans (hW.mono HB.out.size)⟩
theorem ext_regex (text more : ByteArray) (n : Int) (bits high : Nat) (bv : Value) (kv : Value) (canon esc : Bool) (w : World) (s1 s2 so : ByteArray) (h1 : s1.size ≤ 100000) (h2 : s2.size ≤ 100000) (c1 : (∀ W, Below (xW 11 text more n bits high bv kv esc w).heap.size (xW 11 text more n bits high bv kv esc w) W → Calls Tryz.prog 23 #[.string text, .pointer (some ⟨w.heap.size + 1, 0, none⟩)] W fun e w' => e = .returned (.string s1) ∧ Below W.heap.size W w')) (c2 : ∀ W, Calls Tryz.prog 35 #[.string more] W fun e w' => e = .returned (.string so) ∧ Below W.heap.size W w') (c3 : (∀ W, Below (xW 11 text more n bits high bv kv esc w).heap.size (xW 11 text more n bits high bv kv esc w) W → Calls Tryz.prog 23 #[.string so, .pointer (some ⟨w.heap.size + 1, 0, none⟩)] W fun e w' => e = .returned (.string s2) ∧ Below W.heap.size W w')) :
  Calls Tryz.prog 10 #[valV 11 text more n bits high bv kv, .bool canon, .bool esc] w fun e w' => e = .returned (.tuple #[.string (wrapB ⟨#[36, 114, 101, 103, 117, 108, 97, 114, 69, 120, 112, 114, 101, 115, 115, 105, 111, 110]⟩ (⟨#[123, 34, 112, 97, 116, 116, 101, 114, 110, 34, 58]⟩ ++ s1 ++ ⟨#[44, 34, 111, 112, 116, 105, 111, 110, 115, 34, 58]⟩ ++ s2 ++ ⟨#[125]⟩)), .bool true]) ∧ Below w.heap.size w w' := by
 unfold valV
 obtain ⟨z, hzz⟩ : ∃ z, ⟨#[123, 34, 112, 97, 116, 116, 101, 114, 110, 34, 58]⟩ ++ s1 ++ ⟨#[44, 34, 111, 112, 116, 105, 111, 110, 115, 34, 58]⟩ ++ s2 ++ ⟨#[125]⟩ = z := ⟨_, rfl⟩
 have hzs : z.size ≤ 1000000 := by rw [← hzz]; simp only [ByteArray.size_append]; have : (⟨#[123, 34, 112, 97, 116, 116, 101, 114, 110, 34, 58]⟩ : ByteArray).size = 11 := rfl; have : (⟨#[44, 34, 111, 112, 116, 105, 111, 110, 115, 34, 58]⟩ : ByteArray).size = 11 := rfl; have : (⟨#[125]⟩ : ByteArray).size = 1 := rfl; omega
 obtain ⟨q, hq⟩ : ∃ q, wrapB ⟨#[36, 114, 101, 103, 117, 108, 97, 114, 69, 120, 112, 114, 101, 115, 115, 105, 111, 110]⟩ z = q := ⟨_, rfl⟩
 have CW := LH (fun (W : World) => show Calls Tryz.prog 25 #[.string ⟨#[36, 114, 101, 103, 117, 108, 97, 114, 69, 120, 112, 114, 101, 115, 115, 105, 111, 110]⟩, .string z] W fun e w' => e = .returned (.tuple #[.string q, .bool true]) ∧ Below W.heap.size W w' from hq ▸ (wrap_any ⟨#[36, 114, 101, 103, 117, 108, 97, 114, 69, 120, 112, 114, 101, 115, 115, 105, 111, 110]⟩ z W (by decide) (by omega)).mono fun e W2 ⟨q1, q2⟩ => ⟨q1, q2 ▸ Below.refl _ _⟩)
 rw [hzz, hq]
 have HZ := LH hzz
 clear hzz hq
 have HB := LH (xW_below 11 text more n bits high bv kv esc w)
 have HX := LH (xW_cell 11 text more n bits high bv kv esc w)
 have HE := LH (xW_esc 11 text more n bits high bv kv esc w)
 have C1 := LH c1
 have C2 := LH c2
 have C3 := LH c3
 clear c1 c2 c3
 have hz := xW_size 11 text more n bits high bv kv esc w
 obtain ⟨X, hXd⟩ : ∃ X, xW 11 text more n bits high bv kv esc w = X := ⟨_, rfl⟩
 rw [hXd] at HB HX HE hz C1 C3
 have HD := LH hXd
 unfold xW at HD
 clear hXd
 go_enter Tryz.func10, Tryz.ntmps10
 go_wp2_with fail
 rw [HD.out]
 refine wp_region_quiet_cls (C := fun W => Below X.heap.size X W) (by kernel_rfl) (by kernel_rfl) (below_dr X 1) ?_
 refine quiet_val (.func (.func 25) #[] #[]) (by kernel_rfl) (fun W hW => by go_simp) ?_
 refine quiet_val (.func (.func 23) #[] #[.pointer (some ⟨w.heap.size + 1, 0, none⟩)]) (by kernel_rfl) (fun W hW => by go_simp) ?_
 refine quiet_val (.pointer (some ⟨w.heap.size, 1, none⟩)) (by kernel_rfl) (fun W hW => by go_simp) ?_
 refine quiet_val (.string text) (by kernel_rfl) (fun W hW => by have h := HX.out 1 W hW; go_simp) ?_
 refine quiet_enter (.string s1) 23 #[.string text, .pointer (some ⟨w.heap.size + 1, 0, none⟩)] (by kernel_rfl) (fun W hW => by go_simp) (fun W hW => (C1.out W hW).mono fun e W2 ⟨q1, q2⟩ => ⟨q1, hW.trans (q2.mono hW.size)⟩) ?_
 refine quiet_val (.string (⟨#[123, 34, 112, 97, 116, 116, 101, 114, 110, 34, 58]⟩ ++ s1)) (by kernel_rfl) (fun W hW => by go_simp; omega) ?_
 refine quiet_val (.string (⟨#[123, 34, 112, 97, 116, 116, 101, 114, 110, 34, 58]⟩ ++ s1 ++ ⟨#[44, 34, 111, 112, 116, 105, 111, 110, 115, 34, 58]⟩)) (by kernel_rfl) (fun W hW => by go_simp; omega) ?_
 refine quiet_val (.func (.func 23) #[] #[.pointer (some ⟨w.heap.size + 1, 0, none⟩)]) (by kernel_rfl) (fun W hW => by go_simp) ?_
 refine quiet_val (.pointer (some ⟨w.heap.size, 2, none⟩)) (by kernel_rfl) (fun W hW => by go_simp) ?_
 refine quiet_val (.string more) (by kernel_rfl) (fun W hW => by have h := HX.out 2 W hW; go_simp) ?_
 refine quiet_enter (.string so) 35 #[.string more] (by kernel_rfl) (fun W hW => by go_simp) (fun W hW => (C2.out W).mono fun e W2 ⟨q1, q2⟩ => ⟨q1, hW.trans (q2.mono hW.size)⟩) ?_
 refine quiet_enter (.string s2) 23 #[.string so, .pointer (some ⟨w.heap.size + 1, 0, none⟩)] (by kernel_rfl) (fun W hW => by go_simp) (fun W hW => (C3.out W hW).mono fun e W2 ⟨q1, q2⟩ => ⟨q1, hW.trans (q2.mono hW.size)⟩) ?_
 refine quiet_val (.string (⟨#[123, 34, 112, 97, 116, 116, 101, 114, 110, 34, 58]⟩ ++ s1 ++ ⟨#[44, 34, 111, 112, 116, 105, 111, 110, 115, 34, 58]⟩ ++ s2)) (by kernel_rfl) (fun W hW => by go_simp; omega) ?_
 refine quiet_val (.string z) (by kernel_rfl) (fun W hW => by have hz1 := HZ.out; go_simp; omega) ?_
 refine quiet_enter (.tuple #[.string q, .bool true]) 25 #[.string ⟨#[36, 114, 101, 103, 117, 108, 97, 114, 69, 120, 112, 114, 101, 115, 115, 105, 111, 110]⟩, .string z] (by kernel_rfl) (fun W hW => by go_simp) (fun W hW => (CW.out W).mono fun e W2 ⟨q1, q2⟩ => ⟨q1, hW.trans (q2.mono hW.size)⟩) ?_
 refine quiet_val (.string q) (by kernel_rfl) (fun W hW => by go_simp) ?_
 refine quiet_val (.bool true) (by kernel_rfl) (fun W hW => by go_simp) ?_
 refine quiet_val (.string q) (by kernel_rfl) (fun W hW => by go_simp) ?_
 refine quiet_val (.bool true) (by kernel_rfl) (fun W hW => by go_simp) ?_
 refine wpQuiet_nil ?_
 intro W hW
 go_simp
 go_wp2_with fail
 go_ret2
 exact ⟨rfl, HB.out.trans (hW.mono HB.out.size)⟩
theorem ext_ptr (text more : ByteArray) (n : Int) (bits high : Nat) (A : Option Addr) (m c : Nat) (kv : Value) (canon esc : Bool) (w : World) (s1 s2 : ByteArray) (h1 : s1.size ≤ 100000) (h2 : s2.size ≤ 100000) (c1 : (∀ W, Below (xW 12 text more n bits high (.slice A m c) kv esc w).heap.size (xW 12 text more n bits high (.slice A m c) kv esc w) W → Calls Tryz.prog 23 #[.string text, .pointer (some ⟨w.heap.size + 1, 0, none⟩)] W fun e w' => e = .returned (.string s1) ∧ Below W.heap.size W w')) (c2 : (∀ W, Below (xW 12 text more n bits high (.slice A m c) kv esc w).heap.size (xW 12 text more n bits high (.slice A m c) kv esc w) W → Calls Tryz.prog 33 #[.slice A m c] W fun e w' => e = .returned (.string s2) ∧ Below W.heap.size W w')) :
  Calls Tryz.prog 10 #[valV 12 text more n bits high (.slice A m c) kv, .bool canon, .bool esc] w fun e w' => e = .returned (.tuple #[.string (wrapB ⟨#[36, 100, 98, 80, 111, 105, 110, 116, 101, 114]⟩ (⟨#[123, 34, 36, 114, 101, 102, 34, 58]⟩ ++ s1 ++ ⟨#[44, 34, 36, 105, 100, 34, 58, 123, 34, 36, 111, 105, 100, 34, 58]⟩ ++ s2 ++ ⟨#[125, 125]⟩)), .bool true]) ∧ Below w.heap.size w w' := by
 unfold valV
 obtain ⟨z, hzz⟩ : ∃ z, ⟨#[123, 34, 36, 114, 101, 102, 34, 58]⟩ ++ s1 ++ ⟨#[44, 34, 36, 105, 100, 34, 58, 123, 34, 36, 111, 105, 100, 34, 58]⟩ ++ s2 ++ ⟨#[125, 125]⟩ = z := ⟨_, rfl⟩
 have hzs : z.size ≤ 1000000 := by rw [← hzz]; simp only [ByteArray.size_append]; have : (⟨#[123, 34, 36, 114, 101, 102, 34, 58]⟩ : ByteArray).size = 8 := rfl; have : (⟨#[44, 34, 36, 105, 100, 34, 58, 123, 34, 36, 111, 105, 100, 34, 58]⟩ : ByteArray).size = 15 := rfl; have : (⟨#[125, 125]⟩ : ByteArray).size = 2 := rfl; omega
 obtain ⟨q, hq⟩ : ∃ q, wrapB ⟨#[36, 100, 98, 80, 111, 105, 110, 116, 101, 114]⟩ z = q := ⟨_, rfl⟩
 have CW := LH (fun (W : World) => show Calls Tryz.prog 25 #[.string ⟨#[36, 100, 98, 80, 111, 105, 110, 116, 101, 114]⟩, .string z] W fun e w' => e = .returned (.tuple #[.string q, .bool true]) ∧ Below W.heap.size W w' from hq ▸ (wrap_any ⟨#[36, 100, 98, 80, 111, 105, 110, 116, 101, 114]⟩ z W (by decide) (by omega)).mono fun e W2 ⟨q1, q2⟩ => ⟨q1, q2 ▸ Below.refl _ _⟩)
 rw [hzz, hq]
 have HZ := LH hzz
 clear hzz hq
 have HB := LH (xW_below 12 text more n bits high (.slice A m c) kv esc w)
 have HX := LH (xW_cell 12 text more n bits high (.slice A m c) kv esc w)
 have HE := LH (xW_esc 12 text more n bits high (.slice A m c) kv esc w)
 have C1 := LH c1
 have C2 := LH c2
 clear c1 c2
 have hz := xW_size 12 text more n bits high (.slice A m c) kv esc w
 obtain ⟨X, hXd⟩ : ∃ X, xW 12 text more n bits high (.slice A m c) kv esc w = X := ⟨_, rfl⟩
 rw [hXd] at HB HX HE hz C1 C2
 have HD := LH hXd
 unfold xW at HD
 clear hXd
 go_enter Tryz.func10, Tryz.ntmps10
 go_wp2_with fail
 rw [HD.out]
 refine wp_region_quiet_cls (C := fun W => Below X.heap.size X W) (by kernel_rfl) (by kernel_rfl) (below_dr X 1) ?_
 refine quiet_val (.func (.func 25) #[] #[]) (by kernel_rfl) (fun W hW => by go_simp) ?_
 refine quiet_val (.func (.func 23) #[] #[.pointer (some ⟨w.heap.size + 1, 0, none⟩)]) (by kernel_rfl) (fun W hW => by go_simp) ?_
 refine quiet_val (.pointer (some ⟨w.heap.size, 1, none⟩)) (by kernel_rfl) (fun W hW => by go_simp) ?_
 refine quiet_val (.string text) (by kernel_rfl) (fun W hW => by have h := HX.out 1 W hW; go_simp) ?_
 refine quiet_enter (.string s1) 23 #[.string text, .pointer (some ⟨w.heap.size + 1, 0, none⟩)] (by kernel_rfl) (fun W hW => by go_simp) (fun W hW => (C1.out W hW).mono fun e W2 ⟨q1, q2⟩ => ⟨q1, hW.trans (q2.mono hW.size)⟩) ?_
 refine quiet_val (.string (⟨#[123, 34, 36, 114, 101, 102, 34, 58]⟩ ++ s1)) (by kernel_rfl) (fun W hW => by go_simp; omega) ?_
 refine quiet_val (.string (⟨#[123, 34, 36, 114, 101, 102, 34, 58]⟩ ++ s1 ++ ⟨#[44, 34, 36, 105, 100, 34, 58, 123, 34, 36, 111, 105, 100, 34, 58]⟩)) (by kernel_rfl) (fun W hW => by go_simp; omega) ?_
 refine quiet_val (.pointer (some ⟨w.heap.size, 6, none⟩)) (by kernel_rfl) (fun W hW => by go_simp) ?_
 refine quiet_val (.slice A m c) (by kernel_rfl) (fun W hW => by have h := HX.out 6 W hW; go_simp) ?_
 refine quiet_enter (.string s2) 33 #[.slice A m c] (by kernel_rfl) (fun W hW => by go_simp) (fun W hW => (C2.out W hW).mono fun e W2 ⟨q1, q2⟩ => ⟨q1, hW.trans (q2.mono hW.size)⟩) ?_
 refine quiet_val (.string (⟨#[123, 34, 36, 114, 101, 102, 34, 58]⟩ ++ s1 ++ ⟨#[44, 34, 36, 105, 100, 34, 58, 123, 34, 36, 111, 105, 100, 34, 58]⟩ ++ s2)) (by kernel_rfl) (fun W hW => by go_simp; omega) ?_
 refine quiet_val (.string z) (by kernel_rfl) (fun W hW => by have hz1 := HZ.out; go_simp; omega) ?_
 refine quiet_enter (.tuple #[.string q, .bool true]) 25 #[.string ⟨#[36, 100, 98, 80, 111, 105, 110, 116, 101, 114]⟩, .string z] (by kernel_rfl) (fun W hW => by go_simp) (fun W hW => (CW.out W).mono fun e W2 ⟨q1, q2⟩ => ⟨q1, hW.trans (q2.mono hW.size)⟩) ?_
 refine quiet_val (.string q) (by kernel_rfl) (fun W hW => by go_simp) ?_
 refine quiet_val (.bool true) (by kernel_rfl) (fun W hW => by go_simp) ?_
 refine quiet_val (.string q) (by kernel_rfl) (fun W hW => by go_simp) ?_
 refine quiet_val (.bool true) (by kernel_rfl) (fun W hW => by go_simp) ?_
 refine wpQuiet_nil ?_
 intro W hW
 go_simp
 go_wp2_with fail
 go_ret2
 exact ⟨rfl, HB.out.trans (hW.mono HB.out.size)⟩
theorem ext_ts (text more : ByteArray) (n : Int) (bits high : Nat) (bv : Value) (kv : Value) (canon esc : Bool) (w : World) (s1 s2 : ByteArray) (hb : bits < 18446744073709551616) (h1 : s1.size ≤ 100000) (h2 : s2.size ≤ 100000) (c1 : (∀ W, Below (xW 17 text more n bits high bv kv esc w).heap.size (xW 17 text more n bits high bv kv esc w) W → Calls Tryz.prog 36 #[.int .u64 ((bits / 4294967296 : Nat) : Int), .int .i64 10] W fun e w' => e = .returned (.string s1) ∧ Below W.heap.size W w')) (c2 : (∀ W, Below (xW 17 text more n bits high bv kv esc w).heap.size (xW 17 text more n bits high bv kv esc w) W → Calls Tryz.prog 36 #[.int .u64 ((bits % 4294967296 : Nat) : Int), .int .i64 10] W fun e w' => e = .returned (.string s2) ∧ Below W.heap.size W w')) :
  Calls Tryz.prog 10 #[valV 17 text more n bits high bv kv, .bool canon, .bool esc] w fun e w' => e = .returned (.tuple #[.string (wrapB ⟨#[36, 116, 105, 109, 101, 115, 116, 97, 109, 112]⟩ (⟨#[123, 34, 116, 34, 58]⟩ ++ s1 ++ ⟨#[44, 34, 105, 34, 58]⟩ ++ s2 ++ ⟨#[125]⟩)), .bool true]) ∧ Below w.heap.size w w' := by
 unfold valV
 obtain ⟨z, hzz⟩ : ∃ z, ⟨#[123, 34, 116, 34, 58]⟩ ++ s1 ++ ⟨#[44, 34, 105, 34, 58]⟩ ++ s2 ++ ⟨#[125]⟩ = z := ⟨_, rfl⟩
 have hzs : z.size ≤ 1000000 := by rw [← hzz]; simp only [ByteArray.size_append]; have : (⟨#[123, 34, 116, 34, 58]⟩ : ByteArray).size = 5 := rfl; have : (⟨#[44, 34, 105, 34, 58]⟩ : ByteArray).size = 5 := rfl; have : (⟨#[125]⟩ : ByteArray).size = 1 := rfl; omega
 obtain ⟨q, hq⟩ : ∃ q, wrapB ⟨#[36, 116, 105, 109, 101, 115, 116, 97, 109, 112]⟩ z = q := ⟨_, rfl⟩
 have CW := LH (fun (W : World) => show Calls Tryz.prog 25 #[.string ⟨#[36, 116, 105, 109, 101, 115, 116, 97, 109, 112]⟩, .string z] W fun e w' => e = .returned (.tuple #[.string q, .bool true]) ∧ Below W.heap.size W w' from hq ▸ (wrap_any ⟨#[36, 116, 105, 109, 101, 115, 116, 97, 109, 112]⟩ z W (by decide) (by omega)).mono fun e W2 ⟨q1, q2⟩ => ⟨q1, q2 ▸ Below.refl _ _⟩)
 rw [hzz, hq]
 have HZ := LH hzz
 clear hzz hq
 have HB := LH (xW_below 17 text more n bits high bv kv esc w)
 have HX := LH (xW_cell 17 text more n bits high bv kv esc w)
 have HE := LH (xW_esc 17 text more n bits high bv kv esc w)
 have C1 := LH c1
 have C2 := LH c2
 clear c1 c2
 have hz := xW_size 17 text more n bits high bv kv esc w
 obtain ⟨X, hXd⟩ : ∃ X, xW 17 text more n bits high bv kv esc w = X := ⟨_, rfl⟩
 rw [hXd] at HB HX HE hz C1 C2
 have HD := LH hXd
 unfold xW at HD
 clear hXd
 go_enter Tryz.func10, Tryz.ntmps10
 go_wp2_with fail
 rw [HD.out]
 refine wp_region_quiet_cls (C := fun W => Below X.heap.size X W) (by kernel_rfl) (by kernel_rfl) (below_dr X 1) ?_
 refine quiet_val (.func (.func 25) #[] #[]) (by kernel_rfl) (fun W hW => by go_simp) ?_
 refine quiet_val (.pointer (some ⟨w.heap.size, 4, none⟩)) (by kernel_rfl) (fun W hW => by go_simp) ?_
 refine quiet_val (.int .u64 (bits : Int)) (by kernel_rfl) (fun W hW => by have h := HX.out 4 W hW; go_simp) ?_
 refine quiet_val (.int .u64 ((bits / 4294967296 : Nat) : Int)) (by kernel_rfl) (fun W hW => by go_simp) ?_
 refine quiet_enter (.string s1) 36 #[.int .u64 ((bits / 4294967296 : Nat) : Int), .int .i64 10] (by kernel_rfl) (fun W hW => by go_simp) (fun W hW => (C1.out W hW).mono fun e W2 ⟨q1, q2⟩ => ⟨q1, hW.trans (q2.mono hW.size)⟩) ?_
 refine quiet_val (.string (⟨#[123, 34, 116, 34, 58]⟩ ++ s1)) (by kernel_rfl) (fun W hW => by go_simp; omega) ?_
 refine quiet_val (.string (⟨#[123, 34, 116, 34, 58]⟩ ++ s1 ++ ⟨#[44, 34, 105, 34, 58]⟩)) (by kernel_rfl) (fun W hW => by go_simp; omega) ?_
 refine quiet_val (.pointer (some ⟨w.heap.size, 4, none⟩)) (by kernel_rfl) (fun W hW => by go_simp) ?_
 refine quiet_val (.int .u64 (bits : Int)) (by kernel_rfl) (fun W hW => by have h := HX.out 4 W hW; go_simp) ?_
 refine quiet_val (.int .u64 ((bits % 4294967296 : Nat) : Int)) (by kernel_rfl) (fun W hW => by go_simp; rw [and32 bits hb]; omega) ?_
 refine quiet_enter (.string s2) 36 #[.int .u64 ((bits % 4294967296 : Nat) : Int), .int .i64 10] (by kernel_rfl) (fun W hW => by go_simp) (fun W hW => (C2.out W hW).mono fun e W2 ⟨q1, q2⟩ => ⟨q1, hW.trans (q2.mono hW.size)⟩) ?_
 refine quiet_val (.string (⟨#[123, 34, 116, 34, 58]⟩ ++ s1 ++ ⟨#[44, 34, 105, 34, 58]⟩ ++ s2)) (by kernel_rfl) (fun W hW => by go_simp; omega) ?_
 refine quiet_val (.string z) (by kernel_rfl) (fun W hW => by have hz1 := HZ.out; go_simp; omega) ?_
 refine quiet_enter (.tuple #[.string q, .bool true]) 25 #[.string ⟨#[36, 116, 105, 109, 101, 115, 116, 97, 109, 112]⟩, .string z] (by kernel_rfl) (fun W hW => by go_simp) (fun W hW => (CW.out W).mono fun e W2 ⟨q1, q2⟩ => ⟨q1, hW.trans (q2.mono hW.size)⟩) ?_
 refine quiet_val (.string q) (by kernel_rfl) (fun W hW => by go_simp) ?_
 refine quiet_val (.bool true) (by kernel_rfl) (fun W hW => by go_simp) ?_
 refine quiet_val (.string q) (by kernel_rfl) (fun W hW => by go_simp) ?_
 refine quiet_val (.bool true) (by kernel_rfl) (fun W hW => by go_simp) ?_
 refine wpQuiet_nil ?_
 intro W hW
 go_simp
 go_wp2_with fail
 go_ret2
 exact ⟨rfl, HB.out.trans (hW.mono HB.out.size)⟩
end Go.Proofs.YtpfkgpcnhdkkbaaGreatDoor
