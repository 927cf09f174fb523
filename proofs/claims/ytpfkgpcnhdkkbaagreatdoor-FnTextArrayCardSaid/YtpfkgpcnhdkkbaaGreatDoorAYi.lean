/- extCounts: what is known where it says yes; conditions: the counter's block lies above the value. -/
import Derived.Test.YtpfkgpcnhdkkbaaGreatDoorAMc
import Derived.Test.YtpfkgpcnhdkkbaaGreatDoorAGt
import Derived.Test.YtpfkgpcnhdkkbaaGreatDoorAGq
import Derived.Test.YtpfkgpcnhdkkbaaGreatDoorAMp
import Derived.Laws.RangeAny
namespace Go.Proofs.YtpfkgpcnhdkkbaaGreatDoor
set_option maxHeartbeats 8000000
open Go.RowKit
set_option linter.unusedVariables false
set_option linter.unusedSimpArgs false
set_option maxRecDepth 100000
structure GStep (g : Nat) (w w' : World) : Prop where
 os : w'.os = w.os
 tape : w'.tape = w.tape
 output : w'.output = w.output
 size : w.heap.size ≤ w'.heap.size
 block : ∀ k, k < w.heap.size → k ≠ g → w'.heap[k]? = w.heap[k]?
theorem GStep.trans {g : Nat} {a b c : World} (h : GStep g a b) (k : GStep g b c) : GStep g a c :=
 ⟨k.os.trans h.os, k.tape.trans h.tape, k.output.trans h.output, Nat.le_trans h.size k.size, fun i hi hg => (k.block i (Nat.lt_of_lt_of_le hi h.size) hg).trans (h.block i hi hg)⟩
theorem GStep.of_below {g : Nat} {w w' : World} (h : Below w.heap.size w w') : GStep g w w' := ⟨h.os, h.tape, h.output, h.size, fun k hk _ => h.block k hk⟩
theorem GStep.set (g : Nat) (w : World) (u : Value) : GStep g w (w.setCell ⟨g, 0, none⟩ u) :=
 have h := Below.setCell (B := g) (Below.refl g w) (p := ⟨g, 0, none⟩) (Nat.le_refl _) u
 ⟨h.os, h.tape, h.output, h.size, fun k _ hk => Below.heap_setCell w ⟨g, 0, none⟩ u k hk⟩
theorem GStep.cell {g : Nat} {w w' : World} (h : GStep g w w') {p : Addr} (hp : p.block < w.heap.size) (hg : p.block ≠ g) : w'.cell? p = w.cell? p := World.cell?_of_block (w := w) (h.block p.block hp hg)
theorem GStep.below {g B : Nat} {w w' : World} (h : GStep g w w') (hg : B ≤ g) (hB : B ≤ w.heap.size) : Below B w w' := ⟨h.os, h.tape, h.output, h.size, fun k hk => h.block k (by omega) (by omega)⟩
structure LS (g : Nat) (left : Int) (w0 W : World) : Prop where
 below : Below w0.heap.size w0 W
 ge : w0.heap.size ≤ g
 box : W.heap[g]? = some (.cells #[.int .i64 left] 3 (0, 0))
theorem LS.step {g : Nat} {left : Int} {w0 W W' : World} (h : LS g left w0 W) (hb : Below W.heap.size W W') : LS g left w0 W' :=
 ⟨h.below.trans (hb.mono h.below.size), h.ge, (hb.block g (blk_lt h.box)).trans h.box⟩
theorem LS.set {g : Nat} {left : Int} {w0 W : World} (h : LS g left w0 W) (z : Int) : LS g z w0 (W.setCell ⟨g, 0, none⟩ (.int .i64 z)) :=
 ⟨h.below.trans ((GStep.set g W (.int .i64 z)).below h.ge h.below.size), h.ge, blk_set h.box 0 _⟩
def CPost (w0 : World) (g n d : Nat) (t : VT d) (left : Int) (W : World) (e : Ending) (w' : World) : Prop :=
 ∃ v : Bool, e = .returned (.bool v) ∧ ∃ left' : Int, -1 ≤ left' ∧ left' < left ∧ (v = true → FitD n d t ∧ 0 ≤ left' ∧ (cntV d t : Int) + left' ≤ left) ∧ LS g left' w0 w' ∧ GStep g W w'
def CV (w0 : World) (g n d : Nat) : Prop := ∀ (t : VT d) (cs : List Value), IsV w0 d t cs → ∀ (left : Int) (W : World), 0 ≤ left → left ≤ 300 → LS g left w0 W →
 Calls Tryz.prog 21 #[.agg cs.toArray, .int .i64 (n : Int), .pointer (some ⟨g, 0, none⟩)] W (CPost w0 g n d t left W)
theorem ba_ne2 {a b : ByteArray} (h : ¬ a = b) : (a.toList == b.toList) = false := by
 rw [beq_eq_false_iff_ne, ByteArray.toList_eq, ByteArray.toList_eq]
 intro e
 refine h ?_
 obtain ⟨x⟩ := a
 obtain ⟨y⟩ := b
 rw [show x = y from Array.toList_inj.1 e]
theorem iterAt_below {k : Nat} {Y w : World} (h : Below k Y w) (s : ByteArray) (p : Nat) : Below k Y (w.iterAt k s p) :=
 ⟨h.os, h.tape, h.output, by rw [Lib.iterAt_size]; exact h.size, fun j hj => (Lib.iterAt_other w k j s p (by omega)).trans (h.block j hj)⟩
theorem ld_elem {w : World} {bb o : Nat} {name : ByteArray} {kk : Int} {tx mr : ByteArray} {en : Int} {vb vh : Nat} {B1 B2 : Option Addr} {m1 e1 m2 e2 : Nat}
  (hr : w.rangeAt bb o [.string name, .int .i64 kk, .string tx, .string mr, .int .i64 en, .int .u64 (vb : Int), .int .u64 (vh : Int), .slice B1 m1 e1, .slice B2 m2 e2]) :
  ∀ (ops : Array Oper) (Q : Exit → Act → World → Prop) (rest : List Oper) (a : Act) (op : Oper) (s : Nat), op.guard = none → op.op = .load 38 (.tmp s) → a.eval (.tmp s) = .pointer (some ⟨bb, o, none⟩) →
   wpList Tryz.prog ops Q rest (a.put op.dst (.agg #[.string name, .int .i64 kk, .string tx, .string mr, .int .i64 en, .int .u64 (vb : Int), .int .u64 (vh : Int), .slice B1 m1 e1, .slice B2 m2 e2])) w → wpList Tryz.prog ops Q (op :: rest) a w :=
 fun ops Q rest a op s h1 h2 h3 h => wpList_load_mid h1 38 (.tmp s) h2 bb o h3 _ _ hr Tryz.underlying38 rfl (by rw [info38s]; rfl) h
theorem counts_pre (w0 : World) (g : Nat) (left : Int) (W : World) (kind : Int) (text more : ByteArray) (vn : Int) (bits high : Nat) (bv kv : Value) (hls : LS g left w0 W) :
  ∃ X Y, W.alloc (.cells #[.int .i64 kind, .string text, .string more, .int .i64 vn, .int .u64 (bits : Int), .int .u64 (high : Int), bv, kv] 26) = X ∧ X.setCell ⟨g, 0, none⟩ (.int .i64 (left - 1)) = Y ∧ LS g (left - 1) w0 Y ∧ GStep g W Y ∧
   (∀ i v, (#[.int .i64 kind, .string text, .string more, .int .i64 vn, .int .u64 (bits : Int), .int .u64 (high : Int), bv, kv] : Array Value)[i]? = some v → Y.cell? ⟨W.heap.size, i, none⟩ = some v) ∧
   Y.cell? ⟨g, 0, none⟩ = some (.int .i64 (left - 1)) ∧ X.cell? ⟨g, 0, none⟩ = some (.int .i64 left) ∧ X.frozen? ⟨g, 0, none⟩ = false ∧ W.heap.size + 1 ≤ Y.heap.size := by
 obtain ⟨X, hX, hXb, hXs, hXc⟩ := box_cells W kind text more vn bits high bv kv
 have hlx := hls.step hXb
 have hly := hlx.set (left - 1)
 have hst := GStep.set g X (.int .i64 (left - 1))
 refine ⟨X, _, hX, rfl, hly, (GStep.of_below hXb).trans hst, fun i v hv => ?_, blk_cell hly.box 0, blk_cell hlx.box 0, blk_frozen hlx.box 0, by have := hst.size; omega⟩
 rw [hst.cell (p := ⟨W.heap.size, i, none⟩) (by rw [hXs]; simp) (by have := blk_lt hls.box; simp; omega)]
 exact hXc X (Below.refl _ _) i v hv
theorem counts_no (w0 : World) (g n d : Nat) (hn : n ≤ 1000) (IH : CV w0 g n d) (kind : Int) (text more : ByteArray) (vn : Int) (bits high : Nat) (b : List UInt8) (kids : List (ByteArray × VT d)) (A1 : Option Addr) (c1 : Nat) (A2 : Option Addr) (c2 : Nat) (hkv : KidsV w0 (IsV w0 d) (.slice A2 kids.length c2) kids) (hc2 : kids.length ≤ 140737488351232)
  (hbits : bits < 18446744073709551616) (hhigh : high < 18446744073709551616) (hts : text.size ≤ 140737488351232) (hms : more.size ≤ 140737488351232) (hbl : b.length ≤ 140737488351232)
  (left : Int) (W : World) (h0 : 0 ≤ left) (h300 : left ≤ 300) (hls : LS g left w0 W)
  (hno : left < 1 ∨ (1 ≤ left ∧ textB text = false) ∨ (1 ≤ left ∧ textB text = true ∧ textB more = false) ∨ (1 ≤ left ∧ textB text = true ∧ textB more = true ∧ 300 < b.length)) :
  Calls Tryz.prog 21 #[valV kind text more vn bits high (.slice A1 b.length c1) (.slice A2 kids.length c2), .int .i64 ((n + 1 : Nat) : Int), .pointer (some ⟨g, 0, none⟩)] W (CPost w0 g (n + 1) (d + 1) ⟨kind, text, more, vn, bits, high, b, kids⟩ left W) := by
 unfold valV
 obtain ⟨X, Y, hX, hY, hly, hgy, kc, kl, kx, kf, hYs⟩ := counts_pre w0 g left W kind text more vn bits high (.slice A1 b.length c1) (.slice A2 kids.length c2) hls
 have k0 := kc 0 _ rfl
 have k1 := kc 1 _ rfl
 have k2 := kc 2 _ rfl
 have k3 := kc 3 _ rfl
 have k4 := kc 4 _ rfl
 have k5 := kc 5 _ rfl
 have k6 := kc 6 _ rfl
 have k7 := kc 7 _ rfl
 have HLY := LH hly
 have HGY := LH hgy
 have HX := LH hX
 have HY := LH hY
 have HKV := LH hkv
 have HIH := LH IH
 have HKC := LH kc
 obtain ⟨N, hN⟩ : ∃ N : Int, ((n + 1 : Nat) : Int) = N := ⟨_, rfl⟩
 have hN0 : (N == 0) = false := by simp; omega
 have hN1 : N - 1 = (n : Int) := by omega
 have hNb : 1 ≤ N := by omega
 have hNc : N ≤ 1001 := by omega
 rw [hN]
 clear hN hX hY hly hgy hkv IH hls kc
 rcases hno with q | ⟨q, ht⟩ | ⟨q, ht, ht2⟩ | ⟨q, ht, ht2, q2⟩
 all_goals
  go_enter Tryz.func21, Tryz.ntmps21
  go_upto_region 1 with fail
  rw [HX.out]
  go_upto_region 2 with fail
  rw [HY.out]
  go_wp2_with (go_at_call 54; refine (text_ex _ (by omega) _).mono ?_; rintro e w' ⟨rfl, rfl⟩)
  go_ret
  exact ⟨false, rfl, left - 1, by omega, by omega, (fun h => by cases h), HLY.out, HGY.out⟩
theorem counts_other (w0 : World) (g n d : Nat) (hn : n ≤ 1000) (IH : CV w0 g n d) (kind : Int) (text more : ByteArray) (vn : Int) (bits high : Nat) (b : List UInt8) (kids : List (ByteArray × VT d)) (A1 : Option Addr) (c1 : Nat) (A2 : Option Addr) (c2 : Nat) (hkv : KidsV w0 (IsV w0 d) (.slice A2 kids.length c2) kids) (hc2 : kids.length ≤ 140737488351232)
  (hbits : bits < 18446744073709551616) (hhigh : high < 18446744073709551616) (hts : text.size ≤ 140737488351232) (hms : more.size ≤ 140737488351232) (hbl : b.length ≤ 140737488351232)
  (left : Int) (W : World) (h0 : 0 ≤ left) (h300 : left ≤ 300) (hls : LS g left w0 W)
  (hl : 1 ≤ left) (ht1 : textB text = true) (ht2 : textB more = true) (hb3 : b.length ≤ 300) (hk1 : (kind == 1) = false) (hk12 : (kind == 12) = false) (hk19 : (kind == 19) = false) (hk11 : (kind == 11) = false) :
  Calls Tryz.prog 21 #[valV kind text more vn bits high (.slice A1 b.length c1) (.slice A2 kids.length c2), .int .i64 ((n + 1 : Nat) : Int), .pointer (some ⟨g, 0, none⟩)] W (CPost w0 g (n + 1) (d + 1) ⟨kind, text, more, vn, bits, high, b, kids⟩ left W) := by
 unfold valV
 obtain ⟨X, Y, hX, hY, hly, hgy, kc, kl, kx, kf, hYs⟩ := counts_pre w0 g left W kind text more vn bits high (.slice A1 b.length c1) (.slice A2 kids.length c2) hls
 have k0 := kc 0 _ rfl
 have k1 := kc 1 _ rfl
 have k2 := kc 2 _ rfl
 have k3 := kc 3 _ rfl
 have k4 := kc 4 _ rfl
 have k5 := kc 5 _ rfl
 have k6 := kc 6 _ rfl
 have k7 := kc 7 _ rfl
 have HLY := LH hly
 have HGY := LH hgy
 have HX := LH hX
 have HY := LH hY
 have HKV := LH hkv
 have HIH := LH IH
 have HKC := LH kc
 obtain ⟨N, hN⟩ : ∃ N : Int, ((n + 1 : Nat) : Int) = N := ⟨_, rfl⟩
 have hN0 : (N == 0) = false := by simp; omega
 have hN1 : N - 1 = (n : Int) := by omega
 have hNb : 1 ≤ N := by omega
 have hNc : N ≤ 1001 := by omega
 rw [hN]
 clear hN hX hY hly hgy hkv IH hls kc
 have HRI := LH (show kind = 11 → Rising more.data.toList from fun h => by simp [h] at hk11)
 have HPT := LH (show kind = 12 → sout true text = 34 :: (text.data.toList ++ [34]) from fun h => by simp [h] at hk12)
 have HLYN := HLY
 have HGYN := HGY
 obtain ⟨nk, hnk⟩ : ∃ nk, kids.length = nk := ⟨_, rfl⟩
 rw [hnk] at k7 HKV hc2 HKC HX ⊢
 have HNK := LH hnk
 clear hnk
 go_enter Tryz.func21, Tryz.ntmps21
 go_upto_region 1 with fail
 rw [HX.out]
 go_upto_region 2 with fail
 rw [HY.out]
 go_wp2_with (go_at_call 54; refine (text_ex _ (by omega) _).mono ?_; rintro e w' ⟨rfl, rfl⟩)
 clear k0 k1 k2 k3 k4 k5 k6 k7 kl kx kf
 go_loopw [116] (fun i wr => ∃ k : Nat, k ≤ nk ∧ i = .int .i64 k ∧ Hid (∃ lk : Int, 0 ≤ lk ∧ lk < left ∧ LS g lk w0 wr ∧ GStep g W wr ∧ (((kids.take k).map fun p => cntV d p.2).sum : Int) + lk + 1 ≤ left ∧ ∀ p ∈ kids.take k, p.1.size ≤ 300 ∧ UT p.1 ∧ FitD n d p.2)) (fun i _ => nk - (intOf i).toNat)
 case atStart => exact ⟨0, Nat.zero_le _, rfl, left - 1, by omega, by omega, HLYN.out, HGYN.out, (by first | (simp; done) | (simp; omega)), fun p hp => by simp at hp⟩
 case round =>
  obtain ⟨k, hk, rfl, ⟨lk, q1, q2, q3, q4, q5, q6⟩⟩ := hrel
  by_cases hlt : k < nk
  ·obtain ⟨name, kd, bb, o, cs, hget, rfl, hR, hcs, hrange⟩ := HKV.out.elem (i := k) (by have := HNK.out; omega)
   have hbr := q3.below
   have hrg := rangeAt_later hrange hbr
   obtain ⟨kk, tx, mr, en, vb, vh, B1, B2, m1, e1, m2, e2, rfl⟩ := hR.form
   have hns : name.size ≤ 140737488351232 := by
    obtain ⟨A', c', _, _, _, hr⟩ := HKV.out
    exact (hr k name kd hget).1
   have hx0 : ∀ h : 0 < name.size, ((name[0]'h).toNat : Int) = (byA name 0 : Int) := fun h => byA_at name 0 h
   generalize byA name 0 = z0 at hx0
   have htake : kids.take (k + 1) = kids.take k ++ [(name, kd)] := by rw [List.take_add_one, hget]; rfl
   have hld := ld_elem (bb := bb) (o := o + k * 9) hrg
   have HTK := LH htake
   have HQ1 := LH q1
   have HQ2 := LH q2
   have Q4 := LH q4
   have Q5 := LH q5
   have Q6 := LH q6
   have hbe := below_allocB wr (.cells #[.string name, .int .i64 kk, .string tx, .string mr, .int .i64 en, .int .u64 (vb : Int), .int .u64 (vh : Int), .slice B1 m1 e1, .slice B2 m2 e2] 38)
   have HC := LH (HIH.out kd _ hR lk _ q1 (by omega) (q3.step hbe))
   have HLE := LH (q3.step hbe)
   have HGE := LH (q4.trans (GStep.of_below (g := g) hbe))
   clear hrange hrg hget hR hbr hcs q1 q2 q3 q4 q5 q6 htake hbe
   have hcase : (textB name = false ∨ (textB name = true ∧ 1 ≤ name.size ∧ z0 = 36)) ∨ ((textB name = true ∧ name.size = 0) ∨ (textB name = true ∧ 1 ≤ name.size ∧ ¬ z0 = 36)) := by
    cases textB name
    ·exact .inl (.inl rfl)
    ·rcases Nat.eq_zero_or_pos name.size with h | h
     ·exact .inr (.inl ⟨rfl, h⟩)
     ·by_cases h2 : z0 = 36
      ·exact .inl (.inr ⟨rfl, h, h2⟩)
      ·exact .inr (.inr ⟨rfl, h, h2⟩)
   have HLD := LH hld
   clear hld
   rcases hcase with hcase | hcase
   ·rcases hcase with ht | ⟨ht, hz, hz2⟩
    all_goals
     first | (have hem := full_of_size hz; have hzb : ((z0 : Int) == 36) = true := (by simp [hz2]); clear hz2) | skip
     go_wp2_with (with_reducible show wpList _ _ _ (⟨some 119, _, _, _, _, _⟩ :: _) _ _; refine Hid.out ?_)
     refine LH ?_
     refine HLD.out _ _ _ _ _ _ rfl rfl rfl ?_
     go_wp2_with (go_at_call 54; refine (text_ex _ (by omega) _).mono ?_; rintro e w' ⟨rfl, rfl⟩)
     go_ret
     exact ⟨false, rfl, lk, by have := HQ1.out; omega, HQ2.out, (fun h => by cases h), HLE.out, HGE.out⟩
   ·rcases hcase with ⟨ht, hz⟩ | ⟨ht, hz, hz2⟩
    all_goals
     first | (have hem := full_of_size hz; have hzb : ((z0 : Int) == 36) = false := (by simp; omega); clear hz2) | (have hem := empty_of_size hz)
     go_wp2_with (with_reducible show wpList _ _ _ (⟨some 119, _, _, _, _, _⟩ :: _) _ _; refine Hid.out ?_)
     refine LH ?_
     refine HLD.out _ _ _ _ _ _ rfl rfl rfl ?_
     go_wp2_with (first | (go_at_call 54; refine (text_ex _ (by omega) _).mono ?_; rintro e w' ⟨rfl, rfl⟩) | (go_at_call 21; refine HC.out.mono ?_; rintro e w3 ⟨v, rfl, hp⟩; refine Hid.out ?_))
     refine LH ?_
     obtain ⟨l2, p1, p2, p3, p4, p5⟩ := hp
     have P1 := LH p1
     have P2 := LH p2
     have P3 := LH p3
     have P4 := LH p4
     have P5 := LH p5
     clear p1 p2 p3 p4 p5
     cases v
     ·go_wp2_with fail
      go_ret
      exact ⟨false, rfl, l2, P1.out, by have := P2.out; have := HQ2.out; omega, (fun h => by cases h), P4.out, HGE.out.trans P5.out⟩
     ·go_wp2_with fail
      go_roundw
      case rel => exact ⟨k + 1, by omega, by go_num, l2, (P3.out rfl).2.1, by have := P2.out; have := HQ2.out; omega, P4.out, HGE.out.trans P5.out, by rw [HTK.out]; have := (P3.out rfl).2.2; have := Q5.out; simp only [List.map_append, List.sum_append, List.map_cons, List.map_nil, List.sum_cons, List.sum_nil]; omega, by rw [HTK.out]; intro p hp; rcases List.mem_append.1 hp with hp | hp; exact Q6.out p hp; (rw [List.mem_singleton.1 hp]; exact ⟨(textB_true ht).1, (textB_true ht).2, (P3.out rfl).1⟩)⟩
      case measure => simp [intOf]; omega
  ·go_wp2_with fail
   go_ret
   have hall : kids.take k = kids := List.take_of_length_le (by have := HNK.out; omega)
   rw [hall] at q5 q6
   refine ⟨true, rfl, lk, by omega, q2, fun _ => ⟨⟨textB_true ht1, textB_true ht2, hb3, HRI.out, HPT.out, q6⟩, q1, ?_⟩, q3, q4⟩
   have hcr : cntV (d + 1) ⟨kind, text, more, vn, bits, high, b, kids⟩ = 1 + (kids.map fun p => cntV d p.2).sum := rfl
   rw [hcr]
   omega
theorem counts_dbl (w0 : World) (g n d : Nat) (hn : n ≤ 1000) (IH : CV w0 g n d) (text more : ByteArray) (vn : Int) (bits high : Nat) (b : List UInt8) (kids : List (ByteArray × VT d)) (A1 : Option Addr) (c1 : Nat) (A2 : Option Addr) (c2 : Nat) (hkv : KidsV w0 (IsV w0 d) (.slice A2 kids.length c2) kids) (hc2 : kids.length ≤ 140737488351232)
  (hbits : bits < 18446744073709551616) (hhigh : high < 18446744073709551616) (hts : text.size ≤ 140737488351232) (hms : more.size ≤ 140737488351232) (hbl : b.length ≤ 140737488351232)
  (left : Int) (W : World) (h0 : 0 ≤ left) (h300 : left ≤ 300) (hls : LS g left w0 W)
  (hl : 1 ≤ left) (ht1 : textB text = true) (ht2 : textB more = true) (hb3 : b.length ≤ 300) :
  Calls Tryz.prog 21 #[valV 1 text more vn bits high (.slice A1 b.length c1) (.slice A2 kids.length c2), .int .i64 ((n + 1 : Nat) : Int), .pointer (some ⟨g, 0, none⟩)] W (CPost w0 g (n + 1) (d + 1) ⟨1, text, more, vn, bits, high, b, kids⟩ left W) := by
 unfold valV
 obtain ⟨X, Y, hX, hY, hly, hgy, kc, kl, kx, kf, hYs⟩ := counts_pre w0 g left W 1 text more vn bits high (.slice A1 b.length c1) (.slice A2 kids.length c2) hls
 have k0 := kc 0 _ rfl
 have k1 := kc 1 _ rfl
 have k2 := kc 2 _ rfl
 have k3 := kc 3 _ rfl
 have k4 := kc 4 _ rfl
 have k5 := kc 5 _ rfl
 have k6 := kc 6 _ rfl
 have k7 := kc 7 _ rfl
 have HLY := LH hly
 have HGY := LH hgy
 have HX := LH hX
 have HY := LH hY
 have HKV := LH hkv
 have HIH := LH IH
 have HKC := LH kc
 obtain ⟨N, hN⟩ : ∃ N : Int, ((n + 1 : Nat) : Int) = N := ⟨_, rfl⟩
 have hN0 : (N == 0) = false := by simp; omega
 have hN1 : N - 1 = (n : Int) := by omega
 have hNb : 1 ≤ N := by omega
 have hNc : N ≤ 1001 := by omega
 rw [hN]
 clear hN hX hY hly hgy hkv IH hls kc
 have HRI := LH (show (1 : Int) = 11 → Rising more.data.toList from fun h => by simp at h)
 have HPT := LH (show (1 : Int) = 12 → sout true text = 34 :: (text.data.toList ++ [34]) from fun h => by simp at h)
 obtain ⟨nk, hnk⟩ : ∃ nk, kids.length = nk := ⟨_, rfl⟩
 rw [hnk] at k7 HKV hc2 HKC HX ⊢
 have HNK := LH hnk
 clear hnk
 have hcase : ((FloatKind.f64.format.order bits bits != some Ordering.eq) = false) ∨ ((FloatKind.f64.format.order bits bits != some Ordering.eq) = true ∧ bits = 9221120237041090561) ∨ ((FloatKind.f64.format.order bits bits != some Ordering.eq) = true ∧ ¬ bits = 9221120237041090561) := by
  cases (FloatKind.f64.format.order bits bits != some Ordering.eq)
  ·exact .inl rfl
  ·by_cases h : bits = 9221120237041090561
   ·exact .inr (.inl ⟨rfl, h⟩)
   ·exact .inr (.inr ⟨rfl, h⟩)
 have hbn : (bits : Int).toNat = bits := Int.toNat_natCast bits
 rcases hcase with hq | ⟨hq, hb⟩ | ⟨hq, hb⟩
 ·skip
  go_enter Tryz.func21, Tryz.ntmps21
  go_upto_region 1 with fail
  rw [HX.out]
  go_upto_region 2 with fail
  rw [HY.out]
  go_wp2_with (go_at_call 54; refine (text_ex _ (by omega) _).mono ?_; rintro e w' ⟨rfl, rfl⟩)
  go_quiet ((go_at_call 56; refine Calls.quiet_of_same ((nan_any _).mono fun _ _ h => ⟨h.1, h.2.symm⟩)))
  have HLYN := LH (HLY.out.step (below_drn (Below.refl _ _) nq))
  have HGYN := LH (HGY.out.trans (GStep.of_below (g := g) (below_drn (Below.refl _ _) nq)))
  go_wp2_with fail
  clear k0 k1 k2 k3 k4 k5 k6 k7 kl kx kf
  go_loopw [116] (fun i wr => ∃ k : Nat, k ≤ nk ∧ i = .int .i64 k ∧ Hid (∃ lk : Int, 0 ≤ lk ∧ lk < left ∧ LS g lk w0 wr ∧ GStep g W wr ∧ (((kids.take k).map fun p => cntV d p.2).sum : Int) + lk + 1 ≤ left ∧ ∀ p ∈ kids.take k, p.1.size ≤ 300 ∧ UT p.1 ∧ FitD n d p.2)) (fun i _ => nk - (intOf i).toNat)
  case atStart => exact ⟨0, Nat.zero_le _, rfl, left - 1, by omega, by omega, HLYN.out, HGYN.out, (by first | (simp; done) | (simp; omega)), fun p hp => by simp at hp⟩
  case round =>
   obtain ⟨k, hk, rfl, ⟨lk, q1, q2, q3, q4, q5, q6⟩⟩ := hrel
   by_cases hlt : k < nk
   ·obtain ⟨name, kd, bb, o, cs, hget, rfl, hR, hcs, hrange⟩ := HKV.out.elem (i := k) (by have := HNK.out; omega)
    have hbr := q3.below
    have hrg := rangeAt_later hrange hbr
    obtain ⟨kk, tx, mr, en, vb, vh, B1, B2, m1, e1, m2, e2, rfl⟩ := hR.form
    have hns : name.size ≤ 140737488351232 := by
     obtain ⟨A', c', _, _, _, hr⟩ := HKV.out
     exact (hr k name kd hget).1
    have hx0 : ∀ h : 0 < name.size, ((name[0]'h).toNat : Int) = (byA name 0 : Int) := fun h => byA_at name 0 h
    generalize byA name 0 = z0 at hx0
    have htake : kids.take (k + 1) = kids.take k ++ [(name, kd)] := by rw [List.take_add_one, hget]; rfl
    have hld := ld_elem (bb := bb) (o := o + k * 9) hrg
    have HTK := LH htake
    have HQ1 := LH q1
    have HQ2 := LH q2
    have Q4 := LH q4
    have Q5 := LH q5
    have Q6 := LH q6
    have hbe := below_allocB wr (.cells #[.string name, .int .i64 kk, .string tx, .string mr, .int .i64 en, .int .u64 (vb : Int), .int .u64 (vh : Int), .slice B1 m1 e1, .slice B2 m2 e2] 38)
    have HC := LH (HIH.out kd _ hR lk _ q1 (by omega) (q3.step hbe))
    have HLE := LH (q3.step hbe)
    have HGE := LH (q4.trans (GStep.of_below (g := g) hbe))
    clear hrange hrg hget hR hbr hcs q1 q2 q3 q4 q5 q6 htake hbe
    have hcase : (textB name = false ∨ (textB name = true ∧ 1 ≤ name.size ∧ z0 = 36)) ∨ ((textB name = true ∧ name.size = 0) ∨ (textB name = true ∧ 1 ≤ name.size ∧ ¬ z0 = 36)) := by
     cases textB name
     ·exact .inl (.inl rfl)
     ·rcases Nat.eq_zero_or_pos name.size with h | h
      ·exact .inr (.inl ⟨rfl, h⟩)
      ·by_cases h2 : z0 = 36
       ·exact .inl (.inr ⟨rfl, h, h2⟩)
       ·exact .inr (.inr ⟨rfl, h, h2⟩)
    have HLD := LH hld
    clear hld
    rcases hcase with hcase | hcase
    ·rcases hcase with ht | ⟨ht, hz, hz2⟩
     all_goals
      first | (have hem := full_of_size hz; have hzb : ((z0 : Int) == 36) = true := (by simp [hz2]); clear hz2) | skip
      go_wp2_with (with_reducible show wpList _ _ _ (⟨some 119, _, _, _, _, _⟩ :: _) _ _; refine Hid.out ?_)
      refine LH ?_
      refine HLD.out _ _ _ _ _ _ rfl rfl rfl ?_
      go_wp2_with (go_at_call 54; refine (text_ex _ (by omega) _).mono ?_; rintro e w' ⟨rfl, rfl⟩)
      go_ret
      exact ⟨false, rfl, lk, by have := HQ1.out; omega, HQ2.out, (fun h => by cases h), HLE.out, HGE.out⟩
    ·rcases hcase with ⟨ht, hz⟩ | ⟨ht, hz, hz2⟩
     all_goals
      first | (have hem := full_of_size hz; have hzb : ((z0 : Int) == 36) = false := (by simp; omega); clear hz2) | (have hem := empty_of_size hz)
      go_wp2_with (with_reducible show wpList _ _ _ (⟨some 119, _, _, _, _, _⟩ :: _) _ _; refine Hid.out ?_)
      refine LH ?_
      refine HLD.out _ _ _ _ _ _ rfl rfl rfl ?_
      go_wp2_with (first | (go_at_call 54; refine (text_ex _ (by omega) _).mono ?_; rintro e w' ⟨rfl, rfl⟩) | (go_at_call 21; refine HC.out.mono ?_; rintro e w3 ⟨v, rfl, hp⟩; refine Hid.out ?_))
      refine LH ?_
      obtain ⟨l2, p1, p2, p3, p4, p5⟩ := hp
      have P1 := LH p1
      have P2 := LH p2
      have P3 := LH p3
      have P4 := LH p4
      have P5 := LH p5
      clear p1 p2 p3 p4 p5
      cases v
      ·go_wp2_with fail
       go_ret
       exact ⟨false, rfl, l2, P1.out, by have := P2.out; have := HQ2.out; omega, (fun h => by cases h), P4.out, HGE.out.trans P5.out⟩
      ·go_wp2_with fail
       go_roundw
       case rel => exact ⟨k + 1, by omega, by go_num, l2, (P3.out rfl).2.1, by have := P2.out; have := HQ2.out; omega, P4.out, HGE.out.trans P5.out, by rw [HTK.out]; have := (P3.out rfl).2.2; have := Q5.out; simp only [List.map_append, List.sum_append, List.map_cons, List.map_nil, List.sum_cons, List.sum_nil]; omega, by rw [HTK.out]; intro p hp; rcases List.mem_append.1 hp with hp | hp; exact Q6.out p hp; (rw [List.mem_singleton.1 hp]; exact ⟨(textB_true ht).1, (textB_true ht).2, (P3.out rfl).1⟩)⟩
       case measure => simp [intOf]; omega
   ·go_wp2_with fail
    go_ret
    have hall : kids.take k = kids := List.take_of_length_le (by have := HNK.out; omega)
    rw [hall] at q5 q6
    refine ⟨true, rfl, lk, by omega, q2, fun _ => ⟨⟨textB_true ht1, textB_true ht2, hb3, HRI.out, HPT.out, q6⟩, q1, ?_⟩, q3, q4⟩
    have hcr : cntV (d + 1) ⟨1, text, more, vn, bits, high, b, kids⟩ = 1 + (kids.map fun p => cntV d p.2).sum := rfl
    rw [hcr]
    omega
 ·have hbe : ((bits : Int) != 9221120237041090561) = false := by simp; omega
  clear hb
  go_enter Tryz.func21, Tryz.ntmps21
  go_upto_region 1 with fail
  rw [HX.out]
  go_upto_region 2 with fail
  rw [HY.out]
  go_wp2_with (go_at_call 54; refine (text_ex _ (by omega) _).mono ?_; rintro e w' ⟨rfl, rfl⟩)
  go_quiet ((go_at_call 56; refine Calls.quiet_of_same ((nan_any _).mono fun _ _ h => ⟨h.1, h.2.symm⟩)))
  have HLYN := LH (HLY.out.step (below_drn (Below.refl _ _) nq))
  have HGYN := LH (HGY.out.trans (GStep.of_below (g := g) (below_drn (Below.refl _ _) nq)))
  go_wp2_with fail
  clear hbe hq hbn
  clear k0 k1 k2 k3 k4 k5 k6 k7 kl kx kf
  go_loopw [116] (fun i wr => ∃ k : Nat, k ≤ nk ∧ i = .int .i64 k ∧ Hid (∃ lk : Int, 0 ≤ lk ∧ lk < left ∧ LS g lk w0 wr ∧ GStep g W wr ∧ (((kids.take k).map fun p => cntV d p.2).sum : Int) + lk + 1 ≤ left ∧ ∀ p ∈ kids.take k, p.1.size ≤ 300 ∧ UT p.1 ∧ FitD n d p.2)) (fun i _ => nk - (intOf i).toNat)
  case atStart => exact ⟨0, Nat.zero_le _, rfl, left - 1, by omega, by omega, HLYN.out, HGYN.out, (by first | (simp; done) | (simp; omega)), fun p hp => by simp at hp⟩
  case round =>
   obtain ⟨k, hk, rfl, ⟨lk, q1, q2, q3, q4, q5, q6⟩⟩ := hrel
   by_cases hlt : k < nk
   ·obtain ⟨name, kd, bb, o, cs, hget, rfl, hR, hcs, hrange⟩ := HKV.out.elem (i := k) (by have := HNK.out; omega)
    have hbr := q3.below
    have hrg := rangeAt_later hrange hbr
    obtain ⟨kk, tx, mr, en, vb, vh, B1, B2, m1, e1, m2, e2, rfl⟩ := hR.form
    have hns : name.size ≤ 140737488351232 := by
     obtain ⟨A', c', _, _, _, hr⟩ := HKV.out
     exact (hr k name kd hget).1
    have hx0 : ∀ h : 0 < name.size, ((name[0]'h).toNat : Int) = (byA name 0 : Int) := fun h => byA_at name 0 h
    generalize byA name 0 = z0 at hx0
    have htake : kids.take (k + 1) = kids.take k ++ [(name, kd)] := by rw [List.take_add_one, hget]; rfl
    have hld := ld_elem (bb := bb) (o := o + k * 9) hrg
    have HTK := LH htake
    have HQ1 := LH q1
    have HQ2 := LH q2
    have Q4 := LH q4
    have Q5 := LH q5
    have Q6 := LH q6
    have hbe := below_allocB wr (.cells #[.string name, .int .i64 kk, .string tx, .string mr, .int .i64 en, .int .u64 (vb : Int), .int .u64 (vh : Int), .slice B1 m1 e1, .slice B2 m2 e2] 38)
    have HC := LH (HIH.out kd _ hR lk _ q1 (by omega) (q3.step hbe))
    have HLE := LH (q3.step hbe)
    have HGE := LH (q4.trans (GStep.of_below (g := g) hbe))
    clear hrange hrg hget hR hbr hcs q1 q2 q3 q4 q5 q6 htake hbe
    have hcase : (textB name = false ∨ (textB name = true ∧ 1 ≤ name.size ∧ z0 = 36)) ∨ ((textB name = true ∧ name.size = 0) ∨ (textB name = true ∧ 1 ≤ name.size ∧ ¬ z0 = 36)) := by
     cases textB name
     ·exact .inl (.inl rfl)
     ·rcases Nat.eq_zero_or_pos name.size with h | h
      ·exact .inr (.inl ⟨rfl, h⟩)
      ·by_cases h2 : z0 = 36
       ·exact .inl (.inr ⟨rfl, h, h2⟩)
       ·exact .inr (.inr ⟨rfl, h, h2⟩)
    have HLD := LH hld
    clear hld
    rcases hcase with hcase | hcase
    ·rcases hcase with ht | ⟨ht, hz, hz2⟩
     all_goals
      first | (have hem := full_of_size hz; have hzb : ((z0 : Int) == 36) = true := (by simp [hz2]); clear hz2) | skip
      go_wp2_with (with_reducible show wpList _ _ _ (⟨some 119, _, _, _, _, _⟩ :: _) _ _; refine Hid.out ?_)
      refine LH ?_
      refine HLD.out _ _ _ _ _ _ rfl rfl rfl ?_
      go_wp2_with (go_at_call 54; refine (text_ex _ (by omega) _).mono ?_; rintro e w' ⟨rfl, rfl⟩)
      go_ret
      exact ⟨false, rfl, lk, by have := HQ1.out; omega, HQ2.out, (fun h => by cases h), HLE.out, HGE.out⟩
    ·rcases hcase with ⟨ht, hz⟩ | ⟨ht, hz, hz2⟩
     all_goals
      first | (have hem := full_of_size hz; have hzb : ((z0 : Int) == 36) = false := (by simp; omega); clear hz2) | (have hem := empty_of_size hz)
      go_wp2_with (with_reducible show wpList _ _ _ (⟨some 119, _, _, _, _, _⟩ :: _) _ _; refine Hid.out ?_)
      refine LH ?_
      refine HLD.out _ _ _ _ _ _ rfl rfl rfl ?_
      go_wp2_with (first | (go_at_call 54; refine (text_ex _ (by omega) _).mono ?_; rintro e w' ⟨rfl, rfl⟩) | (go_at_call 21; refine HC.out.mono ?_; rintro e w3 ⟨v, rfl, hp⟩; refine Hid.out ?_))
      refine LH ?_
      obtain ⟨l2, p1, p2, p3, p4, p5⟩ := hp
      have P1 := LH p1
      have P2 := LH p2
      have P3 := LH p3
      have P4 := LH p4
      have P5 := LH p5
      clear p1 p2 p3 p4 p5
      cases v
      ·go_wp2_with fail
       go_ret
       exact ⟨false, rfl, l2, P1.out, by have := P2.out; have := HQ2.out; omega, (fun h => by cases h), P4.out, HGE.out.trans P5.out⟩
      ·go_wp2_with fail
       go_roundw
       case rel => exact ⟨k + 1, by omega, by go_num, l2, (P3.out rfl).2.1, by have := P2.out; have := HQ2.out; omega, P4.out, HGE.out.trans P5.out, by rw [HTK.out]; have := (P3.out rfl).2.2; have := Q5.out; simp only [List.map_append, List.sum_append, List.map_cons, List.map_nil, List.sum_cons, List.sum_nil]; omega, by rw [HTK.out]; intro p hp; rcases List.mem_append.1 hp with hp | hp; exact Q6.out p hp; (rw [List.mem_singleton.1 hp]; exact ⟨(textB_true ht).1, (textB_true ht).2, (P3.out rfl).1⟩)⟩
       case measure => simp [intOf]; omega
   ·go_wp2_with fail
    go_ret
    have hall : kids.take k = kids := List.take_of_length_le (by have := HNK.out; omega)
    rw [hall] at q5 q6
    refine ⟨true, rfl, lk, by omega, q2, fun _ => ⟨⟨textB_true ht1, textB_true ht2, hb3, HRI.out, HPT.out, q6⟩, q1, ?_⟩, q3, q4⟩
    have hcr : cntV (d + 1) ⟨1, text, more, vn, bits, high, b, kids⟩ = 1 + (kids.map fun p => cntV d p.2).sum := rfl
    rw [hcr]
    omega
 ·have hbe : ((bits : Int) != 9221120237041090561) = true := by simp; omega
  clear hb
  go_enter Tryz.func21, Tryz.ntmps21
  go_upto_region 1 with fail
  rw [HX.out]
  go_upto_region 2 with fail
  rw [HY.out]
  go_wp2_with (go_at_call 54; refine (text_ex _ (by omega) _).mono ?_; rintro e w' ⟨rfl, rfl⟩)
  go_quiet ((go_at_call 56; refine Calls.quiet_of_same ((nan_any _).mono fun _ _ h => ⟨h.1, h.2.symm⟩)))
  have HLYN := LH (HLY.out.step (below_drn (Below.refl _ _) nq))
  have HGYN := LH (HGY.out.trans (GStep.of_below (g := g) (below_drn (Below.refl _ _) nq)))
  go_wp2_with fail
  go_ret
  exact ⟨false, rfl, left - 1, by omega, by omega, (fun h => by cases h), HLYN.out, HGYN.out⟩
theorem counts_ptr (w0 : World) (g n d : Nat) (hn : n ≤ 1000) (IH : CV w0 g n d) (text more : ByteArray) (vn : Int) (bits high : Nat) (b : List UInt8) (kids : List (ByteArray × VT d)) (A1 : Option Addr) (c1 : Nat) (A2 : Option Addr) (c2 : Nat) (hkv : KidsV w0 (IsV w0 d) (.slice A2 kids.length c2) kids) (hc2 : kids.length ≤ 140737488351232)
  (hbits : bits < 18446744073709551616) (hhigh : high < 18446744073709551616) (hts : text.size ≤ 140737488351232) (hms : more.size ≤ 140737488351232) (hbl : b.length ≤ 140737488351232)
  (left : Int) (W : World) (h0 : 0 ≤ left) (h300 : left ≤ 300) (hls : LS g left w0 W)
  (hl : 1 ≤ left) (ht1 : textB text = true) (ht2 : textB more = true) (hb3 : b.length ≤ 300) :
  Calls Tryz.prog 21 #[valV 12 text more vn bits high (.slice A1 b.length c1) (.slice A2 kids.length c2), .int .i64 ((n + 1 : Nat) : Int), .pointer (some ⟨g, 0, none⟩)] W (CPost w0 g (n + 1) (d + 1) ⟨12, text, more, vn, bits, high, b, kids⟩ left W) := by
 unfold valV
 obtain ⟨X, Y, hX, hY, hly, hgy, kc, kl, kx, kf, hYs⟩ := counts_pre w0 g left W 12 text more vn bits high (.slice A1 b.length c1) (.slice A2 kids.length c2) hls
 have k0 := kc 0 _ rfl
 have k1 := kc 1 _ rfl
 have k2 := kc 2 _ rfl
 have k3 := kc 3 _ rfl
 have k4 := kc 4 _ rfl
 have k5 := kc 5 _ rfl
 have k6 := kc 6 _ rfl
 have k7 := kc 7 _ rfl
 have HLY := LH hly
 have HGY := LH hgy
 have HX := LH hX
 have HY := LH hY
 have HKV := LH hkv
 have HIH := LH IH
 have HKC := LH kc
 obtain ⟨N, hN⟩ : ∃ N : Int, ((n + 1 : Nat) : Int) = N := ⟨_, rfl⟩
 have hN0 : (N == 0) = false := by simp; omega
 have hN1 : N - 1 = (n : Int) := by omega
 have hNb : 1 ≤ N := by omega
 have hNc : N ≤ 1001 := by omega
 rw [hN]
 clear hN hX hY hly hgy hkv IH hls kc
 have HRI := LH (show (12 : Int) = 11 → Rising more.data.toList from fun h => by simp at h)
 obtain ⟨nk, hnk⟩ : ∃ nk, kids.length = nk := ⟨_, rfl⟩
 rw [hnk] at k7 HKV hc2 HKC HX ⊢
 have HNK := LH hnk
 clear hnk
 obtain ⟨st, hst⟩ : ∃ st, soutB true text = st := ⟨_, rfl⟩
 obtain ⟨qt, hqt⟩ : ∃ qt : ByteArray, ⟨#[34]⟩ ++ text ++ ⟨#[34]⟩ = qt := ⟨_, rfl⟩
 have HST := LH (fun W => hst ▸ extString_any text true W (by have := (textB_true ht1).1; omega) (textB_true ht1).2)
 have HQT := LH hqt
 have hts3 := (textB_true ht1).1
 have HTX := LH (fun W1 (hW1 : Below Y.heap.size Y W1) => (hW1.cell (p := ⟨W.heap.size, 1, none⟩) (by show W.heap.size < _; omega)).trans (HKC.out 1 _ rfl))
 by_cases heq : st = qt
 ·have HPT := LH (show sout true text = 34 :: (text.data.toList ++ [34]) from by
   have h1 : (soutB true text).data.toList = qt.data.toList := by rw [hst, heq]
   rw [← hqt] at h1
   simpa [soutB] using h1)
  have heq2 : (st.toList == qt.toList) = true := by simp [heq]
  clear hst hqt heq
  go_enter Tryz.func21, Tryz.ntmps21
  go_upto_region 1 with fail
  rw [HX.out]
  go_upto_region 2 with fail
  rw [HY.out]
  go_wp2_with (go_at_call 54; refine (text_ex _ (by omega) _).mono ?_; rintro e w' ⟨rfl, rfl⟩)
  refine wp_region_quiet_cls (C := fun V => Below Y.heap.size Y V) (by kernel_rfl) (by kernel_rfl) (below_dr Y 1) ?_
  refine quiet_val (.pointer (some ⟨W.heap.size, 1, none⟩)) (by kernel_rfl) (fun V hV => by go_simp) ?_
  refine quiet_val (.string text) (by kernel_rfl) (fun V hV => by have h0 := HTX.out V hV; go_simp) ?_
  refine quiet_enter (.string st) 24 #[.string text, .bool true] (by kernel_rfl) (fun V hV => by go_simp) (fun V hV => (HST.out V).mono fun e W2 ⟨q1, q2⟩ => ⟨q1, hV.trans (q2.mono hV.size)⟩) ?_
  refine quiet_val (.pointer (some ⟨W.heap.size, 1, none⟩)) (by kernel_rfl) (fun V hV => by go_simp) ?_
  refine quiet_val (.string text) (by kernel_rfl) (fun V hV => by have h0 := HTX.out V hV; go_simp) ?_
  refine quiet_val (.string (⟨#[34]⟩ ++ text)) (by kernel_rfl) (fun V hV => by go_simp; omega) ?_
  refine quiet_val (.string qt) (by kernel_rfl) (fun V hV => by have hz1 := HQT.out; go_simp; first | omega | (rw [if_neg (by omega)]; rw [hz1]) | rw [hz1]) ?_
  refine quiet_val (.bool false) (by kernel_rfl) (fun V hV => by go_simp) ?_
  refine wpQuiet_nil ?_
  intro W2 hW2
  have HLYN := LH (HLY.out.step hW2)
  have HGYN := LH (HGY.out.trans (GStep.of_below (g := g) hW2))
  have k7 := (hW2.cell (p := ⟨W.heap.size, 7, none⟩) (by show W.heap.size < _; omega)).trans (HKC.out 7 _ rfl)
  go_simp
  go_wp2_with fail
  clear k0 k1 k2 k3 k4 k5 k6 k7 kl kx kf
  go_loopw [116] (fun i wr => ∃ k : Nat, k ≤ nk ∧ i = .int .i64 k ∧ Hid (∃ lk : Int, 0 ≤ lk ∧ lk < left ∧ LS g lk w0 wr ∧ GStep g W wr ∧ (((kids.take k).map fun p => cntV d p.2).sum : Int) + lk + 1 ≤ left ∧ ∀ p ∈ kids.take k, p.1.size ≤ 300 ∧ UT p.1 ∧ FitD n d p.2)) (fun i _ => nk - (intOf i).toNat)
  case atStart => exact ⟨0, Nat.zero_le _, rfl, left - 1, by omega, by omega, HLYN.out, HGYN.out, (by first | (simp; done) | (simp; omega)), fun p hp => by simp at hp⟩
  case round =>
   obtain ⟨k, hk, rfl, ⟨lk, q1, q2, q3, q4, q5, q6⟩⟩ := hrel
   by_cases hlt : k < nk
   ·obtain ⟨name, kd, bb, o, cs, hget, rfl, hR, hcs, hrange⟩ := HKV.out.elem (i := k) (by have := HNK.out; omega)
    have hbr := q3.below
    have hrg := rangeAt_later hrange hbr
    obtain ⟨kk, tx, mr, en, vb, vh, B1, B2, m1, e1, m2, e2, rfl⟩ := hR.form
    have hns : name.size ≤ 140737488351232 := by
     obtain ⟨A', c', _, _, _, hr⟩ := HKV.out
     exact (hr k name kd hget).1
    have hx0 : ∀ h : 0 < name.size, ((name[0]'h).toNat : Int) = (byA name 0 : Int) := fun h => byA_at name 0 h
    generalize byA name 0 = z0 at hx0
    have htake : kids.take (k + 1) = kids.take k ++ [(name, kd)] := by rw [List.take_add_one, hget]; rfl
    have hld := ld_elem (bb := bb) (o := o + k * 9) hrg
    have HTK := LH htake
    have HQ1 := LH q1
    have HQ2 := LH q2
    have Q4 := LH q4
    have Q5 := LH q5
    have Q6 := LH q6
    have hbe := below_allocB wr (.cells #[.string name, .int .i64 kk, .string tx, .string mr, .int .i64 en, .int .u64 (vb : Int), .int .u64 (vh : Int), .slice B1 m1 e1, .slice B2 m2 e2] 38)
    have HC := LH (HIH.out kd _ hR lk _ q1 (by omega) (q3.step hbe))
    have HLE := LH (q3.step hbe)
    have HGE := LH (q4.trans (GStep.of_below (g := g) hbe))
    clear hrange hrg hget hR hbr hcs q1 q2 q3 q4 q5 q6 htake hbe
    have hcase : (textB name = false ∨ (textB name = true ∧ 1 ≤ name.size ∧ z0 = 36)) ∨ ((textB name = true ∧ name.size = 0) ∨ (textB name = true ∧ 1 ≤ name.size ∧ ¬ z0 = 36)) := by
     cases textB name
     ·exact .inl (.inl rfl)
     ·rcases Nat.eq_zero_or_pos name.size with h | h
      ·exact .inr (.inl ⟨rfl, h⟩)
      ·by_cases h2 : z0 = 36
       ·exact .inl (.inr ⟨rfl, h, h2⟩)
       ·exact .inr (.inr ⟨rfl, h, h2⟩)
    have HLD := LH hld
    clear hld
    rcases hcase with hcase | hcase
    ·rcases hcase with ht | ⟨ht, hz, hz2⟩
     all_goals
      first | (have hem := full_of_size hz; have hzb : ((z0 : Int) == 36) = true := (by simp [hz2]); clear hz2) | skip
      go_wp2_with (with_reducible show wpList _ _ _ (⟨some 119, _, _, _, _, _⟩ :: _) _ _; refine Hid.out ?_)
      refine LH ?_
      refine HLD.out _ _ _ _ _ _ rfl rfl rfl ?_
      go_wp2_with (go_at_call 54; refine (text_ex _ (by omega) _).mono ?_; rintro e w' ⟨rfl, rfl⟩)
      go_ret
      exact ⟨false, rfl, lk, by have := HQ1.out; omega, HQ2.out, (fun h => by cases h), HLE.out, HGE.out⟩
    ·rcases hcase with ⟨ht, hz⟩ | ⟨ht, hz, hz2⟩
     all_goals
      first | (have hem := full_of_size hz; have hzb : ((z0 : Int) == 36) = false := (by simp; omega); clear hz2) | (have hem := empty_of_size hz)
      go_wp2_with (with_reducible show wpList _ _ _ (⟨some 119, _, _, _, _, _⟩ :: _) _ _; refine Hid.out ?_)
      refine LH ?_
      refine HLD.out _ _ _ _ _ _ rfl rfl rfl ?_
      go_wp2_with (first | (go_at_call 54; refine (text_ex _ (by omega) _).mono ?_; rintro e w' ⟨rfl, rfl⟩) | (go_at_call 21; refine HC.out.mono ?_; rintro e w3 ⟨v, rfl, hp⟩; refine Hid.out ?_))
      refine LH ?_
      obtain ⟨l2, p1, p2, p3, p4, p5⟩ := hp
      have P1 := LH p1
      have P2 := LH p2
      have P3 := LH p3
      have P4 := LH p4
      have P5 := LH p5
      clear p1 p2 p3 p4 p5
      cases v
      ·go_wp2_with fail
       go_ret
       exact ⟨false, rfl, l2, P1.out, by have := P2.out; have := HQ2.out; omega, (fun h => by cases h), P4.out, HGE.out.trans P5.out⟩
      ·go_wp2_with fail
       go_roundw
       case rel => exact ⟨k + 1, by omega, by go_num, l2, (P3.out rfl).2.1, by have := P2.out; have := HQ2.out; omega, P4.out, HGE.out.trans P5.out, by rw [HTK.out]; have := (P3.out rfl).2.2; have := Q5.out; simp only [List.map_append, List.sum_append, List.map_cons, List.map_nil, List.sum_cons, List.sum_nil]; omega, by rw [HTK.out]; intro p hp; rcases List.mem_append.1 hp with hp | hp; exact Q6.out p hp; (rw [List.mem_singleton.1 hp]; exact ⟨(textB_true ht).1, (textB_true ht).2, (P3.out rfl).1⟩)⟩
       case measure => simp [intOf]; omega
   ·go_wp2_with fail
    go_ret
    have hall : kids.take k = kids := List.take_of_length_le (by have := HNK.out; omega)
    rw [hall] at q5 q6
    refine ⟨true, rfl, lk, by omega, q2, fun _ => ⟨⟨textB_true ht1, textB_true ht2, hb3, HRI.out, (fun _ => HPT.out), q6⟩, q1, ?_⟩, q3, q4⟩
    have hcr : cntV (d + 1) ⟨12, text, more, vn, bits, high, b, kids⟩ = 1 + (kids.map fun p => cntV d p.2).sum := rfl
    rw [hcr]
    omega
 ·have hne := ba_ne2 heq
  clear hst hqt heq
  go_enter Tryz.func21, Tryz.ntmps21
  go_upto_region 1 with fail
  rw [HX.out]
  go_upto_region 2 with fail
  rw [HY.out]
  go_wp2_with (go_at_call 54; refine (text_ex _ (by omega) _).mono ?_; rintro e w' ⟨rfl, rfl⟩)
  refine wp_region_quiet_cls (C := fun V => Below Y.heap.size Y V) (by kernel_rfl) (by kernel_rfl) (below_dr Y 1) ?_
  refine quiet_val (.pointer (some ⟨W.heap.size, 1, none⟩)) (by kernel_rfl) (fun V hV => by go_simp) ?_
  refine quiet_val (.string text) (by kernel_rfl) (fun V hV => by have h0 := HTX.out V hV; go_simp) ?_
  refine quiet_enter (.string st) 24 #[.string text, .bool true] (by kernel_rfl) (fun V hV => by go_simp) (fun V hV => (HST.out V).mono fun e W2 ⟨q1, q2⟩ => ⟨q1, hV.trans (q2.mono hV.size)⟩) ?_
  refine quiet_val (.pointer (some ⟨W.heap.size, 1, none⟩)) (by kernel_rfl) (fun V hV => by go_simp) ?_
  refine quiet_val (.string text) (by kernel_rfl) (fun V hV => by have h0 := HTX.out V hV; go_simp) ?_
  refine quiet_val (.string (⟨#[34]⟩ ++ text)) (by kernel_rfl) (fun V hV => by go_simp; omega) ?_
  refine quiet_val (.string qt) (by kernel_rfl) (fun V hV => by have hz1 := HQT.out; go_simp; first | omega | (rw [if_neg (by omega)]; rw [hz1]) | rw [hz1]) ?_
  refine quiet_val (.bool true) (by kernel_rfl) (fun V hV => by go_simp) ?_
  refine wpQuiet_nil ?_
  intro W2 hW2
  have HLYN := LH (HLY.out.step hW2)
  have HGYN := LH (HGY.out.trans (GStep.of_below (g := g) hW2))
  have k7 := (hW2.cell (p := ⟨W.heap.size, 7, none⟩) (by show W.heap.size < _; omega)).trans (HKC.out 7 _ rfl)
  go_simp
  go_wp2_with fail
  go_ret
  exact ⟨false, rfl, left - 1, by omega, by omega, (fun h => by cases h), HLYN.out, HGYN.out⟩
theorem counts_dec (w0 : World) (g n d : Nat) (hn : n ≤ 1000) (IH : CV w0 g n d) (text more : ByteArray) (vn : Int) (bits high : Nat) (b : List UInt8) (kids : List (ByteArray × VT d)) (A1 : Option Addr) (c1 : Nat) (A2 : Option Addr) (c2 : Nat) (hkv : KidsV w0 (IsV w0 d) (.slice A2 kids.length c2) kids) (hc2 : kids.length ≤ 140737488351232)
  (hbits : bits < 18446744073709551616) (hhigh : high < 18446744073709551616) (hts : text.size ≤ 140737488351232) (hms : more.size ≤ 140737488351232) (hbl : b.length ≤ 140737488351232)
  (left : Int) (W : World) (h0 : 0 ≤ left) (h300 : left ≤ 300) (hls : LS g left w0 W)
  (hl : 1 ≤ left) (ht1 : textB text = true) (ht2 : textB more = true) (hb3 : b.length ≤ 300) :
  Calls Tryz.prog 21 #[valV 19 text more vn bits high (.slice A1 b.length c1) (.slice A2 kids.length c2), .int .i64 ((n + 1 : Nat) : Int), .pointer (some ⟨g, 0, none⟩)] W (CPost w0 g (n + 1) (d + 1) ⟨19, text, more, vn, bits, high, b, kids⟩ left W) := by
 unfold valV
 obtain ⟨X, Y, hX, hY, hly, hgy, kc, kl, kx, kf, hYs⟩ := counts_pre w0 g left W 19 text more vn bits high (.slice A1 b.length c1) (.slice A2 kids.length c2) hls
 have k0 := kc 0 _ rfl
 have k1 := kc 1 _ rfl
 have k2 := kc 2 _ rfl
 have k3 := kc 3 _ rfl
 have k4 := kc 4 _ rfl
 have k5 := kc 5 _ rfl
 have k6 := kc 6 _ rfl
 have k7 := kc 7 _ rfl
 have HLY := LH hly
 have HGY := LH hgy
 have HX := LH hX
 have HY := LH hY
 have HKV := LH hkv
 have HIH := LH IH
 have HKC := LH kc
 obtain ⟨N, hN⟩ : ∃ N : Int, ((n + 1 : Nat) : Int) = N := ⟨_, rfl⟩
 have hN0 : (N == 0) = false := by simp; omega
 have hN1 : N - 1 = (n : Int) := by omega
 have hNb : 1 ≤ N := by omega
 have hNc : N ≤ 1001 := by omega
 rw [hN]
 clear hN hX hY hly hgy hkv IH hls kc
 have HRI := LH (show (19 : Int) = 11 → Rising more.data.toList from fun h => by simp at h)
 have HPT := LH (show (19 : Int) = 12 → sout true text = 34 :: (text.data.toList ++ [34]) from fun h => by simp at h)
 obtain ⟨nk, hnk⟩ : ∃ nk, kids.length = nk := ⟨_, rfl⟩
 rw [hnk] at k7 HKV hc2 HKC HX ⊢
 have HNK := LH hnk
 clear hnk
 go_enter Tryz.func21, Tryz.ntmps21
 go_upto_region 1 with fail
 rw [HX.out]
 go_upto_region 2 with fail
 rw [HY.out]
 go_wp2_with (first | (go_at_call 54; refine (text_ex _ (by omega) _).mono ?_; rintro e w' ⟨rfl, rfl⟩) | (go_at_call 57; refine (decFits_any high bits hhigh hbits _).mono ?_; rintro e W2 ⟨v, rfl, hW2⟩; refine Hid.out ?_))
 refine LH ?_
 have HLYN := LH (HLY.out.step hW2)
 have HGYN := LH (HGY.out.trans (GStep.of_below (g := g) hW2))
 have kk7 := (hW2.cell (p := ⟨W.heap.size, 7, none⟩) (by show W.heap.size < _; omega)).trans (HKC.out 7 _ rfl)
 clear hW2
 cases v
 ·go_wp2_with fail
  go_ret
  exact ⟨false, rfl, left - 1, by omega, by omega, (fun h => by cases h), HLYN.out, HGYN.out⟩
 ·go_wp2_with fail
  clear k0 k1 k2 k3 k4 k5 k6 k7 kl kx kf
  go_loopw [116] (fun i wr => ∃ k : Nat, k ≤ nk ∧ i = .int .i64 k ∧ Hid (∃ lk : Int, 0 ≤ lk ∧ lk < left ∧ LS g lk w0 wr ∧ GStep g W wr ∧ (((kids.take k).map fun p => cntV d p.2).sum : Int) + lk + 1 ≤ left ∧ ∀ p ∈ kids.take k, p.1.size ≤ 300 ∧ UT p.1 ∧ FitD n d p.2)) (fun i _ => nk - (intOf i).toNat)
  case atStart => exact ⟨0, Nat.zero_le _, rfl, left - 1, by omega, by omega, HLYN.out, HGYN.out, (by first | (simp; done) | (simp; omega)), fun p hp => by simp at hp⟩
  case round =>
   obtain ⟨k, hk, rfl, ⟨lk, q1, q2, q3, q4, q5, q6⟩⟩ := hrel
   by_cases hlt : k < nk
   ·obtain ⟨name, kd, bb, o, cs, hget, rfl, hR, hcs, hrange⟩ := HKV.out.elem (i := k) (by have := HNK.out; omega)
    have hbr := q3.below
    have hrg := rangeAt_later hrange hbr
    obtain ⟨kk, tx, mr, en, vb, vh, B1, B2, m1, e1, m2, e2, rfl⟩ := hR.form
    have hns : name.size ≤ 140737488351232 := by
     obtain ⟨A', c', _, _, _, hr⟩ := HKV.out
     exact (hr k name kd hget).1
    have hx0 : ∀ h : 0 < name.size, ((name[0]'h).toNat : Int) = (byA name 0 : Int) := fun h => byA_at name 0 h
    generalize byA name 0 = z0 at hx0
    have htake : kids.take (k + 1) = kids.take k ++ [(name, kd)] := by rw [List.take_add_one, hget]; rfl
    have hld := ld_elem (bb := bb) (o := o + k * 9) hrg
    have HTK := LH htake
    have HQ1 := LH q1
    have HQ2 := LH q2
    have Q4 := LH q4
    have Q5 := LH q5
    have Q6 := LH q6
    have hbe := below_allocB wr (.cells #[.string name, .int .i64 kk, .string tx, .string mr, .int .i64 en, .int .u64 (vb : Int), .int .u64 (vh : Int), .slice B1 m1 e1, .slice B2 m2 e2] 38)
    have HC := LH (HIH.out kd _ hR lk _ q1 (by omega) (q3.step hbe))
    have HLE := LH (q3.step hbe)
    have HGE := LH (q4.trans (GStep.of_below (g := g) hbe))
    clear hrange hrg hget hR hbr hcs q1 q2 q3 q4 q5 q6 htake hbe
    have hcase : (textB name = false ∨ (textB name = true ∧ 1 ≤ name.size ∧ z0 = 36)) ∨ ((textB name = true ∧ name.size = 0) ∨ (textB name = true ∧ 1 ≤ name.size ∧ ¬ z0 = 36)) := by
     cases textB name
     ·exact .inl (.inl rfl)
     ·rcases Nat.eq_zero_or_pos name.size with h | h
      ·exact .inr (.inl ⟨rfl, h⟩)
      ·by_cases h2 : z0 = 36
       ·exact .inl (.inr ⟨rfl, h, h2⟩)
       ·exact .inr (.inr ⟨rfl, h, h2⟩)
    have HLD := LH hld
    clear hld
    rcases hcase with hcase | hcase
    ·rcases hcase with ht | ⟨ht, hz, hz2⟩
     all_goals
      first | (have hem := full_of_size hz; have hzb : ((z0 : Int) == 36) = true := (by simp [hz2]); clear hz2) | skip
      go_wp2_with (with_reducible show wpList _ _ _ (⟨some 119, _, _, _, _, _⟩ :: _) _ _; refine Hid.out ?_)
      refine LH ?_
      refine HLD.out _ _ _ _ _ _ rfl rfl rfl ?_
      go_wp2_with (go_at_call 54; refine (text_ex _ (by omega) _).mono ?_; rintro e w' ⟨rfl, rfl⟩)
      go_ret
      exact ⟨false, rfl, lk, by have := HQ1.out; omega, HQ2.out, (fun h => by cases h), HLE.out, HGE.out⟩
    ·rcases hcase with ⟨ht, hz⟩ | ⟨ht, hz, hz2⟩
     all_goals
      first | (have hem := full_of_size hz; have hzb : ((z0 : Int) == 36) = false := (by simp; omega); clear hz2) | (have hem := empty_of_size hz)
      go_wp2_with (with_reducible show wpList _ _ _ (⟨some 119, _, _, _, _, _⟩ :: _) _ _; refine Hid.out ?_)
      refine LH ?_
      refine HLD.out _ _ _ _ _ _ rfl rfl rfl ?_
      go_wp2_with (first | (go_at_call 54; refine (text_ex _ (by omega) _).mono ?_; rintro e w' ⟨rfl, rfl⟩) | (go_at_call 21; refine HC.out.mono ?_; rintro e w3 ⟨v, rfl, hp⟩; refine Hid.out ?_))
      refine LH ?_
      obtain ⟨l2, p1, p2, p3, p4, p5⟩ := hp
      have P1 := LH p1
      have P2 := LH p2
      have P3 := LH p3
      have P4 := LH p4
      have P5 := LH p5
      clear p1 p2 p3 p4 p5
      cases v
      ·go_wp2_with fail
       go_ret
       exact ⟨false, rfl, l2, P1.out, by have := P2.out; have := HQ2.out; omega, (fun h => by cases h), P4.out, HGE.out.trans P5.out⟩
      ·go_wp2_with fail
       go_roundw
       case rel => exact ⟨k + 1, by omega, by go_num, l2, (P3.out rfl).2.1, by have := P2.out; have := HQ2.out; omega, P4.out, HGE.out.trans P5.out, by rw [HTK.out]; have := (P3.out rfl).2.2; have := Q5.out; simp only [List.map_append, List.sum_append, List.map_cons, List.map_nil, List.sum_cons, List.sum_nil]; omega, by rw [HTK.out]; intro p hp; rcases List.mem_append.1 hp with hp | hp; exact Q6.out p hp; (rw [List.mem_singleton.1 hp]; exact ⟨(textB_true ht).1, (textB_true ht).2, (P3.out rfl).1⟩)⟩
       case measure => simp [intOf]; omega
   ·go_wp2_with fail
    go_ret
    have hall : kids.take k = kids := List.take_of_length_le (by have := HNK.out; omega)
    rw [hall] at q5 q6
    refine ⟨true, rfl, lk, by omega, q2, fun _ => ⟨⟨textB_true ht1, textB_true ht2, hb3, HRI.out, HPT.out, q6⟩, q1, ?_⟩, q3, q4⟩
    have hcr : cntV (d + 1) ⟨19, text, more, vn, bits, high, b, kids⟩ = 1 + (kids.map fun p => cntV d p.2).sum := rfl
    rw [hcr]
    omega
theorem counts_reg (w0 : World) (g n d : Nat) (hn : n ≤ 1000) (IH : CV w0 g n d) (text more : ByteArray) (vn : Int) (bits high : Nat) (b : List UInt8) (kids : List (ByteArray × VT d)) (A1 : Option Addr) (c1 : Nat) (A2 : Option Addr) (c2 : Nat) (hkv : KidsV w0 (IsV w0 d) (.slice A2 kids.length c2) kids) (hc2 : kids.length ≤ 140737488351232)
    (hbits : bits < 18446744073709551616) (hhigh : high < 18446744073709551616) (hts : text.size ≤ 140737488351232) (hms : more.size ≤ 140737488351232) (hbl : b.length ≤ 140737488351232)
    (left : Int) (W : World) (h0 : 0 ≤ left) (h300 : left ≤ 300) (hls : LS g left w0 W)
    (hl : 1 ≤ left) (ht1 : textB text = true) (ht2 : textB more = true) (hb3 : b.length ≤ 300) :
    Calls Tryz.prog 21 #[valV 11 text more vn bits high (.slice A1 b.length c1) (.slice A2 kids.length c2), .int .i64 ((n + 1 : Nat) : Int), .pointer (some ⟨g, 0, none⟩)] W (CPost w0 g (n + 1) (d + 1) ⟨11, text, more, vn, bits, high, b, kids⟩ left W) := by
  unfold valV
  obtain ⟨X, Y, hX, hY, hly, hgy, kc, kl, kx, kf, hYs⟩ := counts_pre w0 g left W 11 text more vn bits high (.slice A1 b.length c1) (.slice A2 kids.length c2) hls
  have k0 := kc 0 _ rfl
  have k1 := kc 1 _ rfl
  have k2 := kc 2 _ rfl
  have k3 := kc 3 _ rfl
  have k4 := kc 4 _ rfl
  have k5 := kc 5 _ rfl
  have k6 := kc 6 _ rfl
  have k7 := kc 7 _ rfl
  have HLY := LH hly
  have HGY := LH hgy
  have HX := LH hX
  have HY := LH hY
  have HKV := LH hkv
  have HIH := LH IH
  have HKC := LH kc
  obtain ⟨N, hN⟩ : ∃ N : Int, ((n + 1 : Nat) : Int) = N := ⟨_, rfl⟩
  have hN0 : (N == 0) = false := by simp; omega
  have hN1 : N - 1 = (n : Int) := by omega
  have hNb : 1 ≤ N := by omega
  have hNc : N ≤ 1001 := by omega
  rw [hN]
  clear hN hX hY hly hgy hkv IH hls kc
  have HPT := LH (show (11 : Int) = 12 → sout true text = 34 :: (text.data.toList ++ [34]) from fun h => by simp at h)
  obtain ⟨nk, hnk⟩ : ∃ nk, kids.length = nk := ⟨_, rfl⟩
  rw [hnk] at k7 HKV hc2 HKC HX ⊢
  have HNK := LH hnk
  clear hnk
  have hbyte : ∀ k, ∃ z : Nat, z < 256 ∧ (∀ h : k < more.size, ((more[k]'h).toNat : Int) = (z : Int)) ∧ ∀ c, more.data.toList[k]? = some c → c.toNat = z := fun k => ⟨byA more k, byA_lt more k, fun h => byA_at more k h, fun c hc => by unfold byA; rw [List.getD_eq_getElem?_getD, hc]; rfl⟩
  have HBY := LH hbyte
  clear hbyte
  go_enter Tryz.func21, Tryz.ntmps21
  go_upto_region 1 with fail
  rw [HX.out]
  go_upto_region 2 with fail
  rw [HY.out]
  go_wp2_with (go_at_call 54; refine (text_ex _ (by omega) _).mono ?_; rintro e w' ⟨rfl, rfl⟩)
  go_loopw [8] (fun x wr => ∃ pos : Nat, pos ≤ more.size ∧ Hid (wr.heap[Y.heap.size]? = some (.stringIter more pos)) ∧ Hid (Below Y.heap.size Y wr) ∧ Hid (∀ i c, i < pos → more.data.toList[i]? = some c → (97 ≤ c.toNat ∧ c.toNat ≤ 122) ∧ ∀ j c', i ≤ j → j < pos → more.data.toList[j]? = some c' → c.toNat ≤ c'.toNat)) (fun _ wr => more.size - wr.iterPos Y.heap.size)
  case atStart => exact ⟨0, Nat.zero_le _, by first | exact World.iter_heap _ _ _ | (show World.heap _ _ = _; simp [World.iter]), by first | exact below_allocB Y _ | exact iter_below _ _ _, fun i c hi => absurd hi (Nat.not_lt_zero _)⟩
  case round =>
    obtain ⟨pos, hpos, HI, HBW, HR⟩ := hrel
    by_cases hp : pos < more.size
    · have hpi : (pos : Int) < (more.size : Int) := by omega
      obtain ⟨z, hz256, hzx, hzc⟩ := HBY.out pos
      have HZC := LH hzc
      clear hzc
      obtain ⟨rv, np, hnx, hnp⟩ : ∃ (rv : Int) (np : Nat), (∀ ty, (Instr.next (.pointer (some ⟨Y.heap.size, 0, none⟩)) true ty).run Tryz.prog wr = .ok (.tuple #[.bool true, .int .i64 pos, .int .i32 rv]) (wr.iterAt Y.heap.size more np)) ∧ (z < 128 → np = pos + 1) := by
        by_cases hz : z < 128
        · exact ⟨_, pos + 1, fun ty => Lib.run_next_ascii_at wr Y.heap.size more pos ty HI.out hp (by have := hzx hp; omega), fun _ => rfl⟩
        · exact ⟨_, _, fun ty => Lib.run_next_any_at wr Y.heap.size more pos ty HI.out hp, fun h => absurd h hz⟩
      have HNP := LH hnp
      obtain ⟨V, hV⟩ : ∃ V, wr.iterAt Y.heap.size more np = V := ⟨_, rfl⟩
      rw [hV] at hnx
      have hVb : Below Y.heap.size Y V := hV ▸ iterAt_below HBW.out more np
      have c2 := (hVb.cell (p := ⟨W.heap.size, 2, none⟩) (by show W.heap.size < _; omega)).trans (HKC.out 2 _ rfl)
      have HVI := LH (show V.heap[Y.heap.size]? = some (.stringIter more np) from hV ▸ Lib.iterAt_heap wr Y.heap.size more pos np HI.out)
      have HVB := LH hVb
      clear hnp hV hVb
      have hcase : (z < 97) ∨ (97 ≤ z ∧ 122 < z) ∨ (97 ≤ z ∧ z ≤ 122) := by omega
      rcases hcase with q | ⟨q, q2⟩ | ⟨q, q2⟩
      · have hd1 : (z : Int) < 97 := by omega
        go_wp2_with fail
        go_quiet (fail)
        have HLYN := LH (HLY.out.step (below_drn HVB.out nq))
        have HGYN := LH (HGY.out.trans (GStep.of_below (g := g) (below_drn HVB.out nq)))
        go_wp2_with fail
        go_ret
        exact ⟨false, rfl, left - 1, by omega, by omega, (fun h => by cases h), HLYN.out, HGYN.out⟩
      · have hd1 : decide ((z : Int) < 97) = false := by simp; omega
        have hd2 : (122 : Int) < (z : Int) := by omega
        go_wp2_with fail
        go_quiet (fail)
        have HLYN := LH (HLY.out.step (below_drn HVB.out nq))
        have HGYN := LH (HGY.out.trans (GStep.of_below (g := g) (below_drn HVB.out nq)))
        go_wp2_with fail
        go_ret
        exact ⟨false, rfl, left - 1, by omega, by omega, (fun h => by cases h), HLYN.out, HGYN.out⟩
      · have hd1 : decide ((z : Int) < 97) = false := by simp; omega
        have hd2 : decide (122 < (z : Int)) = false := by simp; omega
        rcases Nat.eq_zero_or_pos pos with h0p | h0p
        · subst h0p
          go_wp2_with fail
          go_quiet (fail)
          go_wp2_with fail
          go_roundw
          case rel =>
            refine ⟨np, by have := HNP.out (by omega); omega, HVI.out, below_drn HVB.out nq, ?_⟩
            have hnp := HNP.out (by omega)
            subst hnp
            intro i c hi hc
            obtain rfl : i = 0 := by omega
            refine ⟨by have := HZC.out c hc; omega, fun j c' h1 h2 h3 => ?_⟩
            obtain rfl : j = 0 := by omega
            rw [hc] at h3
            injection h3 with h3
            subst h3
            exact Nat.le_refl _
          case measure =>
            have h1 := HI.out
            have h2 := HVI.out
            have h3 := HNP.out (by omega)
            simp [World.iterPos, h1, h2]
            omega
        · obtain ⟨p, rfl⟩ : ∃ p, pos = p + 1 := ⟨pos - 1, by omega⟩
          have hp1 : p < more.size := by omega
          have hpi1 : (p : Int) < (more.size : Int) := by omega
          obtain ⟨y, hy256, hyx, hyc⟩ := HBY.out p
          have HYC := LH hyc
          clear hyc
          have hpm : ((p + 1 : Nat) : Int) - 1 = (p : Int) := by omega
          have hpz : (0 : Int) < ((p + 1 : Nat) : Int) := by omega
          by_cases hyz : z < y
          · go_wp2_with fail
            go_quiet (fail)
            have HLYN := LH (HLY.out.step (below_drn HVB.out nq))
            have HGYN := LH (HGY.out.trans (GStep.of_below (g := g) (below_drn HVB.out nq)))
            go_wp2_with fail
            go_ret
            exact ⟨false, rfl, left - 1, by omega, by omega, (fun h => by cases h), HLYN.out, HGYN.out⟩
          · have hd3 : decide ((z : Int) < (y : Int)) = false := by simp; omega
            go_wp2_with fail
            go_quiet (fail)
            go_wp2_with fail
            go_roundw
            case rel =>
              refine ⟨np, by have := HNP.out (by omega); omega, HVI.out, below_drn HVB.out nq, ?_⟩
              have hnp := HNP.out (by omega)
              subst hnp
              intro i c hi hc
              have hcz : ∀ c', more.data.toList[p + 1]? = some c' → c'.toNat = z := HZC.out
              have hll : p < more.data.toList.length := by rw [Array.length_toList]; exact hp1
              have hpv := HYC.out _ (List.getElem?_eq_getElem hll)
              by_cases e : i = p + 1
              · subst e
                refine ⟨by have := hcz c hc; omega, fun j c' h1 h2 h3 => ?_⟩
                obtain rfl : j = p + 1 := by omega
                rw [hc] at h3
                injection h3 with h3
                subst h3
                exact Nat.le_refl _
              · obtain ⟨r1, r2⟩ := HR.out i c (by omega) hc
                refine ⟨r1, fun j c' h1 h2 h3 => ?_⟩
                by_cases e2 : j = p + 1
                · subst e2
                  have := hcz c' h3
                  have := r2 p _ (by omega) (by omega) (List.getElem?_eq_getElem hll)
                  omega
                · exact r2 j c' h1 (by omega) h3
            case measure =>
              have h1 := HI.out
              have h2 := HVI.out
              have h3 := HNP.out (by omega)
              simp [World.iterPos, h1, h2]
              omega
    · have hnx : ∀ ty, (Instr.next (.pointer (some ⟨Y.heap.size, 0, none⟩)) true ty).run Tryz.prog wr = _ := fun ty => Lib.run_next_end_at wr Y.heap.size more pos ty HI.out hp
      have kk7 := (HBW.out.cell (p := ⟨W.heap.size, 7, none⟩) (by show W.heap.size < _; omega)).trans (HKC.out 7 _ rfl)
      have HLYN := LH (HLY.out.step HBW.out)
      have HGYN := LH (HGY.out.trans (GStep.of_below (g := g) HBW.out))
      have HRI := LH (show (11 : Int) = 11 → Rising more.data.toList from fun _ => by
        refine ⟨fun c hc => ?_, ?_⟩
        · obtain ⟨i, hi, rfl⟩ := List.getElem_of_mem hc
          exact (HR.out i _ (by rw [Array.length_toList] at hi; have : more.size ≤ pos := by omega
                                exact Nat.lt_of_lt_of_le hi this) (List.getElem?_eq_getElem hi)).1
        · rw [List.pairwise_iff_getElem]
          intro i j hi hj hij
          have hjl : j < pos := by rw [Array.length_toList] at hj; have : more.size ≤ pos := by omega
                                   exact Nat.lt_of_lt_of_le hj this
          exact (HR.out i _ (by omega) (List.getElem?_eq_getElem hi)).2 j _ (by omega) hjl (List.getElem?_eq_getElem hj))
      go_wp2_with fail
      clear k0 k1 k2 k3 k4 k5 k6 k7 kl kx kf kk7 hnx
      go_loopw [116] (fun i wr => ∃ k : Nat, k ≤ nk ∧ i = .int .i64 k ∧ Hid (∃ lk : Int, 0 ≤ lk ∧ lk < left ∧ LS g lk w0 wr ∧ GStep g W wr ∧ (((kids.take k).map fun p => cntV d p.2).sum : Int) + lk + 1 ≤ left ∧ ∀ p ∈ kids.take k, p.1.size ≤ 300 ∧ UT p.1 ∧ FitD n d p.2)) (fun i _ => nk - (intOf i).toNat)
      case atStart => exact ⟨0, Nat.zero_le _, rfl, left - 1, by omega, by omega, HLYN.out, HGYN.out, (by first | (simp; done) | (simp; omega)), fun p hp => by simp at hp⟩
      case round =>
        obtain ⟨k, hk, rfl, ⟨lk, q1, q2, q3, q4, q5, q6⟩⟩ := hrel
        by_cases hlt : k < nk
        · obtain ⟨name, kd, bb, o, cs, hget, rfl, hR, hcs, hrange⟩ := HKV.out.elem (i := k) (by have := HNK.out; omega)
          have hbr := q3.below
          have hrg := rangeAt_later hrange hbr
          obtain ⟨kk, tx, mr, en, vb, vh, B1, B2, m1, e1, m2, e2, rfl⟩ := hR.form
          have hns : name.size ≤ 140737488351232 := by
            obtain ⟨A', c', _, _, _, hr⟩ := HKV.out
            exact (hr k name kd hget).1
          have hx0 : ∀ h : 0 < name.size, ((name[0]'h).toNat : Int) = (byA name 0 : Int) := fun h => byA_at name 0 h
          generalize byA name 0 = z0 at hx0
          have htake : kids.take (k + 1) = kids.take k ++ [(name, kd)] := by rw [List.take_add_one, hget]; rfl
          have hld := ld_elem (bb := bb) (o := o + k * 9) hrg
          have HTK := LH htake
          have HQ1 := LH q1
          have HQ2 := LH q2
          have Q4 := LH q4
          have Q5 := LH q5
          have Q6 := LH q6
          have hbe := below_allocB wr (.cells #[.string name, .int .i64 kk, .string tx, .string mr, .int .i64 en, .int .u64 (vb : Int), .int .u64 (vh : Int), .slice B1 m1 e1, .slice B2 m2 e2] 38)
          have HC := LH (HIH.out kd _ hR lk _ q1 (by omega) (q3.step hbe))
          have HLE := LH (q3.step hbe)
          have HGE := LH (q4.trans (GStep.of_below (g := g) hbe))
          clear hrange hrg hget hR hbr hcs q1 q2 q3 q4 q5 q6 htake hbe
          have hcase : (textB name = false ∨ (textB name = true ∧ 1 ≤ name.size ∧ z0 = 36)) ∨ ((textB name = true ∧ name.size = 0) ∨ (textB name = true ∧ 1 ≤ name.size ∧ ¬ z0 = 36)) := by
            cases textB name
            · exact .inl (.inl rfl)
            · rcases Nat.eq_zero_or_pos name.size with h | h
              · exact .inr (.inl ⟨rfl, h⟩)
              · by_cases h2 : z0 = 36
                · exact .inl (.inr ⟨rfl, h, h2⟩)
                · exact .inr (.inr ⟨rfl, h, h2⟩)
          have HLD := LH hld
          clear hld
          rcases hcase with hcase | hcase
          · rcases hcase with ht | ⟨ht, hz, hz2⟩
            all_goals
              first | (have hem := full_of_size hz; have hzb : ((z0 : Int) == 36) = true := (by simp [hz2]); clear hz2) | skip
              go_wp2_with (with_reducible show wpList _ _ _ (⟨some 119, _, _, _, _, _⟩ :: _) _ _; refine Hid.out ?_)
              refine LH ?_
              refine HLD.out _ _ _ _ _ _ rfl rfl rfl ?_
              go_wp2_with (go_at_call 54; refine (text_ex _ (by omega) _).mono ?_; rintro e w' ⟨rfl, rfl⟩)
              go_ret
              exact ⟨false, rfl, lk, by have := HQ1.out; omega, HQ2.out, (fun h => by cases h), HLE.out, HGE.out⟩
          · rcases hcase with ⟨ht, hz⟩ | ⟨ht, hz, hz2⟩
            all_goals
              first | (have hem := full_of_size hz; have hzb : ((z0 : Int) == 36) = false := (by simp; omega); clear hz2) | (have hem := empty_of_size hz)
              go_wp2_with (with_reducible show wpList _ _ _ (⟨some 119, _, _, _, _, _⟩ :: _) _ _; refine Hid.out ?_)
              refine LH ?_
              refine HLD.out _ _ _ _ _ _ rfl rfl rfl ?_
              go_wp2_with (first | (go_at_call 54; refine (text_ex _ (by omega) _).mono ?_; rintro e w' ⟨rfl, rfl⟩) | (go_at_call 21; refine HC.out.mono ?_; rintro e w3 ⟨v, rfl, hp⟩; refine Hid.out ?_))
              refine LH ?_
              obtain ⟨l2, p1, p2, p3, p4, p5⟩ := hp
              have P1 := LH p1
              have P2 := LH p2
              have P3 := LH p3
              have P4 := LH p4
              have P5 := LH p5
              clear p1 p2 p3 p4 p5
              cases v
              · go_wp2_with fail
                go_ret
                exact ⟨false, rfl, l2, P1.out, by have := P2.out; have := HQ2.out; omega, (fun h => by cases h), P4.out, HGE.out.trans P5.out⟩
              · go_wp2_with fail
                go_roundw
                case rel => exact ⟨k + 1, by omega, by go_num, l2, (P3.out rfl).2.1, by have := P2.out; have := HQ2.out; omega, P4.out, HGE.out.trans P5.out, by rw [HTK.out]; have := (P3.out rfl).2.2; have := Q5.out; simp only [List.map_append, List.sum_append, List.map_cons, List.map_nil, List.sum_cons, List.sum_nil]; omega, by rw [HTK.out]; intro p hp; rcases List.mem_append.1 hp with hp | hp; exact Q6.out p hp; (rw [List.mem_singleton.1 hp]; exact ⟨(textB_true ht).1, (textB_true ht).2, (P3.out rfl).1⟩)⟩
                case measure => simp [intOf]; omega
        · go_wp2_with fail
          go_ret
          have hall : kids.take k = kids := List.take_of_length_le (by have := HNK.out; omega)
          rw [hall] at q5 q6
          refine ⟨true, rfl, lk, by omega, q2, fun _ => ⟨⟨textB_true ht1, textB_true ht2, hb3, (fun _ => HRI.out trivial), HPT.out, q6⟩, q1, ?_⟩, q3, q4⟩
          have hcr : cntV (d + 1) ⟨11, text, more, vn, bits, high, b, kids⟩ = 1 + (kids.map fun p => cntV d p.2).sum := rfl
          rw [hcr]
          omega
theorem counts_zero (w0 : World) (g d : Nat) (kind : Int) (text more : ByteArray) (vn : Int) (bits high : Nat) (b : List UInt8) (kids : List (ByteArray × VT d)) (A1 : Option Addr) (c1 : Nat) (A2 : Option Addr) (c2 : Nat)
  (left : Int) (W : World) (h0 : 0 ≤ left) (h300 : left ≤ 300) (hls : LS g left w0 W) :
  Calls Tryz.prog 21 #[valV kind text more vn bits high (.slice A1 b.length c1) (.slice A2 kids.length c2), .int .i64 0, .pointer (some ⟨g, 0, none⟩)] W (CPost w0 g 0 (d + 1) ⟨kind, text, more, vn, bits, high, b, kids⟩ left W) := by
 unfold valV
 obtain ⟨X, Y, hX, hY, hly, hgy, kc, kl, kx, kf, hYs⟩ := counts_pre w0 g left W kind text more vn bits high (.slice A1 b.length c1) (.slice A2 kids.length c2) hls
 have k0 := kc 0 _ rfl
 have k1 := kc 1 _ rfl
 have k2 := kc 2 _ rfl
 have k3 := kc 3 _ rfl
 have k4 := kc 4 _ rfl
 have k5 := kc 5 _ rfl
 have k6 := kc 6 _ rfl
 have k7 := kc 7 _ rfl
 have HLY := LH hly
 have HGY := LH hgy
 have HX := LH hX
 have HY := LH hY
 have HKC := LH kc
 clear hX hY hly hgy hls kc
 go_enter Tryz.func21, Tryz.ntmps21
 go_upto_region 1 with fail
 rw [HX.out]
 go_upto_region 2 with fail
 rw [HY.out]
 go_wp2_with (go_at_call 54; refine (text_ex _ (by omega) _).mono ?_; rintro e w' ⟨rfl, rfl⟩)
 all_goals
  go_ret
  exact ⟨false, rfl, left - 1, by omega, by omega, (fun h => by cases h), HLY.out, HGY.out⟩
theorem counts_step (w0 : World) (g n d : Nat) (hn : n ≤ 1000) (IH : CV w0 g n d) : CV w0 g (n + 1) (d + 1) := by
 intro t cs hv left W h0 h300 hls
 obtain ⟨kind, text, more, vn, bits, high, b, kids⟩ := t
 obtain ⟨bv, kv, rfl, hk, hvn, hbits, hhigh, hts, hms, ⟨A1, c1, rfl, hc1, hc1b, hrb⟩, hkv⟩ := hv
 obtain ⟨A2, c2, rfl, hc2, hc2b, hkr⟩ := id hkv
 simp only at hk hvn hbits hhigh hts hms hrb hkv hkr hc2 hc2b hc1 hc1b ⊢
 have hkl : kids.length ≤ 140737488351232 := by omega
 have hbl : b.length ≤ 140737488351232 := by omega
 by_cases hl : left < 1
 ·exact counts_no w0 g n d hn IH kind text more vn bits high b kids A1 c1 A2 c2 hkv hkl hbits hhigh hts hms hbl left W h0 h300 hls (.inl hl)
 have hl1 : 1 ≤ left := by omega
 cases ht1 : textB text
 ·exact counts_no w0 g n d hn IH kind text more vn bits high b kids A1 c1 A2 c2 hkv hkl hbits hhigh hts hms hbl left W h0 h300 hls (.inr (.inl ⟨hl1, ht1⟩))
 cases ht2 : textB more
 ·exact counts_no w0 g n d hn IH kind text more vn bits high b kids A1 c1 A2 c2 hkv hkl hbits hhigh hts hms hbl left W h0 h300 hls (.inr (.inr (.inl ⟨hl1, ht1, ht2⟩)))
 by_cases hb : 300 < b.length
 ·exact counts_no w0 g n d hn IH kind text more vn bits high b kids A1 c1 A2 c2 hkv hkl hbits hhigh hts hms hbl left W h0 h300 hls (.inr (.inr (.inr ⟨hl1, ht1, ht2, hb⟩)))
 have hb3 : b.length ≤ 300 := by omega
 by_cases k1 : kind = 1
 ·subst k1
  exact counts_dbl w0 g n d hn IH text more vn bits high b kids A1 c1 A2 c2 hkv hkl hbits hhigh hts hms hbl left W h0 h300 hls hl1 ht1 ht2 hb3
 by_cases k12 : kind = 12
 ·subst k12
  exact counts_ptr w0 g n d hn IH text more vn bits high b kids A1 c1 A2 c2 hkv hkl hbits hhigh hts hms hbl left W h0 h300 hls hl1 ht1 ht2 hb3
 by_cases k19 : kind = 19
 ·subst k19
  exact counts_dec w0 g n d hn IH text more vn bits high b kids A1 c1 A2 c2 hkv hkl hbits hhigh hts hms hbl left W h0 h300 hls hl1 ht1 ht2 hb3
 by_cases k11 : kind = 11
 ·subst k11
  exact counts_reg w0 g n d hn IH text more vn bits high b kids A1 c1 A2 c2 hkv hkl hbits hhigh hts hms hbl left W h0 h300 hls hl1 ht1 ht2 hb3
 exact counts_other w0 g n d hn IH kind text more vn bits high b kids A1 c1 A2 c2 hkv hkl hbits hhigh hts hms hbl left W h0 h300 hls hl1 ht1 ht2 hb3 (by simpa using k1) (by simpa using k12) (by simpa using k19) (by simpa using k11)
theorem counts_any (w0 : World) (g : Nat) : ∀ n d, n ≤ 1001 → CV w0 g n d
 | _, 0, _ => fun t => t.elim
 | 0, d + 1, _ => by
  intro t cs hv left W h0 h300 hls
  obtain ⟨kind, text, more, vn, bits, high, b, kids⟩ := t
  obtain ⟨bv, kv, rfl, hk, hvn, hbits, hhigh, hts, hms, ⟨A1, c1, rfl, hc1, hc1b, hrb⟩, ⟨A2, c2, rfl, hc2, hc2b, hkr⟩⟩ := hv
  exact counts_zero w0 g d kind text more vn bits high b kids A1 c1 A2 c2 left W h0 h300 hls
 | n + 1, d + 1, h => counts_step w0 g n d (by omega) (counts_any w0 g n d (by omega))
end Go.Proofs.YtpfkgpcnhdkkbaaGreatDoor
