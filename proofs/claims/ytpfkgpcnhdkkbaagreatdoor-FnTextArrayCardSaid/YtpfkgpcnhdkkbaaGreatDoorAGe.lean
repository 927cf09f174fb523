/- The reference's bytes: numbers, texts, heads; conditions: the buffer that is given, sizes. -/
import Derived.Test.YtpfkgpcnhdkkbaaGreatDoorAT0
import Derived.Test.YtpfkgpcnhdkkbaaGreatDoorAGl
import Derived.Test.YtpfkgpcnhdkkbaaGreatDoorAMf
import Derived.Test.YtpfkgpcnhdkkbaaGreatDoorALg
import Derived.Deep.RegionHeld3
namespace Go.Proofs.YtpfkgpcnhdkkbaaGreatDoor
set_option maxHeartbeats 8000000
open Go.RowKit
set_option linter.unusedVariables false
set_option linter.unusedSimpArgs false
set_option maxRecDepth 100000
def ObPost (B : Nat) (l : List UInt8) (W0 : World) (e : Ending) (w' : World) : Prop := ∃ v, e = .returned v ∧ OB B v l W0 w'
theorem ob_lit {ops : Array Oper} {rest : List Oper} {o : Oper} {a : Act} {Q : Exit → Act → World → Prop} (hgd : o.guard = none) (s x : Operand)
  (ho : o.op = .call { callee := .builtin .append, args := #[s, x], argTypes := #[23, 23] })
  {B : Nat} {v : Value} {l : List UInt8} (hs : a.eval s = v) {W0 w0 : World} (t : List UInt8) (cs : Array Value) (hcs : cs = (Lib.byteCells t).toArray) (m : Nat) (hm : t.length = m) (hb : OB B v l W0 w0)
  (hx : a.eval x = .slice (some ⟨w0.heap.size, 0, none⟩) m m) (hlen : l.length + m ≤ 140737488355328)
  (h : ∀ v' w', OB B v' (l ++ t) W0 w' → wpList Tryz.prog ops Q rest (a.put o.dst v') w') : wpList Tryz.prog ops Q (o :: rest) a (w0.alloc (.cells cs 5)) := by
 subst hcs
 subst hm
 refine ob_slice hgd s x ho hs (hb.alloc _) t rfl hx ?_ hlen (fun v' w' hb' _ => h v' w' hb')
 intro j b hj
 rw [addr0, blk_cell (heap_alloc_new w0 _)]
 simp [Lib.byteCells, hj]
theorem le32_cells (n : Int) : (#[Value.int .u8 (n % 256), .int .u8 (n / 256 % 256), .int .u8 (n / 65536 % 256), .int .u8 (n / 16777216 % 256)] : Array Value) = (Lib.byteCells (le32 (u32 n))).toArray := by
 unfold le32 u32 Lib.byteCells
 simp
 omega
theorem docI32_any (B : Nat) (v : Value) (l : List UInt8) (W0 w : World) (n : Int) (hn : I64 n) (hb : OB B v l W0 w) (hl : l.length ≤ 1000000000) : Calls Tryz.prog 45 #[v, .int .i64 n] w (ObPost B (l ++ le32 (u32 n)) W0) := by
 have HB := LH hb
 obtain ⟨hn1, hn2⟩ := hn
 clear hb
 go_enter Tryz.func45, Tryz.ntmps45
 go_wp2_with (at_builtin; refine ob_lit rfl _ _ rfl rfl (le32 (u32 n)) _ (le32_cells n) 4 rfl HB.out rfl (by omega) ?_; intro v1 w1 hb1)
 go_ret
 exact ⟨_, rfl, hb1⟩
theorem byte_cells (z : Int) (c : UInt8) (h : z = (c.toNat : Int)) : (#[Value.int .u8 z] : Array Value) = (Lib.byteCells [c]).toArray := by
 subst h
 rfl
theorem docI64_any (B : Nat) (v : Value) (l : List UInt8) (W0 w : World) (n : Nat) (hn : n < 18446744073709551616) (hb : OB B v l W0 w) (hl : l.length ≤ 1000000000) : Calls Tryz.prog 49 #[v, .int .u64 (n : Int)] w (ObPost B (l ++ le64 n) W0) := by
 have HB := LH hb
 clear hb
 have HB0 := HB
 clear HB
 go_enter Tryz.func49, Tryz.ntmps49
 go_wp2_with fail
 refine wp_loop_rounds 9 ?_
 rw [rounds_succ]
 go_wp2_with (at_builtin; refine ob_lit rfl _ _ rfl rfl [UInt8.ofNat n] _ (byte_cells _ _ (by simp <;> omega)) 1 rfl HB0.out rfl (by (try simp only [List.length_append, List.length_cons, List.length_nil]); omega) ?_; intro v0 w0 hb0; have HB1 := LH hb0; clear hb0)
 rw [rounds_succ]
 go_wp2_with (at_builtin; refine ob_lit rfl _ _ rfl rfl [UInt8.ofNat (n / 256)] _ (byte_cells _ _ (by simp <;> omega)) 1 rfl HB1.out rfl (by (try simp only [List.length_append, List.length_cons, List.length_nil]); omega) ?_; intro v1 w1 hb1; have HB2 := LH hb1; clear hb1)
 rw [rounds_succ]
 go_wp2_with (at_builtin; refine ob_lit rfl _ _ rfl rfl [UInt8.ofNat (n / 65536)] _ (byte_cells _ _ (by simp <;> omega)) 1 rfl HB2.out rfl (by (try simp only [List.length_append, List.length_cons, List.length_nil]); omega) ?_; intro v2 w2 hb2; have HB3 := LH hb2; clear hb2)
 rw [rounds_succ]
 go_wp2_with (at_builtin; refine ob_lit rfl _ _ rfl rfl [UInt8.ofNat (n / 16777216)] _ (byte_cells _ _ (by simp <;> omega)) 1 rfl HB3.out rfl (by (try simp only [List.length_append, List.length_cons, List.length_nil]); omega) ?_; intro v3 w3 hb3; have HB4 := LH hb3; clear hb3)
 rw [rounds_succ]
 go_wp2_with (at_builtin; refine ob_lit rfl _ _ rfl rfl [UInt8.ofNat (n / 4294967296)] _ (byte_cells _ _ (by simp <;> omega)) 1 rfl HB4.out rfl (by (try simp only [List.length_append, List.length_cons, List.length_nil]); omega) ?_; intro v4 w4 hb4; have HB5 := LH hb4; clear hb4)
 rw [rounds_succ]
 go_wp2_with (at_builtin; refine ob_lit rfl _ _ rfl rfl [UInt8.ofNat (n / 1099511627776)] _ (byte_cells _ _ (by simp <;> omega)) 1 rfl HB5.out rfl (by (try simp only [List.length_append, List.length_cons, List.length_nil]); omega) ?_; intro v5 w5 hb5; have HB6 := LH hb5; clear hb5)
 rw [rounds_succ]
 go_wp2_with (at_builtin; refine ob_lit rfl _ _ rfl rfl [UInt8.ofNat (n / 281474976710656)] _ (byte_cells _ _ (by simp <;> omega)) 1 rfl HB6.out rfl (by (try simp only [List.length_append, List.length_cons, List.length_nil]); omega) ?_; intro v6 w6 hb6; have HB7 := LH hb6; clear hb6)
 rw [rounds_succ]
 go_wp2_with (at_builtin; refine ob_lit rfl _ _ rfl rfl [UInt8.ofNat (n / 72057594037927936)] _ (byte_cells _ _ (by simp <;> omega)) 1 rfl HB7.out rfl (by (try simp only [List.length_append, List.length_cons, List.length_nil]); omega) ?_; intro v7 w7 hb7; have HB8 := LH hb7; clear hb7)
 rw [rounds_succ]
 go_wp2_with fail
 go_ret
 exact ⟨_, rfl, by have := HB8.out; simpa [le64] using this⟩
theorem docText_any (B : Nat) (v : Value) (l : List UInt8) (W0 w : World) (s : ByteArray) (hs : s.size ≤ 1000000) (hb : OB B v l W0 w) (hl : l.length ≤ 100000000) : Calls Tryz.prog 50 #[v, .string s] w (ObPost B (l ++ txB s) W0) := by
 have hu : u32 ((s.size : Int) + 1) = s.size + 1 := by unfold u32; omega
 have HC := LH (hu ▸ docI32_any B v l W0 w ((s.size : Int) + 1) ⟨by omega, by omega⟩ hb (by omega))
 have HT := LH (show txB s = le32 (s.size + 1) ++ s.data.toList ++ [0] from rfl)
 have HL := LH hl
 clear hb hu hl
 obtain ⟨t, ht⟩ : ∃ t, le32 (s.size + 1) = t := ⟨_, rfl⟩
 have htl : t.length = 4 := by rw [← ht]; rfl
 rw [ht] at HT
 rw [HT.out]
 rw [ht] at HC
 have HTL := LH htl
 have e1 : s.data.toList.length = s.size := Array.length_toList
 have HE1 := LH e1
 clear ht htl e1 HT
 go_enter Tryz.func50, Tryz.ntmps50
 go_wp2_with (first | (go_at_call 45; refine HC.out.mono ?_; rintro e w1 ⟨v1, rfl, hb1⟩; have HB1 := LH hb1; clear hb1) | (at_builtin; refine ob_text rfl _ _ rfl rfl s HB1.out rfl (by have := HL.out; have := HTL.out; simp only [List.length_append]; omega) ?_; intro v2 w2 hb2; have HB2 := LH hb2; clear hb2) | (at_builtin; refine ob_lit rfl _ _ rfl rfl [0] _ (byte_cells 0 0 rfl) 1 rfl HB2.out rfl (by have := HL.out; have := HTL.out; have := HE1.out; simp only [List.length_append]; omega) ?_; intro v3 w3 hb3))
 go_ret
 exact ⟨_, rfl, by simpa using hb3⟩
theorem docHead_any (k : Int) (hk : -1000000 ≤ k ∧ k ≤ 1000000) (s : ByteArray) (hs : s.size ≤ 1000000) (w : World) : Calls Tryz.prog 71 #[.int .i64 k, .string s] w (ObPost w.heap.size (u8 k :: (s.data.toList ++ [0])) w) := by
 have hz : k % 256 = ((u8 k).toNat : Int) := by unfold u8; simp; omega
 have HZ := LH hz
 have e1 : s.data.toList.length = s.size := Array.length_toList
 have HE1 := LH e1
 have HB0 := LH (OB.lit w [u8 k] (by simp) (by simp))
 clear hz e1
 have HB1 := LH (byte_cells _ _ HZ.out ▸ HB0.out)
 go_enter Tryz.func71, Tryz.ntmps71
 go_wp2_with (first | (at_builtin; refine ob_text rfl _ _ rfl rfl s HB1.out rfl (by have := HE1.out; simp only [List.length_cons, List.length_nil]; omega) ?_; intro v2 w2 hb2; have HB2 := LH hb2; clear hb2) | (at_builtin; refine ob_lit rfl _ _ rfl rfl [0] _ (byte_cells 0 0 rfl) 1 rfl HB2.out rfl (by have := HE1.out; simp only [List.length_append, List.length_cons, List.length_nil]; omega) ?_; intro v3 w3 hb3))
 go_ret
 exact ⟨_, rfl, by simpa using hb3⟩
set_option maxHeartbeats 8000000
theorem run_ob {w : World} (ty : TypeId) {B : Nat} {v : Value} {l : List UInt8} {W0 : World} (hb : OB B v l W0 w) {A : Option Addr} {c : Nat} (t : List UInt8) (hR : RB w A t) (hlen : l.length + t.length ≤ 140737488355328) :
  ∃ v' w', (Builtin.append_ #[23, 23] ty #[v, .slice A t.length c]).run Tryz.prog w = .ok v' w' ∧ OB B v' (l ++ t) W0 w' := by
 obtain ⟨i0, hi, hz0, hz1, hz2⟩ := info_parts info5
 have hone : ∀ u ∈ Lib.byteCells t, u.oneCell' = true := Lib.byteCells_one t
 have big : ∀ ad, (∀ (j : Nat) (b : UInt8), t[j]? = some b → w.cell? (ad.add j) = some (.int .u8 (b.toNat : Int))) → ∃ v' w', (Builtin.append_ #[23, 23] ty #[v, .slice (some ad) t.length c]).run Tryz.prog w = .ok v' w' ∧ OB B v' (l ++ t) W0 w' := by
  intro ad hc
  obtain ⟨v', w', hr, h2, h3, h4⟩ := run_append_ownF (P := Tryz.prog) w B 23 ty 5 i0 (.int .u8 0) 1 1 Tryz.underlying23 hi hz0 hz1 hz2 rfl (by decide) v l.length (Lib.byteCells l) hb.1.1 ad t.length c (Lib.byteCells t) (by rw [bc_len]; omega) (by
   intro j u hj
   simp only [Lib.byteCells, List.getElem?_map, Option.map_eq_some_iff] at hj
   obtain ⟨b, hb', rfl⟩ := hj
   exact hc j b hb') hone (by unfold maxLen; omega) (by omega) hb.1.2.2
  refine ⟨v', w', hr, hb.grow ?_ h3⟩
  rw [byteCells_app, List.length_append]
  exact h2
 rcases Nat.eq_zero_or_pos t.length with h0 | h0
 ·have ht : t = [] := List.eq_nil_of_length_eq_zero h0
  subst ht
  rcases A with _ | ad
  ·exact ⟨v, w, run_append_nil ty c hb.1.1, by simpa using hb⟩
  ·exact big ad (fun j b hj => by simp at hj)
 ·obtain ⟨ad, rfl, hc⟩ := hR h0
  exact big ad hc
theorem step_ob {ops : Array Oper} {o : Oper} {a : Act} {w : World} {K : Act → World → Prop} {Q : Exit → Act → World → Prop} {E : Prop} (hgd : o.guard = none) (s x : Operand)
  (ho : o.op = .call { callee := .builtin .append, args := #[s, x], argTypes := #[23, 23] })
  {B : Nat} {v : Value} {l : List UInt8} (hs : a.eval s = v) {W0 : World} (hb : OB B v l W0 w) {A : Option Addr} {c : Nat} (t : List UInt8)
  (hx : a.eval x = .slice A t.length c) (hR : RB w A t) (hlen : l.length + t.length ≤ 140737488355328)
  (h : ∀ v' w', OB B v' (l ++ t) W0 w' → K (a.put o.dst v') w') : if Region.wanted o (yielded ops a.tmps) = true then Oper.wp Tryz.prog o a w K Q else E := by
 have hw : Region.wanted o (yielded ops a.tmps) = true := by simp [Region.wanted, hgd]
 rw [if_pos hw]
 obtain ⟨v', w', hr, h2⟩ := run_ob (w := w) o.type hb t hR hlen (c := c)
 unfold Oper.wp execOp
 simp only [ho, resolve, invoke, builtin, Sem.run_bind, Sem.run_pure, Result.andThen_ok, List.map_toArray, List.map_cons, List.map_nil, hs, hx, hr]
 exact h v' w' h2
theorem docElem_any (name : ByteArray) (k : Int) (hk : -1000000 ≤ k ∧ k ≤ 1000000) (tx mr : ByteArray) (n : Int) (b h : Nat) (A1 A2 : Option Addr) (n1 c1 n2 c2 : Nat) (x : List UInt8) (hn : name.size ≤ 300) (hx : x.length ≤ 1000000000) (w : World)
  (hc : ∀ W, Below w.heap.size w W → Calls Tryz.prog 17 #[valV k tx mr n b h (.slice A1 n1 c1) (.slice A2 n2 c2)] W (ObPost W.heap.size x W)) (W : World) (hW : Below w.heap.size w W) :
  Calls Tryz.prog 44 #[elV name k tx mr n b h (.slice A1 n1 c1) (.slice A2 n2 c2)] W (ObPost W.heap.size (elB k name x) W) := by
 unfold valV at hc
 unfold elV
 obtain ⟨X, hX⟩ : ∃ X, W.alloc (.cells #[.string name, .int .i64 k, .string tx, .string mr, .int .i64 n, .int .u64 (b : Int), .int .u64 (h : Int), .slice A1 n1 c1, .slice A2 n2 c2] 38) = X := ⟨_, rfl⟩
 have hXb : Below W.heap.size W X := hX ▸ below_allocB W _
 have hXs : X.heap.size = W.heap.size + 1 := by rw [← hX]; simp
 have hVc : ∀ V, Below X.heap.size X V → V.cell? ⟨W.heap.size, 0, none⟩ = some (.string name) ∧ V.cell? ⟨W.heap.size, 1, none⟩ = some (.int .i64 k) ∧ V.cell? ⟨W.heap.size, 2, none⟩ = some (.string tx) ∧ V.cell? ⟨W.heap.size, 3, none⟩ = some (.string mr) ∧ V.cell? ⟨W.heap.size, 4, none⟩ = some (.int .i64 n) ∧ V.cell? ⟨W.heap.size, 5, none⟩ = some (.int .u64 (b : Int)) ∧ V.cell? ⟨W.heap.size, 6, none⟩ = some (.int .u64 (h : Int)) ∧ V.cell? ⟨W.heap.size, 7, none⟩ = some (.slice A1 n1 c1) ∧ V.cell? ⟨W.heap.size, 8, none⟩ = some (.slice A2 n2 c2) := by
  intro V hV
  have hk := (hV.block W.heap.size (by rw [hXs]; omega)).trans (hX ▸ heap_alloc_new W _)
  refine ⟨?_, ?_, ?_, ?_, ?_, ?_, ?_, ?_, ?_⟩ <;> (rw [blk_cell hk]; rfl)
 have HVC := LH hVc
 have HC := LH (fun V (hV : Below X.heap.size X V) => hc V (hW.trans ((hXb.trans (hV.mono hXb.size)).mono hW.size)))
 have HX := LH hX
 have HXB := LH hXb
 have e1 : name.data.toList.length = name.size := Array.length_toList
 have HE1 := LH e1
 have q0 := hVc X (Below.refl _ _)
 clear hc hX hXb hXs hVc hW e1
 go_enter Tryz.func44, Tryz.ntmps44
 go_upto_region 1 with fail
 rw [HX.out]
 go_region_held3 (fun w' => w'.cell? ⟨W.heap.size, 0, none⟩ = some (.string name) ∧ w'.cell? ⟨W.heap.size, 1, none⟩ = some (.int .i64 k) ∧ w'.cell? ⟨W.heap.size, 2, none⟩ = some (.string tx) ∧ w'.cell? ⟨W.heap.size, 3, none⟩ = some (.string mr) ∧ w'.cell? ⟨W.heap.size, 4, none⟩ = some (.int .i64 n) ∧ w'.cell? ⟨W.heap.size, 5, none⟩ = some (.int .u64 (b : Int)) ∧ w'.cell? ⟨W.heap.size, 6, none⟩ = some (.int .u64 (h : Int)) ∧ w'.cell? ⟨W.heap.size, 7, none⟩ = some (.slice A1 n1 c1) ∧ w'.cell? ⟨W.heap.size, 8, none⟩ = some (.slice A2 n2 c2))
  (first | exact q0 | exact HVC.out _ (below_q (Below.refl _ _) 1) | exact HVC.out _ z1 | exact HVC.out _ z2 | exact HVC.out _ z3)
  (first | (go_at_call 71; refine (docHead_any k hk name (by omega) _).mono ?_; rintro e w1 ⟨v1, rfl, o1⟩; have z1 : Below X.heap.size X w1 := (below_q (Below.refl _ _) 1).trans o1.below; have q0 := HVC.out w1 z1) | (go_at_call 17; refine (HC.out w1 z1).mono ?_; rintro e w2 ⟨v2, rfl, o2⟩; have z2 : Below X.heap.size X w2 := z1.trans (o2.below.mono z1.size); have q0 := HVC.out w2 z2; obtain ⟨A9, c9, rfl, r9⟩ := o2.rb) | (refine step_ob (by rfl) _ _ (by rfl) (by rfl) (o1.later o2.below) x (by rfl) r9 (by have := HE1.out; simp; omega) ?_; intro v3 w3 o3; have z3 : Below X.heap.size X w3 := (below_q (Below.refl _ _) 1).trans o3.below; have q0 := HVC.out w3 z3))
 have HF := LH (show OB W.heap.size v3 (elB k name x) W w3 by
  have h1 := (o3.low (B' := W.heap.size) HXB.out.size).since (W0 := W) (below_q HXB.out 1) (EKept.of_below (below_q HXB.out 1))
  rw [show elB k name x = u8 k :: (name.data.toList ++ [0]) ++ x from by simp [elB]]
  exact h1)
 clear o1 o2 o3 q0 z1 z2 z3
 go_wp2_with fail
 go_ret
 exact ⟨_, rfl, HF.out⟩
structure DbEnv (K : Type) (kf : K → Int) (f : K → List UInt8) (R : K → List Value → Prop) (l : List (ByteArray × K)) (w0 : World) : Prop where
 names : ∀ p ∈ l, p.1.size ≤ 300
 cells : ∀ p ∈ l, ∀ cs, R p.2 cs → Cells8 cs ∧ cs[0]? = some (.int .i64 (kf p.2))
 kinds : ∀ p ∈ l, -1000000 ≤ kf p.2 ∧ kf p.2 ≤ 1000000
 lens : ∀ p ∈ l, (f p.2).length ≤ 1000000
 val : ∀ p ∈ l, ∀ cs, R p.2 cs → ∀ W, Below w0.heap.size w0 W → Calls Tryz.prog 17 #[.agg cs.toArray] W (ObPost W.heap.size (f p.2) W)
theorem body_take {K : Type} (kf : K → Int) (f : K → List UInt8) (l : List (ByteArray × K)) (k : Nat) (p : ByteArray × K) (h : l[k]? = some p) : bodyB kf f (l.take (k + 1)) = bodyB kf f (l.take k) ++ elB (kf p.2) p.1 (f p.2) := by
 unfold bodyB
 rw [List.take_add_one, h]
 simp [List.flatMap_append]
theorem body_mono {K : Type} (kf : K → Int) (f : K → List UInt8) (l : List (ByteArray × K)) (k : Nat) : (bodyB kf f (l.take k)).length ≤ (bodyB kf f l).length := by
 conv => rhs; rw [← List.take_append_drop k l]
 unfold bodyB
 rw [List.flatMap_append, List.length_append]
 omega
theorem docBytes_any {K : Type} {kf : K → Int} {f : K → List UInt8} {R : K → List Value → Prop} {l : List (ByteArray × K)} (A : Option Addr) (n c : Nat) (w0 w : World)
  (E : DbEnv K kf f R l w0) (hn : n = l.length) (hkv : KidsV w0 R (.slice A n c) l) (hnb : n ≤ 140737488351232) (hb : Below w0.heap.size w0 w) (hl : (bodyB kf f l).length ≤ 10000000) :
  Calls Tryz.prog 13 #[.slice A n c] w (ObPost w.heap.size (docB kf f l) w) := by
 have HE := LH E
 have HN := LH hn
 have HKV := LH hkv
 have HL := LH hl
 have HB := LH hb
 have HO := LH (OB.nil (w := w) (B := w.heap.size) (Nat.le_refl _))
 clear E hn hkv hb hl
 go_enter Tryz.func13, Tryz.ntmps13
 go_wp2_with fail
 go_loopg [3, 4] n (fun g v i wr => ∃ k : Nat, k ≤ n ∧ i = .int .i64 k ∧ n - k ≤ g ∧ Hid (OB w.heap.size v (bodyB kf f (l.take k)) w wr))
 case atStart => exact ⟨0, Nat.zero_le _, rfl, by omega, HO.out⟩
 case round =>
  obtain ⟨k, hk, rfl, hg, HV⟩ := hrel
  by_cases hlt : k < n
  ·obtain ⟨name, kd, b, o, cs, hget, rfl, hR, hcs, hrange⟩ := HKV.out.elem (i := k) (by have := HN.out; omega)
   have hmem : (name, kd) ∈ l := List.mem_of_getElem? hget
   have hbr : Below w0.heap.size w0 wr := HB.out.trans (HV.out.below.mono HB.out.size)
   have hrg := rangeAt_later hrange hbr
   obtain ⟨⟨kk, tx, mr, en, vb, vh, A1, A2, n1, c1, n2, c2, rfl⟩, hkk⟩ := HE.out.cells _ hmem cs hR
   have hkk2 : kk = kf kd := by simpa using hkk
   have HEL := LH (docElem_any name kk (hkk2 ▸ HE.out.kinds _ hmem) tx mr en vb vh A1 A2 n1 c1 n2 c2 (f kd) (HE.out.names _ hmem) (by have := HE.out.lens _ hmem; simp only at this; omega) wr (fun W hW => HE.out.val _ hmem _ hR W (hbr.trans (hW.mono hbr.size))) wr (Below.refl _ _))
   have HTK := LH (body_take kf f l k _ hget)
   have HML := LH (body_mono kf f l (k + 1))
   unfold elV at HEL
   rw [← hkk2] at HTK
   simp only at HTK
   have HRG := LH hrg
   obtain ⟨y, hy⟩ : ∃ y, elB kk name (f kd) = y := ⟨_, rfl⟩
   rw [hy] at HTK HEL
   obtain ⟨A0, c0, rfl, r0⟩ := HV.out.rb
   clear hrange hrg hmem hget hR hbr hcs hkk hkk2 hy r0
   go_wp2_with (with_reducible show wpList _ _ _ (⟨some 16, _, _, _, _, _⟩ :: _) _ _; refine Hid.out ?_)
   refine LH ?_
   refine wpList_load_mid rfl 38 (.tmp 15) rfl b (o + k * 9) rfl [.string name, .int .i64 kk, .string tx, .string mr, .int .i64 en, .int .u64 (vb : Int), .int .u64 (vh : Int), .slice A1 n1 c1, .slice A2 n2 c2] _ HRG.out Tryz.underlying38 rfl (by rw [info38s]; rfl) ?_
   go_wp2_with (first | (go_at_call 44; refine HEL.out.mono ?_; rintro e w1 ⟨v1, rfl, o1⟩; obtain ⟨A9, c9, rfl, r9⟩ := o1.rb; have HO1 := LH o1; have HR9 := LH r9; clear o1 r9) | (at_builtin; refine ob_any rfl _ _ rfl rfl (HV.out.later HO1.out.below) y rfl HR9.out (by have h1 := HML.out; have h2 := HL.out; rw [HTK.out, List.length_append] at h1; omega) ?_; intro v2 w2 o2; have HO2 := LH o2; clear o2))
   go_roundg (n - (k + 1))
   case rel => exact ⟨k + 1, by omega, by go_num, by omega, by rw [HTK.out]; exact HO2.out⟩
   case measure => omega
  ·obtain rfl : k = n := by omega
   obtain ⟨A0, c0, rfl, r0⟩ := HV.out.rb
   have HTK := LH (show l.take k = l from List.take_of_length_le (by have := HN.out; omega))
   rw [HTK.out] at HV r0 ⊢
   have HR0 := LH r0
   have HDW := LH (show docB kf f l = le32 ((bodyB kf f l).length + 5) ++ bodyB kf f l ++ [0] from rfl)
   obtain ⟨y, hy⟩ : ∃ y, bodyB kf f l = y := ⟨_, rfl⟩
   rw [hy] at HV HR0 HL HDW ⊢
   have hyl := HL.out
   have hu : u32 ((y.length : Int) + 5) = y.length + 5 := by unfold u32; omega
   have HC := LH (hu ▸ docI32_any wr.heap.size (.slice none 0 0) [] wr wr ((y.length : Int) + 5) ⟨by omega, by omega⟩ (OB.nil (Nat.le_refl _)) (by simp))
   obtain ⟨t, ht⟩ : ∃ t, le32 (y.length + 5) = t := ⟨_, rfl⟩
   have htl : t.length = 4 := by rw [← ht]; rfl
   rw [ht] at HC HDW
   have HDB := HDW
   have HTL := LH htl
   clear hy hu ht htl r0 HDW
   go_wp2_with (first | (go_at_call 45; refine HC.out.mono ?_; rintro e w1 ⟨v1, rfl, o1⟩; have HO1 := LH o1; clear o1) | (at_builtin; refine ob_any rfl _ _ rfl rfl HO1.out y rfl (HR0.out.lat HO1.out.below) (by have := HTL.out; simp only [List.nil_append]; omega) ?_; intro v2 w2 o2; have HO2 := LH o2; clear o2) | (at_builtin; refine ob_lit rfl _ _ rfl rfl [0] _ (byte_cells 0 0 rfl) 1 rfl HO2.out rfl (by have := HTL.out; simp only [List.nil_append, List.length_append]; omega) ?_; intro v3 w3 o3))
   go_ret
   refine ⟨_, rfl, ?_⟩
   have h1 := (o3.low (B' := w.heap.size) HV.out.below.size).since (W0 := w) HV.out.below HV.out.kept
   show OB _ _ (docB kf f l) _ _
   rw [HDB.out]
   simpa using h1
set_option maxHeartbeats 8000000
theorem ob_home {w X w' : World} (hXb : Below w.heap.size w X) {v : Value} {l : List UInt8} (o : OB X.heap.size v l X w') : OB w.heap.size v l w w' := (o.low (B' := w.heap.size) hXb.size).since hXb (EKept.of_below hXb)
theorem u64_val (n : Int) : ((u64 n : Nat) : Int) = n % 18446744073709551616 := by unfold u64; omega
theorem u64_lt (n : Int) : u64 n < 18446744073709551616 := by unfold u64; omega
theorem u32_nat (n : Nat) (h : n < 4294967296) : u32 (n : Int) = n := by unfold u32; omega
theorem u8_val2 (n : Int) : n % 256 = ((u8 n).toNat : Int) := by unfold u8; simp; omega
theorem docv1 (tx mr : ByteArray) (n : Int) (b h : Nat) (A1 A2 : Option Addr) (n1 c1 n2 c2 : Nat) (w : World) (hb : b < 18446744073709551616) :
  Calls Tryz.prog 17 #[valV 1 tx mr n b h (.slice A1 n1 c1) (.slice A2 n2 c2)] w (ObPost w.heap.size (le64 b) w) := by
 unfold valV
 obtain ⟨X, hX⟩ : ∃ X, w.alloc (.cells #[.int .i64 1, .string tx, .string mr, .int .i64 n, .int .u64 (b : Int), .int .u64 (h : Int), .slice A1 n1 c1, .slice A2 n2 c2] 26) = X := ⟨_, rfl⟩
 have hXb : Below w.heap.size w X := hX ▸ below_allocB w _
 have hXs : X.heap.size = w.heap.size + 1 := by rw [← hX]; simp
 have hVc : ∀ V, Below X.heap.size X V → V.cell? ⟨w.heap.size, 0, none⟩ = some (.int .i64 1) ∧ V.cell? ⟨w.heap.size, 1, none⟩ = some (.string tx) ∧ V.cell? ⟨w.heap.size, 2, none⟩ = some (.string mr) ∧ V.cell? ⟨w.heap.size, 3, none⟩ = some (.int .i64 n) ∧ V.cell? ⟨w.heap.size, 4, none⟩ = some (.int .u64 (b : Int)) ∧ V.cell? ⟨w.heap.size, 5, none⟩ = some (.int .u64 (h : Int)) ∧ V.cell? ⟨w.heap.size, 6, none⟩ = some (.slice A1 n1 c1) ∧ V.cell? ⟨w.heap.size, 7, none⟩ = some (.slice A2 n2 c2) := by
  intro V hV
  have hk := (hV.block w.heap.size (by rw [hXs]; omega)).trans (hX ▸ heap_alloc_new w _)
  refine ⟨?_, ?_, ?_, ?_, ?_, ?_, ?_, ?_⟩ <;> (rw [blk_cell hk]; rfl)
 have HVC := LH hVc
 have HX := LH hX
 have HXB := LH hXb
 have HO := LH (OB.nil (w := X) (B := X.heap.size) (Nat.le_refl _))
 obtain ⟨q0, q1, q2, q3, q4, q5, q6, q7⟩ := hVc X (Below.refl _ _)
 have HC := LH (docI64_any X.heap.size (.slice none 0 0) [] X X b hb HO.out (by simp))
 clear hX hXb hXs hVc hb
 go_enter Tryz.func17, Tryz.ntmps17
 go_upto_region 1 with fail
 rw [HX.out]
 go_wp2_with (go_at_call 49; refine (HC.out).mono ?_; rintro e w1 ⟨v1, rfl, o⟩; have O1 := LH o; clear o)
 go_ret
 exact ⟨_, rfl, ob_home HXB.out O1.out⟩
theorem docv17 (tx mr : ByteArray) (n : Int) (b h : Nat) (A1 A2 : Option Addr) (n1 c1 n2 c2 : Nat) (w : World) (hb : b < 18446744073709551616) :
  Calls Tryz.prog 17 #[valV 17 tx mr n b h (.slice A1 n1 c1) (.slice A2 n2 c2)] w (ObPost w.heap.size (le64 b) w) := by
 unfold valV
 obtain ⟨X, hX⟩ : ∃ X, w.alloc (.cells #[.int .i64 17, .string tx, .string mr, .int .i64 n, .int .u64 (b : Int), .int .u64 (h : Int), .slice A1 n1 c1, .slice A2 n2 c2] 26) = X := ⟨_, rfl⟩
 have hXb : Below w.heap.size w X := hX ▸ below_allocB w _
 have hXs : X.heap.size = w.heap.size + 1 := by rw [← hX]; simp
 have hVc : ∀ V, Below X.heap.size X V → V.cell? ⟨w.heap.size, 0, none⟩ = some (.int .i64 17) ∧ V.cell? ⟨w.heap.size, 1, none⟩ = some (.string tx) ∧ V.cell? ⟨w.heap.size, 2, none⟩ = some (.string mr) ∧ V.cell? ⟨w.heap.size, 3, none⟩ = some (.int .i64 n) ∧ V.cell? ⟨w.heap.size, 4, none⟩ = some (.int .u64 (b : Int)) ∧ V.cell? ⟨w.heap.size, 5, none⟩ = some (.int .u64 (h : Int)) ∧ V.cell? ⟨w.heap.size, 6, none⟩ = some (.slice A1 n1 c1) ∧ V.cell? ⟨w.heap.size, 7, none⟩ = some (.slice A2 n2 c2) := by
  intro V hV
  have hk := (hV.block w.heap.size (by rw [hXs]; omega)).trans (hX ▸ heap_alloc_new w _)
  refine ⟨?_, ?_, ?_, ?_, ?_, ?_, ?_, ?_⟩ <;> (rw [blk_cell hk]; rfl)
 have HVC := LH hVc
 have HX := LH hX
 have HXB := LH hXb
 have HO := LH (OB.nil (w := X) (B := X.heap.size) (Nat.le_refl _))
 obtain ⟨q0, q1, q2, q3, q4, q5, q6, q7⟩ := hVc X (Below.refl _ _)
 have HC := LH (docI64_any X.heap.size (.slice none 0 0) [] X X b hb HO.out (by simp))
 clear hX hXb hXs hVc hb
 go_enter Tryz.func17, Tryz.ntmps17
 go_upto_region 1 with fail
 rw [HX.out]
 go_wp2_with (go_at_call 49; refine (HC.out).mono ?_; rintro e w1 ⟨v1, rfl, o⟩; have O1 := LH o; clear o)
 go_ret
 exact ⟨_, rfl, ob_home HXB.out O1.out⟩
theorem docv2 (tx mr : ByteArray) (n : Int) (b h : Nat) (A1 A2 : Option Addr) (n1 c1 n2 c2 : Nat) (w : World) (ht : tx.size ≤ 1000) :
  Calls Tryz.prog 17 #[valV 2 tx mr n b h (.slice A1 n1 c1) (.slice A2 n2 c2)] w (ObPost w.heap.size (txB tx) w) := by
 unfold valV
 obtain ⟨X, hX⟩ : ∃ X, w.alloc (.cells #[.int .i64 2, .string tx, .string mr, .int .i64 n, .int .u64 (b : Int), .int .u64 (h : Int), .slice A1 n1 c1, .slice A2 n2 c2] 26) = X := ⟨_, rfl⟩
 have hXb : Below w.heap.size w X := hX ▸ below_allocB w _
 have hXs : X.heap.size = w.heap.size + 1 := by rw [← hX]; simp
 have hVc : ∀ V, Below X.heap.size X V → V.cell? ⟨w.heap.size, 0, none⟩ = some (.int .i64 2) ∧ V.cell? ⟨w.heap.size, 1, none⟩ = some (.string tx) ∧ V.cell? ⟨w.heap.size, 2, none⟩ = some (.string mr) ∧ V.cell? ⟨w.heap.size, 3, none⟩ = some (.int .i64 n) ∧ V.cell? ⟨w.heap.size, 4, none⟩ = some (.int .u64 (b : Int)) ∧ V.cell? ⟨w.heap.size, 5, none⟩ = some (.int .u64 (h : Int)) ∧ V.cell? ⟨w.heap.size, 6, none⟩ = some (.slice A1 n1 c1) ∧ V.cell? ⟨w.heap.size, 7, none⟩ = some (.slice A2 n2 c2) := by
  intro V hV
  have hk := (hV.block w.heap.size (by rw [hXs]; omega)).trans (hX ▸ heap_alloc_new w _)
  refine ⟨?_, ?_, ?_, ?_, ?_, ?_, ?_, ?_⟩ <;> (rw [blk_cell hk]; rfl)
 have HVC := LH hVc
 have HX := LH hX
 have HXB := LH hXb
 have HO := LH (OB.nil (w := X) (B := X.heap.size) (Nat.le_refl _))
 obtain ⟨q0, q1, q2, q3, q4, q5, q6, q7⟩ := hVc X (Below.refl _ _)
 have HC := LH (docText_any X.heap.size (.slice none 0 0) [] X X tx (by omega) HO.out (by simp))
 clear hX hXb hXs hVc 
 go_enter Tryz.func17, Tryz.ntmps17
 go_upto_region 1 with fail
 rw [HX.out]
 go_wp2_with (go_at_call 50; refine (HC.out).mono ?_; rintro e w1 ⟨v1, rfl, o⟩; have O1 := LH o; clear o)
 go_ret
 exact ⟨_, rfl, ob_home HXB.out O1.out⟩
theorem docv13 (tx mr : ByteArray) (n : Int) (b h : Nat) (A1 A2 : Option Addr) (n1 c1 n2 c2 : Nat) (w : World) (ht : tx.size ≤ 1000) :
  Calls Tryz.prog 17 #[valV 13 tx mr n b h (.slice A1 n1 c1) (.slice A2 n2 c2)] w (ObPost w.heap.size (txB tx) w) := by
 unfold valV
 obtain ⟨X, hX⟩ : ∃ X, w.alloc (.cells #[.int .i64 13, .string tx, .string mr, .int .i64 n, .int .u64 (b : Int), .int .u64 (h : Int), .slice A1 n1 c1, .slice A2 n2 c2] 26) = X := ⟨_, rfl⟩
 have hXb : Below w.heap.size w X := hX ▸ below_allocB w _
 have hXs : X.heap.size = w.heap.size + 1 := by rw [← hX]; simp
 have hVc : ∀ V, Below X.heap.size X V → V.cell? ⟨w.heap.size, 0, none⟩ = some (.int .i64 13) ∧ V.cell? ⟨w.heap.size, 1, none⟩ = some (.string tx) ∧ V.cell? ⟨w.heap.size, 2, none⟩ = some (.string mr) ∧ V.cell? ⟨w.heap.size, 3, none⟩ = some (.int .i64 n) ∧ V.cell? ⟨w.heap.size, 4, none⟩ = some (.int .u64 (b : Int)) ∧ V.cell? ⟨w.heap.size, 5, none⟩ = some (.int .u64 (h : Int)) ∧ V.cell? ⟨w.heap.size, 6, none⟩ = some (.slice A1 n1 c1) ∧ V.cell? ⟨w.heap.size, 7, none⟩ = some (.slice A2 n2 c2) := by
  intro V hV
  have hk := (hV.block w.heap.size (by rw [hXs]; omega)).trans (hX ▸ heap_alloc_new w _)
  refine ⟨?_, ?_, ?_, ?_, ?_, ?_, ?_, ?_⟩ <;> (rw [blk_cell hk]; rfl)
 have HVC := LH hVc
 have HX := LH hX
 have HXB := LH hXb
 have HO := LH (OB.nil (w := X) (B := X.heap.size) (Nat.le_refl _))
 obtain ⟨q0, q1, q2, q3, q4, q5, q6, q7⟩ := hVc X (Below.refl _ _)
 have HC := LH (docText_any X.heap.size (.slice none 0 0) [] X X tx (by omega) HO.out (by simp))
 clear hX hXb hXs hVc 
 go_enter Tryz.func17, Tryz.ntmps17
 go_upto_region 1 with fail
 rw [HX.out]
 go_wp2_with (go_at_call 50; refine (HC.out).mono ?_; rintro e w1 ⟨v1, rfl, o⟩; have O1 := LH o; clear o)
 go_ret
 exact ⟨_, rfl, ob_home HXB.out O1.out⟩
theorem docv14 (tx mr : ByteArray) (n : Int) (b h : Nat) (A1 A2 : Option Addr) (n1 c1 n2 c2 : Nat) (w : World) (ht : tx.size ≤ 1000) :
  Calls Tryz.prog 17 #[valV 14 tx mr n b h (.slice A1 n1 c1) (.slice A2 n2 c2)] w (ObPost w.heap.size (txB tx) w) := by
 unfold valV
 obtain ⟨X, hX⟩ : ∃ X, w.alloc (.cells #[.int .i64 14, .string tx, .string mr, .int .i64 n, .int .u64 (b : Int), .int .u64 (h : Int), .slice A1 n1 c1, .slice A2 n2 c2] 26) = X := ⟨_, rfl⟩
 have hXb : Below w.heap.size w X := hX ▸ below_allocB w _
 have hXs : X.heap.size = w.heap.size + 1 := by rw [← hX]; simp
 have hVc : ∀ V, Below X.heap.size X V → V.cell? ⟨w.heap.size, 0, none⟩ = some (.int .i64 14) ∧ V.cell? ⟨w.heap.size, 1, none⟩ = some (.string tx) ∧ V.cell? ⟨w.heap.size, 2, none⟩ = some (.string mr) ∧ V.cell? ⟨w.heap.size, 3, none⟩ = some (.int .i64 n) ∧ V.cell? ⟨w.heap.size, 4, none⟩ = some (.int .u64 (b : Int)) ∧ V.cell? ⟨w.heap.size, 5, none⟩ = some (.int .u64 (h : Int)) ∧ V.cell? ⟨w.heap.size, 6, none⟩ = some (.slice A1 n1 c1) ∧ V.cell? ⟨w.heap.size, 7, none⟩ = some (.slice A2 n2 c2) := by
  intro V hV
  have hk := (hV.block w.heap.size (by rw [hXs]; omega)).trans (hX ▸ heap_alloc_new w _)
  refine ⟨?_, ?_, ?_, ?_, ?_, ?_, ?_, ?_⟩ <;> (rw [blk_cell hk]; rfl)
 have HVC := LH hVc
 have HX := LH hX
 have HXB := LH hXb
 have HO := LH (OB.nil (w := X) (B := X.heap.size) (Nat.le_refl _))
 obtain ⟨q0, q1, q2, q3, q4, q5, q6, q7⟩ := hVc X (Below.refl _ _)
 have HC := LH (docText_any X.heap.size (.slice none 0 0) [] X X tx (by omega) HO.out (by simp))
 clear hX hXb hXs hVc 
 go_enter Tryz.func17, Tryz.ntmps17
 go_upto_region 1 with fail
 rw [HX.out]
 go_wp2_with (go_at_call 50; refine (HC.out).mono ?_; rintro e w1 ⟨v1, rfl, o⟩; have O1 := LH o; clear o)
 go_ret
 exact ⟨_, rfl, ob_home HXB.out O1.out⟩
theorem docv3 (tx mr : ByteArray) (n : Int) (b h : Nat) (A1 A2 : Option Addr) (n1 c1 n2 c2 : Nat) (w : World) (y : List UInt8) (hc : ∀ W, Below w.heap.size w W → Calls Tryz.prog 13 #[.slice A2 n2 c2] W (ObPost W.heap.size y W)) :
  Calls Tryz.prog 17 #[valV 3 tx mr n b h (.slice A1 n1 c1) (.slice A2 n2 c2)] w (ObPost w.heap.size (y) w) := by
 unfold valV
 obtain ⟨X, hX⟩ : ∃ X, w.alloc (.cells #[.int .i64 3, .string tx, .string mr, .int .i64 n, .int .u64 (b : Int), .int .u64 (h : Int), .slice A1 n1 c1, .slice A2 n2 c2] 26) = X := ⟨_, rfl⟩
 have hXb : Below w.heap.size w X := hX ▸ below_allocB w _
 have hXs : X.heap.size = w.heap.size + 1 := by rw [← hX]; simp
 have hVc : ∀ V, Below X.heap.size X V → V.cell? ⟨w.heap.size, 0, none⟩ = some (.int .i64 3) ∧ V.cell? ⟨w.heap.size, 1, none⟩ = some (.string tx) ∧ V.cell? ⟨w.heap.size, 2, none⟩ = some (.string mr) ∧ V.cell? ⟨w.heap.size, 3, none⟩ = some (.int .i64 n) ∧ V.cell? ⟨w.heap.size, 4, none⟩ = some (.int .u64 (b : Int)) ∧ V.cell? ⟨w.heap.size, 5, none⟩ = some (.int .u64 (h : Int)) ∧ V.cell? ⟨w.heap.size, 6, none⟩ = some (.slice A1 n1 c1) ∧ V.cell? ⟨w.heap.size, 7, none⟩ = some (.slice A2 n2 c2) := by
  intro V hV
  have hk := (hV.block w.heap.size (by rw [hXs]; omega)).trans (hX ▸ heap_alloc_new w _)
  refine ⟨?_, ?_, ?_, ?_, ?_, ?_, ?_, ?_⟩ <;> (rw [blk_cell hk]; rfl)
 have HVC := LH hVc
 have HX := LH hX
 have HXB := LH hXb
 have HO := LH (OB.nil (w := X) (B := X.heap.size) (Nat.le_refl _))
 obtain ⟨q0, q1, q2, q3, q4, q5, q6, q7⟩ := hVc X (Below.refl _ _)
 have HC := LH (hc X hXb)
 clear hX hXb hXs hVc hc
 go_enter Tryz.func17, Tryz.ntmps17
 go_upto_region 1 with fail
 rw [HX.out]
 go_wp2_with (go_at_call 13; refine (HC.out).mono ?_; rintro e w1 ⟨v1, rfl, o⟩; have O1 := LH o; clear o)
 go_ret
 exact ⟨_, rfl, ob_home HXB.out O1.out⟩
theorem docv4 (tx mr : ByteArray) (n : Int) (b h : Nat) (A1 A2 : Option Addr) (n1 c1 n2 c2 : Nat) (w : World) (y : List UInt8) (hc : ∀ W, Below w.heap.size w W → Calls Tryz.prog 13 #[.slice A2 n2 c2] W (ObPost W.heap.size y W)) :
  Calls Tryz.prog 17 #[valV 4 tx mr n b h (.slice A1 n1 c1) (.slice A2 n2 c2)] w (ObPost w.heap.size (y) w) := by
 unfold valV
 obtain ⟨X, hX⟩ : ∃ X, w.alloc (.cells #[.int .i64 4, .string tx, .string mr, .int .i64 n, .int .u64 (b : Int), .int .u64 (h : Int), .slice A1 n1 c1, .slice A2 n2 c2] 26) = X := ⟨_, rfl⟩
 have hXb : Below w.heap.size w X := hX ▸ below_allocB w _
 have hXs : X.heap.size = w.heap.size + 1 := by rw [← hX]; simp
 have hVc : ∀ V, Below X.heap.size X V → V.cell? ⟨w.heap.size, 0, none⟩ = some (.int .i64 4) ∧ V.cell? ⟨w.heap.size, 1, none⟩ = some (.string tx) ∧ V.cell? ⟨w.heap.size, 2, none⟩ = some (.string mr) ∧ V.cell? ⟨w.heap.size, 3, none⟩ = some (.int .i64 n) ∧ V.cell? ⟨w.heap.size, 4, none⟩ = some (.int .u64 (b : Int)) ∧ V.cell? ⟨w.heap.size, 5, none⟩ = some (.int .u64 (h : Int)) ∧ V.cell? ⟨w.heap.size, 6, none⟩ = some (.slice A1 n1 c1) ∧ V.cell? ⟨w.heap.size, 7, none⟩ = some (.slice A2 n2 c2) := by
  intro V hV
  have hk := (hV.block w.heap.size (by rw [hXs]; omega)).trans (hX ▸ heap_alloc_new w _)
  refine ⟨?_, ?_, ?_, ?_, ?_, ?_, ?_, ?_⟩ <;> (rw [blk_cell hk]; rfl)
 have HVC := LH hVc
 have HX := LH hX
 have HXB := LH hXb
 have HO := LH (OB.nil (w := X) (B := X.heap.size) (Nat.le_refl _))
 obtain ⟨q0, q1, q2, q3, q4, q5, q6, q7⟩ := hVc X (Below.refl _ _)
 have HC := LH (hc X hXb)
 clear hX hXb hXs hVc hc
 go_enter Tryz.func17, Tryz.ntmps17
 go_upto_region 1 with fail
 rw [HX.out]
 go_wp2_with (go_at_call 13; refine (HC.out).mono ?_; rintro e w1 ⟨v1, rfl, o⟩; have O1 := LH o; clear o)
 go_ret
 exact ⟨_, rfl, ob_home HXB.out O1.out⟩
theorem docv5old (tx mr : ByteArray) (n : Int) (b h : Nat) (A1 A2 : Option Addr) (n1 c1 n2 c2 : Nat) (w : World) (l : List UInt8) (hl : n1 = l.length) (hm : l.length ≤ 1000) (hn2 : n = 2) (hr : RB w A1 l) :
  Calls Tryz.prog 17 #[valV 5 tx mr n b h (.slice A1 n1 c1) (.slice A2 n2 c2)] w (ObPost w.heap.size (binB n l) w) := by
 unfold valV
 obtain ⟨X, hX⟩ : ∃ X, w.alloc (.cells #[.int .i64 5, .string tx, .string mr, .int .i64 n, .int .u64 (b : Int), .int .u64 (h : Int), .slice A1 n1 c1, .slice A2 n2 c2] 26) = X := ⟨_, rfl⟩
 have hXb : Below w.heap.size w X := hX ▸ below_allocB w _
 have hXs : X.heap.size = w.heap.size + 1 := by rw [← hX]; simp
 have hVc : ∀ V, Below X.heap.size X V → V.cell? ⟨w.heap.size, 0, none⟩ = some (.int .i64 5) ∧ V.cell? ⟨w.heap.size, 1, none⟩ = some (.string tx) ∧ V.cell? ⟨w.heap.size, 2, none⟩ = some (.string mr) ∧ V.cell? ⟨w.heap.size, 3, none⟩ = some (.int .i64 n) ∧ V.cell? ⟨w.heap.size, 4, none⟩ = some (.int .u64 (b : Int)) ∧ V.cell? ⟨w.heap.size, 5, none⟩ = some (.int .u64 (h : Int)) ∧ V.cell? ⟨w.heap.size, 6, none⟩ = some (.slice A1 n1 c1) ∧ V.cell? ⟨w.heap.size, 7, none⟩ = some (.slice A2 n2 c2) := by
  intro V hV
  have hk := (hV.block w.heap.size (by rw [hXs]; omega)).trans (hX ▸ heap_alloc_new w _)
  refine ⟨?_, ?_, ?_, ?_, ?_, ?_, ?_, ?_⟩ <;> (rw [blk_cell hk]; rfl)
 have HVC := LH hVc
 have HX := LH hX
 have HXB := LH hXb
 have HO := LH (OB.nil (w := X) (B := X.heap.size) (Nat.le_refl _))
 obtain ⟨q0, q1, q2, q3, q4, q5, q6, q7⟩ := hVc X (Below.refl _ _)
 have HR := LH (hr.lat hXb)
 subst hl
 have HM := LH hm
 have HC1 := LH (u32_nat (l.length + 4) (by omega) ▸ docI32_any X.heap.size (.slice none 0 0) [] X X ((l.length + 4 : Nat) : Int) ⟨by omega, by omega⟩ HO.out (by simp))
 have HC2 := LH (fun (v : Value) (l0 : List UInt8) (w2 : World) (o : OB X.heap.size v l0 X w2) (h0 : l0.length ≤ 1000) => u32_nat l.length (by omega) ▸ docI32_any X.heap.size v l0 X w2 (l.length : Int) ⟨by omega, by omega⟩ o (by omega))
 have HE := LH (show binB n l = le32 (l.length + 4) ++ 2 :: (le32 l.length ++ l) from if_pos hn2)
 have hq : ((l.length + 4 : Nat) : Int) = (l.length : Int) + 4 := by omega
 rw [hq] at HC1
 obtain ⟨t1, ht1⟩ : ∃ t, le32 (l.length + 4) = t := ⟨_, rfl⟩
 obtain ⟨t2, ht2⟩ : ∃ t, le32 l.length = t := ⟨_, rfl⟩
 have HT1 := LH (show t1.length = 4 by rw [← ht1]; rfl)
 have HT2 := LH (show t2.length = 4 by rw [← ht2]; rfl)
 rw [ht1] at HC1 HE
 rw [ht2] at HC2 HE
 subst hn2
 clear hX hXb hXs hVc hr hq ht1 ht2
 go_enter Tryz.func17, Tryz.ntmps17
 go_upto_region 1 with fail
 rw [HX.out]
 go_wp2_with (first | (go_at_call 45; refine (HC1.out).mono ?_; rintro e w1 ⟨v1, rfl, o⟩; have O1 := LH o; clear o; clear HC1) | (go_at_call 45; refine (HC2.out _ _ _ O2.out (by have := HT1.out; simp only [List.length_append, List.length_cons, List.length_nil]; omega)).mono ?_; rintro e w3 ⟨v3, rfl, o⟩; have O3 := LH o; clear o; obtain ⟨q0, q1, q2, q3, q4, q5, q6, q7⟩ := HVC.out w3 O3.out.below) | (at_builtin; refine ob_lit rfl _ _ rfl rfl [2] _ (byte_cells 2 2 rfl) 1 rfl O1.out rfl (by have := HT1.out; simp only [List.length_append, List.length_cons, List.length_nil]; omega) ?_; intro v2 w2 o; have O2 := LH o; clear o) | (at_builtin; refine ob_any rfl _ _ rfl rfl O3.out l rfl (HR.out.lat O3.out.below) (by have := HT1.out; have := HT2.out; simp only [List.length_append, List.length_cons, List.length_nil]; omega) ?_; intro v4 w4 o; have O4 := LH o; clear o))
 go_ret
 exact ⟨_, rfl, by rw [HE.out]; have := ob_home HXB.out O4.out; simpa using this⟩
theorem docv5 (tx mr : ByteArray) (n : Int) (b h : Nat) (A1 A2 : Option Addr) (n1 c1 n2 c2 : Nat) (w : World) (l : List UInt8) (hl : n1 = l.length) (hm : l.length ≤ 1000) (hn2 : ¬ n = 2) (hr : RB w A1 l) :
  Calls Tryz.prog 17 #[valV 5 tx mr n b h (.slice A1 n1 c1) (.slice A2 n2 c2)] w (ObPost w.heap.size (binB n l) w) := by
 unfold valV
 obtain ⟨X, hX⟩ : ∃ X, w.alloc (.cells #[.int .i64 5, .string tx, .string mr, .int .i64 n, .int .u64 (b : Int), .int .u64 (h : Int), .slice A1 n1 c1, .slice A2 n2 c2] 26) = X := ⟨_, rfl⟩
 have hXb : Below w.heap.size w X := hX ▸ below_allocB w _
 have hXs : X.heap.size = w.heap.size + 1 := by rw [← hX]; simp
 have hVc : ∀ V, Below X.heap.size X V → V.cell? ⟨w.heap.size, 0, none⟩ = some (.int .i64 5) ∧ V.cell? ⟨w.heap.size, 1, none⟩ = some (.string tx) ∧ V.cell? ⟨w.heap.size, 2, none⟩ = some (.string mr) ∧ V.cell? ⟨w.heap.size, 3, none⟩ = some (.int .i64 n) ∧ V.cell? ⟨w.heap.size, 4, none⟩ = some (.int .u64 (b : Int)) ∧ V.cell? ⟨w.heap.size, 5, none⟩ = some (.int .u64 (h : Int)) ∧ V.cell? ⟨w.heap.size, 6, none⟩ = some (.slice A1 n1 c1) ∧ V.cell? ⟨w.heap.size, 7, none⟩ = some (.slice A2 n2 c2) := by
  intro V hV
  have hk := (hV.block w.heap.size (by rw [hXs]; omega)).trans (hX ▸ heap_alloc_new w _)
  refine ⟨?_, ?_, ?_, ?_, ?_, ?_, ?_, ?_⟩ <;> (rw [blk_cell hk]; rfl)
 have HVC := LH hVc
 have HX := LH hX
 have HXB := LH hXb
 have HO := LH (OB.nil (w := X) (B := X.heap.size) (Nat.le_refl _))
 obtain ⟨q0, q1, q2, q3, q4, q5, q6, q7⟩ := hVc X (Below.refl _ _)
 have HR := LH (hr.lat hXb)
 subst hl
 have HM := LH hm
 have HC2 := LH (u32_nat l.length (by omega) ▸ docI32_any X.heap.size (.slice none 0 0) [] X X (l.length : Int) ⟨by omega, by omega⟩ HO.out (by simp))
 have HE := LH (show binB n l = le32 l.length ++ u8 n :: l from if_neg hn2)
 have HU := LH (u8_val2 n)
 have hd : decide (n = 2) = false := decide_eq_false hn2
 have hd2 : (n == 2) = false := by simpa using hn2
 obtain ⟨t2, ht2⟩ : ∃ t, le32 l.length = t := ⟨_, rfl⟩
 have HT2 := LH (show t2.length = 4 by rw [← ht2]; rfl)
 rw [ht2] at HC2 HE
 clear hX hXb hXs hVc hr ht2 hn2
 go_enter Tryz.func17, Tryz.ntmps17
 go_upto_region 1 with fail
 rw [HX.out]
 go_wp2_with (first | (go_at_call 45; refine (HC2.out).mono ?_; rintro e w1 ⟨v1, rfl, o⟩; have O1 := LH o; clear o; obtain ⟨q0, q1, q2, q3, q4, q5, q6, q7⟩ := HVC.out w1 O1.out.below) | (at_builtin; refine ob_lit rfl _ _ rfl rfl [u8 n] _ (byte_cells _ _ HU.out) 1 rfl O1.out rfl (by have := HT2.out; simp only [List.length_append, List.length_cons, List.length_nil]; omega) ?_; intro v2 w2 o; have O2 := LH o; clear o; obtain ⟨q0, q1, q2, q3, q4, q5, q6, q7⟩ := HVC.out w2 O2.out.below) | (at_builtin; refine ob_any rfl _ _ rfl rfl O2.out l rfl (HR.out.lat O2.out.below) (by have := HT2.out; simp only [List.length_append, List.length_cons, List.length_nil]; omega) ?_; intro v4 w4 o; have O4 := LH o; clear o))
 go_ret
 exact ⟨_, rfl, by rw [HE.out]; have := ob_home HXB.out O4.out; simpa using this⟩
theorem docv6 (tx mr : ByteArray) (n : Int) (b h : Nat) (A1 A2 : Option Addr) (n1 c1 n2 c2 : Nat) (w : World) :
  Calls Tryz.prog 17 #[valV 6 tx mr n b h (.slice A1 n1 c1) (.slice A2 n2 c2)] w (ObPost w.heap.size ([]) w) := by
 unfold valV
 obtain ⟨X, hX⟩ : ∃ X, w.alloc (.cells #[.int .i64 6, .string tx, .string mr, .int .i64 n, .int .u64 (b : Int), .int .u64 (h : Int), .slice A1 n1 c1, .slice A2 n2 c2] 26) = X := ⟨_, rfl⟩
 have hXb : Below w.heap.size w X := hX ▸ below_allocB w _
 have hXs : X.heap.size = w.heap.size + 1 := by rw [← hX]; simp
 have hVc : ∀ V, Below X.heap.size X V → V.cell? ⟨w.heap.size, 0, none⟩ = some (.int .i64 6) ∧ V.cell? ⟨w.heap.size, 1, none⟩ = some (.string tx) ∧ V.cell? ⟨w.heap.size, 2, none⟩ = some (.string mr) ∧ V.cell? ⟨w.heap.size, 3, none⟩ = some (.int .i64 n) ∧ V.cell? ⟨w.heap.size, 4, none⟩ = some (.int .u64 (b : Int)) ∧ V.cell? ⟨w.heap.size, 5, none⟩ = some (.int .u64 (h : Int)) ∧ V.cell? ⟨w.heap.size, 6, none⟩ = some (.slice A1 n1 c1) ∧ V.cell? ⟨w.heap.size, 7, none⟩ = some (.slice A2 n2 c2) := by
  intro V hV
  have hk := (hV.block w.heap.size (by rw [hXs]; omega)).trans (hX ▸ heap_alloc_new w _)
  refine ⟨?_, ?_, ?_, ?_, ?_, ?_, ?_, ?_⟩ <;> (rw [blk_cell hk]; rfl)
 have HVC := LH hVc
 have HX := LH hX
 have HXB := LH hXb
 have HO := LH (OB.nil (w := X) (B := X.heap.size) (Nat.le_refl _))
 obtain ⟨q0, q1, q2, q3, q4, q5, q6, q7⟩ := hVc X (Below.refl _ _)
 clear hX hXb hXs hVc 
 go_enter Tryz.func17, Tryz.ntmps17
 go_upto_region 1 with fail
 rw [HX.out]
 go_wp2_with fail
 go_ret
 exact ⟨_, rfl, ob_home HXB.out HO.out⟩
theorem docv10 (tx mr : ByteArray) (n : Int) (b h : Nat) (A1 A2 : Option Addr) (n1 c1 n2 c2 : Nat) (w : World) :
  Calls Tryz.prog 17 #[valV 10 tx mr n b h (.slice A1 n1 c1) (.slice A2 n2 c2)] w (ObPost w.heap.size ([]) w) := by
 unfold valV
 obtain ⟨X, hX⟩ : ∃ X, w.alloc (.cells #[.int .i64 10, .string tx, .string mr, .int .i64 n, .int .u64 (b : Int), .int .u64 (h : Int), .slice A1 n1 c1, .slice A2 n2 c2] 26) = X := ⟨_, rfl⟩
 have hXb : Below w.heap.size w X := hX ▸ below_allocB w _
 have hXs : X.heap.size = w.heap.size + 1 := by rw [← hX]; simp
 have hVc : ∀ V, Below X.heap.size X V → V.cell? ⟨w.heap.size, 0, none⟩ = some (.int .i64 10) ∧ V.cell? ⟨w.heap.size, 1, none⟩ = some (.string tx) ∧ V.cell? ⟨w.heap.size, 2, none⟩ = some (.string mr) ∧ V.cell? ⟨w.heap.size, 3, none⟩ = some (.int .i64 n) ∧ V.cell? ⟨w.heap.size, 4, none⟩ = some (.int .u64 (b : Int)) ∧ V.cell? ⟨w.heap.size, 5, none⟩ = some (.int .u64 (h : Int)) ∧ V.cell? ⟨w.heap.size, 6, none⟩ = some (.slice A1 n1 c1) ∧ V.cell? ⟨w.heap.size, 7, none⟩ = some (.slice A2 n2 c2) := by
  intro V hV
  have hk := (hV.block w.heap.size (by rw [hXs]; omega)).trans (hX ▸ heap_alloc_new w _)
  refine ⟨?_, ?_, ?_, ?_, ?_, ?_, ?_, ?_⟩ <;> (rw [blk_cell hk]; rfl)
 have HVC := LH hVc
 have HX := LH hX
 have HXB := LH hXb
 have HO := LH (OB.nil (w := X) (B := X.heap.size) (Nat.le_refl _))
 obtain ⟨q0, q1, q2, q3, q4, q5, q6, q7⟩ := hVc X (Below.refl _ _)
 clear hX hXb hXs hVc 
 go_enter Tryz.func17, Tryz.ntmps17
 go_upto_region 1 with fail
 rw [HX.out]
 go_wp2_with fail
 go_ret
 exact ⟨_, rfl, ob_home HXB.out HO.out⟩
theorem docv255 (tx mr : ByteArray) (n : Int) (b h : Nat) (A1 A2 : Option Addr) (n1 c1 n2 c2 : Nat) (w : World) :
  Calls Tryz.prog 17 #[valV 255 tx mr n b h (.slice A1 n1 c1) (.slice A2 n2 c2)] w (ObPost w.heap.size ([]) w) := by
 unfold valV
 obtain ⟨X, hX⟩ : ∃ X, w.alloc (.cells #[.int .i64 255, .string tx, .string mr, .int .i64 n, .int .u64 (b : Int), .int .u64 (h : Int), .slice A1 n1 c1, .slice A2 n2 c2] 26) = X := ⟨_, rfl⟩
 have hXb : Below w.heap.size w X := hX ▸ below_allocB w _
 have hXs : X.heap.size = w.heap.size + 1 := by rw [← hX]; simp
 have hVc : ∀ V, Below X.heap.size X V → V.cell? ⟨w.heap.size, 0, none⟩ = some (.int .i64 255) ∧ V.cell? ⟨w.heap.size, 1, none⟩ = some (.string tx) ∧ V.cell? ⟨w.heap.size, 2, none⟩ = some (.string mr) ∧ V.cell? ⟨w.heap.size, 3, none⟩ = some (.int .i64 n) ∧ V.cell? ⟨w.heap.size, 4, none⟩ = some (.int .u64 (b : Int)) ∧ V.cell? ⟨w.heap.size, 5, none⟩ = some (.int .u64 (h : Int)) ∧ V.cell? ⟨w.heap.size, 6, none⟩ = some (.slice A1 n1 c1) ∧ V.cell? ⟨w.heap.size, 7, none⟩ = some (.slice A2 n2 c2) := by
  intro V hV
  have hk := (hV.block w.heap.size (by rw [hXs]; omega)).trans (hX ▸ heap_alloc_new w _)
  refine ⟨?_, ?_, ?_, ?_, ?_, ?_, ?_, ?_⟩ <;> (rw [blk_cell hk]; rfl)
 have HVC := LH hVc
 have HX := LH hX
 have HXB := LH hXb
 have HO := LH (OB.nil (w := X) (B := X.heap.size) (Nat.le_refl _))
 obtain ⟨q0, q1, q2, q3, q4, q5, q6, q7⟩ := hVc X (Below.refl _ _)
 clear hX hXb hXs hVc 
 go_enter Tryz.func17, Tryz.ntmps17
 go_upto_region 1 with fail
 rw [HX.out]
 go_wp2_with fail
 go_ret
 exact ⟨_, rfl, ob_home HXB.out HO.out⟩
theorem docv127 (tx mr : ByteArray) (n : Int) (b h : Nat) (A1 A2 : Option Addr) (n1 c1 n2 c2 : Nat) (w : World) :
  Calls Tryz.prog 17 #[valV 127 tx mr n b h (.slice A1 n1 c1) (.slice A2 n2 c2)] w (ObPost w.heap.size ([]) w) := by
 unfold valV
 obtain ⟨X, hX⟩ : ∃ X, w.alloc (.cells #[.int .i64 127, .string tx, .string mr, .int .i64 n, .int .u64 (b : Int), .int .u64 (h : Int), .slice A1 n1 c1, .slice A2 n2 c2] 26) = X := ⟨_, rfl⟩
 have hXb : Below w.heap.size w X := hX ▸ below_allocB w _
 have hXs : X.heap.size = w.heap.size + 1 := by rw [← hX]; simp
 have hVc : ∀ V, Below X.heap.size X V → V.cell? ⟨w.heap.size, 0, none⟩ = some (.int .i64 127) ∧ V.cell? ⟨w.heap.size, 1, none⟩ = some (.string tx) ∧ V.cell? ⟨w.heap.size, 2, none⟩ = some (.string mr) ∧ V.cell? ⟨w.heap.size, 3, none⟩ = some (.int .i64 n) ∧ V.cell? ⟨w.heap.size, 4, none⟩ = some (.int .u64 (b : Int)) ∧ V.cell? ⟨w.heap.size, 5, none⟩ = some (.int .u64 (h : Int)) ∧ V.cell? ⟨w.heap.size, 6, none⟩ = some (.slice A1 n1 c1) ∧ V.cell? ⟨w.heap.size, 7, none⟩ = some (.slice A2 n2 c2) := by
  intro V hV
  have hk := (hV.block w.heap.size (by rw [hXs]; omega)).trans (hX ▸ heap_alloc_new w _)
  refine ⟨?_, ?_, ?_, ?_, ?_, ?_, ?_, ?_⟩ <;> (rw [blk_cell hk]; rfl)
 have HVC := LH hVc
 have HX := LH hX
 have HXB := LH hXb
 have HO := LH (OB.nil (w := X) (B := X.heap.size) (Nat.le_refl _))
 obtain ⟨q0, q1, q2, q3, q4, q5, q6, q7⟩ := hVc X (Below.refl _ _)
 clear hX hXb hXs hVc 
 go_enter Tryz.func17, Tryz.ntmps17
 go_upto_region 1 with fail
 rw [HX.out]
 go_wp2_with fail
 go_ret
 exact ⟨_, rfl, ob_home HXB.out HO.out⟩
theorem docv7 (tx mr : ByteArray) (n : Int) (b h : Nat) (A1 A2 : Option Addr) (n1 c1 n2 c2 : Nat) (w : World) (l : List UInt8) (hl : n1 = l.length) (hm : l.length ≤ 1000) (hr : RB w A1 l) :
  Calls Tryz.prog 17 #[valV 7 tx mr n b h (.slice A1 n1 c1) (.slice A2 n2 c2)] w (ObPost w.heap.size (l) w) := by
 unfold valV
 obtain ⟨X, hX⟩ : ∃ X, w.alloc (.cells #[.int .i64 7, .string tx, .string mr, .int .i64 n, .int .u64 (b : Int), .int .u64 (h : Int), .slice A1 n1 c1, .slice A2 n2 c2] 26) = X := ⟨_, rfl⟩
 have hXb : Below w.heap.size w X := hX ▸ below_allocB w _
 have hXs : X.heap.size = w.heap.size + 1 := by rw [← hX]; simp
 have hVc : ∀ V, Below X.heap.size X V → V.cell? ⟨w.heap.size, 0, none⟩ = some (.int .i64 7) ∧ V.cell? ⟨w.heap.size, 1, none⟩ = some (.string tx) ∧ V.cell? ⟨w.heap.size, 2, none⟩ = some (.string mr) ∧ V.cell? ⟨w.heap.size, 3, none⟩ = some (.int .i64 n) ∧ V.cell? ⟨w.heap.size, 4, none⟩ = some (.int .u64 (b : Int)) ∧ V.cell? ⟨w.heap.size, 5, none⟩ = some (.int .u64 (h : Int)) ∧ V.cell? ⟨w.heap.size, 6, none⟩ = some (.slice A1 n1 c1) ∧ V.cell? ⟨w.heap.size, 7, none⟩ = some (.slice A2 n2 c2) := by
  intro V hV
  have hk := (hV.block w.heap.size (by rw [hXs]; omega)).trans (hX ▸ heap_alloc_new w _)
  refine ⟨?_, ?_, ?_, ?_, ?_, ?_, ?_, ?_⟩ <;> (rw [blk_cell hk]; rfl)
 have HVC := LH hVc
 have HX := LH hX
 have HXB := LH hXb
 have HO := LH (OB.nil (w := X) (B := X.heap.size) (Nat.le_refl _))
 obtain ⟨q0, q1, q2, q3, q4, q5, q6, q7⟩ := hVc X (Below.refl _ _)
 have HR := LH (hr.lat hXb)
 subst hl
 clear hX hXb hXs hVc hr
 go_enter Tryz.func17, Tryz.ntmps17
 go_upto_region 1 with fail
 rw [HX.out]
 go_wp2_with (at_builtin; refine ob_any rfl _ _ rfl rfl HO.out l rfl (HR.out) (by simp only [List.length_nil]; omega) ?_; intro v1 w1 o; have O1 := LH o; clear o)
 go_ret
 exact ⟨_, rfl, ob_home HXB.out O1.out⟩
theorem docv8 (tx mr : ByteArray) (n : Int) (b h : Nat) (A1 A2 : Option Addr) (n1 c1 n2 c2 : Nat) (w : World) :
  Calls Tryz.prog 17 #[valV 8 tx mr n b h (.slice A1 n1 c1) (.slice A2 n2 c2)] w (ObPost w.heap.size ([u8 n]) w) := by
 unfold valV
 obtain ⟨X, hX⟩ : ∃ X, w.alloc (.cells #[.int .i64 8, .string tx, .string mr, .int .i64 n, .int .u64 (b : Int), .int .u64 (h : Int), .slice A1 n1 c1, .slice A2 n2 c2] 26) = X := ⟨_, rfl⟩
 have hXb : Below w.heap.size w X := hX ▸ below_allocB w _
 have hXs : X.heap.size = w.heap.size + 1 := by rw [← hX]; simp
 have hVc : ∀ V, Below X.heap.size X V → V.cell? ⟨w.heap.size, 0, none⟩ = some (.int .i64 8) ∧ V.cell? ⟨w.heap.size, 1, none⟩ = some (.string tx) ∧ V.cell? ⟨w.heap.size, 2, none⟩ = some (.string mr) ∧ V.cell? ⟨w.heap.size, 3, none⟩ = some (.int .i64 n) ∧ V.cell? ⟨w.heap.size, 4, none⟩ = some (.int .u64 (b : Int)) ∧ V.cell? ⟨w.heap.size, 5, none⟩ = some (.int .u64 (h : Int)) ∧ V.cell? ⟨w.heap.size, 6, none⟩ = some (.slice A1 n1 c1) ∧ V.cell? ⟨w.heap.size, 7, none⟩ = some (.slice A2 n2 c2) := by
  intro V hV
  have hk := (hV.block w.heap.size (by rw [hXs]; omega)).trans (hX ▸ heap_alloc_new w _)
  refine ⟨?_, ?_, ?_, ?_, ?_, ?_, ?_, ?_⟩ <;> (rw [blk_cell hk]; rfl)
 have HVC := LH hVc
 have HX := LH hX
 have HXB := LH hXb
 have HO := LH (OB.nil (w := X) (B := X.heap.size) (Nat.le_refl _))
 obtain ⟨q0, q1, q2, q3, q4, q5, q6, q7⟩ := hVc X (Below.refl _ _)
 have HU := LH (u8_val2 n)
 clear hX hXb hXs hVc 
 go_enter Tryz.func17, Tryz.ntmps17
 go_upto_region 1 with fail
 rw [HX.out]
 go_wp2_with (at_builtin; refine ob_lit rfl _ _ rfl rfl [u8 n] _ (byte_cells _ _ HU.out) 1 rfl HO.out rfl (by simp only [List.length_nil]; omega) ?_; intro v1 w1 o; have O1 := LH o; clear o)
 go_ret
 exact ⟨_, rfl, ob_home HXB.out O1.out⟩
theorem docv9 (tx mr : ByteArray) (n : Int) (b h : Nat) (A1 A2 : Option Addr) (n1 c1 n2 c2 : Nat) (w : World) :
  Calls Tryz.prog 17 #[valV 9 tx mr n b h (.slice A1 n1 c1) (.slice A2 n2 c2)] w (ObPost w.heap.size (le64 (u64 n)) w) := by
 unfold valV
 obtain ⟨X, hX⟩ : ∃ X, w.alloc (.cells #[.int .i64 9, .string tx, .string mr, .int .i64 n, .int .u64 (b : Int), .int .u64 (h : Int), .slice A1 n1 c1, .slice A2 n2 c2] 26) = X := ⟨_, rfl⟩
 have hXb : Below w.heap.size w X := hX ▸ below_allocB w _
 have hXs : X.heap.size = w.heap.size + 1 := by rw [← hX]; simp
 have hVc : ∀ V, Below X.heap.size X V → V.cell? ⟨w.heap.size, 0, none⟩ = some (.int .i64 9) ∧ V.cell? ⟨w.heap.size, 1, none⟩ = some (.string tx) ∧ V.cell? ⟨w.heap.size, 2, none⟩ = some (.string mr) ∧ V.cell? ⟨w.heap.size, 3, none⟩ = some (.int .i64 n) ∧ V.cell? ⟨w.heap.size, 4, none⟩ = some (.int .u64 (b : Int)) ∧ V.cell? ⟨w.heap.size, 5, none⟩ = some (.int .u64 (h : Int)) ∧ V.cell? ⟨w.heap.size, 6, none⟩ = some (.slice A1 n1 c1) ∧ V.cell? ⟨w.heap.size, 7, none⟩ = some (.slice A2 n2 c2) := by
  intro V hV
  have hk := (hV.block w.heap.size (by rw [hXs]; omega)).trans (hX ▸ heap_alloc_new w _)
  refine ⟨?_, ?_, ?_, ?_, ?_, ?_, ?_, ?_⟩ <;> (rw [blk_cell hk]; rfl)
 have HVC := LH hVc
 have HX := LH hX
 have HXB := LH hXb
 have HO := LH (OB.nil (w := X) (B := X.heap.size) (Nat.le_refl _))
 obtain ⟨q0, q1, q2, q3, q4, q5, q6, q7⟩ := hVc X (Below.refl _ _)
 have HC := LH (docI64_any X.heap.size (.slice none 0 0) [] X X (u64 n) (u64_lt n) HO.out (by simp))
 rw [u64_val] at HC
 clear hX hXb hXs hVc 
 go_enter Tryz.func17, Tryz.ntmps17
 go_upto_region 1 with fail
 rw [HX.out]
 go_wp2_with (go_at_call 49; refine (HC.out).mono ?_; rintro e w1 ⟨v1, rfl, o⟩; have O1 := LH o; clear o)
 go_ret
 exact ⟨_, rfl, ob_home HXB.out O1.out⟩
theorem docv18 (tx mr : ByteArray) (n : Int) (b h : Nat) (A1 A2 : Option Addr) (n1 c1 n2 c2 : Nat) (w : World) :
  Calls Tryz.prog 17 #[valV 18 tx mr n b h (.slice A1 n1 c1) (.slice A2 n2 c2)] w (ObPost w.heap.size (le64 (u64 n)) w) := by
 unfold valV
 obtain ⟨X, hX⟩ : ∃ X, w.alloc (.cells #[.int .i64 18, .string tx, .string mr, .int .i64 n, .int .u64 (b : Int), .int .u64 (h : Int), .slice A1 n1 c1, .slice A2 n2 c2] 26) = X := ⟨_, rfl⟩
 have hXb : Below w.heap.size w X := hX ▸ below_allocB w _
 have hXs : X.heap.size = w.heap.size + 1 := by rw [← hX]; simp
 have hVc : ∀ V, Below X.heap.size X V → V.cell? ⟨w.heap.size, 0, none⟩ = some (.int .i64 18) ∧ V.cell? ⟨w.heap.size, 1, none⟩ = some (.string tx) ∧ V.cell? ⟨w.heap.size, 2, none⟩ = some (.string mr) ∧ V.cell? ⟨w.heap.size, 3, none⟩ = some (.int .i64 n) ∧ V.cell? ⟨w.heap.size, 4, none⟩ = some (.int .u64 (b : Int)) ∧ V.cell? ⟨w.heap.size, 5, none⟩ = some (.int .u64 (h : Int)) ∧ V.cell? ⟨w.heap.size, 6, none⟩ = some (.slice A1 n1 c1) ∧ V.cell? ⟨w.heap.size, 7, none⟩ = some (.slice A2 n2 c2) := by
  intro V hV
  have hk := (hV.block w.heap.size (by rw [hXs]; omega)).trans (hX ▸ heap_alloc_new w _)
  refine ⟨?_, ?_, ?_, ?_, ?_, ?_, ?_, ?_⟩ <;> (rw [blk_cell hk]; rfl)
 have HVC := LH hVc
 have HX := LH hX
 have HXB := LH hXb
 have HO := LH (OB.nil (w := X) (B := X.heap.size) (Nat.le_refl _))
 obtain ⟨q0, q1, q2, q3, q4, q5, q6, q7⟩ := hVc X (Below.refl _ _)
 have HC := LH (docI64_any X.heap.size (.slice none 0 0) [] X X (u64 n) (u64_lt n) HO.out (by simp))
 rw [u64_val] at HC
 clear hX hXb hXs hVc 
 go_enter Tryz.func17, Tryz.ntmps17
 go_upto_region 1 with fail
 rw [HX.out]
 go_wp2_with (go_at_call 49; refine (HC.out).mono ?_; rintro e w1 ⟨v1, rfl, o⟩; have O1 := LH o; clear o)
 go_ret
 exact ⟨_, rfl, ob_home HXB.out O1.out⟩
theorem docv16 (tx mr : ByteArray) (n : Int) (b h : Nat) (A1 A2 : Option Addr) (n1 c1 n2 c2 : Nat) (w : World) (hn : I64 n) :
  Calls Tryz.prog 17 #[valV 16 tx mr n b h (.slice A1 n1 c1) (.slice A2 n2 c2)] w (ObPost w.heap.size (le32 (u32 n)) w) := by
 unfold valV
 obtain ⟨X, hX⟩ : ∃ X, w.alloc (.cells #[.int .i64 16, .string tx, .string mr, .int .i64 n, .int .u64 (b : Int), .int .u64 (h : Int), .slice A1 n1 c1, .slice A2 n2 c2] 26) = X := ⟨_, rfl⟩
 have hXb : Below w.heap.size w X := hX ▸ below_allocB w _
 have hXs : X.heap.size = w.heap.size + 1 := by rw [← hX]; simp
 have hVc : ∀ V, Below X.heap.size X V → V.cell? ⟨w.heap.size, 0, none⟩ = some (.int .i64 16) ∧ V.cell? ⟨w.heap.size, 1, none⟩ = some (.string tx) ∧ V.cell? ⟨w.heap.size, 2, none⟩ = some (.string mr) ∧ V.cell? ⟨w.heap.size, 3, none⟩ = some (.int .i64 n) ∧ V.cell? ⟨w.heap.size, 4, none⟩ = some (.int .u64 (b : Int)) ∧ V.cell? ⟨w.heap.size, 5, none⟩ = some (.int .u64 (h : Int)) ∧ V.cell? ⟨w.heap.size, 6, none⟩ = some (.slice A1 n1 c1) ∧ V.cell? ⟨w.heap.size, 7, none⟩ = some (.slice A2 n2 c2) := by
  intro V hV
  have hk := (hV.block w.heap.size (by rw [hXs]; omega)).trans (hX ▸ heap_alloc_new w _)
  refine ⟨?_, ?_, ?_, ?_, ?_, ?_, ?_, ?_⟩ <;> (rw [blk_cell hk]; rfl)
 have HVC := LH hVc
 have HX := LH hX
 have HXB := LH hXb
 have HO := LH (OB.nil (w := X) (B := X.heap.size) (Nat.le_refl _))
 obtain ⟨q0, q1, q2, q3, q4, q5, q6, q7⟩ := hVc X (Below.refl _ _)
 have HC := LH (docI32_any X.heap.size (.slice none 0 0) [] X X n hn HO.out (by simp))
 clear hX hXb hXs hVc hn
 go_enter Tryz.func17, Tryz.ntmps17
 go_upto_region 1 with fail
 rw [HX.out]
 go_wp2_with (go_at_call 45; refine (HC.out).mono ?_; rintro e w1 ⟨v1, rfl, o⟩; have O1 := LH o; clear o)
 go_ret
 exact ⟨_, rfl, ob_home HXB.out O1.out⟩
theorem docv11 (tx mr : ByteArray) (n : Int) (b h : Nat) (A1 A2 : Option Addr) (n1 c1 n2 c2 : Nat) (w : World) (ht : tx.size ≤ 1000) (hm : mr.size ≤ 1000) :
  Calls Tryz.prog 17 #[valV 11 tx mr n b h (.slice A1 n1 c1) (.slice A2 n2 c2)] w (ObPost w.heap.size (tx.data.toList ++ 0 :: (mr.data.toList ++ [0])) w) := by
 unfold valV
 obtain ⟨X, hX⟩ : ∃ X, w.alloc (.cells #[.int .i64 11, .string tx, .string mr, .int .i64 n, .int .u64 (b : Int), .int .u64 (h : Int), .slice A1 n1 c1, .slice A2 n2 c2] 26) = X := ⟨_, rfl⟩
 have hXb : Below w.heap.size w X := hX ▸ below_allocB w _
 have hXs : X.heap.size = w.heap.size + 1 := by rw [← hX]; simp
 have hVc : ∀ V, Below X.heap.size X V → V.cell? ⟨w.heap.size, 0, none⟩ = some (.int .i64 11) ∧ V.cell? ⟨w.heap.size, 1, none⟩ = some (.string tx) ∧ V.cell? ⟨w.heap.size, 2, none⟩ = some (.string mr) ∧ V.cell? ⟨w.heap.size, 3, none⟩ = some (.int .i64 n) ∧ V.cell? ⟨w.heap.size, 4, none⟩ = some (.int .u64 (b : Int)) ∧ V.cell? ⟨w.heap.size, 5, none⟩ = some (.int .u64 (h : Int)) ∧ V.cell? ⟨w.heap.size, 6, none⟩ = some (.slice A1 n1 c1) ∧ V.cell? ⟨w.heap.size, 7, none⟩ = some (.slice A2 n2 c2) := by
  intro V hV
  have hk := (hV.block w.heap.size (by rw [hXs]; omega)).trans (hX ▸ heap_alloc_new w _)
  refine ⟨?_, ?_, ?_, ?_, ?_, ?_, ?_, ?_⟩ <;> (rw [blk_cell hk]; rfl)
 have HVC := LH hVc
 have HX := LH hX
 have HXB := LH hXb
 have HO := LH (OB.nil (w := X) (B := X.heap.size) (Nat.le_refl _))
 obtain ⟨q0, q1, q2, q3, q4, q5, q6, q7⟩ := hVc X (Below.refl _ _)
 have HS1 := LH (show tx.data.toList.length = tx.size from Array.length_toList)
 have HS2 := LH (show mr.data.toList.length = mr.size from Array.length_toList)
 clear hX hXb hXs hVc 
 go_enter Tryz.func17, Tryz.ntmps17
 go_upto_region 1 with fail
 rw [HX.out]
 go_wp2_with (first | (at_builtin; refine ob_text rfl _ _ rfl rfl tx HO.out rfl (by have := HS1.out; have := HS2.out; (try simp only [List.length_append, List.length_cons, List.length_nil]); omega) ?_; intro v1 w1 o; have O1 := LH o; clear o; obtain ⟨q0, q1, q2, q3, q4, q5, q6, q7⟩ := HVC.out w1 O1.out.below) | (at_builtin; refine ob_lit rfl _ _ rfl rfl [0] _ (byte_cells 0 0 rfl) 1 rfl O1.out rfl (by have := HS1.out; have := HS2.out; (try simp only [List.length_append, List.length_cons, List.length_nil]); omega) ?_; intro v2 w2 o; have O2 := LH o; clear o; obtain ⟨q0, q1, q2, q3, q4, q5, q6, q7⟩ := HVC.out w2 O2.out.below) | (at_builtin; refine ob_text rfl _ _ rfl rfl mr O2.out rfl (by have := HS1.out; have := HS2.out; (try simp only [List.length_append, List.length_cons, List.length_nil]); omega) ?_; intro v3 w3 o; have O3 := LH o; clear o; obtain ⟨q0, q1, q2, q3, q4, q5, q6, q7⟩ := HVC.out w3 O3.out.below) | (at_builtin; refine ob_lit rfl _ _ rfl rfl [0] _ (byte_cells 0 0 rfl) 1 rfl O3.out rfl (by have := HS1.out; have := HS2.out; (try simp only [List.length_append, List.length_cons, List.length_nil]); omega) ?_; intro v4 w4 o; have O4 := LH o; clear o))
 go_ret
 exact ⟨_, rfl, by have := ob_home HXB.out O4.out; simpa using this⟩
theorem docv12 (tx mr : ByteArray) (n : Int) (b h : Nat) (A1 A2 : Option Addr) (n1 c1 n2 c2 : Nat) (w : World) (l : List UInt8) (hl : n1 = l.length) (hm : l.length ≤ 1000) (ht : tx.size ≤ 1000) (hr : RB w A1 l) :
  Calls Tryz.prog 17 #[valV 12 tx mr n b h (.slice A1 n1 c1) (.slice A2 n2 c2)] w (ObPost w.heap.size (txB tx ++ l) w) := by
 unfold valV
 obtain ⟨X, hX⟩ : ∃ X, w.alloc (.cells #[.int .i64 12, .string tx, .string mr, .int .i64 n, .int .u64 (b : Int), .int .u64 (h : Int), .slice A1 n1 c1, .slice A2 n2 c2] 26) = X := ⟨_, rfl⟩
 have hXb : Below w.heap.size w X := hX ▸ below_allocB w _
 have hXs : X.heap.size = w.heap.size + 1 := by rw [← hX]; simp
 have hVc : ∀ V, Below X.heap.size X V → V.cell? ⟨w.heap.size, 0, none⟩ = some (.int .i64 12) ∧ V.cell? ⟨w.heap.size, 1, none⟩ = some (.string tx) ∧ V.cell? ⟨w.heap.size, 2, none⟩ = some (.string mr) ∧ V.cell? ⟨w.heap.size, 3, none⟩ = some (.int .i64 n) ∧ V.cell? ⟨w.heap.size, 4, none⟩ = some (.int .u64 (b : Int)) ∧ V.cell? ⟨w.heap.size, 5, none⟩ = some (.int .u64 (h : Int)) ∧ V.cell? ⟨w.heap.size, 6, none⟩ = some (.slice A1 n1 c1) ∧ V.cell? ⟨w.heap.size, 7, none⟩ = some (.slice A2 n2 c2) := by
  intro V hV
  have hk := (hV.block w.heap.size (by rw [hXs]; omega)).trans (hX ▸ heap_alloc_new w _)
  refine ⟨?_, ?_, ?_, ?_, ?_, ?_, ?_, ?_⟩ <;> (rw [blk_cell hk]; rfl)
 have HVC := LH hVc
 have HX := LH hX
 have HXB := LH hXb
 have HO := LH (OB.nil (w := X) (B := X.heap.size) (Nat.le_refl _))
 obtain ⟨q0, q1, q2, q3, q4, q5, q6, q7⟩ := hVc X (Below.refl _ _)
 have HC := LH (docText_any X.heap.size (.slice none 0 0) [] X X tx (by omega) HO.out (by simp))
 have HR := LH (hr.lat hXb)
 subst hl
 have HT := LH (txB_len tx)
 clear hX hXb hXs hVc hr
 go_enter Tryz.func17, Tryz.ntmps17
 go_upto_region 1 with fail
 rw [HX.out]
 go_wp2_with (first | (go_at_call 50; refine (HC.out).mono ?_; rintro e w1 ⟨v1, rfl, o⟩; have O1 := LH o; clear o; obtain ⟨q0, q1, q2, q3, q4, q5, q6, q7⟩ := HVC.out w1 O1.out.below) | (at_builtin; refine ob_any rfl _ _ rfl rfl O1.out l rfl (HR.out.lat O1.out.below) (by have := HT.out; simp only [List.nil_append]; omega) ?_; intro v2 w2 o; have O2 := LH o; clear o))
 go_ret
 exact ⟨_, rfl, ob_home HXB.out O2.out⟩
theorem docv19 (tx mr : ByteArray) (n : Int) (b h : Nat) (A1 A2 : Option Addr) (n1 c1 n2 c2 : Nat) (w : World) (hb : b < 18446744073709551616) (hh : h < 18446744073709551616) :
  Calls Tryz.prog 17 #[valV 19 tx mr n b h (.slice A1 n1 c1) (.slice A2 n2 c2)] w (ObPost w.heap.size (le64 b ++ le64 h) w) := by
 unfold valV
 obtain ⟨X, hX⟩ : ∃ X, w.alloc (.cells #[.int .i64 19, .string tx, .string mr, .int .i64 n, .int .u64 (b : Int), .int .u64 (h : Int), .slice A1 n1 c1, .slice A2 n2 c2] 26) = X := ⟨_, rfl⟩
 have hXb : Below w.heap.size w X := hX ▸ below_allocB w _
 have hXs : X.heap.size = w.heap.size + 1 := by rw [← hX]; simp
 have hVc : ∀ V, Below X.heap.size X V → V.cell? ⟨w.heap.size, 0, none⟩ = some (.int .i64 19) ∧ V.cell? ⟨w.heap.size, 1, none⟩ = some (.string tx) ∧ V.cell? ⟨w.heap.size, 2, none⟩ = some (.string mr) ∧ V.cell? ⟨w.heap.size, 3, none⟩ = some (.int .i64 n) ∧ V.cell? ⟨w.heap.size, 4, none⟩ = some (.int .u64 (b : Int)) ∧ V.cell? ⟨w.heap.size, 5, none⟩ = some (.int .u64 (h : Int)) ∧ V.cell? ⟨w.heap.size, 6, none⟩ = some (.slice A1 n1 c1) ∧ V.cell? ⟨w.heap.size, 7, none⟩ = some (.slice A2 n2 c2) := by
  intro V hV
  have hk := (hV.block w.heap.size (by rw [hXs]; omega)).trans (hX ▸ heap_alloc_new w _)
  refine ⟨?_, ?_, ?_, ?_, ?_, ?_, ?_, ?_⟩ <;> (rw [blk_cell hk]; rfl)
 have HVC := LH hVc
 have HX := LH hX
 have HXB := LH hXb
 have HO := LH (OB.nil (w := X) (B := X.heap.size) (Nat.le_refl _))
 obtain ⟨q0, q1, q2, q3, q4, q5, q6, q7⟩ := hVc X (Below.refl _ _)
 have HC := LH (docI64_any X.heap.size (.slice none 0 0) [] X X b hb HO.out (by simp))
 have HC2 := LH (fun (v : Value) (w2 : World) (o : OB X.heap.size v ([] ++ le64 b) X w2) => docI64_any X.heap.size v _ X w2 h hh o (by simp [le64_len]))
 clear hX hXb hXs hVc hb hh
 go_enter Tryz.func17, Tryz.ntmps17
 go_upto_region 1 with fail
 rw [HX.out]
 go_wp2_with (first | (go_at_call 49; refine (HC.out).mono ?_; rintro e w1 ⟨v1, rfl, o⟩; have O1 := LH o; clear o; clear HC; obtain ⟨q0, q1, q2, q3, q4, q5, q6, q7⟩ := HVC.out w1 O1.out.below) | (go_at_call 49; refine (HC2.out _ _ O1.out).mono ?_; rintro e w2 ⟨v2, rfl, o⟩; have O2 := LH o; clear o))
 go_ret
 exact ⟨_, rfl, ob_home HXB.out O2.out⟩
end Go.Proofs.YtpfkgpcnhdkkbaaGreatDoor
