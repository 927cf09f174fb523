/- A value of BSON as the row reads it: what the form's reading takes for one is a value by depth; condition: the form's own reach. -/
import Derived.Test.YtpfkgpcnhdkkbaaGreatDoorAMf
import Derived.Deep.Slices
import Derived.Test.YtpfkgpcnhdkkbaaGreatDoorAGq
import Derived.Test.YtpfkgpcnhdkkbaaGreatDoorAMp
import Derived.Test.YtpfkgpcnhdkkbaaGreatDoorAYi
import Derived.Test.YtpfkgpcnhdkkbaaGreatDoorASa
import Derived.Test.YtpfkgpcnhdkkbaaGreatDoorAKx
namespace Go.Proofs.YtpfkgpcnhdkkbaaGreatDoor
open Go.RowKit Go.Deep
set_option linter.unusedVariables false
set_option linter.unusedSimpArgs false
set_option maxRecDepth 100000
def liftV : (d : Nat) → VT d → VT (d + 1)
 | 0, t => t.elim
 | d + 1, ⟨kind, text, more, n, bits, high, b, kids⟩ => (⟨kind, text, more, n, bits, high, b, kids.map fun p => (p.1, liftV d p.2)⟩ : VR (VT (d + 1)))
theorem IsV.lift {w : World} : ∀ (d : Nat) (t : VT d) (cs : List Value), IsV w d t cs → IsV w (d + 1) (liftV d t) cs
 | 0, t, _, _ => t.elim
 | d + 1, ⟨kind, text, more, n, bits, high, b, kids⟩, cs, h => by
  obtain ⟨bv, kv, e, h1, h2, h3, h4, h7, h8, h5, A, c, e2, h6, h9, h10⟩ := h
  refine ⟨bv, kv, e, h1, h2, h3, h4, h7, h8, h5, A, c, ?_, ?_, h9, fun i name k hi => ?_⟩
  ·simpa [liftV] using e2
  ·simpa [liftV] using h6
  ·simp only [liftV, List.getElem?_map, Option.map_eq_some_iff] at hi
   obtain ⟨⟨nm, k0⟩, hi, he⟩ := hi
   simp only [Prod.mk.injEq] at he
   obtain ⟨rfl, rfl⟩ := he
   obtain ⟨q1, ad, cs', q2, q3, q4, q5⟩ := h10 i nm k0 hi
   exact ⟨q1, ad, cs', q2, IsV.lift d k0 cs' q3, q4, q5⟩
theorem IsV.lifts {w : World} {d : Nat} {t : VT d} {cs : List Value} (h : IsV w d t cs) : ∀ e, d ≤ e → ∃ t' : VT e, IsV w e t' cs := by
  intro e he
  induction e with
  | zero => obtain rfl : d = 0 := by omega
            exact t.elim
  | succ e ih =>
    by_cases hd : d = e + 1
    · subst hd; exact ⟨t, h⟩
    · obtain ⟨t', h'⟩ := ih (by omega)
      exact ⟨_, h'.lift⟩
theorem cell_of_cells {w : World} {a : Addr} {n : Nat} {cs : List Value} (h : w.cells? 0 a n = some cs) : cs.length = n ∧ ∀ (j : Nat) (u : Value), cs[j]? = some u → w.cell? (a.add j) = some u := by
 have hs := World.cells?_some h
 refine ⟨hs.2.1, fun j u hu => ?_⟩
 have hj : j < n := by
  have := (List.getElem?_eq_some_iff.1 hu).1
  have h2 := hs.2.1
  omega
 rw [hs.2.2 j hj]
 exact hu
theorem cO2 : Tryz.prog.cellsOf 2 = 1 := by kernel_rfl
theorem cO3 : Tryz.prog.cellsOf 3 = 1 := by kernel_rfl
theorem cO5 : Tryz.prog.cellsOf 5 = 1 := by kernel_rfl
theorem cO9 : Tryz.prog.cellsOf 9 = 1 := by kernel_rfl
theorem cO22 : Tryz.prog.cellsOf 22 = 1 := by kernel_rfl
theorem cO23 : Tryz.prog.cellsOf 23 = 1 := by kernel_rfl
theorem cO24 : Tryz.prog.cellsOf 24 = 1 := by kernel_rfl
theorem cO26 : Tryz.prog.cellsOf 26 = 8 := by kernel_rfl
theorem cO38 : Tryz.prog.cellsOf 38 = 9 := by kernel_rfl
theorem bO5 : Tryz.prog.bytesOf 5 = 1 := by kernel_rfl
theorem bO38 : 1 ≤ Tryz.prog.bytesOf 38 := by decide +kernel
def Wt {H : Type} (t : TypeId) (d : DataW H) : Prop := ∀ x ∈ DataW.weights Tryz.prog t d, x ≤ 140737488351232
theorem wf_i64 {n : Int} (h : (Lit.int .i64 n).wf = true) : I64 n := by
 simp only [Lit.wf, Bool.and_eq_true, decide_eq_true_eq] at h
 exact h
theorem wf_u64 {n : Int} (h : (Lit.int .u64 n).wf = true) : ∃ b : Nat, n = b ∧ b < 18446744073709551616 := by
 simp only [Lit.wf, Bool.and_eq_true, decide_eq_true_eq] at h
 have h1 : (0 : Int) ≤ n := h.1
 have h2 : n ≤ 18446744073709551615 := h.2
 exact ⟨n.toNat, by omega, by omega⟩
theorem wf_u8 {n : Int} (h : (Lit.int .u8 n).wf = true) : ∃ b : UInt8, n = (b.toNat : Int) := by
 simp only [Lit.wf, Bool.and_eq_true, decide_eq_true_eq] at h
 have h1 : (0 : Int) ≤ n := h.1
 have h2 : n ≤ 255 := h.2
 exact ⟨UInt8.ofNat n.toNat, by rw [UInt8.toNat_ofNat']; omega⟩
theorem list_of {α : Type} {P : Nat → α → Prop} : ∀ (n : Nat), (∀ i, i < n → ∃ p, P i p) → ∃ l : List α, l.length = n ∧ ∀ i p, l[i]? = some p → P i p
 | 0, _ => ⟨[], rfl, fun i p h => by simp at h⟩
 | n + 1, h => by
  obtain ⟨l, h1, h2⟩ := list_of n (fun i hi => h i (by omega))
  obtain ⟨p, hp⟩ := h n (by omega)
  refine ⟨l ++ [p], by simp [h1], fun i q hi => ?_⟩
  by_cases e : i < n
  ·rw [List.getElem?_append_left (by omega)] at hi
   exact h2 i q hi
  ·have := (List.getElem?_eq_some_iff.1 hi).1
   simp only [List.length_append, List.length_cons, List.length_nil] at this
   obtain rfl : i = n := by omega
   rw [List.getElem?_append_right (by omega), h1] at hi
   simp at hi
   subst hi
   exact hp
section
variable {H : Type} {enc : TypeId × Value → H} {W : World}
theorem reads_bytes {fuel : Nat} {v : Value} {x : DataW H × List MemPlace} (h : DataW.trod enc Tryz.prog W 0 (fun _ => true) true fuel 23 [v] = some x) (hw : Wt 23 x.1) : ∃ l, BytesV W v l := by
 rcases open_slice Tryz.underlying23 h with ⟨hv, rfl⟩ | ⟨a, len, cap, m, n, D, Pl, hv, hb, hl, hm, hmc, rfl, hall⟩
 ·injection hv with hv
  subst hv
  exact ⟨[], none, 0, rfl, Nat.le_refl _, by omega, fun h => absurd h (by simp)⟩
 ·injection hv with hv
  subst hv
  rw [if_pos rfl] at hmc
  subst hmc
  have hz : ∀ i, i < m → ∃ b : UInt8, W.cell? (a.add i) = some (.int .u8 (b.toNat : Int)) := by
   intro i hi
   obtain ⟨cs', hc, ht⟩ := hall i hi
   rw [cO5] at hc
   obtain ⟨hlen, hcell⟩ := cell_of_cells hc
   obtain ⟨z, rfl, _, hwf⟩ := DataW.trod_int Tryz.underlying5 ht
   obtain ⟨b, rfl⟩ := wf_u8 hwf
   have := hcell 0 _ rfl
   rw [add_add] at this
   exact ⟨b, by simpa using this⟩
  obtain ⟨f, hf⟩ := choose_lt hz
  have hcap : m ≤ 140737488351232 := by
   have := hw ((((List.range len).map D).length + ((List.range (m - len)).map fun j => D (len + j)).length) * Tryz.prog.bytesOf 5) (by unfold DataW.weights; rw [Tryz.underlying23]; exact List.mem_cons_self)
   rw [bO5] at this
   simp at this
   omega
  refine ⟨(List.range len).map f, some a, m, by simp, by simpa using hl, hcap, fun hl0 => ⟨a, rfl, fun j b hj => ?_⟩⟩
  simp only [List.getElem?_map, Option.map_eq_some_iff] at hj
  obtain ⟨i, hi, rfl⟩ := hj
  obtain ⟨hi1, hi2⟩ := List.getElem?_eq_some_iff.1 hi
  simp at hi1 hi2
  subst hi2
  exact hf j (by omega)
theorem wt_cons {t : TypeId} {ts : List TypeId} {d : DataW H} {r : List (DataW H)} (h : ∀ x ∈ DataW.weightsEach Tryz.prog (t :: ts) (d :: r), x ≤ 140737488351232) : Wt t d ∧ ∀ x ∈ DataW.weightsEach Tryz.prog ts r, x ≤ 140737488351232 := by
 unfold DataW.weightsEach at h
 exact ⟨fun x hx => h x (List.mem_append_left _ hx), fun x hx => h x (List.mem_append_right _ hx)⟩
theorem wt_all {e : TypeId} {l : List (DataW H)} (h : ∀ x ∈ DataW.weightsAll Tryz.prog e l, x ≤ 140737488351232) : ∀ d ∈ l, Wt e d := by
 induction l with
 | nil => intro d hd; cases hd
 | cons a l ih =>
  unfold DataW.weightsAll at h
  intro d hd
  rcases List.mem_cons.1 hd with rfl | hd
  ·exact fun x hx => h x (List.mem_append_left _ hx)
  ·exact ih (fun x hx => h x (List.mem_append_right _ hx)) d hd
theorem reads_val : ∀ (fuel : Nat) (cs : List Value) (x : DataW H × List MemPlace), DataW.trod enc Tryz.prog W 0 (fun _ => true) true fuel 26 cs = some x → Wt 26 x.1 → ∃ t : VT fuel, IsV W fuel t cs := by
 intro fuel
 induction fuel using Nat.strongRecOn with
 | _ fuel ih =>
  intro cs x h hw
  obtain ⟨xs, n, rfl, rfl, hl, hlen, hf⟩ := DataW.trod_struct Tryz.underlying26 h
  rw [cO26] at hl
  match cs, hl with
  | [c0, c1, c2, c3, c4, c5, c6, c7], _ =>
  match xs, hlen with
  | [y0, y1, y2, y3, y4, y5, y6, y7], _ =>
  have f0 := hf 0 _ rfl
  have f1 := hf 1 _ rfl
  have f2 := hf 2 _ rfl
  have f3 := hf 3 _ rfl
  have f4 := hf 4 _ rfl
  have f5 := hf 5 _ rfl
  have f6 := hf 6 _ rfl
  have f7 := hf 7 _ rfl
  simp only [cO2, cO3, cO9, cO22, cO23, cO24, List.drop_zero, List.drop_succ_cons, List.take_succ_cons, List.take_zero, List.getElem?_cons_zero, List.getElem?_cons_succ] at f0 f1 f2 f3 f4 f5 f6 f7
  have hws : ∀ x ∈ DataW.weightsEach Tryz.prog [3, 9, 9, 2, 22, 22, 23, 24] [y0.1, y1.1, y2.1, y3.1, y4.1, y5.1, y6.1, y7.1], x ≤ 140737488351232 := by
   intro x hx
   refine hw x ?_
   show x ∈ DataW.weights Tryz.prog 26 (.agg [y0.1, y1.1, y2.1, y3.1, y4.1, y5.1, y6.1, y7.1])
   unfold DataW.weights
   rw [Tryz.underlying26]
   exact hx
  obtain ⟨_, hws⟩ := wt_cons hws
  obtain ⟨w1, hws⟩ := wt_cons hws
  obtain ⟨w2, hws⟩ := wt_cons hws
  obtain ⟨_, hws⟩ := wt_cons hws
  obtain ⟨_, hws⟩ := wt_cons hws
  obtain ⟨_, hws⟩ := wt_cons hws
  obtain ⟨w6, hws⟩ := wt_cons hws
  obtain ⟨w7, _⟩ := wt_cons hws
  obtain ⟨kind, e0, _, k0⟩ := DataW.trod_int Tryz.underlying3 f0
  obtain ⟨text, e1, g1, _⟩ := DataW.trod_string Tryz.underlying9 f1
  obtain ⟨more, e2, g2, _⟩ := DataW.trod_string Tryz.underlying9 f2
  obtain ⟨vn, e3, _, k3⟩ := DataW.trod_int Tryz.underlying2 f3
  obtain ⟨bits, e4, _, k4⟩ := DataW.trod_int Tryz.underlying22 f4
  obtain ⟨high, e5, _, k5⟩ := DataW.trod_int Tryz.underlying22 f5
  injection e0 with e0
  injection e1 with e1
  injection e2 with e2
  injection e3 with e3
  injection e4 with e4
  injection e5 with e5
  subst e0 e1 e2 e3 e4 e5
  obtain ⟨bits, rfl, hbits⟩ := wf_u64 k4
  obtain ⟨high, rfl, hhigh⟩ := wf_u64 k5
  obtain ⟨b, hb⟩ := reads_bytes f6 w6
  have hts : text.size ≤ 140737488351232 := by
   have := w1 text.data.toList.length (by rw [g1]; unfold DataW.weights; simp)
   rwa [Array.length_toList] at this
  have hms : more.size ≤ 140737488351232 := by
   have := w2 more.data.toList.length (by rw [g2]; unfold DataW.weights; simp)
   rwa [Array.length_toList] at this
  have hkids : ∃ l : List (ByteArray × VT n), KidsV W (IsV W n) c7 l := by
   rcases DataW.trod_slice Tryz.underlying24 f7 with ⟨hv, _⟩ | ⟨a, len, m, elems, rest, n1, hfu, hv, hx, hbb, hl, hm, hel, hall, hsp, _⟩
   ·injection hv with hv
    subst hv
    exact ⟨[], none, 0, rfl, Nat.le_refl _, by omega, fun i name k hi => by simp at hi⟩
   ·injection hv with hv
    subst hv
    have hrl := (hsp rfl).1
    rw [hx] at w7
    have hcap : m ≤ 140737488351232 := by
     have := w7 (((elems.map (·.1)).length + (rest.map (·.1)).length) * Tryz.prog.bytesOf 38) (by unfold DataW.weights; rw [Tryz.underlying24]; exact List.mem_cons_self)
     have h1 := bO38
     rw [List.length_map, List.length_map] at this
     have h2 := Nat.le_trans (Nat.le_mul_of_pos_right (elems.length + rest.length) h1) this
     omega
    have hwt : ∀ d ∈ elems.map (·.1), Wt 38 d := wt_all (fun x hx => w7 x (by unfold DataW.weights; rw [Tryz.underlying24]; exact List.mem_cons_of_mem _ (List.mem_append_left _ hx)))
    have hz : ∀ i, i < len → ∃ p : ByteArray × VT n, p.1.size ≤ 140737488351232 ∧ ∃ cs8, IsV W n p.2 cs8 ∧ cs8.length = 8 ∧ ∀ j u, (Value.string p.1 :: cs8)[j]? = some u → W.cell? (a.add (9 * i + j)) = some u := by
     intro i hi
     have hie : i < elems.length := by omega
     have hall := hall i hi
     rw [List.getElem?_eq_getElem hie, cO38] at hall
     obtain ⟨cs', hc, ht⟩ := Option.bind_eq_some_iff.1 hall
     obtain ⟨hlen, hcell⟩ := cell_of_cells hc
     have hwi := hwt elems[i].1 (List.mem_map.2 ⟨_, List.getElem_mem hie, rfl⟩)
     obtain ⟨xs, n2, hn2, hxs, hl2, hlen2, hf2⟩ := DataW.trod_struct Tryz.underlying38 ht
     match xs, hlen2 with
     | [z0, z1], _ =>
     have q0 : DataW.trod enc Tryz.prog W 0 (fun _ => true) true n2 9 ((cs'.drop 0).take (Tryz.prog.cellsOf 9)) = some z0 := hf2 0 _ rfl
     have q1 : DataW.trod enc Tryz.prog W 0 (fun _ => true) true n2 26 ((cs'.drop 1).take (Tryz.prog.cellsOf 26)) = some z1 := hf2 1 _ rfl
     rw [cO9] at q0
     rw [cO26] at q1
     have hws2 : ∀ x ∈ DataW.weightsEach Tryz.prog [9, 26] [z0.1, z1.1], x ≤ 140737488351232 := by
      intro x hx
      refine hwi x ?_
      have hD : elems[i].1 = .agg [z0.1, z1.1] := by have := congrArg Prod.fst hxs; simpa using this
      rw [hD]
      unfold DataW.weights
      rw [Tryz.underlying38]
      exact hx
     obtain ⟨u0, hws2⟩ := wt_cons hws2
     obtain ⟨u1, _⟩ := wt_cons hws2
     obtain ⟨name, e0, g0, _⟩ := DataW.trod_string Tryz.underlying9 q0
     obtain ⟨t, hv⟩ := ih n2 (by omega) _ _ q1 u1
     obtain ⟨t', hv'⟩ := hv.lifts n (by omega)
     have hns : name.size ≤ 140737488351232 := by
      have := u0 name.data.toList.length (by rw [g0]; unfold DataW.weights; simp)
      rwa [Array.length_toList] at this
     match cs', hlen with
     | [d0, d1, d2, d3, d4, d5, d6, d7, d8], _ =>
     have e0' : d0 = .string name := by simpa using e0
     subst e0'
     refine ⟨(name, t'), hns, [d1, d2, d3, d4, d5, d6, d7, d8], hv', rfl, fun j u hu => ?_⟩
     have := hcell j u hu
     rw [add_add] at this
     rw [show 9 * i + j = i * 9 + j from by omega]
     exact this
    obtain ⟨l, hll, hlp⟩ := list_of len hz
    refine ⟨l, some a, m, by rw [hll], by rw [hll]; exact hl, hcap, fun i name k hi => ?_⟩
    obtain ⟨h1, cs8, h2, h3, h4⟩ := hlp i _ hi
    exact ⟨h1, a, cs8, rfl, h2, h3, h4⟩
  obtain ⟨l, hk⟩ := hkids
  exact ⟨(⟨kind, text, more, vn, bits, high, b, l⟩ : VR (VT n)), c6, c7, rfl, wf_i64 k0, wf_i64 k3, hbits, hhigh, hts, hms, hb, hk⟩
end
end Go.Proofs.YtpfkgpcnhdkkbaaGreatDoor
namespace Go.Proofs.YtpfkgpcnhdkkbaaGreatDoor
set_option maxHeartbeats 8000000
open Go.RowKit
set_option linter.unusedVariables false
set_option linter.unusedSimpArgs false
set_option maxRecDepth 100000
theorem rightR_no {K : Type} {fk : K → Bool} {t : VR K} (h : ¬ rightP fk t) : rightR fk t = false := by unfold rightR; simp [h]
theorem rightR_yes {K : Type} {fk : K → Bool} {t : VR K} (h : rightP fk t) : rightR fk t = true := by unfold rightR; simp [h]
theorem rightR_val {K : Type} {fk : K → Bool} {t : VR K} (P : Prop) [Decidable P] (h : rightP fk t ↔ P) : rightR fk t = decide P := by
 by_cases hp : P
 ·rw [rightR_yes (h.2 hp), decide_eq_true hp]
 ·rw [rightR_no (fun q => hp (h.1 q)), decide_eq_false hp]
theorem right_step {K : Type} (fk : K → Bool) (R : K → List Value → Prop) (w0 : World) (kind : Int) (text more : ByteArray) (n : Int) (bits high : Nat) (b : List UInt8) (kids : List (ByteArray × K)) (A B : Option Addr) (c c2 : Nat) (hts : text.size ≤ 140737488351232) (hms : more.size ≤ 140737488351232) (hm : b.length ≤ 140737488351232) (hm2 : kids.length ≤ 140737488351232)
  (deep : Int) (hdb : 1 ≤ deep ∧ deep ≤ 1000) (E : REnv K fk R kids deep w0) (hkv : KidsV w0 R (.slice B kids.length c2) kids) (w : World) (hw : Below w0.heap.size w0 w) :
  Calls Tryz.prog 58 #[valV kind text more n bits high (.slice A b.length c) (.slice B kids.length c2), .int .i64 deep] w fun e w' => e = .returned (.bool (rightR fk ⟨kind, text, more, n, bits, high, b, kids⟩)) ∧ Below w.heap.size w w' := by
 have hd : (deep == 0) = false := by simp; omega
 cases hkn : knownB kind
 ·rw [rightR_no (fun h => by have h1 : knownB kind = true := h.1; rw [hkn] at h1; cases h1)]
  exact right_unknown kind hkn text more n bits high A B b.length c kids.length c2 deep w
 ·by_cases hbare : bareOk kind text more n bits high b.length kids.length
  ·by_cases k5 : kind = 5
   ·subst k5
    rw [rightR_val (0 ≤ n ∧ n ≤ 255) ⟨fun h => by simpa [rightP] using h.2.2, fun h => ⟨hkn, hbare, by simpa [rightP] using h⟩⟩]
    exact right_bin text more n bits high A B b.length c kids.length c2 hts hms hm hm2 deep hd hbare w
   by_cases k7 : kind = 7
   ·subst k7
    rw [rightR_val (b.length = 12) ⟨fun h => by simpa [rightP] using h.2.2, fun h => ⟨hkn, hbare, by simpa [rightP] using h⟩⟩]
    exact right_oid text more n bits high A B b.length c kids.length c2 hts hms hm hm2 deep hd hbare w
   by_cases k12 : kind = 12
   ·subst k12
    rw [rightR_val (b.length = 12) ⟨fun h => by simpa [rightP] using h.2.2, fun h => ⟨hkn, hbare, by simpa [rightP] using h⟩⟩]
    exact right_ptr text more n bits high A B b.length c kids.length c2 hts hms hm hm2 deep hd hbare w
   by_cases k8 : kind = 8
   ·subst k8
    rw [rightR_val (n = 0 ∨ n = 1) ⟨fun h => by simpa [rightP] using h.2.2, fun h => ⟨hkn, hbare, by simpa [rightP] using h⟩⟩]
    exact right_bool text more n bits high A B b.length c kids.length c2 hts hms hm hm2 deep hd hbare w
   by_cases k16 : kind = 16
   ·subst k16
    rw [rightR_val (-2147483648 ≤ n ∧ n < 2147483648) ⟨fun h => by simpa [rightP] using h.2.2, fun h => ⟨hkn, hbare, by simpa [rightP] using h⟩⟩]
    exact right_i32 text more n bits high A B b.length c kids.length c2 hts hms hm hm2 deep hd hbare w
   by_cases k11 : kind = 11
   ·subst k11
    rw [rightR_val ((plainB text && plainB more) = true) ⟨fun h => by simpa [rightP] using h.2.2, fun h => ⟨hkn, hbare, by simpa [rightP] using h⟩⟩, Bool.decide_eq_true]
    exact right_regex text more n bits high A B b.length c kids.length c2 hts hms hm hm2 deep hd hbare w
   have hiff : rightP fk ⟨kind, text, more, n, bits, high, b, kids⟩ ↔ kidsOk fk kind kids := ⟨fun h => by have := h.2.2; simpa [k5, k7, k12, k8, k16, k11] using this, fun h => ⟨hkn, hbare, by simpa [k5, k7, k12, k8, k16, k11] using h⟩⟩
   have hv : rightR fk ⟨kind, text, more, n, bits, high, b, kids⟩ = kidsB fk kind kids := by
    by_cases h : kidsOk fk kind kids
    ·rw [rightR_yes (hiff.2 h), kidsB_yes h]
    ·rw [rightR_no (fun q => h (hiff.1 q)), kidsB_no h]
   rw [hv]
   exact right_kids fk R kids w0 kind hkn (by simpa using k5) (by simpa using k7) (by simpa using k12) (by simpa using k8) (by simpa using k16) (by simpa using k11) text more n bits high A B b.length c kids.length c2 hm hm2 deep hd ⟨by omega, hdb.2⟩ E rfl hkv hbare w hw
  ·rw [rightR_no (fun h => hbare h.2.1)]
   exact right_notbare kind hkn text more n bits high A B b.length c kids.length c2 hm hm2 deep hd hbare w
def RightAt (w0 : World) (d : Nat) : Prop := ∀ (t : VT d) (cs : List Value), IsV w0 d t cs → ∀ (deep : Nat), deep ≤ 1000 → ∀ W, Below w0.heap.size w0 W →
 Calls Tryz.prog 58 #[.agg cs.toArray, .int .i64 (deep : Int)] W fun e w' => e = .returned (.bool (rightB d t deep)) ∧ Below W.heap.size W w'
theorem right_any (w0 : World) : ∀ d, RightAt w0 d
 | 0 => fun t => t.elim
 | d + 1 => by
  intro t cs hv deep hdeep W hW
  obtain ⟨kind, text, more, n, bits, high, b, kids⟩ := t
  obtain ⟨bv, kv, rfl, hk, hn, hbits, hhigh, hts, hms, ⟨A1, c1, rfl, hc1, hc1b, hrb⟩, hkv⟩ := hv
  obtain ⟨A2, c2, rfl, hc2, hc2b, hkr⟩ := id hkv
  simp only at hk hn hbits hhigh hts hms hrb hkv hkr hc2 hc2b hc1 hc1b ⊢
  cases deep with
  | zero =>
   cases hkn : knownB kind
   ·exact right_unknown kind hkn text more n bits high A1 A2 b.length c1 kids.length c2 0 W
   ·exact right_deep0 kind hkn text more n bits high A1 A2 b.length c1 kids.length c2 W
  | succ deep =>
   have E : REnv (VT d) (fun k => rightB d k deep) (IsV w0 d) kids ((deep + 1 : Nat) : Int) w0 :=
    ⟨fun p hp cs h => h.form, fun p hp => by obtain ⟨i, hi, rfl⟩ := List.getElem_of_mem hp; exact (hkr i _ _ (List.getElem?_eq_getElem hi)).1, fun p hp cs h W hW => by
     rw [show ((deep + 1 : Nat) : Int) - 1 = (deep : Int) from by omega]
     exact right_any w0 d p.2 cs h deep (by omega) W hW⟩
   exact right_step (fun k => rightB d k deep) (IsV w0 d) w0 kind text more n bits high b kids A1 A2 c1 c2 hts hms (by omega) (by omega) ((deep + 1 : Nat) : Int) (by omega) E hkv W hW
theorem rightB_right : ∀ (d : Nat) (t : VT d) (deep : Nat), rightB d t deep = true → RightV d t
 | 0, t, _, _ => t.elim
 | d + 1, t, 0, h => by cases h
 | d + 1, t, deep + 1, h => by
  have hp : rightP (fun k => rightB d k deep) t := by
   refine Classical.byContradiction fun hn => ?_
   have h2 : rightR (fun k => rightB d k deep) t = false := rightR_no hn
   have h3 : rightR (fun k => rightB d k deep) t = true := h
   rw [h2] at h3
   cases h3
  obtain ⟨h1, h2, h3⟩ := hp
  have hk : (1 ≤ t.kind ∧ t.kind ≤ 19) ∨ t.kind = 127 ∨ t.kind = 255 := by unfold knownB at h1; simpa using h1
  refine ⟨hk, fun e => by simpa [e] using h3, fun e => ?_, fun e => by simpa [e] using h3, fun e => ?_, fun e p hp => ?_⟩
  ·rcases e with e | e <;> simpa [e] using h3
  ·rw [e] at h3
   simp at h3
   omega
  ·have h4 : kidsOk (fun k => rightB d k deep) t.kind t.kids := by rcases e with e | e | e <;> simpa [e] using h3
   obtain ⟨i, hi, rfl⟩ := List.getElem_of_mem hp
   have h5 := h4 i _ (List.getElem?_eq_getElem hi)
   unfold kidOk at h5
   simp only [Bool.and_eq_true] at h5
   exact rightB_right d _ deep h5.2
theorem docRight_any (w0 : World) (d : Nat) (t : VT d) (cs : List Value) (hv : IsV w0 d t cs) (W : World) (hW : Below w0.heap.size w0 W) :
  Calls Tryz.prog 22 #[.agg cs.toArray] W fun e w' => e = .returned (.bool (rightB d t 200)) ∧ Below W.heap.size W w' := by
 have HC := LH (fun X hX => right_any w0 d t cs hv 200 (by omega) X hX)
 obtain ⟨k, tx, mr, n, b, h, A1, A2, n1, c1, n2, c2, rfl⟩ := hv.form
 obtain ⟨X, hX, hXb, hXs, hXc⟩ := box_cells W k tx mr n b h (.slice A1 n1 c1) (.slice A2 n2 c2)
 obtain ⟨l0, l1, l2, l3, l4, l5, l6, l7⟩ := box8 (hXc X (Below.refl _ _))
 have HX := LH hX
 have HXB := LH hXb
 have HW := LH (hW.trans (hXb.mono hW.size))
 clear hv hX hXb hXs hXc hW
 go_enter Tryz.func22, Tryz.ntmps22
 go_upto_region 1 with fail
 rw [HX.out]
 go_wp2_with (go_at_call 58; refine (HC.out _ HW.out).mono ?_; rintro e w2 ⟨rfl, hb2⟩; have HB2 := LH hb2; clear hb2)
 go_ret
 exact ⟨rfl, HXB.out.trans (HB2.out.mono HXB.out.size)⟩
end Go.Proofs.YtpfkgpcnhdkkbaaGreatDoor
namespace Go.Proofs.YtpfkgpcnhdkkbaaGreatDoor
set_option maxHeartbeats 8000000
open Go.RowKit
set_option linter.unusedVariables false
set_option linter.unusedSimpArgs false
set_option maxRecDepth 100000
def Fits (d : Nat) (t : VT d) : Prop := FitD 12 d t ∧ cntV d t ≤ 300 ∧ rightB d t 200 = true
def FitsPost (d : Nat) (t : VT d) (w : World) (e : Ending) (w' : World) : Prop := ∃ v : Bool, e = .returned (.bool v) ∧ (v = true → Fits d t) ∧ Below w.heap.size w w'
theorem extFits_any (w0 : World) (d : Nat) (t : VT d) (cs : List Value) (hv : IsV w0 d t cs) (W : World) (hW : Below w0.heap.size w0 W) : Calls Tryz.prog 9 #[.agg cs.toArray] W (FitsPost d t W) := by
 have HR := LH (fun V hV => docRight_any w0 d t cs hv V hV)
 have HC0 := fun (g : Nat) (V : World) (h : LS g 300 w0 V) => counts_any w0 g 12 d (by omega) t cs hv 300 V (by omega) (by omega) h
 obtain ⟨k, tx, mr, n, b, h, A1, A2, n1, c1, n2, c2, rfl⟩ := hv.form
 have HC := LH (fun (g : Nat) (V : World) (h1 : LS g 300 w0 V) => show Calls Tryz.prog 21 #[.agg #[.int .i64 k, .string tx, .string mr, .int .i64 n, .int .u64 (b : Int), .int .u64 (h : Int), .slice A1 n1 c1, .slice A2 n2 c2], .int .i64 12, .pointer (some ⟨g, 0, none⟩)] V (CPost w0 g 12 d t 300 V) from HC0 g V h1)
 obtain ⟨X, hX, hXb, hXs, hXc⟩ := box_cells W k tx mr n b h (.slice A1 n1 c1) (.slice A2 n2 c2)
 have hWX := hW.trans (hXb.mono hW.size)
 obtain ⟨Y, hY⟩ : ∃ Y, X.alloc (.cells #[.int .i64 300] 3) = Y := ⟨_, rfl⟩
 have hYb : Below X.heap.size X Y := hY ▸ below_allocB X _
 have hYs : Y.heap.size = W.heap.size + 2 := by rw [← hY]; simp [hXs]
 have hls : LS (W.heap.size + 1) 300 w0 Y := ⟨hWX.trans (hYb.mono hWX.size), by have := hW.size; omega, by rw [← hY, ← hXs]; exact heap_alloc_new X _⟩
 obtain ⟨l0, l1, l2, l3, l4, l5, l6, l7⟩ := box8 (hXc Y hYb)
 have HX := LH hX
 have HY := LH hY
 have HXS := LH hXs
 have HLS := LH hls
 have HWY := LH (hXb.trans (hYb.mono hXb.size))
 have HYS := LH hYs
 have hl : ∀ w3, GStep (W.heap.size + 1) Y w3 → ∀ i v, (#[.int .i64 k, .string tx, .string mr, .int .i64 n, .int .u64 (b : Int), .int .u64 (h : Int), .slice A1 n1 c1, .slice A2 n2 c2] : Array Value)[i]? = some v → w3.cell? ⟨W.heap.size, i, none⟩ = some v := by
  intro w3 hg i v hi
  rw [hg.cell (p := ⟨W.heap.size, i, none⟩) (by rw [hYs]; simp) (by simp)]
  exact hXc Y hYb i v hi
 have HL := LH hl
 clear hv HC0 hX hXb hXc hW hWX hY hYb hls hl hYs
 go_enter Tryz.func9, Tryz.ntmps9
 go_upto_region 1 with fail
 rw [HX.out]
 go_upto_region 2 with fail
 rw [HY.out]
 try rw [HXS.out]
 go_wp2_with (go_at_call 21; refine (HC.out _ _ HLS.out).mono ?_; rintro e w3 ⟨v, rfl, hp⟩; refine Hid.out ?_)
 refine LH ?_
 obtain ⟨l', p1, p2, p3, p4, p5⟩ := hp
 obtain ⟨q0, q1, q2, q3, q4, q5, q6, q7⟩ := box8 (HL.out w3 p5)
 have HB := LH (HWY.out.trans (p5.below (by omega) (by have := HYS.out; omega)))
 have HP4 := LH p4
 clear l0 l1 l2 l3 l4 l5 l6 l7
 cases v
 ·clear p1 p2 p3 p4 p5
  go_wp2_with fail
  go_ret
  exact ⟨false, rfl, (fun h => by cases h), HB.out⟩
 ·have HP3 := LH (p3 rfl)
  clear p1 p2 p3 p4 p5
  go_wp2_with (go_at_call 22; refine (HR.out _ HP4.out.below).mono ?_; rintro e w4 ⟨rfl, hb4⟩; have HB4 := LH (HB.out.trans (hb4.mono HB.out.size)); clear hb4)
  go_ret
  exact ⟨rightB d t 200, rfl, fun hr => ⟨HP3.out.1, by have := HP3.out.2; omega, hr⟩, HB4.out⟩
end Go.Proofs.YtpfkgpcnhdkkbaaGreatDoor
namespace Go.Proofs.YtpfkgpcnhdkkbaaGreatDoor
set_option maxHeartbeats 8000000
open Go.RowKit
set_option linter.unusedVariables false
set_option linter.unusedSimpArgs false
set_option maxRecDepth 100000
def BoolPost (w : World) (e : Ending) (w' : World) : Prop := ∃ v : Bool, e = .returned (.bool v) ∧ Below w.heap.size w w'
theorem zz_any (k : Int) (text more : ByteArray) (n : Int) (bits high : Nat) (A B : Option Addr) (m c m2 c2 : Nat) (w : World) (h1 : text.size ≤ 140737488351232) (h2 : more.size ≤ 140737488351232) (h3 : m ≤ 140737488351232) (h4 : m2 ≤ 140737488351232) :
  Calls Tryz.prog 7 #[valV k text more n bits high (.slice A m c) (.slice B m2 c2)] w (BoolPost w) := by
 unfold valV
 have HB := LH (below_allocB w (.cells #[.int .i64 k, .string text, .string more, .int .i64 n, .int .u64 (bits : Int), .int .u64 (high : Int), .slice A m c, .slice B m2 c2] 26))
 go_enter Tryz.func7, Tryz.ntmps7
 by_cases t1 : text.size ≤ 2147483647
 ·by_cases t2 : more.size ≤ 2147483647
  ·by_cases t3 : m ≤ 2147483647
   ·by_cases t4 : m2 ≤ 2147483647
    ·go_wp2_with fail
     go_ret
     exact ⟨_, rfl, HB.out⟩
    ·go_wp2_with fail
     go_ret
     exact ⟨_, rfl, HB.out⟩
   ·go_wp2_with fail
    go_ret
    exact ⟨_, rfl, HB.out⟩
  ·go_wp2_with fail
   go_ret
   exact ⟨_, rfl, HB.out⟩
 ·go_wp2_with fail
  go_ret
  exact ⟨_, rfl, HB.out⟩
end Go.Proofs.YtpfkgpcnhdkkbaaGreatDoor
