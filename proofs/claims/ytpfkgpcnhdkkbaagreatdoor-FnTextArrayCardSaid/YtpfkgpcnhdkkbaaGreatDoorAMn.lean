/- base64.NewEncoding over the standard letters. -/
import Derived.Test.YtpfkgpcnhdkkbaaGreatDoorAB6
import Derived.Test.YtpfkgpcnhdkkbaaGreatDoorAMi
import Derived.Lib.BufferWrite
import Derived.Lib.SlBuf
import Derived.Deep.CutRange
import Derived.Deep.CutBlock
import Derived.Deep.DeepCutAuto
import Derived.RegionTactic
import Derived.Test.YtpfkgpcnhdkkbaaGreatDoorAGl
import Derived.Deep.MidRow
import Derived.Deep.LoopGhost
namespace Go.Proofs.YtpfkgpcnhdkkbaaGreatDoor
set_option maxHeartbeats 8000000
open Go.RowKit
set_option linter.unusedVariables false
set_option linter.unusedSimpArgs false
set_option maxRecDepth 100000
theorem b6_inj : ∀ i j : Fin 64, b6c i.val = b6c j.val → i = j := by decide +kernel
theorem b6_nl : ∀ i : Fin 64, ((b6c i.val).toNat == 10) = false ∧ ((b6c i.val).toNat == 13) = false := by decide +kernel
def EMI (g i : Nat) (w : World) : Prop := ∃ cs : Array Value, w.heap[g]? = some (.cells cs 295 (0, 0)) ∧ cs.size = 322 ∧ (∀ j, j < 64 → cs[j]? = some (.int .u8 ((b6c j).toNat : Int))) ∧ cs[320]? = some (.int .i32 61) ∧
 (∀ j, i ≤ j → j < 64 → cs[64 + (b6c j).toNat]? = some (.int .u8 255))
theorem EMI.step {g k : Nat} {w : World} (h : EMI g k w) (hk : k < 64) (u : Value) : EMI g (k + 1) (w.setCell ⟨g, 64 + (b6c k).toNat, none⟩ u) := by
 obtain ⟨cs, h1, h2, h3, h4, h5⟩ := h
 have hl : ∀ j, (b6c j).toNat < 256 := fun j => (b6c j).toNat_lt
 refine ⟨_, blk_set h1 _ u, by simp [h2], fun j hj => ?_, ?_, fun j hj hj2 => ?_⟩
 ·rw [Array.getElem?_setIfInBounds, if_neg (by omega)]
  exact h3 j hj
 ·rw [Array.getElem?_setIfInBounds, if_neg (by have := hl k; omega)]
  exact h4
 ·rw [Array.getElem?_setIfInBounds, if_neg ?_]
  ·exact h5 j (by omega) hj2
  ·intro e
   have e2 : (b6c k).toNat = (b6c j).toNat := by omega
   have := b6_inj ⟨k, hk⟩ ⟨j, hj2⟩ (UInt8.toNat_inj.1 e2)
   simp at this
   omega
theorem EMI.drewN {g k : Nat} {w : World} (h : EMI g k w) (n : Nat) : EMI g k (w.drewN n) := h
theorem info5sz : (Tryz.prog.info? 5).map (·.size) = some 1 := by kernel_rfl
def ffB : ByteArray := ⟨(List.replicate 256 255).toArray⟩
theorem ff_cells : Lib.byteCells (List.replicate 256 (255 : UInt8)) = List.replicate 256 (Value.int .u8 255) := by
 simp [Lib.byteCells]
theorem emi_start {g : Nat} {w : World} {cs : Array Value} (s u : ByteArray) (hb : w.heap[g]? = some (.cells cs 295 (0, 0))) (h2 : cs.size = 322) (h4 : cs[320]? = some (.int .i32 61)) (hs : s = b6L) (hu : u.data.toList = List.replicate 256 255) :
    EMI g 0 ((w.setRow g (cs.toList.take 0 ++ Lib.byteCells s.data.toList ++ cs.toList.drop (0 + s.size)).toArray).setRow g ((cs.toList.take 0 ++ Lib.byteCells s.data.toList ++ cs.toList.drop (0 + s.size)).toArray.toList.take 64 ++ Lib.byteCells u.data.toList ++ (cs.toList.take 0 ++ Lib.byteCells s.data.toList ++ cs.toList.drop (0 + s.size)).toArray.toList.drop (64 + u.size)).toArray) := by
  have hb1 := setRow_heap w g cs (cs.toList.take 0 ++ Lib.byteCells s.data.toList ++ cs.toList.drop (0 + s.size)).toArray 295 (0, 0) hb
  have hb2 := setRow_heap _ g _ ((cs.toList.take 0 ++ Lib.byteCells s.data.toList ++ cs.toList.drop (0 + s.size)).toArray.toList.take 64 ++ Lib.byteCells u.data.toList ++ (cs.toList.take 0 ++ Lib.byteCells s.data.toList ++ cs.toList.drop (0 + s.size)).toArray.toList.drop (64 + u.size)).toArray 295 (0, 0) hb1
  have hss : s.size = 64 := by rw [hs]; rfl
  have hus : u.size = 256 := by have : u.data.toList.length = 256 := by rw [hu]; simp
                                rw [Array.length_toList] at this; exact this
  have hsl : (Lib.byteCells s.data.toList).length = 64 := by rw [bc_len, Array.length_toList]; exact hss
  have hl : cs.toList.length = 322 := by rw [Array.length_toList]; exact h2
  refine ⟨_, hb2, ?_, ?_, ?_, ?_⟩
  · rw [hss, hus, hu, ff_cells]
    simp [hsl, hl]
  · intro j hj
    rw [hss, hus, hu, ff_cells, hs]
    have hsl' : (Lib.byteCells b6L.data.toList).length = 64 := by rw [← hs]; exact hsl
    simp only [List.take_zero, List.nil_append, List.getElem?_toArray]
    rw [List.append_assoc, List.getElem?_append_left (by rw [List.length_take, List.length_append, hsl']; omega), List.getElem?_take, if_pos hj, List.getElem?_append_left (by rw [hsl']; exact hj)]
    have := b6_fin ⟨j, hj⟩
    simp only [Lib.byteCells, List.getElem?_map]
    have hjl : j < b6L.data.toList.length := hj
    rw [List.getElem?_eq_getElem hjl, Option.map_some]
    exact congrArg (fun c : UInt8 => some (Value.int .u8 (c.toNat : Int))) this
  · rw [hss, hus, hu, ff_cells]
    simp only [List.take_zero, List.nil_append, List.getElem?_toArray]
    rw [List.append_assoc, List.getElem?_append_right (by rw [List.length_take, List.length_append, hsl]; omega), List.length_take, List.length_append, hsl, List.length_drop, hl, List.getElem?_append_right (by rw [List.length_replicate]; omega), List.length_replicate, List.getElem?_drop, List.getElem?_append_right (by rw [hsl]; omega), hsl, List.getElem?_drop]
    simpa using h4
  · intro j _ hj
    have := (b6c j).toNat_lt
    rw [hss, hus, hu, ff_cells]
    simp only [List.take_zero, List.nil_append, List.getElem?_toArray]
    rw [List.append_assoc, List.getElem?_append_right (by rw [List.length_take, List.length_append, hsl]; omega), List.length_take, List.length_append, hsl, List.length_drop, hl, List.getElem?_append_left (by rw [List.length_replicate]; omega), List.getElem?_replicate, if_pos (by omega)]
theorem newEnc_any (s : ByteArray) (hs : s = b6L) (w : World) : Calls Tryz.prog 179 #[.string s] w fun e w' => ∃ g, e = .returned (.pointer (some ⟨g, 0, none⟩)) ∧ w.heap.size ≤ g ∧ EMI g 64 w' ∧ Below w.heap.size w w' := by
 have hss : s.size = 64 := by rw [hs]; rfl
 have hix : ∀ (k : Nat) (h : k < s.size), s[k]'h = b6c k := by
  subst hs
  exact fun k h => b6_fin ⟨k, h⟩
 have HSS := LH hss
 have HIX := LH hix
 have HS := LH hs
 have hn : decide (s.size = 64) = true := by simp [hss]
 have hn2 : ((s.size : Int) != 64) = false := by simp; omega
 clear hss hix hs
 go_enter Tryz.func179, Tryz.ntmps179
 go_upto_region 3 with fail
 go_cut [3] from 9 to 9 (fun p wx => p = .pointer (some ⟨w.heap.size, 0, none⟩) ∧ ∃ cs, wx.heap[w.heap.size]? = some (.cells cs 295 (0, 0)) ∧ cs.size = 322 ∧ Below w.heap.size w wx)
 case first =>
  go_wp2_with fail
  go_meet
  exact ⟨rfl, _, heap_alloc_new w _, rfl, below_allocB w _⟩
 case rest =>
  obtain ⟨rfl, cs, hb, hsz, HB⟩ := hcut
  obtain ⟨g, hg⟩ : ∃ g, w.heap.size = g := ⟨_, rfl⟩
  rw [hg] at hb HB ⊢
  obtain ⟨v0, hv0⟩ : ∃ v, cs[320]? = some v := ⟨_, Array.getElem?_eq_getElem (by omega)⟩
  have c0 : wc.cell? ⟨g, 320, none⟩ = some v0 := (blk_cell hb 320).trans hv0
  have z0 := blk_frozen hb 320
  have hb1 := blk_set hb 320 (.int .i32 61)
  have HB1 := LH (HB.setCell (p := ⟨g, 320, none⟩) (Nat.le_refl _) (.int .i32 61))
  obtain ⟨w1, hw1⟩ : ∃ w1, wc.setCell ⟨g, 320, none⟩ (.int .i32 61) = w1 := ⟨_, rfl⟩
  rw [hw1] at hb1 HB1
  have hsz1 : (cs.setIfInBounds 320 (.int .i32 61)).size = 322 := by simp [hsz]
  have h320 : (cs.setIfInBounds 320 (.int .i32 61))[320]? = some (.int .i32 61) := by rw [Array.getElem?_setIfInBounds, if_pos rfl, if_pos (by omega)]
  generalize cs.setIfInBounds 320 (.int .i32 61) = cs1 at hb1 hsz1 h320
  have HHB := LH hb1
  have H320 := LH h320
  have HSZ := LH hsz1
  clear hb HB hsz hv0 hb1 h320 hsz1
  go_wp2_with (with_reducible show wpList _ _ _ (⟨some 18, _, _, _, _, _⟩ :: _) _ _; refine Hid.out ?_)
  refine LH ?_
  refine Lib.wpList_copy_run _ rfl (.tmp 16) (.tmp 17) 23 9 rfl _ _ rfl rfl (Lib.run_copy_row_string w1 23 9 _ 5 g 0 64 64 s cs1 295 Tryz.underlying23 info5sz HHB.out (by have := HSS.out; omega) (by have := HSS.out; have := HSZ.out; omega)) ?_
  have hbA := setRow_heap w1 g cs1 (cs1.toList.take 0 ++ Lib.byteCells s.data.toList ++ cs1.toList.drop (0 + s.size)).toArray 295 (0, 0) HHB.out
  have HBA := LH hbA
  have HB2 := LH (below_setRow HB1.out (Nat.le_refl g) (cs1.toList.take 0 ++ Lib.byteCells s.data.toList ++ cs1.toList.drop (0 + s.size)).toArray)
  have hszA : (cs1.toList.take 0 ++ Lib.byteCells s.data.toList ++ cs1.toList.drop (0 + s.size)).toArray.size = 322 := by
   have h1 := HSS.out
   have h2 := HSZ.out
   have h3 : (Lib.byteCells s.data.toList).length = 64 := by rw [bc_len, Array.length_toList]; exact h1
   simp [h3, h2, h1]
  have HSA := LH hszA
  have HES := LH (fun u hu => emi_start (g := g) (w := w1) (cs := cs1) s u HHB.out HSZ.out H320.out HS.out hu)
  generalize hrow : (cs1.toList.take 0 ++ Lib.byteCells s.data.toList ++ cs1.toList.drop (0 + s.size)).toArray = row at *
  obtain ⟨w2, hw2⟩ : ∃ w2, w1.setRow g row = w2 := ⟨_, rfl⟩
  rw [hw2] at HBA HB2 HES ⊢
  clear hbA hszA hrow hw1 hw2
  go_wp2_with (with_reducible show wpList _ _ _ (⟨some 23, _, _, _, _, _⟩ :: _) _ _; refine Hid.out ?_)
  refine LH ?_
  refine Lib.wpList_copy_run _ rfl (.tmp 22) _ 23 9 rfl _ (.string ffB) rfl (by kernel_rfl) (Lib.run_copy_row_string w2 23 9 _ 5 g 64 256 256 ffB row 295 Tryz.underlying23 info5sz HBA.out (by decide +kernel) (by have := HSA.out; rw [this]; decide +kernel)) ?_
  have HE := LH (HES.out ffB rfl)
  have HB3 := LH (below_setRow HB2.out (Nat.le_refl g) (row.toList.take 64 ++ Lib.byteCells ffB.data.toList ++ row.toList.drop (64 + ffB.size)).toArray)
  obtain ⟨w3, hw3⟩ : ∃ w3, w2.setRow g (row.toList.take 64 ++ Lib.byteCells ffB.data.toList ++ row.toList.drop (64 + ffB.size)).toArray = w3 := ⟨_, rfl⟩
  rw [hw3] at HE HB3 ⊢
  clear hw3 HES HBA HB2 HSA HHB HB1 H320 HSZ c0 z0
  go_wp2_with fail
  go_loopw [4] (fun i wr => ∃ k : Nat, k ≤ 64 ∧ i = .int .i64 k ∧ Hid (EMI g k wr) ∧ Hid (Below g w wr)) (fun i _ => 64 - (intOf i).toNat)
  case atStart => exact ⟨0, by omega, rfl, HE.out, HB3.out⟩
  case round =>
   obtain ⟨k, hk, rfl, HEk, HBk⟩ := hrel
   by_cases hlt : k < 64
   ·obtain ⟨cs, q1, q2, q3, q4, q5⟩ := HEk.out
    have hks : k < s.size := by have := HSS.out; omega
    have hci := HIX.out k hks
    have hc := q5 k (Nat.le_refl _) hlt
    have hc1 := (blk_cell q1 (64 + (b6c k).toNat)).trans hc
    have hz1 := blk_frozen q1 (64 + (b6c k).toNat)
    have HST := LH (fun n u => EMI.step (HEk.out.drewN n) hlt u)
    obtain ⟨hn1, hn2⟩ := b6_nl ⟨k, hlt⟩
    obtain ⟨c, hcc⟩ : ∃ c, b6c k = c := ⟨_, rfl⟩
    have hq := c.toNat_lt
    rw [hcc] at hci hc1 hz1 HST hn1 hn2
    have hn1' : ((c.toNat : Int) == 10) = false := by simp at hn1 ⊢; omega
    have hn2' : ((c.toNat : Int) == 13) = false := by simp at hn2 ⊢; omega
    have hks' : decide (k < s.size) = true := by simp [hks]
    clear q1 q2 q3 q4 q5 hc hcc hn1 hn2
    go_wp2_with fail
    go_quiet (fail)
    go_wp2_with fail
    obtain ⟨wd, hwd⟩ : ∃ wd, wr.drewN nq = wd := ⟨_, rfl⟩
    have hc2 : wd.cell? ⟨g, 64 + c.toNat, none⟩ = some (.int .u8 255) := by rw [← hwd]; exact hc1
    have hz2 : wd.frozen? ⟨g, 64 + c.toNat, none⟩ = false := by rw [← hwd]; exact hz1
    rw [hwd]
    have HWD := LH hwd
    have hk256 : (k : Int) % 256 = (k : Int) := by omega
    clear hwd hc1 hz1
    go_region
    all_goals
     go_wp2_with fail
     go_roundw
     case rel => exact ⟨k + 1, by omega, by go_num, (by have h := HST.out nq (.int .u8 (k : Int)); rw [HWD.out] at h; exact h), (by have h := Below.setCell (below_drn HBk.out nq) (p := ⟨g, 64 + c.toNat, none⟩) (Nat.le_refl g) (.int .u8 (k : Int)); rw [HWD.out] at h; exact ⟨h.os, h.tape, h.output, h.size, h.block⟩)⟩
     case measure => simp [intOf]; omega
   ·have hnot : decide (k < s.size) = false := by have := HSS.out; simp; omega
    go_wp2_with fail
    go_ret
    obtain rfl : k = 64 := by omega
    exact ⟨g, rfl, by omega, HEk.out, by rw [hg]; exact HBk.out⟩
set_option maxHeartbeats 8000000
theorem or_u64 (k : Nat) (a b v : Nat) (hb : b < 2 ^ k) (ha : a % 2 ^ k = 0) (ha2 : a < 1000000000000) (hb2 : b < 1000000000000) (hv : a + b = v) : bits .or .u64 (a : Int) (b : Int) = (v : Int) := by
 have h1 : ((2 : Int) ^ k) = ((2 ^ k : Nat) : Int) := by simp
 rw [bits_join .u64 64 (by decide) (fun n h₀ h₁ => by rw [IntKind.wrap_u64]; omega) k _ _ (by omega) (by rw [h1]; omega) (by omega) (by omega) (by rw [h1]; omega) (by omega)]
 omega
theorem and63u (a : Nat) (h1 : a < 4611686018427387904) : bits .and .u64 (a : Int) 63 = ((a % 64 : Nat) : Int) := by
 have := bits_mask .u64 64 (by decide) (fun n h₀ h₁ => by rw [IntKind.wrap_u64]; omega) 6 (by decide) (a : Int) (by omega) (by omega)
 rw [show (2 : Int) ^ 6 - 1 = 63 from rfl, show (2 : Int) ^ 6 = 64 from rfl] at this
 rw [this]; omega
theorem b6_length : ∀ l : List UInt8, (b6 l).length = (l.length + 2) / 3 * 4
 | [] => rfl
 | [a] => by simp [b6]
 | [a, b] => by simp [b6]
 | a :: b :: c :: t => by
  have := b6_length t
  simp only [b6, List.length_append, List.length_cons, List.length_nil, this]
  omega
theorem info292s : (Tryz.prog.info? 292).map (·.size) = some 64 := by kernel_rfl
theorem EMI.row {g : Nat} {w : World} (h : EMI g 64 w) : ∃ vs, w.rangeAt g 0 vs ∧ vs.length = 64 := by
 obtain ⟨cs, h1, h2, _⟩ := h
 exact ⟨_, World.rangeAt_of_block h1 0 64, by simp [h2]⟩
theorem EMI.cell {g : Nat} {w : World} (h : EMI g 64 w) (j : Nat) (hj : j < 64) : w.cell? ⟨g, j, none⟩ = some (.int .u8 ((b6c j).toNat : Int)) := by
 obtain ⟨cs, h1, _, h3, _⟩ := h
 exact (blk_cell h1 j).trans (h3 j hj)
theorem EMI.pad {g : Nat} {w : World} (h : EMI g 64 w) : w.cell? ⟨g, 320, none⟩ = some (.int .i32 61) := by
 obtain ⟨cs, h1, _, _, h4, _⟩ := h
 exact (blk_cell h1 320).trans h4
theorem EMI.kept {g : Nat} {w w' : World} (h : EMI g 64 w) (hk : w'.heap[g]? = w.heap[g]?) : EMI g 64 w' := by
 obtain ⟨cs, h1, r⟩ := h
 exact ⟨cs, hk.trans h1, r⟩
def DB (g N k : Nat) (tot : List UInt8) (w : World) : Prop := ∃ cs : Array Value, w.heap[g]? = some (.cells cs 5 (0, 0)) ∧ cs.size = N ∧ ∀ j b, j < k → tot[j]? = some b → cs[j]? = some (.int .u8 (b.toNat : Int))
theorem DB.put {g N k : Nat} {tot : List UInt8} {w : World} (h : DB g N k tot w) {c : UInt8} (hc : tot[k]? = some c) (hk : k < N) {z : Int} (hz : z = (c.toNat : Int)) : DB g N (k + 1) tot (w.setCell ⟨g, k, none⟩ (.int .u8 z)) := by
 obtain ⟨cs, h1, h2, h3⟩ := h
 refine ⟨_, blk_set h1 k _, by simp [h2], fun j b hj hb => ?_⟩
 rw [Array.getElem?_setIfInBounds]
 by_cases e : k = j
 ·subst e
  rw [if_pos rfl, if_pos (by omega)]
  rw [hc] at hb
  obtain rfl := Option.some.inj hb
  rw [hz]
 ·rw [if_neg e]
  exact h3 j b (by omega) hb
theorem DB.drewN {g N k : Nat} {tot : List UInt8} {w : World} (h : DB g N k tot w) (n : Nat) : DB g N k tot (w.drewN n) := h
theorem DB.at_ {g N k : Nat} {tot : List UInt8} {w : World} (h : DB g N k tot w) (j : Nat) (hj : j < N) : (∃ v, w.cell? ⟨g, j, none⟩ = some v) ∧ w.frozen? ⟨g, j, none⟩ = false := by
 obtain ⟨cs, h1, h2, h3⟩ := h
 exact ⟨⟨_, (blk_cell h1 j).trans (Array.getElem?_eq_getElem (by omega))⟩, blk_frozen h1 j⟩
theorem drop_get {α : Type} {tot t : List α} {k : Nat} (h : tot.drop k = t) (i : Nat) : tot[k + i]? = t[i]? := by rw [← h, List.getElem?_drop]
theorem encode_any (ge gd n N : Nat) (l : List UInt8) (A : Option Addr) (cap : Nat) (w : World) (hn : l.length = n) (hN : N = (n + 2) / 3 * 4) (hl : n ≤ 100000) (hr : RB w A l) (hcap : n ≤ cap) (hcap2 : cap ≤ 9223372036854775807) (hE : EMI ge 64 w) (hD : DB gd N 0 (b6 l) w) (hne : ¬ ge = gd) (hA : 0 < n → ∀ ad, A = some ad → ad.block ≠ gd) :
  Calls Tryz.prog 230 #[.pointer (some ⟨ge, 0, none⟩), .slice (some ⟨gd, 0, none⟩) N N, .slice A n cap] w fun e w' => e = .returned (.tuple #[]) ∧ DB gd N N (b6 l) w' ∧ Below gd w w' ∧ (∀ k, ¬ k = gd → w'.heap[k]? = w.heap[k]?) := by
 obtain ⟨tot, htot⟩ : ∃ tot, b6 l = tot := ⟨_, rfl⟩
 have htl : tot.length = N := by rw [← htot, b6_length, hn, hN]
 rw [htot] at hD ⊢
 have HTOT := LH htot
 have HTL := LH htl
 have HN := LH hN
 have HL := LH hn
 have HE := LH hE
 have HD := LH hD
 have HR := LH hr
 by_cases h0 : n = 0
 ·obtain rfl : N = 0 := by omega
  subst h0
  clear htot htl hN hn hE hD hr hA
  show Calls Tryz.prog 230 #[.pointer (some ⟨ge, 0, none⟩), .slice (some ⟨gd, 0, none⟩) 0 0, .slice A 0 cap] w _
  go_enter Tryz.func230, Tryz.ntmps230
  go_wp2_with fail
  exact bodyPost_ret (results_none rfl _ _ _) rfl ⟨rfl, HD.out, Below.refl _ _, fun _ _ => rfl⟩
 ·have HA := LH (hA (by omega))
  obtain ⟨vs, hrg, hvs⟩ := hE.row
  have hn0 : ((n : Int) == 0) = false := by simp; omega
  have HRG := LH hrg
  have HVS := LH hvs
  clear htot htl hN hn hE hD hr hA h0 hrg hvs
  go_enter Tryz.func230, Tryz.ntmps230
  go_wp2_with (with_reducible show wpList _ _ _ (⟨some 15, _, _, _, _, _⟩ :: _) _ _; refine Hid.out ?_)
  refine LH ?_
  refine wpList_load_mid rfl 292 (.tmp 14) rfl ge 0 rfl vs _ HRG.out Tryz.underlying292 rfl (by rw [info292s, HVS.out]) ?_
  clear HRG HVS
  go_wp2_with fail
  go_simp
  go_loopg [1, 2] n (fun k d s wr => ∃ (q m M o' c' : Nat) (A' : Option Addr), d = .slice (some ⟨gd, o', none⟩) M M ∧ s = .slice A' m c' ∧ m ≤ c' ∧ c' ≤ 9223372036854775807 ∧ m ≤ k ∧ M ≤ 200000 ∧ m ≤ 100000 ∧ Hid (m + 3 * q = n) ∧ Hid (M + 4 * q = N) ∧ Hid (0 < M → o' = 4 * q) ∧
   Hid (RB w A' (l.drop (3 * q))) ∧ Hid (∀ ad, A' = some ad → ad.block ≠ gd) ∧ Hid (tot.drop (4 * q) = b6 (l.drop (3 * q))) ∧ Hid (DB gd N (4 * q) tot wr) ∧ Hid (∀ k, ¬ k = gd → wr.heap[k]? = w.heap[k]?) ∧ Hid (Below gd w wr))
  case atStart => exact ⟨0, n, N, 0, cap, A, rfl, rfl, hcap, hcap2, Nat.le_refl _, by have := HN.out; omega, hl, by show _ = _; omega, by show _ = _; omega, fun _ => rfl, by show RB w A _; simpa using HR.out, HA.out, by show _ = _; simpa using HTOT.out.symm, by show DB gd N _ tot w; simpa using HD.out, fun _ _ => rfl, Below.refl _ _⟩
  case round =>
   obtain ⟨q, m, M, o', c', A', rfl, rfl, hmc, hc2, hmk, hM2, hm2, Hm, HM, HO, HR', HA', HT, HD', HK, HB⟩ := hrel
   by_cases hlt : 3 ≤ m
   ·have hMm : 4 ≤ M := by have := Hm.out; have := HM.out; have := HN.out; omega
    have hll : (l.drop (3 * q)).length = m := by have := Hm.out; have := HL.out; rw [List.length_drop]; omega
    obtain ⟨a, b, c, t, habc⟩ : ∃ a b c t, l.drop (3 * q) = a :: b :: c :: t := by
     match h : l.drop (3 * q), hll with
     | [], h2 => simp at h2; omega
     | [_], h2 => simp at h2; omega
     | [_, _], h2 => simp at h2; omega
     | a :: b :: c :: t, _ => exact ⟨a, b, c, t, rfl⟩
    have hdr : l.drop (3 * (q + 1)) = t := by rw [show 3 * (q + 1) = 3 * q + 3 from by omega, ← List.drop_drop, habc]; rfl
    have hr2 := HR'.out
    rw [habc] at hr2
    obtain ⟨ad, rfl, hcell⟩ := hr2 (by simp)
    have hsp := rb_spot (by rw [habc] at HR'; exact HR'.out) (show 0 < (a :: b :: c :: t).length by simp) (A := some ad) rfl
    obtain ⟨gs, os, sp⟩ := ad
    obtain rfl : sp = none := hsp
    have hgs : gs ≠ gd := HA'.out _ rfl
    have hcl : ∀ j, wr.cell? ⟨gs, j, none⟩ = w.cell? ⟨gs, j, none⟩ := fun j => World.cell?_of_block (HK.out gs hgs)
    have k0 : wr.cell? ⟨gs, os, none⟩ = some (.int .u8 (a.toNat : Int)) := (hcl os).trans (by have := hcell 0 a rfl; rw [addrP, Nat.add_zero] at this; exact this)
    have k1 : wr.cell? ⟨gs, os + 1, none⟩ = some (.int .u8 (b.toNat : Int)) := (hcl (os + 1)).trans (by have := hcell 1 b rfl; rw [addrP] at this; exact this)
    have k2 : wr.cell? ⟨gs, os + 2, none⟩ = some (.int .u8 (c.toNat : Int)) := (hcl (os + 2)).trans (by have := hcell 2 c rfl; rw [addrP] at this; exact this)
    obtain rfl : o' = 4 * q := HO.out (by omega)
    have hN4 : 4 * q + 4 ≤ N := by have := HM.out; omega
    obtain ⟨⟨v0, d0⟩, z0⟩ := HD'.out.at_ (4 * q) (by omega)
    obtain ⟨⟨v1, d1⟩, z1⟩ := HD'.out.at_ (4 * q + 1) (by omega)
    obtain ⟨⟨v2, d2⟩, z2⟩ := HD'.out.at_ (4 * q + 2) (by omega)
    obtain ⟨⟨v3, d3⟩, z3⟩ := HD'.out.at_ (4 * q + 3) (by omega)
    have hEw := HE.out.kept (HK.out ge hne)
    have la := a.toNat_lt
    have lb := b.toNat_lt
    have lc := c.toNat_lt
    obtain ⟨x, hx⟩ : ∃ x, a.toNat = x := ⟨_, rfl⟩
    obtain ⟨y, hy⟩ : ∃ x, b.toNat = x := ⟨_, rfl⟩
    obtain ⟨z, hz⟩ : ∃ x, c.toNat = x := ⟨_, rfl⟩
    rw [hx] at k0 la
    rw [hy] at k1 lb
    rw [hz] at k2 lc
    have hb6 := HT.out
    rw [habc, b6, hx, hy, hz] at hb6
    obtain ⟨xy, hxy⟩ : ∃ v, x * 65536 + y * 256 = v := ⟨_, rfl⟩
    obtain ⟨N2, hN2⟩ : ∃ v, xy + z = v := ⟨_, rfl⟩
    have m1 := or_u64 16 (x * 65536) (y * 256) xy (by omega) (by omega) (by omega) (by omega) hxy
    have m2 := or_u64 8 xy z N2 (by omega) (by omega) (by omega) (by omega) hN2
    rw [show ((x * 65536 : Nat) : Int) = (x : Int) * 65536 from by omega, show ((y * 256 : Nat) : Int) = (y : Int) * 256 from by omega] at m1
    have nl : N2 < 16777216 := by omega
    obtain ⟨i0, hi0⟩ : ∃ v, N2 / 262144 % 64 = v := ⟨_, rfl⟩
    obtain ⟨i1, hi1⟩ : ∃ v, N2 / 4096 % 64 = v := ⟨_, rfl⟩
    obtain ⟨i2, hi2⟩ : ∃ v, N2 / 64 % 64 = v := ⟨_, rfl⟩
    obtain ⟨i3, hi3⟩ : ∃ v, N2 % 64 = v := ⟨_, rfl⟩
    have f0 : bits .and .u64 ((N2 : Int) / 262144) 63 = (i0 : Int) := (and63u (N2 / 262144) (by omega)).trans (by rw [hi0])
    have f1 : bits .and .u64 ((N2 : Int) / 4096) 63 = (i1 : Int) := (and63u (N2 / 4096) (by omega)).trans (by rw [hi1])
    have f2 : bits .and .u64 ((N2 : Int) / 64) 63 = (i2 : Int) := (and63u (N2 / 64) (by omega)).trans (by rw [hi2])
    have f3 : bits .and .u64 (N2 : Int) 63 = (i3 : Int) := (and63u N2 (by omega)).trans (by rw [hi3])
    have j0 : i0 < 64 := by omega
    have j1 : i1 < 64 := by omega
    have j2 : i2 < 64 := by omega
    have j3 : i3 < 64 := by omega
    rw [show x / 4 = i0 from by omega, show x % 4 * 16 + y / 16 = i1 from by omega, show y % 16 * 4 + z / 64 = i2 from by omega, show z % 64 = i3 from by omega] at hb6
    have e0 := hEw.cell i0 j0
    have e1 := hEw.cell i1 j1
    have e2 := hEw.cell i2 j2
    have e3 := hEw.cell i3 j3
    have p0 := drop_get hb6 0
    have p1 := drop_get hb6 1
    have p2 := drop_get hb6 2
    have p3 := drop_get hb6 3
    simp only [List.cons_append, List.getElem?_cons_zero, List.getElem?_cons_succ, Nat.add_zero] at p0 p1 p2 p3
    have HP := LH (show DB gd N (4 * q + 4) tot ((((wr.setCell ⟨gd, 4 * q, none⟩ (.int .u8 ((b6c i0).toNat : Int))).setCell ⟨gd, 4 * q + 1, none⟩ (.int .u8 ((b6c i1).toNat : Int))).setCell ⟨gd, 4 * q + 2, none⟩ (.int .u8 ((b6c i2).toNat : Int))).setCell ⟨gd, 4 * q + 3, none⟩ (.int .u8 ((b6c i3).toNat : Int))) from
     (((HD'.out.put p0 (by omega) rfl).put p1 (by omega) rfl).put p2 (by omega) rfl).put p3 (by omega) rfl)
    have HT2 := LH (show tot.drop (4 * (q + 1)) = b6 (l.drop (3 * (q + 1))) by rw [hdr, show 4 * (q + 1) = 4 * q + 4 from by omega, ← List.drop_drop, hb6]; rfl)
    have hr3 := HR'.out
    rw [habc] at hr3
    have HRt := LH (show t.length = m - 3 by rw [habc] at hll; simp at hll; omega)
    have HCE := LH (fun j b (h : t[j]? = some b) => (hcell (j + 3) b (by simpa using h)))
    have HDR := LH hdr
    have hng : ¬ gd = ge := fun e => hne e.symm
    have hgs' : ¬ gs = gd := hgs
    have t1 : decide ((3 : Int) ≤ (m : Int)) = true := by simp; omega
    clear hcell hcl hx hy hz hxy hN2 hi0 hi1 hi2 hi3 p0 p1 p2 p3 hb6 hdr hr2 hr3 habc hll hgs hEw
    have hcc : c' = 3 ∨ ¬ c' = 3 := Classical.em _
    have hMM : M = 4 ∨ ¬ M = 4 := Classical.em _
    have HLL := LH (show m ≤ c' from hmc)
    obtain ⟨m', hm'⟩ : ∃ m', m - 3 = m' := ⟨_, rfl⟩
    have HM3 := LH hm'
    clear hm'
    have hcc' : (m = 3 ∧ c' = 3) ∨ ¬ c' = 3 := by rcases hcc with h | h; exact .inl ⟨by omega, h⟩; exact .inr h
    clear hcc
    rcases hcc' with ⟨rfl, rfl⟩ | hcc
    all_goals
     rcases hMM with rfl | hMM
     all_goals
      go_wp2_with fail
      go_quiet (fail)
      go_wp2_with fail
      go_roundg m'
      case rel =>
       obtain rfl := HM3.out
       refine ⟨q + 1, _, _, _, _, _, rfl, rfl, by omega, by omega, Nat.le_refl _, by omega, by omega, by have := Hm.out; show _ = _; omega, by have := HM.out; show _ = _; omega, ?_, ?_, ?_, HT2.out, HP.out.drewN nq, ?_, ?_⟩
       ·intro h
        first | omega | rfl
       ·show RB w _ _
        rw [HDR.out]
        intro h
        have ht := HRt.out
        first
         | exact ⟨⟨gs, os + 3, none⟩, rfl, fun j b hb => by have := HCE.out j b hb; rw [addrP] at this ⊢; rw [show os + 3 + j = os + (j + 3) from by omega]; exact this⟩
         | (exfalso; omega)
       ·intro ad e
        obtain rfl := Option.some.inj e
        exact hgs'
       ·intro k hk
        refine Eq.trans ?_ (HK.out k hk)
        exact ((Below.heap_setCell _ _ _ k hk).trans ((Below.heap_setCell _ _ _ k hk).trans ((Below.heap_setCell _ _ _ k hk).trans (Below.heap_setCell _ _ _ k hk))))
       ·exact ((((below_drn HB.out nq).setCell (Nat.le_refl gd) _).setCell (Nat.le_refl gd) _).setCell (Nat.le_refl gd) _).setCell (Nat.le_refl gd) _
      case measure => have := HM3.out; omega
   ·by_cases h0 : m = 0
    ·subst h0
     obtain rfl : M = 0 := by have := Hm.out; have := HM.out; have := HN.out; omega
     go_wp2_with fail
     refine bodyPost_ret (results_none rfl _ _ _) rfl ⟨rfl, ?_, HB.out, HK.out⟩
     have h1 := HM.out
     have h2 := HD'.out
     rw [show 4 * q = N from by omega] at h2
     exact h2
    ·by_cases h1 : m = 1
     ·subst h1
      obtain rfl : M = 4 := by have := Hm.out; have := HM.out; have := HN.out; omega
      have hll : (l.drop (3 * q)).length = 1 := by have := Hm.out; have := HL.out; rw [List.length_drop]; omega
      obtain ⟨a, habc⟩ : ∃ a, l.drop (3 * q) = [a] := by
       match h : l.drop (3 * q), hll with
       | [a], _ => exact ⟨a, rfl⟩
      have hr2 := HR'.out
      rw [habc] at hr2
      obtain ⟨ad, rfl, hcell⟩ := hr2 (by simp)
      have hsp := rb_spot (by rw [habc] at HR'; exact HR'.out) (show 0 < ([a]).length by simp) (A := some ad) rfl
      obtain ⟨gs, os, sp⟩ := ad
      obtain rfl : sp = none := hsp
      have hgs : gs ≠ gd := HA'.out _ rfl
      have hcl : ∀ j, wr.cell? ⟨gs, j, none⟩ = w.cell? ⟨gs, j, none⟩ := fun j => World.cell?_of_block (HK.out gs hgs)
      have k0 : wr.cell? ⟨gs, os, none⟩ = some (.int .u8 (a.toNat : Int)) := (hcl os).trans (by have := hcell 0 a rfl; rw [addrP, Nat.add_zero] at this; exact this)
      obtain rfl : o' = 4 * q := HO.out (by omega)
      have hN4 : 4 * q + 4 = N := by have := HM.out; omega
      obtain ⟨⟨v0, d0⟩, z0⟩ := HD'.out.at_ (4 * q) (by omega)
      obtain ⟨⟨v1, d1⟩, z1⟩ := HD'.out.at_ (4 * q + 1) (by omega)
      obtain ⟨⟨v2, d2⟩, z2⟩ := HD'.out.at_ (4 * q + 2) (by omega)
      obtain ⟨⟨v3, d3⟩, z3⟩ := HD'.out.at_ (4 * q + 3) (by omega)
      have hEw := HE.out.kept (HK.out ge hne)
      have la := a.toNat_lt
      obtain ⟨x, hx⟩ : ∃ x, a.toNat = x := ⟨_, rfl⟩
      rw [hx] at k0 la
      have hb6 := HT.out
      rw [habc, b6, hx] at hb6
      obtain ⟨N2, hN2⟩ : ∃ v, x * 65536 = v := ⟨_, rfl⟩
      have m1 : (x : Int) * 65536 = (N2 : Int) := by omega
      have nl : N2 < 16777216 := by omega
      obtain ⟨i0, hi0⟩ : ∃ v, N2 / 262144 % 64 = v := ⟨_, rfl⟩
      have f0 : bits .and .u64 ((N2 : Int) / 262144) 63 = (i0 : Int) := (and63u (N2 / 262144) (by omega)).trans (by rw [hi0])
      have j0 : i0 < 64 := by omega
      obtain ⟨i1, hi1⟩ : ∃ v, N2 / 4096 % 64 = v := ⟨_, rfl⟩
      have f1 : bits .and .u64 ((N2 : Int) / 4096) 63 = (i1 : Int) := (and63u (N2 / 4096) (by omega)).trans (by rw [hi1])
      have j1 : i1 < 64 := by omega
      rw [show x / 4 = i0 from by omega, show x % 4 * 16 = i1 from by omega] at hb6
      have e0 := hEw.cell i0 j0
      have e1 := hEw.cell i1 j1
      have ep := hEw.pad
      have p0 := drop_get hb6 0
      have p1 := drop_get hb6 1
      have p2 := drop_get hb6 2
      have p3 := drop_get hb6 3
      simp only [List.getElem?_cons_zero, List.getElem?_cons_succ, Nat.add_zero] at p0 p1 p2 p3
      have HP := LH (show DB gd N N tot ((((wr.setCell ⟨gd, 4 * q, none⟩ (.int .u8 ((b6c i0).toNat : Int))).setCell ⟨gd, 4 * q + 1, none⟩ (.int .u8 ((b6c i1).toNat : Int))).setCell ⟨gd, 4 * q + 2, none⟩ (.int .u8 61)).setCell ⟨gd, 4 * q + 3, none⟩ (.int .u8 61)) from by
       have := (((HD'.out.put p0 (by omega) rfl).put p1 (by omega) rfl).put p2 (by omega) rfl).put p3 (by omega) rfl
       rw [← hN4] at this ⊢
       exact this)
      have hng : ¬ gd = ge := fun e => hne e.symm
      have hgs' : ¬ gs = gd := hgs
      have HN4 := LH hN4
      clear hcell hcl hx hN2 hi0 hi1 p0 p1 p2 p3 hb6 hr2 habc hll hgs hEw hN4
      go_wp2_with fail
      first
       | go_end0
       | refine bodyPost_ret (results_none rfl _ _ _) rfl ?_
      refine ⟨rfl, HP.out.drewN 0, ?_, ?_⟩
      ·first | exact (((HB.out.setCell (Nat.le_refl gd) _).setCell (Nat.le_refl gd) _).setCell (Nat.le_refl gd) _).setCell (Nat.le_refl gd) _ | exact ((((below_drn HB.out _).setCell (Nat.le_refl gd) _).setCell (Nat.le_refl gd) _).setCell (Nat.le_refl gd) _).setCell (Nat.le_refl gd) _
      ·intro k hk
       refine Eq.trans ?_ (HK.out k hk)
       exact ((Below.heap_setCell _ _ _ k hk).trans ((Below.heap_setCell _ _ _ k hk).trans ((Below.heap_setCell _ _ _ k hk).trans (Below.heap_setCell _ _ _ k hk))))
     ·obtain rfl : m = 2 := by omega
      obtain rfl : M = 4 := by have := Hm.out; have := HM.out; have := HN.out; omega
      have hll : (l.drop (3 * q)).length = 2 := by have := Hm.out; have := HL.out; rw [List.length_drop]; omega
      obtain ⟨a, b, habc⟩ : ∃ a b, l.drop (3 * q) = [a, b] := by
       match h : l.drop (3 * q), hll with
       | [a, b], _ => exact ⟨a, b, rfl⟩
      have hr2 := HR'.out
      rw [habc] at hr2
      obtain ⟨ad, rfl, hcell⟩ := hr2 (by simp)
      have hsp := rb_spot (by rw [habc] at HR'; exact HR'.out) (show 0 < ([a, b]).length by simp) (A := some ad) rfl
      obtain ⟨gs, os, sp⟩ := ad
      obtain rfl : sp = none := hsp
      have hgs : gs ≠ gd := HA'.out _ rfl
      have hcl : ∀ j, wr.cell? ⟨gs, j, none⟩ = w.cell? ⟨gs, j, none⟩ := fun j => World.cell?_of_block (HK.out gs hgs)
      have k0 : wr.cell? ⟨gs, os, none⟩ = some (.int .u8 (a.toNat : Int)) := (hcl os).trans (by have := hcell 0 a rfl; rw [addrP, Nat.add_zero] at this; exact this)
      have k1 : wr.cell? ⟨gs, os + 1, none⟩ = some (.int .u8 (b.toNat : Int)) := (hcl (os + 1)).trans (by have := hcell 1 b rfl; rw [addrP] at this; exact this)
      obtain rfl : o' = 4 * q := HO.out (by omega)
      have hN4 : 4 * q + 4 = N := by have := HM.out; omega
      obtain ⟨⟨v0, d0⟩, z0⟩ := HD'.out.at_ (4 * q) (by omega)
      obtain ⟨⟨v1, d1⟩, z1⟩ := HD'.out.at_ (4 * q + 1) (by omega)
      obtain ⟨⟨v2, d2⟩, z2⟩ := HD'.out.at_ (4 * q + 2) (by omega)
      obtain ⟨⟨v3, d3⟩, z3⟩ := HD'.out.at_ (4 * q + 3) (by omega)
      have hEw := HE.out.kept (HK.out ge hne)
      have la := a.toNat_lt
      obtain ⟨x, hx⟩ : ∃ x, a.toNat = x := ⟨_, rfl⟩
      rw [hx] at k0 la
      have hb6 := HT.out
      have lb := b.toNat_lt
      obtain ⟨y, hy⟩ : ∃ x, b.toNat = x := ⟨_, rfl⟩
      rw [hy] at k1 lb
      rw [habc, b6, hx, hy] at hb6
      obtain ⟨N2, hN2⟩ : ∃ v, x * 65536 + y * 256 = v := ⟨_, rfl⟩
      have m1 := or_u64 16 (x * 65536) (y * 256) N2 (by omega) (by omega) (by omega) (by omega) hN2
      rw [show ((x * 65536 : Nat) : Int) = (x : Int) * 65536 from by omega, show ((y * 256 : Nat) : Int) = (y : Int) * 256 from by omega] at m1
      have nl : N2 < 16777216 := by omega
      obtain ⟨i0, hi0⟩ : ∃ v, N2 / 262144 % 64 = v := ⟨_, rfl⟩
      have f0 : bits .and .u64 ((N2 : Int) / 262144) 63 = (i0 : Int) := (and63u (N2 / 262144) (by omega)).trans (by rw [hi0])
      have j0 : i0 < 64 := by omega
      obtain ⟨i1, hi1⟩ : ∃ v, N2 / 4096 % 64 = v := ⟨_, rfl⟩
      have f1 : bits .and .u64 ((N2 : Int) / 4096) 63 = (i1 : Int) := (and63u (N2 / 4096) (by omega)).trans (by rw [hi1])
      have j1 : i1 < 64 := by omega
      obtain ⟨i2, hi2⟩ : ∃ v, N2 / 64 % 64 = v := ⟨_, rfl⟩
      have f2 : bits .and .u64 ((N2 : Int) / 64) 63 = (i2 : Int) := (and63u (N2 / 64) (by omega)).trans (by rw [hi2])
      have j2 : i2 < 64 := by omega
      rw [show x / 4 = i0 from by omega, show x % 4 * 16 + y / 16 = i1 from by omega, show y % 16 * 4 = i2 from by omega] at hb6
      have e0 := hEw.cell i0 j0
      have e1 := hEw.cell i1 j1
      have e2 := hEw.cell i2 j2
      have ep := hEw.pad
      have p0 := drop_get hb6 0
      have p1 := drop_get hb6 1
      have p2 := drop_get hb6 2
      have p3 := drop_get hb6 3
      simp only [List.getElem?_cons_zero, List.getElem?_cons_succ, Nat.add_zero] at p0 p1 p2 p3
      have HP := LH (show DB gd N N tot ((((wr.setCell ⟨gd, 4 * q, none⟩ (.int .u8 ((b6c i0).toNat : Int))).setCell ⟨gd, 4 * q + 1, none⟩ (.int .u8 ((b6c i1).toNat : Int))).setCell ⟨gd, 4 * q + 2, none⟩ (.int .u8 ((b6c i2).toNat : Int))).setCell ⟨gd, 4 * q + 3, none⟩ (.int .u8 61)) from by
       have := (((HD'.out.put p0 (by omega) rfl).put p1 (by omega) rfl).put p2 (by omega) rfl).put p3 (by omega) rfl
       rw [← hN4] at this ⊢
       exact this)
      have hng : ¬ gd = ge := fun e => hne e.symm
      have hgs' : ¬ gs = gd := hgs
      have HN4 := LH hN4
      clear hcell hcl hx hN2 hy hi0 hi1 hi2 p0 p1 p2 p3 hb6 hr2 habc hll hgs hEw hN4
      go_wp2_with fail
      go_quiet (fail)
      go_wp2_with fail
      first
       | go_end0
       | refine bodyPost_ret (results_none rfl _ _ _) rfl ?_
      refine ⟨rfl, HP.out.drewN 0, ?_, ?_⟩
      ·first | exact (((HB.out.setCell (Nat.le_refl gd) _).setCell (Nat.le_refl gd) _).setCell (Nat.le_refl gd) _).setCell (Nat.le_refl gd) _ | exact ((((below_drn HB.out _).setCell (Nat.le_refl gd) _).setCell (Nat.le_refl gd) _).setCell (Nat.le_refl gd) _).setCell (Nat.le_refl gd) _
      ·intro k hk
       refine Eq.trans ?_ (HK.out k hk)
       exact ((Below.heap_setCell _ _ _ k hk).trans ((Below.heap_setCell _ _ _ k hk).trans ((Below.heap_setCell _ _ _ k hk).trans (Below.heap_setCell _ _ _ k hk))))
theorem encLen_any (ge n : Nat) (hn : n ≤ 100000) (w : World) (hE : EMI ge 64 w) : Calls Tryz.prog 229 #[.pointer (some ⟨ge, 0, none⟩), .int .i64 (n : Int)] w fun e w' => e = .returned (.int .i64 (((n + 2) / 3 * 4 : Nat) : Int)) ∧ w' = w := by
 have ep := hE.pad
 obtain ⟨N, hN⟩ : ∃ N, (n + 2) / 3 * 4 = N := ⟨_, rfl⟩
 have h1 : ((n : Int) + 2) / 3 * 4 = (N : Int) := by omega
 have h2 : ((n : Int) + 2) / 3 ≤ 100000 := by omega
 rw [hN]
 clear hE hN
 go_enter Tryz.func229, Tryz.ntmps229
 go_wp2_with fail
 go_ret
 exact ⟨rfl, rfl⟩
theorem run_make23 (c : Nat) (hc : c ≤ 1000000) (w : World) :
  (Instr.makeSlice 23 (.int .i64 (c : Int)) (.int .i64 (c : Int))).run Tryz.prog w = .ok (.slice (some ⟨w.heap.size, 0, none⟩) c c) (w.alloc (.cells (madeCells #[.int .u8 0] c) 5)) := by
 obtain ⟨i0, hi, hz0, hz1, hz2⟩ := info_parts info5
 have := run_make (P := Tryz.prog) w 23 5 i0 _ Tryz.underlying23 hi hz0 .i64 .i64 (c : Int) (c : Int) (by omega) (by omega) (by rw [hz2]; omega) (by omega)
 rw [hz1] at this
 simpa [Value.cells] using this
theorem encStr_any (ge n : Nat) (l : List UInt8) (A : Option Addr) (cap : Nat) (w : World) (hn : l.length = n) (hl : n ≤ 100000) (hr : RB w A l) (hcap : n ≤ cap) (hcap2 : cap ≤ 9223372036854775807) (hE : EMI ge 64 w) :
  Calls Tryz.prog 180 #[.pointer (some ⟨ge, 0, none⟩), .slice A n cap] w fun e w' => e = .returned (.string (b6B l)) ∧ Below w.heap.size w w' := by
 obtain ⟨N, hN⟩ : ∃ N, (n + 2) / 3 * 4 = N := ⟨_, rfl⟩
 have hNl : N ≤ 200000 := by omega
 have hge : ge < w.heap.size := by obtain ⟨cs, h1, _⟩ := hE; exact blk_lt h1
 have hlen := encLen_any ge n hl w hE
 rw [hN] at hlen
 have hmk := run_make23 N (by omega)
 have hb0 := heap_alloc_new w (.cells (madeCells #[.int .u8 0] N) 5)
 have hcall := encode_any ge w.heap.size n N l A cap (w.alloc (.cells (madeCells #[.int .u8 0] N) 5)) hn hN.symm hl (hr.lat (below_allocB w _)) hcap hcap2 (hE.kept (Below.heap_alloc w _ ge hge))
  ⟨_, hb0, by simp [madeCells], fun j b hj => by omega⟩ (by omega) (fun h0 ad e => by
   obtain ⟨ad', e', hc⟩ := hr (by omega)
   rw [e] at e'
   obtain rfl := Option.some.inj e'
   have := World.block_lt_of_cell? w _ (hc 0 l[0] (by simp))
   rw [show ad.add 0 = ad from rfl] at this
   exact Nat.ne_of_lt this)
 have hb6l : (b6 l).length = N := by rw [b6_length, hn, hN]
 have HLN := LH hlen
 have HC := LH hcall
 have HCV := LH (fun (W : World) (hD : DB w.heap.size N N (b6 l) W) => (show (convert 23 9 (.slice (some ⟨w.heap.size, 0, none⟩) N N)).run Tryz.prog W = .ok (.string (b6B l)) W by
  have hs : (b6B l).size = N := by show (b6 l).toArray.size = N; simpa using hb6l
  have := Lib.run_convert_whole (P := Tryz.prog) W 23 5 9 Tryz.underlying23 Tryz.underlying5 Tryz.underlying9 w.heap.size 0 (b6B l) (by
   intro i hi
   obtain ⟨cs, h1, h2, h3⟩ := hD
   have hi' : i < (b6 l).length := by rw [hb6l, ← hs]; exact hi
   rw [Nat.zero_add, blk_cell h1]
   refine (h3 i (b6 l)[i] (by omega) (List.getElem?_eq_getElem hi')).trans ?_
   rfl) N
  rw [hs] at this
  exact this))
 clear hlen hcall hN hr hE hn hb0 hb6l
 go_enter Tryz.func180, Tryz.ntmps180
 go_wp2_with (first
  | (go_at_call 229; refine HLN.out.mono ?_; rintro e w' ⟨rfl, hw⟩; obtain rfl := hw)
  | (go_at_call 230; refine HC.out.mono ?_; rintro e w2 ⟨rfl, hD, hb2, hk2⟩; have hcv := HCV.out w2 hD; have HB2 := LH hb2; clear hb2 hk2 hD))
 go_ret
 exact ⟨rfl, (below_allocB _ _).trans HB2.out⟩
theorem zx64_any (n : Nat) (l : List UInt8) (A : Option Addr) (cap : Nat) (w : World) (hn : l.length = n) (hl : n ≤ 100000) (hr : RB w A l) (hcap : n ≤ cap) (hcap2 : cap ≤ 9223372036854775807) :
  Calls Tryz.prog 116 #[.slice A n cap] w fun e w' => e = .returned (.string (b6B l)) ∧ Below w.heap.size w w' := by
 have HC := LH (fun (g : Nat) (W : World) (hE : EMI g 64 W) (hW : Below w.heap.size w W) => encStr_any g n l A cap W hn hl (hr.lat hW) hcap hcap2 hE)
 have HN := LH (fun W => newEnc_any b6L rfl W)
 clear hr hn
 go_enter Tryz.func116, Tryz.ntmps116
 go_wp2_with (first
  | (go_at_call 179; refine (HN.out _).mono ?_; rintro e w1 ⟨g, rfl, _, hE, hb⟩; have HE := LH hE; have HB := LH hb; clear hE hb)
  | (go_at_call 180; refine (HC.out g _ HE.out HB.out).mono ?_; rintro e w2 ⟨rfl, hb2⟩))
 go_ret
 exact ⟨rfl, HB.out.trans (hb2.mono HB.out.size)⟩
end Go.Proofs.YtpfkgpcnhdkkbaaGreatDoor
