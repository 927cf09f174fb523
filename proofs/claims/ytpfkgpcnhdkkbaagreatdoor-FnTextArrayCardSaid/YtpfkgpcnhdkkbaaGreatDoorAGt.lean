/- Both packages' sortStringAlphebeticAscending on texts in rising order: the text itself. -/
import Derived.Test.YtpfkgpcnhdkkbaaGreatDoorAGl
import Derived.RegionTactic
import Derived.Deep.QuietTactic
import Derived.Test.YtpfkgpcnhdkkbaaGreatDoorAGi
import Derived.Test.YtpfkgpcnhdkkbaaGreatDoorAGs
namespace Go.Proofs.YtpfkgpcnhdkkbaaGreatDoor
set_option maxHeartbeats 8000000
open Go.RowKit
set_option linter.unusedVariables false
set_option linter.unusedSimpArgs false
set_option maxRecDepth 100000
theorem bel_grow (W : World) (n : Nat) (os : Array Obj) : Below W.heap.size W (Go.Sort.grow (Go.Sort.ahead W n) os) := by
 refine ⟨rfl, rfl, rfl, by simp [Go.Sort.grow, Go.Sort.ahead], fun i hi => ?_⟩
 simp only [Go.Sort.grow, Go.Sort.ahead]
 rw [Array.getElem?_append_left hi]
theorem runes_lay (s : ByteArray) (hs : s.size ≤ 100000) (ha : ∀ b ∈ s.data.toList, b.toNat < 128) (w : World) : ∃ C W1, (convert 9 251 (.string s)).run Tryz.prog w = .ok (.slice (some ⟨w.heap.size, 0, none⟩) s.size C) W1 ∧
  Go.Sort.Holds (Value.int .i32) W1 w.heap.size 0 (intsOf s.data.toList) ∧ Below w.heap.size w W1 ∧ w.heap.size < W1.heap.size ∧ s.size ≤ C := by
 have hr := runes_str s ha
 have hsz : ((intsOf s.data.toList).map (Value.int .i32)).size = s.size := by rw [Array.size_map, intsOf_size, Array.length_toList]; rfl
 have h1 := run_runes_of_string (P := Tryz.prog) w 9 251 21 s Tryz.underlying9 Tryz.underlying251 Tryz.underlying21 (by rw [hr, hsz]; omega)
 rw [hr, hsz] at h1
 refine ⟨_, _, h1, ?_, ((below_dr w 1).trans (below_allocB w.drew _)), by show w.heap.size < (w.drew.heap.push _).size; rw [Array.size_push]; exact Nat.lt_succ_self _, grownCap_ge _ _ _ _⟩
 intro j hj
 have hj' : j < ((intsOf s.data.toList).map (Value.int .i32)).size := by simpa using hj
 have hb := heap_alloc_new w.drew (.cells ((intsOf s.data.toList).map (Value.int .i32) ++ Array.replicate (grownCap w s.size 0 21 - s.size) (.int .i32 0)) 21)
 refine ⟨?_, blk_frozen hb _⟩
 rw [Nat.zero_add]
 refine (blk_cell hb j).trans ?_
 rw [Array.getElem?_append_left hj', Array.getElem?_map, getElem!_pos _ j hj, Array.getElem?_eq_getElem hj]
 rfl
theorem runes_back (s : ByteArray) (ha : ∀ b ∈ s.data.toList, b.toNat < 128) (g C : Nat) (W : World) (hH : Go.Sort.Holds (Value.int .i32) W g 0 (intsOf s.data.toList)) : (convert 251 9 (.slice (some ⟨g, 0, none⟩) s.size C)).run Tryz.prog W = .ok (.string s) W := by
 have hl : s.data.toList.length = s.size := by rw [Array.length_toList]; rfl
 have := run_convert_runes (P := Tryz.prog) W 251 9 21 ⟨g, 0, none⟩ s.size C (s.data.toList.map fun b => (b.toNat : Int)) (by rw [List.length_map, hl]; exact Nat.le_refl _) Tryz.underlying251 Tryz.underlying21 Tryz.underlying9 (fun j hj => ?_)
 ·rw [List.take_of_length_le (by rw [List.length_map, hl]; exact Nat.le_refl _), bytes_ascii _ ha] at this
  rw [this]
 ·rw [addr0]
  have hj' : j < (intsOf s.data.toList).size := by rw [intsOf_size]; simpa using hj
  have := (hH j hj').1
  rw [Nat.zero_add] at this
  rw [this, getElem!_pos _ j hj']
  have hj2 : j < s.data.size := by simpa using hj
  simp [intsOf, List.getD_eq_getElem?_getD, Array.getElem?_eq_getElem hj2]
theorem srx_reach (p : Option Addr) (n c : Nat) : Reaches Tryz.prog 252 (.slice p n c) "Len" 314 ∧ Reaches Tryz.prog 252 (.slice p n c) "Less" 315 ∧ Reaches Tryz.prog 252 (.slice p n c) "Swap" 316 :=
 ⟨⟨fun _ => by kernel_rfl, enters_of Tryz.func314 (by kernel_rfl) rfl⟩, ⟨fun _ => by kernel_rfl, enters_of Tryz.func315 (by kernel_rfl) rfl⟩, ⟨fun _ => by kernel_rfl, enters_of Tryz.func316 (by kernel_rfl) rfl⟩⟩
theorem srx_len (p : Option Addr) (n c : Nat) (W : World) : LenM Tryz.prog 314 (.slice p n c) n W := by
 unfold LenM
 go_enter Tryz.func314, Tryz.ntmps314
 go_wp2
 go_ret
 exact ⟨rfl, 0, rfl⟩
theorem srx_less (blk off c size : Nat) (W : World) (G : Nat → Int) (hc : ∀ t, t < size → W.cell? ⟨blk, off + t, none⟩ = some (.int .i32 (G t))) (i j : Nat) (hi : i < size) (hj : j < size) (_hsz : size < 4611686018427387904) :
  Calls Tryz.prog 315 #[.slice (some ⟨blk, off, none⟩) size c, .int .i64 i, .int .i64 j] W fun e w' => e = .returned (.bool (decide (G i < G j))) ∧ ∃ q, w' = W.drewN q := by
 have ci := hc i hi
 have cj := hc j hj
 go_enter Tryz.func315, Tryz.ntmps315
 go_wp2
 go_quiet (fail)
 go_wp2
 go_ret
 exact ⟨rfl, nq, rfl⟩
theorem srx_swap (blk off c size : Nat) (W : World) (x y : Int) (i j : Nat) (hi : i < size) (hj : j < size) (_hsz : size < 4611686018427387904)
  (ci : W.cell? ⟨blk, off + i, none⟩ = some (.int .i32 x)) (cj : W.cell? ⟨blk, off + j, none⟩ = some (.int .i32 y)) (fi : W.frozen? ⟨blk, off + i, none⟩ = false) (fj : W.frozen? ⟨blk, off + j, none⟩ = false) :
  Calls Tryz.prog 316 #[.slice (some ⟨blk, off, none⟩) size c, .int .i64 i, .int .i64 j] W fun e w' => e = .returned (.tuple #[]) ∧ ∃ q, w' = ((W.setCell ⟨blk, off + i, none⟩ (.int .i32 y)).setCell ⟨blk, off + j, none⟩ (.int .i32 x)).drewN q := by
 obtain ⟨v', hy'⟩ := cell?_setCell_some (w := W) (p := ⟨blk, off + i, none⟩) (x := .int .i32 y) (q := ⟨blk, off + j, none⟩) cj
 go_enter Tryz.func316, Tryz.ntmps316
 go_wp2
 go_region
 all_goals (try go_wp2)
 all_goals go_end0
 all_goals exact ⟨rfl, 1, rfl⟩
theorem srx_sort (l : List UInt8) (hr : Rising l) (hl : l.length ≤ 100000) (g C : Nat) (W : World) (hH : Go.Sort.Holds (Value.int .i32) W g 0 (intsOf l)) (hg : g < W.heap.size) :
  Calls Tryz.prog 187 #[.iface 252 (.slice (some ⟨g, 0, none⟩) l.length C)] W fun e w' => e = .returned (.tuple #[]) ∧ Below W.heap.size W w' := by
 have hsz := intsOf_size l
 obtain ⟨r1, r2, r3⟩ := srx_reach (some ⟨g, 0, none⟩) l.length C
 by_cases h2 : 2 ≤ l.length
 ·have h := Tryz.sort_Sort_sorted 252 (.slice (some ⟨g, 0, none⟩) l.length C) 314 315 316 r1 r2 r3 (Value.int .i32) Go.Sort.ltInt Go.Sort.swo_ltInt g 0 (intsOf l) (by rw [hsz]; exact h2) (by rw [hsz]; omega) W (by rw [hsz]; exact srx_len _ _ _ _)
   (by rw [hsz]; exact fun m os dk hs i j hi hj => srx_less g 0 C l.length _ (fun t => dk[t]!) (fun t ht => ((holds_sortWorld (Value.int .i32) W g 0 m (intsOf l) dk os hg hH (by rw [hsz]; exact hs)) t (by omega)).1) i j hi hj (by omega))
   (by rw [hsz]; exact fun W' dk hH' hs i j hi hj => srx_swap g 0 C l.length W' dk[i]! dk[j]! i j hi hj (by omega) (hH' i (by omega)).1 (hH' j (by omega)).1 (hH' i (by omega)).2 (hH' j (by omega)).2) hH hg
  refine h.mono ?_
  rintro e w' ⟨he, d', n, os, hp, hs, hw⟩
  rw [hsz] at hp hs
  have hd := sorted_same l hr d' hp hs
  subst hd
  have hH2 : Go.Sort.Holds (Value.int .i32) (Go.Sort.ahead W n) g 0 (intsOf l) := Go.Sort.holds_ahead _ _ _ _ _ _ hH
  rw [Go.Sort.putRow_self _ _ _ _ _ hH2] at hw
  subst hw
  exact ⟨he, bel_grow W n os⟩
 ·refine (Tryz.sort_Sort_tiny (α := Int) 252 (.slice (some ⟨g, 0, none⟩) l.length C) 314 r1 l.length (by omega) W (srx_len _ _ _ _)).mono ?_
  rintro e w' ⟨he, q, rfl⟩
  exact ⟨he, below_dr W q⟩
theorem srx_any (s : ByteArray) (hs : s.size ≤ 100000) (hr : Rising s.data.toList) (w : World) :
  Calls Tryz.prog 124 #[.string s] w fun e w' => e = .returned (.string s) ∧ Below w.heap.size w w' := by
 obtain ⟨C, W1, hrun, hH, hb, hlt, hC⟩ := runes_lay s hs hr.low w
 have hl : s.data.toList.length = s.size := by rw [Array.length_toList]; rfl
 have hsort := srx_sort s.data.toList hr (by omega) w.heap.size C W1 hH hlt
 rw [hl] at hsort
 have HS := LH hsort
 have HB := LH hb
 have hback := LH (fun (W : World) (hW : Below W1.heap.size W1 W) => runes_back s hr.low w.heap.size C W (fun j hj => ⟨(hW.cell (p := ⟨w.heap.size, 0 + j, none⟩) hlt).trans (hH j hj).1, (hW.frozen (p := ⟨w.heap.size, 0 + j, none⟩) hlt).trans (hH j hj).2⟩))
 clear hsort hb hH hr
 go_enter Tryz.func124, Tryz.ntmps124
 go_wp2_with (go_at_call 187; refine HS.out.mono ?_; rintro e w2 ⟨rfl, hb2⟩; have hcv := hback.out w2 hb2)
 go_ret
 exact ⟨rfl, HB.out.trans (hb2.mono (Nat.le_of_lt hlt))⟩
set_option maxHeartbeats 8000000
def valV (kind : Int) (text more : ByteArray) (n : Int) (bits high : Nat) (bv kv : Value) : Value := .agg #[.int .i64 kind, .string text, .string more, .int .i64 n, .int .u64 (bits : Int), .int .u64 (high : Int), bv, kv]
def knownB (k : Int) : Bool := decide ((1 ≤ k ∧ k ≤ 19) ∨ k = 127 ∨ k = 255)
theorem known_ex (k : Int) (w : World) : Calls Tryz.prog 84 #[.int .i64 k] w fun e w' => e = .returned (.bool (knownB k)) ∧ w = w' := by
 obtain ⟨v, hv⟩ : ∃ v, knownB k = v := ⟨_, rfl⟩
 rw [hv]
 go_enter Tryz.func84, Tryz.ntmps84
 by_cases h1 : 1 ≤ k <;> by_cases h2 : k ≤ 19 <;> by_cases h3 : k = 255 <;> by_cases h4 : k = 127 <;> (first | (exfalso; omega) | (go_wp2_with fail; go_ret; refine ⟨?_, rfl⟩; refine congrArg (fun b => Ending.returned (Value.bool b)) ?_; rw [← hv]; unfold knownB; symm; first | (rw [decide_eq_true_eq]; omega) | (rw [decide_eq_false_iff_not]; omega) | (rw [Bool.eq_iff_iff]; simp; omega)))
def plainB (s : ByteArray) : Bool := s.data.toList.all (fun b => b != 0)
theorem plain_ex (s : ByteArray) (hs : s.size ≤ 9223372036854775000) (w : World) : Calls Tryz.prog 86 #[.string s] w fun e w' => e = .returned (.bool (plainB s)) ∧ w = w' := by
  go_enter Tryz.func86, Tryz.ntmps86
  go_wp2_with fail
  go_loopw [3] (fun i wr => ∃ k : Nat, k ≤ s.size ∧ i = .int .i64 k ∧ Hid (w = wr) ∧ Hid (∀ j b, j < k → s.data.toList[j]? = some b → b ≠ 0)) (fun i _ => s.size - (intOf i).toNat)
  case atStart => exact ⟨0, Nat.zero_le _, rfl, rfl, fun j b hj => absurd hj (Nat.not_lt_zero _)⟩
  case round =>
    obtain ⟨k, hk, rfl, HW, HP⟩ := hrel
    by_cases hlt : k < s.size
    · have hll : k < s.data.toList.length := by rw [Array.length_toList]; exact hlt
      have hx : ∀ h : k < s.size, ((s[k]'h).toNat : Int) = (byA s k : Int) := fun h => byA_at s k h
      have hb : s.data.toList[k]? = some (s.data.toList[k]'hll) := List.getElem?_eq_getElem hll
      have hbA : byA s k = (s.data.toList[k]'hll).toNat := by unfold byA; rw [List.getD_eq_getElem?_getD, hb]; rfl
      have HB := LH hb
      have HBA := LH hbA
      generalize byA s k = z at hx HBA
      clear hb hbA
      by_cases hz : z = 0
      · have hz1 : ((z : Int) == 0) = true := by simp [hz]
        have HZ := LH hz
        clear hz
        go_wp2_with fail
        go_ret
        refine ⟨?_, HW.out⟩
        refine congrArg (fun b => Ending.returned (Value.bool b)) ?_
        symm
        unfold plainB
        rw [List.all_eq_false]
        refine ⟨_, List.mem_of_getElem? HB.out, ?_⟩
        have h1 := HBA.out
        rw [HZ.out] at h1
        have h2 : (s.data.toList[k]'hll) = 0 := UInt8.toNat_inj.1 h1.symm
        simp [h2]
      · have hz1 : ((z : Int) == 0) = false := by simp; omega
        have HZ := LH hz
        clear hz
        go_wp2_with fail
        go_roundw
        case rel =>
          refine ⟨k + 1, by omega, by go_num, HW, fun j b hj hg => ?_⟩
          by_cases e : j = k
          · subst e
            rw [HB.out] at hg
            injection hg with hg
            intro h0
            subst hg
            have h1 := HBA.out
            rw [h0] at h1
            exact HZ.out h1
          · exact HP.out j b (by omega) hg
        case measure => simp [intOf]; omega
    · go_wp2_with fail
      go_ret
      refine ⟨?_, HW.out⟩
      refine congrArg (fun b => Ending.returned (Value.bool b)) ?_
      symm
      unfold plainB
      rw [List.all_eq_true]
      intro b hb
      obtain ⟨j, hj, rfl⟩ := List.getElem_of_mem hb
      have hj2 : j < k := by rw [Array.length_toList] at hj; have : s.size ≤ k := by omega
                             exact Nat.lt_of_lt_of_le hj this
      have := HP.out j _ hj2 (List.getElem?_eq_getElem hj)
      simpa using this
def kTx (k : Int) : Bool := k == 2 || k == 13 || k == 14 || k == 11 || k == 12 || k == 15
def kMr (k : Int) : Bool := k == 11
def kN (k : Int) : Bool := k == 5 || k == 8 || k == 9 || k == 16 || k == 18
def kBits (k : Int) : Bool := k == 1 || k == 17 || k == 19
def kHigh (k : Int) : Bool := k == 19
def kB (k : Int) : Bool := k == 5 || k == 7 || k == 12
def kKids (k : Int) : Bool := k == 3 || k == 4 || k == 15
def bareOk (k : Int) (text more : ByteArray) (n : Int) (bits high : Nat) (m m2 : Nat) : Prop :=
 (kTx k = false → text.size = 0) ∧ (kMr k = false → more.size = 0) ∧ (kN k = false → n = 0) ∧ (kBits k = false → bits = 0) ∧ (kHigh k = false → high = 0) ∧ (kB k = false → m = 0) ∧ (kKids k = false → m2 = 0)
theorem bare_ex (k : Int) (hk : knownB k = true) (text more : ByteArray) (n : Int) (bits high : Nat) (A B : Option Addr) (m c m2 c2 : Nat) :
  ∃ (tx mr : ByteArray) (n' b' h' : Int) (A' B' : Option Addr) (m' c' m2' c2' : Nat),
   (∀ w, Calls Tryz.prog 85 #[valV k text more n bits high (.slice A m c) (.slice B m2 c2)] w fun e w' => e = .returned (.agg #[.int .i64 k, .string tx, .string mr, .int .i64 n', .int .u64 b', .int .u64 h', .slice A' m' c', .slice B' m2' c2']) ∧ Below w.heap.size w w') ∧
   (bareOk k text more n bits high m m2 ↔ tx.size = 0 ∧ mr.size = 0 ∧ n' = 0 ∧ b' = 0 ∧ h' = 0 ∧ m' = 0 ∧ m2' = 0) ∧ (m' = m ∨ m' = 0) ∧ (m2' = m2 ∨ m2' = 0) := by
 have hk2 : (1 ≤ k ∧ k ≤ 19) ∨ k = 127 ∨ k = 255 := by unfold knownB at hk; simpa using hk
 have hcase : k = 1 ∨ k = 2 ∨ k = 3 ∨ k = 4 ∨ k = 5 ∨ k = 6 ∨ k = 7 ∨ k = 8 ∨ k = 9 ∨ k = 10 ∨ k = 11 ∨ k = 12 ∨ k = 13 ∨ k = 14 ∨ k = 15 ∨ k = 16 ∨ k = 17 ∨ k = 18 ∨ k = 19 ∨ k = 127 ∨ k = 255 := by omega
 clear hk hk2
 refine ⟨if kTx k then ⟨#[]⟩ else text, if kMr k then ⟨#[]⟩ else more, if kN k then 0 else n, if kBits k then 0 else (bits : Int), if kHigh k then 0 else (high : Int), if kB k then none else A, if kKids k then none else B, if kB k then 0 else m, if kB k then 0 else c, if kKids k then 0 else m2, if kKids k then 0 else c2, ?_, ?_, ?_, ?_⟩
 ·unfold valV
  rcases hcase with rfl | rfl | rfl | rfl | rfl | rfl | rfl | rfl | rfl | rfl | rfl | rfl | rfl | rfl | rfl | rfl | rfl | rfl | rfl | rfl | rfl
  all_goals
   intro w
   go_enter Tryz.func85, Tryz.ntmps85
   go_wp2_with fail
   exact bodyPost_ret (by simp [results, Tryz.results85, go_sem]) rfl ⟨rfl, (below_allocB w _).trans ((below_allocB _ _).mono (by simp))⟩
 ·unfold bareOk
  have e0 : (⟨#[]⟩ : ByteArray).size = 0 := rfl
  constructor
  ·rintro ⟨a1, a2, a3, a4, a5, a6, a7⟩
   refine ⟨?_, ?_, ?_, ?_, ?_, ?_, ?_⟩ <;> split <;> simp_all
  ·rintro ⟨a1, a2, a3, a4, a5, a6, a7⟩
   refine ⟨?_, ?_, ?_, ?_, ?_, ?_, ?_⟩ <;> intro h <;> simp_all
 ·split <;> simp
 ·split <;> simp
end Go.Proofs.YtpfkgpcnhdkkbaaGreatDoor
