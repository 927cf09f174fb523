/- Both packages' sortStringAlphebeticAscending on texts in rising order: the text itself. -/
import Derived.Test.YtpfkgpcnhdkkbaaGreatDoorSp
import Derived.Test.YtpfkgpcnhdkkbaaGreatDoorOb2
import Derived.RegionTactic
import Derived.Deep.QuietTactic
namespace Go.Proofs.YtpfkgpcnhdkkbaaGreatDoor
open Go.RowKit
set_option linter.unusedVariables false
set_option linter.unusedSimpArgs false
set_option maxRecDepth 100000
theorem bel_grow (W : World) (n : Nat) (os : Array Obj) : Below W.heap.size W (Go.Sort.grow (Go.Sort.ahead W n) os) := by
  refine ⟨rfl, rfl, rfl, by simp [Go.Sort.grow, Go.Sort.ahead], fun i hi => ?_⟩
  simp only [Go.Sort.grow, Go.Sort.ahead]
  rw [Array.getElem?_append_left hi]
theorem runes_lay (s : ByteArray) (hs : s.size ≤ 100000) (ha : ∀ b ∈ s.data.toList, b.toNat < 128) (w : World) : ∃ C W1, (convert 9 251 (.string s)).run Tryz.prog w = .ok (.slice (some ⟨w.heap.size, 0, none⟩) s.size C) W1 ∧
    Go.Sort.Holds (Value.int .i32) W1 w.heap.size 0 (intsOf s.data.toList) ∧ Below w.heap.size w W1 ∧ w.heap.size < W1.heap.size ∧ s.size ≤ C := by
  have hr := runes_str s ha
  have hsz : ((intsOf s.data.toList).map (Value.int .i32)).size = s.size := by rw [Array.size_map, intsOf_size, Array.length_toList]; rfl
  have h1 := run_runes_of_string (P := Tryz.prog) w 9 251 21 s Tryz.underlying9 Tryz.underlying251 Tryz.underlying21 (by rw [hr, hsz]; omega)
  rw [hr, hsz] at h1
  refine ⟨_, _, h1, ?_, ((below_dr w 1).trans (below_allocB w.drew _)), by show w.heap.size < (w.drew.heap.push _).size; rw [Array.size_push]; exact Nat.lt_succ_self _, grownCap_ge _ _ _ _⟩
  intro j hj
  have hj' : j < ((intsOf s.data.toList).map (Value.int .i32)).size := by simpa using hj
  have hb := heap_alloc_new w.drew (.cells ((intsOf s.data.toList).map (Value.int .i32) ++ Array.replicate (grownCap w s.size 0 21 - s.size) (.int .i32 0)) 21)
  refine ⟨?_, blk_frozen hb _⟩
  rw [Nat.zero_add]
  refine (blk_cell hb j).trans ?_
  rw [Array.getElem?_append_left hj', Array.getElem?_map, getElem!_pos _ j hj, Array.getElem?_eq_getElem hj]
  rfl
theorem runes_back (s : ByteArray) (ha : ∀ b ∈ s.data.toList, b.toNat < 128) (g C : Nat) (W : World) (hH : Go.Sort.Holds (Value.int .i32) W g 0 (intsOf s.data.toList)) : (convert 251 9 (.slice (some ⟨g, 0, none⟩) s.size C)).run Tryz.prog W = .ok (.string s) W := by
  have hl : s.data.toList.length = s.size := by rw [Array.length_toList]; rfl
  have := run_convert_runes (P := Tryz.prog) W 251 9 21 ⟨g, 0, none⟩ s.size C (s.data.toList.map fun b => (b.toNat : Int)) (by rw [List.length_map, hl]; exact Nat.le_refl _) Tryz.underlying251 Tryz.underlying21 Tryz.underlying9 (fun j hj => ?_)
  · rw [List.take_of_length_le (by rw [List.length_map, hl]; exact Nat.le_refl _), bytes_ascii _ ha] at this
    rw [this]
  · rw [addr0]
    have hj' : j < (intsOf s.data.toList).size := by rw [intsOf_size]; simpa using hj
    have := (hH j hj').1
    rw [Nat.zero_add] at this
    rw [this, getElem!_pos _ j hj']
    have hj2 : j < s.data.size := by simpa using hj
    simp [intsOf, List.getD_eq_getElem?_getD, Array.getElem?_eq_getElem hj2]
theorem srt_reach (p : Option Addr) (n c : Nat) : Reaches Tryz.prog 321 (.slice p n c) "Len" 320 ∧ Reaches Tryz.prog 321 (.slice p n c) "Less" 321 ∧ Reaches Tryz.prog 321 (.slice p n c) "Swap" 322 :=
  ⟨⟨fun _ => by kernel_rfl, enters_of Tryz.func320 (by kernel_rfl) rfl⟩, ⟨fun _ => by kernel_rfl, enters_of Tryz.func321 (by kernel_rfl) rfl⟩, ⟨fun _ => by kernel_rfl, enters_of Tryz.func322 (by kernel_rfl) rfl⟩⟩
theorem srt_len (p : Option Addr) (n c : Nat) (W : World) : LenM Tryz.prog 320 (.slice p n c) n W := by
  unfold LenM
  go_enter Tryz.func320, Tryz.ntmps320
  go_wp2
  go_ret
  exact ⟨rfl, 0, rfl⟩
set_option maxHeartbeats 2000000 in
theorem srt_less (blk off c size : Nat) (W : World) (G : Nat → Int) (hc : ∀ t, t < size → W.cell? ⟨blk, off + t, none⟩ = some (.int .i32 (G t))) (i j : Nat) (hi : i < size) (hj : j < size) (_hsz : size < 4611686018427387904) :
    Calls Tryz.prog 321 #[.slice (some ⟨blk, off, none⟩) size c, .int .i64 i, .int .i64 j] W fun e w' => e = .returned (.bool (decide (G i < G j))) ∧ ∃ q, w' = W.drewN q := by
  have ci := hc i hi
  have cj := hc j hj
  go_enter Tryz.func321, Tryz.ntmps321
  go_wp2
  go_quiet (fail)
  go_wp2
  go_ret
  exact ⟨rfl, nq, rfl⟩
set_option maxHeartbeats 2000000 in
theorem srt_swap (blk off c size : Nat) (W : World) (x y : Int) (i j : Nat) (hi : i < size) (hj : j < size) (_hsz : size < 4611686018427387904)
    (ci : W.cell? ⟨blk, off + i, none⟩ = some (.int .i32 x)) (cj : W.cell? ⟨blk, off + j, none⟩ = some (.int .i32 y)) (fi : W.frozen? ⟨blk, off + i, none⟩ = false) (fj : W.frozen? ⟨blk, off + j, none⟩ = false) :
    Calls Tryz.prog 322 #[.slice (some ⟨blk, off, none⟩) size c, .int .i64 i, .int .i64 j] W fun e w' => e = .returned (.tuple #[]) ∧ ∃ q, w' = ((W.setCell ⟨blk, off + i, none⟩ (.int .i32 y)).setCell ⟨blk, off + j, none⟩ (.int .i32 x)).drewN q := by
  obtain ⟨v', hy'⟩ := cell?_setCell_some (w := W) (p := ⟨blk, off + i, none⟩) (x := .int .i32 y) (q := ⟨blk, off + j, none⟩) cj
  go_enter Tryz.func322, Tryz.ntmps322
  go_wp2
  go_region
  all_goals (try go_wp2)
  all_goals go_end0
  all_goals exact ⟨rfl, 1, rfl⟩
theorem srt_sort (l : List UInt8) (hr : Rising l) (hl : l.length ≤ 100000) (g C : Nat) (W : World) (hH : Go.Sort.Holds (Value.int .i32) W g 0 (intsOf l)) (hg : g < W.heap.size) :
    Calls Tryz.prog 187 #[.iface 321 (.slice (some ⟨g, 0, none⟩) l.length C)] W fun e w' => e = .returned (.tuple #[]) ∧ Below W.heap.size W w' := by
  have hsz := intsOf_size l
  obtain ⟨r1, r2, r3⟩ := srt_reach (some ⟨g, 0, none⟩) l.length C
  by_cases h2 : 2 ≤ l.length
  · have h := Tryz.sort_Sort_sorted 321 (.slice (some ⟨g, 0, none⟩) l.length C) 320 321 322 r1 r2 r3 (Value.int .i32) Go.Sort.ltInt Go.Sort.swo_ltInt g 0 (intsOf l) (by rw [hsz]; exact h2) (by rw [hsz]; omega) W (by rw [hsz]; exact srt_len _ _ _ _)
      (by rw [hsz]; exact fun m os dk hs i j hi hj => srt_less g 0 C l.length _ (fun t => dk[t]!) (fun t ht => ((holds_sortWorld (Value.int .i32) W g 0 m (intsOf l) dk os hg hH (by rw [hsz]; exact hs)) t (by omega)).1) i j hi hj (by omega))
      (by rw [hsz]; exact fun W' dk hH' hs i j hi hj => srt_swap g 0 C l.length W' dk[i]! dk[j]! i j hi hj (by omega) (hH' i (by omega)).1 (hH' j (by omega)).1 (hH' i (by omega)).2 (hH' j (by omega)).2) hH hg
    refine h.mono ?_
    rintro e w' ⟨he, d', n, os, hp, hs, hw⟩
    rw [hsz] at hp hs
    have hd := sorted_same l hr d' hp hs
    subst hd
    have hH2 : Go.Sort.Holds (Value.int .i32) (Go.Sort.ahead W n) g 0 (intsOf l) := Go.Sort.holds_ahead _ _ _ _ _ _ hH
    rw [Go.Sort.putRow_self _ _ _ _ _ hH2] at hw
    subst hw
    exact ⟨he, bel_grow W n os⟩
  · refine (Tryz.sort_Sort_tiny (α := Int) 321 (.slice (some ⟨g, 0, none⟩) l.length C) 320 r1 l.length (by omega) W (srt_len _ _ _ _)).mono ?_
    rintro e w' ⟨he, q, rfl⟩
    exact ⟨he, below_dr W q⟩
set_option maxHeartbeats 1000000 in
theorem srt_any (s : ByteArray) (hs : s.size ≤ 100000) (hr : Rising s.data.toList) (w : World) :
    Calls Tryz.prog 221 #[.string s] w fun e w' => e = .returned (.string s) ∧ Below w.heap.size w w' := by
  obtain ⟨C, W1, hrun, hH, hb, hlt, hC⟩ := runes_lay s hs hr.1 w
  have hl : s.data.toList.length = s.size := by rw [Array.length_toList]; rfl
  have hsort := srt_sort s.data.toList hr (by omega) w.heap.size C W1 hH hlt
  rw [hl] at hsort
  have HS := Lib.hid hsort
  have HB := Lib.hid hb
  have hback := Lib.hid (fun (W : World) (hW : Below W1.heap.size W1 W) => runes_back s hr.1 w.heap.size C W (fun j hj => ⟨(hW.cell (p := ⟨w.heap.size, 0 + j, none⟩) hlt).trans (hH j hj).1, (hW.frozen (p := ⟨w.heap.size, 0 + j, none⟩) hlt).trans (hH j hj).2⟩))
  clear hsort hb hH hr
  go_enter Tryz.func221, Tryz.ntmps221
  go_wp2_with (go_at_call 187; refine HS.out.mono ?_; rintro e w2 ⟨rfl, hb2⟩; have hcv := hback.out w2 hb2)
  go_ret
  exact ⟨rfl, HB.out.trans (hb2.mono (Nat.le_of_lt hlt))⟩
theorem srx_reach (p : Option Addr) (n c : Nat) : Reaches Tryz.prog 252 (.slice p n c) "Len" 314 ∧ Reaches Tryz.prog 252 (.slice p n c) "Less" 315 ∧ Reaches Tryz.prog 252 (.slice p n c) "Swap" 316 :=
  ⟨⟨fun _ => by kernel_rfl, enters_of Tryz.func314 (by kernel_rfl) rfl⟩, ⟨fun _ => by kernel_rfl, enters_of Tryz.func315 (by kernel_rfl) rfl⟩, ⟨fun _ => by kernel_rfl, enters_of Tryz.func316 (by kernel_rfl) rfl⟩⟩
theorem srx_len (p : Option Addr) (n c : Nat) (W : World) : LenM Tryz.prog 314 (.slice p n c) n W := by
  unfold LenM
  go_enter Tryz.func314, Tryz.ntmps314
  go_wp2
  go_ret
  exact ⟨rfl, 0, rfl⟩
set_option maxHeartbeats 2000000 in
theorem srx_less (blk off c size : Nat) (W : World) (G : Nat → Int) (hc : ∀ t, t < size → W.cell? ⟨blk, off + t, none⟩ = some (.int .i32 (G t))) (i j : Nat) (hi : i < size) (hj : j < size) (_hsz : size < 4611686018427387904) :
    Calls Tryz.prog 315 #[.slice (some ⟨blk, off, none⟩) size c, .int .i64 i, .int .i64 j] W fun e w' => e = .returned (.bool (decide (G i < G j))) ∧ ∃ q, w' = W.drewN q := by
  have ci := hc i hi
  have cj := hc j hj
  go_enter Tryz.func315, Tryz.ntmps315
  go_wp2
  go_quiet (fail)
  go_wp2
  go_ret
  exact ⟨rfl, nq, rfl⟩
set_option maxHeartbeats 2000000 in
theorem srx_swap (blk off c size : Nat) (W : World) (x y : Int) (i j : Nat) (hi : i < size) (hj : j < size) (_hsz : size < 4611686018427387904)
    (ci : W.cell? ⟨blk, off + i, none⟩ = some (.int .i32 x)) (cj : W.cell? ⟨blk, off + j, none⟩ = some (.int .i32 y)) (fi : W.frozen? ⟨blk, off + i, none⟩ = false) (fj : W.frozen? ⟨blk, off + j, none⟩ = false) :
    Calls Tryz.prog 316 #[.slice (some ⟨blk, off, none⟩) size c, .int .i64 i, .int .i64 j] W fun e w' => e = .returned (.tuple #[]) ∧ ∃ q, w' = ((W.setCell ⟨blk, off + i, none⟩ (.int .i32 y)).setCell ⟨blk, off + j, none⟩ (.int .i32 x)).drewN q := by
  obtain ⟨v', hy'⟩ := cell?_setCell_some (w := W) (p := ⟨blk, off + i, none⟩) (x := .int .i32 y) (q := ⟨blk, off + j, none⟩) cj
  go_enter Tryz.func316, Tryz.ntmps316
  go_wp2
  go_region
  all_goals (try go_wp2)
  all_goals go_end0
  all_goals exact ⟨rfl, 1, rfl⟩
theorem srx_sort (l : List UInt8) (hr : Rising l) (hl : l.length ≤ 100000) (g C : Nat) (W : World) (hH : Go.Sort.Holds (Value.int .i32) W g 0 (intsOf l)) (hg : g < W.heap.size) :
    Calls Tryz.prog 187 #[.iface 252 (.slice (some ⟨g, 0, none⟩) l.length C)] W fun e w' => e = .returned (.tuple #[]) ∧ Below W.heap.size W w' := by
  have hsz := intsOf_size l
  obtain ⟨r1, r2, r3⟩ := srx_reach (some ⟨g, 0, none⟩) l.length C
  by_cases h2 : 2 ≤ l.length
  · have h := Tryz.sort_Sort_sorted 252 (.slice (some ⟨g, 0, none⟩) l.length C) 314 315 316 r1 r2 r3 (Value.int .i32) Go.Sort.ltInt Go.Sort.swo_ltInt g 0 (intsOf l) (by rw [hsz]; exact h2) (by rw [hsz]; omega) W (by rw [hsz]; exact srx_len _ _ _ _)
      (by rw [hsz]; exact fun m os dk hs i j hi hj => srx_less g 0 C l.length _ (fun t => dk[t]!) (fun t ht => ((holds_sortWorld (Value.int .i32) W g 0 m (intsOf l) dk os hg hH (by rw [hsz]; exact hs)) t (by omega)).1) i j hi hj (by omega))
      (by rw [hsz]; exact fun W' dk hH' hs i j hi hj => srx_swap g 0 C l.length W' dk[i]! dk[j]! i j hi hj (by omega) (hH' i (by omega)).1 (hH' j (by omega)).1 (hH' i (by omega)).2 (hH' j (by omega)).2) hH hg
    refine h.mono ?_
    rintro e w' ⟨he, d', n, os, hp, hs, hw⟩
    rw [hsz] at hp hs
    have hd := sorted_same l hr d' hp hs
    subst hd
    have hH2 : Go.Sort.Holds (Value.int .i32) (Go.Sort.ahead W n) g 0 (intsOf l) := Go.Sort.holds_ahead _ _ _ _ _ _ hH
    rw [Go.Sort.putRow_self _ _ _ _ _ hH2] at hw
    subst hw
    exact ⟨he, bel_grow W n os⟩
  · refine (Tryz.sort_Sort_tiny (α := Int) 252 (.slice (some ⟨g, 0, none⟩) l.length C) 314 r1 l.length (by omega) W (srx_len _ _ _ _)).mono ?_
    rintro e w' ⟨he, q, rfl⟩
    exact ⟨he, below_dr W q⟩
set_option maxHeartbeats 1000000 in
theorem srx_any (s : ByteArray) (hs : s.size ≤ 100000) (hr : Rising s.data.toList) (w : World) :
    Calls Tryz.prog 124 #[.string s] w fun e w' => e = .returned (.string s) ∧ Below w.heap.size w w' := by
  obtain ⟨C, W1, hrun, hH, hb, hlt, hC⟩ := runes_lay s hs hr.1 w
  have hl : s.data.toList.length = s.size := by rw [Array.length_toList]; rfl
  have hsort := srx_sort s.data.toList hr (by omega) w.heap.size C W1 hH hlt
  rw [hl] at hsort
  have HS := Lib.hid hsort
  have HB := Lib.hid hb
  have hback := Lib.hid (fun (W : World) (hW : Below W1.heap.size W1 W) => runes_back s hr.1 w.heap.size C W (fun j hj => ⟨(hW.cell (p := ⟨w.heap.size, 0 + j, none⟩) hlt).trans (hH j hj).1, (hW.frozen (p := ⟨w.heap.size, 0 + j, none⟩) hlt).trans (hH j hj).2⟩))
  clear hsort hb hH hr
  go_enter Tryz.func124, Tryz.ntmps124
  go_wp2_with (go_at_call 187; refine HS.out.mono ?_; rintro e w2 ⟨rfl, hb2⟩; have hcv := hback.out w2 hb2)
  go_ret
  exact ⟨rfl, HB.out.trans (hb2.mono (Nat.le_of_lt hlt))⟩
end Go.Proofs.YtpfkgpcnhdkkbaaGreatDoor
