/- spec.decNumber and spec.DocDigits: numbers in decimal. -/
import Derived.Test.YtpfkgpcnhdkkbaaGreatDoorOb2
import Derived.Test.YtpfkgpcnhdkkbaaGreatDoorDecP
import Derived.Lib.ItoaLen
import Derived.RegionTactic
namespace Go.Proofs.YtpfkgpcnhdkkbaaGreatDoor
open Go.RowKit
set_option linter.unusedVariables false
set_option linter.unusedSimpArgs false
set_option maxRecDepth 100000
theorem conv_one (W : World) (g : Nat) (c : UInt8) (h : W.cell? ⟨g, 0, none⟩ = some (.int .u8 (c.toNat : Int))) : (convert 23 9 (.slice (some ⟨g, 0, none⟩) 1 1)).run Tryz.prog W = .ok (.string ⟨#[c]⟩) W := by
  refine Lib.run_convert_whole (P := Tryz.prog) _ 23 5 9 Tryz.underlying23 Tryz.underlying5 Tryz.underlying9 g 0 ⟨#[c]⟩ ?_ 1
  intro i hi
  have hi' : i < 1 := hi
  obtain rfl : i = 0 := by omega
  exact h
theorem dig_cat (u : Nat) (l : List UInt8) (h : Lib.decDigits (u / 10) = l) (c : UInt8) : ((⟨l.toArray⟩ : ByteArray) ++ ⟨#[c]⟩) = ⟨(l ++ [c]).toArray⟩ := by
  apply ByteArray.ext
  simp
set_option maxHeartbeats 2000000 in
theorem decNum_small (u : Nat) (h : u < 10) (w : World) : Calls Tryz.prog 63 #[.int .i64 (u : Int)] w fun e w' => e = .returned (.string ⟨(Lib.decDigits u).toArray⟩) ∧ Below w.heap.size w w' := by
  obtain ⟨c, hc⟩ : ∃ c, UInt8.ofNat (48 + u) = c := ⟨_, rfl⟩
  have hcz : (c.toNat : Int) = 48 + u := by rw [← hc, UInt8.toNat_ofNat']; omega
  have h1 : (48 + (u : Int)) % 256 = 48 + u := by omega
  have hconv := fun W g => conv_one W g c
  rw [hcz] at hconv
  rw [Lib.decDigits_one h, hc]
  clear hcz hc
  go_enter Tryz.func63, Tryz.ntmps63
  go_wp2_with fail
  go_ret
  exact ⟨rfl, below_allocB w _⟩
set_option maxHeartbeats 2000000 in
theorem decNum_big (u : Nat) (h : 10 ≤ u) (hb : u < 1000000000000000000) (d q : Nat) (hd : u % 10 = d) (hq : u / 10 = q) (c : UInt8) (hcz : (c.toNat : Int) = 48 + d) (hd10 : d < 10) (tx : ByteArray) (w : World) (ih : ∀ W : World, Calls Tryz.prog 63 #[.int .i64 (q : Int)] W fun e w' => e = .returned (.string tx) ∧ Below W.heap.size W w')
    (hlen : tx.size ≤ 100) : Calls Tryz.prog 63 #[.int .i64 (u : Int)] w fun e w' => e = .returned (.string (tx ++ ⟨#[c]⟩)) ∧ Below w.heap.size w w' := by
  have h1 : (48 + (d : Int)) % 256 = 48 + d := by omega
  have hm : (u : Int) % 10 = (d : Int) := by omega
  have hqz : (u : Int) / 10 = (q : Int) := by omega
  have hw1 : IntKind.i64.wrap (48 + (d : Int)) = 48 + d := by rw [IntKind.wrap_i64]; omega
  have hwt : (u : Int).tmod 10 = (d : Int) := (show (u : Int).tmod 10 = ((u % 10 : Nat) : Int) from rfl).trans (by omega)
  have hw3 : IntKind.u8.wrap (48 + (d : Int)) = 48 + d := by rw [IntKind.wrap_u8]; omega
  have hts : tx.size ≤ 9223372036854775806 := by omega
  have hw2 : IntKind.i64.wrap (q : Int) = q := by rw [IntKind.wrap_i64]; omega
  have hconv := fun W g => conv_one W g c
  rw [hcz] at hconv
  have HI := Lib.hid ih
  clear hcz hd hq ih
  go_enter Tryz.func63, Tryz.ntmps63
  go_wp2_with fail
  refine wp_region_any (by kernel_rfl) ?_
  try (change wpAny _ _ _ _ _ _ _ (World.drew _))
  refine wpAny_take (i := 0) (v := .int .i64 (u : Int)) rfl (by kernel_rfl) (by kernel_rfl) (by kernel_rfl) (fun _ _ _ h => h) (Or.inl ⟨by rfl, fun w => ?_⟩) ?_
  · go_simp
  refine wpAny_take (i := 1) (v := .int .i64 (q : Int)) rfl (by kernel_rfl) (by kernel_rfl) (by kernel_rfl) (fun _ _ _ h => h) (Or.inl ⟨by rfl, fun w => ?_⟩) ?_
  · go_simp
  refine wpAny_take (i := 3) (v := .int .i64 (u : Int)) rfl (by kernel_rfl) (by kernel_rfl) (by kernel_rfl) (fun _ _ _ h => h) (Or.inl ⟨by rfl, fun w => ?_⟩) ?_
  · go_simp
  refine wpAny_take (i := 4) (v := .int .i64 (d : Int)) rfl (by kernel_rfl) (by kernel_rfl) (by kernel_rfl) (fun _ _ _ h => h) (Or.inl ⟨by rfl, fun w => ?_⟩) ?_
  · go_simp
  refine wpAny_take (i := 5) (v := .int .i64 (48 + d : Int)) rfl (by kernel_rfl) (by kernel_rfl) (by kernel_rfl) (fun _ _ _ h => h) (Or.inl ⟨by rfl, fun w => ?_⟩) ?_
  · go_simp
  refine wpAny_take (i := 6) (v := .int .u8 (48 + d : Int)) rfl (by kernel_rfl) (by kernel_rfl) (by kernel_rfl) (fun _ _ _ h => h) (Or.inl ⟨by rfl, fun w => ?_⟩) ?_
  · go_simp
  refine wpAny_ready (rs := [2, 7]) (by kernel_rfl) (by simp) ?_
  refine AllReady.cons rfl (fun K hK => ?_) ?_
  · skip
    go_wp2_with (go_at_call 63; refine (HI.out _).mono ?_; rintro e w1 ⟨rfl, hb1⟩; refine Hid.out ?_)
    refine Lib.hid ?_
    refine hK _ _ ?_
    clear hK K
    refine wpAny_ready (rs := [7]) (by kernel_rfl) (by simp) ?_
    refine AllReady.cons rfl (fun K hK => ?_) AllReady.nil
    go_simp
    refine hK _ _ ?_
    clear hK K
    refine wpAny_ready (rs := [8]) (by kernel_rfl) (by simp) ?_
    refine AllReady.cons rfl (fun K hK => ?_) AllReady.nil
    have c1 : (w1.alloc (.cells #[.int .u8 (48 + d : Int)] 5)).cell? ⟨w1.heap.size, 0, none⟩ = some (.int .u8 (48 + d : Int)) := by rw [blk_cell (heap_alloc_new w1 _)]; rfl
    have e1 := hconv _ _ c1
    go_simp
    refine hK _ _ ?_
    clear hK K
    refine wpAny_take (i := 9) (v := .string (tx ++ ⟨#[c]⟩)) rfl (by kernel_rfl) (by kernel_rfl) (by kernel_rfl) (fun _ _ _ h => h) (Or.inl ⟨by rfl, fun w => ?_⟩) ?_
    · go_simp
    refine wpAny_take (i := 10) (v := .string (tx ++ ⟨#[c]⟩)) rfl (by kernel_rfl) (by kernel_rfl) (by kernel_rfl) (fun _ _ _ h => h) (Or.inl ⟨by rfl, fun w => ?_⟩) ?_
    · go_simp
    refine wpAny_done (by kernel_rfl) ?_ _
    go_wp2_with fail
    go_ret
    exact ⟨rfl, (((below_dr w 1).trans hb1).trans ((below_allocB w1 _).mono hb1.size))⟩
  · refine AllReady.cons rfl (fun K hK => ?_) AllReady.nil
    go_simp
    refine hK _ _ ?_
    clear hK K
    refine wpAny_ready (rs := [2, 8]) (by kernel_rfl) (by simp) ?_
    refine AllReady.cons rfl (fun K hK => ?_) ?_
    · skip
      go_wp2_with (go_at_call 63; refine (HI.out _).mono ?_; rintro e w1 ⟨rfl, hb1⟩; refine Hid.out ?_)
      refine Lib.hid ?_
      refine hK _ _ ?_
      clear hK K
      refine wpAny_ready (rs := [8]) (by kernel_rfl) (by simp) ?_
      refine AllReady.cons rfl (fun K hK => ?_) AllReady.nil
      have hlt : w.heap.size < (World.drew w |>.alloc (.cells #[.int .u8 (48 + d : Int)] 5)).heap.size := by simp
      have c1 : w1.cell? ⟨w.heap.size, 0, none⟩ = some (.int .u8 (48 + d : Int)) := by rw [hb1.cell (p := ⟨w.heap.size, 0, none⟩) hlt]; exact (blk_cell (heap_alloc_new (World.drew w) _) 0).trans rfl
      have e1 := hconv _ _ c1
      go_simp
      refine hK _ _ ?_
      clear hK K
      refine wpAny_take (i := 9) (v := .string (tx ++ ⟨#[c]⟩)) rfl (by kernel_rfl) (by kernel_rfl) (by kernel_rfl) (fun _ _ _ h => h) (Or.inl ⟨by rfl, fun w => ?_⟩) ?_
      · go_simp
      refine wpAny_take (i := 10) (v := .string (tx ++ ⟨#[c]⟩)) rfl (by kernel_rfl) (by kernel_rfl) (by kernel_rfl) (fun _ _ _ h => h) (Or.inl ⟨by rfl, fun w => ?_⟩) ?_
      · go_simp
      refine wpAny_done (by kernel_rfl) ?_ _
      go_wp2_with fail
      go_ret
      exact ⟨rfl, ((below_dr w 1).trans (below_allocB (World.drew w) _)).trans (hb1.mono (by simp))⟩
    · refine AllReady.cons rfl (fun K hK => ?_) AllReady.nil
      have c1 : (World.drew w |>.alloc (.cells #[.int .u8 (48 + d : Int)] 5)).cell? ⟨w.heap.size, 0, none⟩ = some (.int .u8 (48 + d : Int)) := (blk_cell (heap_alloc_new (World.drew w) _) 0).trans rfl
      have e1 := hconv _ _ c1
      go_simp
      refine hK _ _ ?_
      clear hK K
      refine wpAny_ready (rs := [2]) (by kernel_rfl) (by simp) ?_
      refine AllReady.cons rfl (fun K hK => ?_) AllReady.nil
      go_wp2_with (go_at_call 63; refine (HI.out _).mono ?_; rintro e w1 ⟨rfl, hb1⟩; refine Hid.out ?_)
      refine Lib.hid ?_
      refine hK _ _ ?_
      clear hK K
      refine wpAny_take (i := 9) (v := .string (tx ++ ⟨#[c]⟩)) rfl (by kernel_rfl) (by kernel_rfl) (by kernel_rfl) (fun _ _ _ h => h) (Or.inl ⟨by rfl, fun w => ?_⟩) ?_
      · go_simp
      refine wpAny_take (i := 10) (v := .string (tx ++ ⟨#[c]⟩)) rfl (by kernel_rfl) (by kernel_rfl) (by kernel_rfl) (fun _ _ _ h => h) (Or.inl ⟨by rfl, fun w => ?_⟩) ?_
      · go_simp
      refine wpAny_done (by kernel_rfl) ?_ _
      go_wp2_with fail
      go_ret
      exact ⟨rfl, ((below_dr w 1).trans (below_allocB (World.drew w) _)).trans (hb1.mono (by simp))⟩
theorem decNum_nat (u : Nat) (hb : u < 1000000000000000000) (w : World) : Calls Tryz.prog 63 #[.int .i64 (u : Int)] w fun e w' => e = .returned (.string ⟨(Lib.decDigits u).toArray⟩) ∧ Below w.heap.size w w' := by
  induction u using Nat.strongRecOn generalizing w with
  | _ u ih =>
    by_cases h : u < 10
    · exact decNum_small u h w
    · have hc : ((UInt8.ofNat (48 + u % 10)).toNat : Int) = 48 + (u % 10 : Nat) := by rw [UInt8.toNat_ofNat']; omega
      have hl : (⟨(Lib.decDigits (u / 10)).toArray⟩ : ByteArray).size ≤ 100 := by
        have h1 := Lib.decDigits_length (u / 10)
        have h2 := nd_le (u / 10) 20 (by decide) (by have : (10 : Nat) ^ 20 = 100000000000000000000 := by decide
                                                     omega)
        show (Lib.decDigits (u / 10)).toArray.size ≤ 100
        rw [List.size_toArray]
        omega
      have := decNum_big u (by omega) hb (u % 10) (u / 10) rfl rfl _ hc (by omega) _ w (fun W => ih (u / 10) (by omega) (by omega) W) hl
      rw [dig_cat u _ rfl, ← decDigits_big h] at this
      exact this
set_option maxHeartbeats 2000000 in
theorem docDig_small (u : Nat) (h : u < 10) (w : World) : Calls Tryz.prog 87 #[.int .i64 (u : Int)] w fun e w' => e = .returned (.string ⟨(Lib.decDigits u).toArray⟩) ∧ Below w.heap.size w w' := by
  obtain ⟨c, hc⟩ : ∃ c, UInt8.ofNat (48 + u) = c := ⟨_, rfl⟩
  have hcz : (c.toNat : Int) = 48 + u := by rw [← hc, UInt8.toNat_ofNat']; omega
  have h1 : (48 + (u : Int)) % 256 = 48 + u := by omega
  have hconv := fun W g => conv_one W g c
  rw [hcz] at hconv
  rw [Lib.decDigits_one h, hc]
  clear hcz hc
  go_enter Tryz.func87, Tryz.ntmps87
  go_wp2_with fail
  go_ret
  exact ⟨rfl, below_allocB w _⟩
set_option maxHeartbeats 2000000 in
theorem docDig_big (u : Nat) (h : 10 ≤ u) (hb : u < 1000000000000000000) (d q : Nat) (hd : u % 10 = d) (hq : u / 10 = q) (c : UInt8) (hcz : (c.toNat : Int) = 48 + d) (hd10 : d < 10) (tx : ByteArray) (w : World) (ih : ∀ W : World, Calls Tryz.prog 87 #[.int .i64 (q : Int)] W fun e w' => e = .returned (.string tx) ∧ Below W.heap.size W w')
    (hlen : tx.size ≤ 100) : Calls Tryz.prog 87 #[.int .i64 (u : Int)] w fun e w' => e = .returned (.string (tx ++ ⟨#[c]⟩)) ∧ Below w.heap.size w w' := by
  have h1 : (48 + (d : Int)) % 256 = 48 + d := by omega
  have hm : (u : Int) % 10 = (d : Int) := by omega
  have hqz : (u : Int) / 10 = (q : Int) := by omega
  have hw1 : IntKind.i64.wrap (48 + (d : Int)) = 48 + d := by rw [IntKind.wrap_i64]; omega
  have hwt : (u : Int).tmod 10 = (d : Int) := (show (u : Int).tmod 10 = ((u % 10 : Nat) : Int) from rfl).trans (by omega)
  have hw3 : IntKind.u8.wrap (48 + (d : Int)) = 48 + d := by rw [IntKind.wrap_u8]; omega
  have hts : tx.size ≤ 9223372036854775806 := by omega
  have hw2 : IntKind.i64.wrap (q : Int) = q := by rw [IntKind.wrap_i64]; omega
  have hconv := fun W g => conv_one W g c
  rw [hcz] at hconv
  have HI := Lib.hid ih
  clear hcz hd hq ih
  go_enter Tryz.func87, Tryz.ntmps87
  go_wp2_with fail
  refine wp_region_any (by kernel_rfl) ?_
  try (change wpAny _ _ _ _ _ _ _ (World.drew _))
  refine wpAny_take (i := 0) (v := .int .i64 (u : Int)) rfl (by kernel_rfl) (by kernel_rfl) (by kernel_rfl) (fun _ _ _ h => h) (Or.inl ⟨by rfl, fun w => ?_⟩) ?_
  · go_simp
  refine wpAny_take (i := 1) (v := .int .i64 (q : Int)) rfl (by kernel_rfl) (by kernel_rfl) (by kernel_rfl) (fun _ _ _ h => h) (Or.inl ⟨by rfl, fun w => ?_⟩) ?_
  · go_simp
  refine wpAny_take (i := 3) (v := .int .i64 (u : Int)) rfl (by kernel_rfl) (by kernel_rfl) (by kernel_rfl) (fun _ _ _ h => h) (Or.inl ⟨by rfl, fun w => ?_⟩) ?_
  · go_simp
  refine wpAny_take (i := 4) (v := .int .i64 (d : Int)) rfl (by kernel_rfl) (by kernel_rfl) (by kernel_rfl) (fun _ _ _ h => h) (Or.inl ⟨by rfl, fun w => ?_⟩) ?_
  · go_simp
  refine wpAny_take (i := 5) (v := .int .i64 (48 + d : Int)) rfl (by kernel_rfl) (by kernel_rfl) (by kernel_rfl) (fun _ _ _ h => h) (Or.inl ⟨by rfl, fun w => ?_⟩) ?_
  · go_simp
  refine wpAny_take (i := 6) (v := .int .u8 (48 + d : Int)) rfl (by kernel_rfl) (by kernel_rfl) (by kernel_rfl) (fun _ _ _ h => h) (Or.inl ⟨by rfl, fun w => ?_⟩) ?_
  · go_simp
  refine wpAny_ready (rs := [2, 7]) (by kernel_rfl) (by simp) ?_
  refine AllReady.cons rfl (fun K hK => ?_) ?_
  · skip
    go_wp2_with (go_at_call 87; refine (HI.out _).mono ?_; rintro e w1 ⟨rfl, hb1⟩; refine Hid.out ?_)
    refine Lib.hid ?_
    refine hK _ _ ?_
    clear hK K
    refine wpAny_ready (rs := [7]) (by kernel_rfl) (by simp) ?_
    refine AllReady.cons rfl (fun K hK => ?_) AllReady.nil
    go_simp
    refine hK _ _ ?_
    clear hK K
    refine wpAny_ready (rs := [8]) (by kernel_rfl) (by simp) ?_
    refine AllReady.cons rfl (fun K hK => ?_) AllReady.nil
    have c1 : (w1.alloc (.cells #[.int .u8 (48 + d : Int)] 5)).cell? ⟨w1.heap.size, 0, none⟩ = some (.int .u8 (48 + d : Int)) := by rw [blk_cell (heap_alloc_new w1 _)]; rfl
    have e1 := hconv _ _ c1
    go_simp
    refine hK _ _ ?_
    clear hK K
    refine wpAny_take (i := 9) (v := .string (tx ++ ⟨#[c]⟩)) rfl (by kernel_rfl) (by kernel_rfl) (by kernel_rfl) (fun _ _ _ h => h) (Or.inl ⟨by rfl, fun w => ?_⟩) ?_
    · go_simp
    refine wpAny_take (i := 10) (v := .string (tx ++ ⟨#[c]⟩)) rfl (by kernel_rfl) (by kernel_rfl) (by kernel_rfl) (fun _ _ _ h => h) (Or.inl ⟨by rfl, fun w => ?_⟩) ?_
    · go_simp
    refine wpAny_done (by kernel_rfl) ?_ _
    go_wp2_with fail
    go_ret
    exact ⟨rfl, (((below_dr w 1).trans hb1).trans ((below_allocB w1 _).mono hb1.size))⟩
  · refine AllReady.cons rfl (fun K hK => ?_) AllReady.nil
    go_simp
    refine hK _ _ ?_
    clear hK K
    refine wpAny_ready (rs := [2, 8]) (by kernel_rfl) (by simp) ?_
    refine AllReady.cons rfl (fun K hK => ?_) ?_
    · skip
      go_wp2_with (go_at_call 87; refine (HI.out _).mono ?_; rintro e w1 ⟨rfl, hb1⟩; refine Hid.out ?_)
      refine Lib.hid ?_
      refine hK _ _ ?_
      clear hK K
      refine wpAny_ready (rs := [8]) (by kernel_rfl) (by simp) ?_
      refine AllReady.cons rfl (fun K hK => ?_) AllReady.nil
      have hlt : w.heap.size < (World.drew w |>.alloc (.cells #[.int .u8 (48 + d : Int)] 5)).heap.size := by simp
      have c1 : w1.cell? ⟨w.heap.size, 0, none⟩ = some (.int .u8 (48 + d : Int)) := by rw [hb1.cell (p := ⟨w.heap.size, 0, none⟩) hlt]; exact (blk_cell (heap_alloc_new (World.drew w) _) 0).trans rfl
      have e1 := hconv _ _ c1
      go_simp
      refine hK _ _ ?_
      clear hK K
      refine wpAny_take (i := 9) (v := .string (tx ++ ⟨#[c]⟩)) rfl (by kernel_rfl) (by kernel_rfl) (by kernel_rfl) (fun _ _ _ h => h) (Or.inl ⟨by rfl, fun w => ?_⟩) ?_
      · go_simp
      refine wpAny_take (i := 10) (v := .string (tx ++ ⟨#[c]⟩)) rfl (by kernel_rfl) (by kernel_rfl) (by kernel_rfl) (fun _ _ _ h => h) (Or.inl ⟨by rfl, fun w => ?_⟩) ?_
      · go_simp
      refine wpAny_done (by kernel_rfl) ?_ _
      go_wp2_with fail
      go_ret
      exact ⟨rfl, ((below_dr w 1).trans (below_allocB (World.drew w) _)).trans (hb1.mono (by simp))⟩
    · refine AllReady.cons rfl (fun K hK => ?_) AllReady.nil
      have c1 : (World.drew w |>.alloc (.cells #[.int .u8 (48 + d : Int)] 5)).cell? ⟨w.heap.size, 0, none⟩ = some (.int .u8 (48 + d : Int)) := (blk_cell (heap_alloc_new (World.drew w) _) 0).trans rfl
      have e1 := hconv _ _ c1
      go_simp
      refine hK _ _ ?_
      clear hK K
      refine wpAny_ready (rs := [2]) (by kernel_rfl) (by simp) ?_
      refine AllReady.cons rfl (fun K hK => ?_) AllReady.nil
      go_wp2_with (go_at_call 87; refine (HI.out _).mono ?_; rintro e w1 ⟨rfl, hb1⟩; refine Hid.out ?_)
      refine Lib.hid ?_
      refine hK _ _ ?_
      clear hK K
      refine wpAny_take (i := 9) (v := .string (tx ++ ⟨#[c]⟩)) rfl (by kernel_rfl) (by kernel_rfl) (by kernel_rfl) (fun _ _ _ h => h) (Or.inl ⟨by rfl, fun w => ?_⟩) ?_
      · go_simp
      refine wpAny_take (i := 10) (v := .string (tx ++ ⟨#[c]⟩)) rfl (by kernel_rfl) (by kernel_rfl) (by kernel_rfl) (fun _ _ _ h => h) (Or.inl ⟨by rfl, fun w => ?_⟩) ?_
      · go_simp
      refine wpAny_done (by kernel_rfl) ?_ _
      go_wp2_with fail
      go_ret
      exact ⟨rfl, ((below_dr w 1).trans (below_allocB (World.drew w) _)).trans (hb1.mono (by simp))⟩
theorem docDig_nat (u : Nat) (hb : u < 1000000000000000000) (w : World) : Calls Tryz.prog 87 #[.int .i64 (u : Int)] w fun e w' => e = .returned (.string ⟨(Lib.decDigits u).toArray⟩) ∧ Below w.heap.size w w' := by
  induction u using Nat.strongRecOn generalizing w with
  | _ u ih =>
    by_cases h : u < 10
    · exact docDig_small u h w
    · have hc : ((UInt8.ofNat (48 + u % 10)).toNat : Int) = 48 + (u % 10 : Nat) := by rw [UInt8.toNat_ofNat']; omega
      have hl : (⟨(Lib.decDigits (u / 10)).toArray⟩ : ByteArray).size ≤ 100 := by
        have h1 := Lib.decDigits_length (u / 10)
        have h2 := nd_le (u / 10) 20 (by decide) (by have : (10 : Nat) ^ 20 = 100000000000000000000 := by decide
                                                     omega)
        show (Lib.decDigits (u / 10)).toArray.size ≤ 100
        rw [List.size_toArray]
        omega
      have := docDig_big u (by omega) hb (u % 10) (u / 10) rfl rfl _ hc (by omega) _ w (fun W => ih (u / 10) (by omega) (by omega) W) hl
      rw [dig_cat u _ rfl, ← decDigits_big h] at this
      exact this
set_option maxHeartbeats 2000000 in
theorem decNum_any (n : Int) (h0 : -1000000 ≤ n) (h1 : n ≤ 1000000) (w : World) : Calls Tryz.prog 63 #[.int .i64 n] w fun e w' => e = .returned (.string ⟨(Lib.itoa n).toArray⟩) ∧ Below w.heap.size w w' := by
  by_cases hn : n < 0
  · obtain ⟨u, rfl, hu⟩ : ∃ u : Nat, n = -(u : Int) ∧ 1 ≤ u := ⟨n.natAbs, by omega, by omega⟩
    have hc := fun W => decNum_nat u (by omega) W
    have HC := Lib.hid hc
    have hl : (⟨(Lib.decDigits u).toArray⟩ : ByteArray).size ≤ 100 := by
      have h1 := Lib.decDigits_length u
      have h2 := nd_le u 20 (by decide) (by have : (10 : Nat) ^ 20 = 100000000000000000000 := by decide
                                            omega)
      show (Lib.decDigits u).toArray.size ≤ 100
      rw [List.size_toArray]
      omega
    have HE := Lib.hid (show ((⟨#[45]⟩ : ByteArray) ++ ⟨(Lib.decDigits u).toArray⟩) = ⟨(Lib.itoa (-(u : Int))).toArray⟩ by rw [Lib.itoa_neg u hu]; apply ByteArray.ext; simp)
    generalize (⟨(Lib.decDigits u).toArray⟩ : ByteArray) = tx at HC hl HE
    clear hc
    go_enter Tryz.func63, Tryz.ntmps63
    go_wp2_with (go_at_call 63; refine (HC.out _).mono ?_; rintro e w1 ⟨rfl, hb1⟩)
    go_ret
    exact ⟨congrArg (fun x => Ending.returned (.string x)) HE.out, hb1⟩
  · obtain ⟨u, rfl⟩ : ∃ u : Nat, n = (u : Int) := ⟨n.toNat, by omega⟩
    rw [Lib.itoa_nonneg]
    exact decNum_nat u (by omega) w
end Go.Proofs.YtpfkgpcnhdkkbaaGreatDoor
