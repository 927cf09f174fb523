/- internal/strconv.setDigits and numDigits at every number. -/
import Derived.Test.YtpfkgpcnhdkkbaaGreatDoorF2
import Derived.Test.YtpfkgpcnhdkkbaaGreatDoorTabs
import Derived.Lib.ItoaMem
namespace Go.Proofs.YtpfkgpcnhdkkbaaGreatDoor
open Go.RowKit Go.Sort
set_option linter.unusedVariables false
set_option linter.unusedSimpArgs false
set_option maxRecDepth 100000
/-- How many of the first n digits are left without the zeros behind. -/
def tlen (l : List UInt8) : Nat → Nat
  | 0 => 0
  | n + 1 => if (l.getD n 0).toNat = 48 then tlen l n else n + 1
theorem tlen_le (l : List UInt8) : ∀ n, tlen l n ≤ n
  | 0 => Nat.le_refl _
  | n + 1 => by
    unfold tlen
    split
    · have := tlen_le l n; omega
    · omega
theorem heap_mapBlock_ne (w : World) (b : Nat) (f : Array Value → Array Value) (j : Nat) (h : j ≠ b) : (mapBlock w b f).heap[j]? = w.heap[j]? := by
  unfold mapBlock
  simp [Array.getElem?_modify, Ne.symm h]
theorem heap_mapBlock_at (w : World) (b : Nat) (f : Array Value → Array Value) {cs : Array Value} {t : TypeId} {fr : Nat × Nat} (h : w.heap[b]? = some (.cells cs t fr)) : ∃ cs', (mapBlock w b f).heap[b]? = some (.cells cs' t fr) := by
  refine ⟨f cs, ?_⟩
  unfold mapBlock
  simp [Array.getElem?_modify, h, onCells]
theorem setDigits_pos (d : Nat) (hd : 1 ≤ d) (hd2 : d < 18446744073709551616) (p : Int) (hp : -400 ≤ p ∧ p ≤ 400) (g : Nat) (w : World) (hc : ∀ j, j < 32 → w.cell? ⟨g, j, none⟩ = some (.int .u8 0) ∧ w.frozen? ⟨g, j, none⟩ = false) {cs : Array Value} {t : TypeId} {fr : Nat × Nat} (htag : w.heap[g]? = some (.cells cs t fr)) :
    Calls Tryz.prog 205 #[.slice (some ⟨g, 0, none⟩) 32 32, .int .u64 (d : Int), .int .i64 p, .int .i64 (Lib.nDigits d : Int)] w fun e w' => e = .returned (.tuple #[.int .i64 ((Lib.nDigits d : Int) + p), .int .i64 (tlen (Lib.decDigits d) (Lib.nDigits d) : Nat)]) ∧ Below g w w' ∧ (∃ cs', w'.heap[g]? = some (.cells cs' t fr)) ∧
      ∀ (j : Nat) (b : UInt8), (Lib.decDigits d)[j]? = some b → w'.cell? ⟨g, j, none⟩ = some (.int .u8 (b.toNat : Int)) := by
  obtain ⟨p0, p1⟩ := hp
  have hnd : Lib.nDigits d ≤ 20 := by have := Lib.numDigits_eq d hd hd2; split at this <;> omega
  have hH0 : Holds (fun (b : UInt8) => Value.int .u8 (b.toNat : Int)) w g 0 (Array.replicate (Lib.nDigits d) 0) := by
    intro j hj
    rw [Array.size_replicate] at hj
    rw [Nat.zero_add]
    have := hc j (by omega)
    refine ⟨?_, this.2⟩
    rw [this.1]
    simp [hj]
  have hfmt := Tryz.internal_strconv_formatBase10 g 0 32 d (Array.replicate (Lib.nDigits d) 0) w hH0 (by rw [Array.size_replicate]; exact Lib.lt_pow_nDigits d) hd2 (by rw [Array.size_replicate]; omega)
  rw [Array.size_replicate] at hfmt
  have HFM := Lib.hid hfmt
  have HH0 := Lib.hid hH0
  have hl := Lib.decDigits_length d
  obtain ⟨n, hn⟩ : ∃ n, Lib.nDigits d = n := ⟨_, rfl⟩
  rw [hn] at HFM HH0 hnd hl ⊢
  have HN := Lib.hid hn
  have HL := Lib.hid hl
  clear hfmt hH0 hn hl hc
  go_enter Tryz.func205, Tryz.ntmps205
  go_wp2_with (go_at_call 91; refine HFM.out.mono ?_; rintro e w1 ⟨rfl, k, v', dk, rfl, hF⟩; have HF := Lib.hid hF; clear hF)
  have hcell : ∀ (j : Nat) (b : UInt8), (Lib.decDigits d)[j]? = some b → ((putRow (fun (b : UInt8) => Value.int .u8 (b.toNat : Int)) w g 0 dk).drewN k).cell? ⟨g, j, none⟩ = some (.int .u8 (b.toNat : Int)) := by
    intro j b hj
    have hlt : j < (Lib.decDigits d).length := (List.getElem?_eq_some_iff.1 hj).1
    have hF := HF.out
    have h2 := cell?_putRow (fun (b : UInt8) => Value.int .u8 (b.toNat : Int)) w g 0 _ dk HH0.out (by rw [hF.size, Array.size_replicate]) j (by rw [hF.size]; rw [HL.out] at hlt; exact hlt)
    rw [Nat.zero_add] at h2
    rw [World.cell?_drewN, h2]
    have h3 := Lib.row_is_numeral (u := d) (v' := v') (dk := dk) (by rw [HN.out]; exact hF) j hlt
    rw [List.getElem?_eq_getElem hlt, Option.some.injEq] at hj
    rw [← h3, hj]
  have hbelow : Below g w ((putRow (fun (b : UInt8) => Value.int .u8 (b.toNat : Int)) w g 0 dk).drewN k) := by
    refine ⟨rfl, rfl, rfl, by show _ ≤ (putRow _ _ _ _ _).heap.size; rw [size_putRow]; exact Nat.le_refl _, fun j hj => ?_⟩
    exact heap_mapBlock_ne w g _ j (by omega)
  have htg : ∃ cs', ((putRow (fun (b : UInt8) => Value.int .u8 (b.toNat : Int)) w g 0 dk).drewN k).heap[g]? = some (.cells cs' t fr) := heap_mapBlock_at w g _ htag
  generalize ((putRow (fun (b : UInt8) => Value.int .u8 (b.toNat : Int)) w g 0 dk).drewN k) = W at hcell hbelow htg ⊢
  have HTG := Lib.hid htg
  clear htg htag
  have HC := Lib.hid hcell
  have HB := Lib.hid hbelow
  clear hcell hbelow HF
  go_wp2
  go_loop [3] (fun v => ∃ m : Nat, v = .int .i64 m ∧ m ≤ n ∧ Hid (tlen (Lib.decDigits d) m = tlen (Lib.decDigits d) n)) (fun v => (intOf v).toNat)
  case atStart => exact ⟨n, rfl, Nat.le_refl _, rfl⟩
  case round =>
    obtain ⟨m, rfl, hmn, HT⟩ := hrel
    by_cases h0 : m = 0
    · subst h0
      go_wp2
      go_ret2
      exact ⟨by rw [← HT.out]; rfl, HB.out, HTG.out, HC.out⟩
    · obtain ⟨m, rfl⟩ : ∃ j, m = j + 1 := ⟨m - 1, by omega⟩
      obtain ⟨b, hb⟩ : ∃ b, (Lib.decDigits d)[m]? = some b := ⟨_, List.getElem?_eq_getElem (by rw [HL.out]; omega)⟩
      have c0 := HC.out m b hb
      have hgd : (Lib.decDigits d).getD m 0 = b := by rw [List.getD_eq_getElem?_getD, hb]; rfl
      have ht : tlen (Lib.decDigits d) (m + 1) = if b.toNat = 48 then tlen (Lib.decDigits d) m else m + 1 := by rw [tlen, hgd]
      obtain ⟨x, hx⟩ : ∃ x, b.toNat = x := ⟨_, rfl⟩
      rw [hx] at c0 ht
      have HT2 := Lib.hid ht
      clear hb hgd ht hx h0
      by_cases h48 : x = 48
      · have hb48 : ((x : Int) == 48) = true := by simp; omega
        have HX := Lib.hid h48
        clear h48
        go_wp2
        go_round
        case rel => exact ⟨m, by go_num, by omega, by have h1 := HT.out; rw [HT2.out, if_pos HX.out] at h1; exact h1⟩
        case measure => simp [intOf]
      · have hb48 : ((x : Int) == 48) = false := by simp; omega
        have HX := Lib.hid h48
        clear h48
        go_wp2
        go_ret2
        exact ⟨by rw [← HT.out, HT2.out, if_neg HX.out]; rfl, HB.out, HTG.out, HC.out⟩
theorem setDigits_zero (p : Int) (hp : -400 ≤ p ∧ p ≤ 400) (g : Nat) (w : World) {cs : Array Value} {t : TypeId} {fr : Nat × Nat} (htag : w.heap[g]? = some (.cells cs t fr)) :
    Calls Tryz.prog 205 #[.slice (some ⟨g, 0, none⟩) 32 32, .int .u64 0, .int .i64 p, .int .i64 0] w fun e w' => e = .returned (.tuple #[.int .i64 p, .int .i64 0]) ∧ Below g w w' ∧ (∃ cs', w'.heap[g]? = some (.cells cs' t fr)) := by
  obtain ⟨p0, p1⟩ := hp
  have hfmt := Tryz.internal_strconv_formatBase10 g 0 32 0 #[] w (fun j hj => absurd hj (by simp)) (by simp) (by omega) (by simp)
  have HFM := Lib.hid hfmt
  clear hfmt
  go_enter Tryz.func205, Tryz.ntmps205
  go_wp2_with (go_at_call 91; refine HFM.out.mono ?_; rintro e w1 ⟨rfl, k, v', dk, rfl, hF⟩; clear hF)
  have hbelow : Below g w ((putRow (fun (b : UInt8) => Value.int .u8 (b.toNat : Int)) w g 0 dk).drewN k) := by
    refine ⟨rfl, rfl, rfl, by show _ ≤ (putRow _ _ _ _ _).heap.size; rw [size_putRow]; exact Nat.le_refl _, fun j hj => ?_⟩
    exact heap_mapBlock_ne w g _ j (by omega)
  have htg : ∃ cs', ((putRow (fun (b : UInt8) => Value.int .u8 (b.toNat : Int)) w g 0 dk).drewN k).heap[g]? = some (.cells cs' t fr) := heap_mapBlock_at w g _ htag
  generalize ((putRow (fun (b : UInt8) => Value.int .u8 (b.toNat : Int)) w g 0 dk).drewN k) = W at hbelow htg ⊢
  have HTG := Lib.hid htg
  clear htg htag
  have HB := Lib.hid hbelow
  clear hbelow HFM
  go_wp2
  refine wp_loop_rounds 1 ?_
  rw [rounds_succ]
  go_wp2
  go_ret2
  exact ⟨rfl, HB.out, HTG.out⟩
theorem len64_0 (w : World) : Calls Tryz.prog 139 #[.int .u64 0] w fun e w' => e = .returned (.int .i64 0) ∧ w = w' := by
  have := Tryz.bits_Len64 0 w (by omega) (by omega)
  exact this.mono fun e w' h => ⟨h.1.trans (congrArg (fun n : Nat => Ending.returned (.int .i64 (n : Int))) (show Lib.bitLen (Int.toNat 0) = 0 by decide +kernel)), h.2.symm⟩
theorem numDigits_zero (w : World) (hT : TabC w) : Calls Tryz.prog 90 #[.int .u64 0] w fun e w' => e = .returned (.int .i64 0) ∧ w' = w := by
  have c0 : w.cell? ⟨2, 0, none⟩ = some (.int .u64 1) := hT.p10.cell global_pow10 0 (by decide)
  clear hT
  go_enter Tryz.func90, Tryz.ntmps90
  go_wp2_with (first | (go_at_call 139; refine (len64_0 _).mono ?_; rintro e w' ⟨rfl, rfl⟩) | (go_at_call 138; refine (log10_any _ _ (by omega) (by omega)).mono ?_; rintro e w' ⟨rfl, rfl⟩) | (go_at_call 140; refine (Tryz.internal_strconv_bool2_int _ _).mono ?_; rintro e w' ⟨rfl, rfl⟩))
  go_ret
  exact ⟨rfl, rfl⟩
end Go.Proofs.YtpfkgpcnhdkkbaaGreatDoor
