/- Decimal texts: the state of decimal128.String's loop, in plain words; no condition. -/
import Derived.Test.YtpfkgpcnhdkkbaaGreatDoorAGh
import Derived.Test.YtpfkgpcnhdkkbaaGreatDoorAGo
import Derived.Test.YtpfkgpcnhdkkbaaGreatDoorAEw
import Derived.Test.YtpfkgpcnhdkkbaaGreatDoorAOb
namespace Go.Proofs.YtpfkgpcnhdkkbaaGreatDoor
set_option maxHeartbeats 8000000
open Go.RowKit
set_option linter.unusedVariables false
set_option linter.unusedSimpArgs false
set_option maxRecDepth 100000
theorem wrap_nat64 (n : Nat) (h : n < 18446744073709551616) : IntKind.u64.wrap (n : Int) = (n : Int) := by rw [IntKind.wrap_u64]; omega
theorem and32 (H : Nat) (h : H < 18446744073709551616) : bits .and .u64 (H : Int) 4294967295 = ((H % 4294967296 : Nat) : Int) := by
 have := bits_mask .u64 64 (by decide) (fun n h₀ h₁ => by rw [IntKind.wrap_u64]; omega) 32 (by decide) (H : Int) (by omega) (by omega)
 rw [show (2 : Int) ^ 32 - 1 = 4294967295 from rfl, show (2 : Int) ^ 32 = 4294967296 from rfl] at this
 rw [this]; omega
theorem or32 (q r : Nat) (hq : q < 4294967296) (hr : r < 4294967296) : bits .or .u64 ((q * 4294967296 : Nat) : Int) (r : Int) = ((q * 4294967296 + r : Nat) : Int) := by
 have := bits_join .u64 64 (by decide) (fun n h₀ h₁ => by rw [IntKind.wrap_u64]; omega) 32 ((q * 4294967296 : Nat) : Int) (r : Int) (by omega) (by rw [show (2 : Int) ^ 32 = 4294967296 from rfl]; omega) (by omega) (by omega) (by rw [show (2 : Int) ^ 32 = 4294967296 from rfl]; omega) (by omega)
 rw [this]; omega
theorem dm_arith (H L a b c d q1 q2 q3 q4 r1 r2 r3 r4 : Nat) (hH : H < 18446744073709551616) (hL : L < 18446744073709551616)
  (h1 : q1 * 1000000000 + r1 = H / 4294967296) (h2 : q2 * 1000000000 + r2 = r1 * 4294967296 + H % 4294967296) (h3 : q3 * 1000000000 + r3 = r2 * 4294967296 + L / 4294967296) (h4 : q4 * 1000000000 + r4 = r3 * 4294967296 + L % 4294967296)
  (b1 : r1 < 1000000000) (b2 : r2 < 1000000000) (b3 : r3 < 1000000000) (b4 : r4 < 1000000000) :
  (H * 18446744073709551616 + L) / 1000000000 / 18446744073709551616 = q1 * 4294967296 + q2 ∧ (H * 18446744073709551616 + L) / 1000000000 % 18446744073709551616 = q3 * 4294967296 + q4 ∧ (H * 18446744073709551616 + L) % 1000000000 = r4 := by omega
theorem divmod_any (H L : Nat) (hH : H < 18446744073709551616) (hL : L < 18446744073709551616) (w : World) :
  Calls Tryz.prog 196 #[.int .u64 (H : Int), .int .u64 (L : Int), .int .u32 1000000000] w fun e w' => e = .returned (.tuple #[.int .u64 (((H * 18446744073709551616 + L) / 1000000000 / 18446744073709551616 : Nat) : Int), .int .u64 (((H * 18446744073709551616 + L) / 1000000000 % 18446744073709551616 : Nat) : Int), .int .u32 (((H * 18446744073709551616 + L) % 1000000000 : Nat) : Int)]) ∧ w' = w := by
 go_enter Tryz.func196, Tryz.ntmps196
 go_wp2_with fail
 refine bodyPost_ret (v := .tuple #[_, _, _]) (by simp [results, Tryz.results196, go_sem]; exact ⟨rfl, rfl, rfl⟩) rfl ?_
 have D : ∀ n : Nat, ((n : Int).tdiv 1000000000) = ((n / 1000000000 : Nat) : Int) := fun n => rfl
 have M : ∀ n : Nat, ((n : Int).tmod 1000000000) = ((n % 1000000000 : Nat) : Int) := fun n => rfl
 have x1 : (H : Int) / 4294967296 / 1000000000 * 4294967296 = ((H / 4294967296 / 1000000000 * 4294967296 : Nat) : Int) := by omega
 have x2 : (H : Int) / 4294967296 % 1000000000 * 4294967296 + ((H % 4294967296 : Nat) : Int) = ((H / 4294967296 % 1000000000 * 4294967296 + H % 4294967296 : Nat) : Int) := by omega
 rw [and32 H hH, and32 L hL, x1, x2]
 obtain ⟨q1, r1, h1, e1, e1'⟩ : ∃ q1 r1, q1 * 1000000000 + r1 = H / 4294967296 ∧ H / 4294967296 / 1000000000 = q1 ∧ H / 4294967296 % 1000000000 = r1 := ⟨_, _, by omega, rfl, rfl⟩
 rw [e1, e1']
 have b1 : r1 < 1000000000 := by omega
 have b1q : q1 < 4294967296 := by omega
 clear x1 x2
 rw [wrap_nat64 _ (by omega)]
 obtain ⟨B, hB⟩ : ∃ B, r1 * 4294967296 + H % 4294967296 = B := ⟨_, rfl⟩
 rw [hB, D, M]
 obtain ⟨q2, r2, h2, e2, e2'⟩ : ∃ q r, q * 1000000000 + r = B ∧ B / 1000000000 = q ∧ B % 1000000000 = r := ⟨B / 1000000000, B % 1000000000, Nat.div_add_mod' B 1000000000, Eq.refl _, Eq.refl _⟩
 rw [e2, e2']
 have b2 : r2 < 1000000000 := by omega
 have b2q : q2 < 4294967296 := by omega
 rw [wrap_nat64 _ (by omega : q2 < 18446744073709551616), show (r2 : Int) * 4294967296 = ((r2 * 4294967296 : Nat) : Int) from by omega, wrap_nat64 _ (by omega : r2 * 4294967296 < 18446744073709551616), show ((r2 * 4294967296 : Nat) : Int) + (L : Int) / 4294967296 = ((r2 * 4294967296 + L / 4294967296 : Nat) : Int) from by omega, wrap_nat64 _ (by omega)]
 obtain ⟨C, hC⟩ : ∃ C, r2 * 4294967296 + L / 4294967296 = C := ⟨_, rfl⟩
 rw [hC, D, M]
 obtain ⟨q3, r3, h3, e3, e3'⟩ : ∃ q r, q * 1000000000 + r = C ∧ C / 1000000000 = q ∧ C % 1000000000 = r := ⟨C / 1000000000, C % 1000000000, Nat.div_add_mod' C 1000000000, Eq.refl _, Eq.refl _⟩
 rw [e3, e3']
 have b3 : r3 < 1000000000 := by omega
 have b3q : q3 < 4294967296 := by omega
 rw [wrap_nat64 _ (by omega : q3 < 18446744073709551616), show (r3 : Int) * 4294967296 = ((r3 * 4294967296 : Nat) : Int) from by omega, wrap_nat64 _ (by omega : r3 * 4294967296 < 18446744073709551616), show (q3 : Int) * 4294967296 = ((q3 * 4294967296 : Nat) : Int) from by omega, wrap_nat64 _ (by omega : q3 * 4294967296 < 18446744073709551616), show ((r3 * 4294967296 : Nat) : Int) + ((L % 4294967296 : Nat) : Int) = ((r3 * 4294967296 + L % 4294967296 : Nat) : Int) from by omega, wrap_nat64 _ (by omega : r3 * 4294967296 + L % 4294967296 < 18446744073709551616)]
 obtain ⟨E, hE⟩ : ∃ E, r3 * 4294967296 + L % 4294967296 = E := ⟨_, rfl⟩
 rw [hE, D, M]
 obtain ⟨q4, r4, h4, e4, e4'⟩ : ∃ q r, q * 1000000000 + r = E ∧ E / 1000000000 = q ∧ E % 1000000000 = r := ⟨E / 1000000000, E % 1000000000, Nat.div_add_mod' E 1000000000, Eq.refl _, Eq.refl _⟩
 rw [e4, e4']
 have b4 : r4 < 1000000000 := by omega
 have b4q : q4 < 4294967296 := by omega
 rw [wrap_nat64 _ (by omega : q4 < 18446744073709551616), or32 _ _ b1q b2q, or32 _ _ b3q b4q, show ((r4 : Int) % 4294967296) = (r4 : Int) from by omega]
 subst hB hC hE
 obtain ⟨y1, y2, y3⟩ := dm_arith H L 0 0 0 0 q1 q2 q3 q4 r1 r2 r3 r4 hH hL h1 h2 h3 h4 b1 b2 b3 b4
 rw [y1, y2, y3]
 exact ⟨rfl, rfl⟩
theorem below_set48 (w : World) (g i : Nat) (u : Value) : Below g w (w.setCell ⟨g, i, none⟩ u) := by
 refine ⟨rfl, rfl, rfl, ?_, fun k hk => Below.heap_setCell w ⟨g, i, none⟩ u k (by show k ≠ g; omega)⟩
 have := Below.heap_setCell
 show w.heap.size ≤ (w.heap.modify _ _).size
 simp
structure DM (g : Nat) (W0 : World) (i : Nat) (t : List UInt8) (w : World) : Prop where
 bl : Below g W0 w
 blk : ∃ cs : Array Value, w.heap[g]? = some (.cells cs 262 (0, 0)) ∧ cs.size = 48 ∧ ∀ (j : Nat) (b : UInt8), t[j]? = some b → cs[i + j]? = some (.int .u8 (b.toNat : Int))
 len : t.length + i = 48
theorem DM.cell {g : Nat} {W0 : World} {i : Nat} {t : List UInt8} {w : World} (h : DM g W0 i t w) (j : Nat) (hj : j < 48) : (∃ v, w.cell? ⟨g, j, none⟩ = some v) ∧ w.frozen? ⟨g, j, none⟩ = false := by
 obtain ⟨cs, hb, hs, _⟩ := h.blk
 refine ⟨⟨_, (blk_cell hb j).trans (Array.getElem?_eq_getElem (by omega))⟩, blk_frozen hb j⟩
theorem DM.push {g : Nat} {W0 : World} {i : Nat} {t : List UInt8} {w : World} (h : DM g W0 (i + 1) t w) (b : UInt8) (z : Int) (hz : z = (b.toNat : Int)) (hg : W0.heap.size ≤ g) : DM g W0 i (b :: t) (w.setCell ⟨g, i, none⟩ (.int .u8 z)) := by
 subst hz
 obtain ⟨cs, hb, hs, hc⟩ := h.blk
 have hl := h.len
 refine ⟨h.bl.trans (below_set48 w g i _), ⟨_, blk_set hb i _, by simp [hs], ?_⟩, by simp; omega⟩
 intro j b' hj
 cases j with
 | zero =>
  simp at hj
  subst hj
  rw [Nat.add_zero, Array.getElem?_setIfInBounds_self_of_lt (by omega)]
 | succ j =>
  simp at hj
  rw [Array.getElem?_setIfInBounds_ne (by omega), show i + (j + 1) = i + 1 + j from by omega]
  exact hc j b' hj
theorem DM.drop {g : Nat} {W0 : World} {i : Nat} {t : List UInt8} {w : World} (h : DM g W0 i t w) (d : Nat) (hd : d ≤ t.length) : DM g W0 (i + d) (t.drop d) w := by
 obtain ⟨cs, hb, hs, hc⟩ := h.blk
 have hl := h.len
 refine ⟨h.bl, ⟨cs, hb, hs, ?_⟩, by simp; omega⟩
 intro j b hj
 rw [List.getElem?_drop] at hj
 rw [Nat.add_assoc]
 exact hc _ b hj
structure DInv (T : Int × List UInt8) (f R i : Nat) (dot e : Int) (last : Nat) (t : List UInt8) : Prop where
 run : dRun f R i dot e last t = T
 i48 : i ≤ 48
 l48 : last ≤ 48
 il : i ≤ last
 fi : f + 1 ≤ i
 alt : (dot = 48 + e ∧ f + 2 ≤ i) ∨ (dot = 48 ∧ e = 0)
 e0 : -6176 ≤ e
 e1 : e ≤ 11000
structure DMid (T : Int × List UInt8) (f R i : Nat) (dot e : Int) (last : Nat) (t : List UInt8) : Prop where
 run : dStep (dRun f) R i dot e last t = T
 i48 : i ≤ 48
 l48 : last ≤ 48
 il : i ≤ last + 1
 fi : f + 2 ≤ i
 alt : (dot = 48 + e ∧ f + 3 ≤ i ∧ e ≤ 11000) ∨ (dot = 48 ∧ e = 0) ∨ (dot = 48 ∧ R < 10 ∧ i < 48)
 e0 : -6176 ≤ e
 e1 : e ≤ 12000
theorem DInv.none {T : Int × List UInt8} {f R i : Nat} {dot e : Int} {last : Nat} {t : List UInt8} (h : DInv T (f + 1) R i dot e last t) (hp : ¬ dPoint R i dot e) : DMid T f R i dot e last t := by
 obtain ⟨h1, h2, h3, h4, h5, h6, h7, h8⟩ := h
 rw [dRun, if_neg hp] at h1
 exact ⟨h1, h2, h3, by omega, by omega, by omega, h7, by omega⟩
theorem DInv.point {T : Int × List UInt8} {f R i : Nat} {dot e : Int} {last : Nat} {t : List UInt8} (h : DInv T (f + 1) R i dot e last t) (hp : dPoint R i dot e) : DMid T f R (i - 1) 48 (e + (48 - i)) (i - 2) (46 :: t) := by
 obtain ⟨h1, h2, h3, h4, h5, h6, h7, h8⟩ := h
 rw [dRun, if_pos hp] at h1
 unfold dPoint at hp
 exact ⟨h1, by omega, by omega, by omega, by omega, by omega, by omega, by omega⟩
def dB1 (Z i : Nat) (dot e : Int) : Prop := Z = 0 ∧ i = 48 ∧ (dot < 42 ∨ 0 < e)
instance (Z i : Nat) (dot e : Int) : Decidable (dB1 Z i dot e) := by unfold dB1; infer_instance
def dB2 (Z i : Nat) (dot : Int) : Prop := (i : Int) - 1 < dot ∧ Z = 0
instance (Z i : Nat) (dot : Int) : Decidable (dB2 Z i dot) := by unfold dB2; infer_instance
theorem DMid.b1 {T : Int × List UInt8} {f R i : Nat} {dot e : Int} {last : Nat} {t : List UInt8} (h : DMid T f R i dot e last t) (hb : dB1 (R / 10) i dot e) : T = (e, UInt8.ofNat (48 + R % 10) :: t) := by
 have h1 := h.run
 unfold dStep at h1
 have hb' : R / 10 = 0 ∧ i = 48 ∧ (dot < 42 ∨ 0 < e) := hb
 rw [if_pos hb'] at h1
 exact h1.symm
theorem DMid.b2 {T : Int × List UInt8} {f R i : Nat} {dot e : Int} {last : Nat} {t : List UInt8} (h : DMid T f R i dot e last t) (hb : ¬ dB1 (R / 10) i dot e) (h2 : dB2 (R / 10) i dot) : T = (e, (UInt8.ofNat (48 + R % 10) :: t).drop ((if R % 10 = 0 then last else i - 1) - (i - 1))) := by
 have h1 := h.run
 unfold dStep at h1
 have hb' : ¬ (R / 10 = 0 ∧ i = 48 ∧ (dot < 42 ∨ 0 < e)) := hb
 have h2' : (i : Int) - 1 < dot ∧ R / 10 = 0 := h2
 rw [if_neg hb', if_pos h2'] at h1
 exact h1.symm
theorem DMid.on {T : Int × List UInt8} {f R i : Nat} {dot e : Int} {last : Nat} {t : List UInt8} (h : DMid T f R i dot e last t) (hb : ¬ dB1 (R / 10) i dot e) (h2 : ¬ dB2 (R / 10) i dot) : DInv T f (R / 10) (i - 1) dot e (if R % 10 = 0 then last else i - 1) (UInt8.ofNat (48 + R % 10) :: t) := by
 obtain ⟨h1, q2, h3, h4, h5, h6, h7, h8⟩ := h
 unfold dStep at h1
 have hb' : ¬ (R / 10 = 0 ∧ i = 48 ∧ (dot < 42 ∨ 0 < e)) := hb
 have h2' : ¬ ((i : Int) - 1 < dot ∧ R / 10 = 0) := h2
 rw [if_neg hb', if_neg h2'] at h1
 unfold dB2 at h2
 have h6' : (dot = 48 + e ∧ f + 3 ≤ i ∧ e ≤ 11000) ∨ (dot = 48 ∧ e = 0) := by
  rcases h6 with h | h | ⟨ha, hb, hc⟩
  ·exact .inl h
  ·exact .inr h
  ·exact absurd ⟨by omega, by omega⟩ h2
 exact ⟨h1, by omega, by split <;> omega, by split <;> omega, by omega, by omega, h7, by omega⟩
theorem dR_mod (N r j : Nat) (hj : j < 9) : (N * 10 ^ (9 - j) + r) % 10 = r % 10 := by
 obtain ⟨k, hk⟩ : ∃ k, 9 - j = k + 1 := ⟨8 - j, by omega⟩
 rw [hk, Nat.pow_succ, ← Nat.mul_assoc]
 omega
theorem dR_div (N r j : Nat) (hj : j < 9) : (N * 10 ^ (9 - j) + r) / 10 = N * 10 ^ (9 - (j + 1)) + r / 10 := by
 obtain ⟨k, hk⟩ : ∃ k, 9 - j = k + 1 := ⟨8 - j, by omega⟩
 rw [hk, show 9 - (j + 1) = k from by omega, Nat.pow_succ, ← Nat.mul_assoc]
 omega
theorem dR_zero (N r k : Nat) : N * 10 ^ k + r = 0 ↔ N = 0 ∧ r = 0 := by
 have := Nat.pow_pos (n := k) (show 0 < 10 by omega)
 constructor
 ·intro h
  refine ⟨?_, by omega⟩
  rcases Nat.eq_zero_or_pos N with h1 | h1
  ·exact h1
  ·have := Nat.mul_le_mul h1 this
   omega
 ·rintro ⟨rfl, rfl⟩
  simp
theorem decFin_zero (neg : Bool) : decFin neg 0 0 = (if neg then [45] else []) ++ [48] := by
 have h1 : Lib.nDigits 0 = 1 := Lib.nDigits_small (by omega)
 have h2 : Lib.decDigits 0 = [48] := Lib.decDigits_one (by omega)
 simp [decFin, decBody, decExpT, h1, h2]
theorem DM.str {g : Nat} {W0 : World} {i : Nat} {t : List UInt8} {w : World} (h : DM g W0 i t w) (n cap : Nat) (hn : t.length = n) : (convert 23 9 (.slice (some ⟨g, i, none⟩) n cap)).run Tryz.prog w = .ok (.string ⟨t.toArray⟩) w := by
 subst hn
 obtain ⟨cs, hb, hs, hc⟩ := h.blk
 refine Lib.run_convert_whole (P := Tryz.prog) w 23 5 9 Tryz.underlying23 Tryz.underlying5 Tryz.underlying9 g i ⟨t.toArray⟩ ?_ cap
 intro j hj
 have hj' : j < t.length := by simpa [ByteArray.size] using hj
 rw [blk_cell hb]
 exact hc j _ (by rw [List.getElem?_eq_getElem hj']; rfl)
theorem DM.mono {g : Nat} {W0 : World} {i : Nat} {t : List UInt8} {w w' : World} (h : DM g W0 i t w) (hb : Below w.heap.size w w') (hg : g ≤ w.heap.size) : DM g W0 i t w' := by
 obtain ⟨cs, hk, hs, hc⟩ := h.blk
 exact ⟨h.bl.trans (hb.mono hg), ⟨cs, (hb.block g (blk_lt hk)).trans hk, hs, hc⟩, h.len⟩
theorem len262 : Tryz.prog.arrayLen 262 = 48 := by kernel_rfl
theorem elem262 : Tryz.prog.elem 262 = 5 := by kernel_rfl
theorem und262 : Tryz.prog.underlying 262 = some (.array (Tryz.prog.arrayLen 262) (Tryz.prog.elem 262)) := by kernel_rfl
theorem slice262 (g lo : Nat) (h : lo < 48) (W : World) : (Instr.sliceAt 262 (.pointer (some ⟨g, 0, none⟩)) (some (.int .i64 (lo : Int))) none none).run Tryz.prog W = .ok (.slice (some ⟨g, lo, none⟩) (48 - lo) (48 - lo)) W := by
 rw [run_sliceAt_array_l W 262 ⟨g, 0, none⟩ und262 .i64 (lo : Int) (by omega) (by rw [len262]; omega), len262, elem262]
 have hs : (sizeOf 5).run Tryz.prog W = .ok 1 W := by
  simp [go_sem, Tryz.sizeOf5]
 rw [hs]
 have : ¬ (48 : Nat) = lo := by omega
 simp [slicedAt, Result.andThen, this, Addr.add]
 try omega
end Go.Proofs.YtpfkgpcnhdkkbaaGreatDoor
