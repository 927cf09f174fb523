/- spec.ExtBase64: bytes in base 64. -/
import Derived.Test.YtpfkgpcnhdkkbaaGreatDoorAOb
import Derived.Test.YtpfkgpcnhdkkbaaGreatDoorAGi
import Derived.Deep.CutRange
import Derived.Deep.LoopGhost
namespace Go.Proofs.YtpfkgpcnhdkkbaaGreatDoor
set_option maxHeartbeats 8000000
open Go.RowKit
set_option linter.unusedVariables false
set_option linter.unusedSimpArgs false
set_option maxRecDepth 100000
theorem cell_lat {w w' : World} (h : Below w.heap.size w w') {p : Addr} {u : Value} (hc : w.cell? p = some u) : w'.cell? p = some u :=
 (h.cell (World.block_lt_of_cell? w _ hc)).trans hc
theorem spot_none {w : World} {ad : Addr} {u : Value} (h : w.cell? ad = some u) : ad.spot = none := by
 cases hs : ad.spot with
 | none => rfl
 | some k =>
  exfalso
  have he : w.cell? ad = none := by
   unfold World.cell?
   cases w.heap[ad.block]? with
   | none => rfl
   | some o => cases o <;> simp [hs]
  rw [he] at h
  cases h
theorem rb_spot {w : World} {A : Option Addr} {l : List UInt8} (hr : RB w A l) (h : 0 < l.length) {ad : Addr} (e : A = some ad) : ad.spot = none := by
 obtain ⟨ad', e', hc⟩ := hr h
 rw [e] at e'
 obtain rfl := Option.some.inj e'
 have := hc 0 l[0] (by simp [h])
 exact spot_none (by simpa [Addr.add] using this)
theorem addrP (g o j : Nat) : (⟨g, o, none⟩ : Addr).add j = ⟨g, o + j, none⟩ := by
 unfold Addr.add
 split
 ·rename_i h; subst h; rfl
 ·rfl
def b6c (n : Nat) : UInt8 := if n < 26 then UInt8.ofNat (65 + n) else if n < 52 then UInt8.ofNat (71 + n) else if n < 62 then UInt8.ofNat (n - 4) else if n = 62 then 43 else 47
def b6L : ByteArray := ⟨#[65, 66, 67, 68, 69, 70, 71, 72, 73, 74, 75, 76, 77, 78, 79, 80, 81, 82, 83, 84, 85, 86, 87, 88, 89, 90, 97, 98, 99, 100, 101, 102, 103, 104, 105, 106, 107, 108, 109, 110, 111, 112, 113, 114, 115, 116, 117, 118, 119, 120, 121, 122, 48, 49, 50, 51, 52, 53, 54, 55, 56, 57, 43, 47]⟩
theorem b6_fin : ∀ k : Fin 64, b6L[k.val]'(k.isLt) = b6c k.val := by decide +kernel
theorem b6_ix (k : Nat) (h : k < (⟨#[65, 66, 67, 68, 69, 70, 71, 72, 73, 74, 75, 76, 77, 78, 79, 80, 81, 82, 83, 84, 85, 86, 87, 88, 89, 90, 97, 98, 99, 100, 101, 102, 103, 104, 105, 106, 107, 108, 109, 110, 111, 112, 113, 114, 115, 116, 117, 118, 119, 120, 121, 122, 48, 49, 50, 51, 52, 53, 54, 55, 56, 57, 43, 47]⟩ : ByteArray).size) : (⟨#[65, 66, 67, 68, 69, 70, 71, 72, 73, 74, 75, 76, 77, 78, 79, 80, 81, 82, 83, 84, 85, 86, 87, 88, 89, 90, 97, 98, 99, 100, 101, 102, 103, 104, 105, 106, 107, 108, 109, 110, 111, 112, 113, 114, 115, 116, 117, 118, 119, 120, 121, 122, 48, 49, 50, 51, 52, 53, 54, 55, 56, 57, 43, 47]⟩ : ByteArray)[k]'h = b6c k := b6_fin ⟨k, h⟩
def b6 : List UInt8 → List UInt8
 | [] => []
 | [a] => [b6c (a.toNat / 4), b6c (a.toNat % 4 * 16), 61, 61]
 | [a, b] => [b6c (a.toNat / 4), b6c (a.toNat % 4 * 16 + b.toNat / 16), b6c (b.toNat % 16 * 4), 61]
 | a :: b :: c :: t => [b6c (a.toNat / 4), b6c (a.toNat % 4 * 16 + b.toNat / 16), b6c (b.toNat % 16 * 4 + c.toNat / 64), b6c (c.toNat % 64)] ++ b6 t
def b6B (l : List UInt8) : ByteArray := ⟨(b6 l).toArray⟩
theorem or_low (a b v j : Nat) (hb : b < 256) (ha : a < 1000000000000) (hj : a % 256 = 0) (hv : a + b = v) : bits .or .i64 (a : Int) (b : Int) = (v : Int) := by
 rw [bits_join .i64 62 (by decide) wraps_i64_62 8 _ _ (by omega) (by rw [show (2 : Int) ^ 8 = 256 from rfl]; omega) (by omega) (by omega) (by rw [show (2 : Int) ^ 8 = 256 from rfl]; omega) (by omega)]
 omega
theorem and63 (a : Int) (i : Nat) (h0 : 0 ≤ a) (h1 : a < 4611686018427387904) (hi : a % 64 = (i : Int)) : bits .and .i64 a 63 = (i : Int) := by
 have := bits_mask .i64 62 (by decide) wraps_i64_62 6 (by decide) a h0 (by omega)
 rw [show (2 : Int) ^ 6 - 1 = 63 from rfl, show (2 : Int) ^ 6 = 64 from rfl] at this
 rw [this, hi]
theorem extBase64_any (l : List UInt8) (A : Option Addr) (cap : Nat) (w : World) (hl : l.length ≤ 1000000000) (hr : RB w A l) : Calls Tryz.prog 31 #[.slice A l.length cap] w fun e w' => e = .returned (.string (b6B l)) ∧ Below w.heap.size w w' := by
 have HR := LH hr
 have HAA := LH (fun (h : 0 < l.length) (ad : Addr) (e : A = some ad) => rb_spot hr h e)
 have H0 := LH (OB.nil (B := w.heap.size) (Nat.le_refl _))
 clear hr
 go_enter Tryz.func31, Tryz.ntmps31
 go_wp2
 go_loopg [3, 4] l.length (fun k v i wr => ∃ (q : Nat) (acc : List UInt8), i = .int .i64 q ∧ l.length - q ≤ k ∧ q ≤ l.length + 2 ∧ Hid (acc.length ≤ 2 * q) ∧ Hid (acc ++ b6 (l.drop q) = b6 l) ∧ Hid (OB w.heap.size v acc w wr))
 case atStart => exact ⟨0, [], rfl, by omega, by omega, by show _ ≤ _; simp, by show _ = _; simp, H0⟩
 case round =>
  obtain ⟨q, acc, rfl, hqk, hq2, HA, HE, HB⟩ := hrel
  by_cases hlt : q < l.length
  ·obtain ⟨ad, rfl, hcell⟩ := HR.out (by omega)
   obtain ⟨g, o, sp⟩ := ad
   obtain rfl : sp = none := HAA.out (by omega) _ rfl
   by_cases h3 : q + 2 < l.length
   ·obtain ⟨a, ha⟩ : ∃ a, l[q]? = some a := ⟨_, List.getElem?_eq_getElem hlt⟩
    obtain ⟨b, hb⟩ : ∃ a, l[q + 1]? = some a := ⟨_, List.getElem?_eq_getElem (show q + 1 < l.length by omega)⟩
    obtain ⟨c, hc⟩ : ∃ a, l[q + 2]? = some a := ⟨_, List.getElem?_eq_getElem h3⟩
    have c0 := cell_lat HB.out.below (hcell q a ha)
    have c1 := cell_lat HB.out.below (hcell (q + 1) b hb)
    have c2 := cell_lat HB.out.below (hcell (q + 2) c hc)
    rw [addrP] at c0 c1 c2
    have t1 : ((q : Int) + 1).toNat = q + 1 := by omega
    have t2 : ((q : Int) + 2).toNat = q + 2 := by omega
    have la := a.toNat_lt
    have lb := b.toNat_lt
    have lc := c.toNat_lt
    obtain ⟨x, hx⟩ : ∃ x, a.toNat = x := ⟨_, rfl⟩
    obtain ⟨y, hy⟩ : ∃ x, b.toNat = x := ⟨_, rfl⟩
    obtain ⟨z, hz⟩ : ∃ x, c.toNat = x := ⟨_, rfl⟩
    rw [hx] at c0 la
    rw [hy] at c1 lb
    rw [hz] at c2 lc
    have HD := LH (show b6 (l.drop q) = [b6c (x / 4), b6c (x % 4 * 16 + y / 16), b6c (y % 16 * 4 + z / 64), b6c (z % 64)] ++ b6 (l.drop (q + 3)) by
     rw [List.drop_eq_getElem_cons hlt, List.drop_eq_getElem_cons (show q + 1 < l.length by omega), List.drop_eq_getElem_cons h3]
     rw [List.getElem?_eq_getElem hlt, Option.some.injEq] at ha
     rw [List.getElem?_eq_getElem (show q + 1 < l.length by omega), Option.some.injEq] at hb
     rw [List.getElem?_eq_getElem h3, Option.some.injEq] at hc
     rw [ha, hb, hc, b6, hx, hy, hz])
    have m0 : bits .or .i64 0 (x : Int) = (x : Int) := by rw [bits_join .i64 62 (by decide) wraps_i64_62 8 _ _ (by omega) (by simp) (by omega) (by omega) (by rw [show (2 : Int) ^ 8 = 256 from rfl]; omega) (by omega)]; omega
    obtain ⟨xy, hxy⟩ : ∃ v, x * 256 + y = v := ⟨_, rfl⟩
    have m1 := or_low (x * 256) y xy 0 (by omega) (by omega) (by omega) hxy
    obtain ⟨n, hn⟩ : ∃ v, xy * 256 + z = v := ⟨_, rfl⟩
    have m2 := or_low (xy * 256) z n 0 (by omega) (by omega) (by omega) hn
    rw [show ((x * 256 : Nat) : Int) = (x : Int) * 256 from by omega] at m1
    rw [show ((xy * 256 : Nat) : Int) = (xy : Int) * 256 from by omega] at m2
    have xyl : xy < 65536 := by omega
    have nl : n < 16777216 := by omega
    have HXY := LH hxy
    have HN := LH hn
    obtain ⟨i0, hi0⟩ : ∃ v, n / 262144 % 64 = v := ⟨_, rfl⟩
    have f0 := and63 ((n : Int) / 262144) i0 (by omega) (by omega) (by omega)
    have il0 : i0 < 64 := by omega
    obtain ⟨i1, hi1⟩ : ∃ v, n / 4096 % 64 = v := ⟨_, rfl⟩
    have f1 := and63 ((n : Int) / 4096) i1 (by omega) (by omega) (by omega)
    have il1 : i1 < 64 := by omega
    obtain ⟨i2, hi2⟩ : ∃ v, n / 64 % 64 = v := ⟨_, rfl⟩
    have f2 := and63 ((n : Int) / 64) i2 (by omega) (by omega) (by omega)
    have il2 : i2 < 64 := by omega
    obtain ⟨i3, hi3⟩ : ∃ v, n / 1 % 64 = v := ⟨_, rfl⟩
    have f3 := and63 ((n : Int)) i3 (by omega) (by omega) (by omega)
    have il3 : i3 < 64 := by omega
    have HD2 := LH (show b6 (l.drop q) = [b6c i0, b6c i1, b6c i2, b6c i3] ++ b6 (l.drop (q + 3)) by rw [HD.out, show x / 4 = i0 from by omega, show x % 4 * 16 + y / 16 = i1 from by omega, show y % 16 * 4 + z / 64 = i2 from by omega, show z % 64 = i3 from by omega])
    clear hx hy hz ha hb hc hcell hxy hn HD hi0 hi1 hi2 hi3
    go_wp2
    refine wp_loop_rounds 4 ?_
    rw [rounds_succ]
    go_wp2
    rw [rounds_succ]
    go_wp2
    rw [rounds_succ]
    go_wp2
    rw [rounds_succ]
    go_wp2
    refine wp_loop_rounds 5 ?_
    rw [rounds_succ]
    go_wp2_with (first | (at_builtin; refine ob_byte rfl _ _ rfl rfl (b6c i0) _ (by rw [b6_ix]) HB.out rfl (by have h_1 := HA.out; (try simp only [List.length_append, List.length_cons, List.length_nil]); omega) ?_; intro v0 w0 hb0; have HB1 := LH hb0; clear hb0 HB) | (at_builtin; refine ob_byte rfl _ _ rfl rfl (b6c i1) _ (by rw [b6_ix]) HB1.out rfl (by have h_1 := HA.out; (try simp only [List.length_append, List.length_cons, List.length_nil]); omega) ?_; intro v1 w1 hb1; have HB2 := LH hb1; clear hb1 HB1) | (at_builtin; refine ob_byte rfl _ _ rfl rfl (b6c i2) _ (by rw [b6_ix]) HB2.out rfl (by have h_1 := HA.out; (try simp only [List.length_append, List.length_cons, List.length_nil]); omega) ?_; intro v2 w2 hb2; have HB3 := LH hb2; clear hb2 HB2) | (at_builtin; refine ob_byte rfl _ _ rfl rfl (b6c i3) _ (by rw [b6_ix]) HB3.out rfl (by have h_1 := HA.out; (try simp only [List.length_append, List.length_cons, List.length_nil]); omega) ?_; intro v3 w3 hb3; have HB4 := LH hb3; clear hb3 HB3))
    rw [rounds_succ]
    go_wp2_with (first | (at_builtin; refine ob_byte rfl _ _ rfl rfl (b6c i0) _ (by rw [b6_ix]) HB.out rfl (by have h_1 := HA.out; (try simp only [List.length_append, List.length_cons, List.length_nil]); omega) ?_; intro v0 w0 hb0; have HB1 := LH hb0; clear hb0 HB) | (at_builtin; refine ob_byte rfl _ _ rfl rfl (b6c i1) _ (by rw [b6_ix]) HB1.out rfl (by have h_1 := HA.out; (try simp only [List.length_append, List.length_cons, List.length_nil]); omega) ?_; intro v1 w1 hb1; have HB2 := LH hb1; clear hb1 HB1) | (at_builtin; refine ob_byte rfl _ _ rfl rfl (b6c i2) _ (by rw [b6_ix]) HB2.out rfl (by have h_1 := HA.out; (try simp only [List.length_append, List.length_cons, List.length_nil]); omega) ?_; intro v2 w2 hb2; have HB3 := LH hb2; clear hb2 HB2) | (at_builtin; refine ob_byte rfl _ _ rfl rfl (b6c i3) _ (by rw [b6_ix]) HB3.out rfl (by have h_1 := HA.out; (try simp only [List.length_append, List.length_cons, List.length_nil]); omega) ?_; intro v3 w3 hb3; have HB4 := LH hb3; clear hb3 HB3))
    rw [rounds_succ]
    go_wp2_with (first | (at_builtin; refine ob_byte rfl _ _ rfl rfl (b6c i0) _ (by rw [b6_ix]) HB.out rfl (by have h_1 := HA.out; (try simp only [List.length_append, List.length_cons, List.length_nil]); omega) ?_; intro v0 w0 hb0; have HB1 := LH hb0; clear hb0 HB) | (at_builtin; refine ob_byte rfl _ _ rfl rfl (b6c i1) _ (by rw [b6_ix]) HB1.out rfl (by have h_1 := HA.out; (try simp only [List.length_append, List.length_cons, List.length_nil]); omega) ?_; intro v1 w1 hb1; have HB2 := LH hb1; clear hb1 HB1) | (at_builtin; refine ob_byte rfl _ _ rfl rfl (b6c i2) _ (by rw [b6_ix]) HB2.out rfl (by have h_1 := HA.out; (try simp only [List.length_append, List.length_cons, List.length_nil]); omega) ?_; intro v2 w2 hb2; have HB3 := LH hb2; clear hb2 HB2) | (at_builtin; refine ob_byte rfl _ _ rfl rfl (b6c i3) _ (by rw [b6_ix]) HB3.out rfl (by have h_1 := HA.out; (try simp only [List.length_append, List.length_cons, List.length_nil]); omega) ?_; intro v3 w3 hb3; have HB4 := LH hb3; clear hb3 HB3))
    rw [rounds_succ]
    go_wp2_with (first | (at_builtin; refine ob_byte rfl _ _ rfl rfl (b6c i0) _ (by rw [b6_ix]) HB.out rfl (by have h_1 := HA.out; (try simp only [List.length_append, List.length_cons, List.length_nil]); omega) ?_; intro v0 w0 hb0; have HB1 := LH hb0; clear hb0 HB) | (at_builtin; refine ob_byte rfl _ _ rfl rfl (b6c i1) _ (by rw [b6_ix]) HB1.out rfl (by have h_1 := HA.out; (try simp only [List.length_append, List.length_cons, List.length_nil]); omega) ?_; intro v1 w1 hb1; have HB2 := LH hb1; clear hb1 HB1) | (at_builtin; refine ob_byte rfl _ _ rfl rfl (b6c i2) _ (by rw [b6_ix]) HB2.out rfl (by have h_1 := HA.out; (try simp only [List.length_append, List.length_cons, List.length_nil]); omega) ?_; intro v2 w2 hb2; have HB3 := LH hb2; clear hb2 HB2) | (at_builtin; refine ob_byte rfl _ _ rfl rfl (b6c i3) _ (by rw [b6_ix]) HB3.out rfl (by have h_1 := HA.out; (try simp only [List.length_append, List.length_cons, List.length_nil]); omega) ?_; intro v3 w3 hb3; have HB4 := LH hb3; clear hb3 HB3))
    rw [rounds_succ]
    go_wp2_with (first | (at_builtin; refine ob_byte rfl _ _ rfl rfl (b6c i0) _ (by rw [b6_ix]) HB.out rfl (by have h_1 := HA.out; (try simp only [List.length_append, List.length_cons, List.length_nil]); omega) ?_; intro v0 w0 hb0; have HB1 := LH hb0; clear hb0 HB) | (at_builtin; refine ob_byte rfl _ _ rfl rfl (b6c i1) _ (by rw [b6_ix]) HB1.out rfl (by have h_1 := HA.out; (try simp only [List.length_append, List.length_cons, List.length_nil]); omega) ?_; intro v1 w1 hb1; have HB2 := LH hb1; clear hb1 HB1) | (at_builtin; refine ob_byte rfl _ _ rfl rfl (b6c i2) _ (by rw [b6_ix]) HB2.out rfl (by have h_1 := HA.out; (try simp only [List.length_append, List.length_cons, List.length_nil]); omega) ?_; intro v2 w2 hb2; have HB3 := LH hb2; clear hb2 HB2) | (at_builtin; refine ob_byte rfl _ _ rfl rfl (b6c i3) _ (by rw [b6_ix]) HB3.out rfl (by have h_1 := HA.out; (try simp only [List.length_append, List.length_cons, List.length_nil]); omega) ?_; intro v3 w3 hb3; have HB4 := LH hb3; clear hb3 HB3))
    go_roundg (l.length - (q + 3))
    case rel => exact ⟨q + 3, acc ++ [b6c i0, b6c i1, b6c i2, b6c i3], by go_num, by omega, by omega, by have h_1 := HA.out; show (_ : List UInt8).length ≤ _; simp only [List.length_append, List.length_cons, List.length_nil]; omega, by have := HE.out; rw [HD2.out] at this; show _ = _; simpa using this, by have := HB4.out; show OB _ _ _ _ _; simpa using this⟩
    case measure => omega
   ·by_cases h2 : q + 1 < l.length
    ·obtain ⟨a, ha⟩ : ∃ a, l[q]? = some a := ⟨_, List.getElem?_eq_getElem hlt⟩
     have c0 := cell_lat HB.out.below (hcell q a ha)
     rw [addrP] at c0
     have la := a.toNat_lt
     obtain ⟨b, hb⟩ : ∃ a, l[q + 1]? = some a := ⟨_, List.getElem?_eq_getElem (show q + 1 < l.length by omega)⟩
     have c1 := cell_lat HB.out.below (hcell (q + 1) b hb)
     rw [addrP] at c1
     have lb := b.toNat_lt
     obtain ⟨x, hx⟩ : ∃ x, a.toNat = x := ⟨_, rfl⟩
     rw [hx] at c0 la
     obtain ⟨y, hy⟩ : ∃ x, b.toNat = x := ⟨_, rfl⟩
     rw [hy] at c1 lb
     have t1 : ((q : Int) + 1).toNat = q + 1 := by omega
     have t2 : ((q : Int) + 2).toNat = q + 2 := by omega
     have HD := LH (show b6 (l.drop q) = [b6c (x / 4), b6c (x % 4 * 16 + y / 16), b6c (y % 16 * 4), 61] by
      rw [List.drop_eq_getElem_cons hlt, List.drop_eq_getElem_cons (show q + 1 < l.length by omega), List.drop_eq_nil_of_le (by omega)]
      rw [List.getElem?_eq_getElem hlt, Option.some.injEq] at ha
      rw [List.getElem?_eq_getElem (show q + 1 < l.length by omega), Option.some.injEq] at hb
      rw [ha, hb, b6, hx, hy])
     have m0 : bits .or .i64 0 (x : Int) = (x : Int) := by rw [bits_join .i64 62 (by decide) wraps_i64_62 8 _ _ (by omega) (by simp) (by omega) (by omega) (by rw [show (2 : Int) ^ 8 = 256 from rfl]; omega) (by omega)]; omega
     obtain ⟨xy, hxy⟩ : ∃ v, x * 256 + y = v := ⟨_, rfl⟩
     have m1 := or_low (x * 256) y xy 0 (by omega) (by omega) (by omega) hxy
     rw [show ((x * 256 : Nat) : Int) = (x : Int) * 256 from by omega] at m1
     have xyl : xy < 65536 := by omega
     obtain ⟨n, hn⟩ : ∃ v, xy * 256 = v := ⟨_, rfl⟩
     have m2 : (xy : Int) * 256 = (n : Int) := by omega
     have nl : n < 16777216 := by omega
     obtain ⟨i0, hi0⟩ : ∃ v, n / 262144 % 64 = v := ⟨_, rfl⟩
     have f0 := and63 ((n : Int) / 262144) i0 (by omega) (by omega) (by omega)
     have il0 : i0 < 64 := by omega
     obtain ⟨i1, hi1⟩ : ∃ v, n / 4096 % 64 = v := ⟨_, rfl⟩
     have f1 := and63 ((n : Int) / 4096) i1 (by omega) (by omega) (by omega)
     have il1 : i1 < 64 := by omega
     obtain ⟨i2, hi2⟩ : ∃ v, n / 64 % 64 = v := ⟨_, rfl⟩
     have f2 := and63 ((n : Int) / 64) i2 (by omega) (by omega) (by omega)
     have il2 : i2 < 64 := by omega
     have HD2 := LH (show b6 (l.drop q) = [b6c i0, b6c i1, b6c i2, 61] by rw [HD.out, show x / 4 = i0 from by omega, show x % 4 * 16 + y / 16 = i1 from by omega, show y % 16 * 4 = i2 from by omega])
     have HZ := LH (show l.drop (q + 3) = [] from List.drop_eq_nil_of_le (by omega))
     clear hx hy ha hb hcell hxy hn HD hi0 hi1 hi2
     go_wp2
     refine wp_loop_rounds 4 ?_
     rw [rounds_succ]
     go_wp2
     rw [rounds_succ]
     go_wp2
     rw [rounds_succ]
     go_wp2
     rw [rounds_succ]
     go_wp2
     refine wp_loop_rounds 5 ?_
     rw [rounds_succ]
     go_wp2_with (first | (at_builtin; refine ob_byte rfl _ _ rfl rfl (b6c i0) _ (by rw [b6_ix]) HB.out rfl (by have h_1 := HA.out; (try simp only [List.length_append, List.length_cons, List.length_nil]); omega) ?_; intro v0 w0 hb0; have HB1 := LH hb0; clear hb0 HB) | (at_builtin; refine ob_byte rfl _ _ rfl rfl (b6c i1) _ (by rw [b6_ix]) HB1.out rfl (by have h_1 := HA.out; (try simp only [List.length_append, List.length_cons, List.length_nil]); omega) ?_; intro v1 w1 hb1; have HB2 := LH hb1; clear hb1 HB1) | (at_builtin; refine ob_byte rfl _ _ rfl rfl (b6c i2) _ (by rw [b6_ix]) HB2.out rfl (by have h_1 := HA.out; (try simp only [List.length_append, List.length_cons, List.length_nil]); omega) ?_; intro v2 w2 hb2; have HB3 := LH hb2; clear hb2 HB2) | (at_builtin; refine ob_byte rfl _ _ rfl rfl 61 _ rfl HB3.out rfl (by have h_1 := HA.out; (try simp only [List.length_append, List.length_cons, List.length_nil]); omega) ?_; intro v3 w3 hb3; have HB4 := LH hb3; clear hb3 HB3))
     rw [rounds_succ]
     go_wp2_with (first | (at_builtin; refine ob_byte rfl _ _ rfl rfl (b6c i0) _ (by rw [b6_ix]) HB.out rfl (by have h_1 := HA.out; (try simp only [List.length_append, List.length_cons, List.length_nil]); omega) ?_; intro v0 w0 hb0; have HB1 := LH hb0; clear hb0 HB) | (at_builtin; refine ob_byte rfl _ _ rfl rfl (b6c i1) _ (by rw [b6_ix]) HB1.out rfl (by have h_1 := HA.out; (try simp only [List.length_append, List.length_cons, List.length_nil]); omega) ?_; intro v1 w1 hb1; have HB2 := LH hb1; clear hb1 HB1) | (at_builtin; refine ob_byte rfl _ _ rfl rfl (b6c i2) _ (by rw [b6_ix]) HB2.out rfl (by have h_1 := HA.out; (try simp only [List.length_append, List.length_cons, List.length_nil]); omega) ?_; intro v2 w2 hb2; have HB3 := LH hb2; clear hb2 HB2) | (at_builtin; refine ob_byte rfl _ _ rfl rfl 61 _ rfl HB3.out rfl (by have h_1 := HA.out; (try simp only [List.length_append, List.length_cons, List.length_nil]); omega) ?_; intro v3 w3 hb3; have HB4 := LH hb3; clear hb3 HB3))
     rw [rounds_succ]
     go_wp2_with (first | (at_builtin; refine ob_byte rfl _ _ rfl rfl (b6c i0) _ (by rw [b6_ix]) HB.out rfl (by have h_1 := HA.out; (try simp only [List.length_append, List.length_cons, List.length_nil]); omega) ?_; intro v0 w0 hb0; have HB1 := LH hb0; clear hb0 HB) | (at_builtin; refine ob_byte rfl _ _ rfl rfl (b6c i1) _ (by rw [b6_ix]) HB1.out rfl (by have h_1 := HA.out; (try simp only [List.length_append, List.length_cons, List.length_nil]); omega) ?_; intro v1 w1 hb1; have HB2 := LH hb1; clear hb1 HB1) | (at_builtin; refine ob_byte rfl _ _ rfl rfl (b6c i2) _ (by rw [b6_ix]) HB2.out rfl (by have h_1 := HA.out; (try simp only [List.length_append, List.length_cons, List.length_nil]); omega) ?_; intro v2 w2 hb2; have HB3 := LH hb2; clear hb2 HB2) | (at_builtin; refine ob_byte rfl _ _ rfl rfl 61 _ rfl HB3.out rfl (by have h_1 := HA.out; (try simp only [List.length_append, List.length_cons, List.length_nil]); omega) ?_; intro v3 w3 hb3; have HB4 := LH hb3; clear hb3 HB3))
     rw [rounds_succ]
     go_wp2_with (first | (at_builtin; refine ob_byte rfl _ _ rfl rfl (b6c i0) _ (by rw [b6_ix]) HB.out rfl (by have h_1 := HA.out; (try simp only [List.length_append, List.length_cons, List.length_nil]); omega) ?_; intro v0 w0 hb0; have HB1 := LH hb0; clear hb0 HB) | (at_builtin; refine ob_byte rfl _ _ rfl rfl (b6c i1) _ (by rw [b6_ix]) HB1.out rfl (by have h_1 := HA.out; (try simp only [List.length_append, List.length_cons, List.length_nil]); omega) ?_; intro v1 w1 hb1; have HB2 := LH hb1; clear hb1 HB1) | (at_builtin; refine ob_byte rfl _ _ rfl rfl (b6c i2) _ (by rw [b6_ix]) HB2.out rfl (by have h_1 := HA.out; (try simp only [List.length_append, List.length_cons, List.length_nil]); omega) ?_; intro v2 w2 hb2; have HB3 := LH hb2; clear hb2 HB2) | (at_builtin; refine ob_byte rfl _ _ rfl rfl 61 _ rfl HB3.out rfl (by have h_1 := HA.out; (try simp only [List.length_append, List.length_cons, List.length_nil]); omega) ?_; intro v3 w3 hb3; have HB4 := LH hb3; clear hb3 HB3))
     rw [rounds_succ]
     go_wp2_with (first | (at_builtin; refine ob_byte rfl _ _ rfl rfl (b6c i0) _ (by rw [b6_ix]) HB.out rfl (by have h_1 := HA.out; (try simp only [List.length_append, List.length_cons, List.length_nil]); omega) ?_; intro v0 w0 hb0; have HB1 := LH hb0; clear hb0 HB) | (at_builtin; refine ob_byte rfl _ _ rfl rfl (b6c i1) _ (by rw [b6_ix]) HB1.out rfl (by have h_1 := HA.out; (try simp only [List.length_append, List.length_cons, List.length_nil]); omega) ?_; intro v1 w1 hb1; have HB2 := LH hb1; clear hb1 HB1) | (at_builtin; refine ob_byte rfl _ _ rfl rfl (b6c i2) _ (by rw [b6_ix]) HB2.out rfl (by have h_1 := HA.out; (try simp only [List.length_append, List.length_cons, List.length_nil]); omega) ?_; intro v2 w2 hb2; have HB3 := LH hb2; clear hb2 HB2) | (at_builtin; refine ob_byte rfl _ _ rfl rfl 61 _ rfl HB3.out rfl (by have h_1 := HA.out; (try simp only [List.length_append, List.length_cons, List.length_nil]); omega) ?_; intro v3 w3 hb3; have HB4 := LH hb3; clear hb3 HB3))
     go_roundg (l.length - (q + 3))
     case rel => exact ⟨q + 3, acc ++ [b6c i0, b6c i1, b6c i2, 61], by go_num, by omega, by omega, by have h_1 := HA.out; show (_ : List UInt8).length ≤ _; simp only [List.length_append, List.length_cons, List.length_nil]; omega, by have := HE.out; rw [HD2.out] at this; show _ = _; rw [HZ.out]; simpa [b6] using this, by have := HB4.out; show OB _ _ _ _ _; simpa using this⟩
     case measure => omega
    ·obtain ⟨a, ha⟩ : ∃ a, l[q]? = some a := ⟨_, List.getElem?_eq_getElem hlt⟩
     have c0 := cell_lat HB.out.below (hcell q a ha)
     rw [addrP] at c0
     have la := a.toNat_lt
     obtain ⟨x, hx⟩ : ∃ x, a.toNat = x := ⟨_, rfl⟩
     rw [hx] at c0 la
     have t1 : ((q : Int) + 1).toNat = q + 1 := by omega
     have t2 : ((q : Int) + 2).toNat = q + 2 := by omega
     have HD := LH (show b6 (l.drop q) = [b6c (x / 4), b6c (x % 4 * 16), 61, 61] by
      rw [List.drop_eq_getElem_cons hlt, List.drop_eq_nil_of_le (by omega)]
      rw [List.getElem?_eq_getElem hlt, Option.some.injEq] at ha
      rw [ha, b6, hx])
     have m0 : bits .or .i64 0 (x : Int) = (x : Int) := by rw [bits_join .i64 62 (by decide) wraps_i64_62 8 _ _ (by omega) (by simp) (by omega) (by omega) (by rw [show (2 : Int) ^ 8 = 256 from rfl]; omega) (by omega)]; omega
     obtain ⟨xy, hxy⟩ : ∃ v, x * 256 = v := ⟨_, rfl⟩
     have m1 : (x : Int) * 256 = (xy : Int) := by omega
     have xyl : xy < 65536 := by omega
     obtain ⟨n, hn⟩ : ∃ v, xy * 256 = v := ⟨_, rfl⟩
     have m2 : (xy : Int) * 256 = (n : Int) := by omega
     have nl : n < 16777216 := by omega
     obtain ⟨i0, hi0⟩ : ∃ v, n / 262144 % 64 = v := ⟨_, rfl⟩
     have f0 := and63 ((n : Int) / 262144) i0 (by omega) (by omega) (by omega)
     have il0 : i0 < 64 := by omega
     obtain ⟨i1, hi1⟩ : ∃ v, n / 4096 % 64 = v := ⟨_, rfl⟩
     have f1 := and63 ((n : Int) / 4096) i1 (by omega) (by omega) (by omega)
     have il1 : i1 < 64 := by omega
     have HD2 := LH (show b6 (l.drop q) = [b6c i0, b6c i1, 61, 61] by rw [HD.out, show x / 4 = i0 from by omega, show x % 4 * 16 = i1 from by omega])
     have HZ := LH (show l.drop (q + 3) = [] from List.drop_eq_nil_of_le (by omega))
     clear hx ha hcell hxy hn HD hi0 hi1
     go_wp2
     refine wp_loop_rounds 4 ?_
     rw [rounds_succ]
     go_wp2
     rw [rounds_succ]
     go_wp2
     rw [rounds_succ]
     go_wp2
     rw [rounds_succ]
     go_wp2
     refine wp_loop_rounds 5 ?_
     rw [rounds_succ]
     go_wp2_with (first | (at_builtin; refine ob_byte rfl _ _ rfl rfl (b6c i0) _ (by rw [b6_ix]) HB.out rfl (by have h_1 := HA.out; (try simp only [List.length_append, List.length_cons, List.length_nil]); omega) ?_; intro v0 w0 hb0; have HB1 := LH hb0; clear hb0 HB) | (at_builtin; refine ob_byte rfl _ _ rfl rfl (b6c i1) _ (by rw [b6_ix]) HB1.out rfl (by have h_1 := HA.out; (try simp only [List.length_append, List.length_cons, List.length_nil]); omega) ?_; intro v1 w1 hb1; have HB2 := LH hb1; clear hb1 HB1) | (at_builtin; refine ob_byte rfl _ _ rfl rfl 61 _ rfl HB2.out rfl (by have h_1 := HA.out; (try simp only [List.length_append, List.length_cons, List.length_nil]); omega) ?_; intro v2 w2 hb2; have HB3 := LH hb2; clear hb2 HB2) | (at_builtin; refine ob_byte rfl _ _ rfl rfl 61 _ rfl HB3.out rfl (by have h_1 := HA.out; (try simp only [List.length_append, List.length_cons, List.length_nil]); omega) ?_; intro v3 w3 hb3; have HB4 := LH hb3; clear hb3 HB3))
     rw [rounds_succ]
     go_wp2_with (first | (at_builtin; refine ob_byte rfl _ _ rfl rfl (b6c i0) _ (by rw [b6_ix]) HB.out rfl (by have h_1 := HA.out; (try simp only [List.length_append, List.length_cons, List.length_nil]); omega) ?_; intro v0 w0 hb0; have HB1 := LH hb0; clear hb0 HB) | (at_builtin; refine ob_byte rfl _ _ rfl rfl (b6c i1) _ (by rw [b6_ix]) HB1.out rfl (by have h_1 := HA.out; (try simp only [List.length_append, List.length_cons, List.length_nil]); omega) ?_; intro v1 w1 hb1; have HB2 := LH hb1; clear hb1 HB1) | (at_builtin; refine ob_byte rfl _ _ rfl rfl 61 _ rfl HB2.out rfl (by have h_1 := HA.out; (try simp only [List.length_append, List.length_cons, List.length_nil]); omega) ?_; intro v2 w2 hb2; have HB3 := LH hb2; clear hb2 HB2) | (at_builtin; refine ob_byte rfl _ _ rfl rfl 61 _ rfl HB3.out rfl (by have h_1 := HA.out; (try simp only [List.length_append, List.length_cons, List.length_nil]); omega) ?_; intro v3 w3 hb3; have HB4 := LH hb3; clear hb3 HB3))
     rw [rounds_succ]
     go_wp2_with (first | (at_builtin; refine ob_byte rfl _ _ rfl rfl (b6c i0) _ (by rw [b6_ix]) HB.out rfl (by have h_1 := HA.out; (try simp only [List.length_append, List.length_cons, List.length_nil]); omega) ?_; intro v0 w0 hb0; have HB1 := LH hb0; clear hb0 HB) | (at_builtin; refine ob_byte rfl _ _ rfl rfl (b6c i1) _ (by rw [b6_ix]) HB1.out rfl (by have h_1 := HA.out; (try simp only [List.length_append, List.length_cons, List.length_nil]); omega) ?_; intro v1 w1 hb1; have HB2 := LH hb1; clear hb1 HB1) | (at_builtin; refine ob_byte rfl _ _ rfl rfl 61 _ rfl HB2.out rfl (by have h_1 := HA.out; (try simp only [List.length_append, List.length_cons, List.length_nil]); omega) ?_; intro v2 w2 hb2; have HB3 := LH hb2; clear hb2 HB2) | (at_builtin; refine ob_byte rfl _ _ rfl rfl 61 _ rfl HB3.out rfl (by have h_1 := HA.out; (try simp only [List.length_append, List.length_cons, List.length_nil]); omega) ?_; intro v3 w3 hb3; have HB4 := LH hb3; clear hb3 HB3))
     rw [rounds_succ]
     go_wp2_with (first | (at_builtin; refine ob_byte rfl _ _ rfl rfl (b6c i0) _ (by rw [b6_ix]) HB.out rfl (by have h_1 := HA.out; (try simp only [List.length_append, List.length_cons, List.length_nil]); omega) ?_; intro v0 w0 hb0; have HB1 := LH hb0; clear hb0 HB) | (at_builtin; refine ob_byte rfl _ _ rfl rfl (b6c i1) _ (by rw [b6_ix]) HB1.out rfl (by have h_1 := HA.out; (try simp only [List.length_append, List.length_cons, List.length_nil]); omega) ?_; intro v1 w1 hb1; have HB2 := LH hb1; clear hb1 HB1) | (at_builtin; refine ob_byte rfl _ _ rfl rfl 61 _ rfl HB2.out rfl (by have h_1 := HA.out; (try simp only [List.length_append, List.length_cons, List.length_nil]); omega) ?_; intro v2 w2 hb2; have HB3 := LH hb2; clear hb2 HB2) | (at_builtin; refine ob_byte rfl _ _ rfl rfl 61 _ rfl HB3.out rfl (by have h_1 := HA.out; (try simp only [List.length_append, List.length_cons, List.length_nil]); omega) ?_; intro v3 w3 hb3; have HB4 := LH hb3; clear hb3 HB3))
     rw [rounds_succ]
     go_wp2_with (first | (at_builtin; refine ob_byte rfl _ _ rfl rfl (b6c i0) _ (by rw [b6_ix]) HB.out rfl (by have h_1 := HA.out; (try simp only [List.length_append, List.length_cons, List.length_nil]); omega) ?_; intro v0 w0 hb0; have HB1 := LH hb0; clear hb0 HB) | (at_builtin; refine ob_byte rfl _ _ rfl rfl (b6c i1) _ (by rw [b6_ix]) HB1.out rfl (by have h_1 := HA.out; (try simp only [List.length_append, List.length_cons, List.length_nil]); omega) ?_; intro v1 w1 hb1; have HB2 := LH hb1; clear hb1 HB1) | (at_builtin; refine ob_byte rfl _ _ rfl rfl 61 _ rfl HB2.out rfl (by have h_1 := HA.out; (try simp only [List.length_append, List.length_cons, List.length_nil]); omega) ?_; intro v2 w2 hb2; have HB3 := LH hb2; clear hb2 HB2) | (at_builtin; refine ob_byte rfl _ _ rfl rfl 61 _ rfl HB3.out rfl (by have h_1 := HA.out; (try simp only [List.length_append, List.length_cons, List.length_nil]); omega) ?_; intro v3 w3 hb3; have HB4 := LH hb3; clear hb3 HB3))
     go_roundg (l.length - (q + 3))
     case rel => exact ⟨q + 3, acc ++ [b6c i0, b6c i1, 61, 61], by go_num, by omega, by omega, by have h_1 := HA.out; show (_ : List UInt8).length ≤ _; simp only [List.length_append, List.length_cons, List.length_nil]; omega, by have := HE.out; rw [HD2.out] at this; show _ = _; rw [HZ.out]; simpa [b6] using this, by have := HB4.out; show OB _ _ _ _ _; simpa using this⟩
     case measure => omega
  ·have hstr := HB.out.str
   have HZ := LH (show l.drop q = [] from List.drop_eq_nil_of_le (by omega))
   go_wp2
   go_ret
   refine ⟨?_, HB.out.below⟩
   have he := HE.out
   rw [HZ.out, b6, List.append_nil] at he
   unfold b6B
   rw [← he]
   rfl
end Go.Proofs.YtpfkgpcnhdkkbaaGreatDoor
