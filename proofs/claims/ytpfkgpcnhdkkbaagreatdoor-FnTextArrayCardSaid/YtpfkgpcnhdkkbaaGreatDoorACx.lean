/- Truncate and ExtCut: the beginning of a text of UTF-8, whole characters; conditions: its size. -/
import Derived.Test.YtpfkgpcnhdkkbaaGreatDoorAGi
namespace Go.Proofs.YtpfkgpcnhdkkbaaGreatDoor
open Go.RowKit
set_option linter.unusedVariables false
set_option linter.unusedSimpArgs false
set_option maxRecDepth 100000
theorem rs_fin : ∀ k : Fin 256, (bits .and .u8 (k.val : Int) 192 != 128) = !(k.val / 64 == 2) := by decide +kernel
theorem runeStart_any (x : Nat) (hx : x < 256) (w : World) : Calls Tryz.prog 198 #[.int .u8 (x : Int)] w fun e w' => e = .returned (.bool (!(x / 64 == 2))) ∧ w = w' := by
 have h := rs_fin ⟨x, hx⟩
 simp only at h
 go_enter Tryz.func198, Tryz.ntmps198
 go_wp2_with fail
 go_ret
 exact ⟨rfl, rfl⟩
theorem take_str (s : ByteArray) (n : Nat) : s.extract 0 n = ⟨(s.data.toList.take n).toArray⟩ := by
 have := Lib.extract_data s 0 n
 rw [List.drop_zero, Nat.sub_zero] at this
 have e : (s.extract 0 n).data = (s.data.toList.take n).toArray := by rw [← this]
 cases hq : s.extract 0 n
 rw [hq] at e
 exact congrArg ByteArray.mk e
theorem trunc_any (s : ByteArray) (n : Nat) (h1 : 1 ≤ n) (h2 : n < s.size) (hs : s.size ≤ 1000000000) (w : World) : Calls Tryz.prog 134 #[.string s, .int .i64 (n : Int)] w fun e w' => e = .returned (.string ⟨(cutL s.data.toList n).toArray⟩) ∧ w = w' := by
 have hl : s.data.toList.length = s.size := Array.length_toList
 have hc : cutL s.data.toList n = s.data.toList.take (bk s.data.toList n) := if_neg (by omega)
 rw [hc]
 have hbk : ∀ i, bk s.data.toList (i + 1) = if byA s (i + 1) / 64 = 2 then bk s.data.toList i else i + 1 := fun i => rfl
 have hx : ∀ (i : Nat) (h : i < s.size), ((s[i]'h).toNat : Int) = byA s i := fun i h => byA_at s i h
 have hxl := byA_lt s n
 have HB := LH hbk
 have HT := LH (take_str s)
 have HL := LH (byA_lt s)
 by_cases hn : byA s n / 64 = 2
 ·have hb : (!(byA s n / 64 == 2)) = false := by simp [hn]
  obtain ⟨x, hx0⟩ : ∃ x, byA s n = x := ⟨_, rfl⟩
  rw [hx0] at hn hb hxl
  have HE := LH (hb ▸ runeStart_any x hxl)
  have hxn : ∀ h : n < s.size, ((s[n]'h).toNat : Int) = x := fun h => by rw [hx n h, hx0]
  have HX := LH hx
  clear hx0 hc hbk hxl hl hn hb hx
  go_enter Tryz.func134, Tryz.ntmps134
  go_wp2_with (go_at_call 198; refine (HE.out _).mono ?_; rintro e w1 ⟨rfl, rfl⟩)
  go_loop [5] (fun i => ∃ q : Nat, i = .int .i64 q ∧ q ≤ n ∧ Hid (bk s.data.toList q = bk s.data.toList n)) (fun i => (intOf i).toNat)
  case atStart => exact ⟨n, rfl, Nat.le_refl _, rfl⟩
  case round =>
   obtain ⟨q, rfl, hq, HQ⟩ := hrel
   clear hxn
   cases q with
   | zero =>
    go_wp2_with fail
    go_ret
    exact ⟨congrArg (fun z => Ending.returned (.string z)) (show ByteArray.empty = _ from by rw [← HQ.out]; rfl), rfl⟩
   | succ q =>
    have hlt : q + 1 < s.size := by omega
    have hbq := HB.out q
    have hr := runeStart_any (byA s (q + 1)) (HL.out _)
    have hxq : ∀ h : q + 1 < s.size, ((s[q + 1]'h).toNat : Int) = byA s (q + 1) := fun h => HX.out _ h
    by_cases hn : byA s (q + 1) / 64 = 2
    ·rw [if_pos hn] at hbq
     rw [show (!(byA s (q + 1) / 64 == 2)) = false from by simp [hn]] at hr
     have HR := LH hr
     have HBQ := LH hbq
     clear hr hbq hn
     go_wp2_with (go_at_call 198; refine (HR.out _).mono ?_; rintro e w1 ⟨rfl, rfl⟩)
     go_round
     case rel => exact ⟨q, by go_num, by omega, HBQ.out.symm.trans HQ.out⟩
     case measure => simp [intOf]
    ·rw [if_neg hn] at hbq
     rw [show (!(byA s (q + 1) / 64 == 2)) = true from by simp [hn]] at hr
     have HR := LH hr
     have HBQ := LH hbq
     clear hr hbq hn
     go_wp2_with (go_at_call 198; refine (HR.out _).mono ?_; rintro e w1 ⟨rfl, rfl⟩)
     go_ret
     exact ⟨congrArg (fun z => Ending.returned (.string z)) (show s.extract 0 (q + 1) = _ from by rw [← HQ.out, HBQ.out]; exact HT.out (q + 1)), rfl⟩
 ·have hb : (!(byA s n / 64 == 2)) = true := by simp [hn]
  have hbn : bk s.data.toList n = n := by
   obtain ⟨m, rfl⟩ : ∃ m, n = m + 1 := ⟨n - 1, by omega⟩
   rw [hbk, if_neg hn]
  obtain ⟨x, hx0⟩ : ∃ x, byA s n = x := ⟨_, rfl⟩
  rw [hx0] at hn hb hxl
  have HE := LH (hb ▸ runeStart_any x hxl)
  have hxn : ∀ h : n < s.size, ((s[n]'h).toNat : Int) = x := fun h => by rw [hx n h, hx0]
  have HBN := LH hbn
  clear hx0 hc hbk hxl hl hn hb hx hbn
  go_enter Tryz.func134, Tryz.ntmps134
  go_wp2_with (go_at_call 198; refine (HE.out _).mono ?_; rintro e w1 ⟨rfl, rfl⟩)
  go_ret
  exact ⟨congrArg (fun z => Ending.returned (.string z)) (show s.extract 0 n = _ from by rw [HBN.out]; exact HT.out n), rfl⟩
theorem extCut_any (s : ByteArray) (n : Nat) (hv : VU s.data.toList) (hn : n ≤ 100000) (hs : s.size ≤ 1000000000) (w : World) : Calls Tryz.prog 20 #[.string s, .int .i64 (n : Int)] w fun e w' => e = .returned (.string ⟨(cutL s.data.toList n).toArray⟩) ∧ w = w' := by
 have hl : s.data.toList.length = s.size := Array.length_toList
 have HT := LH (take_str s)
 have HL := LH hl
 have HV := LH hv
 clear hl hv
 go_enter Tryz.func20, Tryz.ntmps20
 go_wp2_with fail
 go_loop [5] (fun i => ∃ q : Nat, i = .int .i64 q ∧ q ≤ n ∧ q ≤ s.size ∧ Hid (∃ a b, s.data.toList = a ++ b ∧ a.length = q ∧ VU b)) (fun i => s.size - (intOf i).toNat)
 case atStart => exact ⟨0, rfl, Nat.zero_le _, Nat.zero_le _, [], _, rfl, rfl, HV.out⟩
 case round =>
  obtain ⟨q, rfl, hq, hqs, HQ⟩ := hrel
  by_cases hlt : q < s.size
  ·have hcall := extRune_at s q w
   obtain ⟨a, r, b, hab, ha, hr, hb⟩ : ∃ a r b, s.data.toList = a ++ (r ++ b) ∧ a.length = q ∧ Rn r ∧ VU b := by
    obtain ⟨a, b, hab, ha, hb⟩ := HQ.out
    cases hb with
    | nil => have := congrArg List.length hab; rw [HL.out, List.append_nil] at this; omega
    | cons r l hr hb => exact ⟨a, r, l, hab, ha, hr, hb⟩
   have hx1 : (xrA s q).1 = r.length := by
    rw [xrA_L, hab, ← ha, List.drop_left]
    exact hr.dec b
   have hp := hr.pos
   have hlen := congrArg List.length hab
   rw [HL.out, List.length_append, List.length_append, ha] at hlen
   have hcut : n < q + r.length → cutL s.data.toList n = s.data.toList.take q := fun h => by
    rw [hab, cut_step a r b n hr (by omega) (by omega), ← ha, List.take_left]
   have hnx : ∃ a b, s.data.toList = a ++ b ∧ a.length = q + r.length ∧ VU b := ⟨a ++ r, b, by rw [hab, List.append_assoc], by rw [List.length_append, ha], hb⟩
   have HN := LH hnx
   have HC := LH hcut
   rw [hx1] at hcall
   generalize (xrA s q).2 = c at hcall
   generalize r.length = m at hcall hp hlen HC HN
   have HE := LH hcall
   have hm0 : ((m : Int) == 0) = false := by simp; omega
   have hle : q + m ≤ s.size := by omega
   clear hcall hx1 hcut hnx hab ha hr hb hlen HQ
   by_cases hnm : n < q + m
   ·have hd : decide ((n : Int) < (q : Int) + (m : Int)) = true := decide_eq_true (by omega)
    go_wp2_with (go_at_call 53; refine HE.out.mono ?_; rintro e w' ⟨rfl, rfl⟩)
    go_ret
    exact ⟨congrArg (fun z => Ending.returned (.string z)) (show s.extract 0 q = _ from by rw [HC.out hnm]; exact HT.out q), rfl⟩
   ·have hd : decide ((n : Int) < (q : Int) + (m : Int)) = false := decide_eq_false (by omega)
    go_wp2_with (go_at_call 53; refine HE.out.mono ?_; rintro e w' ⟨rfl, rfl⟩)
    go_round
    case rel => exact ⟨q + m, by go_num, by omega, hle, HN.out⟩
    case measure => simp [intOf]; omega
  ·have hc : cutL s.data.toList n = s.data.toList.take q := by
    rw [cut_all _ _ (by rw [HL.out]; omega), List.take_of_length_le (by rw [HL.out]; omega)]
   have HC := LH hc
   clear hc
   go_wp2_with fail
   go_ret
   exact ⟨congrArg (fun z => Ending.returned (.string z)) (show s.extract 0 q = _ from by rw [HC.out]; exact HT.out q), rfl⟩
end Go.Proofs.YtpfkgpcnhdkkbaaGreatDoor
