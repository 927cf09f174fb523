/- bsoncore.escapeString: a text in quotes, with < > and & by their numbers; conditions: the tables, a size. -/
import Derived.Test.YtpfkgpcnhdkkbaaGreatDoorAGj
import Derived.Test.YtpfkgpcnhdkkbaaGreatDoorAMg
import Derived.Deep.CutRange
import Derived.Test.YtpfkgpcnhdkkbaaGreatDoorAMl
namespace Go.Proofs.YtpfkgpcnhdkkbaaGreatDoor
set_option maxHeartbeats 8000000
open Go.RowKit
set_option linter.unusedVariables false
set_option linter.unusedSimpArgs false
theorem below_dr2 {B : Nat} {a w : World} (h : Below B a w) (n : Nat) : Below B a (w.drewN n) := ⟨h.os, h.tape, h.output, h.size, h.block⟩
set_option maxRecDepth 100000 in
theorem escS_any (s : ByteArray) (w : World) (hT : TabX w) (h17 : 17 ≤ w.heap.size) (hs : s.size ≤ 1000000000) :
  Calls Tryz.prog 110 #[.string s] w fun e w' => e = .returned (.string ⟨(jout true s).toArray⟩) ∧ Below w.heap.size w w' := by
 obtain ⟨Y, hY⟩ : ∃ Y, w.alloc (.cells #[.slice none 0 0, .int .i64 0, .int .i8 0] 64) = Y := ⟨_, rfl⟩
 have hYb : Below w.heap.size w Y := hY ▸ below_allocB _ _
 have hf : IsB w.heap.size w.heap.size [] Y := hY ▸ fresh_b w
 obtain ⟨b, hb⟩ : ∃ b, w.heap.size = b := ⟨_, rfl⟩
 obtain ⟨l, hl⟩ : ∃ l : List UInt8, [] = l := ⟨_, rfl⟩
 rw [hb, hl] at hf
 rw [hb] at hYb h17 ⊢
 have HLN := LH hl
 have HYB := LH hYb
 have HT := LH (hT.below hYb h17)
 have HI := LH hf
 have HBw := LH (hb ▸ hYb.size : b ≤ Y.heap.size)
 have HL := LH (hl ▸ by simp : l.length ≤ 100000000000)
 have HY := LH hY
 have HBB := LH hb
 clear hT hf hl hYb hY
 go_enter Tryz.func110, Tryz.ntmps110
 go_upto_region 3 with fail
 rw [HY.out]
 try rw [HBB.out]
 go_wp2_with (go_at_call 143; refine (wb HI.out 34 34 rfl HBw.out (by have := HL.out; omega)).mono ?_; rintro e w1 ⟨rfl, h1, b1⟩; refine Hid.out ?_)
 refine LH ?_
 have H1 := LH h1
 have B1 := LH b1
 clear h1 b1
 go_wp2
 go_loopg [5, 6] s.size (fun k st i wr => ∃ (p q f : Nat) (acc : List UInt8), st = .int .i64 p ∧ i = .int .i64 q ∧ p ≤ q ∧ q ≤ s.size ∧ s.size ≤ q + f ∧ s.size - q ≤ k ∧ Hid (acc.length ≤ 6 * p) ∧
   Hid (acc ++ ((s.data.toList.drop p).take (q - p) ++ jfrom true s f q) = jfrom true s s.size 0) ∧ Hid (IsB b b (l ++ ([34] ++ acc)) wr) ∧ Hid (Below b Y wr))
 case atStart => exact ⟨0, 0, s.size, [], rfl, rfl, by omega, by omega, by omega, by omega, by show _ ≤ _; simp, by show _ = _; simp, by show IsB _ _ _ _; simpa using H1.out, B1⟩
 case round =>
  obtain ⟨p, q, f, acc, rfl, rfl, hpq, hqs, hqf, hqk, HA, HE, HB, HW⟩ := hrel
  have HTr := LH (HT.out.below HW.out h17)
  have HBr := LH (Nat.le_trans HBw.out HW.out.size)
  clear H1 B1
  by_cases hlt : q < s.size
  ·obtain ⟨c, hc⟩ : ∃ c : UInt8, s.data.toList.getD q 0 = c := ⟨_, rfl⟩
   have hx : ∀ h : q < s.size, (s[q]'h) = c := fun h => (byte_at s q h).trans hc
   have HC := LH hc
   clear hc
   obtain ⟨f, rfl⟩ : ∃ f', f = f' + 1 := ⟨f - 1, by omega⟩
   have hc256 : c.toNat < 256 := c.toNat_lt
   by_cases h128 : c.toNat < 128
   ·have HJ := LH (show jstep true s q = (jesc true c, 1) by unfold jstep; rw [HC.out, if_pos h128])
    have g3 := HTr.out.h5 c.toNat h128
    have g4 := HTr.out.h6 c.toNat h128
    have d128 : decide ((c.toNat : Int) < 128) = true := decide_eq_true (by omega)
    by_cases hsafe : safeB true c.toNat = true
    ·have HK := LH (show (jstep true s q).1 = (s.data.toList.drop q).take 1 ∧ (jstep true s q).2 = 1 by rw [HJ.out]; exact ⟨by rw [← drop_one hlt HC.out, jesc, if_pos hsafe], rfl⟩)
     have hsf := safe_cases hsafe
     clear hsafe
     rcases hsf with hsf | ⟨_, hx, _⟩
     ·rw [hsf] at g3
      clear hsf g4
      go_wp2
      go_roundg (s.size - (q + 1))
      case rel => exact ⟨p, q + 1, f, acc, rfl, by go_num, by omega, by omega, by omega, by omega, HA, keep_step hpq hlt HK.out.1 HK.out.2 HE.out, HB, HW⟩
      case measure => omega
     ·cases hx
    ·obtain ⟨hu1, hes⟩ := unsafe_cases (by simpa using hsafe)
     have HS := LH hsafe
     rw [hu1] at g3
     clear hsafe hu1
     have HE2 := LH hes
     clear hes
     go_upto_region 9 with (fail)
     go_cut [5, 6, 7, 31] from 11 to 132 (fun v5 v6 v7 v31 wc => v5 = .int .i64 p ∧ v6 = .int .i64 q ∧ v7 = .int .u8 c.toNat ∧ v31 = .bool false ∧ wc = wr)
     case first =>
      go_wp2
      go_meet
      case rel => exact ⟨rfl, rfl, rfl, rfl, rfl⟩
     case rest =>
      obtain ⟨rfl, rfl, rfl, rfl, rfl⟩ := hcut
      clear HE2 g3 g4
      go_upto_if 36 with fail
      go_cut [5, 6, 7] from 11 to 132 (fun v5 v6 v7 wc => v5 = .int .i64 p ∧ v6 = .int .i64 q ∧ v7 = .int .u8 c.toNat ∧ Hid (IsB b b (l ++ ([34] ++ (acc ++ (s.data.toList.drop p).take (q - p)))) wc) ∧ Hid (Below b Y wc))
      case first =>
       as_aux_lemma =>
       by_cases hpl : p < q
       ·go_wp2_with (go_at_call 144; refine (ws HB.out (s.extract p q) HBr.out (by have h_1 := HL.out; have h_2 := HA.out; simp [ByteArray.size_extract]; omega)).mono ?_; rintro e w2 ⟨rfl, h2, b2⟩; refine Hid.out ?_)
        refine LH ?_
        have X2 := LH h2
        have Y2 := LH (HW.out.trans b2)
        clear h2 b2
        go_wp2
        go_meet
        case rel => exact ⟨rfl, rfl, rfl, by have := X2.out; rw [cut_data _ _ _ hqs] at this; show IsB _ _ _ _; simpa using this, Y2⟩
       ·go_wp2
        go_meet
        case rel => exact ⟨rfl, rfl, rfl, by have := HB.out; show IsB _ _ _ _; rw [show q - p = 0 from by omega]; simpa using this, HW⟩
      case rest =>
       obtain ⟨rfl, rfl, rfl, HX, HY⟩ := hcut
       have HBc := LH (Nat.le_trans HBw.out HY.out.size)
       have HLL := LH (show (l ++ ([34] ++ (acc ++ (s.data.toList.drop p).take (q - p)))).length ≤ 200000000000 by have h_1 := HL.out; have h_2 := HA.out; have h_3 : ((s.data.toList.drop p).take (q - p)).length ≤ q - p := List.length_take_le _ _; simp only [List.length_append, List.length_cons, List.length_nil]; omega)
       clear HB HW HBr
       have HU := LH (jesc_un HS.out)
       clear HS HTr
       obtain ⟨m, hm⟩ : ∃ m, c.toNat = m := ⟨_, rfl⟩
       rw [hm] at HU hc256 h128 d128 ⊢
       have HM := LH hm
       clear hm
       by_cases hk : m = 92 ∨ m = 34
       ·have HO := LH (show jstep true s q = ([92, c], 1) by rw [HJ.out, HU.out, if_pos hk])
        clear HJ HU
        rcases hk with rfl | rfl
        ·as_aux_lemma =>
          go_wp2_with (go_at_call 143; refine (wb HX.out 92 92 rfl (Nat.le_trans HBw.out HY.out.size) (by have := HLL.out; simp only [List.length_append, List.length_cons, List.length_nil, List.toList_toArray] at this ⊢; omega)).mono ?_; rintro e w3 ⟨rfl, h3, b3⟩; refine Hid.out ?_)
          refine LH ?_
          have X3 := LH h3
          have Y3 := LH (HY.out.trans b3)
          clear h3 b3
          go_wp2_with (go_at_call 143; refine (wb X3.out c _ (by have := HM.out; omega) (Nat.le_trans HBw.out Y3.out.size) (by have := HLL.out; simp only [List.length_append, List.length_cons, List.length_nil, List.toList_toArray] at this ⊢; omega)).mono ?_; rintro e w4 ⟨rfl, h4, b4⟩; refine Hid.out ?_)
          refine LH ?_
          have X4 := LH h4
          have Y4 := LH (Y3.out.trans b4)
          clear h4 b4
          go_wp2
          go_roundg (s.size - (q + 1))
          case rel => exact ⟨q + 1, q + 1, f, acc ++ ((s.data.toList.drop p).take (q - p) ++ [92, c]), by go_num, by go_num, by omega, by omega, by omega, by omega, acc_len HA.out hpq (by simp only [List.length_append, List.length_cons, List.length_nil]; omega), flush_step hlt HO.out HE.out, by have := X4.out; show IsB _ _ _ _; simpa using this, Y4⟩
          case measure => omega
        ·as_aux_lemma =>
          go_wp2_with (go_at_call 143; refine (wb HX.out 92 92 rfl (Nat.le_trans HBw.out HY.out.size) (by have := HLL.out; simp only [List.length_append, List.length_cons, List.length_nil, List.toList_toArray] at this ⊢; omega)).mono ?_; rintro e w3 ⟨rfl, h3, b3⟩; refine Hid.out ?_)
          refine LH ?_
          have X3 := LH h3
          have Y3 := LH (HY.out.trans b3)
          clear h3 b3
          go_wp2_with (go_at_call 143; refine (wb X3.out c _ (by have := HM.out; omega) (Nat.le_trans HBw.out Y3.out.size) (by have := HLL.out; simp only [List.length_append, List.length_cons, List.length_nil, List.toList_toArray] at this ⊢; omega)).mono ?_; rintro e w4 ⟨rfl, h4, b4⟩; refine Hid.out ?_)
          refine LH ?_
          have X4 := LH h4
          have Y4 := LH (Y3.out.trans b4)
          clear h4 b4
          go_wp2
          go_roundg (s.size - (q + 1))
          case rel => exact ⟨q + 1, q + 1, f, acc ++ ((s.data.toList.drop p).take (q - p) ++ [92, c]), by go_num, by go_num, by omega, by omega, by omega, by omega, acc_len HA.out hpq (by simp only [List.length_append, List.length_cons, List.length_nil]; omega), flush_step hlt HO.out HE.out, by have := X4.out; show IsB _ _ _ _; simpa using this, Y4⟩
          case measure => omega
       ·by_cases hk10 : m = 10
        ·have HO := LH (show jstep true s q = ([92, 110], 1) by rw [HJ.out, HU.out, if_neg hk, if_pos hk10])
         clear HJ HU
         subst hk10
         as_aux_lemma =>
          go_wp2_with (go_at_call 143; refine (wb HX.out 92 92 rfl (Nat.le_trans HBw.out HY.out.size) (by have := HLL.out; simp only [List.length_append, List.length_cons, List.length_nil, List.toList_toArray] at this ⊢; omega)).mono ?_; rintro e w3 ⟨rfl, h3, b3⟩; refine Hid.out ?_)
          refine LH ?_
          have X3 := LH h3
          have Y3 := LH (HY.out.trans b3)
          clear h3 b3
          go_wp2_with (go_at_call 143; refine (wb X3.out 110 110 rfl (Nat.le_trans HBw.out Y3.out.size) (by have := HLL.out; simp only [List.length_append, List.length_cons, List.length_nil, List.toList_toArray] at this ⊢; omega)).mono ?_; rintro e w4 ⟨rfl, h4, b4⟩; refine Hid.out ?_)
          refine LH ?_
          have X4 := LH h4
          have Y4 := LH (Y3.out.trans b4)
          clear h4 b4
          go_wp2
          go_roundg (s.size - (q + 1))
          case rel => exact ⟨q + 1, q + 1, f, acc ++ ((s.data.toList.drop p).take (q - p) ++ [92, 110]), by go_num, by go_num, by omega, by omega, by omega, by omega, acc_len HA.out hpq (by simp only [List.length_append, List.length_cons, List.length_nil]; omega), flush_step hlt HO.out HE.out, by have := X4.out; show IsB _ _ _ _; simpa using this, Y4⟩
          case measure => omega
        ·by_cases hk13 : m = 13
         ·have HO := LH (show jstep true s q = ([92, 114], 1) by rw [HJ.out, HU.out, if_neg hk, if_neg hk10, if_pos hk13])
          clear HJ HU
          subst hk13
          as_aux_lemma =>
           go_wp2_with (go_at_call 143; refine (wb HX.out 92 92 rfl (Nat.le_trans HBw.out HY.out.size) (by have := HLL.out; simp only [List.length_append, List.length_cons, List.length_nil, List.toList_toArray] at this ⊢; omega)).mono ?_; rintro e w3 ⟨rfl, h3, b3⟩; refine Hid.out ?_)
           refine LH ?_
           have X3 := LH h3
           have Y3 := LH (HY.out.trans b3)
           clear h3 b3
           go_wp2_with (go_at_call 143; refine (wb X3.out 114 114 rfl (Nat.le_trans HBw.out Y3.out.size) (by have := HLL.out; simp only [List.length_append, List.length_cons, List.length_nil, List.toList_toArray] at this ⊢; omega)).mono ?_; rintro e w4 ⟨rfl, h4, b4⟩; refine Hid.out ?_)
           refine LH ?_
           have X4 := LH h4
           have Y4 := LH (Y3.out.trans b4)
           clear h4 b4
           go_wp2
           go_roundg (s.size - (q + 1))
           case rel => exact ⟨q + 1, q + 1, f, acc ++ ((s.data.toList.drop p).take (q - p) ++ [92, 114]), by go_num, by go_num, by omega, by omega, by omega, by omega, acc_len HA.out hpq (by simp only [List.length_append, List.length_cons, List.length_nil]; omega), flush_step hlt HO.out HE.out, by have := X4.out; show IsB _ _ _ _; simpa using this, Y4⟩
           case measure => omega
         ·by_cases hk9 : m = 9
          ·have HO := LH (show jstep true s q = ([92, 116], 1) by rw [HJ.out, HU.out, if_neg hk, if_neg hk10, if_neg hk13, if_pos hk9])
           clear HJ HU
           subst hk9
           as_aux_lemma =>
            go_wp2_with (go_at_call 143; refine (wb HX.out 92 92 rfl (Nat.le_trans HBw.out HY.out.size) (by have := HLL.out; simp only [List.length_append, List.length_cons, List.length_nil, List.toList_toArray] at this ⊢; omega)).mono ?_; rintro e w3 ⟨rfl, h3, b3⟩; refine Hid.out ?_)
            refine LH ?_
            have X3 := LH h3
            have Y3 := LH (HY.out.trans b3)
            clear h3 b3
            go_wp2_with (go_at_call 143; refine (wb X3.out 116 116 rfl (Nat.le_trans HBw.out Y3.out.size) (by have := HLL.out; simp only [List.length_append, List.length_cons, List.length_nil, List.toList_toArray] at this ⊢; omega)).mono ?_; rintro e w4 ⟨rfl, h4, b4⟩; refine Hid.out ?_)
            refine LH ?_
            have X4 := LH h4
            have Y4 := LH (Y3.out.trans b4)
            clear h4 b4
            go_wp2
            go_roundg (s.size - (q + 1))
            case rel => exact ⟨q + 1, q + 1, f, acc ++ ((s.data.toList.drop p).take (q - p) ++ [92, 116]), by go_num, by go_num, by omega, by omega, by omega, by omega, acc_len HA.out hpq (by simp only [List.length_append, List.length_cons, List.length_nil]; omega), flush_step hlt HO.out HE.out, by have := X4.out; show IsB _ _ _ _; simpa using this, Y4⟩
            case measure => omega
          ·by_cases hk8 : m = 8
           ·have HO := LH (show jstep true s q = ([92, 98], 1) by rw [HJ.out, HU.out, if_neg hk, if_neg hk10, if_neg hk13, if_neg hk9, if_pos hk8])
            clear HJ HU
            subst hk8
            as_aux_lemma =>
             go_wp2_with (go_at_call 143; refine (wb HX.out 92 92 rfl (Nat.le_trans HBw.out HY.out.size) (by have := HLL.out; simp only [List.length_append, List.length_cons, List.length_nil, List.toList_toArray] at this ⊢; omega)).mono ?_; rintro e w3 ⟨rfl, h3, b3⟩; refine Hid.out ?_)
             refine LH ?_
             have X3 := LH h3
             have Y3 := LH (HY.out.trans b3)
             clear h3 b3
             go_wp2_with (go_at_call 143; refine (wb X3.out 98 98 rfl (Nat.le_trans HBw.out Y3.out.size) (by have := HLL.out; simp only [List.length_append, List.length_cons, List.length_nil, List.toList_toArray] at this ⊢; omega)).mono ?_; rintro e w4 ⟨rfl, h4, b4⟩; refine Hid.out ?_)
             refine LH ?_
             have X4 := LH h4
             have Y4 := LH (Y3.out.trans b4)
             clear h4 b4
             go_wp2
             go_roundg (s.size - (q + 1))
             case rel => exact ⟨q + 1, q + 1, f, acc ++ ((s.data.toList.drop p).take (q - p) ++ [92, 98]), by go_num, by go_num, by omega, by omega, by omega, by omega, acc_len HA.out hpq (by simp only [List.length_append, List.length_cons, List.length_nil]; omega), flush_step hlt HO.out HE.out, by have := X4.out; show IsB _ _ _ _; simpa using this, Y4⟩
             case measure => omega
           ·by_cases hk12 : m = 12
            ·have HO := LH (show jstep true s q = ([92, 102], 1) by rw [HJ.out, HU.out, if_neg hk, if_neg hk10, if_neg hk13, if_neg hk9, if_neg hk8, if_pos hk12])
             clear HJ HU
             subst hk12
             as_aux_lemma =>
              go_wp2_with (go_at_call 143; refine (wb HX.out 92 92 rfl (Nat.le_trans HBw.out HY.out.size) (by have := HLL.out; simp only [List.length_append, List.length_cons, List.length_nil, List.toList_toArray] at this ⊢; omega)).mono ?_; rintro e w3 ⟨rfl, h3, b3⟩; refine Hid.out ?_)
              refine LH ?_
              have X3 := LH h3
              have Y3 := LH (HY.out.trans b3)
              clear h3 b3
              go_wp2_with (go_at_call 143; refine (wb X3.out 102 102 rfl (Nat.le_trans HBw.out Y3.out.size) (by have := HLL.out; simp only [List.length_append, List.length_cons, List.length_nil, List.toList_toArray] at this ⊢; omega)).mono ?_; rintro e w4 ⟨rfl, h4, b4⟩; refine Hid.out ?_)
              refine LH ?_
              have X4 := LH h4
              have Y4 := LH (Y3.out.trans b4)
              clear h4 b4
              go_wp2
              go_roundg (s.size - (q + 1))
              case rel => exact ⟨q + 1, q + 1, f, acc ++ ((s.data.toList.drop p).take (q - p) ++ [92, 102]), by go_num, by go_num, by omega, by omega, by omega, by omega, acc_len HA.out hpq (by simp only [List.length_append, List.length_cons, List.length_nil]; omega), flush_step hlt HO.out HE.out, by have := X4.out; show IsB _ _ _ _; simpa using this, Y4⟩
              case measure => omega
            ·have HO := LH (show jstep true s q = ([92, 117, 48, 48, hexd (m / 16), hexd (m % 16)], 1) by rw [HJ.out, HU.out, if_neg hk, if_neg hk10, if_neg hk13, if_neg hk9, if_neg hk8, if_neg hk12])
             clear HJ HU
             as_aux_lemma =>
              go_wp2_with (go_at_call 144; refine (ws HX.out ⟨#[92, 117, 48, 48]⟩ (Nat.le_trans HBw.out HY.out.size) (by have := HLL.out; show _ + 4 ≤ _; simp only [List.length_append, List.length_cons, List.length_nil, List.toList_toArray] at this ⊢; omega)).mono ?_; rintro e w3 ⟨rfl, h3, b3⟩; refine Hid.out ?_)
              refine LH ?_
              have X3 := LH h3
              have Y3 := LH (HY.out.trans b3)
              clear h3 b3
              go_wp2_with (go_at_call 143; refine (wb X3.out (hexd (m / 16)) _ (hex_ixz (by omega) _) (Nat.le_trans HBw.out Y3.out.size) (by have := HLL.out; simp only [List.length_append, List.length_cons, List.length_nil, List.toList_toArray] at this ⊢; omega)).mono ?_; rintro e w4 ⟨rfl, h4, b4⟩; refine Hid.out ?_)
              refine LH ?_
              have X4 := LH h4
              have Y4 := LH (Y3.out.trans b4)
              clear h4 b4
              go_wp2_with (go_at_call 143; refine (wb X4.out (hexd (m % 16)) _ (hex_ixz (by omega) _) (Nat.le_trans HBw.out Y4.out.size) (by have := HLL.out; simp only [List.length_append, List.length_cons, List.length_nil, List.toList_toArray] at this ⊢; omega)).mono ?_; rintro e w5 ⟨rfl, h5, b5⟩; refine Hid.out ?_)
              refine LH ?_
              have X5 := LH h5
              have Y5 := LH (Y4.out.trans b5)
              clear h5 b5
              go_wp2
              go_roundg (s.size - (q + 1))
              case rel => exact ⟨q + 1, q + 1, f, acc ++ ((s.data.toList.drop p).take (q - p) ++ [92, 117, 48, 48, hexd (m / 16), hexd (m % 16)]), by go_num, by go_num, by omega, by omega, by omega, by omega, acc_len HA.out hpq (by simp only [List.length_append, List.length_cons, List.length_nil]; omega), flush_step hlt HO.out HE.out, by have := X5.out; show IsB _ _ _ _; simpa using this, Y5⟩
              case measure => omega
   ·have d128 : decide ((c.toNat : Int) < 128) = false := decide_eq_false (by omega)
    have HN := LH (show ¬ (s.data.toList.getD q 0).toNat < 128 by rw [HC.out]; exact h128)
    obtain ⟨hw1, hw2⟩ := dec_width s q hlt
    obtain ⟨r, hr⟩ : ∃ r, (Lib.decodeGo (suf s q)).1 = r := ⟨_, rfl⟩
    obtain ⟨n, hn⟩ : ∃ n, (Lib.decodeGo (suf s q)).2 = n := ⟨_, rfl⟩
    rw [hn] at hw1 hw2
    have HR := LH hr
    have HNN := LH hn
    clear hr hn
    go_wp2_with (go_at_call 145; refine (Tryz.utf8_DecodeRuneInString (suf s q) _ HTr.out.c.u8).mono ?_; rintro e w2 ⟨rfl, b2⟩; refine Hid.out ?_)
    refine LH ?_
    have HB0 := HB.out.below b2
    have HW0 := HW.out.trans (b2.mono HBr.out)
    clear HB HW HTr
    have HB := LH HB0
    have HW := LH HW0
    have HBr := LH (Nat.le_trans HBw.out HW0.size)
    clear HB0 HW0 b2
    rw [HR.out, HNN.out]
    by_cases hbad : r = 65533 ∧ n = 1
    ·have HO := LH (jstep_bad (esc := true) HN.out (HR.out.trans hbad.1) (HNN.out.trans hbad.2))
     obtain ⟨rfl, rfl⟩ := hbad
     go_upto_if 96 with fail
     go_cut [5, 6, 9] from 11 to 132 (fun v5 v6 v9 wc => v5 = .int .i64 p ∧ v6 = .int .i64 q ∧ v9 = .int .i64 1 ∧ Hid (IsB b b (l ++ ([34] ++ (acc ++ (s.data.toList.drop p).take (q - p)))) wc) ∧ Hid (Below b Y wc))
     case first =>
      as_aux_lemma =>
      by_cases hpl : p < q
      ·go_wp2_with (go_at_call 144; refine (ws HB.out (s.extract p q) HBr.out (by have h_1 := HL.out; have h_2 := HA.out; simp [ByteArray.size_extract]; omega)).mono ?_; rintro e w2 ⟨rfl, h2, b2⟩; refine Hid.out ?_)
       refine LH ?_
       have X2 := LH h2
       have Y2 := LH (HW.out.trans b2)
       clear h2 b2
       go_wp2
       go_meet
       case rel => exact ⟨rfl, rfl, rfl, by have := X2.out; rw [cut_data _ _ _ hqs] at this; show IsB _ _ _ _; simpa using this, Y2⟩
      ·go_wp2
       go_meet
       case rel => exact ⟨rfl, rfl, rfl, by have := HB.out; show IsB _ _ _ _; rw [show q - p = 0 from by omega]; simpa using this, HW⟩
     case rest =>
      obtain ⟨rfl, rfl, rfl, HX, HY⟩ := hcut
      have HBc := LH (Nat.le_trans HBw.out HY.out.size)
      have HLL := LH (show (l ++ ([34] ++ (acc ++ (s.data.toList.drop p).take (q - p)))).length ≤ 200000000000 by have h_1 := HL.out; have h_2 := HA.out; have h_3 : ((s.data.toList.drop p).take (q - p)).length ≤ q - p := List.length_take_le _ _; simp only [List.length_append, List.length_cons, List.length_nil]; omega)
      clear HB HW HBr
      as_aux_lemma =>
       go_wp2_with (go_at_call 144; refine (ws HX.out ⟨#[92, 117, 102, 102, 102, 100]⟩ (Nat.le_trans HBw.out HY.out.size) (by have := HLL.out; show _ + 6 ≤ _; simp only [List.length_append, List.length_cons, List.length_nil, List.toList_toArray] at this ⊢; omega)).mono ?_; rintro e w3 ⟨rfl, h3, b3⟩; refine Hid.out ?_)
       refine LH ?_
       have X3 := LH h3
       have Y3 := LH (HY.out.trans b3)
       clear h3 b3
       go_wp2
       go_roundg (s.size - (q + 1))
       case rel => exact ⟨q + 1, q + 1, f, acc ++ ((s.data.toList.drop p).take (q - p) ++ [92, 117, 102, 102, 102, 100]), by go_num, by go_num, by omega, by omega, by omega, by omega, acc_len HA.out hpq (by simp only [List.length_append, List.length_cons, List.length_nil]; omega), flush_step hlt HO.out HE.out, by have := X3.out; show IsB _ _ _ _; simpa using this, Y3⟩
       case measure => omega
    ·by_cases hline : r = 8232 ∨ r = 8233
     ·have HO := LH (jstep_line (esc := true) HN.out HR.out HNN.out hline)
      clear hbad
      rcases hline with rfl | rfl
      ·go_upto_if 115 with fail
       go_cut [5, 6, 8, 9] from 11 to 132 (fun v5 v6 v8 v9 wc => v5 = .int .i64 p ∧ v6 = .int .i64 q ∧ v8 = .int .i32 8232 ∧ v9 = .int .i64 n ∧ Hid (IsB b b (l ++ ([34] ++ (acc ++ (s.data.toList.drop p).take (q - p)))) wc) ∧ Hid (Below b Y wc))
       case first =>
        as_aux_lemma =>
        by_cases hpl : p < q
        ·go_wp2_with (go_at_call 144; refine (ws HB.out (s.extract p q) HBr.out (by have h_1 := HL.out; have h_2 := HA.out; simp [ByteArray.size_extract]; omega)).mono ?_; rintro e w2 ⟨rfl, h2, b2⟩; refine Hid.out ?_)
         refine LH ?_
         have X2 := LH h2
         have Y2 := LH (HW.out.trans b2)
         clear h2 b2
         go_wp2
         go_meet
         case rel => exact ⟨rfl, rfl, rfl, rfl, by have := X2.out; rw [cut_data _ _ _ hqs] at this; show IsB _ _ _ _; simpa using this, Y2⟩
        ·go_wp2
         go_meet
         case rel => exact ⟨rfl, rfl, rfl, rfl, by have := HB.out; show IsB _ _ _ _; rw [show q - p = 0 from by omega]; simpa using this, HW⟩
       case rest =>
        obtain ⟨rfl, rfl, rfl, rfl, HX, HY⟩ := hcut
        have HBc := LH (Nat.le_trans HBw.out HY.out.size)
        have HLL := LH (show (l ++ ([34] ++ (acc ++ (s.data.toList.drop p).take (q - p)))).length ≤ 200000000000 by have h_1 := HL.out; have h_2 := HA.out; have h_3 : ((s.data.toList.drop p).take (q - p)).length ≤ q - p := List.length_take_le _ _; simp only [List.length_append, List.length_cons, List.length_nil]; omega)
        clear HB HW HBr
        as_aux_lemma =>
         go_wp2_with (go_at_call 144; refine (ws HX.out ⟨#[92, 117, 50, 48, 50]⟩ (Nat.le_trans HBw.out HY.out.size) (by have := HLL.out; show _ + 5 ≤ _; simp only [List.length_append, List.length_cons, List.length_nil, List.toList_toArray] at this ⊢; omega)).mono ?_; rintro e w3 ⟨rfl, h3, b3⟩; refine Hid.out ?_)
         refine LH ?_
         have X3 := LH h3
         have Y3 := LH (HY.out.trans b3)
         clear h3 b3
         go_wp2_with (go_at_call 143; refine (wb X3.out (hexd (8232 % 16)) _ (hex_ixz (by decide) _) (Nat.le_trans HBw.out Y3.out.size) (by have := HLL.out; simp only [List.length_append, List.length_cons, List.length_nil, List.toList_toArray] at this ⊢; omega)).mono ?_; rintro e w4 ⟨rfl, h4, b4⟩; refine Hid.out ?_)
         refine LH ?_
         have X4 := LH h4
         have Y4 := LH (Y3.out.trans b4)
         clear h4 b4
         go_wp2
         go_roundg (s.size - (q + n))
         case rel => exact ⟨q + n, q + n, f, acc ++ ((s.data.toList.drop p).take (q - p) ++ [92, 117, 50, 48, 50, hexd (8232 % 16)]), by go_num, by go_num, by omega, by omega, by omega, by omega, acc_len HA.out hpq (by simp only [List.length_append, List.length_cons, List.length_nil]; omega), flush_step hlt HO.out HE.out, by have := X4.out; show IsB _ _ _ _; simpa using this, Y4⟩
         case measure => omega
      ·go_upto_if 115 with fail
       go_cut [5, 6, 8, 9] from 11 to 132 (fun v5 v6 v8 v9 wc => v5 = .int .i64 p ∧ v6 = .int .i64 q ∧ v8 = .int .i32 8233 ∧ v9 = .int .i64 n ∧ Hid (IsB b b (l ++ ([34] ++ (acc ++ (s.data.toList.drop p).take (q - p)))) wc) ∧ Hid (Below b Y wc))
       case first =>
        as_aux_lemma =>
        by_cases hpl : p < q
        ·go_wp2_with (go_at_call 144; refine (ws HB.out (s.extract p q) HBr.out (by have h_1 := HL.out; have h_2 := HA.out; simp [ByteArray.size_extract]; omega)).mono ?_; rintro e w2 ⟨rfl, h2, b2⟩; refine Hid.out ?_)
         refine LH ?_
         have X2 := LH h2
         have Y2 := LH (HW.out.trans b2)
         clear h2 b2
         go_wp2
         go_meet
         case rel => exact ⟨rfl, rfl, rfl, rfl, by have := X2.out; rw [cut_data _ _ _ hqs] at this; show IsB _ _ _ _; simpa using this, Y2⟩
        ·go_wp2
         go_meet
         case rel => exact ⟨rfl, rfl, rfl, rfl, by have := HB.out; show IsB _ _ _ _; rw [show q - p = 0 from by omega]; simpa using this, HW⟩
       case rest =>
        obtain ⟨rfl, rfl, rfl, rfl, HX, HY⟩ := hcut
        have HBc := LH (Nat.le_trans HBw.out HY.out.size)
        have HLL := LH (show (l ++ ([34] ++ (acc ++ (s.data.toList.drop p).take (q - p)))).length ≤ 200000000000 by have h_1 := HL.out; have h_2 := HA.out; have h_3 : ((s.data.toList.drop p).take (q - p)).length ≤ q - p := List.length_take_le _ _; simp only [List.length_append, List.length_cons, List.length_nil]; omega)
        clear HB HW HBr
        as_aux_lemma =>
         go_wp2_with (go_at_call 144; refine (ws HX.out ⟨#[92, 117, 50, 48, 50]⟩ (Nat.le_trans HBw.out HY.out.size) (by have := HLL.out; show _ + 5 ≤ _; simp only [List.length_append, List.length_cons, List.length_nil, List.toList_toArray] at this ⊢; omega)).mono ?_; rintro e w3 ⟨rfl, h3, b3⟩; refine Hid.out ?_)
         refine LH ?_
         have X3 := LH h3
         have Y3 := LH (HY.out.trans b3)
         clear h3 b3
         go_wp2_with (go_at_call 143; refine (wb X3.out (hexd (8233 % 16)) _ (hex_ixz (by decide) _) (Nat.le_trans HBw.out Y3.out.size) (by have := HLL.out; simp only [List.length_append, List.length_cons, List.length_nil, List.toList_toArray] at this ⊢; omega)).mono ?_; rintro e w4 ⟨rfl, h4, b4⟩; refine Hid.out ?_)
         refine LH ?_
         have X4 := LH h4
         have Y4 := LH (Y3.out.trans b4)
         clear h4 b4
         go_wp2
         go_roundg (s.size - (q + n))
         case rel => exact ⟨q + n, q + n, f, acc ++ ((s.data.toList.drop p).take (q - p) ++ [92, 117, 50, 48, 50, hexd (8233 % 16)]), by go_num, by go_num, by omega, by omega, by omega, by omega, acc_len HA.out hpq (by simp only [List.length_append, List.length_cons, List.length_nil]; omega), flush_step hlt HO.out HE.out, by have := X4.out; show IsB _ _ _ _; simpa using this, Y4⟩
         case measure => omega
     ·have HK := LH (jstep_keep (esc := true) HN.out HR.out HNN.out hbad hline)
      have hk1 : ¬ ((r : Int) = 65533 ∧ (n : Int) = 1) := by omega
      have hk2 : ¬ ((r : Int) = 8232) := by omega
      have hk3 : ¬ ((r : Int) = 8233) := by omega
      clear hbad hline
      by_cases hr5 : r = 65533
      ·have hn1 : ¬ ((n : Int) = 1) := by omega
       have hr5' : (r : Int) = 65533 := by omega
       go_wp2
       go_roundg (s.size - (q + n))
       case rel => exact ⟨p, q + n, f, acc, rfl, by go_num, by omega, by omega, by omega, by omega, HA, keep_step hpq hlt (by rw [HK.out]) (by rw [HK.out]) HE.out, HB, HW⟩
       case measure => omega
      ·have hr5' : ¬ ((r : Int) = 65533) := by omega
       have e1 : ((r : Int) == 65533) = false := beq_eq_false_iff_ne.2 hr5'
       have e2 : ((r : Int) == 8232) = false := beq_eq_false_iff_ne.2 hk2
       have e3 : ((r : Int) == 8233) = false := beq_eq_false_iff_ne.2 hk3
       go_wp2
       go_roundg (s.size - (q + n))
       case rel => exact ⟨p, q + n, f, acc, rfl, by go_num, by omega, by omega, by omega, by omega, HA, keep_step hpq hlt (by rw [HK.out]) (by rw [HK.out]) HE.out, HB, HW⟩
       case measure => omega
  ·have hq : q = s.size := by omega
   subst hq
   have HE2 := LH (show acc ++ ((s.data.toList.drop p).take (s.size - p)) = jfrom true s s.size 0 by have := HE.out; rwa [show jfrom true s f s.size = [] from by cases f with | zero => rfl | succ f => rw [jfrom, if_neg (by omega)], List.append_nil] at this)
   clear HE
   by_cases hps : p < s.size
   ·go_wp2_with (go_at_call 144; refine (ws HB.out (s.extract p s.size) HBr.out (by have h_1 := HL.out; have h_2 := HA.out; simp [ByteArray.size_extract]; omega)).mono ?_; rintro e w2 ⟨rfl, h2, b2⟩; refine Hid.out ?_)
    refine LH ?_
    have X2 := LH h2
    have Y2 := LH (HW.out.trans b2)
    clear h2 b2
    go_wp2_with (go_at_call 143; refine (wb X2.out 34 34 rfl (Nat.le_trans HBw.out Y2.out.size) (by have h_1 := HL.out; have h_2 := HA.out; have h_3 : (s.extract p s.size).data.toList.length ≤ s.size := ex_len s p s.size (Nat.le_refl _); simp only [List.length_append, List.length_cons, List.length_nil]; omega)).mono ?_; rintro e w3 ⟨rfl, h3, b3⟩; refine Hid.out ?_)
    refine LH ?_
    have X3 := LH h3
    have Y3 := LH (HYB.out.trans (Y2.out.trans b3))
    clear h3 b3
    go_wp2_with (go_at_call 42; refine (Tryz.Buffer_String _ _ _ _ X3.out).mono ?_; rintro e w4 ⟨rfl, nn, rfl⟩)
    go_ret
    refine ⟨congrArg (fun x : List UInt8 => Ending.returned (.string ⟨x.toArray⟩)) ?_, below_dr2 Y3.out nn⟩
    try rw [cut_data _ _ _ (Nat.le_refl _)]
    rw [← HLN.out]
    unfold jout
    rw [← HE2.out]
    simp
   ·go_wp2_with (go_at_call 143; refine (wb HB.out 34 34 rfl HBr.out (by have h_1 := HL.out; have h_2 := HA.out; simp only [List.length_append, List.length_cons, List.length_nil]; omega)).mono ?_; rintro e w3 ⟨rfl, h3, b3⟩; refine Hid.out ?_)
    refine LH ?_
    have X3 := LH h3
    have Y3 := LH (HYB.out.trans (HW.out.trans b3))
    clear h3 b3
    go_wp2_with (go_at_call 42; refine (Tryz.Buffer_String _ _ _ _ X3.out).mono ?_; rintro e w4 ⟨rfl, nn, rfl⟩)
    go_ret
    refine ⟨congrArg (fun x : List UInt8 => Ending.returned (.string ⟨x.toArray⟩)) ?_, below_dr2 Y3.out nn⟩
    rw [← HLN.out]
    unfold jout
    rw [← HE2.out, show s.size - p = 0 from by omega]
    simp
set_option maxHeartbeats 8000000
set_option maxRecDepth 100000
theorem indexRune_core (l : List UInt8) (r : UInt8) (hr : r.toNat < 128) (hl : ∀ b ∈ l, b.toNat < 128) (w : World) :
  Calls Tryz.prog 228 #[.string ⟨l.toArray⟩, .int .i32 (r.toNat : Int)] w fun e w' => (∃ z : Int, e = .returned (.int .i64 z) ∧ decide (z ≥ 0) = decide (r ∈ l)) ∧ Below w.heap.size w w' := by
 have hr2 := hr
 go_enter Tryz.func228, Tryz.ntmps228
 go_wp2_with fail
 go_loopw [5, 6] (fun x y w' => ∃ pos, w' = w.iter ⟨l.toArray⟩ pos ∧ ∀ j, j < pos → l[j]? ≠ some r) (fun _ _ w' => l.length - w'.iterPos w.heap.size)
 case atStart => exact ⟨0, rfl, fun j hj => by omega⟩
 case round =>
  obtain ⟨pos, rfl, hc⟩ := hrel
  by_cases hp : pos < l.length
  ·have hb : (l[pos]'hp).toNat < 128 := hl _ (List.getElem_mem hp)
   have hnx : ∀ ty, (Instr.next (.pointer (some ⟨w.heap.size, 0, none⟩)) true ty).run Tryz.prog (w.iter ⟨l.toArray⟩ pos) = .ok (.tuple #[.bool true, .int .i64 pos, .int .i32 ((l[pos]'hp).toNat : Int)]) (w.iter ⟨l.toArray⟩ (pos + 1)) := fun ty => run_next_ascii w ⟨l.toArray⟩ pos ty hp hb
   obtain ⟨c, hcv⟩ : ∃ c, l[pos]'hp = c := ⟨_, rfl⟩
   rw [hcv] at hnx hb
   by_cases hm : c = r
   ·have k1 : ((c.toNat : Int) == (r.toNat : Int)) = true := by rw [hm]; simp
    go_wp2_with fail
    go_ret
    refine ⟨⟨_, rfl, ?_⟩, iter_below _ _ _⟩
    have : r ∈ l := by rw [← hm, ← hcv]; exact List.getElem_mem hp
    simp [this]
   ·have k1 : ((c.toNat : Int) == (r.toNat : Int)) = false := by
     simp
     intro h
     exact hm (UInt8.toNat_inj.1 (by omega))
    go_wp2_with fail
    go_roundw
    case rel =>
     refine ⟨pos + 1, rfl, fun j hj => ?_⟩
     rcases Nat.lt_or_ge j pos with h | h
     ·exact hc j h
     ·obtain rfl : j = pos := by omega
      rw [List.getElem?_eq_getElem hp, hcv]
      intro h2
      exact hm (Option.some.inj h2)
    case measure => simp; omega
  ·have hnx : ∀ ty, (Instr.next (.pointer (some ⟨w.heap.size, 0, none⟩)) true ty).run Tryz.prog (w.iter ⟨l.toArray⟩ pos) = _ := fun ty => run_next_end w ⟨l.toArray⟩ pos ty hp
   go_wp2_with fail
   go_ret
   refine ⟨⟨_, rfl, ?_⟩, iter_below _ _ _⟩
   have : r ∉ l := by
    intro h
    obtain ⟨j, hj, he⟩ := List.mem_iff_getElem.1 h
    exact hc j (by omega) (by rw [List.getElem?_eq_getElem hj, he])
   simp [this]
theorem containsRune_core (l : List UInt8) (r : UInt8) (hr : r.toNat < 128) (hl : ∀ b ∈ l, b.toNat < 128) (w : World) :
  Calls Tryz.prog 177 #[.string ⟨l.toArray⟩, .int .i32 (r.toNat : Int)] w fun e w' => e = .returned (.bool (decide (r ∈ l))) ∧ Below w.heap.size w w' := by
 go_enter Tryz.func177, Tryz.ntmps177
 go_wp2_with (go_at_call 228; refine (indexRune_core l r hr hl _).mono ?_; rintro e w1 ⟨⟨z, rfl, hz⟩, b1⟩; have B1 := LH b1; clear b1)
 go_ret
 exact ⟨by rw [← hz]; rfl, B1.out⟩
theorem contains_c (l : List UInt8) (v : Bool) (w : World) (h : decide ((46 : UInt8) ∈ l) = v) (hl : ∀ b ∈ l, b.toNat < 128) :
  Calls Tryz.prog 177 #[.string ⟨l.toArray⟩, .int .i32 46] w fun e w' => e = .returned (.bool v) ∧ Below w.heap.size w w' := h ▸ containsRune_core l 46 (by decide) hl w
theorem coreDouble_fin (b : Nat) (t : List UInt8) (e46 : Bool) (h0 : fNaN b = false) (h1 : fBig b = false) (h2 : fBig (Op.negFloat .f64 b) = false) (hl : ∀ c ∈ t, c.toNat < 128) (ht : t.length ≤ 100) (m2 : decide ((46 : UInt8) ∈ t) = e46) (w : World)
  (hf : Calls Tryz.prog 59 #[.float .f64 b, .int .u8 71, .int .i64 (-1), .int .i64 64] w fun e w' => e = .returned (.string ⟨t.toArray⟩) ∧ Below w.heap.size w w') :
  Calls Tryz.prog 114 #[.float .f64 b] w fun e w' => e = .returned (.string ⟨(if e46 then t else t ++ [46, 48]).toArray⟩) ∧ Below w.heap.size w w' := by
 have HF := LH hf
 have HL := LH hl
 have g1 : ¬ 9223372036854775807 < t.length + 2 := by omega
 clear hf hl
 cases e46
 ·go_enter Tryz.func114, Tryz.ntmps114
  go_wp2_with (first | (go_at_call 29; (first | (refine (isInf_s b _ false _ ?_).mono ?_; (first | exact .inl ⟨rfl, h1⟩ | exact .inr ⟨rfl, h2⟩)) | (refine (isInf_s b _ true _ ?_).mono ?_; (first | exact .inl ⟨rfl, h1⟩ | exact .inr ⟨rfl, h2⟩))); rintro e w' ⟨rfl, rfl⟩) | (go_at_call 28; refine (isNaN_s b _ _ h0).mono ?_; rintro e w' ⟨rfl, rfl⟩) | (go_at_call 59; refine HF.out.mono ?_; rintro e w1 ⟨rfl, b1⟩; have B1 := LH b1; clear b1) | (go_at_call 177; refine (contains_c t false _ m2 HL.out).mono ?_; rintro e w2 ⟨rfl, b2⟩; have B2 := LH (B1.out.trans (b2.mono B1.out.size)); clear b2 B1; have B1 := B2; clear B2))
  go_ret
  exact ⟨congrArg (fun x => Ending.returned (.string x)) (bs_cat t [46, 48]), B1.out⟩
 ·go_enter Tryz.func114, Tryz.ntmps114
  go_wp2_with (first | (go_at_call 29; (first | (refine (isInf_s b _ false _ ?_).mono ?_; (first | exact .inl ⟨rfl, h1⟩ | exact .inr ⟨rfl, h2⟩)) | (refine (isInf_s b _ true _ ?_).mono ?_; (first | exact .inl ⟨rfl, h1⟩ | exact .inr ⟨rfl, h2⟩))); rintro e w' ⟨rfl, rfl⟩) | (go_at_call 28; refine (isNaN_s b _ _ h0).mono ?_; rintro e w' ⟨rfl, rfl⟩) | (go_at_call 59; refine HF.out.mono ?_; rintro e w1 ⟨rfl, b1⟩; have B1 := LH b1; clear b1) | (go_at_call 177; refine (contains_c t true _ m2 HL.out).mono ?_; rintro e w2 ⟨rfl, b2⟩; have B2 := LH (B1.out.trans (b2.mono B1.out.size)); clear b2 B1; have B1 := B2; clear B2))
  go_ret
  exact ⟨rfl, B1.out⟩
theorem coreDouble_any (b : Nat) (hb : b < 18446744073709551616) (h69 : 69 ∉ dblT b) (w : World) (hT : TabC w) (h17 : 17 ≤ w.heap.size) :
  Calls Tryz.prog 114 #[.float .f64 b] w fun e w' => e = .returned (.string ⟨(dblT b).toArray⟩) ∧ Below w.heap.size w w' := by
 cases h0 : fNaN b
 ·cases h1 : fBig b
  ·cases h2 : fBig (Op.negFloat .f64 b)
   ·have hE := fin_exp b h0 h1 h2 hb
    have F := fT_spec b hb hE
    have hd : dblT b = if 46 ∈ fT b ∨ 69 ∈ fT b then fT b else fT b ++ [46, 48] := by
     unfold dblT
     rw [h0, h1, h2]
     simp only [Bool.false_eq_true, if_false]
    have hn : 69 ∉ fT b := by
     intro h
     rw [hd, if_pos (.inr h)] at h69
     exact h69 h
    refine (coreDouble_fin b (fT b) _ h0 h1 h2 (fun c hc => numB_lt (F.num c hc)) F.len rfl w (fmtFloat59 b hb hE w hT h17)).mono ?_
    rintro e w' ⟨rfl, h⟩
    refine ⟨?_, h⟩
    rw [hd]
    simp only [hn, or_false, decide_eq_true_eq]
   ·unfold dblT
    rw [h0, h1, h2]
    clear hT h69
    go_enter Tryz.func114, Tryz.ntmps114
    go_wp2_with (first | (go_at_call 29; (first | (refine (isInf_s b _ false _ ?_).mono ?_; (first | exact .inl ⟨rfl, h1⟩ | exact .inr ⟨rfl, h2⟩)) | (refine (isInf_s b _ true _ ?_).mono ?_; (first | exact .inl ⟨rfl, h1⟩ | exact .inr ⟨rfl, h2⟩))); rintro e w' ⟨rfl, rfl⟩) | (go_at_call 28; refine (isNaN_s b _ _ h0).mono ?_; rintro e w' ⟨rfl, rfl⟩))
    go_ret
    exact ⟨rfl, Below.refl _ _⟩
  ·unfold dblT
   rw [h0, h1]
   clear hT h69
   go_enter Tryz.func114, Tryz.ntmps114
   go_wp2_with (first | (go_at_call 29; refine (isInf_s b _ true _ ?_).mono ?_; (first | exact .inl ⟨rfl, h1⟩); rintro e w' ⟨rfl, rfl⟩) | (go_at_call 28; refine (isNaN_s b _ _ h0).mono ?_; rintro e w' ⟨rfl, rfl⟩))
   go_ret
   exact ⟨rfl, Below.refl _ _⟩
 ·obtain ⟨h1, h2⟩ := nan_only h0
  unfold dblT
  rw [h0]
  clear hT h69
  go_enter Tryz.func114, Tryz.ntmps114
  go_wp2_with (first | (go_at_call 29; (first | (refine (isInf_s b _ false _ ?_).mono ?_; (first | exact .inl ⟨rfl, h1⟩ | exact .inr ⟨rfl, h2⟩)) | (refine (isInf_s b _ true _ ?_).mono ?_; (first | exact .inl ⟨rfl, h1⟩ | exact .inr ⟨rfl, h2⟩))); rintro e w' ⟨rfl, rfl⟩) | (go_at_call 28; refine (isNaN_s b _ _ h0).mono ?_; rintro e w' ⟨rfl, rfl⟩))
  go_ret
  exact ⟨rfl, Below.refl _ _⟩
end Go.Proofs.YtpfkgpcnhdkkbaaGreatDoor
