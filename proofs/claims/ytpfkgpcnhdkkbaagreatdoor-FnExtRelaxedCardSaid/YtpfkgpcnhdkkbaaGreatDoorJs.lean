import Derived.Test.YtpfkgpcnhdkkbaaGreatDoorJp
import Derived.Lib.BufferWrite
import Derived.Deep.CutRange
namespace Go.Proofs.YtpfkgpcnhdkkbaaGreatDoor
open Go.RowKit
set_option linter.unusedVariables false
set_option linter.unusedSimpArgs false
theorem jesc_un {esc : Bool} {c : UInt8} (h : ¬ safeB esc c.toNat = true) : jesc esc c = if c.toNat = 92 ∨ c.toNat = 34 then [92, c] else if c.toNat = 10 then [92, 110] else if c.toNat = 13 then [92, 114]
  else if c.toNat = 9 then [92, 116] else if c.toNat = 8 then [92, 98] else if c.toNat = 12 then [92, 102] else [92, 117, 48, 48, hexd (c.toNat / 16), hexd (c.toNat % 16)] := by
  unfold jesc
  rw [if_neg h]
theorem suf_at (s : ByteArray) (q : Nat) : s.extract q s.size = suf s q := rfl
theorem jstep_bad {esc : Bool} {s : ByteArray} {q : Nat} (h : ¬ (s.data.toList.getD q 0).toNat < 128) (h1 : (Lib.decodeGo (suf s q)).1 = 65533) (h2 : (Lib.decodeGo (suf s q)).2 = 1) :
    jstep esc s q = ([92, 117, 102, 102, 102, 100], 1) := by
  unfold jstep
  rw [if_neg h, if_pos ⟨h1, h2⟩]
theorem jstep_line {esc : Bool} {s : ByteArray} {q r n : Nat} (h : ¬ (s.data.toList.getD q 0).toNat < 128) (h1 : (Lib.decodeGo (suf s q)).1 = r) (h2 : (Lib.decodeGo (suf s q)).2 = n) (hr : r = 8232 ∨ r = 8233) :
    jstep esc s q = ([92, 117, 50, 48, 50, hexd (r % 16)], n) := by
  unfold jstep
  rw [if_neg h, if_neg (by rw [h1]; omega), if_pos (by rw [h1]; exact hr), h1, h2]
theorem jstep_keep {esc : Bool} {s : ByteArray} {q r n : Nat} (h : ¬ (s.data.toList.getD q 0).toNat < 128) (h1 : (Lib.decodeGo (suf s q)).1 = r) (h2 : (Lib.decodeGo (suf s q)).2 = n) (hb : ¬ (r = 65533 ∧ n = 1)) (hr : ¬ (r = 8232 ∨ r = 8233)) :
    jstep esc s q = ((s.data.toList.drop q).take n, n) := by
  unfold jstep
  rw [if_neg h, if_neg (by rw [h1, h2]; exact hb), if_neg (by rw [h1]; exact hr), h2]
theorem lenle {n : Nat} {l : List UInt8} (h : l.length ≤ n) (o : List UInt8) (k : Nat) (ho : o.length = k) (hn : n + k ≤ 140737488355328) : l.length + o.length ≤ 140737488355328 := by omega
theorem IsB.below {B b : Nat} {l : List UInt8} {w w' : World} (h : IsB B b l w) (hb : Below w.heap.size w w') : IsB B b l w' := by
  obtain ⟨hB, v, lr, hbk, hown, hne⟩ := h
  exact ⟨hB, v, lr, (hb.block b (blk_lt hbk)).trans hbk, ownsRow_of_block hown (fun k hk => hb.block k (own_lt hown k hk)), hne⟩
theorem ex_len (s : ByteArray) (p q : Nat) (hq : q ≤ s.size) : (s.extract p q).data.toList.length ≤ s.size := by
  rw [cut_data _ _ _ hq]
  have := List.length_take_le (q - p) (s.data.toList.drop p)
  omega
set_option maxHeartbeats 6400000 in
set_option maxRecDepth 100000 in
theorem wse_any (s : ByteArray) (esc : Bool) (B b : Nat) (l : List UInt8) (w : World) (hT : Tabs w) (h17 : 17 ≤ B) (h : IsB B b l w) (hBw : B ≤ w.heap.size) (hl : l.length ≤ 100000000000) (hs : s.size ≤ 1000000000) :
    Calls Tryz.prog 96 #[.string s, .pointer (some ⟨b, 0, none⟩), .bool esc] w fun e w' => e = .returned (.tuple #[]) ∧ IsB B b (l ++ jout esc s) w' ∧ Below B w w' := by
  have HT := Lib.hid hT
  have HI := Lib.hid h
  have HBw := Lib.hid hBw
  have HL := Lib.hid hl
  clear hT h hBw hl
  go_enter Tryz.func96, Tryz.ntmps96
  go_wp2_with (go_at_call 143; refine (wb HI.out 34 34 rfl HBw.out (by have := HL.out; omega)).mono ?_; rintro e w1 ⟨rfl, h1, b1⟩; refine Hid.out ?_)
  refine Lib.hid ?_
  have H1 := Lib.hid h1
  have B1 := Lib.hid b1
  clear h1 b1
  go_wp2
  go_loopg [6, 7] s.size (fun k st i wr => ∃ (p q f : Nat) (acc : List UInt8), st = .int .i64 p ∧ i = .int .i64 q ∧ p ≤ q ∧ q ≤ s.size ∧ s.size ≤ q + f ∧ s.size - q ≤ k ∧ Hid (acc.length ≤ 6 * p) ∧
      Hid (acc ++ ((s.data.toList.drop p).take (q - p) ++ jfrom esc s f q) = jfrom esc s s.size 0) ∧ Hid (IsB B b (l ++ ([34] ++ acc)) wr) ∧ Hid (Below B w wr))
  case atStart => exact ⟨0, 0, s.size, [], rfl, rfl, by omega, by omega, by omega, by omega, by show _ ≤ _; simp, by show _ = _; simp, by show IsB _ _ _ _; simpa using H1.out, B1⟩
  case round =>
    obtain ⟨p, q, f, acc, rfl, rfl, hpq, hqs, hqf, hqk, HA, HE, HB, HW⟩ := hrel
    have HTr := Lib.hid (HT.out.below HW.out h17)
    have HBr := Lib.hid (Nat.le_trans HBw.out HW.out.size)
    clear H1 B1
    by_cases hlt : q < s.size
    · obtain ⟨c, hc⟩ : ∃ c : UInt8, s.data.toList.getD q 0 = c := ⟨_, rfl⟩
      have hx : ∀ h : q < s.size, (s[q]'h) = c := fun h => (byte_at s q h).trans hc
      have HC := Lib.hid hc
      clear hc
      obtain ⟨f, rfl⟩ : ∃ f', f = f' + 1 := ⟨f - 1, by omega⟩
      have hc256 : c.toNat < 256 := c.toNat_lt
      by_cases h128 : c.toNat < 128
      · have HJ := Lib.hid (show jstep esc s q = (jesc esc c, 1) by unfold jstep; rw [HC.out, if_pos h128])
        have g3 := HTr.out.h3 c.toNat h128
        have g4 := HTr.out.h4 c.toNat h128
        have d128 : decide ((c.toNat : Int) < 128) = true := decide_eq_true (by omega)
        by_cases hsafe : safeB esc c.toNat = true
        · have HK := Lib.hid (show (jstep esc s q).1 = (s.data.toList.drop q).take 1 ∧ (jstep esc s q).2 = 1 by rw [HJ.out]; exact ⟨by rw [← drop_one hlt HC.out, jesc, if_pos hsafe], rfl⟩)
          have hsf := safe_cases hsafe
          clear hsafe
          rcases hsf with hsf | ⟨hsf, rfl, hsf2⟩
          · rw [hsf] at g3
            clear hsf g4
            go_wp2
            go_roundg (s.size - (q + 1))
            case rel => exact ⟨p, q + 1, f, acc, rfl, by go_num, by omega, by omega, by omega, by omega, HA, keep_step hpq hlt HK.out.1 HK.out.2 HE.out, HB, HW⟩
            case measure => omega
          · rw [hsf] at g3
            rw [hsf2] at g4
            clear hsf hsf2
            go_wp2
            go_roundg (s.size - (q + 1))
            case rel => exact ⟨p, q + 1, f, acc, rfl, by go_num, by omega, by omega, by omega, by omega, HA, keep_step hpq hlt HK.out.1 HK.out.2 HE.out, HB, HW⟩
            case measure => omega
        · obtain ⟨hu1, hes⟩ := unsafe_cases (by simpa using hsafe)
          have HS := Lib.hid hsafe
          rw [hu1] at g3
          clear hsafe hu1
          have HE2 := Lib.hid hes
          clear hes
          go_upto_region 6 with (fail)
          go_cut [6, 7, 8, 33] from 13 to 155 (fun v6 v7 v8 v33 wc => v6 = .int .i64 p ∧ v7 = .int .i64 q ∧ v8 = .int .u8 c.toNat ∧ v33 = .bool false ∧ wc = wr)
          case first =>
            rcases HE2.out with rfl | ⟨rfl, h4⟩
            · go_wp2
              go_meet
              case rel => exact ⟨rfl, rfl, rfl, rfl, rfl⟩
            · rw [h4] at g4
              clear h4
              go_wp2
              go_meet
              case rel => exact ⟨rfl, rfl, rfl, rfl, rfl⟩
          case rest =>
            obtain ⟨rfl, rfl, rfl, rfl, rfl⟩ := hcut
            clear HE2 g3 g4
            go_upto_if 38 with fail
            go_cut [6, 7, 8] from 13 to 155 (fun v6 v7 v8 wc => v6 = .int .i64 p ∧ v7 = .int .i64 q ∧ v8 = .int .u8 c.toNat ∧ Hid (IsB B b (l ++ ([34] ++ (acc ++ (s.data.toList.drop p).take (q - p)))) wc) ∧ Hid (Below B w wc))
            case first =>
             as_aux_lemma =>
              by_cases hpl : p < q
              · go_wp2_with (go_at_call 144; refine (ws HB.out (s.extract p q) HBr.out (by have h_1 := HL.out; have h_2 := HA.out; simp [ByteArray.size_extract]; omega)).mono ?_; rintro e w2 ⟨rfl, h2, b2⟩; refine Hid.out ?_)
                refine Lib.hid ?_
                have X2 := Lib.hid h2
                have Y2 := Lib.hid (HW.out.trans b2)
                clear h2 b2
                go_wp2
                go_meet
                case rel => exact ⟨rfl, rfl, rfl, by have := X2.out; rw [cut_data _ _ _ hqs] at this; show IsB _ _ _ _; simpa using this, Y2⟩
              · go_wp2
                go_meet
                case rel => exact ⟨rfl, rfl, rfl, by have := HB.out; show IsB _ _ _ _; rw [show q - p = 0 from by omega]; simpa using this, HW⟩
            case rest =>
              obtain ⟨rfl, rfl, rfl, HX, HY⟩ := hcut
              have HBc := Lib.hid (Nat.le_trans HBw.out HY.out.size)
              have HLL := Lib.hid (show (l ++ ([34] ++ (acc ++ (s.data.toList.drop p).take (q - p)))).length ≤ 200000000000 by have h_1 := HL.out; have h_2 := HA.out; have h_3 : ((s.data.toList.drop p).take (q - p)).length ≤ q - p := List.length_take_le _ _; simp only [List.length_append, List.length_cons, List.length_nil]; omega)
              clear HB HW HBr
              have HU := Lib.hid (jesc_un HS.out)
              clear HS HTr
              obtain ⟨m, hm⟩ : ∃ m, c.toNat = m := ⟨_, rfl⟩
              rw [hm] at HU hc256 h128 d128 ⊢
              have HM := Lib.hid hm
              clear hm
              by_cases hk : m = 92 ∨ m = 34
              · have HO := Lib.hid (show jstep esc s q = ([92, c], 1) by rw [HJ.out, HU.out, if_pos hk])
                clear HJ HU
                rcases hk with rfl | rfl
                · as_aux_lemma =>
                    go_wp2_with (go_at_call 143; refine (wb HX.out 92 92 rfl (Nat.le_trans HBw.out HY.out.size) (by have := HLL.out; simp only [List.length_append, List.length_cons, List.length_nil, List.toList_toArray] at this ⊢; omega)).mono ?_; rintro e w3 ⟨rfl, h3, b3⟩; refine Hid.out ?_)
                    refine Lib.hid ?_
                    have X3 := Lib.hid h3
                    have Y3 := Lib.hid (HY.out.trans b3)
                    clear h3 b3
                    go_wp2_with (go_at_call 143; refine (wb X3.out c _ (by have := HM.out; omega) (Nat.le_trans HBw.out Y3.out.size) (by have := HLL.out; simp only [List.length_append, List.length_cons, List.length_nil, List.toList_toArray] at this ⊢; omega)).mono ?_; rintro e w4 ⟨rfl, h4, b4⟩; refine Hid.out ?_)
                    refine Lib.hid ?_
                    have X4 := Lib.hid h4
                    have Y4 := Lib.hid (Y3.out.trans b4)
                    clear h4 b4
                    go_wp2
                    go_roundg (s.size - (q + 1))
                    case rel => exact ⟨q + 1, q + 1, f, acc ++ ((s.data.toList.drop p).take (q - p) ++ [92, c]), by go_num, by go_num, by omega, by omega, by omega, by omega, acc_len HA.out hpq (by simp only [List.length_append, List.length_cons, List.length_nil]; omega), flush_step hlt HO.out HE.out, by have := X4.out; show IsB _ _ _ _; simpa using this, Y4⟩
                    case measure => omega
                · as_aux_lemma =>
                    go_wp2_with (go_at_call 143; refine (wb HX.out 92 92 rfl (Nat.le_trans HBw.out HY.out.size) (by have := HLL.out; simp only [List.length_append, List.length_cons, List.length_nil, List.toList_toArray] at this ⊢; omega)).mono ?_; rintro e w3 ⟨rfl, h3, b3⟩; refine Hid.out ?_)
                    refine Lib.hid ?_
                    have X3 := Lib.hid h3
                    have Y3 := Lib.hid (HY.out.trans b3)
                    clear h3 b3
                    go_wp2_with (go_at_call 143; refine (wb X3.out c _ (by have := HM.out; omega) (Nat.le_trans HBw.out Y3.out.size) (by have := HLL.out; simp only [List.length_append, List.length_cons, List.length_nil, List.toList_toArray] at this ⊢; omega)).mono ?_; rintro e w4 ⟨rfl, h4, b4⟩; refine Hid.out ?_)
                    refine Lib.hid ?_
                    have X4 := Lib.hid h4
                    have Y4 := Lib.hid (Y3.out.trans b4)
                    clear h4 b4
                    go_wp2
                    go_roundg (s.size - (q + 1))
                    case rel => exact ⟨q + 1, q + 1, f, acc ++ ((s.data.toList.drop p).take (q - p) ++ [92, c]), by go_num, by go_num, by omega, by omega, by omega, by omega, acc_len HA.out hpq (by simp only [List.length_append, List.length_cons, List.length_nil]; omega), flush_step hlt HO.out HE.out, by have := X4.out; show IsB _ _ _ _; simpa using this, Y4⟩
                    case measure => omega
              · by_cases hk10 : m = 10
                · have HO := Lib.hid (show jstep esc s q = ([92, 110], 1) by rw [HJ.out, HU.out, if_neg hk, if_pos hk10])
                  clear HJ HU
                  subst hk10
                  as_aux_lemma =>
                    go_wp2_with (go_at_call 143; refine (wb HX.out 92 92 rfl (Nat.le_trans HBw.out HY.out.size) (by have := HLL.out; simp only [List.length_append, List.length_cons, List.length_nil, List.toList_toArray] at this ⊢; omega)).mono ?_; rintro e w3 ⟨rfl, h3, b3⟩; refine Hid.out ?_)
                    refine Lib.hid ?_
                    have X3 := Lib.hid h3
                    have Y3 := Lib.hid (HY.out.trans b3)
                    clear h3 b3
                    go_wp2_with (go_at_call 143; refine (wb X3.out 110 110 rfl (Nat.le_trans HBw.out Y3.out.size) (by have := HLL.out; simp only [List.length_append, List.length_cons, List.length_nil, List.toList_toArray] at this ⊢; omega)).mono ?_; rintro e w4 ⟨rfl, h4, b4⟩; refine Hid.out ?_)
                    refine Lib.hid ?_
                    have X4 := Lib.hid h4
                    have Y4 := Lib.hid (Y3.out.trans b4)
                    clear h4 b4
                    go_wp2
                    go_roundg (s.size - (q + 1))
                    case rel => exact ⟨q + 1, q + 1, f, acc ++ ((s.data.toList.drop p).take (q - p) ++ [92, 110]), by go_num, by go_num, by omega, by omega, by omega, by omega, acc_len HA.out hpq (by simp only [List.length_append, List.length_cons, List.length_nil]; omega), flush_step hlt HO.out HE.out, by have := X4.out; show IsB _ _ _ _; simpa using this, Y4⟩
                    case measure => omega
                · by_cases hk13 : m = 13
                  · have HO := Lib.hid (show jstep esc s q = ([92, 114], 1) by rw [HJ.out, HU.out, if_neg hk, if_neg hk10, if_pos hk13])
                    clear HJ HU
                    subst hk13
                    as_aux_lemma =>
                      go_wp2_with (go_at_call 143; refine (wb HX.out 92 92 rfl (Nat.le_trans HBw.out HY.out.size) (by have := HLL.out; simp only [List.length_append, List.length_cons, List.length_nil, List.toList_toArray] at this ⊢; omega)).mono ?_; rintro e w3 ⟨rfl, h3, b3⟩; refine Hid.out ?_)
                      refine Lib.hid ?_
                      have X3 := Lib.hid h3
                      have Y3 := Lib.hid (HY.out.trans b3)
                      clear h3 b3
                      go_wp2_with (go_at_call 143; refine (wb X3.out 114 114 rfl (Nat.le_trans HBw.out Y3.out.size) (by have := HLL.out; simp only [List.length_append, List.length_cons, List.length_nil, List.toList_toArray] at this ⊢; omega)).mono ?_; rintro e w4 ⟨rfl, h4, b4⟩; refine Hid.out ?_)
                      refine Lib.hid ?_
                      have X4 := Lib.hid h4
                      have Y4 := Lib.hid (Y3.out.trans b4)
                      clear h4 b4
                      go_wp2
                      go_roundg (s.size - (q + 1))
                      case rel => exact ⟨q + 1, q + 1, f, acc ++ ((s.data.toList.drop p).take (q - p) ++ [92, 114]), by go_num, by go_num, by omega, by omega, by omega, by omega, acc_len HA.out hpq (by simp only [List.length_append, List.length_cons, List.length_nil]; omega), flush_step hlt HO.out HE.out, by have := X4.out; show IsB _ _ _ _; simpa using this, Y4⟩
                      case measure => omega
                  · by_cases hk9 : m = 9
                    · have HO := Lib.hid (show jstep esc s q = ([92, 116], 1) by rw [HJ.out, HU.out, if_neg hk, if_neg hk10, if_neg hk13, if_pos hk9])
                      clear HJ HU
                      subst hk9
                      as_aux_lemma =>
                        go_wp2_with (go_at_call 143; refine (wb HX.out 92 92 rfl (Nat.le_trans HBw.out HY.out.size) (by have := HLL.out; simp only [List.length_append, List.length_cons, List.length_nil, List.toList_toArray] at this ⊢; omega)).mono ?_; rintro e w3 ⟨rfl, h3, b3⟩; refine Hid.out ?_)
                        refine Lib.hid ?_
                        have X3 := Lib.hid h3
                        have Y3 := Lib.hid (HY.out.trans b3)
                        clear h3 b3
                        go_wp2_with (go_at_call 143; refine (wb X3.out 116 116 rfl (Nat.le_trans HBw.out Y3.out.size) (by have := HLL.out; simp only [List.length_append, List.length_cons, List.length_nil, List.toList_toArray] at this ⊢; omega)).mono ?_; rintro e w4 ⟨rfl, h4, b4⟩; refine Hid.out ?_)
                        refine Lib.hid ?_
                        have X4 := Lib.hid h4
                        have Y4 := Lib.hid (Y3.out.trans b4)
                        clear h4 b4
                        go_wp2
                        go_roundg (s.size - (q + 1))
                        case rel => exact ⟨q + 1, q + 1, f, acc ++ ((s.data.toList.drop p).take (q - p) ++ [92, 116]), by go_num, by go_num, by omega, by omega, by omega, by omega, acc_len HA.out hpq (by simp only [List.length_append, List.length_cons, List.length_nil]; omega), flush_step hlt HO.out HE.out, by have := X4.out; show IsB _ _ _ _; simpa using this, Y4⟩
                        case measure => omega
                    · by_cases hk8 : m = 8
                      · have HO := Lib.hid (show jstep esc s q = ([92, 98], 1) by rw [HJ.out, HU.out, if_neg hk, if_neg hk10, if_neg hk13, if_neg hk9, if_pos hk8])
                        clear HJ HU
                        subst hk8
                        as_aux_lemma =>
                          go_wp2_with (go_at_call 143; refine (wb HX.out 92 92 rfl (Nat.le_trans HBw.out HY.out.size) (by have := HLL.out; simp only [List.length_append, List.length_cons, List.length_nil, List.toList_toArray] at this ⊢; omega)).mono ?_; rintro e w3 ⟨rfl, h3, b3⟩; refine Hid.out ?_)
                          refine Lib.hid ?_
                          have X3 := Lib.hid h3
                          have Y3 := Lib.hid (HY.out.trans b3)
                          clear h3 b3
                          go_wp2_with (go_at_call 143; refine (wb X3.out 98 98 rfl (Nat.le_trans HBw.out Y3.out.size) (by have := HLL.out; simp only [List.length_append, List.length_cons, List.length_nil, List.toList_toArray] at this ⊢; omega)).mono ?_; rintro e w4 ⟨rfl, h4, b4⟩; refine Hid.out ?_)
                          refine Lib.hid ?_
                          have X4 := Lib.hid h4
                          have Y4 := Lib.hid (Y3.out.trans b4)
                          clear h4 b4
                          go_wp2
                          go_roundg (s.size - (q + 1))
                          case rel => exact ⟨q + 1, q + 1, f, acc ++ ((s.data.toList.drop p).take (q - p) ++ [92, 98]), by go_num, by go_num, by omega, by omega, by omega, by omega, acc_len HA.out hpq (by simp only [List.length_append, List.length_cons, List.length_nil]; omega), flush_step hlt HO.out HE.out, by have := X4.out; show IsB _ _ _ _; simpa using this, Y4⟩
                          case measure => omega
                      · by_cases hk12 : m = 12
                        · have HO := Lib.hid (show jstep esc s q = ([92, 102], 1) by rw [HJ.out, HU.out, if_neg hk, if_neg hk10, if_neg hk13, if_neg hk9, if_neg hk8, if_pos hk12])
                          clear HJ HU
                          subst hk12
                          as_aux_lemma =>
                            go_wp2_with (go_at_call 143; refine (wb HX.out 92 92 rfl (Nat.le_trans HBw.out HY.out.size) (by have := HLL.out; simp only [List.length_append, List.length_cons, List.length_nil, List.toList_toArray] at this ⊢; omega)).mono ?_; rintro e w3 ⟨rfl, h3, b3⟩; refine Hid.out ?_)
                            refine Lib.hid ?_
                            have X3 := Lib.hid h3
                            have Y3 := Lib.hid (HY.out.trans b3)
                            clear h3 b3
                            go_wp2_with (go_at_call 143; refine (wb X3.out 102 102 rfl (Nat.le_trans HBw.out Y3.out.size) (by have := HLL.out; simp only [List.length_append, List.length_cons, List.length_nil, List.toList_toArray] at this ⊢; omega)).mono ?_; rintro e w4 ⟨rfl, h4, b4⟩; refine Hid.out ?_)
                            refine Lib.hid ?_
                            have X4 := Lib.hid h4
                            have Y4 := Lib.hid (Y3.out.trans b4)
                            clear h4 b4
                            go_wp2
                            go_roundg (s.size - (q + 1))
                            case rel => exact ⟨q + 1, q + 1, f, acc ++ ((s.data.toList.drop p).take (q - p) ++ [92, 102]), by go_num, by go_num, by omega, by omega, by omega, by omega, acc_len HA.out hpq (by simp only [List.length_append, List.length_cons, List.length_nil]; omega), flush_step hlt HO.out HE.out, by have := X4.out; show IsB _ _ _ _; simpa using this, Y4⟩
                            case measure => omega
                        · have HO := Lib.hid (show jstep esc s q = ([92, 117, 48, 48, hexd (m / 16), hexd (m % 16)], 1) by rw [HJ.out, HU.out, if_neg hk, if_neg hk10, if_neg hk13, if_neg hk9, if_neg hk8, if_neg hk12])
                          clear HJ HU
                          as_aux_lemma =>
                            go_wp2_with (go_at_call 144; refine (ws HX.out ⟨#[92, 117, 48, 48]⟩ (Nat.le_trans HBw.out HY.out.size) (by have := HLL.out; show _ + 4 ≤ _; simp only [List.length_append, List.length_cons, List.length_nil, List.toList_toArray] at this ⊢; omega)).mono ?_; rintro e w3 ⟨rfl, h3, b3⟩; refine Hid.out ?_)
                            refine Lib.hid ?_
                            have X3 := Lib.hid h3
                            have Y3 := Lib.hid (HY.out.trans b3)
                            clear h3 b3
                            go_wp2_with (go_at_call 143; refine (wb X3.out (hexd (m / 16)) _ (hex_ixz (by omega) _) (Nat.le_trans HBw.out Y3.out.size) (by have := HLL.out; simp only [List.length_append, List.length_cons, List.length_nil, List.toList_toArray] at this ⊢; omega)).mono ?_; rintro e w4 ⟨rfl, h4, b4⟩; refine Hid.out ?_)
                            refine Lib.hid ?_
                            have X4 := Lib.hid h4
                            have Y4 := Lib.hid (Y3.out.trans b4)
                            clear h4 b4
                            go_wp2_with (go_at_call 143; refine (wb X4.out (hexd (m % 16)) _ (hex_ixz (by omega) _) (Nat.le_trans HBw.out Y4.out.size) (by have := HLL.out; simp only [List.length_append, List.length_cons, List.length_nil, List.toList_toArray] at this ⊢; omega)).mono ?_; rintro e w5 ⟨rfl, h5, b5⟩; refine Hid.out ?_)
                            refine Lib.hid ?_
                            have X5 := Lib.hid h5
                            have Y5 := Lib.hid (Y4.out.trans b5)
                            clear h5 b5
                            go_wp2
                            go_roundg (s.size - (q + 1))
                            case rel => exact ⟨q + 1, q + 1, f, acc ++ ((s.data.toList.drop p).take (q - p) ++ [92, 117, 48, 48, hexd (m / 16), hexd (m % 16)]), by go_num, by go_num, by omega, by omega, by omega, by omega, acc_len HA.out hpq (by simp only [List.length_append, List.length_cons, List.length_nil]; omega), flush_step hlt HO.out HE.out, by have := X5.out; show IsB _ _ _ _; simpa using this, Y5⟩
                            case measure => omega
      · have d128 : decide ((c.toNat : Int) < 128) = false := decide_eq_false (by omega)
        have HN := Lib.hid (show ¬ (s.data.toList.getD q 0).toNat < 128 by rw [HC.out]; exact h128)
        obtain ⟨hw1, hw2⟩ := dec_width s q hlt
        obtain ⟨r, hr⟩ : ∃ r, (Lib.decodeGo (suf s q)).1 = r := ⟨_, rfl⟩
        obtain ⟨n, hn⟩ : ∃ n, (Lib.decodeGo (suf s q)).2 = n := ⟨_, rfl⟩
        rw [hn] at hw1 hw2
        have HR := Lib.hid hr
        have HNN := Lib.hid hn
        clear hr hn
        go_wp2_with (go_at_call 145; refine (Tryz.utf8_DecodeRuneInString (suf s q) _ HTr.out.u8).mono ?_; rintro e w2 ⟨rfl, b2⟩; refine Hid.out ?_)
        refine Lib.hid ?_
        have HB0 := HB.out.below b2
        have HW0 := HW.out.trans (b2.mono HBr.out)
        clear HB HW HTr
        have HB := Lib.hid HB0
        have HW := Lib.hid HW0
        have HBr := Lib.hid (Nat.le_trans HBw.out HW0.size)
        clear HB0 HW0 b2
        rw [HR.out, HNN.out]
        by_cases hbad : r = 65533 ∧ n = 1
        · have HO := Lib.hid (jstep_bad (esc := esc) HN.out (HR.out.trans hbad.1) (HNN.out.trans hbad.2))
          obtain ⟨rfl, rfl⟩ := hbad
          go_upto_if 114 with fail
          go_cut [6, 7, 10] from 13 to 155 (fun v6 v7 v10 wc => v6 = .int .i64 p ∧ v7 = .int .i64 q ∧ v10 = .int .i64 1 ∧ Hid (IsB B b (l ++ ([34] ++ (acc ++ (s.data.toList.drop p).take (q - p)))) wc) ∧ Hid (Below B w wc))
          case first =>
           as_aux_lemma =>
            by_cases hpl : p < q
            · go_wp2_with (go_at_call 144; refine (ws HB.out (s.extract p q) HBr.out (by have h_1 := HL.out; have h_2 := HA.out; simp [ByteArray.size_extract]; omega)).mono ?_; rintro e w2 ⟨rfl, h2, b2⟩; refine Hid.out ?_)
              refine Lib.hid ?_
              have X2 := Lib.hid h2
              have Y2 := Lib.hid (HW.out.trans b2)
              clear h2 b2
              go_wp2
              go_meet
              case rel => exact ⟨rfl, rfl, rfl, by have := X2.out; rw [cut_data _ _ _ hqs] at this; show IsB _ _ _ _; simpa using this, Y2⟩
            · go_wp2
              go_meet
              case rel => exact ⟨rfl, rfl, rfl, by have := HB.out; show IsB _ _ _ _; rw [show q - p = 0 from by omega]; simpa using this, HW⟩
          case rest =>
            obtain ⟨rfl, rfl, rfl, HX, HY⟩ := hcut
            have HBc := Lib.hid (Nat.le_trans HBw.out HY.out.size)
            have HLL := Lib.hid (show (l ++ ([34] ++ (acc ++ (s.data.toList.drop p).take (q - p)))).length ≤ 200000000000 by have h_1 := HL.out; have h_2 := HA.out; have h_3 : ((s.data.toList.drop p).take (q - p)).length ≤ q - p := List.length_take_le _ _; simp only [List.length_append, List.length_cons, List.length_nil]; omega)
            clear HB HW HBr
            as_aux_lemma =>
              go_wp2_with (go_at_call 144; refine (ws HX.out ⟨#[92, 117, 102, 102, 102, 100]⟩ (Nat.le_trans HBw.out HY.out.size) (by have := HLL.out; show _ + 6 ≤ _; simp only [List.length_append, List.length_cons, List.length_nil, List.toList_toArray] at this ⊢; omega)).mono ?_; rintro e w3 ⟨rfl, h3, b3⟩; refine Hid.out ?_)
              refine Lib.hid ?_
              have X3 := Lib.hid h3
              have Y3 := Lib.hid (HY.out.trans b3)
              clear h3 b3
              go_wp2
              go_roundg (s.size - (q + 1))
              case rel => exact ⟨q + 1, q + 1, f, acc ++ ((s.data.toList.drop p).take (q - p) ++ [92, 117, 102, 102, 102, 100]), by go_num, by go_num, by omega, by omega, by omega, by omega, acc_len HA.out hpq (by simp only [List.length_append, List.length_cons, List.length_nil]; omega), flush_step hlt HO.out HE.out, by have := X3.out; show IsB _ _ _ _; simpa using this, Y3⟩
              case measure => omega
        · by_cases hline : r = 8232 ∨ r = 8233
          · have HO := Lib.hid (jstep_line (esc := esc) HN.out HR.out HNN.out hline)
            clear hbad
            rcases hline with rfl | rfl
            · go_upto_if 135 with fail
              go_cut [6, 7, 9, 10] from 13 to 155 (fun v6 v7 v9 v10 wc => v6 = .int .i64 p ∧ v7 = .int .i64 q ∧ v9 = .int .i32 8232 ∧ v10 = .int .i64 n ∧ Hid (IsB B b (l ++ ([34] ++ (acc ++ (s.data.toList.drop p).take (q - p)))) wc) ∧ Hid (Below B w wc))
              case first =>
               as_aux_lemma =>
                by_cases hpl : p < q
                · go_wp2_with (go_at_call 144; refine (ws HB.out (s.extract p q) HBr.out (by have h_1 := HL.out; have h_2 := HA.out; simp [ByteArray.size_extract]; omega)).mono ?_; rintro e w2 ⟨rfl, h2, b2⟩; refine Hid.out ?_)
                  refine Lib.hid ?_
                  have X2 := Lib.hid h2
                  have Y2 := Lib.hid (HW.out.trans b2)
                  clear h2 b2
                  go_wp2
                  go_meet
                  case rel => exact ⟨rfl, rfl, rfl, rfl, by have := X2.out; rw [cut_data _ _ _ hqs] at this; show IsB _ _ _ _; simpa using this, Y2⟩
                · go_wp2
                  go_meet
                  case rel => exact ⟨rfl, rfl, rfl, rfl, by have := HB.out; show IsB _ _ _ _; rw [show q - p = 0 from by omega]; simpa using this, HW⟩
              case rest =>
                obtain ⟨rfl, rfl, rfl, rfl, HX, HY⟩ := hcut
                have HBc := Lib.hid (Nat.le_trans HBw.out HY.out.size)
                have HLL := Lib.hid (show (l ++ ([34] ++ (acc ++ (s.data.toList.drop p).take (q - p)))).length ≤ 200000000000 by have h_1 := HL.out; have h_2 := HA.out; have h_3 : ((s.data.toList.drop p).take (q - p)).length ≤ q - p := List.length_take_le _ _; simp only [List.length_append, List.length_cons, List.length_nil]; omega)
                clear HB HW HBr
                as_aux_lemma =>
                  go_wp2_with (go_at_call 144; refine (ws HX.out ⟨#[92, 117, 50, 48, 50]⟩ (Nat.le_trans HBw.out HY.out.size) (by have := HLL.out; show _ + 5 ≤ _; simp only [List.length_append, List.length_cons, List.length_nil, List.toList_toArray] at this ⊢; omega)).mono ?_; rintro e w3 ⟨rfl, h3, b3⟩; refine Hid.out ?_)
                  refine Lib.hid ?_
                  have X3 := Lib.hid h3
                  have Y3 := Lib.hid (HY.out.trans b3)
                  clear h3 b3
                  go_wp2_with (go_at_call 143; refine (wb X3.out (hexd (8232 % 16)) _ (hex_ixz (by decide) _) (Nat.le_trans HBw.out Y3.out.size) (by have := HLL.out; simp only [List.length_append, List.length_cons, List.length_nil, List.toList_toArray] at this ⊢; omega)).mono ?_; rintro e w4 ⟨rfl, h4, b4⟩; refine Hid.out ?_)
                  refine Lib.hid ?_
                  have X4 := Lib.hid h4
                  have Y4 := Lib.hid (Y3.out.trans b4)
                  clear h4 b4
                  go_wp2
                  go_roundg (s.size - (q + n))
                  case rel => exact ⟨q + n, q + n, f, acc ++ ((s.data.toList.drop p).take (q - p) ++ [92, 117, 50, 48, 50, hexd (8232 % 16)]), by go_num, by go_num, by omega, by omega, by omega, by omega, acc_len HA.out hpq (by simp only [List.length_append, List.length_cons, List.length_nil]; omega), flush_step hlt HO.out HE.out, by have := X4.out; show IsB _ _ _ _; simpa using this, Y4⟩
                  case measure => omega
            · go_upto_if 135 with fail
              go_cut [6, 7, 9, 10] from 13 to 155 (fun v6 v7 v9 v10 wc => v6 = .int .i64 p ∧ v7 = .int .i64 q ∧ v9 = .int .i32 8233 ∧ v10 = .int .i64 n ∧ Hid (IsB B b (l ++ ([34] ++ (acc ++ (s.data.toList.drop p).take (q - p)))) wc) ∧ Hid (Below B w wc))
              case first =>
               as_aux_lemma =>
                by_cases hpl : p < q
                · go_wp2_with (go_at_call 144; refine (ws HB.out (s.extract p q) HBr.out (by have h_1 := HL.out; have h_2 := HA.out; simp [ByteArray.size_extract]; omega)).mono ?_; rintro e w2 ⟨rfl, h2, b2⟩; refine Hid.out ?_)
                  refine Lib.hid ?_
                  have X2 := Lib.hid h2
                  have Y2 := Lib.hid (HW.out.trans b2)
                  clear h2 b2
                  go_wp2
                  go_meet
                  case rel => exact ⟨rfl, rfl, rfl, rfl, by have := X2.out; rw [cut_data _ _ _ hqs] at this; show IsB _ _ _ _; simpa using this, Y2⟩
                · go_wp2
                  go_meet
                  case rel => exact ⟨rfl, rfl, rfl, rfl, by have := HB.out; show IsB _ _ _ _; rw [show q - p = 0 from by omega]; simpa using this, HW⟩
              case rest =>
                obtain ⟨rfl, rfl, rfl, rfl, HX, HY⟩ := hcut
                have HBc := Lib.hid (Nat.le_trans HBw.out HY.out.size)
                have HLL := Lib.hid (show (l ++ ([34] ++ (acc ++ (s.data.toList.drop p).take (q - p)))).length ≤ 200000000000 by have h_1 := HL.out; have h_2 := HA.out; have h_3 : ((s.data.toList.drop p).take (q - p)).length ≤ q - p := List.length_take_le _ _; simp only [List.length_append, List.length_cons, List.length_nil]; omega)
                clear HB HW HBr
                as_aux_lemma =>
                  go_wp2_with (go_at_call 144; refine (ws HX.out ⟨#[92, 117, 50, 48, 50]⟩ (Nat.le_trans HBw.out HY.out.size) (by have := HLL.out; show _ + 5 ≤ _; simp only [List.length_append, List.length_cons, List.length_nil, List.toList_toArray] at this ⊢; omega)).mono ?_; rintro e w3 ⟨rfl, h3, b3⟩; refine Hid.out ?_)
                  refine Lib.hid ?_
                  have X3 := Lib.hid h3
                  have Y3 := Lib.hid (HY.out.trans b3)
                  clear h3 b3
                  go_wp2_with (go_at_call 143; refine (wb X3.out (hexd (8233 % 16)) _ (hex_ixz (by decide) _) (Nat.le_trans HBw.out Y3.out.size) (by have := HLL.out; simp only [List.length_append, List.length_cons, List.length_nil, List.toList_toArray] at this ⊢; omega)).mono ?_; rintro e w4 ⟨rfl, h4, b4⟩; refine Hid.out ?_)
                  refine Lib.hid ?_
                  have X4 := Lib.hid h4
                  have Y4 := Lib.hid (Y3.out.trans b4)
                  clear h4 b4
                  go_wp2
                  go_roundg (s.size - (q + n))
                  case rel => exact ⟨q + n, q + n, f, acc ++ ((s.data.toList.drop p).take (q - p) ++ [92, 117, 50, 48, 50, hexd (8233 % 16)]), by go_num, by go_num, by omega, by omega, by omega, by omega, acc_len HA.out hpq (by simp only [List.length_append, List.length_cons, List.length_nil]; omega), flush_step hlt HO.out HE.out, by have := X4.out; show IsB _ _ _ _; simpa using this, Y4⟩
                  case measure => omega
          · have HK := Lib.hid (jstep_keep (esc := esc) HN.out HR.out HNN.out hbad hline)
            have hk1 : ¬ ((r : Int) = 65533 ∧ (n : Int) = 1) := by omega
            have hk2 : ¬ ((r : Int) = 8232) := by omega
            have hk3 : ¬ ((r : Int) = 8233) := by omega
            clear hbad hline
            by_cases hr5 : r = 65533
            · have hn1 : ¬ ((n : Int) = 1) := by omega
              have hr5' : (r : Int) = 65533 := by omega
              go_wp2
              go_roundg (s.size - (q + n))
              case rel => exact ⟨p, q + n, f, acc, rfl, by go_num, by omega, by omega, by omega, by omega, HA, keep_step hpq hlt (by rw [HK.out]) (by rw [HK.out]) HE.out, HB, HW⟩
              case measure => omega
            · have hr5' : ¬ ((r : Int) = 65533) := by omega
              have e1 : ((r : Int) == 65533) = false := beq_eq_false_iff_ne.2 hr5'
              have e2 : ((r : Int) == 8232) = false := beq_eq_false_iff_ne.2 hk2
              have e3 : ((r : Int) == 8233) = false := beq_eq_false_iff_ne.2 hk3
              go_wp2
              go_roundg (s.size - (q + n))
              case rel => exact ⟨p, q + n, f, acc, rfl, by go_num, by omega, by omega, by omega, by omega, HA, keep_step hpq hlt (by rw [HK.out]) (by rw [HK.out]) HE.out, HB, HW⟩
              case measure => omega
    · have hq : q = s.size := by omega
      subst hq
      have HE2 := Lib.hid (show acc ++ ((s.data.toList.drop p).take (s.size - p)) = jfrom esc s s.size 0 by have := HE.out; rwa [show jfrom esc s f s.size = [] from by cases f with | zero => rfl | succ f => rw [jfrom, if_neg (by omega)], List.append_nil] at this)
      clear HE
      by_cases hps : p < s.size
      · go_wp2_with (go_at_call 144; refine (ws HB.out (s.extract p s.size) HBr.out (by have h_1 := HL.out; have h_2 := HA.out; simp [ByteArray.size_extract]; omega)).mono ?_; rintro e w2 ⟨rfl, h2, b2⟩; refine Hid.out ?_)
        refine Lib.hid ?_
        have X2 := Lib.hid h2
        have Y2 := Lib.hid (HW.out.trans b2)
        clear h2 b2
        go_wp2_with (go_at_call 143; refine (wb X2.out 34 34 rfl (Nat.le_trans HBw.out Y2.out.size) (by have h_1 := HL.out; have h_2 := HA.out; have h_3 : (s.extract p s.size).data.toList.length ≤ s.size := ex_len s p s.size (Nat.le_refl _); simp only [List.length_append, List.length_cons, List.length_nil]; omega)).mono ?_; rintro e w3 ⟨rfl, h3, b3⟩; refine Hid.out ?_)
        refine Lib.hid ?_
        have X3 := Lib.hid h3
        have Y3 := Lib.hid (Y2.out.trans b3)
        clear h3 b3
        go_wp2
        go_end0
        refine ⟨rfl, ?_, Y3.out⟩
        have := X3.out
        rw [cut_data _ _ _ (Nat.le_refl _)] at this
        unfold jout
        rw [← HE2.out]
        simpa using this
      · go_wp2_with (go_at_call 143; refine (wb HB.out 34 34 rfl HBr.out (by have h_1 := HL.out; have h_2 := HA.out; simp only [List.length_append, List.length_cons, List.length_nil]; omega)).mono ?_; rintro e w3 ⟨rfl, h3, b3⟩; refine Hid.out ?_)
        refine Lib.hid ?_
        have X3 := Lib.hid h3
        have Y3 := Lib.hid (HW.out.trans b3)
        clear h3 b3
        go_wp2
        go_end0
        refine ⟨rfl, ?_, Y3.out⟩
        have := X3.out
        unfold jout
        rw [← HE2.out, show s.size - p = 0 from by omega]
        simpa using this
end Go.Proofs.YtpfkgpcnhdkkbaaGreatDoor
