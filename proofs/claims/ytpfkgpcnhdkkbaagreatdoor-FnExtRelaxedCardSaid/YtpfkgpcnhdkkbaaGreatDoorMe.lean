import Derived.Test.YtpfkgpcnhdkkbaaGreatDoorMf
namespace Go.Proofs.YtpfkgpcnhdkkbaaGreatDoor
open Go.RowKit
set_option linter.unusedVariables false
set_option linter.unusedSimpArgs false
/-- The last byte that the writer has gathered. -/
theorem IsEW.lastb {g B wb : Nat} {canon esc : Bool} {b0 : List UInt8} {c : UInt8} {modes : List Int} {w : World} (h : IsEW g B wb canon esc (b0 ++ [c]) modes w) :
    ∃ k cap, w.cell? ⟨g, 1, none⟩ = some (.slice (some ⟨k, 0, none⟩) (b0.length + 1) cap) ∧ b0.length + 1 ≤ cap ∧ cap ≤ maxLen ∧ w.cell? ⟨k, b0.length, none⟩ = some (.int .u8 (c.toNat : Int)) ∧ w.frozen? ⟨k, b0.length, none⟩ = false ∧
      ∀ (d : UInt8) (N : Nat), IsEW g B wb canon esc (b0 ++ [d]) modes ((w.drewN N).setCell ⟨k, b0.length, none⟩ (.int .u8 (d.toNat : Int))) ∧ EStep B w ((w.drewN N).setCell ⟨k, b0.length, none⟩ (.int .u8 (d.toNat : Int))) := by
  obtain ⟨hB, bv, sb, len, cap', ms, hg, hown, hsB, hs, r⟩ := h
  have hnb := own_ne hown hg (by decide)
  have hnb2 := own_ne hown hs (by decide)
  rcases hown.2 with ⟨rfl, hn⟩ | ⟨k, cap, cur, rfl, hgk, hh, hnc, hcap, hr⟩
  · simp [Lib.byteCells] at hn
  · have hlen : (b0 ++ [c]).length = b0.length + 1 := by simp
    rw [hlen] at hnc hg hr
    have hsz : cur.size = cap := by simpa using hr.1
    have htk : List.take (b0.length + 1) cur.toList = Lib.byteCells (b0 ++ [c]) := by simpa using hr.2
    have hkg : ¬ k = g := fun e => hnb (by rw [e]; rfl)
    have hks : ¬ k = sb := fun e => hnb2 (by rw [e]; rfl)
    have hnc' : b0.length + 1 ≤ cap := by simpa using hnc
    have hlt : b0.length < cur.toList.length := by have : cur.toList.length = cur.size := Array.length_toList; omega
    have hcc : cur[b0.length]? = some (.int .u8 (c.toNat : Int)) := by
      have : (List.take (b0.length + 1) cur.toList)[b0.length]? = some (Value.int .u8 (c.toNat : Int)) := by rw [htk]; simp [Lib.byteCells]
      rw [List.getElem?_take_of_lt (by omega)] at this
      simpa using this
    refine ⟨k, cap, by rw [blk_cell hg]; simp, hnc', hcap, by rw [blk_cell hh]; exact hcc, blk_frozen hh _, fun d N => ?_⟩
    have hh1 : (w.drewN N).heap[k]? = _ := hh
    refine ⟨⟨hB, .slice (some ⟨k, 0, none⟩) (b0.length + 1) cap, sb, len, cap', ms, ?_, ?_, hsB, ?_, r⟩, ((EStep.refl B w).drewN N).set hh1 (by decide) hgk _ _⟩
    · exact (Below.heap_setCell (w.drewN N) _ _ g (fun e => hkg e.symm)).trans hg
    · refine ⟨by simp [Lib.byteCells], .inr ⟨k, cap, cur.setIfInBounds b0.length (.int .u8 (d.toNat : Int)), by simp, hgk, ?_, by simpa using hnc, hcap, by simpa using hr.1, ?_⟩⟩
      · rw [blk_set hh1]
      · have e1 : List.take (b0.length + 1) cur.toList = List.take b0.length cur.toList ++ [Value.int .u8 (c.toNat : Int)] := by
          rw [List.take_add_one]
          simp [hcc]
        have e2 : List.take b0.length cur.toList = Lib.byteCells b0 := by
          rw [e1] at htk
          simp only [Lib.byteCells, List.map_append, List.map_cons, List.map_nil] at htk
          exact (List.append_inj_left' htk rfl)
        simp only [List.length_append, List.length_singleton, Nat.mul_one, Array.toList_setIfInBounds, Lib.byteCells_append, Lib.byteCells_length]
        rw [List.take_add_one, List.take_set_of_le (Nat.le_refl _), e2, List.getElem?_set_self hlt]
        rfl
    · exact (Below.heap_setCell (w.drewN N) _ _ sb (fun e => hks e.symm)).trans hs
/-- What the methods that open something return: the writer itself. -/
def meV (g : Nat) : Value := .tuple #[.iface 65 (.pointer (some ⟨g, 0, none⟩)), .nilIface]
set_option maxHeartbeats 1600000 in
set_option maxRecDepth 100000 in
theorem writeArray_any {g B wb : Nat} {canon esc : Bool} {buf : List UInt8} {modes : List Int} {m : Int} {w : World}  (h : IsEW g B wb canon esc buf (modes ++ [m]) w) (hl : Room buf.length) (hm : m = 4 ∨ m = 5) (hn : modes.length ≤ 900) :
    Calls Tryz.prog 97 #[.pointer (some ⟨g, 0, none⟩)] w fun e w' => e = .returned (meV g) ∧ IsEW g B wb canon esc (buf ++ [91]) (modes ++ [m] ++ [3]) w' ∧ EStep B w w' := by
  have hB := Lib.hid h.lt
  go_enter Tryz.func97, Tryz.ntmps97
  go_wp2_with (go_at_call 66; refine (ensure_ew h hm _ _ _).mono ?_; rintro e w1 ⟨rfl, h1, s1⟩; refine Hid.out ?_)
  refine Lib.hid ?_
  have S1 := Lib.hid (EStep.of_below (B := B) s1 (by have := hB.out; omega))
  have H1 := Lib.hid h1
  have hlt1 := h1.lt.2
  have hB1 : B ≤ w1.heap.size := by have := h1.lt; omega
  obtain ⟨bv1, hv1⟩ := h1.buf
  clear h s1 h1
  go_wp2_with (with_reducible show wpList _ _ _ (⟨some 16, _, _, _, _, _⟩ :: _) _ _; refine Hid.out ?_)
  refine Lib.hid ?_
  refine ew_tail (N := 23) (bv := bv1) [91] rfl rfl rfl rfl rfl (by decide) H1.out hv1 (Joins.below_alloc1 _ _) (rb_new _ _ _ rfl _ _ _ rfl) (hl.le (by simp)) ?_
  intro bv2 w2 hv2 H2 S2
  clear H1 hv1
  go_wp2_with (go_at_call 67; refine (push_any H2.out (by simp; omega) 3).mono ?_; rintro e w3 ⟨rfl, h3, S3⟩; refine Hid.out ?_)
  refine Lib.hid ?_
  have H3 := Lib.hid h3
  have S3 := Lib.hid S3
  clear h3
  go_wp2
  go_ret2
  exact ⟨rfl, by have := H3.out; simpa using this, S1.out.trans (S2.out.trans (S3.out))⟩
set_option maxHeartbeats 1600000 in
set_option maxRecDepth 100000 in
theorem writeDocument_in {g B wb : Nat} {canon esc : Bool} {buf : List UInt8} {modes : List Int} {m : Int} {w : World}  (h : IsEW g B wb canon esc buf (modes ++ [m]) w) (hl : Room buf.length) (hm : m = 4 ∨ m = 5) (hn : modes.length ≤ 900) :
    Calls Tryz.prog 40 #[.pointer (some ⟨g, 0, none⟩)] w fun e w' => e = .returned (meV g) ∧ IsEW g B wb canon esc (buf ++ [123]) (modes ++ [m] ++ [2]) w' ∧ EStep B w w' := by
  have hB := Lib.hid h.lt
  have H1 := Lib.hid h
  obtain ⟨sb1, len1, cap1, f21, f31, ff1, fs1⟩ := h.top
  clear h
  rcases hm with rfl | rfl
  · go_enter Tryz.func40, Tryz.ntmps40
    go_wp2
    go_quiet (fail)
    go_wp2_with (go_at_call 66; refine (ensure_ew (modes := modes) (m := 4) (((H1.out.drewN _).below (Joins.below_alloc1 _ _))) (by decide) _ _ _).mono ?_; rintro e w2 ⟨rfl, h2, s2⟩; refine Hid.out ?_)
    refine Lib.hid ?_
    have S2 := Lib.hid (EStep.of_below (B := B) (((below_dr w nq).trans (show Below w.heap.size (w.drewN nq) _ from below_allocB (w.drewN nq) _)).trans (s2.mono (Nat.le_of_lt (lt_alloc1 _ _)))) (by have := hB.out; omega))
    have H2 := Lib.hid h2
    obtain ⟨bv2, hv2⟩ := h2.buf
    clear h2 s2 f21 f31 ff1 fs1
    go_wp2_with (with_reducible show wpList _ _ _ (⟨some 40, _, _, _, _, _⟩ :: _) _ _; refine Hid.out ?_)
    refine Lib.hid ?_
    refine ew_tail (N := 47) (bv := bv2) [123] rfl rfl rfl rfl rfl (by decide) H2.out hv2 (Joins.below_alloc1 _ _) (rb_new _ _ _ rfl _ _ _ rfl) (hl.le (by simp)) ?_
    intro bv3 w3 hv3 H3 S3
    clear H2 hv2
    go_wp2_with (go_at_call 67; refine (push_any H3.out (by simp; omega) 2).mono ?_; rintro e w4 ⟨rfl, h4, S4⟩; refine Hid.out ?_)
    refine Lib.hid ?_
    have H4 := Lib.hid h4
    have S4 := Lib.hid S4
    clear h4
    go_wp2
    go_ret2
    exact ⟨rfl, by have := H4.out; simpa using this, S2.out.trans (S3.out.trans (S4.out))⟩
  · go_enter Tryz.func40, Tryz.ntmps40
    go_wp2
    go_quiet (fail)
    go_wp2_with (go_at_call 66; refine (ensure_ew (modes := modes) (m := 5) (((H1.out.drewN _).below (Joins.below_alloc1 _ _))) (by decide) _ _ _).mono ?_; rintro e w2 ⟨rfl, h2, s2⟩; refine Hid.out ?_)
    refine Lib.hid ?_
    have S2 := Lib.hid (EStep.of_below (B := B) (((below_dr w nq).trans (show Below w.heap.size (w.drewN nq) _ from below_allocB (w.drewN nq) _)).trans (s2.mono (Nat.le_of_lt (lt_alloc1 _ _)))) (by have := hB.out; omega))
    have H2 := Lib.hid h2
    obtain ⟨bv2, hv2⟩ := h2.buf
    clear h2 s2 f21 f31 ff1 fs1
    go_wp2_with (with_reducible show wpList _ _ _ (⟨some 40, _, _, _, _, _⟩ :: _) _ _; refine Hid.out ?_)
    refine Lib.hid ?_
    refine ew_tail (N := 47) (bv := bv2) [123] rfl rfl rfl rfl rfl (by decide) H2.out hv2 (Joins.below_alloc1 _ _) (rb_new _ _ _ rfl _ _ _ rfl) (hl.le (by simp)) ?_
    intro bv3 w3 hv3 H3 S3
    clear H2 hv2
    go_wp2_with (go_at_call 67; refine (push_any H3.out (by simp; omega) 2).mono ?_; rintro e w4 ⟨rfl, h4, S4⟩; refine Hid.out ?_)
    refine Lib.hid ?_
    have H4 := Lib.hid h4
    have S4 := Lib.hid S4
    clear h4
    go_wp2
    go_ret2
    exact ⟨rfl, by have := H4.out; simpa using this, S2.out.trans (S3.out.trans (S4.out))⟩
set_option maxHeartbeats 1600000 in
set_option maxRecDepth 100000 in
theorem writeDocument_top {g B wb : Nat} {canon esc : Bool} {buf : List UInt8} {modes : List Int} {m : Int} {w : World}  (h : IsEW g B wb canon esc buf ([1]) w) (hl : Room buf.length)  :
    Calls Tryz.prog 40 #[.pointer (some ⟨g, 0, none⟩)] w fun e w' => e = .returned (meV g) ∧ IsEW g B wb canon esc (buf ++ [123]) ([1]) w' ∧ EStep B w w' := by
  have hB := Lib.hid h.lt
  have H1 := Lib.hid h
  obtain ⟨sb1, len1, cap1, f21, f31, ff1, fs1⟩ := IsEW.top (modes := []) h
  obtain ⟨fr, hfr⟩ : ∃ fr : Nat, ([] : List Int).length = fr := ⟨_, rfl⟩
  rw [hfr] at f31 ff1 fs1
  obtain ⟨bv1, hv1⟩ := h.buf
  clear h
  go_enter Tryz.func40, Tryz.ntmps40
  go_wp2
  go_quiet (fail)
  have S2 := Lib.hid ((EStep.refl B w).drewN nq)
  have H2 := Lib.hid (H1.out.drewN nq)
  have hv2 : (w.drewN nq).cell? ⟨g, 1, none⟩ = some bv1 := hv1
  clear H1
  go_wp2_with (with_reducible show wpList _ _ _ (⟨some 23, _, _, _, _, _⟩ :: _) _ _; refine Hid.out ?_)
  refine Lib.hid ?_
  refine ew_tail (N := 47) (bv := bv1) [123] rfl rfl rfl rfl rfl (by decide) H2.out hv2 (Joins.below_alloc1 _ _) (rb_new _ _ _ rfl _ _ _ rfl) (hl.le (by simp)) ?_
  intro bv3 w3 hv3 H3 S3
  clear H2 hv2
  go_wp2
  go_ret2
  exact ⟨rfl, by have := H3.out; simpa using this, S2.out.trans (S3.out)⟩
set_option maxHeartbeats 1600000 in
set_option maxRecDepth 100000 in
theorem writeArrayElement_any {g B wb : Nat} {canon esc : Bool} {buf : List UInt8} {modes : List Int} {m : Int} {w : World}  (h : IsEW g B wb canon esc buf (modes ++ [3]) w) (hl : Room buf.length) (hn : modes.length ≤ 900) :
    Calls Tryz.prog 98 #[.pointer (some ⟨g, 0, none⟩)] w fun e w' => e = .returned (meV g) ∧ IsEW g B wb canon esc buf (modes ++ [3] ++ [4]) w' ∧ EStep B w w' := by
  have hB := Lib.hid h.lt
  have H1 := Lib.hid h
  obtain ⟨sb1, len1, cap1, f21, f31, ff1, fs1⟩ := h.top
  clear h
  go_enter Tryz.func98, Tryz.ntmps98
  go_wp2
  go_quiet (fail)
  have S2 := Lib.hid ((EStep.refl B w).drewN nq)
  have H2 := Lib.hid (H1.out.drewN nq)
  go_wp2_with (go_at_call 67; refine (push_any H2.out (by simp; omega) 4).mono ?_; rintro e w3 ⟨rfl, h3, S3⟩; refine Hid.out ?_)
  refine Lib.hid ?_
  have H3 := Lib.hid h3
  have S3 := Lib.hid S3
  clear h3
  go_wp2
  go_ret2
  exact ⟨rfl, by have := H3.out; simpa using this, S2.out.trans (S3.out)⟩
set_option maxHeartbeats 1600000 in
set_option maxRecDepth 100000 in
theorem writeCode_any {g B wb : Nat} {canon esc : Bool} {buf : List UInt8} {modes : List Int} {m : Int} {w : World} (s : ByteArray)  (h : IsEW g B wb canon esc buf (modes ++ [m]) w) (hl : Room buf.length) (hm : m = 4 ∨ m = 5) (hn : modes.length ≤ 900) (hT : Tabs w) (h17 : 17 ≤ B) (hs : s.size ≤ 10000000) :
    Calls Tryz.prog 100 #[.pointer (some ⟨g, 0, none⟩), .string s] w fun e w' => e = .returned (meV g) ∧ IsEW g B wb canon esc (buf ++ ([123, 34, 36, 99, 111, 100, 101, 34, 58] ++ jout esc s ++ [44, 34, 36, 115, 99, 111, 112, 101, 34, 58, 123])) (modes ++ [m] ++ [6]) w' ∧ EStep B w w' := by
  have hB := Lib.hid h.lt
  go_enter Tryz.func100, Tryz.ntmps100
  have HT := Lib.hid hT
  clear hT
  go_wp2_with (go_at_call 66; refine (ensure_ew h hm _ _ _).mono ?_; rintro e w1 ⟨rfl, h1, s1⟩; refine Hid.out ?_)
  refine Lib.hid ?_
  have S1 := Lib.hid (EStep.of_below (B := B) s1 (by have := hB.out; omega))
  have H1 := Lib.hid h1
  have hlt1 := h1.lt.2
  have hB1 : B ≤ w1.heap.size := by have := h1.lt; omega
  obtain ⟨bv1, hv1⟩ := h1.buf
  clear h s1 h1
  have h171 : 17 ≤ w1.heap.size := by omega
  have X1 := Lib.hid (fresh_b w1)
  have Y1 := Lib.hid (below_allocB w1 (.cells #[.slice none 0 0, .int .i64 0, .int .i8 0] 64))
  have hZ1 : ([] : List UInt8).length ≤ 0 := Nat.le_refl _
  go_wp2_with (go_at_call 144; refine (ws X1.out ⟨#[123, 34, 36, 99, 111, 100, 101, 34, 58]⟩ Y1.out.size (by simp only [List.length_append, List.length_cons, List.length_nil, len_bs, ByteArray.size_append, size_lit, List.size_toArray]; omega)).mono ?_; rintro e w2 ⟨rfl, h2, b2⟩; refine Hid.out ?_)
  refine Lib.hid ?_
  have X2 := Lib.hid h2
  have Y2 := Lib.hid (Y1.out.trans b2)
  clear h2 b2 X1 Y1
  have g5 := (H1.out.below Y2.out).flags.2
  go_wp2_with (go_at_call 96; refine (wse_any s esc w1.heap.size w1.heap.size _ _ ((HT.out.below S1.out.1 h17).below Y2.out h171) h171 X2.out Y2.out.size (by simp only [List.length_append, List.length_cons, List.length_nil, len_bs, ByteArray.size_append, size_lit, List.size_toArray]; omega) (by omega)).mono ?_; rintro e w3 ⟨rfl, h3, b3⟩; refine Hid.out ?_)
  refine Lib.hid ?_
  have X3 := Lib.hid h3
  have Y3 := Lib.hid (Y2.out.trans b3)
  clear h3 b3 X2 Y2
  go_wp2_with (go_at_call 144; refine (ws X3.out ⟨#[44, 34, 36, 115, 99, 111, 112, 101, 34, 58, 123]⟩ Y3.out.size (by have j1 := jout_len esc s; simp only [List.length_append, List.length_cons, List.length_nil, len_bs, ByteArray.size_append, size_lit, List.size_toArray]; omega)).mono ?_; rintro e w4 ⟨rfl, h4, b4⟩; refine Hid.out ?_)
  refine Lib.hid ?_
  have X4 := Lib.hid h4
  have Y4 := Lib.hid (Y3.out.trans b4)
  clear h4 b4 X3 Y3
  have S5a := Lib.hid (EStep.of_below (B := B) Y4.out hB1)
  have H5a := Lib.hid (H1.out.below Y4.out)
  obtain ⟨bA, bc, hRB, hBy⟩ := bytes_x X4.out
  obtain ⟨bv5a, hv5a⟩ := H5a.out.buf
  clear H1 X4 Y4
  go_wp2
  refine wp_region_quiet_tail1 6 (.pointer (some ⟨g, 0, none⟩)) (by kernel_rfl) (by kernel_rfl) (.inl ⟨rfl, fun _ => rfl⟩) ?_
  simp only [List.take_succ_cons, List.take_zero, List.drop_succ_cons, List.drop_zero]
  repeat (quiet_step (exact hBy _))
  refine wpQuiet_nil ?_
  intro w' hw'
  obtain ⟨nq, rfl⟩ := hw'
  refine ew_tail (N := 34) (bv := bv5a) _ rfl rfl rfl rfl rfl (by decide) H5a.out hv5a (below_dr _ _) hRB (hl.le (by have j1 := jout_len esc s; simp only [List.length_append, List.length_cons, List.length_nil, len_bs, ByteArray.size_append, size_lit, List.size_toArray]; omega)) ?_
  intro bv5 w5 hv5 H5 S5
  clear H5a hv5a hBy hRB
  unfold onlyN
  go_wp2_with (go_at_call 67; refine (push_any H5.out (by simp; omega) 6).mono ?_; rintro e w6 ⟨rfl, h6, S6⟩; refine Hid.out ?_)
  refine Lib.hid ?_
  have H6 := Lib.hid h6
  have S6 := Lib.hid S6
  clear h6
  go_wp2
  go_ret2
  exact ⟨rfl, by have := H6.out; simpa using this, S1.out.trans (S5a.out.trans (S5.out.trans (S6.out)))⟩
def keyB (esc : Bool) (s : ByteArray) : ByteArray := ⟨(jout esc s).toArray⟩ ++ ⟨#[58]⟩
theorem keyB_list (esc : Bool) (s : ByteArray) : (keyB esc s).data.toList = jout esc s ++ [58] := by simp [keyB, ByteArray.data_append]
theorem below_bwd2 (w : World) (n : Nat) (s : ByteArray) : Below w.heap.size w (Lib.bytesWorld (w.drewN n) 5 s) := (below_dr w n).trans (Joins.below_bytesWorld _ _ _ _ (Nat.le_refl _))
theorem below_bwd3 (w : World) (n : Nat) (s : ByteArray) : Below w.heap.size w (Lib.bytesWorld (w.drew.drewN n) 5 s) := ((below_dr w 1).trans (below_dr w.drew n)).trans (Joins.below_bytesWorld _ _ _ _ (Nat.le_refl _))
theorem bstr (B b : Nat) (l : List UInt8) (w : World) (h : IsB B b l w) : Calls Tryz.prog 42 #[.pointer (some ⟨b, 0, none⟩)] w fun e w' => e = .returned (.string ⟨l.toArray⟩) ∧ ∃ n, w' = w.drewN n := Tryz.Buffer_String B b l w h
set_option maxHeartbeats 1600000 in
set_option maxRecDepth 100000 in
theorem writeElement_1 {g B wb : Nat} {canon esc : Bool} {buf : List UInt8} {modes : List Int} {m : Int} {w : World} (s : ByteArray)  (h : IsEW g B wb canon esc buf (modes ++ [1]) w) (hl : Room buf.length) (hn : modes.length ≤ 900) (hT : Tabs w) (h17 : 17 ≤ B) (hs : s.size ≤ 10000000) :
    Calls Tryz.prog 68 #[.pointer (some ⟨g, 0, none⟩), .string s] w fun e w' => e = .returned (meV g) ∧ IsEW g B wb canon esc (buf ++ (jout esc s ++ [58])) (modes ++ [1] ++ [5]) w' ∧ EStep B w w' := by
  have hB := Lib.hid h.lt
  have HT := Lib.hid hT
  have H1 := Lib.hid h
  obtain ⟨sb1, len1, cap1, f21, f31, ff1, fs1⟩ := h.top
  have g5 := h.flags.2
  have hlt1 := h.lt.2
  have hB1 : B ≤ w.heap.size := by have := h.lt; omega
  have hj : (jout esc s).length ≤ 9223372036854775806 := by have := jout_len esc s; omega
  clear h hT
  go_enter Tryz.func68, Tryz.ntmps68
  clear g5 hlt1
  go_wp2
  go_quiet (fail)
  generalize hw1 : w.drewN nq = w1
  have D1 : Below w.heap.size w w1 := hw1 ▸ below_dr w nq
  have T1 := Lib.hid (HT.out.below D1 (by omega))
  have S1 := Lib.hid (EStep.of_below (B := B) D1 hB1)
  have G1 := Lib.hid (H1.out.below D1)
  have g5 := G1.out.flags.2
  have hlt1 := G1.out.lt.2
  have hB2 : B ≤ w1.heap.size := by have := G1.out.lt; omega
  clear f21 f31 ff1 fs1 D1 H1 hB1 HT hw1
  go_wp2_with (go_at_call 96; refine (wse_fresh s esc w1 T1.out (by omega) (by omega)).mono ?_; rintro e w2 ⟨rfl, hb2, s2⟩; refine Hid.out ?_)
  refine Lib.hid ?_
  have S2 := Lib.hid (S1.out.trans (EStep.of_below (B := B) s2 hB2))
  have H2 := Lib.hid (G1.out.below s2)
  have hlt2 := H2.out.lt.2
  have X2 := Lib.hid hb2
  obtain ⟨bv1, hv1⟩ := H2.out.buf
  clear G1 g5 hb2 s2 hlt1 hB2 S1 T1
  go_wp2
  refine wp_region_any (by kernel_rfl) ?_
  try (change wpAny _ _ _ _ _ _ _ (World.drew _))
  refine wpAny_take (i := 0) (v := .pointer (some ⟨g, 0, none⟩)) rfl (by kernel_rfl) (by kernel_rfl) (by kernel_rfl) (fun _ _ _ h => h) (Or.inl ⟨by rfl, fun w => ?_⟩) ?_
  · go_simp
  refine wpAny_take (i := 1) (v := .pointer (some ⟨g, 0, none⟩)) rfl (by kernel_rfl) (by kernel_rfl) (by kernel_rfl) (fun _ _ _ h => h) (Or.inl ⟨by rfl, fun w => ?_⟩) ?_
  · go_simp
  refine wpAny_take (i := 2) (v := .pointer (some ⟨g, 0, none⟩)) rfl (by kernel_rfl) (by kernel_rfl) (by kernel_rfl) (fun _ _ _ h => h) (Or.inl ⟨by rfl, fun w => ?_⟩) ?_
  · go_simp
  refine wpAny_take (i := 3) (v := .pointer (some ⟨g, 1, none⟩)) rfl (by kernel_rfl) (by kernel_rfl) (by kernel_rfl) (fun _ _ _ h => h) (Or.inl ⟨by rfl, fun w => ?_⟩) ?_
  · go_simp
  refine wpAny_ready (rs := [4, 5]) (by kernel_rfl) (by simp) ?_
  refine AllReady.cons rfl (fun K hK => ?_) ?_
  · go_simp
    refine hK _ _ ?_
    clear hK K
    refine wpAny_seq_drop 5 rfl (by kernel_rfl) ?_
    simp only [List.drop_succ_cons, List.drop_zero]
    go_wp2_with (go_at_call 42; refine (bstr _ _ _ _ (X2.out.drewN 1)).mono ?_; rintro e w' ⟨rfl, n1, rfl⟩; refine Hid.out ?_)
    refine Lib.hid ?_
    go_wp2_with (with_reducible show wpList _ _ _ (⟨some 39, _, _, _, _, _⟩ :: _) _ _; refine Hid.out ?_)
    refine Lib.hid ?_
    refine ew_tail (N := 46) (bv := bv1) (keyB esc s).data.toList rfl rfl rfl (by rw [keyB_list]; simp) rfl (by decide) H2.out hv1 (by first | exact below_bwd2 w2 _ (keyB esc s) | exact below_bwd3 w2 _ (keyB esc s)) (rb_bytes _ (keyB esc s) _ rfl) (hl.le (by rw [keyB_list]; have j1 := jout_len esc s; simp only [List.length_append, List.length_cons, List.length_nil, len_bs, ByteArray.size_append, size_lit, List.size_toArray]; omega)) ?_
    intro bv3 w3 hv3 H3 S3
    clear H2 hv1
    go_wp2_with (go_at_call 67; refine (push_any H3.out (by simp; omega) 5).mono ?_; rintro e w4 ⟨rfl, h4, S4⟩; refine Hid.out ?_)
    refine Lib.hid ?_
    have H4 := Lib.hid h4
    have S4 := Lib.hid S4
    clear h4
    go_wp2
    go_ret2
    exact ⟨rfl, by have := H4.out; rw [keyB_list] at this; simpa using this, S2.out.trans (S3.out.trans (S4.out))⟩
  refine AllReady.cons rfl (fun K hK => ?_) ?_
  · go_simp
    refine (bstr _ _ _ _ (X2.out.drewN 1)).mono ?_
    rintro e w' ⟨rfl, n1, rfl⟩
    refine hK _ _ ?_
    clear hK K
    have hvs := ((below_bwd2 w2 (1 + n1) (⟨(jout esc s).toArray⟩ ++ ⟨#[58]⟩)).cell (p := ⟨g, 1, none⟩) hlt2).trans hv1
    refine wpAny_take (i := 6) (v := .string (⟨(jout esc s).toArray⟩ ++ ⟨#[58]⟩)) rfl (by kernel_rfl) (by kernel_rfl) (by kernel_rfl) (fun _ _ _ h => h) (Or.inl ⟨by rfl, fun w => ?_⟩) ?_
    · go_simp
    refine wpAny_ready (rs := [4, 7]) (by kernel_rfl) (by simp) ?_
    refine AllReady.cons rfl (fun K hK => ?_) ?_
    · go_simp
      refine hK _ _ ?_
      clear hK K
      refine wpAny_seq_drop 7 rfl (by kernel_rfl) ?_
      simp only [List.drop_succ_cons, List.drop_zero]
      go_wp2_with (with_reducible show wpList _ _ _ (⟨some 39, _, _, _, _, _⟩ :: _) _ _; refine Hid.out ?_)
      refine Lib.hid ?_
      refine ew_tail (N := 46) (bv := bv1) (keyB esc s).data.toList rfl rfl rfl (by rw [keyB_list]; simp) rfl (by decide) H2.out hv1 (by first | exact below_bwd2 w2 _ (keyB esc s) | exact below_bwd3 w2 _ (keyB esc s)) (rb_bytes _ (keyB esc s) _ rfl) (hl.le (by rw [keyB_list]; have j1 := jout_len esc s; simp only [List.length_append, List.length_cons, List.length_nil, len_bs, ByteArray.size_append, size_lit, List.size_toArray]; omega)) ?_
      intro bv3 w3 hv3 H3 S3
      clear H2 hv1
      go_wp2_with (go_at_call 67; refine (push_any H3.out (by simp; omega) 5).mono ?_; rintro e w4 ⟨rfl, h4, S4⟩; refine Hid.out ?_)
      refine Lib.hid ?_
      have H4 := Lib.hid h4
      have S4 := Lib.hid S4
      clear h4
      go_wp2
      go_ret2
      exact ⟨rfl, by have := H4.out; rw [keyB_list] at this; simpa using this, S2.out.trans (S3.out.trans (S4.out))⟩
    refine AllReady.cons rfl (fun K hK => ?_) ?_
    · go_simp
      refine hK _ _ ?_
      clear hK K
      refine wpAny_ready (rs := [4]) (by kernel_rfl) (by simp) ?_
      refine AllReady.cons rfl (fun K hK => ?_) ?_
      · go_simp
        refine hK _ _ ?_
        clear hK K
        refine wpAny_seq_drop 8 rfl (by kernel_rfl) ?_
        simp only [List.drop_succ_cons, List.drop_zero]
        refine ew_tail (N := 46) (bv := bv1) (keyB esc s).data.toList rfl rfl rfl (by rw [keyB_list]; simp) rfl (by decide) H2.out hv1 (by first | exact below_bwd2 w2 _ (keyB esc s) | exact below_bwd3 w2 _ (keyB esc s)) (rb_bytes _ (keyB esc s) _ rfl) (hl.le (by rw [keyB_list]; have j1 := jout_len esc s; simp only [List.length_append, List.length_cons, List.length_nil, len_bs, ByteArray.size_append, size_lit, List.size_toArray]; omega)) ?_
        intro bv3 w3 hv3 H3 S3
        clear H2 hv1
        go_wp2_with (go_at_call 67; refine (push_any H3.out (by simp; omega) 5).mono ?_; rintro e w4 ⟨rfl, h4, S4⟩; refine Hid.out ?_)
        refine Lib.hid ?_
        have H4 := Lib.hid h4
        have S4 := Lib.hid S4
        clear h4
        go_wp2
        go_ret2
        exact ⟨rfl, by have := H4.out; rw [keyB_list] at this; simpa using this, S2.out.trans (S3.out.trans (S4.out))⟩
      exact AllReady.nil
    exact AllReady.nil
  exact AllReady.nil
set_option maxHeartbeats 1600000 in
set_option maxRecDepth 100000 in
theorem writeElement_2 {g B wb : Nat} {canon esc : Bool} {buf : List UInt8} {modes : List Int} {m : Int} {w : World} (s : ByteArray)  (h : IsEW g B wb canon esc buf (modes ++ [2]) w) (hl : Room buf.length) (hn : modes.length ≤ 900) (hT : Tabs w) (h17 : 17 ≤ B) (hs : s.size ≤ 10000000) :
    Calls Tryz.prog 68 #[.pointer (some ⟨g, 0, none⟩), .string s] w fun e w' => e = .returned (meV g) ∧ IsEW g B wb canon esc (buf ++ (jout esc s ++ [58])) (modes ++ [2] ++ [5]) w' ∧ EStep B w w' := by
  have hB := Lib.hid h.lt
  have HT := Lib.hid hT
  have H1 := Lib.hid h
  obtain ⟨sb1, len1, cap1, f21, f31, ff1, fs1⟩ := h.top
  have g5 := h.flags.2
  have hlt1 := h.lt.2
  have hB1 : B ≤ w.heap.size := by have := h.lt; omega
  have hj : (jout esc s).length ≤ 9223372036854775806 := by have := jout_len esc s; omega
  clear h hT
  go_enter Tryz.func68, Tryz.ntmps68
  clear g5 hlt1
  go_wp2
  go_quiet (fail)
  generalize hw1 : w.drewN nq = w1
  have D1 : Below w.heap.size w w1 := hw1 ▸ below_dr w nq
  have T1 := Lib.hid (HT.out.below D1 (by omega))
  have S1 := Lib.hid (EStep.of_below (B := B) D1 hB1)
  have G1 := Lib.hid (H1.out.below D1)
  have g5 := G1.out.flags.2
  have hlt1 := G1.out.lt.2
  have hB2 : B ≤ w1.heap.size := by have := G1.out.lt; omega
  clear f21 f31 ff1 fs1 D1 H1 hB1 HT hw1
  go_wp2_with (go_at_call 96; refine (wse_fresh s esc w1 T1.out (by omega) (by omega)).mono ?_; rintro e w2 ⟨rfl, hb2, s2⟩; refine Hid.out ?_)
  refine Lib.hid ?_
  have S2 := Lib.hid (S1.out.trans (EStep.of_below (B := B) s2 hB2))
  have H2 := Lib.hid (G1.out.below s2)
  have hlt2 := H2.out.lt.2
  have X2 := Lib.hid hb2
  obtain ⟨bv1, hv1⟩ := H2.out.buf
  clear G1 g5 hb2 s2 hlt1 hB2 S1 T1
  go_wp2
  refine wp_region_any (by kernel_rfl) ?_
  try (change wpAny _ _ _ _ _ _ _ (World.drew _))
  refine wpAny_take (i := 0) (v := .pointer (some ⟨g, 0, none⟩)) rfl (by kernel_rfl) (by kernel_rfl) (by kernel_rfl) (fun _ _ _ h => h) (Or.inl ⟨by rfl, fun w => ?_⟩) ?_
  · go_simp
  refine wpAny_take (i := 1) (v := .pointer (some ⟨g, 0, none⟩)) rfl (by kernel_rfl) (by kernel_rfl) (by kernel_rfl) (fun _ _ _ h => h) (Or.inl ⟨by rfl, fun w => ?_⟩) ?_
  · go_simp
  refine wpAny_take (i := 2) (v := .pointer (some ⟨g, 0, none⟩)) rfl (by kernel_rfl) (by kernel_rfl) (by kernel_rfl) (fun _ _ _ h => h) (Or.inl ⟨by rfl, fun w => ?_⟩) ?_
  · go_simp
  refine wpAny_take (i := 3) (v := .pointer (some ⟨g, 1, none⟩)) rfl (by kernel_rfl) (by kernel_rfl) (by kernel_rfl) (fun _ _ _ h => h) (Or.inl ⟨by rfl, fun w => ?_⟩) ?_
  · go_simp
  refine wpAny_ready (rs := [4, 5]) (by kernel_rfl) (by simp) ?_
  refine AllReady.cons rfl (fun K hK => ?_) ?_
  · go_simp
    refine hK _ _ ?_
    clear hK K
    refine wpAny_seq_drop 5 rfl (by kernel_rfl) ?_
    simp only [List.drop_succ_cons, List.drop_zero]
    go_wp2_with (go_at_call 42; refine (bstr _ _ _ _ (X2.out.drewN 1)).mono ?_; rintro e w' ⟨rfl, n1, rfl⟩; refine Hid.out ?_)
    refine Lib.hid ?_
    go_wp2_with (with_reducible show wpList _ _ _ (⟨some 39, _, _, _, _, _⟩ :: _) _ _; refine Hid.out ?_)
    refine Lib.hid ?_
    refine ew_tail (N := 46) (bv := bv1) (keyB esc s).data.toList rfl rfl rfl (by rw [keyB_list]; simp) rfl (by decide) H2.out hv1 (by first | exact below_bwd2 w2 _ (keyB esc s) | exact below_bwd3 w2 _ (keyB esc s)) (rb_bytes _ (keyB esc s) _ rfl) (hl.le (by rw [keyB_list]; have j1 := jout_len esc s; simp only [List.length_append, List.length_cons, List.length_nil, len_bs, ByteArray.size_append, size_lit, List.size_toArray]; omega)) ?_
    intro bv3 w3 hv3 H3 S3
    clear H2 hv1
    go_wp2_with (go_at_call 67; refine (push_any H3.out (by simp; omega) 5).mono ?_; rintro e w4 ⟨rfl, h4, S4⟩; refine Hid.out ?_)
    refine Lib.hid ?_
    have H4 := Lib.hid h4
    have S4 := Lib.hid S4
    clear h4
    go_wp2
    go_ret2
    exact ⟨rfl, by have := H4.out; rw [keyB_list] at this; simpa using this, S2.out.trans (S3.out.trans (S4.out))⟩
  refine AllReady.cons rfl (fun K hK => ?_) ?_
  · go_simp
    refine (bstr _ _ _ _ (X2.out.drewN 1)).mono ?_
    rintro e w' ⟨rfl, n1, rfl⟩
    refine hK _ _ ?_
    clear hK K
    have hvs := ((below_bwd2 w2 (1 + n1) (⟨(jout esc s).toArray⟩ ++ ⟨#[58]⟩)).cell (p := ⟨g, 1, none⟩) hlt2).trans hv1
    refine wpAny_take (i := 6) (v := .string (⟨(jout esc s).toArray⟩ ++ ⟨#[58]⟩)) rfl (by kernel_rfl) (by kernel_rfl) (by kernel_rfl) (fun _ _ _ h => h) (Or.inl ⟨by rfl, fun w => ?_⟩) ?_
    · go_simp
    refine wpAny_ready (rs := [4, 7]) (by kernel_rfl) (by simp) ?_
    refine AllReady.cons rfl (fun K hK => ?_) ?_
    · go_simp
      refine hK _ _ ?_
      clear hK K
      refine wpAny_seq_drop 7 rfl (by kernel_rfl) ?_
      simp only [List.drop_succ_cons, List.drop_zero]
      go_wp2_with (with_reducible show wpList _ _ _ (⟨some 39, _, _, _, _, _⟩ :: _) _ _; refine Hid.out ?_)
      refine Lib.hid ?_
      refine ew_tail (N := 46) (bv := bv1) (keyB esc s).data.toList rfl rfl rfl (by rw [keyB_list]; simp) rfl (by decide) H2.out hv1 (by first | exact below_bwd2 w2 _ (keyB esc s) | exact below_bwd3 w2 _ (keyB esc s)) (rb_bytes _ (keyB esc s) _ rfl) (hl.le (by rw [keyB_list]; have j1 := jout_len esc s; simp only [List.length_append, List.length_cons, List.length_nil, len_bs, ByteArray.size_append, size_lit, List.size_toArray]; omega)) ?_
      intro bv3 w3 hv3 H3 S3
      clear H2 hv1
      go_wp2_with (go_at_call 67; refine (push_any H3.out (by simp; omega) 5).mono ?_; rintro e w4 ⟨rfl, h4, S4⟩; refine Hid.out ?_)
      refine Lib.hid ?_
      have H4 := Lib.hid h4
      have S4 := Lib.hid S4
      clear h4
      go_wp2
      go_ret2
      exact ⟨rfl, by have := H4.out; rw [keyB_list] at this; simpa using this, S2.out.trans (S3.out.trans (S4.out))⟩
    refine AllReady.cons rfl (fun K hK => ?_) ?_
    · go_simp
      refine hK _ _ ?_
      clear hK K
      refine wpAny_ready (rs := [4]) (by kernel_rfl) (by simp) ?_
      refine AllReady.cons rfl (fun K hK => ?_) ?_
      · go_simp
        refine hK _ _ ?_
        clear hK K
        refine wpAny_seq_drop 8 rfl (by kernel_rfl) ?_
        simp only [List.drop_succ_cons, List.drop_zero]
        refine ew_tail (N := 46) (bv := bv1) (keyB esc s).data.toList rfl rfl rfl (by rw [keyB_list]; simp) rfl (by decide) H2.out hv1 (by first | exact below_bwd2 w2 _ (keyB esc s) | exact below_bwd3 w2 _ (keyB esc s)) (rb_bytes _ (keyB esc s) _ rfl) (hl.le (by rw [keyB_list]; have j1 := jout_len esc s; simp only [List.length_append, List.length_cons, List.length_nil, len_bs, ByteArray.size_append, size_lit, List.size_toArray]; omega)) ?_
        intro bv3 w3 hv3 H3 S3
        clear H2 hv1
        go_wp2_with (go_at_call 67; refine (push_any H3.out (by simp; omega) 5).mono ?_; rintro e w4 ⟨rfl, h4, S4⟩; refine Hid.out ?_)
        refine Lib.hid ?_
        have H4 := Lib.hid h4
        have S4 := Lib.hid S4
        clear h4
        go_wp2
        go_ret2
        exact ⟨rfl, by have := H4.out; rw [keyB_list] at this; simpa using this, S2.out.trans (S3.out.trans (S4.out))⟩
      exact AllReady.nil
    exact AllReady.nil
  exact AllReady.nil
set_option maxHeartbeats 1600000 in
set_option maxRecDepth 100000 in
theorem writeElement_6 {g B wb : Nat} {canon esc : Bool} {buf : List UInt8} {modes : List Int} {m : Int} {w : World} (s : ByteArray)  (h : IsEW g B wb canon esc buf (modes ++ [6]) w) (hl : Room buf.length) (hn : modes.length ≤ 900) (hT : Tabs w) (h17 : 17 ≤ B) (hs : s.size ≤ 10000000) :
    Calls Tryz.prog 68 #[.pointer (some ⟨g, 0, none⟩), .string s] w fun e w' => e = .returned (meV g) ∧ IsEW g B wb canon esc (buf ++ (jout esc s ++ [58])) (modes ++ [6] ++ [5]) w' ∧ EStep B w w' := by
  have hB := Lib.hid h.lt
  have HT := Lib.hid hT
  have H1 := Lib.hid h
  obtain ⟨sb1, len1, cap1, f21, f31, ff1, fs1⟩ := h.top
  have g5 := h.flags.2
  have hlt1 := h.lt.2
  have hB1 : B ≤ w.heap.size := by have := h.lt; omega
  have hj : (jout esc s).length ≤ 9223372036854775806 := by have := jout_len esc s; omega
  clear h hT
  go_enter Tryz.func68, Tryz.ntmps68
  clear g5 hlt1
  go_wp2
  go_quiet (fail)
  generalize hw1 : w.drewN nq = w1
  have D1 : Below w.heap.size w w1 := hw1 ▸ below_dr w nq
  have T1 := Lib.hid (HT.out.below D1 (by omega))
  have S1 := Lib.hid (EStep.of_below (B := B) D1 hB1)
  have G1 := Lib.hid (H1.out.below D1)
  have g5 := G1.out.flags.2
  have hlt1 := G1.out.lt.2
  have hB2 : B ≤ w1.heap.size := by have := G1.out.lt; omega
  clear f21 f31 ff1 fs1 D1 H1 hB1 HT hw1
  go_wp2_with (go_at_call 96; refine (wse_fresh s esc w1 T1.out (by omega) (by omega)).mono ?_; rintro e w2 ⟨rfl, hb2, s2⟩; refine Hid.out ?_)
  refine Lib.hid ?_
  have S2 := Lib.hid (S1.out.trans (EStep.of_below (B := B) s2 hB2))
  have H2 := Lib.hid (G1.out.below s2)
  have hlt2 := H2.out.lt.2
  have X2 := Lib.hid hb2
  obtain ⟨bv1, hv1⟩ := H2.out.buf
  clear G1 g5 hb2 s2 hlt1 hB2 S1 T1
  go_wp2
  refine wp_region_any (by kernel_rfl) ?_
  try (change wpAny _ _ _ _ _ _ _ (World.drew _))
  refine wpAny_take (i := 0) (v := .pointer (some ⟨g, 0, none⟩)) rfl (by kernel_rfl) (by kernel_rfl) (by kernel_rfl) (fun _ _ _ h => h) (Or.inl ⟨by rfl, fun w => ?_⟩) ?_
  · go_simp
  refine wpAny_take (i := 1) (v := .pointer (some ⟨g, 0, none⟩)) rfl (by kernel_rfl) (by kernel_rfl) (by kernel_rfl) (fun _ _ _ h => h) (Or.inl ⟨by rfl, fun w => ?_⟩) ?_
  · go_simp
  refine wpAny_take (i := 2) (v := .pointer (some ⟨g, 0, none⟩)) rfl (by kernel_rfl) (by kernel_rfl) (by kernel_rfl) (fun _ _ _ h => h) (Or.inl ⟨by rfl, fun w => ?_⟩) ?_
  · go_simp
  refine wpAny_take (i := 3) (v := .pointer (some ⟨g, 1, none⟩)) rfl (by kernel_rfl) (by kernel_rfl) (by kernel_rfl) (fun _ _ _ h => h) (Or.inl ⟨by rfl, fun w => ?_⟩) ?_
  · go_simp
  refine wpAny_ready (rs := [4, 5]) (by kernel_rfl) (by simp) ?_
  refine AllReady.cons rfl (fun K hK => ?_) ?_
  · go_simp
    refine hK _ _ ?_
    clear hK K
    refine wpAny_seq_drop 5 rfl (by kernel_rfl) ?_
    simp only [List.drop_succ_cons, List.drop_zero]
    go_wp2_with (go_at_call 42; refine (bstr _ _ _ _ (X2.out.drewN 1)).mono ?_; rintro e w' ⟨rfl, n1, rfl⟩; refine Hid.out ?_)
    refine Lib.hid ?_
    go_wp2_with (with_reducible show wpList _ _ _ (⟨some 39, _, _, _, _, _⟩ :: _) _ _; refine Hid.out ?_)
    refine Lib.hid ?_
    refine ew_tail (N := 46) (bv := bv1) (keyB esc s).data.toList rfl rfl rfl (by rw [keyB_list]; simp) rfl (by decide) H2.out hv1 (by first | exact below_bwd2 w2 _ (keyB esc s) | exact below_bwd3 w2 _ (keyB esc s)) (rb_bytes _ (keyB esc s) _ rfl) (hl.le (by rw [keyB_list]; have j1 := jout_len esc s; simp only [List.length_append, List.length_cons, List.length_nil, len_bs, ByteArray.size_append, size_lit, List.size_toArray]; omega)) ?_
    intro bv3 w3 hv3 H3 S3
    clear H2 hv1
    go_wp2_with (go_at_call 67; refine (push_any H3.out (by simp; omega) 5).mono ?_; rintro e w4 ⟨rfl, h4, S4⟩; refine Hid.out ?_)
    refine Lib.hid ?_
    have H4 := Lib.hid h4
    have S4 := Lib.hid S4
    clear h4
    go_wp2
    go_ret2
    exact ⟨rfl, by have := H4.out; rw [keyB_list] at this; simpa using this, S2.out.trans (S3.out.trans (S4.out))⟩
  refine AllReady.cons rfl (fun K hK => ?_) ?_
  · go_simp
    refine (bstr _ _ _ _ (X2.out.drewN 1)).mono ?_
    rintro e w' ⟨rfl, n1, rfl⟩
    refine hK _ _ ?_
    clear hK K
    have hvs := ((below_bwd2 w2 (1 + n1) (⟨(jout esc s).toArray⟩ ++ ⟨#[58]⟩)).cell (p := ⟨g, 1, none⟩) hlt2).trans hv1
    refine wpAny_take (i := 6) (v := .string (⟨(jout esc s).toArray⟩ ++ ⟨#[58]⟩)) rfl (by kernel_rfl) (by kernel_rfl) (by kernel_rfl) (fun _ _ _ h => h) (Or.inl ⟨by rfl, fun w => ?_⟩) ?_
    · go_simp
    refine wpAny_ready (rs := [4, 7]) (by kernel_rfl) (by simp) ?_
    refine AllReady.cons rfl (fun K hK => ?_) ?_
    · go_simp
      refine hK _ _ ?_
      clear hK K
      refine wpAny_seq_drop 7 rfl (by kernel_rfl) ?_
      simp only [List.drop_succ_cons, List.drop_zero]
      go_wp2_with (with_reducible show wpList _ _ _ (⟨some 39, _, _, _, _, _⟩ :: _) _ _; refine Hid.out ?_)
      refine Lib.hid ?_
      refine ew_tail (N := 46) (bv := bv1) (keyB esc s).data.toList rfl rfl rfl (by rw [keyB_list]; simp) rfl (by decide) H2.out hv1 (by first | exact below_bwd2 w2 _ (keyB esc s) | exact below_bwd3 w2 _ (keyB esc s)) (rb_bytes _ (keyB esc s) _ rfl) (hl.le (by rw [keyB_list]; have j1 := jout_len esc s; simp only [List.length_append, List.length_cons, List.length_nil, len_bs, ByteArray.size_append, size_lit, List.size_toArray]; omega)) ?_
      intro bv3 w3 hv3 H3 S3
      clear H2 hv1
      go_wp2_with (go_at_call 67; refine (push_any H3.out (by simp; omega) 5).mono ?_; rintro e w4 ⟨rfl, h4, S4⟩; refine Hid.out ?_)
      refine Lib.hid ?_
      have H4 := Lib.hid h4
      have S4 := Lib.hid S4
      clear h4
      go_wp2
      go_ret2
      exact ⟨rfl, by have := H4.out; rw [keyB_list] at this; simpa using this, S2.out.trans (S3.out.trans (S4.out))⟩
    refine AllReady.cons rfl (fun K hK => ?_) ?_
    · go_simp
      refine hK _ _ ?_
      clear hK K
      refine wpAny_ready (rs := [4]) (by kernel_rfl) (by simp) ?_
      refine AllReady.cons rfl (fun K hK => ?_) ?_
      · go_simp
        refine hK _ _ ?_
        clear hK K
        refine wpAny_seq_drop 8 rfl (by kernel_rfl) ?_
        simp only [List.drop_succ_cons, List.drop_zero]
        refine ew_tail (N := 46) (bv := bv1) (keyB esc s).data.toList rfl rfl rfl (by rw [keyB_list]; simp) rfl (by decide) H2.out hv1 (by first | exact below_bwd2 w2 _ (keyB esc s) | exact below_bwd3 w2 _ (keyB esc s)) (rb_bytes _ (keyB esc s) _ rfl) (hl.le (by rw [keyB_list]; have j1 := jout_len esc s; simp only [List.length_append, List.length_cons, List.length_nil, len_bs, ByteArray.size_append, size_lit, List.size_toArray]; omega)) ?_
        intro bv3 w3 hv3 H3 S3
        clear H2 hv1
        go_wp2_with (go_at_call 67; refine (push_any H3.out (by simp; omega) 5).mono ?_; rintro e w4 ⟨rfl, h4, S4⟩; refine Hid.out ?_)
        refine Lib.hid ?_
        have H4 := Lib.hid h4
        have S4 := Lib.hid S4
        clear h4
        go_wp2
        go_ret2
        exact ⟨rfl, by have := H4.out; rw [keyB_list] at this; simpa using this, S2.out.trans (S3.out.trans (S4.out))⟩
      exact AllReady.nil
    exact AllReady.nil
  exact AllReady.nil
set_option maxHeartbeats 1600000 in
set_option maxRecDepth 100000 in
theorem writeArrayEnd_comma {g B wb : Nat} {canon esc : Bool} {modes : List Int} {m : Int} {w : World} {b0 : List UInt8} {x : Int} (h : IsEW g B wb canon esc (b0 ++ [44]) (modes ++ [x, 3]) w) (hp : 0 < modes.length) (hb0 : Room b0.length) :
    Calls Tryz.prog 99 #[.pointer (some ⟨g, 0, none⟩)] w fun e w' => e = .returned (.nilIface) ∧ IsEW g B wb canon esc (b0 ++ [93, 44]) (modes) w' ∧ EStep B w w' := by
  have hB := Lib.hid h.lt
  have h' : IsEW g B wb canon esc (b0 ++ [(44 : UInt8)]) ((modes ++ [x]) ++ [3]) w := by simpa using h
  have H1 := Lib.hid h'
  obtain ⟨sb1, len1, cap1, f21, f31, ff1, fs1⟩ := h'.top
  obtain ⟨fr, hfr⟩ : ∃ fr : Nat, (modes ++ [x]).length = fr := ⟨_, rfl⟩
  rw [hfr] at f31 ff1 fs1
  clear h h'
  go_enter Tryz.func99, Tryz.ntmps99
  go_wp2
  go_quiet (fail)
  generalize hw1 : w.drewN nq = w1
  have G1 : IsEW g B wb canon esc (b0 ++ [(44 : UInt8)]) ((modes ++ [x]) ++ [3]) w1 := hw1 ▸ H1.out.drewN nq
  have S1 : EStep B w w1 := hw1 ▸ (EStep.refl B w).drewN nq
  obtain ⟨k, cap, v1, hc1, hc2, vl, vf, hset⟩ := G1.lastb
  have hc2' : (cap : Int) ≤ 9223372036854775807 := by unfold maxLen at hc2; omega
  have H1 := Lib.hid G1
  have S1 := Lib.hid S1
  have HS := Lib.hid hset
  clear f21 f31 ff1 fs1 G1 hw1 hc2 hset
  go_wp2
  go_quiet (fail)
  have hwr : IntKind.i64.wrap (b0.length : Int) = (b0.length : Int) := by rw [IntKind.wrap_i64]; omega
  have hb1 : (b0.length : Int) < (b0.length : Int) + 1 := by omega
  go_wp2
  refine wp_region_quiet_tail 11 (by kernel_rfl) (by kernel_rfl) ?_
  simp only [List.take_succ_cons, List.take_zero, List.drop_succ_cons, List.drop_zero]
  repeat (quiet_step (fail))
  refine wpQuiet_nil ?_
  intro w' hw'
  obtain ⟨nr, rfl⟩ := hw'
  rw [World.drewN_drewN]
  obtain ⟨h2, s2⟩ := HS.out 93 (nq + nr)
  rw [show (((93 : UInt8).toNat : Nat) : Int) = 93 from rfl] at h2 s2
  have H2 := Lib.hid h2
  have S2 := Lib.hid s2
  clear H1 v1 HS hwr hb1
  obtain ⟨bv2, hv2⟩ := h2.buf
  clear h2 s2
  go_wp2_with (with_reducible show wpList _ _ _ (⟨some 56, _, _, _, _, _⟩ :: _) _ _; refine Hid.out ?_)
  refine Lib.hid ?_
  refine ew_tail (N := 61) (bv := bv2) [44] rfl rfl rfl rfl rfl (by decide) H2.out hv2 (Joins.below_alloc1 _ _) (rb_new _ _ _ (by simp [World.setCell]) _ _ _ rfl) (hb0.le (by simp)) ?_
  intro bv3 w3 hv3 H3 S3
  clear H2 hv2
  go_wp2_with (go_at_call 103; refine (pop_two (modes := modes) (m := 3) (x := x) (by simpa using H3.out) hp (by decide)).mono ?_; rintro e w4 ⟨rfl, h4, S4⟩; refine Hid.out ?_)
  refine Lib.hid ?_
  have H4 := Lib.hid h4
  have S4 := Lib.hid S4
  clear h4
  go_wp2
  go_ret
  exact ⟨rfl, by have := H4.out; simpa using this, S1.out.trans (S2.out.trans (S3.out.trans (S4.out)))⟩
set_option maxHeartbeats 1600000 in
set_option maxRecDepth 100000 in
theorem writeArrayEnd_plain {g B wb : Nat} {canon esc : Bool} {modes : List Int} {m : Int} {w : World} {b0 : List UInt8} {c : UInt8} {x : Int} (h : IsEW g B wb canon esc (b0 ++ [c]) (modes ++ [x, 3]) w) (hp : 0 < modes.length) (hb0 : Room b0.length) (hc : ¬ c = 44) :
    Calls Tryz.prog 99 #[.pointer (some ⟨g, 0, none⟩)] w fun e w' => e = .returned (.nilIface) ∧ IsEW g B wb canon esc (b0 ++ [c, 93, 44]) (modes) w' ∧ EStep B w w' := by
  have hB := Lib.hid h.lt
  have h' : IsEW g B wb canon esc (b0 ++ [c]) ((modes ++ [x]) ++ [3]) w := by simpa using h
  have H1 := Lib.hid h'
  obtain ⟨sb1, len1, cap1, f21, f31, ff1, fs1⟩ := h'.top
  obtain ⟨fr, hfr⟩ : ∃ fr : Nat, (modes ++ [x]).length = fr := ⟨_, rfl⟩
  rw [hfr] at f31 ff1 fs1
  have hcn : (((c.toNat : Nat) : Int) == 44) = false := beq_eq_false_iff_ne.2 (fun e => hc (by exact UInt8.toNat_inj.mp (by show c.toNat = 44; omega)))
  clear h h'
  go_enter Tryz.func99, Tryz.ntmps99
  go_wp2
  go_quiet (fail)
  generalize hw1 : w.drewN nq = w1
  have G1 : IsEW g B wb canon esc (b0 ++ [c]) ((modes ++ [x]) ++ [3]) w1 := hw1 ▸ H1.out.drewN nq
  have S1 : EStep B w w1 := hw1 ▸ (EStep.refl B w).drewN nq
  obtain ⟨k, cap, v1, hc1, hc2, vl, vf, hset⟩ := G1.lastb
  have hc2' : (cap : Int) ≤ 9223372036854775807 := by unfold maxLen at hc2; omega
  have H1 := Lib.hid G1
  have S1 := Lib.hid S1
  have HS := Lib.hid hset
  clear f21 f31 ff1 fs1 G1 hw1 hc2 hset
  go_wp2
  go_quiet (fail)
  have H2 := Lib.hid (H1.out.drewN nq)
  have S2 := Lib.hid ((EStep.refl B w1).drewN nq)
  have hv2 : (w1.drewN nq).cell? ⟨g, 1, none⟩ = some (.slice (some ⟨k, 0, none⟩) (b0.length + 1) cap) := v1
  clear H1 v1 HS
  go_wp2_with (with_reducible show wpList _ _ _ (⟨some 47, _, _, _, _, _⟩ :: _) _ _; refine Hid.out ?_)
  refine Lib.hid ?_
  refine ew_tail (N := 61) (bv := (.slice (some ⟨k, 0, none⟩) (b0.length + 1) cap)) [93] rfl rfl rfl rfl rfl (by decide) H2.out hv2 (Joins.below_alloc1 _ _) (rb_new _ _ _ rfl _ _ _ rfl) (hb0.le (by simp)) ?_
  intro bv3 w3 hv3 H3 S3
  clear H2 hv2
  go_wp2_with (with_reducible show wpList _ _ _ (⟨some 56, _, _, _, _, _⟩ :: _) _ _; refine Hid.out ?_)
  refine Lib.hid ?_
  refine ew_tail (N := 61) (bv := bv3) [44] rfl rfl rfl rfl rfl (by decide) H3.out hv3 (Joins.below_alloc1 _ _) (rb_new _ _ _ rfl _ _ _ rfl) (hb0.le (by simp)) ?_
  intro bv4 w4 hv4 H4 S4
  clear H3 hv3
  go_wp2_with (go_at_call 103; refine (pop_two (modes := modes) (m := 3) (x := x) (by simpa using H4.out) hp (by decide)).mono ?_; rintro e w5 ⟨rfl, h5, S5⟩; refine Hid.out ?_)
  refine Lib.hid ?_
  have H5 := Lib.hid h5
  have S5 := Lib.hid S5
  clear h5
  go_wp2
  go_ret
  exact ⟨rfl, by have := H5.out; simpa using this, S1.out.trans (S2.out.trans (S3.out.trans (S4.out.trans (S5.out))))⟩
set_option maxHeartbeats 1600000 in
set_option maxRecDepth 100000 in
theorem writeDocEnd_2_comma {g B wb : Nat} {canon esc : Bool} {modes : List Int} {m : Int} {w : World} {b0 : List UInt8} {x : Int} (h : IsEW g B wb canon esc (b0 ++ [44]) (modes ++ [x, 2]) w) (hp : 0 < modes.length) (hb0 : Room b0.length) :
    Calls Tryz.prog 70 #[.pointer (some ⟨g, 0, none⟩)] w fun e w' => e = .returned (.nilIface) ∧ IsEW g B wb canon esc (b0 ++ [125, 44]) (modes) w' ∧ EStep B w w' := by
  have hB := Lib.hid h.lt
  have h' : IsEW g B wb canon esc (b0 ++ [(44 : UInt8)]) ((modes ++ [x]) ++ [2]) w := by simpa using h
  have H1 := Lib.hid h'
  obtain ⟨sb1, len1, cap1, f21, f31, ff1, fs1⟩ := h'.top
  obtain ⟨fr, hfr⟩ : ∃ fr : Nat, ((modes ++ [x]) : List Int).length = fr := ⟨_, rfl⟩
  rw [hfr] at f31 ff1 fs1
  clear h h'
  go_enter Tryz.func70, Tryz.ntmps70
  go_wp2
  go_quiet (fail)
  generalize hw1 : w.drewN nq = w1
  have G1 : IsEW g B wb canon esc (b0 ++ [(44 : UInt8)]) ((modes ++ [x]) ++ [2]) w1 := hw1 ▸ H1.out.drewN nq
  have S1 : EStep B w w1 := hw1 ▸ (EStep.refl B w).drewN nq
  obtain ⟨k, cap, v1, hc1, hc2, vl, vf, hset⟩ := G1.lastb
  have hc2' : (cap : Int) ≤ 9223372036854775807 := by unfold maxLen at hc2; omega
  have H1 := Lib.hid G1
  have S1 := Lib.hid S1
  have HS := Lib.hid hset
  clear f21 f31 ff1 fs1 G1 hw1 hc2 hset
  go_wp2
  go_quiet (fail)
  have hwr : IntKind.i64.wrap (b0.length : Int) = (b0.length : Int) := by rw [IntKind.wrap_i64]; omega
  have hb1 : (b0.length : Int) < (b0.length : Int) + 1 := by omega
  go_wp2
  refine wp_region_quiet_tail 11 (by kernel_rfl) (by kernel_rfl) ?_
  simp only [List.take_succ_cons, List.take_zero, List.drop_succ_cons, List.drop_zero]
  repeat (quiet_step (fail))
  refine wpQuiet_nil ?_
  intro w' hw'
  obtain ⟨nr, rfl⟩ := hw'
  rw [World.drewN_drewN]
  obtain ⟨h2, s2⟩ := HS.out 125 (nq + nr)
  rw [show (((125 : UInt8).toNat : Nat) : Int) = 125 from rfl] at h2 s2
  have H2 := Lib.hid h2
  have S2 := Lib.hid s2
  clear H1 v1 HS hwr hb1 h2 s2
  go_wp2
  clear vl vf hc1 hc2'
  generalize ((w1.drewN (nq + nr)).setCell ⟨k, b0.length, none⟩ (.int .u8 125)) = w2 at H2 S2 ⊢
  obtain ⟨sb3, len3, cap3, f23, f33, ff3, fs3⟩ := H2.out.top
  rw [hfr] at f33 ff3 fs3
  go_quiet (fail)
  clear f23 f33 ff3 fs3
  have H3 := Lib.hid (H2.out.drewN nq)
  have S3 := Lib.hid ((EStep.refl B w2).drewN nq)
  obtain ⟨bv3, hv3⟩ := H3.out.buf
  clear H2
  go_wp2_with (with_reducible show wpList _ _ _ (⟨some 86, _, _, _, _, _⟩ :: _) _ _; refine Hid.out ?_)
  refine Lib.hid ?_
  refine ew_tail (N := 134) (bv := bv3) [44] rfl rfl rfl rfl rfl (by decide) H3.out hv3 (Joins.below_alloc1 _ _) (rb_new _ _ _ rfl _ _ _ rfl) (hb0.le (by simp)) ?_
  intro bv4 w4 hv4 H4 S4
  clear H3 hv3
  go_wp2_with (go_at_call 103; refine (pop_two (modes := modes) (m := 2) (x := x) (by simpa using H4.out) hp (by decide)).mono ?_; rintro e w5 ⟨rfl, h5, S5⟩; refine Hid.out ?_)
  refine Lib.hid ?_
  have H5 := Lib.hid h5
  have S5 := Lib.hid S5
  clear h5
  go_wp2
  go_ret
  exact ⟨rfl, by have := H5.out; simpa using this, S1.out.trans (S2.out.trans (S3.out.trans (S4.out.trans (S5.out))))⟩
set_option maxHeartbeats 1600000 in
set_option maxRecDepth 100000 in
theorem writeDocEnd_2_plain {g B wb : Nat} {canon esc : Bool} {modes : List Int} {m : Int} {w : World} {b0 : List UInt8} {c : UInt8} {x : Int} (h : IsEW g B wb canon esc (b0 ++ [c]) (modes ++ [x, 2]) w) (hp : 0 < modes.length) (hb0 : Room b0.length) (hc : ¬ c = 44) :
    Calls Tryz.prog 70 #[.pointer (some ⟨g, 0, none⟩)] w fun e w' => e = .returned (.nilIface) ∧ IsEW g B wb canon esc (b0 ++ (c :: [125, 44])) (modes) w' ∧ EStep B w w' := by
  have hB := Lib.hid h.lt
  have hcn : (((c.toNat : Nat) : Int) == 44) = false := beq_eq_false_iff_ne.2 (fun e => hc (by exact UInt8.toNat_inj.mp (by show c.toNat = 44; omega)))
  have h' : IsEW g B wb canon esc (b0 ++ [c]) ((modes ++ [x]) ++ [2]) w := by simpa using h
  have H1 := Lib.hid h'
  obtain ⟨sb1, len1, cap1, f21, f31, ff1, fs1⟩ := h'.top
  obtain ⟨fr, hfr⟩ : ∃ fr : Nat, ((modes ++ [x]) : List Int).length = fr := ⟨_, rfl⟩
  rw [hfr] at f31 ff1 fs1
  clear h h'
  go_enter Tryz.func70, Tryz.ntmps70
  go_wp2
  go_quiet (fail)
  generalize hw1 : w.drewN nq = w1
  have G1 : IsEW g B wb canon esc (b0 ++ [c]) ((modes ++ [x]) ++ [2]) w1 := hw1 ▸ H1.out.drewN nq
  have S1 : EStep B w w1 := hw1 ▸ (EStep.refl B w).drewN nq
  obtain ⟨k, cap, v1, hc1, hc2, vl, vf, hset⟩ := G1.lastb
  have hc2' : (cap : Int) ≤ 9223372036854775807 := by unfold maxLen at hc2; omega
  have H1 := Lib.hid G1
  have S1 := Lib.hid S1
  have HS := Lib.hid hset
  clear f21 f31 ff1 fs1 G1 hw1 hc2 hset
  go_wp2
  go_quiet (fail)
  have H2 := Lib.hid (H1.out.drewN nq)
  have S2 := Lib.hid ((EStep.refl B w1).drewN nq)
  have hv2 : (w1.drewN nq).cell? ⟨g, 1, none⟩ = some (.slice (some ⟨k, 0, none⟩) (b0.length + 1) cap) := v1
  clear H1 v1 HS
  go_wp2_with (with_reducible show wpList _ _ _ (⟨some 51, _, _, _, _, _⟩ :: _) _ _; refine Hid.out ?_)
  refine Lib.hid ?_
  refine ew_tail (N := 134) (bv := (.slice (some ⟨k, 0, none⟩) (b0.length + 1) cap)) [125] rfl rfl rfl rfl rfl (by decide) H2.out hv2 (Joins.below_alloc1 _ _) (rb_new _ _ _ rfl _ _ _ rfl) (hb0.le (by simp)) ?_
  intro bv3 w3 hv3 H3 S3
  clear H2 hv2
  go_wp2
  obtain ⟨sb3, len3, cap3, f23, f33, ff3, fs3⟩ := H3.out.top
  rw [hfr] at f33 ff3 fs3
  go_quiet (fail)
  clear f23 f33 ff3 fs3
  have H4 := Lib.hid (H3.out.drewN nq)
  have S4 := Lib.hid ((EStep.refl B w3).drewN nq)
  obtain ⟨bv4, hv4⟩ := H4.out.buf
  clear H3
  go_wp2_with (with_reducible show wpList _ _ _ (⟨some 86, _, _, _, _, _⟩ :: _) _ _; refine Hid.out ?_)
  refine Lib.hid ?_
  refine ew_tail (N := 134) (bv := bv4) [44] rfl rfl rfl rfl rfl (by decide) H4.out hv4 (Joins.below_alloc1 _ _) (rb_new _ _ _ rfl _ _ _ rfl) (hb0.le (by simp)) ?_
  intro bv5 w5 hv5 H5 S5
  clear H4 hv4
  go_wp2_with (go_at_call 103; refine (pop_two (modes := modes) (m := 2) (x := x) (by simpa using H5.out) hp (by decide)).mono ?_; rintro e w6 ⟨rfl, h6, S6⟩; refine Hid.out ?_)
  refine Lib.hid ?_
  have H6 := Lib.hid h6
  have S6 := Lib.hid S6
  clear h6
  go_wp2
  go_ret
  exact ⟨rfl, by have := H6.out; simpa using this, S1.out.trans (S2.out.trans (S3.out.trans (S4.out.trans (S5.out.trans (S6.out)))))⟩
set_option maxHeartbeats 1600000 in
set_option maxRecDepth 100000 in
theorem writeDocEnd_6_comma {g B wb : Nat} {canon esc : Bool} {modes : List Int} {m : Int} {w : World} {b0 : List UInt8} {x : Int} (h : IsEW g B wb canon esc (b0 ++ [44]) (modes ++ [x, 6]) w) (hp : 0 < modes.length) (hb0 : Room b0.length) :
    Calls Tryz.prog 70 #[.pointer (some ⟨g, 0, none⟩)] w fun e w' => e = .returned (.nilIface) ∧ IsEW g B wb canon esc (b0 ++ [125, 125, 44]) (modes) w' ∧ EStep B w w' := by
  have hB := Lib.hid h.lt
  have h' : IsEW g B wb canon esc (b0 ++ [(44 : UInt8)]) ((modes ++ [x]) ++ [6]) w := by simpa using h
  have H1 := Lib.hid h'
  obtain ⟨sb1, len1, cap1, f21, f31, ff1, fs1⟩ := h'.top
  obtain ⟨fr, hfr⟩ : ∃ fr : Nat, ((modes ++ [x]) : List Int).length = fr := ⟨_, rfl⟩
  rw [hfr] at f31 ff1 fs1
  clear h h'
  go_enter Tryz.func70, Tryz.ntmps70
  go_wp2
  go_quiet (fail)
  generalize hw1 : w.drewN nq = w1
  have G1 : IsEW g B wb canon esc (b0 ++ [(44 : UInt8)]) ((modes ++ [x]) ++ [6]) w1 := hw1 ▸ H1.out.drewN nq
  have S1 : EStep B w w1 := hw1 ▸ (EStep.refl B w).drewN nq
  obtain ⟨k, cap, v1, hc1, hc2, vl, vf, hset⟩ := G1.lastb
  have hc2' : (cap : Int) ≤ 9223372036854775807 := by unfold maxLen at hc2; omega
  have H1 := Lib.hid G1
  have S1 := Lib.hid S1
  have HS := Lib.hid hset
  clear f21 f31 ff1 fs1 G1 hw1 hc2 hset
  go_wp2
  go_quiet (fail)
  have hwr : IntKind.i64.wrap (b0.length : Int) = (b0.length : Int) := by rw [IntKind.wrap_i64]; omega
  have hb1 : (b0.length : Int) < (b0.length : Int) + 1 := by omega
  go_wp2
  refine wp_region_quiet_tail 11 (by kernel_rfl) (by kernel_rfl) ?_
  simp only [List.take_succ_cons, List.take_zero, List.drop_succ_cons, List.drop_zero]
  repeat (quiet_step (fail))
  refine wpQuiet_nil ?_
  intro w' hw'
  obtain ⟨nr, rfl⟩ := hw'
  rw [World.drewN_drewN]
  obtain ⟨h2, s2⟩ := HS.out 125 (nq + nr)
  rw [show (((125 : UInt8).toNat : Nat) : Int) = 125 from rfl] at h2 s2
  have H2 := Lib.hid h2
  have S2 := Lib.hid s2
  clear H1 v1 HS hwr hb1 h2 s2
  go_wp2
  clear vl vf hc1 hc2'
  generalize ((w1.drewN (nq + nr)).setCell ⟨k, b0.length, none⟩ (.int .u8 125)) = w2 at H2 S2 ⊢
  obtain ⟨sb3, len3, cap3, f23, f33, ff3, fs3⟩ := H2.out.top
  rw [hfr] at f33 ff3 fs3
  go_quiet (fail)
  clear f23 f33 ff3 fs3
  have H3 := Lib.hid (H2.out.drewN nq)
  have S3 := Lib.hid ((EStep.refl B w2).drewN nq)
  obtain ⟨bv3, hv3⟩ := H3.out.buf
  clear H2
  go_wp2_with (with_reducible show wpList _ _ _ (⟨some 77, _, _, _, _, _⟩ :: _) _ _; refine Hid.out ?_)
  refine Lib.hid ?_
  refine ew_tail (N := 134) (bv := bv3) [125] rfl rfl rfl rfl rfl (by decide) H3.out hv3 (Joins.below_alloc1 _ _) (rb_new _ _ _ rfl _ _ _ rfl) (hb0.le (by simp)) ?_
  intro bv4 w4 hv4 H4 S4
  clear H3 hv3
  go_wp2_with (with_reducible show wpList _ _ _ (⟨some 86, _, _, _, _, _⟩ :: _) _ _; refine Hid.out ?_)
  refine Lib.hid ?_
  refine ew_tail (N := 134) (bv := bv4) [44] rfl rfl rfl rfl rfl (by decide) H4.out hv4 (Joins.below_alloc1 _ _) (rb_new _ _ _ rfl _ _ _ rfl) (hb0.le (by simp)) ?_
  intro bv5 w5 hv5 H5 S5
  clear H4 hv4
  go_wp2_with (go_at_call 103; refine (pop_two (modes := modes) (m := 6) (x := x) (by simpa using H5.out) hp (by decide)).mono ?_; rintro e w6 ⟨rfl, h6, S6⟩; refine Hid.out ?_)
  refine Lib.hid ?_
  have H6 := Lib.hid h6
  have S6 := Lib.hid S6
  clear h6
  go_wp2
  go_ret
  exact ⟨rfl, by have := H6.out; simpa using this, S1.out.trans (S2.out.trans (S3.out.trans (S4.out.trans (S5.out.trans (S6.out)))))⟩
set_option maxHeartbeats 1600000 in
set_option maxRecDepth 100000 in
theorem writeDocEnd_6_plain {g B wb : Nat} {canon esc : Bool} {modes : List Int} {m : Int} {w : World} {b0 : List UInt8} {c : UInt8} {x : Int} (h : IsEW g B wb canon esc (b0 ++ [c]) (modes ++ [x, 6]) w) (hp : 0 < modes.length) (hb0 : Room b0.length) (hc : ¬ c = 44) :
    Calls Tryz.prog 70 #[.pointer (some ⟨g, 0, none⟩)] w fun e w' => e = .returned (.nilIface) ∧ IsEW g B wb canon esc (b0 ++ (c :: [125, 125, 44])) (modes) w' ∧ EStep B w w' := by
  have hB := Lib.hid h.lt
  have hcn : (((c.toNat : Nat) : Int) == 44) = false := beq_eq_false_iff_ne.2 (fun e => hc (by exact UInt8.toNat_inj.mp (by show c.toNat = 44; omega)))
  have h' : IsEW g B wb canon esc (b0 ++ [c]) ((modes ++ [x]) ++ [6]) w := by simpa using h
  have H1 := Lib.hid h'
  obtain ⟨sb1, len1, cap1, f21, f31, ff1, fs1⟩ := h'.top
  obtain ⟨fr, hfr⟩ : ∃ fr : Nat, ((modes ++ [x]) : List Int).length = fr := ⟨_, rfl⟩
  rw [hfr] at f31 ff1 fs1
  clear h h'
  go_enter Tryz.func70, Tryz.ntmps70
  go_wp2
  go_quiet (fail)
  generalize hw1 : w.drewN nq = w1
  have G1 : IsEW g B wb canon esc (b0 ++ [c]) ((modes ++ [x]) ++ [6]) w1 := hw1 ▸ H1.out.drewN nq
  have S1 : EStep B w w1 := hw1 ▸ (EStep.refl B w).drewN nq
  obtain ⟨k, cap, v1, hc1, hc2, vl, vf, hset⟩ := G1.lastb
  have hc2' : (cap : Int) ≤ 9223372036854775807 := by unfold maxLen at hc2; omega
  have H1 := Lib.hid G1
  have S1 := Lib.hid S1
  have HS := Lib.hid hset
  clear f21 f31 ff1 fs1 G1 hw1 hc2 hset
  go_wp2
  go_quiet (fail)
  have H2 := Lib.hid (H1.out.drewN nq)
  have S2 := Lib.hid ((EStep.refl B w1).drewN nq)
  have hv2 : (w1.drewN nq).cell? ⟨g, 1, none⟩ = some (.slice (some ⟨k, 0, none⟩) (b0.length + 1) cap) := v1
  clear H1 v1 HS
  go_wp2_with (with_reducible show wpList _ _ _ (⟨some 51, _, _, _, _, _⟩ :: _) _ _; refine Hid.out ?_)
  refine Lib.hid ?_
  refine ew_tail (N := 134) (bv := (.slice (some ⟨k, 0, none⟩) (b0.length + 1) cap)) [125] rfl rfl rfl rfl rfl (by decide) H2.out hv2 (Joins.below_alloc1 _ _) (rb_new _ _ _ rfl _ _ _ rfl) (hb0.le (by simp)) ?_
  intro bv3 w3 hv3 H3 S3
  clear H2 hv2
  go_wp2
  obtain ⟨sb3, len3, cap3, f23, f33, ff3, fs3⟩ := H3.out.top
  rw [hfr] at f33 ff3 fs3
  go_quiet (fail)
  clear f23 f33 ff3 fs3
  have H4 := Lib.hid (H3.out.drewN nq)
  have S4 := Lib.hid ((EStep.refl B w3).drewN nq)
  obtain ⟨bv4, hv4⟩ := H4.out.buf
  clear H3
  go_wp2_with (with_reducible show wpList _ _ _ (⟨some 77, _, _, _, _, _⟩ :: _) _ _; refine Hid.out ?_)
  refine Lib.hid ?_
  refine ew_tail (N := 134) (bv := bv4) [125] rfl rfl rfl rfl rfl (by decide) H4.out hv4 (Joins.below_alloc1 _ _) (rb_new _ _ _ rfl _ _ _ rfl) (hb0.le (by simp)) ?_
  intro bv5 w5 hv5 H5 S5
  clear H4 hv4
  go_wp2_with (with_reducible show wpList _ _ _ (⟨some 86, _, _, _, _, _⟩ :: _) _ _; refine Hid.out ?_)
  refine Lib.hid ?_
  refine ew_tail (N := 134) (bv := bv5) [44] rfl rfl rfl rfl rfl (by decide) H5.out hv5 (Joins.below_alloc1 _ _) (rb_new _ _ _ rfl _ _ _ rfl) (hb0.le (by simp)) ?_
  intro bv6 w6 hv6 H6 S6
  clear H5 hv5
  go_wp2_with (go_at_call 103; refine (pop_two (modes := modes) (m := 6) (x := x) (by simpa using H6.out) hp (by decide)).mono ?_; rintro e w7 ⟨rfl, h7, S7⟩; refine Hid.out ?_)
  refine Lib.hid ?_
  have H7 := Lib.hid h7
  have S7 := Lib.hid S7
  clear h7
  go_wp2
  go_ret
  exact ⟨rfl, by have := H7.out; simpa using this, S1.out.trans (S2.out.trans (S3.out.trans (S4.out.trans (S5.out.trans (S6.out.trans (S7.out))))))⟩
theorem IsEW.rows {g B wb : Nat} {canon esc : Bool} {buf : List UInt8} {modes : List Int} {w : World} (h : IsEW g B wb canon esc buf modes w) (hl : 0 < buf.length) :
    ∃ k cap cur, w.cell? ⟨g, 1, none⟩ = some (.slice (some ⟨k, 0, none⟩) buf.length cap) ∧ w.heap[k]? = some (.cells cur 5 (0, 0)) ∧ (∀ j v, (Lib.byteCells buf)[j]? = some v → w.cell? ((⟨k, 0, none⟩ : Addr).add j) = some v) ∧ buf.length ≤ cap ∧ cap ≤ maxLen := by
  obtain ⟨hB, bv, sb, len, cap', ms, hg, hown, hsB, hs, r⟩ := h
  rcases hown.2 with ⟨rfl, hn⟩ | ⟨k, cap, cur, rfl, hgk, hh, hnc, hcap, hr⟩
  · simp [Lib.byteCells] at hn
    simp [hn] at hl
  · refine ⟨k, cap, cur, by rw [blk_cell hg]; rfl, hh, fun j v hv => ?_, hnc, hcap⟩
    have hj : j < (Lib.byteCells buf).length := by
      rcases Nat.lt_or_ge j (Lib.byteCells buf).length with h | h
      · exact h
      · simp [List.getElem?_eq_none h] at hv
    rw [Lib.byteCells_length] at hj
    have h2 := hr.2
    rw [Nat.mul_one] at h2
    rw [← h2, List.getElem?_take_of_lt hj] at hv
    rw [Lib.addr_add, Nat.zero_add, blk_cell hh]
    simpa using hv
theorem IsEW.flags2 {g B wb : Nat} {canon esc : Bool} {buf : List UInt8} {modes : List Int} {w : World} (h : IsEW g B wb canon esc buf modes w) : w.cell? ⟨g, 0, none⟩ = some (.iface 67 (.pointer (some ⟨wb, 0, none⟩))) ∧ w.cell? ⟨g, 6, none⟩ = some (.bool true) := by
  obtain ⟨hB, bv, sb, len, cap, ms, hg, _⟩ := h
  exact ⟨by rw [blk_cell hg]; rfl, by rw [blk_cell hg]; rfl⟩
theorem IsEW.blocks {g B wb : Nat} {canon esc : Bool} {buf : List UInt8} {x : Int} {w : World} (h : IsEW g B wb canon esc buf [x] w) :
    ∃ bv sb len cap cs, w.heap[g]? = some (.cells #[.iface 67 (.pointer (some ⟨wb, 0, none⟩)), bv, .slice (some ⟨sb, 0, none⟩) len cap, .int .i64 0, .bool canon, .bool esc, .bool true] 104 (0, 0)) ∧ w.heap[sb]? = some (.cells cs 101 (0, 0)) ∧ 1 ≤ len ∧ cs[0]? = some (.int .i64 x) := by
  obtain ⟨hB, bv, sb, len, cap, ms, hg, _, _, hs, _, _, _, _, _, hle, hms⟩ := h
  refine ⟨bv, sb, len, cap, _, hg, hs, by simpa using hle, ?_⟩
  have := hms 0 (by simp)
  simp at this
  simp [this]
theorem IsB.setFar {B b g : Nat} {l : List UInt8} {w : World} {cs : Array Value} {t : TypeId} {fr : Nat × Nat} (h : Lib.IsBuffer 64 5 B b ([] ++ Lib.byteCells l) w) (hg : w.heap[g]? = some (.cells cs t fr)) (ht : 5 ≠ t) (hne : ¬ b = g) (i : Nat) (u : Value) : IsB B b l (w.setCell ⟨g, i, none⟩ u) := by
  obtain ⟨hB, v, lr, hbk, hown, hn⟩ := h
  exact ⟨hB, v, lr, (Below.heap_setCell w _ u b hne).trans hbk, ownsRow_of_block hown (fun k hk => Below.heap_setCell w _ u k (by rintro rfl; exact own_ne hown hg ht hk)), hn⟩
theorem below_dr' {B : Nat} (w : World) (n : Nat) : Below B w (w.drewN n) := ⟨rfl, rfl, rfl, Nat.le_refl _, fun _ _ => rfl⟩
def fresh64 : Obj := .cells #[.slice none 0 0, .int .i64 0, .int .i8 0] 64 (0, 0)
theorem fresh_is {B wb : Nat} {w : World} (hB : B ≤ wb) (h : w.heap[wb]? = some fresh64) : IsB B wb [] w := ⟨hB, .slice none 0 0, 0, h, World.ownsRow_nil _ _ _ _, by simp [Value.ownBlock]⟩
theorem fresh_kept {wb : Nat} {w w' : World} (h : w.heap[wb]? = some fresh64) (hk : EKept w w') : w'.heap[wb]? = some fresh64 := hk wb _ h (by intro c e fz he; unfold fresh64 at he; injection he with h1 h2 h3; subst h2; decide)
set_option maxHeartbeats 1600000 in
set_option maxRecDepth 100000 in
theorem writeDocEnd_top_comma {g B wb : Nat} {canon esc : Bool} {w : World} {b0 : List UInt8}  (h : IsEW g B wb canon esc (b0 ++ [44]) ([1]) w) (hb0 : Room b0.length) (hBw : B ≤ wb) (hwb : w.heap[wb]? = some fresh64) :
    Calls Tryz.prog 70 #[.pointer (some ⟨g, 0, none⟩)] w fun e w' => e = .returned (.nilIface) ∧ IsB B wb (b0 ++ [125, 10]) w' ∧ Below B w w' := by
  have hB := Lib.hid h.lt
  have h' : IsEW g B wb canon esc (b0 ++ [(44 : UInt8)]) ([] ++ [1]) w := by simpa using h
  have H1 := Lib.hid h'
  obtain ⟨sb1, len1, cap1, f21, f31, ff1, fs1⟩ := h'.top
  obtain ⟨fr, hfr⟩ : ∃ fr : Nat, ([] : List Int).length = fr := ⟨_, rfl⟩
  rw [hfr] at f31 ff1 fs1
  clear h h'
  go_enter Tryz.func70, Tryz.ntmps70
  go_wp2
  go_quiet (fail)
  generalize hw1 : w.drewN nq = w1
  have G1 : IsEW g B wb canon esc (b0 ++ [(44 : UInt8)]) ([] ++ [1]) w1 := hw1 ▸ H1.out.drewN nq
  have S1 : EStep B w w1 := hw1 ▸ (EStep.refl B w).drewN nq
  obtain ⟨k, cap, v1, hc1, hc2, vl, vf, hset⟩ := G1.lastb
  have hc2' : (cap : Int) ≤ 9223372036854775807 := by unfold maxLen at hc2; omega
  have H1 := Lib.hid G1
  have S1 := Lib.hid S1
  have HS := Lib.hid hset
  clear f21 f31 ff1 fs1 G1 hw1 hc2 hset
  go_wp2
  go_quiet (fail)
  have hwr : IntKind.i64.wrap (b0.length : Int) = (b0.length : Int) := by rw [IntKind.wrap_i64]; omega
  have hb1 : (b0.length : Int) < (b0.length : Int) + 1 := by omega
  go_wp2
  refine wp_region_quiet_tail 11 (by kernel_rfl) (by kernel_rfl) ?_
  simp only [List.take_succ_cons, List.take_zero, List.drop_succ_cons, List.drop_zero]
  repeat (quiet_step (fail))
  refine wpQuiet_nil ?_
  intro w' hw'
  obtain ⟨nr, rfl⟩ := hw'
  rw [World.drewN_drewN]
  obtain ⟨h2, s2⟩ := HS.out 125 (nq + nr)
  rw [show (((125 : UInt8).toNat : Nat) : Int) = 125 from rfl] at h2 s2
  have H2 := Lib.hid h2
  have S2 := Lib.hid s2
  clear H1 v1 HS hwr hb1 h2 s2
  go_wp2
  clear vl vf hc1 hc2'
  generalize ((w1.drewN (nq + nr)).setCell ⟨k, b0.length, none⟩ (.int .u8 125)) = w2 at H2 S2 ⊢
  obtain ⟨sb3, len3, cap3, f23, f33, ff3, fs3⟩ := H2.out.top
  rw [hfr] at f33 ff3 fs3
  go_quiet (fail)
  clear f23 f33 ff3 fs3
  have H3 := Lib.hid (H2.out.drewN nq)
  have S3 := Lib.hid ((EStep.refl B w2).drewN nq)
  obtain ⟨bv3, hv3⟩ := H3.out.buf
  clear H2
  have g6 := H3.out.flags2.2
  go_wp2_with (with_reducible show wpList _ _ _ (⟨some 99, _, _, _, _, _⟩ :: _) _ _; refine Hid.out ?_)
  refine Lib.hid ?_
  refine ew_tail (N := 134) (bv := bv3) [10] rfl rfl rfl rfl rfl (by decide) H3.out hv3 (Joins.below_alloc1 _ _) (rb_new _ _ _ rfl _ _ _ rfl) (hb0.le (by simp)) ?_
  intro bv4 w4 hv4 H4 S4
  clear H3 hv3
  have ST : Hid (EStep B w w4) := Lib.hid (S1.out.trans (S2.out.trans (S3.out.trans (S4.out))))
  have hw5 := fresh_kept hwb ST.out.2
  obtain ⟨kr, capr, cur, r1, r2, r3, r4, r5⟩ := H4.out.rows (by simp)
  have r5' : (capr : Int) ≤ 9223372036854775807 := by unfold maxLen at r5; omega
  have g0 := H4.out.flags2.1
  obtain ⟨bvz, sbz, lenz, capz, cs, z1, z2, z3, z4⟩ := H4.out.blocks
  obtain ⟨nL, hnL⟩ : ∃ nL, ((b0 ++ [125]) ++ [10] : List UInt8).length = nL := ⟨_, rfl⟩
  rw [hnL] at r1 r4
  have hbv : bvz = .slice (some ⟨kr, 0, none⟩) nL capr := by have := r1; rw [blk_cell z1] at this; simpa using this
  subst hbv
  have hnb : nL ≤ 140737488355328 := by rw [← hnL]; exact hb0.le (by simp)
  have HNB := Lib.hid hnb
  have HF := Lib.hid (fresh_is hBw hw5)
  have hme : ∀ w : World, (method 471 67 (.pointer (some ⟨wb, 0, none⟩)) "Write").run Tryz.prog w = .ok (301, .pointer (some ⟨wb, 0, none⟩)) w := fun _ => by kernel_rfl
  have hwg : ¬ wb = g := ne_of_tag hw5 z1 (by decide)
  have hws : ¬ wb = sbz := ne_of_tag hw5 z2 (by decide)
  have hrw : ¬ kr = wb := ne_of_tag r2 hw5 (by decide)
  have hsg : ¬ sbz = g := ne_of_tag z2 z1 (by decide)
  clear hwb hnb
  go_wp2
  refine wp_region_any (by kernel_rfl) ?_
  try (change wpAny _ _ _ _ _ _ _ (World.drew _))
  have hsz : B ≤ (World.drew w4).heap.size := (show B ≤ w4.heap.size by have := H4.out.lt; omega)
  have hcall : Hid (Calls Tryz.prog 301 #[.pointer (some ⟨wb, 0, none⟩), .slice (some ⟨kr, 0, none⟩) nL capr] (World.drew w4) fun e w' => e = .returned (.tuple #[.int .i64 nL, .nilIface]) ∧ Lib.IsBuffer 64 5 B wb ([] ++ Lib.byteCells ((b0 ++ [125]) ++ [10])) w' ∧ Below B (World.drew w4) w' ∧ Lib.OthersKept 5 (some wb) (World.drew w4) w') :=
    Lib.hid (Tryz.Buffer_Write_any B wb [] (Lib.byteCells ((b0 ++ [125]) ++ [10])) ⟨kr, 0, none⟩ nL capr (World.drew w4) HF.out hsz (by simp) (by rw [Lib.byteCells_length]; exact hnL) hrw r3 (Lib.byteCells_one _) (by rw [List.length_nil, Nat.zero_add]; exact HNB.out))
  have r1 : (World.drew w4).cell? ⟨g, 1, none⟩ = some (.slice (some ⟨kr, 0, none⟩) nL capr) := r1
  have g0 : (World.drew w4).cell? ⟨g, 0, none⟩ = some (.iface 67 (.pointer (some ⟨wb, 0, none⟩))) := g0
  have z1 : (World.drew w4).heap[g]? = _ := z1
  have z2 : (World.drew w4).heap[sbz]? = _ := z2
  have ST : Hid (EStep B w (World.drew w4)) := Lib.hid (ST.out.drewN 1)
  clear r3 hw5 HF HNB r2 r5 H4 hsz
  generalize World.drew w4 = wd at r1 g0 z1 z2 ST hcall ⊢
  refine wpAny_take (i := 0) (v := .pointer (some ⟨g, 0, none⟩)) rfl (by kernel_rfl) (by kernel_rfl) (by kernel_rfl) (fun _ _ _ h => h) (Or.inl ⟨by rfl, fun w => ?_⟩) ?_
  · go_simp
  refine wpAny_take (i := 1) (v := .pointer (some ⟨g, 0, none⟩)) rfl (by kernel_rfl) (by kernel_rfl) (by kernel_rfl) (fun _ _ _ h => h) (Or.inl ⟨by rfl, fun w => ?_⟩) ?_
  · go_simp
  refine wpAny_take (i := 2) (v := .pointer (some ⟨g, 0, none⟩)) rfl (by kernel_rfl) (by kernel_rfl) (by kernel_rfl) (fun _ _ _ h => h) (Or.inl ⟨by rfl, fun w => ?_⟩) ?_
  · go_simp
  refine wpAny_take (i := 4) (v := .pointer (some ⟨g, 0, none⟩)) rfl (by kernel_rfl) (by kernel_rfl) (by kernel_rfl) (fun _ _ _ h => h) (Or.inl ⟨by rfl, fun w => ?_⟩) ?_
  · go_simp
  refine wpAny_take (i := 5) (v := .pointer (some ⟨g, 0, none⟩)) rfl (by kernel_rfl) (by kernel_rfl) (by kernel_rfl) (fun _ _ _ h => h) (Or.inl ⟨by rfl, fun w => ?_⟩) ?_
  · go_simp
  refine wpAny_take (i := 6) (v := .pointer (some ⟨g, 1, none⟩)) rfl (by kernel_rfl) (by kernel_rfl) (by kernel_rfl) (fun _ _ _ h => h) (Or.inl ⟨by rfl, fun w => ?_⟩) ?_
  · go_simp
  refine wpAny_ready (rs := [3, 7]) (by kernel_rfl) (by simp) ?_
  refine AllReady.cons rfl (fun K hK => ?_) ?_
  · go_simp
    refine hK _ _ ?_
    clear hK K
    refine wpAny_take (i := 8) (v := .iface 67 (.pointer (some ⟨wb, 0, none⟩))) rfl (by kernel_rfl) (by kernel_rfl) (by kernel_rfl) (fun _ _ _ h => h) (Or.inl ⟨by rfl, fun w => ?_⟩) ?_
    · go_simp
    refine wpAny_take (i := 9) (v := .iface 67 (.pointer (some ⟨wb, 0, none⟩))) rfl (by kernel_rfl) (by kernel_rfl) (by kernel_rfl) (fun _ _ _ h => h) (Or.inl ⟨by rfl, fun w => ?_⟩) ?_
    · go_simp
    refine wpAny_ready (rs := [7]) (by kernel_rfl) (by simp) ?_
    refine AllReady.cons rfl (fun K hK => ?_) AllReady.nil
    go_simp
    refine hK _ _ ?_
    clear hK K
    refine wpAny_ready (rs := [10]) (by kernel_rfl) (by simp) ?_
    refine AllReady.cons rfl (fun K hK => ?_) AllReady.nil
    go_wp2_with (go_at_call 301; refine hcall.out.mono ?_; rintro e w7 ⟨rfl, hb7, s7, k7⟩; refine Hid.out ?_)
    refine Lib.hid ?_
    refine hK _ _ ?_
    clear hK K hcall
    refine wpAny_take (i := 11) (v := .tuple #[.int .i64 nL, .nilIface]) rfl (by kernel_rfl) (by kernel_rfl) (by kernel_rfl) (fun _ _ _ h => h) (Or.inl ⟨by rfl, fun w => ?_⟩) ?_
    · go_simp
    refine wpAny_take (i := 12) (v := .int .i64 nL) rfl (by kernel_rfl) (by kernel_rfl) (by kernel_rfl) (fun _ _ _ h => h) (Or.inl ⟨by rfl, fun w => ?_⟩) ?_
    · go_simp
    refine wpAny_take (i := 13) (v := .nilIface) rfl (by kernel_rfl) (by kernel_rfl) (by kernel_rfl) (fun _ _ _ h => h) (Or.inl ⟨by rfl, fun w => ?_⟩) ?_
    · go_simp
    refine wpAny_take (i := 14) (v := .int .i64 nL) rfl (by kernel_rfl) (by kernel_rfl) (by kernel_rfl) (fun _ _ _ h => h) (Or.inl ⟨by rfl, fun w => ?_⟩) ?_
    · go_simp
    refine wpAny_take (i := 15) (v := .nilIface) rfl (by kernel_rfl) (by kernel_rfl) (by kernel_rfl) (fun _ _ _ h => h) (Or.inl ⟨by rfl, fun w => ?_⟩) ?_
    · go_simp
    refine wpAny_done (by kernel_rfl) ?_ _
    have y1 := k7 _ _ z1 (by intro e; exact hwg (Option.some.inj e).symm) (by intro c fz e; injection e with _ h; exact absurd h (by decide))
    have y2 := k7 _ _ z2 (by intro e; exact hws (Option.some.inj e).symm) (by intro c fz e; injection e with _ h; exact absurd h (by decide))
    have q1 : w7.cell? ⟨g, 1, none⟩ = some (.slice (some ⟨kr, 0, none⟩) nL capr) := by rw [blk_cell y1]; rfl
    have q2 := blk_frozen y1 1
    have x1 := blk_set y1 1 (.slice (some ⟨kr, 0, none⟩) 0 capr)
    have x2 := (Below.heap_setCell w7 ⟨g, 1, none⟩ (.slice (some ⟨kr, 0, none⟩) 0 capr) sbz hsg).trans y2
    have HX := Lib.hid (IsB.setFar hb7 y1 (by decide) hwg 1 (.slice (some ⟨kr, 0, none⟩) 0 capr))
    have HY := Lib.hid (ST.out.1.trans (s7.trans ((EStep.refl B w7).set y1 (by decide) hB.out.1 1 (.slice (some ⟨kr, 0, none⟩) 0 capr)).1))
    clear z1 z2 k7 ST hb7 s7 y1 y2 r1 g0 g6 hwg hws hrw hsg
    have hpop : Hid (Calls Tryz.prog 103 #[.pointer (some ⟨g, 0, none⟩)] (w7.setCell ⟨g, 1, none⟩ (.slice (some ⟨kr, 0, none⟩) 0 capr)) fun e w' => e = .returned (.tuple #[]) ∧ ∃ n, w' = (w7.setCell ⟨g, 1, none⟩ (.slice (some ⟨kr, 0, none⟩) 0 capr)).drewN n) :=
      Lib.hid (pop_core0 g sbz 0 lenz capz _ (by rw [blk_cell x1]; rfl) (by rw [blk_cell x1]; rfl) (by omega) (by rw [blk_cell x2]; exact z4))
    clear x1 x2
    go_wp2_with (go_at_call 103; refine hpop.out.mono ?_; rintro e w8 ⟨rfl, n8, rfl⟩; refine Hid.out ?_)
    refine Lib.hid ?_
    go_wp2
    go_ret
    exact ⟨rfl, by have := HX.out.drewN n8; simpa using this, HY.out.trans (below_dr' _ n8)⟩
  refine AllReady.cons rfl (fun K hK => ?_) AllReady.nil
  go_simp
  refine hK _ _ ?_
  clear hK K
  refine wpAny_ready (rs := [3]) (by kernel_rfl) (by simp) ?_
  refine AllReady.cons rfl (fun K hK => ?_) AllReady.nil
  go_simp
  refine hK _ _ ?_
  clear hK K
  refine wpAny_take (i := 8) (v := .iface 67 (.pointer (some ⟨wb, 0, none⟩))) rfl (by kernel_rfl) (by kernel_rfl) (by kernel_rfl) (fun _ _ _ h => h) (Or.inl ⟨by rfl, fun w => ?_⟩) ?_
  · go_simp
  refine wpAny_take (i := 9) (v := .iface 67 (.pointer (some ⟨wb, 0, none⟩))) rfl (by kernel_rfl) (by kernel_rfl) (by kernel_rfl) (fun _ _ _ h => h) (Or.inl ⟨by rfl, fun w => ?_⟩) ?_
  · go_simp
  refine wpAny_ready (rs := [10]) (by kernel_rfl) (by simp) ?_
  refine AllReady.cons rfl (fun K hK => ?_) AllReady.nil
  go_wp2_with (go_at_call 301; refine hcall.out.mono ?_; rintro e w7 ⟨rfl, hb7, s7, k7⟩; refine Hid.out ?_)
  refine Lib.hid ?_
  refine hK _ _ ?_
  clear hK K hcall
  refine wpAny_take (i := 11) (v := .tuple #[.int .i64 nL, .nilIface]) rfl (by kernel_rfl) (by kernel_rfl) (by kernel_rfl) (fun _ _ _ h => h) (Or.inl ⟨by rfl, fun w => ?_⟩) ?_
  · go_simp
  refine wpAny_take (i := 12) (v := .int .i64 nL) rfl (by kernel_rfl) (by kernel_rfl) (by kernel_rfl) (fun _ _ _ h => h) (Or.inl ⟨by rfl, fun w => ?_⟩) ?_
  · go_simp
  refine wpAny_take (i := 13) (v := .nilIface) rfl (by kernel_rfl) (by kernel_rfl) (by kernel_rfl) (fun _ _ _ h => h) (Or.inl ⟨by rfl, fun w => ?_⟩) ?_
  · go_simp
  refine wpAny_take (i := 14) (v := .int .i64 nL) rfl (by kernel_rfl) (by kernel_rfl) (by kernel_rfl) (fun _ _ _ h => h) (Or.inl ⟨by rfl, fun w => ?_⟩) ?_
  · go_simp
  refine wpAny_take (i := 15) (v := .nilIface) rfl (by kernel_rfl) (by kernel_rfl) (by kernel_rfl) (fun _ _ _ h => h) (Or.inl ⟨by rfl, fun w => ?_⟩) ?_
  · go_simp
  refine wpAny_done (by kernel_rfl) ?_ _
  have y1 := k7 _ _ z1 (by intro e; exact hwg (Option.some.inj e).symm) (by intro c fz e; injection e with _ h; exact absurd h (by decide))
  have y2 := k7 _ _ z2 (by intro e; exact hws (Option.some.inj e).symm) (by intro c fz e; injection e with _ h; exact absurd h (by decide))
  have q1 : w7.cell? ⟨g, 1, none⟩ = some (.slice (some ⟨kr, 0, none⟩) nL capr) := by rw [blk_cell y1]; rfl
  have q2 := blk_frozen y1 1
  have x1 := blk_set y1 1 (.slice (some ⟨kr, 0, none⟩) 0 capr)
  have x2 := (Below.heap_setCell w7 ⟨g, 1, none⟩ (.slice (some ⟨kr, 0, none⟩) 0 capr) sbz hsg).trans y2
  have HX := Lib.hid (IsB.setFar hb7 y1 (by decide) hwg 1 (.slice (some ⟨kr, 0, none⟩) 0 capr))
  have HY := Lib.hid (ST.out.1.trans (s7.trans ((EStep.refl B w7).set y1 (by decide) hB.out.1 1 (.slice (some ⟨kr, 0, none⟩) 0 capr)).1))
  clear z1 z2 k7 ST hb7 s7 y1 y2 r1 g0 g6 hwg hws hrw hsg
  have hpop : Hid (Calls Tryz.prog 103 #[.pointer (some ⟨g, 0, none⟩)] (w7.setCell ⟨g, 1, none⟩ (.slice (some ⟨kr, 0, none⟩) 0 capr)) fun e w' => e = .returned (.tuple #[]) ∧ ∃ n, w' = (w7.setCell ⟨g, 1, none⟩ (.slice (some ⟨kr, 0, none⟩) 0 capr)).drewN n) :=
    Lib.hid (pop_core0 g sbz 0 lenz capz _ (by rw [blk_cell x1]; rfl) (by rw [blk_cell x1]; rfl) (by omega) (by rw [blk_cell x2]; exact z4))
  clear x1 x2
  go_wp2_with (go_at_call 103; refine hpop.out.mono ?_; rintro e w8 ⟨rfl, n8, rfl⟩; refine Hid.out ?_)
  refine Lib.hid ?_
  go_wp2
  go_ret
  exact ⟨rfl, by have := HX.out.drewN n8; simpa using this, HY.out.trans (below_dr' _ n8)⟩
set_option maxHeartbeats 1600000 in
set_option maxRecDepth 100000 in
theorem writeDocEnd_top_plain {g B wb : Nat} {canon esc : Bool} {w : World} {b0 : List UInt8} {c : UInt8}  (h : IsEW g B wb canon esc (b0 ++ [c]) ([1]) w) (hb0 : Room b0.length) (hBw : B ≤ wb) (hwb : w.heap[wb]? = some fresh64) (hc : ¬ c = 44) :
    Calls Tryz.prog 70 #[.pointer (some ⟨g, 0, none⟩)] w fun e w' => e = .returned (.nilIface) ∧ IsB B wb (b0 ++ [c, 125, 10]) w' ∧ Below B w w' := by
  have hB := Lib.hid h.lt
  have hcn : (((c.toNat : Nat) : Int) == 44) = false := beq_eq_false_iff_ne.2 (fun e => hc (by exact UInt8.toNat_inj.mp (by show c.toNat = 44; omega)))
  have h' : IsEW g B wb canon esc (b0 ++ [c]) ([] ++ [1]) w := by simpa using h
  have H1 := Lib.hid h'
  obtain ⟨sb1, len1, cap1, f21, f31, ff1, fs1⟩ := h'.top
  obtain ⟨fr, hfr⟩ : ∃ fr : Nat, ([] : List Int).length = fr := ⟨_, rfl⟩
  rw [hfr] at f31 ff1 fs1
  clear h h'
  go_enter Tryz.func70, Tryz.ntmps70
  go_wp2
  go_quiet (fail)
  generalize hw1 : w.drewN nq = w1
  have G1 : IsEW g B wb canon esc (b0 ++ [c]) ([] ++ [1]) w1 := hw1 ▸ H1.out.drewN nq
  have S1 : EStep B w w1 := hw1 ▸ (EStep.refl B w).drewN nq
  obtain ⟨k, cap, v1, hc1, hc2, vl, vf, hset⟩ := G1.lastb
  have hc2' : (cap : Int) ≤ 9223372036854775807 := by unfold maxLen at hc2; omega
  have H1 := Lib.hid G1
  have S1 := Lib.hid S1
  have HS := Lib.hid hset
  clear f21 f31 ff1 fs1 G1 hw1 hc2 hset
  go_wp2
  go_quiet (fail)
  have H2 := Lib.hid (H1.out.drewN nq)
  have S2 := Lib.hid ((EStep.refl B w1).drewN nq)
  have hv2 : (w1.drewN nq).cell? ⟨g, 1, none⟩ = some (.slice (some ⟨k, 0, none⟩) (b0.length + 1) cap) := v1
  clear H1 v1 HS
  go_wp2_with (with_reducible show wpList _ _ _ (⟨some 51, _, _, _, _, _⟩ :: _) _ _; refine Hid.out ?_)
  refine Lib.hid ?_
  refine ew_tail (N := 134) (bv := (.slice (some ⟨k, 0, none⟩) (b0.length + 1) cap)) [125] rfl rfl rfl rfl rfl (by decide) H2.out hv2 (Joins.below_alloc1 _ _) (rb_new _ _ _ rfl _ _ _ rfl) (hb0.le (by simp)) ?_
  intro bv3 w3 hv3 H3 S3
  clear H2 hv2
  go_wp2
  obtain ⟨sb3, len3, cap3, f23, f33, ff3, fs3⟩ := H3.out.top
  rw [hfr] at f33 ff3 fs3
  go_quiet (fail)
  clear f23 f33 ff3 fs3
  have H4 := Lib.hid (H3.out.drewN nq)
  have S4 := Lib.hid ((EStep.refl B w3).drewN nq)
  obtain ⟨bv4, hv4⟩ := H4.out.buf
  clear H3
  have g6 := H4.out.flags2.2
  go_wp2_with (with_reducible show wpList _ _ _ (⟨some 99, _, _, _, _, _⟩ :: _) _ _; refine Hid.out ?_)
  refine Lib.hid ?_
  refine ew_tail (N := 134) (bv := bv4) [10] rfl rfl rfl rfl rfl (by decide) H4.out hv4 (Joins.below_alloc1 _ _) (rb_new _ _ _ rfl _ _ _ rfl) (hb0.le (by simp)) ?_
  intro bv5 w5 hv5 H5 S5
  clear H4 hv4
  have ST : Hid (EStep B w w5) := Lib.hid (S1.out.trans (S2.out.trans (S3.out.trans (S4.out.trans (S5.out)))))
  have hw5 := fresh_kept hwb ST.out.2
  obtain ⟨kr, capr, cur, r1, r2, r3, r4, r5⟩ := H5.out.rows (by simp)
  have r5' : (capr : Int) ≤ 9223372036854775807 := by unfold maxLen at r5; omega
  have g0 := H5.out.flags2.1
  obtain ⟨bvz, sbz, lenz, capz, cs, z1, z2, z3, z4⟩ := H5.out.blocks
  obtain ⟨nL, hnL⟩ : ∃ nL, (((b0 ++ [c]) ++ [125]) ++ [10] : List UInt8).length = nL := ⟨_, rfl⟩
  rw [hnL] at r1 r4
  have hbv : bvz = .slice (some ⟨kr, 0, none⟩) nL capr := by have := r1; rw [blk_cell z1] at this; simpa using this
  subst hbv
  have hnb : nL ≤ 140737488355328 := by rw [← hnL]; exact hb0.le (by simp)
  have HNB := Lib.hid hnb
  have HF := Lib.hid (fresh_is hBw hw5)
  have hme : ∀ w : World, (method 471 67 (.pointer (some ⟨wb, 0, none⟩)) "Write").run Tryz.prog w = .ok (301, .pointer (some ⟨wb, 0, none⟩)) w := fun _ => by kernel_rfl
  have hwg : ¬ wb = g := ne_of_tag hw5 z1 (by decide)
  have hws : ¬ wb = sbz := ne_of_tag hw5 z2 (by decide)
  have hrw : ¬ kr = wb := ne_of_tag r2 hw5 (by decide)
  have hsg : ¬ sbz = g := ne_of_tag z2 z1 (by decide)
  clear hwb hnb
  go_wp2
  refine wp_region_any (by kernel_rfl) ?_
  try (change wpAny _ _ _ _ _ _ _ (World.drew _))
  have hsz : B ≤ (World.drew w5).heap.size := (show B ≤ w5.heap.size by have := H5.out.lt; omega)
  have hcall : Hid (Calls Tryz.prog 301 #[.pointer (some ⟨wb, 0, none⟩), .slice (some ⟨kr, 0, none⟩) nL capr] (World.drew w5) fun e w' => e = .returned (.tuple #[.int .i64 nL, .nilIface]) ∧ Lib.IsBuffer 64 5 B wb ([] ++ Lib.byteCells (((b0 ++ [c]) ++ [125]) ++ [10])) w' ∧ Below B (World.drew w5) w' ∧ Lib.OthersKept 5 (some wb) (World.drew w5) w') :=
    Lib.hid (Tryz.Buffer_Write_any B wb [] (Lib.byteCells (((b0 ++ [c]) ++ [125]) ++ [10])) ⟨kr, 0, none⟩ nL capr (World.drew w5) HF.out hsz (by simp) (by rw [Lib.byteCells_length]; exact hnL) hrw r3 (Lib.byteCells_one _) (by rw [List.length_nil, Nat.zero_add]; exact HNB.out))
  have r1 : (World.drew w5).cell? ⟨g, 1, none⟩ = some (.slice (some ⟨kr, 0, none⟩) nL capr) := r1
  have g0 : (World.drew w5).cell? ⟨g, 0, none⟩ = some (.iface 67 (.pointer (some ⟨wb, 0, none⟩))) := g0
  have z1 : (World.drew w5).heap[g]? = _ := z1
  have z2 : (World.drew w5).heap[sbz]? = _ := z2
  have ST : Hid (EStep B w (World.drew w5)) := Lib.hid (ST.out.drewN 1)
  clear r3 hw5 HF HNB r2 r5 H5 hsz
  generalize World.drew w5 = wd at r1 g0 z1 z2 ST hcall ⊢
  refine wpAny_take (i := 0) (v := .pointer (some ⟨g, 0, none⟩)) rfl (by kernel_rfl) (by kernel_rfl) (by kernel_rfl) (fun _ _ _ h => h) (Or.inl ⟨by rfl, fun w => ?_⟩) ?_
  · go_simp
  refine wpAny_take (i := 1) (v := .pointer (some ⟨g, 0, none⟩)) rfl (by kernel_rfl) (by kernel_rfl) (by kernel_rfl) (fun _ _ _ h => h) (Or.inl ⟨by rfl, fun w => ?_⟩) ?_
  · go_simp
  refine wpAny_take (i := 2) (v := .pointer (some ⟨g, 0, none⟩)) rfl (by kernel_rfl) (by kernel_rfl) (by kernel_rfl) (fun _ _ _ h => h) (Or.inl ⟨by rfl, fun w => ?_⟩) ?_
  · go_simp
  refine wpAny_take (i := 4) (v := .pointer (some ⟨g, 0, none⟩)) rfl (by kernel_rfl) (by kernel_rfl) (by kernel_rfl) (fun _ _ _ h => h) (Or.inl ⟨by rfl, fun w => ?_⟩) ?_
  · go_simp
  refine wpAny_take (i := 5) (v := .pointer (some ⟨g, 0, none⟩)) rfl (by kernel_rfl) (by kernel_rfl) (by kernel_rfl) (fun _ _ _ h => h) (Or.inl ⟨by rfl, fun w => ?_⟩) ?_
  · go_simp
  refine wpAny_take (i := 6) (v := .pointer (some ⟨g, 1, none⟩)) rfl (by kernel_rfl) (by kernel_rfl) (by kernel_rfl) (fun _ _ _ h => h) (Or.inl ⟨by rfl, fun w => ?_⟩) ?_
  · go_simp
  refine wpAny_ready (rs := [3, 7]) (by kernel_rfl) (by simp) ?_
  refine AllReady.cons rfl (fun K hK => ?_) ?_
  · go_simp
    refine hK _ _ ?_
    clear hK K
    refine wpAny_take (i := 8) (v := .iface 67 (.pointer (some ⟨wb, 0, none⟩))) rfl (by kernel_rfl) (by kernel_rfl) (by kernel_rfl) (fun _ _ _ h => h) (Or.inl ⟨by rfl, fun w => ?_⟩) ?_
    · go_simp
    refine wpAny_take (i := 9) (v := .iface 67 (.pointer (some ⟨wb, 0, none⟩))) rfl (by kernel_rfl) (by kernel_rfl) (by kernel_rfl) (fun _ _ _ h => h) (Or.inl ⟨by rfl, fun w => ?_⟩) ?_
    · go_simp
    refine wpAny_ready (rs := [7]) (by kernel_rfl) (by simp) ?_
    refine AllReady.cons rfl (fun K hK => ?_) AllReady.nil
    go_simp
    refine hK _ _ ?_
    clear hK K
    refine wpAny_ready (rs := [10]) (by kernel_rfl) (by simp) ?_
    refine AllReady.cons rfl (fun K hK => ?_) AllReady.nil
    go_wp2_with (go_at_call 301; refine hcall.out.mono ?_; rintro e w7 ⟨rfl, hb7, s7, k7⟩; refine Hid.out ?_)
    refine Lib.hid ?_
    refine hK _ _ ?_
    clear hK K hcall
    refine wpAny_take (i := 11) (v := .tuple #[.int .i64 nL, .nilIface]) rfl (by kernel_rfl) (by kernel_rfl) (by kernel_rfl) (fun _ _ _ h => h) (Or.inl ⟨by rfl, fun w => ?_⟩) ?_
    · go_simp
    refine wpAny_take (i := 12) (v := .int .i64 nL) rfl (by kernel_rfl) (by kernel_rfl) (by kernel_rfl) (fun _ _ _ h => h) (Or.inl ⟨by rfl, fun w => ?_⟩) ?_
    · go_simp
    refine wpAny_take (i := 13) (v := .nilIface) rfl (by kernel_rfl) (by kernel_rfl) (by kernel_rfl) (fun _ _ _ h => h) (Or.inl ⟨by rfl, fun w => ?_⟩) ?_
    · go_simp
    refine wpAny_take (i := 14) (v := .int .i64 nL) rfl (by kernel_rfl) (by kernel_rfl) (by kernel_rfl) (fun _ _ _ h => h) (Or.inl ⟨by rfl, fun w => ?_⟩) ?_
    · go_simp
    refine wpAny_take (i := 15) (v := .nilIface) rfl (by kernel_rfl) (by kernel_rfl) (by kernel_rfl) (fun _ _ _ h => h) (Or.inl ⟨by rfl, fun w => ?_⟩) ?_
    · go_simp
    refine wpAny_done (by kernel_rfl) ?_ _
    have y1 := k7 _ _ z1 (by intro e; exact hwg (Option.some.inj e).symm) (by intro c fz e; injection e with _ h; exact absurd h (by decide))
    have y2 := k7 _ _ z2 (by intro e; exact hws (Option.some.inj e).symm) (by intro c fz e; injection e with _ h; exact absurd h (by decide))
    have q1 : w7.cell? ⟨g, 1, none⟩ = some (.slice (some ⟨kr, 0, none⟩) nL capr) := by rw [blk_cell y1]; rfl
    have q2 := blk_frozen y1 1
    have x1 := blk_set y1 1 (.slice (some ⟨kr, 0, none⟩) 0 capr)
    have x2 := (Below.heap_setCell w7 ⟨g, 1, none⟩ (.slice (some ⟨kr, 0, none⟩) 0 capr) sbz hsg).trans y2
    have HX := Lib.hid (IsB.setFar hb7 y1 (by decide) hwg 1 (.slice (some ⟨kr, 0, none⟩) 0 capr))
    have HY := Lib.hid (ST.out.1.trans (s7.trans ((EStep.refl B w7).set y1 (by decide) hB.out.1 1 (.slice (some ⟨kr, 0, none⟩) 0 capr)).1))
    clear z1 z2 k7 ST hb7 s7 y1 y2 r1 g0 g6 hwg hws hrw hsg
    have hpop : Hid (Calls Tryz.prog 103 #[.pointer (some ⟨g, 0, none⟩)] (w7.setCell ⟨g, 1, none⟩ (.slice (some ⟨kr, 0, none⟩) 0 capr)) fun e w' => e = .returned (.tuple #[]) ∧ ∃ n, w' = (w7.setCell ⟨g, 1, none⟩ (.slice (some ⟨kr, 0, none⟩) 0 capr)).drewN n) :=
      Lib.hid (pop_core0 g sbz 0 lenz capz _ (by rw [blk_cell x1]; rfl) (by rw [blk_cell x1]; rfl) (by omega) (by rw [blk_cell x2]; exact z4))
    clear x1 x2
    go_wp2_with (go_at_call 103; refine hpop.out.mono ?_; rintro e w8 ⟨rfl, n8, rfl⟩; refine Hid.out ?_)
    refine Lib.hid ?_
    go_wp2
    go_ret
    exact ⟨rfl, by have := HX.out.drewN n8; simpa using this, HY.out.trans (below_dr' _ n8)⟩
  refine AllReady.cons rfl (fun K hK => ?_) AllReady.nil
  go_simp
  refine hK _ _ ?_
  clear hK K
  refine wpAny_ready (rs := [3]) (by kernel_rfl) (by simp) ?_
  refine AllReady.cons rfl (fun K hK => ?_) AllReady.nil
  go_simp
  refine hK _ _ ?_
  clear hK K
  refine wpAny_take (i := 8) (v := .iface 67 (.pointer (some ⟨wb, 0, none⟩))) rfl (by kernel_rfl) (by kernel_rfl) (by kernel_rfl) (fun _ _ _ h => h) (Or.inl ⟨by rfl, fun w => ?_⟩) ?_
  · go_simp
  refine wpAny_take (i := 9) (v := .iface 67 (.pointer (some ⟨wb, 0, none⟩))) rfl (by kernel_rfl) (by kernel_rfl) (by kernel_rfl) (fun _ _ _ h => h) (Or.inl ⟨by rfl, fun w => ?_⟩) ?_
  · go_simp
  refine wpAny_ready (rs := [10]) (by kernel_rfl) (by simp) ?_
  refine AllReady.cons rfl (fun K hK => ?_) AllReady.nil
  go_wp2_with (go_at_call 301; refine hcall.out.mono ?_; rintro e w7 ⟨rfl, hb7, s7, k7⟩; refine Hid.out ?_)
  refine Lib.hid ?_
  refine hK _ _ ?_
  clear hK K hcall
  refine wpAny_take (i := 11) (v := .tuple #[.int .i64 nL, .nilIface]) rfl (by kernel_rfl) (by kernel_rfl) (by kernel_rfl) (fun _ _ _ h => h) (Or.inl ⟨by rfl, fun w => ?_⟩) ?_
  · go_simp
  refine wpAny_take (i := 12) (v := .int .i64 nL) rfl (by kernel_rfl) (by kernel_rfl) (by kernel_rfl) (fun _ _ _ h => h) (Or.inl ⟨by rfl, fun w => ?_⟩) ?_
  · go_simp
  refine wpAny_take (i := 13) (v := .nilIface) rfl (by kernel_rfl) (by kernel_rfl) (by kernel_rfl) (fun _ _ _ h => h) (Or.inl ⟨by rfl, fun w => ?_⟩) ?_
  · go_simp
  refine wpAny_take (i := 14) (v := .int .i64 nL) rfl (by kernel_rfl) (by kernel_rfl) (by kernel_rfl) (fun _ _ _ h => h) (Or.inl ⟨by rfl, fun w => ?_⟩) ?_
  · go_simp
  refine wpAny_take (i := 15) (v := .nilIface) rfl (by kernel_rfl) (by kernel_rfl) (by kernel_rfl) (fun _ _ _ h => h) (Or.inl ⟨by rfl, fun w => ?_⟩) ?_
  · go_simp
  refine wpAny_done (by kernel_rfl) ?_ _
  have y1 := k7 _ _ z1 (by intro e; exact hwg (Option.some.inj e).symm) (by intro c fz e; injection e with _ h; exact absurd h (by decide))
  have y2 := k7 _ _ z2 (by intro e; exact hws (Option.some.inj e).symm) (by intro c fz e; injection e with _ h; exact absurd h (by decide))
  have q1 : w7.cell? ⟨g, 1, none⟩ = some (.slice (some ⟨kr, 0, none⟩) nL capr) := by rw [blk_cell y1]; rfl
  have q2 := blk_frozen y1 1
  have x1 := blk_set y1 1 (.slice (some ⟨kr, 0, none⟩) 0 capr)
  have x2 := (Below.heap_setCell w7 ⟨g, 1, none⟩ (.slice (some ⟨kr, 0, none⟩) 0 capr) sbz hsg).trans y2
  have HX := Lib.hid (IsB.setFar hb7 y1 (by decide) hwg 1 (.slice (some ⟨kr, 0, none⟩) 0 capr))
  have HY := Lib.hid (ST.out.1.trans (s7.trans ((EStep.refl B w7).set y1 (by decide) hB.out.1 1 (.slice (some ⟨kr, 0, none⟩) 0 capr)).1))
  clear z1 z2 k7 ST hb7 s7 y1 y2 r1 g0 g6 hwg hws hrw hsg
  have hpop : Hid (Calls Tryz.prog 103 #[.pointer (some ⟨g, 0, none⟩)] (w7.setCell ⟨g, 1, none⟩ (.slice (some ⟨kr, 0, none⟩) 0 capr)) fun e w' => e = .returned (.tuple #[]) ∧ ∃ n, w' = (w7.setCell ⟨g, 1, none⟩ (.slice (some ⟨kr, 0, none⟩) 0 capr)).drewN n) :=
    Lib.hid (pop_core0 g sbz 0 lenz capz _ (by rw [blk_cell x1]; rfl) (by rw [blk_cell x1]; rfl) (by omega) (by rw [blk_cell x2]; exact z4))
  clear x1 x2
  go_wp2_with (go_at_call 103; refine hpop.out.mono ?_; rintro e w8 ⟨rfl, n8, rfl⟩; refine Hid.out ?_)
  refine Lib.hid ?_
  go_wp2
  go_ret
  exact ⟨rfl, by have := HX.out.drewN n8; simpa using this, HY.out.trans (below_dr' _ n8)⟩
end Go.Proofs.YtpfkgpcnhdkkbaaGreatDoor
