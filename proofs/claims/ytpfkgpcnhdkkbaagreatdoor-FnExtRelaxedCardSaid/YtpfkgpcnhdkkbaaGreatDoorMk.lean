/- writeScalarExt at every kind that is no document, array or code with scope. -/
import Derived.Test.YtpfkgpcnhdkkbaaGreatDoorMp
import Derived.Test.YtpfkgpcnhdkkbaaGreatDoorMd
import Derived.Test.YtpfkgpcnhdkkbaaGreatDoorMc
import Derived.Test.YtpfkgpcnhdkkbaaGreatDoorSrt
import Derived.Test.YtpfkgpcnhdkkbaaGreatDoorMn
import Derived.Test.YtpfkgpcnhdkkbaaGreatDoorKx
namespace Go.Proofs.YtpfkgpcnhdkkbaaGreatDoor
open Go.RowKit
set_option linter.unusedVariables false
set_option linter.unusedSimpArgs false
set_option maxRecDepth 100000
theorem dblT_len (b : Nat) (hb : b < 18446744073709551616) : (dblT b).length ≤ 200 := by
  unfold dblT
  split
  · simp
  · rename_i h0
    split
    · simp
    · rename_i h1
      split
      · simp
      · rename_i h2
        have hE := fin_exp b (by simpa using h0) (by simpa using h1) (by simpa using h2) hb
        have F := fT_spec b hb hE
        have := F.len
        split
        · omega
        · simp; omega
theorem decT_len (H L : Nat) (hL : L < 18446744073709551616) : (decT H L).length ≤ 1000 := by
  unfold decT
  split
  · simp
  · split
    · split <;> simp
    · split
      · exact dec_le _ 0 _ (by rw [Lib.nDigits_small (by omega)]; omega) (by omega)
      · exact dec_le _ _ _ (nd_113 _ (by omega)) (by omega)
theorem twelve (l : List UInt8) (h : l.length = 12) : ∃ b0 b1 b2 b3 b4 b5 b6 b7 b8 b9 b10 b11, l = [b0, b1, b2, b3, b4, b5, b6, b7, b8, b9, b10, b11] := by
  match l, h with
  | [b0, b1, b2, b3, b4, b5, b6, b7, b8, b9, b10, b11], _ => exact ⟨_, _, _, _, _, _, _, _, _, _, _, _, rfl⟩
theorem decB_len (n : Nat) (h : n < 18446744073709551616) : (decB n).size ≤ 1000 := by
  show (Lib.decDigits n).toArray.size ≤ 1000
  rw [List.size_toArray, Lib.decDigits_length]
  have := nd_le n 20 (by decide) (by have : (10 : Nat) ^ 20 = 100000000000000000000 := by decide
                                     omega)
  omega
theorem ew_conv {g B wb : Nat} {esc : Bool} {b1 b2 : List UInt8} {modes : List Int} {w w' : World} {e : Ending} (hb : b1 = b2) (h : e = .returned .nilIface ∧ IsEW g B wb false esc b1 modes w' ∧ EStep B w w') : e = .returned .nilIface ∧ IsEW g B wb false esc b2 modes w' ∧ EStep B w w' := by rw [← hb]; exact h
theorem q_re1 : ([123, 34, 36, 114, 101, 103, 117, 108, 97, 114, 69, 120, 112, 114, 101, 115, 115, 105, 111, 110, 34, 58, 123, 34, 112, 97, 116, 116, 101, 114, 110, 34, 58] : List UInt8) = ([123, 34, 36, 114, 101, 103, 117, 108, 97, 114, 69, 120, 112, 114, 101, 115, 115, 105, 111, 110, 34, 58, 123, 34, 112, 97, 116, 116, 101, 114, 110, 34, 58] : List UInt8) := by decide +kernel
theorem q_re2 : ([44, 34, 111, 112, 116, 105, 111, 110, 115, 34, 58] : List UInt8) = ([44, 34, 111, 112, 116, 105, 111, 110, 115, 34, 58] : List UInt8) := by decide +kernel
theorem q_pt1 : ([123, 34, 36, 100, 98, 80, 111, 105, 110, 116, 101, 114, 34, 58, 123, 34, 36, 114, 101, 102, 34, 58, 34] : List UInt8) = ([123, 34, 36, 100, 98, 80, 111, 105, 110, 116, 101, 114, 34, 58, 123, 34, 36, 114, 101, 102, 34, 58, 34] : List UInt8) := by decide +kernel
theorem q_pt2 : ([34, 44, 34, 36, 105, 100, 34, 58, 123, 34, 36, 111, 105, 100, 34, 58, 34] : List UInt8) = ([34, 44, 34, 36, 105, 100, 34, 58, 123, 34, 36, 111, 105, 100, 34, 58, 34] : List UInt8) := by decide +kernel
theorem q_code : ([123, 34, 36, 99, 111, 100, 101, 34, 58] : List UInt8) = ([123, 34, 36, 99, 111, 100, 101, 34, 58] : List UInt8) := by decide +kernel
theorem q_sym : ([123, 34, 36, 115, 121, 109, 98, 111, 108, 34, 58] : List UInt8) = ([123, 34, 36, 115, 121, 109, 98, 111, 108, 34, 58] : List UInt8) := by decide +kernel
theorem q_ts1 : ([123, 34, 36, 116, 105, 109, 101, 115, 116, 97, 109, 112, 34, 58, 123, 34, 116, 34, 58] : List UInt8) = ([123, 34, 36, 116, 105, 109, 101, 115, 116, 97, 109, 112, 34, 58, 123, 34, 116, 34, 58] : List UInt8) := by decide +kernel
theorem q_ts2 : ([44, 34, 105, 34, 58] : List UInt8) = ([44, 34, 105, 34, 58] : List UInt8) := by decide +kernel
theorem q_dec : ([123, 34, 36, 110, 117, 109, 98, 101, 114, 68, 101, 99, 105, 109, 97, 108, 34, 58, 34] : List UInt8) = ([123, 34, 36, 110, 117, 109, 98, 101, 114, 68, 101, 99, 105, 109, 97, 108, 34, 58, 34] : List UInt8) := by decide +kernel
theorem q_und : ([123, 34, 36, 117, 110, 100, 101, 102, 105, 110, 101, 100, 34, 58, 116, 114, 117, 101, 125] : List UInt8) ++ [44] = [123, 34, 36, 117, 110, 100, 101, 102, 105, 110, 101, 100, 34, 58, 116, 114, 117, 101, 125, 44] := by decide +kernel
theorem q_min : ([123, 34, 36, 109, 105, 110, 75, 101, 121, 34, 58, 49, 125] : List UInt8) ++ [44] = [123, 34, 36, 109, 105, 110, 75, 101, 121, 34, 58, 49, 125, 44] := by decide +kernel
theorem q_max : ([123, 34, 36, 109, 97, 120, 75, 101, 121, 34, 58, 49, 125] : List UInt8) ++ [44] = [123, 34, 36, 109, 97, 120, 75, 101, 121, 34, 58, 49, 125, 44] := by decide +kernel
theorem scalar_all {K : Type} (f : K → List UInt8) (fk rk : K → Prop) (t : VR K) (hF : FitR fk t) (hR : RightR rk t) (hk : ¬ (t.kind = 3 ∨ t.kind = 4 ∨ t.kind = 15)) (hn : I64 t.n) (hb : t.bits < 18446744073709551616) (hh : t.high < 18446744073709551616)
    {g B wb : Nat} {esc : Bool} {buf : List UInt8} {modes : List Int} {m : Int} {w : World} (bv kv : Value) (hbv : BytesV w bv t.b) (h : IsEW g B wb false esc buf (modes ++ [m]) w) (hp : 0 < modes.length) (hm : m = 4 ∨ m = 5) (hl : Room buf.length) (hT : Tabs w) (h17 : 17 ≤ B) (hBw : B ≤ w.heap.size) :
    Calls Tryz.prog 101 #[.pointer (some ⟨g, 0, none⟩), valV t.kind t.text t.more t.n t.bits t.high bv kv] w fun e w' => e = .returned .nilIface ∧ IsEW g B wb false esc (buf ++ (outR aux0 esc f t ++ [44])) modes w' ∧ EStep B w w' := by
  obtain ⟨kind, text, more, n, bits, high, b, kids⟩ := t
  obtain ⟨A, c, rfl, hbc, hbc2, hrb⟩ := hbv
  simp only at hk hn hb hh hbc hbc2 hrb
  have ht := hF.text.1
  have hmr := hF.more.1
  have hbl := hF.b
  have hkind := hR.kind
  simp only at ht hmr hbl hkind
  have h18 : 17 ≤ w.heap.size := Nat.le_trans h17 hBw
  by_cases k1 : kind = 1
  · subst k1
    exact (scalar_double text more n bits high _ kv h hp hm hl hT h17 ⟨(dblT bits).toArray⟩ (by show (dblT bits).toArray.size ≤ 10000; have := dblT_len bits hb; rw [List.size_toArray]; omega) (fun W hW hW2 => formatDouble_any bits hb W hW.c hW2)).mono fun e w' q => ew_conv (by simp [outR, aux0]) q
  by_cases k2 : kind = 2
  · subst k2
    exact (scalar_string text more n bits high _ kv h hp hm hl hT h17 (by omega)).mono fun e w' q => ew_conv (by simp [outR]) q
  by_cases k5 : kind = 5
  · subst k5
    obtain ⟨q1, q2⟩ := hR.bin rfl
    simp only at q1 q2
    obtain ⟨k, rfl⟩ : ∃ k : Nat, n = (k : Int) := ⟨n.toNat, by omega⟩
    have hb6 : (b6B b).size ≤ 10000000 := by have := b6_len b; show (b6 b).toArray.size ≤ _; rw [List.size_toArray]; omega
    exact (scalar_bin text more (k : Int) bits high _ kv h hp hm hl hT h17 k (by omega) rfl (b6B b) hb6 (by simp [hex2B, ByteArray.size]) (fun W hW => zz64_any b.length b A c W rfl (by omega) (hrb.later hW) hbc (by omega))).mono fun e w' q => ew_conv (by
      have : ((k : Int) % 256).toNat = k := by omega
      simp [outR, aux0, this]) q
  by_cases k6 : kind = 6
  · subst k6
    exact (scalar_undefined text more n bits high _ kv h hp hm hl hT h17).mono fun e w' q => ew_conv (by rw [show outR aux0 esc f ⟨6, text, more, n, bits, high, b, kids⟩ = ([123, 34, 36, 117, 110, 100, 101, 102, 105, 110, 101, 100, 34, 58, 116, 114, 117, 101, 125] : List UInt8) by simp [outR], q_und]) q
  by_cases k7 : kind = 7
  · subst k7
    obtain ⟨b0, b1, b2, b3, b4, b5, b6, b7, b8, b9, b10, b11, rfl⟩ := twelve b (hR.id (.inl rfl))
    exact (scalar_id text more n bits high kv h hp hm hl hT h17 b0 b1 b2 b3 b4 b5 b6 b7 b8 b9 b10 b11 A c hrb).mono fun e w' q => ew_conv (by simp [outR]) q
  by_cases k8 : kind = 8
  · subst k8
    rcases hR.bool rfl with e0 | e0
    · simp only at e0
      exact (scalar_false text more n bits high _ kv h hp hm hl hT h17 e0).mono fun e w' q => ew_conv (by simp [outR, e0]) q
    · simp only at e0
      exact (scalar_true text more n bits high _ kv h hp hm hl hT h17 e0).mono fun e w' q => ew_conv (by simp [outR, e0]) q
  by_cases k9 : kind = 9
  · subst k9
    exact (scalar_date text more n bits high _ kv h hp hm hl hT h17 hn).mono fun e w' q => ew_conv (by simp [outR]) q
  by_cases k10 : kind = 10
  · subst k10
    exact (scalar_null text more n bits high _ kv h hp hm hl hT h17).mono fun e w' q => ew_conv (by simp [outR]) q
  by_cases k11 : kind = 11
  · subst k11
    exact (scalar_regex text more n bits high _ kv h hp hm hl hT h17 more (by omega) (by omega) (fun W _ => srt_any more (by omega) (hF.rising rfl) W)).mono fun e w' q => ew_conv (by
      rw [show outR aux0 esc f ⟨11, text, more, n, bits, high, b, kids⟩ = ([123, 34, 36, 114, 101, 103, 117, 108, 97, 114, 69, 120, 112, 114, 101, 115, 115, 105, 111, 110, 34, 58, 123, 34, 112, 97, 116, 116, 101, 114, 110, 34, 58] : List UInt8) ++ jout esc text ++ ([44, 34, 111, 112, 116, 105, 111, 110, 115, 34, 58] : List UInt8) ++ jout esc more ++ [125, 125] by simp [outR, aux0], q_re1, q_re2]
      simp) q
  by_cases k12 : kind = 12
  · subst k12
    obtain ⟨b0, b1, b2, b3, b4, b5, b6, b7, b8, b9, b10, b11, rfl⟩ := twelve b (hR.id (.inr rfl))
    exact (scalar_ptr text more n bits high kv h hp hm hl hT h17 (by omega) b0 b1 b2 b3 b4 b5 b6 b7 b8 b9 b10 b11 A c hrb).mono fun e w' q => ew_conv (by
      rw [show outR aux0 esc f ⟨12, text, more, n, bits, high, [b0, b1, b2, b3, b4, b5, b6, b7, b8, b9, b10, b11], kids⟩ = ([123, 34, 36, 100, 98, 80, 111, 105, 110, 116, 101, 114, 34, 58, 123, 34, 36, 114, 101, 102, 34, 58, 34] : List UInt8) ++ text.data.toList ++ ([34, 44, 34, 36, 105, 100, 34, 58, 123, 34, 36, 111, 105, 100, 34, 58, 34] : List UInt8) ++ (hexB [b0, b1, b2, b3, b4, b5, b6, b7, b8, b9, b10, b11]).data.toList ++ [34, 125, 125, 125] by simp [outR], q_pt1, q_pt2]
      simp) q
  by_cases k13 : kind = 13
  · subst k13
    exact (scalar_js text more n bits high _ kv h hp hm hl hT h17 (by omega)).mono fun e w' q => ew_conv (by
      rw [show outR aux0 esc f ⟨13, text, more, n, bits, high, b, kids⟩ = ([123, 34, 36, 99, 111, 100, 101, 34, 58] : List UInt8) ++ jout esc text ++ [125] by simp [outR], q_code]
      simp) q
  by_cases k14 : kind = 14
  · subst k14
    exact (scalar_symbol text more n bits high _ kv h hp hm hl hT h17 (by omega)).mono fun e w' q => ew_conv (by
      rw [show outR aux0 esc f ⟨14, text, more, n, bits, high, b, kids⟩ = ([123, 34, 36, 115, 121, 109, 98, 111, 108, 34, 58] : List UInt8) ++ jout esc text ++ [125] by simp [outR], q_sym]
      simp) q
  by_cases k16 : kind = 16
  · subst k16
    exact (scalar_int32 text more n bits high _ kv h hp hm hl hT h17 (hR.i32 rfl)).mono fun e w' q => ew_conv (by simp [outR]) q
  by_cases k17 : kind = 17
  · subst k17
    exact (scalar_stamp text more n bits high _ kv h hp hm hl hT h17 hb (decB_len _ (by omega)) (decB_len _ (by omega))).mono fun e w' q => ew_conv (by
      rw [show outR aux0 esc f ⟨17, text, more, n, bits, high, b, kids⟩ = ([123, 34, 36, 116, 105, 109, 101, 115, 116, 97, 109, 112, 34, 58, 123, 34, 116, 34, 58] : List UInt8) ++ (decB (bits / 4294967296)).data.toList ++ ([44, 34, 105, 34, 58] : List UInt8) ++ (decB (bits % 4294967296)).data.toList ++ [125, 125] by simp [outR], q_ts1, q_ts2]
      simp) q
  by_cases k18 : kind = 18
  · subst k18
    exact (scalar_int64 text more n bits high _ kv h hp hm hl hT h17 hn).mono fun e w' q => ew_conv (by simp [outR]) q
  by_cases k19 : kind = 19
  · subst k19
    exact (scalar_dec text more n bits high _ kv h hp hm hl hT h17 ⟨(decT high bits).toArray⟩ (by show (decT high bits).toArray.size ≤ 10000; have := decT_len high bits hb; rw [List.size_toArray]; omega) (fun W hW hW2 => decString_any high bits hh hb W hW.c hW2)).mono fun e w' q => ew_conv (by
      rw [show outR aux0 esc f ⟨19, text, more, n, bits, high, b, kids⟩ = ([123, 34, 36, 110, 117, 109, 98, 101, 114, 68, 101, 99, 105, 109, 97, 108, 34, 58, 34] : List UInt8) ++ decT high bits ++ [34, 125] by simp [outR, aux0], q_dec]
      simp) q
  by_cases k255 : kind = 255
  · subst k255
    exact (scalar_min text more n bits high _ kv h hp hm hl hT h17).mono fun e w' q => ew_conv (by rw [show outR aux0 esc f ⟨255, text, more, n, bits, high, b, kids⟩ = ([123, 34, 36, 109, 105, 110, 75, 101, 121, 34, 58, 49, 125] : List UInt8) by simp [outR], q_min]) q
  · obtain rfl : kind = 127 := by omega
    exact (scalar_max text more n bits high _ kv h hp hm hl hT h17).mono fun e w' q => ew_conv (by rw [show outR aux0 esc f ⟨127, text, more, n, bits, high, b, kids⟩ = ([123, 34, 36, 109, 97, 120, 75, 101, 121, 34, 58, 49, 125] : List UInt8) by simp [outR], q_max]) q
theorem memOut_items (esc : Bool) {K : Type} (f : K → List UInt8) (l : List (ByteArray × K)) : memOut esc f l = (l.map fun p => jout esc p.1 ++ [58] ++ f p.2).flatMap (fun y => y ++ [44]) := by
  unfold memOut
  rw [List.flatMap_map]
theorem itemOut_items {K : Type} (f : K → List UInt8) (l : List (ByteArray × K)) : itemOut f l = (l.map fun p => f p.2).flatMap (fun y => y ++ [44]) := by
  unfold itemOut
  rw [List.flatMap_map]
theorem doc_end {g B wb : Nat} {esc : Bool} {ms : List Int} {x : Int} {w : World} {K : Type} (f : K → List UInt8) (l : List (ByteArray × K)) (X : List UInt8) (h : IsEW g B wb false esc (X ++ 123 :: memOut esc f l) (ms ++ [x] ++ [2]) w) (hp : 0 < ms.length) (hl : (X ++ 123 :: memOut esc f l).length ≤ 1000000000) :
    Calls Tryz.prog 70 #[.pointer (some ⟨g, 0, none⟩)] w fun e w' => e = .returned .nilIface ∧ IsEW g B wb false esc (X ++ (docOut esc f l ++ [44])) ms w' ∧ EStep B w w' := by
  rw [List.append_assoc] at h
  cases l with
  | nil =>
    have h2 := writeDocEnd_2_plain (m := x) (b0 := X) (c := 123) h hp (by unfold Room; simp at hl; omega) (by decide)
    exact h2
  | cons p r =>
    unfold docOut
    rw [memOut_items] at h hl ⊢
    rw [closed_items _ _ _ (by decide)]
    rw [flat_comma _ (by simp)] at h hl
    have h2 := writeDocEnd_2_comma (m := x) (b0 := X ++ 123 :: sItems (List.map (fun p => jout esc p.1 ++ [58] ++ f p.2) (p :: r))) (by simpa using h) hp (by unfold Room; simp only [List.length_append, List.length_cons] at hl ⊢; omega)
    simpa using h2
theorem scope_end {g B wb : Nat} {esc : Bool} {ms : List Int} {x : Int} {w : World} {K : Type} (f : K → List UInt8) (l : List (ByteArray × K)) (X : List UInt8) (h : IsEW g B wb false esc (X ++ 123 :: memOut esc f l) (ms ++ [x] ++ [6]) w) (hp : 0 < ms.length) (hl : (X ++ 123 :: memOut esc f l).length ≤ 1000000000) :
    Calls Tryz.prog 70 #[.pointer (some ⟨g, 0, none⟩)] w fun e w' => e = .returned .nilIface ∧ IsEW g B wb false esc (X ++ (docOut esc f l ++ [125, 44])) ms w' ∧ EStep B w w' := by
  rw [List.append_assoc] at h
  cases l with
  | nil =>
    have h2 := writeDocEnd_6_plain (m := x) (b0 := X) (c := 123) h hp (by unfold Room; simp at hl; omega) (by decide)
    exact h2
  | cons p r =>
    unfold docOut
    rw [memOut_items] at h hl ⊢
    rw [closed_items _ _ _ (by decide)]
    rw [flat_comma _ (by simp)] at h hl
    have h2 := writeDocEnd_6_comma (m := x) (b0 := X ++ 123 :: sItems (List.map (fun p => jout esc p.1 ++ [58] ++ f p.2) (p :: r))) (by simpa using h) hp (by unfold Room; simp only [List.length_append, List.length_cons] at hl ⊢; omega)
    simpa using h2
theorem arr_end {g B wb : Nat} {esc : Bool} {ms : List Int} {x : Int} {w : World} {K : Type} (f : K → List UInt8) (l : List (ByteArray × K)) (X : List UInt8) (h : IsEW g B wb false esc (X ++ 91 :: itemOut f l) (ms ++ [x] ++ [3]) w) (hp : 0 < ms.length) (hl : (X ++ 91 :: itemOut f l).length ≤ 1000000000) :
    Calls Tryz.prog 99 #[.pointer (some ⟨g, 0, none⟩)] w fun e w' => e = .returned .nilIface ∧ IsEW g B wb false esc (X ++ (arrOut f l ++ [44])) ms w' ∧ EStep B w w' := by
  rw [List.append_assoc] at h
  cases l with
  | nil =>
    have h2 := writeArrayEnd_plain (m := x) (b0 := X) (c := 91) h hp (by unfold Room; simp at hl; omega) (by decide)
    exact h2
  | cons p r =>
    unfold arrOut
    rw [itemOut_items] at h hl ⊢
    rw [closed_items _ _ _ (by decide)]
    rw [flat_comma _ (by simp)] at h hl
    have h2 := writeArrayEnd_comma (m := x) (b0 := X ++ 91 :: sItems (List.map (fun p => f p.2) (p :: r))) (by simpa using h) hp (by unfold Room; simp only [List.length_append, List.length_cons] at hl ⊢; omega)
    simpa using h2
/-- The claim for values of depth below d, to n levels. -/
def WV (w0 : World) (g B wb : Nat) (esc : Bool) (n d : Nat) : Prop := ∀ (t : VT d) (cs : List Value), IsV w0 d t cs → FitD n d t → RightV d t → ∀ (buf : List UInt8) (ms : List Int) (m : Int) (w : World),
  IsEW g B wb false esc buf (ms ++ [m]) w → (m = 4 ∨ m = 5) → 0 < ms.length → ms.length + 3 * n ≤ 800 → Below B w0 w → buf.length + (outV aux0 esc d t).length + 1 ≤ 1000000000 →
  Calls Tryz.prog 69 #[.pointer (some ⟨g, 0, none⟩), .agg cs.toArray] w fun e w' => e = .returned .nilIface ∧ IsEW g B wb false esc (buf ++ (outV aux0 esc d t ++ [44])) ms w' ∧ EStep B w w'
theorem closed_le (l : List UInt8) (c : UInt8) : l.length ≤ (closed l c).length := by
  unfold closed
  split
  · rename_i h
    have : l ≠ [] := by rintro rfl; simp at h
    rw [List.length_append, List.length_dropLast]
    simp
    omega
  · simp
theorem kids_env {w0 : World} {g B wb : Nat} {esc : Bool} {n d : Nat} (hB : B = w0.heap.size) (h17 : 17 ≤ B) (hT : Tabs w0) (ih : WV w0 g B wb esc n d) (l : List (ByteArray × VT d)) (hF : ∀ p ∈ l, p.1.size ≤ 300 ∧ UT p.1 ∧ FitD n d p.2) (hR : ∀ p ∈ l, RightV d p.2)
    (X : List UInt8) (ms : List Int) (md : Int) (hd : ms.length + 1 + 3 * n ≤ 800) (hlen : (X ++ 123 :: memOut esc (outV aux0 esc d) l).length ≤ 1000000000) (wS : World) (Q : World → World → Prop)
    (el : ∀ (buf : List UInt8) (w : World) (s : ByteArray), IsEW g B wb false esc buf (ms ++ [md]) w → Room buf.length → Tabs w → s.size ≤ 300 →
      Calls Tryz.prog 68 #[.pointer (some ⟨g, 0, none⟩), .string s] w fun e w' => e = .returned (meV g) ∧ IsEW g B wb false esc (buf ++ (jout esc s ++ [58])) (ms ++ [md] ++ [5]) w' ∧ EStep B w w')
    (fin : ∀ w, IsEW g B wb false esc (X ++ 123 :: memOut esc (outV aux0 esc d) l) (ms ++ [md]) w → Below B w0 w → EStep B wS w →
      Calls Tryz.prog 70 #[.pointer (some ⟨g, 0, none⟩)] w fun e w' => e = .returned .nilIface ∧ Q w w') :
    KidsEnv (VT d) (outV aux0 esc d) (IsV w0 d) l g B wb esc X ms md w0 wS Q where
  base := hB
  h17 := h17
  tabs := hT
  len := hlen
  names := fun p hp => (hF p hp).1
  cells := fun p hp cs h => IsV.form h
  el := el
  val := fun p hp cs h buf w hw hb hl => ih p.2 cs h (hF p hp).2.2 (hR p hp) buf (ms ++ [md]) 5 w hw (.inr rfl) (by simp) (by rw [List.length_append]; simp; omega) hb hl
  fin := fin
theorem itemOut_snoc {K : Type} (f : K → List UInt8) (l : List (ByteArray × K)) (i : Nat) (name : ByteArray) (k : K) (h : l[i]? = some (name, k)) : itemOut f (l.take (i + 1)) = itemOut f (l.take i) ++ (f k ++ [44]) := by
  rw [List.take_add_one, h]
  simp [itemOut, List.flatMap_append]
theorem itemOut_le {K : Type} (f : K → List UInt8) (l : List (ByteArray × K)) (i : Nat) : (itemOut f (l.take i)).length ≤ (itemOut f l).length := by
  conv => rhs; rw [← List.take_append_drop i l]
  unfold itemOut
  rw [List.flatMap_append, List.length_append]
  omega
set_option maxHeartbeats 4000000 in
theorem value_step (w0 : World) (g B wb : Nat) (esc : Bool) (n d : Nat) (hB : B = w0.heap.size) (h17 : 17 ≤ B) (hT : Tabs w0) (ih : WV w0 g B wb esc n d) : WV w0 g B wb esc (n + 1) (d + 1) := by
  intro t cs hv hF hR buf ms m w h hm hp hd hb hlen
  have hF' : FitR (FitD n d) t := hF
  have hR' : RightR (RightV d) t := hR
  obtain ⟨bv, kv, rfl, hk, hn, hbits, hhigh, hts, hms, hbv, hkv⟩ := hv
  obtain ⟨A2, c2, rfl, hk2, hk3, hk4⟩ := hkv
  have hkv : KidsV w0 (IsV w0 d) (.slice A2 t.kids.length c2) t.kids := ⟨A2, c2, rfl, hk2, hk3, hk4⟩
  obtain ⟨A1, c1, rfl, hq1, hq2, hq3⟩ := hbv
  have hbv : BytesV w0 (.slice A1 t.b.length c1) t.b := ⟨A1, c1, rfl, hq1, hq2, hq3⟩
  obtain ⟨bx, hbx⟩ : ∃ bx, Obj.cells #[.int .i64 t.kind, .string t.text, .string t.more, .int .i64 t.n, .int .u64 (t.bits : Int), .int .u64 (t.high : Int), .slice A1 t.b.length c1, .slice A2 t.kids.length c2] 26 = bx := ⟨_, rfl⟩
  have hBw : B ≤ w.heap.size := by have := h.lt; omega
  have H1 := Lib.hid (h.below (below_allocB w bx))
  have HB1 := Lib.hid (hb.trans ((below_allocB w bx).mono hBw))
  have S1 := Lib.hid (EStep.of_below (B := B) (below_allocB w bx) hBw)
  have T1 := Lib.hid (hT.below HB1.out h17)
  have hout : outV aux0 esc (d + 1) t = outR aux0 esc (outV aux0 esc d) t := rfl
  rw [hout] at hlen ⊢
  have hkl : t.kids.length ≤ 140737488351232 := Nat.le_trans hk2 hk3
  by_cases k3 : t.kind = 3
  · have ho : outR aux0 esc (outV aux0 esc d) t = docOut esc (outV aux0 esc d) t.kids := by simp [outR, k3]
    rw [ho] at hlen ⊢
    have hcl := closed_le (123 :: memOut esc (outV aux0 esc d) t.kids) 125
    have hll : (buf ++ 123 :: memOut esc (outV aux0 esc d) t.kids).length ≤ 1000000000 := by
      rw [List.length_append]
      unfold docOut at hlen
      omega
    have HE := Lib.hid (fun wS => kids_env hB h17 hT ih t.kids hF'.kids (hR'.kids (.inl k3)) buf (ms ++ [m]) 2 (by rw [List.length_append]; simp; omega) hll wS (fun w w' => IsEW g B wb false esc (buf ++ (docOut esc (outV aux0 esc d) t.kids ++ [44])) ms w' ∧ EStep B w w')
      (fun b w s hw hr ht hs => writeElement_2 (m := m) s hw hr (by rw [List.length_append]; simp; omega) ht h17 (by omega)) (fun w hw _ _ => doc_end _ _ _ hw hp hll))
    have HKV := Lib.hid hkv
    have HBX := Lib.hid (heap_alloc_new w bx)
    have hroom : Room buf.length := by unfold Room; omega
    have hmsl : ms.length ≤ 900 := by omega
    rw [k3] at hbx ⊢
    generalize docOut esc (outV aux0 esc d) t.kids = O at HE ⊢
    generalize hnk : t.kids.length = nk at hbx hkl HKV ⊢
    have HNK := Lib.hid hnk.symm
    subst hbx
    clear ho hlen hcl hll k3 hkv hnk
    go_enter Tryz.func69, Tryz.ntmps69
    go_wp2_with (go_at_call 40; refine (writeDocument_in H1.out hroom hm hmsl).mono ?_; rintro e w2 ⟨rfl, h2, s2⟩; refine Hid.out ?_)
    refine Lib.hid ?_
    have H2 := Lib.hid h2
    have S2 := Lib.hid (S1.out.trans s2)
    have hb2 := s2.2 _ _ HBX.out (fun c e fz he => by injection he with h1 h2 h3; subst h2; decide)
    have k7 := blk_cell hb2 7
    simp only [List.getElem?_toArray, List.getElem?_cons_zero, List.getElem?_cons_succ] at k7
    clear h2 s2 hb2 HBX
    unfold meV
    go_wp2_with (go_at_call 41; refine (kids_any (HE.out _) A2 nk c2 HNK.out HKV.out hkl H2.out (hb.trans S2.out.1)).mono ?_; rintro e w3 ⟨rfl, w4, s3, h3, s4⟩; refine Hid.out ?_)
    refine Lib.hid ?_
    have H3 := Lib.hid h3
    have S3 := Lib.hid (S2.out.trans (s3.trans s4))
    clear h3 s3 s4 k7
    go_wp2_with fail
    go_ret
    exact ⟨rfl, H3.out, S3.out⟩
  by_cases k4 : t.kind = 4
  · have ho : outR aux0 esc (outV aux0 esc d) t = arrOut (outV aux0 esc d) t.kids := by simp [outR, k4]
    rw [ho] at hlen ⊢
    have hcl := closed_le (91 :: itemOut (outV aux0 esc d) t.kids) 93
    have hll : (buf ++ 91 :: itemOut (outV aux0 esc d) t.kids).length ≤ 1000000000 := by
      rw [List.length_append]
      unfold arrOut at hlen
      omega
    have HLL := Lib.hid hll
    have HKV := Lib.hid hkv
    have HBX := Lib.hid (heap_alloc_new w bx)
    have hroom : Room buf.length := by unfold Room; omega
    have hmsl : ms.length ≤ 900 := by omega
    have HF := Lib.hid hF'.kids
    have HRK := Lib.hid (hR'.kids (.inr (.inl k4)))
    have HEND := Lib.hid (fun W hW => arr_end (g := g) (B := B) (wb := wb) (esc := esc) (ms := ms) (x := m) (w := W) (outV aux0 esc d) t.kids buf hW hp hll)
    rw [k4] at hbx ⊢
    generalize arrOut (outV aux0 esc d) t.kids = O at HEND ⊢
    generalize hnk : t.kids.length = nk at hbx hkl HKV ⊢
    have HNK := Lib.hid hnk.symm
    subst hbx
    clear ho hlen hcl hll k4 hkv hnk
    go_enter Tryz.func69, Tryz.ntmps69
    go_wp2_with (go_at_call 97; refine (writeArray_any H1.out hroom hm hmsl).mono ?_; rintro e w2 ⟨rfl, h2, s2⟩; refine Hid.out ?_)
    refine Lib.hid ?_
    have H2 := Lib.hid h2
    have S2 := Lib.hid (S1.out.trans s2)
    have hb2 := s2.2 _ _ HBX.out (fun c e fz he => by injection he with h1 h2 h3; subst h2; decide)
    have k7 := blk_cell hb2 7
    simp only [List.getElem?_toArray, List.getElem?_cons_zero, List.getElem?_cons_succ] at k7
    clear h2 s2 hb2 HBX
    unfold meV
    go_wp2_with fail
    go_loopw [8, 46] (fun er i wr => ∃ k : Nat, k ≤ nk ∧ er = .nilIface ∧ i = .int .i64 k ∧ Hid (IsEW g B wb false esc (buf ++ 91 :: itemOut (outV aux0 esc d) (t.kids.take k)) (ms ++ [m] ++ [3]) wr) ∧ Hid (EStep B w wr)) (fun _ i _ => nk - (intOf i).toNat)
    case atStart => exact ⟨0, Nat.zero_le _, rfl, rfl, by show IsEW _ _ _ _ _ _ _ _; simpa [itemOut] using H2.out, S2.out⟩
    case round =>
      obtain ⟨k, hk, rfl, rfl, HW, HS⟩ := hrel
      by_cases hlt : k < nk
      · obtain ⟨name, kd, b, o, cs, hget, rfl, hRc, hcs, hrange⟩ := HKV.out.elem (i := k) (by have := HNK.out; omega)
        have hmem : (name, kd) ∈ t.kids := List.mem_of_getElem? hget
        have hbr : Below B w0 wr := hb.trans HS.out.1
        have hrg := rangeAt_later hrange (by rw [← hB]; exact hbr)
        obtain ⟨kk, tx, mr, vn, vb, vh, B1, B2, n1, d1, n2, d2, rfl⟩ := IsV.form hRc
        have HRG := Lib.hid hrg
        have HMEM := Lib.hid hmem
        have HGET := Lib.hid hget
        have HR := Lib.hid hRc
        have HBR := Lib.hid hbr
        clear hrange hrg hmem hget hRc hbr hcs
        go_wp2_with (with_reducible show wpList _ _ _ (⟨some 49, _, _, _, _, _⟩ :: _) _ _; refine Hid.out ?_)
        refine Lib.hid ?_
        refine wpList_load_mid rfl 38 (.tmp 48) rfl b (o + k * 9) rfl [.string name, .int .i64 kk, .string tx, .string mr, .int .i64 vn, .int .u64 (vb : Int), .int .u64 (vh : Int), .slice B1 n1 d1, .slice B2 n2 d2] _ HRG.out Tryz.underlying38 rfl (by rw [info38s]; rfl) ?_
        go_wp2_with fail
        have HBX := Lib.hid (heap_alloc_new wr (.cells #[.string name, .int .i64 kk, .string tx, .string mr, .int .i64 vn, .int .u64 (vb : Int), .int .u64 (vh : Int), .slice B1 n1 d1, .slice B2 n2 d2] 38))
        have H3 := Lib.hid (HW.out.below (below_allocB wr (.cells #[.string name, .int .i64 kk, .string tx, .string mr, .int .i64 vn, .int .u64 (vb : Int), .int .u64 (vh : Int), .slice B1 n1 d1, .slice B2 n2 d2] 38)))
        have S3 := Lib.hid (EStep.of_below (B := B) (below_allocB wr (.cells #[.string name, .int .i64 kk, .string tx, .string mr, .int .i64 vn, .int .u64 (vb : Int), .int .u64 (vh : Int), .slice B1 n1 d1, .slice B2 n2 d2] 38)) (by have := HW.out.lt; omega))
        have hle := itemOut_le (outV aux0 esc d) t.kids k
        have hl1 := HLL.out
        have hl2 : (buf ++ 91 :: itemOut (outV aux0 esc d) (t.kids.take k)).length ≤ 1000000000 := by simp only [List.length_append, List.length_cons] at hl1 ⊢; omega
        have HL2 := Lib.hid hl2
        have hsn := itemOut_snoc (outV aux0 esc d) t.kids k name kd HGET.out
        have hle2 := itemOut_le (outV aux0 esc d) t.kids (k + 1)
        rw [hsn] at hle2
        have hl3 : (buf ++ 91 :: itemOut (outV aux0 esc d) (t.kids.take k)).length + (outV aux0 esc d kd).length + 1 ≤ 1000000000 := by simp only [List.length_append, List.length_cons, List.length_nil] at hl1 hle2 ⊢; omega
        have HL3 := Lib.hid hl3
        have HSN := Lib.hid hsn
        clear hle hl1 hl2 hsn hle2 hl3
        go_wp2_with (go_at_call 98; refine (writeArrayElement_any (m := m) H3.out (by have := HL2.out; unfold Room; omega) (by rw [List.length_append]; simp; omega)).mono ?_; rintro e w4 ⟨rfl, h4, s4⟩; refine Hid.out ?_)
        refine Lib.hid ?_
        have H4 := Lib.hid h4
        have S4 := Lib.hid (S3.out.trans s4)
        have hb4 := s4.2 _ _ HBX.out (fun c e fz he => by injection he with h1 h2 h3; subst h2; decide)
        have k1 := blk_cell hb4 1
        have k2 := blk_cell hb4 2
        have k3 := blk_cell hb4 3
        have k4 := blk_cell hb4 4
        have k5 := blk_cell hb4 5
        have k6 := blk_cell hb4 6
        have k7' := blk_cell hb4 7
        have k8 := blk_cell hb4 8
        simp only [List.getElem?_toArray, List.getElem?_cons_zero, List.getElem?_cons_succ] at k1 k2 k3 k4 k5 k6 k7' k8
        clear h4 s4 hb4 HBX
        unfold meV
        go_wp2_with (go_at_call 69; refine (ih kd _ HR.out (HF.out _ HMEM.out).2.2 (HRK.out _ HMEM.out) _ (ms ++ [m] ++ [3]) 4 _ H4.out (.inl rfl) (by simp) (by simp only [List.length_append, List.length_cons, List.length_nil]; omega) (HBR.out.trans S4.out.1) HL3.out).mono ?_; rintro e w5 ⟨rfl, h5, s5⟩; refine Hid.out ?_)
        refine Lib.hid ?_
        have H5 := Lib.hid h5
        have S5 := Lib.hid (HS.out.trans (S4.out.trans s5))
        clear h5 s5 k1 k2 k3 k4 k5 k6 k7' k8
        go_wp2_with fail
        go_roundw
        case rel => exact ⟨k + 1, by omega, rfl, by go_num, by have := H5.out; show IsEW _ _ _ _ _ _ _ _; rw [HSN.out]; simpa using this, S5.out⟩
        case measure => simp [intOf]; omega
      · obtain rfl : k = nk := by omega
        have hW := HW.out
        rw [List.take_of_length_le (by have := HNK.out; omega)] at hW
        have HFN := Lib.hid (HEND.out wr hW)
        clear hW
        go_wp2_with (go_at_call 99; refine HFN.out.mono ?_; rintro e w6 ⟨rfl, h6, s6⟩; have H6 := Lib.hid h6; have S6 := Lib.hid s6; clear h6 s6)
        go_ret
        exact ⟨rfl, H6.out, HS.out.trans S6.out⟩
  by_cases k15 : t.kind = 15
  · have ho : outR aux0 esc (outV aux0 esc d) t = [123, 34, 36, 99, 111, 100, 101, 34, 58] ++ jout esc t.text ++ ([44, 34, 36, 115, 99, 111, 112, 101, 34, 58] : List UInt8) ++ docOut esc (outV aux0 esc d) t.kids ++ [125] := by
      have q2 : ([44, 34, 36, 115, 99, 111, 112, 101, 34, 58] : List UInt8) = ([44, 34, 36, 115, 99, 111, 112, 101, 34, 58] : List UInt8) := by decide +kernel
      simp only [outR, k15]
      rw [← q_code, ← q2]
      rfl
    rw [ho] at hlen ⊢
    obtain ⟨X, hX⟩ : ∃ X, buf ++ ([123, 34, 36, 99, 111, 100, 101, 34, 58] ++ jout esc t.text ++ ([44, 34, 36, 115, 99, 111, 112, 101, 34, 58] : List UInt8)) = X := ⟨_, rfl⟩
    have hcl := closed_le (123 :: memOut esc (outV aux0 esc d) t.kids) 125
    have hll : (X ++ 123 :: memOut esc (outV aux0 esc d) t.kids).length ≤ 1000000000 := by
      rw [List.length_append, ← hX]
      unfold docOut at hlen
      simp only [List.length_append] at hlen ⊢
      omega
    have HE := Lib.hid (fun wS => kids_env hB h17 hT ih t.kids hF'.kids (hR'.kids (.inr (.inr k15))) X (ms ++ [m]) 6 (by rw [List.length_append]; simp; omega) hll wS (fun w w' => IsEW g B wb false esc (X ++ (docOut esc (outV aux0 esc d) t.kids ++ [125, 44])) ms w' ∧ EStep B w w')
      (fun b w s hw hr ht hs => writeElement_6 (m := m) s hw hr (by rw [List.length_append]; simp; omega) ht h17 (by omega)) (fun w hw _ _ => scope_end _ _ _ hw hp hll))
    have HX1 := Lib.hid (show buf ++ ([123, 34, 36, 99, 111, 100, 101, 34, 58] ++ jout esc t.text ++ [44, 34, 36, 115, 99, 111, 112, 101, 34, 58, 123]) = X ++ [123] by rw [← hX]; simp)
    have HX2 := Lib.hid (show X ++ (docOut esc (outV aux0 esc d) t.kids ++ [125, 44]) = buf ++ ([123, 34, 36, 99, 111, 100, 101, 34, 58] ++ jout esc t.text ++ ([44, 34, 36, 115, 99, 111, 112, 101, 34, 58] : List UInt8) ++ docOut esc (outV aux0 esc d) t.kids ++ [125] ++ [44]) by rw [← hX]; simp)
    have HKV := Lib.hid hkv
    have HBX := Lib.hid (heap_alloc_new w bx)
    have hroom : Room buf.length := by unfold Room; omega
    have hmsl : ms.length ≤ 900 := by omega
    have htx : t.text.size ≤ 10000000 := by have := hF'.text.1; omega
    rw [k15] at hbx ⊢
    generalize docOut esc (outV aux0 esc d) t.kids = O at HE HX2 ⊢
    generalize hnk : t.kids.length = nk at hbx hkl HKV ⊢
    have HNK := Lib.hid hnk.symm
    subst hbx
    clear ho hlen hcl hll k15 hkv hnk hX
    go_enter Tryz.func69, Tryz.ntmps69
    go_wp2_with (go_at_call 100; refine (writeCode_any t.text H1.out hroom hm hmsl T1.out h17 htx).mono ?_; rintro e w2 ⟨rfl, h2, s2⟩; refine Hid.out ?_)
    refine Lib.hid ?_
    have H2 := Lib.hid (show IsEW g B wb false esc (X ++ [123]) (ms ++ [m] ++ [6]) w2 by rw [← HX1.out]; exact h2)
    have S2 := Lib.hid (S1.out.trans s2)
    have hb2 := s2.2 _ _ HBX.out (fun c e fz he => by injection he with h1 h2 h3; subst h2; decide)
    have k7 := blk_cell hb2 7
    simp only [List.getElem?_toArray, List.getElem?_cons_zero, List.getElem?_cons_succ] at k7
    clear h2 s2 hb2 HBX
    unfold meV
    go_wp2_with (go_at_call 41; refine (kids_any (HE.out _) A2 nk c2 HNK.out HKV.out hkl H2.out (hb.trans S2.out.1)).mono ?_; rintro e w3 ⟨rfl, w4, s3, h3, s4⟩; refine Hid.out ?_)
    refine Lib.hid ?_
    have H3 := Lib.hid h3
    have S3 := Lib.hid (S2.out.trans (s3.trans s4))
    clear h3 s3 s4 k7
    go_wp2_with fail
    go_ret
    exact ⟨rfl, by have := H3.out; rw [HX2.out] at this; simpa using this, S3.out⟩
  have hsc := scalar_all (outV aux0 esc d) (FitD n d) (RightV d) t hF' hR' (by omega) hn hbits hhigh (.slice A1 t.b.length c1) (.slice A2 t.kids.length c2) (hbv.later (by rw [← hB]; exact HB1.out)) H1.out hp hm (by unfold Room; omega) T1.out h17 (Nat.le_trans hBw (below_allocB w bx).size)
  have HSC := Lib.hid hsc
  have e3 : (t.kind == 3) = false := by simp [k3]
  have e4 : (t.kind == 4) = false := by simp [k4]
  have e15 : (t.kind == 15) = false := by simp [k15]
  obtain ⟨O, hO⟩ : ∃ O, outR aux0 esc (outV aux0 esc d) t = O := ⟨_, rfl⟩
  rw [hO] at HSC ⊢
  subst hbx
  unfold valV at HSC
  clear hsc k3 k4 k15 hO hout hlen
  go_enter Tryz.func69, Tryz.ntmps69
  go_wp2_with (go_at_call 101; refine HSC.out.mono ?_; rintro e w2 ⟨rfl, h2, s2⟩; refine Hid.out ?_)
  refine Lib.hid ?_
  have H2 := Lib.hid h2
  have S2 := Lib.hid s2
  clear h2 s2
  go_wp2_with fail
  go_ret
  exact ⟨rfl, H2.out, S1.out.trans S2.out⟩
theorem value_all (w0 : World) (g B wb : Nat) (esc : Bool) (hB : B = w0.heap.size) (h17 : 17 ≤ B) (hT : Tabs w0) : ∀ (n d : Nat), WV w0 g B wb esc n d
  | _, 0 => fun t => t.elim
  | 0, d + 1 => fun t cs hv hF => hF.elim
  | n + 1, d + 1 => value_step w0 g B wb esc n d hB h17 hT (value_all w0 g B wb esc hB h17 hT n d)
end Go.Proofs.YtpfkgpcnhdkkbaaGreatDoor
