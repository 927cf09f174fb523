/- writeKidsExt: the members of a document, one by one. -/
import Derived.Test.YtpfkgpcnhdkkbaaGreatDoorMp
import Derived.Test.YtpfkgpcnhdkkbaaGreatDoorMe
import Derived.Deep.MidRow
namespace Go.Proofs.YtpfkgpcnhdkkbaaGreatDoor
open Go.RowKit
set_option linter.unusedVariables false
set_option linter.unusedSimpArgs false
set_option maxRecDepth 100000
theorem memOut_snoc (esc : Bool) {K : Type} (f : K → List UInt8) (l : List (ByteArray × K)) (i : Nat) (name : ByteArray) (k : K) (h : l[i]? = some (name, k)) : memOut esc f (l.take (i + 1)) = memOut esc f (l.take i) ++ (jout esc name ++ [58] ++ f k ++ [44]) := by
  rw [List.take_add_one, h]
  simp [memOut, List.flatMap_append]
theorem memOut_le (esc : Bool) {K : Type} (f : K → List UInt8) (l : List (ByteArray × K)) (i : Nat) : (memOut esc f (l.take i)).length ≤ (memOut esc f l).length := by
  conv => rhs; rw [← List.take_append_drop i l]
  unfold memOut
  rw [List.flatMap_append, List.length_append]
  omega
/-- What the kids' writer asks of the place where it stands. -/
structure KidsEnv (K : Type) (f : K → List UInt8) (R : K → List Value → Prop) (l : List (ByteArray × K)) (g B wb : Nat) (esc : Bool) (X : List UInt8) (ms : List Int) (md : Int) (w0 wS : World) (Q : World → World → Prop) : Prop where
  base : B = w0.heap.size
  h17 : 17 ≤ B
  tabs : Tabs w0
  len : (X ++ 123 :: memOut esc f l).length ≤ 1000000000
  names : ∀ p ∈ l, p.1.size ≤ 300
  cells : ∀ p ∈ l, ∀ cs, R p.2 cs → Cells8 cs
  el : ∀ (buf : List UInt8) (w : World) (s : ByteArray), IsEW g B wb false esc buf (ms ++ [md]) w → Room buf.length → Tabs w → s.size ≤ 300 →
    Calls Tryz.prog 68 #[.pointer (some ⟨g, 0, none⟩), .string s] w fun e w' => e = .returned (meV g) ∧ IsEW g B wb false esc (buf ++ (jout esc s ++ [58])) (ms ++ [md] ++ [5]) w' ∧ EStep B w w'
  val : ∀ p ∈ l, ∀ cs, R p.2 cs → ∀ (buf : List UInt8) (w : World), IsEW g B wb false esc buf (ms ++ [md] ++ [5]) w → Below B w0 w → buf.length + (f p.2).length + 1 ≤ 1000000000 →
    Calls Tryz.prog 69 #[.pointer (some ⟨g, 0, none⟩), .agg cs.toArray] w fun e w' => e = .returned .nilIface ∧ IsEW g B wb false esc (buf ++ (f p.2 ++ [44])) (ms ++ [md]) w' ∧ EStep B w w'
  fin : ∀ w, IsEW g B wb false esc (X ++ 123 :: memOut esc f l) (ms ++ [md]) w → Below B w0 w → EStep B wS w →
    Calls Tryz.prog 70 #[.pointer (some ⟨g, 0, none⟩)] w fun e w' => e = .returned .nilIface ∧ Q w w'
set_option maxHeartbeats 4000000 in
theorem kids_any {K : Type} {f : K → List UInt8} {R : K → List Value → Prop} {l : List (ByteArray × K)} {g B wb : Nat} {esc : Bool} {X : List UInt8} {ms : List Int} {md : Int} {w0 w : World} {Q : World → World → Prop}
    (E : KidsEnv K f R l g B wb esc X ms md w0 w Q) (A : Option Addr) (n c : Nat) (hn : n = l.length) (hkv : KidsV w0 R (.slice A n c) l) (hnb : n ≤ 140737488351232) (h : IsEW g B wb false esc (X ++ [123]) (ms ++ [md]) w) (hb : Below B w0 w) :
    Calls Tryz.prog 41 #[.pointer (some ⟨g, 0, none⟩), .slice A n c] w fun e w' => e = .returned (.bool true) ∧ ∃ w1, EStep B w w1 ∧ Q w1 w' := by
  have HE := Lib.hid E
  have HN := Lib.hid hn
  have HKV := Lib.hid hkv
  have H := Lib.hid h
  have HB := Lib.hid hb
  clear E hn hkv h hb
  go_enter Tryz.func41, Tryz.ntmps41
  go_wp2_with fail
  go_loopw [11] (fun i wr => ∃ k : Nat, k ≤ n ∧ i = .int .i64 k ∧ Hid (IsEW g B wb false esc (X ++ 123 :: memOut esc f (l.take k)) (ms ++ [md]) wr) ∧ Hid (EStep B w wr)) (fun i _ => n - (intOf i).toNat)
  case atStart => exact ⟨0, Nat.zero_le _, rfl, by show IsEW _ _ _ _ _ _ _ _; simpa [memOut] using H.out, EStep.refl _ _⟩
  case round =>
    obtain ⟨k, hk, rfl, HW, HS⟩ := hrel
    by_cases hlt : k < n
    · obtain ⟨name, kd, b, o, cs, hget, rfl, hR, hcs, hrange⟩ := HKV.out.elem (i := k) (by have := HN.out; omega)
      have hmem : (name, kd) ∈ l := List.mem_of_getElem? hget
      have hbr : Below B w0 wr := HB.out.trans HS.out.1
      have hrg := rangeAt_later hrange (by have := HE.out.base; rw [← this]; exact hbr)
      obtain ⟨kk, tx, mr, vn, vb, vh, A1, A2, n1, c1, n2, c2, rfl⟩ := HE.out.cells _ hmem cs hR
      have HRG := Lib.hid hrg
      have HMEM := Lib.hid hmem
      have HGET := Lib.hid hget
      have HR := Lib.hid hR
      have HBR := Lib.hid hbr
      clear hrange hrg hmem hget hR hbr hcs
      go_wp2_with (with_reducible show wpList _ _ _ (⟨some 14, _, _, _, _, _⟩ :: _) _ _; refine Hid.out ?_)
      refine Lib.hid ?_
      refine wpList_load_mid rfl 38 (.tmp 13) rfl b (o + k * 9) rfl [.string name, .int .i64 kk, .string tx, .string mr, .int .i64 vn, .int .u64 (vb : Int), .int .u64 (vh : Int), .slice A1 n1 c1, .slice A2 n2 c2] _ HRG.out Tryz.underlying38 rfl (by rw [info38s]; rfl) ?_
      go_wp2_with fail
      have HBX := Lib.hid (heap_alloc_new wr (.cells #[.string name, .int .i64 kk, .string tx, .string mr, .int .i64 vn, .int .u64 (vb : Int), .int .u64 (vh : Int), .slice A1 n1 c1, .slice A2 n2 c2] 38))
      have H1 := Lib.hid (HW.out.below (below_allocB wr (.cells #[.string name, .int .i64 kk, .string tx, .string mr, .int .i64 vn, .int .u64 (vb : Int), .int .u64 (vh : Int), .slice A1 n1 c1, .slice A2 n2 c2] 38)))
      have S1 := Lib.hid (EStep.of_below (B := B) (below_allocB wr (.cells #[.string name, .int .i64 kk, .string tx, .string mr, .int .i64 vn, .int .u64 (vb : Int), .int .u64 (vh : Int), .slice A1 n1 c1, .slice A2 n2 c2] 38)) (by have := HW.out.lt; omega))
      have hle := memOut_le esc f l k
      have hl1 := HE.out.len
      have hl2 : (X ++ 123 :: memOut esc f (l.take k)).length ≤ 1000000000 := by simp only [List.length_append, List.length_cons] at hl1 ⊢; omega
      have HL2 := Lib.hid hl2
      have hsn := memOut_snoc esc f l k name kd HGET.out
      have hle2 := memOut_le esc f l (k + 1)
      rw [hsn] at hle2
      have hl3 : (X ++ 123 :: memOut esc f (l.take k) ++ (jout esc name ++ [58])).length + (f kd).length + 1 ≤ 1000000000 := by simp only [List.length_append, List.length_cons, List.length_nil] at hl1 hle2 ⊢; omega
      have HL3 := Lib.hid hl3
      have HSN := Lib.hid hsn
      have hT1 := Lib.hid (HE.out.tabs.below (HBR.out.trans S1.out.1) HE.out.h17)
      have HNM := Lib.hid (HE.out.names _ HMEM.out)
      clear hle hl1 hl2 hsn hle2 hl3
      go_wp2_with (go_at_call 68; refine (HE.out.el _ _ name H1.out (by have := HL2.out; unfold Room; omega) hT1.out HNM.out).mono ?_; rintro e w2 ⟨rfl, h2, s2⟩; refine Hid.out ?_)
      refine Lib.hid ?_
      have H2 := Lib.hid h2
      have S2 := Lib.hid (S1.out.trans s2)
      have hb2 := s2.2 _ _ HBX.out (fun c e fz he => by injection he with h1 h2 h3; subst h2; decide)
      have k1 := blk_cell hb2 1
      have k2 := blk_cell hb2 2
      have k3 := blk_cell hb2 3
      have k4 := blk_cell hb2 4
      have k5 := blk_cell hb2 5
      have k6 := blk_cell hb2 6
      have k7 := blk_cell hb2 7
      have k8 := blk_cell hb2 8
      simp only [List.getElem?_toArray, List.getElem?_cons_zero, List.getElem?_cons_succ] at k1 k2 k3 k4 k5 k6 k7 k8
      clear h2 s2 hb2 HBX
      unfold meV
      go_wp2_with (go_at_call 69; refine (HE.out.val _ HMEM.out _ HR.out _ _ H2.out (HBR.out.trans S2.out.1) HL3.out).mono ?_; rintro e w3 ⟨rfl, h3, s3⟩; refine Hid.out ?_)
      refine Lib.hid ?_
      have H3 := Lib.hid h3
      have S3 := Lib.hid (HS.out.trans (S2.out.trans s3))
      clear h3 s3 k1 k2 k3 k4 k5 k6 k7 k8
      go_wp2_with fail
      go_roundw
      case rel => exact ⟨k + 1, by omega, by go_num, by have := H3.out; show IsEW _ _ _ _ _ _ _ _; rw [HSN.out]; simpa using this, S3.out⟩
      case measure => simp [intOf]; omega
    · obtain rfl : k = n := by omega
      have hW := HW.out
      rw [List.take_of_length_le (by have := HN.out; omega)] at hW
      have HF := Lib.hid (HE.out.fin wr hW (HB.out.trans HS.out.1) HS.out)
      clear hW
      go_wp2_with (go_at_call 70; refine HF.out.mono ?_; rintro e w2 ⟨rfl, hq⟩; have HQ := Lib.hid hq; clear hq)
      go_ret
      exact ⟨rfl, wr, HS.out, HQ.out⟩
end Go.Proofs.YtpfkgpcnhdkkbaaGreatDoor
