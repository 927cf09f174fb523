/- The package-level tables that the program's functions read, as one fact on the world; the output of the functions that quote a text. -/
import Derived.Test.YtpfkgpcnhdkkbaaGreatDoorAShelf
import Derived.Test.YtpfkgpcnhdkkbaaGreatDoorAEa
import Derived.Test.YtpfkgpcnhdkkbaaGreatDoorAGm
import Derived.Lib.RuneCount
import Derived.Test.YtpfkgpcnhdkkbaaGreatDoorAGs
import Derived.Lib.FieldsU
import GoSem.PinnedTables
namespace Go.Proofs.YtpfkgpcnhdkkbaaGreatDoor
open Go.RowKit
set_option linter.unusedVariables false
set_option linter.unusedSimpArgs false

def safeB (esc : Bool) (b : Nat) : Bool := decide (32 ≤ b) && b != 34 && b != 92 && !(esc && (b == 38 || b == 60 || b == 62))

def pRow (i : Nat) : Nat × Nat := Go.Pinned.pow10Rows.getD i (0, 0)
structure TabC (w : World) : Prop where
 u8 : Lib.Utf8Tabs 11 12 w
 p10 : Lib.TabIs Tryz.prog w "internal/strconv.uint64pow10" .u64 Lib.pow10Tab
 pw : ∀ i : Nat, i < 696 → w.cell? ⟨15, 2 * i, none⟩ = some (.int .u64 ((pRow i).1 : Int)) ∧ w.cell? ⟨15, 2 * i + 1, none⟩ = some (.int .u64 ((pRow i).2 : Int))
structure Tabs (w : World) : Prop where
 c : TabC w
 h3 : ∀ b : Nat, b < 128 → w.cell? ⟨3, b, none⟩ = some (.bool (safeB true b))
 h4 : ∀ b : Nat, b < 128 → w.cell? ⟨4, b, none⟩ = some (.bool (safeB false b))
structure TabX (w : World) : Prop where
 c : TabC w
 h5 : ∀ b : Nat, b < 128 → w.cell? ⟨5, b, none⟩ = some (.bool (safeB true b))
 h6 : ∀ b : Nat, b < 128 → w.cell? ⟨6, b, none⟩ = some (.bool (safeB false b))
theorem global_pow10 : Tryz.prog.globalNamed "internal/strconv.uint64pow10" = some 2 := by kernel_rfl
theorem TabC.below {B : Nat} {w w' : World} (h : TabC w) (hb : Below B w w') (hB : 17 ≤ B) : TabC w' :=
 ⟨⟨fun c hc => (hb.cell (p := ⟨11, c, none⟩) (by simp; omega)).trans (h.u8.1 c hc),
  fun i hi => ⟨(hb.cell (p := ⟨12, 2 * i, none⟩) (by simp; omega)).trans (h.u8.2 i hi).1, (hb.cell (p := ⟨12, 2 * i + 1, none⟩) (by simp; omega)).trans (h.u8.2 i hi).2⟩⟩,
  by have h1 := h.p10; unfold Lib.TabIs World.var? at h1 ⊢; rw [global_pow10] at h1 ⊢; simp only [Option.bind_some] at h1 ⊢; rw [hb.block 2 (by omega)]; exact h1,
  fun i hi => ⟨(hb.cell (p := ⟨15, 2 * i, none⟩) (by simp; omega)).trans (h.pw i hi).1, (hb.cell (p := ⟨15, 2 * i + 1, none⟩) (by simp; omega)).trans (h.pw i hi).2⟩⟩
theorem TabC.drewN {w : World} (h : TabC w) (n : Nat) : TabC (w.drewN n) := ⟨h.u8, h.p10, h.pw⟩
theorem TabX.below {B : Nat} {w w' : World} (h : TabX w) (hb : Below B w w') (hB : 17 ≤ B) : TabX w' :=
 ⟨h.c.below hb hB, fun b hb' => (hb.cell (p := ⟨5, b, none⟩) (by simp; omega)).trans (h.h5 b hb'), fun b hb' => (hb.cell (p := ⟨6, b, none⟩) (by simp; omega)).trans (h.h6 b hb')⟩
def jesc (esc : Bool) (b : UInt8) : List UInt8 :=
 if safeB esc b.toNat then [b] else if b.toNat = 92 ∨ b.toNat = 34 then [92, b] else if b.toNat = 10 then [92, 110] else if b.toNat = 13 then [92, 114]
 else if b.toNat = 9 then [92, 116] else if b.toNat = 8 then [92, 98] else if b.toNat = 12 then [92, 102] else [92, 117, 48, 48, hexd (b.toNat / 16), hexd (b.toNat % 16)]
def suf (s : ByteArray) (i : Nat) : ByteArray := s.extract i s.size
def jstep (esc : Bool) (s : ByteArray) (i : Nat) : List UInt8 × Nat :=
 if (s.data.toList.getD i 0).toNat < 128 then (jesc esc (s.data.toList.getD i 0), 1)
 else if (Lib.decodeGo (suf s i)).1 = 65533 ∧ (Lib.decodeGo (suf s i)).2 = 1 then ([92, 117, 102, 102, 102, 100], 1)
 else if (Lib.decodeGo (suf s i)).1 = 8232 ∨ (Lib.decodeGo (suf s i)).1 = 8233 then ([92, 117, 50, 48, 50, hexd ((Lib.decodeGo (suf s i)).1 % 16)], (Lib.decodeGo (suf s i)).2)
 else ((s.data.toList.drop i).take (Lib.decodeGo (suf s i)).2, (Lib.decodeGo (suf s i)).2)
def jfrom (esc : Bool) (s : ByteArray) : Nat → Nat → List UInt8
 | 0, _ => []
 | f + 1, i => if i < s.size then (jstep esc s i).1 ++ jfrom esc s f (i + (jstep esc s i).2) else []
def jout (esc : Bool) (s : ByteArray) : List UInt8 := 34 :: (jfrom esc s s.size 0 ++ [34])

theorem suf_size (s : ByteArray) (i : Nat) : (suf s i).size = s.size - i := by simp [suf, ByteArray.size_extract]
theorem dec_width (s : ByteArray) (i : Nat) (h : i < s.size) : 1 ≤ (Lib.decodeGo (suf s i)).2 ∧ i + (Lib.decodeGo (suf s i)).2 ≤ s.size := by
 have hs := suf_size s i
 unfold Lib.decodeGo
 rw [if_neg (by omega)]
 refine ⟨Lib.decode_width_pos _ 0 (by omega), ?_⟩
 rw [Lib.decode_at]
 have := Lib.decodeN_le_n' ((suf s i).size - 0) ((suf s i).get! 0).toNat ((suf s i).get! (0 + 1)).toNat ((suf s i).get! (0 + 2)).toNat ((suf s i).get! (0 + 3)).toNat (by omega)
 omega
theorem jesc_len (esc : Bool) (b : UInt8) : (jesc esc b).length ≤ 6 := by
 unfold jesc
 repeat' split
 all_goals simp
theorem jstep_le (esc : Bool) (s : ByteArray) (i : Nat) (h : i < s.size) : 1 ≤ (jstep esc s i).2 ∧ i + (jstep esc s i).2 ≤ s.size ∧ (jstep esc s i).1.length ≤ 6 * (jstep esc s i).2 := by
 have := dec_width s i h
 have hl := jesc_len esc (s.data.toList.getD i 0)
 unfold jstep
 repeat' split
 ·exact ⟨Nat.le_refl _, h, hl⟩
 ·exact ⟨Nat.le_refl _, h, by simp⟩
 ·exact ⟨this.1, this.2, by simp; omega⟩
 ·exact ⟨this.1, this.2, by simp; omega⟩
theorem jfrom_len (esc : Bool) (s : ByteArray) : ∀ f i, i ≤ s.size → (jfrom esc s f i).length ≤ 6 * (s.size - i)
 | 0, i, _ => by simp [jfrom]
 | f + 1, i, hi => by
  unfold jfrom
  split
  ·rename_i h
   have h1 := jstep_le esc s i h
   have h2 := jfrom_len esc s f (i + (jstep esc s i).2) h1.2.1
   simp only [List.length_append]
   omega
  ·simp
theorem jout_len (esc : Bool) (s : ByteArray) : (jout esc s).length ≤ 6 * s.size + 2 := by
 have := jfrom_len esc s s.size 0 (by omega)
 simp [jout]
 omega
end Go.Proofs.YtpfkgpcnhdkkbaaGreatDoor
