/- Two hexadecimal digits: zzHex2 of both packages, and the reference's. -/
import Derived.Test.YtpfkgpcnhdkkbaaGreatDoorAEw
import Derived.Lib.SmallJoins
import Derived.Lib.SlBytesRow
import Derived.Test.YtpfkgpcnhdkkbaaGreatDoorAEa
import Derived.Lib.SlBytesConst
namespace Go.Proofs.YtpfkgpcnhdkkbaaGreatDoor
open Go.RowKit
set_option linter.unusedVariables false
set_option linter.unusedSimpArgs false
theorem below_allocB (w : World) (x : Obj) : Below w.heap.size w (w.alloc x) := Joins.below_alloc1 _ _
def hexd (n : Nat) : UInt8 := if n < 10 then UInt8.ofNat (48 + n) else UInt8.ofNat (87 + n)
theorem hex_ix : ∀ (k : Nat) (h : k < (⟨#[48, 49, 50, 51, 52, 53, 54, 55, 56, 57, 97, 98, 99, 100, 101, 102]⟩ : ByteArray).size), (⟨#[48, 49, 50, 51, 52, 53, 54, 55, 56, 57, 97, 98, 99, 100, 101, 102]⟩ : ByteArray)[k]'h = hexd k := by
 intro k h
 match k, h with
 | 0, _ => rfl
 | 1, _ => rfl
 | 2, _ => rfl
 | 3, _ => rfl
 | 4, _ => rfl
 | 5, _ => rfl
 | 6, _ => rfl
 | 7, _ => rfl
 | 8, _ => rfl
 | 9, _ => rfl
 | 10, _ => rfl
 | 11, _ => rfl
 | 12, _ => rfl
 | 13, _ => rfl
 | 14, _ => rfl
 | 15, _ => rfl
 | n + 16, h => exact absurd (show n + 16 < 16 from h) (by omega)
theorem hex_ixz {k m : Nat} (hm : k = m) (h : k < (⟨#[48, 49, 50, 51, 52, 53, 54, 55, 56, 57, 97, 98, 99, 100, 101, 102]⟩ : ByteArray).size) : ((((⟨#[48, 49, 50, 51, 52, 53, 54, 55, 56, 57, 97, 98, 99, 100, 101, 102]⟩ : ByteArray)[k]'h).toNat : Nat) : Int) = ((hexd m).toNat : Int) := by
 subst hm
 exact congrArg (fun c : UInt8 => (c.toNat : Int)) (hex_ix k h)
def hex2B (m : Nat) : ByteArray := ⟨#[hexd (m / 16), hexd (m % 16)]⟩
@[go_sem] theorem conv_two (w : World) (x y : UInt8) : (convert 23 9 (.slice (some ⟨w.heap.size, 0, none⟩) 2 2)).run Tryz.prog (w.alloc (.cells #[.int .u8 (x.toNat : Int), .int .u8 (y.toNat : Int)] 5)).drew =
  .ok (.string ⟨#[x, y]⟩) (w.alloc (.cells #[.int .u8 (x.toNat : Int), .int .u8 (y.toNat : Int)] 5)).drew := by
 refine Lib.run_convert_whole (P := Tryz.prog) _ 23 5 9 Tryz.underlying23 Tryz.underlying5 Tryz.underlying9 w.heap.size 0 ⟨#[x, y]⟩ ?_ 2
 intro i hi
 have hi' : i < 2 := hi
 rw [Nat.zero_add]
 show (w.alloc _).cell? _ = _
 rw [blk_cell (heap_alloc_new w _)]
 match i, hi' with
 | 0, _ => rfl
 | 1, _ => rfl
set_option maxRecDepth 100000 in
theorem hex2x_any (m : Nat) (hm : m < 256) (w : World) : Calls Tryz.prog 117 #[.int .u8 (m : Int)] w fun e w' => e = .returned (.string (hex2B m)) ∧ Below w.heap.size w w' := by
 have a1 : m / 16 < 16 := by omega
 have a2 : (m : Int) % 16 < 16 := by omega
 have a3 : 0 ≤ (m : Int) % 16 := by omega
 have a4 : ((m : Int) % 16).toNat < 16 := by omega
 have a5 : ¬ (m : Int) % 16 < 0 := by omega
 have b2 : (m : Int) / 16 < 16 := by omega
 have b3 : 0 ≤ (m : Int) / 16 := by omega
 have b4 : ((m : Int) / 16).toNat < 16 := by omega
 go_enter Tryz.func117, Tryz.ntmps117
 go_wp2
 go_region
 go_wp2
 go_ret
 refine ⟨?_, (below_allocB w _).trans ⟨rfl, rfl, rfl, Nat.le_refl _, fun _ _ => rfl⟩⟩
 unfold hex2B
 simp only [hex_ix]
 rfl
set_option maxRecDepth 100000 in
theorem extHex_any (m : Nat) (hm : m < 256) (w : World) : Calls Tryz.prog 32 #[.int .u8 (m : Int)] w fun e w' => e = .returned (.string (hex2B m)) ∧ Below w.heap.size w w' := by
 have a1 : m / 16 < 16 := by omega
 have a2 : (m : Int) % 16 < 16 := by omega
 have a3 : 0 ≤ (m : Int) % 16 := by omega
 have a4 : ((m : Int) % 16).toNat < 16 := by omega
 have a5 : ¬ (m : Int) % 16 < 0 := by omega
 have b2 : (m : Int) / 16 < 16 := by omega
 have b3 : 0 ≤ (m : Int) / 16 := by omega
 have b4 : ((m : Int) / 16).toNat < 16 := by omega
 go_enter Tryz.func32, Tryz.ntmps32
 go_wp2
 go_region
 go_wp2
 go_ret
 refine ⟨?_, (below_allocB w _).trans ⟨rfl, rfl, rfl, Nat.le_refl _, fun _ _ => rfl⟩⟩
 unfold hex2B
 simp only [hex_ix]
 rfl
@[go_sem] theorem conv23 (W : World) (C : Array Value) (n c g : Nat) (hg : g = W.heap.size) :
  (convert 23 23 (.slice (some ⟨g, 0, none⟩) n c)).run Tryz.prog (W.alloc (.cells C 5)) = .ok (.slice (some ⟨g, 0, none⟩) n c) (W.alloc (.cells C 5 (C.size, C.size + 1))) :=
 Joins.run_convert_bytes_const_at W 23 5 C n c g hg Tryz.underlying23 Tryz.underlying5
@[go_sem] theorem conv923 (W : World) (s : ByteArray) :
  (convert 9 23 (.string s)).run Tryz.prog W = .ok (.slice (some ⟨W.heap.size, 0, none⟩) s.size (grownCap W s.size 0 5)) (Lib.bytesWorld W 5 s) :=
 Lib.run_convert_string_bytes W 9 23 5 s Tryz.underlying9 Tryz.underlying23 Tryz.underlying5
def Room (n : Nat) : Prop := n ≤ 1099511627776
end Go.Proofs.YtpfkgpcnhdkkbaaGreatDoor
