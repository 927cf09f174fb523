/- spec.ExtText, canonical: floats and integers; conditions: the callees' answers. -/
import Derived.Test.YtpfkgpcnhdkkbaaGreatDoorAMx
namespace Go.Proofs.YtpfkgpcnhdkkbaaGreatDoor
set_option maxHeartbeats 8000000
open Go.RowKit
set_option linter.unusedVariables false
set_option linter.unusedSimpArgs false
set_option maxRecDepth 100000
theorem ext_int32C (text more : ByteArray) (n : Int) (bits high : Nat) (bv kv : Value) (esc : Bool) (w : World) (tx : ByteArray) (hts : tx.size ≤ 1000) (cx : ∀ W, Below (xW 16 text more n bits high bv kv esc w).heap.size (xW 16 text more n bits high bv kv esc w) W → Calls Tryz.prog 34 #[.int .i64 n, .int .i64 10] W fun e w' => e = .returned (.string tx) ∧ Below W.heap.size W w') :
  Calls Tryz.prog 10 #[valV 16 text more n bits high bv kv, .bool true, .bool esc] w fun e w' => e = .returned (.tuple #[.string (wrapB ⟨#[36, 110, 117, 109, 98, 101, 114, 73, 110, 116]⟩ (⟨#[34]⟩ ++ tx ++ ⟨#[34]⟩)), .bool true]) ∧ Below w.heap.size w w' := by
 unfold valV
 have HC := LH cx
 clear cx
 have HB := LH (xW_below 16 text more n bits high bv kv esc w)
 unfold xW at HB HC
 go_enter Tryz.func10, Tryz.ntmps10
 go_wp2_with (first | (go_at_call 34; refine (HC.out _ (Below.refl _ _)).mono ?_; rintro e w1 ⟨rfl, hb1⟩) | (go_at_call 25; refine (wrap_any _ _ _ (by decide) (by simp only [ByteArray.size_append]; have h1 : (⟨#[34]⟩ : ByteArray).size = 1 := rfl; omega)).mono ?_; rintro e w0 ⟨rfl, hw0⟩; obtain rfl := hw0))
 go_ret2
 exact ⟨rfl, HB.out.trans (hb1.mono HB.out.size)⟩
theorem ext_int64C (text more : ByteArray) (n : Int) (bits high : Nat) (bv kv : Value) (esc : Bool) (w : World) (tx : ByteArray) (hts : tx.size ≤ 1000) (cx : ∀ W, Below (xW 18 text more n bits high bv kv esc w).heap.size (xW 18 text more n bits high bv kv esc w) W → Calls Tryz.prog 34 #[.int .i64 n, .int .i64 10] W fun e w' => e = .returned (.string tx) ∧ Below W.heap.size W w') :
  Calls Tryz.prog 10 #[valV 18 text more n bits high bv kv, .bool true, .bool esc] w fun e w' => e = .returned (.tuple #[.string (wrapB ⟨#[36, 110, 117, 109, 98, 101, 114, 76, 111, 110, 103]⟩ (⟨#[34]⟩ ++ tx ++ ⟨#[34]⟩)), .bool true]) ∧ Below w.heap.size w w' := by
 unfold valV
 have HC := LH cx
 clear cx
 have HB := LH (xW_below 18 text more n bits high bv kv esc w)
 unfold xW at HB HC
 go_enter Tryz.func10, Tryz.ntmps10
 go_wp2_with (first | (go_at_call 34; refine (HC.out _ (Below.refl _ _)).mono ?_; rintro e w1 ⟨rfl, hb1⟩) | (go_at_call 25; refine (wrap_any _ _ _ (by decide) (by simp only [ByteArray.size_append]; have h1 : (⟨#[34]⟩ : ByteArray).size = 1 := rfl; omega)).mono ?_; rintro e w0 ⟨rfl, hw0⟩; obtain rfl := hw0))
 go_ret2
 exact ⟨rfl, HB.out.trans (hb1.mono HB.out.size)⟩
theorem ext_dblC (text more : ByteArray) (n : Int) (bits high : Nat) (bv kv : Value) (esc : Bool) (w : World) (tx : ByteArray) (hts : tx.size ≤ 1000) (cx : ∀ W, Below (xW 1 text more n bits high bv kv esc w).heap.size (xW 1 text more n bits high bv kv esc w) W → Calls Tryz.prog 27 #[.float .f64 bits] W fun e w' => e = .returned (.string tx) ∧ Below W.heap.size W w') :
  Calls Tryz.prog 10 #[valV 1 text more n bits high bv kv, .bool true, .bool esc] w fun e w' => e = .returned (.tuple #[.string (wrapB ⟨#[36, 110, 117, 109, 98, 101, 114, 68, 111, 117, 98, 108, 101]⟩ (⟨#[34]⟩ ++ tx ++ ⟨#[34]⟩)), .bool true]) ∧ Below w.heap.size w w' := by
 unfold valV
 have HC := LH cx
 clear cx
 have HB := LH (xW_below 1 text more n bits high bv kv esc w)
 unfold xW at HB HC
 go_enter Tryz.func10, Tryz.ntmps10
 go_wp2_with (first | (go_at_call 27; refine (HC.out _ (Below.refl _ _)).mono ?_; rintro e w1 ⟨rfl, hb1⟩) | (go_at_call 25; refine (wrap_any _ _ _ (by decide) (by simp only [ByteArray.size_append]; have h1 : (⟨#[34]⟩ : ByteArray).size = 1 := rfl; omega)).mono ?_; rintro e w0 ⟨rfl, hw0⟩; obtain rfl := hw0))
 go_ret2
 exact ⟨rfl, HB.out.trans (hb1.mono HB.out.size)⟩
end Go.Proofs.YtpfkgpcnhdkkbaaGreatDoor
