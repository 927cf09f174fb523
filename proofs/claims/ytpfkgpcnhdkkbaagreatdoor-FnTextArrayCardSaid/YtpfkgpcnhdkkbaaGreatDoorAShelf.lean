/-
  DERIVED: THE SHELF's CONTRACTS AT THIS DUMP, IN PLAIN WORDS (tools/lay-plain.mjs out of 'TryzShelf.lean', which tools/lay-shelf.mjs wrote): THE SAME DECLARATIONS UNDER THE SAME NAMES: 'import', 'namespace', 'open', 'def', 'theorem' AND NOTHING ELSE: no command of the shelf's: FOR A HAND-IN. Each laying: the table of numbers ('.._ren') and one theorem, a field a fact of the dump's own or the kernel's comparison; each contract: ONE APPLICATION.
-/
import Derived.Shelf.Strings.Builder1
import Derived.Shelf.Small.Utf8
import Derived.Shelf.Small.Bits
import Derived.Shelf.Small.Wraps
import Derived.Shelf.Strings.BuilderF
import Derived.Shelf.Strings.BuilderK
import Derived.Ground.PaProg
import Derived.Shelf.Hex.Tagged
import Derived.Shelf.Strconv.Itoa0
import Derived.Shelf.Strconv.Itoa1
import Derived.Shelf.LaysM
import Derived.Shelf.Strconv.Itoa2
import Derived.Shelf.Strconv.Itoa3
import Derived.Shelf.Strconv.Itoa4
import Derived.Shelf.Bytes.Len
import Derived.Shelf.Bytes.TryGrow
import Derived.Shelf.Bytes.GrowSliceCatch
import Derived.Shelf.Bytes.GrowSlice
import Derived.Shelf.Bytes.String
import Derived.Shelf.Bytes.Bytes
import Derived.Ground.MnProg
import Derived.Shelf.Bin.LEUint32
import Derived.Shelf.Bin.LEUint64
import Derived.Shelf.Bytes.GrowRow0Kept
import Derived.Shelf.Bytes.GrowRowKept
import Derived.Shelf.Bytes.GrowNilKept
import Derived.Shelf.Bytes.GrowKept
import Derived.Shelf.Bytes.WriteByteKept
import Derived.Shelf.Bytes.WriteStringKept
import Derived.Shelf.Bytes.ResetKept
import Derived.Shelf.Bytes.WriteKept
import Derived.Shelf.Bytes.BufferK
import Derived.Shelf.Bin.ReadersZ
import Derived.Shelf.Bytes.GrowRow0Own
import Derived.Shelf.Bytes.GrowRowOwn
import Derived.Shelf.Bytes.GrowNilOwn
import Derived.Shelf.Bytes.GrowOwn
import Derived.Shelf.Bytes.WriteAny
import Derived.Shelf.Strconv.AppendUint10
import Derived.Ground.GgtProg
import Derived.Shelf.GgSortMore.Iface
import Derived.Shelf.GgSortMore.IfaceD
import Derived.Shelf.GgSortMore.IfacePart
import Derived.Shelf.GgSortMore.IfacePdq
import Derived.Shelf.GgSortMore.SortSort
import Derived.Shelf.Bits.Mul64
import Derived.Shelf.Unicode.DecodeSlow
import Derived.Shelf.Unicode.DecodeAny
import Derived.Shelf.Bytes.SlIndexAt
import Derived.Ground.GgsProg
import Derived.Shelf.SlSortFunc.Xorshift
import Derived.Shelf.SlSortIface.SiftDown
import Derived.Shelf.SlSortIface.HeapSort
import Derived.Shelf.SlSortIface.PartialInsertion
import Derived.Shelf.Hex.Encode
import Derived.Shelf.Bytes.IndexByte
import Derived.Test.YtpfkgpcnhdkkbaaGreatDoorAShA
namespace Go.Proofs
open Go.Shelf
def Tryz.lays170_ren : Go.Shelf.Ren := ⟨fun | 170 => 75 | n => n, fun | 70 => 116 | 3 => 3 | 0 => 0 | 72 => 118 | 37 => 23 | 5 => 5 | n => n, fun | n => n⟩
theorem Tryz.lays170 : Go.Proofs.Lays.n170 Tryz.prog Tryz.lays170_ren := {
 mixed := by kernel_rfl
 f170 := Tryz.func75.trans (congrArg some (by kernel_rfl))
 t0 := Tryz.underlying0
 a0 := Tryz.isAgg0
 z0 := Tryz.sizeOf0
 v0 := Tryz.zeroValue0
 t3 := Tryz.underlying3
 a3 := Tryz.isAgg3
 z3 := Tryz.sizeOf3
 v3 := Tryz.zeroValue3
 t37 := Tryz.underlying23
 a37 := Tryz.isAgg23
 z37 := Tryz.sizeOf23
 v37 := Tryz.zeroValue23
 t70 := Tryz.underlying116
 a70 := Tryz.isAgg116
 z70 := Tryz.sizeOf116
 v70 := Tryz.zeroValue116
 t72 := Tryz.underlying118
 a72 := Tryz.isAgg118
 z72 := Tryz.sizeOf118
 v72 := Tryz.zeroValue118 }
def Tryz.lays169_ren : Go.Shelf.Ren := ⟨fun | 169 => 80 | n => n, fun | 70 => 116 | 9 => 9 | 0 => 0 | 72 => 118 | 37 => 23 | 127 => 186 | 3 => 3 | 5 => 5 | n => n, fun | n => n⟩
theorem Tryz.lays169 : Go.Proofs.Lays.n169 Tryz.prog Tryz.lays169_ren := {
 mixed := by kernel_rfl
 f169 := Tryz.func80.trans (congrArg some (by kernel_rfl))
 t0 := Tryz.underlying0
 a0 := Tryz.isAgg0
 z0 := Tryz.sizeOf0
 v0 := Tryz.zeroValue0
 t3 := Tryz.underlying3
 a3 := Tryz.isAgg3
 z3 := Tryz.sizeOf3
 v3 := Tryz.zeroValue3
 t9 := Tryz.underlying9
 a9 := Tryz.isAgg9
 z9 := Tryz.sizeOf9
 v9 := Tryz.zeroValue9
 t37 := Tryz.underlying23
 a37 := Tryz.isAgg23
 z37 := Tryz.sizeOf23
 v37 := Tryz.zeroValue23
 t70 := Tryz.underlying116
 a70 := Tryz.isAgg116
 z70 := Tryz.sizeOf116
 v70 := Tryz.zeroValue116
 t72 := Tryz.underlying118
 a72 := Tryz.isAgg118
 z72 := Tryz.sizeOf118
 v72 := Tryz.zeroValue118
 t127 := Tryz.underlying186
 a127 := Tryz.isAgg186
 z127 := Tryz.sizeOf186
 v127 := Tryz.zeroValue186 }
theorem Tryz.Builder_Extra_169 : Builder.Extra Tryz.prog Tryz.lays169_ren := {
 sizeBuilder := by kernel_rfl
 liesBuilder := by kernel_rfl
 t5 := Tryz.underlying5
 a5 := Tryz.isAgg5
 z5 := Tryz.sizeOf5
 v5 := Tryz.zeroValue5
 infoByte := by kernel_rfl
 cellsByte := by kernel_rfl
 sizeByte := by kernel_rfl
 neB5 := by decide }
def Tryz.lays120_ren : Go.Shelf.Ren := ⟨fun | 120 => 198 | n => n, fun | 5 => 5 | 4 => 4 | n => n, fun | n => n⟩
def Tryz.lays128_ren : Go.Shelf.Ren := ⟨fun | 128 => 263 | n => n, fun | 51 => 181 | 3 => 3 | 4 => 4 | 46 => 56 | 5 => 5 | 9 => 9 | n => n, fun | n => n⟩
def Tryz.lays125_ren : Go.Shelf.Ren := ⟨fun | 125 => 233 | 128 => 263 | 129 => 139 | n => n, fun | 46 => 56 | 3 => 3 | 51 => 181 | 53 => 22 | 4 => 4 | 5 => 5 | 9 => 9 | n => n, fun | n => n⟩
def Tryz.lays214_ren : Go.Shelf.Ren := ⟨fun | 214 => 184 | n => n, fun | 4 => 4 | 9 => 9 | n => n, fun | n => n⟩
def Tryz.lays121_ren : Go.Shelf.Ren := ⟨fun | 121 => 121 | 214 => 184 | n => n, fun | 4 => 4 | 9 => 9 | n => n, fun | n => n⟩
theorem Tryz.lays121 : Go.Proofs.Lays.n121 Tryz.prog Tryz.lays121_ren := {
 mixed := by kernel_rfl
 f121 := Tryz.func121.trans (congrArg some (by kernel_rfl))
 f214 := Tryz.func184.trans (congrArg some (by kernel_rfl))
 t4 := Tryz.underlying4
 a4 := Tryz.isAgg4
 z4 := Tryz.sizeOf4
 v4 := Tryz.zeroValue4
 t9 := Tryz.underlying9
 a9 := Tryz.isAgg9
 z9 := Tryz.sizeOf9
 v9 := Tryz.zeroValue9 }
open Go.RowKit in
theorem Tryz.strconv_FormatBool (b : Bool) (w : World) :
  Calls Tryz.prog 121 #[.bool b] w fun e w' => e = .returned (.string ⟨(Lib.formatBool b).toArray⟩) ∧ w' = w := Any.strconv_FormatBool Tryz.lays121 b w
open Go.RowKit in
theorem Tryz.Builder_Len_f (B b : Nat) (bs : List Value) (w : World) (h : Lib.IsBuilderF 118 5 B b bs w) :
  Calls Tryz.prog 75 #[.pointer (some ⟨b, 0, none⟩)] w fun e w' => e = .returned (.int .i64 bs.length) ∧ w' = w := Any.Builder_Len_f Tryz.lays170 B b bs w h
open Go.RowKit in
theorem Tryz.Builder_String_any_f (B b : Nat) (l : List UInt8) (w : World) (h : Lib.IsBuilderF 118 5 B b (Lib.byteCells l) w) (hBw : B ≤ w.heap.size) :
  Calls Tryz.prog 80 #[.pointer (some ⟨b, 0, none⟩)] w fun e w' => e = .returned (.string ⟨l.toArray⟩) ∧ (Lib.IsBuilderF 118 5 B b (Lib.byteCells l) w' ∧ Below B w w') := Any.Builder_String_any_f Tryz.lays169 Tryz.Builder_Extra_169 B b l w h hBw
def Tryz.laysPa40_ren : Go.Shelf.Ren := ⟨fun | 40 => 182 | n => n, fun | 30 => 23 | 3 => 3 | 0 => 0 | 5 => 5 | 46 => 56 | 9 => 9 | n => n, fun | n => n⟩
theorem Tryz.laysPa40 : Go.Proofs.Lays.p40 Tryz.prog Tryz.laysPa40_ren := {
 mixed := by kernel_rfl
 f40 := Tryz.func182.trans (congrArg some (by kernel_rfl))
 t0 := Tryz.underlying0
 a0 := Tryz.isAgg0
 z0 := Tryz.sizeOf0
 v0 := Tryz.zeroValue0
 t3 := Tryz.underlying3
 a3 := Tryz.isAgg3
 z3 := Tryz.sizeOf3
 v3 := Tryz.zeroValue3
 t5 := Tryz.underlying5
 a5 := Tryz.isAgg5
 z5 := Tryz.sizeOf5
 v5 := Tryz.zeroValue5
 t9 := Tryz.underlying9
 a9 := Tryz.isAgg9
 z9 := Tryz.sizeOf9
 v9 := Tryz.zeroValue9
 t30 := Tryz.underlying23
 a30 := Tryz.isAgg23
 z30 := Tryz.sizeOf23
 v30 := Tryz.zeroValue23
 t46 := Tryz.underlying56
 a46 := Tryz.isAgg56
 z46 := Tryz.sizeOf56
 v46 := Tryz.zeroValue56 }
open Go.RowKit Go.Lib in
theorem Tryz.hex_Encode_tag (T : TypeId) (bd od nd cd N : Nat) (f : Nat → Value) (bs os n cs : Nat) (xs : List Int) (w : World) (hx : xs.length = n) (hr : ∀ i, i < n → 0 ≤ xs.getD i 0 ∧ xs.getD i 0 < 256) (hsrc : ∀ i, i < n → w.cell? ⟨bs, os + i, none⟩ = some (.int .u8 (xs.getD i 0))) (hrow : w.rowIs bd T N f) (hfit : od + nd ≤ N) (hlen : 2 * n ≤ nd) (hne : bd ≠ bs) (hbig : n ≤ 4611686018427387903) :
  Calls Tryz.prog 182 #[.slice (some ⟨bd, od, none⟩) nd cd, .slice (some ⟨bs, os, none⟩) n cs] w fun e w' => e = .returned (.int .i64 ((n : Int) * 2)) ∧ w'.rowIs bd T N (Hx.row f od (Lib.bytesOf xs) n) ∧ w.grownBy w' (some bd) := Any.hex_Encode_tag Tryz.laysPa40 T bd od nd cd N f bs os n cs xs w hx hr hsrc hrow hfit hlen hne hbig
def Tryz.laysM181_ren : Go.Shelf.Ren := ⟨fun | 181 => 256 | n => n, fun | 130 => 67 | 3 => 3 | 0 => 0 | 93 => 64 | 37 => 23 | 91 => 62 | 5 => 5 | n => n, fun | n => n⟩
def Tryz.laysM251_ren : Go.Shelf.Ren := ⟨fun | 251 => 213 | n => n, fun | 130 => 67 | 3 => 3 | 4 => 4 | 0 => 0 | 93 => 64 | 37 => 23 | 91 => 62 | 5 => 5 | n => n, fun | n => n⟩
def Tryz.laysM324_ren : Go.Shelf.Ren := ⟨fun | 324 => 277 | n => n, fun | 20 => 20 | 4 => 4 | 75 => 71 | 0 => 0 | 80 => 75 | 9 => 9 | n => n, fun | 14 => 10 | n => n⟩
def Tryz.laysM290_ren : Go.Shelf.Ren := ⟨fun | 290 => 258 | 324 => 277 | n => n, fun | 37 => 23 | 3 => 3 | 0 => 0 | 4 => 4 | 20 => 20 | 75 => 71 | 5 => 5 | 80 => 75 | 9 => 9 | n => n, fun | 14 => 10 | n => n⟩
def Tryz.laysM182_ren : Go.Shelf.Ren := ⟨fun | 182 => 42 | n => n, fun | 130 => 67 | 9 => 9 | 4 => 4 | 0 => 0 | 93 => 64 | 37 => 23 | 3 => 3 | 91 => 62 | 5 => 5 | n => n, fun | n => n⟩
theorem Tryz.laysM182 : Go.Proofs.LaysM.n182 Tryz.prog Tryz.laysM182_ren := {
 mixed := by kernel_rfl
 f182 := Tryz.func42.trans (congrArg some (by kernel_rfl))
 t0 := Tryz.underlying0
 a0 := Tryz.isAgg0
 z0 := Tryz.sizeOf0
 v0 := Tryz.zeroValue0
 t3 := Tryz.underlying3
 a3 := Tryz.isAgg3
 z3 := Tryz.sizeOf3
 v3 := Tryz.zeroValue3
 t4 := Tryz.underlying4
 a4 := Tryz.isAgg4
 z4 := Tryz.sizeOf4
 v4 := Tryz.zeroValue4
 t9 := Tryz.underlying9
 a9 := Tryz.isAgg9
 z9 := Tryz.sizeOf9
 v9 := Tryz.zeroValue9
 t37 := Tryz.underlying23
 a37 := Tryz.isAgg23
 z37 := Tryz.sizeOf23
 v37 := Tryz.zeroValue23
 t93 := Tryz.underlying64
 a93 := Tryz.isAgg64
 z93 := Tryz.sizeOf64
 v93 := Tryz.zeroValue64
 t130 := Tryz.underlying67
 a130 := Tryz.isAgg67
 z130 := Tryz.sizeOf67
 v130 := Tryz.zeroValue67
 t5 := Tryz.underlying5
 a5 := Tryz.isAgg5
 z5 := Tryz.sizeOf5
 v5 := Tryz.zeroValue5
 t91 := Tryz.underlying62
 a91 := Tryz.isAgg62
 z91 := Tryz.sizeOf62
 v91 := Tryz.zeroValue62
 i0 := by kernel_rfl
 i3 := by kernel_rfl
 i4 := by kernel_rfl
 i5 := by kernel_rfl
 i9 := by kernel_rfl
 i37 := by kernel_rfl
 i91 := by kernel_rfl
 i93 := by kernel_rfl
 i130 := by kernel_rfl }
open Go.RowKit in
theorem Tryz.Buffer_String (B b : Nat) (l : List UInt8) (w : World) (h : Lib.IsBuffer 64 5 B b (Lib.byteCells l) w) :
  Calls Tryz.prog 42 #[.pointer (some ⟨b, 0, none⟩)] w fun e w' => e = .returned (.string ⟨l.toArray⟩) ∧ ∃ n, w' = w.drewN n := Any.Buffer_String Tryz.laysM182 B b l w h
def Tryz.laysM183_ren : Go.Shelf.Ren := ⟨fun | 183 => 146 | n => n, fun | 130 => 67 | 37 => 23 | 0 => 0 | 93 => 64 | 3 => 3 | 5 => 5 | 91 => 62 | n => n, fun | n => n⟩
def Tryz.laysBin30_ren : Go.Shelf.Ren := ⟨fun | 30 => 272 | n => n, fun | 25 => 323 | 22 => 23 | 29 => 181 | 0 => 0 | 5 => 5 | 45 => 56 | n => n, fun | n => n⟩
theorem Tryz.laysBin30 : Go.Proofs.LaysBin.n30 Tryz.prog Tryz.laysBin30_ren := {
 mixed := by kernel_rfl
 f30 := Tryz.func272.trans (congrArg some (by kernel_rfl))
 t0 := Tryz.underlying0
 a0 := Tryz.isAgg0
 z0 := Tryz.sizeOf0
 v0 := Tryz.zeroValue0
 i0 := by kernel_rfl
 t5 := Tryz.underlying5
 a5 := Tryz.isAgg5
 z5 := Tryz.sizeOf5
 v5 := Tryz.zeroValue5
 i5 := by kernel_rfl
 t22 := Tryz.underlying23
 a22 := Tryz.isAgg23
 z22 := Tryz.sizeOf23
 v22 := Tryz.zeroValue23
 i22 := by kernel_rfl
 t25 := Tryz.underlying323
 a25 := Tryz.isAgg323
 z25 := Tryz.sizeOf323
 v25 := Tryz.zeroValue323
 i25 := by kernel_rfl
 t29 := Tryz.underlying181
 a29 := Tryz.isAgg181
 z29 := Tryz.sizeOf181
 v29 := Tryz.zeroValue181
 i29 := by kernel_rfl
 t45 := Tryz.underlying56
 a45 := Tryz.isAgg56
 z45 := Tryz.sizeOf56
 v45 := Tryz.zeroValue56
 i45 := by kernel_rfl }
open Go.RowKit in
theorem Tryz.binary_LE_Uint32 (g o n c : Nat) (b0 b1 b2 b3 : UInt8) (w : World) (hn : 4 ≤ n) (c0 : w.cell? ⟨g, o, none⟩ = some (.int .u8 b0.toNat)) (c1 : w.cell? ⟨g, o + 1, none⟩ = some (.int .u8 b1.toNat)) (c2 : w.cell? ⟨g, o + 2, none⟩ = some (.int .u8 b2.toNat)) (c3 : w.cell? ⟨g, o + 3, none⟩ = some (.int .u8 b3.toNat)) :
  Calls Tryz.prog 272 #[.agg #[], .slice (some ⟨g, o, none⟩) n c] w fun e w' => e = .returned (.int .u32 (Lib.leNat [b0, b1, b2, b3])) ∧ Below w.heap.size w w' := Any.binary_LE_Uint32 Tryz.laysBin30 g o n c b0 b1 b2 b3 w hn c0 c1 c2 c3
def Tryz.laysBin33_ren : Go.Shelf.Ren := ⟨fun | 33 => 261 | n => n, fun | 25 => 323 | 22 => 23 | 33 => 22 | 0 => 0 | 5 => 5 | 45 => 56 | n => n, fun | n => n⟩
theorem Tryz.laysBin33 : Go.Proofs.LaysBin.n33 Tryz.prog Tryz.laysBin33_ren := {
 mixed := by kernel_rfl
 f33 := Tryz.func261.trans (congrArg some (by kernel_rfl))
 t0 := Tryz.underlying0
 a0 := Tryz.isAgg0
 z0 := Tryz.sizeOf0
 v0 := Tryz.zeroValue0
 i0 := by kernel_rfl
 t5 := Tryz.underlying5
 a5 := Tryz.isAgg5
 z5 := Tryz.sizeOf5
 v5 := Tryz.zeroValue5
 i5 := by kernel_rfl
 t22 := Tryz.underlying23
 a22 := Tryz.isAgg23
 z22 := Tryz.sizeOf23
 v22 := Tryz.zeroValue23
 i22 := by kernel_rfl
 t25 := Tryz.underlying323
 a25 := Tryz.isAgg323
 z25 := Tryz.sizeOf323
 v25 := Tryz.zeroValue323
 i25 := by kernel_rfl
 t33 := Tryz.underlying22
 a33 := Tryz.isAgg22
 z33 := Tryz.sizeOf22
 v33 := Tryz.zeroValue22
 i33 := by kernel_rfl
 t45 := Tryz.underlying56
 a45 := Tryz.isAgg56
 z45 := Tryz.sizeOf56
 v45 := Tryz.zeroValue56
 i45 := by kernel_rfl }
open Go.RowKit in
theorem Tryz.binary_LE_Uint64 (g o n c : Nat) (b0 b1 b2 b3 b4 b5 b6 b7 : UInt8) (w : World) (hn : 8 ≤ n) (c0 : w.cell? ⟨g, o, none⟩ = some (.int .u8 b0.toNat)) (c1 : w.cell? ⟨g, o + 1, none⟩ = some (.int .u8 b1.toNat)) (c2 : w.cell? ⟨g, o + 2, none⟩ = some (.int .u8 b2.toNat)) (c3 : w.cell? ⟨g, o + 3, none⟩ = some (.int .u8 b3.toNat)) (c4 : w.cell? ⟨g, o + 4, none⟩ = some (.int .u8 b4.toNat)) (c5 : w.cell? ⟨g, o + 5, none⟩ = some (.int .u8 b5.toNat)) (c6 : w.cell? ⟨g, o + 6, none⟩ = some (.int .u8 b6.toNat)) (c7 : w.cell? ⟨g, o + 7, none⟩ = some (.int .u8 b7.toNat)) :
  Calls Tryz.prog 261 #[.agg #[], .slice (some ⟨g, o, none⟩) n c] w fun e w' => e = .returned (.int .u64 (Lib.leNat [b0, b1, b2, b3, b4, b5, b6, b7])) ∧ Below w.heap.size w w' := Any.binary_LE_Uint64 Tryz.laysBin33 g o n c b0 b1 b2 b3 b4 b5 b6 b7 w hn c0 c1 c2 c3 c4 c5 c6 c7
def Tryz.laysM252_ren : Go.Shelf.Ren := ⟨fun | 252 => 214 | 181 => 256 | 184 => 257 | 251 => 213 | 290 => 258 | 324 => 277 | n => n, fun | 130 => 67 | 3 => 3 | 4 => 4 | 0 => 0 | 93 => 64 | 131 => 282 | 37 => 23 | 75 => 71 | 91 => 62 | 20 => 20 | 5 => 5 | 80 => 75 | 9 => 9 | n => n, fun | 14 => 10 | n => n⟩
def Tryz.laysM179_ren : Go.Shelf.Ren := ⟨fun | 179 => 143 | 251 => 213 | 252 => 214 | 181 => 256 | 184 => 257 | 290 => 258 | 324 => 277 | n => n, fun | 130 => 67 | 5 => 5 | 75 => 71 | 0 => 0 | 93 => 64 | 91 => 62 | 3 => 3 | 131 => 282 | 4 => 4 | 37 => 23 | 20 => 20 | 80 => 75 | 9 => 9 | n => n, fun | 14 => 10 | n => n⟩
theorem Tryz.laysM179 : Go.Proofs.LaysM.n179 Tryz.prog Tryz.laysM179_ren := {
 mixed := by kernel_rfl
 f179 := Tryz.func143.trans (congrArg some (by kernel_rfl))
 f181 := Tryz.func256.trans (congrArg some (by kernel_rfl))
 f184 := Tryz.func257.trans (congrArg some (by kernel_rfl))
 f251 := Tryz.func213.trans (congrArg some (by kernel_rfl))
 f252 := Tryz.func214.trans (congrArg some (by kernel_rfl))
 f290 := Tryz.func258.trans (congrArg some (by kernel_rfl))
 f324 := Tryz.func277.trans (congrArg some (by kernel_rfl))
 t0 := Tryz.underlying0
 a0 := Tryz.isAgg0
 z0 := Tryz.sizeOf0
 v0 := Tryz.zeroValue0
 t3 := Tryz.underlying3
 a3 := Tryz.isAgg3
 z3 := Tryz.sizeOf3
 v3 := Tryz.zeroValue3
 t4 := Tryz.underlying4
 a4 := Tryz.isAgg4
 z4 := Tryz.sizeOf4
 v4 := Tryz.zeroValue4
 t5 := Tryz.underlying5
 a5 := Tryz.isAgg5
 z5 := Tryz.sizeOf5
 v5 := Tryz.zeroValue5
 t20 := Tryz.underlying20
 a20 := Tryz.isAgg20
 z20 := Tryz.sizeOf20
 v20 := Tryz.zeroValue20
 t37 := Tryz.underlying23
 a37 := Tryz.isAgg23
 z37 := Tryz.sizeOf23
 v37 := Tryz.zeroValue23
 t75 := Tryz.underlying71
 a75 := Tryz.isAgg71
 z75 := Tryz.sizeOf71
 v75 := Tryz.zeroValue71
 t91 := Tryz.underlying62
 a91 := Tryz.isAgg62
 z91 := Tryz.sizeOf62
 v91 := Tryz.zeroValue62
 t93 := Tryz.underlying64
 a93 := Tryz.isAgg64
 z93 := Tryz.sizeOf64
 v93 := Tryz.zeroValue64
 t130 := Tryz.underlying67
 a130 := Tryz.isAgg67
 z130 := Tryz.sizeOf67
 v130 := Tryz.zeroValue67
 t131 := Tryz.underlying282
 a131 := Tryz.isAgg282
 z131 := Tryz.sizeOf282
 v131 := Tryz.zeroValue282
 g14 := by kernel_rfl
 t9 := Tryz.underlying9
 a9 := Tryz.isAgg9
 z9 := Tryz.sizeOf9
 v9 := Tryz.zeroValue9
 t80 := Tryz.underlying75
 a80 := Tryz.isAgg75
 z80 := Tryz.sizeOf75
 v80 := Tryz.zeroValue75
 i0 := by kernel_rfl
 i3 := by kernel_rfl
 i4 := by kernel_rfl
 i5 := by kernel_rfl
 i9 := by kernel_rfl
 i20 := by kernel_rfl
 i37 := by kernel_rfl
 i75 := by kernel_rfl
 i80 := by kernel_rfl
 i91 := by kernel_rfl
 i93 := by kernel_rfl
 i130 := by kernel_rfl
 i131 := by kernel_rfl
 m14 := by kernel_rfl }
def Tryz.laysM178_ren : Go.Shelf.Ren := ⟨fun | 178 => 144 | 251 => 213 | 252 => 214 | 181 => 256 | 184 => 257 | 290 => 258 | 324 => 277 | n => n, fun | 130 => 67 | 9 => 9 | 3 => 3 | 75 => 71 | 0 => 0 | 93 => 64 | 91 => 62 | 131 => 282 | 4 => 4 | 37 => 23 | 20 => 20 | 80 => 75 | 5 => 5 | n => n, fun | 14 => 10 | n => n⟩
theorem Tryz.laysM178 : Go.Proofs.LaysM.n178 Tryz.prog Tryz.laysM178_ren := {
 mixed := by kernel_rfl
 f178 := Tryz.func144.trans (congrArg some (by kernel_rfl))
 f181 := Tryz.func256.trans (congrArg some (by kernel_rfl))
 f184 := Tryz.func257.trans (congrArg some (by kernel_rfl))
 f251 := Tryz.func213.trans (congrArg some (by kernel_rfl))
 f252 := Tryz.func214.trans (congrArg some (by kernel_rfl))
 f290 := Tryz.func258.trans (congrArg some (by kernel_rfl))
 f324 := Tryz.func277.trans (congrArg some (by kernel_rfl))
 t0 := Tryz.underlying0
 a0 := Tryz.isAgg0
 z0 := Tryz.sizeOf0
 v0 := Tryz.zeroValue0
 t3 := Tryz.underlying3
 a3 := Tryz.isAgg3
 z3 := Tryz.sizeOf3
 v3 := Tryz.zeroValue3
 t4 := Tryz.underlying4
 a4 := Tryz.isAgg4
 z4 := Tryz.sizeOf4
 v4 := Tryz.zeroValue4
 t9 := Tryz.underlying9
 a9 := Tryz.isAgg9
 z9 := Tryz.sizeOf9
 v9 := Tryz.zeroValue9
 t20 := Tryz.underlying20
 a20 := Tryz.isAgg20
 z20 := Tryz.sizeOf20
 v20 := Tryz.zeroValue20
 t37 := Tryz.underlying23
 a37 := Tryz.isAgg23
 z37 := Tryz.sizeOf23
 v37 := Tryz.zeroValue23
 t75 := Tryz.underlying71
 a75 := Tryz.isAgg71
 z75 := Tryz.sizeOf71
 v75 := Tryz.zeroValue71
 t91 := Tryz.underlying62
 a91 := Tryz.isAgg62
 z91 := Tryz.sizeOf62
 v91 := Tryz.zeroValue62
 t93 := Tryz.underlying64
 a93 := Tryz.isAgg64
 z93 := Tryz.sizeOf64
 v93 := Tryz.zeroValue64
 t130 := Tryz.underlying67
 a130 := Tryz.isAgg67
 z130 := Tryz.sizeOf67
 v130 := Tryz.zeroValue67
 t131 := Tryz.underlying282
 a131 := Tryz.isAgg282
 z131 := Tryz.sizeOf282
 v131 := Tryz.zeroValue282
 g14 := by kernel_rfl
 t5 := Tryz.underlying5
 a5 := Tryz.isAgg5
 z5 := Tryz.sizeOf5
 v5 := Tryz.zeroValue5
 t80 := Tryz.underlying75
 a80 := Tryz.isAgg75
 z80 := Tryz.sizeOf75
 v80 := Tryz.zeroValue75
 i0 := by kernel_rfl
 i3 := by kernel_rfl
 i4 := by kernel_rfl
 i5 := by kernel_rfl
 i9 := by kernel_rfl
 i20 := by kernel_rfl
 i37 := by kernel_rfl
 i75 := by kernel_rfl
 i80 := by kernel_rfl
 i91 := by kernel_rfl
 i93 := by kernel_rfl
 i130 := by kernel_rfl
 i131 := by kernel_rfl
 m14 := by kernel_rfl }
def Tryz.laysM184_ren : Go.Shelf.Ren := ⟨fun | 184 => 257 | n => n, fun | 130 => 67 | 0 => 0 | 93 => 64 | 37 => 23 | 3 => 3 | 91 => 62 | 5 => 5 | n => n, fun | n => n⟩
def Tryz.laysM180_ren : Go.Shelf.Ren := ⟨fun | 180 => 301 | 251 => 213 | 252 => 214 | 181 => 256 | 184 => 257 | 290 => 258 | 324 => 277 | n => n, fun | 130 => 67 | 37 => 23 | 3 => 3 | 75 => 71 | 0 => 0 | 93 => 64 | 91 => 62 | 131 => 282 | 4 => 4 | 20 => 20 | 5 => 5 | 80 => 75 | 9 => 9 | n => n, fun | 14 => 10 | n => n⟩
open Go.RowKit in
theorem Tryz.Buffer_WriteByte_k (B b : Nat) (bs : List Value) (c : Int) (w : World) (h : Lib.IsBuffer 64 5 B b bs w) (hBw : B ≤ w.heap.size) (h1 : ∀ v ∈ bs, v.oneCell' = true) (hlim : bs.length + 1 ≤ 140737488355328) :
  Calls Tryz.prog 143 #[.pointer (some ⟨b, 0, none⟩), .int .u8 c] w fun e w' => e = .returned .nilIface ∧ Lib.IsBuffer 64 5 B b (bs ++ [.int .u8 c]) w' ∧ Below B w w' ∧ Lib.OthersKept 5 (some b) w w' := Any.Buffer_WriteByte_k Tryz.laysM179 B b bs c w h hBw h1 hlim
open Go.RowKit in
theorem Tryz.Buffer_WriteString_k (B b : Nat) (bs : List Value) (s : ByteArray) (w : World) (h : Lib.IsBuffer 64 5 B b bs w) (hBw : B ≤ w.heap.size) (h1 : ∀ v ∈ bs, v.oneCell' = true) (hlim : bs.length + s.size ≤ 140737488355328) :
  Calls Tryz.prog 144 #[.pointer (some ⟨b, 0, none⟩), .string s] w fun e w' => e = .returned (.tuple #[.int .i64 s.size, .nilIface]) ∧ Lib.IsBuffer 64 5 B b (bs ++ Lib.byteCells s.data.toList) w' ∧ Below B w w' ∧ Lib.OthersKept 5 (some b) w w' := Any.Buffer_WriteString_k Tryz.laysM178 B b bs s w h hBw h1 hlim
def Tryz.laysM288_ren : Go.Shelf.Ren := ⟨fun | 288 => 237 | 283 => 89 | 284 => 90 | 285 => 91 | 286 => 92 | 129 => 139 | 317 => 138 | 318 => 140 | 319 => 141 | 320 => 142 | 337 => 211 | 338 => 212 | n => n, fun | 37 => 23 | 53 => 22 | 3 => 3 | 4 => 4 | 9 => 9 | 171 => 134 | 0 => 0 | 173 => 137 | 212 => 193 | 51 => 181 | 5 => 5 | 20 => 20 | 213 => 194 | 46 => 56 | 232 => 270 | 233 => 292 | n => n, fun | 17 => 2 | 18 => 8 | 19 => 9 | n => n⟩
def Tryz.laysGt33_ren : Go.Shelf.Ren := ⟨fun | 33 => 264 | n => n, fun | 45 => 298 | 3 => 3 | 4 => 4 | 0 => 0 | 43 => 121 | 26 => 330 | 38 => 344 | n => n, fun | n => n⟩
def Tryz.laysGt37_ren : Go.Shelf.Ren := ⟨fun | 37 => 268 | n => n, fun | 45 => 298 | 3 => 3 | 4 => 4 | 0 => 0 | 43 => 121 | 26 => 330 | 38 => 344 | n => n, fun | n => n⟩
def Tryz.laysGt50_ren : Go.Shelf.Ren := ⟨fun | 50 => 284 | n => n, fun | 45 => 298 | 3 => 3 | 71 => 44 | 4 => 4 | 0 => 0 | 43 => 121 | 26 => 330 | 38 => 344 | n => n, fun | n => n⟩
def Tryz.laysGt47_ren : Go.Shelf.Ren := ⟨fun | 47 => 283 | 50 => 284 | n => n, fun | 45 => 298 | 3 => 3 | 71 => 44 | 74 => 85 | 4 => 4 | 0 => 0 | 43 => 121 | 26 => 330 | 38 => 344 | n => n, fun | n => n⟩
def Tryz.laysGt46_ren : Go.Shelf.Ren := ⟨fun | 46 => 282 | 47 => 283 | 50 => 284 | n => n, fun | 45 => 298 | 3 => 3 | 71 => 44 | 74 => 85 | 4 => 4 | 0 => 0 | 43 => 121 | 26 => 330 | 38 => 344 | n => n, fun | n => n⟩
def Tryz.laysGt36_ren : Go.Shelf.Ren := ⟨fun | 36 => 267 | 46 => 282 | 47 => 283 | 50 => 284 | n => n, fun | 45 => 298 | 3 => 3 | 60 => 326 | 0 => 0 | 4 => 4 | 71 => 44 | 74 => 85 | 43 => 121 | 26 => 330 | 38 => 344 | n => n, fun | n => n⟩
def Tryz.laysGt39_ren : Go.Shelf.Ren := ⟨fun | 39 => 270 | n => n, fun | 45 => 298 | 3 => 3 | 0 => 0 | 4 => 4 | 43 => 121 | 26 => 330 | 38 => 344 | n => n, fun | n => n⟩
def Tryz.laysGt40_ren : Go.Shelf.Ren := ⟨fun | 40 => 271 | n => n, fun | 45 => 298 | 3 => 3 | 4 => 4 | 0 => 0 | 43 => 121 | 26 => 330 | 38 => 344 | n => n, fun | n => n⟩
def Tryz.laysGt18_ren : Go.Shelf.Ren := ⟨fun | 18 => 234 | 33 => 264 | 34 => 265 | 35 => 266 | 36 => 267 | 37 => 268 | 38 => 269 | 39 => 270 | 40 => 271 | 43 => 279 | 44 => 280 | 45 => 281 | 46 => 282 | 47 => 283 | 17 => 233 | 50 => 284 | 31 => 263 | 32 => 139 | n => n, fun | 45 => 298 | 3 => 3 | 4 => 4 | 0 => 0 | 61 => 327 | 60 => 326 | 65 => 282 | 67 => 345 | 47 => 56 | 58 => 22 | 71 => 44 | 73 => 349 | 74 => 85 | 56 => 181 | 5 => 5 | 9 => 9 | 43 => 121 | 26 => 330 | 38 => 344 | n => n, fun | n => n⟩
def Tryz.laysGt11_ren : Go.Shelf.Ren := ⟨fun | 11 => 187 | 17 => 233 | 18 => 234 | 31 => 263 | 32 => 139 | 33 => 264 | 34 => 265 | 35 => 266 | 36 => 267 | 37 => 268 | 38 => 269 | 39 => 270 | 40 => 271 | 43 => 279 | 44 => 280 | 45 => 281 | 46 => 282 | 47 => 283 | 50 => 284 | n => n, fun | 45 => 298 | 3 => 3 | 4 => 4 | 47 => 56 | 0 => 0 | 56 => 181 | 58 => 22 | 61 => 327 | 60 => 326 | 65 => 282 | 5 => 5 | 9 => 9 | 67 => 345 | 71 => 44 | 73 => 349 | 74 => 85 | 43 => 121 | 26 => 330 | 38 => 344 | n => n, fun | n => n⟩
theorem Tryz.laysGt11 : Go.Proofs.LaysGt.n11 Tryz.prog Tryz.laysGt11_ren := {
 mixed := by kernel_rfl
 f11 := Tryz.func187.trans (congrArg some (by kernel_rfl))
 f17 := Tryz.func233.trans (congrArg some (by kernel_rfl))
 f18 := Tryz.func234.trans (congrArg some (by kernel_rfl))
 f31 := Tryz.func263.trans (congrArg some (by kernel_rfl))
 f32 := Tryz.func139.trans (congrArg some (by kernel_rfl))
 f33 := Tryz.func264.trans (congrArg some (by kernel_rfl))
 f34 := Tryz.func265.trans (congrArg some (by kernel_rfl))
 f35 := Tryz.func266.trans (congrArg some (by kernel_rfl))
 f36 := Tryz.func267.trans (congrArg some (by kernel_rfl))
 f37 := Tryz.func268.trans (congrArg some (by kernel_rfl))
 f38 := Tryz.func269.trans (congrArg some (by kernel_rfl))
 f39 := Tryz.func270.trans (congrArg some (by kernel_rfl))
 f40 := Tryz.func271.trans (congrArg some (by kernel_rfl))
 f43 := Tryz.func279.trans (congrArg some (by kernel_rfl))
 f44 := Tryz.func280.trans (congrArg some (by kernel_rfl))
 f45 := Tryz.func281.trans (congrArg some (by kernel_rfl))
 f46 := Tryz.func282.trans (congrArg some (by kernel_rfl))
 f47 := Tryz.func283.trans (congrArg some (by kernel_rfl))
 f50 := Tryz.func284.trans (congrArg some (by kernel_rfl))
 t0 := Tryz.underlying0
 a0 := Tryz.isAgg0
 z0 := Tryz.sizeOf0
 v0 := Tryz.zeroValue0
 i0 := by kernel_rfl
 t3 := Tryz.underlying3
 a3 := Tryz.isAgg3
 z3 := Tryz.sizeOf3
 v3 := Tryz.zeroValue3
 i3 := by kernel_rfl
 t4 := Tryz.underlying4
 a4 := Tryz.isAgg4
 z4 := Tryz.sizeOf4
 v4 := Tryz.zeroValue4
 i4 := by kernel_rfl
 t5 := Tryz.underlying5
 a5 := Tryz.isAgg5
 z5 := Tryz.sizeOf5
 v5 := Tryz.zeroValue5
 i5 := by kernel_rfl
 t9 := Tryz.underlying9
 a9 := Tryz.isAgg9
 z9 := Tryz.sizeOf9
 v9 := Tryz.zeroValue9
 i9 := by kernel_rfl
 t26 := Tryz.underlying330
 a26 := Tryz.isAgg330
 z26 := Tryz.sizeOf330
 v26 := Tryz.zeroValue330
 i26 := by kernel_rfl
 t38 := Tryz.underlying344
 a38 := Tryz.isAgg344
 z38 := Tryz.sizeOf344
 v38 := Tryz.zeroValue344
 i38 := by kernel_rfl
 t43 := Tryz.underlying121
 a43 := Tryz.isAgg121
 z43 := Tryz.sizeOf121
 v43 := Tryz.zeroValue121
 i43 := by kernel_rfl
 t45 := Tryz.underlying298
 a45 := Tryz.isAgg298
 z45 := Tryz.sizeOf298
 v45 := Tryz.zeroValue298
 i45 := by kernel_rfl
 t47 := Tryz.underlying56
 a47 := Tryz.isAgg56
 z47 := Tryz.sizeOf56
 v47 := Tryz.zeroValue56
 i47 := by kernel_rfl
 t56 := Tryz.underlying181
 a56 := Tryz.isAgg181
 z56 := Tryz.sizeOf181
 v56 := Tryz.zeroValue181
 i56 := by kernel_rfl
 t58 := Tryz.underlying22
 a58 := Tryz.isAgg22
 z58 := Tryz.sizeOf22
 v58 := Tryz.zeroValue22
 i58 := by kernel_rfl
 t60 := Tryz.underlying326
 a60 := Tryz.isAgg326
 z60 := Tryz.sizeOf326
 v60 := Tryz.zeroValue326
 i60 := by kernel_rfl
 t61 := Tryz.underlying327
 a61 := Tryz.isAgg327
 z61 := Tryz.sizeOf327
 v61 := Tryz.zeroValue327
 i61 := by kernel_rfl
 t65 := Tryz.underlying282
 a65 := Tryz.isAgg282
 z65 := Tryz.sizeOf282
 v65 := Tryz.zeroValue282
 i65 := by kernel_rfl
 t67 := Tryz.underlying345
 a67 := Tryz.isAgg345
 z67 := Tryz.sizeOf345
 v67 := Tryz.zeroValue345
 i67 := by kernel_rfl
 t71 := Tryz.underlying44
 a71 := Tryz.isAgg44
 z71 := Tryz.sizeOf44
 v71 := Tryz.zeroValue44
 i71 := by kernel_rfl
 t73 := Tryz.underlying349
 a73 := Tryz.isAgg349
 z73 := Tryz.sizeOf349
 v73 := Tryz.zeroValue349
 i73 := by kernel_rfl
 t74 := Tryz.underlying85
 a74 := Tryz.isAgg85
 z74 := Tryz.sizeOf85
 v74 := Tryz.zeroValue85
 i74 := by kernel_rfl }
open Go.RowKit Go.Lib Go.Sort in
theorem Tryz.sort_Sort_tiny {α : Type} [Inhabited α] (T : TypeId) (rv : Value) (gn : Nat) (rN : Reaches Tryz.prog T rv "Len" gn) (n : Nat) (hn : n ≤ 1) (w : World) (hlen : LenM Tryz.prog gn rv n w) :
  Calls Tryz.prog 187 #[.iface T rv] w fun e w' => e = .returned (.tuple #[]) ∧ ∃ q, w' = w.drewN q := Any.sort_Sort_tiny Tryz.laysGt11 T rv gn rN n hn w hlen
open Go.RowKit Go.Lib Go.Sort in
theorem Tryz.sort_Sort_sorted {α : Type} [Inhabited α] (T : TypeId) (rv : Value) (gn gl gs : Nat) (rN : Reaches Tryz.prog T rv "Len" gn) (rL : Reaches Tryz.prog T rv "Less" gl) (rS : Reaches Tryz.prog T rv "Swap" gs) (enc : α → Value) (lt : α → α → Bool) (hO : SWO lt) (blk off : Nat) (d : Array α) (h2 : 2 ≤ d.size) (hsz : d.size < 4611686018427387904) (w : World) (hlen : LenM Tryz.prog gn rv d.size w) (hless : LessM Tryz.prog gl rv enc lt blk off d.size w) (hswap : SwapM Tryz.prog gs rv enc blk off d.size) (hH : Holds enc w blk off d) (hblk : blk < w.heap.size) :
  Calls Tryz.prog 187 #[.iface T rv] w fun e w' => e = .returned (.tuple #[]) ∧ ∃ d' n os, PermIn 0 d.size d d' ∧ SortedIn lt 0 d.size d' ∧ w' = grow (putRow enc (Sort.ahead w n) blk off d') os := Any.sort_Sort_sorted Tryz.laysGt11 T rv gn gl gs rN rL rS enc lt hO blk off d h2 hsz w hlen hless hswap hH hblk
def Tryz.lays260_ren : Go.Shelf.Ren := ⟨fun | 260 => 215 | n => n, fun | 9 => 9 | 21 => 21 | 3 => 3 | 4 => 4 | 5 => 5 | 119 => 293 | 0 => 0 | 46 => 56 | 139 => 319 | 138 => 318 | n => n, fun | 3 => 11 | 4 => 12 | n => n⟩
def Tryz.lays197_ren : Go.Shelf.Ren := ⟨fun | 197 => 145 | 260 => 215 | n => n, fun | 9 => 9 | 21 => 21 | 3 => 3 | 4 => 4 | 5 => 5 | 105 => 200 | 119 => 293 | 0 => 0 | 46 => 56 | 139 => 319 | 138 => 318 | n => n, fun | 3 => 11 | 4 => 12 | n => n⟩
theorem Tryz.lays197 : Go.Proofs.Lays.n197 Tryz.prog Tryz.lays197_ren := {
 mixed := by kernel_rfl
 f197 := Tryz.func145.trans (congrArg some (by kernel_rfl))
 f260 := Tryz.func215.trans (congrArg some (by kernel_rfl))
 t0 := Tryz.underlying0
 a0 := Tryz.isAgg0
 z0 := Tryz.sizeOf0
 v0 := Tryz.zeroValue0
 t3 := Tryz.underlying3
 a3 := Tryz.isAgg3
 z3 := Tryz.sizeOf3
 v3 := Tryz.zeroValue3
 t4 := Tryz.underlying4
 a4 := Tryz.isAgg4
 z4 := Tryz.sizeOf4
 v4 := Tryz.zeroValue4
 t5 := Tryz.underlying5
 a5 := Tryz.isAgg5
 z5 := Tryz.sizeOf5
 v5 := Tryz.zeroValue5
 t9 := Tryz.underlying9
 a9 := Tryz.isAgg9
 z9 := Tryz.sizeOf9
 v9 := Tryz.zeroValue9
 t21 := Tryz.underlying21
 a21 := Tryz.isAgg21
 z21 := Tryz.sizeOf21
 v21 := Tryz.zeroValue21
 t46 := Tryz.underlying56
 a46 := Tryz.isAgg56
 z46 := Tryz.sizeOf56
 v46 := Tryz.zeroValue56
 t105 := Tryz.underlying200
 a105 := Tryz.isAgg200
 z105 := Tryz.sizeOf200
 v105 := Tryz.zeroValue200
 t119 := Tryz.underlying293
 a119 := Tryz.isAgg293
 z119 := Tryz.sizeOf293
 t138 := Tryz.underlying318
 a138 := Tryz.isAgg318
 z138 := Tryz.sizeOf318
 v138 := Tryz.zeroValue318
 t139 := Tryz.underlying319
 a139 := Tryz.isAgg319
 z139 := Tryz.sizeOf319
 v139 := Tryz.zeroValue319
 g3 := by kernel_rfl
 g4 := by kernel_rfl }
open Go.RowKit Go.Lib in
theorem Tryz.utf8_DecodeRuneInString (s : ByteArray) (w : World) (hT : Lib.Utf8Tabs 11 12 w) :
  Calls Tryz.prog 145 #[.string s] w fun e w' => e = .returned (.tuple #[.int .i32 (Lib.decodeGo s).1, .int .i64 (Lib.decodeGo s).2]) ∧ Below w.heap.size w w' := Any.utf8_DecodeRuneInString Tryz.lays197 s w hT
def Tryz.lays187_ren : Go.Shelf.Ren := ⟨fun | 187 => 167 | 255 => 223 | n => n, fun | 37 => 23 | 5 => 5 | 3 => 3 | n => n, fun | n => n⟩
theorem Tryz.lays187 : Go.Proofs.Lays.n187 Tryz.prog Tryz.lays187_ren := {
 mixed := by kernel_rfl
 f187 := Tryz.func167.trans (congrArg some (by kernel_rfl))
 f255 := Tryz.func223.trans (congrArg some (by kernel_rfl))
 t3 := Tryz.underlying3
 a3 := Tryz.isAgg3
 z3 := Tryz.sizeOf3
 v3 := Tryz.zeroValue3
 t5 := Tryz.underlying5
 a5 := Tryz.isAgg5
 z5 := Tryz.sizeOf5
 v5 := Tryz.zeroValue5
 t37 := Tryz.underlying23
 a37 := Tryz.isAgg23
 z37 := Tryz.sizeOf23
 v37 := Tryz.zeroValue23 }
def Tryz.laysGg36_ren : Go.Shelf.Ren := ⟨fun | 36 => 281 | n => n, fun | 66 => 349 | 51 => 22 | 0 => 0 | 60 => 345 | 41 => 56 | n => n, fun | n => n⟩
def Tryz.laysGg35_ren : Go.Shelf.Ren := ⟨fun | 35 => 280 | 13 => 233 | 24 => 263 | 25 => 139 | n => n, fun | 3 => 3 | 41 => 56 | 49 => 181 | 51 => 22 | 4 => 4 | 5 => 5 | 9 => 9 | n => n, fun | n => n⟩
def Tryz.laysGt43_ren : Go.Shelf.Ren := ⟨fun | 43 => 279 | n => n, fun | 45 => 298 | 3 => 3 | 4 => 4 | 0 => 0 | 43 => 121 | 26 => 330 | 38 => 344 | n => n, fun | n => n⟩
def Tryz.laysGt34_ren : Go.Shelf.Ren := ⟨fun | 34 => 265 | 43 => 279 | n => n, fun | 45 => 298 | 3 => 3 | 4 => 4 | 0 => 0 | 43 => 121 | 26 => 330 | 38 => 344 | n => n, fun | n => n⟩
def Tryz.laysGt38_ren : Go.Shelf.Ren := ⟨fun | 38 => 269 | n => n, fun | 45 => 298 | 3 => 3 | 4 => 4 | 0 => 0 | 43 => 121 | 26 => 330 | 38 => 344 | n => n, fun | n => n⟩
theorem Tryz.bytes_IndexByte (b o n c : Nat) (xs : List Int) (cv : Int) (w : World) (hx : xs.length = n) (hc : ∀ i, i < n → w.cell? ⟨b, o + i, none⟩ = some (.int .u8 (xs.getD i 0))) :
  Calls Tryz.prog 167 #[.slice (some ⟨b, o, none⟩) n c, .int .u8 cv] w fun e w' => e = .returned (.int .i64 (Lib.indexByte (Lib.bytesOf xs) cv.toNat.toUInt8)) ∧ w' = w := Any.bytes_IndexByte Tryz.lays187 b o n c xs cv w hx hc
end Go.Proofs
