/- The shelf's contracts of numbers at this program, in plain words (printed by the shelf's own tool; parted). -/
import Derived.Shelf.Small.Bits
import Derived.Shelf.Small.Wraps
import Derived.Shelf.LaysM
import Derived.Shelf.Strconv.Itoa0
import Derived.Shelf.Strconv.Itoa1
import Derived.Shelf.Strconv.Itoa2
import Derived.Shelf.Strconv.Itoa3
import Derived.Shelf.Strconv.Itoa4
import Derived.Shelf.Bits.Mul64
import Derived.Test.YtpfkgpcnhdkkbaaGreatDoorProg
namespace Go.Proofs
open Go.Shelf
def Tryz.lays129_ren : Go.Shelf.Ren := ⟨fun | 129 => 139 | n => n, fun | 53 => 22 | 3 => 3 | 4 => 4 | 46 => 56 | 5 => 5 | 9 => 9 | n => n, fun | n => n⟩
theorem Tryz.lays129 : Go.Proofs.Lays.n129 Tryz.prog Tryz.lays129_ren := {
 mixed := by kernel_rfl
 f129 := Tryz.func139.trans (congrArg some (by kernel_rfl))
 t3 := Tryz.underlying3
 a3 := Tryz.isAgg3
 z3 := Tryz.sizeOf3
 v3 := Tryz.zeroValue3
 t4 := Tryz.underlying4
 a4 := Tryz.isAgg4
 z4 := Tryz.sizeOf4
 v4 := Tryz.zeroValue4
 t5 := Tryz.underlying5
 a5 := Tryz.isAgg5
 z5 := Tryz.sizeOf5
 v5 := Tryz.zeroValue5
 t9 := Tryz.underlying9
 a9 := Tryz.isAgg9
 z9 := Tryz.sizeOf9
 v9 := Tryz.zeroValue9
 t46 := Tryz.underlying56
 a46 := Tryz.isAgg56
 z46 := Tryz.sizeOf56
 v46 := Tryz.zeroValue56
 t53 := Tryz.underlying22
 a53 := Tryz.isAgg22
 z53 := Tryz.sizeOf22
 v53 := Tryz.zeroValue22 }
theorem Tryz.bits_Len64 (x : Int) (w : World) (h0 : 0 ≤ x) (h1 : x ≤ 18446744073709551615) :
  Calls Tryz.prog 139 #[.int .u64 x] w fun e w' => e = .returned (.int .i64 (Lib.bitLen x.toNat)) ∧ w' = w := Any.bits_Len64 Tryz.lays129 x w h0 h1
def Tryz.lays317_ren : Go.Shelf.Ren := ⟨fun | 317 => 138 | n => n, fun | 3 => 3 | 46 => 56 | n => n, fun | n => n⟩
def Tryz.lays318_ren : Go.Shelf.Ren := ⟨fun | 318 => 140 | n => n, fun | 3 => 3 | 4 => 4 | n => n, fun | n => n⟩
theorem Tryz.lays318 : Go.Proofs.Lays.n318 Tryz.prog Tryz.lays318_ren := {
 mixed := by kernel_rfl
 f318 := Tryz.func140.trans (congrArg some (by kernel_rfl))
 t3 := Tryz.underlying3
 a3 := Tryz.isAgg3
 z3 := Tryz.sizeOf3
 v3 := Tryz.zeroValue3
 t4 := Tryz.underlying4
 a4 := Tryz.isAgg4
 z4 := Tryz.sizeOf4
 v4 := Tryz.zeroValue4 }
open Go.Lib in
theorem Tryz.internal_strconv_bool2_int (b : Bool) (w : World) :
  Calls Tryz.prog 140 #[.bool b] w fun e w' => e = .returned (.int .i64 (if b then 1 else 0)) ∧ w' = w := Any.internal_strconv_bool2_int Tryz.lays318 b w
def Tryz.lays283_ren : Go.Shelf.Ren := ⟨fun | 283 => 89 | n => n, fun | 3 => 3 | 9 => 9 | 4 => 4 | n => n, fun | n => n⟩
theorem Tryz.lays283 : Go.Proofs.Lays.n283 Tryz.prog Tryz.lays283_ren := {
 mixed := by kernel_rfl
 f283 := Tryz.func89.trans (congrArg some (by kernel_rfl))
 t3 := Tryz.underlying3
 a3 := Tryz.isAgg3
 z3 := Tryz.sizeOf3
 v3 := Tryz.zeroValue3
 t4 := Tryz.underlying4
 a4 := Tryz.isAgg4
 z4 := Tryz.sizeOf4
 v4 := Tryz.zeroValue4
 t9 := Tryz.underlying9
 a9 := Tryz.isAgg9
 z9 := Tryz.sizeOf9
 v9 := Tryz.zeroValue9 }
open Go.Lib in
theorem Tryz.internal_strconv_small (i : Nat) (h : i < 100) (w : World) :
  Calls Tryz.prog 89 #[.int .i64 i] w fun e w' => e = .returned (.string ⟨(Lib.decDigits i).toArray⟩) ∧ w' = w := Any.internal_strconv_small Tryz.lays283 i h w
def Tryz.laysM284_ren : Go.Shelf.Ren := ⟨fun | 284 => 90 | 129 => 139 | 317 => 138 | 318 => 140 | n => n, fun | 53 => 22 | 3 => 3 | 212 => 193 | 0 => 0 | 4 => 4 | 46 => 56 | 5 => 5 | 9 => 9 | n => n, fun | 17 => 2 | n => n⟩
theorem Tryz.laysM284 : Go.Proofs.LaysM.n284 Tryz.prog Tryz.laysM284_ren := {
 mixed := by kernel_rfl
 f129 := Tryz.func139.trans (congrArg some (by kernel_rfl))
 f284 := Tryz.func90.trans (congrArg some (by kernel_rfl))
 f317 := Tryz.func138.trans (congrArg some (by kernel_rfl))
 f318 := Tryz.func140.trans (congrArg some (by kernel_rfl))
 t0 := Tryz.underlying0
 a0 := Tryz.isAgg0
 z0 := Tryz.sizeOf0
 v0 := Tryz.zeroValue0
 t3 := Tryz.underlying3
 a3 := Tryz.isAgg3
 z3 := Tryz.sizeOf3
 v3 := Tryz.zeroValue3
 t4 := Tryz.underlying4
 a4 := Tryz.isAgg4
 z4 := Tryz.sizeOf4
 v4 := Tryz.zeroValue4
 t5 := Tryz.underlying5
 a5 := Tryz.isAgg5
 z5 := Tryz.sizeOf5
 v5 := Tryz.zeroValue5
 t9 := Tryz.underlying9
 a9 := Tryz.isAgg9
 z9 := Tryz.sizeOf9
 v9 := Tryz.zeroValue9
 t46 := Tryz.underlying56
 a46 := Tryz.isAgg56
 z46 := Tryz.sizeOf56
 v46 := Tryz.zeroValue56
 t53 := Tryz.underlying22
 a53 := Tryz.isAgg22
 z53 := Tryz.sizeOf22
 v53 := Tryz.zeroValue22
 t212 := Tryz.underlying193
 a212 := Tryz.isAgg193
 z212 := Tryz.sizeOf193
 v212 := Tryz.zeroValue193
 g17 := by kernel_rfl
 i0 := by kernel_rfl
 i3 := by kernel_rfl
 i4 := by kernel_rfl
 i5 := by kernel_rfl
 i9 := by kernel_rfl
 i46 := by kernel_rfl
 i53 := by kernel_rfl
 i212 := by kernel_rfl
 m17 := by kernel_rfl }
open Go.Lib in
theorem Tryz.internal_strconv_numDigits (u : Nat) (h1 : 1 ≤ u) (h2 : u < 18446744073709551616) (w : World) (htab : Lib.TabIs Tryz.prog w "internal/strconv.uint64pow10" .u64 Lib.pow10Tab) :
  Calls Tryz.prog 90 #[.int .u64 u] w fun e w' => e = .returned (.int .i64 (Lib.nDigits u)) ∧ w' = w := Any.internal_strconv_numDigits Tryz.laysM284 u h1 h2 w htab
def Tryz.lays285_ren : Go.Shelf.Ren := ⟨fun | 285 => 91 | n => n, fun | 37 => 23 | 53 => 22 | 3 => 3 | 4 => 4 | 51 => 181 | 9 => 9 | 5 => 5 | 0 => 0 | n => n, fun | n => n⟩
theorem Tryz.lays285 : Go.Proofs.Lays.n285 Tryz.prog Tryz.lays285_ren := {
 mixed := by kernel_rfl
 f285 := Tryz.func91.trans (congrArg some (by kernel_rfl))
 t0 := Tryz.underlying0
 a0 := Tryz.isAgg0
 z0 := Tryz.sizeOf0
 v0 := Tryz.zeroValue0
 t3 := Tryz.underlying3
 a3 := Tryz.isAgg3
 z3 := Tryz.sizeOf3
 v3 := Tryz.zeroValue3
 t4 := Tryz.underlying4
 a4 := Tryz.isAgg4
 z4 := Tryz.sizeOf4
 v4 := Tryz.zeroValue4
 t5 := Tryz.underlying5
 a5 := Tryz.isAgg5
 z5 := Tryz.sizeOf5
 v5 := Tryz.zeroValue5
 t9 := Tryz.underlying9
 a9 := Tryz.isAgg9
 z9 := Tryz.sizeOf9
 v9 := Tryz.zeroValue9
 t37 := Tryz.underlying23
 a37 := Tryz.isAgg23
 z37 := Tryz.sizeOf23
 v37 := Tryz.zeroValue23
 t51 := Tryz.underlying181
 a51 := Tryz.isAgg181
 z51 := Tryz.sizeOf181
 v51 := Tryz.zeroValue181
 t53 := Tryz.underlying22
 a53 := Tryz.isAgg22
 z53 := Tryz.sizeOf22
 v53 := Tryz.zeroValue22 }
open Go.RowKit Go.Sort Go.Lib in
theorem Tryz.internal_strconv_formatBase10 (blk off cap : Nat) (u : Nat) (d : Array UInt8) (w : World) (hH : Holds (fun (b : UInt8) => Value.int .u8 (b.toNat : Int)) w blk off d) (hu : u < 10 ^ d.size) (hu64 : u < 18446744073709551616) (hsz : d.size < 4611686018427387904) :
  Calls Tryz.prog 91 #[.slice (some ⟨blk, off, none⟩) d.size cap, .int .u64 u] w fun e w' =>
   e = .returned (.tuple #[]) ∧ ∃ (n v' : Nat) (dk : Array UInt8), w' = (putRow (fun (b : UInt8) => Value.int .u8 (b.toNat : Int)) w blk off dk).drewN n ∧ FmtInv d.size u 0 v' dk := Any.internal_strconv_formatBase10 Tryz.lays285 blk off cap u d w hH hu hu64 hsz
def Tryz.laysM246_ren : Go.Shelf.Ren := ⟨fun | 246 => 61 | 283 => 89 | 284 => 90 | 285 => 91 | 286 => 92 | 129 => 139 | 317 => 138 | 318 => 140 | 319 => 141 | 320 => 142 | 337 => 211 | 338 => 212 | n => n, fun | 2 => 2 | 3 => 3 | 9 => 9 | 4 => 4 | 171 => 134 | 0 => 0 | 53 => 22 | 37 => 23 | 5 => 5 | 173 => 137 | 212 => 193 | 51 => 181 | 20 => 20 | 213 => 194 | 46 => 56 | 232 => 270 | 233 => 292 | n => n, fun | 17 => 2 | 18 => 8 | 19 => 9 | n => n⟩
def Tryz.lays246_ren : Go.Shelf.Ren := ⟨fun | 246 => 61 | 283 => 89 | 284 => 90 | 285 => 91 | 286 => 92 | 129 => 139 | 317 => 138 | 318 => 140 | 319 => 141 | 320 => 142 | 337 => 211 | 338 => 212 | n => n, fun | 2 => 2 | 3 => 3 | 9 => 9 | 4 => 4 | 171 => 134 | 0 => 0 | 53 => 22 | 37 => 23 | 5 => 5 | 173 => 137 | 212 => 193 | 51 => 181 | 20 => 20 | 213 => 194 | 46 => 56 | 232 => 270 | 233 => 292 | n => n, fun | 17 => 2 | 18 => 8 | 19 => 9 | n => n⟩
def Tryz.laysM243_ren : Go.Shelf.Ren := ⟨fun | 243 => 236 | 246 => 61 | 283 => 89 | 284 => 90 | 285 => 91 | 286 => 92 | 129 => 139 | 317 => 138 | 318 => 140 | 319 => 141 | 320 => 142 | 337 => 211 | 338 => 212 | n => n, fun | 3 => 3 | 9 => 9 | 2 => 2 | 4 => 4 | 171 => 134 | 0 => 0 | 53 => 22 | 37 => 23 | 5 => 5 | 173 => 137 | 212 => 193 | 51 => 181 | 20 => 20 | 213 => 194 | 46 => 56 | 232 => 270 | 233 => 292 | n => n, fun | 17 => 2 | 18 => 8 | 19 => 9 | n => n⟩
def Tryz.lays243_ren : Go.Shelf.Ren := ⟨fun | 243 => 236 | 246 => 61 | 283 => 89 | 284 => 90 | 285 => 91 | 286 => 92 | 129 => 139 | 317 => 138 | 318 => 140 | 319 => 141 | 320 => 142 | 337 => 211 | 338 => 212 | n => n, fun | 3 => 3 | 9 => 9 | 2 => 2 | 4 => 4 | 171 => 134 | 0 => 0 | 53 => 22 | 37 => 23 | 5 => 5 | 173 => 137 | 212 => 193 | 51 => 181 | 20 => 20 | 213 => 194 | 46 => 56 | 232 => 270 | 233 => 292 | n => n, fun | 17 => 2 | 18 => 8 | 19 => 9 | n => n⟩
def Tryz.laysM171_ren : Go.Shelf.Ren := ⟨fun | 171 => 197 | 243 => 236 | 246 => 61 | 283 => 89 | 284 => 90 | 285 => 91 | 286 => 92 | 129 => 139 | 317 => 138 | 318 => 140 | 319 => 141 | 320 => 142 | 337 => 211 | 338 => 212 | n => n, fun | 3 => 3 | 9 => 9 | 2 => 2 | 4 => 4 | 171 => 134 | 0 => 0 | 53 => 22 | 37 => 23 | 5 => 5 | 173 => 137 | 212 => 193 | 51 => 181 | 20 => 20 | 213 => 194 | 46 => 56 | 232 => 270 | 233 => 292 | n => n, fun | 17 => 2 | 18 => 8 | 19 => 9 | n => n⟩
theorem Tryz.laysM171 : Go.Proofs.LaysM.n171 Tryz.prog Tryz.laysM171_ren := {
 mixed := by kernel_rfl
 f129 := Tryz.func139.trans (congrArg some (by kernel_rfl))
 f171 := Tryz.func197.trans (congrArg some (by kernel_rfl))
 f243 := Tryz.func236.trans (congrArg some (by kernel_rfl))
 f246 := Tryz.func61.trans (congrArg some (by kernel_rfl))
 f283 := Tryz.func89.trans (congrArg some (by kernel_rfl))
 f284 := Tryz.func90.trans (congrArg some (by kernel_rfl))
 f285 := Tryz.func91.trans (congrArg some (by kernel_rfl))
 f286 := Tryz.func92.trans (congrArg some (by kernel_rfl))
 f317 := Tryz.func138.trans (congrArg some (by kernel_rfl))
 f318 := Tryz.func140.trans (congrArg some (by kernel_rfl))
 f319 := Tryz.func141.trans (congrArg some (by kernel_rfl))
 f320 := Tryz.func142.trans (congrArg some (by kernel_rfl))
 f337 := Tryz.func211.trans (congrArg some (by kernel_rfl))
 f338 := Tryz.func212.trans (congrArg some (by kernel_rfl))
 t0 := Tryz.underlying0
 a0 := Tryz.isAgg0
 z0 := Tryz.sizeOf0
 v0 := Tryz.zeroValue0
 t2 := Tryz.underlying2
 a2 := Tryz.isAgg2
 z2 := Tryz.sizeOf2
 v2 := Tryz.zeroValue2
 t3 := Tryz.underlying3
 a3 := Tryz.isAgg3
 z3 := Tryz.sizeOf3
 v3 := Tryz.zeroValue3
 t4 := Tryz.underlying4
 a4 := Tryz.isAgg4
 z4 := Tryz.sizeOf4
 v4 := Tryz.zeroValue4
 t5 := Tryz.underlying5
 a5 := Tryz.isAgg5
 z5 := Tryz.sizeOf5
 v5 := Tryz.zeroValue5
 t9 := Tryz.underlying9
 a9 := Tryz.isAgg9
 z9 := Tryz.sizeOf9
 v9 := Tryz.zeroValue9
 t20 := Tryz.underlying20
 a20 := Tryz.isAgg20
 z20 := Tryz.sizeOf20
 v20 := Tryz.zeroValue20
 t37 := Tryz.underlying23
 a37 := Tryz.isAgg23
 z37 := Tryz.sizeOf23
 v37 := Tryz.zeroValue23
 t46 := Tryz.underlying56
 a46 := Tryz.isAgg56
 z46 := Tryz.sizeOf56
 v46 := Tryz.zeroValue56
 t51 := Tryz.underlying181
 a51 := Tryz.isAgg181
 z51 := Tryz.sizeOf181
 v51 := Tryz.zeroValue181
 t53 := Tryz.underlying22
 a53 := Tryz.isAgg22
 z53 := Tryz.sizeOf22
 v53 := Tryz.zeroValue22
 t171 := Tryz.underlying134
 a171 := Tryz.isAgg134
 z171 := Tryz.sizeOf134
 v171 := Tryz.zeroValue134
 t173 := Tryz.underlying137
 a173 := Tryz.isAgg137
 z173 := Tryz.sizeOf137
 v173 := Tryz.zeroValue137
 t212 := Tryz.underlying193
 a212 := Tryz.isAgg193
 z212 := Tryz.sizeOf193
 v212 := Tryz.zeroValue193
 t213 := Tryz.underlying194
 a213 := Tryz.isAgg194
 z213 := Tryz.sizeOf194
 t232 := Tryz.underlying270
 a232 := Tryz.isAgg270
 z232 := Tryz.sizeOf270
 v232 := Tryz.zeroValue270
 t233 := Tryz.underlying292
 a233 := Tryz.isAgg292
 z233 := Tryz.sizeOf292
 v233 := Tryz.zeroValue292
 g17 := by kernel_rfl
 g18 := by kernel_rfl
 g19 := by kernel_rfl
 i0 := by kernel_rfl
 i2 := by kernel_rfl
 i3 := by kernel_rfl
 i4 := by kernel_rfl
 i5 := by kernel_rfl
 i9 := by kernel_rfl
 i20 := by kernel_rfl
 i37 := by kernel_rfl
 i46 := by kernel_rfl
 i51 := by kernel_rfl
 i53 := by kernel_rfl
 i171 := by kernel_rfl
 i173 := by kernel_rfl
 i212 := by kernel_rfl
 i232 := by kernel_rfl
 i233 := by kernel_rfl
 m17 := by kernel_rfl
 m18 := by kernel_rfl
 m19 := by kernel_rfl }
open Go.RowKit Go.Sort Go.Lib in
theorem Tryz.strconv_Itoa (n : Int) (h0 : -9223372036854775808 ≤ n) (h1 : n ≤ 9223372036854775807) (w : World) (htab : Lib.TabIs Tryz.prog w "internal/strconv.uint64pow10" .u64 Lib.pow10Tab) :
  Calls Tryz.prog 197 #[.int .i64 n] w fun e w' => e = .returned (.string ⟨(Lib.itoa n).toArray⟩) ∧ ∃ k os, w' = grow (w.drewN k) os := Any.strconv_Itoa Tryz.laysM171 n h0 h1 w htab
def Tryz.lays171_ren : Go.Shelf.Ren := ⟨fun | 171 => 197 | 243 => 236 | 246 => 61 | 283 => 89 | 284 => 90 | 285 => 91 | 286 => 92 | 129 => 139 | 317 => 138 | 318 => 140 | 319 => 141 | 320 => 142 | 337 => 211 | 338 => 212 | n => n, fun | 3 => 3 | 9 => 9 | 2 => 2 | 4 => 4 | 171 => 134 | 0 => 0 | 53 => 22 | 37 => 23 | 5 => 5 | 173 => 137 | 212 => 193 | 51 => 181 | 20 => 20 | 213 => 194 | 46 => 56 | 232 => 270 | 233 => 292 | n => n, fun | 17 => 2 | 18 => 8 | 19 => 9 | n => n⟩
def Tryz.laysM173_ren : Go.Shelf.Ren := ⟨fun | 173 => 34 | 246 => 61 | 283 => 89 | 284 => 90 | 285 => 91 | 286 => 92 | 129 => 139 | 317 => 138 | 318 => 140 | 319 => 141 | 320 => 142 | 337 => 211 | 338 => 212 | n => n, fun | 2 => 2 | 3 => 3 | 9 => 9 | 4 => 4 | 171 => 134 | 0 => 0 | 53 => 22 | 37 => 23 | 5 => 5 | 173 => 137 | 212 => 193 | 51 => 181 | 20 => 20 | 213 => 194 | 46 => 56 | 232 => 270 | 233 => 292 | n => n, fun | 17 => 2 | 18 => 8 | 19 => 9 | n => n⟩
theorem Tryz.laysM173 : Go.Proofs.LaysM.n173 Tryz.prog Tryz.laysM173_ren := {
 mixed := by kernel_rfl
 f129 := Tryz.func139.trans (congrArg some (by kernel_rfl))
 f173 := Tryz.func34.trans (congrArg some (by kernel_rfl))
 f246 := Tryz.func61.trans (congrArg some (by kernel_rfl))
 f283 := Tryz.func89.trans (congrArg some (by kernel_rfl))
 f284 := Tryz.func90.trans (congrArg some (by kernel_rfl))
 f285 := Tryz.func91.trans (congrArg some (by kernel_rfl))
 f286 := Tryz.func92.trans (congrArg some (by kernel_rfl))
 f317 := Tryz.func138.trans (congrArg some (by kernel_rfl))
 f318 := Tryz.func140.trans (congrArg some (by kernel_rfl))
 f319 := Tryz.func141.trans (congrArg some (by kernel_rfl))
 f320 := Tryz.func142.trans (congrArg some (by kernel_rfl))
 f337 := Tryz.func211.trans (congrArg some (by kernel_rfl))
 f338 := Tryz.func212.trans (congrArg some (by kernel_rfl))
 t0 := Tryz.underlying0
 a0 := Tryz.isAgg0
 z0 := Tryz.sizeOf0
 v0 := Tryz.zeroValue0
 t2 := Tryz.underlying2
 a2 := Tryz.isAgg2
 z2 := Tryz.sizeOf2
 v2 := Tryz.zeroValue2
 t3 := Tryz.underlying3
 a3 := Tryz.isAgg3
 z3 := Tryz.sizeOf3
 v3 := Tryz.zeroValue3
 t4 := Tryz.underlying4
 a4 := Tryz.isAgg4
 z4 := Tryz.sizeOf4
 v4 := Tryz.zeroValue4
 t5 := Tryz.underlying5
 a5 := Tryz.isAgg5
 z5 := Tryz.sizeOf5
 v5 := Tryz.zeroValue5
 t9 := Tryz.underlying9
 a9 := Tryz.isAgg9
 z9 := Tryz.sizeOf9
 v9 := Tryz.zeroValue9
 t20 := Tryz.underlying20
 a20 := Tryz.isAgg20
 z20 := Tryz.sizeOf20
 v20 := Tryz.zeroValue20
 t37 := Tryz.underlying23
 a37 := Tryz.isAgg23
 z37 := Tryz.sizeOf23
 v37 := Tryz.zeroValue23
 t46 := Tryz.underlying56
 a46 := Tryz.isAgg56
 z46 := Tryz.sizeOf56
 v46 := Tryz.zeroValue56
 t51 := Tryz.underlying181
 a51 := Tryz.isAgg181
 z51 := Tryz.sizeOf181
 v51 := Tryz.zeroValue181
 t53 := Tryz.underlying22
 a53 := Tryz.isAgg22
 z53 := Tryz.sizeOf22
 v53 := Tryz.zeroValue22
 t171 := Tryz.underlying134
 a171 := Tryz.isAgg134
 z171 := Tryz.sizeOf134
 v171 := Tryz.zeroValue134
 t173 := Tryz.underlying137
 a173 := Tryz.isAgg137
 z173 := Tryz.sizeOf137
 v173 := Tryz.zeroValue137
 t212 := Tryz.underlying193
 a212 := Tryz.isAgg193
 z212 := Tryz.sizeOf193
 v212 := Tryz.zeroValue193
 t213 := Tryz.underlying194
 a213 := Tryz.isAgg194
 z213 := Tryz.sizeOf194
 t232 := Tryz.underlying270
 a232 := Tryz.isAgg270
 z232 := Tryz.sizeOf270
 v232 := Tryz.zeroValue270
 t233 := Tryz.underlying292
 a233 := Tryz.isAgg292
 z233 := Tryz.sizeOf292
 v233 := Tryz.zeroValue292
 g17 := by kernel_rfl
 g18 := by kernel_rfl
 g19 := by kernel_rfl
 i0 := by kernel_rfl
 i2 := by kernel_rfl
 i3 := by kernel_rfl
 i4 := by kernel_rfl
 i5 := by kernel_rfl
 i9 := by kernel_rfl
 i20 := by kernel_rfl
 i37 := by kernel_rfl
 i46 := by kernel_rfl
 i51 := by kernel_rfl
 i53 := by kernel_rfl
 i171 := by kernel_rfl
 i173 := by kernel_rfl
 i212 := by kernel_rfl
 i232 := by kernel_rfl
 i233 := by kernel_rfl
 m17 := by kernel_rfl
 m18 := by kernel_rfl
 m19 := by kernel_rfl }
open Go.RowKit Go.Sort Go.Lib in
theorem Tryz.strconv_FormatInt_10 (n : Int) (h0 : -9223372036854775808 ≤ n) (h1 : n ≤ 9223372036854775807) (w : World) (htab : Lib.TabIs Tryz.prog w "internal/strconv.uint64pow10" .u64 Lib.pow10Tab) :
  Calls Tryz.prog 34 #[.int .i64 n, .int .i64 10] w fun e w' => e = .returned (.string ⟨(Lib.itoa n).toArray⟩) ∧ ∃ k os, w' = grow (w.drewN k) os := Any.strconv_FormatInt_10 Tryz.laysM173 n h0 h1 w htab
def Tryz.lays173_ren : Go.Shelf.Ren := ⟨fun | 173 => 34 | 246 => 61 | 283 => 89 | 284 => 90 | 285 => 91 | 286 => 92 | 129 => 139 | 317 => 138 | 318 => 140 | 319 => 141 | 320 => 142 | 337 => 211 | 338 => 212 | n => n, fun | 2 => 2 | 3 => 3 | 9 => 9 | 4 => 4 | 171 => 134 | 0 => 0 | 53 => 22 | 37 => 23 | 5 => 5 | 173 => 137 | 212 => 193 | 51 => 181 | 20 => 20 | 213 => 194 | 46 => 56 | 232 => 270 | 233 => 292 | n => n, fun | 17 => 2 | 18 => 8 | 19 => 9 | n => n⟩
def Tryz.lays264_ren : Go.Shelf.Ren := ⟨fun | 264 => 273 | n => n, fun | 53 => 22 | 46 => 56 | n => n, fun | n => n⟩
theorem Tryz.lays264 : Go.Proofs.Lays.n264 Tryz.prog Tryz.lays264_ren := {
 mixed := by kernel_rfl
 f264 := Tryz.func273.trans (congrArg some (by kernel_rfl))
 t46 := Tryz.underlying56
 a46 := Tryz.isAgg56
 z46 := Tryz.sizeOf56
 v46 := Tryz.zeroValue56
 t53 := Tryz.underlying22
 a53 := Tryz.isAgg22
 z53 := Tryz.sizeOf22
 v53 := Tryz.zeroValue22 }
open Go.RowKit Go.Lib in
theorem Tryz.bits_Mul64 (x y : Nat) (hx : x < 18446744073709551616) (hy : y < 18446744073709551616) (w : World) :
  Calls Tryz.prog 273 #[.int .u64 x, .int .u64 y] w fun e w' => e = .returned (.tuple #[.int .u64 ((x * y / 18446744073709551616 : Nat) : Int), .int .u64 ((x * y % 18446744073709551616 : Nat) : Int)]) ∧ w' = w := Any.bits_Mul64 Tryz.lays264 x y hx hy w
end Go.Proofs
