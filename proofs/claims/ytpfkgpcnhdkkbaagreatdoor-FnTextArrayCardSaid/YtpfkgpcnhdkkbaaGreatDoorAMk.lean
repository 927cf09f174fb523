/- writeScalarExt at every kind that is no document, array or code with scope. -/
import Derived.Test.YtpfkgpcnhdkkbaaGreatDoorAMp
import Derived.Test.YtpfkgpcnhdkkbaaGreatDoorAMd
import Derived.Test.YtpfkgpcnhdkkbaaGreatDoorAMc
import Derived.Test.YtpfkgpcnhdkkbaaGreatDoorAGt
import Derived.Test.YtpfkgpcnhdkkbaaGreatDoorAMn
namespace Go.Proofs.YtpfkgpcnhdkkbaaGreatDoor
open Go.RowKit
set_option linter.unusedVariables false
set_option linter.unusedSimpArgs false
set_option maxRecDepth 100000
theorem dblT_len (b : Nat) (hb : b < 18446744073709551616) : (dblT b).length ≤ 200 := by
 unfold dblT
 split
 ·simp
 ·rename_i h0
  split
  ·simp
  ·rename_i h1
   split
   ·simp
   ·rename_i h2
    have hE := fin_exp b (by simpa using h0) (by simpa using h1) (by simpa using h2) hb
    have F := fT_spec b hb hE
    have := F.len
    split
    ·omega
    ·simp; omega
theorem decT_len (H L : Nat) (hL : L < 18446744073709551616) : (decT H L).length ≤ 1000 := by
 unfold decT
 split
 ·simp
 ·split
  ·split <;> simp
  ·split
   ·exact dec_le _ 0 _ (by rw [Lib.nDigits_small (by omega)]; omega) (by omega)
   ·exact dec_le _ _ _ (nd_113 _ (by omega)) (by omega)
theorem decB_len (n : Nat) (h : n < 18446744073709551616) : (decB n).size ≤ 1000 := by
  show (Lib.decDigits n).toArray.size ≤ 1000
  rw [List.size_toArray, Lib.decDigits_length]
  have := nd_le n 20 (by decide) (by have : (10 : Nat) ^ 20 = 100000000000000000000 := by decide
                                     omega)
  omega
end Go.Proofs.YtpfkgpcnhdkkbaaGreatDoor
