/- writeKidsExt: the members of a document, one by one. -/
import Derived.Test.YtpfkgpcnhdkkbaaGreatDoorAMp
import Derived.Test.YtpfkgpcnhdkkbaaGreatDoorAMe
import Derived.Deep.MidRow
namespace Go.Proofs.YtpfkgpcnhdkkbaaGreatDoor
open Go.RowKit
set_option linter.unusedVariables false
set_option linter.unusedSimpArgs false
set_option maxRecDepth 100000
structure KidsEnv (K : Type) (f : K → List UInt8) (R : K → List Value → Prop) (l : List (ByteArray × K)) (g B wb : Nat) (esc : Bool) (X : List UInt8) (ms : List Int) (md : Int) (w0 wS : World) (Q : World → World → Prop) : Prop where
 base : B = w0.heap.size
 h17 : 17 ≤ B
 tabs : Tabs w0
 len : (X ++ 123 :: memOut esc f l).length ≤ 1000000000
 names : ∀ p ∈ l, p.1.size ≤ 300
 cells : ∀ p ∈ l, ∀ cs, R p.2 cs → Cells8 cs
 el : ∀ (buf : List UInt8) (w : World) (s : ByteArray), IsEW g B wb false esc buf (ms ++ [md]) w → Room buf.length → Tabs w → s.size ≤ 300 →
  Calls Tryz.prog 68 #[.pointer (some ⟨g, 0, none⟩), .string s] w fun e w' => e = .returned (meV g) ∧ IsEW g B wb false esc (buf ++ (jout esc s ++ [58])) (ms ++ [md] ++ [5]) w' ∧ EStep B w w'
 val : ∀ p ∈ l, ∀ cs, R p.2 cs → ∀ (buf : List UInt8) (w : World), IsEW g B wb false esc buf (ms ++ [md] ++ [5]) w → Below B w0 w → buf.length + (f p.2).length + 1 ≤ 1000000000 →
  Calls Tryz.prog 69 #[.pointer (some ⟨g, 0, none⟩), .agg cs.toArray] w fun e w' => e = .returned .nilIface ∧ IsEW g B wb false esc (buf ++ (f p.2 ++ [44])) (ms ++ [md]) w' ∧ EStep B w w'
 fin : ∀ w, IsEW g B wb false esc (X ++ 123 :: memOut esc f l) (ms ++ [md]) w → Below B w0 w → EStep B wS w →
  Calls Tryz.prog 70 #[.pointer (some ⟨g, 0, none⟩)] w fun e w' => e = .returned .nilIface ∧ Q w w'
end Go.Proofs.YtpfkgpcnhdkkbaaGreatDoor
