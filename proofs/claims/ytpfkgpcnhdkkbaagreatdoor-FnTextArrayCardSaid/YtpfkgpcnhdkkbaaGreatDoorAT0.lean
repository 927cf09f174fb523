/- Bytes of BSON and the long text (the layer below): what they are, by depth; how long they are; no condition. -/
import Derived.Test.YtpfkgpcnhdkkbaaGreatDoorAMp
import Derived.Test.YtpfkgpcnhdkkbaaGreatDoorAGa
namespace Go.Proofs.YtpfkgpcnhdkkbaaGreatDoor
set_option linter.unusedVariables false
set_option linter.unusedSimpArgs false
set_option maxRecDepth 100000
def u32 (n : Int) : Nat := (n % 4294967296).toNat
def u64 (n : Int) : Nat := (n % 18446744073709551616).toNat
def elB (k : Int) (name : ByteArray) (v : List UInt8) : List UInt8 := u8 k :: (name.data.toList ++ 0 :: v)
def bodyB {K : Type} (kf : K → Int) (f : K → List UInt8) (l : List (ByteArray × K)) : List UInt8 := l.flatMap fun p => elB (kf p.2) p.1 (f p.2)
def docW (body : List UInt8) : List UInt8 := le32 (body.length + 5) ++ body ++ [0]
def docB {K : Type} (kf : K → Int) (f : K → List UInt8) (l : List (ByteArray × K)) : List UInt8 := docW (bodyB kf f l)
def valR {K : Type} (kf : K → Int) (f : K → List UInt8) (t : VR K) : List UInt8 :=
 if t.kind = 1 ∨ t.kind = 17 then le64 t.bits
 else if t.kind = 2 ∨ t.kind = 13 ∨ t.kind = 14 then txB t.text
 else if t.kind = 3 ∨ t.kind = 4 then docB kf f t.kids
 else if t.kind = 5 then binB t.n t.b
 else if t.kind = 7 then t.b
 else if t.kind = 8 then [u8 t.n]
 else if t.kind = 9 ∨ t.kind = 18 then le64 (u64 t.n)
 else if t.kind = 16 then le32 (u32 t.n)
 else if t.kind = 11 then t.text.data.toList ++ 0 :: (t.more.data.toList ++ [0])
 else if t.kind = 12 then txB t.text ++ t.b
 else if t.kind = 19 then le64 t.bits ++ le64 t.high
 else []
def kindV : (d : Nat) → VT d → Int
 | 0, t => t.elim
 | d + 1, t => t.kind
def valB : (d : Nat) → VT d → List UInt8
 | 0, t => t.elim
 | d + 1, t => valR (kindV d) (valB d) t

def meL (name : ByteArray) (v : List UInt8) : List UInt8 := 34 :: (name.data.toList ++ [34, 58, 32] ++ v)
def loMem {K : Type} (f : K → List UInt8) (l : List (ByteArray × K)) : List (List UInt8) := l.map fun p => meL p.1 (f p.2)
def loDoc {K : Type} (f : K → List UInt8) (l : List (ByteArray × K)) : List UInt8 := 123 :: (sItems (loMem f l) ++ [125])
noncomputable def loR {K : Type} (f : K → List UInt8) (t : VR K) : List UInt8 :=
 if t.kind = 1 then [123, 34, 36, 110, 117, 109, 98, 101, 114, 68, 111, 117, 98, 108, 101, 34, 58, 34] ++ dblT t.bits ++ [34, 125]
 else if t.kind = 3 then loDoc f t.kids
 else if t.kind = 4 then spArr f t.kids
 else if t.kind = 16 then [123, 34, 36, 110, 117, 109, 98, 101, 114, 73, 110, 116, 34, 58, 34] ++ Lib.itoa t.n ++ [34, 125]
 else if t.kind = 18 then [123, 34, 36, 110, 117, 109, 98, 101, 114, 76, 111, 110, 103, 34, 58, 34] ++ Lib.itoa t.n ++ [34, 125]
 else spR true f t
noncomputable def loV : (d : Nat) → VT d → List UInt8
 | 0, t => t.elim
 | d + 1, t => loR (loV d) t
structure LongR {K : Type} (fk : K → Prop) (t : VR K) : Prop where
 kind : t.kind ≠ 15
 ptr : t.kind = 12 → sout true t.text = 34 :: (t.text.data.toList ++ [34])
 dbl : t.kind = 1 → 69 ∉ dblOut (aux0.dbl t.bits)
 kids : ∀ p ∈ t.kids, p.1.size ≠ 0 ∧ sout true p.1 = 34 :: (p.1.data.toList ++ [34]) ∧ fk p.2
def LongV : (d : Nat) → VT d → Prop
 | 0, t => t.elim
 | d + 1, t => LongR (LongV d) t

theorem le32_len (n : Nat) : (le32 n).length = 4 := rfl
theorem le64_len (n : Nat) : (le64 n).length = 8 := rfl
theorem txB_len (s : ByteArray) : (txB s).length = s.size + 5 := by
 have : s.data.toList.length = s.size := Array.length_toList
 simp [txB, le32_len]
 omega
theorem docW_len (l : List UInt8) : (docW l).length = l.length + 5 := by simp [docW, le32_len]; omega
theorem elB_len (k : Int) (name : ByteArray) (v : List UInt8) : (elB k name v).length = name.size + 2 + v.length := by
 have : name.data.toList.length = name.size := Array.length_toList
 simp only [elB, List.length_cons, List.length_append]
 omega
end Go.Proofs.YtpfkgpcnhdkkbaaGreatDoor
