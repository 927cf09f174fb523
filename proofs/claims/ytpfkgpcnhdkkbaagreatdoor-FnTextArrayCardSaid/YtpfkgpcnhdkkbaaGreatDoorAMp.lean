/- Plain laws of quoted texts: on UTF-8 the two writers of quoted texts say the same; a closed list of members is its members with commas between; no condition. -/
import Derived.Test.YtpfkgpcnhdkkbaaGreatDoorAGl
import Derived.Test.YtpfkgpcnhdkkbaaGreatDoorATabs
import Derived.Test.YtpfkgpcnhdkkbaaGreatDoorAMf
import Derived.Test.YtpfkgpcnhdkkbaaGreatDoorAB6
import Derived.Test.YtpfkgpcnhdkkbaaGreatDoorAMl
import Derived.Test.YtpfkgpcnhdkkbaaGreatDoorAGo
namespace Go.Proofs.YtpfkgpcnhdkkbaaGreatDoor
set_option linter.unusedVariables false
set_option linter.unusedSimpArgs false
set_option maxRecDepth 100000
theorem get_byA (s : ByteArray) (i : Nat) : (s.get! i).toNat = byA s i := by
 unfold byA
 simp [ByteArray.get!, List.getD_eq_getElem?_getD, Array.getElem!_eq_getD]
 rfl
theorem suf_byA (s : ByteArray) (i j : Nat) : byA (suf s i) j = byA s (i + j) := ex_byA s i j
theorem decGo_at (s : ByteArray) (i : Nat) (h : i < s.size) : Lib.decodeGo (suf s i) = Lib.decodeN (s.size - i) (byA s i) (byA s (i + 1)) (byA s (i + 2)) (byA s (i + 3)) := by
 have hs := suf_size s i
 unfold Lib.decodeGo
 rw [if_neg (by omega), Lib.decode_at, get_byA, get_byA, get_byA, get_byA, suf_byA, suf_byA, suf_byA, suf_byA, hs]
 simp
theorem decN_high (n b0 b1 b2 b3 : Nat) (h : 128 ≤ b0) : 128 ≤ (Lib.decodeN n b0 b1 b2 b3).1 := by
 unfold Lib.decodeN
 repeat' split
 all_goals (simp only; omega)
def jLow (esc : Bool) (c : Nat) : List UInt8 :=
 if c = 34 ∨ c = 92 then [92, UInt8.ofNat c]
  else if c = 8 ∨ c = 9 ∨ c = 10 ∨ c = 12 ∨ c = 13 then [92, esLet c]
  else if c < 32 ∨ (esc = true ∧ (c = 60 ∨ c = 62 ∨ c = 38)) then [92, 117, 48, 48, hexd (c / 16), hexd (c % 16)] else [UInt8.ofNat c]
theorem jLow_fin : ∀ (e : Bool) (c : Fin 128), jesc e (UInt8.ofNat c.val) = jLow e c.val := by decide +kernel
theorem jLow_at (e : Bool) (b : UInt8) (h : b.toNat < 128) : jesc e b = jLow e b.toNat := by
 have := jLow_fin e ⟨b.toNat, h⟩
 simpa using this
theorem drop_first (s : ByteArray) (i : Nat) (h : i < s.size) : (s.data.toList.drop i).take 1 = [s.data.toList.getD i 0] := by
 have h' : i < s.data.toList.length := by rw [Array.length_toList]; exact h
 rw [List.drop_eq_getElem_cons h']
 simp [List.getD_eq_getElem?_getD, List.getElem?_eq_getElem h']
theorem step_eq (esc : Bool) (s : ByteArray) (i : Nat) (h : i < s.size) (hu : 1 ≤ (xrA s i).1) : jstep esc s i = sstep esc s i := by
 have hb : (s.data.toList.getD i 0).toNat = byA s i := rfl
 have hx : xrA s i = xrN (s.size - i) (byA s i) (byA s (i + 1)) (byA s (i + 2)) (byA s (i + 3)) := rfl
 by_cases h1 : byA s i < 128
 ·rw [xrN_one _ _ _ _ _ (by omega) h1] at hx
  unfold jstep sstep
  rw [hx, if_pos (by rw [hb]; exact h1)]
  simp only
  refine Prod.ext ?_ rfl
  simp only
  rw [jLow_at esc _ (by rw [hb]; exact h1), hb]
  unfold jLow
  have h3 : ¬ (byA s i = 8232 ∨ byA s i = 8233) := by omega
  rw [if_neg h3, drop_first s i h]
  have : UInt8.ofNat (byA s i) = s.data.toList.getD i 0 := by rw [← hb]; simp
  rw [this]
 ·obtain ⟨h2, h3, h4⟩ := xrN_cases (s.size - i) (byA s i) (byA s (i + 1)) (byA s (i + 2)) (byA s (i + 3)) (by rw [← hx]; intro e; rw [e] at hu; simp at hu)
  have hg := decGo_at s i h
  have hh := decN_high (s.size - i) (byA s i) (byA s (i + 1)) (byA s (i + 2)) (byA s (i + 3)) (by omega)
  rw [h3] at hx
  unfold jstep sstep
  rw [hg, hx, if_neg (by rw [hb]; exact h1)]
  generalize hD : Lib.decodeN (s.size - i) (byA s i) (byA s (i + 1)) (byA s (i + 2)) (byA s (i + 3)) = D at *
  obtain ⟨c, n⟩ := D
  simp only at hh ⊢
  rw [if_neg (by rintro ⟨rfl, rfl⟩; exact h4 rfl)]
  have k1 : ¬ (c = 34 ∨ c = 92) := by omega
  have k2 : ¬ (c = 8 ∨ c = 9 ∨ c = 10 ∨ c = 12 ∨ c = 13) := by omega
  have k3 : ¬ (c < 32 ∨ (esc = true ∧ (c = 60 ∨ c = 62 ∨ c = 38))) := by omega
  rw [if_neg k1, if_neg k2, if_neg k3]
  by_cases hc : c = 8232 ∨ c = 8233
  ·rw [if_pos hc, if_pos hc]
   rcases hc with rfl | rfl <;> rfl
  ·rw [if_neg hc, if_neg hc]
theorem from_eq (esc : Bool) (s : ByteArray) : ∀ f i, u8At s f i → jfrom esc s f i = sfrom esc s f i
 | 0, i, _ => rfl
 | f + 1, i, h => by
  unfold jfrom sfrom
  by_cases hlt : i < s.size
  ·obtain ⟨h1, h2⟩ : 1 ≤ (xrA s i).1 ∧ u8At s f (i + (xrA s i).1) := h.resolve_left (by omega)
   rw [if_pos hlt, if_pos hlt, step_eq esc s i hlt h1]
   exact congrArg ((sstep esc s i).1 ++ ·) (from_eq esc s f _ h2)
  ·rw [if_neg hlt, if_neg hlt]
theorem jout_eq (esc : Bool) (s : ByteArray) (h : UT s) : jout esc s = sout esc s := by
 unfold jout sout
 rw [from_eq esc s _ _ h]

def sItems : List (List UInt8) → List UInt8
 | [] => []
 | x :: r => x ++ r.flatMap (fun y => 44 :: y)
theorem sItems_snoc (l : List (List UInt8)) (x : List UInt8) : sItems (l ++ [x]) = if l = [] then x else sItems l ++ 44 :: x := by
 cases l with
 | nil => simp [sItems]
 | cons a r => simp [sItems, List.flatMap_append]
theorem flat_comma : ∀ (l : List (List UInt8)), l ≠ [] → l.flatMap (fun y => y ++ [44]) = sItems l ++ [44]
 | [], h => absurd rfl h
 | [x], _ => by simp [sItems]
 | x :: y :: r, _ => by
  have := flat_comma (y :: r) (by simp)
  rw [List.flatMap_cons, this]
  simp [sItems]
structure FitR {K : Type} (fk : K → Prop) (t : VR K) : Prop where
 text : t.text.size ≤ 300 ∧ UT t.text
 more : t.more.size ≤ 300 ∧ UT t.more
 b : t.b.length ≤ 300
 rising : t.kind = 11 → Rising t.more.data.toList
 ptr : t.kind = 12 → sout true t.text = 34 :: (t.text.data.toList ++ [34])
 kids : ∀ p ∈ t.kids, p.1.size ≤ 300 ∧ UT p.1 ∧ fk p.2
structure RightR {K : Type} (fk : K → Prop) (t : VR K) : Prop where
 kind : (1 ≤ t.kind ∧ t.kind ≤ 19) ∨ t.kind = 127 ∨ t.kind = 255
 bin : t.kind = 5 → 0 ≤ t.n ∧ t.n ≤ 255
 id : t.kind = 7 ∨ t.kind = 12 → t.b.length = 12
 bool : t.kind = 8 → t.n = 0 ∨ t.n = 1
 i32 : t.kind = 16 → -2147483648 ≤ t.n ∧ t.n ≤ 2147483647
 kids : (t.kind = 3 ∨ t.kind = 4 ∨ t.kind = 15) → ∀ p ∈ t.kids, fk p.2
def FitV : (d : Nat) → VT d → Prop
 | 0, t => t.elim
 | d + 1, t => FitR (FitV d) t
def RightV : (d : Nat) → VT d → Prop
 | 0, t => t.elim
 | d + 1, t => RightR (RightV d) t
def cntR {K : Type} (f : K → Nat) (t : VR K) : Nat := 1 + (t.kids.map fun p => f p.2).sum
def cntV : (d : Nat) → VT d → Nat
 | 0, t => t.elim
 | d + 1, t => cntR (cntV d) t
def decT (h l : Nat) : List UInt8 :=
 if h / 288230376151711744 % 32 = 31 then [78, 97, 78]
 else if h / 288230376151711744 % 32 = 30 then (if h / 9223372036854775808 % 2 = 1 then [45] else []) ++ [73, 110, 102, 105, 110, 105, 116, 121]
 else if h / 2305843009213693952 % 4 = 3 then decFin (decide (h / 9223372036854775808 % 2 = 1)) 0 ((h / 140737488355328 % 16384 : Nat) - 6176)
 else decFin (decide (h / 9223372036854775808 % 2 = 1)) (h % 562949953421312 * 18446744073709551616 + l) ((h / 562949953421312 % 16384 : Nat) - 6176)
noncomputable def aux0 : Aux := ⟨fun b => ⟨(dblT b).toArray⟩, fun h l => ⟨(decT h l).toArray⟩, b6B, fun s => s⟩

def spMem (esc : Bool) {K : Type} (f : K → List UInt8) (l : List (ByteArray × K)) : List (List UInt8) := l.map fun p => sout esc p.1 ++ 58 :: f p.2
def spItem {K : Type} (f : K → List UInt8) (l : List (ByteArray × K)) : List (List UInt8) := l.map fun p => f p.2
def spDoc (esc : Bool) {K : Type} (f : K → List UInt8) (l : List (ByteArray × K)) : List UInt8 := 123 :: (sItems (spMem esc f l) ++ [125])
def spArr {K : Type} (f : K → List UInt8) (l : List (ByteArray × K)) : List UInt8 := 91 :: (sItems (spItem f l) ++ [93])
noncomputable def spR (esc : Bool) {K : Type} (f : K → List UInt8) (t : VR K) : List UInt8 :=
 if t.kind = 1 then dblOut (aux0.dbl t.bits)
 else if t.kind = 2 then sout esc t.text
 else if t.kind = 3 then spDoc esc f t.kids
 else if t.kind = 4 then spArr f t.kids
 else if t.kind = 5 then [123, 34, 36, 98, 105, 110, 97, 114, 121, 34, 58, 123, 34, 98, 97, 115, 101, 54, 52, 34, 58, 34] ++ b6 t.b ++ [34, 44, 34, 115, 117, 98, 84, 121, 112, 101, 34, 58, 34] ++ (hex2B (t.n % 256).toNat).data.toList ++ [34, 125, 125]
 else if t.kind = 6 then [123, 34, 36, 117, 110, 100, 101, 102, 105, 110, 101, 100, 34, 58, 116, 114, 117, 101, 125]
 else if t.kind = 7 then [123, 34, 36, 111, 105, 100, 34, 58, 34] ++ (hexB t.b).data.toList ++ [34, 125]
 else if t.kind = 8 then Lib.formatBool (decide (t.n = 1))
 else if t.kind = 9 then [123, 34, 36, 100, 97, 116, 101, 34, 58, 123, 34, 36, 110, 117, 109, 98, 101, 114, 76, 111, 110, 103, 34, 58, 34] ++ Lib.itoa t.n ++ [34, 125, 125]
 else if t.kind = 10 then [110, 117, 108, 108]
 else if t.kind = 11 then [123, 34, 36, 114, 101, 103, 117, 108, 97, 114, 69, 120, 112, 114, 101, 115, 115, 105, 111, 110, 34, 58, 123, 34, 112, 97, 116, 116, 101, 114, 110, 34, 58] ++ sout esc t.text ++ ([44, 34, 111, 112, 116, 105, 111, 110, 115, 34, 58] : List UInt8) ++ sout esc t.more ++ [125, 125]
 else if t.kind = 12 then [123, 34, 36, 100, 98, 80, 111, 105, 110, 116, 101, 114, 34, 58, 123, 34, 36, 114, 101, 102, 34, 58] ++ sout esc t.text ++ ([44, 34, 36, 105, 100, 34, 58, 123, 34, 36, 111, 105, 100, 34, 58, 34] : List UInt8) ++ (hexB t.b).data.toList ++ [34, 125, 125, 125]
 else if t.kind = 13 then [123, 34, 36, 99, 111, 100, 101, 34, 58] ++ sout esc t.text ++ [125]
 else if t.kind = 14 then [123, 34, 36, 115, 121, 109, 98, 111, 108, 34, 58] ++ sout esc t.text ++ [125]
 else if t.kind = 15 then [123, 34, 36, 99, 111, 100, 101, 34, 58] ++ sout esc t.text ++ ([44, 34, 36, 115, 99, 111, 112, 101, 34, 58] : List UInt8) ++ spDoc esc f t.kids ++ [125]
 else if t.kind = 16 then Lib.itoa t.n
 else if t.kind = 17 then [123, 34, 36, 116, 105, 109, 101, 115, 116, 97, 109, 112, 34, 58, 123, 34, 116, 34, 58] ++ (decB (t.bits / 4294967296)).data.toList ++ ([44, 34, 105, 34, 58] : List UInt8) ++ (decB (t.bits % 4294967296)).data.toList ++ [125, 125]
 else if t.kind = 18 then Lib.itoa t.n
 else if t.kind = 19 then [123, 34, 36, 110, 117, 109, 98, 101, 114, 68, 101, 99, 105, 109, 97, 108, 34, 58, 34] ++ decT t.high t.bits ++ [34, 125]
 else if t.kind = 255 then [123, 34, 36, 109, 105, 110, 75, 101, 121, 34, 58, 49, 125]
 else [123, 34, 36, 109, 97, 120, 75, 101, 121, 34, 58, 49, 125]
noncomputable def spV (esc : Bool) : (d : Nat) → VT d → List UInt8
 | 0, t => t.elim
 | d + 1, t => spR esc (spV esc d) t

theorem dec_le (neg : Bool) (C : Nat) (e : Int) (hC : Lib.nDigits C ≤ 35) (he : -6176 ≤ e ∧ e ≤ 11000) : (decFin neg C e).length ≤ 1000 := by
 have hp := Lib.nDigits_pos C
 have hl := Lib.decDigits_length C
 have hi : ∀ x : Int, -20000 ≤ x → x ≤ 20000 → (Lib.itoa x).length ≤ 100 := fun x h1 h2 => by have := Lib.itoa_length_le x (by omega) (by omega); omega
 unfold decFin
 have h1 : (decBody C e).2.length ≤ 200 ∧ -20000 ≤ (decBody C e).1 ∧ (decBody C e).1 ≤ 20000 := by
  unfold decBody
  split
  ·refine ⟨?_, by show _ ≤ e + _ - 1; omega, by show e + _ - 1 ≤ _; omega⟩
   split
   ·rw [hl]; omega
   ·simp [padD_length]; omega
  ·split
   ·exact ⟨by rw [hl]; omega, by simp, by simp⟩
   ·refine ⟨?_, by simp, by simp⟩
    simp only [List.length_append, List.length_cons, padD_length]
    have h2 := Lib.decDigits_length (C / 10 ^ e.natAbs)
    have h3 : Lib.nDigits (C / 10 ^ e.natAbs) ≤ 35 := by
     rcases nd_div C e.natAbs with h | h
     ·omega
     ·rw [h, Lib.nDigits_small (by omega)]; omega
    omega
 have h2 : (decExpT (decBody C e).1).length ≤ 102 := by
  unfold decExpT
  split
  ·have := hi _ h1.2.1 h1.2.2; simp; omega
  ·split
   ·have := hi _ h1.2.1 h1.2.2; simp; omega
   ·simp
 simp only [List.length_append]
 have h3 : (if neg = true then ([45] : List UInt8) else []).length ≤ 1 := by split <;> simp
 omega
def FitD : Nat → (d : Nat) → VT d → Prop
 | _, 0, t => t.elim
 | 0, _ + 1, _ => False
 | n + 1, d + 1, t => FitR (FitD n d) t
theorem FitD.fit : ∀ (n d : Nat) (t : VT d), FitD n d t → FitV d t
 | _, 0, t, _ => t.elim
 | 0, _ + 1, _, h => h.elim
 | n + 1, d + 1, t, h => ⟨h.text, h.more, h.b, h.rising, h.ptr, fun p hp => ⟨(h.kids p hp).1, (h.kids p hp).2.1, FitD.fit n d _ (h.kids p hp).2.2⟩⟩
end Go.Proofs.YtpfkgpcnhdkkbaaGreatDoor
