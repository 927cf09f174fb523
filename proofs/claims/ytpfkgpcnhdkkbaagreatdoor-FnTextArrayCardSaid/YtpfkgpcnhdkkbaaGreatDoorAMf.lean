/- A value of BSON as the program holds it: a tree by depth, and what it is that slots and cells read as one. -/
import Derived.Test.YtpfkgpcnhdkkbaaGreatDoorAMg
import Derived.Test.YtpfkgpcnhdkkbaaGreatDoorAB6
import Derived.Deep.MidRow
import Derived.Handy
namespace Go.Proofs.YtpfkgpcnhdkkbaaGreatDoor
open Go.RowKit
set_option linter.unusedVariables false
set_option linter.unusedSimpArgs false

structure VR (K : Type) where
 kind : Int
 text : ByteArray
 more : ByteArray
 n : Int
 bits : Nat
 high : Nat
 b : List UInt8
 kids : List (ByteArray × K)
def VT : Nat → Type
 | 0 => Empty
 | d + 1 => VR (VT d)

def BytesV (w : World) (v : Value) (l : List UInt8) : Prop := ∃ A c, v = .slice A l.length c ∧ l.length ≤ c ∧ c ≤ 140737488351232 ∧ RB w A l
def KidsV {K : Type} (w : World) (R : K → List Value → Prop) (v : Value) (l : List (ByteArray × K)) : Prop :=
 ∃ A c, v = .slice A l.length c ∧ l.length ≤ c ∧ c ≤ 140737488351232 ∧ ∀ i name k, l[i]? = some (name, k) → name.size ≤ 140737488351232 ∧ ∃ ad cs, A = some ad ∧ R k cs ∧ cs.length = 8 ∧ ∀ j u, (Value.string name :: cs)[j]? = some u → w.cell? (ad.add (9 * i + j)) = some u
def IsR {K : Type} (w : World) (R : K → List Value → Prop) (t : VR K) (cs : List Value) : Prop :=
 ∃ bv kv, cs = [.int .i64 t.kind, .string t.text, .string t.more, .int .i64 t.n, .int .u64 t.bits, .int .u64 t.high, bv, kv] ∧ I64 t.kind ∧ I64 t.n ∧ t.bits < 18446744073709551616 ∧ t.high < 18446744073709551616 ∧ t.text.size ≤ 140737488351232 ∧ t.more.size ≤ 140737488351232 ∧ BytesV w bv t.b ∧ KidsV w R kv t.kids
def IsV (w : World) : (d : Nat) → VT d → List Value → Prop
 | 0, t, _ => t.elim
 | d + 1, t, cs => IsR w (IsV w d) t cs

theorem cell_later {w w' : World} (h : Below w.heap.size w w') {p : Addr} {u : Value} (hc : w.cell? p = some u) : w'.cell? p = some u :=
 (h.cell (World.block_lt_of_cell? w _ hc)).trans hc
theorem RB.later {w w' : World} (h : Below w.heap.size w w') {A : Option Addr} {l : List UInt8} (hr : RB w A l) : RB w' A l := fun hl => by
 obtain ⟨ad, e, hc⟩ := hr hl
 exact ⟨ad, e, fun j b hb => cell_later h (hc j b hb)⟩
theorem BytesV.later {w w' : World} (h : Below w.heap.size w w') {v : Value} {l : List UInt8} (hb : BytesV w v l) : BytesV w' v l := by
 obtain ⟨A, c, e, hc, hc2, hr⟩ := hb
 exact ⟨A, c, e, hc, hc2, hr.later h⟩
theorem KidsV.later {K : Type} {w w' : World} (h : Below w.heap.size w w') {R R' : K → List Value → Prop} (hR : ∀ k cs, R k cs → R' k cs) {v : Value} {l : List (ByteArray × K)} (hk : KidsV w R v l) : KidsV w' R' v l := by
 obtain ⟨A, c, e, hc, hc2, hr⟩ := hk
 refine ⟨A, c, e, hc, hc2, fun i name k hi => ?_⟩
 obtain ⟨hn, ad, cs, e2, h1, h2, h3⟩ := hr i name k hi
 exact ⟨hn, ad, cs, e2, hR k cs h1, h2, fun j u hu => cell_later h (h3 j u hu)⟩
theorem IsV.later {w w' : World} (h : Below w.heap.size w w') : ∀ (d : Nat) (t : VT d) (cs : List Value), IsV w d t cs → IsV w' d t cs
 | 0, t, _, _ => t.elim
 | d + 1, t, cs, hv => by
  obtain ⟨bv, kv, e, h1, h2, h3, h4, h7, h8, h5, h6⟩ := hv
  exact ⟨bv, kv, e, h1, h2, h3, h4, h7, h8, h5.later h, h6.later h (fun k cs => IsV.later h d k cs)⟩
def hexB (l : List UInt8) : ByteArray := ⟨(Lib.Hx.encode l).toArray⟩
theorem hexB_size (l : List UInt8) : (hexB l).size = 2 * l.length := by
 show (Lib.Hx.encode l).toArray.size = _
 rw [List.size_toArray, Lib.Hx.encode_length]
theorem hexB_conv {w : World} {b : Nat} {T : TypeId} {l : List UInt8} (hl : l.length = 12) (h : w.rowIs b T 24 (Lib.Hx.row (fun _ => .int .u8 0) 0 l 12)) :
  (convert 23 9 (.slice (some ⟨b, 0, none⟩) 24 24)).run Tryz.prog w = .ok (.string (hexB l)) w := by
 have hs : (hexB l).size = 24 := by rw [hexB_size]; omega
 have := Lib.run_convert_whole (P := Tryz.prog) w 23 5 9 Tryz.underlying23 Tryz.underlying5 Tryz.underlying9 b 0 (hexB l) (by
  intro i hi
  have hi' : i < 24 := by omega
  rw [Nat.zero_add, h.cell hi']
  unfold Lib.Hx.row
  rw [if_pos (by omega), Nat.sub_zero]
  have hlt : i < (Lib.Hx.encode l).length := by rw [Lib.Hx.encode_length]; omega
  rw [List.getElem?_eq_getElem hlt]
  rfl) 24
 rw [hs] at this
 exact this
theorem two_alloc (w : World) (x y : Obj) : ((w.alloc x).alloc y).drew.heap[w.heap.size]? = some x ∧ ((w.alloc x).alloc y).drew.heap[w.heap.size + 1]? = some y ∧ Below w.heap.size w ((w.alloc x).alloc y).drew := by
 have h1 : (w.alloc x).heap.size = w.heap.size + 1 := by show (w.heap.push x).size = _; rw [Array.size_push]
 refine ⟨?_, ?_, ?_⟩
 ·show ((w.alloc x).alloc y).heap[w.heap.size]? = _
  exact (Below.heap_alloc (w.alloc x) y w.heap.size (by omega)).trans (heap_alloc_new w x)
 ·show ((w.alloc x).alloc y).heap[w.heap.size + 1]? = _
  rw [← h1]
  exact heap_alloc_new (w.alloc x) y
 ·exact ((below_allocB w x).trans ((below_allocB (w.alloc x) y).mono (by omega))).trans ⟨rfl, rfl, rfl, Nat.le_refl _, fun _ _ => rfl⟩
open Go.RowKit Go.Sort
structure Aux where
 dbl : Nat → ByteArray
 dec : Nat → Nat → ByteArray
 b64 : List UInt8 → ByteArray
 srt : ByteArray → ByteArray
def isNum (x : ByteArray) : Prop := ¬ x = ⟨#[73, 110, 102, 105, 110, 105, 116, 121]⟩ ∧ ¬ x = ⟨#[45, 73, 110, 102, 105, 110, 105, 116, 121]⟩ ∧ ¬ x = ⟨#[78, 97, 78]⟩
instance (x : ByteArray) : Decidable (isNum x) := by unfold isNum; infer_instance
def dblOut (x : ByteArray) : List UInt8 := if isNum x then x.data.toList else [123, 34, 36, 110, 117, 109, 98, 101, 114, 68, 111, 117, 98, 108, 101, 34, 58, 34] ++ x.data.toList ++ [34, 125]
def memOut (esc : Bool) {K : Type} (f : K → List UInt8) (l : List (ByteArray × K)) : List UInt8 := l.flatMap fun p => jout esc p.1 ++ [58] ++ f p.2 ++ [44]
def itemOut {K : Type} (f : K → List UInt8) (l : List (ByteArray × K)) : List UInt8 := l.flatMap fun p => f p.2 ++ [44]
def closed (l : List UInt8) (c : UInt8) : List UInt8 := if l.getLast? = some 44 then l.dropLast ++ [c] else l ++ [c]
def docOut (esc : Bool) {K : Type} (f : K → List UInt8) (l : List (ByteArray × K)) : List UInt8 := closed (123 :: memOut esc f l) 125
def arrOut {K : Type} (f : K → List UInt8) (l : List (ByteArray × K)) : List UInt8 := closed (91 :: itemOut f l) 93
def outR (a : Aux) (esc : Bool) {K : Type} (f : K → List UInt8) (t : VR K) : List UInt8 :=
 if t.kind = 1 then dblOut (a.dbl t.bits)
 else if t.kind = 2 then jout esc t.text
 else if t.kind = 3 then docOut esc f t.kids
 else if t.kind = 4 then arrOut f t.kids
 else if t.kind = 5 then [123, 34, 36, 98, 105, 110, 97, 114, 121, 34, 58, 123, 34, 98, 97, 115, 101, 54, 52, 34, 58, 34] ++ (a.b64 t.b).data.toList ++ [34, 44, 34, 115, 117, 98, 84, 121, 112, 101, 34, 58, 34] ++ (hex2B (t.n % 256).toNat).data.toList ++ [34, 125, 125]
 else if t.kind = 6 then [123, 34, 36, 117, 110, 100, 101, 102, 105, 110, 101, 100, 34, 58, 116, 114, 117, 101, 125]
 else if t.kind = 7 then [123, 34, 36, 111, 105, 100, 34, 58, 34] ++ (hexB t.b).data.toList ++ [34, 125]
 else if t.kind = 8 then Lib.formatBool (decide (t.n ≠ 0))
 else if t.kind = 9 then [123, 34, 36, 100, 97, 116, 101, 34, 58, 123, 34, 36, 110, 117, 109, 98, 101, 114, 76, 111, 110, 103, 34, 58, 34] ++ Lib.itoa t.n ++ [34, 125, 125]
 else if t.kind = 10 then [110, 117, 108, 108]
 else if t.kind = 11 then [123, 34, 36, 114, 101, 103, 117, 108, 97, 114, 69, 120, 112, 114, 101, 115, 115, 105, 111, 110, 34, 58, 123, 34, 112, 97, 116, 116, 101, 114, 110, 34, 58] ++ jout esc t.text ++ [44, 34, 111, 112, 116, 105, 111, 110, 115, 34, 58] ++ jout esc (a.srt t.more) ++ [125, 125]
 else if t.kind = 12 then [123, 34, 36, 100, 98, 80, 111, 105, 110, 116, 101, 114, 34, 58, 123, 34, 36, 114, 101, 102, 34, 58, 34] ++ t.text.data.toList ++ [34, 44, 34, 36, 105, 100, 34, 58, 123, 34, 36, 111, 105, 100, 34, 58, 34] ++ (hexB t.b).data.toList ++ [34, 125, 125, 125]
 else if t.kind = 13 then [123, 34, 36, 99, 111, 100, 101, 34, 58] ++ jout esc t.text ++ [125]
 else if t.kind = 14 then [123, 34, 36, 115, 121, 109, 98, 111, 108, 34, 58] ++ jout esc t.text ++ [125]
 else if t.kind = 15 then [123, 34, 36, 99, 111, 100, 101, 34, 58] ++ jout esc t.text ++ [44, 34, 36, 115, 99, 111, 112, 101, 34, 58] ++ docOut esc f t.kids ++ [125]
 else if t.kind = 16 then Lib.itoa t.n
 else if t.kind = 17 then [123, 34, 36, 116, 105, 109, 101, 115, 116, 97, 109, 112, 34, 58, 123, 34, 116, 34, 58] ++ (decB (t.bits / 4294967296)).data.toList ++ [44, 34, 105, 34, 58] ++ (decB (t.bits % 4294967296)).data.toList ++ [125, 125]
 else if t.kind = 18 then Lib.itoa t.n
 else if t.kind = 19 then [123, 34, 36, 110, 117, 109, 98, 101, 114, 68, 101, 99, 105, 109, 97, 108, 34, 58, 34] ++ (a.dec t.high t.bits).data.toList ++ [34, 125]
 else if t.kind = 255 then [123, 34, 36, 109, 105, 110, 75, 101, 121, 34, 58, 49, 125]
 else [123, 34, 36, 109, 97, 120, 75, 101, 121, 34, 58, 49, 125]
def outV (a : Aux) (esc : Bool) : (d : Nat) → VT d → List UInt8
 | 0, t => t.elim
 | d + 1, t => outR a esc (outV a esc d) t
set_option maxRecDepth 100000
theorem info38s : (Tryz.prog.info? 38).map (·.size) = some 9 := by kernel_rfl
def Cells8 (cs : List Value) : Prop := ∃ (k : Int) (tx mr : ByteArray) (n : Int) (b h : Nat) (A1 A2 : Option Addr) (n1 c1 n2 c2 : Nat), cs = [.int .i64 k, .string tx, .string mr, .int .i64 n, .int .u64 (b : Int), .int .u64 (h : Int), .slice A1 n1 c1, .slice A2 n2 c2]
theorem IsV.form {w : World} : ∀ {d : Nat} {t : VT d} {cs : List Value}, IsV w d t cs → Cells8 cs
 | 0, t, _, _ => t.elim
 | d + 1, t, cs, ⟨bv, kv, e, _, _, _, _, _, _, ⟨A1, c1, e1, _⟩, ⟨A2, c2, e2, _⟩⟩ => by
  subst e1 e2
  exact ⟨_, _, _, _, _, _, _, _, _, _, _, _, e⟩
theorem KidsV.elem {K : Type} {w : World} {R : K → List Value → Prop} {A : Option Addr} {n c : Nat} {l : List (ByteArray × K)} (h : KidsV w R (.slice A n c) l) {i : Nat} (hi : i < l.length) :
  ∃ (name : ByteArray) (k : K) (b o : Nat) (cs : List Value), l[i]? = some (name, k) ∧ A = some ⟨b, o, none⟩ ∧ R k cs ∧ cs.length = 8 ∧ w.rangeAt b (o + i * 9) (.string name :: cs) := by
 obtain ⟨A', c', e, hc, hc2, hr⟩ := h
 injection e with e1 e2 e3
 subst e1
 obtain ⟨⟨name, k⟩, hk⟩ : ∃ p, l[i]? = some p := ⟨_, List.getElem?_eq_getElem hi⟩
 obtain ⟨hn, ad, cs, rfl, h1, h2, h3⟩ := hr i name k hk
 obtain ⟨⟨n0, k0⟩, hk0⟩ : ∃ p, l[0]? = some p := ⟨_, List.getElem?_eq_getElem (by omega)⟩
 obtain ⟨hn0, ad0, cs0, e0, _, _, h30⟩ := hr 0 n0 k0 hk0
 obtain rfl := Option.some.inj e0
 have hs := spot_none (h30 0 (.string n0) rfl)
 obtain ⟨b, o, sp⟩ := ad
 have hs' : (⟨b, o, sp⟩ : Addr).spot = none := hs
 simp only at hs'
 subst hs'
 refine ⟨name, k, b, o, cs, hk, rfl, h1, h2, fun j v hv => ?_⟩
 have := h3 j v hv
 rw [addrP] at this
 rw [show o + i * 9 + j = o + (9 * i + j) from by omega]
 exact this
theorem rangeAt_later {w w' : World} {b o : Nat} {cs : List Value} (hr : w.rangeAt b o cs) (h : Below w.heap.size w w') : w'.rangeAt b o cs := fun j v hv =>
 (h.cell (World.block_lt_of_cell? w _ (hr j v hv))).trans (hr j v hv)
theorem info5s : (Tryz.prog.info? 5).map (·.size) = some 1 := by kernel_rfl
theorem setCell_id {w : World} {g i : Nat} {cs : Array Value} {t : TypeId} {fr : Nat × Nat} {u : Value} (h : w.heap[g]? = some (.cells cs t fr)) (hc : cs[i]? = some u) : w.setCell ⟨g, i, none⟩ u = w := by
 have hh : (w.setCell ⟨g, i, none⟩ u).heap = w.heap := by
  apply Array.ext_getElem?
  intro k
  by_cases hk : k = g
  ·subst hk
   rw [blk_set h, h]
   have hi := (Array.getElem?_eq_some_iff.1 hc)
   congr 2
   apply Array.ext_getElem?
   intro j
   rw [Array.getElem?_setIfInBounds]
   split
   ·rename_i hj
    subst hj
    rw [if_pos hi.1, hc]
   ·rfl
  ·exact Below.heap_setCell w _ u k hk
 cases w
 simp only [World.setCell] at hh ⊢
 rw [hh]
end Go.Proofs.YtpfkgpcnhdkkbaaGreatDoor
