import Derived.Test.YtpfkgpcnhdkkbaaGreatDoorATabs
import Derived.Lib.BufferWrite
import Derived.Deep.CutRange
namespace Go.Proofs.YtpfkgpcnhdkkbaaGreatDoor
open Go.RowKit
set_option linter.unusedVariables false
set_option linter.unusedSimpArgs false

def IsB (B b : Nat) (l : List UInt8) (w : World) : Prop := Lib.IsBuffer 64 5 B b (Lib.byteCells l) w
theorem wb {B b : Nat} {l : List UInt8} {w : World} (h : IsB B b l w) (c : UInt8) (x : Int) (hx : x = (c.toNat : Int)) (hBw : B ≤ w.heap.size) (hl : l.length + 1 ≤ 140737488355328) :
  Calls Tryz.prog 143 #[.pointer (some ⟨b, 0, none⟩), .int .u8 x] w fun e w' => e = .returned .nilIface ∧ IsB B b (l ++ [c]) w' ∧ Below B w w' :=
 (Tryz.Buffer_WriteByte_k B b _ x w h hBw (Lib.byteCells_one _) (by rw [Lib.byteCells_length]; exact hl)).mono fun e w' ⟨h1, h2, h3, _⟩ =>
  ⟨h1, by subst hx; unfold IsB; rw [Lib.byteCells_append]; exact h2, h3⟩
theorem ws {B b : Nat} {l : List UInt8} {w : World} (h : IsB B b l w) (s : ByteArray) (hBw : B ≤ w.heap.size) (hl : l.length + s.size ≤ 140737488355328) :
  Calls Tryz.prog 144 #[.pointer (some ⟨b, 0, none⟩), .string s] w fun e w' => e = .returned (.tuple #[.int .i64 s.size, .nilIface]) ∧ IsB B b (l ++ s.data.toList) w' ∧ Below B w w' :=
 (Tryz.Buffer_WriteString_k B b _ s w h hBw (Lib.byteCells_one _) (by rw [Lib.byteCells_length]; exact hl)).mono fun e w' ⟨h1, h2, h3, _⟩ =>
  ⟨h1, by unfold IsB; rw [Lib.byteCells_append]; exact h2, h3⟩

theorem byte_at (s : ByteArray) (q : Nat) (h : q < s.size) : s[q]'h = s.data.toList.getD q 0 := by
 have h' : q < s.data.toList.length := by rw [Array.length_toList]; exact h
 rw [List.getD_eq_getElem?_getD, List.getElem?_eq_getElem h']
 rfl
theorem safe_cases {esc : Bool} {n : Nat} (h : safeB esc n = true) : safeB true n = true ∨ (safeB true n = false ∧ esc = false ∧ safeB false n = true) := by
 cases esc with
 | true => exact .inl h
 | false => cases hh : safeB true n with
  | true => exact .inl rfl
  | false => exact .inr ⟨rfl, rfl, h⟩
theorem unsafe_cases {esc : Bool} {n : Nat} (h : safeB esc n = false) : safeB true n = false ∧ (esc = true ∨ (esc = false ∧ safeB false n = false)) := by
 cases esc with
 | true => exact ⟨h, .inl rfl⟩
 | false =>
  refine ⟨?_, .inr ⟨rfl, h⟩⟩
  cases hh : safeB true n with
  | false => rfl
  | true => unfold safeB at h hh; simp_all
theorem keep_step {esc : Bool} {s : ByteArray} {p q f n : Nat} {acc tot : List UInt8} (hpq : p ≤ q) (hlt : q < s.size) (h1 : (jstep esc s q).1 = (s.data.toList.drop q).take n) (h2 : (jstep esc s q).2 = n)
  (HE : acc ++ ((s.data.toList.drop p).take (q - p) ++ jfrom esc s (f + 1) q) = tot) : acc ++ ((s.data.toList.drop p).take (q + n - p) ++ jfrom esc s f (q + n)) = tot := by
 rw [← HE]
 rw [show jfrom esc s (f + 1) q = (jstep esc s q).1 ++ jfrom esc s f (q + (jstep esc s q).2) from by rw [jfrom, if_pos hlt], h1, h2]
 rw [show q + n - p = (q - p) + n from by omega, List.take_add, List.drop_drop, show p + (q - p) = q from by omega]
 simp
theorem flush_step {esc : Bool} {s : ByteArray} {p q f n : Nat} {acc tot o : List UInt8} (hlt : q < s.size) (h : jstep esc s q = (o, n))
  (HE : acc ++ ((s.data.toList.drop p).take (q - p) ++ jfrom esc s (f + 1) q) = tot) : (acc ++ ((s.data.toList.drop p).take (q - p) ++ o)) ++ ((s.data.toList.drop (q + n)).take (q + n - (q + n)) ++ jfrom esc s f (q + n)) = tot := by
 rw [← HE]
 rw [show jfrom esc s (f + 1) q = (jstep esc s q).1 ++ jfrom esc s f (q + (jstep esc s q).2) from by rw [jfrom, if_pos hlt], h]
 simp
theorem drop_one {s : ByteArray} {q : Nat} {c : UInt8} (hlt : q < s.size) (hc : s.data.toList.getD q 0 = c) : [c] = (s.data.toList.drop q).take 1 := by
 have h' : q < s.data.toList.length := by rw [Array.length_toList]; exact hlt
 rw [List.take_one, List.head?_drop, List.getElem?_eq_getElem h', ← hc, List.getD_eq_getElem?_getD, List.getElem?_eq_getElem h']
 rfl
theorem cut_data (s : ByteArray) (p q : Nat) (hq : q ≤ s.size) : (s.extract p q).data.toList = (s.data.toList.drop p).take (q - p) := Lib.extract_data s p q
theorem acc_len {s : ByteArray} {p q n : Nat} {acc o : List UInt8} (ha : acc.length ≤ 6 * p) (hpq : p ≤ q) (ho : o.length ≤ 6 * n) : (acc ++ ((s.data.toList.drop p).take (q - p) ++ o)).length ≤ 6 * (q + n) := by
 have : ((s.data.toList.drop p).take (q - p)).length ≤ q - p := List.length_take_le _ _
 simp only [List.length_append]
 omega
theorem jesc_un {esc : Bool} {c : UInt8} (h : ¬ safeB esc c.toNat = true) : jesc esc c = if c.toNat = 92 ∨ c.toNat = 34 then [92, c] else if c.toNat = 10 then [92, 110] else if c.toNat = 13 then [92, 114]
 else if c.toNat = 9 then [92, 116] else if c.toNat = 8 then [92, 98] else if c.toNat = 12 then [92, 102] else [92, 117, 48, 48, hexd (c.toNat / 16), hexd (c.toNat % 16)] := by
 unfold jesc
 rw [if_neg h]
theorem jstep_bad {esc : Bool} {s : ByteArray} {q : Nat} (h : ¬ (s.data.toList.getD q 0).toNat < 128) (h1 : (Lib.decodeGo (suf s q)).1 = 65533) (h2 : (Lib.decodeGo (suf s q)).2 = 1) :
  jstep esc s q = ([92, 117, 102, 102, 102, 100], 1) := by
 unfold jstep
 rw [if_neg h, if_pos ⟨h1, h2⟩]
theorem jstep_line {esc : Bool} {s : ByteArray} {q r n : Nat} (h : ¬ (s.data.toList.getD q 0).toNat < 128) (h1 : (Lib.decodeGo (suf s q)).1 = r) (h2 : (Lib.decodeGo (suf s q)).2 = n) (hr : r = 8232 ∨ r = 8233) :
  jstep esc s q = ([92, 117, 50, 48, 50, hexd (r % 16)], n) := by
 unfold jstep
 rw [if_neg h, if_neg (by rw [h1]; omega), if_pos (by rw [h1]; exact hr), h1, h2]
theorem jstep_keep {esc : Bool} {s : ByteArray} {q r n : Nat} (h : ¬ (s.data.toList.getD q 0).toNat < 128) (h1 : (Lib.decodeGo (suf s q)).1 = r) (h2 : (Lib.decodeGo (suf s q)).2 = n) (hb : ¬ (r = 65533 ∧ n = 1)) (hr : ¬ (r = 8232 ∨ r = 8233)) :
  jstep esc s q = ((s.data.toList.drop q).take n, n) := by
 unfold jstep
 rw [if_neg h, if_neg (by rw [h1, h2]; exact hb), if_neg (by rw [h1]; exact hr), h2]
theorem IsB.below {B b : Nat} {l : List UInt8} {w w' : World} (h : IsB B b l w) (hb : Below w.heap.size w w') : IsB B b l w' := by
 obtain ⟨hB, v, lr, hbk, hown, hne⟩ := h
 exact ⟨hB, v, lr, (hb.block b (blk_lt hbk)).trans hbk, ownsRow_of_block hown (fun k hk => hb.block k (own_lt hown k hk)), hne⟩
theorem ex_len (s : ByteArray) (p q : Nat) (hq : q ≤ s.size) : (s.extract p q).data.toList.length ≤ s.size := by
 rw [cut_data _ _ _ hq]
 have := List.length_take_le (q - p) (s.data.toList.drop p)
 omega
end Go.Proofs.YtpfkgpcnhdkkbaaGreatDoor
