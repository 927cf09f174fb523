/- spec.ExtText: the kinds with elements. -/
import Derived.Test.YtpfkgpcnhdkkbaaGreatDoorXf
import Derived.Test.YtpfkgpcnhdkkbaaGreatDoorKx
import Derived.Test.YtpfkgpcnhdkkbaaGreatDoorMl
import Derived.Test.YtpfkgpcnhdkkbaaGreatDoorMf
import Derived.Laws.BitsAllLaws
import Derived.Test.YtpfkgpcnhdkkbaaGreatDoorMk
namespace Go.Proofs.YtpfkgpcnhdkkbaaGreatDoor
open Go.RowKit
set_option linter.unusedVariables false
set_option linter.unusedSimpArgs false
set_option maxRecDepth 100000
set_option maxHeartbeats 1600000 in
theorem ext_doc (text more : ByteArray) (n : Int) (bits high : Nat) (bv kv : Value) (canon esc : Bool) (w : World) (s : ByteArray)
    (cx : ∀ W, Below (xW 3 text more n bits high bv kv esc w).heap.size (xW 3 text more n bits high bv kv esc w) W → Calls Tryz.prog 30 #[valV 3 text more n bits high bv kv, .bool canon, .bool esc] W fun e w' => e = .returned (.tuple #[.string s, .bool true]) ∧ Below W.heap.size W w') :
    Calls Tryz.prog 10 #[valV 3 text more n bits high bv kv, .bool canon, .bool esc] w fun e w' => e = .returned (.tuple #[.string s, .bool true]) ∧ Below w.heap.size w w' := by
  unfold valV at cx ⊢
  have HC := Lib.hid cx
  clear cx
  have HB := Lib.hid (xW_below 3 text more n bits high bv kv esc w)
  unfold xW at HB HC
  go_enter Tryz.func10, Tryz.ntmps10
  go_wp2_with (go_at_call 30; refine (HC.out _ (Below.refl _ _)).mono ?_; rintro e w1 ⟨rfl, hb1⟩)
  go_ret2
  exact ⟨rfl, HB.out.trans (hb1.mono HB.out.size)⟩
set_option maxHeartbeats 1600000 in
theorem ext_arr (text more : ByteArray) (n : Int) (bits high : Nat) (bv kv : Value) (canon esc : Bool) (w : World) (s : ByteArray)
    (cx : ∀ W, Below (xW 4 text more n bits high bv kv esc w).heap.size (xW 4 text more n bits high bv kv esc w) W → Calls Tryz.prog 30 #[valV 4 text more n bits high bv kv, .bool canon, .bool esc] W fun e w' => e = .returned (.tuple #[.string s, .bool true]) ∧ Below W.heap.size W w') :
    Calls Tryz.prog 10 #[valV 4 text more n bits high bv kv, .bool canon, .bool esc] w fun e w' => e = .returned (.tuple #[.string s, .bool true]) ∧ Below w.heap.size w w' := by
  unfold valV at cx ⊢
  have HC := Lib.hid cx
  clear cx
  have HB := Lib.hid (xW_below 4 text more n bits high bv kv esc w)
  unfold xW at HB HC
  go_enter Tryz.func10, Tryz.ntmps10
  go_wp2_with (go_at_call 30; refine (HC.out _ (Below.refl _ _)).mono ?_; rintro e w1 ⟨rfl, hb1⟩)
  go_ret2
  exact ⟨rfl, HB.out.trans (hb1.mono HB.out.size)⟩
set_option maxHeartbeats 1600000 in
theorem ext_scope (text more : ByteArray) (n : Int) (bits high : Nat) (bv : Value) (K : Option Addr) (km kc : Nat) (canon esc : Bool) (w : World) (st s : ByteArray) (h1 : st.size ≤ 100000) (h2 : s.size ≤ 1000000000)
    (cx : ∀ W, Below (xW 15 text more n bits high bv (.slice K km kc) esc w).heap.size (xW 15 text more n bits high bv (.slice K km kc) esc w) W → Calls Tryz.prog 30 #[.agg #[.int .i64 3, .string ⟨#[]⟩, .string ⟨#[]⟩, .int .i64 0, .int .u64 0, .int .u64 0, .slice none 0 0, .slice K km kc], .bool canon, .bool esc] W fun e w' => e = .returned (.tuple #[.string s, .bool true]) ∧ Below W.heap.size W w')
    (c1 : ∀ W, Below (xW 15 text more n bits high bv (.slice K km kc) esc w).heap.size (xW 15 text more n bits high bv (.slice K km kc) esc w) W → Calls Tryz.prog 23 #[.string text, .pointer (some ⟨w.heap.size + 1, 0, none⟩)] W fun e w' => e = .returned (.string st) ∧ Below W.heap.size W w') :
    Calls Tryz.prog 10 #[valV 15 text more n bits high bv (.slice K km kc), .bool canon, .bool esc] w fun e w' => e = .returned (.tuple #[.string (⟨#[123, 34, 36, 99, 111, 100, 101, 34, 58]⟩ ++ st ++ ⟨#[44, 34, 36, 115, 99, 111, 112, 101, 34, 58]⟩ ++ s ++ ⟨#[125]⟩), .bool true]) ∧ Below w.heap.size w w' := by
  unfold valV
  have HC := Lib.hid cx
  have C1 := Lib.hid c1
  clear cx c1
  have HX := Lib.hid (xW_cell 15 text more n bits high bv (.slice K km kc) esc w)
  have HB := Lib.hid (xW_below 15 text more n bits high bv (.slice K km kc) esc w)
  unfold xW at HB HC C1 HX
  go_enter Tryz.func10, Tryz.ntmps10
  go_wp2_with (first | (go_at_call 30; refine (HC.out _ (Below.refl _ _)).mono ?_; rintro e w1 ⟨rfl, hb1⟩; have hq1 : w1.cell? ⟨w.heap.size, 1, none⟩ = some (.string text) := HX.out 1 w1 hb1) | (go_at_call 23; refine (C1.out _ hb1).mono ?_; rintro e w2 ⟨rfl, hb2⟩))
  go_ret2
  exact ⟨rfl, HB.out.trans ((hb1.trans (hb2.mono hb1.size)).mono HB.out.size)⟩
theorem sItems_fl (l : List (List UInt8)) : (sItems l).length ≤ (l.flatMap (fun y => y ++ [44])).length ∧ (l ≠ [] → (sItems l).length + 1 = (l.flatMap (fun y => y ++ [44])).length) := by
  by_cases h : l = []
  · subst h; simp [sItems]
  · have := flat_comma l h
    rw [this]
    simp
theorem sItems_take (l : List (List UInt8)) (k : Nat) : (sItems (l.take k)).length ≤ (sItems l).length := by
  by_cases h : l = []
  · subst h; simp
  · have h1 := (sItems_fl (l.take k)).2
    have h2 := (sItems_fl l).2 h
    have h3 : ((l.take k).flatMap (fun y => y ++ [44])).length ≤ (l.flatMap (fun y => y ++ [44])).length := by
      conv => rhs; rw [← List.take_append_drop k l]
      rw [List.flatMap_append, List.length_append]
      omega
    by_cases h4 : l.take k = []
    · rw [h4]; simp [sItems]
    · have := h1 h4
      omega
/-- One more item on the text: with a comma ahead if it is not the first. -/
theorem sItems_next (l : List (List UInt8)) (k : Nat) (x : List UInt8) (h : l[k]? = some x) : sItems (l.take (k + 1)) = if k = 0 then x else sItems (l.take k) ++ 44 :: x := by
  rw [List.take_add_one, h]
  show sItems (l.take k ++ [x]) = _
  rw [sItems_snoc]
  by_cases hk : k = 0
  · subst hk; simp
  · rw [if_neg hk, if_neg]
    intro h2
    rcases List.take_eq_nil_iff.1 h2 with h3 | h3
    · exact hk h3
    · subst h3; simp at h
theorem nx_cat (c : UInt8) (L : List (List UInt8)) (k : Nat) (t y : ByteArray) (hT : t = ⟨(c :: sItems (L.take k)).toArray⟩) (hn : sItems (L.take (k + 1)) = if k = 0 then y.data.toList else sItems (L.take k) ++ 44 :: y.data.toList) :
    (¬ 0 < k → t ++ y = ⟨(c :: sItems (L.take (k + 1))).toArray⟩) ∧ (0 < k → t ++ ⟨#[44]⟩ ++ y = ⟨(c :: sItems (L.take (k + 1))).toArray⟩) := by
  constructor
  · intro hk
    obtain rfl : k = 0 := by omega
    rw [if_pos rfl] at hn
    rw [hn, hT]
    apply ByteArray.ext
    simp [sItems]
  · intro hk
    rw [if_neg (by omega)] at hn
    rw [hn, hT]
    apply ByteArray.ext
    simp
theorem nx_size (c : UInt8) (L : List (List UInt8)) (k : Nat) (t : ByteArray) (hT : t = ⟨(c :: sItems (L.take k)).toArray⟩) (h : (sItems L).length ≤ 1000000000) : t.size ≤ 1000000001 := by
  have := sItems_take L k
  rw [hT]
  show (c :: sItems (L.take k)).toArray.size ≤ _
  rw [List.size_toArray, List.length_cons]
  omega
/-- What extKids asks of the place where it stands. -/
structure ExtEnv (K : Type) (f : K → List UInt8) (R : K → List Value → Prop) (l : List (ByteArray × K)) (canon esc : Bool) (w0 : World) : Prop where
  names : ∀ p ∈ l, p.1.size ≤ 300 ∧ UT p.1
  cells : ∀ p ∈ l, ∀ cs, R p.2 cs → Cells8 cs
  val : ∀ p ∈ l, ∀ cs, R p.2 cs → ∀ W, Below w0.heap.size w0 W → Calls Tryz.prog 10 #[.agg cs.toArray, .bool canon, .bool esc] W fun e w' => e = .returned (.tuple #[.string ⟨(f p.2).toArray⟩, .bool true]) ∧ Below W.heap.size W w'
set_option maxHeartbeats 4000000 in
theorem extKids3 {K : Type} {f : K → List UInt8} {R : K → List Value → Prop} {l : List (ByteArray × K)} (text more : ByteArray) (vn : Int) (bits high : Nat) (bv : Value) (A : Option Addr) (n c : Nat) (canon esc : Bool) (w0 w : World)
    (E : ExtEnv K f R l canon esc w0) (hn : n = l.length) (hkv : KidsV w0 R (.slice A n c) l) (hnb : n ≤ 140737488351232) (hb : Below w0.heap.size w0 w) (hl : (sItems (spMem esc f l)).length ≤ 1000000000) :
    Calls Tryz.prog 30 #[valV 3 text more vn bits high bv (.slice A n c), .bool canon, .bool esc] w fun e w' => e = .returned (.tuple #[.string ⟨(spDoc esc f l).toArray⟩, .bool true]) ∧ Below w.heap.size w w' := by
  unfold valV
  have HE := Lib.hid E
  have HN := Lib.hid hn
  have HKV := Lib.hid hkv
  have HL := Lib.hid hl
  obtain ⟨X, hX⟩ : ∃ X, w.alloc (.cells #[.int .i64 3, .string text, .string more, .int .i64 vn, .int .u64 (bits : Int), .int .u64 (high : Int), bv, .slice A n c] 26) = X := ⟨_, rfl⟩
  have hXb : Below w.heap.size w X := hX ▸ below_allocB w _
  have hXc : ∀ W, Below X.heap.size X W → W.cell? ⟨w.heap.size, 0, none⟩ = some (.int .i64 3) := by
    intro W hW
    have hs : X.heap.size = w.heap.size + 1 := by rw [← hX]; simp
    rw [hW.cell (p := ⟨w.heap.size, 0, none⟩) (by rw [hs]; show w.heap.size < _; omega), ← hX]
    exact blk_cell (heap_alloc_new w _) 0
  have HXB := Lib.hid hXb
  have HXC := Lib.hid hXc
  have HB := Lib.hid (hb.trans (hXb.mono hb.size))
  have HX := Lib.hid hX
  clear E hn hkv hb hl hXb hXc hX
  go_enter Tryz.func30, Tryz.ntmps30
  go_wp2_with fail
  rw [HX.out]
  go_loopw [10, 22] (fun s i wr => ∃ (k : Nat) (t : ByteArray), k ≤ n ∧ s = .string t ∧ i = .int .i64 k ∧ t.size ≤ 1000000001 ∧ Hid (t = ⟨(123 :: sItems ((spMem esc f l).take k)).toArray⟩) ∧ Hid (Below X.heap.size X wr)) (fun _ i _ => n - (intOf i).toNat)
  case atStart => exact ⟨0, ⟨#[123]⟩, Nat.zero_le _, rfl, rfl, by simp [ByteArray.size], rfl, Below.refl _ _⟩
  case round =>
    obtain ⟨k, t, hk, rfl, rfl, hts, HT, HR⟩ := hrel
    by_cases hlt : k < n
    · obtain ⟨name, kd, b, o, cs, hget, rfl, hR, hcs, hrange⟩ := HKV.out.elem (i := k) (by have := HN.out; omega)
      have hmem : (name, kd) ∈ l := List.mem_of_getElem? hget
      have hbr : Below w0.heap.size w0 wr := HB.out.trans (HR.out.mono HB.out.size)
      have hrg := rangeAt_later hrange hbr
      obtain ⟨kk, tx, mr, en, vb, vh, A1, A2, n1, c1, n2, c2, rfl⟩ := HE.out.cells _ hmem cs hR
      obtain ⟨x, hx⟩ : ∃ x : ByteArray, ⟨(f kd).toArray⟩ = x := ⟨_, rfl⟩
      obtain ⟨st, hst⟩ : ∃ x : ByteArray, soutB esc name = x := ⟨_, rfl⟩
      have hnm := HE.out.names _ hmem
      have hmk : (spMem esc f l)[k]? = some (st.data.toList ++ 58 :: x.data.toList) := by
        unfold spMem
        rw [List.getElem?_map, hget, ← hx, ← hst]
        rfl
      have hnx := sItems_next _ k _ hmk
      have hnc := nx_cat 123 (spMem esc f l) k t (st ++ ⟨#[58]⟩ ++ x) HT.out (hnx.trans (by simp))
      have hle := sItems_take (spMem esc f l) (k + 1)
      have hll := HL.out
      have hxs : x.size + st.size + 1 ≤ 1000000000 := by
        have e1 : x.data.toList.length = x.size := Array.length_toList
        have e2 : st.data.toList.length = st.size := Array.length_toList
        rw [hnx] at hle
        split at hle
        · simp only [List.length_append, List.length_cons] at hle; omega
        · simp only [List.length_append, List.length_cons] at hle; omega
      have HRG := Lib.hid hrg
      have HV := Lib.hid (fun W hW => hx ▸ HE.out.val _ hmem _ hR W hW)
      have HS := Lib.hid (fun W => hst ▸ extString_any name esc W (by have := hnm.1; simp only at this; omega) hnm.2)
      have HBR := Lib.hid hbr
      have HNC := Lib.hid hnc
      clear hrange hrg hmem hget hR hbr hcs hx hst hnm hmk hnx hnc hle hll
      go_wp2_with (with_reducible show wpList _ _ _ (⟨some 26, _, _, _, _, _⟩ :: _) _ _; refine Hid.out ?_)
      refine Lib.hid ?_
      refine wpList_load_mid rfl 38 (.tmp 25) rfl b (o + k * 9) rfl [.string name, .int .i64 kk, .string tx, .string mr, .int .i64 en, .int .u64 (vb : Int), .int .u64 (vh : Int), .slice A1 n1 c1, .slice A2 n2 c2] _ HRG.out Tryz.underlying38 rfl (by rw [info38s]; rfl) ?_
      go_wp2_with (go_at_call 10; refine (HV.out _ (HBR.out.trans ((below_allocB wr _).mono HBR.out.size))).mono ?_; rintro e w2 ⟨rfl, hb2⟩; refine Hid.out ?_)
      refine Lib.hid ?_
      have hqn : w2.cell? ⟨wr.heap.size, 0, none⟩ = some (.string name) := by
        rw [hb2.cell (p := ⟨wr.heap.size, 0, none⟩) (by simp)]
        exact blk_cell (heap_alloc_new wr _) 0
      have hbx : Below X.heap.size X w2 := HR.out.trans (((below_allocB wr _).trans (hb2.mono (by simp))).mono HR.out.size)
      have hq0 := HXC.out w2 hbx
      have HB2 := Lib.hid hbx
      clear hbx hb2
      by_cases hk0 : 0 < k
      · go_wp2_with (go_at_call 24; refine (HS.out _).mono ?_; rintro e w3 ⟨rfl, hb3⟩)
        go_roundw
        case rel =>
          have hq := (by simpa only [ByteArray.append_assoc] using HNC.out.2 hk0 : t ++ ⟨#[44]⟩ ++ (st ++ ⟨#[58]⟩) ++ x = ⟨(123 :: sItems ((spMem esc f l).take (k + 1))).toArray⟩)
          exact ⟨k + 1, _, by omega, rfl, by go_num, nx_size _ _ _ _ hq HL.out, hq, HB2.out.trans (hb3.mono HB2.out.size)⟩
        case measure => simp [intOf]; omega
      · go_wp2_with (go_at_call 24; refine (HS.out _).mono ?_; rintro e w3 ⟨rfl, hb3⟩)
        go_roundw
        case rel =>
          have hq := (by simpa only [ByteArray.append_assoc] using HNC.out.1 hk0 : t ++ (st ++ ⟨#[58]⟩) ++ x = ⟨(123 :: sItems ((spMem esc f l).take (k + 1))).toArray⟩)
          exact ⟨k + 1, _, by omega, rfl, by go_num, nx_size _ _ _ _ hq HL.out, hq, HB2.out.trans (hb3.mono HB2.out.size)⟩
        case measure => simp [intOf]; omega
    · obtain rfl : k = n := by omega
      go_wp2_with fail
      have hq : t ++ ⟨#[125]⟩ = ⟨(spDoc esc f l).toArray⟩ := by
        rw [HT.out, List.take_of_length_le (by have := HN.out; rw [spMem, List.length_map]; omega)]
        apply ByteArray.ext
        simp [spDoc]
      go_ret2
      exact ⟨congrArg (fun z => Ending.returned (.tuple #[.string z, .bool true])) hq, HXB.out.trans (HR.out.mono HXB.out.size)⟩
set_option maxHeartbeats 4000000 in
theorem extKids4 {K : Type} {f : K → List UInt8} {R : K → List Value → Prop} {l : List (ByteArray × K)} (text more : ByteArray) (vn : Int) (bits high : Nat) (bv : Value) (A : Option Addr) (n c : Nat) (canon esc : Bool) (w0 w : World)
    (E : ExtEnv K f R l canon esc w0) (hn : n = l.length) (hkv : KidsV w0 R (.slice A n c) l) (hnb : n ≤ 140737488351232) (hb : Below w0.heap.size w0 w) (hl : (sItems (spItem f l)).length ≤ 1000000000) :
    Calls Tryz.prog 30 #[valV 4 text more vn bits high bv (.slice A n c), .bool canon, .bool esc] w fun e w' => e = .returned (.tuple #[.string ⟨(spArr f l).toArray⟩, .bool true]) ∧ Below w.heap.size w w' := by
  unfold valV
  have HE := Lib.hid E
  have HN := Lib.hid hn
  have HKV := Lib.hid hkv
  have HL := Lib.hid hl
  obtain ⟨X, hX⟩ : ∃ X, w.alloc (.cells #[.int .i64 4, .string text, .string more, .int .i64 vn, .int .u64 (bits : Int), .int .u64 (high : Int), bv, .slice A n c] 26) = X := ⟨_, rfl⟩
  have hXb : Below w.heap.size w X := hX ▸ below_allocB w _
  have hXc : ∀ W, Below X.heap.size X W → W.cell? ⟨w.heap.size, 0, none⟩ = some (.int .i64 4) := by
    intro W hW
    have hs : X.heap.size = w.heap.size + 1 := by rw [← hX]; simp
    rw [hW.cell (p := ⟨w.heap.size, 0, none⟩) (by rw [hs]; show w.heap.size < _; omega), ← hX]
    exact blk_cell (heap_alloc_new w _) 0
  have HXB := Lib.hid hXb
  have HXC := Lib.hid hXc
  have HB := Lib.hid (hb.trans (hXb.mono hb.size))
  have HX := Lib.hid hX
  clear E hn hkv hb hl hXb hXc hX
  go_enter Tryz.func30, Tryz.ntmps30
  go_wp2_with fail
  rw [HX.out]
  go_loopw [10, 22] (fun s i wr => ∃ (k : Nat) (t : ByteArray), k ≤ n ∧ s = .string t ∧ i = .int .i64 k ∧ t.size ≤ 1000000001 ∧ Hid (t = ⟨(91 :: sItems ((spItem f l).take k)).toArray⟩) ∧ Hid (Below X.heap.size X wr)) (fun _ i _ => n - (intOf i).toNat)
  case atStart => exact ⟨0, ⟨#[91]⟩, Nat.zero_le _, rfl, rfl, by simp [ByteArray.size], rfl, Below.refl _ _⟩
  case round =>
    obtain ⟨k, t, hk, rfl, rfl, hts, HT, HR⟩ := hrel
    by_cases hlt : k < n
    · obtain ⟨name, kd, b, o, cs, hget, rfl, hR, hcs, hrange⟩ := HKV.out.elem (i := k) (by have := HN.out; omega)
      have hmem : (name, kd) ∈ l := List.mem_of_getElem? hget
      have hbr : Below w0.heap.size w0 wr := HB.out.trans (HR.out.mono HB.out.size)
      have hrg := rangeAt_later hrange hbr
      obtain ⟨kk, tx, mr, en, vb, vh, A1, A2, n1, c1, n2, c2, rfl⟩ := HE.out.cells _ hmem cs hR
      obtain ⟨x, hx⟩ : ∃ x : ByteArray, ⟨(f kd).toArray⟩ = x := ⟨_, rfl⟩
      obtain ⟨st, hst⟩ : ∃ x : ByteArray, soutB esc name = x := ⟨_, rfl⟩
      have hnm := HE.out.names _ hmem
      have hmk : (spItem f l)[k]? = some x.data.toList := by
        unfold spItem
        rw [List.getElem?_map, hget, ← hx]
        rfl
      have hnx := sItems_next _ k _ hmk
      have hnc := nx_cat 91 (spItem f l) k t x HT.out hnx
      have hle := sItems_take (spItem f l) (k + 1)
      have hll := HL.out
      have hxs : x.size ≤ 1000000000 := by
        have e1 : x.data.toList.length = x.size := Array.length_toList
        rw [hnx] at hle
        split at hle
        · (try simp only [List.length_append, List.length_cons] at hle); omega
        · (try simp only [List.length_append, List.length_cons] at hle); omega
      have HRG := Lib.hid hrg
      have HV := Lib.hid (fun W hW => hx ▸ HE.out.val _ hmem _ hR W hW)
      have HS := Lib.hid (fun W => hst ▸ extString_any name esc W (by have := hnm.1; simp only at this; omega) hnm.2)
      have HBR := Lib.hid hbr
      have HNC := Lib.hid hnc
      clear hrange hrg hmem hget hR hbr hcs hx hst hnm hmk hnx hnc hle hll
      go_wp2_with (with_reducible show wpList _ _ _ (⟨some 26, _, _, _, _, _⟩ :: _) _ _; refine Hid.out ?_)
      refine Lib.hid ?_
      refine wpList_load_mid rfl 38 (.tmp 25) rfl b (o + k * 9) rfl [.string name, .int .i64 kk, .string tx, .string mr, .int .i64 en, .int .u64 (vb : Int), .int .u64 (vh : Int), .slice A1 n1 c1, .slice A2 n2 c2] _ HRG.out Tryz.underlying38 rfl (by rw [info38s]; rfl) ?_
      go_wp2_with (go_at_call 10; refine (HV.out _ (HBR.out.trans ((below_allocB wr _).mono HBR.out.size))).mono ?_; rintro e w2 ⟨rfl, hb2⟩; refine Hid.out ?_)
      refine Lib.hid ?_
      have hqn : w2.cell? ⟨wr.heap.size, 0, none⟩ = some (.string name) := by
        rw [hb2.cell (p := ⟨wr.heap.size, 0, none⟩) (by simp)]
        exact blk_cell (heap_alloc_new wr _) 0
      have hbx : Below X.heap.size X w2 := HR.out.trans (((below_allocB wr _).trans (hb2.mono (by simp))).mono HR.out.size)
      have hq0 := HXC.out w2 hbx
      have HB2 := Lib.hid hbx
      clear hbx hb2
      by_cases hk0 : 0 < k
      · go_wp2_with fail
        go_roundw
        case rel =>
          have hq := (HNC.out.2 hk0 : t ++ ⟨#[44]⟩ ++ x = ⟨(91 :: sItems ((spItem f l).take (k + 1))).toArray⟩)
          exact ⟨k + 1, _, by omega, rfl, by go_num, nx_size _ _ _ _ hq HL.out, hq, HB2.out⟩
        case measure => simp [intOf]; omega
      · go_wp2_with fail
        go_roundw
        case rel =>
          have hq := (HNC.out.1 hk0 : t ++ x = ⟨(91 :: sItems ((spItem f l).take (k + 1))).toArray⟩)
          exact ⟨k + 1, _, by omega, rfl, by go_num, nx_size _ _ _ _ hq HL.out, hq, HB2.out⟩
        case measure => simp [intOf]; omega
    · obtain rfl : k = n := by omega
      go_wp2_with fail
      have hq : t ++ ⟨#[93]⟩ = ⟨(spArr f l).toArray⟩ := by
        rw [HT.out, List.take_of_length_le (by have := HN.out; rw [spItem, List.length_map]; omega)]
        apply ByteArray.ext
        simp [spArr]
      go_ret2
      exact ⟨congrArg (fun z => Ending.returned (.tuple #[.string z, .bool true])) hq, HXB.out.trans (HR.out.mono HXB.out.size)⟩
theorem read_max : Ieee.double.read 9218868437227405311 = .number false 9007199254740991 971 := by decide +kernel
theorem neg_small {x : Nat} (h : 9223372036854775808 ≤ x) (hx : x < 18446744073709551616) : fBig x = false := by
  obtain ⟨e1, e2, e3⟩ := dbl_consts
  have hn : (x / Ieee.double.signWeight % 2 == 1) = true := by rw [e1]; simp; omega
  have key : (Ieee.double.read x).order (Ieee.double.read 9218868437227405311) ≠ some .gt := by
    rw [read_max]
    unfold Ieee.Format.read
    simp only [hn]
    have num : ∀ (m : Nat) (i : Int), (Ieee.Datum.number true m i).order (.number false 9007199254740991 971) ≠ some .gt := by
      intro m i hh
      unfold Ieee.Datum.order at hh
      simp only [Option.some.injEq] at hh
      have hlt : Ieee.signed true m (i - min i 971).toNat < Ieee.signed false 9007199254740991 (971 - min i 971).toNat := by
        unfold Ieee.signed
        have h1 : 0 < 9007199254740991 <<< (971 - min i 971).toNat := by rw [Nat.shiftLeft_eq]; exact Nat.mul_pos (by decide) (Nat.two_pow_pos _)
        simp only [if_true, Bool.false_eq_true, if_false]
        obtain ⟨p, hp⟩ : ∃ p, m <<< (i - min i 971).toNat = p := ⟨_, rfl⟩
        obtain ⟨q, hq⟩ : ∃ q, 9007199254740991 <<< (971 - min i 971).toNat = q := ⟨_, rfl⟩
        rw [hp, hq]
        rw [hq] at h1
        clear hp hq
        omega
      rw [show compare (Ieee.signed true m (i - min i 971).toNat) (Ieee.signed false 9007199254740991 (971 - min i 971).toNat) = .lt from by simp [compare, compareOfLessAndEq, hlt]] at hh
      cases hh
    split
    · exact num _ _
    · split
      · exact num _ _
      · split
        · intro hh; cases hh
        · intro hh; cases hh
  unfold fBig
  rw [show FloatKind.f64.format = Ieee.double from rfl]
  show ((Ieee.double.read x).order (Ieee.double.read 9218868437227405311) == some Ordering.gt) = false
  rcases hc : (Ieee.double.read x).order (Ieee.double.read 9218868437227405311) with _ | o
  · rfl
  · rw [hc] at key
    cases o
    · rfl
    · rfl
    · exact absurd rfl key
theorem andNot63 (b : Nat) (hb : b < 18446744073709551616) : (Go.bits .andNot .u64 b 9223372036854775808).toNat = b % 9223372036854775808 := by
  rw [show (9223372036854775808 : Int) = ((9223372036854775808 : Nat) : Int) from rfl, u64_andNot_nat b 9223372036854775808 hb (by decide), Int.toNat_natCast]
  rw [show 18446744073709551615 - 9223372036854775808 = 2 ^ 63 - 1 from rfl, Nat.and_two_pow_sub_one_eq_mod]
theorem negF (b : Nat) (hb : b < 18446744073709551616) : Op.negFloat .f64 b = if b < 9223372036854775808 then b + 9223372036854775808 else b - 9223372036854775808 := by
  show b ^^^ 2 ^ 63 = _
  have h1 : (b ^^^ 2 ^ 63) % 2 ^ 63 = b % 2 ^ 63 := by rw [Nat.xor_mod_two_pow]; simp
  have h2 : (b ^^^ 2 ^ 63) / 2 ^ 63 = (b / 2 ^ 63) ^^^ 1 := by rw [Nat.xor_div_two_pow]
  have h3 : b / 2 ^ 63 = 0 ∨ b / 2 ^ 63 = 1 := by omega
  rcases h3 with h3 | h3
  · rw [h3, show 0 ^^^ 1 = 1 from rfl] at h2
    rw [if_pos (by omega)]
    omega
  · rw [h3, show 1 ^^^ 1 = 0 from rfl] at h2
    rw [if_neg (by omega)]
    omega
/-- The magnitude is infinite or not, as the text says. -/
theorem dbl_num (b : Nat) (hb : b < 18446744073709551616) (h0 : fNaN b = false) : (fBig (Go.bits .andNot .u64 b 9223372036854775808).toNat = true → ¬ isNum ⟨(dblT b).toArray⟩) ∧ (fBig (Go.bits .andNot .u64 b 9223372036854775808).toNat = false → fBig b = false ∧ fBig (Op.negFloat .f64 b) = false) := by
  rw [andNot63 b hb]
  have hn := negF b hb
  constructor
  · intro h
    by_cases hs : b < 9223372036854775808
    · rw [Nat.mod_eq_of_lt hs] at h
      unfold dblT
      rw [h0, if_neg (by decide), if_pos h]
      decide
    · rw [if_neg hs] at hn
      have h1 : fBig (Op.negFloat .f64 b) = true := by rw [hn]; rw [show b % 9223372036854775808 = b - 9223372036854775808 from by omega] at h; exact h
      unfold dblT
      rw [h0, if_neg (by decide), neg_small (by omega) hb, if_neg (by decide), if_pos h1]
      decide
  · intro h
    by_cases hs : b < 9223372036854775808
    · rw [Nat.mod_eq_of_lt hs] at h
      rw [if_pos hs] at hn
      exact ⟨h, by rw [hn]; exact neg_small (by omega) (by omega)⟩
    · rw [if_neg hs] at hn
      refine ⟨neg_small (by omega) hb, ?_⟩
      rw [hn]; rw [show b % 9223372036854775808 = b - 9223372036854775808 from by omega] at h; exact h
theorem dbl_isnum (b : Nat) (hb : b < 18446744073709551616) (h0 : fNaN b = false) (h1 : fBig b = false) (h2 : fBig (Op.negFloat .f64 b) = false) : isNum ⟨(dblT b).toArray⟩ := by
  have hx : 46 ∈ dblT b ∨ 69 ∈ dblT b := by
    unfold dblT
    rw [h0, if_neg (by decide), h1, if_neg (by decide), h2, if_neg (by decide)]
    split
    · assumption
    · left; simp
  have ne : ∀ l : List UInt8, ¬ (46 ∈ l ∨ 69 ∈ l) → ¬ (⟨(dblT b).toArray⟩ : ByteArray) = ⟨l.toArray⟩ := by
    intro l hl e
    injection e with e
    have := congrArg Array.toList e
    simp only [List.toList_toArray] at this
    rw [this] at hx
    exact hl hx
  exact ⟨ne [73, 110, 102, 105, 110, 105, 116, 121] (by decide), ne [45, 73, 110, 102, 105, 110, 105, 116, 121] (by decide), ne [78, 97, 78] (by decide)⟩
/-- A string of the reference: the bytes of a list. -/
theorem ret_eq {x : ByteArray} {l : List UInt8} (h : x.data.toList = l) : x = ⟨l.toArray⟩ := by
  apply ByteArray.ext
  rw [← h]
theorem soutS (esc : Bool) (s : ByteArray) (hs : s.size ≤ 300) (hu : UT s) : (soutB esc s).size ≤ 10000 := by
  show (sout esc s).toArray.size ≤ _
  rw [List.size_toArray, ← jout_eq esc s hu]
  have := jout_len esc s
  omega
theorem XB (kind : Int) (text more : ByteArray) (n : Int) (bits high : Nat) (bv kv : Value) (esc : Bool) (w : World) {W : World} (h : Below (xW kind text more n bits high bv kv esc w).heap.size (xW kind text more n bits high bv kv esc w) W) : Below w.heap.size w W :=
  (xW_below kind text more n bits high bv kv esc w).trans (h.mono (xW_below kind text more n bits high bv kv esc w).size)
set_option maxHeartbeats 1000000 in
theorem lv_2 {K : Type} (f : K → List UInt8) (text more : ByteArray) (n : Int) (bits high : Nat) (b : List UInt8) (kids : List (ByteArray × K)) (bv kv : Value) (esc : Bool) (w : World) (hs : text.size ≤ 300) (hu : UT text)  :
    Calls Tryz.prog 10 #[valV 2 text more n bits high bv kv, .bool false, .bool esc] w fun e w' => e = .returned (.tuple #[.string ⟨(spR esc f ⟨2, text, more, n, bits, high, b, kids⟩).toArray⟩, .bool true]) ∧ Below w.heap.size w w' := by
  have hq : soutB esc text = ⟨(spR esc f ⟨2, text, more, n, bits, high, b, kids⟩).toArray⟩ := by
    refine ret_eq ?_
    show _ = spR esc f ⟨2, text, more, n, bits, high, b, kids⟩
    unfold spR
    simp [wrapB, soutB, hexB, b6B, itoaB, decB]
  rw [← hq]
  exact ext_string text more n bits high bv kv false esc w hs hu
set_option maxHeartbeats 1000000 in
theorem lv_6 {K : Type} (f : K → List UInt8) (text more : ByteArray) (n : Int) (bits high : Nat) (b : List UInt8) (kids : List (ByteArray × K)) (bv kv : Value) (esc : Bool) (w : World)  :
    Calls Tryz.prog 10 #[valV 6 text more n bits high bv kv, .bool false, .bool esc] w fun e w' => e = .returned (.tuple #[.string ⟨(spR esc f ⟨6, text, more, n, bits, high, b, kids⟩).toArray⟩, .bool true]) ∧ Below w.heap.size w w' := by
  have hq : wrapB ⟨#[36, 117, 110, 100, 101, 102, 105, 110, 101, 100]⟩ ⟨#[116, 114, 117, 101]⟩ = ⟨(spR esc f ⟨6, text, more, n, bits, high, b, kids⟩).toArray⟩ := by
    refine ret_eq ?_
    show _ = spR esc f ⟨6, text, more, n, bits, high, b, kids⟩
    unfold spR
    simp [wrapB, soutB, hexB, b6B, itoaB, decB]
  rw [← hq]
  exact ext_undefined text more n bits high bv kv false esc w
set_option maxHeartbeats 1000000 in
theorem lv_255 {K : Type} (f : K → List UInt8) (text more : ByteArray) (n : Int) (bits high : Nat) (b : List UInt8) (kids : List (ByteArray × K)) (bv kv : Value) (esc : Bool) (w : World)  :
    Calls Tryz.prog 10 #[valV 255 text more n bits high bv kv, .bool false, .bool esc] w fun e w' => e = .returned (.tuple #[.string ⟨(spR esc f ⟨255, text, more, n, bits, high, b, kids⟩).toArray⟩, .bool true]) ∧ Below w.heap.size w w' := by
  have hq : wrapB ⟨#[36, 109, 105, 110, 75, 101, 121]⟩ ⟨#[49]⟩ = ⟨(spR esc f ⟨255, text, more, n, bits, high, b, kids⟩).toArray⟩ := by
    refine ret_eq ?_
    show _ = spR esc f ⟨255, text, more, n, bits, high, b, kids⟩
    unfold spR
    simp [wrapB, soutB, hexB, b6B, itoaB, decB]
  rw [← hq]
  exact ext_min text more n bits high bv kv false esc w
set_option maxHeartbeats 1000000 in
theorem lv_127 {K : Type} (f : K → List UInt8) (text more : ByteArray) (n : Int) (bits high : Nat) (b : List UInt8) (kids : List (ByteArray × K)) (bv kv : Value) (esc : Bool) (w : World)  :
    Calls Tryz.prog 10 #[valV 127 text more n bits high bv kv, .bool false, .bool esc] w fun e w' => e = .returned (.tuple #[.string ⟨(spR esc f ⟨127, text, more, n, bits, high, b, kids⟩).toArray⟩, .bool true]) ∧ Below w.heap.size w w' := by
  have hq : wrapB ⟨#[36, 109, 97, 120, 75, 101, 121]⟩ ⟨#[49]⟩ = ⟨(spR esc f ⟨127, text, more, n, bits, high, b, kids⟩).toArray⟩ := by
    refine ret_eq ?_
    show _ = spR esc f ⟨127, text, more, n, bits, high, b, kids⟩
    unfold spR
    simp [wrapB, soutB, hexB, b6B, itoaB, decB]
  rw [← hq]
  exact ext_max text more n bits high bv kv false esc w
set_option maxHeartbeats 1000000 in
theorem lv_10 {K : Type} (f : K → List UInt8) (text more : ByteArray) (n : Int) (bits high : Nat) (b : List UInt8) (kids : List (ByteArray × K)) (bv kv : Value) (esc : Bool) (w : World)  :
    Calls Tryz.prog 10 #[valV 10 text more n bits high bv kv, .bool false, .bool esc] w fun e w' => e = .returned (.tuple #[.string ⟨(spR esc f ⟨10, text, more, n, bits, high, b, kids⟩).toArray⟩, .bool true]) ∧ Below w.heap.size w w' := by
  have hq : (⟨#[110, 117, 108, 108]⟩ : ByteArray) = ⟨(spR esc f ⟨10, text, more, n, bits, high, b, kids⟩).toArray⟩ := by
    refine ret_eq ?_
    show _ = spR esc f ⟨10, text, more, n, bits, high, b, kids⟩
    unfold spR
    simp [wrapB, soutB, hexB, b6B, itoaB, decB]
  rw [← hq]
  exact ext_null text more n bits high bv kv false esc w
set_option maxHeartbeats 1000000 in
theorem lv_13 {K : Type} (f : K → List UInt8) (text more : ByteArray) (n : Int) (bits high : Nat) (b : List UInt8) (kids : List (ByteArray × K)) (bv kv : Value) (esc : Bool) (w : World) (hs : text.size ≤ 300) (hu : UT text)  :
    Calls Tryz.prog 10 #[valV 13 text more n bits high bv kv, .bool false, .bool esc] w fun e w' => e = .returned (.tuple #[.string ⟨(spR esc f ⟨13, text, more, n, bits, high, b, kids⟩).toArray⟩, .bool true]) ∧ Below w.heap.size w w' := by
  have hq : wrapB ⟨#[36, 99, 111, 100, 101]⟩ (soutB esc text) = ⟨(spR esc f ⟨13, text, more, n, bits, high, b, kids⟩).toArray⟩ := by
    refine ret_eq ?_
    show _ = spR esc f ⟨13, text, more, n, bits, high, b, kids⟩
    unfold spR
    simp [wrapB, soutB, hexB, b6B, itoaB, decB]
  rw [← hq]
  exact ext_js text more n bits high bv kv false esc w hs hu
set_option maxHeartbeats 1000000 in
theorem lv_14 {K : Type} (f : K → List UInt8) (text more : ByteArray) (n : Int) (bits high : Nat) (b : List UInt8) (kids : List (ByteArray × K)) (bv kv : Value) (esc : Bool) (w : World) (hs : text.size ≤ 300) (hu : UT text)  :
    Calls Tryz.prog 10 #[valV 14 text more n bits high bv kv, .bool false, .bool esc] w fun e w' => e = .returned (.tuple #[.string ⟨(spR esc f ⟨14, text, more, n, bits, high, b, kids⟩).toArray⟩, .bool true]) ∧ Below w.heap.size w w' := by
  have hq : wrapB ⟨#[36, 115, 121, 109, 98, 111, 108]⟩ (soutB esc text) = ⟨(spR esc f ⟨14, text, more, n, bits, high, b, kids⟩).toArray⟩ := by
    refine ret_eq ?_
    show _ = spR esc f ⟨14, text, more, n, bits, high, b, kids⟩
    unfold spR
    simp [wrapB, soutB, hexB, b6B, itoaB, decB]
  rw [← hq]
  exact ext_symbol text more n bits high bv kv false esc w hs hu
set_option maxHeartbeats 1000000 in
theorem lv_9 {K : Type} (f : K → List UInt8) (text more : ByteArray) (n : Int) (bits high : Nat) (b : List UInt8) (kids : List (ByteArray × K)) (bv kv : Value) (esc : Bool) (w : World) (hn : I64 n) (hT : Tabs w) (h17 : 17 ≤ w.heap.size)  :
    Calls Tryz.prog 10 #[valV 9 text more n bits high bv kv, .bool false, .bool esc] w fun e w' => e = .returned (.tuple #[.string ⟨(spR esc f ⟨9, text, more, n, bits, high, b, kids⟩).toArray⟩, .bool true]) ∧ Below w.heap.size w w' := by
  have hz := itoaB_size n hn
  have hq : wrapB ⟨#[36, 100, 97, 116, 101]⟩ (⟨#[123, 34, 36, 110, 117, 109, 98, 101, 114, 76, 111, 110, 103, 34, 58, 34]⟩ ++ itoaB n ++ ⟨#[34, 125]⟩) = ⟨(spR esc f ⟨9, text, more, n, bits, high, b, kids⟩).toArray⟩ := by
    refine ret_eq ?_
    show _ = spR esc f ⟨9, text, more, n, bits, high, b, kids⟩
    unfold spR
    simp [wrapB, soutB, hexB, b6B, itoaB, decB]
  rw [← hq]
  exact ext_date text more n bits high bv kv false esc w (itoaB n) (by omega) (fun W hW => fmtInt_any n W hn (hT.below (XB 9 text more n bits high bv kv esc w hW) h17))
set_option maxHeartbeats 1000000 in
theorem lv_16 {K : Type} (f : K → List UInt8) (text more : ByteArray) (n : Int) (bits high : Nat) (b : List UInt8) (kids : List (ByteArray × K)) (bv kv : Value) (esc : Bool) (w : World) (hn : I64 n) (hT : Tabs w) (h17 : 17 ≤ w.heap.size)  :
    Calls Tryz.prog 10 #[valV 16 text more n bits high bv kv, .bool false, .bool esc] w fun e w' => e = .returned (.tuple #[.string ⟨(spR esc f ⟨16, text, more, n, bits, high, b, kids⟩).toArray⟩, .bool true]) ∧ Below w.heap.size w w' := by
  have hz := itoaB_size n hn
  have hq : itoaB n = ⟨(spR esc f ⟨16, text, more, n, bits, high, b, kids⟩).toArray⟩ := by
    refine ret_eq ?_
    show _ = spR esc f ⟨16, text, more, n, bits, high, b, kids⟩
    unfold spR
    simp [wrapB, soutB, hexB, b6B, itoaB, decB]
  rw [← hq]
  exact ext_int32 text more n bits high bv kv esc w (itoaB n) (by omega) (fun W hW => fmtInt_any n W hn (hT.below (XB 16 text more n bits high bv kv esc w hW) h17))
set_option maxHeartbeats 1000000 in
theorem lv_18 {K : Type} (f : K → List UInt8) (text more : ByteArray) (n : Int) (bits high : Nat) (b : List UInt8) (kids : List (ByteArray × K)) (bv kv : Value) (esc : Bool) (w : World) (hn : I64 n) (hT : Tabs w) (h17 : 17 ≤ w.heap.size)  :
    Calls Tryz.prog 10 #[valV 18 text more n bits high bv kv, .bool false, .bool esc] w fun e w' => e = .returned (.tuple #[.string ⟨(spR esc f ⟨18, text, more, n, bits, high, b, kids⟩).toArray⟩, .bool true]) ∧ Below w.heap.size w w' := by
  have hz := itoaB_size n hn
  have hq : itoaB n = ⟨(spR esc f ⟨18, text, more, n, bits, high, b, kids⟩).toArray⟩ := by
    refine ret_eq ?_
    show _ = spR esc f ⟨18, text, more, n, bits, high, b, kids⟩
    unfold spR
    simp [wrapB, soutB, hexB, b6B, itoaB, decB]
  rw [← hq]
  exact ext_int64 text more n bits high bv kv esc w (itoaB n) (by omega) (fun W hW => fmtInt_any n W hn (hT.below (XB 18 text more n bits high bv kv esc w hW) h17))
theorem lv_8 {K : Type} (f : K → List UInt8) (text more : ByteArray) (n : Int) (bits high : Nat) (b : List UInt8) (kids : List (ByteArray × K)) (bv kv : Value) (esc : Bool) (w : World) (hn : n = 0 ∨ n = 1) :
    Calls Tryz.prog 10 #[valV 8 text more n bits high bv kv, .bool false, .bool esc] w fun e w' => e = .returned (.tuple #[.string ⟨(spR esc f ⟨8, text, more, n, bits, high, b, kids⟩).toArray⟩, .bool true]) ∧ Below w.heap.size w w' := by
  rcases hn with hn | hn
  · have h := ext_false text more n bits high bv kv false esc w hn
    subst hn
    exact h
  · have h := ext_true text more n bits high bv kv false esc w hn
    subst hn
    exact h
set_option maxHeartbeats 1000000 in
theorem lv_7 {K : Type} (f : K → List UInt8) (text more : ByteArray) (n : Int) (bits high : Nat) (b : List UInt8) (kids : List (ByteArray × K)) (A : Option Addr) (c : Nat) (kv : Value) (esc : Bool) (w : World) (hb : b.length = 12) (hr : RB w A b)  :
    Calls Tryz.prog 10 #[valV 7 text more n bits high (.slice A b.length c) kv, .bool false, .bool esc] w fun e w' => e = .returned (.tuple #[.string ⟨(spR esc f ⟨7, text, more, n, bits, high, b, kids⟩).toArray⟩, .bool true]) ∧ Below w.heap.size w w' := by
  have hq : wrapB ⟨#[36, 111, 105, 100]⟩ ⟨([34] ++ Lib.Hx.encode b ++ [34]).toArray⟩ = ⟨(spR esc f ⟨7, text, more, n, bits, high, b, kids⟩).toArray⟩ := by
    refine ret_eq ?_
    show _ = spR esc f ⟨7, text, more, n, bits, high, b, kids⟩
    unfold spR
    simp [wrapB, soutB, hexB, b6B, itoaB, decB]
  rw [← hq]
  exact ext_id text more n bits high A b.length c kv false esc w ⟨([34] ++ Lib.Hx.encode b ++ [34]).toArray⟩ (by simp [ByteArray.size, Lib.Hx.encode_length]; omega) (fun W hW => extID_any b.length b A c W rfl (by omega) (hr.lat (XB 7 text more n bits high (.slice A b.length c) kv esc w hW)))
set_option maxHeartbeats 1000000 in
theorem lv_5 {K : Type} (f : K → List UInt8) (text more : ByteArray) (n : Int) (bits high : Nat) (b : List UInt8) (kids : List (ByteArray × K)) (A : Option Addr) (c : Nat) (kv : Value) (esc : Bool) (w : World) (hb : b.length ≤ 300) (hn : 0 ≤ n ∧ n ≤ 255) (hr : RB w A b)  :
    Calls Tryz.prog 10 #[valV 5 text more n bits high (.slice A b.length c) kv, .bool false, .bool esc] w fun e w' => e = .returned (.tuple #[.string ⟨(spR esc f ⟨5, text, more, n, bits, high, b, kids⟩).toArray⟩, .bool true]) ∧ Below w.heap.size w w' := by
  have hq : wrapB ⟨#[36, 98, 105, 110, 97, 114, 121]⟩ (⟨#[123, 34, 98, 97, 115, 101, 54, 52, 34, 58, 34]⟩ ++ b6B b ++ ⟨#[34, 44, 34, 115, 117, 98, 84, 121, 112, 101, 34, 58, 34]⟩ ++ hex2B (n % 256).toNat ++ ⟨#[34, 125]⟩) = ⟨(spR esc f ⟨5, text, more, n, bits, high, b, kids⟩).toArray⟩ := by
    refine ret_eq ?_
    show _ = spR esc f ⟨5, text, more, n, bits, high, b, kids⟩
    unfold spR
    simp [wrapB, soutB, hexB, b6B, itoaB, decB]
  rw [← hq]
  exact ext_bin text more n bits high A b.length c kv false esc w (b6B b) (hex2B (n % 256).toNat) (by show (b6 b).toArray.size ≤ _; rw [List.size_toArray, b6_length]; omega) (by show 2 ≤ 100; omega) (fun W hW => extBase64_any b A c W (by omega) (hr.lat (XB 5 text more n bits high (.slice A b.length c) kv esc w hW))) (fun W => by have := extHex_any (n % 256).toNat (by omega) W; rwa [show (((n % 256).toNat : Nat) : Int) = n % 256 from by omega] at this)
set_option maxHeartbeats 1000000 in
theorem lv_12 {K : Type} (f : K → List UInt8) (text more : ByteArray) (n : Int) (bits high : Nat) (b : List UInt8) (kids : List (ByteArray × K)) (A : Option Addr) (c : Nat) (kv : Value) (esc : Bool) (w : World) (hs : text.size ≤ 300) (hu : UT text) (hb : b.length = 12) (hr : RB w A b)  :
    Calls Tryz.prog 10 #[valV 12 text more n bits high (.slice A b.length c) kv, .bool false, .bool esc] w fun e w' => e = .returned (.tuple #[.string ⟨(spR esc f ⟨12, text, more, n, bits, high, b, kids⟩).toArray⟩, .bool true]) ∧ Below w.heap.size w w' := by
  have h1 : (soutB esc text).size ≤ 100000 := by have := soutS esc text hs hu; omega
  obtain ⟨z, hz⟩ : ∃ z : ByteArray, ⟨([34] ++ Lib.Hx.encode b ++ [34]).toArray⟩ = z := ⟨_, rfl⟩
  have h2 : z.size ≤ 100000 := by rw [← hz]; simp [ByteArray.size, Lib.Hx.encode_length]; omega
  have hq : wrapB ⟨#[36, 100, 98, 80, 111, 105, 110, 116, 101, 114]⟩ (⟨#[123, 34, 36, 114, 101, 102, 34, 58]⟩ ++ soutB esc text ++ ⟨#[44, 34, 36, 105, 100, 34, 58, 123, 34, 36, 111, 105, 100, 34, 58]⟩ ++ z ++ ⟨#[125, 125]⟩) = ⟨(spR esc f ⟨12, text, more, n, bits, high, b, kids⟩).toArray⟩ := by
    refine ret_eq ?_
    rw [← hz]
    show _ = spR esc f ⟨12, text, more, n, bits, high, b, kids⟩
    unfold spR
    simp [wrapB, soutB, hexB, b6B, itoaB, decB]
  rw [← hq]
  exact ext_ptr text more n bits high A b.length c kv false esc w (soutB esc text) z h1 h2 (fun W hW => str_any text esc (w.heap.size + 1) W (by omega) hu (xW_esc 12 text more n bits high (.slice A b.length c) kv esc w W hW)) (fun W hW => hz ▸ extID_any b.length b A c W rfl (by omega) (hr.lat (XB 12 text more n bits high (.slice A b.length c) kv esc w hW)))
set_option maxHeartbeats 1000000 in
theorem lv_11 {K : Type} (f : K → List UInt8) (text more : ByteArray) (n : Int) (bits high : Nat) (b : List UInt8) (kids : List (ByteArray × K)) (bv kv : Value) (esc : Bool) (w : World) (hs : text.size ≤ 300) (hu : UT text) (hm : more.size ≤ 300) (hv : UT more) (hri : Rising more.data.toList) :
    Calls Tryz.prog 10 #[valV 11 text more n bits high bv kv, .bool false, .bool esc] w fun e w' => e = .returned (.tuple #[.string ⟨(spR esc f ⟨11, text, more, n, bits, high, b, kids⟩).toArray⟩, .bool true]) ∧ Below w.heap.size w w' := by
  have hq : wrapB ⟨#[36, 114, 101, 103, 117, 108, 97, 114, 69, 120, 112, 114, 101, 115, 115, 105, 111, 110]⟩ (⟨#[123, 34, 112, 97, 116, 116, 101, 114, 110, 34, 58]⟩ ++ soutB esc text ++ ⟨#[44, 34, 111, 112, 116, 105, 111, 110, 115, 34, 58]⟩ ++ soutB esc more ++ ⟨#[125]⟩) = ⟨(spR esc f ⟨11, text, more, n, bits, high, b, kids⟩).toArray⟩ := by
    refine ret_eq ?_
    show _ = spR esc f ⟨11, text, more, n, bits, high, b, kids⟩
    unfold spR
    simp [wrapB, soutB, hexB, b6B, itoaB, decB]
  rw [← hq]
  exact ext_regex text more n bits high bv kv false esc w (soutB esc text) (soutB esc more) more (by have := soutS esc text hs hu; omega) (by have := soutS esc more hm hv; omega) (fun W hW => str_any text esc (w.heap.size + 1) W (by omega) hu (xW_esc 11 text more n bits high bv kv esc w W hW)) (fun W => extSorted_any more (by omega) hri W) (fun W hW => str_any more esc (w.heap.size + 1) W (by omega) hv (xW_esc 11 text more n bits high bv kv esc w W hW))
set_option maxHeartbeats 1000000 in
theorem lv_17 {K : Type} (f : K → List UInt8) (text more : ByteArray) (n : Int) (bits high : Nat) (b : List UInt8) (kids : List (ByteArray × K)) (bv kv : Value) (esc : Bool) (w : World) (hbits : bits < 18446744073709551616) (hT : Tabs w) (h17 : 17 ≤ w.heap.size)  :
    Calls Tryz.prog 10 #[valV 17 text more n bits high bv kv, .bool false, .bool esc] w fun e w' => e = .returned (.tuple #[.string ⟨(spR esc f ⟨17, text, more, n, bits, high, b, kids⟩).toArray⟩, .bool true]) ∧ Below w.heap.size w w' := by
  have hq : wrapB ⟨#[36, 116, 105, 109, 101, 115, 116, 97, 109, 112]⟩ (⟨#[123, 34, 116, 34, 58]⟩ ++ decB (bits / 4294967296) ++ ⟨#[44, 34, 105, 34, 58]⟩ ++ decB (bits % 4294967296) ++ ⟨#[125]⟩) = ⟨(spR esc f ⟨17, text, more, n, bits, high, b, kids⟩).toArray⟩ := by
    refine ret_eq ?_
    show _ = spR esc f ⟨17, text, more, n, bits, high, b, kids⟩
    unfold spR
    simp [wrapB, soutB, hexB, b6B, itoaB, decB]
  rw [← hq]
  exact ext_ts text more n bits high bv kv false esc w (decB (bits / 4294967296)) (decB (bits % 4294967296)) hbits (by have := decB_len (bits / 4294967296) (by omega); omega) (by have := decB_len (bits % 4294967296) (by omega); omega) (fun W hW => fmtUint_any (bits / 4294967296) (by omega) W (hT.below (XB 17 text more n bits high bv kv esc w hW) h17)) (fun W hW => fmtUint_any (bits % 4294967296) (by omega) W (hT.below (XB 17 text more n bits high bv kv esc w hW) h17))
set_option maxHeartbeats 1000000 in
theorem lv_19 {K : Type} (f : K → List UInt8) (text more : ByteArray) (n : Int) (bits high : Nat) (b : List UInt8) (kids : List (ByteArray × K)) (bv kv : Value) (esc : Bool) (w : World) (hbits : bits < 18446744073709551616) (hhigh : high < 18446744073709551616) :
    Calls Tryz.prog 10 #[valV 19 text more n bits high bv kv, .bool false, .bool esc] w fun e w' => e = .returned (.tuple #[.string ⟨(spR esc f ⟨19, text, more, n, bits, high, b, kids⟩).toArray⟩, .bool true]) ∧ Below w.heap.size w w' := by
  obtain ⟨kd, ng, ds, ex, _, _, _, _, c1, c2⟩ := decOf_ex high bits hhigh hbits
  have hq : wrapB ⟨#[36, 110, 117, 109, 98, 101, 114, 68, 101, 99, 105, 109, 97, 108]⟩ (⟨#[34]⟩ ++ ⟨(decT high bits).toArray⟩ ++ ⟨#[34]⟩) = ⟨(spR esc f ⟨19, text, more, n, bits, high, b, kids⟩).toArray⟩ := by
    refine ret_eq ?_
    show _ = spR esc f ⟨19, text, more, n, bits, high, b, kids⟩
    unfold spR
    simp [wrapB, soutB, hexB, b6B, itoaB, decB]
  rw [← hq]
  exact ext_dec text more n bits high bv kv false esc w ⟨(decT high bits).toArray⟩ (by show (decT high bits).toArray.size ≤ _; rw [List.size_toArray]; exact decT_len high bits hbits) kd ng ds ex c1 c2
theorem sout_le (esc : Bool) (s : ByteArray) (hs : s.size ≤ 300) (hu : UT s) : (sout esc s).length ≤ 1900 := by
  rw [← jout_eq esc s hu]
  have := jout_len esc s
  omega
theorem sum_le {α : Type} (l : List α) (f g : α → Nat) (h : ∀ a ∈ l, f a ≤ g a) : (l.map f).sum ≤ (l.map g).sum := by
  induction l with
  | nil => simp
  | cons a l ih =>
    have h1 := h a (by simp)
    have h2 := ih (fun b hb => h b (by simp [hb]))
    simp only [List.map_cons, List.sum_cons]
    omega
theorem sItems_sum (L : List (List UInt8)) : (sItems L).length ≤ (L.map fun y => y.length + 1).sum := by
  refine Nat.le_trans (sItems_fl L).1 ?_
  induction L with
  | nil => simp
  | cons a l ih =>
    simp only [List.flatMap_cons, List.length_append, List.map_cons, List.sum_cons, List.length_cons, List.length_nil]
    omega
theorem doc_len {K : Type} (esc : Bool) (f : K → List UInt8) (cn : K → Nat) (l : List (ByteArray × K)) (h : ∀ p ∈ l, p.1.size ≤ 300 ∧ UT p.1 ∧ (f p.2).length + 2000 ≤ 8000 * cn p.2) : (spDoc esc f l).length ≤ 2 + 8000 * (l.map fun p => cn p.2).sum ∧ (spArr f l).length ≤ 2 + 8000 * (l.map fun p => cn p.2).sum := by
  have e : 8000 * (l.map fun p => cn p.2).sum = (l.map fun p => 8000 * cn p.2).sum := by
    clear h
    induction l with
    | nil => simp
    | cons a l ih => simp only [List.map_cons, List.sum_cons] at ih ⊢; omega
  rw [e]
  constructor
  · have h1 := sItems_sum (spMem esc f l)
    have h2 : ((spMem esc f l).map fun y => y.length + 1).sum ≤ (l.map fun p => 8000 * cn p.2).sum := by
      unfold spMem
      rw [List.map_map]
      refine sum_le l _ _ (fun p hp => ?_)
      obtain ⟨a, b, c⟩ := h p hp
      have := sout_le esc p.1 a b
      simp only [Function.comp, List.length_append, List.length_cons]
      omega
    unfold spDoc
    simp only [List.length_cons, List.length_append, List.length_nil]
    omega
  · have h1 := sItems_sum (spItem f l)
    have h2 : ((spItem f l).map fun y => y.length + 1).sum ≤ (l.map fun p => 8000 * cn p.2).sum := by
      unfold spItem
      rw [List.map_map]
      refine sum_le l _ _ (fun p hp => ?_)
      obtain ⟨a, b, c⟩ := h p hp
      simp only [Function.comp]
      omega
    unfold spArr
    simp only [List.length_cons, List.length_append, List.length_nil]
    omega
theorem spR_len {K : Type} (esc : Bool) (fk rk : K → Prop) (f : K → List UInt8) (cn : K → Nat) (t : VR K) (hF : FitR fk t) (hR : RightR rk t) (hn : I64 t.n) (hb : t.bits < 18446744073709551616) (hh : t.high < 18446744073709551616) (h : (t.kind = 3 ∨ t.kind = 4 ∨ t.kind = 15) → ∀ p ∈ t.kids, (f p.2).length + 2000 ≤ 8000 * cn p.2) : (spR esc f t).length + 2000 ≤ 8000 * cntR cn t := by
  obtain ⟨kind, text, more, n, bits, high, b, kids⟩ := t
  have hft := hF.text
  have hfm := hF.more
  have hfb := hF.b
  have hfk := hF.kids
  have hrk := hR.kind
  have hid := hR.id
  have hbool := hR.bool
  simp only at hft hfm hfb hfk hrk hid hn hb hh h hbool
  have s1 := sout_le esc text hft.1 hft.2
  have s2 := sout_le esc more hfm.1 hfm.2
  have e1 := dblT_len bits hb
  have e2 := decT_len high bits hb
  have e3 : (Lib.itoa n).length ≤ 100 := by have := Lib.itoa_length_le n hn.1 hn.2; omega
  have e4 := decB_len (bits / 4294967296) (by omega)
  have e5 := decB_len (bits % 4294967296) (by omega)
  have e6 : (b6 b).length ≤ 500 := by rw [b6_length]; omega
  have e7 : (Lib.Hx.encode b).length ≤ 600 := by rw [Lib.Hx.encode_length]; omega
  have hc : 1 ≤ cntR cn ⟨kind, text, more, n, bits, high, b, kids⟩ := by unfold cntR; omega
  have hk3 : (kind = 3 ∨ kind = 4 ∨ kind = 15) → (spDoc esc f kids).length + 7998 ≤ 8000 * cntR cn ⟨kind, text, more, n, bits, high, b, kids⟩ ∧ (spArr f kids).length + 7998 ≤ 8000 * cntR cn ⟨kind, text, more, n, bits, high, b, kids⟩ := by
    intro hk
    have := doc_len esc f cn kids (fun p hp => ⟨(hfk p hp).1, (hfk p hp).2.1, h hk p hp⟩)
    unfold cntR
    simp only
    omega
  generalize cntR cn ⟨kind, text, more, n, bits, high, b, kids⟩ = C at hc hk3 ⊢
  have hcase : kind = 1 ∨ kind = 2 ∨ kind = 3 ∨ kind = 4 ∨ kind = 5 ∨ kind = 6 ∨ kind = 7 ∨ kind = 8 ∨ kind = 9 ∨ kind = 10 ∨ kind = 11 ∨ kind = 12 ∨ kind = 13 ∨ kind = 14 ∨ kind = 15 ∨ kind = 16 ∨ kind = 17 ∨ kind = 18 ∨ kind = 19 ∨ kind = 127 ∨ kind = 255 := by omega
  have x4 : (decB (bits / 4294967296)).data.toList.length = (decB (bits / 4294967296)).size := Array.length_toList
  have x5 : (decB (bits % 4294967296)).data.toList.length = (decB (bits % 4294967296)).size := Array.length_toList
  have x6 : (hex2B (n % 256).toNat).data.toList.length = 2 := rfl
  have x7 : (hexB b).data.toList.length = (Lib.Hx.encode b).length := rfl
  have z6 : (hex2B (n % 256).toNat).size = 2 := rfl
  have z7 : (hexB b).size = (Lib.Hx.encode b).length := rfl
  have y6 : (hex2B (n % 256).toNat).data.size = 2 := rfl
  have y7 : (hexB b).data.size = (Lib.Hx.encode b).length := rfl
  have x8 : (Lib.formatBool (decide (n = 1))).length ≤ 10 := by unfold Lib.formatBool; split <;> decide
  have x1 : (dblOut ⟨(dblT bits).toArray⟩).length ≤ 300 := by unfold dblOut; split <;> simp <;> omega
  rcases hcase with rfl | rfl | rfl | rfl | rfl | rfl | rfl | rfl | rfl | rfl | rfl | rfl | rfl | rfl | rfl | rfl | rfl | rfl | rfl | rfl | rfl <;> unfold spR
  · show (dblOut ⟨(dblT bits).toArray⟩).length + 2000 ≤ _; omega
  · show (sout esc text).length + 2000 ≤ _; omega
  · have := hk3 (.inl rfl); show (spDoc esc f kids).length + 2000 ≤ _; omega
  · have := hk3 (.inr (.inl rfl)); show (spArr f kids).length + 2000 ≤ _; omega
  all_goals (simp; omega)
theorem spV_len (w : World) (esc : Bool) : ∀ (d : Nat) (t : VT d) (cs : List Value), IsV w d t cs → FitV d t → RightV d t → (spV esc d t).length + 2000 ≤ 8000 * cntV d t
  | 0, t, _, _, _, _ => t.elim
  | d + 1, t, cs, hv, hF, hR => by
    obtain ⟨bv, kv, rfl, hk, hn, hbits, hhigh, hts, hms, hb, hkv⟩ := hv
    obtain ⟨A2, c2, rfl, hc2, hc2b, hkr⟩ := hkv
    refine spR_len esc (FitV d) (RightV d) (spV esc d) (cntV d) t hF hR hn hbits hhigh (fun hk p hp => ?_)
    obtain ⟨i, hi, rfl⟩ := List.getElem_of_mem hp
    obtain ⟨_, ad, cs2, _, h1, _⟩ := hkr i t.kids[i].1 t.kids[i].2 (List.getElem?_eq_getElem hi)
    exact spV_len w esc d _ cs2 h1 (hF.kids _ hp).2.2 (hR.kids hk _ hp)
theorem lv_1 {K : Type} (f : K → List UInt8) (text more : ByteArray) (n : Int) (bits high : Nat) (b : List UInt8) (kids : List (ByteArray × K)) (bv kv : Value) (esc : Bool) (w : World) (hbits : bits < 18446744073709551616) (hT : Tabs w) (h17 : 17 ≤ w.heap.size) :
    Calls Tryz.prog 10 #[valV 1 text more n bits high bv kv, .bool false, .bool esc] w fun e w' => e = .returned (.tuple #[.string ⟨(spR esc f ⟨1, text, more, n, bits, high, b, kids⟩).toArray⟩, .bool true]) ∧ Below w.heap.size w w' := by
  obtain ⟨x, hx⟩ : ∃ x : ByteArray, ⟨(dblT bits).toArray⟩ = x := ⟨_, rfl⟩
  have hs : x.size ≤ 1000 := by
    rw [← hx]
    show (dblT bits).toArray.size ≤ _
    rw [List.size_toArray]
    have := dblT_len bits hbits
    omega
  have hc : ∀ W, Below (xW 1 text more n bits high bv kv esc w).heap.size (xW 1 text more n bits high bv kv esc w) W → Calls Tryz.prog 27 #[.float .f64 bits] W fun e w' => e = .returned (.string x) ∧ Below W.heap.size W w' := by
    intro W hW
    have hB := XB 1 text more n bits high bv kv esc w hW
    exact hx ▸ extDouble_any bits hbits W (hT.below hB h17).c (by have := hB.size; omega)
  have hr : spR esc f ⟨1, text, more, n, bits, high, b, kids⟩ = dblOut x := by rw [← hx]; rfl
  have hw : ¬ isNum x → wrapB ⟨#[36, 110, 117, 109, 98, 101, 114, 68, 111, 117, 98, 108, 101]⟩ (⟨#[34]⟩ ++ x ++ ⟨#[34]⟩) = ⟨(dblOut x).toArray⟩ := by
    intro hn
    refine ret_eq ?_
    unfold dblOut
    rw [if_neg hn]
    simp [wrapB]
  rw [hr]
  cases h0 : fNaN bits
  · obtain ⟨d1, d2⟩ := dbl_num bits hbits h0
    cases h1 : fBig (Go.bits .andNot .u64 bits 9223372036854775808).toNat
    · obtain ⟨g1, g2⟩ := d2 h1
      have hn := dbl_isnum bits hbits h0 g1 g2
      rw [hx] at hn
      have hq : x = ⟨(dblOut x).toArray⟩ := ret_eq (by unfold dblOut; rw [if_pos hn])
      rw [← hq]
      exact ext_dbl_fin text more n bits high bv kv esc w x hs hc h0 h1
    · have hn := d1 h1
      rw [hx] at hn
      rw [← hw hn]
      exact ext_dbl_inf text more n bits high bv kv esc w x hs hc h0 h1
  · have hn : ¬ isNum x := by
      rw [← hx]
      unfold dblT
      rw [h0, if_pos rfl]
      decide
    rw [← hw hn]
    exact ext_dbl_nan text more n bits high bv kv esc w x hs hc h0
theorem item_le (L : List (List UInt8)) (x : List UInt8) (h : x ∈ L) : x.length ≤ (sItems L).length := by
  obtain ⟨k, hk, rfl⟩ := List.getElem_of_mem h
  have h1 := sItems_next L k L[k] (List.getElem?_eq_getElem hk)
  have h2 := sItems_take L (k + 1)
  rw [h1] at h2
  split at h2
  · exact h2
  · simp only [List.length_append, List.length_cons] at h2; omega
/-- What is claimed of ExtText at one depth. -/
def ExtAt (w0 : World) (esc : Bool) (d : Nat) : Prop := ∀ (t : VT d) (cs : List Value), IsV w0 d t cs → FitV d t → RightV d t → (spV esc d t).length ≤ 1000000000 → ∀ W, Below w0.heap.size w0 W →
  Calls Tryz.prog 10 #[.agg cs.toArray, .bool false, .bool esc] W fun e w' => e = .returned (.tuple #[.string ⟨(spV esc d t).toArray⟩, .bool true]) ∧ Below W.heap.size W w'
theorem ext_env {w0 : World} {esc : Bool} {d : Nat} (IH : ExtAt w0 esc d) (l : List (ByteArray × VT d)) (hF : ∀ p ∈ l, p.1.size ≤ 300 ∧ UT p.1 ∧ FitV d p.2) (hR : ∀ p ∈ l, RightV d p.2) (hl : ∀ p ∈ l, (spV esc d p.2).length ≤ 1000000000) : ExtEnv (VT d) (spV esc d) (IsV w0 d) l false esc w0 :=
  ⟨fun p hp => ⟨(hF p hp).1, (hF p hp).2.1⟩, fun p hp cs h => h.form, fun p hp cs h W hW => IH p.2 cs h (hF p hp).2.2 (hR p hp) (hl p hp) W hW⟩
theorem doc_item_le {K : Type} (esc : Bool) (f : K → List UInt8) (l : List (ByteArray × K)) (p : ByteArray × K) (hp : p ∈ l) : (f p.2).length ≤ (sItems (spMem esc f l)).length := by
  have := item_le (spMem esc f l) (sout esc p.1 ++ 58 :: f p.2) (List.mem_map.2 ⟨p, hp, rfl⟩)
  simp only [List.length_append, List.length_cons] at this
  omega
theorem arr_item_le {K : Type} (f : K → List UInt8) (l : List (ByteArray × K)) (p : ByteArray × K) (hp : p ∈ l) : (f p.2).length ≤ (sItems (spItem f l)).length := item_le (spItem f l) (f p.2) (List.mem_map.2 ⟨p, hp, rfl⟩)
theorem ext_step (w0 : World) (esc : Bool) (hT0 : Tabs w0) (h17 : 17 ≤ w0.heap.size) (d : Nat) (IH : ExtAt w0 esc d) : ExtAt w0 esc (d + 1) := by
  intro t cs hv hF hR hl W hW
  obtain ⟨kind, text, more, n, bits, high, b, kids⟩ := t
  obtain ⟨bv, kv, rfl, hk, hn, hbits, hhigh, hts, hms, ⟨A1, c1, rfl, hc1, hc1b, hrb⟩, hkv⟩ := hv
  obtain ⟨A2, c2, rfl, hc2, hc2b, hkr⟩ := id hkv
  have hT := hT0.below hW h17
  have h17' : 17 ≤ W.heap.size := by have := hW.size; omega
  have hF' : FitR (FitV d) ⟨kind, text, more, n, bits, high, b, kids⟩ := hF
  have hR' : RightR (RightV d) ⟨kind, text, more, n, bits, high, b, kids⟩ := hR
  have hl' : (spR esc (spV esc d) ⟨kind, text, more, n, bits, high, b, kids⟩).length ≤ 1000000000 := hl
  have hfk := hF'.kids
  have hft := hF'.text
  have hfm := hF'.more
  have hfb := hF'.b
  have hri := hF'.rising
  have hrk := hR'.kind
  have hbin := hR'.bin
  have hid := hR'.id
  have hbool := hR'.bool
  have hkk := hR'.kids
  have hrb' := hrb.lat hW
  simp only at hk hn hbits hhigh hts hms hrb' hfk hft hfm hfb hri hrk hbin hid hbool hkk hl' hkv hkr hc2 hc2b hc1 hc1b ⊢
  show Calls Tryz.prog 10 #[valV kind text more n bits high (.slice A1 b.length c1) (.slice A2 kids.length c2), .bool false, .bool esc] W fun e w' => e = .returned (.tuple #[.string ⟨(spR esc (spV esc d) ⟨kind, text, more, n, bits, high, b, kids⟩).toArray⟩, .bool true]) ∧ Below W.heap.size W w'
  have hcase : kind = 1 ∨ kind = 2 ∨ kind = 3 ∨ kind = 4 ∨ kind = 5 ∨ kind = 6 ∨ kind = 7 ∨ kind = 8 ∨ kind = 9 ∨ kind = 10 ∨ kind = 11 ∨ kind = 12 ∨ kind = 13 ∨ kind = 14 ∨ kind = 15 ∨ kind = 16 ∨ kind = 17 ∨ kind = 18 ∨ kind = 19 ∨ kind = 127 ∨ kind = 255 := by omega
  rcases hcase with rfl | rfl | rfl | rfl | rfl | rfl | rfl | rfl | rfl | rfl | rfl | rfl | rfl | rfl | rfl | rfl | rfl | rfl | rfl | rfl | rfl
  · exact lv_1 _ text more n bits high b kids _ _ esc W hbits hT h17'
  · exact lv_2 _ text more n bits high b kids _ _ esc W hft.1 hft.2
  · have hl2 : (spDoc esc (spV esc d) kids).length ≤ 1000000000 := hl'
    have hl3 : (sItems (spMem esc (spV esc d) kids)).length ≤ 1000000000 := by unfold spDoc at hl2; simp only [List.length_cons, List.length_append] at hl2; omega
    exact ext_doc text more n bits high _ _ false esc W ⟨(spDoc esc (spV esc d) kids).toArray⟩ (fun W2 hW2 =>
      extKids3 text more n bits high _ A2 kids.length c2 false esc w0 W2 (ext_env IH kids hfk (hkk (by decide)) (fun p hp => Nat.le_trans (doc_item_le esc _ kids p hp) hl3)) rfl hkv (by omega) (hW.trans ((XB 3 text more n bits high _ _ esc W hW2).mono hW.size)) hl3)
  · have hl2 : (spArr (spV esc d) kids).length ≤ 1000000000 := hl'
    have hl3 : (sItems (spItem (spV esc d) kids)).length ≤ 1000000000 := by unfold spArr at hl2; simp only [List.length_cons, List.length_append] at hl2; omega
    exact ext_arr text more n bits high _ _ false esc W ⟨(spArr (spV esc d) kids).toArray⟩ (fun W2 hW2 =>
      extKids4 text more n bits high _ A2 kids.length c2 false esc w0 W2 (ext_env IH kids hfk (hkk (by decide)) (fun p hp => Nat.le_trans (arr_item_le _ kids p hp) hl3)) rfl hkv (by omega) (hW.trans ((XB 4 text more n bits high _ _ esc W hW2).mono hW.size)) hl3)
  · exact lv_5 _ text more n bits high b kids A1 c1 _ esc W hfb (hbin rfl) hrb'
  · exact lv_6 _ text more n bits high b kids _ _ esc W
  · exact lv_7 _ text more n bits high b kids A1 c1 _ esc W (hid (.inl rfl)) hrb'
  · exact lv_8 _ text more n bits high b kids _ _ esc W (hbool rfl)
  · exact lv_9 _ text more n bits high b kids _ _ esc W hn hT h17'
  · exact lv_10 _ text more n bits high b kids _ _ esc W
  · exact lv_11 _ text more n bits high b kids _ _ esc W hft.1 hft.2 hfm.1 hfm.2 (hri rfl)
  · exact lv_12 _ text more n bits high b kids A1 c1 _ esc W hft.1 hft.2 (hid (.inr rfl)) hrb'
  · exact lv_13 _ text more n bits high b kids _ _ esc W hft.1 hft.2
  · exact lv_14 _ text more n bits high b kids _ _ esc W hft.1 hft.2
  · have hr : spR esc (spV esc d) ⟨15, text, more, n, bits, high, b, kids⟩ = [123, 34, 36, 99, 111, 100, 101, 34, 58] ++ sout esc text ++ [44, 34, 36, 115, 99, 111, 112, 101, 34, 58] ++ spDoc esc (spV esc d) kids ++ [125] := by
      rfl
    rw [hr] at hl' ⊢
    have hl2 : (spDoc esc (spV esc d) kids).length ≤ 1000000000 := by simp only [List.length_cons, List.length_append, List.length_nil] at hl'; omega
    have hl3 : (sItems (spMem esc (spV esc d) kids)).length ≤ 1000000000 := by unfold spDoc at hl2; simp only [List.length_cons, List.length_append] at hl2; omega
    have h := ext_scope text more n bits high (.slice A1 b.length c1) A2 kids.length c2 false esc W (soutB esc text) ⟨(spDoc esc (spV esc d) kids).toArray⟩ (by have := soutS esc text hft.1 hft.2; omega) (by show (spDoc esc (spV esc d) kids).toArray.size ≤ _; rw [List.size_toArray]; exact hl2) (fun W2 hW2 =>
      extKids3 ⟨#[]⟩ ⟨#[]⟩ 0 0 0 _ A2 kids.length c2 false esc w0 W2 (ext_env IH kids hfk (hkk (by decide)) (fun p hp => Nat.le_trans (doc_item_le esc _ kids p hp) hl3)) rfl hkv (by omega) (hW.trans ((XB 15 text more n bits high _ _ esc W hW2).mono hW.size)) hl3) (fun W2 hW2 => str_any text esc (W.heap.size + 1) W2 (by omega) hft.2 (xW_esc 15 text more n bits high _ _ esc W W2 hW2))
    have hq : (⟨#[123, 34, 36, 99, 111, 100, 101, 34, 58]⟩ ++ soutB esc text ++ ⟨#[44, 34, 36, 115, 99, 111, 112, 101, 34, 58]⟩ ++ ⟨(spDoc esc (spV esc d) kids).toArray⟩ ++ ⟨#[125]⟩ : ByteArray) = ⟨([123, 34, 36, 99, 111, 100, 101, 34, 58] ++ sout esc text ++ [44, 34, 36, 115, 99, 111, 112, 101, 34, 58] ++ spDoc esc (spV esc d) kids ++ [125]).toArray⟩ := ret_eq (by simp [soutB])
    rw [← hq]
    exact h
  · exact lv_16 _ text more n bits high b kids _ _ esc W hn hT h17'
  · exact lv_17 _ text more n bits high b kids _ _ esc W hbits hT h17'
  · exact lv_18 _ text more n bits high b kids _ _ esc W hn hT h17'
  · exact lv_19 _ text more n bits high b kids _ _ esc W hbits hhigh
  · exact lv_127 _ text more n bits high b kids _ _ esc W
  · exact lv_255 _ text more n bits high b kids _ _ esc W
/-- spec.ExtText, relaxed, of every value that fits and is right. -/
theorem extVal_any (w0 : World) (esc : Bool) (hT0 : Tabs w0) (h17 : 17 ≤ w0.heap.size) : ∀ d, ExtAt w0 esc d
  | 0 => fun t => t.elim
  | d + 1 => ext_step w0 esc hT0 h17 d (extVal_any w0 esc hT0 h17 d)
end Go.Proofs.YtpfkgpcnhdkkbaaGreatDoor
