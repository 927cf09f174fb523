/- spec.ExtLong and ExtMember: the long text; conditions: what is answered of the elements, sizes. -/
import Derived.Test.YtpfkgpcnhdkkbaaGreatDoorAT0
import Derived.Test.YtpfkgpcnhdkkbaaGreatDoorAMa
import Derived.Test.YtpfkgpcnhdkkbaaGreatDoorAGd
namespace Go.Proofs.YtpfkgpcnhdkkbaaGreatDoor
set_option maxHeartbeats 8000000
open Go.RowKit
set_option linter.unusedVariables false
set_option linter.unusedSimpArgs false
set_option maxRecDepth 100000
def elV (name : ByteArray) (k : Int) (tx mr : ByteArray) (n : Int) (b h : Nat) (bv kv : Value) : Value := .agg #[.string name, .int .i64 k, .string tx, .string mr, .int .i64 n, .int .u64 (b : Int), .int .u64 (h : Int), bv, kv]
def mem0 (name x : ByteArray) : ByteArray := ⟨#[34]⟩ ++ name ++ ⟨#[34, 58, 32]⟩ ++ x
theorem member_any (name : ByteArray) (k : Int) (tx mr : ByteArray) (n : Int) (b h : Nat) (A1 A2 : Option Addr) (n1 c1 n2 c2 : Nat) (x : ByteArray) (hn : name.size ≤ 300) (hx : x.size ≤ 1000000000) (w : World)
  (hc : Rd 15 (valV k tx mr n b h (.slice A1 n1 c1) (.slice A2 n2 c2)) w (.string x)) : Rd 47 (elV name k tx mr n b h (.slice A1 n1 c1) (.slice A2 n2 c2)) w (.string (mem0 name x)) := by
 intro W hW
 unfold valV at hc
 unfold elV
 obtain ⟨X, hX⟩ : ∃ X, W.alloc (.cells #[.string name, .int .i64 k, .string tx, .string mr, .int .i64 n, .int .u64 (b : Int), .int .u64 (h : Int), .slice A1 n1 c1, .slice A2 n2 c2] 38) = X := ⟨_, rfl⟩
 have hXb : Below W.heap.size W X := hX ▸ below_allocB W _
 have hXs : X.heap.size = W.heap.size + 1 := by rw [← hX]; simp
 have hVc : ∀ i v, (#[.string name, .int .i64 k, .string tx, .string mr, .int .i64 n, .int .u64 (b : Int), .int .u64 (h : Int), .slice A1 n1 c1, .slice A2 n2 c2] : Array Value)[i]? = some v → ∀ V, Below X.heap.size X V → V.cell? ⟨W.heap.size, i, none⟩ = some v := by
  intro i v hv V hV
  rw [hV.cell (p := ⟨W.heap.size, i, none⟩) (by rw [hXs]; simp), ← hX]
  exact (blk_cell (heap_alloc_new W _) i).trans hv
 have HE0 := LH (hVc 0 _ rfl)
 have HE1 := LH (fun V hV => (⟨hVc 1 _ rfl V hV, hVc 2 _ rfl V hV, hVc 3 _ rfl V hV, hVc 4 _ rfl V hV, hVc 5 _ rfl V hV, hVc 6 _ rfl V hV, hVc 7 _ rfl V hV, hVc 8 _ rfl V hV⟩ : _ ∧ _ ∧ _ ∧ _ ∧ _ ∧ _ ∧ _ ∧ _))
 have HC := LH (fun V (hV : Below X.heap.size X V) => hc V (hW.trans ((hXb.trans (hV.mono hXb.size)).mono hW.size)))
 have HX := LH hX
 have HXB := LH hXb
 obtain ⟨z, hz⟩ : ∃ z, ⟨#[34]⟩ ++ name ++ ⟨#[34, 58, 32]⟩ = z := ⟨_, rfl⟩
 have hzs : z.size ≤ 304 := by rw [← hz]; simp only [ByteArray.size_append]; have : (⟨#[34]⟩ : ByteArray).size = 1 := rfl; have : (⟨#[34, 58, 32]⟩ : ByteArray).size = 3 := rfl; omega
 unfold mem0
 rw [hz]
 have HZ := LH hz
 clear hc hX hXb hXs hVc hW hz
 go_enter Tryz.func47, Tryz.ntmps47
 go_upto_region 1 with fail
 rw [HX.out]
 refine wp_region_quiet_cls (C := fun V => Below X.heap.size X V) (by kernel_rfl) (by kernel_rfl) (below_dr X 1) ?_
 refine quiet_val (.pointer (some ⟨W.heap.size, 0, none⟩)) (by kernel_rfl) (fun V hV => by go_simp) ?_
 refine quiet_val (.string name) (by kernel_rfl) (fun V hV => by have q := HE0.out V hV; go_simp) ?_
 refine quiet_val (.string (⟨#[34]⟩ ++ name)) (by kernel_rfl) (fun V hV => by go_simp; omega) ?_
 refine quiet_val (.string z) (by kernel_rfl) (fun V hV => by have q := HZ.out; go_simp; omega) ?_
 refine quiet_val (.pointer (some ⟨W.heap.size, 1, none⟩)) (by kernel_rfl) (fun V hV => by go_simp) ?_
 refine quiet_val (.agg #[.int .i64 k, .string tx, .string mr, .int .i64 n, .int .u64 (b : Int), .int .u64 (h : Int), .slice A1 n1 c1, .slice A2 n2 c2]) (by kernel_rfl) (fun V hV => by obtain ⟨q1, q2, q3, q4, q5, q6, q7, q8⟩ := HE1.out V hV; go_simp) ?_
 refine quiet_enter (.string x) 15 #[.agg #[.int .i64 k, .string tx, .string mr, .int .i64 n, .int .u64 (b : Int), .int .u64 (h : Int), .slice A1 n1 c1, .slice A2 n2 c2]] (by kernel_rfl) (fun V hV => by go_simp) (fun V hV => (HC.out V hV).mono fun e V2 ⟨q1, q2⟩ => ⟨q1, hV.trans (q2.mono hV.size)⟩) ?_
 refine quiet_val (.string (z ++ x)) (by kernel_rfl) (fun V hV => by go_simp; omega) ?_
 refine quiet_val (.string (z ++ x)) (by kernel_rfl) (fun V hV => by go_simp) ?_
 refine wpQuiet_nil ?_
 intro V hV
 go_simp
 go_wp2_with fail
 go_ret
 exact ⟨rfl, HXB.out.trans (hV.mono HXB.out.size)⟩
structure LgEnv (K : Type) (f : K → List UInt8) (R : K → List Value → Prop) (l : List (ByteArray × K)) (w0 : World) : Prop where
 names : ∀ p ∈ l, p.1.size ≤ 300
 cells : ∀ p ∈ l, ∀ cs, R p.2 cs → Cells8 cs
 val : ∀ p ∈ l, ∀ cs, R p.2 cs → ∀ W, Below w0.heap.size w0 W → Calls Tryz.prog 15 #[.agg cs.toArray] W fun e w' => e = .returned (.string ⟨(f p.2).toArray⟩) ∧ Below W.heap.size W w'
theorem long_other (k : Int) (tx mr : ByteArray) (n : Int) (b h : Nat) (A1 A2 : Option Addr) (n1 c1 n2 c2 : Nat) (S : ByteArray) (h3 : (k == 3) = false) (h4 : (k == 4) = false) (w : World)
  (hc : ∀ W, Below w.heap.size w W → Calls Tryz.prog 10 #[valV k tx mr n b h (.slice A1 n1 c1) (.slice A2 n2 c2), .bool true, .bool true] W fun e w' => e = .returned (.tuple #[.string S, .bool true]) ∧ Below W.heap.size W w') : Rd 15 (valV k tx mr n b h (.slice A1 n1 c1) (.slice A2 n2 c2)) w (.string S) := by
 intro W hW
 unfold valV at hc ⊢
 have HC := LH (fun (V : World) (hV : Below W.heap.size W V) => hc V (hW.trans (hV.mono hW.size)))
 clear hc hW
 go_enter Tryz.func15, Tryz.ntmps15
 go_wp2_with (go_at_call 10; refine (HC.out _ (below_allocB W _)).mono ?_; rintro e w1 ⟨rfl, hb1⟩)
 go_ret
 exact ⟨rfl, (below_allocB W _).trans (hb1.mono (below_allocB W _).size)⟩
theorem long_doc {K : Type} {f : K → List UInt8} {R : K → List Value → Prop} {l : List (ByteArray × K)} (text more : ByteArray) (vn : Int) (bits high : Nat) (bv : Value) (A : Option Addr) (n c : Nat) (w0 w : World)
  (E : LgEnv K f R l w0) (hn : n = l.length) (hkv : KidsV w0 R (.slice A n c) l) (hnb : n ≤ 140737488351232) (hb : Below w0.heap.size w0 w) (hl : (sItems (loMem f l)).length ≤ 1000000000) (hi : ∀ p ∈ l, (f p.2).length ≤ 1000000000) :
  Calls Tryz.prog 15 #[valV 3 text more vn bits high bv (.slice A n c)] w fun e w' => e = .returned (.string ⟨(loDoc f l).toArray⟩) ∧ Below w.heap.size w w' := by
 unfold valV
 have HE := LH E
 have HN := LH hn
 have HKV := LH hkv
 have HL := LH hl
 have HI := LH hi
 obtain ⟨X, hX⟩ : ∃ X, w.alloc (.cells #[.int .i64 3, .string text, .string more, .int .i64 vn, .int .u64 (bits : Int), .int .u64 (high : Int), bv, .slice A n c] 26) = X := ⟨_, rfl⟩
 have hXb : Below w.heap.size w X := hX ▸ below_allocB w _
 have HXB := LH hXb
 have HB := LH (hb.trans (hXb.mono hb.size))
 have HX := LH hX
 clear E hn hkv hb hl hXb hX hi
 go_enter Tryz.func15, Tryz.ntmps15
 go_wp2_with fail
 rw [HX.out]
 go_loopw [3, 18] (fun s i wr => ∃ (k : Nat) (t : ByteArray), k ≤ n ∧ s = .string t ∧ i = .int .i64 k ∧ t.size ≤ 1000000001 ∧ Hid (t = ⟨(123 :: sItems ((loMem f l).take k)).toArray⟩) ∧ Hid (Below X.heap.size X wr)) (fun _ i _ => n - (intOf i).toNat)
 case atStart => exact ⟨0, ⟨#[123]⟩, Nat.zero_le _, rfl, rfl, by simp [ByteArray.size], rfl, Below.refl _ _⟩
 case round =>
  obtain ⟨k, t, hk, rfl, rfl, hts, HT, HR⟩ := hrel
  by_cases hlt : k < n
  ·obtain ⟨name, kd, b, o, cs, hget, rfl, hR, hcs, hrange⟩ := HKV.out.elem (i := k) (by have := HN.out; omega)
   have hmem : (name, kd) ∈ l := List.mem_of_getElem? hget
   have hbr : Below w0.heap.size w0 wr := HB.out.trans (HR.out.mono HB.out.size)
   have hrg := rangeAt_later hrange hbr
   obtain ⟨kk, tx, mr, en, vb, vh, A1, A2, n1, c1, n2, c2, rfl⟩ := HE.out.cells _ hmem cs hR
   obtain ⟨x, hx⟩ : ∃ x : ByteArray, ⟨(f kd).toArray⟩ = x := ⟨_, rfl⟩
   have hxz : x.size ≤ 1000000000 := by
    rw [← hx]
    show (f kd).toArray.size ≤ _
    rw [List.size_toArray]
    exact HI.out _ hmem
   have hmk : (loMem f l)[k]? = some (mem0 name x).data.toList := by
    unfold loMem
    rw [List.getElem?_map, hget, ← hx]
    simp [meL, mem0]
   have hnx := sItems_next _ k _ hmk
   have hnc := nx_cat 123 (loMem f l) k t (mem0 name x) HT.out hnx
   have hle := sItems_take (loMem f l) (k + 1)
   have hll := HL.out
   have HM := LH (member_any name kk tx mr en vb vh A1 A2 n1 c1 n2 c2 x (by have := HE.out.names _ hmem; simpa using this) (by omega) w0 (fun W hW => hx ▸ HE.out.val _ hmem _ hR W hW))
   unfold elV at HM
   have hxs : ((mem0 name x) : ByteArray).size ≤ 1000000000 := by
    have e1 : ((mem0 name x) : ByteArray).data.toList.length = ((mem0 name x) : ByteArray).size := Array.length_toList
    rw [hnx] at hle
    split at hle
    ·(try simp only [List.length_append, List.length_cons] at hle); omega
    ·(try simp only [List.length_append, List.length_cons] at hle); omega
   have HRG := LH hrg
   have HBR := LH hbr
   have HNC := LH hnc
   clear hrange hrg hmem hget hR hbr hcs hx hmk hnx hnc hle hll
   generalize mem0 name x = m at HNC HM hxs
   go_wp2_with (with_reducible show wpList _ _ _ (⟨some 22, _, _, _, _, _⟩ :: _) _ _; refine Hid.out ?_)
   refine LH ?_
   refine wpList_load_mid rfl 38 (.tmp 21) rfl b (o + k * 9) rfl [.string name, .int .i64 kk, .string tx, .string mr, .int .i64 en, .int .u64 (vb : Int), .int .u64 (vh : Int), .slice A1 n1 c1, .slice A2 n2 c2] _ HRG.out Tryz.underlying38 rfl (by rw [info38s]; rfl) ?_
   by_cases hk0 : 0 < k
   ·go_wp2_with (go_at_call 47; refine (HM.out _ (HBR.out.trans ((below_allocB wr _).mono HBR.out.size))).mono ?_; rintro e w2 ⟨rfl, hb2⟩)
    go_roundw
    case rel =>
     have hq := (HNC.out.2 hk0 : t ++ ⟨#[44]⟩ ++ m = ⟨(123 :: sItems ((loMem f l).take (k + 1))).toArray⟩)
     exact ⟨k + 1, _, by omega, rfl, by go_num, nx_size _ _ _ _ hq HL.out, hq, HR.out.trans (((below_allocB wr _).trans (hb2.mono (by simp))).mono HR.out.size)⟩
    case measure => simp [intOf]; omega
   ·go_wp2_with (go_at_call 47; refine (HM.out _ (HBR.out.trans ((below_allocB wr _).mono HBR.out.size))).mono ?_; rintro e w2 ⟨rfl, hb2⟩)
    go_roundw
    case rel =>
     have hq := (HNC.out.1 hk0 : t ++ m = ⟨(123 :: sItems ((loMem f l).take (k + 1))).toArray⟩)
     exact ⟨k + 1, _, by omega, rfl, by go_num, nx_size _ _ _ _ hq HL.out, hq, HR.out.trans (((below_allocB wr _).trans (hb2.mono (by simp))).mono HR.out.size)⟩
    case measure => simp [intOf]; omega
  ·obtain rfl : k = n := by omega
   go_wp2_with fail
   have hq : t ++ ⟨#[125]⟩ = ⟨(loDoc f l).toArray⟩ := by
    rw [HT.out, List.take_of_length_le (by have := HN.out; rw [loMem, List.length_map]; omega)]
    apply ByteArray.ext
    simp [loDoc]
   go_ret
   exact ⟨congrArg (fun z => Ending.returned (.string z)) hq, HXB.out.trans (HR.out.mono HXB.out.size)⟩
theorem long_arr {K : Type} {f : K → List UInt8} {R : K → List Value → Prop} {l : List (ByteArray × K)} (text more : ByteArray) (vn : Int) (bits high : Nat) (bv : Value) (A : Option Addr) (n c : Nat) (w0 w : World)
  (E : LgEnv K f R l w0) (hn : n = l.length) (hkv : KidsV w0 R (.slice A n c) l) (hnb : n ≤ 140737488351232) (hb : Below w0.heap.size w0 w) (hl : (sItems (spItem f l)).length ≤ 1000000000) (hi : ∀ p ∈ l, (f p.2).length ≤ 1000000000) :
  Calls Tryz.prog 15 #[valV 4 text more vn bits high bv (.slice A n c)] w fun e w' => e = .returned (.string ⟨(spArr f l).toArray⟩) ∧ Below w.heap.size w w' := by
 unfold valV
 have HE := LH E
 have HN := LH hn
 have HKV := LH hkv
 have HL := LH hl
 have HI := LH hi
 obtain ⟨X, hX⟩ : ∃ X, w.alloc (.cells #[.int .i64 4, .string text, .string more, .int .i64 vn, .int .u64 (bits : Int), .int .u64 (high : Int), bv, .slice A n c] 26) = X := ⟨_, rfl⟩
 have hXb : Below w.heap.size w X := hX ▸ below_allocB w _
 have HXB := LH hXb
 have HB := LH (hb.trans (hXb.mono hb.size))
 have HX := LH hX
 clear E hn hkv hb hl hXb hX hi
 go_enter Tryz.func15, Tryz.ntmps15
 go_wp2_with fail
 rw [HX.out]
 go_loopw [6, 39] (fun s i wr => ∃ (k : Nat) (t : ByteArray), k ≤ n ∧ s = .string t ∧ i = .int .i64 k ∧ t.size ≤ 1000000001 ∧ Hid (t = ⟨(91 :: sItems ((spItem f l).take k)).toArray⟩) ∧ Hid (Below X.heap.size X wr)) (fun _ i _ => n - (intOf i).toNat)
 case atStart => exact ⟨0, ⟨#[91]⟩, Nat.zero_le _, rfl, rfl, by simp [ByteArray.size], rfl, Below.refl _ _⟩
 case round =>
  obtain ⟨k, t, hk, rfl, rfl, hts, HT, HR⟩ := hrel
  by_cases hlt : k < n
  ·obtain ⟨name, kd, b, o, cs, hget, rfl, hR, hcs, hrange⟩ := HKV.out.elem (i := k) (by have := HN.out; omega)
   have hmem : (name, kd) ∈ l := List.mem_of_getElem? hget
   have hbr : Below w0.heap.size w0 wr := HB.out.trans (HR.out.mono HB.out.size)
   have hrg := rangeAt_later hrange hbr
   obtain ⟨kk, tx, mr, en, vb, vh, A1, A2, n1, c1, n2, c2, rfl⟩ := HE.out.cells _ hmem cs hR
   obtain ⟨x, hx⟩ : ∃ x : ByteArray, ⟨(f kd).toArray⟩ = x := ⟨_, rfl⟩
   have hxz : x.size ≤ 1000000000 := by
    rw [← hx]
    show (f kd).toArray.size ≤ _
    rw [List.size_toArray]
    exact HI.out _ hmem
   have hmk : (spItem f l)[k]? = some x.data.toList := by
    unfold spItem
    rw [List.getElem?_map, hget, ← hx]
    rfl
   have hnx := sItems_next _ k _ hmk
   have hnc := nx_cat 91 (spItem f l) k t x HT.out hnx
   have hle := sItems_take (spItem f l) (k + 1)
   have hll := HL.out
   have HM := LH (fun W hW => hx ▸ HE.out.val _ hmem _ hR W hW)
   have hxs : (x : ByteArray).size ≤ 1000000000 := by
    have e1 : (x : ByteArray).data.toList.length = (x : ByteArray).size := Array.length_toList
    rw [hnx] at hle
    split at hle
    ·(try simp only [List.length_append, List.length_cons] at hle); omega
    ·(try simp only [List.length_append, List.length_cons] at hle); omega
   have HRG := LH hrg
   have HBR := LH hbr
   have HNC := LH hnc
   clear hrange hrg hmem hget hR hbr hcs hx hmk hnx hnc hle hll

   go_wp2_with (with_reducible show wpList _ _ _ (⟨some 43, _, _, _, _, _⟩ :: _) _ _; refine Hid.out ?_)
   refine LH ?_
   refine wpList_load_mid rfl 38 (.tmp 42) rfl b (o + k * 9) rfl [.string name, .int .i64 kk, .string tx, .string mr, .int .i64 en, .int .u64 (vb : Int), .int .u64 (vh : Int), .slice A1 n1 c1, .slice A2 n2 c2] _ HRG.out Tryz.underlying38 rfl (by rw [info38s]; rfl) ?_
   by_cases hk0 : 0 < k
   ·go_wp2_with (go_at_call 15; refine (HM.out _ (HBR.out.trans ((below_allocB wr _).mono HBR.out.size))).mono ?_; rintro e w2 ⟨rfl, hb2⟩)
    go_roundw
    case rel =>
     have hq := (HNC.out.2 hk0 : t ++ ⟨#[44]⟩ ++ x = ⟨(91 :: sItems ((spItem f l).take (k + 1))).toArray⟩)
     exact ⟨k + 1, _, by omega, rfl, by go_num, nx_size _ _ _ _ hq HL.out, hq, HR.out.trans (((below_allocB wr _).trans (hb2.mono (by simp))).mono HR.out.size)⟩
    case measure => simp [intOf]; omega
   ·go_wp2_with (go_at_call 15; refine (HM.out _ (HBR.out.trans ((below_allocB wr _).mono HBR.out.size))).mono ?_; rintro e w2 ⟨rfl, hb2⟩)
    go_roundw
    case rel =>
     have hq := (HNC.out.1 hk0 : t ++ x = ⟨(91 :: sItems ((spItem f l).take (k + 1))).toArray⟩)
     exact ⟨k + 1, _, by omega, rfl, by go_num, nx_size _ _ _ _ hq HL.out, hq, HR.out.trans (((below_allocB wr _).trans (hb2.mono (by simp))).mono HR.out.size)⟩
    case measure => simp [intOf]; omega
  ·obtain rfl : k = n := by omega
   go_wp2_with fail
   have hq : t ++ ⟨#[93]⟩ = ⟨(spArr f l).toArray⟩ := by
    rw [HT.out, List.take_of_length_le (by have := HN.out; rw [spItem, List.length_map]; omega)]
    apply ByteArray.ext
    simp [spArr]
   go_ret
   exact ⟨congrArg (fun z => Ending.returned (.string z)) hq, HXB.out.trans (HR.out.mono HXB.out.size)⟩
end Go.Proofs.YtpfkgpcnhdkkbaaGreatDoor
