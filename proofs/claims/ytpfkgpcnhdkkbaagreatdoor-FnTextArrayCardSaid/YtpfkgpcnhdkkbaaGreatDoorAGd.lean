/- bsoncore: the text of a value, by kind, nothing cut; conditions: what the callees answer. -/
import Derived.Test.YtpfkgpcnhdkkbaaGreatDoorAGc
import Derived.Test.YtpfkgpcnhdkkbaaGreatDoorAMq
import Derived.Test.YtpfkgpcnhdkkbaaGreatDoorAGa
import Derived.Test.YtpfkgpcnhdkkbaaGreatDoorAMa
import Derived.Test.YtpfkgpcnhdkkbaaGreatDoorAGi
import Derived.Test.YtpfkgpcnhdkkbaaGreatDoorACx
namespace Go.Proofs.YtpfkgpcnhdkkbaaGreatDoor
open Go.RowKit
set_option linter.unusedVariables false
set_option linter.unusedSimpArgs false
set_option maxRecDepth 100000
def Rd2 (f : Nat) (v u : Value) (w : World) (r : Value) : Prop := ∀ W, Below w.heap.size w W → Calls Tryz.prog f #[v, u] W fun e w' => e = .returned r ∧ Below W.heap.size W w'
theorem Rd.lat {f : Nat} {v : Value} {w w2 : World} {r : Value} (h : Rd f v w r) (hb : Below w.heap.size w w2) : Rd f v w2 r := fun W hW => h W (hb.trans (hW.mono hb.size))
theorem Rd2.lat {f : Nat} {v u : Value} {w w2 : World} {r : Value} (h : Rd2 f v u w r) (hb : Below w.heap.size w w2) : Rd2 f v u w2 r := fun W hW => h W (hb.trans (hW.mono hb.size))
theorem val3 (n : Int) (A : Option Addr) (m c : Nat) (B0 : Option Addr) (p0 q0 : Nat) (w : World) (S : ByteArray) (tr : Bool) (hok : Rd 111 (.agg #[.int .u8 3, .slice A m c]) w (.tuple #[.slice B0 p0 q0, .bool true])) (hd : Rd2 72 (.slice B0 p0 q0) (.int .i64 n) w (.tuple #[.string S, .bool tr])) : Rd2 78 (.agg #[.int .u8 3, .slice A m c]) (.int .i64 n) w (.tuple #[.string S, .bool tr]) := by
 intro W hW
 have HOK := LH (hok.lat hW)
 have HD := LH (hd.lat hW)
 clear hW hok hd
 go_enter Tryz.func78, Tryz.ntmps78
 go_wp2_with (first | (go_at_call 111; refine (HOK.out _ (below_al W _)).mono ?_; rintro e w0 ⟨rfl, hb0⟩; have B0 : Below W.heap.size W w0 := (below_al W _).trans (hb0.mono (below_al W _).size)) | (go_at_call 72; refine (HD.out _ B0).mono ?_; rintro e w1 ⟨rfl, hb1⟩))
 go_ret2
 exact ⟨rfl, B0.trans (hb1.mono B0.size)⟩
theorem val4 (n : Int) (A : Option Addr) (m c : Nat) (B0 : Option Addr) (p0 q0 : Nat) (w : World) (S : ByteArray) (tr : Bool) (hok : Rd 112 (.agg #[.int .u8 4, .slice A m c]) w (.tuple #[.slice B0 p0 q0, .bool true])) (hd : Rd2 51 (.slice B0 p0 q0) (.int .i64 n) w (.tuple #[.string S, .bool tr])) : Rd2 78 (.agg #[.int .u8 4, .slice A m c]) (.int .i64 n) w (.tuple #[.string S, .bool tr]) := by
 intro W hW
 have HOK := LH (hok.lat hW)
 have HD := LH (hd.lat hW)
 clear hW hok hd
 go_enter Tryz.func78, Tryz.ntmps78
 go_wp2_with (first | (go_at_call 112; refine (HOK.out _ (below_al W _)).mono ?_; rintro e w0 ⟨rfl, hb0⟩; have B0 : Below W.heap.size W w0 := (below_al W _).trans (hb0.mono (below_al W _).size)) | (go_at_call 51; refine (HD.out _ B0).mono ?_; rintro e w1 ⟨rfl, hb1⟩))
 go_ret2
 exact ⟨rfl, B0.trans (hb1.mono B0.size)⟩
theorem valStr (k : Int) (A : Option Addr) (m c : Nat) (w : World) (S : ByteArray) (tr : Bool) (h : Rd2 78 (.agg #[.int .u8 k, .slice A m c]) (.int .i64 (-1)) w (.tuple #[.string S, .bool tr])) : Rd 170 (.agg #[.int .u8 k, .slice A m c]) w (.string S) := by
 intro W hW
 have HC := LH (h.lat hW)
 clear hW h
 go_enter Tryz.func170, Tryz.ntmps170
 go_wp2_with (go_at_call 78; refine (HC.out _ (below_al W _)).mono ?_; rintro e w1 ⟨rfl, hb1⟩)
 go_ret
 exact ⟨rfl, (below_al W _).trans (hb1.mono (below_al W _).size)⟩
set_option maxHeartbeats 8000000
theorem two_cells {w : World} {b : Nat} {x y : Value} {t : TypeId} {fr : Nat × Nat} (h : w.heap[b]? = some (.cells #[x, y] t fr)) : w.cell? ⟨b, 0, none⟩ = some x ∧ w.cell? ⟨b, 1, none⟩ = some y := ⟨by rw [blk_cell h]; rfl, by rw [blk_cell h]; rfl⟩
theorem el_str (g o n c p m : Nat) (kb : UInt8) (t r : List UInt8) (w : World) (hk : (kb.toNat : Int) = 2) (hp : t.length = p) (hp0 : 0 < p) (hpb : p ≤ 1000000) (hn : n = p + 2 + m) (hm : r.length = m) (hc : n < c) (hcb : c ≤ 9223372036854775807) (hmb : m < 2000000000) (h0 : 0 ∉ t) (hr : RD w g o (kb :: (t ++ 0 :: r)))
  (h : VLen 2 m (.slice (some ⟨g, o + (p + 2), none⟩) (n - (p + 2)) (c - (p + 2))) w) (S : ByteArray) (hS : S.size ≤ 1000000000) (x0 : ByteArray) (hok : Rd 109 (.agg #[.int .u8 2, (.slice (some ⟨g, o + (p + 2), none⟩) m (c - (p + 2)))]) w (.tuple #[.string x0, .bool true])) (hs : Rd2 78 (.agg #[.int .u8 2, (.slice (some ⟨g, o + (p + 2), none⟩) m (c - (p + 2)))]) (.int .i64 (-1)) w (.tuple #[.string S, .bool false])) : Rd2 104 (.slice (some ⟨g, o, none⟩) n c) (.int .i64 (-1)) w (.tuple #[.string ⟨([34] ++ t ++ [34, 58, 32] ++ S.data.toList).toArray⟩, .bool false]) := by
 intro W hW
 have hrW := hr.lat hW
 have hix := hp ▸ ix_zero g (o + 1) (n - 1) (c - 1) t r W (by omega) h0 (RD.right (a := [kb]) hrW)
 have c0 : W.cell? ⟨g, o, none⟩ = some (.int .u8 2) := by have := hrW 0 kb rfl; rwa [hk] at this
 have hgW : g < W.heap.size := World.block_lt_of_cell? W _ c0
 have hrt : RD W g (o + 1) t := (RD.right (a := [kb]) (b := t ++ 0 :: r) hrW).left
 obtain ⟨Y, hY⟩ : ∃ Y, W.alloc (.cells #[.pointer none, .slice none 0 0] 118) = Y := ⟨_, rfl⟩
 have hYb : Below W.heap.size W Y := hY ▸ below_al _ _
 have hYs : Y.heap.size = W.heap.size + 1 := by rw [← hY]; simp
 have hsb : SB W.heap.size [] Y := hY ▸ SB.made W
 have HIX := LH hix
 have HG := LH hgW
 have HRT := LH (fun X (hX : Below W.heap.size W X) => hrt.lat hX)
 have HY := LH hY
 have HYB := LH hYb
 have HSB := LH hsb
 have HV := LH (fun X (hX : Below W.heap.size W X) => readVal g (o + (p + 2)) (n - (p + 2)) (c - (p + 2)) m 2 w (by omega) (by omega) (by omega) hmb h X (hW.trans (hX.mono hW.size)))
 have HOK := LH (hok.lat hW)
 have HS := LH (hs.lat hW)
 have HP := LH hp
 have hn2 : p + 2 + m ≤ n := by omega
 have hd : ((p : Int) == 0) = false := by simp; omega
 clear hr h hW hrW hix hrt hY hYb hYs hsb hgW hk hp hn hm h0 hok hs
 go_enter Tryz.func104, Tryz.ntmps104
 go_upto_region 13 with (go_at_call 167; refine HIX.out.mono ?_; rintro e w0 ⟨rfl, hw0⟩; obtain rfl := hw0)
 rw [HY.out]
 go_wp2_with (first | (go_at_call 74; refine (sb_byte HSB.out 34 34 rfl (by simp)).mono ?_; rintro e w1 ⟨rfl, s1, b1⟩; have B1 := HYB.out.trans b1) | (go_at_call 168; refine (sb_row s1 g (o + 1) p _ t HP.out HG.out (HRT.out w1 B1) (by have := HP.out; simp; omega)).mono ?_; rintro e w2 ⟨rfl, s2, b2⟩; have B2 := B1.trans b2) | (go_at_call 79; refine (sb_text s2 ⟨#[34, 58, 32]⟩ (by have := HP.out; have : (⟨#[34, 58, 32]⟩ : ByteArray).size = 3 := rfl; simp; omega)).mono ?_; rintro e w3 ⟨rfl, s3, b3⟩; have B3 := B2.trans b3) | (go_at_call 169; refine (HV.out _ B3).mono ?_; rintro e w4 ⟨rfl, hb4⟩; have B4 := B3.trans (hb4.mono B3.size)) | (with_reducible show wpList _ _ _ (⟨some 96, _, _, _, _, _⟩ :: _) _ _; refine Hid.out ?_))
 refine LH ?_
 have s4 := s3.later hb4
 have hpk := heap_alloc_new w4 (.cells #[.int .u8 2, (.slice (some ⟨g, o + (p + 2), none⟩) m (c - (p + 2)))] 126)
 have hv : Below w4.heap.size w4 (w4.alloc (.cells #[.int .u8 2, (.slice (some ⟨g, o + (p + 2), none⟩) m (c - (p + 2)))] 126)) := below_al w4 _
 obtain ⟨V, hV⟩ : ∃ V, w4.alloc (.cells #[.int .u8 2, (.slice (some ⟨g, o + (p + 2), none⟩) m (c - (p + 2)))] 126) = V := ⟨_, rfl⟩
 rw [hV] at hpk hv ⊢
 have hlt : w4.heap.size < V.heap.size := by rw [← hV]; simp
 have HPK := LH (fun (X : World) (hX : Below V.heap.size V X) => two_cells ((hX.block w4.heap.size hlt).trans hpk))
 have HSV := LH (s4.later hv)
 have HBV := LH (B4.trans (hv.mono B4.size))
 obtain ⟨q0, q1⟩ := HPK.out V (Below.refl _ _)
 clear s1 s2 s3 s4 B1 B2 B3 B4 b1 b2 b3 hb4 hpk hv hV hlt HV HSB HRT HIX
 go_wp2_with (first | (go_at_call 109; refine (HOK.out _ (HBV.out.trans (((Below.refl V.heap.size V)).mono HBV.out.size))).mono ?_; rintro e y5 ⟨rfl, hx5⟩; have X5 : Below V.heap.size V y5 := hx5; obtain ⟨u5, v5⟩ := HPK.out y5 X5) | (go_at_call 78; refine (HS.out _ (HBV.out.trans ((X5).mono HBV.out.size))).mono ?_; rintro e y6 ⟨rfl, hx6⟩; have X6 : Below V.heap.size V y6 := X5.trans (hx6.mono X5.size); obtain ⟨u6, v6⟩ := HPK.out y6 X6) | (go_at_call 79; refine (sb_text (HSV.out.later X6) S (by have := HP.out; simp; omega)).mono ?_; rintro e w8 ⟨rfl, s8, b8⟩; have B8 := (HBV.out.trans (X6.mono HBV.out.size)).trans b8) | (go_at_call 80; refine (sb_str s8).mono ?_; rintro e w9 ⟨rfl, b9⟩; have B9 := B8.trans b9))
 go_ret2
 exact ⟨by simp, B9⟩
theorem el_arr (g o n c p m : Nat) (kb : UInt8) (t r : List UInt8) (w : World) (hk : (kb.toNat : Int) = 4) (hp : t.length = p) (hp0 : 0 < p) (hpb : p ≤ 1000000) (hn : n = p + 2 + m) (hm : r.length = m) (hc : n < c) (hcb : c ≤ 9223372036854775807) (hmb : m < 2000000000) (h0 : 0 ∉ t) (hr : RD w g o (kb :: (t ++ 0 :: r)))
  (h : VLen 4 m (.slice (some ⟨g, o + (p + 2), none⟩) (n - (p + 2)) (c - (p + 2))) w) (S : ByteArray) (hS : S.size ≤ 1000000000) (X0 : Option Addr) (n0 c0' : Nat) (hok : Rd 112 (.agg #[.int .u8 4, (.slice (some ⟨g, o + (p + 2), none⟩) m (c - (p + 2)))]) w (.tuple #[.slice X0 n0 c0', .bool true])) (hs : Rd2 51 (.slice X0 n0 c0') (.int .i64 (-1)) w (.tuple #[.string S, .bool false])) : Rd2 104 (.slice (some ⟨g, o, none⟩) n c) (.int .i64 (-1)) w (.tuple #[.string ⟨([34] ++ t ++ [34, 58, 32] ++ S.data.toList).toArray⟩, .bool false]) := by
 intro W hW
 have hrW := hr.lat hW
 have hix := hp ▸ ix_zero g (o + 1) (n - 1) (c - 1) t r W (by omega) h0 (RD.right (a := [kb]) hrW)
 have c0 : W.cell? ⟨g, o, none⟩ = some (.int .u8 4) := by have := hrW 0 kb rfl; rwa [hk] at this
 have hgW : g < W.heap.size := World.block_lt_of_cell? W _ c0
 have hrt : RD W g (o + 1) t := (RD.right (a := [kb]) (b := t ++ 0 :: r) hrW).left
 obtain ⟨Y, hY⟩ : ∃ Y, W.alloc (.cells #[.pointer none, .slice none 0 0] 118) = Y := ⟨_, rfl⟩
 have hYb : Below W.heap.size W Y := hY ▸ below_al _ _
 have hYs : Y.heap.size = W.heap.size + 1 := by rw [← hY]; simp
 have hsb : SB W.heap.size [] Y := hY ▸ SB.made W
 have HIX := LH hix
 have HG := LH hgW
 have HRT := LH (fun X (hX : Below W.heap.size W X) => hrt.lat hX)
 have HY := LH hY
 have HYB := LH hYb
 have HSB := LH hsb
 have HV := LH (fun X (hX : Below W.heap.size W X) => readVal g (o + (p + 2)) (n - (p + 2)) (c - (p + 2)) m 4 w (by omega) (by omega) (by omega) hmb h X (hW.trans (hX.mono hW.size)))
 have HNO := LH (no109 4 (by decide) (some ⟨g, o + (p + 2), none⟩) m (c - (p + 2)) W)
 have HOK := LH (hok.lat hW)
 have HS := LH (hs.lat hW)
 have HP := LH hp
 have hn2 : p + 2 + m ≤ n := by omega
 have hd : ((p : Int) == 0) = false := by simp; omega
 clear hr h hW hrW hix hrt hY hYb hYs hsb hgW hk hp hn hm h0 hok hs
 go_enter Tryz.func104, Tryz.ntmps104
 go_upto_region 13 with (go_at_call 167; refine HIX.out.mono ?_; rintro e w0 ⟨rfl, hw0⟩; obtain rfl := hw0)
 rw [HY.out]
 go_wp2_with (first | (go_at_call 74; refine (sb_byte HSB.out 34 34 rfl (by simp)).mono ?_; rintro e w1 ⟨rfl, s1, b1⟩; have B1 := HYB.out.trans b1) | (go_at_call 168; refine (sb_row s1 g (o + 1) p _ t HP.out HG.out (HRT.out w1 B1) (by have := HP.out; simp; omega)).mono ?_; rintro e w2 ⟨rfl, s2, b2⟩; have B2 := B1.trans b2) | (go_at_call 79; refine (sb_text s2 ⟨#[34, 58, 32]⟩ (by have := HP.out; have : (⟨#[34, 58, 32]⟩ : ByteArray).size = 3 := rfl; simp; omega)).mono ?_; rintro e w3 ⟨rfl, s3, b3⟩; have B3 := B2.trans b3) | (go_at_call 169; refine (HV.out _ B3).mono ?_; rintro e w4 ⟨rfl, hb4⟩; have B4 := B3.trans (hb4.mono B3.size)) | (with_reducible show wpList _ _ _ (⟨some 96, _, _, _, _, _⟩ :: _) _ _; refine Hid.out ?_))
 refine LH ?_
 have s4 := s3.later hb4
 have hpk := heap_alloc_new w4 (.cells #[.int .u8 4, (.slice (some ⟨g, o + (p + 2), none⟩) m (c - (p + 2)))] 126)
 have hv : Below w4.heap.size w4 (w4.alloc (.cells #[.int .u8 4, (.slice (some ⟨g, o + (p + 2), none⟩) m (c - (p + 2)))] 126)) := below_al w4 _
 obtain ⟨V, hV⟩ : ∃ V, w4.alloc (.cells #[.int .u8 4, (.slice (some ⟨g, o + (p + 2), none⟩) m (c - (p + 2)))] 126) = V := ⟨_, rfl⟩
 rw [hV] at hpk hv ⊢
 have hlt : w4.heap.size < V.heap.size := by rw [← hV]; simp
 have HPK := LH (fun (X : World) (hX : Below V.heap.size V X) => two_cells ((hX.block w4.heap.size hlt).trans hpk))
 have HSV := LH (s4.later hv)
 have HBV := LH (B4.trans (hv.mono B4.size))
 obtain ⟨q0, q1⟩ := HPK.out V (Below.refl _ _)
 clear s1 s2 s3 s4 B1 B2 B3 B4 b1 b2 b3 hb4 hpk hv hV hlt HV HSB HRT HIX
 go_wp2_with (first | (go_at_call 109; refine (HNO.out _ (HBV.out.trans (((Below.refl V.heap.size V)).mono HBV.out.size))).mono ?_; rintro e y5 ⟨rfl, hx5⟩; have X5 : Below V.heap.size V y5 := hx5; obtain ⟨u5, v5⟩ := HPK.out y5 X5) | (go_at_call 112; refine (HOK.out _ (HBV.out.trans ((X5).mono HBV.out.size))).mono ?_; rintro e y6 ⟨rfl, hx6⟩; have X6 : Below V.heap.size V y6 := X5.trans (hx6.mono X5.size); obtain ⟨u6, v6⟩ := HPK.out y6 X6) | (go_at_call 51; refine (HS.out _ (HBV.out.trans ((X6).mono HBV.out.size))).mono ?_; rintro e y7 ⟨rfl, hx7⟩; have X7 : Below V.heap.size V y7 := X6.trans (hx7.mono X6.size); obtain ⟨u7, v7⟩ := HPK.out y7 X7) | (go_at_call 79; refine (sb_text (HSV.out.later X7) S (by have := HP.out; simp; omega)).mono ?_; rintro e w8 ⟨rfl, s8, b8⟩; have B8 := (HBV.out.trans (X7.mono HBV.out.size)).trans b8) | (go_at_call 80; refine (sb_str s8).mono ?_; rintro e w9 ⟨rfl, b9⟩; have B9 := B8.trans b9))
 go_ret2
 exact ⟨by simp, B9⟩
theorem el_other (g o n c p m : Nat) (k : Int) (hk2 : (k != 2) = true) (hk4 : (k != 4) = true) (kb : UInt8) (t r : List UInt8) (w : World) (hk : (kb.toNat : Int) = k) (hp : t.length = p) (hp0 : 0 < p) (hpb : p ≤ 1000000) (hn : n = p + 2 + m) (hm : r.length = m) (hc : n < c) (hcb : c ≤ 9223372036854775807) (hmb : m < 2000000000) (h0 : 0 ∉ t) (hr : RD w g o (kb :: (t ++ 0 :: r)))
  (h : VLen k m (.slice (some ⟨g, o + (p + 2), none⟩) (n - (p + 2)) (c - (p + 2))) w) (S : ByteArray) (hS : S.size ≤ 1000000000) (hs : Rd 170 (.agg #[.int .u8 k, (.slice (some ⟨g, o + (p + 2), none⟩) m (c - (p + 2)))]) w (.string S)) : Rd2 104 (.slice (some ⟨g, o, none⟩) n c) (.int .i64 (-1)) w (.tuple #[.string ⟨([34] ++ t ++ [34, 58, 32] ++ S.data.toList).toArray⟩, .bool false]) := by
 intro W hW
 have hrW := hr.lat hW
 have hix := hp ▸ ix_zero g (o + 1) (n - 1) (c - 1) t r W (by omega) h0 (RD.right (a := [kb]) hrW)
 have c0 : W.cell? ⟨g, o, none⟩ = some (.int .u8 k) := by have := hrW 0 kb rfl; rwa [hk] at this
 have hgW : g < W.heap.size := World.block_lt_of_cell? W _ c0
 have hrt : RD W g (o + 1) t := (RD.right (a := [kb]) (b := t ++ 0 :: r) hrW).left
 obtain ⟨Y, hY⟩ : ∃ Y, W.alloc (.cells #[.pointer none, .slice none 0 0] 118) = Y := ⟨_, rfl⟩
 have hYb : Below W.heap.size W Y := hY ▸ below_al _ _
 have hYs : Y.heap.size = W.heap.size + 1 := by rw [← hY]; simp
 have hsb : SB W.heap.size [] Y := hY ▸ SB.made W
 have HIX := LH hix
 have HG := LH hgW
 have HRT := LH (fun X (hX : Below W.heap.size W X) => hrt.lat hX)
 have HY := LH hY
 have HYB := LH hYb
 have HSB := LH hsb
 have HV := LH (fun X (hX : Below W.heap.size W X) => readVal g (o + (p + 2)) (n - (p + 2)) (c - (p + 2)) m k w (by omega) (by omega) (by omega) hmb h X (hW.trans (hX.mono hW.size)))
 have HNO := LH (no109 k hk2 (some ⟨g, o + (p + 2), none⟩) m (c - (p + 2)) W)
 have HNA := LH (no112 k hk4 (some ⟨g, o + (p + 2), none⟩) m (c - (p + 2)) W)
 have HS := LH (hs.lat hW)
 have HP := LH hp
 have hn2 : p + 2 + m ≤ n := by omega
 have hd : ((p : Int) == 0) = false := by simp; omega
 clear hr h hW hrW hix hrt hY hYb hYs hsb hgW hk hp hn hm h0 hs
 go_enter Tryz.func104, Tryz.ntmps104
 go_upto_region 13 with (go_at_call 167; refine HIX.out.mono ?_; rintro e w0 ⟨rfl, hw0⟩; obtain rfl := hw0)
 rw [HY.out]
 go_wp2_with (first | (go_at_call 74; refine (sb_byte HSB.out 34 34 rfl (by simp)).mono ?_; rintro e w1 ⟨rfl, s1, b1⟩; have B1 := HYB.out.trans b1) | (go_at_call 168; refine (sb_row s1 g (o + 1) p _ t HP.out HG.out (HRT.out w1 B1) (by have := HP.out; simp; omega)).mono ?_; rintro e w2 ⟨rfl, s2, b2⟩; have B2 := B1.trans b2) | (go_at_call 79; refine (sb_text s2 ⟨#[34, 58, 32]⟩ (by have := HP.out; have : (⟨#[34, 58, 32]⟩ : ByteArray).size = 3 := rfl; simp; omega)).mono ?_; rintro e w3 ⟨rfl, s3, b3⟩; have B3 := B2.trans b3) | (go_at_call 169; refine (HV.out _ B3).mono ?_; rintro e w4 ⟨rfl, hb4⟩; have B4 := B3.trans (hb4.mono B3.size)) | (with_reducible show wpList _ _ _ (⟨some 96, _, _, _, _, _⟩ :: _) _ _; refine Hid.out ?_))
 refine LH ?_
 have s4 := s3.later hb4
 have hpk := heap_alloc_new w4 (.cells #[.int .u8 k, (.slice (some ⟨g, o + (p + 2), none⟩) m (c - (p + 2)))] 126)
 have hv : Below w4.heap.size w4 (w4.alloc (.cells #[.int .u8 k, (.slice (some ⟨g, o + (p + 2), none⟩) m (c - (p + 2)))] 126)) := below_al w4 _
 obtain ⟨V, hV⟩ : ∃ V, w4.alloc (.cells #[.int .u8 k, (.slice (some ⟨g, o + (p + 2), none⟩) m (c - (p + 2)))] 126) = V := ⟨_, rfl⟩
 rw [hV] at hpk hv ⊢
 have hlt : w4.heap.size < V.heap.size := by rw [← hV]; simp
 have HPK := LH (fun (X : World) (hX : Below V.heap.size V X) => two_cells ((hX.block w4.heap.size hlt).trans hpk))
 have HSV := LH (s4.later hv)
 have HBV := LH (B4.trans (hv.mono B4.size))
 obtain ⟨q0, q1⟩ := HPK.out V (Below.refl _ _)
 clear s1 s2 s3 s4 B1 B2 B3 B4 b1 b2 b3 hb4 hpk hv hV hlt HV HSB HRT HIX
 go_wp2_with (first | (go_at_call 109; refine (HNO.out _ (HBV.out.trans (((Below.refl V.heap.size V)).mono HBV.out.size))).mono ?_; rintro e y5 ⟨rfl, hx5⟩; have X5 : Below V.heap.size V y5 := hx5; obtain ⟨u5, v5⟩ := HPK.out y5 X5) | (go_at_call 112; refine (HNA.out _ (HBV.out.trans ((X5).mono HBV.out.size))).mono ?_; rintro e y6 ⟨rfl, hx6⟩; have X6 : Below V.heap.size V y6 := X5.trans (hx6.mono X5.size); obtain ⟨u6, v6⟩ := HPK.out y6 X6) | (go_at_call 170; refine (HS.out _ (HBV.out.trans ((X6).mono HBV.out.size))).mono ?_; rintro e y7 ⟨rfl, hx7⟩; have X7 : Below V.heap.size V y7 := X6.trans (hx7.mono X6.size); obtain ⟨u7, v7⟩ := HPK.out y7 X7) | (go_at_call 79; refine (sb_text (HSV.out.later X7) S (by have := HP.out; simp; omega)).mono ?_; rintro e w8 ⟨rfl, s8, b8⟩; have B8 := (HBV.out.trans (X7.mono HBV.out.size)).trans b8) | (go_at_call 80; refine (sb_str s8).mono ?_; rintro e w9 ⟨rfl, b9⟩; have B9 := B8.trans b9))
 go_ret2
 exact ⟨by simp, B9⟩
set_option maxHeartbeats 8000000
structure LEnv (g o n c N : Nat) (pos e : Nat → Nat) (w : World) : Prop where
 p0 : pos 0 = 4
 next : ∀ i, i < N → pos (i + 1) = pos i + e i
 fin : pos N + 1 = n
 le : ∀ i, i < N → pos i + e i + 1 ≤ n
 e1 : ∀ i, i < N → 1 ≤ e i
 rd : ∀ i, i < N → Rd 76 (.slice (some ⟨g, o + pos i, none⟩) (n - pos i) (c - pos i)) w (.tuple #[.slice (some ⟨g, o + pos i, none⟩) (e i) (c - pos i), .slice (some ⟨g, o + pos i + e i, none⟩) (n - pos i - e i) (c - pos i - e i), .bool true])
theorem LEnv.lat {g o n c N : Nat} {pos e : Nat → Nat} {w w2 : World} (h : LEnv g o n c N pos e w) (hb : Below w.heap.size w w2) : LEnv g o n c N pos e w2 := ⟨h.p0, h.next, h.fin, h.le, h.e1, fun i hi => (h.rd i hi).lat hb⟩
theorem next7 {g o n c p e q : Nat} (h : q = p + e) : Value.slice (some ⟨g, o + p + e, none⟩) (n - p - e) (c - p - e) = .slice (some ⟨g, o + q, none⟩) (n - q) (c - q) := by
 subst h
 rw [Nat.add_assoc, Nat.sub_sub, Nat.sub_sub]
theorem items_next (a : UInt8) (L : List (List UInt8)) (k : Nat) (x : List UInt8) (h : L[k]? = some x) : (k = 0 → (a :: sItems (L.take k)) ++ x = a :: sItems (L.take (k + 1))) ∧ (0 < k → (a :: sItems (L.take k)) ++ [44] ++ x = a :: sItems (L.take (k + 1))) := by
 have hn := sItems_next L k x h
 constructor
 ·intro hk
  subst hk
  rw [hn]
  simp [sItems]
 ·intro hk
  rw [hn, if_neg (by omega)]
  simp
theorem items_len (a : UInt8) (L : List (List UInt8)) (k : Nat) (h : (sItems L).length ≤ 1000000000) : (a :: sItems (L.take k)).length ≤ 1000000001 := by
 have := sItems_take L k
 rw [List.length_cons]; omega
theorem docN (g o n c N : Nat) (pos e : Nat → Nat) (TL : List (List UInt8)) (T : Nat → ByteArray) (w : World) (hn : 5 ≤ n) (hnb : n ≤ 1000000000) (hc : n ≤ c) (hcb : c ≤ 9223372036854775807) (hN : TL.length = N) (hTL : (sItems TL).length ≤ 1000000000) (hT : ∀ i, i < N → TL[i]? = some (T i).data.toList) (hTs : ∀ i, i < N → (T i).size ≤ 1000000000)
  (E : LEnv g o n c N pos e w) (hlen : Rd 73 (.slice (some ⟨g, o, none⟩) n c) w (.tuple #[.int .i32 (n : Int), .slice (some ⟨g, o + 4, none⟩) (n - 4) (c - 4), .bool true])) (hst : ∀ i, i < N → Rd2 104 (.slice (some ⟨g, o + pos i, none⟩) (e i) (c - pos i)) (.int .i64 (-1)) w (.tuple #[.string (T i), .bool false])) :
  Rd2 72 (.slice (some ⟨g, o, none⟩) n c) (.int .i64 (-1)) w (.tuple #[.string ⟨([123] ++ sItems TL ++ [125]).toArray⟩, .bool false]) := by
 intro W hW
 have HE := LH (E.lat hW)
 have HL := LH (hlen W hW)
 have HSTT := LH (fun i hi => (hst i hi).lat hW)
 have HN := LH hN
 have HTL := LH hTL
 have HT := LH hT
 have HTS := LH hTs
 clear E hlen hN hTL hT hTs hst hW
 go_enter Tryz.func72, Tryz.ntmps72
 go_upto_region 8 with (go_at_call 73; refine HL.out.mono ?_; rintro e0 W1 ⟨rfl, hb0⟩)
 have HB0 := LH hb0
 obtain ⟨Y, hY⟩ : ∃ Y, W1.alloc (.cells #[.pointer none, .slice none 0 0] 118) = Y := ⟨_, rfl⟩
 have hYb : Below W1.heap.size W1 Y := hY ▸ below_al _ _
 have hsb : SB W1.heap.size [] Y := hY ▸ SB.made W1
 have HY := LH hY
 have HWY := LH (hb0.trans (hYb.mono hb0.size))
 have HWS := LH hb0.size
 have HSB := LH hsb
 clear hY hYb hsb hb0
 go_upto_region 9 with fail
 rw [HY.out]
 go_wp2_with (go_at_call 74; refine (sb_byte HSB.out 123 123 rfl (by simp)).mono ?_; rintro e1 w1 ⟨rfl, s1, b1⟩)
 have HS1 := LH s1
 have HB1 := LH (HWY.out.trans (b1.mono HWS.out))
 clear s1 b1
 go_loopw [6, 7, 10, 13] (fun s6 s7 s10 s13 wr => ∃ k : Nat, k ≤ N ∧ s6 = .int .i32 ((n : Int) - 1 - (pos k : Int)) ∧ s7 = .slice (some ⟨g, o + pos k, none⟩) (n - pos k) (c - pos k) ∧ s10 = .bool false ∧ s13 = .bool (k == 0) ∧ pos k + 1 ≤ n ∧ Hid (SB W1.heap.size (123 :: sItems (TL.take k)) wr) ∧ Hid (Below W.heap.size W wr)) (fun s6 _ _ _ _ => (intOf s6).toNat)
 case atStart =>
  refine ⟨0, Nat.zero_le _, ?_, ?_, rfl, rfl, by rw [HE.out.p0]; omega, HS1.out, HB1.out⟩
  ·rw [HE.out.p0]; go_num
  ·rw [HE.out.p0]
 case round =>
  obtain ⟨k, hk, rfl, rfl, rfl, rfl, hsn, HS, HR⟩ := hrel
  by_cases hlt : k < N
  ·have hle := HE.out.le k hlt
   have he1 := HE.out.e1 k hlt
   have HNX := LH (HE.out.next k hlt)
   have HRD := LH (HE.out.rd k hlt)
   have HST := LH (HSTT.out k hlt)
   have HIN := LH (items_next 123 TL k _ (HT.out k hlt))
   have HTZ := LH (HTS.out k hlt)
   obtain ⟨p, hp⟩ : ∃ p, pos k = p := ⟨_, rfl⟩
   obtain ⟨ek, hek⟩ : ∃ p, e k = p := ⟨_, rfl⟩
   obtain ⟨Tk, hTk⟩ : ∃ p, T k = p := ⟨_, rfl⟩
   simp only [hp, hek, hTk] at HRD HST HNX HIN HTZ hle he1 hsn ⊢
   have hf : decide ((0 : Int) < (n : Int) - 1 - (p : Int)) = true := decide_eq_true (by omega)
   have hf2 : decide ((n : Int) - 1 - (p : Int) - (ek : Int) < 0) = false := by simp; omega
   have HPP := LH hp
   clear hp hek hTk
   by_cases hk0 : k = 0
   ·have hz : (k == 0) = true := by simp [hk0]
    have HK0 := LH hk0
    clear hk0
    go_wp2_with (first | (go_at_call 76; refine (HRD.out wr HR.out).mono ?_; rintro e1 w1 ⟨rfl, hb1⟩; have B1 := HR.out.trans (hb1.mono HR.out.size)) | (go_at_call 104; refine (HST.out w1 B1).mono ?_; rintro e2 w2 ⟨rfl, bE⟩; have BE := B1.trans (bE.mono B1.size)) | (go_at_call 79; refine (sb_text ((HS.out.later hb1).later bE) Tk (by have := items_len 123 TL k HTL.out; have := HTZ.out; omega)).mono ?_; rintro e3 w3 ⟨rfl, s3, b3⟩; have HS3 := LH s3; have HB3 := LH (BE.trans (b3.mono (Nat.le_trans HWS.out (Nat.le_refl _)))); clear s3 b3 hb1 B1 bE BE))
    refine ⟨⟨k + 1, by omega, by rw [HNX.out]; go_num, next7 HNX.out, rfl, by simp, by rw [HNX.out]; omega, by rw [← HIN.out.1 HK0.out]; exact HS3.out, HB3.out⟩, ?_⟩
    simp [intOf]; omega
   ·have hz : (k == 0) = false := by simp [hk0]
    have HK0 := LH hk0
    clear hk0
    go_wp2_with (first | (go_at_call 74; refine (sb_byte HS.out 44 44 rfl (by have := items_len 123 TL k HTL.out; omega)).mono ?_; rintro e0 w0 ⟨rfl, s0, b0⟩; have B0 := HR.out.trans (b0.mono HWS.out)) | (go_at_call 76; refine (HRD.out w0 B0).mono ?_; rintro e1 w1 ⟨rfl, hb1⟩; have B1 := B0.trans (hb1.mono B0.size)) | (go_at_call 104; refine (HST.out w1 B1).mono ?_; rintro e2 w2 ⟨rfl, bE⟩; have BE := B1.trans (bE.mono B1.size)) | (go_at_call 79; refine (sb_text ((s0.later hb1).later bE) Tk (by have h1 := items_len 123 TL k HTL.out; have h2 := HTZ.out; simp only [List.length_append, List.length_cons, List.length_nil] at h1 ⊢; omega)).mono ?_; rintro e3 w3 ⟨rfl, s3, b3⟩; have HS3 := LH s3; have HB3 := LH (BE.trans (b3.mono (Nat.le_trans HWS.out (Nat.le_refl _)))); clear s3 b3 hb1 B1 bE BE s0 b0 B0))
    refine ⟨⟨k + 1, by omega, by rw [HNX.out]; go_num, next7 HNX.out, rfl, by simp, by rw [HNX.out]; omega, by rw [← HIN.out.2 (Nat.pos_of_ne_zero HK0.out)]; exact HS3.out, HB3.out⟩, ?_⟩
    simp [intOf]; omega
  ·obtain rfl : k = N := by omega
   have hfin := HE.out.fin
   have HTK := LH (show TL.take k = TL from List.take_of_length_le (Nat.le_of_eq HN.out))
   obtain ⟨p, hp⟩ : ∃ p, pos k = p := ⟨_, rfl⟩
   obtain ⟨bz, hbz⟩ : ∃ b, (k == 0) = b := ⟨_, rfl⟩
   simp only [hp, hbz] at hfin hsn ⊢
   have hge : n ≤ p + 1 := by omega
   have hd : decide ((p : Int) < (n : Int) - 1) = false := by simp; omega
   clear hp hbz hk hlt hfin hsn
   go_wp2_with (first | (go_at_call 74; refine (sb_byte HS.out 125 125 rfl (by have := items_len 123 TL k HTL.out; omega)).mono ?_; rintro e8 w8 ⟨rfl, s8, b8⟩; have B8 := HR.out.trans (b8.mono HWS.out)) | (go_at_call 80; refine (sb_str s8).mono ?_; rintro e9 w9 ⟨rfl, b9⟩; have B9 := B8.trans (b9.mono HWS.out)))
   go_ret2
   exact ⟨by rw [HTK.out]; simp, B9⟩
theorem arrN (g o n c N : Nat) (pos e : Nat → Nat) (TL : List (List UInt8)) (T : Nat → ByteArray) (w : World) (hn : 5 ≤ n) (hnb : n ≤ 1000000000) (hc : n ≤ c) (hcb : c ≤ 9223372036854775807) (hN : TL.length = N) (hTL : (sItems TL).length ≤ 1000000000) (hT : ∀ i, i < N → TL[i]? = some (T i).data.toList) (hTs : ∀ i, i < N → (T i).size ≤ 1000000000)
  (E : LEnv g o n c N pos e w) (hlen : Rd 73 (.slice (some ⟨g, o, none⟩) n c) w (.tuple #[.int .i32 (n : Int), .slice (some ⟨g, o + 4, none⟩) (n - 4) (c - 4), .bool true])) (kd : Nat → Int) (VX : Nat → Option Addr) (vm vc : Nat → Nat) (hst : ∀ i, i < N → Rd 77 (.slice (some ⟨g, o + pos i, none⟩) (e i) (c - pos i)) w (.agg #[.int .u8 (kd i), .slice (VX i) (vm i) (vc i)]) ∧ Rd2 78 (.agg #[.int .u8 (kd i), .slice (VX i) (vm i) (vc i)]) (.int .i64 (-1)) w (.tuple #[.string (T i), .bool false])) :
  Rd2 51 (.slice (some ⟨g, o, none⟩) n c) (.int .i64 (-1)) w (.tuple #[.string ⟨([91] ++ sItems TL ++ [93]).toArray⟩, .bool false]) := by
 intro W hW
 have HE := LH (E.lat hW)
 have HL := LH (hlen W hW)
 have HSTT := LH (fun i hi => And.intro ((hst i hi).1.lat hW) ((hst i hi).2.lat hW))
 have HN := LH hN
 have HTL := LH hTL
 have HT := LH hT
 have HTS := LH hTs
 clear E hlen hN hTL hT hTs hst hW
 go_enter Tryz.func51, Tryz.ntmps51
 go_upto_region 8 with (go_at_call 73; refine HL.out.mono ?_; rintro e0 W1 ⟨rfl, hb0⟩)
 have HB0 := LH hb0
 obtain ⟨Y, hY⟩ : ∃ Y, W1.alloc (.cells #[.pointer none, .slice none 0 0] 118) = Y := ⟨_, rfl⟩
 have hYb : Below W1.heap.size W1 Y := hY ▸ below_al _ _
 have hsb : SB W1.heap.size [] Y := hY ▸ SB.made W1
 have HY := LH hY
 have HWY := LH (hb0.trans (hYb.mono hb0.size))
 have HWS := LH hb0.size
 have HSB := LH hsb
 clear hY hYb hsb hb0
 go_upto_region 9 with fail
 rw [HY.out]
 go_wp2_with (go_at_call 74; refine (sb_byte HSB.out 91 91 rfl (by simp)).mono ?_; rintro e1 w1 ⟨rfl, s1, b1⟩)
 have HS1 := LH s1
 have HB1 := LH (HWY.out.trans (b1.mono HWS.out))
 clear s1 b1
 go_loopw [6, 7, 10, 13] (fun s6 s7 s10 s13 wr => ∃ k : Nat, k ≤ N ∧ s6 = .int .i32 ((n : Int) - 1 - (pos k : Int)) ∧ s7 = .slice (some ⟨g, o + pos k, none⟩) (n - pos k) (c - pos k) ∧ s10 = .bool false ∧ s13 = .bool (k == 0) ∧ pos k + 1 ≤ n ∧ Hid (SB W1.heap.size (91 :: sItems (TL.take k)) wr) ∧ Hid (Below W.heap.size W wr)) (fun s6 _ _ _ _ => (intOf s6).toNat)
 case atStart =>
  refine ⟨0, Nat.zero_le _, ?_, ?_, rfl, rfl, by rw [HE.out.p0]; omega, HS1.out, HB1.out⟩
  ·rw [HE.out.p0]; go_num
  ·rw [HE.out.p0]
 case round =>
  obtain ⟨k, hk, rfl, rfl, rfl, rfl, hsn, HS, HR⟩ := hrel
  by_cases hlt : k < N
  ·have hle := HE.out.le k hlt
   have he1 := HE.out.e1 k hlt
   have HNX := LH (HE.out.next k hlt)
   have HRD := LH (HE.out.rd k hlt)
   have HST := LH (HSTT.out k hlt)
   have HIN := LH (items_next 91 TL k _ (HT.out k hlt))
   have HTZ := LH (HTS.out k hlt)
   obtain ⟨p, hp⟩ : ∃ p, pos k = p := ⟨_, rfl⟩
   obtain ⟨ek, hek⟩ : ∃ p, e k = p := ⟨_, rfl⟩
   obtain ⟨Tk, hTk⟩ : ∃ p, T k = p := ⟨_, rfl⟩
   simp only [hp, hek, hTk] at HRD HST HNX HIN HTZ hle he1 hsn ⊢
   have hf : decide ((0 : Int) < (n : Int) - 1 - (p : Int)) = true := decide_eq_true (by omega)
   have hf2 : decide ((n : Int) - 1 - (p : Int) - (ek : Int) < 0) = false := by simp; omega
   have HPP := LH hp
   clear hp hek hTk
   by_cases hk0 : k = 0
   ·have hz : (k == 0) = true := by simp [hk0]
    have HK0 := LH hk0
    clear hk0
    go_wp2_with (first | (go_at_call 76; refine (HRD.out wr HR.out).mono ?_; rintro e1 w1 ⟨rfl, hb1⟩; have B1 := HR.out.trans (hb1.mono HR.out.size)) | (go_at_call 77; refine (HST.out.1 w1 B1).mono ?_; rintro e2 w2 ⟨rfl, bD⟩; have BD := B1.trans (bD.mono B1.size)) | (go_at_call 78; refine (HST.out.2 w2 BD).mono ?_; rintro e2 w4 ⟨rfl, bE0⟩; have bE := bD.trans (bE0.mono bD.size); have BE := B1.trans (bE.mono B1.size); clear bE0 bD BD) | (go_at_call 79; refine (sb_text ((HS.out.later hb1).later bE) Tk (by have := items_len 91 TL k HTL.out; have := HTZ.out; omega)).mono ?_; rintro e3 w3 ⟨rfl, s3, b3⟩; have HS3 := LH s3; have HB3 := LH (BE.trans (b3.mono (Nat.le_trans HWS.out (Nat.le_refl _)))); clear s3 b3 hb1 B1 bE BE))
    refine ⟨⟨k + 1, by omega, by rw [HNX.out]; go_num, next7 HNX.out, rfl, by simp, by rw [HNX.out]; omega, by rw [← HIN.out.1 HK0.out]; exact HS3.out, HB3.out⟩, ?_⟩
    simp [intOf]; omega
   ·have hz : (k == 0) = false := by simp [hk0]
    have HK0 := LH hk0
    clear hk0
    go_wp2_with (first | (go_at_call 74; refine (sb_byte HS.out 44 44 rfl (by have := items_len 91 TL k HTL.out; omega)).mono ?_; rintro e0 w0 ⟨rfl, s0, b0⟩; have B0 := HR.out.trans (b0.mono HWS.out)) | (go_at_call 76; refine (HRD.out w0 B0).mono ?_; rintro e1 w1 ⟨rfl, hb1⟩; have B1 := B0.trans (hb1.mono B0.size)) | (go_at_call 77; refine (HST.out.1 w1 B1).mono ?_; rintro e2 w2 ⟨rfl, bD⟩; have BD := B1.trans (bD.mono B1.size)) | (go_at_call 78; refine (HST.out.2 w2 BD).mono ?_; rintro e2 w4 ⟨rfl, bE0⟩; have bE := bD.trans (bE0.mono bD.size); have BE := B1.trans (bE.mono B1.size); clear bE0 bD BD) | (go_at_call 79; refine (sb_text ((s0.later hb1).later bE) Tk (by have h1 := items_len 91 TL k HTL.out; have h2 := HTZ.out; simp only [List.length_append, List.length_cons, List.length_nil] at h1 ⊢; omega)).mono ?_; rintro e3 w3 ⟨rfl, s3, b3⟩; have HS3 := LH s3; have HB3 := LH (BE.trans (b3.mono (Nat.le_trans HWS.out (Nat.le_refl _)))); clear s3 b3 hb1 B1 bE BE s0 b0 B0))
    refine ⟨⟨k + 1, by omega, by rw [HNX.out]; go_num, next7 HNX.out, rfl, by simp, by rw [HNX.out]; omega, by rw [← HIN.out.2 (Nat.pos_of_ne_zero HK0.out)]; exact HS3.out, HB3.out⟩, ?_⟩
    simp [intOf]; omega
  ·obtain rfl : k = N := by omega
   have hfin := HE.out.fin
   have HTK := LH (show TL.take k = TL from List.take_of_length_le (Nat.le_of_eq HN.out))
   obtain ⟨p, hp⟩ : ∃ p, pos k = p := ⟨_, rfl⟩
   obtain ⟨bz, hbz⟩ : ∃ b, (k == 0) = b := ⟨_, rfl⟩
   simp only [hp, hbz] at hfin hsn ⊢
   have hge : n ≤ p + 1 := by omega
   have hd : decide ((p : Int) < (n : Int) - 1) = false := by simp; omega
   clear hp hbz hk hlt hfin hsn
   go_wp2_with (first | (go_at_call 74; refine (sb_byte HS.out 93 93 rfl (by have := items_len 91 TL k HTL.out; omega)).mono ?_; rintro e8 w8 ⟨rfl, s8, b8⟩; have B8 := HR.out.trans (b8.mono HWS.out)) | (go_at_call 80; refine (sb_str s8).mono ?_; rintro e9 w9 ⟨rfl, b9⟩; have B9 := B8.trans (b9.mono HWS.out)))
   go_ret2
   exact ⟨by rw [HTK.out]; simp, B9⟩
def cutV (S : ByteArray) (n : Int) : Value := .tuple #[.string (if 0 ≤ n then ⟨(cutL S.data.toList n.toNat).toArray⟩ else S), .bool (decide (0 ≤ n ∧ n < S.size))]
theorem cutV_neg (S : ByteArray) : cutV S (-1) = .tuple #[.string S, .bool false] := rfl
theorem cutV_all (S : ByteArray) (n : Int) (h0 : 0 ≤ n) (h : (S.size : Int) ≤ n) : cutV S n = .tuple #[.string S, .bool false] := by
 have hl : S.data.toList.length = S.size := Array.length_toList
 unfold cutV
 rw [if_pos h0, cut_all _ _ (by omega), decide_eq_false (by omega)]
theorem cutV_less (S : ByteArray) (n : Int) (h0 : 0 ≤ n) (h : n < S.size) : cutV S n = .tuple #[.string ⟨(cutL S.data.toList n.toNat).toArray⟩, .bool true] := by
 unfold cutV
 rw [if_pos h0, decide_eq_true ⟨h0, h⟩]
theorem hd_app {x y : List UInt8} (h : hdOk x) (hx : 1 ≤ x.length) : hdOk (x ++ y) := by
 unfold hdOk at h ⊢
 rwa [getD_lo x y 0 (by omega)]
theorem hd_con {x : UInt8} {y : List UInt8} (h : x.toNat < 128) : hdOk (x :: y) := by
 unfold hdOk
 show x.toNat / 64 ≠ 2
 omega
def brk (a z : UInt8) (TL : List (List UInt8)) : List UInt8 := [a] ++ sItems TL ++ [z]
theorem sItems_app (l1 l2 : List (List UInt8)) (h : l1 ≠ []) : sItems (l1 ++ l2) = sItems l1 ++ l2.flatMap (fun y => 44 :: y) := by
 cases l1 with
 | nil => exact absurd rfl h
 | cons x r => simp [sItems, List.flatMap_append]
def preI (a : UInt8) (TL : List (List UInt8)) (k : Nat) : List UInt8 := if k = 0 then a :: sItems (TL.take k) else (a :: sItems (TL.take k)) ++ [44]
theorem brk_split (a z : UInt8) (TL : List (List UInt8)) (k : Nat) (x : List UInt8) (h : TL[k]? = some x) : ∃ rest, brk a z TL = preI a TL k ++ (x ++ rest) ∧ 1 ≤ rest.length := by
 have hn := items_next a TL k x h
 have hk : k < TL.length := (List.getElem?_eq_some_iff.1 h).1
 have e : sItems TL = sItems (TL.take (k + 1)) ++ (TL.drop (k + 1)).flatMap (fun y => 44 :: y) := by
  rw [← sItems_app _ _ (by intro e; have := congrArg List.length e; rw [List.length_take, List.length_nil] at this; omega), List.take_append_drop]
 refine ⟨(TL.drop (k + 1)).flatMap (fun y => 44 :: y) ++ [z], ?_, by simp⟩
 have e2 : preI a TL k ++ x = a :: sItems (TL.take (k + 1)) := by
  unfold preI
  by_cases hk0 : k = 0
  ·rw [if_pos hk0]; exact hn.1 hk0
  ·rw [if_neg hk0]; exact hn.2 (by omega)
 rw [← List.append_assoc, e2]
 unfold brk
 rw [e]
 simp
theorem preI_hd (a : UInt8) (TL : List (List UInt8)) (k : Nat) (x rest : List UInt8) (hx : hdOk x) (hx1 : 1 ≤ x.length) : ∃ q, preI a TL k ++ (x ++ rest) = (a :: sItems (TL.take k)) ++ q ∧ hdOk q ∧ 1 ≤ q.length := by
 unfold preI
 by_cases hk0 : k = 0
 ·rw [if_pos hk0]
  exact ⟨x ++ rest, rfl, hd_app hx hx1, by rw [List.length_append]; omega⟩
 ·rw [if_neg hk0]
  exact ⟨44 :: (x ++ rest), by simp, hd_con (by decide), by simp⟩
theorem brk_eq (a z : UInt8) (TL : List (List UInt8)) : brk a z TL = (a :: sItems TL) ++ [z] := by unfold brk; simp
def CInv (a z : UInt8) (TL : List (List UInt8)) (M : Nat) (k : Nat) (tr : Bool) (L : List UInt8) : Prop :=
 (tr = false ∧ L = a :: sItems (TL.take k) ∧ L.length ≤ M) ∨ (tr = true ∧ L = cutL (brk a z TL) M ∧ M < (brk a z TL).length)
theorem cinv_full {a z : UInt8} {TL : List (List UInt8)} {M k : Nat} {x : List UInt8} (h : TL[k]? = some x) (hx : hdOk x) (hx1 : 1 ≤ x.length) (hM : (a :: sItems (TL.take k)).length = M) : CInv a z TL M k true (a :: sItems (TL.take k)) := by
 obtain ⟨rest, e, _⟩ := brk_split a z TL k x h
 obtain ⟨q, e2, hq, hq1⟩ := preI_hd a TL k x rest hx hx1
 refine .inr ⟨rfl, ?_, ?_⟩
 ·rw [e, e2, cut_hi _ _ _ hq (Nat.le_of_eq hM), hM, Nat.sub_self, cut_zero, List.append_nil]
 ·rw [e, e2, List.length_append]; omega
theorem cinv_comma {a z : UInt8} {TL : List (List UInt8)} {M k : Nat} {x : List UInt8} (h : TL[k]? = some x) (hx : hdOk x) (hx1 : 1 ≤ x.length) (hk : k ≠ 0) (hM : (a :: sItems (TL.take k)).length + 1 = M) : CInv a z TL M k true ((a :: sItems (TL.take k)) ++ [44]) := by
 obtain ⟨rest, e, _⟩ := brk_split a z TL k x h
 have hp : preI a TL k = (a :: sItems (TL.take k)) ++ [44] := if_neg hk
 rw [hp] at e
 have hl : ((a :: sItems (TL.take k)) ++ [44]).length = M := by rw [List.length_append]; exact hM
 refine .inr ⟨rfl, ?_, ?_⟩
 ·rw [e, cut_hi _ _ _ (hd_app hx hx1) (Nat.le_of_eq hl), hl, Nat.sub_self, cut_zero, List.append_nil]
 ·rw [e]; simp only [List.length_append, List.length_cons, List.length_nil] at hl ⊢; omega
theorem cinv_item {a z : UInt8} {TL : List (List UInt8)} {M k : Nat} {x : List UInt8} (h : TL[k]? = some x) (hx : hdOk x) (hx1 : 1 ≤ x.length) (m : Nat) (hM : (preI a TL k).length + m = M) : CInv a z TL M (k + 1) (decide (m < x.length)) (preI a TL k ++ cutL x m) := by
 have hn := items_next a TL k x h
 by_cases hm : m < x.length
 ·obtain ⟨rest, e, _⟩ := brk_split a z TL k x h
  refine .inr ⟨decide_eq_true hm, ?_, ?_⟩
  ·rw [e, cut_hi _ _ _ (hd_app hx hx1) (by omega), show M - (preI a TL k).length = m from by omega, cut_lo _ _ _ hm]
  ·rw [e, List.length_append, List.length_append]; omega
 ·have e2 : preI a TL k ++ x = a :: sItems (TL.take (k + 1)) := by
   unfold preI
   by_cases hk0 : k = 0
   ·rw [if_pos hk0]; exact hn.1 hk0
   ·rw [if_neg hk0]; exact hn.2 (by omega)
  refine .inl ⟨decide_eq_false hm, ?_, ?_⟩
  ·rw [cut_all _ _ (by omega), e2]
  ·rw [cut_all _ _ (by omega), List.length_append]; omega
theorem cinv_all {a z : UInt8} {TL : List (List UInt8)} {M : Nat} (h : (a :: sItems TL).length < M) : cutV ⟨(brk a z TL).toArray⟩ M = .tuple #[.string ⟨((a :: sItems TL) ++ [z]).toArray⟩, .bool false] := by
 have e := brk_eq a z TL
 rw [cutV_all _ _ (by omega) (by show ((brk a z TL).toArray.size : Int) ≤ _; rw [List.size_toArray, e]; simp only [List.length_append, List.length_cons, List.length_nil] at h ⊢; omega), e]
theorem cinv_close {a z : UInt8} {TL : List (List UInt8)} {M : Nat} (hz : z.toNat < 128) (h : (a :: sItems TL).length = M) : CInv a z TL M TL.length true (a :: sItems TL) := by
 have e := brk_eq a z TL
 refine .inr ⟨rfl, ?_, ?_⟩
 ·rw [e, cut_hi _ _ _ (hd_con hz) (Nat.le_of_eq h), h, Nat.sub_self, cut_zero, List.append_nil]
 ·rw [e]; simp only [List.length_append, List.length_cons, List.length_nil] at h ⊢; omega
theorem cinv_less {a z : UInt8} {TL : List (List UInt8)} {M k : Nat} {L : List UInt8} (h : CInv a z TL M k true L) : cutV ⟨(brk a z TL).toArray⟩ M = .tuple #[.string ⟨L.toArray⟩, .bool true] := by
 rcases h with ⟨h, _⟩ | ⟨_, rfl, h⟩
 ·cases h
 ·rw [cutV_less _ _ (by omega) (by show _ < ((brk a z TL).toArray.size : Int); rw [List.size_toArray]; omega)]
  rfl
set_option maxHeartbeats 8000000
theorem rd_str120 {w : World} {g o : Nat} (s : ByteArray) (hr : RD w g o s.data.toList) (n c : Nat) (hn : n = s.size) : (convert 120 9 (.slice (some ⟨g, o, none⟩) n c)).run Tryz.prog w = .ok (.string s) w := by
 subst hn
 refine Lib.run_convert_whole (P := Tryz.prog) w 120 5 9 Tryz.underlying120 Tryz.underlying5 Tryz.underlying9 g o s ?_ c
 intro i hi
 have h' : i < s.data.toList.length := by rw [Array.length_toList]; exact hi
 exact hr i _ (List.getElem?_eq_getElem h')
theorem elc_one (g o n c : Nat) (hn : 1 ≤ n) (w : World) : Rd2 104 (.slice (some ⟨g, o, none⟩) n c) (.int .i64 1) w (.tuple #[.string ⟨#[34]⟩, .bool true]) := by
 intro W hW
 clear hW
 have hd : ((n : Int) == 0) = false := by simp; omega
 go_enter Tryz.func104, Tryz.ntmps104
 go_wp2_with fail
 go_ret2
 exact ⟨rfl, Below.refl _ _⟩
inductive ElR (k : Int) (p m : Nat) (X : Value) (t : List UInt8) (w : World) (M : Nat) : Value → Prop
 | full (hM : p + 4 = M) : ElR k p m X t w M (.tuple #[.string ⟨([34] ++ t ++ [34, 58, 32]).toArray⟩, .bool true])
 | sfx (q : Nat) (hq : q ≤ 2) (hM : p + 1 + q = M) : ElR k p m X t w M (.tuple #[.string ⟨([34] ++ t ++ ([34, 58, 32] : List UInt8).take q).toArray⟩, .bool true])
 | key (hM1 : 2 ≤ M) (hM : M ≤ p) : ElR k p m X t w M (.tuple #[.string ⟨([34] ++ cutL t (M - 1)).toArray⟩, .bool true])
 | str (hM : p + 4 < M) (hk : k = 2) (y : ByteArray) (hy : y.size ≤ 1000000000) (tr : Bool) (x0 : ByteArray) (hok : Rd 109 (.agg #[.int .u8 k, X]) w (.tuple #[.string x0, .bool true])) (hs : Rd2 78 (.agg #[.int .u8 k, X]) (.int .i64 ((M : Int) - ((p : Int) + 4))) w (.tuple #[.string y, .bool tr])) : ElR k p m X t w M (.tuple #[.string ⟨([34] ++ t ++ [34, 58, 32] ++ y.data.toList).toArray⟩, .bool tr])
 | arr (hM : p + 4 < M) (hk : k = 4) (y : ByteArray) (hy : y.size ≤ 1000000000) (tr : Bool) (X0 : Option Addr) (n0 c0 : Nat) (hok : Rd 112 (.agg #[.int .u8 k, X]) w (.tuple #[.slice X0 n0 c0, .bool true])) (hs : Rd2 51 (.slice X0 n0 c0) (.int .i64 ((M : Int) - ((p : Int) + 4))) w (.tuple #[.string y, .bool tr])) : ElR k p m X t w M (.tuple #[.string ⟨([34] ++ t ++ [34, 58, 32] ++ y.data.toList).toArray⟩, .bool tr])
 | all (hM : p + 4 < M) (hk2 : (k != 2) = true) (hk4 : (k != 4) = true) (S : ByteArray) (hle : p + 4 + S.size ≤ M) (hs : Rd 170 (.agg #[.int .u8 k, X]) w (.string S)) : ElR k p m X t w M (.tuple #[.string ⟨([34] ++ t ++ [34, 58, 32] ++ S.data.toList).toArray⟩, .bool false])
 | less (hM : p + 4 < M) (hk2 : (k != 2) = true) (hk4 : (k != 4) = true) (S : ByteArray) (hy : S.size ≤ 1000000000) (hle : M < p + 4 + S.size) (hs : Rd 170 (.agg #[.int .u8 k, X]) w (.string S)) : ElR k p m X t w M (.tuple #[.string ⟨([34] ++ t ++ [34, 58, 32] ++ cutL S.data.toList (M - (p + 4))).toArray⟩, .bool true])
theorem elc (g o n c p m : Nat) (k : Int) (kb : UInt8) (t r : List UInt8) (w : World) (hk : (kb.toNat : Int) = k) (hp : t.length = p) (hp0 : 0 < p) (hpb : p ≤ 1000) (hn : n = p + 2 + m) (hm : r.length = m) (hc : n < c) (hcb : c ≤ 9223372036854775807) (hmb : m < 2000000000) (h0 : 0 ∉ t) (hr : RD w g o (kb :: (t ++ 0 :: r))) (M : Nat) (hMb : M ≤ 100000) (hM2 : 2 ≤ M)
  (h : VLen k m (.slice (some ⟨g, o + (p + 2), none⟩) (n - (p + 2)) (c - (p + 2))) w) (R : Value) (hR : ElR k p m (.slice (some ⟨g, o + (p + 2), none⟩) m (c - (p + 2))) t w M R) : Rd2 104 (.slice (some ⟨g, o, none⟩) n c) (.int .i64 (M : Int)) w (R) := by
 intro W hW
 have hrW := hr.lat hW
 have hix := hp ▸ ix_zero g (o + 1) (n - 1) (c - 1) t r W (by omega) h0 (RD.right (a := [kb]) hrW)
 have c0 : W.cell? ⟨g, o, none⟩ = some (.int .u8 k) := by have := hrW 0 kb rfl; rwa [hk] at this
 have hgW : g < W.heap.size := World.block_lt_of_cell? W _ c0
 have hrt : RD W g (o + 1) t := (RD.right (a := [kb]) (b := t ++ 0 :: r) hrW).left
 obtain ⟨Y, hY⟩ : ∃ Y, W.alloc (.cells #[.pointer none, .slice none 0 0] 118) = Y := ⟨_, rfl⟩
 have hYb : Below W.heap.size W Y := hY ▸ below_al _ _
 have hYs : Y.heap.size = W.heap.size + 1 := by rw [← hY]; simp
 have hsb : SB W.heap.size [] Y := hY ▸ SB.made W
 have HIX := LH hix
 have HG := LH hgW
 have HRT := LH (fun X (hX : Below W.heap.size W X) => hrt.lat hX)
 have HY := LH hY
 have HYB := LH hYb
 have HSB := LH hsb
 have HV := LH (fun X (hX : Below W.heap.size W X) => readVal g (o + (p + 2)) (n - (p + 2)) (c - (p + 2)) m k w (by omega) (by omega) (by omega) hmb h X (hW.trans (hX.mono hW.size)))
 have HWW := LH hW
 have HP := LH hp
 obtain ⟨L, hLL⟩ : ∃ L, ([] : List UInt8) ++ [34] ++ t ++ (⟨#[34, 58, 32]⟩ : ByteArray).data.toList = L := ⟨_, rfl⟩
 have hLs : L.length = p + 4 := by rw [← hLL]; simp; omega
 have HLEN := LH (fun (X : World) (s : SB W.heap.size L X) => (by have := sb_len s; rwa [show (L.length : Int) = (p : Int) + 4 from by omega] at this : Calls Tryz.prog 75 #[.pointer (some ⟨W.heap.size, 0, none⟩)] X fun e w' => e = .returned (.int .i64 ((p : Int) + 4)) ∧ w' = X))
 have HLEN1 := LH (fun (X : World) (s : SB W.heap.size ([] ++ [34]) X) => (by have := sb_len s; rwa [show ((([] ++ [34] : List UInt8).length : Nat) : Int) = 1 from rfl] at this : Calls Tryz.prog 75 #[.pointer (some ⟨W.heap.size, 0, none⟩)] X fun e w' => e = .returned (.int .i64 1) ∧ w' = X))
 have HLL := LH hLL
 have HLS := LH hLs
 have HLT := LH hLL
 have hn2 : p + 2 + m ≤ n := by omega
 have hd : ((p : Int) == 0) = false := by simp; omega
 have hM0 : ((M : Int) == 0) = false := by simp; omega
 have hM1 : ((M : Int) == 1) = false := by simp; omega
 have hd1 : decide ((M : Int) < 0) = false := decide_eq_false (by omega)
 clear hr h hW hrW hix hY hYb hYs hsb hgW hk hn hm h0 hLL hLs
 by_cases hM : p + 4 < M
 ·skip
  have hd2 : decide ((p : Int) ≤ (M : Int) - 1 - 3) = true := decide_eq_true (by omega)
  have hd3 : decide ((0 : Int) < (M : Int)) = true := decide_eq_true (by omega)
  have hd4 : decide ((M : Int) ≤ (p : Int) + 4) = false := decide_eq_false (by omega)
  have hd5 : decide ((0 : Int) < (M : Int) - ((p : Int) + 4)) = true := decide_eq_true (by omega)
  clear hp hrt
  go_enter Tryz.func104, Tryz.ntmps104
  go_upto_region 13 with (go_at_call 167; refine HIX.out.mono ?_; rintro e w0 ⟨rfl, hw0⟩; obtain rfl := hw0)
  rw [HY.out]
  go_wp2_with (first | (go_at_call 74; refine (sb_byte HSB.out 34 34 rfl (by simp)).mono ?_; rintro e w1 ⟨rfl, s1, b1⟩; have B1 := HYB.out.trans b1) | (go_at_call 75; refine (HLEN1.out _ s1).mono ?_; rintro e w1b ⟨rfl, rfl⟩) | (go_at_call 168; refine (sb_row s1 g (o + 1) p _ t HP.out HG.out (HRT.out _ B1) (by have := HP.out; simp; omega)).mono ?_; rintro e w2 ⟨rfl, s2, b2⟩; have B2 := B1.trans b2) | (go_at_call 79; refine (sb_text s2 ⟨#[34, 58, 32]⟩ (by have := HP.out; have : (⟨#[34, 58, 32]⟩ : ByteArray).size = 3 := rfl; simp; omega)).mono ?_; rintro e w3 ⟨rfl, s3, b3⟩; rw [HLL.out] at s3; have B3 := B2.trans b3) | (go_at_call 75; refine (HLEN.out _ s3).mono ?_; rintro e w3b ⟨rfl, rfl⟩) | (go_at_call 169; refine (HV.out _ B3).mono ?_; rintro e w4 ⟨rfl, hb4⟩; have B4 := B3.trans (hb4.mono B3.size)) | (with_reducible show wpList _ _ _ (⟨some 96, _, _, _, _, _⟩ :: _) _ _; refine Hid.out ?_))
  refine LH ?_
  have s4 := s3.later hb4
  have hv : Below w4.heap.size w4 (w4.alloc (.cells #[.int .u8 k, (.slice (some ⟨g, o + (p + 2), none⟩) m (c - (p + 2)))] 126)) := below_al w4 _
  have hpk := heap_alloc_new w4 (.cells #[.int .u8 k, (.slice (some ⟨g, o + (p + 2), none⟩) m (c - (p + 2)))] 126)
  obtain ⟨V, hV⟩ : ∃ V, w4.alloc (.cells #[.int .u8 k, (.slice (some ⟨g, o + (p + 2), none⟩) m (c - (p + 2)))] 126) = V := ⟨_, rfl⟩
  rw [hV] at hpk hv ⊢
  have hlt : w4.heap.size < V.heap.size := by rw [← hV]; simp
  have HPK := LH (fun (X : World) (hX : Below V.heap.size V X) => two_cells ((hX.block w4.heap.size hlt).trans hpk))
  have HSV := LH (s4.later hv)
  have HBV := LH (B4.trans (hv.mono B4.size))
  obtain ⟨q0, q1⟩ := HPK.out V (Below.refl _ _)
  clear s1 s2 s3 s4 B1 B2 B3 B4 b1 b2 b3 hb4 hpk hv hV hlt HV HSB HRT HIX
  cases hR with
  | str hM9 hk9 y hy tr x0 hok hs =>
   subst hk9
   have HOK := LH (hok.lat HWW.out)
   have HS := LH (hs.lat HWW.out)
   have HYS := LH hy
   clear hok hs
   go_wp2_with (first | (go_at_call 109; refine (HOK.out _ (HBV.out.trans (((Below.refl V.heap.size V)).mono HBV.out.size))).mono ?_; rintro e y5 ⟨rfl, hx5⟩; have X5 : Below V.heap.size V y5 := hx5; obtain ⟨u5, v5⟩ := HPK.out y5 X5) | (go_at_call 78; refine (HS.out _ (HBV.out.trans ((X5).mono HBV.out.size))).mono ?_; rintro e y6 ⟨rfl, hx6⟩; have X6 : Below V.heap.size V y6 := X5.trans (hx6.mono X5.size); obtain ⟨u6, v6⟩ := HPK.out y6 X6) | (go_at_call 79; refine (sb_text (HSV.out.later X6) _ (by have := HLS.out; have := HYS.out; omega)).mono ?_; rintro e w8 ⟨rfl, s8, b8⟩; have B8 := (HBV.out.trans (X6.mono HBV.out.size)).trans b8) | (go_at_call 80; refine (sb_str s8).mono ?_; rintro e w9 ⟨rfl, b9⟩; have B9 := B8.trans b9))
   go_ret2
   exact ⟨by rw [← HLT.out]; simp, B9⟩
  | arr hM9 hk9 y hy tr X0 n0 c0' hok hs =>
   subst hk9
   have HNO := LH (no109 4 (by decide) (some ⟨g, o + (p + 2), none⟩) m (c - (p + 2)) w0)
   have HOK := LH (hok.lat HWW.out)
   have HS := LH (hs.lat HWW.out)
   have HYS := LH hy
   clear hok hs
   go_wp2_with (first | (go_at_call 109; refine (HNO.out _ (HBV.out.trans (((Below.refl V.heap.size V)).mono HBV.out.size))).mono ?_; rintro e y5 ⟨rfl, hx5⟩; have X5 : Below V.heap.size V y5 := hx5; obtain ⟨u5, v5⟩ := HPK.out y5 X5) | (go_at_call 112; refine (HOK.out _ (HBV.out.trans ((X5).mono HBV.out.size))).mono ?_; rintro e y6 ⟨rfl, hx6⟩; have X6 : Below V.heap.size V y6 := X5.trans (hx6.mono X5.size); obtain ⟨u6, v6⟩ := HPK.out y6 X6) | (go_at_call 51; refine (HS.out _ (HBV.out.trans ((X6).mono HBV.out.size))).mono ?_; rintro e y7 ⟨rfl, hx7⟩; have X7 : Below V.heap.size V y7 := X6.trans (hx7.mono X6.size); obtain ⟨u7, v7⟩ := HPK.out y7 X7) | (go_at_call 79; refine (sb_text (HSV.out.later X7) _ (by have := HLS.out; have := HYS.out; omega)).mono ?_; rintro e w8 ⟨rfl, s8, b8⟩; have B8 := (HBV.out.trans (X7.mono HBV.out.size)).trans b8) | (go_at_call 80; refine (sb_str s8).mono ?_; rintro e w9 ⟨rfl, b9⟩; have B9 := B8.trans b9))
   go_ret2
   exact ⟨by rw [← HLT.out]; simp, B9⟩
  | all hM9 hk2 hk4 S hle hs =>
   have HNO := LH (no109 k hk2 (some ⟨g, o + (p + 2), none⟩) m (c - (p + 2)) w0)
   have HNA := LH (no112 k hk4 (some ⟨g, o + (p + 2), none⟩) m (c - (p + 2)) w0)
   have HS := LH (hs.lat HWW.out)
   have HYS := LH (show S.size ≤ 1000000 from by omega)
   have hd6 : decide (((M : Int) - ((p : Int) + 4)) < (S.size : Int)) = false := decide_eq_false (by omega)
   clear hs
   go_wp2_with (first | (go_at_call 109; refine (HNO.out _ (HBV.out.trans (((Below.refl V.heap.size V)).mono HBV.out.size))).mono ?_; rintro e y5 ⟨rfl, hx5⟩; have X5 : Below V.heap.size V y5 := hx5; obtain ⟨u5, v5⟩ := HPK.out y5 X5) | (go_at_call 112; refine (HNA.out _ (HBV.out.trans ((X5).mono HBV.out.size))).mono ?_; rintro e y6 ⟨rfl, hx6⟩; have X6 : Below V.heap.size V y6 := X5.trans (hx6.mono X5.size); obtain ⟨u6, v6⟩ := HPK.out y6 X6) | (go_at_call 170; refine (HS.out _ (HBV.out.trans ((X6).mono HBV.out.size))).mono ?_; rintro e y7 ⟨rfl, hx7⟩; have X7 : Below V.heap.size V y7 := X6.trans (hx7.mono X6.size); obtain ⟨u7, v7⟩ := HPK.out y7 X7) | (go_at_call 79; refine (sb_text (HSV.out.later X7) _ (by have := HLS.out; have := HYS.out; omega)).mono ?_; rintro e w8 ⟨rfl, s8, b8⟩; have B8 := (HBV.out.trans (X7.mono HBV.out.size)).trans b8) | (go_at_call 80; refine (sb_str s8).mono ?_; rintro e w9 ⟨rfl, b9⟩; have B9 := B8.trans b9))
   go_ret2
   exact ⟨by rw [← HLT.out]; simp, B9⟩
  | less hM9 hk2 hk4 S hy hle hs =>
   have HNO := LH (no109 k hk2 (some ⟨g, o + (p + 2), none⟩) m (c - (p + 2)) w0)
   have HNA := LH (no112 k hk4 (some ⟨g, o + (p + 2), none⟩) m (c - (p + 2)) w0)
   have HS := LH (hs.lat HWW.out)
   have HYS := LH (show (⟨(cutL S.data.toList (M - (p + 4))).toArray⟩ : ByteArray).size ≤ 1000000000 from by show (cutL S.data.toList (M - (p + 4))).toArray.size ≤ _; rw [List.size_toArray]; have := cut_le S.data.toList (M - (p + 4)); omega)
   have hd6 : decide (((M : Int) - ((p : Int) + 4)) < (S.size : Int)) = true := decide_eq_true (by omega)
   have HTR := LH (fun (X : World) => (by have := trunc_any S (M - (p + 4)) (by omega) (by omega) hy X; rwa [show ((M - (p + 4) : Nat) : Int) = ((M : Int) - ((p : Int) + 4)) from by omega] at this : Calls Tryz.prog 134 #[.string S, .int .i64 ((M : Int) - ((p : Int) + 4))] X fun e w' => e = .returned (.string ⟨(cutL S.data.toList (M - (p + 4))).toArray⟩) ∧ X = w'))
   clear hs
   go_wp2_with (first | (go_at_call 109; refine (HNO.out _ (HBV.out.trans (((Below.refl V.heap.size V)).mono HBV.out.size))).mono ?_; rintro e y5 ⟨rfl, hx5⟩; have X5 : Below V.heap.size V y5 := hx5; obtain ⟨u5, v5⟩ := HPK.out y5 X5) | (go_at_call 112; refine (HNA.out _ (HBV.out.trans ((X5).mono HBV.out.size))).mono ?_; rintro e y6 ⟨rfl, hx6⟩; have X6 : Below V.heap.size V y6 := X5.trans (hx6.mono X5.size); obtain ⟨u6, v6⟩ := HPK.out y6 X6) | (go_at_call 170; refine (HS.out _ (HBV.out.trans ((X6).mono HBV.out.size))).mono ?_; rintro e y7 ⟨rfl, hx7⟩; have X7 : Below V.heap.size V y7 := X6.trans (hx7.mono X6.size); obtain ⟨u7, v7⟩ := HPK.out y7 X7) | (go_at_call 134; refine (HTR.out _).mono ?_; rintro e y8 ⟨rfl, rfl⟩) | (go_at_call 79; refine (sb_text (HSV.out.later X7) _ (by have := HLS.out; have := HYS.out; omega)).mono ?_; rintro e w8 ⟨rfl, s8, b8⟩; have B8 := (HBV.out.trans (X7.mono HBV.out.size)).trans b8) | (go_at_call 80; refine (sb_str s8).mono ?_; rintro e w9 ⟨rfl, b9⟩; have B9 := B8.trans b9))
   go_ret2
   exact ⟨by rw [← HLT.out]; simp, B9⟩
  | full h9 => omega
  | sfx q hq h9 => omega
  | key h8 h9 => omega
 cases hR with
 | str h9 => omega
 | arr h9 => omega
 | all h9 => omega
 | less h9 => omega
 | full hM9 =>
  have hd2 : decide ((p : Int) ≤ (M : Int) - 1 - 3) = true := decide_eq_true (by omega)
  have hd3 : decide ((0 : Int) < (M : Int)) = true := decide_eq_true (by omega)
  have hd4 : decide ((M : Int) ≤ (p : Int) + 4) = true := decide_eq_true (by omega)
  clear hrt hp
  go_enter Tryz.func104, Tryz.ntmps104
  go_upto_region 13 with (go_at_call 167; refine HIX.out.mono ?_; rintro e w0 ⟨rfl, hw0⟩; obtain rfl := hw0)
  rw [HY.out]
  go_wp2_with (first | (go_at_call 74; refine (sb_byte HSB.out 34 34 rfl (by simp)).mono ?_; rintro e w1 ⟨rfl, s1, b1⟩; have B1 := HYB.out.trans b1) | (go_at_call 75; refine (HLEN1.out _ s1).mono ?_; rintro e w1b ⟨rfl, rfl⟩) | (go_at_call 168; refine (sb_row s1 g (o + 1) p _ t HP.out HG.out (HRT.out _ B1) (by have := HP.out; simp; omega)).mono ?_; rintro e w2 ⟨rfl, s2, b2⟩; have B2 := B1.trans b2) | (go_at_call 79; refine (sb_text s2 ⟨#[34, 58, 32]⟩ (by have := HP.out; have : (⟨#[34, 58, 32]⟩ : ByteArray).size = 3 := rfl; simp; omega)).mono ?_; rintro e w3 ⟨rfl, s3, b3⟩; rw [HLL.out] at s3; have B3 := B2.trans b3) | (go_at_call 75; refine (HLEN.out _ s3).mono ?_; rintro e w3b ⟨rfl, rfl⟩) | (go_at_call 80; refine (sb_str s3).mono ?_; rintro e w9 ⟨rfl, b9⟩; have B9 := B3.trans b9))
  go_ret2
  exact ⟨by rw [← HLT.out]; simp, B9⟩
 | sfx q hq hM9 =>
  have hd2 : decide ((p : Int) ≤ (M : Int) - 1 - 3) = false := decide_eq_false (by omega)
  have hd3 : decide ((p : Int) < (M : Int)) = true := decide_eq_true (by omega)
  have hd4 : (M : Int) - (p : Int) - 1 = (q : Int) := by omega
  have HEX := LH (take_str ⟨#[34, 58, 32]⟩ q)
  have HEZ := LH (show ((⟨#[34, 58, 32]⟩ : ByteArray).extract 0 q).size ≤ 10 from by rw [ByteArray.size_extract]; omega)
  clear hrt hp
  go_enter Tryz.func104, Tryz.ntmps104
  go_upto_region 13 with (go_at_call 167; refine HIX.out.mono ?_; rintro e w0 ⟨rfl, hw0⟩; obtain rfl := hw0)
  rw [HY.out]
  go_wp2_with (first | (go_at_call 74; refine (sb_byte HSB.out 34 34 rfl (by simp)).mono ?_; rintro e w1 ⟨rfl, s1, b1⟩; have B1 := HYB.out.trans b1) | (go_at_call 75; refine (HLEN1.out _ s1).mono ?_; rintro e w1b ⟨rfl, rfl⟩) | (go_at_call 168; refine (sb_row s1 g (o + 1) p _ t HP.out HG.out (HRT.out _ B1) (by have := HP.out; simp; omega)).mono ?_; rintro e w2 ⟨rfl, s2, b2⟩; have B2 := B1.trans b2) | (go_at_call 79; refine (sb_text s2 _ (by have := HP.out; have := HEZ.out; simp; omega)).mono ?_; rintro e w3 ⟨rfl, s3, b3⟩; have B3 := B2.trans b3) | (go_at_call 80; refine (sb_str s3).mono ?_; rintro e w9 ⟨rfl, b9⟩; have B9 := B3.trans b9))
  go_ret2
  exact ⟨by rw [HEX.out]; simp, B9⟩
 | key hM1' hM9 =>
  have hd2 : decide ((p : Int) ≤ (M : Int) - 1 - 3) = false := decide_eq_false (by omega)
  have hd3 : decide ((p : Int) < (M : Int)) = false := decide_eq_false (by omega)
  have hts : (⟨t.toArray⟩ : ByteArray).size = p := by show t.toArray.size = p; rw [List.size_toArray]; exact hp
  have HCV := LH (fun X (hX : Below W.heap.size W X) => rd_str120 (⟨t.toArray⟩ : ByteArray) (w := X) (g := g) (o := o + 1) (by simpa using hrt.lat hX) p (c - 1) hts.symm)
  have HTR := LH (fun (X : World) => (by have := trunc_any ⟨t.toArray⟩ (M - 1) (by omega) (by rw [hts]; omega) (by omega) X; rwa [show ((M - 1 : Nat) : Int) = (M : Int) - 1 from by omega] at this : Calls Tryz.prog 134 #[.string ⟨t.toArray⟩, .int .i64 ((M : Int) - 1)] X fun e w' => e = .returned (.string ⟨(cutL t (M - 1)).toArray⟩) ∧ X = w'))
  have HYS := LH (show (⟨(cutL t (M - 1)).toArray⟩ : ByteArray).size ≤ 1000000 from by show (cutL t (M - 1)).toArray.size ≤ _; rw [List.size_toArray]; have := cut_le t (M - 1); omega)
  clear hts
  clear hrt hp
  go_enter Tryz.func104, Tryz.ntmps104
  go_upto_region 13 with (go_at_call 167; refine HIX.out.mono ?_; rintro e w0 ⟨rfl, hw0⟩; obtain rfl := hw0)
  rw [HY.out]
  go_wp2_with (first | (go_at_call 74; refine (sb_byte HSB.out 34 34 rfl (by simp)).mono ?_; rintro e w1 ⟨rfl, s1, b1⟩; have B1 := HYB.out.trans b1) | (go_at_call 75; refine (HLEN1.out _ s1).mono ?_; rintro e w1b ⟨rfl, rfl⟩) | (with_reducible show wpList _ _ _ (⟨some 40, _, _, _, _, _⟩ :: _) _ _; refine Hid.out ?_))
  refine LH ?_
  have hcv := HCV.out _ B1
  go_wp2_with (first | (go_at_call 134; refine (HTR.out _).mono ?_; rintro e w2 ⟨rfl, rfl⟩) | (go_at_call 79; refine (sb_text s1 _ (by have := HYS.out; simp; omega)).mono ?_; rintro e w3 ⟨rfl, s3, b3⟩; have B3 := B1.trans b3) | (go_at_call 80; refine (sb_str s3).mono ?_; rintro e w9 ⟨rfl, b9⟩; have B9 := B3.trans b9))
  go_ret2
  exact ⟨by simp, B9⟩
set_option maxHeartbeats 8000000
theorem cutV_parts (S : ByteArray) (m : Int) : ∃ (y : ByteArray) (tr : Bool), cutV S m = .tuple #[.string y, .bool tr] := ⟨_, _, rfl⟩
theorem cutV_app (pre : List UInt8) (S : ByteArray) (M : Int) (m : Int) (hm : M - pre.length = m) (h0 : 0 ≤ m) (hd : hdOk S.data.toList) (y : ByteArray) (tr : Bool) (hy : cutV S m = .tuple #[.string y, .bool tr]) : cutV ⟨(pre ++ S.data.toList).toArray⟩ M = .tuple #[.string ⟨(pre ++ y.data.toList).toArray⟩, .bool tr] ∧ y.size ≤ S.size := by
 have hl : S.data.toList.length = S.size := Array.length_toList
 obtain ⟨q, rfl⟩ : ∃ q : Nat, m = q := ⟨m.toNat, by omega⟩
 obtain rfl : M = ((pre.length + q : Nat) : Int) := by omega
 unfold cutV at hy ⊢
 rw [if_pos h0] at hy
 injection hy with hy
 simp only [Array.mk.injEq, List.cons.injEq, Value.string.injEq, Value.bool.injEq, and_true] at hy
 obtain ⟨rfl, rfl⟩ := hy
 rw [if_pos (by omega)]
 have e1 : (⟨(pre ++ S.data.toList).toArray⟩ : ByteArray).size = pre.length + S.size := by
  show (pre ++ S.data.toList).toArray.size = _
  rw [List.size_toArray, List.length_append, hl]
 have e2 : cutL (pre ++ S.data.toList) (pre.length + q) = pre ++ cutL S.data.toList q := by
  rw [cut_hi _ _ _ hd (by omega), Nat.add_sub_cancel_left]
 refine ⟨?_, ?_⟩
 ·rw [e1]
  have e3 : decide ((0 : Int) ≤ ((pre.length + q : Nat) : Int) ∧ ((pre.length + q : Nat) : Int) < ((pre.length + S.size : Nat) : Int)) = decide ((0 : Int) ≤ (q : Int) ∧ (q : Int) < (S.size : Int)) := decide_eq_decide.2 (by omega)
  rw [e3]
  simp only [Int.toNat_natCast, e2]
 ·show (cutL S.data.toList q).toArray.size ≤ _
  rw [List.size_toArray]
  unfold cutL
  split
  ·omega
  ·rw [List.length_take]; omega
theorem cinv_next {a z : UInt8} {TL : List (List UInt8)} {M k : Nat} {S : ByteArray} (h : TL[k]? = some S.data.toList) (hx : hdOk S.data.toList) (hx1 : 1 ≤ S.size) (m : Int) (hm1 : 1 ≤ m) (hM : ((preI a TL k).length : Int) + m = M) (y : ByteArray) (tr : Bool) (hy : cutV S m = .tuple #[.string y, .bool tr]) : CInv a z TL M (k + 1) tr (preI a TL k ++ y.data.toList) ∧ y.size ≤ S.size := by
 have hl : S.data.toList.length = S.size := Array.length_toList
 have hs := (cutV_app [] S m m (by simp) (by omega) hx y tr hy).2
 obtain ⟨q, rfl⟩ : ∃ q : Nat, m = q := ⟨m.toNat, by omega⟩
 have hi := cinv_item (a := a) (z := z) (M := M) h hx (by omega) q (by omega)
 unfold cutV at hy
 rw [if_pos (by omega)] at hy
 injection hy with hy
 simp only [Array.mk.injEq, List.cons.injEq, Value.string.injEq, Value.bool.injEq, and_true] at hy
 obtain ⟨rfl, rfl⟩ := hy
 refine ⟨?_, hs⟩
 rw [show decide ((0 : Int) ≤ (q : Int) ∧ (q : Int) < (S.size : Int)) = decide (q < S.data.toList.length) from decide_eq_decide.2 (by omega)]
 exact hi
theorem docC (g o n c N : Nat) (pos e : Nat → Nat) (TL : List (List UInt8)) (T : Nat → ByteArray) (w : World) (M : Nat) (hM1 : 1 ≤ M) (hMb : M ≤ 100000) (hn : 5 ≤ n) (hnb : n ≤ 1000000000) (hc : n ≤ c) (hcb : c ≤ 9223372036854775807) (hN : TL.length = N) (hT : ∀ i, i < N → TL[i]? = some (T i).data.toList) (hTs : ∀ i, i < N → (T i).size ≤ 1000000000 ∧ 1 ≤ (T i).size ∧ hdOk (T i).data.toList)
  (E : LEnv g o n c N pos e w) (hlen : Rd 73 (.slice (some ⟨g, o, none⟩) n c) w (.tuple #[.int .i32 (n : Int), .slice (some ⟨g, o + 4, none⟩) (n - 4) (c - 4), .bool true])) (hst : ∀ i, i < N → ∀ m : Int, 1 ≤ m → m ≤ M → Rd2 104 (.slice (some ⟨g, o + pos i, none⟩) (e i) (c - pos i)) (.int .i64 m) w (cutV (T i) m)) :
  Rd2 72 (.slice (some ⟨g, o, none⟩) n c) (.int .i64 (M : Int)) w (cutV ⟨(brk 123 125 TL).toArray⟩ M) := by
 intro W hW
 have HE := LH (E.lat hW)
 have HL := LH (hlen W hW)
 have HSTT := LH (fun i hi m h1 h2 => (hst i hi m h1 h2).lat hW)
 have HN := LH hN
 have HT := LH hT
 have HTS := LH hTs
 have HALL := LH (@cinv_all 123 125 TL M)
 have HCLOSE := LH (@cinv_close 123 125 TL M (by decide))
 have HLESS := LH (fun k L => @cinv_less 123 125 TL M k L)
 have hM0 : ((M : Int) == 0) = false := by simp; omega
 have hMp : decide ((0 : Int) < (M : Int)) = true := decide_eq_true (by omega)
 have hMn : decide ((M : Int) ≤ 0) = false := decide_eq_false (by omega)
 clear E hlen hN hT hTs hst hW
 generalize cutV ⟨(brk 123 125 TL).toArray⟩ M = R at HALL HLESS ⊢
 go_enter Tryz.func72, Tryz.ntmps72
 go_upto_region 8 with (go_at_call 73; refine HL.out.mono ?_; rintro e0 W1 ⟨rfl, hb0⟩)
 have HB0 := LH hb0
 obtain ⟨Y, hY⟩ : ∃ Y, W1.alloc (.cells #[.pointer none, .slice none 0 0] 118) = Y := ⟨_, rfl⟩
 have hYb : Below W1.heap.size W1 Y := hY ▸ below_al _ _
 have hsb : SB W1.heap.size [] Y := hY ▸ SB.made W1
 have HY := LH hY
 have HWY := LH (hb0.trans (hYb.mono hb0.size))
 have HWS := LH hb0.size
 have HSB := LH hsb
 clear hY hYb hsb hb0
 go_upto_region 9 with fail
 rw [HY.out]
 go_wp2_with (go_at_call 74; refine (sb_byte HSB.out 123 123 rfl (by simp)).mono ?_; rintro e1 w1 ⟨rfl, s1, b1⟩)
 have HS1 := LH s1
 have HB1 := LH (HWY.out.trans (b1.mono HWS.out))
 clear s1 b1
 go_loopw [6, 7, 10, 13] (fun s6 s7 s10 s13 wr => ∃ (k : Nat) (tr : Bool) (L : List UInt8), k ≤ N ∧ s6 = .int .i32 ((n : Int) - 1 - (pos k : Int)) ∧ s7 = .slice (some ⟨g, o + pos k, none⟩) (n - pos k) (c - pos k) ∧ s10 = .bool tr ∧ s13 = .bool (k == 0) ∧ pos k + 1 ≤ n ∧ Hid (CInv 123 125 TL M k tr L) ∧ Hid (SB W1.heap.size L wr) ∧ Hid (Below W.heap.size W wr)) (fun s6 _ _ _ _ => (intOf s6).toNat)
 case atStart =>
  refine ⟨0, false, [123], Nat.zero_le _, ?_, ?_, rfl, rfl, by rw [HE.out.p0]; omega, .inl ⟨rfl, by simp [sItems], by simpa using hM1⟩, HS1.out, HB1.out⟩
  ·rw [HE.out.p0]; go_num
  ·rw [HE.out.p0]
 case round =>
  obtain ⟨k, tr, L, hk, rfl, rfl, rfl, rfl, hsn, HC, HS, HR⟩ := hrel
  obtain ⟨bz, hbz⟩ : ∃ b, (k == 0) = b := ⟨_, rfl⟩
  cases tr with
  | true =>
   have HF := LH (HLESS.out k L HC.out)
   have hp0 : ∃ p, pos k = p := ⟨_, rfl⟩
   obtain ⟨p, hp⟩ := hp0
   simp only [hp, hbz] at hsn ⊢
   clear hp hbz HC hk
   go_wp2_with (first | (go_at_call 75; refine (sb_len HS.out).mono ?_; rintro e8 w8 ⟨rfl, rfl⟩) | (go_at_call 80; refine (sb_str HS.out).mono ?_; rintro e9 w9 ⟨rfl, b9⟩))
   all_goals
    go_ret2
    exact ⟨congrArg Ending.returned HF.out.symm, HR.out.trans (b9.mono HWS.out)⟩
  | false =>
   obtain ⟨_, hLe, hLM⟩ : True ∧ L = 123 :: sItems (TL.take k) ∧ L.length ≤ M := by
    rcases HC.out with ⟨_, h1, h2⟩ | ⟨h, _⟩
    ·exact ⟨trivial, h1, h2⟩
    ·cases h
   by_cases hlt : k < N
   ·have hle := HE.out.le k hlt
    have he1 := HE.out.e1 k hlt
    have HNX := LH (HE.out.next k hlt)
    have HRD := LH (HE.out.rd k hlt)
    have HST := LH (HSTT.out k hlt)
    have htk := HT.out k hlt
    have hts := HTS.out k hlt
    obtain ⟨p, hp⟩ : ∃ p, pos k = p := ⟨_, rfl⟩
    obtain ⟨ek, hek⟩ : ∃ p, e k = p := ⟨_, rfl⟩
    obtain ⟨Tk, hTk⟩ : ∃ p, T k = p := ⟨_, rfl⟩
    simp only [hp, hek, hTk] at HRD HST HNX htk hts hle he1 hsn ⊢
    have hf : decide ((0 : Int) < (n : Int) - 1 - (p : Int)) = true := decide_eq_true (by omega)
    have hf2 : decide ((n : Int) - 1 - (p : Int) - (ek : Int) < 0) = false := by simp; omega
    have HPP := LH hp
    have HTZ := LH hts.1
    by_cases hfull : L.length = M
    ·have hci : CInv 123 125 TL M k true L := by
      rw [hLe] at hfull ⊢
      exact cinv_full htk hts.2.2 (by rw [Array.length_toList]; exact hts.2.1) hfull
     have HF := LH (HLESS.out k L hci)
     have hd : decide ((L.length : Int) < (M : Int)) = false := decide_eq_false (by omega)
     clear hp hek hTk htk hts hci hLe HC
     go_wp2_with (first | (go_at_call 75; refine (sb_len HS.out).mono ?_; rintro e8 w8 ⟨rfl, rfl⟩) | (go_at_call 80; refine (sb_str HS.out).mono ?_; rintro e9 w9 ⟨rfl, b9⟩))
     go_ret2
     exact ⟨congrArg Ending.returned HF.out.symm, HR.out.trans (b9.mono HWS.out)⟩
    ·have hd0 : decide ((L.length : Int) < (M : Int)) = true := decide_eq_true (by omega)
     by_cases hk0 : k = 0
     ·have hz : (k == 0) = true := by simp [hk0]
      obtain ⟨y, tr, hy⟩ := cutV_parts Tk ((M : Int) - (L.length : Int))
      have hpre : preI 123 TL k = L := by unfold preI; rw [if_pos hk0, hLe]
      have hnext := cinv_next (a := 123) (z := 125) (M := M) htk hts.2.2 hts.2.1 ((M : Int) - (L.length : Int)) (by omega) (by rw [hpre]; omega) y tr hy
      rw [hpre] at hnext
      have HNEXT := LH hnext.1
      have HYZ := LH hnext.2
      have HSTM := LH (hy ▸ HST.out ((M : Int) - (L.length : Int)) (by omega) (by omega))
      have HLM := LH hLM
      clear hp hek hTk htk hts hy hpre hnext hLe HC hk0 HST hbz
      go_wp2_with (first | (go_at_call 75; refine (sb_len HS.out).mono ?_; rintro e8 w8 ⟨rfl, rfl⟩) | (go_at_call 76; refine (HRD.out _ HR.out).mono ?_; rintro e1 w1 ⟨rfl, hb1⟩; have B1 := HR.out.trans (hb1.mono HR.out.size)) | (go_at_call 104; refine (HSTM.out _ B1).mono ?_; rintro e2 w2 ⟨rfl, bE⟩; have BE := B1.trans (bE.mono B1.size)) | (go_at_call 79; refine (sb_text ((HS.out.later hb1).later bE) y (by have := HYZ.out; have := HTZ.out; have := HLM.out; omega)).mono ?_; rintro e3 w3 ⟨rfl, s3, b3⟩; have HS3 := LH s3; have HB3 := LH (BE.trans (b3.mono (Nat.le_trans HWS.out (Nat.le_refl _)))); clear s3 b3 hb1 B1 bE BE))
      refine ⟨⟨k + 1, tr, _, by omega, by rw [HNX.out]; go_num, next7 HNX.out, rfl, by simp, by rw [HNX.out]; omega, HNEXT.out, HS3.out, HB3.out⟩, ?_⟩
      simp [intOf]; omega
     ·have hz : (k == 0) = false := by simp [hk0]
      have hpre : preI 123 TL k = L ++ [44] := by unfold preI; rw [if_neg hk0, hLe]
      by_cases hcm : L.length + 1 = M
      ·have hci : CInv 123 125 TL M k true (L ++ [44]) := by
        rw [hLe] at hcm ⊢
        exact cinv_comma htk hts.2.2 (by rw [Array.length_toList]; exact hts.2.1) hk0 hcm
       have HF := LH (HLESS.out k _ hci)
       have hd2 : ((M : Int) - (L.length : Int) - 1 == 0) = true := by simp; omega
       have hd3 : decide ((L.length : Int) + 1 < (M : Int)) = false := decide_eq_false (by omega)
       have HLM := LH hLM
       clear hp hek hTk htk hts hci hLe HC hk0 hpre hbz
       go_wp2_with (first | (go_at_call 75; refine (sb_len HS.out).mono ?_; rintro e8 w8 ⟨rfl, rfl⟩) | (go_at_call 74; refine (sb_byte HS.out 44 44 rfl (by have := HLM.out; omega)).mono ?_; rintro e0 w0 ⟨rfl, s0, b0⟩; have B0 := HR.out.trans (b0.mono HWS.out)) | (go_at_call 75; refine (sb_len s0).mono ?_; rintro e8 w8 ⟨rfl, rfl⟩) | (go_at_call 80; refine (sb_str s0).mono ?_; rintro e9 w9 ⟨rfl, b9⟩))
       go_ret2
       exact ⟨congrArg Ending.returned HF.out.symm, B0.trans (b9.mono HWS.out)⟩
      ·obtain ⟨y, tr, hy⟩ := cutV_parts Tk ((M : Int) - (L.length : Int) - 1)
       have hnext := cinv_next (a := 123) (z := 125) (M := M) htk hts.2.2 hts.2.1 ((M : Int) - (L.length : Int) - 1) (by omega) (by rw [hpre, List.length_append, List.length_cons, List.length_nil]; omega) y tr hy
       rw [hpre] at hnext
       have HNEXT := LH hnext.1
       have HYZ := LH hnext.2
       have HSTM := LH (hy ▸ HST.out ((M : Int) - (L.length : Int) - 1) (by omega) (by omega))
       have hd2 : ((M : Int) - (L.length : Int) - 1 == 0) = false := by simp; omega
       have HLM := LH hLM
       clear hp hek hTk htk hts hy hpre hnext hLe HC hk0 HST hbz
       go_wp2_with (first | (go_at_call 75; refine (sb_len HS.out).mono ?_; rintro e8 w8 ⟨rfl, rfl⟩) | (go_at_call 74; refine (sb_byte HS.out 44 44 rfl (by have := HLM.out; omega)).mono ?_; rintro e0 w0 ⟨rfl, s0, b0⟩; have B0 := HR.out.trans (b0.mono HWS.out)) | (go_at_call 76; refine (HRD.out _ B0).mono ?_; rintro e1 w1 ⟨rfl, hb1⟩; have B1 := B0.trans (hb1.mono B0.size)) | (go_at_call 104; refine (HSTM.out _ B1).mono ?_; rintro e2 w2 ⟨rfl, bE⟩; have BE := B1.trans (bE.mono B1.size)) | (go_at_call 79; refine (sb_text ((s0.later hb1).later bE) y (by have h1 := HYZ.out; have h2 := HTZ.out; have h3 := HLM.out; simp only [List.length_append, List.length_cons, List.length_nil]; omega)).mono ?_; rintro e3 w3 ⟨rfl, s3, b3⟩; have HS3 := LH s3; have HB3 := LH (BE.trans (b3.mono (Nat.le_trans HWS.out (Nat.le_refl _)))); clear s3 b3 hb1 B1 bE BE s0 b0 B0))
       refine ⟨⟨k + 1, tr, _, by omega, by rw [HNX.out]; go_num, next7 HNX.out, rfl, by simp, by rw [HNX.out]; omega, HNEXT.out, HS3.out, HB3.out⟩, ?_⟩
       simp [intOf]; omega
   ·obtain rfl : k = N := by omega
    have hfin := HE.out.fin
    have htk : TL.take k = TL := List.take_of_length_le (Nat.le_of_eq HN.out)
    rw [htk] at hLe
    obtain ⟨p, hp⟩ : ∃ p, pos k = p := ⟨_, rfl⟩
    simp only [hp, hbz] at hfin hsn ⊢
    have hd : decide ((p : Int) < (n : Int) - 1) = false := by simp; omega
    by_cases hfull : L.length = M
    ·have hci : CInv 123 125 TL M TL.length true L := by
      rw [hLe] at hfull ⊢
      exact HCLOSE.out hfull
     have HF := LH (HLESS.out _ L hci)
     have hd2 : decide ((L.length : Int) < (M : Int)) = false := decide_eq_false (by omega)
     clear hp hbz hk hlt hfin hsn hLe HC hci htk
     go_wp2_with (first | (go_at_call 75; refine (sb_len HS.out).mono ?_; rintro e8 w8 ⟨rfl, rfl⟩) | (go_at_call 80; refine (sb_str HS.out).mono ?_; rintro e9 w9 ⟨rfl, b9⟩))
     go_ret2
     exact ⟨congrArg Ending.returned HF.out.symm, HR.out.trans (b9.mono HWS.out)⟩
    ·have hF : R = .tuple #[.string ⟨(L ++ [125]).toArray⟩, .bool false] := by
      rw [hLe]
      exact HALL.out (by rw [← hLe]; omega)
     have HF := LH hF
     have hd2 : decide ((L.length : Int) < (M : Int)) = true := decide_eq_true (by omega)
     have HLM := LH hLM
     clear hp hbz hk hlt hfin hsn hLe HC hF htk
     go_wp2_with (first | (go_at_call 75; refine (sb_len HS.out).mono ?_; rintro e8 w8 ⟨rfl, rfl⟩) | (go_at_call 74; refine (sb_byte HS.out 125 125 rfl (by have := HLM.out; omega)).mono ?_; rintro e0 w0 ⟨rfl, s0, b0⟩; have B0 := HR.out.trans (b0.mono HWS.out)) | (go_at_call 80; refine (sb_str s0).mono ?_; rintro e9 w9 ⟨rfl, b9⟩))
     go_ret2
     exact ⟨congrArg Ending.returned HF.out.symm, B0.trans (b9.mono HWS.out)⟩
theorem arrC (g o n c N : Nat) (pos e : Nat → Nat) (TL : List (List UInt8)) (T : Nat → ByteArray) (w : World) (M : Nat) (hM1 : 1 ≤ M) (hMb : M ≤ 100000) (hn : 5 ≤ n) (hnb : n ≤ 1000000000) (hc : n ≤ c) (hcb : c ≤ 9223372036854775807) (hN : TL.length = N) (hT : ∀ i, i < N → TL[i]? = some (T i).data.toList) (hTs : ∀ i, i < N → (T i).size ≤ 1000000000 ∧ 1 ≤ (T i).size ∧ hdOk (T i).data.toList)
  (E : LEnv g o n c N pos e w) (hlen : Rd 73 (.slice (some ⟨g, o, none⟩) n c) w (.tuple #[.int .i32 (n : Int), .slice (some ⟨g, o + 4, none⟩) (n - 4) (c - 4), .bool true])) (kd : Nat → Int) (VX : Nat → Option Addr) (vm vc : Nat → Nat) (hst : ∀ i, i < N → Rd 77 (.slice (some ⟨g, o + pos i, none⟩) (e i) (c - pos i)) w (.agg #[.int .u8 (kd i), .slice (VX i) (vm i) (vc i)]) ∧ ∀ m : Int, 1 ≤ m → m ≤ M → Rd2 78 (.agg #[.int .u8 (kd i), .slice (VX i) (vm i) (vc i)]) (.int .i64 m) w (cutV (T i) m)) :
  Rd2 51 (.slice (some ⟨g, o, none⟩) n c) (.int .i64 (M : Int)) w (cutV ⟨(brk 91 93 TL).toArray⟩ M) := by
 intro W hW
 have HE := LH (E.lat hW)
 have HL := LH (hlen W hW)
 have HSTT := LH (fun i hi => And.intro ((hst i hi).1.lat hW) (fun m h1 h2 => ((hst i hi).2 m h1 h2).lat hW))
 have HN := LH hN
 have HT := LH hT
 have HTS := LH hTs
 have HALL := LH (@cinv_all 91 93 TL M)
 have HCLOSE := LH (@cinv_close 91 93 TL M (by decide))
 have HLESS := LH (fun k L => @cinv_less 91 93 TL M k L)
 have hM0 : ((M : Int) == 0) = false := by simp; omega
 have hMp : decide ((0 : Int) < (M : Int)) = true := decide_eq_true (by omega)
 have hMn : decide ((M : Int) ≤ 0) = false := decide_eq_false (by omega)
 clear E hlen hN hT hTs hst hW
 generalize cutV ⟨(brk 91 93 TL).toArray⟩ M = R at HALL HLESS ⊢
 go_enter Tryz.func51, Tryz.ntmps51
 go_upto_region 8 with (go_at_call 73; refine HL.out.mono ?_; rintro e0 W1 ⟨rfl, hb0⟩)
 have HB0 := LH hb0
 obtain ⟨Y, hY⟩ : ∃ Y, W1.alloc (.cells #[.pointer none, .slice none 0 0] 118) = Y := ⟨_, rfl⟩
 have hYb : Below W1.heap.size W1 Y := hY ▸ below_al _ _
 have hsb : SB W1.heap.size [] Y := hY ▸ SB.made W1
 have HY := LH hY
 have HWY := LH (hb0.trans (hYb.mono hb0.size))
 have HWS := LH hb0.size
 have HSB := LH hsb
 clear hY hYb hsb hb0
 go_upto_region 9 with fail
 rw [HY.out]
 go_wp2_with (go_at_call 74; refine (sb_byte HSB.out 91 91 rfl (by simp)).mono ?_; rintro e1 w1 ⟨rfl, s1, b1⟩)
 have HS1 := LH s1
 have HB1 := LH (HWY.out.trans (b1.mono HWS.out))
 clear s1 b1
 go_loopw [6, 7, 10, 13] (fun s6 s7 s10 s13 wr => ∃ (k : Nat) (tr : Bool) (L : List UInt8), k ≤ N ∧ s6 = .int .i32 ((n : Int) - 1 - (pos k : Int)) ∧ s7 = .slice (some ⟨g, o + pos k, none⟩) (n - pos k) (c - pos k) ∧ s10 = .bool tr ∧ s13 = .bool (k == 0) ∧ pos k + 1 ≤ n ∧ Hid (CInv 91 93 TL M k tr L) ∧ Hid (SB W1.heap.size L wr) ∧ Hid (Below W.heap.size W wr)) (fun s6 _ _ _ _ => (intOf s6).toNat)
 case atStart =>
  refine ⟨0, false, [91], Nat.zero_le _, ?_, ?_, rfl, rfl, by rw [HE.out.p0]; omega, .inl ⟨rfl, by simp [sItems], by simpa using hM1⟩, HS1.out, HB1.out⟩
  ·rw [HE.out.p0]; go_num
  ·rw [HE.out.p0]
 case round =>
  obtain ⟨k, tr, L, hk, rfl, rfl, rfl, rfl, hsn, HC, HS, HR⟩ := hrel
  obtain ⟨bz, hbz⟩ : ∃ b, (k == 0) = b := ⟨_, rfl⟩
  cases tr with
  | true =>
   have HF := LH (HLESS.out k L HC.out)
   have hp0 : ∃ p, pos k = p := ⟨_, rfl⟩
   obtain ⟨p, hp⟩ := hp0
   simp only [hp, hbz] at hsn ⊢
   clear hp hbz HC hk
   go_wp2_with (first | (go_at_call 75; refine (sb_len HS.out).mono ?_; rintro e8 w8 ⟨rfl, rfl⟩) | (go_at_call 80; refine (sb_str HS.out).mono ?_; rintro e9 w9 ⟨rfl, b9⟩))
   all_goals
    go_ret2
    exact ⟨congrArg Ending.returned HF.out.symm, HR.out.trans (b9.mono HWS.out)⟩
  | false =>
   obtain ⟨_, hLe, hLM⟩ : True ∧ L = 91 :: sItems (TL.take k) ∧ L.length ≤ M := by
    rcases HC.out with ⟨_, h1, h2⟩ | ⟨h, _⟩
    ·exact ⟨trivial, h1, h2⟩
    ·cases h
   by_cases hlt : k < N
   ·have hle := HE.out.le k hlt
    have he1 := HE.out.e1 k hlt
    have HNX := LH (HE.out.next k hlt)
    have HRD := LH (HE.out.rd k hlt)
    have HST := LH (HSTT.out k hlt)
    have htk := HT.out k hlt
    have hts := HTS.out k hlt
    obtain ⟨p, hp⟩ : ∃ p, pos k = p := ⟨_, rfl⟩
    obtain ⟨ek, hek⟩ : ∃ p, e k = p := ⟨_, rfl⟩
    obtain ⟨Tk, hTk⟩ : ∃ p, T k = p := ⟨_, rfl⟩
    simp only [hp, hek, hTk] at HRD HST HNX htk hts hle he1 hsn ⊢
    have hf : decide ((0 : Int) < (n : Int) - 1 - (p : Int)) = true := decide_eq_true (by omega)
    have hf2 : decide ((n : Int) - 1 - (p : Int) - (ek : Int) < 0) = false := by simp; omega
    have HPP := LH hp
    have HTZ := LH hts.1
    by_cases hfull : L.length = M
    ·have hci : CInv 91 93 TL M k true L := by
      rw [hLe] at hfull ⊢
      exact cinv_full htk hts.2.2 (by rw [Array.length_toList]; exact hts.2.1) hfull
     have HF := LH (HLESS.out k L hci)
     have hd : decide ((L.length : Int) < (M : Int)) = false := decide_eq_false (by omega)
     clear hp hek hTk htk hts hci hLe HC
     go_wp2_with (first | (go_at_call 75; refine (sb_len HS.out).mono ?_; rintro e8 w8 ⟨rfl, rfl⟩) | (go_at_call 80; refine (sb_str HS.out).mono ?_; rintro e9 w9 ⟨rfl, b9⟩))
     go_ret2
     exact ⟨congrArg Ending.returned HF.out.symm, HR.out.trans (b9.mono HWS.out)⟩
    ·have hd0 : decide ((L.length : Int) < (M : Int)) = true := decide_eq_true (by omega)
     by_cases hk0 : k = 0
     ·have hz : (k == 0) = true := by simp [hk0]
      obtain ⟨y, tr, hy⟩ := cutV_parts Tk ((M : Int) - (L.length : Int))
      have hpre : preI 91 TL k = L := by unfold preI; rw [if_pos hk0, hLe]
      have hnext := cinv_next (a := 91) (z := 93) (M := M) htk hts.2.2 hts.2.1 ((M : Int) - (L.length : Int)) (by omega) (by rw [hpre]; omega) y tr hy
      rw [hpre] at hnext
      have HNEXT := LH hnext.1
      have HYZ := LH hnext.2
      have HSTV := LH HST.out.1; have HSTM := LH (hy ▸ HST.out.2 ((M : Int) - (L.length : Int)) (by omega) (by omega))
      have HLM := LH hLM
      clear hp hek hTk htk hts hy hpre hnext hLe HC hk0 HST hbz
      go_wp2_with (first | (go_at_call 75; refine (sb_len HS.out).mono ?_; rintro e8 w8 ⟨rfl, rfl⟩) | (go_at_call 76; refine (HRD.out _ HR.out).mono ?_; rintro e1 w1 ⟨rfl, hb1⟩; have B1 := HR.out.trans (hb1.mono HR.out.size)) | (go_at_call 77; refine (HSTV.out _ B1).mono ?_; rintro e2 w2 ⟨rfl, bD⟩; have BD := B1.trans (bD.mono B1.size)) | (go_at_call 78; refine (HSTM.out _ BD).mono ?_; rintro e2 w4 ⟨rfl, bE0⟩; have bE := bD.trans (bE0.mono bD.size); have BE := B1.trans (bE.mono B1.size); clear bE0 bD BD) | (go_at_call 79; refine (sb_text ((HS.out.later hb1).later bE) y (by have := HYZ.out; have := HTZ.out; have := HLM.out; omega)).mono ?_; rintro e3 w3 ⟨rfl, s3, b3⟩; have HS3 := LH s3; have HB3 := LH (BE.trans (b3.mono (Nat.le_trans HWS.out (Nat.le_refl _)))); clear s3 b3 hb1 B1 bE BE))
      refine ⟨⟨k + 1, tr, _, by omega, by rw [HNX.out]; go_num, next7 HNX.out, rfl, by simp, by rw [HNX.out]; omega, HNEXT.out, HS3.out, HB3.out⟩, ?_⟩
      simp [intOf]; omega
     ·have hz : (k == 0) = false := by simp [hk0]
      have hpre : preI 91 TL k = L ++ [44] := by unfold preI; rw [if_neg hk0, hLe]
      by_cases hcm : L.length + 1 = M
      ·have hci : CInv 91 93 TL M k true (L ++ [44]) := by
        rw [hLe] at hcm ⊢
        exact cinv_comma htk hts.2.2 (by rw [Array.length_toList]; exact hts.2.1) hk0 hcm
       have HF := LH (HLESS.out k _ hci)
       have hd2 : ((M : Int) - (L.length : Int) - 1 == 0) = true := by simp; omega
       have hd3 : decide ((L.length : Int) + 1 < (M : Int)) = false := decide_eq_false (by omega)
       have HLM := LH hLM
       clear hp hek hTk htk hts hci hLe HC hk0 hpre hbz
       go_wp2_with (first | (go_at_call 75; refine (sb_len HS.out).mono ?_; rintro e8 w8 ⟨rfl, rfl⟩) | (go_at_call 74; refine (sb_byte HS.out 44 44 rfl (by have := HLM.out; omega)).mono ?_; rintro e0 w0 ⟨rfl, s0, b0⟩; have B0 := HR.out.trans (b0.mono HWS.out)) | (go_at_call 75; refine (sb_len s0).mono ?_; rintro e8 w8 ⟨rfl, rfl⟩) | (go_at_call 80; refine (sb_str s0).mono ?_; rintro e9 w9 ⟨rfl, b9⟩))
       go_ret2
       exact ⟨congrArg Ending.returned HF.out.symm, B0.trans (b9.mono HWS.out)⟩
      ·obtain ⟨y, tr, hy⟩ := cutV_parts Tk ((M : Int) - (L.length : Int) - 1)
       have hnext := cinv_next (a := 91) (z := 93) (M := M) htk hts.2.2 hts.2.1 ((M : Int) - (L.length : Int) - 1) (by omega) (by rw [hpre, List.length_append, List.length_cons, List.length_nil]; omega) y tr hy
       rw [hpre] at hnext
       have HNEXT := LH hnext.1
       have HYZ := LH hnext.2
       have HSTV := LH HST.out.1; have HSTM := LH (hy ▸ HST.out.2 ((M : Int) - (L.length : Int) - 1) (by omega) (by omega))
       have hd2 : ((M : Int) - (L.length : Int) - 1 == 0) = false := by simp; omega
       have HLM := LH hLM
       clear hp hek hTk htk hts hy hpre hnext hLe HC hk0 HST hbz
       go_wp2_with (first | (go_at_call 75; refine (sb_len HS.out).mono ?_; rintro e8 w8 ⟨rfl, rfl⟩) | (go_at_call 74; refine (sb_byte HS.out 44 44 rfl (by have := HLM.out; omega)).mono ?_; rintro e0 w0 ⟨rfl, s0, b0⟩; have B0 := HR.out.trans (b0.mono HWS.out)) | (go_at_call 76; refine (HRD.out _ B0).mono ?_; rintro e1 w1 ⟨rfl, hb1⟩; have B1 := B0.trans (hb1.mono B0.size)) | (go_at_call 77; refine (HSTV.out _ B1).mono ?_; rintro e2 w2 ⟨rfl, bD⟩; have BD := B1.trans (bD.mono B1.size)) | (go_at_call 78; refine (HSTM.out _ BD).mono ?_; rintro e2 w4 ⟨rfl, bE0⟩; have bE := bD.trans (bE0.mono bD.size); have BE := B1.trans (bE.mono B1.size); clear bE0 bD BD) | (go_at_call 79; refine (sb_text ((s0.later hb1).later bE) y (by have h1 := HYZ.out; have h2 := HTZ.out; have h3 := HLM.out; simp only [List.length_append, List.length_cons, List.length_nil]; omega)).mono ?_; rintro e3 w3 ⟨rfl, s3, b3⟩; have HS3 := LH s3; have HB3 := LH (BE.trans (b3.mono (Nat.le_trans HWS.out (Nat.le_refl _)))); clear s3 b3 hb1 B1 bE BE s0 b0 B0))
       refine ⟨⟨k + 1, tr, _, by omega, by rw [HNX.out]; go_num, next7 HNX.out, rfl, by simp, by rw [HNX.out]; omega, HNEXT.out, HS3.out, HB3.out⟩, ?_⟩
       simp [intOf]; omega
   ·obtain rfl : k = N := by omega
    have hfin := HE.out.fin
    have htk : TL.take k = TL := List.take_of_length_le (Nat.le_of_eq HN.out)
    rw [htk] at hLe
    obtain ⟨p, hp⟩ : ∃ p, pos k = p := ⟨_, rfl⟩
    simp only [hp, hbz] at hfin hsn ⊢
    have hd : decide ((p : Int) < (n : Int) - 1) = false := by simp; omega
    by_cases hfull : L.length = M
    ·have hci : CInv 91 93 TL M TL.length true L := by
      rw [hLe] at hfull ⊢
      exact HCLOSE.out hfull
     have HF := LH (HLESS.out _ L hci)
     have hd2 : decide ((L.length : Int) < (M : Int)) = false := decide_eq_false (by omega)
     clear hp hbz hk hlt hfin hsn hLe HC hci htk
     go_wp2_with (first | (go_at_call 75; refine (sb_len HS.out).mono ?_; rintro e8 w8 ⟨rfl, rfl⟩) | (go_at_call 80; refine (sb_str HS.out).mono ?_; rintro e9 w9 ⟨rfl, b9⟩))
     go_ret2
     exact ⟨congrArg Ending.returned HF.out.symm, HR.out.trans (b9.mono HWS.out)⟩
    ·have hF : R = .tuple #[.string ⟨(L ++ [93]).toArray⟩, .bool false] := by
      rw [hLe]
      exact HALL.out (by rw [← hLe]; omega)
     have HF := LH hF
     have hd2 : decide ((L.length : Int) < (M : Int)) = true := decide_eq_true (by omega)
     have HLM := LH hLM
     clear hp hbz hk hlt hfin hsn hLe HC hF htk
     go_wp2_with (first | (go_at_call 75; refine (sb_len HS.out).mono ?_; rintro e8 w8 ⟨rfl, rfl⟩) | (go_at_call 74; refine (sb_byte HS.out 93 93 rfl (by have := HLM.out; omega)).mono ?_; rintro e0 w0 ⟨rfl, s0, b0⟩; have B0 := HR.out.trans (b0.mono HWS.out)) | (go_at_call 80; refine (sb_str s0).mono ?_; rintro e9 w9 ⟨rfl, b9⟩))
     go_ret2
     exact ⟨congrArg Ending.returned HF.out.symm, B0.trans (b9.mono HWS.out)⟩
end Go.Proofs.YtpfkgpcnhdkkbaaGreatDoor
