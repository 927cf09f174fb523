/- spec.ExtText: the kinds whose lines draw their order. -/
import Derived.Test.YtpfkgpcnhdkkbaaGreatDoorMx
import Derived.Test.YtpfkgpcnhdkkbaaGreatDoorMq
import Derived.Test.YtpfkgpcnhdkkbaaGreatDoorMf
namespace Go.Proofs.YtpfkgpcnhdkkbaaGreatDoor
open Go.RowKit
set_option linter.unusedVariables false
set_option linter.unusedSimpArgs false
set_option maxRecDepth 100000
set_option maxHeartbeats 1600000 in
theorem ext_bin (text more : ByteArray) (n : Int) (bits high : Nat) (A : Option Addr) (m c : Nat) (kv : Value) (canon esc : Bool) (w : World) (b64 hx : ByteArray) (h1 : b64.size ≤ 100000) (h2 : hx.size ≤ 100) (c1 : (∀ W, Below (xW 5 text more n bits high (.slice A m c) kv esc w).heap.size (xW 5 text more n bits high (.slice A m c) kv esc w) W → Calls Tryz.prog 31 #[.slice A m c] W fun e w' => e = .returned (.string b64) ∧ Below W.heap.size W w')) (c2 : ∀ W, Calls Tryz.prog 32 #[.int .u8 (n % 256)] W fun e w' => e = .returned (.string hx) ∧ Below W.heap.size W w') :
    Calls Tryz.prog 10 #[valV 5 text more n bits high (.slice A m c) kv, .bool canon, .bool esc] w fun e w' => e = .returned (.tuple #[.string (wrapB ⟨#[36, 98, 105, 110, 97, 114, 121]⟩ (⟨#[123, 34, 98, 97, 115, 101, 54, 52, 34, 58, 34]⟩ ++ b64 ++ ⟨#[34, 44, 34, 115, 117, 98, 84, 121, 112, 101, 34, 58, 34]⟩ ++ hx ++ ⟨#[34, 125]⟩)), .bool true]) ∧ Below w.heap.size w w' := by
  unfold valV
  obtain ⟨z, hzz⟩ : ∃ z, ⟨#[123, 34, 98, 97, 115, 101, 54, 52, 34, 58, 34]⟩ ++ b64 ++ ⟨#[34, 44, 34, 115, 117, 98, 84, 121, 112, 101, 34, 58, 34]⟩ ++ hx ++ ⟨#[34, 125]⟩ = z := ⟨_, rfl⟩
  have hzs : z.size ≤ 1000000 := by rw [← hzz]; simp only [ByteArray.size_append]; have : (⟨#[123, 34, 98, 97, 115, 101, 54, 52, 34, 58, 34]⟩ : ByteArray).size = 11 := rfl; have : (⟨#[34, 44, 34, 115, 117, 98, 84, 121, 112, 101, 34, 58, 34]⟩ : ByteArray).size = 13 := rfl; have : (⟨#[34, 125]⟩ : ByteArray).size = 2 := rfl; omega
  obtain ⟨q, hq⟩ : ∃ q, wrapB ⟨#[36, 98, 105, 110, 97, 114, 121]⟩ z = q := ⟨_, rfl⟩
  have CW := Lib.hid (fun (W : World) => show Calls Tryz.prog 25 #[.string ⟨#[36, 98, 105, 110, 97, 114, 121]⟩, .string z] W fun e w' => e = .returned (.tuple #[.string q, .bool true]) ∧ Below W.heap.size W w' from hq ▸ (wrap_any ⟨#[36, 98, 105, 110, 97, 114, 121]⟩ z W (by decide) (by omega)).mono fun e W2 ⟨q1, q2⟩ => ⟨q1, q2 ▸ Below.refl _ _⟩)
  rw [hzz, hq]
  have HZ := Lib.hid hzz
  clear hzz hq
  have HB := Lib.hid (xW_below 5 text more n bits high (.slice A m c) kv esc w)
  have HX := Lib.hid (xW_cell 5 text more n bits high (.slice A m c) kv esc w)
  have HE := Lib.hid (xW_esc 5 text more n bits high (.slice A m c) kv esc w)
  have C1 := Lib.hid c1
  have C2 := Lib.hid c2
  clear c1 c2
  have hz := xW_size 5 text more n bits high (.slice A m c) kv esc w
  obtain ⟨X, hXd⟩ : ∃ X, xW 5 text more n bits high (.slice A m c) kv esc w = X := ⟨_, rfl⟩
  rw [hXd] at HB HX HE hz C1
  have HD := Lib.hid hXd
  unfold xW at HD
  clear hXd
  go_enter Tryz.func10, Tryz.ntmps10
  go_wp2_with fail
  rw [HD.out]
  refine wp_region_quiet_cls (C := fun W => Below X.heap.size X W) (by kernel_rfl) (by kernel_rfl) (below_dr X 1) ?_
  refine quiet_val (.func (.func 25) #[] #[]) (by kernel_rfl) (fun W hW => by go_simp) ?_
  refine quiet_val (.pointer (some ⟨w.heap.size, 6, none⟩)) (by kernel_rfl) (fun W hW => by go_simp) ?_
  refine quiet_val (.slice A m c) (by kernel_rfl) (fun W hW => by have h := HX.out 6 W hW; go_simp) ?_
  refine quiet_enter (.string b64) 31 #[.slice A m c] (by kernel_rfl) (fun W hW => by go_simp) (fun W hW => (C1.out W hW).mono fun e W2 ⟨q1, q2⟩ => ⟨q1, hW.trans (q2.mono hW.size)⟩) ?_
  refine quiet_val (.string (⟨#[123, 34, 98, 97, 115, 101, 54, 52, 34, 58, 34]⟩ ++ b64)) (by kernel_rfl) (fun W hW => by go_simp; omega) ?_
  refine quiet_val (.string (⟨#[123, 34, 98, 97, 115, 101, 54, 52, 34, 58, 34]⟩ ++ b64 ++ ⟨#[34, 44, 34, 115, 117, 98, 84, 121, 112, 101, 34, 58, 34]⟩)) (by kernel_rfl) (fun W hW => by go_simp; omega) ?_
  refine quiet_val (.pointer (some ⟨w.heap.size, 3, none⟩)) (by kernel_rfl) (fun W hW => by go_simp) ?_
  refine quiet_val (.int .i64 n) (by kernel_rfl) (fun W hW => by have h := HX.out 3 W hW; go_simp) ?_
  refine quiet_val (.int .u8 (n % 256)) (by kernel_rfl) (fun W hW => by go_simp; rw [IntKind.wrap_u8]) ?_
  refine quiet_enter (.string hx) 32 #[.int .u8 (n % 256)] (by kernel_rfl) (fun W hW => by go_simp) (fun W hW => (C2.out W).mono fun e W2 ⟨q1, q2⟩ => ⟨q1, hW.trans (q2.mono hW.size)⟩) ?_
  refine quiet_val (.string (⟨#[123, 34, 98, 97, 115, 101, 54, 52, 34, 58, 34]⟩ ++ b64 ++ ⟨#[34, 44, 34, 115, 117, 98, 84, 121, 112, 101, 34, 58, 34]⟩ ++ hx)) (by kernel_rfl) (fun W hW => by go_simp; omega) ?_
  refine quiet_val (.string z) (by kernel_rfl) (fun W hW => by have hz1 := HZ.out; go_simp; omega) ?_
  refine quiet_enter (.tuple #[.string q, .bool true]) 25 #[.string ⟨#[36, 98, 105, 110, 97, 114, 121]⟩, .string z] (by kernel_rfl) (fun W hW => by go_simp) (fun W hW => (CW.out W).mono fun e W2 ⟨q1, q2⟩ => ⟨q1, hW.trans (q2.mono hW.size)⟩) ?_
  refine quiet_val (.string q) (by kernel_rfl) (fun W hW => by go_simp) ?_
  refine quiet_val (.bool true) (by kernel_rfl) (fun W hW => by go_simp) ?_
  refine quiet_val (.string q) (by kernel_rfl) (fun W hW => by go_simp) ?_
  refine quiet_val (.bool true) (by kernel_rfl) (fun W hW => by go_simp) ?_
  refine wpQuiet_nil ?_
  intro W hW
  go_simp
  go_wp2_with fail
  go_ret2
  exact ⟨rfl, HB.out.trans (hW.mono HB.out.size)⟩
set_option maxHeartbeats 1600000 in
theorem ext_regex (text more : ByteArray) (n : Int) (bits high : Nat) (bv : Value) (kv : Value) (canon esc : Bool) (w : World) (s1 s2 so : ByteArray) (h1 : s1.size ≤ 100000) (h2 : s2.size ≤ 100000) (c1 : (∀ W, Below (xW 11 text more n bits high bv kv esc w).heap.size (xW 11 text more n bits high bv kv esc w) W → Calls Tryz.prog 23 #[.string text, .pointer (some ⟨w.heap.size + 1, 0, none⟩)] W fun e w' => e = .returned (.string s1) ∧ Below W.heap.size W w')) (c2 : ∀ W, Calls Tryz.prog 35 #[.string more] W fun e w' => e = .returned (.string so) ∧ Below W.heap.size W w') (c3 : (∀ W, Below (xW 11 text more n bits high bv kv esc w).heap.size (xW 11 text more n bits high bv kv esc w) W → Calls Tryz.prog 23 #[.string so, .pointer (some ⟨w.heap.size + 1, 0, none⟩)] W fun e w' => e = .returned (.string s2) ∧ Below W.heap.size W w')) :
    Calls Tryz.prog 10 #[valV 11 text more n bits high bv kv, .bool canon, .bool esc] w fun e w' => e = .returned (.tuple #[.string (wrapB ⟨#[36, 114, 101, 103, 117, 108, 97, 114, 69, 120, 112, 114, 101, 115, 115, 105, 111, 110]⟩ (⟨#[123, 34, 112, 97, 116, 116, 101, 114, 110, 34, 58]⟩ ++ s1 ++ ⟨#[44, 34, 111, 112, 116, 105, 111, 110, 115, 34, 58]⟩ ++ s2 ++ ⟨#[125]⟩)), .bool true]) ∧ Below w.heap.size w w' := by
  unfold valV
  obtain ⟨z, hzz⟩ : ∃ z, ⟨#[123, 34, 112, 97, 116, 116, 101, 114, 110, 34, 58]⟩ ++ s1 ++ ⟨#[44, 34, 111, 112, 116, 105, 111, 110, 115, 34, 58]⟩ ++ s2 ++ ⟨#[125]⟩ = z := ⟨_, rfl⟩
  have hzs : z.size ≤ 1000000 := by rw [← hzz]; simp only [ByteArray.size_append]; have : (⟨#[123, 34, 112, 97, 116, 116, 101, 114, 110, 34, 58]⟩ : ByteArray).size = 11 := rfl; have : (⟨#[44, 34, 111, 112, 116, 105, 111, 110, 115, 34, 58]⟩ : ByteArray).size = 11 := rfl; have : (⟨#[125]⟩ : ByteArray).size = 1 := rfl; omega
  obtain ⟨q, hq⟩ : ∃ q, wrapB ⟨#[36, 114, 101, 103, 117, 108, 97, 114, 69, 120, 112, 114, 101, 115, 115, 105, 111, 110]⟩ z = q := ⟨_, rfl⟩
  have CW := Lib.hid (fun (W : World) => show Calls Tryz.prog 25 #[.string ⟨#[36, 114, 101, 103, 117, 108, 97, 114, 69, 120, 112, 114, 101, 115, 115, 105, 111, 110]⟩, .string z] W fun e w' => e = .returned (.tuple #[.string q, .bool true]) ∧ Below W.heap.size W w' from hq ▸ (wrap_any ⟨#[36, 114, 101, 103, 117, 108, 97, 114, 69, 120, 112, 114, 101, 115, 115, 105, 111, 110]⟩ z W (by decide) (by omega)).mono fun e W2 ⟨q1, q2⟩ => ⟨q1, q2 ▸ Below.refl _ _⟩)
  rw [hzz, hq]
  have HZ := Lib.hid hzz
  clear hzz hq
  have HB := Lib.hid (xW_below 11 text more n bits high bv kv esc w)
  have HX := Lib.hid (xW_cell 11 text more n bits high bv kv esc w)
  have HE := Lib.hid (xW_esc 11 text more n bits high bv kv esc w)
  have C1 := Lib.hid c1
  have C2 := Lib.hid c2
  have C3 := Lib.hid c3
  clear c1 c2 c3
  have hz := xW_size 11 text more n bits high bv kv esc w
  obtain ⟨X, hXd⟩ : ∃ X, xW 11 text more n bits high bv kv esc w = X := ⟨_, rfl⟩
  rw [hXd] at HB HX HE hz C1 C3
  have HD := Lib.hid hXd
  unfold xW at HD
  clear hXd
  go_enter Tryz.func10, Tryz.ntmps10
  go_wp2_with fail
  rw [HD.out]
  refine wp_region_quiet_cls (C := fun W => Below X.heap.size X W) (by kernel_rfl) (by kernel_rfl) (below_dr X 1) ?_
  refine quiet_val (.func (.func 25) #[] #[]) (by kernel_rfl) (fun W hW => by go_simp) ?_
  refine quiet_val (.func (.func 23) #[] #[.pointer (some ⟨w.heap.size + 1, 0, none⟩)]) (by kernel_rfl) (fun W hW => by go_simp) ?_
  refine quiet_val (.pointer (some ⟨w.heap.size, 1, none⟩)) (by kernel_rfl) (fun W hW => by go_simp) ?_
  refine quiet_val (.string text) (by kernel_rfl) (fun W hW => by have h := HX.out 1 W hW; go_simp) ?_
  refine quiet_enter (.string s1) 23 #[.string text, .pointer (some ⟨w.heap.size + 1, 0, none⟩)] (by kernel_rfl) (fun W hW => by go_simp) (fun W hW => (C1.out W hW).mono fun e W2 ⟨q1, q2⟩ => ⟨q1, hW.trans (q2.mono hW.size)⟩) ?_
  refine quiet_val (.string (⟨#[123, 34, 112, 97, 116, 116, 101, 114, 110, 34, 58]⟩ ++ s1)) (by kernel_rfl) (fun W hW => by go_simp; omega) ?_
  refine quiet_val (.string (⟨#[123, 34, 112, 97, 116, 116, 101, 114, 110, 34, 58]⟩ ++ s1 ++ ⟨#[44, 34, 111, 112, 116, 105, 111, 110, 115, 34, 58]⟩)) (by kernel_rfl) (fun W hW => by go_simp; omega) ?_
  refine quiet_val (.func (.func 23) #[] #[.pointer (some ⟨w.heap.size + 1, 0, none⟩)]) (by kernel_rfl) (fun W hW => by go_simp) ?_
  refine quiet_val (.pointer (some ⟨w.heap.size, 2, none⟩)) (by kernel_rfl) (fun W hW => by go_simp) ?_
  refine quiet_val (.string more) (by kernel_rfl) (fun W hW => by have h := HX.out 2 W hW; go_simp) ?_
  refine quiet_enter (.string so) 35 #[.string more] (by kernel_rfl) (fun W hW => by go_simp) (fun W hW => (C2.out W).mono fun e W2 ⟨q1, q2⟩ => ⟨q1, hW.trans (q2.mono hW.size)⟩) ?_
  refine quiet_enter (.string s2) 23 #[.string so, .pointer (some ⟨w.heap.size + 1, 0, none⟩)] (by kernel_rfl) (fun W hW => by go_simp) (fun W hW => (C3.out W hW).mono fun e W2 ⟨q1, q2⟩ => ⟨q1, hW.trans (q2.mono hW.size)⟩) ?_
  refine quiet_val (.string (⟨#[123, 34, 112, 97, 116, 116, 101, 114, 110, 34, 58]⟩ ++ s1 ++ ⟨#[44, 34, 111, 112, 116, 105, 111, 110, 115, 34, 58]⟩ ++ s2)) (by kernel_rfl) (fun W hW => by go_simp; omega) ?_
  refine quiet_val (.string z) (by kernel_rfl) (fun W hW => by have hz1 := HZ.out; go_simp; omega) ?_
  refine quiet_enter (.tuple #[.string q, .bool true]) 25 #[.string ⟨#[36, 114, 101, 103, 117, 108, 97, 114, 69, 120, 112, 114, 101, 115, 115, 105, 111, 110]⟩, .string z] (by kernel_rfl) (fun W hW => by go_simp) (fun W hW => (CW.out W).mono fun e W2 ⟨q1, q2⟩ => ⟨q1, hW.trans (q2.mono hW.size)⟩) ?_
  refine quiet_val (.string q) (by kernel_rfl) (fun W hW => by go_simp) ?_
  refine quiet_val (.bool true) (by kernel_rfl) (fun W hW => by go_simp) ?_
  refine quiet_val (.string q) (by kernel_rfl) (fun W hW => by go_simp) ?_
  refine quiet_val (.bool true) (by kernel_rfl) (fun W hW => by go_simp) ?_
  refine wpQuiet_nil ?_
  intro W hW
  go_simp
  go_wp2_with fail
  go_ret2
  exact ⟨rfl, HB.out.trans (hW.mono HB.out.size)⟩
set_option maxHeartbeats 1600000 in
theorem ext_ptr (text more : ByteArray) (n : Int) (bits high : Nat) (A : Option Addr) (m c : Nat) (kv : Value) (canon esc : Bool) (w : World) (s1 s2 : ByteArray) (h1 : s1.size ≤ 100000) (h2 : s2.size ≤ 100000) (c1 : (∀ W, Below (xW 12 text more n bits high (.slice A m c) kv esc w).heap.size (xW 12 text more n bits high (.slice A m c) kv esc w) W → Calls Tryz.prog 23 #[.string text, .pointer (some ⟨w.heap.size + 1, 0, none⟩)] W fun e w' => e = .returned (.string s1) ∧ Below W.heap.size W w')) (c2 : (∀ W, Below (xW 12 text more n bits high (.slice A m c) kv esc w).heap.size (xW 12 text more n bits high (.slice A m c) kv esc w) W → Calls Tryz.prog 33 #[.slice A m c] W fun e w' => e = .returned (.string s2) ∧ Below W.heap.size W w')) :
    Calls Tryz.prog 10 #[valV 12 text more n bits high (.slice A m c) kv, .bool canon, .bool esc] w fun e w' => e = .returned (.tuple #[.string (wrapB ⟨#[36, 100, 98, 80, 111, 105, 110, 116, 101, 114]⟩ (⟨#[123, 34, 36, 114, 101, 102, 34, 58]⟩ ++ s1 ++ ⟨#[44, 34, 36, 105, 100, 34, 58, 123, 34, 36, 111, 105, 100, 34, 58]⟩ ++ s2 ++ ⟨#[125, 125]⟩)), .bool true]) ∧ Below w.heap.size w w' := by
  unfold valV
  obtain ⟨z, hzz⟩ : ∃ z, ⟨#[123, 34, 36, 114, 101, 102, 34, 58]⟩ ++ s1 ++ ⟨#[44, 34, 36, 105, 100, 34, 58, 123, 34, 36, 111, 105, 100, 34, 58]⟩ ++ s2 ++ ⟨#[125, 125]⟩ = z := ⟨_, rfl⟩
  have hzs : z.size ≤ 1000000 := by rw [← hzz]; simp only [ByteArray.size_append]; have : (⟨#[123, 34, 36, 114, 101, 102, 34, 58]⟩ : ByteArray).size = 8 := rfl; have : (⟨#[44, 34, 36, 105, 100, 34, 58, 123, 34, 36, 111, 105, 100, 34, 58]⟩ : ByteArray).size = 15 := rfl; have : (⟨#[125, 125]⟩ : ByteArray).size = 2 := rfl; omega
  obtain ⟨q, hq⟩ : ∃ q, wrapB ⟨#[36, 100, 98, 80, 111, 105, 110, 116, 101, 114]⟩ z = q := ⟨_, rfl⟩
  have CW := Lib.hid (fun (W : World) => show Calls Tryz.prog 25 #[.string ⟨#[36, 100, 98, 80, 111, 105, 110, 116, 101, 114]⟩, .string z] W fun e w' => e = .returned (.tuple #[.string q, .bool true]) ∧ Below W.heap.size W w' from hq ▸ (wrap_any ⟨#[36, 100, 98, 80, 111, 105, 110, 116, 101, 114]⟩ z W (by decide) (by omega)).mono fun e W2 ⟨q1, q2⟩ => ⟨q1, q2 ▸ Below.refl _ _⟩)
  rw [hzz, hq]
  have HZ := Lib.hid hzz
  clear hzz hq
  have HB := Lib.hid (xW_below 12 text more n bits high (.slice A m c) kv esc w)
  have HX := Lib.hid (xW_cell 12 text more n bits high (.slice A m c) kv esc w)
  have HE := Lib.hid (xW_esc 12 text more n bits high (.slice A m c) kv esc w)
  have C1 := Lib.hid c1
  have C2 := Lib.hid c2
  clear c1 c2
  have hz := xW_size 12 text more n bits high (.slice A m c) kv esc w
  obtain ⟨X, hXd⟩ : ∃ X, xW 12 text more n bits high (.slice A m c) kv esc w = X := ⟨_, rfl⟩
  rw [hXd] at HB HX HE hz C1 C2
  have HD := Lib.hid hXd
  unfold xW at HD
  clear hXd
  go_enter Tryz.func10, Tryz.ntmps10
  go_wp2_with fail
  rw [HD.out]
  refine wp_region_quiet_cls (C := fun W => Below X.heap.size X W) (by kernel_rfl) (by kernel_rfl) (below_dr X 1) ?_
  refine quiet_val (.func (.func 25) #[] #[]) (by kernel_rfl) (fun W hW => by go_simp) ?_
  refine quiet_val (.func (.func 23) #[] #[.pointer (some ⟨w.heap.size + 1, 0, none⟩)]) (by kernel_rfl) (fun W hW => by go_simp) ?_
  refine quiet_val (.pointer (some ⟨w.heap.size, 1, none⟩)) (by kernel_rfl) (fun W hW => by go_simp) ?_
  refine quiet_val (.string text) (by kernel_rfl) (fun W hW => by have h := HX.out 1 W hW; go_simp) ?_
  refine quiet_enter (.string s1) 23 #[.string text, .pointer (some ⟨w.heap.size + 1, 0, none⟩)] (by kernel_rfl) (fun W hW => by go_simp) (fun W hW => (C1.out W hW).mono fun e W2 ⟨q1, q2⟩ => ⟨q1, hW.trans (q2.mono hW.size)⟩) ?_
  refine quiet_val (.string (⟨#[123, 34, 36, 114, 101, 102, 34, 58]⟩ ++ s1)) (by kernel_rfl) (fun W hW => by go_simp; omega) ?_
  refine quiet_val (.string (⟨#[123, 34, 36, 114, 101, 102, 34, 58]⟩ ++ s1 ++ ⟨#[44, 34, 36, 105, 100, 34, 58, 123, 34, 36, 111, 105, 100, 34, 58]⟩)) (by kernel_rfl) (fun W hW => by go_simp; omega) ?_
  refine quiet_val (.pointer (some ⟨w.heap.size, 6, none⟩)) (by kernel_rfl) (fun W hW => by go_simp) ?_
  refine quiet_val (.slice A m c) (by kernel_rfl) (fun W hW => by have h := HX.out 6 W hW; go_simp) ?_
  refine quiet_enter (.string s2) 33 #[.slice A m c] (by kernel_rfl) (fun W hW => by go_simp) (fun W hW => (C2.out W hW).mono fun e W2 ⟨q1, q2⟩ => ⟨q1, hW.trans (q2.mono hW.size)⟩) ?_
  refine quiet_val (.string (⟨#[123, 34, 36, 114, 101, 102, 34, 58]⟩ ++ s1 ++ ⟨#[44, 34, 36, 105, 100, 34, 58, 123, 34, 36, 111, 105, 100, 34, 58]⟩ ++ s2)) (by kernel_rfl) (fun W hW => by go_simp; omega) ?_
  refine quiet_val (.string z) (by kernel_rfl) (fun W hW => by have hz1 := HZ.out; go_simp; omega) ?_
  refine quiet_enter (.tuple #[.string q, .bool true]) 25 #[.string ⟨#[36, 100, 98, 80, 111, 105, 110, 116, 101, 114]⟩, .string z] (by kernel_rfl) (fun W hW => by go_simp) (fun W hW => (CW.out W).mono fun e W2 ⟨q1, q2⟩ => ⟨q1, hW.trans (q2.mono hW.size)⟩) ?_
  refine quiet_val (.string q) (by kernel_rfl) (fun W hW => by go_simp) ?_
  refine quiet_val (.bool true) (by kernel_rfl) (fun W hW => by go_simp) ?_
  refine quiet_val (.string q) (by kernel_rfl) (fun W hW => by go_simp) ?_
  refine quiet_val (.bool true) (by kernel_rfl) (fun W hW => by go_simp) ?_
  refine wpQuiet_nil ?_
  intro W hW
  go_simp
  go_wp2_with fail
  go_ret2
  exact ⟨rfl, HB.out.trans (hW.mono HB.out.size)⟩
set_option maxHeartbeats 1600000 in
theorem ext_ts (text more : ByteArray) (n : Int) (bits high : Nat) (bv : Value) (kv : Value) (canon esc : Bool) (w : World) (s1 s2 : ByteArray) (hb : bits < 18446744073709551616) (h1 : s1.size ≤ 100000) (h2 : s2.size ≤ 100000) (c1 : (∀ W, Below (xW 17 text more n bits high bv kv esc w).heap.size (xW 17 text more n bits high bv kv esc w) W → Calls Tryz.prog 36 #[.int .u64 ((bits / 4294967296 : Nat) : Int), .int .i64 10] W fun e w' => e = .returned (.string s1) ∧ Below W.heap.size W w')) (c2 : (∀ W, Below (xW 17 text more n bits high bv kv esc w).heap.size (xW 17 text more n bits high bv kv esc w) W → Calls Tryz.prog 36 #[.int .u64 ((bits % 4294967296 : Nat) : Int), .int .i64 10] W fun e w' => e = .returned (.string s2) ∧ Below W.heap.size W w')) :
    Calls Tryz.prog 10 #[valV 17 text more n bits high bv kv, .bool canon, .bool esc] w fun e w' => e = .returned (.tuple #[.string (wrapB ⟨#[36, 116, 105, 109, 101, 115, 116, 97, 109, 112]⟩ (⟨#[123, 34, 116, 34, 58]⟩ ++ s1 ++ ⟨#[44, 34, 105, 34, 58]⟩ ++ s2 ++ ⟨#[125]⟩)), .bool true]) ∧ Below w.heap.size w w' := by
  unfold valV
  obtain ⟨z, hzz⟩ : ∃ z, ⟨#[123, 34, 116, 34, 58]⟩ ++ s1 ++ ⟨#[44, 34, 105, 34, 58]⟩ ++ s2 ++ ⟨#[125]⟩ = z := ⟨_, rfl⟩
  have hzs : z.size ≤ 1000000 := by rw [← hzz]; simp only [ByteArray.size_append]; have : (⟨#[123, 34, 116, 34, 58]⟩ : ByteArray).size = 5 := rfl; have : (⟨#[44, 34, 105, 34, 58]⟩ : ByteArray).size = 5 := rfl; have : (⟨#[125]⟩ : ByteArray).size = 1 := rfl; omega
  obtain ⟨q, hq⟩ : ∃ q, wrapB ⟨#[36, 116, 105, 109, 101, 115, 116, 97, 109, 112]⟩ z = q := ⟨_, rfl⟩
  have CW := Lib.hid (fun (W : World) => show Calls Tryz.prog 25 #[.string ⟨#[36, 116, 105, 109, 101, 115, 116, 97, 109, 112]⟩, .string z] W fun e w' => e = .returned (.tuple #[.string q, .bool true]) ∧ Below W.heap.size W w' from hq ▸ (wrap_any ⟨#[36, 116, 105, 109, 101, 115, 116, 97, 109, 112]⟩ z W (by decide) (by omega)).mono fun e W2 ⟨q1, q2⟩ => ⟨q1, q2 ▸ Below.refl _ _⟩)
  rw [hzz, hq]
  have HZ := Lib.hid hzz
  clear hzz hq
  have HB := Lib.hid (xW_below 17 text more n bits high bv kv esc w)
  have HX := Lib.hid (xW_cell 17 text more n bits high bv kv esc w)
  have HE := Lib.hid (xW_esc 17 text more n bits high bv kv esc w)
  have C1 := Lib.hid c1
  have C2 := Lib.hid c2
  clear c1 c2
  have hz := xW_size 17 text more n bits high bv kv esc w
  obtain ⟨X, hXd⟩ : ∃ X, xW 17 text more n bits high bv kv esc w = X := ⟨_, rfl⟩
  rw [hXd] at HB HX HE hz C1 C2
  have HD := Lib.hid hXd
  unfold xW at HD
  clear hXd
  go_enter Tryz.func10, Tryz.ntmps10
  go_wp2_with fail
  rw [HD.out]
  refine wp_region_quiet_cls (C := fun W => Below X.heap.size X W) (by kernel_rfl) (by kernel_rfl) (below_dr X 1) ?_
  refine quiet_val (.func (.func 25) #[] #[]) (by kernel_rfl) (fun W hW => by go_simp) ?_
  refine quiet_val (.pointer (some ⟨w.heap.size, 4, none⟩)) (by kernel_rfl) (fun W hW => by go_simp) ?_
  refine quiet_val (.int .u64 (bits : Int)) (by kernel_rfl) (fun W hW => by have h := HX.out 4 W hW; go_simp) ?_
  refine quiet_val (.int .u64 ((bits / 4294967296 : Nat) : Int)) (by kernel_rfl) (fun W hW => by go_simp) ?_
  refine quiet_enter (.string s1) 36 #[.int .u64 ((bits / 4294967296 : Nat) : Int), .int .i64 10] (by kernel_rfl) (fun W hW => by go_simp) (fun W hW => (C1.out W hW).mono fun e W2 ⟨q1, q2⟩ => ⟨q1, hW.trans (q2.mono hW.size)⟩) ?_
  refine quiet_val (.string (⟨#[123, 34, 116, 34, 58]⟩ ++ s1)) (by kernel_rfl) (fun W hW => by go_simp; omega) ?_
  refine quiet_val (.string (⟨#[123, 34, 116, 34, 58]⟩ ++ s1 ++ ⟨#[44, 34, 105, 34, 58]⟩)) (by kernel_rfl) (fun W hW => by go_simp; omega) ?_
  refine quiet_val (.pointer (some ⟨w.heap.size, 4, none⟩)) (by kernel_rfl) (fun W hW => by go_simp) ?_
  refine quiet_val (.int .u64 (bits : Int)) (by kernel_rfl) (fun W hW => by have h := HX.out 4 W hW; go_simp) ?_
  refine quiet_val (.int .u64 ((bits % 4294967296 : Nat) : Int)) (by kernel_rfl) (fun W hW => by go_simp; rw [and32 bits hb]; omega) ?_
  refine quiet_enter (.string s2) 36 #[.int .u64 ((bits % 4294967296 : Nat) : Int), .int .i64 10] (by kernel_rfl) (fun W hW => by go_simp) (fun W hW => (C2.out W hW).mono fun e W2 ⟨q1, q2⟩ => ⟨q1, hW.trans (q2.mono hW.size)⟩) ?_
  refine quiet_val (.string (⟨#[123, 34, 116, 34, 58]⟩ ++ s1 ++ ⟨#[44, 34, 105, 34, 58]⟩ ++ s2)) (by kernel_rfl) (fun W hW => by go_simp; omega) ?_
  refine quiet_val (.string z) (by kernel_rfl) (fun W hW => by have hz1 := HZ.out; go_simp; omega) ?_
  refine quiet_enter (.tuple #[.string q, .bool true]) 25 #[.string ⟨#[36, 116, 105, 109, 101, 115, 116, 97, 109, 112]⟩, .string z] (by kernel_rfl) (fun W hW => by go_simp) (fun W hW => (CW.out W).mono fun e W2 ⟨q1, q2⟩ => ⟨q1, hW.trans (q2.mono hW.size)⟩) ?_
  refine quiet_val (.string q) (by kernel_rfl) (fun W hW => by go_simp) ?_
  refine quiet_val (.bool true) (by kernel_rfl) (fun W hW => by go_simp) ?_
  refine quiet_val (.string q) (by kernel_rfl) (fun W hW => by go_simp) ?_
  refine quiet_val (.bool true) (by kernel_rfl) (fun W hW => by go_simp) ?_
  refine wpQuiet_nil ?_
  intro W hW
  go_simp
  go_wp2_with fail
  go_ret2
  exact ⟨rfl, HB.out.trans (hW.mono HB.out.size)⟩
end Go.Proofs.YtpfkgpcnhdkkbaaGreatDoor
