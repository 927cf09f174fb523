/- internal/strconv.fmtEFG at 'G', the shortest digits. -/
import Derived.Test.YtpfkgpcnhdkkbaaGreatDoorF3
import Derived.Test.YtpfkgpcnhdkkbaaGreatDoorOb
import Derived.Deep.CutRange
import Derived.Deep.LoopGhost
namespace Go.Proofs.YtpfkgpcnhdkkbaaGreatDoor
open Go.RowKit
set_option linter.unusedVariables false
set_option linter.unusedSimpArgs false
set_option maxRecDepth 100000
theorem u8z {z : Int} (h0 : 0 ≤ z) (h1 : z < 256) : z = ((UInt8.ofNat z.toNat).toNat : Int) := by
  simp
  omega
theorem ob_three {ops : Array Oper} {rest : List Oper} {o : Oper} {a : Act} {Q : Exit → Act → World → Prop} (hgd : o.guard = none) (s x : Operand)
    (ho : o.op = .call { callee := .builtin .append, args := #[s, x], argTypes := #[23, 23] })
    {B : Nat} {v : Value} {l : List UInt8} (hs : a.eval s = v) {W0 w0 : World} (c d e : UInt8) (z y u : Int) (hz : z = (c.toNat : Int)) (hy : y = (d.toNat : Int)) (hu : u = (e.toNat : Int)) (hb : OB B v l W0 w0)
    (hx : a.eval x = .slice (some ⟨w0.heap.size, 0, none⟩) 3 3) (hlen : l.length + 3 ≤ 140737488355328)
    (h : ∀ v' w', OB B v' (l ++ [c, d, e]) W0 w' → wpList Tryz.prog ops Q rest (a.put o.dst v') w') : wpList Tryz.prog ops Q (o :: rest) a (w0.alloc (.cells #[.int .u8 z, .int .u8 y, .int .u8 u] 5)) := by
  subst hz
  subst hy
  subst hu
  refine ob_slice hgd s x ho hs (hb.alloc _) [c, d, e] rfl hx ?_ hlen (fun v' w' hb' _ => h v' w' hb')
  intro j b hj
  rw [addr0, blk_cell (heap_alloc_new w0 _)]
  match j, hj with
  | 0, hj => simp at hj; subst hj; rfl
  | 1, hj => simp at hj; subst hj; rfl
  | 2, hj => simp at hj; subst hj; rfl
  | j + 3, hj => simp at hj
def chz (z : Int) : UInt8 := UInt8.ofNat z.toNat
def expoL (x : Int) : List UInt8 := if x < 10 then [48, chz (x + 48)] else if x < 100 then [chz (x / 10 + 48), chz (x % 10 + 48)] else [chz (x / 100 + 48), chz (x / 10 % 10 + 48), chz (x % 10 + 48)]
def sgL (neg : Bool) : List UInt8 := if neg then [45] else []
def frL (l : List UInt8) : List UInt8 := if 1 < l.length then 46 :: l.drop 1 else []
def exL (e : Int) : List UInt8 := if e < 0 then 45 :: expoL (-e) else 43 :: expoL e
/-- With an exponent. -/
def gE (neg : Bool) (l : List UInt8) (dp : Int) : List UInt8 := sgL neg ++ ([l.getD 0 48] ++ (frL l ++ ([69] ++ exL (if l.length = 0 then 0 else dp - 1))))
theorem chz_lit (b : UInt8) : UInt8.ofNat ((b.toNat : Int)).toNat = b := by simp
/-- A block of digits, its cells at hand wherever byte rows alone have turned. -/
def DigB (W0 : World) (g : Nat) (l : List UInt8) : Prop := (∃ cs fr, W0.heap[g]? = some (.cells cs 270 fr)) ∧ ∀ (j : Nat) (b : UInt8), l[j]? = some b → W0.cell? ⟨g, j, none⟩ = some (.int .u8 (b.toNat : Int))
theorem anyCell {l : List UInt8} {g : Nat} {W0 w : World} (hc : DigB W0 g l) (hb : EKept W0 w) (j : Nat) (b : UInt8) (hj : l[j]? = some b) : w.cell? ⟨g, j, none⟩ = some (.int .u8 (b.toNat : Int)) := by
  obtain ⟨⟨cs, fr, hg⟩, h⟩ := hc
  have h2 := hb g _ hg (by intro c e fz he; injection he with h1 h2 h3; subst h2; decide)
  rw [← h j b hj]
  simp [World.cell?, hg, h2]
theorem dropCells {l : List UInt8} {g : Nat} {W0 w : World} (hc : DigB W0 g l) (hb : EKept W0 w) :
    ∀ (j : Nat) (b : UInt8), (l.drop 1)[j]? = some b → w.cell? ((⟨g, 1, none⟩ : Addr).add j) = some (.int .u8 (b.toNat : Int)) := by
  intro j b hj
  rw [List.getElem?_drop] at hj
  have : (⟨g, 1, none⟩ : Addr).add j = ⟨g, 1 + j, none⟩ := by
    unfold Addr.add
    split
    · rename_i h; subst h; rfl
    · rfl
  rw [this]
  exact anyCell hc hb _ _ hj
theorem headCell {l : List UInt8} {g : Nat} {W0 w : World} (hc : DigB W0 g l) (hb : EKept W0 w) (h : 1 ≤ l.length) :
    w.cell? ⟨g, 0, none⟩ = some (.int .u8 ((l.getD 0 48).toNat : Int)) := by
  have hj : l[0]? = some (l.getD 0 48) := by rw [List.getD_eq_getElem?_getD, List.getElem?_eq_getElem (by omega)]; rfl
  exact anyCell hc hb _ _ hj
set_option maxHeartbeats 4000000 in
theorem efgE2_fn (l : List UInt8) (dp : Int) (g B : Nat) (v : Value) (acc : List UInt8) (W0 w : World) (hl : l.length ≤ 20) (hl2 : 2 ≤ l.length) (hd : -420 ≤ dp ∧ dp ≤ 420) (hE : dp < -3) (ha : acc.length ≤ 1000)
    (hb : OB B v acc W0 w) (hc : DigB W0 g l) :
    Calls Tryz.prog 203 #[v, .bool false, .slice (some ⟨g, 0, none⟩) 32 32, .int .i64 dp, .int .i64 (l.length : Int), .int .i64 (l.length : Int), .int .u8 71, .bool true] w fun e w' => ∃ v', e = .returned v' ∧ OB B v' (acc ++ gE false l dp) W0 w' := by
  obtain ⟨d0, d1⟩ := hd
  have HB := Lib.hid hb
  have HA := Lib.hid ha
  have c0 := fun (W : World) (h : EKept W0 W) => headCell hc h (by omega)
  obtain ⟨x, hx⟩ : ∃ x, (l.getD 0 48).toNat = x := ⟨_, rfl⟩
  have xlt : x < 256 := by rw [← hx]; exact UInt8.toNat_lt _
  rw [hx] at c0
  have HX := Lib.hid hx
  clear hx
  have HC := Lib.hid hc
  clear hb hc ha
  obtain ⟨n, hn⟩ : ∃ n, l.length = n := ⟨_, rfl⟩
  rw [hn] at hl hl2 ⊢
  have HN := Lib.hid hn
  clear hn
  obtain ⟨a, ha'⟩ : ∃ a, dp = 1 - a := ⟨1 - dp, by omega⟩
  subst ha'
  have a0 : 5 ≤ a := by omega
  have a1 : a ≤ 421 := by omega
  have hsub : (1 : Int) - a - 1 = -a := by omega
  clear d0 d1
  go_enter Tryz.func203, Tryz.ntmps203
  have cc := c0 w HB.out.kept
  clear c0
  go_wp2_with (first | (at_builtin; refine ob_slice rfl _ _ rfl rfl HB.out (l.drop 1) (by rw [List.length_drop, HN.out]) rfl (by exact dropCells HC.out HB.out.kept) (by have h_1 := HA.out; have h_2 := HN.out; (try simp only [List.length_append, List.length_cons, List.length_nil, List.length_drop]); omega) ?_; intro v1 w1 hb1 _; clear HB; have HB := Lib.hid hb1; clear hb1) | (at_builtin; refine ob_byte rfl _ _ rfl rfl _ _ (u8z (by omega) (by omega)) HB.out rfl (by have h_1 := HA.out; have h_2 := HN.out; (try simp only [List.length_append, List.length_cons, List.length_nil, List.length_drop]); omega) ?_; intro v1 w1 hb1; clear HB; have HB := Lib.hid hb1; clear hb1) | (at_builtin; refine ob_two rfl _ _ rfl rfl _ _ _ _ (u8z (by omega) (by omega)) (u8z (by omega) (by omega)) HB.out rfl (by have h_1 := HA.out; have h_2 := HN.out; (try simp only [List.length_append, List.length_cons, List.length_nil, List.length_drop]); omega) ?_; intro v1 w1 hb1; clear HB; have HB := Lib.hid hb1; clear hb1) | (at_builtin; refine ob_three rfl _ _ rfl rfl _ _ _ _ _ _ (u8z (by omega) (by omega)) (u8z (by omega) (by omega)) (u8z (by omega) (by omega)) HB.out rfl (by have h_1 := HA.out; have h_2 := HN.out; (try simp only [List.length_append, List.length_cons, List.length_nil, List.length_drop]); omega) ?_; intro v1 w1 hb1; clear HB; have HB := Lib.hid hb1; clear hb1))
  refine wp_loop_rounds 1 ?_
  rw [rounds_succ]
  go_wp2_with (first | (at_builtin; refine ob_slice rfl _ _ rfl rfl HB.out (l.drop 1) (by rw [List.length_drop, HN.out]) rfl (by exact dropCells HC.out HB.out.kept) (by have h_1 := HA.out; have h_2 := HN.out; (try simp only [List.length_append, List.length_cons, List.length_nil, List.length_drop]); omega) ?_; intro v1 w1 hb1 _; clear HB; have HB := Lib.hid hb1; clear hb1) | (at_builtin; refine ob_byte rfl _ _ rfl rfl _ _ (u8z (by omega) (by omega)) HB.out rfl (by have h_1 := HA.out; have h_2 := HN.out; (try simp only [List.length_append, List.length_cons, List.length_nil, List.length_drop]); omega) ?_; intro v1 w1 hb1; clear HB; have HB := Lib.hid hb1; clear hb1) | (at_builtin; refine ob_two rfl _ _ rfl rfl _ _ _ _ (u8z (by omega) (by omega)) (u8z (by omega) (by omega)) HB.out rfl (by have h_1 := HA.out; have h_2 := HN.out; (try simp only [List.length_append, List.length_cons, List.length_nil, List.length_drop]); omega) ?_; intro v1 w1 hb1; clear HB; have HB := Lib.hid hb1; clear hb1) | (at_builtin; refine ob_three rfl _ _ rfl rfl _ _ _ _ _ _ (u8z (by omega) (by omega)) (u8z (by omega) (by omega)) (u8z (by omega) (by omega)) HB.out rfl (by have h_1 := HA.out; have h_2 := HN.out; (try simp only [List.length_append, List.length_cons, List.length_nil, List.length_drop]); omega) ?_; intro v1 w1 hb1; clear HB; have HB := Lib.hid hb1; clear hb1))
  all_goals go_ret
  all_goals
    refine ⟨_, rfl, ?_⟩
    have hfin := HB.out
    unfold gE sgL frL exL
    rw [HN.out, if_pos (show 1 < n by omega), if_neg (show ¬ n = 0 by omega)]
    rw [show l.getD 0 48 = UInt8.ofNat ((x : Int)).toNat from by rw [← HX.out]; simp]
    rw [hsub, if_pos (show -a < 0 by omega), Int.neg_neg]
    unfold expoL chz
    first
      | (rw [if_pos (show a < 10 by omega)]; simpa using hfin)
      | (rw [if_neg (show ¬ a < 10 by omega), if_pos (show a < 100 by omega)]; simpa using hfin)
      | (rw [if_neg (show ¬ a < 10 by omega), if_neg (show ¬ a < 100 by omega)]; simpa using hfin)
set_option maxHeartbeats 4000000 in
theorem efgE2_fp (l : List UInt8) (dp : Int) (g B : Nat) (v : Value) (acc : List UInt8) (W0 w : World) (hl : l.length ≤ 20) (hl2 : 2 ≤ l.length) (hd : -420 ≤ dp ∧ dp ≤ 420) (hE : 7 ≤ dp) (ha : acc.length ≤ 1000)
    (hb : OB B v acc W0 w) (hc : DigB W0 g l) :
    Calls Tryz.prog 203 #[v, .bool false, .slice (some ⟨g, 0, none⟩) 32 32, .int .i64 dp, .int .i64 (l.length : Int), .int .i64 (l.length : Int), .int .u8 71, .bool true] w fun e w' => ∃ v', e = .returned v' ∧ OB B v' (acc ++ gE false l dp) W0 w' := by
  obtain ⟨d0, d1⟩ := hd
  have HB := Lib.hid hb
  have HA := Lib.hid ha
  have c0 := fun (W : World) (h : EKept W0 W) => headCell hc h (by omega)
  obtain ⟨x, hx⟩ : ∃ x, (l.getD 0 48).toNat = x := ⟨_, rfl⟩
  have xlt : x < 256 := by rw [← hx]; exact UInt8.toNat_lt _
  rw [hx] at c0
  have HX := Lib.hid hx
  clear hx
  have HC := Lib.hid hc
  clear hb hc ha
  obtain ⟨n, hn⟩ : ∃ n, l.length = n := ⟨_, rfl⟩
  rw [hn] at hl hl2 ⊢
  have HN := Lib.hid hn
  clear hn
  go_enter Tryz.func203, Tryz.ntmps203
  have cc := c0 w HB.out.kept
  clear c0
  go_wp2_with (first | (at_builtin; refine ob_slice rfl _ _ rfl rfl HB.out (l.drop 1) (by rw [List.length_drop, HN.out]) rfl (by exact dropCells HC.out HB.out.kept) (by have h_1 := HA.out; have h_2 := HN.out; (try simp only [List.length_append, List.length_cons, List.length_nil, List.length_drop]); omega) ?_; intro v1 w1 hb1 _; clear HB; have HB := Lib.hid hb1; clear hb1) | (at_builtin; refine ob_byte rfl _ _ rfl rfl _ _ (u8z (by omega) (by omega)) HB.out rfl (by have h_1 := HA.out; have h_2 := HN.out; (try simp only [List.length_append, List.length_cons, List.length_nil, List.length_drop]); omega) ?_; intro v1 w1 hb1; clear HB; have HB := Lib.hid hb1; clear hb1) | (at_builtin; refine ob_two rfl _ _ rfl rfl _ _ _ _ (u8z (by omega) (by omega)) (u8z (by omega) (by omega)) HB.out rfl (by have h_1 := HA.out; have h_2 := HN.out; (try simp only [List.length_append, List.length_cons, List.length_nil, List.length_drop]); omega) ?_; intro v1 w1 hb1; clear HB; have HB := Lib.hid hb1; clear hb1) | (at_builtin; refine ob_three rfl _ _ rfl rfl _ _ _ _ _ _ (u8z (by omega) (by omega)) (u8z (by omega) (by omega)) (u8z (by omega) (by omega)) HB.out rfl (by have h_1 := HA.out; have h_2 := HN.out; (try simp only [List.length_append, List.length_cons, List.length_nil, List.length_drop]); omega) ?_; intro v1 w1 hb1; clear HB; have HB := Lib.hid hb1; clear hb1))
  refine wp_loop_rounds 1 ?_
  rw [rounds_succ]
  go_wp2_with (first | (at_builtin; refine ob_slice rfl _ _ rfl rfl HB.out (l.drop 1) (by rw [List.length_drop, HN.out]) rfl (by exact dropCells HC.out HB.out.kept) (by have h_1 := HA.out; have h_2 := HN.out; (try simp only [List.length_append, List.length_cons, List.length_nil, List.length_drop]); omega) ?_; intro v1 w1 hb1 _; clear HB; have HB := Lib.hid hb1; clear hb1) | (at_builtin; refine ob_byte rfl _ _ rfl rfl _ _ (u8z (by omega) (by omega)) HB.out rfl (by have h_1 := HA.out; have h_2 := HN.out; (try simp only [List.length_append, List.length_cons, List.length_nil, List.length_drop]); omega) ?_; intro v1 w1 hb1; clear HB; have HB := Lib.hid hb1; clear hb1) | (at_builtin; refine ob_two rfl _ _ rfl rfl _ _ _ _ (u8z (by omega) (by omega)) (u8z (by omega) (by omega)) HB.out rfl (by have h_1 := HA.out; have h_2 := HN.out; (try simp only [List.length_append, List.length_cons, List.length_nil, List.length_drop]); omega) ?_; intro v1 w1 hb1; clear HB; have HB := Lib.hid hb1; clear hb1) | (at_builtin; refine ob_three rfl _ _ rfl rfl _ _ _ _ _ _ (u8z (by omega) (by omega)) (u8z (by omega) (by omega)) (u8z (by omega) (by omega)) HB.out rfl (by have h_1 := HA.out; have h_2 := HN.out; (try simp only [List.length_append, List.length_cons, List.length_nil, List.length_drop]); omega) ?_; intro v1 w1 hb1; clear HB; have HB := Lib.hid hb1; clear hb1))
  all_goals go_ret
  all_goals
    refine ⟨_, rfl, ?_⟩
    have hfin := HB.out
    unfold gE sgL frL exL
    rw [HN.out, if_pos (show 1 < n by omega), if_neg (show ¬ n = 0 by omega)]
    rw [show l.getD 0 48 = UInt8.ofNat ((x : Int)).toNat from by rw [← HX.out]; simp]
    rw [if_neg (show ¬ dp - 1 < 0 by omega)]
    unfold expoL chz
    first
      | (rw [if_pos (show dp - 1 < 10 by omega)]; simpa using hfin)
      | (rw [if_neg (show ¬ dp - 1 < 10 by omega), if_pos (show dp - 1 < 100 by omega)]; simpa using hfin)
      | (rw [if_neg (show ¬ dp - 1 < 10 by omega), if_neg (show ¬ dp - 1 < 100 by omega)]; simpa using hfin)
set_option maxHeartbeats 4000000 in
theorem efgE2_tn (l : List UInt8) (dp : Int) (g B : Nat) (v : Value) (acc : List UInt8) (W0 w : World) (hl : l.length ≤ 20) (hl2 : 2 ≤ l.length) (hd : -420 ≤ dp ∧ dp ≤ 420) (hE : dp < -3) (ha : acc.length ≤ 1000)
    (hb : OB B v acc W0 w) (hc : DigB W0 g l) :
    Calls Tryz.prog 203 #[v, .bool true, .slice (some ⟨g, 0, none⟩) 32 32, .int .i64 dp, .int .i64 (l.length : Int), .int .i64 (l.length : Int), .int .u8 71, .bool true] w fun e w' => ∃ v', e = .returned v' ∧ OB B v' (acc ++ gE true l dp) W0 w' := by
  obtain ⟨d0, d1⟩ := hd
  have HB := Lib.hid hb
  have HA := Lib.hid ha
  have c0 := fun (W : World) (h : EKept W0 W) => headCell hc h (by omega)
  obtain ⟨x, hx⟩ : ∃ x, (l.getD 0 48).toNat = x := ⟨_, rfl⟩
  have xlt : x < 256 := by rw [← hx]; exact UInt8.toNat_lt _
  rw [hx] at c0
  have HX := Lib.hid hx
  clear hx
  have HC := Lib.hid hc
  clear hb hc ha
  obtain ⟨n, hn⟩ : ∃ n, l.length = n := ⟨_, rfl⟩
  rw [hn] at hl hl2 ⊢
  have HN := Lib.hid hn
  clear hn
  obtain ⟨a, ha'⟩ : ∃ a, dp = 1 - a := ⟨1 - dp, by omega⟩
  subst ha'
  have a0 : 5 ≤ a := by omega
  have a1 : a ≤ 421 := by omega
  have hsub : (1 : Int) - a - 1 = -a := by omega
  clear d0 d1
  go_enter Tryz.func203, Tryz.ntmps203
  go_wp2_with (first | (at_builtin; refine ob_byte rfl _ _ rfl rfl 45 _ rfl HB.out rfl (by have h_1 := HA.out; have h_2 := HN.out; (try simp only [List.length_append, List.length_cons, List.length_nil, List.length_drop]); omega) ?_; intro v1 w1 hb1; clear HB; have HB := Lib.hid hb1; clear hb1; have cc := c0 _ HB.out.kept; clear c0) | (at_builtin; refine ob_slice rfl _ _ rfl rfl HB.out (l.drop 1) (by rw [List.length_drop, HN.out]) rfl (by exact dropCells HC.out HB.out.kept) (by have h_1 := HA.out; have h_2 := HN.out; (try simp only [List.length_append, List.length_cons, List.length_nil, List.length_drop]); omega) ?_; intro v1 w1 hb1 _; clear HB; have HB := Lib.hid hb1; clear hb1) | (at_builtin; refine ob_byte rfl _ _ rfl rfl _ _ (u8z (by omega) (by omega)) HB.out rfl (by have h_1 := HA.out; have h_2 := HN.out; (try simp only [List.length_append, List.length_cons, List.length_nil, List.length_drop]); omega) ?_; intro v1 w1 hb1; clear HB; have HB := Lib.hid hb1; clear hb1) | (at_builtin; refine ob_two rfl _ _ rfl rfl _ _ _ _ (u8z (by omega) (by omega)) (u8z (by omega) (by omega)) HB.out rfl (by have h_1 := HA.out; have h_2 := HN.out; (try simp only [List.length_append, List.length_cons, List.length_nil, List.length_drop]); omega) ?_; intro v1 w1 hb1; clear HB; have HB := Lib.hid hb1; clear hb1) | (at_builtin; refine ob_three rfl _ _ rfl rfl _ _ _ _ _ _ (u8z (by omega) (by omega)) (u8z (by omega) (by omega)) (u8z (by omega) (by omega)) HB.out rfl (by have h_1 := HA.out; have h_2 := HN.out; (try simp only [List.length_append, List.length_cons, List.length_nil, List.length_drop]); omega) ?_; intro v1 w1 hb1; clear HB; have HB := Lib.hid hb1; clear hb1))
  refine wp_loop_rounds 1 ?_
  rw [rounds_succ]
  go_wp2_with (first | (at_builtin; refine ob_slice rfl _ _ rfl rfl HB.out (l.drop 1) (by rw [List.length_drop, HN.out]) rfl (by exact dropCells HC.out HB.out.kept) (by have h_1 := HA.out; have h_2 := HN.out; (try simp only [List.length_append, List.length_cons, List.length_nil, List.length_drop]); omega) ?_; intro v1 w1 hb1 _; clear HB; have HB := Lib.hid hb1; clear hb1) | (at_builtin; refine ob_byte rfl _ _ rfl rfl _ _ (u8z (by omega) (by omega)) HB.out rfl (by have h_1 := HA.out; have h_2 := HN.out; (try simp only [List.length_append, List.length_cons, List.length_nil, List.length_drop]); omega) ?_; intro v1 w1 hb1; clear HB; have HB := Lib.hid hb1; clear hb1) | (at_builtin; refine ob_two rfl _ _ rfl rfl _ _ _ _ (u8z (by omega) (by omega)) (u8z (by omega) (by omega)) HB.out rfl (by have h_1 := HA.out; have h_2 := HN.out; (try simp only [List.length_append, List.length_cons, List.length_nil, List.length_drop]); omega) ?_; intro v1 w1 hb1; clear HB; have HB := Lib.hid hb1; clear hb1) | (at_builtin; refine ob_three rfl _ _ rfl rfl _ _ _ _ _ _ (u8z (by omega) (by omega)) (u8z (by omega) (by omega)) (u8z (by omega) (by omega)) HB.out rfl (by have h_1 := HA.out; have h_2 := HN.out; (try simp only [List.length_append, List.length_cons, List.length_nil, List.length_drop]); omega) ?_; intro v1 w1 hb1; clear HB; have HB := Lib.hid hb1; clear hb1))
  all_goals go_ret
  all_goals
    refine ⟨_, rfl, ?_⟩
    have hfin := HB.out
    unfold gE sgL frL exL
    rw [HN.out, if_pos (show 1 < n by omega), if_neg (show ¬ n = 0 by omega)]
    rw [show l.getD 0 48 = UInt8.ofNat ((x : Int)).toNat from by rw [← HX.out]; simp]
    rw [hsub, if_pos (show -a < 0 by omega), Int.neg_neg]
    unfold expoL chz
    first
      | (rw [if_pos (show a < 10 by omega)]; simpa using hfin)
      | (rw [if_neg (show ¬ a < 10 by omega), if_pos (show a < 100 by omega)]; simpa using hfin)
      | (rw [if_neg (show ¬ a < 10 by omega), if_neg (show ¬ a < 100 by omega)]; simpa using hfin)
set_option maxHeartbeats 4000000 in
theorem efgE2_tp (l : List UInt8) (dp : Int) (g B : Nat) (v : Value) (acc : List UInt8) (W0 w : World) (hl : l.length ≤ 20) (hl2 : 2 ≤ l.length) (hd : -420 ≤ dp ∧ dp ≤ 420) (hE : 7 ≤ dp) (ha : acc.length ≤ 1000)
    (hb : OB B v acc W0 w) (hc : DigB W0 g l) :
    Calls Tryz.prog 203 #[v, .bool true, .slice (some ⟨g, 0, none⟩) 32 32, .int .i64 dp, .int .i64 (l.length : Int), .int .i64 (l.length : Int), .int .u8 71, .bool true] w fun e w' => ∃ v', e = .returned v' ∧ OB B v' (acc ++ gE true l dp) W0 w' := by
  obtain ⟨d0, d1⟩ := hd
  have HB := Lib.hid hb
  have HA := Lib.hid ha
  have c0 := fun (W : World) (h : EKept W0 W) => headCell hc h (by omega)
  obtain ⟨x, hx⟩ : ∃ x, (l.getD 0 48).toNat = x := ⟨_, rfl⟩
  have xlt : x < 256 := by rw [← hx]; exact UInt8.toNat_lt _
  rw [hx] at c0
  have HX := Lib.hid hx
  clear hx
  have HC := Lib.hid hc
  clear hb hc ha
  obtain ⟨n, hn⟩ : ∃ n, l.length = n := ⟨_, rfl⟩
  rw [hn] at hl hl2 ⊢
  have HN := Lib.hid hn
  clear hn
  go_enter Tryz.func203, Tryz.ntmps203
  go_wp2_with (first | (at_builtin; refine ob_byte rfl _ _ rfl rfl 45 _ rfl HB.out rfl (by have h_1 := HA.out; have h_2 := HN.out; (try simp only [List.length_append, List.length_cons, List.length_nil, List.length_drop]); omega) ?_; intro v1 w1 hb1; clear HB; have HB := Lib.hid hb1; clear hb1; have cc := c0 _ HB.out.kept; clear c0) | (at_builtin; refine ob_slice rfl _ _ rfl rfl HB.out (l.drop 1) (by rw [List.length_drop, HN.out]) rfl (by exact dropCells HC.out HB.out.kept) (by have h_1 := HA.out; have h_2 := HN.out; (try simp only [List.length_append, List.length_cons, List.length_nil, List.length_drop]); omega) ?_; intro v1 w1 hb1 _; clear HB; have HB := Lib.hid hb1; clear hb1) | (at_builtin; refine ob_byte rfl _ _ rfl rfl _ _ (u8z (by omega) (by omega)) HB.out rfl (by have h_1 := HA.out; have h_2 := HN.out; (try simp only [List.length_append, List.length_cons, List.length_nil, List.length_drop]); omega) ?_; intro v1 w1 hb1; clear HB; have HB := Lib.hid hb1; clear hb1) | (at_builtin; refine ob_two rfl _ _ rfl rfl _ _ _ _ (u8z (by omega) (by omega)) (u8z (by omega) (by omega)) HB.out rfl (by have h_1 := HA.out; have h_2 := HN.out; (try simp only [List.length_append, List.length_cons, List.length_nil, List.length_drop]); omega) ?_; intro v1 w1 hb1; clear HB; have HB := Lib.hid hb1; clear hb1) | (at_builtin; refine ob_three rfl _ _ rfl rfl _ _ _ _ _ _ (u8z (by omega) (by omega)) (u8z (by omega) (by omega)) (u8z (by omega) (by omega)) HB.out rfl (by have h_1 := HA.out; have h_2 := HN.out; (try simp only [List.length_append, List.length_cons, List.length_nil, List.length_drop]); omega) ?_; intro v1 w1 hb1; clear HB; have HB := Lib.hid hb1; clear hb1))
  refine wp_loop_rounds 1 ?_
  rw [rounds_succ]
  go_wp2_with (first | (at_builtin; refine ob_slice rfl _ _ rfl rfl HB.out (l.drop 1) (by rw [List.length_drop, HN.out]) rfl (by exact dropCells HC.out HB.out.kept) (by have h_1 := HA.out; have h_2 := HN.out; (try simp only [List.length_append, List.length_cons, List.length_nil, List.length_drop]); omega) ?_; intro v1 w1 hb1 _; clear HB; have HB := Lib.hid hb1; clear hb1) | (at_builtin; refine ob_byte rfl _ _ rfl rfl _ _ (u8z (by omega) (by omega)) HB.out rfl (by have h_1 := HA.out; have h_2 := HN.out; (try simp only [List.length_append, List.length_cons, List.length_nil, List.length_drop]); omega) ?_; intro v1 w1 hb1; clear HB; have HB := Lib.hid hb1; clear hb1) | (at_builtin; refine ob_two rfl _ _ rfl rfl _ _ _ _ (u8z (by omega) (by omega)) (u8z (by omega) (by omega)) HB.out rfl (by have h_1 := HA.out; have h_2 := HN.out; (try simp only [List.length_append, List.length_cons, List.length_nil, List.length_drop]); omega) ?_; intro v1 w1 hb1; clear HB; have HB := Lib.hid hb1; clear hb1) | (at_builtin; refine ob_three rfl _ _ rfl rfl _ _ _ _ _ _ (u8z (by omega) (by omega)) (u8z (by omega) (by omega)) (u8z (by omega) (by omega)) HB.out rfl (by have h_1 := HA.out; have h_2 := HN.out; (try simp only [List.length_append, List.length_cons, List.length_nil, List.length_drop]); omega) ?_; intro v1 w1 hb1; clear HB; have HB := Lib.hid hb1; clear hb1))
  all_goals go_ret
  all_goals
    refine ⟨_, rfl, ?_⟩
    have hfin := HB.out
    unfold gE sgL frL exL
    rw [HN.out, if_pos (show 1 < n by omega), if_neg (show ¬ n = 0 by omega)]
    rw [show l.getD 0 48 = UInt8.ofNat ((x : Int)).toNat from by rw [← HX.out]; simp]
    rw [if_neg (show ¬ dp - 1 < 0 by omega)]
    unfold expoL chz
    first
      | (rw [if_pos (show dp - 1 < 10 by omega)]; simpa using hfin)
      | (rw [if_neg (show ¬ dp - 1 < 10 by omega), if_pos (show dp - 1 < 100 by omega)]; simpa using hfin)
      | (rw [if_neg (show ¬ dp - 1 < 10 by omega), if_neg (show ¬ dp - 1 < 100 by omega)]; simpa using hfin)
set_option maxHeartbeats 4000000 in
theorem efgE1_fn (l : List UInt8) (dp : Int) (g B : Nat) (v : Value) (acc : List UInt8) (W0 w : World) (hl : l.length ≤ 20) (hl2 : l.length = 1) (hd : -420 ≤ dp ∧ dp ≤ 420) (hE : dp < -3) (ha : acc.length ≤ 1000)
    (hb : OB B v acc W0 w) (hc : DigB W0 g l) :
    Calls Tryz.prog 203 #[v, .bool false, .slice (some ⟨g, 0, none⟩) 32 32, .int .i64 dp, .int .i64 (l.length : Int), .int .i64 (l.length : Int), .int .u8 71, .bool true] w fun e w' => ∃ v', e = .returned v' ∧ OB B v' (acc ++ gE false l dp) W0 w' := by
  obtain ⟨d0, d1⟩ := hd
  have HB := Lib.hid hb
  have HA := Lib.hid ha
  have c0 := fun (W : World) (h : EKept W0 W) => headCell hc h (by omega)
  obtain ⟨x, hx⟩ : ∃ x, (l.getD 0 48).toNat = x := ⟨_, rfl⟩
  have xlt : x < 256 := by rw [← hx]; exact UInt8.toNat_lt _
  rw [hx] at c0
  have HX := Lib.hid hx
  clear hx
  have HC := Lib.hid hc
  clear hb hc ha
  obtain ⟨n, hn⟩ : ∃ n, l.length = n := ⟨_, rfl⟩
  rw [hn] at hl hl2 ⊢
  have HN := Lib.hid hn
  clear hn
  subst hl2
  obtain ⟨a, ha'⟩ : ∃ a, dp = 1 - a := ⟨1 - dp, by omega⟩
  subst ha'
  have a0 : 5 ≤ a := by omega
  have a1 : a ≤ 421 := by omega
  have hsub : (1 : Int) - a - 1 = -a := by omega
  clear d0 d1
  go_enter Tryz.func203, Tryz.ntmps203
  have cc := c0 w HB.out.kept
  clear c0
  go_wp2_with (first | (at_builtin; refine ob_byte rfl _ _ rfl rfl _ _ (u8z (by omega) (by omega)) HB.out rfl (by have h_1 := HA.out; have h_2 := HN.out; (try simp only [List.length_append, List.length_cons, List.length_nil, List.length_drop]); omega) ?_; intro v1 w1 hb1; clear HB; have HB := Lib.hid hb1; clear hb1) | (at_builtin; refine ob_two rfl _ _ rfl rfl _ _ _ _ (u8z (by omega) (by omega)) (u8z (by omega) (by omega)) HB.out rfl (by have h_1 := HA.out; have h_2 := HN.out; (try simp only [List.length_append, List.length_cons, List.length_nil, List.length_drop]); omega) ?_; intro v1 w1 hb1; clear HB; have HB := Lib.hid hb1; clear hb1) | (at_builtin; refine ob_three rfl _ _ rfl rfl _ _ _ _ _ _ (u8z (by omega) (by omega)) (u8z (by omega) (by omega)) (u8z (by omega) (by omega)) HB.out rfl (by have h_1 := HA.out; have h_2 := HN.out; (try simp only [List.length_append, List.length_cons, List.length_nil, List.length_drop]); omega) ?_; intro v1 w1 hb1; clear HB; have HB := Lib.hid hb1; clear hb1))
  all_goals go_ret
  all_goals
    refine ⟨_, rfl, ?_⟩
    have hfin := HB.out
    unfold gE sgL frL exL
    rw [HN.out, if_neg (show ¬ 1 < 1 by omega), if_neg (show ¬ 1 = 0 by omega)]
    rw [show l.getD 0 48 = UInt8.ofNat ((x : Int)).toNat from by rw [← HX.out]; simp]
    rw [hsub, if_pos (show -a < 0 by omega), Int.neg_neg]
    unfold expoL chz
    first
      | (rw [if_pos (show a < 10 by omega)]; simpa using hfin)
      | (rw [if_neg (show ¬ a < 10 by omega), if_pos (show a < 100 by omega)]; simpa using hfin)
      | (rw [if_neg (show ¬ a < 10 by omega), if_neg (show ¬ a < 100 by omega)]; simpa using hfin)
set_option maxHeartbeats 4000000 in
theorem efgE1_fp (l : List UInt8) (dp : Int) (g B : Nat) (v : Value) (acc : List UInt8) (W0 w : World) (hl : l.length ≤ 20) (hl2 : l.length = 1) (hd : -420 ≤ dp ∧ dp ≤ 420) (hE : 7 ≤ dp) (ha : acc.length ≤ 1000)
    (hb : OB B v acc W0 w) (hc : DigB W0 g l) :
    Calls Tryz.prog 203 #[v, .bool false, .slice (some ⟨g, 0, none⟩) 32 32, .int .i64 dp, .int .i64 (l.length : Int), .int .i64 (l.length : Int), .int .u8 71, .bool true] w fun e w' => ∃ v', e = .returned v' ∧ OB B v' (acc ++ gE false l dp) W0 w' := by
  obtain ⟨d0, d1⟩ := hd
  have HB := Lib.hid hb
  have HA := Lib.hid ha
  have c0 := fun (W : World) (h : EKept W0 W) => headCell hc h (by omega)
  obtain ⟨x, hx⟩ : ∃ x, (l.getD 0 48).toNat = x := ⟨_, rfl⟩
  have xlt : x < 256 := by rw [← hx]; exact UInt8.toNat_lt _
  rw [hx] at c0
  have HX := Lib.hid hx
  clear hx
  have HC := Lib.hid hc
  clear hb hc ha
  obtain ⟨n, hn⟩ : ∃ n, l.length = n := ⟨_, rfl⟩
  rw [hn] at hl hl2 ⊢
  have HN := Lib.hid hn
  clear hn
  subst hl2
  go_enter Tryz.func203, Tryz.ntmps203
  have cc := c0 w HB.out.kept
  clear c0
  go_wp2_with (first | (at_builtin; refine ob_byte rfl _ _ rfl rfl _ _ (u8z (by omega) (by omega)) HB.out rfl (by have h_1 := HA.out; have h_2 := HN.out; (try simp only [List.length_append, List.length_cons, List.length_nil, List.length_drop]); omega) ?_; intro v1 w1 hb1; clear HB; have HB := Lib.hid hb1; clear hb1) | (at_builtin; refine ob_two rfl _ _ rfl rfl _ _ _ _ (u8z (by omega) (by omega)) (u8z (by omega) (by omega)) HB.out rfl (by have h_1 := HA.out; have h_2 := HN.out; (try simp only [List.length_append, List.length_cons, List.length_nil, List.length_drop]); omega) ?_; intro v1 w1 hb1; clear HB; have HB := Lib.hid hb1; clear hb1) | (at_builtin; refine ob_three rfl _ _ rfl rfl _ _ _ _ _ _ (u8z (by omega) (by omega)) (u8z (by omega) (by omega)) (u8z (by omega) (by omega)) HB.out rfl (by have h_1 := HA.out; have h_2 := HN.out; (try simp only [List.length_append, List.length_cons, List.length_nil, List.length_drop]); omega) ?_; intro v1 w1 hb1; clear HB; have HB := Lib.hid hb1; clear hb1))
  all_goals go_ret
  all_goals
    refine ⟨_, rfl, ?_⟩
    have hfin := HB.out
    unfold gE sgL frL exL
    rw [HN.out, if_neg (show ¬ 1 < 1 by omega), if_neg (show ¬ 1 = 0 by omega)]
    rw [show l.getD 0 48 = UInt8.ofNat ((x : Int)).toNat from by rw [← HX.out]; simp]
    rw [if_neg (show ¬ dp - 1 < 0 by omega)]
    unfold expoL chz
    first
      | (rw [if_pos (show dp - 1 < 10 by omega)]; simpa using hfin)
      | (rw [if_neg (show ¬ dp - 1 < 10 by omega), if_pos (show dp - 1 < 100 by omega)]; simpa using hfin)
      | (rw [if_neg (show ¬ dp - 1 < 10 by omega), if_neg (show ¬ dp - 1 < 100 by omega)]; simpa using hfin)
set_option maxHeartbeats 4000000 in
theorem efgE1_tn (l : List UInt8) (dp : Int) (g B : Nat) (v : Value) (acc : List UInt8) (W0 w : World) (hl : l.length ≤ 20) (hl2 : l.length = 1) (hd : -420 ≤ dp ∧ dp ≤ 420) (hE : dp < -3) (ha : acc.length ≤ 1000)
    (hb : OB B v acc W0 w) (hc : DigB W0 g l) :
    Calls Tryz.prog 203 #[v, .bool true, .slice (some ⟨g, 0, none⟩) 32 32, .int .i64 dp, .int .i64 (l.length : Int), .int .i64 (l.length : Int), .int .u8 71, .bool true] w fun e w' => ∃ v', e = .returned v' ∧ OB B v' (acc ++ gE true l dp) W0 w' := by
  obtain ⟨d0, d1⟩ := hd
  have HB := Lib.hid hb
  have HA := Lib.hid ha
  have c0 := fun (W : World) (h : EKept W0 W) => headCell hc h (by omega)
  obtain ⟨x, hx⟩ : ∃ x, (l.getD 0 48).toNat = x := ⟨_, rfl⟩
  have xlt : x < 256 := by rw [← hx]; exact UInt8.toNat_lt _
  rw [hx] at c0
  have HX := Lib.hid hx
  clear hx
  have HC := Lib.hid hc
  clear hb hc ha
  obtain ⟨n, hn⟩ : ∃ n, l.length = n := ⟨_, rfl⟩
  rw [hn] at hl hl2 ⊢
  have HN := Lib.hid hn
  clear hn
  subst hl2
  obtain ⟨a, ha'⟩ : ∃ a, dp = 1 - a := ⟨1 - dp, by omega⟩
  subst ha'
  have a0 : 5 ≤ a := by omega
  have a1 : a ≤ 421 := by omega
  have hsub : (1 : Int) - a - 1 = -a := by omega
  clear d0 d1
  go_enter Tryz.func203, Tryz.ntmps203
  go_wp2_with (first | (at_builtin; refine ob_byte rfl _ _ rfl rfl 45 _ rfl HB.out rfl (by have h_1 := HA.out; have h_2 := HN.out; (try simp only [List.length_append, List.length_cons, List.length_nil, List.length_drop]); omega) ?_; intro v1 w1 hb1; clear HB; have HB := Lib.hid hb1; clear hb1; have cc := c0 _ HB.out.kept; clear c0) | (at_builtin; refine ob_byte rfl _ _ rfl rfl _ _ (u8z (by omega) (by omega)) HB.out rfl (by have h_1 := HA.out; have h_2 := HN.out; (try simp only [List.length_append, List.length_cons, List.length_nil, List.length_drop]); omega) ?_; intro v1 w1 hb1; clear HB; have HB := Lib.hid hb1; clear hb1) | (at_builtin; refine ob_two rfl _ _ rfl rfl _ _ _ _ (u8z (by omega) (by omega)) (u8z (by omega) (by omega)) HB.out rfl (by have h_1 := HA.out; have h_2 := HN.out; (try simp only [List.length_append, List.length_cons, List.length_nil, List.length_drop]); omega) ?_; intro v1 w1 hb1; clear HB; have HB := Lib.hid hb1; clear hb1) | (at_builtin; refine ob_three rfl _ _ rfl rfl _ _ _ _ _ _ (u8z (by omega) (by omega)) (u8z (by omega) (by omega)) (u8z (by omega) (by omega)) HB.out rfl (by have h_1 := HA.out; have h_2 := HN.out; (try simp only [List.length_append, List.length_cons, List.length_nil, List.length_drop]); omega) ?_; intro v1 w1 hb1; clear HB; have HB := Lib.hid hb1; clear hb1))
  all_goals go_ret
  all_goals
    refine ⟨_, rfl, ?_⟩
    have hfin := HB.out
    unfold gE sgL frL exL
    rw [HN.out, if_neg (show ¬ 1 < 1 by omega), if_neg (show ¬ 1 = 0 by omega)]
    rw [show l.getD 0 48 = UInt8.ofNat ((x : Int)).toNat from by rw [← HX.out]; simp]
    rw [hsub, if_pos (show -a < 0 by omega), Int.neg_neg]
    unfold expoL chz
    first
      | (rw [if_pos (show a < 10 by omega)]; simpa using hfin)
      | (rw [if_neg (show ¬ a < 10 by omega), if_pos (show a < 100 by omega)]; simpa using hfin)
      | (rw [if_neg (show ¬ a < 10 by omega), if_neg (show ¬ a < 100 by omega)]; simpa using hfin)
set_option maxHeartbeats 4000000 in
theorem efgE1_tp (l : List UInt8) (dp : Int) (g B : Nat) (v : Value) (acc : List UInt8) (W0 w : World) (hl : l.length ≤ 20) (hl2 : l.length = 1) (hd : -420 ≤ dp ∧ dp ≤ 420) (hE : 7 ≤ dp) (ha : acc.length ≤ 1000)
    (hb : OB B v acc W0 w) (hc : DigB W0 g l) :
    Calls Tryz.prog 203 #[v, .bool true, .slice (some ⟨g, 0, none⟩) 32 32, .int .i64 dp, .int .i64 (l.length : Int), .int .i64 (l.length : Int), .int .u8 71, .bool true] w fun e w' => ∃ v', e = .returned v' ∧ OB B v' (acc ++ gE true l dp) W0 w' := by
  obtain ⟨d0, d1⟩ := hd
  have HB := Lib.hid hb
  have HA := Lib.hid ha
  have c0 := fun (W : World) (h : EKept W0 W) => headCell hc h (by omega)
  obtain ⟨x, hx⟩ : ∃ x, (l.getD 0 48).toNat = x := ⟨_, rfl⟩
  have xlt : x < 256 := by rw [← hx]; exact UInt8.toNat_lt _
  rw [hx] at c0
  have HX := Lib.hid hx
  clear hx
  have HC := Lib.hid hc
  clear hb hc ha
  obtain ⟨n, hn⟩ : ∃ n, l.length = n := ⟨_, rfl⟩
  rw [hn] at hl hl2 ⊢
  have HN := Lib.hid hn
  clear hn
  subst hl2
  go_enter Tryz.func203, Tryz.ntmps203
  go_wp2_with (first | (at_builtin; refine ob_byte rfl _ _ rfl rfl 45 _ rfl HB.out rfl (by have h_1 := HA.out; have h_2 := HN.out; (try simp only [List.length_append, List.length_cons, List.length_nil, List.length_drop]); omega) ?_; intro v1 w1 hb1; clear HB; have HB := Lib.hid hb1; clear hb1; have cc := c0 _ HB.out.kept; clear c0) | (at_builtin; refine ob_byte rfl _ _ rfl rfl _ _ (u8z (by omega) (by omega)) HB.out rfl (by have h_1 := HA.out; have h_2 := HN.out; (try simp only [List.length_append, List.length_cons, List.length_nil, List.length_drop]); omega) ?_; intro v1 w1 hb1; clear HB; have HB := Lib.hid hb1; clear hb1) | (at_builtin; refine ob_two rfl _ _ rfl rfl _ _ _ _ (u8z (by omega) (by omega)) (u8z (by omega) (by omega)) HB.out rfl (by have h_1 := HA.out; have h_2 := HN.out; (try simp only [List.length_append, List.length_cons, List.length_nil, List.length_drop]); omega) ?_; intro v1 w1 hb1; clear HB; have HB := Lib.hid hb1; clear hb1) | (at_builtin; refine ob_three rfl _ _ rfl rfl _ _ _ _ _ _ (u8z (by omega) (by omega)) (u8z (by omega) (by omega)) (u8z (by omega) (by omega)) HB.out rfl (by have h_1 := HA.out; have h_2 := HN.out; (try simp only [List.length_append, List.length_cons, List.length_nil, List.length_drop]); omega) ?_; intro v1 w1 hb1; clear HB; have HB := Lib.hid hb1; clear hb1))
  all_goals go_ret
  all_goals
    refine ⟨_, rfl, ?_⟩
    have hfin := HB.out
    unfold gE sgL frL exL
    rw [HN.out, if_neg (show ¬ 1 < 1 by omega), if_neg (show ¬ 1 = 0 by omega)]
    rw [show l.getD 0 48 = UInt8.ofNat ((x : Int)).toNat from by rw [← HX.out]; simp]
    rw [if_neg (show ¬ dp - 1 < 0 by omega)]
    unfold expoL chz
    first
      | (rw [if_pos (show dp - 1 < 10 by omega)]; simpa using hfin)
      | (rw [if_neg (show ¬ dp - 1 < 10 by omega), if_pos (show dp - 1 < 100 by omega)]; simpa using hfin)
      | (rw [if_neg (show ¬ dp - 1 < 10 by omega), if_neg (show ¬ dp - 1 < 100 by omega)]; simpa using hfin)
set_option maxHeartbeats 4000000 in
theorem efgE0_fn (l : List UInt8) (dp : Int) (g B : Nat) (v : Value) (acc : List UInt8) (W0 w : World) (hl : l.length ≤ 20) (hl2 : l.length = 0) (hd : -420 ≤ dp ∧ dp ≤ 420) (hE : dp < -3) (ha : acc.length ≤ 1000)
    (hb : OB B v acc W0 w) (hc : DigB W0 g l) :
    Calls Tryz.prog 203 #[v, .bool false, .slice (some ⟨g, 0, none⟩) 32 32, .int .i64 dp, .int .i64 (l.length : Int), .int .i64 (l.length : Int), .int .u8 71, .bool true] w fun e w' => ∃ v', e = .returned v' ∧ OB B v' (acc ++ gE false l dp) W0 w' := by
  obtain ⟨d0, d1⟩ := hd
  have HB := Lib.hid hb
  have HA := Lib.hid ha
  have HC := Lib.hid hc
  clear hb hc ha
  obtain ⟨n, hn⟩ : ∃ n, l.length = n := ⟨_, rfl⟩
  rw [hn] at hl hl2 ⊢
  have HN := Lib.hid hn
  clear hn
  subst hl2
  obtain ⟨a, ha'⟩ : ∃ a, dp = 1 - a := ⟨1 - dp, by omega⟩
  subst ha'
  have a0 : 5 ≤ a := by omega
  have a1 : a ≤ 421 := by omega
  have hsub : (1 : Int) - a - 1 = -a := by omega
  clear d0 d1
  go_enter Tryz.func203, Tryz.ntmps203
  go_wp2_with (first | (at_builtin; refine ob_byte rfl _ _ rfl rfl _ _ (u8z (by omega) (by omega)) HB.out rfl (by have h_1 := HA.out; have h_2 := HN.out; (try simp only [List.length_append, List.length_cons, List.length_nil, List.length_drop]); omega) ?_; intro v1 w1 hb1; clear HB; have HB := Lib.hid hb1; clear hb1) | (at_builtin; refine ob_two rfl _ _ rfl rfl _ _ _ _ (u8z (by omega) (by omega)) (u8z (by omega) (by omega)) HB.out rfl (by have h_1 := HA.out; have h_2 := HN.out; (try simp only [List.length_append, List.length_cons, List.length_nil, List.length_drop]); omega) ?_; intro v1 w1 hb1; clear HB; have HB := Lib.hid hb1; clear hb1) | (at_builtin; refine ob_three rfl _ _ rfl rfl _ _ _ _ _ _ (u8z (by omega) (by omega)) (u8z (by omega) (by omega)) (u8z (by omega) (by omega)) HB.out rfl (by have h_1 := HA.out; have h_2 := HN.out; (try simp only [List.length_append, List.length_cons, List.length_nil, List.length_drop]); omega) ?_; intro v1 w1 hb1; clear HB; have HB := Lib.hid hb1; clear hb1))
  all_goals go_ret
  all_goals
    refine ⟨_, rfl, ?_⟩
    have hfin := HB.out
    unfold gE sgL frL exL
    rw [HN.out, if_neg (show ¬ 1 < 0 by omega), if_pos (show 0 = 0 by omega)]
    rw [show l.getD 0 48 = 48 from by rw [List.length_eq_zero_iff.1 HN.out]; rfl]
    rw [if_neg (show ¬ (0 : Int) < 0 by omega)]
    unfold expoL chz
    first
      | (rw [if_pos (show (0 : Int) < 10 by omega)]; simpa using hfin)
      | (rw [if_neg (show ¬ (0 : Int) < 10 by omega), if_pos (show (0 : Int) < 100 by omega)]; simpa using hfin)
      | (rw [if_neg (show ¬ (0 : Int) < 10 by omega), if_neg (show ¬ (0 : Int) < 100 by omega)]; simpa using hfin)
set_option maxHeartbeats 4000000 in
theorem efgE0_fp (l : List UInt8) (dp : Int) (g B : Nat) (v : Value) (acc : List UInt8) (W0 w : World) (hl : l.length ≤ 20) (hl2 : l.length = 0) (hd : -420 ≤ dp ∧ dp ≤ 420) (hE : 7 ≤ dp) (ha : acc.length ≤ 1000)
    (hb : OB B v acc W0 w) (hc : DigB W0 g l) :
    Calls Tryz.prog 203 #[v, .bool false, .slice (some ⟨g, 0, none⟩) 32 32, .int .i64 dp, .int .i64 (l.length : Int), .int .i64 (l.length : Int), .int .u8 71, .bool true] w fun e w' => ∃ v', e = .returned v' ∧ OB B v' (acc ++ gE false l dp) W0 w' := by
  obtain ⟨d0, d1⟩ := hd
  have HB := Lib.hid hb
  have HA := Lib.hid ha
  have HC := Lib.hid hc
  clear hb hc ha
  obtain ⟨n, hn⟩ : ∃ n, l.length = n := ⟨_, rfl⟩
  rw [hn] at hl hl2 ⊢
  have HN := Lib.hid hn
  clear hn
  subst hl2
  go_enter Tryz.func203, Tryz.ntmps203
  go_wp2_with (first | (at_builtin; refine ob_byte rfl _ _ rfl rfl _ _ (u8z (by omega) (by omega)) HB.out rfl (by have h_1 := HA.out; have h_2 := HN.out; (try simp only [List.length_append, List.length_cons, List.length_nil, List.length_drop]); omega) ?_; intro v1 w1 hb1; clear HB; have HB := Lib.hid hb1; clear hb1) | (at_builtin; refine ob_two rfl _ _ rfl rfl _ _ _ _ (u8z (by omega) (by omega)) (u8z (by omega) (by omega)) HB.out rfl (by have h_1 := HA.out; have h_2 := HN.out; (try simp only [List.length_append, List.length_cons, List.length_nil, List.length_drop]); omega) ?_; intro v1 w1 hb1; clear HB; have HB := Lib.hid hb1; clear hb1) | (at_builtin; refine ob_three rfl _ _ rfl rfl _ _ _ _ _ _ (u8z (by omega) (by omega)) (u8z (by omega) (by omega)) (u8z (by omega) (by omega)) HB.out rfl (by have h_1 := HA.out; have h_2 := HN.out; (try simp only [List.length_append, List.length_cons, List.length_nil, List.length_drop]); omega) ?_; intro v1 w1 hb1; clear HB; have HB := Lib.hid hb1; clear hb1))
  all_goals go_ret
  all_goals
    refine ⟨_, rfl, ?_⟩
    have hfin := HB.out
    unfold gE sgL frL exL
    rw [HN.out, if_neg (show ¬ 1 < 0 by omega), if_pos (show 0 = 0 by omega)]
    rw [show l.getD 0 48 = 48 from by rw [List.length_eq_zero_iff.1 HN.out]; rfl]
    rw [if_neg (show ¬ (0 : Int) < 0 by omega)]
    unfold expoL chz
    first
      | (rw [if_pos (show (0 : Int) < 10 by omega)]; simpa using hfin)
      | (rw [if_neg (show ¬ (0 : Int) < 10 by omega), if_pos (show (0 : Int) < 100 by omega)]; simpa using hfin)
      | (rw [if_neg (show ¬ (0 : Int) < 10 by omega), if_neg (show ¬ (0 : Int) < 100 by omega)]; simpa using hfin)
set_option maxHeartbeats 4000000 in
theorem efgE0_tn (l : List UInt8) (dp : Int) (g B : Nat) (v : Value) (acc : List UInt8) (W0 w : World) (hl : l.length ≤ 20) (hl2 : l.length = 0) (hd : -420 ≤ dp ∧ dp ≤ 420) (hE : dp < -3) (ha : acc.length ≤ 1000)
    (hb : OB B v acc W0 w) (hc : DigB W0 g l) :
    Calls Tryz.prog 203 #[v, .bool true, .slice (some ⟨g, 0, none⟩) 32 32, .int .i64 dp, .int .i64 (l.length : Int), .int .i64 (l.length : Int), .int .u8 71, .bool true] w fun e w' => ∃ v', e = .returned v' ∧ OB B v' (acc ++ gE true l dp) W0 w' := by
  obtain ⟨d0, d1⟩ := hd
  have HB := Lib.hid hb
  have HA := Lib.hid ha
  have HC := Lib.hid hc
  clear hb hc ha
  obtain ⟨n, hn⟩ : ∃ n, l.length = n := ⟨_, rfl⟩
  rw [hn] at hl hl2 ⊢
  have HN := Lib.hid hn
  clear hn
  subst hl2
  obtain ⟨a, ha'⟩ : ∃ a, dp = 1 - a := ⟨1 - dp, by omega⟩
  subst ha'
  have a0 : 5 ≤ a := by omega
  have a1 : a ≤ 421 := by omega
  have hsub : (1 : Int) - a - 1 = -a := by omega
  clear d0 d1
  go_enter Tryz.func203, Tryz.ntmps203
  go_wp2_with (first | (at_builtin; refine ob_byte rfl _ _ rfl rfl _ _ (u8z (by omega) (by omega)) HB.out rfl (by have h_1 := HA.out; have h_2 := HN.out; (try simp only [List.length_append, List.length_cons, List.length_nil, List.length_drop]); omega) ?_; intro v1 w1 hb1; clear HB; have HB := Lib.hid hb1; clear hb1) | (at_builtin; refine ob_two rfl _ _ rfl rfl _ _ _ _ (u8z (by omega) (by omega)) (u8z (by omega) (by omega)) HB.out rfl (by have h_1 := HA.out; have h_2 := HN.out; (try simp only [List.length_append, List.length_cons, List.length_nil, List.length_drop]); omega) ?_; intro v1 w1 hb1; clear HB; have HB := Lib.hid hb1; clear hb1) | (at_builtin; refine ob_three rfl _ _ rfl rfl _ _ _ _ _ _ (u8z (by omega) (by omega)) (u8z (by omega) (by omega)) (u8z (by omega) (by omega)) HB.out rfl (by have h_1 := HA.out; have h_2 := HN.out; (try simp only [List.length_append, List.length_cons, List.length_nil, List.length_drop]); omega) ?_; intro v1 w1 hb1; clear HB; have HB := Lib.hid hb1; clear hb1))
  all_goals go_ret
  all_goals
    refine ⟨_, rfl, ?_⟩
    have hfin := HB.out
    unfold gE sgL frL exL
    rw [HN.out, if_neg (show ¬ 1 < 0 by omega), if_pos (show 0 = 0 by omega)]
    rw [show l.getD 0 48 = 48 from by rw [List.length_eq_zero_iff.1 HN.out]; rfl]
    rw [if_neg (show ¬ (0 : Int) < 0 by omega)]
    unfold expoL chz
    first
      | (rw [if_pos (show (0 : Int) < 10 by omega)]; simpa using hfin)
      | (rw [if_neg (show ¬ (0 : Int) < 10 by omega), if_pos (show (0 : Int) < 100 by omega)]; simpa using hfin)
      | (rw [if_neg (show ¬ (0 : Int) < 10 by omega), if_neg (show ¬ (0 : Int) < 100 by omega)]; simpa using hfin)
set_option maxHeartbeats 4000000 in
theorem efgE0_tp (l : List UInt8) (dp : Int) (g B : Nat) (v : Value) (acc : List UInt8) (W0 w : World) (hl : l.length ≤ 20) (hl2 : l.length = 0) (hd : -420 ≤ dp ∧ dp ≤ 420) (hE : 7 ≤ dp) (ha : acc.length ≤ 1000)
    (hb : OB B v acc W0 w) (hc : DigB W0 g l) :
    Calls Tryz.prog 203 #[v, .bool true, .slice (some ⟨g, 0, none⟩) 32 32, .int .i64 dp, .int .i64 (l.length : Int), .int .i64 (l.length : Int), .int .u8 71, .bool true] w fun e w' => ∃ v', e = .returned v' ∧ OB B v' (acc ++ gE true l dp) W0 w' := by
  obtain ⟨d0, d1⟩ := hd
  have HB := Lib.hid hb
  have HA := Lib.hid ha
  have HC := Lib.hid hc
  clear hb hc ha
  obtain ⟨n, hn⟩ : ∃ n, l.length = n := ⟨_, rfl⟩
  rw [hn] at hl hl2 ⊢
  have HN := Lib.hid hn
  clear hn
  subst hl2
  go_enter Tryz.func203, Tryz.ntmps203
  go_wp2_with (first | (at_builtin; refine ob_byte rfl _ _ rfl rfl _ _ (u8z (by omega) (by omega)) HB.out rfl (by have h_1 := HA.out; have h_2 := HN.out; (try simp only [List.length_append, List.length_cons, List.length_nil, List.length_drop]); omega) ?_; intro v1 w1 hb1; clear HB; have HB := Lib.hid hb1; clear hb1) | (at_builtin; refine ob_two rfl _ _ rfl rfl _ _ _ _ (u8z (by omega) (by omega)) (u8z (by omega) (by omega)) HB.out rfl (by have h_1 := HA.out; have h_2 := HN.out; (try simp only [List.length_append, List.length_cons, List.length_nil, List.length_drop]); omega) ?_; intro v1 w1 hb1; clear HB; have HB := Lib.hid hb1; clear hb1) | (at_builtin; refine ob_three rfl _ _ rfl rfl _ _ _ _ _ _ (u8z (by omega) (by omega)) (u8z (by omega) (by omega)) (u8z (by omega) (by omega)) HB.out rfl (by have h_1 := HA.out; have h_2 := HN.out; (try simp only [List.length_append, List.length_cons, List.length_nil, List.length_drop]); omega) ?_; intro v1 w1 hb1; clear HB; have HB := Lib.hid hb1; clear hb1))
  all_goals go_ret
  all_goals
    refine ⟨_, rfl, ?_⟩
    have hfin := HB.out
    unfold gE sgL frL exL
    rw [HN.out, if_neg (show ¬ 1 < 0 by omega), if_pos (show 0 = 0 by omega)]
    rw [show l.getD 0 48 = 48 from by rw [List.length_eq_zero_iff.1 HN.out]; rfl]
    rw [if_neg (show ¬ (0 : Int) < 0 by omega)]
    unfold expoL chz
    first
      | (rw [if_pos (show (0 : Int) < 10 by omega)]; simpa using hfin)
      | (rw [if_neg (show ¬ (0 : Int) < 10 by omega), if_pos (show (0 : Int) < 100 by omega)]; simpa using hfin)
      | (rw [if_neg (show ¬ (0 : Int) < 10 by omega), if_neg (show ¬ (0 : Int) < 100 by omega)]; simpa using hfin)
end Go.Proofs.YtpfkgpcnhdkkbaaGreatDoor
