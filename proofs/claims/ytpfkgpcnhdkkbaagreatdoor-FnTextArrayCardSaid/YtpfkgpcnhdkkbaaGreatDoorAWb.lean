/- FnTextArray: the law returns true for every value and every number, and leaves its input as it was; conditions: none beyond the row's own. -/
import Derived.Test.YtpfkgpcnhdkkbaaGreatDoorCards
import Derived.Test.YtpfkgpcnhdkkbaaGreatDoorTie
import Derived.Test.YtpfkgpcnhdkkbaaGreatDoorAWa
import Derived.Test.YtpfkgpcnhdkkbaaGreatDoorAGr
import Derived.Test.YtpfkgpcnhdkkbaaGreatDoorAMb
import Derived.Test.YtpfkgpcnhdkkbaaGreatDoorAGg
import Derived.WalkKit
import Derived.ProofKit
import Derived.OpenShut
import Derived.ChangeOld
import Derived.Below
import Derived.Deep.DeepHandedRow
import Derived.Lay
import Derived.MakeChecks
import Derived.LaidOnce
namespace Go.Proofs.YtpfkgpcnhdkkbaaGreatDoor.textArray
open Go.ChangeShapes Go.WideShapes Go.ChangeAt Go.RowKit
set_option linter.unusedVariables false
set_option maxRecDepth 100000 in
theorem contract (H : Type) (enc : TypeId × Value → H) (W : World) (base : Nat) (args : Array Value) (ds gs : List (DataW H)) (before : List MemPlace)
  (hval : ∀ (j : Nat) t v, Tryz.f6.params[j]? = some t → args[j]? = some v → Value.okWide Tryz.prog W .any base t v)
  (hW : DataW.Whole enc Tryz.prog Tryz.f6.params.toList Rows.fnTextArraySpec.vars false W args.toList ds gs before)
  (hsz : (DataW.weightsEach Tryz.prog (Tryz.f6.params.toList ++ (OpenSpec.ofChange Rows.fnTextArraySpec).bare.plain.varTypes Tryz.prog) (ds ++ gs)).all (· ≤ reachBytes) = true)
  (hL : laidMetH Tryz.prog Rows.fnTextArrayRow.laid W) :
  Calls Tryz.prog 6 args W fun e W' => ∃ v, e = .returned v ∧ Rows.fnTextArraySpec.post enc Tryz.prog Tryz.f6 false true false false W args v W' := by
 have hW' := hW
 obtain ⟨p, q, hA0, hV, rfl, hfz, hnd⟩ := hW
 have hA : DataW.TrodAll enc Tryz.prog W 0 (fun _ => true) true Tryz.f6.params.toList args.toList ds p := hA0
 rw [Tryz.params6] at hA hval hsz
 obtain ⟨v0, vs0, d0, ds0, p0, q0, hargs, rfl, rfl, h0, r0⟩ := trodAll_cons hA
 obtain ⟨v1, vs1, d1, ds1, p1, q1, rfl, rfl, rfl, h1, r1⟩ := trodAll_cons r0
 obtain ⟨rfl, rfl, rfl⟩ := trodAll_nil r1
 obtain rfl : args = #[v0, v1] := by cases args; simp_all
 obtain ⟨rfl, rfl⟩ := trodVars_none hV
 obtain ⟨zi, rfl, rfl, rfl, hzi⟩ := open_int Tryz.underlying36 (hval 1 36 v1 rfl rfl) h1
 have hzr := bounds_u16 hzi
 obtain ⟨z, rfl, hz⟩ : ∃ z : Nat, zi = (z : Int) ∧ z < 65536 := ⟨zi.toNat, by omega, by omega⟩
 have k0 := h0
 have lt0 : ∀ x ∈ p0, x.block < W.heap.size := by
  obtain ⟨m, hm⟩ := k0
  exact DataW.trod_lt m _ _ _ hm
 have hw0 : Wt 26 d0 := by
  intro x hx
  have h2 := List.all_eq_true.1 hsz x (by
   show x ∈ DataW.weightsEach Tryz.prog (26 :: _) (d0 :: _)
   unfold DataW.weightsEach
   exact List.mem_append_left _ hx)
  exact of_decide_eq_true h2
 obtain ⟨fuel, hf⟩ := h0
 obtain ⟨t, hv⟩ := reads_val fuel _ _ hf hw0
 obtain ⟨kk, tx, mr, n, b, h, A1, A2, n1, c1, n2, c2, hcs⟩ := hv.form
 have hv0 : v0 = .agg #[.int .i64 kk, .string tx, .string mr, .int .i64 n, .int .u64 (b : Int), .int .u64 (h : Int), .slice A1 n1 c1, .slice A2 n2 c2] := by
  cases v0 <;> simp [Value.cells] at hcs
  rename_i cs
  cases cs
  simp at hcs
  rw [hcs]
 rw [hcs] at hv
 obtain ⟨hT, h17⟩ := tabs_textArray (plainLaid W hL)
 have hc := law_array W fuel t kk tx mr n b h A1 A2 n1 c1 n2 c2 z hz hv hT h17
 rw [← hv0] at hc
 clear hA0 hf hsz
 refine hc.mono fun e W' ⟨he, bel⟩ => ?_
 subst he
 exact ⟨_, rfl, _, _, _, [], _, [], hW', trodAll_mk1 (shut_bool Tryz.underlying4 _), trodAll_cons_mk (Below.trod laidOut (by kernel_rfl) (of_decide_eq_true (by kernel_rfl)) k0 bel lt0) (trodAll_cons_mk (shut_int Tryz.underlying36 hzi) trodAll_mk0), rfl, bel.frame _, fun h => by cases h⟩
set_option maxRecDepth 100000 in
theorem lifted (os : Os) (started : os.Started) (H : Type) (enc : TypeId × Value → H) (F : Stop.Interp) :
  ReturnsInHanded {} Tryz.checked os 6 .any ((OpenSpec.ofChange Rows.fnTextArraySpec).preRow enc Tryz.prog Tryz.f6 Rows.fnTextArrayRow.domain false Rows.fnTextArrayRow.laid) (((OpenSpec.ofChange Rows.fnTextArraySpec).at F).post enc Tryz.prog Tryz.f6 false true false false) := by
 refine returnsInHanded_of_row (C := Tryz.checked) (s := OpenSpec.ofChange Rows.fnTextArraySpec) own started (by kernel_rfl) Tryz.func6 (witness os H enc) ?_
 intro W base args ds gs before hval hW _ _ hsz hL _ _
 exact contract H enc W base args ds gs before hval hW hsz hL
theorem said : Rows.FnTextArraySaid :=
 OpenClaim.holds_of_cond 6 Tryz.f6 rfl rfl rfl rfl rfl rfl rfl ⟨rfl, rfl, rfl, rfl, rfl⟩ rfl rfl rfl rfl rfl hfnF Tryz.func6 closedF instF wrapF
  (fun os started H enc _ F => by rw [OpenClaim.pre_eq_preRow]; exact lifted os started H enc F)
theorem card : Rows.FnTextArrayCardSaid :=
 Claim7.holds_tied_plain_at .later [] _ _ _ _ said (fun _ h => by cases h) (by kernel_rfl) (fun _ h => by cases h) fnTextArray_row_tie rfl ⟨rfl, rfl⟩ (by kernel_rfl) rfl plain (by kernel_rfl)
end Go.Proofs.YtpfkgpcnhdkkbaaGreatDoor.textArray
namespace Go.Proofs.YtpfkgpcnhdkkbaaGreatDoor
theorem fnTextArray_card : Rows.FnTextArrayCardSaid := textArray.card
#print axioms fnTextArray_card
end Go.Proofs.YtpfkgpcnhdkkbaaGreatDoor
