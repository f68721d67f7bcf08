/- The row of the law FnBindFloat64, out of its walk. Conditions: none beyond the statement's. -/
import Derived.Test.YthlpmeiihchdjaaRows
import Derived.Test.YthlpmeiihchdjaaOP
import Derived.Test.YthlpmeiihchdjaaBf
import Derived.WalkKit
import Derived.ProofKit
import Derived.OpenShut
import Derived.ShutString
import Derived.ChangeOld
import Derived.Below
import Derived.SizedLaws
namespace Go.Proofs.Ythlpmeiihchdjaa.fnBindFloat64
open Go.ChangeShapes Go.WideShapes Go.ChangeAt Go.RowKit
open Go.ChangeMaps (open_string shut_string)
set_option linter.unusedVariables false
open Go.Proofs.Ythlpmeiihchdjaa.PFlu Go.Proofs.Ythlpmeiihchdjaa.PFlu.VT
open Go.Proofs.YthlpmeiihchdjaaW.PrintWords
theorem own : ownKnob Try.prog.godebug = none := by kernel_rfl
theorem laidOut : laidOutB Try.prog = true := by kernel_rfl
set_option maxHeartbeats 1000000 in
set_option maxRecDepth 100000 in
theorem lifted (os : Os) (started : os.Started) (H : Type) (enc : TypeId × Value → H) :
    ReturnsInHanded {} Try.checked os 8 .any (Rows.fnBindFloat64Spec.pre6 enc Try.prog Try.f8 Rows.fnBindFloat64Row.domain false) (Rows.fnBindFloat64Spec.post enc Try.prog Try.f8 false true false false) := by
  refine returnsInHanded_of_change_sized (C := Try.checked) own started (by kernel_rfl) Try.func8
    (ChangeSpec.witness6 (enc := enc) (C := Try.checked) false ⟨#[], #[.agg #[.int .i64 0, .string ByteArray.empty, .string ByteArray.empty, .int .i64 0, .int .u64 0, .int .u64 0, .slice none 0 0, .slice none 0 0]], []⟩ 8 (by kernel_rfl) (by kernel_rfl) (by kernel_rfl) (by kernel_rfl)) ?_
  intro W base args ds gs before hval0 hW hcnd hsz0 _
  have hsz : (DataW.weightsEach Try.prog (Try.f8.params.toList ++ Rows.fnBindFloat64Spec.plain.varTypes Try.prog) (ds ++ gs)).all (· ≤ reachBytes) = true := hsz0
  have hval : ∀ (j : Nat) t v, Try.f8.params[j]? = some t → args[j]? = some v → Value.okWide Try.prog W .any base t v := hval0
  have hW' := hW
  obtain ⟨p, q, hA0, hV, rfl, hfz, hnd⟩ := hW
  have hA : DataW.TrodAll enc Try.prog W 0 (fun _ => true) true Try.f8.params.toList args.toList ds p := hA0
  rw [Try.params8] at hA hval hsz
  obtain ⟨v0, vs0, d0, ds0, p0, q0, hargs, rfl, rfl, h0, r0⟩ := trodAll_cons hA
  obtain ⟨rfl, rfl, rfl⟩ := trodAll_nil r0
  obtain rfl : args = #[v0] := by cases args; simp_all
  obtain ⟨rfl, rfl⟩ := trodVars_none hV
  have k0 := h0
  have lt0 : ∀ x ∈ p0, x.block < W.heap.size := by obtain ⟨m, hm⟩ := k0; exact DataW.trod_lt m _ _ _ hm
  obtain ⟨x0, hK0, hF0⟩ := OP.open_arg (fun f' => openV f') h0 hsz (j := 0) (t := 37) rfl rfl
  obtain ⟨cs0, rfl, hcs0⟩ := okWide_struct Try.underlying37 (hval 0 37 v0 rfl rfl)
  obtain ⟨A6, c6, A7, c7, he0, l6, g6, l7, g7⟩ := k37_open hK0
  obtain rfl : cs0 = #[.int .i64 x0.f0, .string x0.f1, .string x0.f2, .int .i64 x0.f3, .int .u64 x0.f4, .int .u64 x0.f5, .slice A6 x0.f6.length c6, .slice A7 x0.f7.length c7] := by apply Array.ext'; exact he0
  obtain ⟨k, hk⟩ := holds x0 hF0
  refine (laws_FnBindFloat64.calls k x0.f0 x0.f1 x0.f2 x0.f3 x0.f4 x0.f5 A6 c6 x0.f6 A7 c7 x0.f7 true W g6 l6 g7 l7 hk).mono fun e W' ⟨he, bel⟩ => ?_
  subst he
  exact ⟨_, rfl, _, _, _, [], _, [], hW', trodAll_mk1 (shut_bool Try.underlying4 _), (trodAll_cons_mk (Below.trod laidOut (by kernel_rfl) (of_decide_eq_true (by kernel_rfl)) k0 bel lt0) trodAll_mk0), rfl, bel.frame _, fun h => by cases h⟩
theorem over : Rows.fnBindFloat64Row.holds Try.pinned (OpenSpec.ofChange Rows.fnBindFloat64Spec) :=
  OpenClaim.holds_of_wide 8 Try.f8 rfl rfl rfl rfl rfl rfl rfl ⟨rfl, rfl, rfl, rfl, rfl⟩ rfl rfl rfl rfl rfl (by kernel_rfl) Try.func8 (by kernel_rfl)
    (of_decide_eq_true (by kernel_rfl)) (by unfold Func.isWrapper; first | (rw [if_pos (by decide +kernel)]; kernel_rfl) | (rw [if_neg (by decide +kernel)]; exact ⟨rfl, rfl⟩))
    (fun os started H enc _ => lifted os started H enc)
theorem proved : Rows.FnBindFloat64Said := over
#print axioms proved
end Go.Proofs.Ythlpmeiihchdjaa.fnBindFloat64
namespace Go.Proofs.Ythlpmeiihchdjaa
/-- The row, under a short name, for the claim. -/
theorem fnBindFloat64_holds : Rows.FnBindFloat64Said := fnBindFloat64.proved
end Go.Proofs.Ythlpmeiihchdjaa
