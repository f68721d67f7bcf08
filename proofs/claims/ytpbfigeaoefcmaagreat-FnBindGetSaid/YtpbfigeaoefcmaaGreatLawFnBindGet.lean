/- The row of the law FnBindGet, out of its walk. Conditions: none beyond the statement's. -/
import Derived.Test.YtpbfigeaoefcmaaGreatRows
import Derived.Test.YtpbfigeaoefcmaaGreatOP
import Derived.Test.YtpbfigeaoefcmaaGreatGt5
import Derived.WalkKit
import Derived.ProofKit
import Derived.OpenShut
import Derived.ShutString
import Derived.ChangeOld
import Derived.Below
import Derived.SizedLaws
namespace Go.Proofs.YtpbfigeaoefcmaaGreat.fnBindGet
open Go.ChangeShapes Go.WideShapes Go.ChangeAt Go.RowKit
open Go.ChangeMaps (open_string shut_string)
set_option linter.unusedVariables false
open Go.Proofs.YtpbfigeaoefcmaaGreat.PBg Go.Proofs.YtpbfigeaoefcmaaGreat.PBg.VT
open Go.Proofs.YtpbfigeaoefcmaaGreatW.PrintWords
theorem own : ownKnob Tryz.prog.godebug = none := by kernel_rfl
theorem laidOut : laidOutB Tryz.prog = true := by kernel_rfl
set_option maxHeartbeats 1000000 in
set_option maxRecDepth 100000 in
theorem lifted (os : Os) (started : os.Started) (H : Type) (enc : TypeId × Value → H) :
    ReturnsInHanded {} Tryz.checked os 3 .any (Rows.fnBindGetSpec.pre6 enc Tryz.prog Tryz.f3 Rows.fnBindGetRow.domain false) (Rows.fnBindGetSpec.post enc Tryz.prog Tryz.f3 false true false false) := by
  refine returnsInHanded_of_change_sized (C := Tryz.checked) own started (by kernel_rfl) Tryz.func3
    (ChangeSpec.witness6 (enc := enc) (C := Tryz.checked) false ⟨#[], #[.agg #[.int .i64 0, .string ByteArray.empty, .string ByteArray.empty, .int .i64 0, .int .u64 0, .int .u64 0, .slice none 0 0, .slice none 0 0], .int .i64 0], []⟩ 8 (by kernel_rfl) (by kernel_rfl) (by kernel_rfl) (by kernel_rfl)) ?_
  intro W base args ds gs before hval0 hW hcnd hsz0 _
  have hsz : (DataW.weightsEach Tryz.prog (Tryz.f3.params.toList ++ Rows.fnBindGetSpec.plain.varTypes Tryz.prog) (ds ++ gs)).all (· ≤ reachBytes) = true := hsz0
  have hval : ∀ (j : Nat) t v, Tryz.f3.params[j]? = some t → args[j]? = some v → Value.okWide Tryz.prog W .any base t v := hval0
  have hW' := hW
  obtain ⟨p, q, hA0, hV, rfl, hfz, hnd⟩ := hW
  have hA : DataW.TrodAll enc Tryz.prog W 0 (fun _ => true) true Tryz.f3.params.toList args.toList ds p := hA0
  rw [Tryz.params3] at hA hval hsz
  obtain ⟨v0, vs0, d0, ds0, p0, q0, hargs, rfl, rfl, h0, r0⟩ := trodAll_cons hA
  obtain ⟨v1, vs1, d1, ds1, p1, q1, rfl, rfl, rfl, h1, r1⟩ := trodAll_cons r0
  obtain ⟨rfl, rfl, rfl⟩ := trodAll_nil r1
  obtain rfl : args = #[v0, v1] := by cases args; simp_all
  obtain ⟨rfl, rfl⟩ := trodVars_none hV
  have k0 := h0
  have lt0 : ∀ x ∈ p0, x.block < W.heap.size := by obtain ⟨m, hm⟩ := k0; exact DataW.trod_lt m _ _ _ hm
  obtain ⟨x0, hK0, hF0⟩ := OP.open_arg (fun f' => openV f') h0 hsz (j := 0) (t := 26) rfl rfl
  obtain ⟨cs0, rfl, hcs0⟩ := okWide_struct Tryz.underlying26 (hval 0 26 v0 rfl rfl)
  obtain ⟨A6, c6, A7, c7, he0, l6, g6, l7, g7⟩ := k26_open hK0
  obtain rfl : cs0 = #[.int .i64 x0.f0, .string x0.f1, .string x0.f2, .int .i64 x0.f3, .int .u64 x0.f4, .int .u64 x0.f5, .slice A6 x0.f6.length c6, .slice A7 x0.f7.length c7] := by apply Array.ext'; exact he0
  obtain ⟨a1, rfl, rfl, rfl, w1⟩ := open_int Tryz.underlying3 (hval 1 3 v1 rfl rfl) h1
  obtain ⟨k, hk⟩ := holds x0 hF0 a1
  refine (laws_FnBindGet.calls k x0.f0 x0.f1 x0.f2 x0.f3 x0.f4 x0.f5 A6 c6 x0.f6 A7 c7 x0.f7 a1 true W g6 l6 g7 l7 hk).mono fun e W' ⟨he, bel⟩ => ?_
  subst he
  exact ⟨_, rfl, _, _, _, [], _, [], hW', trodAll_mk1 (shut_bool Tryz.underlying4 _), (trodAll_cons_mk (Below.trod laidOut (by kernel_rfl) (of_decide_eq_true (by kernel_rfl)) k0 bel lt0) (trodAll_cons_mk (shut_int Tryz.underlying3 w1) trodAll_mk0)), rfl, bel.frame _, fun h => by cases h⟩
theorem over : Rows.fnBindGetRow.holds Tryz.pinned (OpenSpec.ofChange Rows.fnBindGetSpec) :=
  OpenClaim.holds_of_wide 3 Tryz.f3 rfl rfl rfl rfl rfl rfl rfl ⟨rfl, rfl, rfl, rfl, rfl⟩ rfl rfl rfl rfl rfl (by kernel_rfl) Tryz.func3 (by kernel_rfl)
    (of_decide_eq_true (by kernel_rfl)) (by unfold Func.isWrapper; first | (rw [if_pos (by decide +kernel)]; kernel_rfl) | (rw [if_neg (by decide +kernel)]; exact ⟨rfl, rfl⟩))
    (fun os started H enc _ => lifted os started H enc)
theorem proved : Rows.FnBindGetSaid := over
#print axioms proved
end Go.Proofs.YtpbfigeaoefcmaaGreat.fnBindGet
namespace Go.Proofs.YtpbfigeaoefcmaaGreat
/-- The row, under a short name, for the claim. -/
theorem fnBindGet_holds : Rows.FnBindGetSaid := fnBindGet.proved
end Go.Proofs.YtpbfigeaoefcmaaGreat
