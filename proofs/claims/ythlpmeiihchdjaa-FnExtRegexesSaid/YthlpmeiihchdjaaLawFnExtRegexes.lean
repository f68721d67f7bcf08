/- The row of the law FnExtRegexes, out of its walk. Conditions: none beyond the statement's. -/
import Derived.Test.YthlpmeiihchdjaaRows
import Derived.Test.YthlpmeiihchdjaaOP
import Derived.Test.YthlpmeiihchdjaaRxl
import Derived.WalkKit
import Derived.ProofKit
import Derived.OpenShut
import Derived.ShutString
import Derived.ChangeOld
import Derived.Below
import Derived.SizedLaws
namespace Go.Proofs.Ythlpmeiihchdjaa.fnExtRegexes
open Go.ChangeShapes Go.WideShapes Go.ChangeAt Go.RowKit
open Go.ChangeMaps (open_string shut_string)
set_option linter.unusedVariables false
open Go.Proofs.YthlpmeiihchdjaaW.PrintWords
theorem own : ownKnob Try.prog.godebug = none := by kernel_rfl
theorem laidOut : laidOutB Try.prog = true := by kernel_rfl
set_option maxHeartbeats 1000000 in
set_option maxRecDepth 100000 in
theorem lifted (os : Os) (started : os.Started) (H : Type) (enc : TypeId × Value → H) :
    ReturnsInHanded {} Try.checked os 6 .any (Rows.fnExtRegexesSpec.pre6 enc Try.prog Try.f6 Rows.fnExtRegexesRow.domain false) (Rows.fnExtRegexesSpec.post enc Try.prog Try.f6 false true false false) := by
  refine returnsInHanded_of_change_sized (C := Try.checked) own started (by kernel_rfl) Try.func6
    (ChangeSpec.witness6 (enc := enc) (C := Try.checked) false ⟨#[], #[.slice none 0 0, .slice none 0 0], []⟩ 8 (by kernel_rfl) (by kernel_rfl) (by kernel_rfl) (by kernel_rfl)) ?_
  intro W base args ds gs before hval0 hW hcnd hsz0 _
  have hsz : (DataW.weightsEach Try.prog (Try.f6.params.toList ++ Rows.fnExtRegexesSpec.plain.varTypes Try.prog) (ds ++ gs)).all (· ≤ reachBytes) = true := hsz0
  have hval : ∀ (j : Nat) t v, Try.f6.params[j]? = some t → args[j]? = some v → Value.okWide Try.prog W .any base t v := hval0
  have hW' := hW
  obtain ⟨p, q, hA0, hV, rfl, hfz, hnd⟩ := hW
  have hA : DataW.TrodAll enc Try.prog W 0 (fun _ => true) true Try.f6.params.toList args.toList ds p := hA0
  rw [Try.params6] at hA hval hsz
  obtain ⟨v0, vs0, d0, ds0, p0, q0, hargs, rfl, rfl, h0, r0⟩ := trodAll_cons hA
  obtain ⟨v1, vs1, d1, ds1, p1, q1, rfl, rfl, rfl, h1, r1⟩ := trodAll_cons r0
  obtain ⟨rfl, rfl, rfl⟩ := trodAll_nil r1
  obtain rfl : args = #[v0, v1] := by cases args; simp_all
  obtain ⟨rfl, rfl⟩ := trodVars_none hV
  have k0 := h0
  have lt0 : ∀ x ∈ p0, x.block < W.heap.size := by obtain ⟨m, hm⟩ := k0; exact DataW.trod_lt m _ _ _ hm
  obtain ⟨x0, hK0, hF0⟩ := OP.open_arg (fun f' => OP.opens_slice (B := 16) Kd.string 9 (fun s => s.size ≤ 140737488351232) Try.underlying31 (by kernel_rfl) (by kernel_rfl) (fun f _ => OP.opens_string Try.underlying9 f)) h0 hsz (j := 0) (t := 31) rfl rfl
  obtain ⟨a0, len0, cap0, rfl⟩ := okWide_slice Try.underlying31 (hval 0 31 v0 rfl rfl)
  obtain ⟨A0, c0, he0, hl0, hC0⟩ := hK0
  simp only [Value.cells, List.cons.injEq, and_true, Value.slice.injEq] at he0
  obtain ⟨rfl, rfl, rfl⟩ := he0
  have k1 := h1
  have lt1 : ∀ x ∈ p1, x.block < W.heap.size := by obtain ⟨m, hm⟩ := k1; exact DataW.trod_lt m _ _ _ hm
  obtain ⟨x1, hK1, hF1⟩ := OP.open_arg (fun f' => OP.opens_slice (B := 16) Kd.string 9 (fun s => s.size ≤ 140737488351232) Try.underlying31 (by kernel_rfl) (by kernel_rfl) (fun f _ => OP.opens_string Try.underlying9 f)) h1 hsz (j := 1) (t := 31) rfl rfl
  obtain ⟨a1, len1, cap1, rfl⟩ := okWide_slice Try.underlying31 (hval 1 31 v1 rfl rfl)
  obtain ⟨A1, c1, he1, hl1, hC1⟩ := hK1
  simp only [Value.cells, List.cons.injEq, and_true, Value.slice.injEq] at he1
  obtain ⟨rfl, rfl, rfl⟩ := he1
  refine (Rxl.law a0 cap0 x0 a1 cap1 x1 W hC0 hl0 hC1 hl1 (by have := hF0.1; omega) (by have := hF1.1; omega) hF1.2.2).mono fun e W' ⟨he, bel⟩ => ?_
  subst he
  exact ⟨_, rfl, _, _, _, [], _, [], hW', trodAll_mk1 (shut_bool Try.underlying4 _), (trodAll_cons_mk (Below.trod laidOut (by kernel_rfl) (of_decide_eq_true (by kernel_rfl)) k0 bel lt0) (trodAll_cons_mk (Below.trod laidOut (by kernel_rfl) (of_decide_eq_true (by kernel_rfl)) k1 bel lt1) trodAll_mk0)), rfl, bel.frame _, fun h => by cases h⟩
theorem over : Rows.fnExtRegexesRow.holds Try.pinned (OpenSpec.ofChange Rows.fnExtRegexesSpec) :=
  OpenClaim.holds_of_wide 6 Try.f6 rfl rfl rfl rfl rfl rfl rfl ⟨rfl, rfl, rfl, rfl, rfl⟩ rfl rfl rfl rfl rfl (by kernel_rfl) Try.func6 (by kernel_rfl)
    (of_decide_eq_true (by kernel_rfl)) (by unfold Func.isWrapper; first | (rw [if_pos (by decide +kernel)]; kernel_rfl) | (rw [if_neg (by decide +kernel)]; exact ⟨rfl, rfl⟩))
    (fun os started H enc _ => lifted os started H enc)
theorem proved : Rows.FnExtRegexesSaid := over
#print axioms proved
end Go.Proofs.Ythlpmeiihchdjaa.fnExtRegexes
namespace Go.Proofs.Ythlpmeiihchdjaa
/-- The row, under a short name, for the claim. -/
theorem fnExtRegexes_holds : Rows.FnExtRegexesSaid := fnExtRegexes.proved
end Go.Proofs.Ythlpmeiihchdjaa
