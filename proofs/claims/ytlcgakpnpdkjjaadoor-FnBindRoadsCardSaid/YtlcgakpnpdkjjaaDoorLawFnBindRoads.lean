/- The row of the law FnBindRoads, out of its walk. Conditions: none beyond the statement's. -/
import Derived.Test.YtlcgakpnpdkjjaaDoorRows
import Derived.Test.YtlcgakpnpdkjjaaDoorOP
import Derived.Test.YtlcgakpnpdkjjaaDoorRor
import Derived.Test.YtlcgakpnpdkjjaaDoorTie
import Derived.Test.YtlcgakpnpdkjjaaDoorCards
import Derived.SevenTiedAt
import Derived.Handed
import Derived.LaidLaws
import Derived.LaidHandle
import Derived.WalkKit
import Derived.ProofKit
import Derived.OpenShut
import Derived.ShutString
import Derived.ChangeOld
import Derived.Below
import Derived.SizedLaws
namespace Go.Proofs.YtlcgakpnpdkjjaaDoor.fnBindRoads
open Go.ChangeShapes Go.WideShapes Go.ChangeAt Go.RowKit
open Go.ChangeMaps (open_string shut_string)
set_option linter.unusedVariables false
open Go.Proofs.YtlcgakpnpdkjjaaDoor.PRd Go.Proofs.YtlcgakpnpdkjjaaDoor.PRd.VT
open Go.Proofs.YtlcgakpnpdkjjaaDoorW.PrintWords
theorem own : ownKnob Tryd.prog.godebug = none := by kernel_rfl
theorem laidOut : laidOutB Tryd.prog = true := by kernel_rfl
set_option maxHeartbeats 1000000 in
/-- A world that meets the premise. -/
noncomputable def low : Nat := (World.holding Tryd.prog default ⟨#[], #[], []⟩).heap.size
noncomputable def laidWorld (os : Os) : World :=
  let w0 := World.holding Tryd.prog os ⟨#[.cells #[.string ⟨#[69, 79, 70]⟩] 170, .cells #[.string ⟨#[101, 109, 112, 116, 121, 32, 107, 101, 121, 32, 112, 114, 111, 118, 105, 100, 101, 100]⟩] 170, .cells #[.string ⟨#[101, 108, 101, 109, 101, 110, 116, 32, 110, 111, 116, 32, 102, 111, 117, 110, 100]⟩] 170, .cells #[.string ⟨#[111, 117, 116, 32, 111, 102, 32, 98, 111, 117, 110, 100, 115]⟩] 170], #[], []⟩
  { w0 with heap := ((((w0.heap.modify 3 fun
      | .cells _ t frozen => .cells #[.iface 142 (.pointer (some ⟨low, 0, none⟩))] t frozen
      | o => o).modify 2 fun
      | .cells _ t frozen => .cells #[.iface 142 (.pointer (some ⟨low + 1, 0, none⟩))] t frozen
      | o => o).modify 1 fun
      | .cells _ t frozen => .cells #[.iface 142 (.pointer (some ⟨low + 2, 0, none⟩))] t frozen
      | o => o).modify 0 fun
      | .cells _ t frozen => .cells #[.iface 142 (.pointer (some ⟨low + 3, 0, none⟩))] t frozen
      | o => o) }
theorem laid_met (os : Os) (args : Array Value) : laidMetH Tryd.prog Rows.fnBindRoadsRow.laid ((laidWorld os).forCall (fun _ _ => 0) ⟨#[], args, []⟩).memory :=
  (show laidMet Tryd.prog Rows.fnBindRoadsRow.laid _ from laidMet_of_run (ps := [.cell 3 0, .cell low 0, .cell 2 0, .cell (low + 1) 0, .cell 1 0, .cell (low + 2) 0, .cell 0 0, .cell (low + 3) 0]) 8 (by kernel_rfl) (by kernel_rfl) (by kernel_rfl))
set_option maxHeartbeats 4000000 in
set_option maxRecDepth 100000 in
theorem lifted (os : Os) (started : os.Started) (H : Type) (enc : TypeId × Value → H) :
    ReturnsInHanded {} Tryd.checked os 4 .any (fun w args => (Rows.fnBindRoadsSpec.pre enc Tryd.prog Tryd.f4 Rows.fnBindRoadsRow.domain false w args ∧ laidMetH Tryd.prog Rows.fnBindRoadsRow.laid w) ∧ sizedMet enc Tryd.prog Tryd.f4 (OpenSpec.ofChange Rows.fnBindRoadsSpec) false w args) (Rows.fnBindRoadsSpec.post enc Tryd.prog Tryd.f4 false true false false) := by
  refine returnsInHanded_of_change_and (C := Tryd.checked) (X := fun w _ => laidMetH Tryd.prog Rows.fnBindRoadsRow.laid w) (fun _ _ _ hh h => h.of_heap hh) own started (by kernel_rfl) Tryd.func4
    (ChangeSpec.witness_at (enc := enc) (C := Tryd.checked) (os := os) (X := fun w _ => laidMetH Tryd.prog Rows.fnBindRoadsRow.laid w) false (laidWorld os) #[.agg #[.int .i64 0, .string ByteArray.empty, .string ByteArray.empty, .int .i64 0, .int .u64 0, .int .u64 0, .slice none 0 0, .slice none 0 0]] 8 rfl (by kernel_rfl) (by kernel_rfl) (by kernel_rfl) (by kernel_rfl) (by kernel_rfl) (laid_met os _)) ?_
  intro W base args ds gs before hval0 hW hcnd hsz0 hL _
  have hsz : (DataW.weightsEach Tryd.prog (Tryd.f4.params.toList ++ Rows.fnBindRoadsSpec.plain.varTypes Tryd.prog) (ds ++ gs)).all (· ≤ reachBytes) = true := hsz0
  have hval : ∀ (j : Nat) t v, Tryd.f4.params[j]? = some t → args[j]? = some v → Value.okWide Tryd.prog W .any base t v := hval0
  have hW' := hW
  obtain ⟨p, q, hA0, hV, rfl, hfz, hnd⟩ := hW
  have hA : DataW.TrodAll enc Tryd.prog W 0 (fun _ => true) true Tryd.f4.params.toList args.toList ds p := hA0
  rw [Tryd.params4] at hA hval hsz
  obtain ⟨v0, vs0, d0, ds0, p0, q0, hargs, rfl, rfl, h0, r0⟩ := trodAll_cons hA
  obtain ⟨rfl, rfl, rfl⟩ := trodAll_nil r0
  obtain rfl : args = #[v0] := by cases args; simp_all
  obtain ⟨rfl, rfl⟩ := trodVars_none hV
  have k0 := h0
  have lt0 : ∀ x ∈ p0, x.block < W.heap.size := by obtain ⟨m, hm⟩ := k0; exact DataW.trod_lt m _ _ _ hm
  obtain ⟨x0, hK0, hF0⟩ := OP.open_arg (fun f' => openV f') h0 hsz (j := 0) (t := 26) rfl rfl
  obtain ⟨cs0, rfl, hcs0⟩ := okWide_struct Tryd.underlying26 (hval 0 26 v0 rfl rfl)
  obtain ⟨A6, c6, A7, c7, he0, l6, g6, l7, g7⟩ := k26_open hK0
  obtain rfl : cs0 = #[.int .i64 x0.f0, .string x0.f1, .string x0.f2, .int .i64 x0.f3, .int .u64 x0.f4, .int .u64 x0.f5, .slice A6 x0.f6.length c6, .slice A7 x0.f7.length c7] := by apply Array.ext'; exact he0
  obtain ⟨k, hk⟩ := holds x0 hF0
  refine (laws_FnBindRoads.calls k x0.f0 x0.f1 x0.f2 x0.f3 x0.f4 x0.f5 A6 c6 x0.f6 A7 c7 x0.f7 true W g6 l6 g7 l7 hk).mono fun e W' ⟨he, bel⟩ => ?_
  subst he
  exact ⟨_, rfl, _, _, _, [], _, [], hW', trodAll_mk1 (shut_bool Tryd.underlying4 _), (trodAll_cons_mk (Below.trod laidOut (by kernel_rfl) (of_decide_eq_true (by kernel_rfl)) k0 bel lt0) trodAll_mk0), rfl, bel.frame _, fun h => by cases h⟩
theorem over : Rows.fnBindRoadsRow.holds Tryd.pinned (OpenSpec.ofChange Rows.fnBindRoadsSpec) :=
  OpenClaim.holds_of_wide 4 Tryd.f4 rfl rfl rfl rfl rfl rfl rfl ⟨rfl, rfl, rfl, rfl, rfl⟩ rfl rfl rfl rfl rfl (by kernel_rfl) Tryd.func4 (by kernel_rfl)
    (of_decide_eq_true (by kernel_rfl)) (by unfold Func.isWrapper; first | (rw [if_pos (by decide +kernel)]; kernel_rfl) | (rw [if_neg (by decide +kernel)]; exact ⟨rfl, rfl⟩))
    (fun os started H enc _ => lifted os started H enc)
theorem proved : Rows.FnBindRoadsSaid := over
#print axioms proved
/-- THE CARD. -/
theorem card : Rows.FnBindRoadsCardSaid :=
  Claim7.holds_tied_plain_at .later [] [.sentinel, .sentinel, .sentinel, .sentinel] true (true, "e085f577fc8553d2b7c1aa885713225a968cf31894eb7f62eec935f32cf3c92b") true
    proved (fun _ h => by cases h) (by kernel_rfl) (fun _ h => by cases h) fnBindRoads_row_tie rfl ⟨rfl, rfl⟩ (by kernel_rfl) rfl
    (fun f fn hf hfn => by
      obtain rfl : f = 4 := Option.some.inj ((show Tryd.prog.funcNamed "pub-gunnysack/laws.FnBindRoads" = some 4 by kernel_rfl).symm.trans hf) |>.symm
      obtain rfl : fn = Tryd.f4 := (Option.some.inj (Tryd.func4.symm.trans hfn)).symm
      exact ⟨by kernel_rfl, fun j t ht => by
        rw [Tryd.params4] at ht
        have h3 : t = 26 := by
          rcases j with _ | j
          · have ht' : t = 26 := by simpa using ht.symm
            subst ht'
            decide
          · simp at ht
        rcases h3 with rfl
        · exact (show Tryd.prog.wantsStandIn 26 = false by kernel_rfl)⟩)
    (by kernel_rfl)
#print axioms card
end Go.Proofs.YtlcgakpnpdkjjaaDoor.fnBindRoads
namespace Go.Proofs.YtlcgakpnpdkjjaaDoor
/-- The row, under a short name, for the claim. -/
theorem fnBindRoads_holds : Rows.FnBindRoadsSaid := fnBindRoads.proved
theorem fnBindRoads_card : Rows.FnBindRoadsCardSaid := fnBindRoads.card
end Go.Proofs.YtlcgakpnpdkjjaaDoor
