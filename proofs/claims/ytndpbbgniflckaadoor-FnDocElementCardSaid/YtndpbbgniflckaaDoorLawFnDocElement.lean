/- The row of the law FnDocElement, out of its walk. Conditions: none beyond the statement's. -/
import Derived.Test.YtndpbbgniflckaaDoorRows
import Derived.Test.YtndpbbgniflckaaDoorOP
import Derived.Test.YtndpbbgniflckaaDoorDe
import Derived.Test.YtndpbbgniflckaaDoorTie
import Derived.Test.YtndpbbgniflckaaDoorCards
import Derived.SevenTiedAt
import Derived.Handed
import Derived.LaidLaws
import Derived.LaidHandle
import Derived.WalkKit
import Derived.ProofKit
import Derived.OpenShut
import Derived.ShutString
import Derived.ChangeOld
import Derived.Below
import Derived.SizedLaws
namespace Go.Proofs.YtndpbbgniflckaaDoor.fnDocElement
open Go.ChangeShapes Go.WideShapes Go.ChangeAt Go.RowKit
open Go.ChangeMaps (open_string shut_string)
set_option linter.unusedVariables false
open Go.Proofs.YtndpbbgniflckaaDoor.PEl Go.Proofs.YtndpbbgniflckaaDoor.PEl.VT
open Go.Proofs.YtndpbbgniflckaaDoorW.PrintWords
theorem own : ownKnob Tryd.prog.godebug = none := by kernel_rfl
theorem laidOut : laidOutB Tryd.prog = true := by kernel_rfl
set_option maxHeartbeats 1000000 in
/-- A world that meets the premise. -/
noncomputable def low : Nat := (World.holding Tryd.prog default ⟨#[], #[], []⟩).heap.size
noncomputable def laidWorld (os : Os) : World :=
  let w0 := World.holding Tryd.prog os ⟨#[.cells #[.string ⟨#[69, 79, 70]⟩] 170, .cells #[.string ⟨#[101, 109, 112, 116, 121, 32, 107, 101, 121, 32, 112, 114, 111, 118, 105, 100, 101, 100]⟩] 170, .cells #[.string ⟨#[101, 108, 101, 109, 101, 110, 116, 32, 110, 111, 116, 32, 102, 111, 117, 110, 100]⟩] 170, .cells #[.string ⟨#[111, 117, 116, 32, 111, 102, 32, 98, 111, 117, 110, 100, 115]⟩] 170], #[], []⟩
  { w0 with heap := ((((w0.heap.modify 3 fun
      | .cells _ t frozen => .cells #[.iface 142 (.pointer (some ⟨low, 0, none⟩))] t frozen
      | o => o).modify 2 fun
      | .cells _ t frozen => .cells #[.iface 142 (.pointer (some ⟨low + 1, 0, none⟩))] t frozen
      | o => o).modify 1 fun
      | .cells _ t frozen => .cells #[.iface 142 (.pointer (some ⟨low + 2, 0, none⟩))] t frozen
      | o => o).modify 0 fun
      | .cells _ t frozen => .cells #[.iface 142 (.pointer (some ⟨low + 3, 0, none⟩))] t frozen
      | o => o) }
theorem laid_met (os : Os) (args : Array Value) : laidMetH Tryd.prog Rows.fnDocElementRow.laid ((laidWorld os).forCall (fun _ _ => 0) ⟨#[], args, []⟩).memory :=
  (show laidMet Tryd.prog Rows.fnDocElementRow.laid _ from laidMet_of_run (ps := [.cell 3 0, .cell low 0, .cell 2 0, .cell (low + 1) 0, .cell 1 0, .cell (low + 2) 0, .cell 0 0, .cell (low + 3) 0]) 8 (by kernel_rfl) (by kernel_rfl) (by kernel_rfl))
set_option maxRecDepth 100000 in
theorem lifted (os : Os) (started : os.Started) (H : Type) (enc : TypeId × Value → H) :
    ReturnsInHanded {} Tryd.checked os 3 .any (fun w args => (Rows.fnDocElementSpec.pre enc Tryd.prog Tryd.f3 Rows.fnDocElementRow.domain false w args ∧ laidMetH Tryd.prog Rows.fnDocElementRow.laid w) ∧ sizedMet enc Tryd.prog Tryd.f3 (OpenSpec.ofChange Rows.fnDocElementSpec) false w args) (Rows.fnDocElementSpec.post enc Tryd.prog Tryd.f3 false true false false) := by
  refine returnsInHanded_of_change_and (C := Tryd.checked) (X := fun w _ => laidMetH Tryd.prog Rows.fnDocElementRow.laid w) (fun _ _ _ hh h => h.of_heap hh) own started (by kernel_rfl) Tryd.func3
    (ChangeSpec.witness_at (enc := enc) (C := Tryd.checked) (os := os) (X := fun w _ => laidMetH Tryd.prog Rows.fnDocElementRow.laid w) false (laidWorld os) #[.string ByteArray.empty, .agg #[.int .i64 0, .string ByteArray.empty, .string ByteArray.empty, .int .i64 0, .int .u64 0, .int .u64 0, .slice none 0 0, .slice none 0 0]] 8 rfl (by kernel_rfl) (by kernel_rfl) (by kernel_rfl) (by kernel_rfl) (by kernel_rfl) (laid_met os _)) ?_
  intro W base args ds gs before hval0 hW hcnd hsz0 hL _
  have hsz : (DataW.weightsEach Tryd.prog (Tryd.f3.params.toList ++ Rows.fnDocElementSpec.plain.varTypes Tryd.prog) (ds ++ gs)).all (· ≤ reachBytes) = true := hsz0
  have hval : ∀ (j : Nat) t v, Tryd.f3.params[j]? = some t → args[j]? = some v → Value.okWide Tryd.prog W .any base t v := hval0
  have hW' := hW
  obtain ⟨p, q, hA0, hV, rfl, hfz, hnd⟩ := hW
  have hA : DataW.TrodAll enc Tryd.prog W 0 (fun _ => true) true Tryd.f3.params.toList args.toList ds p := hA0
  rw [Tryd.params3] at hA hval hsz
  obtain ⟨v0, vs0, d0, ds0, p0, q0, hargs, rfl, rfl, h0, r0⟩ := trodAll_cons hA
  obtain ⟨v1, vs1, d1, ds1, p1, q1, rfl, rfl, rfl, h1, r1⟩ := trodAll_cons r0
  obtain ⟨rfl, rfl, rfl⟩ := trodAll_nil r1
  obtain rfl : args = #[v0, v1] := by cases args; simp_all
  obtain ⟨rfl, rfl⟩ := trodVars_none hV
  obtain ⟨a0, rfl, rfl, rfl, y0⟩ := open_string Tryd.underlying9 (hval 0 9 v0 rfl rfl) h0
  have w0 : a0.size ≤ 140737488351232 := by
    have z := sized_string hsz (j := 0) (t := 9) rfl rfl
    rw [Array.length_toList] at z
    exact z
  have k1 := h1
  have lt1 : ∀ x ∈ p1, x.block < W.heap.size := by obtain ⟨m, hm⟩ := k1; exact DataW.trod_lt m _ _ _ hm
  obtain ⟨x1, hK1, hF1⟩ := OP.open_arg (fun f' => openV f') h1 hsz (j := 1) (t := 26) rfl rfl
  obtain ⟨cs1, rfl, hcs1⟩ := okWide_struct Tryd.underlying26 (hval 1 26 v1 rfl rfl)
  obtain ⟨A6, c6, A7, c7, he1, l6, g6, l7, g7⟩ := k26_open hK1
  obtain rfl : cs1 = #[.int .i64 x1.f0, .string x1.f1, .string x1.f2, .int .i64 x1.f3, .int .u64 x1.f4, .int .u64 x1.f5, .slice A6 x1.f6.length c6, .slice A7 x1.f7.length c7] := by apply Array.ext'; exact he1
  obtain ⟨k, hk⟩ := holds a0 w0 x1 hF1
  refine (laws_FnDocElement.calls k a0 x1.f0 x1.f1 x1.f2 x1.f3 x1.f4 x1.f5 A6 c6 x1.f6 A7 c7 x1.f7 true W g6 l6 g7 l7 hk).mono fun e W' ⟨he, bel⟩ => ?_
  subst he
  exact ⟨_, rfl, _, _, _, [], _, [], hW', trodAll_mk1 (shut_bool Tryd.underlying4 _), (trodAll_cons_mk (shut_string Tryd.underlying9 y0) (trodAll_cons_mk (Below.trod laidOut (by kernel_rfl) (of_decide_eq_true (by kernel_rfl)) k1 bel lt1) trodAll_mk0)), rfl, bel.frame _, fun h => by cases h⟩
theorem over : Rows.fnDocElementRow.holds Tryd.pinned (OpenSpec.ofChange Rows.fnDocElementSpec) :=
  OpenClaim.holds_of_wide 3 Tryd.f3 rfl rfl rfl rfl rfl rfl rfl ⟨rfl, rfl, rfl, rfl, rfl⟩ rfl rfl rfl rfl rfl (by kernel_rfl) Tryd.func3 (by kernel_rfl)
    (of_decide_eq_true (by kernel_rfl)) (by unfold Func.isWrapper; first | (rw [if_pos (by decide +kernel)]; kernel_rfl) | (rw [if_neg (by decide +kernel)]; exact ⟨rfl, rfl⟩))
    (fun os started H enc _ => lifted os started H enc)
theorem proved : Rows.FnDocElementSaid := over
#print axioms proved
/-- THE CARD. -/
theorem card : Rows.FnDocElementCardSaid :=
  Claim7.holds_tied_plain_at .later [] [.sentinel, .sentinel, .sentinel, .sentinel] true (true, "99c396c630ef43df50bb7e874caaffc8d7fa4de7c913ec6dab7d5e9b8f28bb93") true
    proved (fun _ h => by cases h) (by kernel_rfl) (fun _ h => by cases h) fnDocElement_row_tie rfl ⟨rfl, rfl⟩ (by kernel_rfl) rfl
    (fun f fn hf hfn => by
      obtain rfl : f = 3 := Option.some.inj ((show Tryd.prog.funcNamed "pub-gunnysack/laws.FnDocElement" = some 3 by kernel_rfl).symm.trans hf) |>.symm
      obtain rfl : fn = Tryd.f3 := (Option.some.inj (Tryd.func3.symm.trans hfn)).symm
      exact ⟨by kernel_rfl, fun j t ht => by
        rw [Tryd.params3] at ht
        have h3 : t = 9 ∨ t = 26 := by
          rcases j with _ | _ | j
          · have ht' : t = 9 := by simpa using ht.symm
            subst ht'
            decide
          · have ht' : t = 26 := by simpa using ht.symm
            subst ht'
            decide
          · simp at ht
        rcases h3 with rfl | rfl
        · exact (show Tryd.prog.wantsStandIn 9 = false by kernel_rfl)
        · exact (show Tryd.prog.wantsStandIn 26 = false by kernel_rfl)⟩)
    (by kernel_rfl)
#print axioms card
end Go.Proofs.YtndpbbgniflckaaDoor.fnDocElement
namespace Go.Proofs.YtndpbbgniflckaaDoor
/-- The row, under a short name, for the claim. -/
theorem fnDocElement_holds : Rows.FnDocElementSaid := fnDocElement.proved
theorem fnDocElement_card : Rows.FnDocElementCardSaid := fnDocElement.card
end Go.Proofs.YtndpbbgniflckaaDoor
