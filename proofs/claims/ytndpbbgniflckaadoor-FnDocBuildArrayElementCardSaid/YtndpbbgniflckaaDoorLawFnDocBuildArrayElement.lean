/- The row of the law FnDocBuildArrayElement, out of its walk. Conditions: none beyond the statement's. -/
import Derived.Test.YtndpbbgniflckaaDoorRows
import Derived.Test.YtndpbbgniflckaaDoorOP
import Derived.Test.YtndpbbgniflckaaDoorDc
import Derived.Test.YtndpbbgniflckaaDoorPBax10
import Derived.Test.YtndpbbgniflckaaDoorLaidB
import Derived.Test.YtndpbbgniflckaaDoorTie
import Derived.Test.YtndpbbgniflckaaDoorCards
import Derived.SevenTiedAt
import Derived.Handed
import Derived.LaidLaws
import Derived.LaidHandle
import Derived.WalkKit
import Derived.ProofKit
import Derived.OpenShut
import Derived.ShutString
import Derived.ChangeOld
import Derived.Below
import Derived.SizedLaws
namespace Go.Proofs.YtndpbbgniflckaaDoor.fnDocBuildArrayElement
open Go.ChangeShapes Go.WideShapes Go.ChangeAt Go.RowKit
open Go.ChangeMaps (open_string shut_string)
set_option linter.unusedVariables false
open Go.Proofs.YtndpbbgniflckaaDoor.PBa Go.Proofs.YtndpbbgniflckaaDoor.PBa.VT
open Go.Proofs.YtndpbbgniflckaaDoorW.PrintWords
theorem own : ownKnob Tryd.prog.godebug = none := by kernel_rfl
theorem laidOut : laidOutB Tryd.prog = true := by kernel_rfl
set_option maxHeartbeats 1000000 in
/-- A world that meets the premise. -/
noncomputable def low : Nat := (World.holding Tryd.prog default ⟨#[], #[], []⟩).heap.size
noncomputable def laidWorld (os : Os) : World :=
  let w0 := World.holding Tryd.prog os ⟨#[], #[], []⟩
  { w0 with heap := (((w0.heap.modify 7 fun
      | .cells _ t frozen => .cells #[.int .u8 0, .int .u8 1, .int .u8 28, .int .u8 2, .int .u8 29, .int .u8 14, .int .u8 24, .int .u8 3, .int .u8 30, .int .u8 22, .int .u8 20, .int .u8 15, .int .u8 25, .int .u8 17, .int .u8 4, .int .u8 8, .int .u8 31, .int .u8 27, .int .u8 13, .int .u8 23, .int .u8 21, .int .u8 19, .int .u8 16, .int .u8 7, .int .u8 26, .int .u8 12, .int .u8 18, .int .u8 6, .int .u8 11, .int .u8 5, .int .u8 10, .int .u8 9] t frozen
      | o => o).modify 8 fun
      | .cells _ t frozen => .cells #[.int .u8 0, .int .u8 1, .int .u8 56, .int .u8 2, .int .u8 57, .int .u8 49, .int .u8 28, .int .u8 3, .int .u8 61, .int .u8 58, .int .u8 42, .int .u8 50, .int .u8 38, .int .u8 29, .int .u8 17, .int .u8 4, .int .u8 62, .int .u8 47, .int .u8 59, .int .u8 36, .int .u8 45, .int .u8 43, .int .u8 51, .int .u8 22, .int .u8 53, .int .u8 39, .int .u8 33, .int .u8 30, .int .u8 24, .int .u8 18, .int .u8 12, .int .u8 5, .int .u8 63, .int .u8 55, .int .u8 48, .int .u8 27, .int .u8 60, .int .u8 41, .int .u8 37, .int .u8 16, .int .u8 46, .int .u8 35, .int .u8 44, .int .u8 21, .int .u8 52, .int .u8 32, .int .u8 23, .int .u8 11, .int .u8 54, .int .u8 26, .int .u8 40, .int .u8 15, .int .u8 34, .int .u8 20, .int .u8 31, .int .u8 10, .int .u8 25, .int .u8 14, .int .u8 19, .int .u8 9, .int .u8 13, .int .u8 8, .int .u8 7, .int .u8 6] t frozen
      | o => o).modify 6 fun
      | .cells _ t frozen => .cells #[.int .u64 1, .int .u64 10, .int .u64 100, .int .u64 1000, .int .u64 10000, .int .u64 100000, .int .u64 1000000, .int .u64 10000000, .int .u64 100000000, .int .u64 1000000000, .int .u64 10000000000, .int .u64 100000000000, .int .u64 1000000000000, .int .u64 10000000000000, .int .u64 100000000000000, .int .u64 1000000000000000, .int .u64 10000000000000000, .int .u64 100000000000000000, .int .u64 1000000000000000000, .int .u64 10000000000000000000] t frozen
      | o => o) }
theorem laid_met (os : Os) (args : Array Value) : laidMetH Tryd.prog Rows.fnDocBuildArrayElementRow.laid ((laidWorld os).forCall (fun _ _ => 0) ⟨#[], args, []⟩).memory :=
  (show laidMet Tryd.prog Rows.fnDocBuildArrayElementRow.laid _ from laidMet_of_run (ps := [.cell 7 0, .cell 7 1, .cell 7 2, .cell 7 3, .cell 7 4, .cell 7 5, .cell 7 6, .cell 7 7, .cell 7 8, .cell 7 9, .cell 7 10, .cell 7 11, .cell 7 12, .cell 7 13, .cell 7 14, .cell 7 15, .cell 7 16, .cell 7 17, .cell 7 18, .cell 7 19, .cell 7 20, .cell 7 21, .cell 7 22, .cell 7 23, .cell 7 24, .cell 7 25, .cell 7 26, .cell 7 27, .cell 7 28, .cell 7 29, .cell 7 30, .cell 7 31, .cell 8 0, .cell 8 1, .cell 8 2, .cell 8 3, .cell 8 4, .cell 8 5, .cell 8 6, .cell 8 7, .cell 8 8, .cell 8 9, .cell 8 10, .cell 8 11, .cell 8 12, .cell 8 13, .cell 8 14, .cell 8 15, .cell 8 16, .cell 8 17, .cell 8 18, .cell 8 19, .cell 8 20, .cell 8 21, .cell 8 22, .cell 8 23, .cell 8 24, .cell 8 25, .cell 8 26, .cell 8 27, .cell 8 28, .cell 8 29, .cell 8 30, .cell 8 31, .cell 8 32, .cell 8 33, .cell 8 34, .cell 8 35, .cell 8 36, .cell 8 37, .cell 8 38, .cell 8 39, .cell 8 40, .cell 8 41, .cell 8 42, .cell 8 43, .cell 8 44, .cell 8 45, .cell 8 46, .cell 8 47, .cell 8 48, .cell 8 49, .cell 8 50, .cell 8 51, .cell 8 52, .cell 8 53, .cell 8 54, .cell 8 55, .cell 8 56, .cell 8 57, .cell 8 58, .cell 8 59, .cell 8 60, .cell 8 61, .cell 8 62, .cell 8 63, .cell 6 0, .cell 6 1, .cell 6 2, .cell 6 3, .cell 6 4, .cell 6 5, .cell 6 6, .cell 6 7, .cell 6 8, .cell 6 9, .cell 6 10, .cell 6 11, .cell 6 12, .cell 6 13, .cell 6 14, .cell 6 15, .cell 6 16, .cell 6 17, .cell 6 18, .cell 6 19]) 8 (by kernel_rfl) (by kernel_rfl) (by kernel_rfl))
set_option maxHeartbeats 4000000 in
set_option maxRecDepth 100000 in
theorem lifted (os : Os) (started : os.Started) (H : Type) (enc : TypeId × Value → H) :
    ReturnsInHanded {} Tryd.checked os 4 .any (fun w args => (Rows.fnDocBuildArrayElementSpec.pre enc Tryd.prog Tryd.f4 Rows.fnDocBuildArrayElementRow.domain false w args ∧ laidMetH Tryd.prog Rows.fnDocBuildArrayElementRow.laid w) ∧ sizedMet enc Tryd.prog Tryd.f4 (OpenSpec.ofChange Rows.fnDocBuildArrayElementSpec) false w args) (Rows.fnDocBuildArrayElementSpec.post enc Tryd.prog Tryd.f4 false true false false) := by
  refine returnsInHanded_of_change_and (C := Tryd.checked) (X := fun w _ => laidMetH Tryd.prog Rows.fnDocBuildArrayElementRow.laid w) (fun _ _ _ hh h => h.of_heap hh) own started (by kernel_rfl) Tryd.func4
    (ChangeSpec.witness_at (enc := enc) (C := Tryd.checked) (os := os) (X := fun w _ => laidMetH Tryd.prog Rows.fnDocBuildArrayElementRow.laid w) false (laidWorld os) #[.slice none 0 0, .string ByteArray.empty, .slice none 0 0] 8 rfl (by kernel_rfl) (by kernel_rfl) (by kernel_rfl) (by kernel_rfl) (by kernel_rfl) (laid_met os _)) ?_
  intro W base args ds gs before hval0 hW hcnd hsz0 hL _
  have hsz : (DataW.weightsEach Tryd.prog (Tryd.f4.params.toList ++ Rows.fnDocBuildArrayElementSpec.plain.varTypes Tryd.prog) (ds ++ gs)).all (· ≤ reachBytes) = true := hsz0
  have hval : ∀ (j : Nat) t v, Tryd.f4.params[j]? = some t → args[j]? = some v → Value.okWide Tryd.prog W .any base t v := hval0
  have hW' := hW
  obtain ⟨p, q, hA0, hV, rfl, hfz, hnd⟩ := hW
  have hA : DataW.TrodAll enc Tryd.prog W 0 (fun _ => true) true Tryd.f4.params.toList args.toList ds p := hA0
  rw [Tryd.params4] at hA hval hsz
  obtain ⟨v0, vs0, d0, ds0, p0, q0, hargs, rfl, rfl, h0, r0⟩ := trodAll_cons hA
  obtain ⟨v1, vs1, d1, ds1, p1, q1, rfl, rfl, rfl, h1, r1⟩ := trodAll_cons r0
  obtain ⟨v2, vs2, d2, ds2, p2, q2, rfl, rfl, rfl, h2, r2⟩ := trodAll_cons r1
  obtain ⟨rfl, rfl, rfl⟩ := trodAll_nil r2
  obtain rfl : args = #[v0, v1, v2] := by cases args; simp_all
  obtain ⟨rfl, rfl⟩ := trodVars_none hV
  have k0 := h0
  have lt0 : ∀ x ∈ p0, x.block < W.heap.size := by obtain ⟨m, hm⟩ := k0; exact DataW.trod_lt m _ _ _ hm
  obtain ⟨x0, hK0, hF0⟩ := OP.open_arg (fun f' => OP.opens_slice (e := 5) (B := 1) (Kd.int .u8) 5 (fun n => (Lit.int .u8 n).wf = true) Tryd.underlying23 (by kernel_rfl) (by kernel_rfl) (fun f _ => OP.opens_int .u8 (by kernel_rfl) f)) h0 hsz (j := 0) (t := 23) rfl rfl
  obtain ⟨a0, len0, cap0, rfl⟩ := okWide_slice Tryd.underlying23 (hval 0 23 v0 rfl rfl)
  obtain ⟨A0, c0, he0, hl0, hC0⟩ := hK0
  simp only [Value.cells, List.cons.injEq, and_true, Value.slice.injEq] at he0
  obtain ⟨rfl, rfl, rfl⟩ := he0
  obtain ⟨a1, rfl, rfl, rfl, y1⟩ := open_string Tryd.underlying9 (hval 1 9 v1 rfl rfl) h1
  have w1 : a1.size ≤ 140737488351232 := by
    have z := sized_string hsz (j := 1) (t := 9) rfl rfl
    rw [Array.length_toList] at z
    exact z
  have k2 := h2
  have lt2 : ∀ x ∈ p2, x.block < W.heap.size := by obtain ⟨m, hm⟩ := k2; exact DataW.trod_lt m _ _ _ hm
  obtain ⟨x2, hK2, hF2⟩ := OP.open_arg (fun f' => OP.opens_slice (B := 112) k26 26 FitV Tryd.underlying44 (by kernel_rfl) (by kernel_rfl) (fun f _ => openV f)) h2 hsz (j := 2) (t := 44) rfl rfl
  obtain ⟨a2, len2, cap2, rfl⟩ := okWide_slice Tryd.underlying44 (hval 2 44 v2 rfl rfl)
  obtain ⟨A2, c2, he2, hl2, hC2⟩ := hK2
  simp only [Value.cells, List.cons.injEq, and_true, Value.slice.injEq] at he2
  obtain ⟨rfl, rfl, rfl⟩ := he2
  obtain ⟨k, hk⟩ := holds x0 a1 w1 x2 hF2.2.2
  refine (laws_FnDocBuildArrayElement.calls k a0 cap0 x0 a1 a2 cap2 x2 true W (LaidB.laidB_of hL) hC0 hl0 hC2 hl2 hk).mono fun e W' ⟨he, bel⟩ => ?_
  subst he
  exact ⟨_, rfl, _, _, _, [], _, [], hW', trodAll_mk1 (shut_bool Tryd.underlying4 _), (trodAll_cons_mk (Below.trod laidOut (by kernel_rfl) (of_decide_eq_true (by kernel_rfl)) k0 bel lt0) (trodAll_cons_mk (shut_string Tryd.underlying9 y1) (trodAll_cons_mk (Below.trod laidOut (by kernel_rfl) (of_decide_eq_true (by kernel_rfl)) k2 bel lt2) trodAll_mk0))), rfl, bel.frame _, fun h => by cases h⟩
theorem over : Rows.fnDocBuildArrayElementRow.holds Tryd.pinned (OpenSpec.ofChange Rows.fnDocBuildArrayElementSpec) :=
  OpenClaim.holds_of_wide 4 Tryd.f4 rfl rfl rfl rfl rfl rfl rfl ⟨rfl, rfl, rfl, rfl, rfl⟩ rfl rfl rfl rfl rfl (by kernel_rfl) Tryd.func4 (by kernel_rfl)
    (of_decide_eq_true (by kernel_rfl)) (by unfold Func.isWrapper; first | (rw [if_pos (by decide +kernel)]; kernel_rfl) | (rw [if_neg (by decide +kernel)]; exact ⟨rfl, rfl⟩))
    (fun os started H enc _ => lifted os started H enc)
theorem proved : Rows.FnDocBuildArrayElementSaid := over
#print axioms proved
/-- THE CARD. -/
theorem card : Rows.FnDocBuildArrayElementCardSaid :=
  Claim7.holds_tied_plain_at .later [] [.data, .data, .data] true (true, "99c396c630ef43df50bb7e874caaffc8d7fa4de7c913ec6dab7d5e9b8f28bb93") true
    proved (fun _ h => by cases h) (by kernel_rfl) (fun _ h => by cases h) fnDocBuildArrayElement_row_tie rfl ⟨rfl, rfl⟩ (by kernel_rfl) rfl
    (fun f fn hf hfn => by
      obtain rfl : f = 4 := Option.some.inj ((show Tryd.prog.funcNamed "pub-gunnysack/laws.FnDocBuildArrayElement" = some 4 by kernel_rfl).symm.trans hf) |>.symm
      obtain rfl : fn = Tryd.f4 := (Option.some.inj (Tryd.func4.symm.trans hfn)).symm
      exact ⟨by kernel_rfl, fun j t ht => by
        rw [Tryd.params4] at ht
        have h3 : t = 23 ∨ t = 9 ∨ t = 44 := by
          rcases j with _ | _ | _ | j
          · have ht' : t = 23 := by simpa using ht.symm
            subst ht'
            decide
          · have ht' : t = 9 := by simpa using ht.symm
            subst ht'
            decide
          · have ht' : t = 44 := by simpa using ht.symm
            subst ht'
            decide
          · simp at ht
        rcases h3 with rfl | rfl | rfl
        · exact (show Tryd.prog.wantsStandIn 23 = false by kernel_rfl)
        · exact (show Tryd.prog.wantsStandIn 9 = false by kernel_rfl)
        · exact (show Tryd.prog.wantsStandIn 44 = false by kernel_rfl)⟩)
    (by kernel_rfl)
#print axioms card
end Go.Proofs.YtndpbbgniflckaaDoor.fnDocBuildArrayElement
namespace Go.Proofs.YtndpbbgniflckaaDoor
/-- The row, under a short name, for the claim. -/
theorem fnDocBuildArrayElement_holds : Rows.FnDocBuildArrayElementSaid := fnDocBuildArrayElement.proved
theorem fnDocBuildArrayElement_card : Rows.FnDocBuildArrayElementCardSaid := fnDocBuildArrayElement.card
end Go.Proofs.YtndpbbgniflckaaDoor
