/- The row of the law FnDecText, out of its walk. Conditions: none beyond the statement's. -/
import Derived.Test.YtpbfigeaoefcmaaDoorRows
import Derived.Test.YtpbfigeaoefcmaaDoorOP
import Derived.Test.YtpbfigeaoefcmaaDoorDp
import Derived.Test.YtpbfigeaoefcmaaDoorPDtx6
import Derived.Test.YtpbfigeaoefcmaaDoorLaidD
import Derived.Test.YtpbfigeaoefcmaaDoorLaidD
import Derived.Test.YtpbfigeaoefcmaaDoorTie
import Derived.Test.YtpbfigeaoefcmaaDoorCards
import Derived.SevenTiedAt
import Derived.Handed
import Derived.LaidLaws
import Derived.LaidHandle
import Derived.WalkKit
import Derived.ProofKit
import Derived.OpenShut
import Derived.ShutString
import Derived.ChangeOld
import Derived.Below
import Derived.SizedLaws
namespace Go.Proofs.YtpbfigeaoefcmaaDoor.fnDecText
open Go.ChangeShapes Go.WideShapes Go.ChangeAt Go.RowKit
open Go.ChangeMaps (open_string shut_string)
set_option linter.unusedVariables false
open Go.Proofs.YtpbfigeaoefcmaaDoor.PDt Go.Proofs.YtpbfigeaoefcmaaDoor.PDt.VT
open Go.Proofs.YtpbfigeaoefcmaaDoorW.PrintWords
theorem own : ownKnob Tryd.prog.godebug = none := by kernel_rfl
theorem laidOut : laidOutB Tryd.prog = true := by kernel_rfl
set_option maxHeartbeats 1000000 in
/-- A world that meets the premise. -/
noncomputable def low : Nat := (World.holding Tryd.prog default ⟨#[], #[], []⟩).heap.size
noncomputable def laidWorld (os : Os) : World :=
  let w0 := World.holding Tryd.prog os ⟨#[], #[], []⟩
  { w0 with heap := (((w0.heap.modify 1 fun
      | .cells _ t frozen => .cells #[.int .u8 0, .int .u8 1, .int .u8 28, .int .u8 2, .int .u8 29, .int .u8 14, .int .u8 24, .int .u8 3, .int .u8 30, .int .u8 22, .int .u8 20, .int .u8 15, .int .u8 25, .int .u8 17, .int .u8 4, .int .u8 8, .int .u8 31, .int .u8 27, .int .u8 13, .int .u8 23, .int .u8 21, .int .u8 19, .int .u8 16, .int .u8 7, .int .u8 26, .int .u8 12, .int .u8 18, .int .u8 6, .int .u8 11, .int .u8 5, .int .u8 10, .int .u8 9] t frozen
      | o => o).modify 2 fun
      | .cells _ t frozen => .cells #[.int .u8 0, .int .u8 1, .int .u8 56, .int .u8 2, .int .u8 57, .int .u8 49, .int .u8 28, .int .u8 3, .int .u8 61, .int .u8 58, .int .u8 42, .int .u8 50, .int .u8 38, .int .u8 29, .int .u8 17, .int .u8 4, .int .u8 62, .int .u8 47, .int .u8 59, .int .u8 36, .int .u8 45, .int .u8 43, .int .u8 51, .int .u8 22, .int .u8 53, .int .u8 39, .int .u8 33, .int .u8 30, .int .u8 24, .int .u8 18, .int .u8 12, .int .u8 5, .int .u8 63, .int .u8 55, .int .u8 48, .int .u8 27, .int .u8 60, .int .u8 41, .int .u8 37, .int .u8 16, .int .u8 46, .int .u8 35, .int .u8 44, .int .u8 21, .int .u8 52, .int .u8 32, .int .u8 23, .int .u8 11, .int .u8 54, .int .u8 26, .int .u8 40, .int .u8 15, .int .u8 34, .int .u8 20, .int .u8 31, .int .u8 10, .int .u8 25, .int .u8 14, .int .u8 19, .int .u8 9, .int .u8 13, .int .u8 8, .int .u8 7, .int .u8 6] t frozen
      | o => o).modify 0 fun
      | .cells _ t frozen => .cells #[.int .u64 1, .int .u64 10, .int .u64 100, .int .u64 1000, .int .u64 10000, .int .u64 100000, .int .u64 1000000, .int .u64 10000000, .int .u64 100000000, .int .u64 1000000000, .int .u64 10000000000, .int .u64 100000000000, .int .u64 1000000000000, .int .u64 10000000000000, .int .u64 100000000000000, .int .u64 1000000000000000, .int .u64 10000000000000000, .int .u64 100000000000000000, .int .u64 1000000000000000000, .int .u64 10000000000000000000] t frozen
      | o => o) }
theorem laid_met (os : Os) (args : Array Value) : laidMetH Tryd.prog Rows.fnDecTextRow.laid ((laidWorld os).forCall (fun _ _ => 0) ⟨#[], args, []⟩).memory :=
  (show laidMet Tryd.prog Rows.fnDecTextRow.laid _ from laidMet_of_run (ps := [.cell 1 0, .cell 1 1, .cell 1 2, .cell 1 3, .cell 1 4, .cell 1 5, .cell 1 6, .cell 1 7, .cell 1 8, .cell 1 9, .cell 1 10, .cell 1 11, .cell 1 12, .cell 1 13, .cell 1 14, .cell 1 15, .cell 1 16, .cell 1 17, .cell 1 18, .cell 1 19, .cell 1 20, .cell 1 21, .cell 1 22, .cell 1 23, .cell 1 24, .cell 1 25, .cell 1 26, .cell 1 27, .cell 1 28, .cell 1 29, .cell 1 30, .cell 1 31, .cell 2 0, .cell 2 1, .cell 2 2, .cell 2 3, .cell 2 4, .cell 2 5, .cell 2 6, .cell 2 7, .cell 2 8, .cell 2 9, .cell 2 10, .cell 2 11, .cell 2 12, .cell 2 13, .cell 2 14, .cell 2 15, .cell 2 16, .cell 2 17, .cell 2 18, .cell 2 19, .cell 2 20, .cell 2 21, .cell 2 22, .cell 2 23, .cell 2 24, .cell 2 25, .cell 2 26, .cell 2 27, .cell 2 28, .cell 2 29, .cell 2 30, .cell 2 31, .cell 2 32, .cell 2 33, .cell 2 34, .cell 2 35, .cell 2 36, .cell 2 37, .cell 2 38, .cell 2 39, .cell 2 40, .cell 2 41, .cell 2 42, .cell 2 43, .cell 2 44, .cell 2 45, .cell 2 46, .cell 2 47, .cell 2 48, .cell 2 49, .cell 2 50, .cell 2 51, .cell 2 52, .cell 2 53, .cell 2 54, .cell 2 55, .cell 2 56, .cell 2 57, .cell 2 58, .cell 2 59, .cell 2 60, .cell 2 61, .cell 2 62, .cell 2 63, .cell 0 0, .cell 0 1, .cell 0 2, .cell 0 3, .cell 0 4, .cell 0 5, .cell 0 6, .cell 0 7, .cell 0 8, .cell 0 9, .cell 0 10, .cell 0 11, .cell 0 12, .cell 0 13, .cell 0 14, .cell 0 15, .cell 0 16, .cell 0 17, .cell 0 18, .cell 0 19]) 8 (by kernel_rfl) (by kernel_rfl) (by kernel_rfl))
set_option maxHeartbeats 4000000 in
set_option maxRecDepth 100000 in
theorem lifted (os : Os) (started : os.Started) (H : Type) (enc : TypeId × Value → H) :
    ReturnsInHanded {} Tryd.checked os 3 .any (fun w args => (Rows.fnDecTextSpec.pre enc Tryd.prog Tryd.f3 Rows.fnDecTextRow.domain false w args ∧ laidMetH Tryd.prog Rows.fnDecTextRow.laid w) ∧ sizedMet enc Tryd.prog Tryd.f3 (OpenSpec.ofChange Rows.fnDecTextSpec) false w args) (Rows.fnDecTextSpec.post enc Tryd.prog Tryd.f3 false true false false) := by
  refine returnsInHanded_of_change_and (C := Tryd.checked) (X := fun w _ => laidMetH Tryd.prog Rows.fnDecTextRow.laid w) (fun _ _ _ hh h => h.of_heap hh) own started (by kernel_rfl) Tryd.func3
    (ChangeSpec.witness_at (enc := enc) (C := Tryd.checked) (os := os) (X := fun w _ => laidMetH Tryd.prog Rows.fnDecTextRow.laid w) false (laidWorld os) #[.int .u64 0, .int .u64 0] 8 rfl (by kernel_rfl) (by kernel_rfl) (by kernel_rfl) (by kernel_rfl) (by kernel_rfl) (laid_met os _)) ?_
  intro W base args ds gs before hval0 hW hcnd hsz0 hL _
  have hsz : (DataW.weightsEach Tryd.prog (Tryd.f3.params.toList ++ Rows.fnDecTextSpec.plain.varTypes Tryd.prog) (ds ++ gs)).all (· ≤ reachBytes) = true := hsz0
  have hval : ∀ (j : Nat) t v, Tryd.f3.params[j]? = some t → args[j]? = some v → Value.okWide Tryd.prog W .any base t v := hval0
  have hW' := hW
  obtain ⟨p, q, hA0, hV, rfl, hfz, hnd⟩ := hW
  have hA : DataW.TrodAll enc Tryd.prog W 0 (fun _ => true) true Tryd.f3.params.toList args.toList ds p := hA0
  rw [Tryd.params3] at hA hval hsz
  obtain ⟨v0, vs0, d0, ds0, p0, q0, hargs, rfl, rfl, h0, r0⟩ := trodAll_cons hA
  obtain ⟨v1, vs1, d1, ds1, p1, q1, rfl, rfl, rfl, h1, r1⟩ := trodAll_cons r0
  obtain ⟨rfl, rfl, rfl⟩ := trodAll_nil r1
  obtain rfl : args = #[v0, v1] := by cases args; simp_all
  obtain ⟨rfl, rfl⟩ := trodVars_none hV
  obtain ⟨a0, rfl, rfl, rfl, w0⟩ := open_int Tryd.underlying22 (hval 0 22 v0 rfl rfl) h0
  obtain ⟨a1, rfl, rfl, rfl, w1⟩ := open_int Tryd.underlying22 (hval 1 22 v1 rfl rfl) h1
  have hb0 : 0 ≤ a0 ∧ a0 < 18446744073709551616 := by have := w0; simp [Lit.wf, IntKind.min, IntKind.max, IntKind.signed, IntKind.bits] at this; omega
  have hb1 : 0 ≤ a1 ∧ a1 < 18446744073709551616 := by have := w1; simp [Lit.wf, IntKind.min, IntKind.max, IntKind.signed, IntKind.bits] at this; omega
  obtain ⟨k, hk⟩ := holds a0 a1 hb0.1 hb0.2 hb1.1 hb1.2
  refine (laws_FnDecText.calls k a0 a1 true W (LaidD.laidD_of hL) hk).mono fun e W' ⟨he, bel⟩ => ?_
  subst he
  exact ⟨_, rfl, _, _, _, [], _, [], hW', trodAll_mk1 (shut_bool Tryd.underlying4 _), (trodAll_cons_mk (shut_int Tryd.underlying22 w0) (trodAll_cons_mk (shut_int Tryd.underlying22 w1) trodAll_mk0)), rfl, bel.frame _, fun h => by cases h⟩
theorem over : Rows.fnDecTextRow.holds Tryd.pinned (OpenSpec.ofChange Rows.fnDecTextSpec) :=
  OpenClaim.holds_of_wide 3 Tryd.f3 rfl rfl rfl rfl rfl rfl rfl ⟨rfl, rfl, rfl, rfl, rfl⟩ rfl rfl rfl rfl rfl (by kernel_rfl) Tryd.func3 (by kernel_rfl)
    (of_decide_eq_true (by kernel_rfl)) (by unfold Func.isWrapper; first | (rw [if_pos (by decide +kernel)]; kernel_rfl) | (rw [if_neg (by decide +kernel)]; exact ⟨rfl, rfl⟩))
    (fun os started H enc _ => lifted os started H enc)
theorem proved : Rows.FnDecTextSaid := over
#print axioms proved
/-- THE CARD. -/
theorem card : Rows.FnDecTextCardSaid :=
  Claim7.holds_tied_plain_at .later [] [.data, .data, .data] true (true, "b82cf25d333fc6dbb5fb3534e6ac1bc26e4aa729f1c81ee5937d9a06f6094339") false
    proved (fun _ h => by cases h) (by kernel_rfl) (fun _ h => by cases h) fnDecText_row_tie rfl ⟨rfl, rfl⟩ (by kernel_rfl) rfl
    (fun f fn hf hfn => by
      obtain rfl : f = 3 := Option.some.inj ((show Tryd.prog.funcNamed "pub-gunnysack/laws.FnDecText" = some 3 by kernel_rfl).symm.trans hf) |>.symm
      obtain rfl : fn = Tryd.f3 := (Option.some.inj (Tryd.func3.symm.trans hfn)).symm
      exact ⟨by kernel_rfl, fun j t ht => by
        rw [Tryd.params3] at ht
        have h3 : t = 22 := by
          rcases j with _ | _ | j
          · have ht' : t = 22 := by simpa using ht.symm
            subst ht'
            decide
          · have ht' : t = 22 := by simpa using ht.symm
            subst ht'
            decide
          · simp at ht
        rcases h3 with rfl
        · exact (show Tryd.prog.wantsStandIn 22 = false by kernel_rfl)⟩)
    (by kernel_rfl)
#print axioms card
end Go.Proofs.YtpbfigeaoefcmaaDoor.fnDecText
namespace Go.Proofs.YtpbfigeaoefcmaaDoor
/-- The row, under a short name, for the claim. -/
theorem fnDecText_holds : Rows.FnDecTextSaid := fnDecText.proved
theorem fnDecText_card : Rows.FnDecTextCardSaid := fnDecText.card
end Go.Proofs.YtpbfigeaoefcmaaDoor
