/- Printed by a program of this session (a turned copy of the printer of the kit): contracts of functions of the translation, each with the Lean function that it computes. Conditions: as each theorem states them. -/
import Derived.Test.YtdcoingcpkhmiaaDoorRows
import Derived.Test.YtdcoingcpkhmiaaDoorPEix3
import Derived.Test.YtdcoingcpkhmiaaDoorPureFnExtInts
import Derived.Test.YtdcoingcpkhmiaaDoorLaidI
import Derived.Test.YtdcoingcpkhmiaaDoorTie
import Derived.Test.YtdcoingcpkhmiaaDoorCards
import Derived.SevenTiedAt
import Derived.Handed
import Derived.LaidLaws
import Derived.LaidHandle
import Derived.WalkKit
import Derived.ProofKit
import Derived.OpenShut
import Derived.ShutString
import Derived.ChangeOld
import Derived.Below
import Derived.SizedLaws
namespace Go.Proofs.YtdcoingcpkhmiaaDoor.fnExtInts
open Go.ChangeShapes Go.WideShapes Go.ChangeAt Go.RowKit
open Go.ChangeMaps (open_string shut_string)
set_option linter.unusedVariables false
theorem own : ownKnob Tryd.prog.godebug = none := by kernel_rfl
/-- A world that meets the premise. -/
noncomputable def low : Nat := (World.holding Tryd.prog default ⟨#[], #[], []⟩).heap.size
noncomputable def laidWorld (os : Os) : World :=
  let w0 := World.holding Tryd.prog os ⟨#[.cells #[.string ⟨#[118, 97, 108, 117, 101, 32, 111, 117, 116, 32, 111, 102, 32, 114, 97, 110, 103, 101]⟩] 45, .cells #[.string ⟨#[105, 110, 118, 97, 108, 105, 100, 32, 115, 121, 110, 116, 97, 120]⟩] 45], #[], []⟩
  { w0 with heap := (((((w0.heap.modify 3 fun
      | .cells _ t frozen => .cells #[.int .u8 0, .int .u8 1, .int .u8 28, .int .u8 2, .int .u8 29, .int .u8 14, .int .u8 24, .int .u8 3, .int .u8 30, .int .u8 22, .int .u8 20, .int .u8 15, .int .u8 25, .int .u8 17, .int .u8 4, .int .u8 8, .int .u8 31, .int .u8 27, .int .u8 13, .int .u8 23, .int .u8 21, .int .u8 19, .int .u8 16, .int .u8 7, .int .u8 26, .int .u8 12, .int .u8 18, .int .u8 6, .int .u8 11, .int .u8 5, .int .u8 10, .int .u8 9] t frozen
      | o => o).modify 4 fun
      | .cells _ t frozen => .cells #[.int .u8 0, .int .u8 1, .int .u8 56, .int .u8 2, .int .u8 57, .int .u8 49, .int .u8 28, .int .u8 3, .int .u8 61, .int .u8 58, .int .u8 42, .int .u8 50, .int .u8 38, .int .u8 29, .int .u8 17, .int .u8 4, .int .u8 62, .int .u8 47, .int .u8 59, .int .u8 36, .int .u8 45, .int .u8 43, .int .u8 51, .int .u8 22, .int .u8 53, .int .u8 39, .int .u8 33, .int .u8 30, .int .u8 24, .int .u8 18, .int .u8 12, .int .u8 5, .int .u8 63, .int .u8 55, .int .u8 48, .int .u8 27, .int .u8 60, .int .u8 41, .int .u8 37, .int .u8 16, .int .u8 46, .int .u8 35, .int .u8 44, .int .u8 21, .int .u8 52, .int .u8 32, .int .u8 23, .int .u8 11, .int .u8 54, .int .u8 26, .int .u8 40, .int .u8 15, .int .u8 34, .int .u8 20, .int .u8 31, .int .u8 10, .int .u8 25, .int .u8 14, .int .u8 19, .int .u8 9, .int .u8 13, .int .u8 8, .int .u8 7, .int .u8 6] t frozen
      | o => o).modify 2 fun
      | .cells _ t frozen => .cells #[.int .u64 1, .int .u64 10, .int .u64 100, .int .u64 1000, .int .u64 10000, .int .u64 100000, .int .u64 1000000, .int .u64 10000000, .int .u64 100000000, .int .u64 1000000000, .int .u64 10000000000, .int .u64 100000000000, .int .u64 1000000000000, .int .u64 10000000000000, .int .u64 100000000000000, .int .u64 1000000000000000, .int .u64 10000000000000000, .int .u64 100000000000000000, .int .u64 1000000000000000000, .int .u64 10000000000000000000] t frozen
      | o => o).modify 1 fun
      | .cells _ t frozen => .cells #[.iface 43 (.pointer (some ⟨low, 0, none⟩))] t frozen
      | o => o).modify 0 fun
      | .cells _ t frozen => .cells #[.iface 43 (.pointer (some ⟨low + 1, 0, none⟩))] t frozen
      | o => o) }
theorem laid_met (os : Os) (args : Array Value) : laidMetH Tryd.prog Rows.fnExtIntsRow.laid ((laidWorld os).forCall (fun _ _ => 0) ⟨#[], args, []⟩).memory :=
  (show laidMet Tryd.prog Rows.fnExtIntsRow.laid _ from laidMet_of_run (ps := [.cell 3 0, .cell 3 1, .cell 3 2, .cell 3 3, .cell 3 4, .cell 3 5, .cell 3 6, .cell 3 7, .cell 3 8, .cell 3 9, .cell 3 10, .cell 3 11, .cell 3 12, .cell 3 13, .cell 3 14, .cell 3 15, .cell 3 16, .cell 3 17, .cell 3 18, .cell 3 19, .cell 3 20, .cell 3 21, .cell 3 22, .cell 3 23, .cell 3 24, .cell 3 25, .cell 3 26, .cell 3 27, .cell 3 28, .cell 3 29, .cell 3 30, .cell 3 31, .cell 4 0, .cell 4 1, .cell 4 2, .cell 4 3, .cell 4 4, .cell 4 5, .cell 4 6, .cell 4 7, .cell 4 8, .cell 4 9, .cell 4 10, .cell 4 11, .cell 4 12, .cell 4 13, .cell 4 14, .cell 4 15, .cell 4 16, .cell 4 17, .cell 4 18, .cell 4 19, .cell 4 20, .cell 4 21, .cell 4 22, .cell 4 23, .cell 4 24, .cell 4 25, .cell 4 26, .cell 4 27, .cell 4 28, .cell 4 29, .cell 4 30, .cell 4 31, .cell 4 32, .cell 4 33, .cell 4 34, .cell 4 35, .cell 4 36, .cell 4 37, .cell 4 38, .cell 4 39, .cell 4 40, .cell 4 41, .cell 4 42, .cell 4 43, .cell 4 44, .cell 4 45, .cell 4 46, .cell 4 47, .cell 4 48, .cell 4 49, .cell 4 50, .cell 4 51, .cell 4 52, .cell 4 53, .cell 4 54, .cell 4 55, .cell 4 56, .cell 4 57, .cell 4 58, .cell 4 59, .cell 4 60, .cell 4 61, .cell 4 62, .cell 4 63, .cell 2 0, .cell 2 1, .cell 2 2, .cell 2 3, .cell 2 4, .cell 2 5, .cell 2 6, .cell 2 7, .cell 2 8, .cell 2 9, .cell 2 10, .cell 2 11, .cell 2 12, .cell 2 13, .cell 2 14, .cell 2 15, .cell 2 16, .cell 2 17, .cell 2 18, .cell 2 19, .cell 1 0, .cell low 0, .cell 0 0, .cell (low + 1) 0]) 8 (by kernel_rfl) (by kernel_rfl) (by kernel_rfl))
set_option maxRecDepth 100000 in
theorem lifted (os : Os) (started : os.Started) (H : Type) (enc : TypeId × Value → H) :
    ReturnsInHanded {} Tryd.checked os 3 .any (fun w args => (Rows.fnExtIntsSpec.pre enc Tryd.prog Tryd.f3 Rows.fnExtIntsRow.domain false w args ∧ laidMetH Tryd.prog Rows.fnExtIntsRow.laid w) ∧ sizedMet enc Tryd.prog Tryd.f3 (OpenSpec.ofChange Rows.fnExtIntsSpec) false w args) (Rows.fnExtIntsSpec.post enc Tryd.prog Tryd.f3 false true false false) := by
  refine returnsInHanded_of_change_and (C := Tryd.checked) (X := fun w _ => laidMetH Tryd.prog Rows.fnExtIntsRow.laid w) (fun _ _ _ hh h => h.of_heap hh) own started (by kernel_rfl) Tryd.func3
    (ChangeSpec.witness_at (enc := enc) (C := Tryd.checked) (os := os) (X := fun w _ => laidMetH Tryd.prog Rows.fnExtIntsRow.laid w) false (laidWorld os) #[.string ByteArray.empty] 8 rfl (by kernel_rfl) (by kernel_rfl) (by kernel_rfl) (by kernel_rfl) (by kernel_rfl) (laid_met os _)) ?_
  intro W base args ds gs before hval0 hW hcnd hsz0 hL _
  have hsz : (DataW.weightsEach Tryd.prog (Tryd.f3.params.toList ++ Rows.fnExtIntsSpec.plain.varTypes Tryd.prog) (ds ++ gs)).all (· ≤ reachBytes) = true := hsz0
  have hval : ∀ (j : Nat) t v, Tryd.f3.params[j]? = some t → args[j]? = some v → Value.okWide Tryd.prog W .any base t v := hval0
  have hW' := hW
  obtain ⟨p, q, hA0, hV, rfl, hfz, hnd⟩ := hW
  have hA : DataW.TrodAll enc Tryd.prog W 0 (fun _ => true) true Tryd.f3.params.toList args.toList ds p := hA0
  rw [Tryd.params3] at hA hval hsz
  obtain ⟨v0, vs0, d0, ds0, p0, q0, hargs, rfl, rfl, h0, r0⟩ := trodAll_cons hA
  obtain ⟨rfl, rfl, rfl⟩ := trodAll_nil r0
  obtain rfl : args = #[v0] := by cases args; simp_all
  obtain ⟨rfl, rfl⟩ := trodVars_none hV
  obtain ⟨a0, rfl, rfl, rfl, y0⟩ := open_string Tryd.underlying9 (hval 0 9 v0 rfl rfl) h0
  have w0 : a0.size ≤ 140737488351232 := by
    have z := sized_string hsz (j := 0) (t := 9) rfl rfl
    rw [Array.length_toList] at z
    exact z
  clear hA0 hval0 hsz0 hsz
  refine (PEi.laws_FnExtInts.walk Pure.FnExtInts a0 W (LaidI.laidI_of hL) w0).mono fun e W' ⟨he, bel⟩ => ?_
  subst he
  exact ⟨_, rfl, _, _, _, [], _, [], hW', trodAll_mk1 (shut_bool Tryd.underlying4 _), (trodAll_cons_mk (shut_string Tryd.underlying9 y0) trodAll_mk0), rfl, bel.frame _, fun h => by cases h⟩
theorem over : Rows.fnExtIntsRow.holds Tryd.pinned (OpenSpec.ofChange Rows.fnExtIntsSpec) :=
  OpenClaim.holds_of_wide 3 Tryd.f3 rfl rfl rfl rfl rfl rfl rfl ⟨rfl, rfl, rfl, rfl, rfl⟩ rfl rfl rfl rfl rfl (by kernel_rfl) Tryd.func3 (by kernel_rfl)
    (of_decide_eq_true (by kernel_rfl)) (by unfold Func.isWrapper; first | (rw [if_pos (by decide +kernel)]; kernel_rfl) | (rw [if_neg (by decide +kernel)]; exact ⟨rfl, rfl⟩))
    (fun os started H enc _ => lifted os started H enc)
theorem proved : Rows.FnExtIntsSaid := over
#print axioms proved
/-- THE CARD. -/
theorem card : Rows.FnExtIntsCardSaid :=
  Claim7.holds_tied_plain_at .later [] [.data, .data, .data, .sentinel, .sentinel] true (true, "376d27846234096b2285bb4167d2b17d61646456bd4f41bfc340fd8624683763") true
    proved (fun _ h => by cases h) (by kernel_rfl) (fun _ h => by cases h) fnExtInts_row_tie rfl ⟨rfl, rfl⟩ (by kernel_rfl) rfl
    (fun f fn hf hfn => by
      obtain rfl : f = 3 := Option.some.inj ((show Tryd.prog.funcNamed "pub-gunnysack/laws.FnExtInts" = some 3 by kernel_rfl).symm.trans hf) |>.symm
      obtain rfl : fn = Tryd.f3 := (Option.some.inj (Tryd.func3.symm.trans hfn)).symm
      exact ⟨by kernel_rfl, fun j t ht => by
        rw [Tryd.params3] at ht
        have h3 : t = 9 := by
          rcases j with _ | j
          · have ht' : t = 9 := by simpa using ht.symm
            subst ht'
            decide
          · simp at ht
        rcases h3 with rfl
        · exact (show Tryd.prog.wantsStandIn 9 = false by kernel_rfl)⟩)
    (by kernel_rfl)
#print axioms card
end Go.Proofs.YtdcoingcpkhmiaaDoor.fnExtInts
namespace Go.Proofs.YtdcoingcpkhmiaaDoor
/-- The row, under a short name, for the claim. -/
theorem fnExtInts_holds : Rows.FnExtIntsSaid := fnExtInts.proved
theorem fnExtInts_card : Rows.FnExtIntsCardSaid := fnExtInts.card
end Go.Proofs.YtdcoingcpkhmiaaDoor
