/- Printed by a program of this session (a turned copy of the printer of the kit): contracts of functions of the translation, each with the Lean function that it computes. Conditions: as each theorem states them. -/
import Derived.Test.YthlpmeiihchdjaaDoorRows
import Derived.Test.YthlpmeiihchdjaaDoorPVx3
import Derived.Test.YthlpmeiihchdjaaDoorPureFnVectorBits
import Derived.Test.YthlpmeiihchdjaaDoorLaidV
import Derived.Test.YthlpmeiihchdjaaDoorTie
import Derived.Test.YthlpmeiihchdjaaDoorCards
import Derived.SevenTiedAt
import Derived.Handed
import Derived.LaidLaws
import Derived.LaidHandle
import Derived.WalkKit
import Derived.ProofKit
import Derived.OpenShut
import Derived.ShutString
import Derived.ChangeOld
import Derived.Below
import Derived.SizedLaws
import Derived.Test.YthlpmeiihchdjaaDoorWSized
namespace Go.Proofs.YthlpmeiihchdjaaDoor.fnVectorBits
open Go.ChangeShapes Go.WideShapes Go.ChangeAt Go.RowKit
open Go.ChangeMaps (open_string shut_string)
set_option linter.unusedVariables false
theorem own : ownKnob Tryd.prog.godebug = none := by kernel_rfl
theorem laidOut : laidOutB Tryd.prog = true := by kernel_rfl
def IsRow (k : IntKind) (w : World) (a : Option Addr) (len cap : Nat) (zs : List Int) : Prop :=
  (a = none ∧ len = 0 ∧ cap = 0 ∧ zs = []) ∨
  ∃ x, a = some x ∧ len ≤ cap ∧ cap ≤ maxLen ∧ zs.length = cap ∧ (∀ i, i < zs.length → w.cell? (x.add i) = some (.int k (zs.getD i 0))) ∧ ∀ n ∈ zs, (Lit.int k n).wf = true
/-- A world that meets the premise. -/
noncomputable def low : Nat := (World.holding Tryd.prog default ⟨#[], #[], []⟩).heap.size
noncomputable def laidWorld (os : Os) : World :=
  let w0 := World.holding Tryd.prog os ⟨#[.cells #[.string ⟨#[105, 110, 115, 117, 102, 102, 105, 99, 105, 101, 110, 116, 32, 100, 97, 116, 97]⟩] 98, .cells #[.string ⟨#[112, 97, 100, 100, 105, 110, 103, 32, 109, 117, 115, 116, 32, 98, 101, 32, 48]⟩] 98, .cells #[.string ⟨#[112, 97, 100, 100, 105, 110, 103, 32, 99, 97, 110, 110, 111, 116, 32, 98, 101, 32, 108, 97, 114, 103, 101, 114, 32, 116, 104, 97, 110, 32, 55]⟩] 98], #[], []⟩
  { w0 with heap := (((w0.heap.modify 2 fun
      | .cells _ t frozen => .cells #[.iface 96 (.pointer (some ⟨low, 0, none⟩))] t frozen
      | o => o).modify 1 fun
      | .cells _ t frozen => .cells #[.iface 96 (.pointer (some ⟨low + 1, 0, none⟩))] t frozen
      | o => o).modify 0 fun
      | .cells _ t frozen => .cells #[.iface 96 (.pointer (some ⟨low + 2, 0, none⟩))] t frozen
      | o => o) }
theorem laid_met (os : Os) (args : Array Value) : laidMetH Tryd.prog Rows.fnVectorBitsRow.laid ((laidWorld os).forCall (fun _ _ => 0) ⟨#[], args, []⟩).memory :=
  (show laidMet Tryd.prog Rows.fnVectorBitsRow.laid _ from laidMet_of_run (ps := [.cell 2 0, .cell low 0, .cell 1 0, .cell (low + 1) 0, .cell 0 0, .cell (low + 2) 0]) 8 (by kernel_rfl) (by kernel_rfl) (by kernel_rfl))
set_option maxRecDepth 100000 in
theorem lifted (os : Os) (started : os.Started) (H : Type) (enc : TypeId × Value → H) :
    ReturnsInHanded {} Tryd.checked os 5 .any (fun w args => (Rows.fnVectorBitsSpec.pre enc Tryd.prog Tryd.f5 Rows.fnVectorBitsRow.domain false w args ∧ laidMetH Tryd.prog Rows.fnVectorBitsRow.laid w) ∧ sizedMet enc Tryd.prog Tryd.f5 (OpenSpec.ofChange Rows.fnVectorBitsSpec) false w args) (Rows.fnVectorBitsSpec.post enc Tryd.prog Tryd.f5 false true false false) := by
  refine returnsInHanded_of_change_and (C := Tryd.checked) (X := fun w _ => laidMetH Tryd.prog Rows.fnVectorBitsRow.laid w) (fun _ _ _ hh h => h.of_heap hh) own started (by kernel_rfl) Tryd.func5
    (ChangeSpec.witness_at (enc := enc) (C := Tryd.checked) (os := os) (X := fun w _ => laidMetH Tryd.prog Rows.fnVectorBitsRow.laid w) false (laidWorld os) #[.slice none 0 0, .int .u8 0] 8 rfl (by kernel_rfl) (by kernel_rfl) (by kernel_rfl) (by kernel_rfl) (by kernel_rfl) (laid_met os _)) ?_
  intro W base args ds gs before hval0 hW hcnd hsz0 hL _
  have hsz : (DataW.weightsEach Tryd.prog (Tryd.f5.params.toList ++ Rows.fnVectorBitsSpec.plain.varTypes Tryd.prog) (ds ++ gs)).all (· ≤ reachBytes) = true := hsz0
  have hval : ∀ (j : Nat) t v, Tryd.f5.params[j]? = some t → args[j]? = some v → Value.okWide Tryd.prog W .any base t v := hval0
  have hW' := hW
  obtain ⟨p, q, hA0, hV, rfl, hfz, hnd⟩ := hW
  have hA : DataW.TrodAll enc Tryd.prog W 0 (fun _ => true) true Tryd.f5.params.toList args.toList ds p := hA0
  rw [Tryd.params5] at hA hval hsz
  obtain ⟨v0, vs0, d0, ds0, p0, q0, hargs, rfl, rfl, h0, r0⟩ := trodAll_cons hA
  obtain ⟨v1, vs1, d1, ds1, p1, q1, rfl, rfl, rfl, h1, r1⟩ := trodAll_cons r0
  obtain ⟨rfl, rfl, rfl⟩ := trodAll_nil r1
  obtain rfl : args = #[v0, v1] := by cases args; simp_all
  obtain ⟨rfl, rfl⟩ := trodVars_none hV
  obtain ⟨a0, len0, cap0, rfl⟩ := okWide_slice Tryd.underlying22 (hval 0 22 v0 rfl rfl)
  have k0 := h0
  have lt0 : ∀ x ∈ p0, x.block < W.heap.size := by obtain ⟨m, hm⟩ := k0; exact DataW.trod_lt m _ _ _ hm
  obtain ⟨z0, w0⟩ : ∃ zs, IsRow .u8 W a0 len0 cap0 zs := by
    obtain ⟨fuel, hf⟩ := h0
    rcases open_ints Tryd.underlying22 Tryd.underlying5 (by kernel_rfl) hf with ⟨hcs, _⟩ | ⟨x, l, c, zs, hcs, _, hl, hm, hz, _, hcell, hwz⟩
    · simp [Value.cells] at hcs
      obtain ⟨rfl, rfl, rfl⟩ := hcs
      exact ⟨[], .inl ⟨rfl, rfl, rfl, rfl⟩⟩
    · simp [Value.cells] at hcs
      obtain ⟨rfl, rfl, rfl⟩ := hcs
      exact ⟨zs, .inr ⟨_, rfl, hl, hm, by simpa using hz, hcell, hwz⟩⟩
  have y0 : len0 * 1 ≤ 140737488351232 := Go.Proofs.YthlpmeiihchdjaaDoorW.PrintWords.sized_ints hsz (j := 0) (t := 22) rfl rfl Tryd.underlying22 Tryd.underlying5 (by kernel_rfl) (by kernel_rfl) h0
  obtain ⟨a1, rfl, rfl, rfl, w1⟩ := open_int Tryd.underlying5 (hval 1 5 v1 rfl rfl) h1
  clear hA0 hval0 hsz0 hsz
  refine (PV.laws_FnVectorBits.walk Pure.FnVectorBits a0 len0 cap0 z0 a1 W (LaidV.laidV_of hL) w0 y0 w1).mono fun e W' ⟨he, bel⟩ => ?_
  subst he
  exact ⟨_, rfl, _, _, _, [], _, [], hW', trodAll_mk1 (shut_bool Tryd.underlying4 _), (trodAll_cons_mk (Below.trod laidOut (by kernel_rfl) (of_decide_eq_true (by kernel_rfl)) k0 bel lt0) (trodAll_cons_mk (shut_int Tryd.underlying5 w1) trodAll_mk0)), rfl, bel.frame _, fun h => by cases h⟩
theorem over : Rows.fnVectorBitsRow.holds Tryd.pinned (OpenSpec.ofChange Rows.fnVectorBitsSpec) :=
  OpenClaim.holds_of_wide 5 Tryd.f5 rfl rfl rfl rfl rfl rfl rfl ⟨rfl, rfl, rfl, rfl, rfl⟩ rfl rfl rfl rfl rfl (by kernel_rfl) Tryd.func5 (by kernel_rfl)
    (of_decide_eq_true (by kernel_rfl)) (by unfold Func.isWrapper; first | (rw [if_pos (by decide +kernel)]; kernel_rfl) | (rw [if_neg (by decide +kernel)]; exact ⟨rfl, rfl⟩))
    (fun os started H enc _ => lifted os started H enc)
theorem proved : Rows.FnVectorBitsSaid := over
#print axioms proved
/-- THE CARD. -/
theorem card : Rows.FnVectorBitsCardSaid :=
  Claim7.holds_tied_plain_at .later [] [.sentinel, .sentinel, .sentinel] true (true, "e52d8b1466622995e888aa355157d2131411da9c6c62eef108d238f15cbd2342") true
    proved (fun _ h => by cases h) (by kernel_rfl) (fun _ h => by cases h) fnVectorBits_row_tie rfl ⟨rfl, rfl⟩ (by kernel_rfl) rfl
    (fun f fn hf hfn => by
      obtain rfl : f = 5 := Option.some.inj ((show Tryd.prog.funcNamed "pub-gunnysack/laws.FnVectorBits" = some 5 by kernel_rfl).symm.trans hf) |>.symm
      obtain rfl : fn = Tryd.f5 := (Option.some.inj (Tryd.func5.symm.trans hfn)).symm
      exact ⟨by kernel_rfl, fun j t ht => by
        rw [Tryd.params5] at ht
        have h3 : t = 22 ∨ t = 5 := by
          rcases j with _ | _ | j
          · have ht' : t = 22 := by simpa using ht.symm
            subst ht'
            decide
          · have ht' : t = 5 := by simpa using ht.symm
            subst ht'
            decide
          · simp at ht
        rcases h3 with rfl | rfl
        · exact (show Tryd.prog.wantsStandIn 22 = false by kernel_rfl)
        · exact (show Tryd.prog.wantsStandIn 5 = false by kernel_rfl)⟩)
    (by kernel_rfl)
#print axioms card
end Go.Proofs.YthlpmeiihchdjaaDoor.fnVectorBits
namespace Go.Proofs.YthlpmeiihchdjaaDoor
/-- The row, under a short name, for the claim. -/
theorem fnVectorBits_holds : Rows.FnVectorBitsSaid := fnVectorBits.proved
theorem fnVectorBits_card : Rows.FnVectorBitsCardSaid := fnVectorBits.card
end Go.Proofs.YthlpmeiihchdjaaDoor
