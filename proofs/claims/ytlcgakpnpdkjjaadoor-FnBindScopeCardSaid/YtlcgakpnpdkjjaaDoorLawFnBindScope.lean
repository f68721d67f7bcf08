/- The row of the law FnBindScope, out of its walk. Conditions: none beyond the statement's. -/
import Derived.Test.YtlcgakpnpdkjjaaDoorRows
import Derived.Test.YtlcgakpnpdkjjaaDoorOP
import Derived.Test.YtlcgakpnpdkjjaaDoorSd
import Derived.Test.YtlcgakpnpdkjjaaDoorTie
import Derived.Test.YtlcgakpnpdkjjaaDoorCards
import Derived.SevenTiedAt
import Derived.Handed
import Derived.LaidLaws
import Derived.LaidHandle
import Derived.WalkKit
import Derived.ProofKit
import Derived.OpenShut
import Derived.ShutString
import Derived.ChangeOld
import Derived.Below
import Derived.SizedLaws
namespace Go.Proofs.YtlcgakpnpdkjjaaDoor.fnBindScope
open Go.ChangeShapes Go.WideShapes Go.ChangeAt Go.RowKit
open Go.ChangeMaps (open_string shut_string)
set_option linter.unusedVariables false
open Go.Proofs.YtlcgakpnpdkjjaaDoor.PBz Go.Proofs.YtlcgakpnpdkjjaaDoor.PBz.VT
open Go.Proofs.YtlcgakpnpdkjjaaDoorW.PrintWords
theorem own : ownKnob Tryd.prog.godebug = none := by kernel_rfl
theorem laidOut : laidOutB Tryd.prog = true := by kernel_rfl
set_option maxHeartbeats 1000000 in
/-- A world that meets the premise. -/
noncomputable def low : Nat := (World.holding Tryd.prog default ⟨#[], #[], []⟩).heap.size
noncomputable def laidWorld (os : Os) : World :=
  let w0 := World.holding Tryd.prog os ⟨#[.cells #[.string ⟨#[69, 79, 70]⟩] 170, .cells #[.string ⟨#[101, 109, 112, 116, 121, 32, 107, 101, 121, 32, 112, 114, 111, 118, 105, 100, 101, 100]⟩] 170, .cells #[.string ⟨#[101, 108, 101, 109, 101, 110, 116, 32, 110, 111, 116, 32, 102, 111, 117, 110, 100]⟩] 170, .cells #[.string ⟨#[111, 117, 116, 32, 111, 102, 32, 98, 111, 117, 110, 100, 115]⟩] 170], #[], []⟩
  { w0 with heap := ((((w0.heap.modify 3 fun
      | .cells _ t frozen => .cells #[.iface 142 (.pointer (some ⟨low, 0, none⟩))] t frozen
      | o => o).modify 2 fun
      | .cells _ t frozen => .cells #[.iface 142 (.pointer (some ⟨low + 1, 0, none⟩))] t frozen
      | o => o).modify 1 fun
      | .cells _ t frozen => .cells #[.iface 142 (.pointer (some ⟨low + 2, 0, none⟩))] t frozen
      | o => o).modify 0 fun
      | .cells _ t frozen => .cells #[.iface 142 (.pointer (some ⟨low + 3, 0, none⟩))] t frozen
      | o => o) }
theorem laid_met (os : Os) (args : Array Value) : laidMetH Tryd.prog Rows.fnBindScopeRow.laid ((laidWorld os).forCall (fun _ _ => 0) ⟨#[], args, []⟩).memory :=
  (show laidMet Tryd.prog Rows.fnBindScopeRow.laid _ from laidMet_of_run (ps := [.cell 3 0, .cell low 0, .cell 2 0, .cell (low + 1) 0, .cell 1 0, .cell (low + 2) 0, .cell 0 0, .cell (low + 3) 0]) 8 (by kernel_rfl) (by kernel_rfl) (by kernel_rfl))
set_option maxHeartbeats 4000000 in
set_option maxRecDepth 100000 in
theorem lifted (os : Os) (started : os.Started) (H : Type) (enc : TypeId × Value → H) :
    ReturnsInHanded {} Tryd.checked os 3 .any (fun w args => (Rows.fnBindScopeSpec.pre enc Tryd.prog Tryd.f3 Rows.fnBindScopeRow.domain false w args ∧ laidMetH Tryd.prog Rows.fnBindScopeRow.laid w) ∧ sizedMet enc Tryd.prog Tryd.f3 (OpenSpec.ofChange Rows.fnBindScopeSpec) false w args) (Rows.fnBindScopeSpec.post enc Tryd.prog Tryd.f3 false true false false) := by
  refine returnsInHanded_of_change_and (C := Tryd.checked) (X := fun w _ => laidMetH Tryd.prog Rows.fnBindScopeRow.laid w) (fun _ _ _ hh h => h.of_heap hh) own started (by kernel_rfl) Tryd.func3
    (ChangeSpec.witness_at (enc := enc) (C := Tryd.checked) (os := os) (X := fun w _ => laidMetH Tryd.prog Rows.fnBindScopeRow.laid w) false (laidWorld os) #[.agg #[.int .i64 0, .string ByteArray.empty, .string ByteArray.empty, .int .i64 0, .int .u64 0, .int .u64 0, .slice none 0 0, .slice none 0 0], .string ByteArray.empty, .agg #[.int .i64 0, .string ByteArray.empty, .string ByteArray.empty, .int .i64 0, .int .u64 0, .int .u64 0, .slice none 0 0, .slice none 0 0]] 8 rfl (by kernel_rfl) (by kernel_rfl) (by kernel_rfl) (by kernel_rfl) (by kernel_rfl) (laid_met os _)) ?_
  intro W base args ds gs before hval0 hW hcnd hsz0 hL _
  have hsz : (DataW.weightsEach Tryd.prog (Tryd.f3.params.toList ++ Rows.fnBindScopeSpec.plain.varTypes Tryd.prog) (ds ++ gs)).all (· ≤ reachBytes) = true := hsz0
  have hval : ∀ (j : Nat) t v, Tryd.f3.params[j]? = some t → args[j]? = some v → Value.okWide Tryd.prog W .any base t v := hval0
  have hW' := hW
  obtain ⟨p, q, hA0, hV, rfl, hfz, hnd⟩ := hW
  have hA : DataW.TrodAll enc Tryd.prog W 0 (fun _ => true) true Tryd.f3.params.toList args.toList ds p := hA0
  rw [Tryd.params3] at hA hval hsz
  obtain ⟨v0, vs0, d0, ds0, p0, q0, hargs, rfl, rfl, h0, r0⟩ := trodAll_cons hA
  obtain ⟨v1, vs1, d1, ds1, p1, q1, rfl, rfl, rfl, h1, r1⟩ := trodAll_cons r0
  obtain ⟨v2, vs2, d2, ds2, p2, q2, rfl, rfl, rfl, h2, r2⟩ := trodAll_cons r1
  obtain ⟨rfl, rfl, rfl⟩ := trodAll_nil r2
  obtain rfl : args = #[v0, v1, v2] := by cases args; simp_all
  obtain ⟨rfl, rfl⟩ := trodVars_none hV
  have k0 := h0
  have lt0 : ∀ x ∈ p0, x.block < W.heap.size := by obtain ⟨m, hm⟩ := k0; exact DataW.trod_lt m _ _ _ hm
  obtain ⟨x0, hK0, hF0⟩ := OP.open_arg (fun f' => openV f') h0 hsz (j := 0) (t := 26) rfl rfl
  obtain ⟨cs0, rfl, hcs0⟩ := okWide_struct Tryd.underlying26 (hval 0 26 v0 rfl rfl)
  obtain ⟨A6, c6, A7, c7, he0, l6, g6, l7, g7⟩ := k26_open hK0
  obtain rfl : cs0 = #[.int .i64 x0.f0, .string x0.f1, .string x0.f2, .int .i64 x0.f3, .int .u64 x0.f4, .int .u64 x0.f5, .slice A6 x0.f6.length c6, .slice A7 x0.f7.length c7] := by apply Array.ext'; exact he0
  obtain ⟨a1, rfl, rfl, rfl, y1⟩ := open_string Tryd.underlying9 (hval 1 9 v1 rfl rfl) h1
  have w1 : a1.size ≤ 140737488351232 := by
    have z := sized_string hsz (j := 1) (t := 9) rfl rfl
    rw [Array.length_toList] at z
    exact z
  have k2 := h2
  have lt2 : ∀ x ∈ p2, x.block < W.heap.size := by obtain ⟨m, hm⟩ := k2; exact DataW.trod_lt m _ _ _ hm
  obtain ⟨x2, hK2, hF2⟩ := OP.open_arg (fun f' => openV f') h2 hsz (j := 2) (t := 26) rfl rfl
  obtain ⟨cs2, rfl, hcs2⟩ := okWide_struct Tryd.underlying26 (hval 2 26 v2 rfl rfl)
  obtain ⟨B6, b6, B7, b7, he2, m6, n6, m7, n7⟩ := k26_open hK2
  obtain rfl : cs2 = #[.int .i64 x2.f0, .string x2.f1, .string x2.f2, .int .i64 x2.f3, .int .u64 x2.f4, .int .u64 x2.f5, .slice B6 x2.f6.length b6, .slice B7 x2.f7.length b7] := by apply Array.ext'; exact he2
  obtain ⟨k, hk⟩ := holds x0 hF0 a1 w1 x2 hF2
  refine (laws_FnBindScope.calls k x0.f0 x0.f1 x0.f2 x0.f3 x0.f4 x0.f5 A6 c6 x0.f6 (fun q => q < W.heap.size) A7 c7 x0.f7 a1 x2.f0 x2.f1 x2.f2 x2.f3 x2.f4 x2.f5 (fun q => q < W.heap.size) B6 b6 x2.f6 (fun q => q < W.heap.size) B7 b7 x2.f7 true W g6 l6 (Kd.V_mk l7 (Kd.C_F k34_heap g7)) (Kd.V_mk m6 (Kd.C_F (Kd.heap_int .u8) n6)) (Kd.V_mk m7 (Kd.C_F k34_heap n7)) hk).mono fun e W' ⟨he, bel⟩ => ?_
  subst he
  exact ⟨_, rfl, _, _, _, [], _, [], hW', trodAll_mk1 (shut_bool Tryd.underlying4 _), (trodAll_cons_mk (Below.trod laidOut (by kernel_rfl) (of_decide_eq_true (by kernel_rfl)) k0 bel lt0) (trodAll_cons_mk (shut_string Tryd.underlying9 y1) (trodAll_cons_mk (Below.trod laidOut (by kernel_rfl) (of_decide_eq_true (by kernel_rfl)) k2 bel lt2) trodAll_mk0))), rfl, bel.frame _, fun h => by cases h⟩
theorem over : Rows.fnBindScopeRow.holds Tryd.pinned (OpenSpec.ofChange Rows.fnBindScopeSpec) :=
  OpenClaim.holds_of_wide 3 Tryd.f3 rfl rfl rfl rfl rfl rfl rfl ⟨rfl, rfl, rfl, rfl, rfl⟩ rfl rfl rfl rfl rfl (by kernel_rfl) Tryd.func3 (by kernel_rfl)
    (of_decide_eq_true (by kernel_rfl)) (by unfold Func.isWrapper; first | (rw [if_pos (by decide +kernel)]; kernel_rfl) | (rw [if_neg (by decide +kernel)]; exact ⟨rfl, rfl⟩))
    (fun os started H enc _ => lifted os started H enc)
theorem proved : Rows.FnBindScopeSaid := over
#print axioms proved
/-- THE CARD. -/
theorem card : Rows.FnBindScopeCardSaid :=
  Claim7.holds_tied_plain_at .later [] [.sentinel, .sentinel, .sentinel, .sentinel] true (true, "e085f577fc8553d2b7c1aa885713225a968cf31894eb7f62eec935f32cf3c92b") true
    proved (fun _ h => by cases h) (by kernel_rfl) (fun _ h => by cases h) fnBindScope_row_tie rfl ⟨rfl, rfl⟩ (by kernel_rfl) rfl
    (fun f fn hf hfn => by
      obtain rfl : f = 3 := Option.some.inj ((show Tryd.prog.funcNamed "pub-gunnysack/laws.FnBindScope" = some 3 by kernel_rfl).symm.trans hf) |>.symm
      obtain rfl : fn = Tryd.f3 := (Option.some.inj (Tryd.func3.symm.trans hfn)).symm
      exact ⟨by kernel_rfl, fun j t ht => by
        rw [Tryd.params3] at ht
        have h3 : t = 26 ∨ t = 9 := by
          rcases j with _ | _ | _ | j
          · have ht' : t = 26 := by simpa using ht.symm
            subst ht'
            decide
          · have ht' : t = 9 := by simpa using ht.symm
            subst ht'
            decide
          · have ht' : t = 26 := by simpa using ht.symm
            subst ht'
            decide
          · simp at ht
        rcases h3 with rfl | rfl
        · exact (show Tryd.prog.wantsStandIn 26 = false by kernel_rfl)
        · exact (show Tryd.prog.wantsStandIn 9 = false by kernel_rfl)⟩)
    (by kernel_rfl)
#print axioms card
end Go.Proofs.YtlcgakpnpdkjjaaDoor.fnBindScope
namespace Go.Proofs.YtlcgakpnpdkjjaaDoor
/-- The row, under a short name, for the claim. -/
theorem fnBindScope_holds : Rows.FnBindScopeSaid := fnBindScope.proved
theorem fnBindScope_card : Rows.FnBindScopeCardSaid := fnBindScope.card
end Go.Proofs.YtlcgakpnpdkjjaaDoor
