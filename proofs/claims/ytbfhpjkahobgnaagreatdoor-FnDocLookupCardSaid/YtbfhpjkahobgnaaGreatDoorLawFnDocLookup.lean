/- The row of the law FnDocLookup, out of its walk. Conditions: none beyond the statement's. -/
import Derived.Test.YtbfhpjkahobgnaaGreatDoorRows
import Derived.Test.YtbfhpjkahobgnaaGreatDoorOP
import Derived.Test.YtbfhpjkahobgnaaGreatDoorLw
import Derived.Test.YtbfhpjkahobgnaaGreatDoorLaidE
import Derived.Test.YtbfhpjkahobgnaaGreatDoorTie
import Derived.Test.YtbfhpjkahobgnaaGreatDoorCards
import Derived.SevenTiedAt
import Derived.Handed
import Derived.LaidLaws
import Derived.LaidHandle
import Derived.WalkKit
import Derived.ProofKit
import Derived.OpenShut
import Derived.ShutString
import Derived.ChangeOld
import Derived.Below
import Derived.SizedLaws
namespace Go.Proofs.YtbfhpjkahobgnaaGreatDoor.fnDocLookup
open Go.ChangeShapes Go.WideShapes Go.ChangeAt Go.RowKit
open Go.ChangeMaps (open_string shut_string)
set_option linter.unusedVariables false
open Go.Proofs.YtbfhpjkahobgnaaGreatDoor.PLo Go.Proofs.YtbfhpjkahobgnaaGreatDoor.PLo.VT
open Go.Proofs.YtbfhpjkahobgnaaGreatDoorW.PrintWords
theorem own : ownKnob Tryz.prog.godebug = none := by kernel_rfl
theorem laidOut : laidOutB Tryz.prog = true := by kernel_rfl
set_option maxHeartbeats 1000000 in
/-- A world that meets the premise. -/
noncomputable def low : Nat := (World.holding Tryz.prog default ⟨#[], #[], []⟩).heap.size
noncomputable def laidWorld (os : Os) : World :=
  let w0 := World.holding Tryz.prog os ⟨#[.cells #[.string ⟨#[69, 79, 70]⟩] 262, .cells #[.string ⟨#[101, 109, 112, 116, 121, 32, 107, 101, 121, 32, 112, 114, 111, 118, 105, 100, 101, 100]⟩] 262, .cells #[.string ⟨#[101, 108, 101, 109, 101, 110, 116, 32, 110, 111, 116, 32, 102, 111, 117, 110, 100]⟩] 262, .cells #[.string ⟨#[111, 117, 116, 32, 111, 102, 32, 98, 111, 117, 110, 100, 115]⟩] 262], #[], []⟩
  { w0 with heap := (((((((w0.heap.modify 8 fun
      | .cells _ t frozen => .cells #[.int .u8 0, .int .u8 1, .int .u8 28, .int .u8 2, .int .u8 29, .int .u8 14, .int .u8 24, .int .u8 3, .int .u8 30, .int .u8 22, .int .u8 20, .int .u8 15, .int .u8 25, .int .u8 17, .int .u8 4, .int .u8 8, .int .u8 31, .int .u8 27, .int .u8 13, .int .u8 23, .int .u8 21, .int .u8 19, .int .u8 16, .int .u8 7, .int .u8 26, .int .u8 12, .int .u8 18, .int .u8 6, .int .u8 11, .int .u8 5, .int .u8 10, .int .u8 9] t frozen
      | o => o).modify 9 fun
      | .cells _ t frozen => .cells #[.int .u8 0, .int .u8 1, .int .u8 56, .int .u8 2, .int .u8 57, .int .u8 49, .int .u8 28, .int .u8 3, .int .u8 61, .int .u8 58, .int .u8 42, .int .u8 50, .int .u8 38, .int .u8 29, .int .u8 17, .int .u8 4, .int .u8 62, .int .u8 47, .int .u8 59, .int .u8 36, .int .u8 45, .int .u8 43, .int .u8 51, .int .u8 22, .int .u8 53, .int .u8 39, .int .u8 33, .int .u8 30, .int .u8 24, .int .u8 18, .int .u8 12, .int .u8 5, .int .u8 63, .int .u8 55, .int .u8 48, .int .u8 27, .int .u8 60, .int .u8 41, .int .u8 37, .int .u8 16, .int .u8 46, .int .u8 35, .int .u8 44, .int .u8 21, .int .u8 52, .int .u8 32, .int .u8 23, .int .u8 11, .int .u8 54, .int .u8 26, .int .u8 40, .int .u8 15, .int .u8 34, .int .u8 20, .int .u8 31, .int .u8 10, .int .u8 25, .int .u8 14, .int .u8 19, .int .u8 9, .int .u8 13, .int .u8 8, .int .u8 7, .int .u8 6] t frozen
      | o => o).modify 7 fun
      | .cells _ t frozen => .cells #[.int .u64 1, .int .u64 10, .int .u64 100, .int .u64 1000, .int .u64 10000, .int .u64 100000, .int .u64 1000000, .int .u64 10000000, .int .u64 100000000, .int .u64 1000000000, .int .u64 10000000000, .int .u64 100000000000, .int .u64 1000000000000, .int .u64 10000000000000, .int .u64 100000000000000, .int .u64 1000000000000000, .int .u64 10000000000000000, .int .u64 100000000000000000, .int .u64 1000000000000000000, .int .u64 10000000000000000000] t frozen
      | o => o).modify 3 fun
      | .cells _ t frozen => .cells #[.iface 260 (.pointer (some ⟨low, 0, none⟩))] t frozen
      | o => o).modify 2 fun
      | .cells _ t frozen => .cells #[.iface 260 (.pointer (some ⟨low + 1, 0, none⟩))] t frozen
      | o => o).modify 1 fun
      | .cells _ t frozen => .cells #[.iface 260 (.pointer (some ⟨low + 2, 0, none⟩))] t frozen
      | o => o).modify 0 fun
      | .cells _ t frozen => .cells #[.iface 260 (.pointer (some ⟨low + 3, 0, none⟩))] t frozen
      | o => o) }
theorem laid_met (os : Os) (args : Array Value) : laidMetH Tryz.prog Rows.fnDocLookupRow.laid ((laidWorld os).forCall (fun _ _ => 0) ⟨#[], args, []⟩).memory :=
  (show laidMet Tryz.prog Rows.fnDocLookupRow.laid _ from laidMet_of_run (ps := [.cell 8 0, .cell 8 1, .cell 8 2, .cell 8 3, .cell 8 4, .cell 8 5, .cell 8 6, .cell 8 7, .cell 8 8, .cell 8 9, .cell 8 10, .cell 8 11, .cell 8 12, .cell 8 13, .cell 8 14, .cell 8 15, .cell 8 16, .cell 8 17, .cell 8 18, .cell 8 19, .cell 8 20, .cell 8 21, .cell 8 22, .cell 8 23, .cell 8 24, .cell 8 25, .cell 8 26, .cell 8 27, .cell 8 28, .cell 8 29, .cell 8 30, .cell 8 31, .cell 9 0, .cell 9 1, .cell 9 2, .cell 9 3, .cell 9 4, .cell 9 5, .cell 9 6, .cell 9 7, .cell 9 8, .cell 9 9, .cell 9 10, .cell 9 11, .cell 9 12, .cell 9 13, .cell 9 14, .cell 9 15, .cell 9 16, .cell 9 17, .cell 9 18, .cell 9 19, .cell 9 20, .cell 9 21, .cell 9 22, .cell 9 23, .cell 9 24, .cell 9 25, .cell 9 26, .cell 9 27, .cell 9 28, .cell 9 29, .cell 9 30, .cell 9 31, .cell 9 32, .cell 9 33, .cell 9 34, .cell 9 35, .cell 9 36, .cell 9 37, .cell 9 38, .cell 9 39, .cell 9 40, .cell 9 41, .cell 9 42, .cell 9 43, .cell 9 44, .cell 9 45, .cell 9 46, .cell 9 47, .cell 9 48, .cell 9 49, .cell 9 50, .cell 9 51, .cell 9 52, .cell 9 53, .cell 9 54, .cell 9 55, .cell 9 56, .cell 9 57, .cell 9 58, .cell 9 59, .cell 9 60, .cell 9 61, .cell 9 62, .cell 9 63, .cell 7 0, .cell 7 1, .cell 7 2, .cell 7 3, .cell 7 4, .cell 7 5, .cell 7 6, .cell 7 7, .cell 7 8, .cell 7 9, .cell 7 10, .cell 7 11, .cell 7 12, .cell 7 13, .cell 7 14, .cell 7 15, .cell 7 16, .cell 7 17, .cell 7 18, .cell 7 19, .cell 3 0, .cell low 0, .cell 2 0, .cell (low + 1) 0, .cell 1 0, .cell (low + 2) 0, .cell 0 0, .cell (low + 3) 0]) 8 (by kernel_rfl) (by kernel_rfl) (by kernel_rfl))
set_option maxHeartbeats 4000000 in
set_option maxRecDepth 100000 in
theorem lifted (os : Os) (started : os.Started) (H : Type) (enc : TypeId × Value → H) :
    ReturnsInHanded {} Tryz.checked os 4 .any (fun w args => (Rows.fnDocLookupSpec.pre enc Tryz.prog Tryz.f4 Rows.fnDocLookupRow.domain false w args ∧ laidMetH Tryz.prog Rows.fnDocLookupRow.laid w) ∧ sizedMet enc Tryz.prog Tryz.f4 (OpenSpec.ofChange Rows.fnDocLookupSpec) false w args) (Rows.fnDocLookupSpec.post enc Tryz.prog Tryz.f4 false true false false) := by
  refine returnsInHanded_of_change_and (C := Tryz.checked) (X := fun w _ => laidMetH Tryz.prog Rows.fnDocLookupRow.laid w) (fun _ _ _ hh h => h.of_heap hh) own started (by kernel_rfl) Tryz.func4
    (ChangeSpec.witness_at (enc := enc) (C := Tryz.checked) (os := os) (X := fun w _ => laidMetH Tryz.prog Rows.fnDocLookupRow.laid w) false (laidWorld os) #[.slice none 0 0, .slice none 0 0] 8 rfl (by kernel_rfl) (by kernel_rfl) (by kernel_rfl) (by kernel_rfl) (by kernel_rfl) (laid_met os _)) ?_
  intro W base args ds gs before hval0 hW hcnd hsz0 hL _
  have hsz : (DataW.weightsEach Tryz.prog (Tryz.f4.params.toList ++ Rows.fnDocLookupSpec.plain.varTypes Tryz.prog) (ds ++ gs)).all (· ≤ reachBytes) = true := hsz0
  have hval : ∀ (j : Nat) t v, Tryz.f4.params[j]? = some t → args[j]? = some v → Value.okWide Tryz.prog W .any base t v := hval0
  have hW' := hW
  obtain ⟨p, q, hA0, hV, rfl, hfz, hnd⟩ := hW
  have hA : DataW.TrodAll enc Tryz.prog W 0 (fun _ => true) true Tryz.f4.params.toList args.toList ds p := hA0
  rw [Tryz.params4] at hA hval hsz
  obtain ⟨v0, vs0, d0, ds0, p0, q0, hargs, rfl, rfl, h0, r0⟩ := trodAll_cons hA
  obtain ⟨v1, vs1, d1, ds1, p1, q1, rfl, rfl, rfl, h1, r1⟩ := trodAll_cons r0
  obtain ⟨rfl, rfl, rfl⟩ := trodAll_nil r1
  obtain rfl : args = #[v0, v1] := by cases args; simp_all
  obtain ⟨rfl, rfl⟩ := trodVars_none hV
  have k0 := h0
  have lt0 : ∀ x ∈ p0, x.block < W.heap.size := by obtain ⟨m, hm⟩ := k0; exact DataW.trod_lt m _ _ _ hm
  obtain ⟨x0, hK0, hF0⟩ := OP.open_arg (fun f' => OP.opens_slice (e := 73) (B := 128) k73 73 (fun e => e.f0.size ≤ M ∧ FitV e.f1) Tryz.underlying39 (by kernel_rfl) (by kernel_rfl) (fun f _ => opensE f)) h0 hsz (j := 0) (t := 39) rfl rfl
  obtain ⟨a0, len0, cap0, rfl⟩ := okWide_slice Tryz.underlying39 (hval 0 39 v0 rfl rfl)
  obtain ⟨A0, c0, he0, hl0, hC0⟩ := hK0
  simp only [Value.cells, List.cons.injEq, and_true, Value.slice.injEq] at he0
  obtain ⟨rfl, rfl, rfl⟩ := he0
  have k1 := h1
  have lt1 : ∀ x ∈ p1, x.block < W.heap.size := by obtain ⟨m, hm⟩ := k1; exact DataW.trod_lt m _ _ _ hm
  obtain ⟨x1, hK1, hF1⟩ := OP.open_arg (fun f' => OP.opens_slice (e := 9) (B := 16) Kd.string 9 (fun s => s.size ≤ 140737488351232) Tryz.underlying40 (by kernel_rfl) (by kernel_rfl) (fun f _ => OP.opens_string (by kernel_rfl) f)) h1 hsz (j := 1) (t := 40) rfl rfl
  obtain ⟨a1, len1, cap1, rfl⟩ := okWide_slice Tryz.underlying40 (hval 1 40 v1 rfl rfl)
  obtain ⟨A1, c1, he1, hl1, hC1⟩ := hK1
  simp only [Value.cells, List.cons.injEq, and_true, Value.slice.injEq] at he1
  obtain ⟨rfl, rfl, rfl⟩ := he1
  obtain ⟨ρ, hLE⟩ := LaidE.laid_of hL
  obtain ⟨k, hk⟩ := holds x0 (by have := hF0.1; show x0.length ≤ 140737488351232; omega) (fun e he => (hF0.2.2 e he).1) (fun e he => (hF0.2.2 e he).2) x1 (by have := hF1.1; show x1.length ≤ 140737488351232; omega) (fun s hs => hF1.2.2 s hs)
  refine (laws_FnDocLookup.calls ρ k a0 cap0 x0 a1 cap1 x1 true W hLE hC0 hl0 hC1 hl1 hk).mono fun e W' ⟨he, bel⟩ => ?_
  subst he
  exact ⟨_, rfl, _, _, _, [], _, [], hW', trodAll_mk1 (shut_bool Tryz.underlying4 _), (trodAll_cons_mk (Below.trod laidOut (by kernel_rfl) (of_decide_eq_true (by kernel_rfl)) k0 bel lt0) (trodAll_cons_mk (Below.trod laidOut (by kernel_rfl) (of_decide_eq_true (by kernel_rfl)) k1 bel lt1) trodAll_mk0)), rfl, bel.frame _, fun h => by cases h⟩
theorem q10 : (Rows.fnDocLookupRow.inPlace == Tryz.pinned.checked.prog.inPlace 4) = true := by kernel_rfl
theorem q11 : (Rows.fnDocLookupRow.unfollowed == Tryz.pinned.checked.prog.unfollowed 4) = true := by kernel_rfl
theorem q12 : (Rows.fnDocLookupRow.recurses == Tryz.pinned.checked.prog.recurses 4) = true := by kernel_rfl
theorem q13 : (Rows.fnDocLookupRow.named == Tryz.pinned.checked.prog.varsNamed 4) = true := by kernel_rfl
theorem facts : joinedFacts Tryz.pinned.checked.prog 4 Tryz.f4 Rows.fnDocLookupSpec Rows.fnDocLookupRow = true := by
  unfold joinedFacts
  simp only [Bool.and_eq_true]
  refine ⟨⟨⟨⟨⟨⟨⟨⟨⟨⟨⟨⟨⟨⟨⟨⟨⟨⟨⟨⟨⟨⟨⟨⟨⟨⟨⟨⟨⟨⟨⟨?_, ?_⟩, ?_⟩, ?_⟩, ?_⟩, ?_⟩, ?_⟩, ?_⟩, ?_⟩, q10⟩, q11⟩, q12⟩, q13⟩, ?_⟩, ?_⟩, ?_⟩, ?_⟩, ?_⟩, ?_⟩, ?_⟩, ?_⟩, ?_⟩, ?_⟩, ?_⟩, ?_⟩, ?_⟩, ?_⟩, ?_⟩, ?_⟩, ?_⟩, ?_⟩, ?_⟩
  all_goals kernel_rfl
theorem over : Rows.fnDocLookupRow.holds Tryz.pinned (OpenSpec.ofChange Rows.fnDocLookupSpec) :=
  OpenClaim.holds_of_wide 4 Tryz.f4 rfl rfl rfl rfl rfl rfl rfl ⟨rfl, rfl, rfl, rfl, rfl⟩ rfl rfl rfl rfl rfl (by kernel_rfl) Tryz.func4 facts
    (of_decide_eq_true (by kernel_rfl)) (by unfold Func.isWrapper; first | (rw [if_pos (by decide +kernel)]; kernel_rfl) | (rw [if_neg (by decide +kernel)]; exact ⟨rfl, rfl⟩))
    (fun os started H enc _ => lifted os started H enc)
theorem proved : Rows.FnDocLookupSaid := over
#print axioms proved
/-- THE CARD. -/
theorem card : Rows.FnDocLookupCardSaid :=
  Claim7.holds_tied_plain_at .later [] [.data, .data, .data, .sentinel, .sentinel, .sentinel, .sentinel] true (true, "af5a404a10bc8de3f00fe6373a3381aee51d783e141e951c31e06808f3c115cd") true
    proved (fun _ h => by cases h) (by kernel_rfl) (fun _ h => by cases h) fnDocLookup_row_tie rfl ⟨rfl, rfl⟩ (by kernel_rfl) rfl
    (fun f fn hf hfn => by
      obtain rfl : f = 4 := Option.some.inj ((show Tryz.prog.funcNamed "pub-gunnysack/laws.FnDocLookup" = some 4 by kernel_rfl).symm.trans hf) |>.symm
      obtain rfl : fn = Tryz.f4 := (Option.some.inj (Tryz.func4.symm.trans hfn)).symm
      exact ⟨by kernel_rfl, fun j t ht => by
        rw [Tryz.params4] at ht
        have h3 : t = 39 ∨ t = 40 := by
          rcases j with _ | _ | j
          · have ht' : t = 39 := by simpa using ht.symm
            subst ht'
            decide
          · have ht' : t = 40 := by simpa using ht.symm
            subst ht'
            decide
          · simp at ht
        rcases h3 with rfl | rfl
        · exact (show Tryz.prog.wantsStandIn 39 = false by kernel_rfl)
        · exact (show Tryz.prog.wantsStandIn 40 = false by kernel_rfl)⟩)
    (by kernel_rfl)
#print axioms card
end Go.Proofs.YtbfhpjkahobgnaaGreatDoor.fnDocLookup
namespace Go.Proofs.YtbfhpjkahobgnaaGreatDoor
/-- The row, under a short name, for the claim. -/
theorem fnDocLookup_holds : Rows.FnDocLookupSaid := fnDocLookup.proved
theorem fnDocLookup_card : Rows.FnDocLookupCardSaid := fnDocLookup.card
end Go.Proofs.YtbfhpjkahobgnaaGreatDoor
