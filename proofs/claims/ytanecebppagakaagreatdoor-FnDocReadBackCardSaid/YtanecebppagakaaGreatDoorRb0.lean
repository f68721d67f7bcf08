/- Plain laws on the told functions of this seat, without memory. Conditions: as each theorem states them. -/
import Derived.Test.YtanecebppagakaaGreatDoorProg
import Derived.Test.YtanecebppagakaaGreatDoorHW
import Derived.Below
import Derived.Deep.Draws
import Derived.OwnWalk
import Derived.Tactics
import Derived.WalkKit
import Derived.KernelRfl
import Derived.RowKit3
import Derived.Deep.LoopGhost
import Derived.Deep.QuietTactic
import Derived.BigQuiet
import Derived.WideLaws
import Derived.Deep.DeepCutAuto
import Derived.Deep.CutBlock
import Derived.Laws.Rows
import Derived.Outline
import Derived.StillTailTactics
import Derived.Deep.RegionHeld3
import Derived.Test.YtanecebppagakaaGreatDoorRb1
namespace Go.Proofs.YtanecebppagakaaGreatDoor.PRx.VT
open Go.RowKit Go.Proofs.YtanecebppagakaaGreatDoorW.PrintWords Go.Proofs.YtanecebppagakaaGreatDoorW.PrintLast Go.Proofs.YtanecebppagakaaGreatDoorW.PrintMore
set_option linter.unusedVariables false
set_option linter.unusedSimpArgs false
theorem vl_zero (k : Int) (h : k = 6 ∨ k = 10 ∨ k = 127 ∨ k = 255) (x : List Int) (q : Nat) : bsoncore_valueLength.f (q + 5) x k = some (0, true) := by
  rcases h with rfl | rfl | rfl | rfl
  · rfl
  · rfl
  · rfl
  · rfl
theorem value_none (k : Int) (h : k = 6 ∨ k = 10 ∨ k = 127 ∨ k = 255) (x : List Int) : Ev (fun q => bsoncore_ReadValue.f q x k) (k, [], x, true) := by
  refine ⟨5, fun q hq => ?_⟩
  obtain ⟨q, rfl⟩ : ∃ r, q = r + 5 := ⟨q - 5, by omega⟩
  have e : bsoncore_readValue.f (q + 5) x k = some ([], x, true) := by
    unfold bsoncore_readValue.f
    rw [vl_zero k h x q, Option.bind_some, if_pos rfl, decide_eq_false (by show ¬ (wrap64 0 > (x.length : Int)); rw [w64 (by omega) (by omega)]; omega), bsoncore_readValue.j0, if_neg (by decide), if_pos (by decide), if_pos (by show (0 : Int) ≤ _; omega)]
    rfl
  show bsoncore_ReadValue.f (q + 5) x k = _
  unfold bsoncore_ReadValue.f
  rw [e, Option.bind_some, if_pos rfl]

end Go.Proofs.YtanecebppagakaaGreatDoor.PRx.VT
