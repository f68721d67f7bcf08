/- Plain laws on the told functions of this seat, without memory. Conditions: as each theorem states them. -/
import Derived.Test.YtanecebppagakaaGreatDoorProg
import Derived.Test.YtanecebppagakaaGreatDoorHW
import Derived.Below
import Derived.Deep.Draws
import Derived.OwnWalk
import Derived.Tactics
import Derived.WalkKit
import Derived.KernelRfl
import Derived.RowKit3
import Derived.Deep.LoopGhost
import Derived.Deep.QuietTactic
import Derived.BigQuiet
import Derived.WideLaws
import Derived.Deep.DeepCutAuto
import Derived.Deep.CutBlock
import Derived.Laws.Rows
import Derived.Outline
import Derived.StillTailTactics
import Derived.Deep.RegionHeld3
import Derived.Test.YtanecebppagakaaGreatDoorRb0
import Derived.Test.YtanecebppagakaaGreatDoorRb5
namespace Go.Proofs.YtanecebppagakaaGreatDoor.PRx.VT
open Go.RowKit Go.Proofs.YtanecebppagakaaGreatDoorW.PrintWords Go.Proofs.YtanecebppagakaaGreatDoorW.PrintLast Go.Proofs.YtanecebppagakaaGreatDoorW.PrintMore
set_option linter.unusedVariables false
set_option linter.unusedSimpArgs false
/-- The kinds without bytes. -/
theorem rb_none (k : Int) (r : List Int) (hk : k = 6 ∨ k = 10 ∨ k = 127 ∨ k = 255) (hr : r.length ≤ 1000) : RO k r ⟨#[]⟩ ⟨#[]⟩ 0 0 0 [] r := by
  obtain ⟨K, h⟩ := value_none k hk r
  refine ⟨K, fun q hq => ?_⟩
  have e : bsoncore_ReadValue.f q r k = some (k, [], r, true) := h q hq
  show impl_Read.f q k r = _
  rcases hk with rfl | rfl | rfl | rfl <;> (simp only [impl_Read.f, e, Option.bind_some, own_ok r (by omega : r.length ≤ 1000000), if_true]; rfl)
theorem holds (v : S44) (hv : FitV v) (r : List Int) : ∃ k, laws_FnDocReadBack.f k v.f0 v.f1 v.f2 v.f3 v.f4 v.f5 v.f6 v.f7 r = some true := holds_ rb_none v hv r

end Go.Proofs.YtanecebppagakaaGreatDoor.PRx.VT
