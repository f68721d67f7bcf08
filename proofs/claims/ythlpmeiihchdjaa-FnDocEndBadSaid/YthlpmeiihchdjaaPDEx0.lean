/- Printed by a program of this session (a turned copy of the printer of the kit): contracts of functions of the translation, each with the Lean function that it computes. Conditions: as each theorem states them. -/
import Derived.Test.YthlpmeiihchdjaaProg
import Derived.Test.YthlpmeiihchdjaaHW
import Derived.Below
import Derived.Deep.Draws
import Derived.Deep.AppendLies
import Derived.Maps.AppendAt
import Derived.OwnWalk
import Derived.Laws.BytesArg
import Derived.Laws.MakeOwn
import Derived.Laws.OwnMore
import Derived.Deep.OwnRows
import Derived.Tactics
import Derived.Lib.ConvBytes
import Derived.Laws.Slices
import Derived.WalkKit
import Derived.KernelRfl
import Derived.RowKit3
import Derived.Deep.LoopGhost
import Derived.Deep.QuietTactic
import Derived.BigQuiet
import Derived.WideLaws
import Derived.Deep.DeepCutAuto
import Derived.Deep.CutBlock
import Derived.Deep.RegionHeld3
import Derived.Laws.Rows
import Derived.Lib.AppendStr
import Derived.ArgAppend
import Derived.Laws.IdiomCopy
import Derived.OrdersHeld
import Derived.Laws.BitsLemmas
import Derived.RowKit
import Derived.Test.YthlpmeiihchdjaaWWords
import Derived.Test.YthlpmeiihchdjaaWLast
import Derived.Test.YthlpmeiihchdjaaWTab
import Derived.Test.YthlpmeiihchdjaaWFour
import Derived.Test.YthlpmeiihchdjaaWQPut
import Derived.Test.YthlpmeiihchdjaaWApart
import Derived.Test.YthlpmeiihchdjaaWArr
import Derived.Test.YthlpmeiihchdjaaWZeros
import Derived.Test.YthlpmeiihchdjaaWFoot
import Derived.Test.YthlpmeiihchdjaaWKept
import Derived.Test.YthlpmeiihchdjaaWShare
import Derived.Test.YthlpmeiihchdjaaWN
import Derived.Test.YthlpmeiihchdjaaWFootNe
import Derived.Test.YthlpmeiihchdjaaWAt
import Derived.Test.YthlpmeiihchdjaaWEqStruct
import Derived.Test.YthlpmeiihchdjaaWRepsOne
import Derived.Test.YthlpmeiihchdjaaWInv
import Derived.Test.YthlpmeiihchdjaaWInvWords
import Derived.Test.YthlpmeiihchdjaaWGuard
import Derived.Test.YthlpmeiihchdjaaWNEv
import Derived.Test.YthlpmeiihchdjaaWMore
namespace Go.Proofs.Ythlpmeiihchdjaa.PDE
open Go.RowKit Go.Proofs.YthlpmeiihchdjaaW.PrintWords Go.Proofs.YthlpmeiihchdjaaW.PrintLast Go.Proofs.YthlpmeiihchdjaaW.PrintMore
attribute [local go_sem] max2_int min2_int max_two min_two max_three min_three max_four min_four   -- for this text's walks alone
set_option linter.unusedVariables false
set_option linter.unusedSimpArgs false



def errW : Option Int → Value
  | none => .nilIface
  | some c => .iface 0 (.int .i64 c)
theorem errW_none : errW none = .nilIface := rfl
theorem errW_some (c : Int) : errW (some c) = .iface 0 (.int .i64 c) := rfl

theorem info5 : (Try.prog.info? 5).map (fun i => (i.zero, i.size, i.bytes)) = some (some (.int .u8 0), 1, 1) := by kernel_rfl
-- the values' own types

end Go.Proofs.Ythlpmeiihchdjaa.PDE
