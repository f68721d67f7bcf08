/- Printed by a program of this session (a turned copy of the printer of the kit): contracts of functions of the translation, each with the Lean function that it computes. Conditions: as each theorem states them. -/
import Derived.Test.YthlpmeiihchdjaaDoorProg
import Derived.Test.YthlpmeiihchdjaaDoorHW
import Derived.Below
import Derived.Deep.Draws
import Derived.Deep.AppendLies
import Derived.Maps.AppendAt
import Derived.OwnWalk
import Derived.Laws.BytesArg
import Derived.Laws.MakeOwn
import Derived.Laws.OwnMore
import Derived.Deep.OwnRows
import Derived.Tactics
import Derived.Lib.ConvBytes
import Derived.Laws.Slices
import Derived.WalkKit
import Derived.KernelRfl
import Derived.RowKit3
import Derived.Deep.LoopGhost
import Derived.Deep.QuietTactic
import Derived.BigQuiet
import Derived.WideLaws
import Derived.Deep.DeepCutAuto
import Derived.Deep.CutBlock
import Derived.Deep.RegionHeld3
import Derived.Laws.Rows
import Derived.Lib.AppendStr
import Derived.ArgAppend
import Derived.Laws.IdiomCopy
import Derived.OrdersHeld
import Derived.Laws.BitsLemmas
import Derived.RowKit
import Derived.Test.YthlpmeiihchdjaaDoorWWords
import Derived.Test.YthlpmeiihchdjaaDoorWLast
import Derived.Test.YthlpmeiihchdjaaDoorWTab
import Derived.Test.YthlpmeiihchdjaaDoorWFour
import Derived.Test.YthlpmeiihchdjaaDoorWQPut
import Derived.Test.YthlpmeiihchdjaaDoorWApart
import Derived.Test.YthlpmeiihchdjaaDoorWArr
import Derived.Test.YthlpmeiihchdjaaDoorWZeros
import Derived.Test.YthlpmeiihchdjaaDoorWFoot
import Derived.Test.YthlpmeiihchdjaaDoorWKept
import Derived.Test.YthlpmeiihchdjaaDoorWShare
import Derived.Test.YthlpmeiihchdjaaDoorWN
import Derived.Test.YthlpmeiihchdjaaDoorWFootNe
import Derived.Test.YthlpmeiihchdjaaDoorWAt
import Derived.Test.YthlpmeiihchdjaaDoorWEqStruct
import Derived.Test.YthlpmeiihchdjaaDoorWRepsOne
import Derived.Test.YthlpmeiihchdjaaDoorWInv
import Derived.Test.YthlpmeiihchdjaaDoorWInvWords
import Derived.Test.YthlpmeiihchdjaaDoorWGuard
import Derived.Test.YthlpmeiihchdjaaDoorWNEv
import Derived.Test.YthlpmeiihchdjaaDoorWMore
namespace Go.Proofs.YthlpmeiihchdjaaDoor.PZ
open Go.RowKit Go.Proofs.YthlpmeiihchdjaaDoorW.PrintWords Go.Proofs.YthlpmeiihchdjaaDoorW.PrintLast Go.Proofs.YthlpmeiihchdjaaDoorW.PrintMore
attribute [local go_sem] max2_int min2_int max_two min_two max_three min_three max_four min_four   -- for this text's walks alone
set_option linter.unusedVariables false
set_option linter.unusedSimpArgs false



def errW : Option Int → Value
  | none => .nilIface
  | some c => .iface 0 (.int .i64 c)
theorem errW_none : errW none = .nilIface := rfl
theorem errW_some (c : Int) : errW (some c) = .iface 0 (.int .i64 c) := rfl

theorem info5 : (Tryd.prog.info? 5).map (fun i => (i.zero, i.size, i.bytes)) = some (some (.int .u8 0), 1, 1) := by kernel_rfl
-- the values' own types

end Go.Proofs.YthlpmeiihchdjaaDoor.PZ
