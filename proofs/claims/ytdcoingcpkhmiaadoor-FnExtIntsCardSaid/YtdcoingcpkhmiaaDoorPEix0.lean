/- Printed by a program of this session (a turned copy of the printer of the kit): contracts of functions of the translation, each with the Lean function that it computes. Conditions: as each theorem states them. -/
import Derived.Test.YtdcoingcpkhmiaaDoorProg
import Derived.Test.YtdcoingcpkhmiaaDoorHW
import Derived.Test.YtdcoingcpkhmiaaDoorEin
import Derived.Below
import Derived.Deep.Draws
import Derived.Deep.AppendLies
import Derived.Maps.AppendAt
import Derived.OwnWalk
import Derived.Laws.BytesArg
import Derived.Laws.MakeOwn
import Derived.Laws.OwnMore
import Derived.Deep.OwnRows
import Derived.Tactics
import Derived.Lib.ConvBytes
import Derived.Laws.Slices
import Derived.WalkKit
import Derived.KernelRfl
import Derived.RowKit3
import Derived.Deep.LoopGhost
import Derived.Deep.QuietTactic
import Derived.BigQuiet
import Derived.WideLaws
import Derived.Deep.DeepCutAuto
import Derived.Deep.CutBlock
import Derived.Deep.RegionHeld3
import Derived.Laws.Rows
import Derived.Lib.AppendStr
import Derived.ArgAppend
import Derived.Laws.IdiomCopy
import Derived.OrdersHeld
import Derived.Laws.BitsLemmas
import Derived.RowKit
import Derived.Test.YtdcoingcpkhmiaaDoorWWords
import Derived.Test.YtdcoingcpkhmiaaDoorWLast
import Derived.Test.YtdcoingcpkhmiaaDoorWTab
import Derived.Test.YtdcoingcpkhmiaaDoorWFour
import Derived.Test.YtdcoingcpkhmiaaDoorWQPut
import Derived.Test.YtdcoingcpkhmiaaDoorWApart
import Derived.Test.YtdcoingcpkhmiaaDoorWArr
import Derived.Test.YtdcoingcpkhmiaaDoorWZeros
import Derived.Test.YtdcoingcpkhmiaaDoorWFoot
import Derived.Test.YtdcoingcpkhmiaaDoorWKept
import Derived.Test.YtdcoingcpkhmiaaDoorWShare
import Derived.Test.YtdcoingcpkhmiaaDoorWN
import Derived.Test.YtdcoingcpkhmiaaDoorWFootNe
import Derived.Test.YtdcoingcpkhmiaaDoorWAt
import Derived.Test.YtdcoingcpkhmiaaDoorWEqStruct
import Derived.Test.YtdcoingcpkhmiaaDoorWRepsOne
import Derived.Test.YtdcoingcpkhmiaaDoorWInv
import Derived.Test.YtdcoingcpkhmiaaDoorWInvWords
import Derived.Test.YtdcoingcpkhmiaaDoorWGuard
import Derived.Test.YtdcoingcpkhmiaaDoorWNEv
import Derived.Test.YtdcoingcpkhmiaaDoorWMore
namespace Go.Proofs.YtdcoingcpkhmiaaDoor.PEi
open Go.RowKit Go.Proofs.YtdcoingcpkhmiaaDoorW.PrintWords Go.Proofs.YtdcoingcpkhmiaaDoorW.PrintLast Go.Proofs.YtdcoingcpkhmiaaDoorW.PrintMore
attribute [local go_sem] max2_int min2_int max_two min_two max_three min_three max_four min_four   -- for this text's walks alone
set_option linter.unusedVariables false
set_option linter.unusedSimpArgs false



def errW : Option Int → Value
  | none => .nilIface
  | some c => .iface 47 (.int .i64 c)
theorem errW_none : errW none = .nilIface := rfl
theorem errW_some (c : Int) : errW (some c) = .iface 47 (.int .i64 c) := rfl

-- the values' own types

end Go.Proofs.YtdcoingcpkhmiaaDoor.PEi
