/- Printed by a program of this session (a turned copy of the printer of the kit): contracts of functions of the translation, each with the Lean function that it computes. Conditions: as each theorem states them. -/
import Derived.Test.YtpbfigeaoefcmaaDoorProg
import Derived.Test.YtpbfigeaoefcmaaDoorHW
import Derived.Test.YtpbfigeaoefcmaaDoorShelf
import Derived.Test.YtpbfigeaoefcmaaDoorIto
import Derived.Below
import Derived.Deep.Draws
import Derived.Deep.AppendLies
import Derived.Maps.AppendAt
import Derived.OwnWalk
import Derived.Laws.BytesArg
import Derived.Laws.MakeOwn
import Derived.Laws.OwnMore
import Derived.Deep.OwnRows
import Derived.Tactics
import Derived.Lib.ConvBytes
import Derived.Laws.Slices
import Derived.WalkKit
import Derived.KernelRfl
import Derived.RowKit3
import Derived.Deep.LoopGhost
import Derived.Deep.QuietTactic
import Derived.BigQuiet
import Derived.WideLaws
import Derived.Deep.DeepCutAuto
import Derived.Deep.CutBlock
import Derived.Deep.RegionHeld3
import Derived.Laws.Rows
import Derived.Lib.AppendStr
import Derived.ArgAppend
import Derived.Laws.IdiomCopy
import Derived.OrdersHeld
import Derived.Laws.BitsLemmas
import Derived.RowKit
import Derived.Test.YtpbfigeaoefcmaaDoorWWords
import Derived.Test.YtpbfigeaoefcmaaDoorWLast
import Derived.Test.YtpbfigeaoefcmaaDoorWTab
import Derived.Test.YtpbfigeaoefcmaaDoorWFour
import Derived.Test.YtpbfigeaoefcmaaDoorWQPut
import Derived.Test.YtpbfigeaoefcmaaDoorWApart
import Derived.Test.YtpbfigeaoefcmaaDoorWArr
import Derived.Test.YtpbfigeaoefcmaaDoorWZeros
import Derived.Test.YtpbfigeaoefcmaaDoorWFoot
import Derived.Test.YtpbfigeaoefcmaaDoorWKept
import Derived.Test.YtpbfigeaoefcmaaDoorWShare
import Derived.Test.YtpbfigeaoefcmaaDoorWN
import Derived.Test.YtpbfigeaoefcmaaDoorWFootNe
import Derived.Test.YtpbfigeaoefcmaaDoorWAt
import Derived.Test.YtpbfigeaoefcmaaDoorWEqStruct
import Derived.Test.YtpbfigeaoefcmaaDoorWRepsOne
import Derived.Test.YtpbfigeaoefcmaaDoorWInv
import Derived.Test.YtpbfigeaoefcmaaDoorWInvWords
import Derived.Test.YtpbfigeaoefcmaaDoorWGuard
import Derived.Test.YtpbfigeaoefcmaaDoorWNEv
import Derived.Test.YtpbfigeaoefcmaaDoorWMore
namespace Go.Proofs.YtpbfigeaoefcmaaDoor.PDt
open Go.RowKit Go.Proofs.YtpbfigeaoefcmaaDoorW.PrintWords Go.Proofs.YtpbfigeaoefcmaaDoorW.PrintLast Go.Proofs.YtpbfigeaoefcmaaDoorW.PrintMore
attribute [local go_sem] max2_int min2_int max_two min_two max_three min_three max_four min_four   -- for this text's walks alone
set_option linter.unusedVariables false
set_option linter.unusedSimpArgs false



def errW : Option Int → Value
  | none => .nilIface
  | some c => .iface 0 (.int .i64 c)
theorem errW_none : errW none = .nilIface := rfl
theorem errW_some (c : Int) : errW (some c) = .iface 0 (.int .i64 c) := rfl

theorem info5 : (Tryd.prog.info? 5).map (fun i => (i.zero, i.size, i.bytes)) = some (some (.int .u8 0), 1, 1) := by kernel_rfl
-- the values' own types

end Go.Proofs.YtpbfigeaoefcmaaDoor.PDt
