-- Written by a program of this session (wip/tools/myprint.py), over the kit's print of the loaded functions. Not trusted: Lean checks it.
import Derived.Test.YtocdnceckljnaaaDoorProg
import Derived.Below
import Derived.Deep.Draws
import Derived.Deep.AppendLies
import Derived.Maps.AppendAt
import Derived.OwnWalk
import Derived.Laws.BytesArg
import Derived.Laws.MakeOwn
import Derived.Laws.OwnMore
import Derived.Deep.OwnRows
import Derived.Tactics
import Derived.Lib.ConvBytes
import Derived.Laws.Slices
import Derived.WalkKit
import Derived.KernelRfl
import Derived.RowKit3
import Derived.Deep.LoopGhost
import Derived.Deep.QuietTactic
import Derived.BigQuiet
import Derived.WideLaws
import Derived.Deep.DeepCutAuto
import Derived.Deep.CutBlock
import Derived.Deep.RegionHeld3
import Derived.Laws.Rows
import Derived.Lib.AppendStr
import Derived.ArgAppend
import Derived.Laws.IdiomCopy
import Derived.OrdersHeld
import Derived.Laws.BitsLemmas
import Derived.RowKit
import Derived.Test.YtocdnceckljnaaaDoorShelf
import Derived.Lib.SlBytesConst
import Derived.Lib.Strings
import Derived.Test.YtocdnceckljnaaaDoorWWords
import Derived.Test.YtocdnceckljnaaaDoorWLast
import Derived.Test.YtocdnceckljnaaaDoorWTab
import Derived.Test.YtocdnceckljnaaaDoorWFour
import Derived.Test.YtocdnceckljnaaaDoorWQPut
import Derived.Test.YtocdnceckljnaaaDoorWApart
import Derived.Test.YtocdnceckljnaaaDoorWArr
import Derived.Test.YtocdnceckljnaaaDoorWZeros
import Derived.Test.YtocdnceckljnaaaDoorWFoot
import Derived.Test.YtocdnceckljnaaaDoorWKept
import Derived.Test.YtocdnceckljnaaaDoorWShare
import Derived.Test.YtocdnceckljnaaaDoorWN
import Derived.Test.YtocdnceckljnaaaDoorWFootNe
import Derived.Test.YtocdnceckljnaaaDoorWAt
import Derived.Test.YtocdnceckljnaaaDoorWEqStruct
import Derived.Test.YtocdnceckljnaaaDoorWRepsOne
import Derived.Test.YtocdnceckljnaaaDoorWInv
import Derived.Test.YtocdnceckljnaaaDoorWInvWords
import Derived.Test.YtocdnceckljnaaaDoorWGuard
import Derived.Test.YtocdnceckljnaaaDoorWNEv
import Derived.Test.YtocdnceckljnaaaDoorWMore
namespace Go.Proofs.YtocdnceckljnaaaDoor.QPB
open Go.RowKit Go.Proofs.YtocdnceckljnaaaDoorW.PrintWords Go.Proofs.YtocdnceckljnaaaDoorW.PrintLast Go.Proofs.YtocdnceckljnaaaDoorW.PrintMore
attribute [local go_sem] max2_int min2_int max_two min_two max_three min_three max_four min_four   -- for this text's walks alone
set_option linter.unusedVariables false
set_option linter.unusedSimpArgs false



def errW : Option Int → Value
  | none => .nilIface
  | some c => .iface 0 (.int .i64 c)
theorem errW_none : errW none = .nilIface := rfl
theorem errW_some (c : Int) : errW (some c) = .iface 0 (.int .i64 c) := rfl

theorem info5 : (Tryd.prog.info? 5).map (fun i => (i.zero, i.size, i.bytes)) = some (some (.int .u8 0), 1, 1) := by kernel_rfl
-- the values' own types

end Go.Proofs.YtocdnceckljnaaaDoor.QPB
