-- Written by a program of this session (wip/tools/myprint.py), over the kit's print of the loaded functions. Not trusted: Lean checks it.
import Derived.Test.YtocdnceckljnaaaProg
import Derived.Below
import Derived.Deep.Draws
import Derived.Deep.AppendLies
import Derived.Maps.AppendAt
import Derived.OwnWalk
import Derived.Laws.BytesArg
import Derived.Laws.MakeOwn
import Derived.Laws.OwnMore
import Derived.Deep.OwnRows
import Derived.Tactics
import Derived.Lib.ConvBytes
import Derived.Laws.Slices
import Derived.WalkKit
import Derived.KernelRfl
import Derived.RowKit3
import Derived.Deep.LoopGhost
import Derived.Deep.QuietTactic
import Derived.BigQuiet
import Derived.WideLaws
import Derived.Deep.DeepCutAuto
import Derived.Deep.CutBlock
import Derived.Deep.RegionHeld3
import Derived.Laws.Rows
import Derived.Lib.AppendStr
import Derived.ArgAppend
import Derived.Laws.IdiomCopy
import Derived.OrdersHeld
import Derived.Laws.BitsLemmas
import Derived.RowKit
import Derived.Test.YtocdnceckljnaaaShelf
import Derived.Test.YtocdnceckljnaaaWWords
import Derived.Test.YtocdnceckljnaaaWLast
import Derived.Test.YtocdnceckljnaaaWTab
import Derived.Test.YtocdnceckljnaaaWFour
import Derived.Test.YtocdnceckljnaaaWQPut
import Derived.Test.YtocdnceckljnaaaWApart
import Derived.Test.YtocdnceckljnaaaWArr
import Derived.Test.YtocdnceckljnaaaWZeros
import Derived.Test.YtocdnceckljnaaaWFoot
import Derived.Test.YtocdnceckljnaaaWKept
import Derived.Test.YtocdnceckljnaaaWShare
import Derived.Test.YtocdnceckljnaaaWN
import Derived.Test.YtocdnceckljnaaaWFootNe
import Derived.Test.YtocdnceckljnaaaWAt
import Derived.Test.YtocdnceckljnaaaWEqStruct
import Derived.Test.YtocdnceckljnaaaWRepsOne
import Derived.Test.YtocdnceckljnaaaWInv
import Derived.Test.YtocdnceckljnaaaWInvWords
import Derived.Test.YtocdnceckljnaaaWGuard
import Derived.Test.YtocdnceckljnaaaWNEv
import Derived.Test.YtocdnceckljnaaaWMore
namespace Go.Proofs.Ytocdnceckljnaaa.QNT
open Go.RowKit Go.Proofs.YtocdnceckljnaaaW.PrintWords Go.Proofs.YtocdnceckljnaaaW.PrintLast Go.Proofs.YtocdnceckljnaaaW.PrintMore
attribute [local go_sem] max2_int min2_int max_two min_two max_three min_three max_four min_four   -- for this text's walks alone
set_option linter.unusedVariables false
set_option linter.unusedSimpArgs false



def errW : Option Int → Value
  | none => .nilIface
  | some c => .iface 0 (.int .i64 c)
theorem errW_none : errW none = .nilIface := rfl
theorem errW_some (c : Int) : errW (some c) = .iface 0 (.int .i64 c) := rfl

theorem info5 : (Try.prog.info? 5).map (fun i => (i.zero, i.size, i.bytes)) = some (some (.int .u8 0), 1, 1) := by kernel_rfl
-- the values' own types

end Go.Proofs.Ytocdnceckljnaaa.QNT
