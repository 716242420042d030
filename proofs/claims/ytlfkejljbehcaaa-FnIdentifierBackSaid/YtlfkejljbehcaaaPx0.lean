-- Written by the program wip/myprint.py of this session, over the kit's print of the translation. Lean checks it.
import Derived.Test.YtlfkejljbehcaaaProg
import Derived.Below
import Derived.Deep.Draws
import Derived.Deep.AppendLies
import Derived.Maps.AppendAt
import Derived.OwnWalk
import Derived.Laws.BytesArg
import Derived.Laws.MakeOwn
import Derived.Laws.OwnMore
import Derived.Deep.OwnRows
import Derived.Tactics
import Derived.Lib.ConvBytes
import Derived.Laws.Slices
import Derived.WalkKit
import Derived.KernelRfl
import Derived.RowKit3
import Derived.Deep.LoopGhost
import Derived.Deep.QuietTactic
import Derived.BigQuiet
import Derived.WideLaws
import Derived.Deep.DeepCutAuto
import Derived.Deep.CutBlock
import Derived.Deep.RegionHeld3
import Derived.Laws.Rows
import Derived.Lib.AppendStr
import Derived.ArgAppend
import Derived.Laws.IdiomCopy
import Derived.OrdersHeld
import Derived.Laws.BitsLemmas
import Derived.RowKit
import Derived.Test.YtlfkejljbehcaaaWWords
import Derived.Test.YtlfkejljbehcaaaWLast
import Derived.Test.YtlfkejljbehcaaaWTab
import Derived.Test.YtlfkejljbehcaaaWFour
import Derived.Test.YtlfkejljbehcaaaWQPut
import Derived.Test.YtlfkejljbehcaaaWApart
import Derived.Test.YtlfkejljbehcaaaWArr
import Derived.Test.YtlfkejljbehcaaaWZeros
import Derived.Test.YtlfkejljbehcaaaWFoot
import Derived.Test.YtlfkejljbehcaaaWKept
import Derived.Test.YtlfkejljbehcaaaWShare
import Derived.Test.YtlfkejljbehcaaaWN
import Derived.Test.YtlfkejljbehcaaaWFootNe
import Derived.Test.YtlfkejljbehcaaaWAt
import Derived.Test.YtlfkejljbehcaaaWEqStruct
import Derived.Test.YtlfkejljbehcaaaWRepsOne
import Derived.Test.YtlfkejljbehcaaaWInv
import Derived.Test.YtlfkejljbehcaaaWInvWords
import Derived.Test.YtlfkejljbehcaaaWGuard
import Derived.Test.YtlfkejljbehcaaaWNEv
import Derived.Test.YtlfkejljbehcaaaWMore
namespace Go.Proofs.Ytlfkejljbehcaaa.P
open Go.RowKit Go.Proofs.YtlfkejljbehcaaaW.PrintWords Go.Proofs.YtlfkejljbehcaaaW.PrintLast Go.Proofs.YtlfkejljbehcaaaW.PrintMore
attribute [local go_sem] max2_int min2_int max_two min_two max_three min_three max_four min_four   -- for this text's walks alone
set_option linter.unusedVariables false
set_option linter.unusedSimpArgs false



def errW : Option Int → Value
  | none => .nilIface
  | some c => .iface 0 (.int .i64 c)
theorem errW_none : errW none = .nilIface := rfl
theorem errW_some (c : Int) : errW (some c) = .iface 0 (.int .i64 c) := rfl

theorem info5 : (Try.prog.info? 5).map (fun i => (i.zero, i.size, i.bytes)) = some (some (.int .u8 0), 1, 1) := by kernel_rfl
-- the values' own types

end Go.Proofs.Ytlfkejljbehcaaa.P
