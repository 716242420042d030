-- Written by the program wip/myprint.py of this session, over the kit's print of the translation. Lean checks it.
import Derived.Test.YtlfkejljbehcaabProg
import Derived.Below
import Derived.Deep.Draws
import Derived.Deep.AppendLies
import Derived.Maps.AppendAt
import Derived.OwnWalk
import Derived.Laws.BytesArg
import Derived.Laws.MakeOwn
import Derived.Laws.OwnMore
import Derived.Deep.OwnRows
import Derived.Tactics
import Derived.Lib.ConvBytes
import Derived.Laws.Slices
import Derived.WalkKit
import Derived.KernelRfl
import Derived.RowKit3
import Derived.Deep.LoopGhost
import Derived.Deep.QuietTactic
import Derived.BigQuiet
import Derived.WideLaws
import Derived.Deep.DeepCutAuto
import Derived.Deep.CutBlock
import Derived.Deep.RegionHeld3
import Derived.Laws.Rows
import Derived.Lib.AppendStr
import Derived.ArgAppend
import Derived.Laws.IdiomCopy
import Derived.OrdersHeld
import Derived.Laws.BitsLemmas
import Derived.RowKit
import Derived.Test.YtlfkejljbehcaabWWords
import Derived.Test.YtlfkejljbehcaabWLast
import Derived.Test.YtlfkejljbehcaabWTab
import Derived.Test.YtlfkejljbehcaabWFour
import Derived.Test.YtlfkejljbehcaabWQPut
import Derived.Test.YtlfkejljbehcaabWApart
import Derived.Test.YtlfkejljbehcaabWArr
import Derived.Test.YtlfkejljbehcaabWZeros
import Derived.Test.YtlfkejljbehcaabWFoot
import Derived.Test.YtlfkejljbehcaabWKept
import Derived.Test.YtlfkejljbehcaabWShare
import Derived.Test.YtlfkejljbehcaabWN
import Derived.Test.YtlfkejljbehcaabWFootNe
import Derived.Test.YtlfkejljbehcaabWAt
import Derived.Test.YtlfkejljbehcaabWEqStruct
import Derived.Test.YtlfkejljbehcaabWRepsOne
import Derived.Test.YtlfkejljbehcaabWInv
import Derived.Test.YtlfkejljbehcaabWInvWords
import Derived.Test.YtlfkejljbehcaabWGuard
import Derived.Test.YtlfkejljbehcaabWNEv
import Derived.Test.YtlfkejljbehcaabWMore
namespace Go.Proofs.Ytlfkejljbehcaab.P
open Go.RowKit Go.Proofs.YtlfkejljbehcaabW.PrintWords Go.Proofs.YtlfkejljbehcaabW.PrintLast Go.Proofs.YtlfkejljbehcaabW.PrintMore
attribute [local go_sem] max2_int min2_int max_two min_two max_three min_three max_four min_four   -- for this text's walks alone
set_option linter.unusedVariables false
set_option linter.unusedSimpArgs false



def errW : Option Int → Value
  | none => .nilIface
  | some c => .iface 0 (.int .i64 c)
theorem errW_none : errW none = .nilIface := rfl
theorem errW_some (c : Int) : errW (some c) = .iface 0 (.int .i64 c) := rfl

-- the values' own types

end Go.Proofs.Ytlfkejljbehcaab.P
