-- Written by the program wip/myprint.py of this session, over the kit's print of the translation. Lean checks it.
import Derived.Test.YthcikkjjegfblacDoorProg
import Derived.Below
import Derived.Deep.Draws
import Derived.Deep.AppendLies
import Derived.Maps.AppendAt
import Derived.OwnWalk
import Derived.Laws.BytesArg
import Derived.Laws.MakeOwn
import Derived.Laws.OwnMore
import Derived.Deep.OwnRows
import Derived.Tactics
import Derived.Lib.ConvBytes
import Derived.Laws.Slices
import Derived.WalkKit
import Derived.KernelRfl
import Derived.RowKit3
import Derived.Deep.LoopGhost
import Derived.Deep.QuietTactic
import Derived.BigQuiet
import Derived.WideLaws
import Derived.Deep.DeepCutAuto
import Derived.Deep.CutBlock
import Derived.Deep.RegionHeld3
import Derived.Laws.Rows
import Derived.Lib.AppendStr
import Derived.ArgAppend
import Derived.Laws.IdiomCopy
import Derived.OrdersHeld
import Derived.Laws.BitsLemmas
import Derived.RowKit
import Derived.Test.YthcikkjjegfblacDoorWWords
import Derived.Test.YthcikkjjegfblacDoorWLast
import Derived.Test.YthcikkjjegfblacDoorWTab
import Derived.Test.YthcikkjjegfblacDoorWFour
import Derived.Test.YthcikkjjegfblacDoorWQPut
import Derived.Test.YthcikkjjegfblacDoorWApart
import Derived.Test.YthcikkjjegfblacDoorWArr
import Derived.Test.YthcikkjjegfblacDoorWZeros
import Derived.Test.YthcikkjjegfblacDoorWFoot
import Derived.Test.YthcikkjjegfblacDoorWKept
import Derived.Test.YthcikkjjegfblacDoorWShare
import Derived.Test.YthcikkjjegfblacDoorWN
import Derived.Test.YthcikkjjegfblacDoorWFootNe
import Derived.Test.YthcikkjjegfblacDoorWAt
import Derived.Test.YthcikkjjegfblacDoorWEqStruct
import Derived.Test.YthcikkjjegfblacDoorWRepsOne
import Derived.Test.YthcikkjjegfblacDoorWInv
import Derived.Test.YthcikkjjegfblacDoorWInvWords
import Derived.Test.YthcikkjjegfblacDoorWGuard
import Derived.Test.YthcikkjjegfblacDoorWNEv
import Derived.Test.YthcikkjjegfblacDoorWMore
namespace Go.Proofs.YthcikkjjegfblacDoor.P
open Go.RowKit Go.Proofs.YthcikkjjegfblacDoorW.PrintWords Go.Proofs.YthcikkjjegfblacDoorW.PrintLast Go.Proofs.YthcikkjjegfblacDoorW.PrintMore
attribute [local go_sem] max2_int min2_int max_two min_two max_three min_three max_four min_four   -- for this text's walks alone
set_option linter.unusedVariables false
set_option linter.unusedSimpArgs false



def errW : Option Int → Value
  | none => .nilIface
  | some c => .iface 109 (.int .i64 c)
theorem errW_none : errW none = .nilIface := rfl
theorem errW_some (c : Int) : errW (some c) = .iface 109 (.int .i64 c) := rfl

theorem info9 : (Tryd.prog.info? 9).map (fun i => (i.zero, i.size, i.bytes)) = some (some (.string ⟨#[]⟩), 1, 16) := by kernel_rfl
-- the values' own types

end Go.Proofs.YthcikkjjegfblacDoor.P
