/-
  No cell of these rows narrows 'for every input' (looked for: loops, veiled, ifaces, maps, wideKeys, modest, calm, conditions, laid).
  DERIVED. THE GIVEN ROWS OF THIS SEAT. 3 by the template 'for every input the law returns true; each argument reads behind the call as it read before'; 0 by the template 'total and deterministic' (their statements: YtlfkejljbehcaabTotals.lean).
  GIVEN WITH THE SEED: the statements are not yours to turn. If you find one false, say at which input.
  Laid BY PROGRAM, IN A SANDBOX (cutbox-rows.mjs): the forced cells as the released guide's own fill.sh prints them over the translation 347dce2a77d0cac0… (all of the seat's roots in one cut). By AI agents, Wed Nov 11 2026. No macro, syntax, notation, axiom, sorry.
-/
import Derived.Test.YtlfkejljbehcaabChecked
import GoSem.Claim
import GoSem.ClaimJoined
import GoSem.ClaimMapViews
import Derived.JoinedTies
import Derived.KernelRfl
namespace Go.Proofs.Ytlfkejljbehcaab
/- THE CELL 'sum', in the pinned program and in every row, IS THE sha256 OF THE DUMP (.gsa) THAT YtlfkejljbehcaabProg.lean LOADS. Nothing in Lean hashes anything: it is a label: what it is worth is what the hold of that sum in a sandbox is worth. -/
noncomputable def Try.pinned : Pinned := { name := "ytlfkejljbehcaab", sum := "347dce2a77d0cac0521ce1438fdfa3409dd960ee59a673e0c0768a5e3f7758cc", checked := Try.checked }
namespace Rows
def none {H : Type} : Left H := { results := [], args := [] }

/-- 'laws.FnLiteral': WHATEVER THE INPUT: true; the input reads as it did. -/
def fnLiteralSpec : ChangeSpec := { name := "fnLiteral", fn := fun _ => fun
  | [d] => { results := [.lit (.bool true)], args := [d] }
  | _ => none }
def fnLiteralRow : OpenClaim := { program := "ytlfkejljbehcaab", sum := "347dce2a77d0cac0521ce1438fdfa3409dd960ee59a673e0c0768a5e3f7758cc", func := "given.example/pub-engrossment/laws.FnLiteral", spec := "fnLiteral", apart := false }
def FnLiteralSaid : Prop := fnLiteralRow.holds Try.pinned (OpenSpec.ofChange fnLiteralSpec)

/-- ITS FALSE NEIGHBOUR: 'it returns false'. Refute it at one input. -/
def fnLiteralWrong : ChangeSpec := { name := "fnLiteral", fn := fun _ => fun
  | [d] => { results := [.lit (.bool false)], args := [d] }
  | _ => none }
def FnLiteralWrongFalsely : Prop := fnLiteralRow.holds Try.pinned (OpenSpec.ofChange fnLiteralWrong)

/-- 'laws.FnLiteralBack': WHATEVER THE INPUT: true; the input reads as it did. -/
def fnLiteralBackSpec : ChangeSpec := { name := "fnLiteralBack", fn := fun _ => fun
  | [d] => { results := [.lit (.bool true)], args := [d] }
  | _ => none }
def fnLiteralBackRow : OpenClaim := { program := "ytlfkejljbehcaab", sum := "347dce2a77d0cac0521ce1438fdfa3409dd960ee59a673e0c0768a5e3f7758cc", func := "given.example/pub-engrossment/laws.FnLiteralBack", spec := "fnLiteralBack", apart := false }
def FnLiteralBackSaid : Prop := fnLiteralBackRow.holds Try.pinned (OpenSpec.ofChange fnLiteralBackSpec)

/-- ITS FALSE NEIGHBOUR: 'it returns false'. Refute it at one input. -/
def fnLiteralBackWrong : ChangeSpec := { name := "fnLiteralBack", fn := fun _ => fun
  | [d] => { results := [.lit (.bool false)], args := [d] }
  | _ => none }
def FnLiteralBackWrongFalsely : Prop := fnLiteralBackRow.holds Try.pinned (OpenSpec.ofChange fnLiteralBackWrong)

/-- 'laws.FnLiteralParts': WHATEVER THE INPUT: true; the input reads as it did. -/
def fnLiteralPartsSpec : ChangeSpec := { name := "fnLiteralParts", fn := fun _ => fun
  | [d1, d2] => { results := [.lit (.bool true)], args := [d1, d2] }
  | _ => none }
def fnLiteralPartsRow : OpenClaim := { program := "ytlfkejljbehcaab", sum := "347dce2a77d0cac0521ce1438fdfa3409dd960ee59a673e0c0768a5e3f7758cc", func := "given.example/pub-engrossment/laws.FnLiteralParts", spec := "fnLiteralParts", apart := false }
def FnLiteralPartsSaid : Prop := fnLiteralPartsRow.holds Try.pinned (OpenSpec.ofChange fnLiteralPartsSpec)

/-- ITS FALSE NEIGHBOUR: 'it returns false'. Refute it at one input. -/
def fnLiteralPartsWrong : ChangeSpec := { name := "fnLiteralParts", fn := fun _ => fun
  | [d1, d2] => { results := [.lit (.bool false)], args := [d1, d2] }
  | _ => none }
def FnLiteralPartsWrongFalsely : Prop := fnLiteralPartsRow.holds Try.pinned (OpenSpec.ofChange fnLiteralPartsWrong)

/- THE SECOND FORM. 'bulk': how many values and letters a reading holds, each counted each time it is reached (what is shared counts as often as it is met; a slice's spare places count too). A statement '..UptoSaid' is the law's where the arguments, and the package variables that the reading takes, are together of bulk at most 1048576: NARROWER than '..Said'. Prove '..Said' where nothing that the law and all that it calls make is longer than what came in: it says more and counts as full. Else prove '..UptoSaid'. A law counts once. -/
mutual
def uptoBulk {H : Type} : DataW H → Nat
  | .lit (.string bytes) => bytes.length + 1
  | .lit _ => 1
  | .nil => 1
  | .ptr d => uptoBulk d + 1
  | .slice elems spare => uptoBulkAll elems + uptoBulkAll spare + 1
  | .agg parts => uptoBulkAll parts + 1
  | .iface _ d => uptoBulk d + 1
  | .map entries => uptoBulkEntries entries + 1
  | .held _ => 1
def uptoBulkAll {H : Type} : List (DataW H) → Nat
  | [] => 0
  | d :: r => uptoBulk d + uptoBulkAll r
def uptoBulkEntries {H : Type} : List (Lit × DataW H) → Nat
  | [] => 0
  | x :: r => uptoBulkEntry x + uptoBulkEntries r
def uptoBulkEntry {H : Type} : Lit × DataW H → Nat
  | (.string bytes, d) => bytes.length + uptoBulk d + 1
  | (_, d) => uptoBulk d + 1
 end
def uptoSmall : (H : Type) → List (DataW H) → Bool := fun _ ds => decide (uptoBulkAll ds ≤ 1048576)
def OpenSpec.upto (s : _root_.Go.ChangeSpec) : _root_.Go.OpenSpec := { _root_.Go.OpenSpec.ofChange s with cond := some uptoSmall }

/-- 'laws.FnLiteral', WHERE WHAT IT READS IS OF BULK AT MOST 1048576: true; the input reads as it did. -/
def fnLiteralUptoRow : OpenClaim := { program := "ytlfkejljbehcaab", sum := "347dce2a77d0cac0521ce1438fdfa3409dd960ee59a673e0c0768a5e3f7758cc", func := "given.example/pub-engrossment/laws.FnLiteral", spec := "fnLiteral", apart := false, narrowed := true }
def FnLiteralUptoSaid : Prop := fnLiteralUptoRow.holds Try.pinned (OpenSpec.upto fnLiteralSpec)

/-- 'laws.FnLiteralBack', WHERE WHAT IT READS IS OF BULK AT MOST 1048576: true; the input reads as it did. -/
def fnLiteralBackUptoRow : OpenClaim := { program := "ytlfkejljbehcaab", sum := "347dce2a77d0cac0521ce1438fdfa3409dd960ee59a673e0c0768a5e3f7758cc", func := "given.example/pub-engrossment/laws.FnLiteralBack", spec := "fnLiteralBack", apart := false, narrowed := true }
def FnLiteralBackUptoSaid : Prop := fnLiteralBackUptoRow.holds Try.pinned (OpenSpec.upto fnLiteralBackSpec)

/-- 'laws.FnLiteralParts', WHERE WHAT IT READS IS OF BULK AT MOST 1048576: true; the input reads as it did. -/
def fnLiteralPartsUptoRow : OpenClaim := { program := "ytlfkejljbehcaab", sum := "347dce2a77d0cac0521ce1438fdfa3409dd960ee59a673e0c0768a5e3f7758cc", func := "given.example/pub-engrossment/laws.FnLiteralParts", spec := "fnLiteralParts", apart := false, narrowed := true }
def FnLiteralPartsUptoSaid : Prop := fnLiteralPartsUptoRow.holds Try.pinned (OpenSpec.upto fnLiteralPartsSpec)

end Rows
end Go.Proofs.Ytlfkejljbehcaab
