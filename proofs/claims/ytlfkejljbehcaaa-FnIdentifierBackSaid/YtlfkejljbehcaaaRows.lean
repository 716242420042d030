/-
  No cell of these rows narrows 'for every input' (looked for: loops, veiled, ifaces, maps, wideKeys, modest, calm, conditions, laid).
  DERIVED. THE GIVEN ROWS OF THIS SEAT. 6 by the template 'for every input the law returns true; each argument reads behind the call as it read before'; 0 by the template 'total and deterministic' (their statements: YtlfkejljbehcaaaTotals.lean).
  GIVEN WITH THE SEED: the statements are not yours to turn. If you find one false, say at which input.
  Laid BY PROGRAM, IN A SANDBOX (cutbox-rows.mjs): the forced cells as the released guide's own fill.sh prints them over the translation 85fca6d5561ce0c7… (all of the seat's roots in one cut). By AI agents, Wed Nov 11 2026. No macro, syntax, notation, axiom, sorry.
-/
import Derived.Test.YtlfkejljbehcaaaChecked
import GoSem.Claim
import GoSem.ClaimJoined
import GoSem.ClaimMapViews
import Derived.JoinedTies
import Derived.KernelRfl
namespace Go.Proofs.Ytlfkejljbehcaaa
/- THE CELL 'sum', in the pinned program and in every row, IS THE sha256 OF THE DUMP (.gsa) THAT YtlfkejljbehcaaaProg.lean LOADS. Nothing in Lean hashes anything: it is a label: what it is worth is what the hold of that sum in a sandbox is worth. -/
noncomputable def Try.pinned : Pinned := { name := "ytlfkejljbehcaaa", sum := "85fca6d5561ce0c750d73887f3393ceee34cb6d51c4e1390e7ea5acfdd41e989", checked := Try.checked }
namespace Rows
def none {H : Type} : Left H := { results := [], args := [] }

/-- 'laws.FnYes': WHATEVER THE INPUT: true; the input reads as it did. -/
def fnYesSpec : ChangeSpec := { name := "fnYes", fn := fun _ => fun
  | [d] => { results := [.lit (.bool true)], args := [d] }
  | _ => none }
def fnYesRow : OpenClaim := { program := "ytlfkejljbehcaaa", sum := "85fca6d5561ce0c750d73887f3393ceee34cb6d51c4e1390e7ea5acfdd41e989", func := "given.example/pub-engrossment/laws.FnYes", spec := "fnYes", apart := false }
def FnYesSaid : Prop := fnYesRow.holds Try.pinned (OpenSpec.ofChange fnYesSpec)

/-- ITS FALSE NEIGHBOUR: 'it returns false'. Refute it at one input. -/
def fnYesWrong : ChangeSpec := { name := "fnYes", fn := fun _ => fun
  | [d] => { results := [.lit (.bool false)], args := [d] }
  | _ => none }
def FnYesWrongFalsely : Prop := fnYesRow.holds Try.pinned (OpenSpec.ofChange fnYesWrong)

/-- 'laws.FnQuoted': WHATEVER THE INPUT: true; the input reads as it did. -/
def fnQuotedSpec : ChangeSpec := { name := "fnQuoted", fn := fun _ => fun
  | [d] => { results := [.lit (.bool true)], args := [d] }
  | _ => none }
def fnQuotedRow : OpenClaim := { program := "ytlfkejljbehcaaa", sum := "85fca6d5561ce0c750d73887f3393ceee34cb6d51c4e1390e7ea5acfdd41e989", func := "given.example/pub-engrossment/laws.FnQuoted", spec := "fnQuoted", apart := false }
def FnQuotedSaid : Prop := fnQuotedRow.holds Try.pinned (OpenSpec.ofChange fnQuotedSpec)

/-- ITS FALSE NEIGHBOUR: 'it returns false'. Refute it at one input. -/
def fnQuotedWrong : ChangeSpec := { name := "fnQuoted", fn := fun _ => fun
  | [d] => { results := [.lit (.bool false)], args := [d] }
  | _ => none }
def FnQuotedWrongFalsely : Prop := fnQuotedRow.holds Try.pinned (OpenSpec.ofChange fnQuotedWrong)

/-- 'laws.FnTypeSize': WHATEVER THE INPUT: true; the input reads as it did. -/
def fnTypeSizeSpec : ChangeSpec := { name := "fnTypeSize", fn := fun _ => fun
  | [d1, d2, d3] => { results := [.lit (.bool true)], args := [d1, d2, d3] }
  | _ => none }
def fnTypeSizeRow : OpenClaim := { program := "ytlfkejljbehcaaa", sum := "85fca6d5561ce0c750d73887f3393ceee34cb6d51c4e1390e7ea5acfdd41e989", func := "given.example/pub-engrossment/laws.FnTypeSize", spec := "fnTypeSize", apart := false }
def FnTypeSizeSaid : Prop := fnTypeSizeRow.holds Try.pinned (OpenSpec.ofChange fnTypeSizeSpec)

/-- ITS FALSE NEIGHBOUR: 'it returns false'. Refute it at one input. -/
def fnTypeSizeWrong : ChangeSpec := { name := "fnTypeSize", fn := fun _ => fun
  | [d1, d2, d3] => { results := [.lit (.bool false)], args := [d1, d2, d3] }
  | _ => none }
def FnTypeSizeWrongFalsely : Prop := fnTypeSizeRow.holds Try.pinned (OpenSpec.ofChange fnTypeSizeWrong)

/-- 'laws.FnCopyFirst': WHATEVER THE INPUT: true; the input reads as it did. -/
def fnCopyFirstSpec : ChangeSpec := { name := "fnCopyFirst", fn := fun _ => fun
  | [d] => { results := [.lit (.bool true)], args := [d] }
  | _ => none }
def fnCopyFirstRow : OpenClaim := { program := "ytlfkejljbehcaaa", sum := "85fca6d5561ce0c750d73887f3393ceee34cb6d51c4e1390e7ea5acfdd41e989", func := "given.example/pub-engrossment/laws.FnCopyFirst", spec := "fnCopyFirst", apart := false }
def FnCopyFirstSaid : Prop := fnCopyFirstRow.holds Try.pinned (OpenSpec.ofChange fnCopyFirstSpec)

/-- ITS FALSE NEIGHBOUR: 'it returns false'. Refute it at one input. -/
def fnCopyFirstWrong : ChangeSpec := { name := "fnCopyFirst", fn := fun _ => fun
  | [d] => { results := [.lit (.bool false)], args := [d] }
  | _ => none }
def FnCopyFirstWrongFalsely : Prop := fnCopyFirstRow.holds Try.pinned (OpenSpec.ofChange fnCopyFirstWrong)

/-- 'laws.FnIdentifier': WHATEVER THE INPUT: true; the input reads as it did. -/
def fnIdentifierSpec : ChangeSpec := { name := "fnIdentifier", fn := fun _ => fun
  | [d] => { results := [.lit (.bool true)], args := [d] }
  | _ => none }
def fnIdentifierRow : OpenClaim := { program := "ytlfkejljbehcaaa", sum := "85fca6d5561ce0c750d73887f3393ceee34cb6d51c4e1390e7ea5acfdd41e989", func := "given.example/pub-engrossment/laws.FnIdentifier", spec := "fnIdentifier", apart := false }
def FnIdentifierSaid : Prop := fnIdentifierRow.holds Try.pinned (OpenSpec.ofChange fnIdentifierSpec)

/-- ITS FALSE NEIGHBOUR: 'it returns false'. Refute it at one input. -/
def fnIdentifierWrong : ChangeSpec := { name := "fnIdentifier", fn := fun _ => fun
  | [d] => { results := [.lit (.bool false)], args := [d] }
  | _ => none }
def FnIdentifierWrongFalsely : Prop := fnIdentifierRow.holds Try.pinned (OpenSpec.ofChange fnIdentifierWrong)

/-- 'laws.FnIdentifierBack': WHATEVER THE INPUT: true; the input reads as it did. -/
def fnIdentifierBackSpec : ChangeSpec := { name := "fnIdentifierBack", fn := fun _ => fun
  | [d] => { results := [.lit (.bool true)], args := [d] }
  | _ => none }
def fnIdentifierBackRow : OpenClaim := { program := "ytlfkejljbehcaaa", sum := "85fca6d5561ce0c750d73887f3393ceee34cb6d51c4e1390e7ea5acfdd41e989", func := "given.example/pub-engrossment/laws.FnIdentifierBack", spec := "fnIdentifierBack", apart := false }
def FnIdentifierBackSaid : Prop := fnIdentifierBackRow.holds Try.pinned (OpenSpec.ofChange fnIdentifierBackSpec)

/-- ITS FALSE NEIGHBOUR: 'it returns false'. Refute it at one input. -/
def fnIdentifierBackWrong : ChangeSpec := { name := "fnIdentifierBack", fn := fun _ => fun
  | [d] => { results := [.lit (.bool false)], args := [d] }
  | _ => none }
def FnIdentifierBackWrongFalsely : Prop := fnIdentifierBackRow.holds Try.pinned (OpenSpec.ofChange fnIdentifierBackWrong)

/- THE SECOND FORM. 'bulk': how many values and letters a reading holds, each counted each time it is reached (what is shared counts as often as it is met; a slice's spare places count too). A statement '..UptoSaid' is the law's where the arguments, and the package variables that the reading takes, are together of bulk at most 1048576: NARROWER than '..Said'. Prove '..Said' where nothing that the law and all that it calls make is longer than what came in: it says more and counts as full. Else prove '..UptoSaid'. A law counts once. -/
mutual
def uptoBulk {H : Type} : DataW H → Nat
  | .lit (.string bytes) => bytes.length + 1
  | .lit _ => 1
  | .nil => 1
  | .ptr d => uptoBulk d + 1
  | .slice elems spare => uptoBulkAll elems + uptoBulkAll spare + 1
  | .agg parts => uptoBulkAll parts + 1
  | .iface _ d => uptoBulk d + 1
  | .map entries => uptoBulkEntries entries + 1
  | .held _ => 1
def uptoBulkAll {H : Type} : List (DataW H) → Nat
  | [] => 0
  | d :: r => uptoBulk d + uptoBulkAll r
def uptoBulkEntries {H : Type} : List (Lit × DataW H) → Nat
  | [] => 0
  | x :: r => uptoBulkEntry x + uptoBulkEntries r
def uptoBulkEntry {H : Type} : Lit × DataW H → Nat
  | (.string bytes, d) => bytes.length + uptoBulk d + 1
  | (_, d) => uptoBulk d + 1
 end
def uptoSmall : (H : Type) → List (DataW H) → Bool := fun _ ds => decide (uptoBulkAll ds ≤ 1048576)
def OpenSpec.upto (s : _root_.Go.ChangeSpec) : _root_.Go.OpenSpec := { _root_.Go.OpenSpec.ofChange s with cond := some uptoSmall }

/-- 'laws.FnYes', WHERE WHAT IT READS IS OF BULK AT MOST 1048576: true; the input reads as it did. -/
def fnYesUptoRow : OpenClaim := { program := "ytlfkejljbehcaaa", sum := "85fca6d5561ce0c750d73887f3393ceee34cb6d51c4e1390e7ea5acfdd41e989", func := "given.example/pub-engrossment/laws.FnYes", spec := "fnYes", apart := false, narrowed := true }
def FnYesUptoSaid : Prop := fnYesUptoRow.holds Try.pinned (OpenSpec.upto fnYesSpec)

/-- 'laws.FnQuoted', WHERE WHAT IT READS IS OF BULK AT MOST 1048576: true; the input reads as it did. -/
def fnQuotedUptoRow : OpenClaim := { program := "ytlfkejljbehcaaa", sum := "85fca6d5561ce0c750d73887f3393ceee34cb6d51c4e1390e7ea5acfdd41e989", func := "given.example/pub-engrossment/laws.FnQuoted", spec := "fnQuoted", apart := false, narrowed := true }
def FnQuotedUptoSaid : Prop := fnQuotedUptoRow.holds Try.pinned (OpenSpec.upto fnQuotedSpec)

/-- 'laws.FnTypeSize', WHERE WHAT IT READS IS OF BULK AT MOST 1048576: true; the input reads as it did. -/
def fnTypeSizeUptoRow : OpenClaim := { program := "ytlfkejljbehcaaa", sum := "85fca6d5561ce0c750d73887f3393ceee34cb6d51c4e1390e7ea5acfdd41e989", func := "given.example/pub-engrossment/laws.FnTypeSize", spec := "fnTypeSize", apart := false, narrowed := true }
def FnTypeSizeUptoSaid : Prop := fnTypeSizeUptoRow.holds Try.pinned (OpenSpec.upto fnTypeSizeSpec)

/-- 'laws.FnCopyFirst', WHERE WHAT IT READS IS OF BULK AT MOST 1048576: true; the input reads as it did. -/
def fnCopyFirstUptoRow : OpenClaim := { program := "ytlfkejljbehcaaa", sum := "85fca6d5561ce0c750d73887f3393ceee34cb6d51c4e1390e7ea5acfdd41e989", func := "given.example/pub-engrossment/laws.FnCopyFirst", spec := "fnCopyFirst", apart := false, narrowed := true }
def FnCopyFirstUptoSaid : Prop := fnCopyFirstUptoRow.holds Try.pinned (OpenSpec.upto fnCopyFirstSpec)

/-- 'laws.FnIdentifier', WHERE WHAT IT READS IS OF BULK AT MOST 1048576: true; the input reads as it did. -/
def fnIdentifierUptoRow : OpenClaim := { program := "ytlfkejljbehcaaa", sum := "85fca6d5561ce0c750d73887f3393ceee34cb6d51c4e1390e7ea5acfdd41e989", func := "given.example/pub-engrossment/laws.FnIdentifier", spec := "fnIdentifier", apart := false, narrowed := true }
def FnIdentifierUptoSaid : Prop := fnIdentifierUptoRow.holds Try.pinned (OpenSpec.upto fnIdentifierSpec)

/-- 'laws.FnIdentifierBack', WHERE WHAT IT READS IS OF BULK AT MOST 1048576: true; the input reads as it did. -/
def fnIdentifierBackUptoRow : OpenClaim := { program := "ytlfkejljbehcaaa", sum := "85fca6d5561ce0c750d73887f3393ceee34cb6d51c4e1390e7ea5acfdd41e989", func := "given.example/pub-engrossment/laws.FnIdentifierBack", spec := "fnIdentifierBack", apart := false, narrowed := true }
def FnIdentifierBackUptoSaid : Prop := fnIdentifierBackUptoRow.holds Try.pinned (OpenSpec.upto fnIdentifierBackSpec)

end Rows
end Go.Proofs.Ytlfkejljbehcaaa
