/-
  No cell of these rows narrows 'for every input' (looked for: loops, veiled, ifaces, maps, wideKeys, modest, calm, conditions, laid).
  DERIVED. THE GIVEN ROWS OF THIS SEAT. 4 by the template 'for every input the law returns true; each argument reads behind the call as it read before'; 0 by the template 'total and deterministic' (their statements: YthcikkjjegfblaaTotals.lean).
  GIVEN WITH THE SEED: the statements are not yours to turn. If you find one false, say at which input.
  Laid BY PROGRAM, IN A SANDBOX (cutbox-rows.mjs): the forced cells as the released guide's own fill.sh prints them over the translation 88e940f1f91b4fb6… (all of the seat's roots in one cut). By AI agents, Wed Nov 11 2026. No macro, syntax, notation, axiom, sorry.
-/
import Derived.Test.YthcikkjjegfblaaChecked
import GoSem.Claim
import GoSem.ClaimJoined
import GoSem.ClaimMapViews
import Derived.JoinedTies
import Derived.KernelRfl
namespace Go.Proofs.Ythcikkjjegfblaa
/- THE CELL 'sum', in the pinned program and in every row, IS THE sha256 OF THE DUMP (.gsa) THAT YthcikkjjegfblaaProg.lean LOADS. Nothing in Lean hashes anything: it is a label: what it is worth is what the hold of that sum in a sandbox is worth. -/
noncomputable def Try.pinned : Pinned := { name := "ythcikkjjegfblaa", sum := "88e940f1f91b4fb6381acbda40082898031ada259c856689032a6bfeab497bcc", checked := Try.checked }
namespace Rows
def none {H : Type} : Left H := { results := [], args := [] }

/-- 'laws.FnParsed': WHATEVER THE INPUT: true; the input reads as it did. -/
def fnParsedSpec : ChangeSpec := { name := "fnParsed", fn := fun _ => fun
  | [d1, d2] => { results := [.lit (.bool true)], args := [d1, d2] }
  | _ => none }
def fnParsedRow : OpenClaim := { program := "ythcikkjjegfblaa", sum := "88e940f1f91b4fb6381acbda40082898031ada259c856689032a6bfeab497bcc", func := "given.example/pub-engrossment/laws.FnParsed", spec := "fnParsed", recurses := true, apart := false }
def FnParsedSaid : Prop := fnParsedRow.holds Try.pinned (OpenSpec.ofChange fnParsedSpec)

/-- ITS FALSE NEIGHBOUR: 'it returns false'. Refute it at one input. -/
def fnParsedWrong : ChangeSpec := { name := "fnParsed", fn := fun _ => fun
  | [d1, d2] => { results := [.lit (.bool false)], args := [d1, d2] }
  | _ => none }
def FnParsedWrongFalsely : Prop := fnParsedRow.holds Try.pinned (OpenSpec.ofChange fnParsedWrong)

/-- 'laws.FnParsedBack': WHATEVER THE INPUT: true; the input reads as it did. -/
def fnParsedBackSpec : ChangeSpec := { name := "fnParsedBack", fn := fun _ => fun
  | [d1, d2, d3] => { results := [.lit (.bool true)], args := [d1, d2, d3] }
  | _ => none }
def fnParsedBackRow : OpenClaim := { program := "ythcikkjjegfblaa", sum := "88e940f1f91b4fb6381acbda40082898031ada259c856689032a6bfeab497bcc", func := "given.example/pub-engrossment/laws.FnParsedBack", spec := "fnParsedBack", recurses := true, apart := false }
def FnParsedBackSaid : Prop := fnParsedBackRow.holds Try.pinned (OpenSpec.ofChange fnParsedBackSpec)

/-- ITS FALSE NEIGHBOUR: 'it returns false'. Refute it at one input. -/
def fnParsedBackWrong : ChangeSpec := { name := "fnParsedBack", fn := fun _ => fun
  | [d1, d2, d3] => { results := [.lit (.bool false)], args := [d1, d2, d3] }
  | _ => none }
def FnParsedBackWrongFalsely : Prop := fnParsedBackRow.holds Try.pinned (OpenSpec.ofChange fnParsedBackWrong)

/-- 'laws.FnParsedUneven': WHATEVER THE INPUT: true; the input reads as it did. -/
def fnParsedUnevenSpec : ChangeSpec := { name := "fnParsedUneven", fn := fun _ => fun
  | [d] => { results := [.lit (.bool true)], args := [d] }
  | _ => none }
def fnParsedUnevenRow : OpenClaim := { program := "ythcikkjjegfblaa", sum := "88e940f1f91b4fb6381acbda40082898031ada259c856689032a6bfeab497bcc", func := "given.example/pub-engrossment/laws.FnParsedUneven", spec := "fnParsedUneven", recurses := true, apart := false }
def FnParsedUnevenSaid : Prop := fnParsedUnevenRow.holds Try.pinned (OpenSpec.ofChange fnParsedUnevenSpec)

/-- ITS FALSE NEIGHBOUR: 'it returns false'. Refute it at one input. -/
def fnParsedUnevenWrong : ChangeSpec := { name := "fnParsedUneven", fn := fun _ => fun
  | [d] => { results := [.lit (.bool false)], args := [d] }
  | _ => none }
def FnParsedUnevenWrongFalsely : Prop := fnParsedUnevenRow.holds Try.pinned (OpenSpec.ofChange fnParsedUnevenWrong)

/-- 'laws.FnParsedLine': WHATEVER THE INPUT: true; the input reads as it did. -/
def fnParsedLineSpec : ChangeSpec := { name := "fnParsedLine", fn := fun _ => fun
  | [d1, d2] => { results := [.lit (.bool true)], args := [d1, d2] }
  | _ => none }
def fnParsedLineRow : OpenClaim := { program := "ythcikkjjegfblaa", sum := "88e940f1f91b4fb6381acbda40082898031ada259c856689032a6bfeab497bcc", func := "given.example/pub-engrossment/laws.FnParsedLine", spec := "fnParsedLine", recurses := true, apart := false }
def FnParsedLineSaid : Prop := fnParsedLineRow.holds Try.pinned (OpenSpec.ofChange fnParsedLineSpec)

/-- ITS FALSE NEIGHBOUR: 'it returns false'. Refute it at one input. -/
def fnParsedLineWrong : ChangeSpec := { name := "fnParsedLine", fn := fun _ => fun
  | [d1, d2] => { results := [.lit (.bool false)], args := [d1, d2] }
  | _ => none }
def FnParsedLineWrongFalsely : Prop := fnParsedLineRow.holds Try.pinned (OpenSpec.ofChange fnParsedLineWrong)

/- THE SECOND FORM. 'bulk': how many values and letters a reading holds, each counted each time it is reached (what is shared counts as often as it is met; a slice's spare places count too). A statement '..UptoSaid' is the law's where the arguments, and the package variables that the reading takes, are together of bulk at most 1048576: NARROWER than '..Said'. Prove '..Said' where nothing that the law and all that it calls make is longer than what came in: it says more and counts as full. Else prove '..UptoSaid'. A law counts once. -/
mutual
def uptoBulk {H : Type} : DataW H → Nat
  | .lit (.string bytes) => bytes.length + 1
  | .lit _ => 1
  | .nil => 1
  | .ptr d => uptoBulk d + 1
  | .slice elems spare => uptoBulkAll elems + uptoBulkAll spare + 1
  | .agg parts => uptoBulkAll parts + 1
  | .iface _ d => uptoBulk d + 1
  | .map entries => uptoBulkEntries entries + 1
  | .held _ => 1
def uptoBulkAll {H : Type} : List (DataW H) → Nat
  | [] => 0
  | d :: r => uptoBulk d + uptoBulkAll r
def uptoBulkEntries {H : Type} : List (Lit × DataW H) → Nat
  | [] => 0
  | x :: r => uptoBulkEntry x + uptoBulkEntries r
def uptoBulkEntry {H : Type} : Lit × DataW H → Nat
  | (.string bytes, d) => bytes.length + uptoBulk d + 1
  | (_, d) => uptoBulk d + 1
 end
def uptoSmall : (H : Type) → List (DataW H) → Bool := fun _ ds => decide (uptoBulkAll ds ≤ 1048576)
def OpenSpec.upto (s : _root_.Go.ChangeSpec) : _root_.Go.OpenSpec := { _root_.Go.OpenSpec.ofChange s with cond := some uptoSmall }

/-- 'laws.FnParsed', WHERE WHAT IT READS IS OF BULK AT MOST 1048576: true; the input reads as it did. -/
def fnParsedUptoRow : OpenClaim := { program := "ythcikkjjegfblaa", sum := "88e940f1f91b4fb6381acbda40082898031ada259c856689032a6bfeab497bcc", func := "given.example/pub-engrossment/laws.FnParsed", spec := "fnParsed", recurses := true, apart := false, narrowed := true }
def FnParsedUptoSaid : Prop := fnParsedUptoRow.holds Try.pinned (OpenSpec.upto fnParsedSpec)

/-- 'laws.FnParsedBack', WHERE WHAT IT READS IS OF BULK AT MOST 1048576: true; the input reads as it did. -/
def fnParsedBackUptoRow : OpenClaim := { program := "ythcikkjjegfblaa", sum := "88e940f1f91b4fb6381acbda40082898031ada259c856689032a6bfeab497bcc", func := "given.example/pub-engrossment/laws.FnParsedBack", spec := "fnParsedBack", recurses := true, apart := false, narrowed := true }
def FnParsedBackUptoSaid : Prop := fnParsedBackUptoRow.holds Try.pinned (OpenSpec.upto fnParsedBackSpec)

/-- 'laws.FnParsedUneven', WHERE WHAT IT READS IS OF BULK AT MOST 1048576: true; the input reads as it did. -/
def fnParsedUnevenUptoRow : OpenClaim := { program := "ythcikkjjegfblaa", sum := "88e940f1f91b4fb6381acbda40082898031ada259c856689032a6bfeab497bcc", func := "given.example/pub-engrossment/laws.FnParsedUneven", spec := "fnParsedUneven", recurses := true, apart := false, narrowed := true }
def FnParsedUnevenUptoSaid : Prop := fnParsedUnevenUptoRow.holds Try.pinned (OpenSpec.upto fnParsedUnevenSpec)

/-- 'laws.FnParsedLine', WHERE WHAT IT READS IS OF BULK AT MOST 1048576: true; the input reads as it did. -/
def fnParsedLineUptoRow : OpenClaim := { program := "ythcikkjjegfblaa", sum := "88e940f1f91b4fb6381acbda40082898031ada259c856689032a6bfeab497bcc", func := "given.example/pub-engrossment/laws.FnParsedLine", spec := "fnParsedLine", recurses := true, apart := false, narrowed := true }
def FnParsedLineUptoSaid : Prop := fnParsedLineUptoRow.holds Try.pinned (OpenSpec.upto fnParsedLineSpec)

end Rows
end Go.Proofs.Ythcikkjjegfblaa
