/-
  No cell of these rows narrows 'for every input' (looked for: loops, veiled, ifaces, maps, wideKeys, modest, calm, conditions, laid).
  DERIVED. THE GIVEN ROWS OF THIS SEAT. 2 by the template 'for every input the law returns true; each argument reads behind the call as it read before'; 0 by the template 'total and deterministic' (their statements: YthcikkjjegfblacTotals.lean).
  GIVEN WITH THE SEED: the statements are not yours to turn. If you find one false, say at which input.
  Laid BY PROGRAM, IN A SANDBOX (cutbox-rows.mjs): the forced cells as the released guide's own fill.sh prints them over the translation 0d9d0ee29dee0532… (all of the seat's roots in one cut). By AI agents, Wed Nov 11 2026. No macro, syntax, notation, axiom, sorry.
-/
import Derived.Test.YthcikkjjegfblacChecked
import GoSem.Claim
import GoSem.ClaimJoined
import GoSem.ClaimMapViews
import Derived.JoinedTies
import Derived.KernelRfl
namespace Go.Proofs.Ythcikkjjegfblac
/- THE CELL 'sum', in the pinned program and in every row, IS THE sha256 OF THE DUMP (.gsa) THAT YthcikkjjegfblacProg.lean LOADS. Nothing in Lean hashes anything: it is a label: what it is worth is what the hold of that sum in a sandbox is worth. -/
noncomputable def Try.pinned : Pinned := { name := "ythcikkjjegfblac", sum := "0d9d0ee29dee053278c4d206f80498313aa18e86cf8f301d38769c5a5fc31584", checked := Try.checked }
namespace Rows
def none {H : Type} : Left H := { results := [], args := [] }

/-- 'laws.FnHstoreRead': WHATEVER THE INPUT: true; the input reads as it did. -/
def fnHstoreReadSpec : ChangeSpec := { name := "fnHstoreRead", fn := fun _ => fun
  | [d] => { results := [.lit (.bool true)], args := [d] }
  | _ => none }
def fnHstoreReadRow : OpenClaim := { program := "ythcikkjjegfblac", sum := "0d9d0ee29dee053278c4d206f80498313aa18e86cf8f301d38769c5a5fc31584", func := "given.example/pub-engrossment/laws.FnHstoreRead", spec := "fnHstoreRead", apart := false }
def FnHstoreReadSaid : Prop := fnHstoreReadRow.holds Try.pinned (OpenSpec.ofChange fnHstoreReadSpec)

/-- ITS FALSE NEIGHBOUR: 'it returns false'. Refute it at one input. -/
def fnHstoreReadWrong : ChangeSpec := { name := "fnHstoreRead", fn := fun _ => fun
  | [d] => { results := [.lit (.bool false)], args := [d] }
  | _ => none }
def FnHstoreReadWrongFalsely : Prop := fnHstoreReadRow.holds Try.pinned (OpenSpec.ofChange fnHstoreReadWrong)

/-- 'laws.FnTypeName': WHATEVER THE INPUT: true; the input reads as it did. -/
def fnTypeNameSpec : ChangeSpec := { name := "fnTypeName", fn := fun _ => fun
  | [d] => { results := [.lit (.bool true)], args := [d] }
  | _ => none }
def fnTypeNameRow : OpenClaim := { program := "ythcikkjjegfblac", sum := "0d9d0ee29dee053278c4d206f80498313aa18e86cf8f301d38769c5a5fc31584", func := "given.example/pub-engrossment/laws.FnTypeName", spec := "fnTypeName", apart := false }
def FnTypeNameSaid : Prop := fnTypeNameRow.holds Try.pinned (OpenSpec.ofChange fnTypeNameSpec)

/-- ITS FALSE NEIGHBOUR: 'it returns false'. Refute it at one input. -/
def fnTypeNameWrong : ChangeSpec := { name := "fnTypeName", fn := fun _ => fun
  | [d] => { results := [.lit (.bool false)], args := [d] }
  | _ => none }
def FnTypeNameWrongFalsely : Prop := fnTypeNameRow.holds Try.pinned (OpenSpec.ofChange fnTypeNameWrong)

/- THE SECOND FORM. 'bulk': how many values and letters a reading holds, each counted each time it is reached (what is shared counts as often as it is met; a slice's spare places count too). A statement '..UptoSaid' is the law's where the arguments, and the package variables that the reading takes, are together of bulk at most 1048576: NARROWER than '..Said'. Prove '..Said' where nothing that the law and all that it calls make is longer than what came in: it says more and counts as full. Else prove '..UptoSaid'. A law counts once. -/
mutual
def uptoBulk {H : Type} : DataW H → Nat
  | .lit (.string bytes) => bytes.length + 1
  | .lit _ => 1
  | .nil => 1
  | .ptr d => uptoBulk d + 1
  | .slice elems spare => uptoBulkAll elems + uptoBulkAll spare + 1
  | .agg parts => uptoBulkAll parts + 1
  | .iface _ d => uptoBulk d + 1
  | .map entries => uptoBulkEntries entries + 1
  | .held _ => 1
def uptoBulkAll {H : Type} : List (DataW H) → Nat
  | [] => 0
  | d :: r => uptoBulk d + uptoBulkAll r
def uptoBulkEntries {H : Type} : List (Lit × DataW H) → Nat
  | [] => 0
  | x :: r => uptoBulkEntry x + uptoBulkEntries r
def uptoBulkEntry {H : Type} : Lit × DataW H → Nat
  | (.string bytes, d) => bytes.length + uptoBulk d + 1
  | (_, d) => uptoBulk d + 1
 end
def uptoSmall : (H : Type) → List (DataW H) → Bool := fun _ ds => decide (uptoBulkAll ds ≤ 1048576)
def OpenSpec.upto (s : _root_.Go.ChangeSpec) : _root_.Go.OpenSpec := { _root_.Go.OpenSpec.ofChange s with cond := some uptoSmall }

/-- 'laws.FnHstoreRead', WHERE WHAT IT READS IS OF BULK AT MOST 1048576: true; the input reads as it did. -/
def fnHstoreReadUptoRow : OpenClaim := { program := "ythcikkjjegfblac", sum := "0d9d0ee29dee053278c4d206f80498313aa18e86cf8f301d38769c5a5fc31584", func := "given.example/pub-engrossment/laws.FnHstoreRead", spec := "fnHstoreRead", apart := false, narrowed := true }
def FnHstoreReadUptoSaid : Prop := fnHstoreReadUptoRow.holds Try.pinned (OpenSpec.upto fnHstoreReadSpec)

/-- 'laws.FnTypeName', WHERE WHAT IT READS IS OF BULK AT MOST 1048576: true; the input reads as it did. -/
def fnTypeNameUptoRow : OpenClaim := { program := "ythcikkjjegfblac", sum := "0d9d0ee29dee053278c4d206f80498313aa18e86cf8f301d38769c5a5fc31584", func := "given.example/pub-engrossment/laws.FnTypeName", spec := "fnTypeName", apart := false, narrowed := true }
def FnTypeNameUptoSaid : Prop := fnTypeNameUptoRow.holds Try.pinned (OpenSpec.upto fnTypeNameSpec)

end Rows
end Go.Proofs.Ythcikkjjegfblac
