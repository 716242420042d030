/-
  No cell of these rows narrows 'for every input' (looked for: loops, veiled, ifaces, maps, wideKeys, modest, calm, conditions, laid).
  DERIVED. THE GIVEN ROWS OF THIS SEAT. 6 by the template 'for every input the law returns true; each argument reads behind the call as it read before'; 0 by the template 'total and deterministic' (their statements: YthcikkjjegfblabTotals.lean).
  GIVEN WITH THE SEED: the statements are not yours to turn. If you find one false, say at which input.
  Laid BY PROGRAM, IN A SANDBOX (cutbox-rows.mjs): the forced cells as the released guide's own fill.sh prints them over the translation 8127157938d580a1… (all of the seat's roots in one cut). By AI agents, Wed Nov 11 2026. No macro, syntax, notation, axiom, sorry.
-/
import Derived.Test.YthcikkjjegfblabChecked
import GoSem.Claim
import GoSem.ClaimJoined
import GoSem.ClaimMapViews
import Derived.JoinedTies
import Derived.KernelRfl
namespace Go.Proofs.Ythcikkjjegfblab
/- THE CELL 'sum', in the pinned program and in every row, IS THE sha256 OF THE DUMP (.gsa) THAT YthcikkjjegfblabProg.lean LOADS. Nothing in Lean hashes anything: it is a label: what it is worth is what the hold of that sum in a sandbox is worth. -/
noncomputable def Try.pinned : Pinned := { name := "ythcikkjjegfblab", sum := "8127157938d580a1deaec26cfb608d48e576552e8491a3173f9d95a4d642977e", checked := Try.checked }
namespace Rows
def none {H : Type} : Left H := { results := [], args := [] }

/-- 'laws.FnUnframed': WHATEVER THE INPUT: true; the input reads as it did. -/
def fnUnframedSpec : ChangeSpec := { name := "fnUnframed", fn := fun _ => fun
  | [d1, d2] => { results := [.lit (.bool true)], args := [d1, d2] }
  | _ => none }
def fnUnframedRow : OpenClaim := { program := "ythcikkjjegfblab", sum := "8127157938d580a1deaec26cfb608d48e576552e8491a3173f9d95a4d642977e", func := "given.example/pub-engrossment/laws.FnUnframed", spec := "fnUnframed", named := ["encoding/binary.BigEndian"], apart := false }
def FnUnframedSaid : Prop := fnUnframedRow.holds Try.pinned (OpenSpec.ofChange fnUnframedSpec)

/-- ITS FALSE NEIGHBOUR: 'it returns false'. Refute it at one input. -/
def fnUnframedWrong : ChangeSpec := { name := "fnUnframed", fn := fun _ => fun
  | [d1, d2] => { results := [.lit (.bool false)], args := [d1, d2] }
  | _ => none }
def FnUnframedWrongFalsely : Prop := fnUnframedRow.holds Try.pinned (OpenSpec.ofChange fnUnframedWrong)

/-- 'laws.FnFramed': WHATEVER THE INPUT: true; the input reads as it did. -/
def fnFramedSpec : ChangeSpec := { name := "fnFramed", fn := fun _ => fun
  | [d] => { results := [.lit (.bool true)], args := [d] }
  | _ => none }
def fnFramedRow : OpenClaim := { program := "ythcikkjjegfblab", sum := "8127157938d580a1deaec26cfb608d48e576552e8491a3173f9d95a4d642977e", func := "given.example/pub-engrossment/laws.FnFramed", spec := "fnFramed", named := ["encoding/binary.BigEndian"], apart := false }
def FnFramedSaid : Prop := fnFramedRow.holds Try.pinned (OpenSpec.ofChange fnFramedSpec)

/-- ITS FALSE NEIGHBOUR: 'it returns false'. Refute it at one input. -/
def fnFramedWrong : ChangeSpec := { name := "fnFramed", fn := fun _ => fun
  | [d] => { results := [.lit (.bool false)], args := [d] }
  | _ => none }
def FnFramedWrongFalsely : Prop := fnFramedRow.holds Try.pinned (OpenSpec.ofChange fnFramedWrong)

/-- 'laws.FnFrameBack': WHATEVER THE INPUT: true; the input reads as it did. -/
def fnFrameBackSpec : ChangeSpec := { name := "fnFrameBack", fn := fun _ => fun
  | [d1, d2] => { results := [.lit (.bool true)], args := [d1, d2] }
  | _ => none }
def fnFrameBackRow : OpenClaim := { program := "ythcikkjjegfblab", sum := "8127157938d580a1deaec26cfb608d48e576552e8491a3173f9d95a4d642977e", func := "given.example/pub-engrossment/laws.FnFrameBack", spec := "fnFrameBack", named := ["encoding/binary.BigEndian"], apart := false }
def FnFrameBackSaid : Prop := fnFrameBackRow.holds Try.pinned (OpenSpec.ofChange fnFrameBackSpec)

/-- ITS FALSE NEIGHBOUR: 'it returns false'. Refute it at one input. -/
def fnFrameBackWrong : ChangeSpec := { name := "fnFrameBack", fn := fun _ => fun
  | [d1, d2] => { results := [.lit (.bool false)], args := [d1, d2] }
  | _ => none }
def FnFrameBackWrongFalsely : Prop := fnFrameBackRow.holds Try.pinned (OpenSpec.ofChange fnFrameBackWrong)

/-- 'laws.FnColumns': WHATEVER THE INPUT: true; the input reads as it did. -/
def fnColumnsSpec : ChangeSpec := { name := "fnColumns", fn := fun _ => fun
  | [d] => { results := [.lit (.bool true)], args := [d] }
  | _ => none }
def fnColumnsRow : OpenClaim := { program := "ythcikkjjegfblab", sum := "8127157938d580a1deaec26cfb608d48e576552e8491a3173f9d95a4d642977e", func := "given.example/pub-engrossment/laws.FnColumns", spec := "fnColumns", unfollowed := true, recurses := true, named := ["encoding/binary.BigEndian"], apart := false }
def FnColumnsSaid : Prop := fnColumnsRow.holds Try.pinned (OpenSpec.ofChange fnColumnsSpec)

/-- ITS FALSE NEIGHBOUR: 'it returns false'. Refute it at one input. -/
def fnColumnsWrong : ChangeSpec := { name := "fnColumns", fn := fun _ => fun
  | [d] => { results := [.lit (.bool false)], args := [d] }
  | _ => none }
def FnColumnsWrongFalsely : Prop := fnColumnsRow.holds Try.pinned (OpenSpec.ofChange fnColumnsWrong)

/-- 'laws.FnFault': WHATEVER THE INPUT: true; the input reads as it did. -/
def fnFaultSpec : ChangeSpec := { name := "fnFault", fn := fun _ => fun
  | [d] => { results := [.lit (.bool true)], args := [d] }
  | _ => none }
def fnFaultRow : OpenClaim := { program := "ythcikkjjegfblab", sum := "8127157938d580a1deaec26cfb608d48e576552e8491a3173f9d95a4d642977e", func := "given.example/pub-engrossment/laws.FnFault", spec := "fnFault", unfollowed := true, recurses := true, apart := false }
def FnFaultSaid : Prop := fnFaultRow.holds Try.pinned (OpenSpec.ofChange fnFaultSpec)

/-- ITS FALSE NEIGHBOUR: 'it returns false'. Refute it at one input. -/
def fnFaultWrong : ChangeSpec := { name := "fnFault", fn := fun _ => fun
  | [d] => { results := [.lit (.bool false)], args := [d] }
  | _ => none }
def FnFaultWrongFalsely : Prop := fnFaultRow.holds Try.pinned (OpenSpec.ofChange fnFaultWrong)

/-- 'laws.FnDecodedBinary': WHATEVER THE INPUT: true; the input reads as it did. -/
def fnDecodedBinarySpec : ChangeSpec := { name := "fnDecodedBinary", fn := fun _ => fun
  | [d1, d2, d3] => { results := [.lit (.bool true)], args := [d1, d2, d3] }
  | _ => none }
def fnDecodedBinaryRow : OpenClaim := { program := "ythcikkjjegfblab", sum := "8127157938d580a1deaec26cfb608d48e576552e8491a3173f9d95a4d642977e", func := "given.example/pub-engrossment/laws.FnDecodedBinary", spec := "fnDecodedBinary", named := ["encoding/binary.BigEndian"], apart := false }
def FnDecodedBinarySaid : Prop := fnDecodedBinaryRow.holds Try.pinned (OpenSpec.ofChange fnDecodedBinarySpec)

/-- ITS FALSE NEIGHBOUR: 'it returns false'. Refute it at one input. -/
def fnDecodedBinaryWrong : ChangeSpec := { name := "fnDecodedBinary", fn := fun _ => fun
  | [d1, d2, d3] => { results := [.lit (.bool false)], args := [d1, d2, d3] }
  | _ => none }
def FnDecodedBinaryWrongFalsely : Prop := fnDecodedBinaryRow.holds Try.pinned (OpenSpec.ofChange fnDecodedBinaryWrong)

/- THE SECOND FORM. 'bulk': how many values and letters a reading holds, each counted each time it is reached (what is shared counts as often as it is met; a slice's spare places count too). A statement '..UptoSaid' is the law's where the arguments, and the package variables that the reading takes, are together of bulk at most 1048576: NARROWER than '..Said'. Prove '..Said' where nothing that the law and all that it calls make is longer than what came in: it says more and counts as full. Else prove '..UptoSaid'. A law counts once. -/
mutual
def uptoBulk {H : Type} : DataW H → Nat
  | .lit (.string bytes) => bytes.length + 1
  | .lit _ => 1
  | .nil => 1
  | .ptr d => uptoBulk d + 1
  | .slice elems spare => uptoBulkAll elems + uptoBulkAll spare + 1
  | .agg parts => uptoBulkAll parts + 1
  | .iface _ d => uptoBulk d + 1
  | .map entries => uptoBulkEntries entries + 1
  | .held _ => 1
def uptoBulkAll {H : Type} : List (DataW H) → Nat
  | [] => 0
  | d :: r => uptoBulk d + uptoBulkAll r
def uptoBulkEntries {H : Type} : List (Lit × DataW H) → Nat
  | [] => 0
  | x :: r => uptoBulkEntry x + uptoBulkEntries r
def uptoBulkEntry {H : Type} : Lit × DataW H → Nat
  | (.string bytes, d) => bytes.length + uptoBulk d + 1
  | (_, d) => uptoBulk d + 1
 end
def uptoSmall : (H : Type) → List (DataW H) → Bool := fun _ ds => decide (uptoBulkAll ds ≤ 1048576)
def OpenSpec.upto (s : _root_.Go.ChangeSpec) : _root_.Go.OpenSpec := { _root_.Go.OpenSpec.ofChange s with cond := some uptoSmall }

/-- 'laws.FnUnframed', WHERE WHAT IT READS IS OF BULK AT MOST 1048576: true; the input reads as it did. -/
def fnUnframedUptoRow : OpenClaim := { program := "ythcikkjjegfblab", sum := "8127157938d580a1deaec26cfb608d48e576552e8491a3173f9d95a4d642977e", func := "given.example/pub-engrossment/laws.FnUnframed", spec := "fnUnframed", named := ["encoding/binary.BigEndian"], apart := false, narrowed := true }
def FnUnframedUptoSaid : Prop := fnUnframedUptoRow.holds Try.pinned (OpenSpec.upto fnUnframedSpec)

/-- 'laws.FnFramed', WHERE WHAT IT READS IS OF BULK AT MOST 1048576: true; the input reads as it did. -/
def fnFramedUptoRow : OpenClaim := { program := "ythcikkjjegfblab", sum := "8127157938d580a1deaec26cfb608d48e576552e8491a3173f9d95a4d642977e", func := "given.example/pub-engrossment/laws.FnFramed", spec := "fnFramed", named := ["encoding/binary.BigEndian"], apart := false, narrowed := true }
def FnFramedUptoSaid : Prop := fnFramedUptoRow.holds Try.pinned (OpenSpec.upto fnFramedSpec)

/-- 'laws.FnFrameBack', WHERE WHAT IT READS IS OF BULK AT MOST 1048576: true; the input reads as it did. -/
def fnFrameBackUptoRow : OpenClaim := { program := "ythcikkjjegfblab", sum := "8127157938d580a1deaec26cfb608d48e576552e8491a3173f9d95a4d642977e", func := "given.example/pub-engrossment/laws.FnFrameBack", spec := "fnFrameBack", named := ["encoding/binary.BigEndian"], apart := false, narrowed := true }
def FnFrameBackUptoSaid : Prop := fnFrameBackUptoRow.holds Try.pinned (OpenSpec.upto fnFrameBackSpec)

/-- 'laws.FnColumns', WHERE WHAT IT READS IS OF BULK AT MOST 1048576: true; the input reads as it did. -/
def fnColumnsUptoRow : OpenClaim := { program := "ythcikkjjegfblab", sum := "8127157938d580a1deaec26cfb608d48e576552e8491a3173f9d95a4d642977e", func := "given.example/pub-engrossment/laws.FnColumns", spec := "fnColumns", unfollowed := true, recurses := true, named := ["encoding/binary.BigEndian"], apart := false, narrowed := true }
def FnColumnsUptoSaid : Prop := fnColumnsUptoRow.holds Try.pinned (OpenSpec.upto fnColumnsSpec)

/-- 'laws.FnFault', WHERE WHAT IT READS IS OF BULK AT MOST 1048576: true; the input reads as it did. -/
def fnFaultUptoRow : OpenClaim := { program := "ythcikkjjegfblab", sum := "8127157938d580a1deaec26cfb608d48e576552e8491a3173f9d95a4d642977e", func := "given.example/pub-engrossment/laws.FnFault", spec := "fnFault", unfollowed := true, recurses := true, apart := false, narrowed := true }
def FnFaultUptoSaid : Prop := fnFaultUptoRow.holds Try.pinned (OpenSpec.upto fnFaultSpec)

/-- 'laws.FnDecodedBinary', WHERE WHAT IT READS IS OF BULK AT MOST 1048576: true; the input reads as it did. -/
def fnDecodedBinaryUptoRow : OpenClaim := { program := "ythcikkjjegfblab", sum := "8127157938d580a1deaec26cfb608d48e576552e8491a3173f9d95a4d642977e", func := "given.example/pub-engrossment/laws.FnDecodedBinary", spec := "fnDecodedBinary", named := ["encoding/binary.BigEndian"], apart := false, narrowed := true }
def FnDecodedBinaryUptoSaid : Prop := fnDecodedBinaryUptoRow.holds Try.pinned (OpenSpec.upto fnDecodedBinarySpec)

end Rows
end Go.Proofs.Ythcikkjjegfblab
