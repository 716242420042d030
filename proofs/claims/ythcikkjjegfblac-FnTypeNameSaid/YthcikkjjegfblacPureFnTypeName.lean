/- FnTypeName, for every number: the names of the eighteen most common types, by their published numbers, in capital letters.
   Conditions: none. -/
import Derived.Test.YthcikkjjegfblacPx2
namespace Go.Proofs.Ythcikkjjegfblac.Pure
open Go.RowKit Go.Proofs.Ythcikkjjegfblac.P Go.Proofs.YthcikkjjegfblacW.PrintWords Go.Proofs.YthcikkjjegfblacW.PrintLast Go.Proofs.YthcikkjjegfblacW.PrintMore

set_option maxRecDepth 100000 in
theorem typeName_all : ∀ n : Fin 256, laws_FnTypeName.f (n.val : Int) = some true := by decide +kernel

theorem FnTypeName : laws_FnTypeName.Pure := by
  intro a h
  have hc : 0 ≤ a ∧ a < 256 := by
    simp [Lit.wf, IntKind.min, IntKind.max, IntKind.bits, IntKind.signed] at h; omega
  have := typeName_all ⟨a.toNat, by omega⟩
  have e : ((a.toNat : Nat) : Int) = a := by omega
  simp only [e] at this
  exact this

end Go.Proofs.Ythcikkjjegfblac.Pure
