/- FnParsedUneven: the row over the printed walk and the pure statement. Conditions: none beyond the form's own. -/
import Derived.Test.YthcikkjjegfblaaRows
import Derived.Test.YthcikkjjegfblaaPx6
import Derived.Test.YthcikkjjegfblaaLibRows
import Derived.Test.YthcikkjjegfblaaPureFnParsedUneven
import Derived.WalkKit
import Derived.ProofKit
import Derived.OpenShut
import Derived.ShutString
import Derived.ChangeOld
import Derived.Below
import Derived.SizedLaws
import Derived.Carry
namespace Go.Proofs.Ythcikkjjegfblaa.fnParsedUneven
open Go.ChangeShapes Go.WideShapes Go.ChangeAt Go.RowKit Go.Proofs.Ythcikkjjegfblaa.Lib Go.Proofs.YthcikkjjegfblaaW.PrintWords
open Go.ChangeMaps (open_string shut_string)
set_option linter.unusedVariables false
theorem own : ownKnob Try.prog.godebug = none := by kernel_rfl
theorem laidOut : laidOutB Try.prog = true := by kernel_rfl
set_option maxRecDepth 100000 in
theorem lifted (os : Os) (started : os.Started) (H : Type) (enc : TypeId × Value → H) :
    ReturnsInHanded {} Try.checked os 5 .any (Rows.fnParsedUnevenSpec.pre6 enc Try.prog Try.f5 Rows.fnParsedUnevenRow.domain false) (Rows.fnParsedUnevenSpec.post enc Try.prog Try.f5 false true false false) := by
  refine returnsInHanded_of_change_sized (C := Try.checked) own started (by kernel_rfl) Try.func5
    (ChangeSpec.witness6 (enc := enc) (C := Try.checked) false ⟨#[], #[.slice none 0 0], []⟩ 8 (by kernel_rfl) (by kernel_rfl) (by kernel_rfl) (by kernel_rfl)) ?_
  intro W base args ds gs before hval0 hW hcnd hsz0 _
  have hsz : (DataW.weightsEach Try.prog (Try.f5.params.toList ++ Rows.fnParsedUnevenSpec.plain.varTypes Try.prog) (ds ++ gs)).all (· ≤ reachBytes) = true := hsz0
  have hval : ∀ (j : Nat) t v, Try.f5.params[j]? = some t → args[j]? = some v → Value.okWide Try.prog W .any base t v := hval0
  have hW' := hW
  obtain ⟨p, q, hA0, hV, rfl, hfz, hnd⟩ := hW
  have hA : DataW.TrodAll enc Try.prog W 0 (fun _ => true) true Try.f5.params.toList args.toList ds p := hA0
  rw [Try.params5] at hA hval hsz
  obtain ⟨v0, vs0, d0, ds0, p0, q0, hargs, rfl, rfl, h0, r0⟩ := trodAll_cons hA
  obtain ⟨rfl, rfl, rfl⟩ := trodAll_nil r0
  obtain rfl : args = #[v0] := by cases args; simp_all
  obtain ⟨rfl, rfl⟩ := trodVars_none hV
  obtain ⟨A0, len0, cap0, rfl⟩ := okWide_slice Try.underlying43 (hval 0 43 v0 rfl rfl)
  have k0 := h0
  have lt0 : ∀ x ∈ p0, x.block < W.heap.size := by obtain ⟨m, hm⟩ := k0; exact DataW.trod_lt m _ _ _ hm
  have y0 := sized_rows hsz (j := 0) (t := 43) rfl rfl Try.underlying43 (show Try.prog.bytesOf 45 = 24 by kernel_rfl) h0
  obtain ⟨l0, rfl, c0, r0, g0⟩ := open_rows (d := (Kd.slice 2 (Kd.int .i64))) (opens_slice Try.underlying43 (by kernel_rfl) (opens_slice Try.underlying45 (by kernel_rfl) (opens_int Try.underlying2))) h0
  clear hA0 hval0 hsz0 hsz
  obtain ⟨k, hk⟩ := Pure.FnParsedUneven l0 y0 g0
  refine (P.laws_FnParsedUneven.calls k A0 cap0 l0 true W r0 c0 hk).mono fun e W' ⟨he, bel0⟩ => ?_
  have bel : Below W.heap.size W W' := by first | exact bel0 | exact bel0.below
  subst he
  exact ⟨_, rfl, _, _, _, [], _, [], hW', trodAll_mk1 (shut_bool Try.underlying4 _), (trodAll_cons_mk (Below.trod laidOut (by kernel_rfl) (of_decide_eq_true (by kernel_rfl)) k0 bel lt0) trodAll_mk0), rfl, bel.frame _, fun h => by cases h⟩
theorem over : Rows.fnParsedUnevenRow.holds Try.pinned (OpenSpec.ofChange Rows.fnParsedUnevenSpec) :=
  OpenClaim.holds_of_wide 5 Try.f5 rfl rfl rfl rfl rfl rfl rfl ⟨rfl, rfl, rfl, rfl, rfl⟩ rfl rfl rfl rfl rfl (by kernel_rfl) Try.func5 (by kernel_rfl)
    (of_decide_eq_true (by kernel_rfl)) (by unfold Func.isWrapper; first | (rw [if_pos (by decide +kernel)]; kernel_rfl) | (rw [if_neg (by decide +kernel)]; exact ⟨rfl, rfl⟩))
    (fun os started H enc _ => lifted os started H enc)
theorem proved : Rows.FnParsedUnevenSaid := over
#print axioms proved
end Go.Proofs.Ythcikkjjegfblaa.fnParsedUneven
namespace Go.Proofs.Ythcikkjjegfblaa
/-- The row, under a short name, for the claim. -/
theorem fnParsedUneven_holds : Rows.FnParsedUnevenSaid := fnParsedUneven.proved
end Go.Proofs.Ythcikkjjegfblaa
