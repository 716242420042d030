/- FnFrameBack: the row over the printed walk and the pure statement. Conditions: none beyond the form's own. -/
import Derived.Test.YthcikkjjegfblabRows
import Derived.Test.YthcikkjjegfblabPx8
import Derived.Test.YthcikkjjegfblabLibRows
import Derived.Test.YthcikkjjegfblabPureFnFrameBack
import Derived.WalkKit
import Derived.ProofKit
import Derived.OpenShut
import Derived.ShutString
import Derived.ChangeOld
import Derived.Below
import Derived.SizedLaws
import Derived.Carry
namespace Go.Proofs.Ythcikkjjegfblab.fnFrameBack
open Go.ChangeShapes Go.WideShapes Go.ChangeAt Go.RowKit Go.Proofs.Ythcikkjjegfblab.Lib Go.Proofs.YthcikkjjegfblabW.PrintWords
open Go.ChangeMaps (open_string shut_string)
set_option linter.unusedVariables false
theorem own : ownKnob Try.prog.godebug = none := by kernel_rfl
theorem laidOut : laidOutB Try.prog = true := by kernel_rfl
set_option maxRecDepth 100000 in
theorem lifted (os : Os) (started : os.Started) (H : Type) (enc : TypeId × Value → H) :
    ReturnsInHanded {} Try.checked os 5 .any (Rows.fnFrameBackSpec.pre6 enc Try.prog Try.f5 Rows.fnFrameBackRow.domain false) (Rows.fnFrameBackSpec.post enc Try.prog Try.f5 false true false false) := by
  refine returnsInHanded_of_change_sized (C := Try.checked) own started (by kernel_rfl) Try.func5
    (ChangeSpec.witness6 (enc := enc) (C := Try.checked) false ⟨#[], #[.int .u8 0, .slice none 0 0], []⟩ 8 (by kernel_rfl) (by kernel_rfl) (by kernel_rfl) (by kernel_rfl)) ?_
  intro W base args ds gs before hval0 hW hcnd hsz0 _
  have hsz : (DataW.weightsEach Try.prog (Try.f5.params.toList ++ Rows.fnFrameBackSpec.plain.varTypes Try.prog) (ds ++ gs)).all (· ≤ reachBytes) = true := hsz0
  have hval : ∀ (j : Nat) t v, Try.f5.params[j]? = some t → args[j]? = some v → Value.okWide Try.prog W .any base t v := hval0
  have hW' := hW
  obtain ⟨p, q, hA0, hV, rfl, hfz, hnd⟩ := hW
  have hA : DataW.TrodAll enc Try.prog W 0 (fun _ => true) true Try.f5.params.toList args.toList ds p := hA0
  rw [Try.params5] at hA hval hsz
  obtain ⟨v0, vs0, d0, ds0, p0, q0, hargs, rfl, rfl, h0, r0⟩ := trodAll_cons hA
  obtain ⟨v1, vs1, d1, ds1, p1, q1, rfl, rfl, rfl, h1, r1⟩ := trodAll_cons r0
  obtain ⟨rfl, rfl, rfl⟩ := trodAll_nil r1
  obtain rfl : args = #[v0, v1] := by cases args; simp_all
  obtain ⟨rfl, rfl⟩ := trodVars_none hV
  obtain ⟨a0, rfl, rfl, rfl, w0⟩ := open_int Try.underlying5 (hval 0 5 v0 rfl rfl) h0
  obtain ⟨A1, len1, cap1, rfl⟩ := okWide_slice Try.underlying22 (hval 1 22 v1 rfl rfl)
  have k1 := h1
  have lt1 : ∀ x ∈ p1, x.block < W.heap.size := by obtain ⟨m, hm⟩ := k1; exact DataW.trod_lt m _ _ _ hm
  have y1 := sized_rows hsz (j := 1) (t := 22) rfl rfl Try.underlying22 (show Try.prog.bytesOf 25 = 32 by kernel_rfl) h1
  obtain ⟨l1, rfl, c1, r1, g1⟩ := open_rows (d := P.k25) (opens_slice Try.underlying22 (by kernel_rfl) (opens_struct (fun x : P.S25 => (x.f0, x.f1, x.f2)) Try.underlying25 (by kernel_rfl) (by kernel_rfl) (fun a => ⟨⟨a.1, a.2.1, a.2.2⟩, rfl⟩) (opensL_cons (opens_int Try.underlying3) (opensL_cons (opens_int Try.underlying2) (opensL_one (opens_string Try.underlying9)))))) h1
  clear hA0 hval0 hsz0 hsz
  obtain ⟨k, hk⟩ := Pure.FnFrameBack a0 l1 w0 y1 g1
  refine (P.laws_FnFrameBack.calls k a0 A1 cap1 l1 true W r1 c1 hk).mono fun e W' ⟨he, bel0⟩ => ?_
  have bel : Below W.heap.size W W' := by first | exact bel0 | exact bel0.below
  subst he
  exact ⟨_, rfl, _, _, _, [], _, [], hW', trodAll_mk1 (shut_bool Try.underlying4 _), (trodAll_cons_mk (shut_int Try.underlying5 w0) (trodAll_cons_mk (Below.trod laidOut (by kernel_rfl) (of_decide_eq_true (by kernel_rfl)) k1 bel lt1) trodAll_mk0)), rfl, bel.frame _, fun h => by cases h⟩
theorem over : Rows.fnFrameBackRow.holds Try.pinned (OpenSpec.ofChange Rows.fnFrameBackSpec) :=
  OpenClaim.holds_of_wide 5 Try.f5 rfl rfl rfl rfl rfl rfl rfl ⟨rfl, rfl, rfl, rfl, rfl⟩ rfl rfl rfl rfl rfl (by kernel_rfl) Try.func5 (by kernel_rfl)
    (of_decide_eq_true (by kernel_rfl)) (by unfold Func.isWrapper; first | (rw [if_pos (by decide +kernel)]; kernel_rfl) | (rw [if_neg (by decide +kernel)]; exact ⟨rfl, rfl⟩))
    (fun os started H enc _ => lifted os started H enc)
theorem proved : Rows.FnFrameBackSaid := over
#print axioms proved
end Go.Proofs.Ythcikkjjegfblab.fnFrameBack
namespace Go.Proofs.Ythcikkjjegfblab
/-- The row, under a short name, for the claim. -/
theorem fnFrameBack_holds : Rows.FnFrameBackSaid := fnFrameBack.proved
end Go.Proofs.Ythcikkjjegfblab
