/- FnParsedBack: the row over the printed walk and the pure statement. Conditions: none beyond the form's own. -/
import Derived.Test.YthcikkjjegfblaaRows
import Derived.Test.YthcikkjjegfblaaPx6
import Derived.Test.YthcikkjjegfblaaLibRows
import Derived.Test.YthcikkjjegfblaaPureFnParsedBack
import Derived.WalkKit
import Derived.ProofKit
import Derived.OpenShut
import Derived.ShutString
import Derived.ChangeOld
import Derived.Below
import Derived.SizedLaws
import Derived.Carry
namespace Go.Proofs.Ythcikkjjegfblaa.fnParsedBack
open Go.ChangeShapes Go.WideShapes Go.ChangeAt Go.RowKit Go.Proofs.Ythcikkjjegfblaa.Lib Go.Proofs.YthcikkjjegfblaaW.PrintWords
open Go.ChangeMaps (open_string shut_string)
set_option linter.unusedVariables false
theorem own : ownKnob Try.prog.godebug = none := by kernel_rfl
theorem laidOut : laidOutB Try.prog = true := by kernel_rfl
set_option maxRecDepth 100000 in
theorem lifted (os : Os) (started : os.Started) (H : Type) (enc : TypeId × Value → H) :
    ReturnsInHanded {} Try.checked os 4 .any (Rows.fnParsedBackSpec.pre6 enc Try.prog Try.f4 Rows.fnParsedBackRow.domain false) (Rows.fnParsedBackSpec.post enc Try.prog Try.f4 false true false false) := by
  refine returnsInHanded_of_change_sized (C := Try.checked) own started (by kernel_rfl) Try.func4
    (ChangeSpec.witness6 (enc := enc) (C := Try.checked) false ⟨#[], #[.slice none 0 0, .slice none 0 0, .slice none 0 0], []⟩ 8 (by kernel_rfl) (by kernel_rfl) (by kernel_rfl) (by kernel_rfl)) ?_
  intro W base args ds gs before hval0 hW hcnd hsz0 _
  have hsz : (DataW.weightsEach Try.prog (Try.f4.params.toList ++ Rows.fnParsedBackSpec.plain.varTypes Try.prog) (ds ++ gs)).all (· ≤ reachBytes) = true := hsz0
  have hval : ∀ (j : Nat) t v, Try.f4.params[j]? = some t → args[j]? = some v → Value.okWide Try.prog W .any base t v := hval0
  have hW' := hW
  obtain ⟨p, q, hA0, hV, rfl, hfz, hnd⟩ := hW
  have hA : DataW.TrodAll enc Try.prog W 0 (fun _ => true) true Try.f4.params.toList args.toList ds p := hA0
  rw [Try.params4] at hA hval hsz
  obtain ⟨v0, vs0, d0, ds0, p0, q0, hargs, rfl, rfl, h0, tr0⟩ := trodAll_cons hA
  obtain ⟨v1, vs1, d1, ds1, p1, q1, rfl, rfl, rfl, h1, tr1⟩ := trodAll_cons tr0
  obtain ⟨v2, vs2, d2, ds2, p2, q2, rfl, rfl, rfl, h2, tr2⟩ := trodAll_cons tr1
  obtain ⟨rfl, rfl, rfl⟩ := trodAll_nil tr2
  obtain rfl : args = #[v0, v1, v2] := by cases args; simp_all
  obtain ⟨rfl, rfl⟩ := trodVars_none hV
  obtain ⟨A0, len0, cap0, rfl⟩ := okWide_slice Try.underlying23 (hval 0 23 v0 rfl rfl)
  have k0 := h0
  have lt0 : ∀ x ∈ p0, x.block < W.heap.size := by obtain ⟨m, hm⟩ := k0; exact DataW.trod_lt m _ _ _ hm
  have y0 := sized_rows hsz (j := 0) (t := 23) rfl rfl Try.underlying23 (show Try.prog.bytesOf 3 = 8 by kernel_rfl) h0
  obtain ⟨l0, rfl, c0, r0, g0⟩ := open_rows (d := (Kd.int .i64)) (opens_slice Try.underlying23 (by kernel_rfl) (opens_int Try.underlying3)) h0
  obtain ⟨A1, len1, cap1, rfl⟩ := okWide_slice Try.underlying32 (hval 1 32 v1 rfl rfl)
  have k1 := h1
  have lt1 : ∀ x ∈ p1, x.block < W.heap.size := by obtain ⟨m, hm⟩ := k1; exact DataW.trod_lt m _ _ _ hm
  have y1 := sized_rows hsz (j := 1) (t := 32) rfl rfl Try.underlying32 (show Try.prog.bytesOf 9 = 16 by kernel_rfl) h1
  obtain ⟨l1, rfl, c1, r1, g1⟩ := open_rows (d := Kd.string) (opens_slice Try.underlying32 (by kernel_rfl) (opens_string Try.underlying9)) h1
  obtain ⟨A2, len2, cap2, rfl⟩ := okWide_slice Try.underlying33 (hval 2 33 v2 rfl rfl)
  have k2 := h2
  have lt2 : ∀ x ∈ p2, x.block < W.heap.size := by obtain ⟨m, hm⟩ := k2; exact DataW.trod_lt m _ _ _ hm
  have y2 := sized_rows hsz (j := 2) (t := 33) rfl rfl Try.underlying33 (show Try.prog.bytesOf 4 = 1 by kernel_rfl) h2
  obtain ⟨l2, rfl, c2, r2, g2⟩ := open_rows (d := Kd.bool) (opens_slice Try.underlying33 (by kernel_rfl) (opens_bool Try.underlying4)) h2
  clear hA0 hval0 hsz0 hsz
  obtain ⟨k, hk⟩ := Pure.FnParsedBack l0 l1 l2 y0 g0 y1 g1 y2 g2
  refine (P.laws_FnParsedBack.calls k A0 cap0 l0 A1 cap1 l1 A2 cap2 l2 true W r0 c0 r1 c1 r2 c2 hk).mono fun e W' ⟨he, bel0⟩ => ?_
  have bel : Below W.heap.size W W' := by first | exact bel0 | exact bel0.below
  subst he
  exact ⟨_, rfl, _, _, _, [], _, [], hW', trodAll_mk1 (shut_bool Try.underlying4 _), (trodAll_cons_mk (Below.trod laidOut (by kernel_rfl) (of_decide_eq_true (by kernel_rfl)) k0 bel lt0) (trodAll_cons_mk (Below.trod laidOut (by kernel_rfl) (of_decide_eq_true (by kernel_rfl)) k1 bel lt1) (trodAll_cons_mk (Below.trod laidOut (by kernel_rfl) (of_decide_eq_true (by kernel_rfl)) k2 bel lt2) trodAll_mk0))), rfl, bel.frame _, fun h => by cases h⟩
theorem over : Rows.fnParsedBackRow.holds Try.pinned (OpenSpec.ofChange Rows.fnParsedBackSpec) :=
  OpenClaim.holds_of_wide 4 Try.f4 rfl rfl rfl rfl rfl rfl rfl ⟨rfl, rfl, rfl, rfl, rfl⟩ rfl rfl rfl rfl rfl (by kernel_rfl) Try.func4 (by kernel_rfl)
    (of_decide_eq_true (by kernel_rfl)) (by unfold Func.isWrapper; first | (rw [if_pos (by decide +kernel)]; kernel_rfl) | (rw [if_neg (by decide +kernel)]; exact ⟨rfl, rfl⟩))
    (fun os started H enc _ => lifted os started H enc)
theorem proved : Rows.FnParsedBackSaid := over
#print axioms proved
end Go.Proofs.Ythcikkjjegfblaa.fnParsedBack
namespace Go.Proofs.Ythcikkjjegfblaa
/-- The row, under a short name, for the claim. -/
theorem fnParsedBack_holds : Rows.FnParsedBackSaid := fnParsedBack.proved
end Go.Proofs.Ythcikkjjegfblaa
