/- FnClock: the row over the printed walk and the pure statement. Conditions: none beyond the form's own. -/
import Derived.Test.YtlhjblbmhlelbabRows
import Derived.Test.YtlhjblbmhlelbabPx9
import Derived.Test.YtlhjblbmhlelbabLibRows
import Derived.Test.YtlhjblbmhlelbabPureFnClock
import Derived.WalkKit
import Derived.ProofKit
import Derived.OpenShut
import Derived.ShutString
import Derived.ChangeOld
import Derived.Below
import Derived.SizedLaws
import Derived.Carry
namespace Go.Proofs.Ytlhjblbmhlelbab.fnClock
open Go.ChangeShapes Go.WideShapes Go.ChangeAt Go.RowKit Go.Proofs.Ytlhjblbmhlelbab.Lib Go.Proofs.YtlhjblbmhlelbabW.PrintWords
open Go.ChangeMaps (open_string shut_string)
set_option linter.unusedVariables false
theorem own : ownKnob Try.prog.godebug = none := by kernel_rfl
theorem laidOut : laidOutB Try.prog = true := by kernel_rfl
set_option maxRecDepth 100000 in
theorem lifted (os : Os) (started : os.Started) (H : Type) (enc : TypeId × Value → H) :
    ReturnsInHanded {} Try.checked os 4 .any (Rows.fnClockSpec.pre6 enc Try.prog Try.f4 Rows.fnClockRow.domain false) (Rows.fnClockSpec.post enc Try.prog Try.f4 false true false false) := by
  refine returnsInHanded_of_change_sized (C := Try.checked) own started (by kernel_rfl) Try.func4
    (ChangeSpec.witness6 (enc := enc) (C := Try.checked) false ⟨#[], #[.agg #[.int .i64 0, .int .i64 0, .int .i64 0, .int .i64 0, .int .i64 0, .int .i64 0, .int .i64 0, .int .i64 0], .int .u8 0, .int .u8 0, .bool false], []⟩ 8 (by kernel_rfl) (by kernel_rfl) (by kernel_rfl) (by kernel_rfl)) ?_
  intro W base args ds gs before hval0 hW hcnd hsz0 _
  have hsz : (DataW.weightsEach Try.prog (Try.f4.params.toList ++ Rows.fnClockSpec.plain.varTypes Try.prog) (ds ++ gs)).all (· ≤ reachBytes) = true := hsz0
  have hval : ∀ (j : Nat) t v, Try.f4.params[j]? = some t → args[j]? = some v → Value.okWide Try.prog W .any base t v := hval0
  have hW' := hW
  obtain ⟨p, q, hA0, hV, rfl, hfz, hnd⟩ := hW
  have hA : DataW.TrodAll enc Try.prog W 0 (fun _ => true) true Try.f4.params.toList args.toList ds p := hA0
  rw [Try.params4] at hA hval hsz
  obtain ⟨v0, vs0, d0, ds0, p0, q0, hargs, rfl, rfl, h0, tr0⟩ := trodAll_cons hA
  obtain ⟨v1, vs1, d1, ds1, p1, q1, rfl, rfl, rfl, h1, tr1⟩ := trodAll_cons tr0
  obtain ⟨v2, vs2, d2, ds2, p2, q2, rfl, rfl, rfl, h2, tr2⟩ := trodAll_cons tr1
  obtain ⟨v3, vs3, d3, ds3, p3, q3, rfl, rfl, rfl, h3, tr3⟩ := trodAll_cons tr2
  obtain ⟨rfl, rfl, rfl⟩ := trodAll_nil tr3
  obtain rfl : args = #[v0, v1, v2, v3] := by cases args; simp_all
  obtain ⟨rfl, rfl⟩ := trodVars_none hV
  have k0 := h0
  have lt0 : ∀ x ∈ p0, x.block < W.heap.size := by obtain ⟨m, hm⟩ := k0; exact DataW.trod_lt m _ _ _ hm
  obtain ⟨cs0, rfl, hs0⟩ := okWide_struct Try.underlying34 (hval 0 34 v0 rfl rfl)
  obtain ⟨fuel0, hf0⟩ := h0
  obtain ⟨x0, hx0, g0⟩ := (opens_struct (fun x : P.S34 => (x.f0, x.f1, x.f2, x.f3, x.f4, x.f5, x.f6, x.f7)) Try.underlying34 (by kernel_rfl) (by kernel_rfl) (fun a => ⟨⟨a.1, a.2.1, a.2.2.1, a.2.2.2.1, a.2.2.2.2.1, a.2.2.2.2.2.1, a.2.2.2.2.2.2.1, a.2.2.2.2.2.2.2⟩, rfl⟩) (opensL_cons (opens_int Try.underlying3) (opensL_cons (opens_int Try.underlying3) (opensL_cons (opens_int Try.underlying3) (opensL_cons (opens_int Try.underlying3) (opensL_cons (opens_int Try.underlying3) (opensL_cons (opens_int Try.underlying3) (opensL_cons (opens_int Try.underlying3) (opensL_one (opens_int Try.underlying3)))))))))) _ _ _ _ _ _ hf0
  have e0 := P.k34_open hx0
  obtain rfl : cs0 = #[.int .i64 x0.f0, .int .i64 x0.f1, .int .i64 x0.f2, .int .i64 x0.f3, .int .i64 x0.f4, .int .i64 x0.f5, .int .i64 x0.f6, .int .i64 x0.f7] := by apply Array.ext'; simpa [Value.cells] using e0
  obtain ⟨a1, rfl, rfl, rfl, w1⟩ := open_int Try.underlying5 (hval 1 5 v1 rfl rfl) h1
  obtain ⟨a2, rfl, rfl, rfl, w2⟩ := open_int Try.underlying5 (hval 2 5 v2 rfl rfl) h2
  obtain ⟨a3, rfl, rfl, rfl⟩ := open_bool Try.underlying4 (hval 3 4 v3 rfl rfl) h3
  clear hA0 hval0 hsz0 hsz
  obtain ⟨k, hk⟩ := Pure.FnClock x0 a1 a2 a3 g0 w1 w2
  refine (P.laws_FnClock.calls k x0.f0 x0.f1 x0.f2 x0.f3 x0.f4 x0.f5 x0.f6 x0.f7 a1 a2 a3 true W hk).mono fun e W' ⟨he, bel0⟩ => ?_
  have bel : Below W.heap.size W W' := by first | exact bel0 | exact bel0.below
  subst he
  exact ⟨_, rfl, _, _, _, [], _, [], hW', trodAll_mk1 (shut_bool Try.underlying4 _), (trodAll_cons_mk (Below.trod laidOut (by kernel_rfl) (of_decide_eq_true (by kernel_rfl)) k0 bel lt0) (trodAll_cons_mk (shut_int Try.underlying5 w1) (trodAll_cons_mk (shut_int Try.underlying5 w2) (trodAll_cons_mk (shut_bool Try.underlying4 _) trodAll_mk0)))), rfl, bel.frame _, fun h => by cases h⟩
theorem over : Rows.fnClockRow.holds Try.pinned (OpenSpec.ofChange Rows.fnClockSpec) :=
  OpenClaim.holds_of_wide 4 Try.f4 rfl rfl rfl rfl rfl rfl rfl ⟨rfl, rfl, rfl, rfl, rfl⟩ rfl rfl rfl rfl rfl (by kernel_rfl) Try.func4 (by kernel_rfl)
    (of_decide_eq_true (by kernel_rfl)) (by unfold Func.isWrapper; first | (rw [if_pos (by decide +kernel)]; kernel_rfl) | (rw [if_neg (by decide +kernel)]; exact ⟨rfl, rfl⟩))
    (fun os started H enc _ => lifted os started H enc)
theorem proved : Rows.FnClockSaid := over
#print axioms proved
end Go.Proofs.Ytlhjblbmhlelbab.fnClock
namespace Go.Proofs.Ytlhjblbmhlelbab
/-- The row, under a short name, for the claim. -/
theorem fnClock_holds : Rows.FnClockSaid := fnClock.proved
end Go.Proofs.Ytlhjblbmhlelbab
