/- FnStampWritten: the row over the printed walk and the pure statement, and its tied card. Conditions: the row's own (the listed package-level variables hold what the program's text lays, which the card ties). -/
import Derived.Test.YtlhjblbmhlelbabDoorRows
import Derived.Test.YtlhjblbmhlelbabDoorPx9
import Derived.Test.YtlhjblbmhlelbabDoorLibRows
import Derived.Test.YtlhjblbmhlelbabDoorPureFnStampWritten
import Derived.WalkKit
import Derived.ProofKit
import Derived.OpenShut
import Derived.ShutString
import Derived.ChangeOld
import Derived.Below
import Derived.SizedLaws
import Derived.Carry
import Derived.Test.YtlhjblbmhlelbabDoorCards
import Derived.Test.YtlhjblbmhlelbabDoorTie
import Derived.Deep.DeepHandedRow
import Derived.Deep.DeepWitnessRowRef
import Derived.Lib.LaidTab
import Derived.Lay
namespace Go.Proofs.YtlhjblbmhlelbabDoor.fnStampWritten
open Go.ChangeShapes Go.WideShapes Go.ChangeAt Go.RowKit Go.Proofs.YtlhjblbmhlelbabDoor.Lib Go.Proofs.YtlhjblbmhlelbabDoorW.PrintWords
open Go.ChangeMaps (open_string shut_string)
set_option linter.unusedVariables false
theorem own : ownKnob Tryd.prog.godebug = none := by kernel_rfl
theorem laidOut : laidOutB Tryd.prog = true := by kernel_rfl
set_option maxRecDepth 100000 in
theorem contract (H : Type) (enc : TypeId × Value → H) (W : World) (base : Nat) (args : Array Value) (ds gs : List (DataW H)) (before : List MemPlace)
    (hval0 : ∀ (j : Nat) t v, Tryd.f3.params[j]? = some t → args[j]? = some v → Value.okWide Tryd.prog W .any base t v)
    (hW : DataW.Whole enc Tryd.prog Tryd.f3.params.toList Rows.fnStampWrittenSpec.vars false W args.toList ds gs before)
    (hsz0 : (DataW.weightsEach Tryd.prog (Tryd.f3.params.toList ++ Rows.fnStampWrittenSpec.plain.varTypes Tryd.prog) (ds ++ gs)).all (· ≤ reachBytes) = true) :
    Calls Tryd.prog 3 args W fun e W' => ∃ v, e = .returned v ∧ Rows.fnStampWrittenSpec.post enc Tryd.prog Tryd.f3 false true false false W args v W' := by
  have hsz : (DataW.weightsEach Tryd.prog (Tryd.f3.params.toList ++ Rows.fnStampWrittenSpec.plain.varTypes Tryd.prog) (ds ++ gs)).all (· ≤ reachBytes) = true := hsz0
  have hval : ∀ (j : Nat) t v, Tryd.f3.params[j]? = some t → args[j]? = some v → Value.okWide Tryd.prog W .any base t v := hval0
  have hW' := hW
  obtain ⟨p, q, hA0, hV, rfl, hfz, hnd⟩ := hW
  have hA : DataW.TrodAll enc Tryd.prog W 0 (fun _ => true) true Tryd.f3.params.toList args.toList ds p := hA0
  rw [Tryd.params3] at hA hval hsz
  obtain ⟨v0, vs0, d0, ds0, p0, q0, hargs, rfl, rfl, h0, tr0⟩ := trodAll_cons hA
  obtain ⟨rfl, rfl, rfl⟩ := trodAll_nil tr0
  obtain rfl : args = #[v0] := by cases args; simp_all
  obtain ⟨rfl, rfl⟩ := trodVars_none hV
  have k0 := h0
  have lt0 : ∀ x ∈ p0, x.block < W.heap.size := by obtain ⟨m, hm⟩ := k0; exact DataW.trod_lt m _ _ _ hm
  obtain ⟨cs0, rfl, hs0⟩ := okWide_struct Tryd.underlying23 (hval 0 23 v0 rfl rfl)
  obtain ⟨fuel0, hf0⟩ := h0
  obtain ⟨x0, hx0, g0⟩ := (opens_struct (fun x : P.S23 => (x.f0, x.f1, x.f2, x.f3, x.f4, x.f5, x.f6, x.f7)) Tryd.underlying23 (by kernel_rfl) (by kernel_rfl) (fun a => ⟨⟨a.1, a.2.1, a.2.2.1, a.2.2.2.1, a.2.2.2.2.1, a.2.2.2.2.2.1, a.2.2.2.2.2.2.1, a.2.2.2.2.2.2.2⟩, rfl⟩) (opensL_cons (opens_int Tryd.underlying3) (opensL_cons (opens_int Tryd.underlying3) (opensL_cons (opens_int Tryd.underlying3) (opensL_cons (opens_int Tryd.underlying3) (opensL_cons (opens_int Tryd.underlying3) (opensL_cons (opens_int Tryd.underlying3) (opensL_cons (opens_int Tryd.underlying3) (opensL_one (opens_int Tryd.underlying3)))))))))) _ _ _ _ _ _ hf0
  have e0 := P.k23_open hx0
  obtain rfl : cs0 = #[.int .i64 x0.f0, .int .i64 x0.f1, .int .i64 x0.f2, .int .i64 x0.f3, .int .i64 x0.f4, .int .i64 x0.f5, .int .i64 x0.f6, .int .i64 x0.f7] := by apply Array.ext'; simpa [Value.cells] using e0
  clear hA0 hval0 hsz0 hsz
  obtain ⟨k, hk⟩ := Pure.FnStampWritten x0 g0
  refine (P.laws_FnStampWritten.calls k x0.f0 x0.f1 x0.f2 x0.f3 x0.f4 x0.f5 x0.f6 x0.f7 true W hk).mono fun e W' ⟨he, bel0⟩ => ?_
  have bel : Below W.heap.size W W' := by first | exact bel0 | exact bel0.below
  subst he
  exact ⟨_, rfl, _, _, _, [], _, [], hW', trodAll_mk1 (shut_bool Tryd.underlying4 _), (trodAll_cons_mk (Below.trod laidOut (by kernel_rfl) (of_decide_eq_true (by kernel_rfl)) k0 bel lt0) trodAll_mk0), rfl, bel.frame _, fun h => by cases h⟩

/-- A world for the witness: the settled one, the listed variables holding what their initialisers lay. -/
def putCells (cs : Array Value) : Obj → Obj
  | .cells _ t frozen => .cells cs t frozen
  | o => o
noncomputable def low : Nat := (World.holding Tryd.prog default ⟨#[], #[], []⟩).heap.size
noncomputable def laidWorld (os : Os) : World := World.laidAll Tryd.prog os Rows.fnStampWrittenRow.laid
theorem laid_met (os : Os) : laidMet Tryd.prog Rows.fnStampWrittenRow.laid ((laidWorld os).forCall (fun _ _ => 0) ⟨#[], #[.agg #[.int .i64 0, .int .i64 0, .int .i64 0, .int .i64 0, .int .i64 0, .int .i64 0, .int .i64 0, .int .i64 0]], []⟩).memory :=
  laidMet_laidAll _ (by kernel_rfl) (by kernel_rfl)
theorem reads (os : Os) {H : Type} (enc : TypeId × Value → H) : ∃ places, DataW.whole enc Tryd.prog ((laidWorld os).forCall (fun _ _ => 0) ⟨#[], #[.agg #[.int .i64 0, .int .i64 0, .int .i64 0, .int .i64 0, .int .i64 0, .int .i64 0, .int .i64 0, .int .i64 0]], []⟩).memory Tryd.f3.params.toList Rows.fnStampWrittenSpec.vars false (#[.agg #[.int .i64 0, .int .i64 0, .int .i64 0, .int .i64 0, .int .i64 0, .int .i64 0, .int .i64 0, .int .i64 0]] : Array Value).toList 8 = some ([.agg [.lit (.int .i64 0), .lit (.int .i64 0), .lit (.int .i64 0), .lit (.int .i64 0), .lit (.int .i64 0), .lit (.int .i64 0), .lit (.int .i64 0), .lit (.int .i64 0)]], [], places) :=
  ⟨[], by kernel_rfl⟩
theorem shaped (os : Os) : ((laidWorld os).forCall (fun _ _ => 0) ⟨#[], #[.agg #[.int .i64 0, .int .i64 0, .int .i64 0, .int .i64 0, .int .i64 0, .int .i64 0, .int .i64 0, .int .i64 0]], []⟩).Shaped Tryd.prog :=
  World.shaped_of_ZipB (by kernel_rfl) (by kernel_rfl)
theorem okw (os : Os) : Input.okWideB Tryd.prog ((laidWorld os).forCall (fun _ _ => 0) ⟨#[], #[.agg #[.int .i64 0, .int .i64 0, .int .i64 0, .int .i64 0, .int .i64 0, .int .i64 0, .int .i64 0, .int .i64 0]], []⟩) 3 ⟨#[], #[.agg #[.int .i64 0, .int .i64 0, .int .i64 0, .int .i64 0, .int .i64 0, .int .i64 0, .int .i64 0, .int .i64 0]], []⟩ = true := by kernel_rfl
set_option maxRecDepth 100000 in
theorem witness (os : Os) {H : Type} (enc : TypeId × Value → H) :
    ∃ (w : World) (tape : Tape) (i : Input), w.os = os ∧ (w.forCall tape i).Shaped Tryd.checked.prog ∧ i.vars = [] ∧ Input.okWide Tryd.checked.prog (w.forCall tape i) .any w.heap.size 3 i ∧
      (OpenSpec.ofChange Rows.fnStampWrittenSpec).preRow enc Tryd.checked.prog Tryd.f3 Rows.fnStampWrittenRow.domain false Rows.fnStampWrittenRow.laid (w.forCall tape i).memory i.args ∧ ({ modest := false } : Assume).holds Tryd.checked.prog (lone (Frame.enter Tryd.checked.prog 3 i.args .normal) [] (w.forCall tape i)) := by
  obtain ⟨places, hx⟩ := reads os enc
  refine ⟨laidWorld os, fun _ _ => 0, ⟨#[], #[.agg #[.int .i64 0, .int .i64 0, .int .i64 0, .int .i64 0, .int .i64 0, .int .i64 0, .int .i64 0, .int .i64 0]], []⟩, rfl, shaped os, (Input.okWide_of_okWideB (base := 0) (okw os)).1, (Input.okWide_of_okWideB (okw os)).2,
    OpenSpec.preRow_of_cond 8 hx (by kernel_rfl) (fun k hk => by cases hk) (by kernel_rfl) (laid_met os), ?_⟩
  simp only [Assume.holds]
  exact ⟨by simp, by simp, fun _ => Modest.zero, by simp, by simp⟩
set_option maxRecDepth 100000 in
theorem lifted (os : Os) (started : os.Started) (H : Type) (enc : TypeId × Value → H) (F : Stop.Interp) :
    ReturnsInHanded {} Tryd.checked os 3 .any ((OpenSpec.ofChange Rows.fnStampWrittenSpec).preRow enc Tryd.prog Tryd.f3 Rows.fnStampWrittenRow.domain false Rows.fnStampWrittenRow.laid) (((OpenSpec.ofChange Rows.fnStampWrittenSpec).at F).post enc Tryd.prog Tryd.f3 false true false false) := by
  refine returnsInHanded_of_row (C := Tryd.checked) (s := OpenSpec.ofChange Rows.fnStampWrittenSpec) own started (by kernel_rfl) Tryd.func3
    (witness os enc) ?_
  intro W base args ds gs before hval hW _ _ hsz hL _ _
  exact contract H enc W base args ds gs before hval hW hsz
theorem said : Rows.FnStampWrittenSaid :=
  OpenClaim.holds_of_cond 3 Tryd.f3 rfl rfl rfl rfl rfl rfl rfl ⟨rfl, rfl, rfl, rfl, rfl⟩ rfl rfl rfl rfl rfl (by kernel_rfl) Tryd.func3 (by kernel_rfl)
    (of_decide_eq_true (by kernel_rfl)) (by unfold Func.isWrapper; first | (rw [if_pos (by decide +kernel)]; kernel_rfl) | (rw [if_neg (by decide +kernel)]; exact ⟨rfl, rfl⟩))
    (fun os started H enc _ F => by rw [OpenClaim.pre_eq_preRow]; exact lifted os started H enc F)
theorem plain (f : FuncId) (fn : Func) (hf : Tryd.pinned.checked.prog.funcNamed "given.example/pub-engrossment/laws.FnStampWritten" = some f) (hfn : Tryd.pinned.checked.prog.funcs[f]? = some fn) :
    false = Tryd.pinned.checked.prog.looks [] ∧ ∀ (j : Nat) t, fn.params[j]? = some t → Tryd.pinned.checked.prog.wantsStandIn t = false := by
  obtain rfl : f = 3 := Option.some.inj ((show Tryd.prog.funcNamed "given.example/pub-engrossment/laws.FnStampWritten" = some 3 by kernel_rfl).symm.trans hf) |>.symm
  obtain rfl : fn = Tryd.f3 := (Option.some.inj (Tryd.func3.symm.trans hfn)).symm
  refine ⟨by kernel_rfl, fun j t ht => ?_⟩
  rw [Tryd.params3] at ht
  have hm : t = 23 := by simpa using Array.mem_of_getElem? ht
  obtain rfl := hm
  exact (show Tryd.prog.wantsStandIn 23 = false by kernel_rfl)
theorem card : Rows.FnStampWrittenCardSaid :=
  Claim7.holds_tied_plain_at .later [] _ _ _ _ said (fun _ h => by cases h) (by kernel_rfl) (fun _ h => by cases h) fnStampWritten_row_tie rfl ⟨rfl, rfl⟩ (by kernel_rfl) rfl plain (by kernel_rfl)
end Go.Proofs.YtlhjblbmhlelbabDoor.fnStampWritten
namespace Go.Proofs.YtlhjblbmhlelbabDoor
/-- The card, under a short name, for the claim. -/
theorem fnStampWritten_card : Rows.FnStampWrittenCardSaid := fnStampWritten.card
end Go.Proofs.YtlhjblbmhlelbabDoor
