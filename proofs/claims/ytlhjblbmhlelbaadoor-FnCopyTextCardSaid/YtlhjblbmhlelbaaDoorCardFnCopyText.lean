/- FnCopyText: the row over the printed walk and the pure statement, and its tied card. Conditions: the row's own (the listed package-level variables hold what the program's text lays, which the card ties). -/
import Derived.Test.YtlhjblbmhlelbaaDoorRows
import Derived.WalkKit
import Derived.ProofKit
import Derived.OpenShut
import Derived.ShutString
import Derived.ChangeOld
import Derived.Below
import Derived.SizedLaws
import Derived.Test.YtlhjblbmhlelbaaDoorCopyLaw
import Derived.Test.YtlhjblbmhlelbaaDoorCards
import Derived.Test.YtlhjblbmhlelbaaDoorTie
import Derived.Deep.DeepHandedRow
import Derived.Deep.DeepWitnessRowRef
import Derived.Lib.LaidTab
import Derived.Lay
namespace Go.Proofs.YtlhjblbmhlelbaaDoor.fnCopyText
open Go.ChangeShapes Go.WideShapes Go.ChangeAt Go.RowKit
open Go.ChangeMaps (open_string shut_string)
set_option linter.unusedVariables false
theorem own : ownKnob Tryd.prog.godebug = none := by kernel_rfl
set_option maxRecDepth 100000 in
theorem contract (H : Type) (enc : TypeId × Value → H) (W : World) (base : Nat) (args : Array Value) (ds gs : List (DataW H)) (before : List MemPlace)
    (hval0 : ∀ (j : Nat) t v, Tryd.f5.params[j]? = some t → args[j]? = some v → Value.okWide Tryd.prog W .any base t v)
    (hW : DataW.Whole enc Tryd.prog Tryd.f5.params.toList Rows.fnCopyTextSpec.vars false W args.toList ds gs before)
    (hsz0 : (DataW.weightsEach Tryd.prog (Tryd.f5.params.toList ++ Rows.fnCopyTextSpec.plain.varTypes Tryd.prog) (ds ++ gs)).all (· ≤ reachBytes) = true)
    (hL : laidMet Tryd.prog Rows.fnCopyTextRow.laid W) :
    Calls Tryd.prog 5 args W fun e W' => ∃ v, e = .returned v ∧ Rows.fnCopyTextSpec.post enc Tryd.prog Tryd.f5 false true false false W args v W' := by
  have hsz : (DataW.weightsEach Tryd.prog (Tryd.f5.params.toList ++ Rows.fnCopyTextSpec.plain.varTypes Tryd.prog) (ds ++ gs)).all (· ≤ reachBytes) = true := hsz0
  have hval : ∀ (j : Nat) t v, Tryd.f5.params[j]? = some t → args[j]? = some v → Value.okWide Tryd.prog W .any base t v := hval0
  have hW' := hW
  obtain ⟨p, q, hA0, hV, rfl, hfz, hnd⟩ := hW
  have hA : DataW.TrodAll enc Tryd.prog W 0 (fun _ => true) true Tryd.f5.params.toList args.toList ds p := hA0
  rw [Tryd.params5] at hA hval hsz
  obtain ⟨v0, vs0, d0, ds0, p0, q0, hargs, rfl, rfl, h0, r0⟩ := trodAll_cons hA
  obtain ⟨v1, vs1, d1, ds1, p1, q1, rfl, rfl, rfl, h1, r1⟩ := trodAll_cons r0
  obtain ⟨rfl, rfl, rfl⟩ := trodAll_nil r1
  obtain rfl : args = #[v0, v1] := by cases args; simp_all
  obtain ⟨rfl, rfl⟩ := trodVars_none hV
  obtain ⟨a0, rfl, rfl, rfl, y0⟩ := open_string Tryd.underlying9 (hval 0 9 v0 rfl rfl) h0
  have w0 : a0.size ≤ 140737488351232 := by
    have z := sized_string hsz (j := 0) (t := 9) rfl rfl
    rw [Array.length_toList] at z
    exact z
  obtain ⟨a1, rfl, rfl, rfl, w1⟩ := open_int Tryd.underlying2 (hval 1 2 v1 rfl rfl) h1
  clear hA0 hval0 hsz0 hsz
  refine (Lib.copy_walk a0 a1 W (Lib.tab_of hL.tail.tail.tail (by kernel_rfl)) w0 w1).mono fun e W' ⟨he, bel⟩ => ?_
  subst he
  exact ⟨_, rfl, _, _, _, [], _, [], hW', trodAll_mk1 (shut_bool Tryd.underlying4 _), (trodAll_cons_mk (shut_string Tryd.underlying9 y0) (trodAll_cons_mk (shut_int Tryd.underlying2 w1) trodAll_mk0)), rfl, bel.frame _, fun h => by cases h⟩

/-- A world for the witness: the settled one, the listed variables holding what their initialisers lay. -/
def putCells (cs : Array Value) : Obj → Obj
  | .cells _ t frozen => .cells cs t frozen
  | o => o
noncomputable def low : Nat := (World.holding Tryd.prog default ⟨#[], #[], []⟩).heap.size
noncomputable def laidWorld (os : Os) : World := World.laidAll Tryd.prog os Rows.fnCopyTextRow.laid
theorem laid_met (os : Os) : laidMet Tryd.prog Rows.fnCopyTextRow.laid ((laidWorld os).forCall (fun _ _ => 0) ⟨#[], #[.string ByteArray.empty, .int .i64 0], []⟩).memory :=
  laidMet_laidAll _ (by kernel_rfl) (by kernel_rfl)
theorem reads (os : Os) {H : Type} (enc : TypeId × Value → H) : ∃ places, DataW.whole enc Tryd.prog ((laidWorld os).forCall (fun _ _ => 0) ⟨#[], #[.string ByteArray.empty, .int .i64 0], []⟩).memory Tryd.f5.params.toList Rows.fnCopyTextSpec.vars false (#[.string ByteArray.empty, .int .i64 0] : Array Value).toList 8 = some ([.lit (.string []), .lit (.int .i64 0)], [], places) :=
  ⟨[], by kernel_rfl⟩
theorem shaped (os : Os) : ((laidWorld os).forCall (fun _ _ => 0) ⟨#[], #[.string ByteArray.empty, .int .i64 0], []⟩).Shaped Tryd.prog :=
  World.shaped_of_ZipB (by kernel_rfl) (by kernel_rfl)
theorem okw (os : Os) : Input.okWideB Tryd.prog ((laidWorld os).forCall (fun _ _ => 0) ⟨#[], #[.string ByteArray.empty, .int .i64 0], []⟩) 5 ⟨#[], #[.string ByteArray.empty, .int .i64 0], []⟩ = true := by kernel_rfl
set_option maxRecDepth 100000 in
theorem witness (os : Os) {H : Type} (enc : TypeId × Value → H) :
    ∃ (w : World) (tape : Tape) (i : Input), w.os = os ∧ (w.forCall tape i).Shaped Tryd.checked.prog ∧ i.vars = [] ∧ Input.okWide Tryd.checked.prog (w.forCall tape i) .any w.heap.size 5 i ∧
      (OpenSpec.ofChange Rows.fnCopyTextSpec).preRow enc Tryd.checked.prog Tryd.f5 Rows.fnCopyTextRow.domain false Rows.fnCopyTextRow.laid (w.forCall tape i).memory i.args ∧ ({ modest := false } : Assume).holds Tryd.checked.prog (lone (Frame.enter Tryd.checked.prog 5 i.args .normal) [] (w.forCall tape i)) := by
  obtain ⟨places, hx⟩ := reads os enc
  refine ⟨laidWorld os, fun _ _ => 0, ⟨#[], #[.string ByteArray.empty, .int .i64 0], []⟩, rfl, shaped os, (Input.okWide_of_okWideB (base := 0) (okw os)).1, (Input.okWide_of_okWideB (okw os)).2,
    OpenSpec.preRow_of_cond 8 hx (by kernel_rfl) (fun k hk => by cases hk) (by kernel_rfl) (laid_met os), ?_⟩
  simp only [Assume.holds]
  exact ⟨by simp, by simp, fun _ => Modest.zero, by simp, by simp⟩
set_option maxRecDepth 100000 in
theorem lifted (os : Os) (started : os.Started) (H : Type) (enc : TypeId × Value → H) (F : Stop.Interp) :
    ReturnsInHanded {} Tryd.checked os 5 .any ((OpenSpec.ofChange Rows.fnCopyTextSpec).preRow enc Tryd.prog Tryd.f5 Rows.fnCopyTextRow.domain false Rows.fnCopyTextRow.laid) (((OpenSpec.ofChange Rows.fnCopyTextSpec).at F).post enc Tryd.prog Tryd.f5 false true false false) := by
  refine returnsInHanded_of_row (C := Tryd.checked) (s := OpenSpec.ofChange Rows.fnCopyTextSpec) own started (by kernel_rfl) Tryd.func5
    (witness os enc) ?_
  intro W base args ds gs before hval hW _ _ hsz hL _ _
  exact contract H enc W base args ds gs before hval hW hsz hL
theorem said : Rows.FnCopyTextSaid :=
  OpenClaim.holds_of_cond 5 Tryd.f5 rfl rfl rfl rfl rfl rfl rfl ⟨rfl, rfl, rfl, rfl, rfl⟩ rfl rfl rfl rfl rfl (by kernel_rfl) Tryd.func5 (by kernel_rfl)
    (of_decide_eq_true (by kernel_rfl)) (by unfold Func.isWrapper; first | (rw [if_pos (by decide +kernel)]; kernel_rfl) | (rw [if_neg (by decide +kernel)]; exact ⟨rfl, rfl⟩))
    (fun os started H enc _ F => by rw [OpenClaim.pre_eq_preRow]; exact lifted os started H enc F)
theorem plain (f : FuncId) (fn : Func) (hf : Tryd.pinned.checked.prog.funcNamed "given.example/pub-engrossment/laws.FnCopyText" = some f) (hfn : Tryd.pinned.checked.prog.funcs[f]? = some fn) :
    true = Tryd.pinned.checked.prog.looks [] ∧ ∀ (j : Nat) t, fn.params[j]? = some t → Tryd.pinned.checked.prog.wantsStandIn t = false := by
  obtain rfl : f = 5 := Option.some.inj ((show Tryd.prog.funcNamed "given.example/pub-engrossment/laws.FnCopyText" = some 5 by kernel_rfl).symm.trans hf) |>.symm
  obtain rfl : fn = Tryd.f5 := (Option.some.inj (Tryd.func5.symm.trans hfn)).symm
  refine ⟨by kernel_rfl, fun j t ht => ?_⟩
  rw [Tryd.params5] at ht
  have hm : t = 9 ∨ t = 2 := by simpa using Array.mem_of_getElem? ht
  rcases hm with rfl | rfl
  · exact (show Tryd.prog.wantsStandIn 9 = false by kernel_rfl)
  · exact (show Tryd.prog.wantsStandIn 2 = false by kernel_rfl)
theorem card : Rows.FnCopyTextCardSaid :=
  Claim7.holds_tied_plain_at .later [] _ _ _ _ said (fun _ h => by cases h) (by kernel_rfl) (fun _ h => by cases h) fnCopyText_row_tie rfl ⟨rfl, rfl⟩ (by kernel_rfl) rfl plain (by kernel_rfl)
end Go.Proofs.YtlhjblbmhlelbaaDoor.fnCopyText
namespace Go.Proofs.YtlhjblbmhlelbaaDoor
/-- The card, under a short name, for the claim. -/
theorem fnCopyText_card : Rows.FnCopyTextCardSaid := fnCopyText.card
end Go.Proofs.YtlhjblbmhlelbaaDoor
