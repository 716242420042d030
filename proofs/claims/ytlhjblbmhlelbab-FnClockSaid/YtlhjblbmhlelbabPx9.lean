-- Written by the program wip/myprint.py of this session, over the kit's print of the translation. Lean checks it.
import Derived.Test.YtlhjblbmhlelbabPx0
import Derived.Test.YtlhjblbmhlelbabPx1
import Derived.Test.YtlhjblbmhlelbabPx2
import Derived.Test.YtlhjblbmhlelbabPx3
import Derived.Test.YtlhjblbmhlelbabPx8
namespace Go.Proofs.Ytlhjblbmhlelbab.P
open Go.RowKit Go.Proofs.YtlhjblbmhlelbabW.PrintWords Go.Proofs.YtlhjblbmhlelbabW.PrintLast Go.Proofs.YtlhjblbmhlelbabW.PrintMore
attribute [local go_sem] max2_int min2_int max_two min_two max_three min_three max_four min_four   -- for this text's walks alone
set_option linter.unusedVariables false
set_option linter.unusedSimpArgs false

attribute [local go_sem high] eqA34
/-! ### laws_FnClock: function 4 -/
mutual
def laws_FnClock.j0 : Nat → Int → Int → Bool → Int → Int → Int → Int → Int → Int → Int → Int → Option (Bool)
  | 0, _, _, _, _, _, _, _, _, _, _, _ => none
  | k + 1, x1, x2, x3, x236000, x236001, x236002, x236003, x236004, x236005, x236006, x236007 => (spec_StampRight.f x236000 x236001 x236002 x236003 x236004 x236005 x236006 x236007).bind fun t236 => (if t236 = true then (laws_FnClock.j1 k x1 x2 x3 (x236007 == (-1)) x236000 x236001 x236002 x236003 x236004 x236005 x236006 x236007) else (laws_FnClock.j1 k x1 x2 x3 true x236000 x236001 x236002 x236003 x236004 x236005 x236006 x236007))
def laws_FnClock.j1 : Nat → Int → Int → Bool → Bool → Int → Int → Int → Int → Int → Int → Int → Int → Option (Bool)
  | 0, _, _, _, _, _, _, _, _, _, _, _, _ => none
  | k + 1, x1, x2, x3, x25, x236000, x236001, x236002, x236003, x236004, x236005, x236006, x236007 => if x25 = true then (some true) else ((spec_TimeText.f k x236000 x236001 x236002 x236003 x236004 x236005 x236006 x236007 (wrap64 (Int.tmod x1 10))).bind fun t237 => (if x3 = true then ((spec_ZoneText.f k x236007 (wrap64 (1 + (wrap64 (Int.tmod x2 3))))).bind fun t238 => (if t237.size + t238.size ≤ 9223372036854775807 then ((impl_ClockRead.f k (t237 ++ t238) x3).bind fun bt239 => (if bt239.2.2.2.2.2.2.2.2 = true then (some (bt239.1 == x236000 && (bt239.2.1 == x236001 && (bt239.2.2.1 == x236002 && (bt239.2.2.2.1 == x236003 && (bt239.2.2.2.2.1 == x236004 && (bt239.2.2.2.2.2.1 == x236005 && (bt239.2.2.2.2.2.2.1 == x236006 && (bt239.2.2.2.2.2.2.2.1 == x236007))))))))) else (some false))) else (none))) else ((impl_ClockRead.f k t237 x3).bind fun bt249 => (if bt249.2.2.2.2.2.2.2.2 = true then (some (bt249.1 == x236000 && (bt249.2.1 == x236001 && (bt249.2.2.1 == x236002 && (bt249.2.2.2.1 == x236003 && (bt249.2.2.2.2.1 == x236004 && (bt249.2.2.2.2.2.1 == x236005 && (bt249.2.2.2.2.2.2.1 == x236006 && (bt249.2.2.2.2.2.2.2.1 == x236007))))))))) else (some false)))))
end
def laws_FnClock.f (k : Nat) (a0_0 : Int) (a0_1 : Int) (a0_2 : Int) (a0_3 : Int) (a0_4 : Int) (a0_5 : Int) (a0_6 : Int) (a0_7 : Int) (a1 : Int) (a2 : Int) (a3 : Bool) : Option (Bool) := if a3 = true then (laws_FnClock.j0 k a1 a2 a3 0 1 1 a0_3 a0_4 a0_5 a0_6 a0_7) else (laws_FnClock.j0 k a1 a2 a3 0 1 1 a0_3 a0_4 a0_5 a0_6 0)
theorem laws_FnClock.mono_l : ∀ k, (∀ y0 y1 y2 y3 y4 y5 y6 y7 y8 y9 y10, LeO (laws_FnClock.j0 k y0 y1 y2 y3 y4 y5 y6 y7 y8 y9 y10) (laws_FnClock.j0 (k + 1) y0 y1 y2 y3 y4 y5 y6 y7 y8 y9 y10)) ∧ (∀ y0 y1 y2 y3 y4 y5 y6 y7 y8 y9 y10 y11, LeO (laws_FnClock.j1 k y0 y1 y2 y3 y4 y5 y6 y7 y8 y9 y10 y11) (laws_FnClock.j1 (k + 1) y0 y1 y2 y3 y4 y5 y6 y7 y8 y9 y10 y11))
  | 0 => ⟨fun _ _ _ _ _ _ _ _ _ _ _ r h => by simp [laws_FnClock.j0] at h, fun _ _ _ _ _ _ _ _ _ _ _ _ r h => by simp [laws_FnClock.j1] at h⟩
  | k + 1 => by
    obtain ⟨ih0, ih1⟩ := laws_FnClock.mono_l k
    refine ⟨?_, ?_⟩
    · intro y0 y1 y2 y3 y4 y5 y6 y7 y8 y9 y10
      unfold laws_FnClock.j0
      repeat' first
      | (with_reducible exact ih0 _ _ _ _ _ _ _ _ _ _ _)
      | (with_reducible exact ih1 _ _ _ _ _ _ _ _ _ _ _ _)
      | (with_reducible exact impl_ClockRead.mono _ _ _)
      | (with_reducible exact spec_TimeText.mono _ _ _ _ _ _ _ _ _ _)
      | (with_reducible exact spec_ZoneText.mono _ _ _)
      | (with_reducible exact LeO.refl _)
      | (with_reducible exact LeO.none _)
      | (with_reducible refine LeO.ite ?_ ?_)
      | (with_reducible refine LeO.bind ?_ (fun _ => ?_))
      | exact ih0 _ _ _ _ _ _ _ _ _ _ _
      | exact ih1 _ _ _ _ _ _ _ _ _ _ _ _
      | exact impl_ClockRead.mono _ _ _
      | exact spec_TimeText.mono _ _ _ _ _ _ _ _ _ _
      | exact spec_ZoneText.mono _ _ _
      | exact LeO.none _
      | refine LeO.ite ?_ ?_
      | refine LeO.bind ?_ (fun _ => ?_)
    · intro y0 y1 y2 y3 y4 y5 y6 y7 y8 y9 y10 y11
      unfold laws_FnClock.j1
      repeat' first
      | (with_reducible exact ih0 _ _ _ _ _ _ _ _ _ _ _)
      | (with_reducible exact ih1 _ _ _ _ _ _ _ _ _ _ _ _)
      | (with_reducible exact impl_ClockRead.mono _ _ _)
      | (with_reducible exact spec_TimeText.mono _ _ _ _ _ _ _ _ _ _)
      | (with_reducible exact spec_ZoneText.mono _ _ _)
      | (with_reducible exact LeO.refl _)
      | (with_reducible exact LeO.none _)
      | (with_reducible refine LeO.ite ?_ ?_)
      | (with_reducible refine LeO.bind ?_ (fun _ => ?_))
      | exact ih0 _ _ _ _ _ _ _ _ _ _ _
      | exact ih1 _ _ _ _ _ _ _ _ _ _ _ _
      | exact impl_ClockRead.mono _ _ _
      | exact spec_TimeText.mono _ _ _ _ _ _ _ _ _ _
      | exact spec_ZoneText.mono _ _ _
      | exact LeO.none _
      | refine LeO.ite ?_ ?_
      | refine LeO.bind ?_ (fun _ => ?_)
theorem laws_FnClock.mono : ∀ a0 a1 a2 a3 a4 a5 a6 a7 a8 a9 a10 k, LeO (laws_FnClock.f k a0 a1 a2 a3 a4 a5 a6 a7 a8 a9 a10) (laws_FnClock.f (k + 1) a0 a1 a2 a3 a4 a5 a6 a7 a8 a9 a10) := by
  intro a0 a1 a2 a3 a4 a5 a6 a7 a8 a9 a10 k
  obtain ⟨ih0, ih1⟩ := laws_FnClock.mono_l k
  unfold laws_FnClock.f
  repeat' first
      | (with_reducible exact ih0 _ _ _ _ _ _ _ _ _ _ _)
      | (with_reducible exact ih1 _ _ _ _ _ _ _ _ _ _ _ _)
      | (with_reducible exact impl_ClockRead.mono _ _ _)
      | (with_reducible exact spec_TimeText.mono _ _ _ _ _ _ _ _ _ _)
      | (with_reducible exact spec_ZoneText.mono _ _ _)
      | (with_reducible exact LeO.refl _)
      | (with_reducible exact LeO.none _)
      | (with_reducible refine LeO.ite ?_ ?_)
      | (with_reducible refine LeO.bind ?_ (fun _ => ?_))
      | exact ih0 _ _ _ _ _ _ _ _ _ _ _
      | exact ih1 _ _ _ _ _ _ _ _ _ _ _ _
      | exact impl_ClockRead.mono _ _ _
      | exact spec_TimeText.mono _ _ _ _ _ _ _ _ _ _
      | exact spec_ZoneText.mono _ _ _
      | exact LeO.none _
      | refine LeO.ite ?_ ?_
      | refine LeO.bind ?_ (fun _ => ?_)
set_option maxHeartbeats 8000000 in
set_option maxRecDepth 100000 in
theorem laws_FnClock.calls (k : Nat) (a0_0 : Int) (a0_1 : Int) (a0_2 : Int) (a0_3 : Int) (a0_4 : Int) (a0_5 : Int) (a0_6 : Int) (a0_7 : Int) (a1 : Int) (a2 : Int) (a3 : Bool) (r : Bool) (w : World) (h : laws_FnClock.f k a0_0 a0_1 a0_2 a0_3 a0_4 a0_5 a0_6 a0_7 a1 a2 a3 = some r) :
    Calls Try.prog 4 #[.agg #[.int .i64 a0_0, .int .i64 a0_1, .int .i64 a0_2, .int .i64 a0_3, .int .i64 a0_4, .int .i64 a0_5, .int .i64 a0_6, .int .i64 a0_7], .int .u8 a1, .int .u8 a2, .bool a3] w fun e w' => e = .returned (.bool r) ∧ Below w.heap.size w w' := by
  have hu34 := Try.underlying34
  have HB := Aside0.mk (Below.refl w.heap.size w)
  have H : (if a3 = true then (laws_FnClock.j0 k a1 a2 a3 0 1 1 a0_3 a0_4 a0_5 a0_6 a0_7) else (laws_FnClock.j0 k a1 a2 a3 0 1 1 a0_3 a0_4 a0_5 a0_6 0)) = some r := h
  clear h
  have HC5 := Aside0.mk H
  clear H
  go_enter Try.func4, Try.ntmps4
  go_upto_if 16 with (first | ((with_reducible refine gate_dst (N := 4) rfl ?_); refine box_event ?hg (N := 4) ?hd (cs := #[.int .i64 a0_0, .int .i64 a0_1, .int .i64 a0_2, .int .i64 a0_3, .int .i64 a0_4, .int .i64 a0_5, .int .i64 a0_6, .int .i64 a0_7]) (t := 34) ?hr ?_; (case hd => rfl); (case hg => rfl); (case hr => first | (go_simp; done) | (go_simp; rfl) | (go_simp; simp [IntKind.wrap_u8]; done)); intro gb235 hg w6 hbox hb; have n0_ := Aside0.mk (below_step (by repeat (first | (with_reducible first | exact HB.out | apply below_alloc | apply pw_below_drewN | apply below_drew1) | exact HB.out)) hb); have n1_ := Aside0.mk (hbox); have n2_ := Aside0.mk ((by rw [hg]; exact (below_size (by repeat (first | (with_reducible first | exact HB.out | apply below_alloc | apply pw_below_drewN | apply below_drew1) | exact HB.out))) : w.heap.size ≤ gb235)); have n3_ := Aside0.mk ((by rw [hg]; exact (below_size (by repeat (first | (with_reducible first | exact HB.out | apply below_alloc | apply pw_below_drewN | apply below_drew1) | exact HB.out))) : w.heap.size ≤ gb235)); clear HB; have HB := n0_; have BK235 := n1_; have GW235 := n2_; have GE235 := n3_; clear n0_ n1_ n2_ n3_; clear hb hbox hg; have hcz7_0 : w6.cell? ⟨gb235, 0, none⟩ = some (.int .i64 a0_0) := (blk_cell BK235.out 0).trans rfl; have hcz7_1 : w6.cell? ⟨gb235, 1, none⟩ = some (.int .i64 a0_1) := (blk_cell BK235.out 1).trans rfl; have hcz7_2 : w6.cell? ⟨gb235, 2, none⟩ = some (.int .i64 a0_2) := (blk_cell BK235.out 2).trans rfl; have hcz7_3 : w6.cell? ⟨gb235, 3, none⟩ = some (.int .i64 a0_3) := (blk_cell BK235.out 3).trans rfl; have hcz7_4 : w6.cell? ⟨gb235, 4, none⟩ = some (.int .i64 a0_4) := (blk_cell BK235.out 4).trans rfl; have hcz7_5 : w6.cell? ⟨gb235, 5, none⟩ = some (.int .i64 a0_5) := (blk_cell BK235.out 5).trans rfl; have hcz7_6 : w6.cell? ⟨gb235, 6, none⟩ = some (.int .i64 a0_6) := (blk_cell BK235.out 6).trans rfl; have hcz7_7 : w6.cell? ⟨gb235, 7, none⟩ = some (.int .i64 a0_7) := (blk_cell BK235.out 7).trans rfl; have hfz7_0 := blk_frozen BK235.out 0; have hfz7_1 := blk_frozen BK235.out 1; have hfz7_2 := blk_frozen BK235.out 2; have hfz7_3 := blk_frozen BK235.out 3; have hfz7_4 := blk_frozen BK235.out 4; have hfz7_5 := blk_frozen BK235.out 5; have hfz7_6 := blk_frozen BK235.out 6; have hfz7_7 := blk_frozen BK235.out 7))
  (try simp only [Act.put, List.setIfInBounds_toArray, List.set_cons_zero, List.set_cons_succ])
  go_cut [] (fun wc => ∃ (kq : Nat) (x236007_4 : Int), Aside0 (laws_FnClock.j0 kq a1 a2 a3 0 1 1 a0_3 a0_4 a0_5 a0_6 x236007_4 = some r) ∧ Aside0 (kq ≤ k) ∧ Aside0 (wc.heap[gb235]? = some (.cells #[.int .i64 0, .int .i64 1, .int .i64 1, .int .i64 a0_3, .int .i64 a0_4, .int .i64 a0_5, .int .i64 a0_6, .int .i64 x236007_4] 34 (0, 0))) ∧ Aside0 (Below w.heap.size w wc))
  case first =>
    have H := HC5.out
    clear HC5
    by_cases c8 : a3 = true
    · subst c8
      have H1 : (laws_FnClock.j0 k a1 a2 true 0 1 1 a0_3 a0_4 a0_5 a0_6 a0_7) = some r := by rw [if_pos rfl] at H; exact H
      clear H
      have H := H1
      clear H1
      have H' := Aside0.mk H
      clear H
      go_wp2
      go_meet
      case rel => exact ⟨_, (a0_7), H', ⟨by first | omega | exact Nat.le_refl _⟩, ⟨by (with_reducible repeat (first | refine blk_drewN ?_ _ | refine blk_drew ?_ | refine blk_alloc ?_ _)); refine blk_put (cs := #[.int .i64 0, .int .i64 1, .int .i64 a0_2, .int .i64 a0_3, .int .i64 a0_4, .int .i64 a0_5, .int .i64 a0_6, .int .i64 a0_7]) ?_ 2 _ rfl; (with_reducible repeat (first | refine blk_drewN ?_ _ | refine blk_drew ?_ | refine blk_alloc ?_ _)); refine blk_put (cs := #[.int .i64 0, .int .i64 a0_1, .int .i64 a0_2, .int .i64 a0_3, .int .i64 a0_4, .int .i64 a0_5, .int .i64 a0_6, .int .i64 a0_7]) ?_ 1 _ rfl; (with_reducible repeat (first | refine blk_drewN ?_ _ | refine blk_drew ?_ | refine blk_alloc ?_ _)); refine blk_put (cs := #[.int .i64 a0_0, .int .i64 a0_1, .int .i64 a0_2, .int .i64 a0_3, .int .i64 a0_4, .int .i64 a0_5, .int .i64 a0_6, .int .i64 a0_7]) ?_ 0 _ rfl; (with_reducible repeat (first | refine blk_drewN ?_ _ | refine blk_drew ?_ | refine blk_alloc ?_ _)); exact BK235.out⟩, ⟨by repeat (first | (with_reducible first | exact HB.out | apply below_alloc | apply pw_below_drewN | apply below_drew1 | refine below_set ?_ GE235.out) | exact HB.out)⟩⟩
    · replace c8 := Bool.eq_false_iff.mpr c8
      subst c8
      have H1 : (laws_FnClock.j0 k a1 a2 false 0 1 1 a0_3 a0_4 a0_5 a0_6 0) = some r := by rw [if_neg (show ¬ (false = true) by decide)] at H; exact H
      clear H
      have H := H1
      clear H1
      have H' := Aside0.mk H
      clear H
      have hcz9_0 : w6.cell? ⟨gb235, 0, none⟩ = some (.int .i64 a0_0) := (blk_cell BK235.out 0).trans rfl
      have hcz9_1 : w6.cell? ⟨gb235, 1, none⟩ = some (.int .i64 a0_1) := (blk_cell BK235.out 1).trans rfl
      have hcz9_2 : w6.cell? ⟨gb235, 2, none⟩ = some (.int .i64 a0_2) := (blk_cell BK235.out 2).trans rfl
      have hcz9_3 : w6.cell? ⟨gb235, 3, none⟩ = some (.int .i64 a0_3) := (blk_cell BK235.out 3).trans rfl
      have hcz9_4 : w6.cell? ⟨gb235, 4, none⟩ = some (.int .i64 a0_4) := (blk_cell BK235.out 4).trans rfl
      have hcz9_5 : w6.cell? ⟨gb235, 5, none⟩ = some (.int .i64 a0_5) := (blk_cell BK235.out 5).trans rfl
      have hcz9_6 : w6.cell? ⟨gb235, 6, none⟩ = some (.int .i64 a0_6) := (blk_cell BK235.out 6).trans rfl
      have hcz9_7 : w6.cell? ⟨gb235, 7, none⟩ = some (.int .i64 a0_7) := (blk_cell BK235.out 7).trans rfl
      have hfz9_0 := blk_frozen BK235.out 0
      have hfz9_1 := blk_frozen BK235.out 1
      have hfz9_2 := blk_frozen BK235.out 2
      have hfz9_3 := blk_frozen BK235.out 3
      have hfz9_4 := blk_frozen BK235.out 4
      have hfz9_5 := blk_frozen BK235.out 5
      have hfz9_6 := blk_frozen BK235.out 6
      have hfz9_7 := blk_frozen BK235.out 7
      go_wp2
      go_meet
      case rel => exact ⟨_, (0), H', ⟨by first | omega | exact Nat.le_refl _⟩, ⟨by (with_reducible repeat (first | refine blk_drewN ?_ _ | refine blk_drew ?_ | refine blk_alloc ?_ _)); refine blk_put (cs := #[.int .i64 0, .int .i64 1, .int .i64 1, .int .i64 a0_3, .int .i64 a0_4, .int .i64 a0_5, .int .i64 a0_6, .int .i64 a0_7]) ?_ 7 _ rfl; (with_reducible repeat (first | refine blk_drewN ?_ _ | refine blk_drew ?_ | refine blk_alloc ?_ _)); refine blk_put (cs := #[.int .i64 0, .int .i64 1, .int .i64 a0_2, .int .i64 a0_3, .int .i64 a0_4, .int .i64 a0_5, .int .i64 a0_6, .int .i64 a0_7]) ?_ 2 _ rfl; (with_reducible repeat (first | refine blk_drewN ?_ _ | refine blk_drew ?_ | refine blk_alloc ?_ _)); refine blk_put (cs := #[.int .i64 0, .int .i64 a0_1, .int .i64 a0_2, .int .i64 a0_3, .int .i64 a0_4, .int .i64 a0_5, .int .i64 a0_6, .int .i64 a0_7]) ?_ 1 _ rfl; (with_reducible repeat (first | refine blk_drewN ?_ _ | refine blk_drew ?_ | refine blk_alloc ?_ _)); refine blk_put (cs := #[.int .i64 a0_0, .int .i64 a0_1, .int .i64 a0_2, .int .i64 a0_3, .int .i64 a0_4, .int .i64 a0_5, .int .i64 a0_6, .int .i64 a0_7]) ?_ 0 _ rfl; (with_reducible repeat (first | refine blk_drewN ?_ _ | refine blk_drew ?_ | refine blk_alloc ?_ _)); exact BK235.out⟩, ⟨by repeat (first | (with_reducible first | exact HB.out | apply below_alloc | apply pw_below_drewN | apply below_drew1 | refine below_set ?_ GE235.out) | exact HB.out)⟩⟩
  case rest =>
    clear HC5
    try clear p2
    try clear c4
    try clear c8
    try clear hcz7_0
    try clear hcz7_1
    try clear hcz7_2
    try clear hcz7_3
    try clear hcz7_4
    try clear hcz7_5
    try clear hcz7_6
    try clear hcz7_7
    try clear hcz9_0
    try clear hcz9_1
    try clear hcz9_2
    try clear hcz9_3
    try clear hcz9_4
    try clear hcz9_5
    try clear hcz9_6
    try clear hcz9_7
    try clear hfz7_0
    try clear hfz7_1
    try clear hfz7_2
    try clear hfz7_3
    try clear hfz7_4
    try clear hfz7_5
    try clear hfz7_6
    try clear hfz7_7
    try clear hfz9_0
    try clear hfz9_1
    try clear hfz9_2
    try clear hfz9_3
    try clear hfz9_4
    try clear hfz9_5
    try clear hfz9_6
    try clear hfz9_7
    obtain ⟨kq, x236007_4, HA, HJ4, BK235, HB⟩ := hcut
    cases kq with
    | zero => exact absurd HA.out (by simp [laws_FnClock.j0])
    | succ kj4 =>
      have H := HA.out
      clear HA
      simp only [laws_FnClock.j0] at H
      have HC10 := Aside0.mk H
      clear H
      go_upto_region 4 with (fail)
      go_cut [25] (fun v25 wc => ∃ (kq : Nat) (x25_9 : Bool), v25 = .bool x25_9 ∧ Aside0 (laws_FnClock.j1 kq a1 a2 a3 x25_9 0 1 1 a0_3 a0_4 a0_5 a0_6 x236007_4 = some r) ∧ Aside0 (kq ≤ kj4) ∧ Aside0 (wc.heap[gb235]? = some (.cells #[.int .i64 0, .int .i64 1, .int .i64 1, .int .i64 a0_3, .int .i64 a0_4, .int .i64 a0_5, .int .i64 a0_6, .int .i64 x236007_4] 34 (0, 0))) ∧ Aside0 (Below w.heap.size w wc))
      case first =>
        have H := HC10.out
        clear HC10
        replace H := Option.bind_eq_some_iff.mp H
        obtain ⟨t236, A110, H⟩ := H
        replace H : (if t236 = true then (laws_FnClock.j1 kj4 a1 a2 a3 (x236007_4 == (-1)) 0 1 1 a0_3 a0_4 a0_5 a0_6 x236007_4) else (laws_FnClock.j1 kj4 a1 a2 a3 true 0 1 1 a0_3 a0_4 a0_5 a0_6 x236007_4)) = some r := H
        have A11 := Aside0.mk A110
        clear A110
        by_cases c12 : t236 = true
        · subst c12
          have H1 : (laws_FnClock.j1 kj4 a1 a2 a3 (x236007_4 == (-1)) 0 1 1 a0_3 a0_4 a0_5 a0_6 x236007_4) = some r := by rw [if_pos rfl] at H; exact H
          clear H
          have H := H1
          clear H1
          have H' := Aside0.mk H
          clear H
          have hcz13_0 : wc.cell? ⟨gb235, 0, none⟩ = some (.int .i64 0) := (blk_cell BK235.out 0).trans rfl
          have hcz13_1 : wc.cell? ⟨gb235, 1, none⟩ = some (.int .i64 1) := (blk_cell BK235.out 1).trans rfl
          have hcz13_2 : wc.cell? ⟨gb235, 2, none⟩ = some (.int .i64 1) := (blk_cell BK235.out 2).trans rfl
          have hcz13_3 : wc.cell? ⟨gb235, 3, none⟩ = some (.int .i64 a0_3) := (blk_cell BK235.out 3).trans rfl
          have hcz13_4 : wc.cell? ⟨gb235, 4, none⟩ = some (.int .i64 a0_4) := (blk_cell BK235.out 4).trans rfl
          have hcz13_5 : wc.cell? ⟨gb235, 5, none⟩ = some (.int .i64 a0_5) := (blk_cell BK235.out 5).trans rfl
          have hcz13_6 : wc.cell? ⟨gb235, 6, none⟩ = some (.int .i64 a0_6) := (blk_cell BK235.out 6).trans rfl
          have hcz13_7 : wc.cell? ⟨gb235, 7, none⟩ = some (.int .i64 x236007_4) := (blk_cell BK235.out 7).trans rfl
          have hfz13_0 := blk_frozen BK235.out 0
          have hfz13_1 := blk_frozen BK235.out 1
          have hfz13_2 := blk_frozen BK235.out 2
          have hfz13_3 := blk_frozen BK235.out 3
          have hfz13_4 := blk_frozen BK235.out 4
          have hfz13_5 := blk_frozen BK235.out 5
          have hfz13_6 := blk_frozen BK235.out 6
          have hfz13_7 := blk_frozen BK235.out 7
          go_wp2_with (first | ((with_reducible refine gate_callee (f := 12) rfl ?_); refine goesL_ (some 19) rfl rfl Try.func12 (by kernel_rfl) rfl #[.agg #[.int .i64 0, .int .i64 1, .int .i64 1, .int .i64 a0_3, .int .i64 a0_4, .int .i64 a0_5, .int .i64 a0_6, .int .i64 x236007_4]] rfl (by (try simp only [List.map_toArray, List.map_cons, List.map_nil]); first | done | rfl | (simp only [List.length_drop, List.length_take]; rfl)) ?_; (with_reducible refine (spec_StampRight.calls 0 1 1 a0_3 a0_4 a0_5 a0_6 x236007_4 true _ A11.out).mono ?_); rintro e w14 ⟨rfl, hb⟩; refine ⟨_, rfl, ?_⟩; have n0_ := Aside0.mk (blk_below (g := gb235) (o := .cells #[.int .i64 0, .int .i64 1, .int .i64 1, .int .i64 a0_3, .int .i64 a0_4, .int .i64 a0_5, .int .i64 a0_6, .int .i64 x236007_4] 34 (0, 0)) (by (with_reducible repeat (first | refine blk_drewN ?_ _ | refine blk_drew ?_ | refine blk_alloc ?_ _)); exact BK235.out) hb); have n1_ := Aside0.mk (below_step (by repeat (first | (with_reducible first | exact HB.out | apply below_alloc | apply pw_below_drewN | apply below_drew1 | refine below_set ?_ GE235.out) | exact HB.out)) hb); clear BK235; clear HB; have BK235 := n0_; have HB := n1_; clear n0_ n1_; (try clear hb); (try clear hb2); (try clear hk); (try clear hi); have hcz15_0 : w14.cell? ⟨gb235, 0, none⟩ = some (.int .i64 0) := (blk_cell BK235.out 0).trans rfl; have hcz15_1 : w14.cell? ⟨gb235, 1, none⟩ = some (.int .i64 1) := (blk_cell BK235.out 1).trans rfl; have hcz15_2 : w14.cell? ⟨gb235, 2, none⟩ = some (.int .i64 1) := (blk_cell BK235.out 2).trans rfl; have hcz15_3 : w14.cell? ⟨gb235, 3, none⟩ = some (.int .i64 a0_3) := (blk_cell BK235.out 3).trans rfl; have hcz15_4 : w14.cell? ⟨gb235, 4, none⟩ = some (.int .i64 a0_4) := (blk_cell BK235.out 4).trans rfl; have hcz15_5 : w14.cell? ⟨gb235, 5, none⟩ = some (.int .i64 a0_5) := (blk_cell BK235.out 5).trans rfl; have hcz15_6 : w14.cell? ⟨gb235, 6, none⟩ = some (.int .i64 a0_6) := (blk_cell BK235.out 6).trans rfl; have hcz15_7 : w14.cell? ⟨gb235, 7, none⟩ = some (.int .i64 x236007_4) := (blk_cell BK235.out 7).trans rfl; have hfz15_0 := blk_frozen BK235.out 0; have hfz15_1 := blk_frozen BK235.out 1; have hfz15_2 := blk_frozen BK235.out 2; have hfz15_3 := blk_frozen BK235.out 3; have hfz15_4 := blk_frozen BK235.out 4; have hfz15_5 := blk_frozen BK235.out 5; have hfz15_6 := blk_frozen BK235.out 6; have hfz15_7 := blk_frozen BK235.out 7))
          go_meet
          case rel => exact ⟨_, ((x236007_4 == (-1))), (by first | rfl | (simp; done) | (simp [*]; done)), H', ⟨by have := HJ4.out; first | omega | exact Nat.le_refl _⟩, ⟨by (with_reducible repeat (first | refine blk_drewN ?_ _ | refine blk_drew ?_ | refine blk_alloc ?_ _)); exact BK235.out⟩, ⟨by repeat (first | (with_reducible first | exact HB.out | apply below_alloc | apply pw_below_drewN | apply below_drew1 | refine below_set ?_ GE235.out) | exact HB.out)⟩⟩
        · replace c12 := Bool.eq_false_iff.mpr c12
          subst c12
          have H1 : (laws_FnClock.j1 kj4 a1 a2 a3 true 0 1 1 a0_3 a0_4 a0_5 a0_6 x236007_4) = some r := by rw [if_neg (show ¬ (false = true) by decide)] at H; exact H
          clear H
          have H := H1
          clear H1
          have H' := Aside0.mk H
          clear H
          have hcz16_0 : wc.cell? ⟨gb235, 0, none⟩ = some (.int .i64 0) := (blk_cell BK235.out 0).trans rfl
          have hcz16_1 : wc.cell? ⟨gb235, 1, none⟩ = some (.int .i64 1) := (blk_cell BK235.out 1).trans rfl
          have hcz16_2 : wc.cell? ⟨gb235, 2, none⟩ = some (.int .i64 1) := (blk_cell BK235.out 2).trans rfl
          have hcz16_3 : wc.cell? ⟨gb235, 3, none⟩ = some (.int .i64 a0_3) := (blk_cell BK235.out 3).trans rfl
          have hcz16_4 : wc.cell? ⟨gb235, 4, none⟩ = some (.int .i64 a0_4) := (blk_cell BK235.out 4).trans rfl
          have hcz16_5 : wc.cell? ⟨gb235, 5, none⟩ = some (.int .i64 a0_5) := (blk_cell BK235.out 5).trans rfl
          have hcz16_6 : wc.cell? ⟨gb235, 6, none⟩ = some (.int .i64 a0_6) := (blk_cell BK235.out 6).trans rfl
          have hcz16_7 : wc.cell? ⟨gb235, 7, none⟩ = some (.int .i64 x236007_4) := (blk_cell BK235.out 7).trans rfl
          have hfz16_0 := blk_frozen BK235.out 0
          have hfz16_1 := blk_frozen BK235.out 1
          have hfz16_2 := blk_frozen BK235.out 2
          have hfz16_3 := blk_frozen BK235.out 3
          have hfz16_4 := blk_frozen BK235.out 4
          have hfz16_5 := blk_frozen BK235.out 5
          have hfz16_6 := blk_frozen BK235.out 6
          have hfz16_7 := blk_frozen BK235.out 7
          go_wp2_with (first | ((with_reducible refine gate_callee (f := 12) rfl ?_); refine goesL_ (some 19) rfl rfl Try.func12 (by kernel_rfl) rfl #[.agg #[.int .i64 0, .int .i64 1, .int .i64 1, .int .i64 a0_3, .int .i64 a0_4, .int .i64 a0_5, .int .i64 a0_6, .int .i64 x236007_4]] rfl (by (try simp only [List.map_toArray, List.map_cons, List.map_nil]); first | done | rfl | (simp only [List.length_drop, List.length_take]; rfl)) ?_; (with_reducible refine (spec_StampRight.calls 0 1 1 a0_3 a0_4 a0_5 a0_6 x236007_4 false _ A11.out).mono ?_); rintro e w17 ⟨rfl, hb⟩; refine ⟨_, rfl, ?_⟩; have n0_ := Aside0.mk (blk_below (g := gb235) (o := .cells #[.int .i64 0, .int .i64 1, .int .i64 1, .int .i64 a0_3, .int .i64 a0_4, .int .i64 a0_5, .int .i64 a0_6, .int .i64 x236007_4] 34 (0, 0)) (by (with_reducible repeat (first | refine blk_drewN ?_ _ | refine blk_drew ?_ | refine blk_alloc ?_ _)); exact BK235.out) hb); have n1_ := Aside0.mk (below_step (by repeat (first | (with_reducible first | exact HB.out | apply below_alloc | apply pw_below_drewN | apply below_drew1 | refine below_set ?_ GE235.out) | exact HB.out)) hb); clear BK235; clear HB; have BK235 := n0_; have HB := n1_; clear n0_ n1_; (try clear hb); (try clear hb2); (try clear hk); (try clear hi)))
          go_meet
          case rel => exact ⟨_, (true), (by first | rfl | (simp; done) | (simp [*]; done)), H', ⟨by have := HJ4.out; first | omega | exact Nat.le_refl _⟩, ⟨by (with_reducible repeat (first | refine blk_drewN ?_ _ | refine blk_drew ?_ | refine blk_alloc ?_ _)); exact BK235.out⟩, ⟨by repeat (first | (with_reducible first | exact HB.out | apply below_alloc | apply pw_below_drewN | apply below_drew1 | refine below_set ?_ GE235.out) | exact HB.out)⟩⟩
      case rest =>
        clear HC10
        try clear c1
        try clear p2
        try clear c4
        try clear c8
        try clear c12
        try clear hcz13_0
        try clear hcz13_1
        try clear hcz13_2
        try clear hcz13_3
        try clear hcz13_4
        try clear hcz13_5
        try clear hcz13_6
        try clear hcz13_7
        try clear hcz15_0
        try clear hcz15_1
        try clear hcz15_2
        try clear hcz15_3
        try clear hcz15_4
        try clear hcz15_5
        try clear hcz15_6
        try clear hcz15_7
        try clear hcz16_0
        try clear hcz16_1
        try clear hcz16_2
        try clear hcz16_3
        try clear hcz16_4
        try clear hcz16_5
        try clear hcz16_6
        try clear hcz16_7
        try clear hcz7_0
        try clear hcz7_1
        try clear hcz7_2
        try clear hcz7_3
        try clear hcz7_4
        try clear hcz7_5
        try clear hcz7_6
        try clear hcz7_7
        try clear hcz9_0
        try clear hcz9_1
        try clear hcz9_2
        try clear hcz9_3
        try clear hcz9_4
        try clear hcz9_5
        try clear hcz9_6
        try clear hcz9_7
        try clear hfz13_0
        try clear hfz13_1
        try clear hfz13_2
        try clear hfz13_3
        try clear hfz13_4
        try clear hfz13_5
        try clear hfz13_6
        try clear hfz13_7
        try clear hfz15_0
        try clear hfz15_1
        try clear hfz15_2
        try clear hfz15_3
        try clear hfz15_4
        try clear hfz15_5
        try clear hfz15_6
        try clear hfz15_7
        try clear hfz16_0
        try clear hfz16_1
        try clear hfz16_2
        try clear hfz16_3
        try clear hfz16_4
        try clear hfz16_5
        try clear hfz16_6
        try clear hfz16_7
        try clear hfz7_0
        try clear hfz7_1
        try clear hfz7_2
        try clear hfz7_3
        try clear hfz7_4
        try clear hfz7_5
        try clear hfz7_6
        try clear hfz7_7
        try clear hfz9_0
        try clear hfz9_1
        try clear hfz9_2
        try clear hfz9_3
        try clear hfz9_4
        try clear hfz9_5
        try clear hfz9_6
        try clear hfz9_7
        try clear p2
        obtain ⟨kq, x25_9, rfl, HA, HJ9, BK235, HB⟩ := hcut
        cases kq with
        | zero => exact absurd HA.out (by simp [laws_FnClock.j1])
        | succ kj9 =>
          have H := HA.out
          clear HA
          simp only [laws_FnClock.j1] at H
          by_cases c18 : x25_9 = true
          · subst c18
            have H1 : (some true) = some r := by rw [if_pos rfl] at H; exact H
            clear H
            have H := H1
            clear H1
            obtain rfl := Option.some.inj H
            go_wp2
            go_ret
            exact ⟨by first | rfl | (simp [errW_none, errW_some] <;> rfl) | (simp [*, errW_none, errW_some] <;> rfl), by repeat (first | (with_reducible first | exact HB.out | apply below_alloc | apply pw_below_drewN | apply below_drew1 | refine below_set ?_ GE235.out) | exact HB.out)⟩
          · replace c18 := Bool.eq_false_iff.mpr c18
            subst c18
            have H1 : ((spec_TimeText.f kj9 0 1 1 a0_3 a0_4 a0_5 a0_6 x236007_4 (wrap64 (Int.tmod a1 10))).bind fun t237 => (if a3 = true then ((spec_ZoneText.f kj9 x236007_4 (wrap64 (1 + (wrap64 (Int.tmod a2 3))))).bind fun t238 => (if t237.size + t238.size ≤ 9223372036854775807 then ((impl_ClockRead.f kj9 (t237 ++ t238) a3).bind fun bt239 => (if bt239.2.2.2.2.2.2.2.2 = true then (some (bt239.1 == 0 && (bt239.2.1 == 1 && (bt239.2.2.1 == 1 && (bt239.2.2.2.1 == a0_3 && (bt239.2.2.2.2.1 == a0_4 && (bt239.2.2.2.2.2.1 == a0_5 && (bt239.2.2.2.2.2.2.1 == a0_6 && (bt239.2.2.2.2.2.2.2.1 == x236007_4))))))))) else (some false))) else (none))) else ((impl_ClockRead.f kj9 t237 a3).bind fun bt249 => (if bt249.2.2.2.2.2.2.2.2 = true then (some (bt249.1 == 0 && (bt249.2.1 == 1 && (bt249.2.2.1 == 1 && (bt249.2.2.2.1 == a0_3 && (bt249.2.2.2.2.1 == a0_4 && (bt249.2.2.2.2.2.1 == a0_5 && (bt249.2.2.2.2.2.2.1 == a0_6 && (bt249.2.2.2.2.2.2.2.1 == x236007_4))))))))) else (some false))))) = some r := by rw [if_neg (show ¬ (false = true) by decide)] at H; exact H
            clear H
            have H := H1
            clear H1
            replace H := Option.bind_eq_some_iff.mp H
            obtain ⟨t237, A190, H⟩ := H
            replace H : (if a3 = true then ((spec_ZoneText.f kj9 x236007_4 (wrap64 (1 + (wrap64 (Int.tmod a2 3))))).bind fun t238 => (if t237.size + t238.size ≤ 9223372036854775807 then ((impl_ClockRead.f kj9 (t237 ++ t238) a3).bind fun bt239 => (if bt239.2.2.2.2.2.2.2.2 = true then (some (bt239.1 == 0 && (bt239.2.1 == 1 && (bt239.2.2.1 == 1 && (bt239.2.2.2.1 == a0_3 && (bt239.2.2.2.2.1 == a0_4 && (bt239.2.2.2.2.2.1 == a0_5 && (bt239.2.2.2.2.2.2.1 == a0_6 && (bt239.2.2.2.2.2.2.2.1 == x236007_4))))))))) else (some false))) else (none))) else ((impl_ClockRead.f kj9 t237 a3).bind fun bt249 => (if bt249.2.2.2.2.2.2.2.2 = true then (some (bt249.1 == 0 && (bt249.2.1 == 1 && (bt249.2.2.1 == 1 && (bt249.2.2.2.1 == a0_3 && (bt249.2.2.2.2.1 == a0_4 && (bt249.2.2.2.2.2.1 == a0_5 && (bt249.2.2.2.2.2.2.1 == a0_6 && (bt249.2.2.2.2.2.2.2.1 == x236007_4))))))))) else (some false)))) = some r := H
            have A19 := Aside0.mk A190
            clear A190
            by_cases c20 : a3 = true
            · subst c20
              have H1 : ((spec_ZoneText.f kj9 x236007_4 (wrap64 (1 + (wrap64 (Int.tmod a2 3))))).bind fun t238 => (if t237.size + t238.size ≤ 9223372036854775807 then ((impl_ClockRead.f kj9 (t237 ++ t238) true).bind fun bt239 => (if bt239.2.2.2.2.2.2.2.2 = true then (some (bt239.1 == 0 && (bt239.2.1 == 1 && (bt239.2.2.1 == 1 && (bt239.2.2.2.1 == a0_3 && (bt239.2.2.2.2.1 == a0_4 && (bt239.2.2.2.2.2.1 == a0_5 && (bt239.2.2.2.2.2.2.1 == a0_6 && (bt239.2.2.2.2.2.2.2.1 == x236007_4))))))))) else (some false))) else (none))) = some r := by rw [if_pos rfl] at H; exact H
              clear H
              have H := H1
              clear H1
              replace H := Option.bind_eq_some_iff.mp H
              obtain ⟨t238, A210, H⟩ := H
              replace H : (if t237.size + t238.size ≤ 9223372036854775807 then ((impl_ClockRead.f kj9 (t237 ++ t238) true).bind fun bt239 => (if bt239.2.2.2.2.2.2.2.2 = true then (some (bt239.1 == 0 && (bt239.2.1 == 1 && (bt239.2.2.1 == 1 && (bt239.2.2.2.1 == a0_3 && (bt239.2.2.2.2.1 == a0_4 && (bt239.2.2.2.2.2.1 == a0_5 && (bt239.2.2.2.2.2.2.1 == a0_6 && (bt239.2.2.2.2.2.2.2.1 == x236007_4))))))))) else (some false))) else (none)) = some r := H
              have A21 := Aside0.mk A210
              clear A210
              by_cases c22 : t237.size + t238.size ≤ 9223372036854775807
              · rw [if_pos c22] at H
                have c22b0 := eq_true c22
                have c22b1 : decide (t237.size + t238.size ≤ 9223372036854775807) = true := decide_eq_true c22
                try have c22b2 : (9223372036854775807 < t237.size + t238.size) = False := eq_false (Nat.not_lt.2 c22)
                replace H := Option.bind_eq_some_iff.mp H
                obtain ⟨⟨t239, t240, t241, t242, t243, t244, t245, t246, t247⟩, A230, H⟩ := H
                replace H : (if t247 = true then (some (t239 == 0 && (t240 == 1 && (t241 == 1 && (t242 == a0_3 && (t243 == a0_4 && (t244 == a0_5 && (t245 == a0_6 && (t246 == x236007_4))))))))) else (some false)) = some r := H
                have A23 := Aside0.mk A230
                clear A230
                by_cases c24 : t247 = true
                · subst c24
                  have H1 : (some (t239 == 0 && (t240 == 1 && (t241 == 1 && (t242 == a0_3 && (t243 == a0_4 && (t244 == a0_5 && (t245 == a0_6 && (t246 == x236007_4))))))))) = some r := by rw [if_pos rfl] at H; exact H
                  clear H
                  have H := H1
                  clear H1
                  obtain rfl := Option.some.inj H
                  have hcz25_0 : wc.cell? ⟨gb235, 0, none⟩ = some (.int .i64 0) := (blk_cell BK235.out 0).trans rfl
                  have hcz25_1 : wc.cell? ⟨gb235, 1, none⟩ = some (.int .i64 1) := (blk_cell BK235.out 1).trans rfl
                  have hcz25_2 : wc.cell? ⟨gb235, 2, none⟩ = some (.int .i64 1) := (blk_cell BK235.out 2).trans rfl
                  have hcz25_3 : wc.cell? ⟨gb235, 3, none⟩ = some (.int .i64 a0_3) := (blk_cell BK235.out 3).trans rfl
                  have hcz25_4 : wc.cell? ⟨gb235, 4, none⟩ = some (.int .i64 a0_4) := (blk_cell BK235.out 4).trans rfl
                  have hcz25_5 : wc.cell? ⟨gb235, 5, none⟩ = some (.int .i64 a0_5) := (blk_cell BK235.out 5).trans rfl
                  have hcz25_6 : wc.cell? ⟨gb235, 6, none⟩ = some (.int .i64 a0_6) := (blk_cell BK235.out 6).trans rfl
                  have hcz25_7 : wc.cell? ⟨gb235, 7, none⟩ = some (.int .i64 x236007_4) := (blk_cell BK235.out 7).trans rfl
                  have hfz25_0 := blk_frozen BK235.out 0
                  have hfz25_1 := blk_frozen BK235.out 1
                  have hfz25_2 := blk_frozen BK235.out 2
                  have hfz25_3 := blk_frozen BK235.out 3
                  have hfz25_4 := blk_frozen BK235.out 4
                  have hfz25_5 := blk_frozen BK235.out 5
                  have hfz25_6 := blk_frozen BK235.out 6
                  have hfz25_7 := blk_frozen BK235.out 7
                  go_wp2_with (first | ((with_reducible refine gate_callee (f := 13) rfl ?_); refine goesL_ (some 30) rfl rfl Try.func13 (by kernel_rfl) rfl #[.agg #[.int .i64 0, .int .i64 1, .int .i64 1, .int .i64 a0_3, .int .i64 a0_4, .int .i64 a0_5, .int .i64 a0_6, .int .i64 x236007_4], .int .i64 (wrap64 (Int.tmod a1 10))] rfl (by (try simp only [List.map_toArray, List.map_cons, List.map_nil]); first | done | rfl | (simp only [List.length_drop, List.length_take]; rfl)) ?_; (with_reducible refine (spec_TimeText.calls kj9 0 1 1 a0_3 a0_4 a0_5 a0_6 x236007_4 (wrap64 (Int.tmod a1 10)) t237 _ A19.out).mono ?_); rintro e w26 ⟨rfl, hb⟩; refine ⟨_, rfl, ?_⟩; have n0_ := Aside0.mk (blk_below (g := gb235) (o := .cells #[.int .i64 0, .int .i64 1, .int .i64 1, .int .i64 a0_3, .int .i64 a0_4, .int .i64 a0_5, .int .i64 a0_6, .int .i64 x236007_4] 34 (0, 0)) (by (with_reducible repeat (first | refine blk_drewN ?_ _ | refine blk_drew ?_ | refine blk_alloc ?_ _)); exact BK235.out) hb); have n1_ := Aside0.mk (below_step (by repeat (first | (with_reducible first | exact HB.out | apply below_alloc | apply pw_below_drewN | apply below_drew1 | refine below_set ?_ GE235.out) | exact HB.out)) hb); clear BK235; clear HB; have BK235 := n0_; have HB := n1_; clear n0_ n1_; (try clear hb); (try clear hb2); (try clear hk); (try clear hi); have hcz27_0 : w26.cell? ⟨gb235, 0, none⟩ = some (.int .i64 0) := (blk_cell BK235.out 0).trans rfl; have hcz27_1 : w26.cell? ⟨gb235, 1, none⟩ = some (.int .i64 1) := (blk_cell BK235.out 1).trans rfl; have hcz27_2 : w26.cell? ⟨gb235, 2, none⟩ = some (.int .i64 1) := (blk_cell BK235.out 2).trans rfl; have hcz27_3 : w26.cell? ⟨gb235, 3, none⟩ = some (.int .i64 a0_3) := (blk_cell BK235.out 3).trans rfl; have hcz27_4 : w26.cell? ⟨gb235, 4, none⟩ = some (.int .i64 a0_4) := (blk_cell BK235.out 4).trans rfl; have hcz27_5 : w26.cell? ⟨gb235, 5, none⟩ = some (.int .i64 a0_5) := (blk_cell BK235.out 5).trans rfl; have hcz27_6 : w26.cell? ⟨gb235, 6, none⟩ = some (.int .i64 a0_6) := (blk_cell BK235.out 6).trans rfl; have hcz27_7 : w26.cell? ⟨gb235, 7, none⟩ = some (.int .i64 x236007_4) := (blk_cell BK235.out 7).trans rfl; have hfz27_0 := blk_frozen BK235.out 0; have hfz27_1 := blk_frozen BK235.out 1; have hfz27_2 := blk_frozen BK235.out 2; have hfz27_3 := blk_frozen BK235.out 3; have hfz27_4 := blk_frozen BK235.out 4; have hfz27_5 := blk_frozen BK235.out 5; have hfz27_6 := blk_frozen BK235.out 6; have hfz27_7 := blk_frozen BK235.out 7) | ((with_reducible refine gate_callee (f := 14) rfl ?_); refine goesL_ (some 39) rfl rfl Try.func14 (by kernel_rfl) rfl #[.int .i64 x236007_4, .int .i64 (wrap64 (1 + (wrap64 (Int.tmod a2 3))))] rfl (by (try simp only [List.map_toArray, List.map_cons, List.map_nil]); first | done | rfl | (simp only [List.length_drop, List.length_take]; rfl)) ?_; (with_reducible refine (spec_ZoneText.calls kj9 x236007_4 (wrap64 (1 + (wrap64 (Int.tmod a2 3)))) t238 _ A21.out).mono ?_); rintro e w28 ⟨rfl, hb⟩; refine ⟨_, rfl, ?_⟩; have n0_ := Aside0.mk (blk_below (g := gb235) (o := .cells #[.int .i64 0, .int .i64 1, .int .i64 1, .int .i64 a0_3, .int .i64 a0_4, .int .i64 a0_5, .int .i64 a0_6, .int .i64 x236007_4] 34 (0, 0)) (by (with_reducible repeat (first | refine blk_drewN ?_ _ | refine blk_drew ?_ | refine blk_alloc ?_ _)); exact BK235.out) hb); have n1_ := Aside0.mk (below_step (by repeat (first | (with_reducible first | exact HB.out | apply below_alloc | apply pw_below_drewN | apply below_drew1 | refine below_set ?_ GE235.out) | exact HB.out)) hb); clear BK235; clear HB; have BK235 := n0_; have HB := n1_; clear n0_ n1_; (try clear hb); (try clear hb2); (try clear hk); (try clear hi)) | ((with_reducible refine gate_callee (f := 15) rfl ?_); refine goesL_ (some 44) rfl rfl Try.func15 (by kernel_rfl) rfl #[.string (t237 ++ t238), .bool true] rfl (by (try simp only [List.map_toArray, List.map_cons, List.map_nil]); first | done | rfl | (simp only [List.length_drop, List.length_take]; rfl)) ?_; (with_reducible refine (impl_ClockRead.calls kj9 (t237 ++ t238) true t239 t240 t241 t242 t243 t244 t245 t246 true _ A23.out).mono ?_); rintro e w29 ⟨rfl, hb⟩; refine ⟨_, rfl, ?_⟩; have n0_ := Aside0.mk (blk_below (g := gb235) (o := .cells #[.int .i64 0, .int .i64 1, .int .i64 1, .int .i64 a0_3, .int .i64 a0_4, .int .i64 a0_5, .int .i64 a0_6, .int .i64 x236007_4] 34 (0, 0)) (by (with_reducible repeat (first | refine blk_drewN ?_ _ | refine blk_drew ?_ | refine blk_alloc ?_ _)); exact BK235.out) hb); have n1_ := Aside0.mk (below_step (by repeat (first | (with_reducible first | exact HB.out | apply below_alloc | apply pw_below_drewN | apply below_drew1 | refine below_set ?_ GE235.out) | exact HB.out)) hb); clear BK235; clear HB; have BK235 := n0_; have HB := n1_; clear n0_ n1_; (try clear hb); (try clear hb2); (try clear hk); (try clear hi)) | ((with_reducible refine gate_dst (N := 10) rfl ?_); refine box_event ?hg (N := 10) ?hd (cs := #[.int .i64 0, .int .i64 0, .int .i64 0, .int .i64 0, .int .i64 0, .int .i64 0, .int .i64 0, .int .i64 0]) (t := 34) ?hr ?_; (case hd => rfl); (case hg => rfl); (case hr => first | (go_simp; done) | (go_simp; rfl) | (go_simp; simp [IntKind.wrap_u8]; done)); intro gb248 hg w30 hbox hb; have n0_ := Aside0.mk (blk_below (g := gb235) (o := .cells #[.int .i64 0, .int .i64 1, .int .i64 1, .int .i64 a0_3, .int .i64 a0_4, .int .i64 a0_5, .int .i64 a0_6, .int .i64 x236007_4] 34 (0, 0)) (by (with_reducible repeat (first | refine blk_drewN ?_ _ | refine blk_drew ?_ | refine blk_alloc ?_ _)); exact BK235.out) hb); have n1_ := Aside0.mk (below_step (by repeat (first | (with_reducible first | exact HB.out | apply below_alloc | apply pw_below_drewN | apply below_drew1 | refine below_set ?_ GE235.out) | exact HB.out)) hb); have n2_ := Aside0.mk (hbox); have n3_ := Aside0.mk ((by rw [hg]; exact (below_size (by repeat (first | (with_reducible first | exact HB.out | apply below_alloc | apply pw_below_drewN | apply below_drew1 | refine below_set ?_ GE235.out) | exact HB.out))) : w.heap.size ≤ gb248)); have n4_ := Aside0.mk ((by rw [hg]; exact (below_size (by repeat (first | (with_reducible first | exact HB.out | apply below_alloc | apply pw_below_drewN | apply below_drew1 | refine below_set ?_ GE235.out) | exact HB.out))) : w.heap.size ≤ gb248)); have n5_ := Aside0.mk ((by rw [hg]; exact Nat.ne_of_lt (blk_lt (g := gb235) (o := .cells #[.int .i64 0, .int .i64 1, .int .i64 1, .int .i64 a0_3, .int .i64 a0_4, .int .i64 a0_5, .int .i64 a0_6, .int .i64 x236007_4] 34 (0, 0)) (by (with_reducible repeat (first | refine blk_drewN ?_ _ | refine blk_drew ?_ | refine blk_alloc ?_ _)); exact BK235.out)) : gb235 ≠ gb248)); have n6_ := Aside0.mk ((by rw [hg]; exact Nat.ne_of_gt (blk_lt (g := gb235) (o := .cells #[.int .i64 0, .int .i64 1, .int .i64 1, .int .i64 a0_3, .int .i64 a0_4, .int .i64 a0_5, .int .i64 a0_6, .int .i64 x236007_4] 34 (0, 0)) (by (with_reducible repeat (first | refine blk_drewN ?_ _ | refine blk_drew ?_ | refine blk_alloc ?_ _)); exact BK235.out)) : gb248 ≠ gb235)); clear BK235; clear HB; have BK235 := n0_; have HB := n1_; have BK248 := n2_; have GW248 := n3_; have GE248 := n4_; have NB235_248 := n5_; have NB248_235 := n6_; clear n0_ n1_ n2_ n3_ n4_ n5_ n6_; clear hb hbox hg; have hnb31 := NB248_235.out; have hnc31 := NB235_248.out; have hcz32_0 : w30.cell? ⟨gb248, 0, none⟩ = some (.int .i64 0) := (blk_cell BK248.out 0).trans rfl; have hcz32_1 : w30.cell? ⟨gb248, 1, none⟩ = some (.int .i64 0) := (blk_cell BK248.out 1).trans rfl; have hcz32_2 : w30.cell? ⟨gb248, 2, none⟩ = some (.int .i64 0) := (blk_cell BK248.out 2).trans rfl; have hcz32_3 : w30.cell? ⟨gb248, 3, none⟩ = some (.int .i64 0) := (blk_cell BK248.out 3).trans rfl; have hcz32_4 : w30.cell? ⟨gb248, 4, none⟩ = some (.int .i64 0) := (blk_cell BK248.out 4).trans rfl; have hcz32_5 : w30.cell? ⟨gb248, 5, none⟩ = some (.int .i64 0) := (blk_cell BK248.out 5).trans rfl; have hcz32_6 : w30.cell? ⟨gb248, 6, none⟩ = some (.int .i64 0) := (blk_cell BK248.out 6).trans rfl; have hcz32_7 : w30.cell? ⟨gb248, 7, none⟩ = some (.int .i64 0) := (blk_cell BK248.out 7).trans rfl; have hfz32_0 := blk_frozen BK248.out 0; have hfz32_1 := blk_frozen BK248.out 1; have hfz32_2 := blk_frozen BK248.out 2; have hfz32_3 := blk_frozen BK248.out 3; have hfz32_4 := blk_frozen BK248.out 4; have hfz32_5 := blk_frozen BK248.out 5; have hfz32_6 := blk_frozen BK248.out 6; have hfz32_7 := blk_frozen BK248.out 7; have hcz33_0 : w30.cell? ⟨gb235, 0, none⟩ = some (.int .i64 0) := (blk_cell BK235.out 0).trans rfl; have hcz33_1 : w30.cell? ⟨gb235, 1, none⟩ = some (.int .i64 1) := (blk_cell BK235.out 1).trans rfl; have hcz33_2 : w30.cell? ⟨gb235, 2, none⟩ = some (.int .i64 1) := (blk_cell BK235.out 2).trans rfl; have hcz33_3 : w30.cell? ⟨gb235, 3, none⟩ = some (.int .i64 a0_3) := (blk_cell BK235.out 3).trans rfl; have hcz33_4 : w30.cell? ⟨gb235, 4, none⟩ = some (.int .i64 a0_4) := (blk_cell BK235.out 4).trans rfl; have hcz33_5 : w30.cell? ⟨gb235, 5, none⟩ = some (.int .i64 a0_5) := (blk_cell BK235.out 5).trans rfl; have hcz33_6 : w30.cell? ⟨gb235, 6, none⟩ = some (.int .i64 a0_6) := (blk_cell BK235.out 6).trans rfl; have hcz33_7 : w30.cell? ⟨gb235, 7, none⟩ = some (.int .i64 x236007_4) := (blk_cell BK235.out 7).trans rfl; have hfz33_0 := blk_frozen BK235.out 0; have hfz33_1 := blk_frozen BK235.out 1; have hfz33_2 := blk_frozen BK235.out 2; have hfz33_3 := blk_frozen BK235.out 3; have hfz33_4 := blk_frozen BK235.out 4; have hfz33_5 := blk_frozen BK235.out 5; have hfz33_6 := blk_frozen BK235.out 6; have hfz33_7 := blk_frozen BK235.out 7))
                  go_ret
                  exact ⟨by first | rfl | (simp [errW_none, errW_some] <;> rfl) | (simp [*, errW_none, errW_some] <;> rfl), by repeat (first | (with_reducible first | exact HB.out | apply below_alloc | apply pw_below_drewN | apply below_drew1 | refine below_set ?_ GE235.out | refine below_set ?_ GE248.out) | exact HB.out)⟩
                · replace c24 := Bool.eq_false_iff.mpr c24
                  subst c24
                  have H1 : (some false) = some r := by rw [if_neg (show ¬ (false = true) by decide)] at H; exact H
                  clear H
                  have H := H1
                  clear H1
                  obtain rfl := Option.some.inj H
                  have hcz34_0 : wc.cell? ⟨gb235, 0, none⟩ = some (.int .i64 0) := (blk_cell BK235.out 0).trans rfl
                  have hcz34_1 : wc.cell? ⟨gb235, 1, none⟩ = some (.int .i64 1) := (blk_cell BK235.out 1).trans rfl
                  have hcz34_2 : wc.cell? ⟨gb235, 2, none⟩ = some (.int .i64 1) := (blk_cell BK235.out 2).trans rfl
                  have hcz34_3 : wc.cell? ⟨gb235, 3, none⟩ = some (.int .i64 a0_3) := (blk_cell BK235.out 3).trans rfl
                  have hcz34_4 : wc.cell? ⟨gb235, 4, none⟩ = some (.int .i64 a0_4) := (blk_cell BK235.out 4).trans rfl
                  have hcz34_5 : wc.cell? ⟨gb235, 5, none⟩ = some (.int .i64 a0_5) := (blk_cell BK235.out 5).trans rfl
                  have hcz34_6 : wc.cell? ⟨gb235, 6, none⟩ = some (.int .i64 a0_6) := (blk_cell BK235.out 6).trans rfl
                  have hcz34_7 : wc.cell? ⟨gb235, 7, none⟩ = some (.int .i64 x236007_4) := (blk_cell BK235.out 7).trans rfl
                  have hfz34_0 := blk_frozen BK235.out 0
                  have hfz34_1 := blk_frozen BK235.out 1
                  have hfz34_2 := blk_frozen BK235.out 2
                  have hfz34_3 := blk_frozen BK235.out 3
                  have hfz34_4 := blk_frozen BK235.out 4
                  have hfz34_5 := blk_frozen BK235.out 5
                  have hfz34_6 := blk_frozen BK235.out 6
                  have hfz34_7 := blk_frozen BK235.out 7
                  go_wp2_with (first | ((with_reducible refine gate_callee (f := 13) rfl ?_); refine goesL_ (some 30) rfl rfl Try.func13 (by kernel_rfl) rfl #[.agg #[.int .i64 0, .int .i64 1, .int .i64 1, .int .i64 a0_3, .int .i64 a0_4, .int .i64 a0_5, .int .i64 a0_6, .int .i64 x236007_4], .int .i64 (wrap64 (Int.tmod a1 10))] rfl (by (try simp only [List.map_toArray, List.map_cons, List.map_nil]); first | done | rfl | (simp only [List.length_drop, List.length_take]; rfl)) ?_; (with_reducible refine (spec_TimeText.calls kj9 0 1 1 a0_3 a0_4 a0_5 a0_6 x236007_4 (wrap64 (Int.tmod a1 10)) t237 _ A19.out).mono ?_); rintro e w35 ⟨rfl, hb⟩; refine ⟨_, rfl, ?_⟩; have n0_ := Aside0.mk (blk_below (g := gb235) (o := .cells #[.int .i64 0, .int .i64 1, .int .i64 1, .int .i64 a0_3, .int .i64 a0_4, .int .i64 a0_5, .int .i64 a0_6, .int .i64 x236007_4] 34 (0, 0)) (by (with_reducible repeat (first | refine blk_drewN ?_ _ | refine blk_drew ?_ | refine blk_alloc ?_ _)); exact BK235.out) hb); have n1_ := Aside0.mk (below_step (by repeat (first | (with_reducible first | exact HB.out | apply below_alloc | apply pw_below_drewN | apply below_drew1 | refine below_set ?_ GE235.out) | exact HB.out)) hb); clear BK235; clear HB; have BK235 := n0_; have HB := n1_; clear n0_ n1_; (try clear hb); (try clear hb2); (try clear hk); (try clear hi); have hcz36_0 : w35.cell? ⟨gb235, 0, none⟩ = some (.int .i64 0) := (blk_cell BK235.out 0).trans rfl; have hcz36_1 : w35.cell? ⟨gb235, 1, none⟩ = some (.int .i64 1) := (blk_cell BK235.out 1).trans rfl; have hcz36_2 : w35.cell? ⟨gb235, 2, none⟩ = some (.int .i64 1) := (blk_cell BK235.out 2).trans rfl; have hcz36_3 : w35.cell? ⟨gb235, 3, none⟩ = some (.int .i64 a0_3) := (blk_cell BK235.out 3).trans rfl; have hcz36_4 : w35.cell? ⟨gb235, 4, none⟩ = some (.int .i64 a0_4) := (blk_cell BK235.out 4).trans rfl; have hcz36_5 : w35.cell? ⟨gb235, 5, none⟩ = some (.int .i64 a0_5) := (blk_cell BK235.out 5).trans rfl; have hcz36_6 : w35.cell? ⟨gb235, 6, none⟩ = some (.int .i64 a0_6) := (blk_cell BK235.out 6).trans rfl; have hcz36_7 : w35.cell? ⟨gb235, 7, none⟩ = some (.int .i64 x236007_4) := (blk_cell BK235.out 7).trans rfl; have hfz36_0 := blk_frozen BK235.out 0; have hfz36_1 := blk_frozen BK235.out 1; have hfz36_2 := blk_frozen BK235.out 2; have hfz36_3 := blk_frozen BK235.out 3; have hfz36_4 := blk_frozen BK235.out 4; have hfz36_5 := blk_frozen BK235.out 5; have hfz36_6 := blk_frozen BK235.out 6; have hfz36_7 := blk_frozen BK235.out 7) | ((with_reducible refine gate_callee (f := 14) rfl ?_); refine goesL_ (some 39) rfl rfl Try.func14 (by kernel_rfl) rfl #[.int .i64 x236007_4, .int .i64 (wrap64 (1 + (wrap64 (Int.tmod a2 3))))] rfl (by (try simp only [List.map_toArray, List.map_cons, List.map_nil]); first | done | rfl | (simp only [List.length_drop, List.length_take]; rfl)) ?_; (with_reducible refine (spec_ZoneText.calls kj9 x236007_4 (wrap64 (1 + (wrap64 (Int.tmod a2 3)))) t238 _ A21.out).mono ?_); rintro e w37 ⟨rfl, hb⟩; refine ⟨_, rfl, ?_⟩; have n0_ := Aside0.mk (blk_below (g := gb235) (o := .cells #[.int .i64 0, .int .i64 1, .int .i64 1, .int .i64 a0_3, .int .i64 a0_4, .int .i64 a0_5, .int .i64 a0_6, .int .i64 x236007_4] 34 (0, 0)) (by (with_reducible repeat (first | refine blk_drewN ?_ _ | refine blk_drew ?_ | refine blk_alloc ?_ _)); exact BK235.out) hb); have n1_ := Aside0.mk (below_step (by repeat (first | (with_reducible first | exact HB.out | apply below_alloc | apply pw_below_drewN | apply below_drew1 | refine below_set ?_ GE235.out) | exact HB.out)) hb); clear BK235; clear HB; have BK235 := n0_; have HB := n1_; clear n0_ n1_; (try clear hb); (try clear hb2); (try clear hk); (try clear hi)) | ((with_reducible refine gate_callee (f := 15) rfl ?_); refine goesL_ (some 44) rfl rfl Try.func15 (by kernel_rfl) rfl #[.string (t237 ++ t238), .bool true] rfl (by (try simp only [List.map_toArray, List.map_cons, List.map_nil]); first | done | rfl | (simp only [List.length_drop, List.length_take]; rfl)) ?_; (with_reducible refine (impl_ClockRead.calls kj9 (t237 ++ t238) true t239 t240 t241 t242 t243 t244 t245 t246 false _ A23.out).mono ?_); rintro e w38 ⟨rfl, hb⟩; refine ⟨_, rfl, ?_⟩; have n0_ := Aside0.mk (blk_below (g := gb235) (o := .cells #[.int .i64 0, .int .i64 1, .int .i64 1, .int .i64 a0_3, .int .i64 a0_4, .int .i64 a0_5, .int .i64 a0_6, .int .i64 x236007_4] 34 (0, 0)) (by (with_reducible repeat (first | refine blk_drewN ?_ _ | refine blk_drew ?_ | refine blk_alloc ?_ _)); exact BK235.out) hb); have n1_ := Aside0.mk (below_step (by repeat (first | (with_reducible first | exact HB.out | apply below_alloc | apply pw_below_drewN | apply below_drew1 | refine below_set ?_ GE235.out) | exact HB.out)) hb); clear BK235; clear HB; have BK235 := n0_; have HB := n1_; clear n0_ n1_; (try clear hb); (try clear hb2); (try clear hk); (try clear hi)) | ((with_reducible refine gate_dst (N := 10) rfl ?_); refine box_event ?hg (N := 10) ?hd (cs := #[.int .i64 0, .int .i64 0, .int .i64 0, .int .i64 0, .int .i64 0, .int .i64 0, .int .i64 0, .int .i64 0]) (t := 34) ?hr ?_; (case hd => rfl); (case hg => rfl); (case hr => first | (go_simp; done) | (go_simp; rfl) | (go_simp; simp [IntKind.wrap_u8]; done)); intro gb248 hg w39 hbox hb; have n0_ := Aside0.mk (blk_below (g := gb235) (o := .cells #[.int .i64 0, .int .i64 1, .int .i64 1, .int .i64 a0_3, .int .i64 a0_4, .int .i64 a0_5, .int .i64 a0_6, .int .i64 x236007_4] 34 (0, 0)) (by (with_reducible repeat (first | refine blk_drewN ?_ _ | refine blk_drew ?_ | refine blk_alloc ?_ _)); exact BK235.out) hb); have n1_ := Aside0.mk (below_step (by repeat (first | (with_reducible first | exact HB.out | apply below_alloc | apply pw_below_drewN | apply below_drew1 | refine below_set ?_ GE235.out) | exact HB.out)) hb); have n2_ := Aside0.mk (hbox); have n3_ := Aside0.mk ((by rw [hg]; exact (below_size (by repeat (first | (with_reducible first | exact HB.out | apply below_alloc | apply pw_below_drewN | apply below_drew1 | refine below_set ?_ GE235.out) | exact HB.out))) : w.heap.size ≤ gb248)); have n4_ := Aside0.mk ((by rw [hg]; exact (below_size (by repeat (first | (with_reducible first | exact HB.out | apply below_alloc | apply pw_below_drewN | apply below_drew1 | refine below_set ?_ GE235.out) | exact HB.out))) : w.heap.size ≤ gb248)); have n5_ := Aside0.mk ((by rw [hg]; exact Nat.ne_of_lt (blk_lt (g := gb235) (o := .cells #[.int .i64 0, .int .i64 1, .int .i64 1, .int .i64 a0_3, .int .i64 a0_4, .int .i64 a0_5, .int .i64 a0_6, .int .i64 x236007_4] 34 (0, 0)) (by (with_reducible repeat (first | refine blk_drewN ?_ _ | refine blk_drew ?_ | refine blk_alloc ?_ _)); exact BK235.out)) : gb235 ≠ gb248)); have n6_ := Aside0.mk ((by rw [hg]; exact Nat.ne_of_gt (blk_lt (g := gb235) (o := .cells #[.int .i64 0, .int .i64 1, .int .i64 1, .int .i64 a0_3, .int .i64 a0_4, .int .i64 a0_5, .int .i64 a0_6, .int .i64 x236007_4] 34 (0, 0)) (by (with_reducible repeat (first | refine blk_drewN ?_ _ | refine blk_drew ?_ | refine blk_alloc ?_ _)); exact BK235.out)) : gb248 ≠ gb235)); clear BK235; clear HB; have BK235 := n0_; have HB := n1_; have BK248 := n2_; have GW248 := n3_; have GE248 := n4_; have NB235_248 := n5_; have NB248_235 := n6_; clear n0_ n1_ n2_ n3_ n4_ n5_ n6_; clear hb hbox hg; have hnb40 := NB248_235.out; have hnc40 := NB235_248.out; have hcz41_0 : w39.cell? ⟨gb248, 0, none⟩ = some (.int .i64 0) := (blk_cell BK248.out 0).trans rfl; have hcz41_1 : w39.cell? ⟨gb248, 1, none⟩ = some (.int .i64 0) := (blk_cell BK248.out 1).trans rfl; have hcz41_2 : w39.cell? ⟨gb248, 2, none⟩ = some (.int .i64 0) := (blk_cell BK248.out 2).trans rfl; have hcz41_3 : w39.cell? ⟨gb248, 3, none⟩ = some (.int .i64 0) := (blk_cell BK248.out 3).trans rfl; have hcz41_4 : w39.cell? ⟨gb248, 4, none⟩ = some (.int .i64 0) := (blk_cell BK248.out 4).trans rfl; have hcz41_5 : w39.cell? ⟨gb248, 5, none⟩ = some (.int .i64 0) := (blk_cell BK248.out 5).trans rfl; have hcz41_6 : w39.cell? ⟨gb248, 6, none⟩ = some (.int .i64 0) := (blk_cell BK248.out 6).trans rfl; have hcz41_7 : w39.cell? ⟨gb248, 7, none⟩ = some (.int .i64 0) := (blk_cell BK248.out 7).trans rfl; have hfz41_0 := blk_frozen BK248.out 0; have hfz41_1 := blk_frozen BK248.out 1; have hfz41_2 := blk_frozen BK248.out 2; have hfz41_3 := blk_frozen BK248.out 3; have hfz41_4 := blk_frozen BK248.out 4; have hfz41_5 := blk_frozen BK248.out 5; have hfz41_6 := blk_frozen BK248.out 6; have hfz41_7 := blk_frozen BK248.out 7))
                  go_ret
                  exact ⟨by first | rfl | (simp [errW_none, errW_some] <;> rfl) | (simp [*, errW_none, errW_some] <;> rfl), by repeat (first | (with_reducible first | exact HB.out | apply below_alloc | apply pw_below_drewN | apply below_drew1 | refine below_set ?_ GE235.out | refine below_set ?_ GE248.out) | exact HB.out)⟩
              · rw [if_neg c22] at H
                exact absurd H (by simp)
            · replace c20 := Bool.eq_false_iff.mpr c20
              subst c20
              have H1 : ((impl_ClockRead.f kj9 t237 false).bind fun bt249 => (if bt249.2.2.2.2.2.2.2.2 = true then (some (bt249.1 == 0 && (bt249.2.1 == 1 && (bt249.2.2.1 == 1 && (bt249.2.2.2.1 == a0_3 && (bt249.2.2.2.2.1 == a0_4 && (bt249.2.2.2.2.2.1 == a0_5 && (bt249.2.2.2.2.2.2.1 == a0_6 && (bt249.2.2.2.2.2.2.2.1 == x236007_4))))))))) else (some false))) = some r := by rw [if_neg (show ¬ (false = true) by decide)] at H; exact H
              clear H
              have H := H1
              clear H1
              replace H := Option.bind_eq_some_iff.mp H
              obtain ⟨⟨t249, t250, t251, t252, t253, t254, t255, t256, t257⟩, A420, H⟩ := H
              replace H : (if t257 = true then (some (t249 == 0 && (t250 == 1 && (t251 == 1 && (t252 == a0_3 && (t253 == a0_4 && (t254 == a0_5 && (t255 == a0_6 && (t256 == x236007_4))))))))) else (some false)) = some r := H
              have A42 := Aside0.mk A420
              clear A420
              by_cases c43 : t257 = true
              · subst c43
                have H1 : (some (t249 == 0 && (t250 == 1 && (t251 == 1 && (t252 == a0_3 && (t253 == a0_4 && (t254 == a0_5 && (t255 == a0_6 && (t256 == x236007_4))))))))) = some r := by rw [if_pos rfl] at H; exact H
                clear H
                have H := H1
                clear H1
                obtain rfl := Option.some.inj H
                have hcz44_0 : wc.cell? ⟨gb235, 0, none⟩ = some (.int .i64 0) := (blk_cell BK235.out 0).trans rfl
                have hcz44_1 : wc.cell? ⟨gb235, 1, none⟩ = some (.int .i64 1) := (blk_cell BK235.out 1).trans rfl
                have hcz44_2 : wc.cell? ⟨gb235, 2, none⟩ = some (.int .i64 1) := (blk_cell BK235.out 2).trans rfl
                have hcz44_3 : wc.cell? ⟨gb235, 3, none⟩ = some (.int .i64 a0_3) := (blk_cell BK235.out 3).trans rfl
                have hcz44_4 : wc.cell? ⟨gb235, 4, none⟩ = some (.int .i64 a0_4) := (blk_cell BK235.out 4).trans rfl
                have hcz44_5 : wc.cell? ⟨gb235, 5, none⟩ = some (.int .i64 a0_5) := (blk_cell BK235.out 5).trans rfl
                have hcz44_6 : wc.cell? ⟨gb235, 6, none⟩ = some (.int .i64 a0_6) := (blk_cell BK235.out 6).trans rfl
                have hcz44_7 : wc.cell? ⟨gb235, 7, none⟩ = some (.int .i64 x236007_4) := (blk_cell BK235.out 7).trans rfl
                have hfz44_0 := blk_frozen BK235.out 0
                have hfz44_1 := blk_frozen BK235.out 1
                have hfz44_2 := blk_frozen BK235.out 2
                have hfz44_3 := blk_frozen BK235.out 3
                have hfz44_4 := blk_frozen BK235.out 4
                have hfz44_5 := blk_frozen BK235.out 5
                have hfz44_6 := blk_frozen BK235.out 6
                have hfz44_7 := blk_frozen BK235.out 7
                go_wp2_with (first | ((with_reducible refine gate_callee (f := 13) rfl ?_); refine goesL_ (some 30) rfl rfl Try.func13 (by kernel_rfl) rfl #[.agg #[.int .i64 0, .int .i64 1, .int .i64 1, .int .i64 a0_3, .int .i64 a0_4, .int .i64 a0_5, .int .i64 a0_6, .int .i64 x236007_4], .int .i64 (wrap64 (Int.tmod a1 10))] rfl (by (try simp only [List.map_toArray, List.map_cons, List.map_nil]); first | done | rfl | (simp only [List.length_drop, List.length_take]; rfl)) ?_; (with_reducible refine (spec_TimeText.calls kj9 0 1 1 a0_3 a0_4 a0_5 a0_6 x236007_4 (wrap64 (Int.tmod a1 10)) t237 _ A19.out).mono ?_); rintro e w45 ⟨rfl, hb⟩; refine ⟨_, rfl, ?_⟩; have n0_ := Aside0.mk (blk_below (g := gb235) (o := .cells #[.int .i64 0, .int .i64 1, .int .i64 1, .int .i64 a0_3, .int .i64 a0_4, .int .i64 a0_5, .int .i64 a0_6, .int .i64 x236007_4] 34 (0, 0)) (by (with_reducible repeat (first | refine blk_drewN ?_ _ | refine blk_drew ?_ | refine blk_alloc ?_ _)); exact BK235.out) hb); have n1_ := Aside0.mk (below_step (by repeat (first | (with_reducible first | exact HB.out | apply below_alloc | apply pw_below_drewN | apply below_drew1 | refine below_set ?_ GE235.out) | exact HB.out)) hb); clear BK235; clear HB; have BK235 := n0_; have HB := n1_; clear n0_ n1_; (try clear hb); (try clear hb2); (try clear hk); (try clear hi)) | ((with_reducible refine gate_callee (f := 15) rfl ?_); refine goesL_ (some 44) rfl rfl Try.func15 (by kernel_rfl) rfl #[.string t237, .bool false] rfl (by (try simp only [List.map_toArray, List.map_cons, List.map_nil]); first | done | rfl | (simp only [List.length_drop, List.length_take]; rfl)) ?_; (with_reducible refine (impl_ClockRead.calls kj9 t237 false t249 t250 t251 t252 t253 t254 t255 t256 true _ A42.out).mono ?_); rintro e w46 ⟨rfl, hb⟩; refine ⟨_, rfl, ?_⟩; have n0_ := Aside0.mk (blk_below (g := gb235) (o := .cells #[.int .i64 0, .int .i64 1, .int .i64 1, .int .i64 a0_3, .int .i64 a0_4, .int .i64 a0_5, .int .i64 a0_6, .int .i64 x236007_4] 34 (0, 0)) (by (with_reducible repeat (first | refine blk_drewN ?_ _ | refine blk_drew ?_ | refine blk_alloc ?_ _)); exact BK235.out) hb); have n1_ := Aside0.mk (below_step (by repeat (first | (with_reducible first | exact HB.out | apply below_alloc | apply pw_below_drewN | apply below_drew1 | refine below_set ?_ GE235.out) | exact HB.out)) hb); clear BK235; clear HB; have BK235 := n0_; have HB := n1_; clear n0_ n1_; (try clear hb); (try clear hb2); (try clear hk); (try clear hi)) | ((with_reducible refine gate_dst (N := 10) rfl ?_); refine box_event ?hg (N := 10) ?hd (cs := #[.int .i64 0, .int .i64 0, .int .i64 0, .int .i64 0, .int .i64 0, .int .i64 0, .int .i64 0, .int .i64 0]) (t := 34) ?hr ?_; (case hd => rfl); (case hg => rfl); (case hr => first | (go_simp; done) | (go_simp; rfl) | (go_simp; simp [IntKind.wrap_u8]; done)); intro gb258 hg w47 hbox hb; have n0_ := Aside0.mk (blk_below (g := gb235) (o := .cells #[.int .i64 0, .int .i64 1, .int .i64 1, .int .i64 a0_3, .int .i64 a0_4, .int .i64 a0_5, .int .i64 a0_6, .int .i64 x236007_4] 34 (0, 0)) (by (with_reducible repeat (first | refine blk_drewN ?_ _ | refine blk_drew ?_ | refine blk_alloc ?_ _)); exact BK235.out) hb); have n1_ := Aside0.mk (below_step (by repeat (first | (with_reducible first | exact HB.out | apply below_alloc | apply pw_below_drewN | apply below_drew1 | refine below_set ?_ GE235.out) | exact HB.out)) hb); have n2_ := Aside0.mk (hbox); have n3_ := Aside0.mk ((by rw [hg]; exact (below_size (by repeat (first | (with_reducible first | exact HB.out | apply below_alloc | apply pw_below_drewN | apply below_drew1 | refine below_set ?_ GE235.out) | exact HB.out))) : w.heap.size ≤ gb258)); have n4_ := Aside0.mk ((by rw [hg]; exact (below_size (by repeat (first | (with_reducible first | exact HB.out | apply below_alloc | apply pw_below_drewN | apply below_drew1 | refine below_set ?_ GE235.out) | exact HB.out))) : w.heap.size ≤ gb258)); have n5_ := Aside0.mk ((by rw [hg]; exact Nat.ne_of_lt (blk_lt (g := gb235) (o := .cells #[.int .i64 0, .int .i64 1, .int .i64 1, .int .i64 a0_3, .int .i64 a0_4, .int .i64 a0_5, .int .i64 a0_6, .int .i64 x236007_4] 34 (0, 0)) (by (with_reducible repeat (first | refine blk_drewN ?_ _ | refine blk_drew ?_ | refine blk_alloc ?_ _)); exact BK235.out)) : gb235 ≠ gb258)); have n6_ := Aside0.mk ((by rw [hg]; exact Nat.ne_of_gt (blk_lt (g := gb235) (o := .cells #[.int .i64 0, .int .i64 1, .int .i64 1, .int .i64 a0_3, .int .i64 a0_4, .int .i64 a0_5, .int .i64 a0_6, .int .i64 x236007_4] 34 (0, 0)) (by (with_reducible repeat (first | refine blk_drewN ?_ _ | refine blk_drew ?_ | refine blk_alloc ?_ _)); exact BK235.out)) : gb258 ≠ gb235)); clear BK235; clear HB; have BK235 := n0_; have HB := n1_; have BK258 := n2_; have GW258 := n3_; have GE258 := n4_; have NB235_258 := n5_; have NB258_235 := n6_; clear n0_ n1_ n2_ n3_ n4_ n5_ n6_; clear hb hbox hg; have hnb48 := NB258_235.out; have hnc48 := NB235_258.out; have hcz49_0 : w47.cell? ⟨gb258, 0, none⟩ = some (.int .i64 0) := (blk_cell BK258.out 0).trans rfl; have hcz49_1 : w47.cell? ⟨gb258, 1, none⟩ = some (.int .i64 0) := (blk_cell BK258.out 1).trans rfl; have hcz49_2 : w47.cell? ⟨gb258, 2, none⟩ = some (.int .i64 0) := (blk_cell BK258.out 2).trans rfl; have hcz49_3 : w47.cell? ⟨gb258, 3, none⟩ = some (.int .i64 0) := (blk_cell BK258.out 3).trans rfl; have hcz49_4 : w47.cell? ⟨gb258, 4, none⟩ = some (.int .i64 0) := (blk_cell BK258.out 4).trans rfl; have hcz49_5 : w47.cell? ⟨gb258, 5, none⟩ = some (.int .i64 0) := (blk_cell BK258.out 5).trans rfl; have hcz49_6 : w47.cell? ⟨gb258, 6, none⟩ = some (.int .i64 0) := (blk_cell BK258.out 6).trans rfl; have hcz49_7 : w47.cell? ⟨gb258, 7, none⟩ = some (.int .i64 0) := (blk_cell BK258.out 7).trans rfl; have hfz49_0 := blk_frozen BK258.out 0; have hfz49_1 := blk_frozen BK258.out 1; have hfz49_2 := blk_frozen BK258.out 2; have hfz49_3 := blk_frozen BK258.out 3; have hfz49_4 := blk_frozen BK258.out 4; have hfz49_5 := blk_frozen BK258.out 5; have hfz49_6 := blk_frozen BK258.out 6; have hfz49_7 := blk_frozen BK258.out 7; have hcz50_0 : w47.cell? ⟨gb235, 0, none⟩ = some (.int .i64 0) := (blk_cell BK235.out 0).trans rfl; have hcz50_1 : w47.cell? ⟨gb235, 1, none⟩ = some (.int .i64 1) := (blk_cell BK235.out 1).trans rfl; have hcz50_2 : w47.cell? ⟨gb235, 2, none⟩ = some (.int .i64 1) := (blk_cell BK235.out 2).trans rfl; have hcz50_3 : w47.cell? ⟨gb235, 3, none⟩ = some (.int .i64 a0_3) := (blk_cell BK235.out 3).trans rfl; have hcz50_4 : w47.cell? ⟨gb235, 4, none⟩ = some (.int .i64 a0_4) := (blk_cell BK235.out 4).trans rfl; have hcz50_5 : w47.cell? ⟨gb235, 5, none⟩ = some (.int .i64 a0_5) := (blk_cell BK235.out 5).trans rfl; have hcz50_6 : w47.cell? ⟨gb235, 6, none⟩ = some (.int .i64 a0_6) := (blk_cell BK235.out 6).trans rfl; have hcz50_7 : w47.cell? ⟨gb235, 7, none⟩ = some (.int .i64 x236007_4) := (blk_cell BK235.out 7).trans rfl; have hfz50_0 := blk_frozen BK235.out 0; have hfz50_1 := blk_frozen BK235.out 1; have hfz50_2 := blk_frozen BK235.out 2; have hfz50_3 := blk_frozen BK235.out 3; have hfz50_4 := blk_frozen BK235.out 4; have hfz50_5 := blk_frozen BK235.out 5; have hfz50_6 := blk_frozen BK235.out 6; have hfz50_7 := blk_frozen BK235.out 7))
                go_ret
                exact ⟨by first | rfl | (simp [errW_none, errW_some] <;> rfl) | (simp [*, errW_none, errW_some] <;> rfl), by repeat (first | (with_reducible first | exact HB.out | apply below_alloc | apply pw_below_drewN | apply below_drew1 | refine below_set ?_ GE235.out | refine below_set ?_ GE258.out) | exact HB.out)⟩
              · replace c43 := Bool.eq_false_iff.mpr c43
                subst c43
                have H1 : (some false) = some r := by rw [if_neg (show ¬ (false = true) by decide)] at H; exact H
                clear H
                have H := H1
                clear H1
                obtain rfl := Option.some.inj H
                have hcz51_0 : wc.cell? ⟨gb235, 0, none⟩ = some (.int .i64 0) := (blk_cell BK235.out 0).trans rfl
                have hcz51_1 : wc.cell? ⟨gb235, 1, none⟩ = some (.int .i64 1) := (blk_cell BK235.out 1).trans rfl
                have hcz51_2 : wc.cell? ⟨gb235, 2, none⟩ = some (.int .i64 1) := (blk_cell BK235.out 2).trans rfl
                have hcz51_3 : wc.cell? ⟨gb235, 3, none⟩ = some (.int .i64 a0_3) := (blk_cell BK235.out 3).trans rfl
                have hcz51_4 : wc.cell? ⟨gb235, 4, none⟩ = some (.int .i64 a0_4) := (blk_cell BK235.out 4).trans rfl
                have hcz51_5 : wc.cell? ⟨gb235, 5, none⟩ = some (.int .i64 a0_5) := (blk_cell BK235.out 5).trans rfl
                have hcz51_6 : wc.cell? ⟨gb235, 6, none⟩ = some (.int .i64 a0_6) := (blk_cell BK235.out 6).trans rfl
                have hcz51_7 : wc.cell? ⟨gb235, 7, none⟩ = some (.int .i64 x236007_4) := (blk_cell BK235.out 7).trans rfl
                have hfz51_0 := blk_frozen BK235.out 0
                have hfz51_1 := blk_frozen BK235.out 1
                have hfz51_2 := blk_frozen BK235.out 2
                have hfz51_3 := blk_frozen BK235.out 3
                have hfz51_4 := blk_frozen BK235.out 4
                have hfz51_5 := blk_frozen BK235.out 5
                have hfz51_6 := blk_frozen BK235.out 6
                have hfz51_7 := blk_frozen BK235.out 7
                go_wp2_with (first | ((with_reducible refine gate_callee (f := 13) rfl ?_); refine goesL_ (some 30) rfl rfl Try.func13 (by kernel_rfl) rfl #[.agg #[.int .i64 0, .int .i64 1, .int .i64 1, .int .i64 a0_3, .int .i64 a0_4, .int .i64 a0_5, .int .i64 a0_6, .int .i64 x236007_4], .int .i64 (wrap64 (Int.tmod a1 10))] rfl (by (try simp only [List.map_toArray, List.map_cons, List.map_nil]); first | done | rfl | (simp only [List.length_drop, List.length_take]; rfl)) ?_; (with_reducible refine (spec_TimeText.calls kj9 0 1 1 a0_3 a0_4 a0_5 a0_6 x236007_4 (wrap64 (Int.tmod a1 10)) t237 _ A19.out).mono ?_); rintro e w52 ⟨rfl, hb⟩; refine ⟨_, rfl, ?_⟩; have n0_ := Aside0.mk (blk_below (g := gb235) (o := .cells #[.int .i64 0, .int .i64 1, .int .i64 1, .int .i64 a0_3, .int .i64 a0_4, .int .i64 a0_5, .int .i64 a0_6, .int .i64 x236007_4] 34 (0, 0)) (by (with_reducible repeat (first | refine blk_drewN ?_ _ | refine blk_drew ?_ | refine blk_alloc ?_ _)); exact BK235.out) hb); have n1_ := Aside0.mk (below_step (by repeat (first | (with_reducible first | exact HB.out | apply below_alloc | apply pw_below_drewN | apply below_drew1 | refine below_set ?_ GE235.out) | exact HB.out)) hb); clear BK235; clear HB; have BK235 := n0_; have HB := n1_; clear n0_ n1_; (try clear hb); (try clear hb2); (try clear hk); (try clear hi)) | ((with_reducible refine gate_callee (f := 15) rfl ?_); refine goesL_ (some 44) rfl rfl Try.func15 (by kernel_rfl) rfl #[.string t237, .bool false] rfl (by (try simp only [List.map_toArray, List.map_cons, List.map_nil]); first | done | rfl | (simp only [List.length_drop, List.length_take]; rfl)) ?_; (with_reducible refine (impl_ClockRead.calls kj9 t237 false t249 t250 t251 t252 t253 t254 t255 t256 false _ A42.out).mono ?_); rintro e w53 ⟨rfl, hb⟩; refine ⟨_, rfl, ?_⟩; have n0_ := Aside0.mk (blk_below (g := gb235) (o := .cells #[.int .i64 0, .int .i64 1, .int .i64 1, .int .i64 a0_3, .int .i64 a0_4, .int .i64 a0_5, .int .i64 a0_6, .int .i64 x236007_4] 34 (0, 0)) (by (with_reducible repeat (first | refine blk_drewN ?_ _ | refine blk_drew ?_ | refine blk_alloc ?_ _)); exact BK235.out) hb); have n1_ := Aside0.mk (below_step (by repeat (first | (with_reducible first | exact HB.out | apply below_alloc | apply pw_below_drewN | apply below_drew1 | refine below_set ?_ GE235.out) | exact HB.out)) hb); clear BK235; clear HB; have BK235 := n0_; have HB := n1_; clear n0_ n1_; (try clear hb); (try clear hb2); (try clear hk); (try clear hi)) | ((with_reducible refine gate_dst (N := 10) rfl ?_); refine box_event ?hg (N := 10) ?hd (cs := #[.int .i64 0, .int .i64 0, .int .i64 0, .int .i64 0, .int .i64 0, .int .i64 0, .int .i64 0, .int .i64 0]) (t := 34) ?hr ?_; (case hd => rfl); (case hg => rfl); (case hr => first | (go_simp; done) | (go_simp; rfl) | (go_simp; simp [IntKind.wrap_u8]; done)); intro gb258 hg w54 hbox hb; have n0_ := Aside0.mk (blk_below (g := gb235) (o := .cells #[.int .i64 0, .int .i64 1, .int .i64 1, .int .i64 a0_3, .int .i64 a0_4, .int .i64 a0_5, .int .i64 a0_6, .int .i64 x236007_4] 34 (0, 0)) (by (with_reducible repeat (first | refine blk_drewN ?_ _ | refine blk_drew ?_ | refine blk_alloc ?_ _)); exact BK235.out) hb); have n1_ := Aside0.mk (below_step (by repeat (first | (with_reducible first | exact HB.out | apply below_alloc | apply pw_below_drewN | apply below_drew1 | refine below_set ?_ GE235.out) | exact HB.out)) hb); have n2_ := Aside0.mk (hbox); have n3_ := Aside0.mk ((by rw [hg]; exact (below_size (by repeat (first | (with_reducible first | exact HB.out | apply below_alloc | apply pw_below_drewN | apply below_drew1 | refine below_set ?_ GE235.out) | exact HB.out))) : w.heap.size ≤ gb258)); have n4_ := Aside0.mk ((by rw [hg]; exact (below_size (by repeat (first | (with_reducible first | exact HB.out | apply below_alloc | apply pw_below_drewN | apply below_drew1 | refine below_set ?_ GE235.out) | exact HB.out))) : w.heap.size ≤ gb258)); have n5_ := Aside0.mk ((by rw [hg]; exact Nat.ne_of_lt (blk_lt (g := gb235) (o := .cells #[.int .i64 0, .int .i64 1, .int .i64 1, .int .i64 a0_3, .int .i64 a0_4, .int .i64 a0_5, .int .i64 a0_6, .int .i64 x236007_4] 34 (0, 0)) (by (with_reducible repeat (first | refine blk_drewN ?_ _ | refine blk_drew ?_ | refine blk_alloc ?_ _)); exact BK235.out)) : gb235 ≠ gb258)); have n6_ := Aside0.mk ((by rw [hg]; exact Nat.ne_of_gt (blk_lt (g := gb235) (o := .cells #[.int .i64 0, .int .i64 1, .int .i64 1, .int .i64 a0_3, .int .i64 a0_4, .int .i64 a0_5, .int .i64 a0_6, .int .i64 x236007_4] 34 (0, 0)) (by (with_reducible repeat (first | refine blk_drewN ?_ _ | refine blk_drew ?_ | refine blk_alloc ?_ _)); exact BK235.out)) : gb258 ≠ gb235)); clear BK235; clear HB; have BK235 := n0_; have HB := n1_; have BK258 := n2_; have GW258 := n3_; have GE258 := n4_; have NB235_258 := n5_; have NB258_235 := n6_; clear n0_ n1_ n2_ n3_ n4_ n5_ n6_; clear hb hbox hg; have hnb55 := NB258_235.out; have hnc55 := NB235_258.out; have hcz56_0 : w54.cell? ⟨gb258, 0, none⟩ = some (.int .i64 0) := (blk_cell BK258.out 0).trans rfl; have hcz56_1 : w54.cell? ⟨gb258, 1, none⟩ = some (.int .i64 0) := (blk_cell BK258.out 1).trans rfl; have hcz56_2 : w54.cell? ⟨gb258, 2, none⟩ = some (.int .i64 0) := (blk_cell BK258.out 2).trans rfl; have hcz56_3 : w54.cell? ⟨gb258, 3, none⟩ = some (.int .i64 0) := (blk_cell BK258.out 3).trans rfl; have hcz56_4 : w54.cell? ⟨gb258, 4, none⟩ = some (.int .i64 0) := (blk_cell BK258.out 4).trans rfl; have hcz56_5 : w54.cell? ⟨gb258, 5, none⟩ = some (.int .i64 0) := (blk_cell BK258.out 5).trans rfl; have hcz56_6 : w54.cell? ⟨gb258, 6, none⟩ = some (.int .i64 0) := (blk_cell BK258.out 6).trans rfl; have hcz56_7 : w54.cell? ⟨gb258, 7, none⟩ = some (.int .i64 0) := (blk_cell BK258.out 7).trans rfl; have hfz56_0 := blk_frozen BK258.out 0; have hfz56_1 := blk_frozen BK258.out 1; have hfz56_2 := blk_frozen BK258.out 2; have hfz56_3 := blk_frozen BK258.out 3; have hfz56_4 := blk_frozen BK258.out 4; have hfz56_5 := blk_frozen BK258.out 5; have hfz56_6 := blk_frozen BK258.out 6; have hfz56_7 := blk_frozen BK258.out 7))
                go_ret
                exact ⟨by first | rfl | (simp [errW_none, errW_some] <;> rfl) | (simp [*, errW_none, errW_some] <;> rfl), by repeat (first | (with_reducible first | exact HB.out | apply below_alloc | apply pw_below_drewN | apply below_drew1 | refine below_set ?_ GE235.out | refine below_set ?_ GE258.out) | exact HB.out)⟩

end Go.Proofs.Ytlhjblbmhlelbab.P
