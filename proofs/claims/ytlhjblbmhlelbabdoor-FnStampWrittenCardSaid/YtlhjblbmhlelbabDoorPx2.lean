-- Written by the program wip/myprint.py of this session, over the kit's print of the translation. Lean checks it.
import Derived.Test.YtlhjblbmhlelbabDoorPx0
namespace Go.Proofs.YtlhjblbmhlelbabDoor.P
open Go.RowKit Go.Proofs.YtlhjblbmhlelbabDoorW.PrintWords Go.Proofs.YtlhjblbmhlelbabDoorW.PrintLast Go.Proofs.YtlhjblbmhlelbabDoorW.PrintMore
attribute [local go_sem] max2_int min2_int max_two min_two max_three min_three max_four min_four   -- for this text's walks alone
set_option linter.unusedVariables false
set_option linter.unusedSimpArgs false

/-! ### spec_Leap: function 15 -/
def spec_Leap.f (a0 : Int) : Option (Bool) := if (Int.tmod a0 4) = 0 then (if (Int.tmod a0 100) = 0 then (some ((Int.tmod a0 400) == 0)) else (some true)) else (some false)
set_option maxHeartbeats 8000000 in
set_option maxRecDepth 100000 in
theorem spec_Leap.calls (a0 : Int) (r : Bool) (w : World) (h : spec_Leap.f a0 = some r) :
    Calls Tryd.prog 15 #[.int .i64 a0] w fun e w' => e = .returned (.bool r) ∧ Drawn0 w w' := by
  have H : (if (Int.tmod a0 4) = 0 then (if (Int.tmod a0 100) = 0 then (some ((Int.tmod a0 400) == 0)) else (some true)) else (some false)) = some r := h
  clear h
  by_cases c2 : (Int.tmod a0 4) = 0
  · rw [if_pos c2] at H
    have c2b0 : ((Int.tmod a0 4) == 0) = true := beq_iff_eq.mpr c2
    have c2b1 : ((Int.tmod a0 4) != 0) = false := bne_eq_false_iff_eq.mpr c2
    clear c2
    by_cases c3 : (Int.tmod a0 100) = 0
    · rw [if_pos c3] at H
      have c3b0 : ((Int.tmod a0 100) == 0) = true := beq_iff_eq.mpr c3
      have c3b1 : ((Int.tmod a0 100) != 0) = false := bne_eq_false_iff_eq.mpr c3
      clear c3
      obtain rfl := Option.some.inj H
      go_enter Tryd.func15, Tryd.ntmps15
      go_wp2
      go_ret
      exact ⟨by first | rfl | (simp; done) | (simp [*]; done), by repeat (first | exact Drawn0.refl _ | apply Drawn0.step)⟩
    · rw [if_neg c3] at H
      have c3b0 : ((Int.tmod a0 100) == 0) = false := beq_eq_false_iff_ne.mpr c3
      have c3b1 : ((Int.tmod a0 100) != 0) = true := bne_iff_ne.mpr c3
      obtain rfl := Option.some.inj H
      go_enter Tryd.func15, Tryd.ntmps15
      go_wp2
      go_ret
      exact ⟨by first | rfl | (simp; done) | (simp [*]; done), by repeat (first | exact Drawn0.refl _ | apply Drawn0.step)⟩
  · rw [if_neg c2] at H
    have c2b0 : ((Int.tmod a0 4) == 0) = false := beq_eq_false_iff_ne.mpr c2
    have c2b1 : ((Int.tmod a0 4) != 0) = true := bne_iff_ne.mpr c2
    obtain rfl := Option.some.inj H
    go_enter Tryd.func15, Tryd.ntmps15
    go_wp2
    go_ret
    exact ⟨by first | rfl | (simp; done) | (simp [*]; done), by repeat (first | exact Drawn0.refl _ | apply Drawn0.step)⟩

/-! ### spec_DaysIn: function 12 -/
def spec_DaysIn.j0 : Nat → Int → Int → Bool → Option (Int)
  | 0, _, _, _ => none
  | k + 1, x0, x5, x6 => if x6 = true then (some 30) else (if x5 = 2 then ((spec_Leap.f x0).bind fun t101 => (if t101 = true then (some 29) else (some 28))) else (some 31))
def spec_DaysIn.f (k : Nat) (a0 : Int) (a1 : Int) : Option (Int) := if a1 = 4 then (spec_DaysIn.j0 k a0 a1 (a1 == 4)) else (if a1 = 6 then (spec_DaysIn.j0 k a0 a1 (a1 == 6)) else (if a1 = 9 then (spec_DaysIn.j0 k a0 a1 (a1 == 9)) else (spec_DaysIn.j0 k a0 a1 (a1 == 11))))
theorem spec_DaysIn.mono_l : ∀ k, (∀ y0 y1 y2, LeO (spec_DaysIn.j0 k y0 y1 y2) (spec_DaysIn.j0 (k + 1) y0 y1 y2))
  | 0 => fun _ _ _ r h => by simp [spec_DaysIn.j0] at h
  | k + 1 => by
    have ih0 := spec_DaysIn.mono_l k
    · intro y0 y1 y2
      unfold spec_DaysIn.j0
      repeat' first
      | (with_reducible exact ih0 _ _ _)
      | (with_reducible exact LeO.refl _)
      | (with_reducible exact LeO.none _)
      | (with_reducible refine LeO.ite ?_ ?_)
      | (with_reducible refine LeO.bind ?_ (fun _ => ?_))
      | exact ih0 _ _ _
      | exact LeO.none _
      | refine LeO.ite ?_ ?_
      | refine LeO.bind ?_ (fun _ => ?_)
theorem spec_DaysIn.mono : ∀ a0 a1 k, LeO (spec_DaysIn.f k a0 a1) (spec_DaysIn.f (k + 1) a0 a1) := by
  intro a0 a1 k
  have ih0 := spec_DaysIn.mono_l k
  unfold spec_DaysIn.f
  repeat' first
      | (with_reducible exact ih0 _ _ _)
      | (with_reducible exact LeO.refl _)
      | (with_reducible exact LeO.none _)
      | (with_reducible refine LeO.ite ?_ ?_)
      | (with_reducible refine LeO.bind ?_ (fun _ => ?_))
      | exact ih0 _ _ _
      | exact LeO.none _
      | refine LeO.ite ?_ ?_
      | refine LeO.bind ?_ (fun _ => ?_)
set_option maxHeartbeats 8000000 in
set_option maxRecDepth 100000 in
theorem spec_DaysIn.calls (k : Nat) (a0 : Int) (a1 : Int) (r : Int) (w : World) (h : spec_DaysIn.f k a0 a1 = some r) :
    Calls Tryd.prog 12 #[.int .i64 a0, .int .i64 a1] w fun e w' => e = .returned (.int .i64 r) ∧ Drawn0 w w' := by
  have H : (if a1 = 4 then (spec_DaysIn.j0 k a0 a1 (a1 == 4)) else (if a1 = 6 then (spec_DaysIn.j0 k a0 a1 (a1 == 6)) else (if a1 = 9 then (spec_DaysIn.j0 k a0 a1 (a1 == 9)) else (spec_DaysIn.j0 k a0 a1 (a1 == 11))))) = some r := h
  clear h
  have HC3 := Aside0.mk H
  clear H
  go_enter Tryd.func12, Tryd.ntmps12
  go_upto_if 6 with (fail)
  go_cut [6] (fun v6 wc => ∃ (kq : Nat) (x6_2 : Bool), v6 = .bool x6_2 ∧ Aside0 (spec_DaysIn.j0 kq a0 a1 x6_2 = some r) ∧ Aside0 (kq ≤ k) ∧ Drawn0 w wc)
  case first =>
    have H := HC3.out
    clear HC3
    by_cases c4 : a1 = 4
    · rw [if_pos c4] at H
      have c4b0 : (a1 == 4) = true := beq_iff_eq.mpr c4
      have c4b1 : (a1 != 4) = false := bne_eq_false_iff_eq.mpr c4
      clear c4
      (first | rw [c4b0] | (simp only [i64_w, i32_w]; rw [c4b0]) | skip)
      have H' := Aside0.mk H
      clear H
      go_wp2
      go_meet
      case rel => exact ⟨_, ((a1 == 4)), (by first | rfl | (simp; done) | (simp [*]; done)), H', ⟨by first | omega | exact Nat.le_refl _⟩, by repeat (first | exact Drawn0.refl _ | apply Drawn0.step)⟩
    · rw [if_neg c4] at H
      have c4b0 : (a1 == 4) = false := beq_eq_false_iff_ne.mpr c4
      have c4b1 : (a1 != 4) = true := bne_iff_ne.mpr c4
      (first | rw [c4b0] | (simp only [i64_w, i32_w]; rw [c4b0]) | skip)
      by_cases c5 : a1 = 6
      · rw [if_pos c5] at H
        have c5b0 : (a1 == 6) = true := beq_iff_eq.mpr c5
        have c5b1 : (a1 != 6) = false := bne_eq_false_iff_eq.mpr c5
        clear c5
        have H' := Aside0.mk H
        clear H
        go_wp2
        go_meet
        case rel => exact ⟨_, ((a1 == 6)), (by first | rfl | (simp; done) | (simp [*]; done)), H', ⟨by first | omega | exact Nat.le_refl _⟩, by repeat (first | exact Drawn0.refl _ | apply Drawn0.step)⟩
      · rw [if_neg c5] at H
        have c5b0 : (a1 == 6) = false := beq_eq_false_iff_ne.mpr c5
        have c5b1 : (a1 != 6) = true := bne_iff_ne.mpr c5
        by_cases c6 : a1 = 9
        · rw [if_pos c6] at H
          have c6b0 : (a1 == 9) = true := beq_iff_eq.mpr c6
          have c6b1 : (a1 != 9) = false := bne_eq_false_iff_eq.mpr c6
          clear c6
          have H' := Aside0.mk H
          clear H
          go_wp2
          go_meet
          case rel => exact ⟨_, ((a1 == 9)), (by first | rfl | (simp; done) | (simp [*]; done)), H', ⟨by first | omega | exact Nat.le_refl _⟩, by repeat (first | exact Drawn0.refl _ | apply Drawn0.step)⟩
        · rw [if_neg c6] at H
          have c6b0 : (a1 == 9) = false := beq_eq_false_iff_ne.mpr c6
          have c6b1 : (a1 != 9) = true := bne_iff_ne.mpr c6
          have H' := Aside0.mk H
          clear H
          go_wp2
          go_meet
          case rel => exact ⟨_, ((a1 == 11)), (by first | rfl | (simp; done) | (simp [*]; done)), H', ⟨by first | omega | exact Nat.le_refl _⟩, by repeat (first | exact Drawn0.refl _ | apply Drawn0.step)⟩
  case rest =>
    clear HC3
    try clear c1
    try clear p2
    try clear c4
    try clear c4b0
    try clear c4b1
    try clear c5
    try clear c5b0
    try clear c5b1
    try clear c6
    try clear c6b0
    try clear c6b1
    obtain ⟨kq, x6_2, rfl, HA, HJ2, ⟨mc2, rfl⟩⟩ := hcut
    cases kq with
    | zero => exact absurd HA.out (by simp [spec_DaysIn.j0])
    | succ kj2 =>
      have H := HA.out
      clear HA
      simp only [spec_DaysIn.j0] at H
      by_cases c7 : x6_2 = true
      · subst c7
        have H1 : (some 30) = some r := by rw [if_pos rfl] at H; exact H
        clear H
        have H := H1
        clear H1
        obtain rfl := Option.some.inj H
        go_wp2
        go_ret
        exact ⟨by first | rfl | (simp; done) | (simp [*]; done), by repeat (first | exact Drawn0.refl _ | apply Drawn0.step)⟩
      · replace c7 := Bool.eq_false_iff.mpr c7
        subst c7
        have H1 : (if a1 = 2 then ((spec_Leap.f a0).bind fun t101 => (if t101 = true then (some 29) else (some 28))) else (some 31)) = some r := by rw [if_neg (show ¬ (false = true) by decide)] at H; exact H
        clear H
        have H := H1
        clear H1
        by_cases c8 : a1 = 2
        · rw [if_pos c8] at H
          have c8b0 : (a1 == 2) = true := beq_iff_eq.mpr c8
          have c8b1 : (a1 != 2) = false := bne_eq_false_iff_eq.mpr c8
          clear c8
          replace H := Option.bind_eq_some_iff.mp H
          obtain ⟨t101, A90, H⟩ := H
          replace H : (if t101 = true then (some 29) else (some 28)) = some r := H
          have A9 := Aside0.mk A90
          clear A90
          by_cases c10 : t101 = true
          · subst c10
            have H1 : (some 29) = some r := by rw [if_pos rfl] at H; exact H
            clear H
            have H := H1
            clear H1
            obtain rfl := Option.some.inj H
            go_wp2_with (first | ((with_reducible refine gate_callee (f := 15) rfl ?_); refine goesL_ (some 14) rfl rfl Tryd.func15 (by kernel_rfl) rfl #[.int .i64 a0] rfl (by (try simp only [List.map_toArray, List.map_cons, List.map_nil]); first | done | rfl | (simp only [List.length_drop, List.length_take]; rfl)) ?_; (with_reducible refine (spec_Leap.calls a0 true _ A9.out).mono ?_); rintro e w' ⟨rfl, ⟨nd, rfl⟩⟩; refine ⟨_, rfl, ?_⟩))
            go_ret
            exact ⟨by first | rfl | (simp; done) | (simp [*]; done), by repeat (first | exact Drawn0.refl _ | apply Drawn0.step)⟩
          · replace c10 := Bool.eq_false_iff.mpr c10
            subst c10
            have H1 : (some 28) = some r := by rw [if_neg (show ¬ (false = true) by decide)] at H; exact H
            clear H
            have H := H1
            clear H1
            obtain rfl := Option.some.inj H
            go_wp2_with (first | ((with_reducible refine gate_callee (f := 15) rfl ?_); refine goesL_ (some 14) rfl rfl Tryd.func15 (by kernel_rfl) rfl #[.int .i64 a0] rfl (by (try simp only [List.map_toArray, List.map_cons, List.map_nil]); first | done | rfl | (simp only [List.length_drop, List.length_take]; rfl)) ?_; (with_reducible refine (spec_Leap.calls a0 false _ A9.out).mono ?_); rintro e w' ⟨rfl, ⟨nd, rfl⟩⟩; refine ⟨_, rfl, ?_⟩))
            go_ret
            exact ⟨by first | rfl | (simp; done) | (simp [*]; done), by repeat (first | exact Drawn0.refl _ | apply Drawn0.step)⟩
        · rw [if_neg c8] at H
          have c8b0 : (a1 == 2) = false := beq_eq_false_iff_ne.mpr c8
          have c8b1 : (a1 != 2) = true := bne_iff_ne.mpr c8
          obtain rfl := Option.some.inj H
          go_wp2
          go_ret
          exact ⟨by first | rfl | (simp; done) | (simp [*]; done), by repeat (first | exact Drawn0.refl _ | apply Drawn0.step)⟩

/-! ### spec_StampRight: function 9 -/
def dateOk (a0 a1 a2 : Int) : Prop := ¬ a0 < -4711 ∧ ¬ 290000 < a0 ∧ ¬ a1 < 1 ∧ ¬ 12 < a1 ∧ ¬ a2 < 1
instance (a0 a1 a2 : Int) : Decidable (dateOk a0 a1 a2) := by unfold dateOk; infer_instance
def stampOk (a3 a4 a5 a6 a7 : Int) : Prop := 0 ≤ a3 ∧ a3 < 24 ∧ 0 ≤ a4 ∧ a4 < 60 ∧ 0 ≤ a5 ∧ a5 < 60 ∧ 0 ≤ a6 ∧ a6 < 1000000000 ∧ -57599 ≤ a7 ∧ a7 ≤ 57599
instance (a3 a4 a5 a6 a7 : Int) : Decidable (stampOk a3 a4 a5 a6 a7) := by unfold stampOk; infer_instance
def spec_StampRight.f (k : Nat) (a0 a1 a2 a3 a4 a5 a6 a7 : Int) : Option Bool := if dateOk a0 a1 a2 then (spec_DaysIn.f k a0 a1).bind fun d => some (decide (¬ d < a2 ∧ stampOk a3 a4 a5 a6 a7)) else some false
theorem spec_StampRight.mono : ∀ a0 a1 a2 a3 a4 a5 a6 a7 k, LeO (spec_StampRight.f k a0 a1 a2 a3 a4 a5 a6 a7) (spec_StampRight.f (k + 1) a0 a1 a2 a3 a4 a5 a6 a7) := by
  intro a0 a1 a2 a3 a4 a5 a6 a7 k
  unfold spec_StampRight.f
  split
  · exact LeO.bind (spec_DaysIn.mono _ _ _) (fun _ => LeO.refl _)
  · exact LeO.refl _
set_option maxHeartbeats 4000000 in
set_option maxRecDepth 100000 in
theorem spec_StampRight.bad0 (a0 a1 a2 a3 a4 a5 a6 a7 : Int) (w : World)  (d0 : decide (a0 < -4711) = true) :
    Calls Tryd.prog 9 #[.agg #[.int .i64 a0, .int .i64 a1, .int .i64 a2, .int .i64 a3, .int .i64 a4, .int .i64 a5, .int .i64 a6, .int .i64 a7]] w fun e w' => e = .returned (.bool false) ∧ Below w.heap.size w w' := by
  go_enter Tryd.func9, Tryd.ntmps9
  go_wp2_with fail
  go_quiet (fail)
  go_wp2_with fail
  go_ret
  exact ⟨rfl, by repeat (first | exact Below.refl _ _ | apply pw_below_drewN | apply below_alloc)⟩
set_option maxHeartbeats 4000000 in
set_option maxRecDepth 100000 in
theorem spec_StampRight.bad1 (a0 a1 a2 a3 a4 a5 a6 a7 : Int) (w : World) (d0 : decide (a0 < -4711) = false) (d1 : decide (290000 < a0) = true) :
    Calls Tryd.prog 9 #[.agg #[.int .i64 a0, .int .i64 a1, .int .i64 a2, .int .i64 a3, .int .i64 a4, .int .i64 a5, .int .i64 a6, .int .i64 a7]] w fun e w' => e = .returned (.bool false) ∧ Below w.heap.size w w' := by
  go_enter Tryd.func9, Tryd.ntmps9
  go_wp2_with fail
  go_quiet (fail)
  go_wp2_with fail
  go_ret
  exact ⟨rfl, by repeat (first | exact Below.refl _ _ | apply pw_below_drewN | apply below_alloc)⟩
set_option maxHeartbeats 4000000 in
set_option maxRecDepth 100000 in
theorem spec_StampRight.bad2 (a0 a1 a2 a3 a4 a5 a6 a7 : Int) (w : World) (d0 : decide (a0 < -4711) = false) (d1 : decide (290000 < a0) = false) (d2 : decide (a1 < 1) = true) :
    Calls Tryd.prog 9 #[.agg #[.int .i64 a0, .int .i64 a1, .int .i64 a2, .int .i64 a3, .int .i64 a4, .int .i64 a5, .int .i64 a6, .int .i64 a7]] w fun e w' => e = .returned (.bool false) ∧ Below w.heap.size w w' := by
  go_enter Tryd.func9, Tryd.ntmps9
  go_wp2_with fail
  go_quiet (fail)
  go_wp2_with fail
  go_ret
  exact ⟨rfl, by repeat (first | exact Below.refl _ _ | apply pw_below_drewN | apply below_alloc)⟩
set_option maxHeartbeats 4000000 in
set_option maxRecDepth 100000 in
theorem spec_StampRight.bad3 (a0 a1 a2 a3 a4 a5 a6 a7 : Int) (w : World) (d0 : decide (a0 < -4711) = false) (d1 : decide (290000 < a0) = false) (d2 : decide (a1 < 1) = false) (d3 : decide (12 < a1) = true) :
    Calls Tryd.prog 9 #[.agg #[.int .i64 a0, .int .i64 a1, .int .i64 a2, .int .i64 a3, .int .i64 a4, .int .i64 a5, .int .i64 a6, .int .i64 a7]] w fun e w' => e = .returned (.bool false) ∧ Below w.heap.size w w' := by
  go_enter Tryd.func9, Tryd.ntmps9
  go_wp2_with fail
  go_quiet (fail)
  go_wp2_with fail
  go_ret
  exact ⟨rfl, by repeat (first | exact Below.refl _ _ | apply pw_below_drewN | apply below_alloc)⟩
set_option maxHeartbeats 4000000 in
set_option maxRecDepth 100000 in
theorem spec_StampRight.bad4 (a0 a1 a2 a3 a4 a5 a6 a7 : Int) (w : World) (d0 : decide (a0 < -4711) = false) (d1 : decide (290000 < a0) = false) (d2 : decide (a1 < 1) = false) (d3 : decide (12 < a1) = false) (d4 : decide (a2 < 1) = true) :
    Calls Tryd.prog 9 #[.agg #[.int .i64 a0, .int .i64 a1, .int .i64 a2, .int .i64 a3, .int .i64 a4, .int .i64 a5, .int .i64 a6, .int .i64 a7]] w fun e w' => e = .returned (.bool false) ∧ Below w.heap.size w w' := by
  go_enter Tryd.func9, Tryd.ntmps9
  go_wp2_with fail
  go_quiet (fail)
  go_wp2_with fail
  go_ret
  exact ⟨rfl, by repeat (first | exact Below.refl _ _ | apply pw_below_drewN | apply below_alloc)⟩
set_option maxHeartbeats 4000000 in
set_option maxRecDepth 100000 in
theorem spec_StampRight.day (a0 a1 a2 a3 a4 a5 a6 a7 : Int) (w : World) (d : Int) (HD : Aside0 (∀ W : World, Calls Tryd.prog 12 #[.int .i64 a0, .int .i64 a1] W fun e w2 => e = .returned (.int .i64 d) ∧ Drawn0 W w2)) (d0 : decide (a0 < -4711) = false) (d1 : decide (290000 < a0) = false) (d2 : decide (a1 < 1) = false) (d3 : decide (12 < a1) = false) (d4 : decide (a2 < 1) = false) (dd : decide (d < a2) = true) :
    Calls Tryd.prog 9 #[.agg #[.int .i64 a0, .int .i64 a1, .int .i64 a2, .int .i64 a3, .int .i64 a4, .int .i64 a5, .int .i64 a6, .int .i64 a7]] w fun e w' => e = .returned (.bool false) ∧ Below w.heap.size w w' := by
  go_enter Tryd.func9, Tryd.ntmps9
  go_wp2_with fail
  go_quiet ((go_at_call 12; exact Calls.quiet_of ((HD.out _).mono (fun e w2 h => ⟨h.1, h.2.out⟩))))
  go_wp2_with fail
  go_ret
  exact ⟨rfl, by repeat (first | exact Below.refl _ _ | apply pw_below_drewN | apply below_alloc)⟩
set_option maxHeartbeats 4000000 in
set_option maxRecDepth 100000 in
theorem spec_StampRight.no0 (a0 a1 a2 a3 a4 a5 a6 a7 : Int) (w : World) (d : Int) (HD : Aside0 (∀ W : World, Calls Tryd.prog 12 #[.int .i64 a0, .int .i64 a1] W fun e w2 => e = .returned (.int .i64 d) ∧ Drawn0 W w2)) (d0 : decide (a0 < -4711) = false) (d1 : decide (290000 < a0) = false) (d2 : decide (a1 < 1) = false) (d3 : decide (12 < a1) = false) (d4 : decide (a2 < 1) = false) (dd : decide (d < a2) = false)  (c0 : decide (0 ≤ a3) = false) :
    Calls Tryd.prog 9 #[.agg #[.int .i64 a0, .int .i64 a1, .int .i64 a2, .int .i64 a3, .int .i64 a4, .int .i64 a5, .int .i64 a6, .int .i64 a7]] w fun e w' => e = .returned (.bool false) ∧ Below w.heap.size w w' := by
  go_enter Tryd.func9, Tryd.ntmps9
  go_wp2_with fail
  go_quiet ((go_at_call 12; exact Calls.quiet_of ((HD.out _).mono (fun e w2 h => ⟨h.1, h.2.out⟩))))
  go_wp2_with fail
  go_ret
  exact ⟨rfl, by repeat (first | exact Below.refl _ _ | apply pw_below_drewN | apply below_alloc)⟩
set_option maxHeartbeats 4000000 in
set_option maxRecDepth 100000 in
theorem spec_StampRight.no1 (a0 a1 a2 a3 a4 a5 a6 a7 : Int) (w : World) (d : Int) (HD : Aside0 (∀ W : World, Calls Tryd.prog 12 #[.int .i64 a0, .int .i64 a1] W fun e w2 => e = .returned (.int .i64 d) ∧ Drawn0 W w2)) (d0 : decide (a0 < -4711) = false) (d1 : decide (290000 < a0) = false) (d2 : decide (a1 < 1) = false) (d3 : decide (12 < a1) = false) (d4 : decide (a2 < 1) = false) (dd : decide (d < a2) = false) (c0 : decide (0 ≤ a3) = true) (c1 : decide (a3 < 24) = false) :
    Calls Tryd.prog 9 #[.agg #[.int .i64 a0, .int .i64 a1, .int .i64 a2, .int .i64 a3, .int .i64 a4, .int .i64 a5, .int .i64 a6, .int .i64 a7]] w fun e w' => e = .returned (.bool false) ∧ Below w.heap.size w w' := by
  go_enter Tryd.func9, Tryd.ntmps9
  go_wp2_with fail
  go_quiet ((go_at_call 12; exact Calls.quiet_of ((HD.out _).mono (fun e w2 h => ⟨h.1, h.2.out⟩))))
  go_wp2_with fail
  go_ret
  exact ⟨rfl, by repeat (first | exact Below.refl _ _ | apply pw_below_drewN | apply below_alloc)⟩
set_option maxHeartbeats 4000000 in
set_option maxRecDepth 100000 in
theorem spec_StampRight.no2 (a0 a1 a2 a3 a4 a5 a6 a7 : Int) (w : World) (d : Int) (HD : Aside0 (∀ W : World, Calls Tryd.prog 12 #[.int .i64 a0, .int .i64 a1] W fun e w2 => e = .returned (.int .i64 d) ∧ Drawn0 W w2)) (d0 : decide (a0 < -4711) = false) (d1 : decide (290000 < a0) = false) (d2 : decide (a1 < 1) = false) (d3 : decide (12 < a1) = false) (d4 : decide (a2 < 1) = false) (dd : decide (d < a2) = false) (c0 : decide (0 ≤ a3) = true) (c1 : decide (a3 < 24) = true) (c2 : decide (0 ≤ a4) = false) :
    Calls Tryd.prog 9 #[.agg #[.int .i64 a0, .int .i64 a1, .int .i64 a2, .int .i64 a3, .int .i64 a4, .int .i64 a5, .int .i64 a6, .int .i64 a7]] w fun e w' => e = .returned (.bool false) ∧ Below w.heap.size w w' := by
  go_enter Tryd.func9, Tryd.ntmps9
  go_wp2_with fail
  go_quiet ((go_at_call 12; exact Calls.quiet_of ((HD.out _).mono (fun e w2 h => ⟨h.1, h.2.out⟩))))
  go_wp2_with fail
  go_ret
  exact ⟨rfl, by repeat (first | exact Below.refl _ _ | apply pw_below_drewN | apply below_alloc)⟩
set_option maxHeartbeats 4000000 in
set_option maxRecDepth 100000 in
theorem spec_StampRight.no3 (a0 a1 a2 a3 a4 a5 a6 a7 : Int) (w : World) (d : Int) (HD : Aside0 (∀ W : World, Calls Tryd.prog 12 #[.int .i64 a0, .int .i64 a1] W fun e w2 => e = .returned (.int .i64 d) ∧ Drawn0 W w2)) (d0 : decide (a0 < -4711) = false) (d1 : decide (290000 < a0) = false) (d2 : decide (a1 < 1) = false) (d3 : decide (12 < a1) = false) (d4 : decide (a2 < 1) = false) (dd : decide (d < a2) = false) (c0 : decide (0 ≤ a3) = true) (c1 : decide (a3 < 24) = true) (c2 : decide (0 ≤ a4) = true) (c3 : decide (a4 < 60) = false) :
    Calls Tryd.prog 9 #[.agg #[.int .i64 a0, .int .i64 a1, .int .i64 a2, .int .i64 a3, .int .i64 a4, .int .i64 a5, .int .i64 a6, .int .i64 a7]] w fun e w' => e = .returned (.bool false) ∧ Below w.heap.size w w' := by
  go_enter Tryd.func9, Tryd.ntmps9
  go_wp2_with fail
  go_quiet ((go_at_call 12; exact Calls.quiet_of ((HD.out _).mono (fun e w2 h => ⟨h.1, h.2.out⟩))))
  go_wp2_with fail
  go_ret
  exact ⟨rfl, by repeat (first | exact Below.refl _ _ | apply pw_below_drewN | apply below_alloc)⟩
set_option maxHeartbeats 4000000 in
set_option maxRecDepth 100000 in
theorem spec_StampRight.no4 (a0 a1 a2 a3 a4 a5 a6 a7 : Int) (w : World) (d : Int) (HD : Aside0 (∀ W : World, Calls Tryd.prog 12 #[.int .i64 a0, .int .i64 a1] W fun e w2 => e = .returned (.int .i64 d) ∧ Drawn0 W w2)) (d0 : decide (a0 < -4711) = false) (d1 : decide (290000 < a0) = false) (d2 : decide (a1 < 1) = false) (d3 : decide (12 < a1) = false) (d4 : decide (a2 < 1) = false) (dd : decide (d < a2) = false) (c0 : decide (0 ≤ a3) = true) (c1 : decide (a3 < 24) = true) (c2 : decide (0 ≤ a4) = true) (c3 : decide (a4 < 60) = true) (c4 : decide (0 ≤ a5) = false) :
    Calls Tryd.prog 9 #[.agg #[.int .i64 a0, .int .i64 a1, .int .i64 a2, .int .i64 a3, .int .i64 a4, .int .i64 a5, .int .i64 a6, .int .i64 a7]] w fun e w' => e = .returned (.bool false) ∧ Below w.heap.size w w' := by
  go_enter Tryd.func9, Tryd.ntmps9
  go_wp2_with fail
  go_quiet ((go_at_call 12; exact Calls.quiet_of ((HD.out _).mono (fun e w2 h => ⟨h.1, h.2.out⟩))))
  go_wp2_with fail
  go_ret
  exact ⟨rfl, by repeat (first | exact Below.refl _ _ | apply pw_below_drewN | apply below_alloc)⟩
set_option maxHeartbeats 4000000 in
set_option maxRecDepth 100000 in
theorem spec_StampRight.no5 (a0 a1 a2 a3 a4 a5 a6 a7 : Int) (w : World) (d : Int) (HD : Aside0 (∀ W : World, Calls Tryd.prog 12 #[.int .i64 a0, .int .i64 a1] W fun e w2 => e = .returned (.int .i64 d) ∧ Drawn0 W w2)) (d0 : decide (a0 < -4711) = false) (d1 : decide (290000 < a0) = false) (d2 : decide (a1 < 1) = false) (d3 : decide (12 < a1) = false) (d4 : decide (a2 < 1) = false) (dd : decide (d < a2) = false) (c0 : decide (0 ≤ a3) = true) (c1 : decide (a3 < 24) = true) (c2 : decide (0 ≤ a4) = true) (c3 : decide (a4 < 60) = true) (c4 : decide (0 ≤ a5) = true) (c5 : decide (a5 < 60) = false) :
    Calls Tryd.prog 9 #[.agg #[.int .i64 a0, .int .i64 a1, .int .i64 a2, .int .i64 a3, .int .i64 a4, .int .i64 a5, .int .i64 a6, .int .i64 a7]] w fun e w' => e = .returned (.bool false) ∧ Below w.heap.size w w' := by
  go_enter Tryd.func9, Tryd.ntmps9
  go_wp2_with fail
  go_quiet ((go_at_call 12; exact Calls.quiet_of ((HD.out _).mono (fun e w2 h => ⟨h.1, h.2.out⟩))))
  go_wp2_with fail
  go_ret
  exact ⟨rfl, by repeat (first | exact Below.refl _ _ | apply pw_below_drewN | apply below_alloc)⟩
set_option maxHeartbeats 4000000 in
set_option maxRecDepth 100000 in
theorem spec_StampRight.no6 (a0 a1 a2 a3 a4 a5 a6 a7 : Int) (w : World) (d : Int) (HD : Aside0 (∀ W : World, Calls Tryd.prog 12 #[.int .i64 a0, .int .i64 a1] W fun e w2 => e = .returned (.int .i64 d) ∧ Drawn0 W w2)) (d0 : decide (a0 < -4711) = false) (d1 : decide (290000 < a0) = false) (d2 : decide (a1 < 1) = false) (d3 : decide (12 < a1) = false) (d4 : decide (a2 < 1) = false) (dd : decide (d < a2) = false) (c0 : decide (0 ≤ a3) = true) (c1 : decide (a3 < 24) = true) (c2 : decide (0 ≤ a4) = true) (c3 : decide (a4 < 60) = true) (c4 : decide (0 ≤ a5) = true) (c5 : decide (a5 < 60) = true) (c6 : decide (0 ≤ a6) = false) :
    Calls Tryd.prog 9 #[.agg #[.int .i64 a0, .int .i64 a1, .int .i64 a2, .int .i64 a3, .int .i64 a4, .int .i64 a5, .int .i64 a6, .int .i64 a7]] w fun e w' => e = .returned (.bool false) ∧ Below w.heap.size w w' := by
  go_enter Tryd.func9, Tryd.ntmps9
  go_wp2_with fail
  go_quiet ((go_at_call 12; exact Calls.quiet_of ((HD.out _).mono (fun e w2 h => ⟨h.1, h.2.out⟩))))
  go_wp2_with fail
  go_ret
  exact ⟨rfl, by repeat (first | exact Below.refl _ _ | apply pw_below_drewN | apply below_alloc)⟩
set_option maxHeartbeats 4000000 in
set_option maxRecDepth 100000 in
theorem spec_StampRight.no7 (a0 a1 a2 a3 a4 a5 a6 a7 : Int) (w : World) (d : Int) (HD : Aside0 (∀ W : World, Calls Tryd.prog 12 #[.int .i64 a0, .int .i64 a1] W fun e w2 => e = .returned (.int .i64 d) ∧ Drawn0 W w2)) (d0 : decide (a0 < -4711) = false) (d1 : decide (290000 < a0) = false) (d2 : decide (a1 < 1) = false) (d3 : decide (12 < a1) = false) (d4 : decide (a2 < 1) = false) (dd : decide (d < a2) = false) (c0 : decide (0 ≤ a3) = true) (c1 : decide (a3 < 24) = true) (c2 : decide (0 ≤ a4) = true) (c3 : decide (a4 < 60) = true) (c4 : decide (0 ≤ a5) = true) (c5 : decide (a5 < 60) = true) (c6 : decide (0 ≤ a6) = true) (c7 : decide (a6 < 1000000000) = false) :
    Calls Tryd.prog 9 #[.agg #[.int .i64 a0, .int .i64 a1, .int .i64 a2, .int .i64 a3, .int .i64 a4, .int .i64 a5, .int .i64 a6, .int .i64 a7]] w fun e w' => e = .returned (.bool false) ∧ Below w.heap.size w w' := by
  go_enter Tryd.func9, Tryd.ntmps9
  go_wp2_with fail
  go_quiet ((go_at_call 12; exact Calls.quiet_of ((HD.out _).mono (fun e w2 h => ⟨h.1, h.2.out⟩))))
  go_wp2_with fail
  go_ret
  exact ⟨rfl, by repeat (first | exact Below.refl _ _ | apply pw_below_drewN | apply below_alloc)⟩
set_option maxHeartbeats 4000000 in
set_option maxRecDepth 100000 in
theorem spec_StampRight.no8 (a0 a1 a2 a3 a4 a5 a6 a7 : Int) (w : World) (d : Int) (HD : Aside0 (∀ W : World, Calls Tryd.prog 12 #[.int .i64 a0, .int .i64 a1] W fun e w2 => e = .returned (.int .i64 d) ∧ Drawn0 W w2)) (d0 : decide (a0 < -4711) = false) (d1 : decide (290000 < a0) = false) (d2 : decide (a1 < 1) = false) (d3 : decide (12 < a1) = false) (d4 : decide (a2 < 1) = false) (dd : decide (d < a2) = false) (c0 : decide (0 ≤ a3) = true) (c1 : decide (a3 < 24) = true) (c2 : decide (0 ≤ a4) = true) (c3 : decide (a4 < 60) = true) (c4 : decide (0 ≤ a5) = true) (c5 : decide (a5 < 60) = true) (c6 : decide (0 ≤ a6) = true) (c7 : decide (a6 < 1000000000) = true) (c8 : decide (-57599 ≤ a7) = false) :
    Calls Tryd.prog 9 #[.agg #[.int .i64 a0, .int .i64 a1, .int .i64 a2, .int .i64 a3, .int .i64 a4, .int .i64 a5, .int .i64 a6, .int .i64 a7]] w fun e w' => e = .returned (.bool false) ∧ Below w.heap.size w w' := by
  go_enter Tryd.func9, Tryd.ntmps9
  go_wp2_with fail
  go_quiet ((go_at_call 12; exact Calls.quiet_of ((HD.out _).mono (fun e w2 h => ⟨h.1, h.2.out⟩))))
  go_wp2_with fail
  go_ret
  exact ⟨rfl, by repeat (first | exact Below.refl _ _ | apply pw_below_drewN | apply below_alloc)⟩
set_option maxHeartbeats 4000000 in
set_option maxRecDepth 100000 in
theorem spec_StampRight.no9 (a0 a1 a2 a3 a4 a5 a6 a7 : Int) (w : World) (d : Int) (HD : Aside0 (∀ W : World, Calls Tryd.prog 12 #[.int .i64 a0, .int .i64 a1] W fun e w2 => e = .returned (.int .i64 d) ∧ Drawn0 W w2)) (d0 : decide (a0 < -4711) = false) (d1 : decide (290000 < a0) = false) (d2 : decide (a1 < 1) = false) (d3 : decide (12 < a1) = false) (d4 : decide (a2 < 1) = false) (dd : decide (d < a2) = false) (c0 : decide (0 ≤ a3) = true) (c1 : decide (a3 < 24) = true) (c2 : decide (0 ≤ a4) = true) (c3 : decide (a4 < 60) = true) (c4 : decide (0 ≤ a5) = true) (c5 : decide (a5 < 60) = true) (c6 : decide (0 ≤ a6) = true) (c7 : decide (a6 < 1000000000) = true) (c8 : decide (-57599 ≤ a7) = true) (c9 : decide (a7 ≤ 57599) = false) :
    Calls Tryd.prog 9 #[.agg #[.int .i64 a0, .int .i64 a1, .int .i64 a2, .int .i64 a3, .int .i64 a4, .int .i64 a5, .int .i64 a6, .int .i64 a7]] w fun e w' => e = .returned (.bool false) ∧ Below w.heap.size w w' := by
  go_enter Tryd.func9, Tryd.ntmps9
  go_wp2_with fail
  go_quiet ((go_at_call 12; exact Calls.quiet_of ((HD.out _).mono (fun e w2 h => ⟨h.1, h.2.out⟩))))
  go_wp2_with fail
  go_ret
  exact ⟨rfl, by repeat (first | exact Below.refl _ _ | apply pw_below_drewN | apply below_alloc)⟩
set_option maxHeartbeats 4000000 in
set_option maxRecDepth 100000 in
theorem spec_StampRight.yes (a0 a1 a2 a3 a4 a5 a6 a7 : Int) (w : World) (d : Int) (HD : Aside0 (∀ W : World, Calls Tryd.prog 12 #[.int .i64 a0, .int .i64 a1] W fun e w2 => e = .returned (.int .i64 d) ∧ Drawn0 W w2)) (d0 : decide (a0 < -4711) = false) (d1 : decide (290000 < a0) = false) (d2 : decide (a1 < 1) = false) (d3 : decide (12 < a1) = false) (d4 : decide (a2 < 1) = false) (dd : decide (d < a2) = false) (c0 : decide (0 ≤ a3) = true) (c1 : decide (a3 < 24) = true) (c2 : decide (0 ≤ a4) = true) (c3 : decide (a4 < 60) = true) (c4 : decide (0 ≤ a5) = true) (c5 : decide (a5 < 60) = true) (c6 : decide (0 ≤ a6) = true) (c7 : decide (a6 < 1000000000) = true) (c8 : decide (-57599 ≤ a7) = true) (c9 : decide (a7 ≤ 57599) = true) :
    Calls Tryd.prog 9 #[.agg #[.int .i64 a0, .int .i64 a1, .int .i64 a2, .int .i64 a3, .int .i64 a4, .int .i64 a5, .int .i64 a6, .int .i64 a7]] w fun e w' => e = .returned (.bool true) ∧ Below w.heap.size w w' := by
  go_enter Tryd.func9, Tryd.ntmps9
  go_wp2_with fail
  go_quiet ((go_at_call 12; exact Calls.quiet_of ((HD.out _).mono (fun e w2 h => ⟨h.1, h.2.out⟩))))
  go_wp2_with fail
  go_ret
  exact ⟨rfl, by repeat (first | exact Below.refl _ _ | apply pw_below_drewN | apply below_alloc)⟩
theorem spec_StampRight.calls (k : Nat) (a0 a1 a2 a3 a4 a5 a6 a7 : Int) (r : Bool) (w : World) (h : spec_StampRight.f k a0 a1 a2 a3 a4 a5 a6 a7 = some r) :
    Calls Tryd.prog 9 #[.agg #[.int .i64 a0, .int .i64 a1, .int .i64 a2, .int .i64 a3, .int .i64 a4, .int .i64 a5, .int .i64 a6, .int .i64 a7]] w fun e w' => e = .returned (.bool r) ∧ Below w.heap.size w w' := by
  unfold spec_StampRight.f at h
  by_cases h0 : a0 < -4711
  case pos =>
    rw [if_neg (fun e => e.1 h0)] at h
    injection h with h
    subst h
    exact spec_StampRight.bad0 a0 a1 a2 a3 a4 a5 a6 a7 w  (decide_eq_true h0)
  by_cases h1 : 290000 < a0
  case pos =>
    rw [if_neg (fun e => e.2.1 h1)] at h
    injection h with h
    subst h
    exact spec_StampRight.bad1 a0 a1 a2 a3 a4 a5 a6 a7 w (decide_eq_false h0) (decide_eq_true h1)
  by_cases h2 : a1 < 1
  case pos =>
    rw [if_neg (fun e => e.2.2.1 h2)] at h
    injection h with h
    subst h
    exact spec_StampRight.bad2 a0 a1 a2 a3 a4 a5 a6 a7 w (decide_eq_false h0) (decide_eq_false h1) (decide_eq_true h2)
  by_cases h3 : 12 < a1
  case pos =>
    rw [if_neg (fun e => e.2.2.2.1 h3)] at h
    injection h with h
    subst h
    exact spec_StampRight.bad3 a0 a1 a2 a3 a4 a5 a6 a7 w (decide_eq_false h0) (decide_eq_false h1) (decide_eq_false h2) (decide_eq_true h3)
  by_cases h4 : a2 < 1
  case pos =>
    rw [if_neg (fun e => e.2.2.2.2 h4)] at h
    injection h with h
    subst h
    exact spec_StampRight.bad4 a0 a1 a2 a3 a4 a5 a6 a7 w (decide_eq_false h0) (decide_eq_false h1) (decide_eq_false h2) (decide_eq_false h3) (decide_eq_true h4)
  rw [if_pos ⟨h0, h1, h2, h3, h4⟩] at h
  obtain ⟨d, hd, h⟩ := Option.bind_eq_some_iff.mp h
  injection h with h
  have HD := Aside0.mk (fun W => spec_DaysIn.calls k a0 a1 d W hd)
  by_cases g : d < a2
  case pos =>
    rw [decide_eq_false (fun e => e.1 g)] at h
    subst h
    exact spec_StampRight.day a0 a1 a2 a3 a4 a5 a6 a7 w d HD (decide_eq_false h0) (decide_eq_false h1) (decide_eq_false h2) (decide_eq_false h3) (decide_eq_false h4) (decide_eq_true g)
  by_cases c0 : 0 ≤ a3
  case neg =>
    rw [decide_eq_false (fun e => c0 e.2.1)] at h
    subst h
    exact spec_StampRight.no0 a0 a1 a2 a3 a4 a5 a6 a7 w d HD (decide_eq_false h0) (decide_eq_false h1) (decide_eq_false h2) (decide_eq_false h3) (decide_eq_false h4) (decide_eq_false g)  (decide_eq_false c0)
  by_cases c1 : a3 < 24
  case neg =>
    rw [decide_eq_false (fun e => c1 e.2.2.1)] at h
    subst h
    exact spec_StampRight.no1 a0 a1 a2 a3 a4 a5 a6 a7 w d HD (decide_eq_false h0) (decide_eq_false h1) (decide_eq_false h2) (decide_eq_false h3) (decide_eq_false h4) (decide_eq_false g) (decide_eq_true c0) (decide_eq_false c1)
  by_cases c2 : 0 ≤ a4
  case neg =>
    rw [decide_eq_false (fun e => c2 e.2.2.2.1)] at h
    subst h
    exact spec_StampRight.no2 a0 a1 a2 a3 a4 a5 a6 a7 w d HD (decide_eq_false h0) (decide_eq_false h1) (decide_eq_false h2) (decide_eq_false h3) (decide_eq_false h4) (decide_eq_false g) (decide_eq_true c0) (decide_eq_true c1) (decide_eq_false c2)
  by_cases c3 : a4 < 60
  case neg =>
    rw [decide_eq_false (fun e => c3 e.2.2.2.2.1)] at h
    subst h
    exact spec_StampRight.no3 a0 a1 a2 a3 a4 a5 a6 a7 w d HD (decide_eq_false h0) (decide_eq_false h1) (decide_eq_false h2) (decide_eq_false h3) (decide_eq_false h4) (decide_eq_false g) (decide_eq_true c0) (decide_eq_true c1) (decide_eq_true c2) (decide_eq_false c3)
  by_cases c4 : 0 ≤ a5
  case neg =>
    rw [decide_eq_false (fun e => c4 e.2.2.2.2.2.1)] at h
    subst h
    exact spec_StampRight.no4 a0 a1 a2 a3 a4 a5 a6 a7 w d HD (decide_eq_false h0) (decide_eq_false h1) (decide_eq_false h2) (decide_eq_false h3) (decide_eq_false h4) (decide_eq_false g) (decide_eq_true c0) (decide_eq_true c1) (decide_eq_true c2) (decide_eq_true c3) (decide_eq_false c4)
  by_cases c5 : a5 < 60
  case neg =>
    rw [decide_eq_false (fun e => c5 e.2.2.2.2.2.2.1)] at h
    subst h
    exact spec_StampRight.no5 a0 a1 a2 a3 a4 a5 a6 a7 w d HD (decide_eq_false h0) (decide_eq_false h1) (decide_eq_false h2) (decide_eq_false h3) (decide_eq_false h4) (decide_eq_false g) (decide_eq_true c0) (decide_eq_true c1) (decide_eq_true c2) (decide_eq_true c3) (decide_eq_true c4) (decide_eq_false c5)
  by_cases c6 : 0 ≤ a6
  case neg =>
    rw [decide_eq_false (fun e => c6 e.2.2.2.2.2.2.2.1)] at h
    subst h
    exact spec_StampRight.no6 a0 a1 a2 a3 a4 a5 a6 a7 w d HD (decide_eq_false h0) (decide_eq_false h1) (decide_eq_false h2) (decide_eq_false h3) (decide_eq_false h4) (decide_eq_false g) (decide_eq_true c0) (decide_eq_true c1) (decide_eq_true c2) (decide_eq_true c3) (decide_eq_true c4) (decide_eq_true c5) (decide_eq_false c6)
  by_cases c7 : a6 < 1000000000
  case neg =>
    rw [decide_eq_false (fun e => c7 e.2.2.2.2.2.2.2.2.1)] at h
    subst h
    exact spec_StampRight.no7 a0 a1 a2 a3 a4 a5 a6 a7 w d HD (decide_eq_false h0) (decide_eq_false h1) (decide_eq_false h2) (decide_eq_false h3) (decide_eq_false h4) (decide_eq_false g) (decide_eq_true c0) (decide_eq_true c1) (decide_eq_true c2) (decide_eq_true c3) (decide_eq_true c4) (decide_eq_true c5) (decide_eq_true c6) (decide_eq_false c7)
  by_cases c8 : -57599 ≤ a7
  case neg =>
    rw [decide_eq_false (fun e => c8 e.2.2.2.2.2.2.2.2.2.1)] at h
    subst h
    exact spec_StampRight.no8 a0 a1 a2 a3 a4 a5 a6 a7 w d HD (decide_eq_false h0) (decide_eq_false h1) (decide_eq_false h2) (decide_eq_false h3) (decide_eq_false h4) (decide_eq_false g) (decide_eq_true c0) (decide_eq_true c1) (decide_eq_true c2) (decide_eq_true c3) (decide_eq_true c4) (decide_eq_true c5) (decide_eq_true c6) (decide_eq_true c7) (decide_eq_false c8)
  by_cases c9 : a7 ≤ 57599
  case neg =>
    rw [decide_eq_false (fun e => c9 e.2.2.2.2.2.2.2.2.2.2)] at h
    subst h
    exact spec_StampRight.no9 a0 a1 a2 a3 a4 a5 a6 a7 w d HD (decide_eq_false h0) (decide_eq_false h1) (decide_eq_false h2) (decide_eq_false h3) (decide_eq_false h4) (decide_eq_false g) (decide_eq_true c0) (decide_eq_true c1) (decide_eq_true c2) (decide_eq_true c3) (decide_eq_true c4) (decide_eq_true c5) (decide_eq_true c6) (decide_eq_true c7) (decide_eq_true c8) (decide_eq_false c9)
  rw [decide_eq_true ⟨g, c0, c1, c2, c3, c4, c5, c6, c7, c8, c9⟩] at h
  subst h
  exact spec_StampRight.yes a0 a1 a2 a3 a4 a5 a6 a7 w d HD (decide_eq_false h0) (decide_eq_false h1) (decide_eq_false h2) (decide_eq_false h3) (decide_eq_false h4) (decide_eq_false g) (decide_eq_true c0) (decide_eq_true c1) (decide_eq_true c2) (decide_eq_true c3) (decide_eq_true c4) (decide_eq_true c5) (decide_eq_true c6) (decide_eq_true c7) (decide_eq_true c8) (decide_eq_true c9)

/-! ### laws_writable7: function 4 -/
def laws_writable7.f (k : Nat) (a0_0 : Int) (a0_1 : Int) (a0_2 : Int) (a0_3 : Int) (a0_4 : Int) (a0_5 : Int) (a0_6 : Int) (a0_7 : Int) : Option (Bool) := (spec_StampRight.f k a0_0 a0_1 a0_2 a0_3 a0_4 a0_5 a0_6 a0_7).bind fun t103 => (if t103 = true then (if a0_0 > 0 then (if a0_7 ≥ 0 then (some true) else (some ((Int.tmod a0_7 60) == 0))) else (if a0_1 = 2 then (if a0_2 = 29 then (some false) else (if a0_7 ≥ 0 then (some true) else (some ((Int.tmod a0_7 60) == 0)))) else (if a0_7 ≥ 0 then (some true) else (some ((Int.tmod a0_7 60) == 0))))) else (some false))
theorem laws_writable7.mono : ∀ a0 a1 a2 a3 a4 a5 a6 a7 k, LeO (laws_writable7.f k a0 a1 a2 a3 a4 a5 a6 a7) (laws_writable7.f (k + 1) a0 a1 a2 a3 a4 a5 a6 a7) := by
  intro a0 a1 a2 a3 a4 a5 a6 a7 k
  unfold laws_writable7.f
  repeat' first
      | (with_reducible exact spec_StampRight.mono _ _ _ _ _ _ _ _ _)
      | (with_reducible exact LeO.refl _)
      | (with_reducible exact LeO.none _)
      | (with_reducible refine LeO.ite ?_ ?_)
      | (with_reducible refine LeO.bind ?_ (fun _ => ?_))
      | exact spec_StampRight.mono _ _ _ _ _ _ _ _ _
      | exact LeO.none _
      | refine LeO.ite ?_ ?_
      | refine LeO.bind ?_ (fun _ => ?_)
set_option maxHeartbeats 8000000 in
set_option maxRecDepth 100000 in
theorem laws_writable7.calls (k : Nat) (a0_0 : Int) (a0_1 : Int) (a0_2 : Int) (a0_3 : Int) (a0_4 : Int) (a0_5 : Int) (a0_6 : Int) (a0_7 : Int) (r : Bool) (w : World) (h : laws_writable7.f k a0_0 a0_1 a0_2 a0_3 a0_4 a0_5 a0_6 a0_7 = some r) :
    Calls Tryd.prog 4 #[.agg #[.int .i64 a0_0, .int .i64 a0_1, .int .i64 a0_2, .int .i64 a0_3, .int .i64 a0_4, .int .i64 a0_5, .int .i64 a0_6, .int .i64 a0_7]] w fun e w' => e = .returned (.bool r) ∧ Below w.heap.size w w' := by
  have hu23 := Tryd.underlying23
  have HB := Aside0.mk (Below.refl w.heap.size w)
  have H : ((spec_StampRight.f k a0_0 a0_1 a0_2 a0_3 a0_4 a0_5 a0_6 a0_7).bind fun t103 => (if t103 = true then (if a0_0 > 0 then (if a0_7 ≥ 0 then (some true) else (some ((Int.tmod a0_7 60) == 0))) else (if a0_1 = 2 then (if a0_2 = 29 then (some false) else (if a0_7 ≥ 0 then (some true) else (some ((Int.tmod a0_7 60) == 0)))) else (if a0_7 ≥ 0 then (some true) else (some ((Int.tmod a0_7 60) == 0))))) else (some false))) = some r := h
  clear h
  replace H := Option.bind_eq_some_iff.mp H
  obtain ⟨t103, A20, H⟩ := H
  replace H : (if t103 = true then (if a0_0 > 0 then (if a0_7 ≥ 0 then (some true) else (some ((Int.tmod a0_7 60) == 0))) else (if a0_1 = 2 then (if a0_2 = 29 then (some false) else (if a0_7 ≥ 0 then (some true) else (some ((Int.tmod a0_7 60) == 0)))) else (if a0_7 ≥ 0 then (some true) else (some ((Int.tmod a0_7 60) == 0))))) else (some false)) = some r := H
  have A2 := Aside0.mk A20
  clear A20
  by_cases c3 : t103 = true
  · subst c3
    have H1 : (if a0_0 > 0 then (if a0_7 ≥ 0 then (some true) else (some ((Int.tmod a0_7 60) == 0))) else (if a0_1 = 2 then (if a0_2 = 29 then (some false) else (if a0_7 ≥ 0 then (some true) else (some ((Int.tmod a0_7 60) == 0)))) else (if a0_7 ≥ 0 then (some true) else (some ((Int.tmod a0_7 60) == 0))))) = some r := by rw [if_pos rfl] at H; exact H
    clear H
    have H := H1
    clear H1
    by_cases c4 : a0_0 > 0
    · rw [if_pos c4] at H
      have c4b0 : decide (0 < a0_0) = true := decide_eq_true c4
      clear c4
      by_cases c5 : a0_7 ≥ 0
      · rw [if_pos c5] at H
        have c5b0 : decide (0 ≤ a0_7) = true := decide_eq_true c5
        clear c5
        obtain rfl := Option.some.inj H
        go_enter Tryd.func4, Tryd.ntmps4
        go_wp2_with (first | ((with_reducible refine gate_dst (N := 1) rfl ?_); refine box_event ?hg (N := 1) ?hd (cs := #[.int .i64 a0_0, .int .i64 a0_1, .int .i64 a0_2, .int .i64 a0_3, .int .i64 a0_4, .int .i64 a0_5, .int .i64 a0_6, .int .i64 a0_7]) (t := 23) ?hr ?_; (case hd => rfl); (case hg => rfl); (case hr => first | (go_simp; done) | (go_simp; rfl) | (go_simp; simp [IntKind.wrap_u8]; done)); intro gb102 hg w6 hbox hb; have n0_ := Aside0.mk (below_step (by repeat (first | (with_reducible first | exact HB.out | apply below_alloc | apply pw_below_drewN | apply below_drew1) | exact HB.out)) hb); have n1_ := Aside0.mk (hbox); have n2_ := Aside0.mk ((by rw [hg]; exact (below_size (by repeat (first | (with_reducible first | exact HB.out | apply below_alloc | apply pw_below_drewN | apply below_drew1) | exact HB.out))) : w.heap.size ≤ gb102)); have n3_ := Aside0.mk ((by rw [hg]; exact (below_size (by repeat (first | (with_reducible first | exact HB.out | apply below_alloc | apply pw_below_drewN | apply below_drew1) | exact HB.out))) : w.heap.size ≤ gb102)); clear HB; have HB := n0_; have BK102 := n1_; have GW102 := n2_; have GE102 := n3_; clear n0_ n1_ n2_ n3_; clear hb hbox hg; have hcz7_0 : w6.cell? ⟨gb102, 0, none⟩ = some (.int .i64 a0_0) := (blk_cell BK102.out 0).trans rfl; have hcz7_1 : w6.cell? ⟨gb102, 1, none⟩ = some (.int .i64 a0_1) := (blk_cell BK102.out 1).trans rfl; have hcz7_2 : w6.cell? ⟨gb102, 2, none⟩ = some (.int .i64 a0_2) := (blk_cell BK102.out 2).trans rfl; have hcz7_3 : w6.cell? ⟨gb102, 3, none⟩ = some (.int .i64 a0_3) := (blk_cell BK102.out 3).trans rfl; have hcz7_4 : w6.cell? ⟨gb102, 4, none⟩ = some (.int .i64 a0_4) := (blk_cell BK102.out 4).trans rfl; have hcz7_5 : w6.cell? ⟨gb102, 5, none⟩ = some (.int .i64 a0_5) := (blk_cell BK102.out 5).trans rfl; have hcz7_6 : w6.cell? ⟨gb102, 6, none⟩ = some (.int .i64 a0_6) := (blk_cell BK102.out 6).trans rfl; have hcz7_7 : w6.cell? ⟨gb102, 7, none⟩ = some (.int .i64 a0_7) := (blk_cell BK102.out 7).trans rfl; have hfz7_0 := blk_frozen BK102.out 0; have hfz7_1 := blk_frozen BK102.out 1; have hfz7_2 := blk_frozen BK102.out 2; have hfz7_3 := blk_frozen BK102.out 3; have hfz7_4 := blk_frozen BK102.out 4; have hfz7_5 := blk_frozen BK102.out 5; have hfz7_6 := blk_frozen BK102.out 6; have hfz7_7 := blk_frozen BK102.out 7) | ((with_reducible refine gate_callee (f := 9) rfl ?_); refine goesL_ (some 4) rfl rfl Tryd.func9 (by kernel_rfl) rfl #[.agg #[.int .i64 a0_0, .int .i64 a0_1, .int .i64 a0_2, .int .i64 a0_3, .int .i64 a0_4, .int .i64 a0_5, .int .i64 a0_6, .int .i64 a0_7]] rfl (by (try simp only [List.map_toArray, List.map_cons, List.map_nil]); first | done | rfl | (simp only [List.length_drop, List.length_take]; rfl)) ?_; (with_reducible refine (spec_StampRight.calls k a0_0 a0_1 a0_2 a0_3 a0_4 a0_5 a0_6 a0_7 true _ A2.out).mono ?_); rintro e w8 ⟨rfl, hb⟩; refine ⟨_, rfl, ?_⟩; have n0_ := Aside0.mk (blk_below (g := gb102) (o := .cells #[.int .i64 a0_0, .int .i64 a0_1, .int .i64 a0_2, .int .i64 a0_3, .int .i64 a0_4, .int .i64 a0_5, .int .i64 a0_6, .int .i64 a0_7] 23 (0, 0)) (by (with_reducible repeat (first | refine blk_drewN ?_ _ | refine blk_drew ?_ | refine blk_alloc ?_ _)); exact BK102.out) hb); have n1_ := Aside0.mk (below_step (by repeat (first | (with_reducible first | exact HB.out | apply below_alloc | apply pw_below_drewN | apply below_drew1 | refine below_set ?_ GE102.out) | exact HB.out)) hb); clear BK102; clear HB; have BK102 := n0_; have HB := n1_; clear n0_ n1_; (try clear hb); (try clear hb2); (try clear hk); (try clear hi); have hcz9_0 : w8.cell? ⟨gb102, 0, none⟩ = some (.int .i64 a0_0) := (blk_cell BK102.out 0).trans rfl; have hcz9_1 : w8.cell? ⟨gb102, 1, none⟩ = some (.int .i64 a0_1) := (blk_cell BK102.out 1).trans rfl; have hcz9_2 : w8.cell? ⟨gb102, 2, none⟩ = some (.int .i64 a0_2) := (blk_cell BK102.out 2).trans rfl; have hcz9_3 : w8.cell? ⟨gb102, 3, none⟩ = some (.int .i64 a0_3) := (blk_cell BK102.out 3).trans rfl; have hcz9_4 : w8.cell? ⟨gb102, 4, none⟩ = some (.int .i64 a0_4) := (blk_cell BK102.out 4).trans rfl; have hcz9_5 : w8.cell? ⟨gb102, 5, none⟩ = some (.int .i64 a0_5) := (blk_cell BK102.out 5).trans rfl; have hcz9_6 : w8.cell? ⟨gb102, 6, none⟩ = some (.int .i64 a0_6) := (blk_cell BK102.out 6).trans rfl; have hcz9_7 : w8.cell? ⟨gb102, 7, none⟩ = some (.int .i64 a0_7) := (blk_cell BK102.out 7).trans rfl; have hfz9_0 := blk_frozen BK102.out 0; have hfz9_1 := blk_frozen BK102.out 1; have hfz9_2 := blk_frozen BK102.out 2; have hfz9_3 := blk_frozen BK102.out 3; have hfz9_4 := blk_frozen BK102.out 4; have hfz9_5 := blk_frozen BK102.out 5; have hfz9_6 := blk_frozen BK102.out 6; have hfz9_7 := blk_frozen BK102.out 7))
        go_ret
        exact ⟨by first | rfl | (simp [errW_none, errW_some] <;> rfl) | (simp [*, errW_none, errW_some] <;> rfl), by repeat (first | (with_reducible first | exact HB.out | apply below_alloc | apply pw_below_drewN | apply below_drew1 | refine below_set ?_ GE102.out) | exact HB.out)⟩
      · rw [if_neg c5] at H
        have c5b0 : decide (0 ≤ a0_7) = false := decide_eq_false c5
        clear c5
        obtain rfl := Option.some.inj H
        go_enter Tryd.func4, Tryd.ntmps4
        go_wp2_with (first | ((with_reducible refine gate_dst (N := 1) rfl ?_); refine box_event ?hg (N := 1) ?hd (cs := #[.int .i64 a0_0, .int .i64 a0_1, .int .i64 a0_2, .int .i64 a0_3, .int .i64 a0_4, .int .i64 a0_5, .int .i64 a0_6, .int .i64 a0_7]) (t := 23) ?hr ?_; (case hd => rfl); (case hg => rfl); (case hr => first | (go_simp; done) | (go_simp; rfl) | (go_simp; simp [IntKind.wrap_u8]; done)); intro gb102 hg w10 hbox hb; have n0_ := Aside0.mk (below_step (by repeat (first | (with_reducible first | exact HB.out | apply below_alloc | apply pw_below_drewN | apply below_drew1) | exact HB.out)) hb); have n1_ := Aside0.mk (hbox); have n2_ := Aside0.mk ((by rw [hg]; exact (below_size (by repeat (first | (with_reducible first | exact HB.out | apply below_alloc | apply pw_below_drewN | apply below_drew1) | exact HB.out))) : w.heap.size ≤ gb102)); have n3_ := Aside0.mk ((by rw [hg]; exact (below_size (by repeat (first | (with_reducible first | exact HB.out | apply below_alloc | apply pw_below_drewN | apply below_drew1) | exact HB.out))) : w.heap.size ≤ gb102)); clear HB; have HB := n0_; have BK102 := n1_; have GW102 := n2_; have GE102 := n3_; clear n0_ n1_ n2_ n3_; clear hb hbox hg; have hcz11_0 : w10.cell? ⟨gb102, 0, none⟩ = some (.int .i64 a0_0) := (blk_cell BK102.out 0).trans rfl; have hcz11_1 : w10.cell? ⟨gb102, 1, none⟩ = some (.int .i64 a0_1) := (blk_cell BK102.out 1).trans rfl; have hcz11_2 : w10.cell? ⟨gb102, 2, none⟩ = some (.int .i64 a0_2) := (blk_cell BK102.out 2).trans rfl; have hcz11_3 : w10.cell? ⟨gb102, 3, none⟩ = some (.int .i64 a0_3) := (blk_cell BK102.out 3).trans rfl; have hcz11_4 : w10.cell? ⟨gb102, 4, none⟩ = some (.int .i64 a0_4) := (blk_cell BK102.out 4).trans rfl; have hcz11_5 : w10.cell? ⟨gb102, 5, none⟩ = some (.int .i64 a0_5) := (blk_cell BK102.out 5).trans rfl; have hcz11_6 : w10.cell? ⟨gb102, 6, none⟩ = some (.int .i64 a0_6) := (blk_cell BK102.out 6).trans rfl; have hcz11_7 : w10.cell? ⟨gb102, 7, none⟩ = some (.int .i64 a0_7) := (blk_cell BK102.out 7).trans rfl; have hfz11_0 := blk_frozen BK102.out 0; have hfz11_1 := blk_frozen BK102.out 1; have hfz11_2 := blk_frozen BK102.out 2; have hfz11_3 := blk_frozen BK102.out 3; have hfz11_4 := blk_frozen BK102.out 4; have hfz11_5 := blk_frozen BK102.out 5; have hfz11_6 := blk_frozen BK102.out 6; have hfz11_7 := blk_frozen BK102.out 7) | ((with_reducible refine gate_callee (f := 9) rfl ?_); refine goesL_ (some 4) rfl rfl Tryd.func9 (by kernel_rfl) rfl #[.agg #[.int .i64 a0_0, .int .i64 a0_1, .int .i64 a0_2, .int .i64 a0_3, .int .i64 a0_4, .int .i64 a0_5, .int .i64 a0_6, .int .i64 a0_7]] rfl (by (try simp only [List.map_toArray, List.map_cons, List.map_nil]); first | done | rfl | (simp only [List.length_drop, List.length_take]; rfl)) ?_; (with_reducible refine (spec_StampRight.calls k a0_0 a0_1 a0_2 a0_3 a0_4 a0_5 a0_6 a0_7 true _ A2.out).mono ?_); rintro e w12 ⟨rfl, hb⟩; refine ⟨_, rfl, ?_⟩; have n0_ := Aside0.mk (blk_below (g := gb102) (o := .cells #[.int .i64 a0_0, .int .i64 a0_1, .int .i64 a0_2, .int .i64 a0_3, .int .i64 a0_4, .int .i64 a0_5, .int .i64 a0_6, .int .i64 a0_7] 23 (0, 0)) (by (with_reducible repeat (first | refine blk_drewN ?_ _ | refine blk_drew ?_ | refine blk_alloc ?_ _)); exact BK102.out) hb); have n1_ := Aside0.mk (below_step (by repeat (first | (with_reducible first | exact HB.out | apply below_alloc | apply pw_below_drewN | apply below_drew1 | refine below_set ?_ GE102.out) | exact HB.out)) hb); clear BK102; clear HB; have BK102 := n0_; have HB := n1_; clear n0_ n1_; (try clear hb); (try clear hb2); (try clear hk); (try clear hi); have hcz13_0 : w12.cell? ⟨gb102, 0, none⟩ = some (.int .i64 a0_0) := (blk_cell BK102.out 0).trans rfl; have hcz13_1 : w12.cell? ⟨gb102, 1, none⟩ = some (.int .i64 a0_1) := (blk_cell BK102.out 1).trans rfl; have hcz13_2 : w12.cell? ⟨gb102, 2, none⟩ = some (.int .i64 a0_2) := (blk_cell BK102.out 2).trans rfl; have hcz13_3 : w12.cell? ⟨gb102, 3, none⟩ = some (.int .i64 a0_3) := (blk_cell BK102.out 3).trans rfl; have hcz13_4 : w12.cell? ⟨gb102, 4, none⟩ = some (.int .i64 a0_4) := (blk_cell BK102.out 4).trans rfl; have hcz13_5 : w12.cell? ⟨gb102, 5, none⟩ = some (.int .i64 a0_5) := (blk_cell BK102.out 5).trans rfl; have hcz13_6 : w12.cell? ⟨gb102, 6, none⟩ = some (.int .i64 a0_6) := (blk_cell BK102.out 6).trans rfl; have hcz13_7 : w12.cell? ⟨gb102, 7, none⟩ = some (.int .i64 a0_7) := (blk_cell BK102.out 7).trans rfl; have hfz13_0 := blk_frozen BK102.out 0; have hfz13_1 := blk_frozen BK102.out 1; have hfz13_2 := blk_frozen BK102.out 2; have hfz13_3 := blk_frozen BK102.out 3; have hfz13_4 := blk_frozen BK102.out 4; have hfz13_5 := blk_frozen BK102.out 5; have hfz13_6 := blk_frozen BK102.out 6; have hfz13_7 := blk_frozen BK102.out 7))
        go_ret
        exact ⟨by first | rfl | (simp [errW_none, errW_some] <;> rfl) | (simp [*, errW_none, errW_some] <;> rfl), by repeat (first | (with_reducible first | exact HB.out | apply below_alloc | apply pw_below_drewN | apply below_drew1 | refine below_set ?_ GE102.out) | exact HB.out)⟩
    · rw [if_neg c4] at H
      have c4b0 : decide (0 < a0_0) = false := decide_eq_false c4
      clear c4
      by_cases c14 : a0_1 = 2
      · rw [if_pos c14] at H
        have c14b0 : (a0_1 == 2) = true := beq_iff_eq.mpr c14
        have c14b1 : (a0_1 != 2) = false := bne_eq_false_iff_eq.mpr c14
        clear c14
        by_cases c15 : a0_2 = 29
        · rw [if_pos c15] at H
          have c15b0 : (a0_2 == 29) = true := beq_iff_eq.mpr c15
          have c15b1 : (a0_2 != 29) = false := bne_eq_false_iff_eq.mpr c15
          clear c15
          obtain rfl := Option.some.inj H
          go_enter Tryd.func4, Tryd.ntmps4
          go_wp2_with (first | ((with_reducible refine gate_dst (N := 1) rfl ?_); refine box_event ?hg (N := 1) ?hd (cs := #[.int .i64 a0_0, .int .i64 a0_1, .int .i64 a0_2, .int .i64 a0_3, .int .i64 a0_4, .int .i64 a0_5, .int .i64 a0_6, .int .i64 a0_7]) (t := 23) ?hr ?_; (case hd => rfl); (case hg => rfl); (case hr => first | (go_simp; done) | (go_simp; rfl) | (go_simp; simp [IntKind.wrap_u8]; done)); intro gb102 hg w16 hbox hb; have n0_ := Aside0.mk (below_step (by repeat (first | (with_reducible first | exact HB.out | apply below_alloc | apply pw_below_drewN | apply below_drew1) | exact HB.out)) hb); have n1_ := Aside0.mk (hbox); have n2_ := Aside0.mk ((by rw [hg]; exact (below_size (by repeat (first | (with_reducible first | exact HB.out | apply below_alloc | apply pw_below_drewN | apply below_drew1) | exact HB.out))) : w.heap.size ≤ gb102)); have n3_ := Aside0.mk ((by rw [hg]; exact (below_size (by repeat (first | (with_reducible first | exact HB.out | apply below_alloc | apply pw_below_drewN | apply below_drew1) | exact HB.out))) : w.heap.size ≤ gb102)); clear HB; have HB := n0_; have BK102 := n1_; have GW102 := n2_; have GE102 := n3_; clear n0_ n1_ n2_ n3_; clear hb hbox hg; have hcz17_0 : w16.cell? ⟨gb102, 0, none⟩ = some (.int .i64 a0_0) := (blk_cell BK102.out 0).trans rfl; have hcz17_1 : w16.cell? ⟨gb102, 1, none⟩ = some (.int .i64 a0_1) := (blk_cell BK102.out 1).trans rfl; have hcz17_2 : w16.cell? ⟨gb102, 2, none⟩ = some (.int .i64 a0_2) := (blk_cell BK102.out 2).trans rfl; have hcz17_3 : w16.cell? ⟨gb102, 3, none⟩ = some (.int .i64 a0_3) := (blk_cell BK102.out 3).trans rfl; have hcz17_4 : w16.cell? ⟨gb102, 4, none⟩ = some (.int .i64 a0_4) := (blk_cell BK102.out 4).trans rfl; have hcz17_5 : w16.cell? ⟨gb102, 5, none⟩ = some (.int .i64 a0_5) := (blk_cell BK102.out 5).trans rfl; have hcz17_6 : w16.cell? ⟨gb102, 6, none⟩ = some (.int .i64 a0_6) := (blk_cell BK102.out 6).trans rfl; have hcz17_7 : w16.cell? ⟨gb102, 7, none⟩ = some (.int .i64 a0_7) := (blk_cell BK102.out 7).trans rfl; have hfz17_0 := blk_frozen BK102.out 0; have hfz17_1 := blk_frozen BK102.out 1; have hfz17_2 := blk_frozen BK102.out 2; have hfz17_3 := blk_frozen BK102.out 3; have hfz17_4 := blk_frozen BK102.out 4; have hfz17_5 := blk_frozen BK102.out 5; have hfz17_6 := blk_frozen BK102.out 6; have hfz17_7 := blk_frozen BK102.out 7) | ((with_reducible refine gate_callee (f := 9) rfl ?_); refine goesL_ (some 4) rfl rfl Tryd.func9 (by kernel_rfl) rfl #[.agg #[.int .i64 a0_0, .int .i64 a0_1, .int .i64 a0_2, .int .i64 a0_3, .int .i64 a0_4, .int .i64 a0_5, .int .i64 a0_6, .int .i64 a0_7]] rfl (by (try simp only [List.map_toArray, List.map_cons, List.map_nil]); first | done | rfl | (simp only [List.length_drop, List.length_take]; rfl)) ?_; (with_reducible refine (spec_StampRight.calls k a0_0 a0_1 a0_2 a0_3 a0_4 a0_5 a0_6 a0_7 true _ A2.out).mono ?_); rintro e w18 ⟨rfl, hb⟩; refine ⟨_, rfl, ?_⟩; have n0_ := Aside0.mk (blk_below (g := gb102) (o := .cells #[.int .i64 a0_0, .int .i64 a0_1, .int .i64 a0_2, .int .i64 a0_3, .int .i64 a0_4, .int .i64 a0_5, .int .i64 a0_6, .int .i64 a0_7] 23 (0, 0)) (by (with_reducible repeat (first | refine blk_drewN ?_ _ | refine blk_drew ?_ | refine blk_alloc ?_ _)); exact BK102.out) hb); have n1_ := Aside0.mk (below_step (by repeat (first | (with_reducible first | exact HB.out | apply below_alloc | apply pw_below_drewN | apply below_drew1 | refine below_set ?_ GE102.out) | exact HB.out)) hb); clear BK102; clear HB; have BK102 := n0_; have HB := n1_; clear n0_ n1_; (try clear hb); (try clear hb2); (try clear hk); (try clear hi); have hcz19_0 : w18.cell? ⟨gb102, 0, none⟩ = some (.int .i64 a0_0) := (blk_cell BK102.out 0).trans rfl; have hcz19_1 : w18.cell? ⟨gb102, 1, none⟩ = some (.int .i64 a0_1) := (blk_cell BK102.out 1).trans rfl; have hcz19_2 : w18.cell? ⟨gb102, 2, none⟩ = some (.int .i64 a0_2) := (blk_cell BK102.out 2).trans rfl; have hcz19_3 : w18.cell? ⟨gb102, 3, none⟩ = some (.int .i64 a0_3) := (blk_cell BK102.out 3).trans rfl; have hcz19_4 : w18.cell? ⟨gb102, 4, none⟩ = some (.int .i64 a0_4) := (blk_cell BK102.out 4).trans rfl; have hcz19_5 : w18.cell? ⟨gb102, 5, none⟩ = some (.int .i64 a0_5) := (blk_cell BK102.out 5).trans rfl; have hcz19_6 : w18.cell? ⟨gb102, 6, none⟩ = some (.int .i64 a0_6) := (blk_cell BK102.out 6).trans rfl; have hcz19_7 : w18.cell? ⟨gb102, 7, none⟩ = some (.int .i64 a0_7) := (blk_cell BK102.out 7).trans rfl; have hfz19_0 := blk_frozen BK102.out 0; have hfz19_1 := blk_frozen BK102.out 1; have hfz19_2 := blk_frozen BK102.out 2; have hfz19_3 := blk_frozen BK102.out 3; have hfz19_4 := blk_frozen BK102.out 4; have hfz19_5 := blk_frozen BK102.out 5; have hfz19_6 := blk_frozen BK102.out 6; have hfz19_7 := blk_frozen BK102.out 7))
          go_ret
          exact ⟨by first | rfl | (simp [errW_none, errW_some] <;> rfl) | (simp [*, errW_none, errW_some] <;> rfl), by repeat (first | (with_reducible first | exact HB.out | apply below_alloc | apply pw_below_drewN | apply below_drew1 | refine below_set ?_ GE102.out) | exact HB.out)⟩
        · rw [if_neg c15] at H
          have c15b0 : (a0_2 == 29) = false := beq_eq_false_iff_ne.mpr c15
          have c15b1 : (a0_2 != 29) = true := bne_iff_ne.mpr c15
          by_cases c20 : a0_7 ≥ 0
          · rw [if_pos c20] at H
            have c20b0 : decide (0 ≤ a0_7) = true := decide_eq_true c20
            clear c20
            obtain rfl := Option.some.inj H
            go_enter Tryd.func4, Tryd.ntmps4
            go_wp2_with (first | ((with_reducible refine gate_dst (N := 1) rfl ?_); refine box_event ?hg (N := 1) ?hd (cs := #[.int .i64 a0_0, .int .i64 a0_1, .int .i64 a0_2, .int .i64 a0_3, .int .i64 a0_4, .int .i64 a0_5, .int .i64 a0_6, .int .i64 a0_7]) (t := 23) ?hr ?_; (case hd => rfl); (case hg => rfl); (case hr => first | (go_simp; done) | (go_simp; rfl) | (go_simp; simp [IntKind.wrap_u8]; done)); intro gb102 hg w21 hbox hb; have n0_ := Aside0.mk (below_step (by repeat (first | (with_reducible first | exact HB.out | apply below_alloc | apply pw_below_drewN | apply below_drew1) | exact HB.out)) hb); have n1_ := Aside0.mk (hbox); have n2_ := Aside0.mk ((by rw [hg]; exact (below_size (by repeat (first | (with_reducible first | exact HB.out | apply below_alloc | apply pw_below_drewN | apply below_drew1) | exact HB.out))) : w.heap.size ≤ gb102)); have n3_ := Aside0.mk ((by rw [hg]; exact (below_size (by repeat (first | (with_reducible first | exact HB.out | apply below_alloc | apply pw_below_drewN | apply below_drew1) | exact HB.out))) : w.heap.size ≤ gb102)); clear HB; have HB := n0_; have BK102 := n1_; have GW102 := n2_; have GE102 := n3_; clear n0_ n1_ n2_ n3_; clear hb hbox hg; have hcz22_0 : w21.cell? ⟨gb102, 0, none⟩ = some (.int .i64 a0_0) := (blk_cell BK102.out 0).trans rfl; have hcz22_1 : w21.cell? ⟨gb102, 1, none⟩ = some (.int .i64 a0_1) := (blk_cell BK102.out 1).trans rfl; have hcz22_2 : w21.cell? ⟨gb102, 2, none⟩ = some (.int .i64 a0_2) := (blk_cell BK102.out 2).trans rfl; have hcz22_3 : w21.cell? ⟨gb102, 3, none⟩ = some (.int .i64 a0_3) := (blk_cell BK102.out 3).trans rfl; have hcz22_4 : w21.cell? ⟨gb102, 4, none⟩ = some (.int .i64 a0_4) := (blk_cell BK102.out 4).trans rfl; have hcz22_5 : w21.cell? ⟨gb102, 5, none⟩ = some (.int .i64 a0_5) := (blk_cell BK102.out 5).trans rfl; have hcz22_6 : w21.cell? ⟨gb102, 6, none⟩ = some (.int .i64 a0_6) := (blk_cell BK102.out 6).trans rfl; have hcz22_7 : w21.cell? ⟨gb102, 7, none⟩ = some (.int .i64 a0_7) := (blk_cell BK102.out 7).trans rfl; have hfz22_0 := blk_frozen BK102.out 0; have hfz22_1 := blk_frozen BK102.out 1; have hfz22_2 := blk_frozen BK102.out 2; have hfz22_3 := blk_frozen BK102.out 3; have hfz22_4 := blk_frozen BK102.out 4; have hfz22_5 := blk_frozen BK102.out 5; have hfz22_6 := blk_frozen BK102.out 6; have hfz22_7 := blk_frozen BK102.out 7) | ((with_reducible refine gate_callee (f := 9) rfl ?_); refine goesL_ (some 4) rfl rfl Tryd.func9 (by kernel_rfl) rfl #[.agg #[.int .i64 a0_0, .int .i64 a0_1, .int .i64 a0_2, .int .i64 a0_3, .int .i64 a0_4, .int .i64 a0_5, .int .i64 a0_6, .int .i64 a0_7]] rfl (by (try simp only [List.map_toArray, List.map_cons, List.map_nil]); first | done | rfl | (simp only [List.length_drop, List.length_take]; rfl)) ?_; (with_reducible refine (spec_StampRight.calls k a0_0 a0_1 a0_2 a0_3 a0_4 a0_5 a0_6 a0_7 true _ A2.out).mono ?_); rintro e w23 ⟨rfl, hb⟩; refine ⟨_, rfl, ?_⟩; have n0_ := Aside0.mk (blk_below (g := gb102) (o := .cells #[.int .i64 a0_0, .int .i64 a0_1, .int .i64 a0_2, .int .i64 a0_3, .int .i64 a0_4, .int .i64 a0_5, .int .i64 a0_6, .int .i64 a0_7] 23 (0, 0)) (by (with_reducible repeat (first | refine blk_drewN ?_ _ | refine blk_drew ?_ | refine blk_alloc ?_ _)); exact BK102.out) hb); have n1_ := Aside0.mk (below_step (by repeat (first | (with_reducible first | exact HB.out | apply below_alloc | apply pw_below_drewN | apply below_drew1 | refine below_set ?_ GE102.out) | exact HB.out)) hb); clear BK102; clear HB; have BK102 := n0_; have HB := n1_; clear n0_ n1_; (try clear hb); (try clear hb2); (try clear hk); (try clear hi); have hcz24_0 : w23.cell? ⟨gb102, 0, none⟩ = some (.int .i64 a0_0) := (blk_cell BK102.out 0).trans rfl; have hcz24_1 : w23.cell? ⟨gb102, 1, none⟩ = some (.int .i64 a0_1) := (blk_cell BK102.out 1).trans rfl; have hcz24_2 : w23.cell? ⟨gb102, 2, none⟩ = some (.int .i64 a0_2) := (blk_cell BK102.out 2).trans rfl; have hcz24_3 : w23.cell? ⟨gb102, 3, none⟩ = some (.int .i64 a0_3) := (blk_cell BK102.out 3).trans rfl; have hcz24_4 : w23.cell? ⟨gb102, 4, none⟩ = some (.int .i64 a0_4) := (blk_cell BK102.out 4).trans rfl; have hcz24_5 : w23.cell? ⟨gb102, 5, none⟩ = some (.int .i64 a0_5) := (blk_cell BK102.out 5).trans rfl; have hcz24_6 : w23.cell? ⟨gb102, 6, none⟩ = some (.int .i64 a0_6) := (blk_cell BK102.out 6).trans rfl; have hcz24_7 : w23.cell? ⟨gb102, 7, none⟩ = some (.int .i64 a0_7) := (blk_cell BK102.out 7).trans rfl; have hfz24_0 := blk_frozen BK102.out 0; have hfz24_1 := blk_frozen BK102.out 1; have hfz24_2 := blk_frozen BK102.out 2; have hfz24_3 := blk_frozen BK102.out 3; have hfz24_4 := blk_frozen BK102.out 4; have hfz24_5 := blk_frozen BK102.out 5; have hfz24_6 := blk_frozen BK102.out 6; have hfz24_7 := blk_frozen BK102.out 7))
            go_ret
            exact ⟨by first | rfl | (simp [errW_none, errW_some] <;> rfl) | (simp [*, errW_none, errW_some] <;> rfl), by repeat (first | (with_reducible first | exact HB.out | apply below_alloc | apply pw_below_drewN | apply below_drew1 | refine below_set ?_ GE102.out) | exact HB.out)⟩
          · rw [if_neg c20] at H
            have c20b0 : decide (0 ≤ a0_7) = false := decide_eq_false c20
            clear c20
            obtain rfl := Option.some.inj H
            go_enter Tryd.func4, Tryd.ntmps4
            go_wp2_with (first | ((with_reducible refine gate_dst (N := 1) rfl ?_); refine box_event ?hg (N := 1) ?hd (cs := #[.int .i64 a0_0, .int .i64 a0_1, .int .i64 a0_2, .int .i64 a0_3, .int .i64 a0_4, .int .i64 a0_5, .int .i64 a0_6, .int .i64 a0_7]) (t := 23) ?hr ?_; (case hd => rfl); (case hg => rfl); (case hr => first | (go_simp; done) | (go_simp; rfl) | (go_simp; simp [IntKind.wrap_u8]; done)); intro gb102 hg w25 hbox hb; have n0_ := Aside0.mk (below_step (by repeat (first | (with_reducible first | exact HB.out | apply below_alloc | apply pw_below_drewN | apply below_drew1) | exact HB.out)) hb); have n1_ := Aside0.mk (hbox); have n2_ := Aside0.mk ((by rw [hg]; exact (below_size (by repeat (first | (with_reducible first | exact HB.out | apply below_alloc | apply pw_below_drewN | apply below_drew1) | exact HB.out))) : w.heap.size ≤ gb102)); have n3_ := Aside0.mk ((by rw [hg]; exact (below_size (by repeat (first | (with_reducible first | exact HB.out | apply below_alloc | apply pw_below_drewN | apply below_drew1) | exact HB.out))) : w.heap.size ≤ gb102)); clear HB; have HB := n0_; have BK102 := n1_; have GW102 := n2_; have GE102 := n3_; clear n0_ n1_ n2_ n3_; clear hb hbox hg; have hcz26_0 : w25.cell? ⟨gb102, 0, none⟩ = some (.int .i64 a0_0) := (blk_cell BK102.out 0).trans rfl; have hcz26_1 : w25.cell? ⟨gb102, 1, none⟩ = some (.int .i64 a0_1) := (blk_cell BK102.out 1).trans rfl; have hcz26_2 : w25.cell? ⟨gb102, 2, none⟩ = some (.int .i64 a0_2) := (blk_cell BK102.out 2).trans rfl; have hcz26_3 : w25.cell? ⟨gb102, 3, none⟩ = some (.int .i64 a0_3) := (blk_cell BK102.out 3).trans rfl; have hcz26_4 : w25.cell? ⟨gb102, 4, none⟩ = some (.int .i64 a0_4) := (blk_cell BK102.out 4).trans rfl; have hcz26_5 : w25.cell? ⟨gb102, 5, none⟩ = some (.int .i64 a0_5) := (blk_cell BK102.out 5).trans rfl; have hcz26_6 : w25.cell? ⟨gb102, 6, none⟩ = some (.int .i64 a0_6) := (blk_cell BK102.out 6).trans rfl; have hcz26_7 : w25.cell? ⟨gb102, 7, none⟩ = some (.int .i64 a0_7) := (blk_cell BK102.out 7).trans rfl; have hfz26_0 := blk_frozen BK102.out 0; have hfz26_1 := blk_frozen BK102.out 1; have hfz26_2 := blk_frozen BK102.out 2; have hfz26_3 := blk_frozen BK102.out 3; have hfz26_4 := blk_frozen BK102.out 4; have hfz26_5 := blk_frozen BK102.out 5; have hfz26_6 := blk_frozen BK102.out 6; have hfz26_7 := blk_frozen BK102.out 7) | ((with_reducible refine gate_callee (f := 9) rfl ?_); refine goesL_ (some 4) rfl rfl Tryd.func9 (by kernel_rfl) rfl #[.agg #[.int .i64 a0_0, .int .i64 a0_1, .int .i64 a0_2, .int .i64 a0_3, .int .i64 a0_4, .int .i64 a0_5, .int .i64 a0_6, .int .i64 a0_7]] rfl (by (try simp only [List.map_toArray, List.map_cons, List.map_nil]); first | done | rfl | (simp only [List.length_drop, List.length_take]; rfl)) ?_; (with_reducible refine (spec_StampRight.calls k a0_0 a0_1 a0_2 a0_3 a0_4 a0_5 a0_6 a0_7 true _ A2.out).mono ?_); rintro e w27 ⟨rfl, hb⟩; refine ⟨_, rfl, ?_⟩; have n0_ := Aside0.mk (blk_below (g := gb102) (o := .cells #[.int .i64 a0_0, .int .i64 a0_1, .int .i64 a0_2, .int .i64 a0_3, .int .i64 a0_4, .int .i64 a0_5, .int .i64 a0_6, .int .i64 a0_7] 23 (0, 0)) (by (with_reducible repeat (first | refine blk_drewN ?_ _ | refine blk_drew ?_ | refine blk_alloc ?_ _)); exact BK102.out) hb); have n1_ := Aside0.mk (below_step (by repeat (first | (with_reducible first | exact HB.out | apply below_alloc | apply pw_below_drewN | apply below_drew1 | refine below_set ?_ GE102.out) | exact HB.out)) hb); clear BK102; clear HB; have BK102 := n0_; have HB := n1_; clear n0_ n1_; (try clear hb); (try clear hb2); (try clear hk); (try clear hi); have hcz28_0 : w27.cell? ⟨gb102, 0, none⟩ = some (.int .i64 a0_0) := (blk_cell BK102.out 0).trans rfl; have hcz28_1 : w27.cell? ⟨gb102, 1, none⟩ = some (.int .i64 a0_1) := (blk_cell BK102.out 1).trans rfl; have hcz28_2 : w27.cell? ⟨gb102, 2, none⟩ = some (.int .i64 a0_2) := (blk_cell BK102.out 2).trans rfl; have hcz28_3 : w27.cell? ⟨gb102, 3, none⟩ = some (.int .i64 a0_3) := (blk_cell BK102.out 3).trans rfl; have hcz28_4 : w27.cell? ⟨gb102, 4, none⟩ = some (.int .i64 a0_4) := (blk_cell BK102.out 4).trans rfl; have hcz28_5 : w27.cell? ⟨gb102, 5, none⟩ = some (.int .i64 a0_5) := (blk_cell BK102.out 5).trans rfl; have hcz28_6 : w27.cell? ⟨gb102, 6, none⟩ = some (.int .i64 a0_6) := (blk_cell BK102.out 6).trans rfl; have hcz28_7 : w27.cell? ⟨gb102, 7, none⟩ = some (.int .i64 a0_7) := (blk_cell BK102.out 7).trans rfl; have hfz28_0 := blk_frozen BK102.out 0; have hfz28_1 := blk_frozen BK102.out 1; have hfz28_2 := blk_frozen BK102.out 2; have hfz28_3 := blk_frozen BK102.out 3; have hfz28_4 := blk_frozen BK102.out 4; have hfz28_5 := blk_frozen BK102.out 5; have hfz28_6 := blk_frozen BK102.out 6; have hfz28_7 := blk_frozen BK102.out 7))
            go_ret
            exact ⟨by first | rfl | (simp [errW_none, errW_some] <;> rfl) | (simp [*, errW_none, errW_some] <;> rfl), by repeat (first | (with_reducible first | exact HB.out | apply below_alloc | apply pw_below_drewN | apply below_drew1 | refine below_set ?_ GE102.out) | exact HB.out)⟩
      · rw [if_neg c14] at H
        have c14b0 : (a0_1 == 2) = false := beq_eq_false_iff_ne.mpr c14
        have c14b1 : (a0_1 != 2) = true := bne_iff_ne.mpr c14
        by_cases c29 : a0_7 ≥ 0
        · rw [if_pos c29] at H
          have c29b0 : decide (0 ≤ a0_7) = true := decide_eq_true c29
          clear c29
          obtain rfl := Option.some.inj H
          go_enter Tryd.func4, Tryd.ntmps4
          go_wp2_with (first | ((with_reducible refine gate_dst (N := 1) rfl ?_); refine box_event ?hg (N := 1) ?hd (cs := #[.int .i64 a0_0, .int .i64 a0_1, .int .i64 a0_2, .int .i64 a0_3, .int .i64 a0_4, .int .i64 a0_5, .int .i64 a0_6, .int .i64 a0_7]) (t := 23) ?hr ?_; (case hd => rfl); (case hg => rfl); (case hr => first | (go_simp; done) | (go_simp; rfl) | (go_simp; simp [IntKind.wrap_u8]; done)); intro gb102 hg w30 hbox hb; have n0_ := Aside0.mk (below_step (by repeat (first | (with_reducible first | exact HB.out | apply below_alloc | apply pw_below_drewN | apply below_drew1) | exact HB.out)) hb); have n1_ := Aside0.mk (hbox); have n2_ := Aside0.mk ((by rw [hg]; exact (below_size (by repeat (first | (with_reducible first | exact HB.out | apply below_alloc | apply pw_below_drewN | apply below_drew1) | exact HB.out))) : w.heap.size ≤ gb102)); have n3_ := Aside0.mk ((by rw [hg]; exact (below_size (by repeat (first | (with_reducible first | exact HB.out | apply below_alloc | apply pw_below_drewN | apply below_drew1) | exact HB.out))) : w.heap.size ≤ gb102)); clear HB; have HB := n0_; have BK102 := n1_; have GW102 := n2_; have GE102 := n3_; clear n0_ n1_ n2_ n3_; clear hb hbox hg; have hcz31_0 : w30.cell? ⟨gb102, 0, none⟩ = some (.int .i64 a0_0) := (blk_cell BK102.out 0).trans rfl; have hcz31_1 : w30.cell? ⟨gb102, 1, none⟩ = some (.int .i64 a0_1) := (blk_cell BK102.out 1).trans rfl; have hcz31_2 : w30.cell? ⟨gb102, 2, none⟩ = some (.int .i64 a0_2) := (blk_cell BK102.out 2).trans rfl; have hcz31_3 : w30.cell? ⟨gb102, 3, none⟩ = some (.int .i64 a0_3) := (blk_cell BK102.out 3).trans rfl; have hcz31_4 : w30.cell? ⟨gb102, 4, none⟩ = some (.int .i64 a0_4) := (blk_cell BK102.out 4).trans rfl; have hcz31_5 : w30.cell? ⟨gb102, 5, none⟩ = some (.int .i64 a0_5) := (blk_cell BK102.out 5).trans rfl; have hcz31_6 : w30.cell? ⟨gb102, 6, none⟩ = some (.int .i64 a0_6) := (blk_cell BK102.out 6).trans rfl; have hcz31_7 : w30.cell? ⟨gb102, 7, none⟩ = some (.int .i64 a0_7) := (blk_cell BK102.out 7).trans rfl; have hfz31_0 := blk_frozen BK102.out 0; have hfz31_1 := blk_frozen BK102.out 1; have hfz31_2 := blk_frozen BK102.out 2; have hfz31_3 := blk_frozen BK102.out 3; have hfz31_4 := blk_frozen BK102.out 4; have hfz31_5 := blk_frozen BK102.out 5; have hfz31_6 := blk_frozen BK102.out 6; have hfz31_7 := blk_frozen BK102.out 7) | ((with_reducible refine gate_callee (f := 9) rfl ?_); refine goesL_ (some 4) rfl rfl Tryd.func9 (by kernel_rfl) rfl #[.agg #[.int .i64 a0_0, .int .i64 a0_1, .int .i64 a0_2, .int .i64 a0_3, .int .i64 a0_4, .int .i64 a0_5, .int .i64 a0_6, .int .i64 a0_7]] rfl (by (try simp only [List.map_toArray, List.map_cons, List.map_nil]); first | done | rfl | (simp only [List.length_drop, List.length_take]; rfl)) ?_; (with_reducible refine (spec_StampRight.calls k a0_0 a0_1 a0_2 a0_3 a0_4 a0_5 a0_6 a0_7 true _ A2.out).mono ?_); rintro e w32 ⟨rfl, hb⟩; refine ⟨_, rfl, ?_⟩; have n0_ := Aside0.mk (blk_below (g := gb102) (o := .cells #[.int .i64 a0_0, .int .i64 a0_1, .int .i64 a0_2, .int .i64 a0_3, .int .i64 a0_4, .int .i64 a0_5, .int .i64 a0_6, .int .i64 a0_7] 23 (0, 0)) (by (with_reducible repeat (first | refine blk_drewN ?_ _ | refine blk_drew ?_ | refine blk_alloc ?_ _)); exact BK102.out) hb); have n1_ := Aside0.mk (below_step (by repeat (first | (with_reducible first | exact HB.out | apply below_alloc | apply pw_below_drewN | apply below_drew1 | refine below_set ?_ GE102.out) | exact HB.out)) hb); clear BK102; clear HB; have BK102 := n0_; have HB := n1_; clear n0_ n1_; (try clear hb); (try clear hb2); (try clear hk); (try clear hi); have hcz33_0 : w32.cell? ⟨gb102, 0, none⟩ = some (.int .i64 a0_0) := (blk_cell BK102.out 0).trans rfl; have hcz33_1 : w32.cell? ⟨gb102, 1, none⟩ = some (.int .i64 a0_1) := (blk_cell BK102.out 1).trans rfl; have hcz33_2 : w32.cell? ⟨gb102, 2, none⟩ = some (.int .i64 a0_2) := (blk_cell BK102.out 2).trans rfl; have hcz33_3 : w32.cell? ⟨gb102, 3, none⟩ = some (.int .i64 a0_3) := (blk_cell BK102.out 3).trans rfl; have hcz33_4 : w32.cell? ⟨gb102, 4, none⟩ = some (.int .i64 a0_4) := (blk_cell BK102.out 4).trans rfl; have hcz33_5 : w32.cell? ⟨gb102, 5, none⟩ = some (.int .i64 a0_5) := (blk_cell BK102.out 5).trans rfl; have hcz33_6 : w32.cell? ⟨gb102, 6, none⟩ = some (.int .i64 a0_6) := (blk_cell BK102.out 6).trans rfl; have hcz33_7 : w32.cell? ⟨gb102, 7, none⟩ = some (.int .i64 a0_7) := (blk_cell BK102.out 7).trans rfl; have hfz33_0 := blk_frozen BK102.out 0; have hfz33_1 := blk_frozen BK102.out 1; have hfz33_2 := blk_frozen BK102.out 2; have hfz33_3 := blk_frozen BK102.out 3; have hfz33_4 := blk_frozen BK102.out 4; have hfz33_5 := blk_frozen BK102.out 5; have hfz33_6 := blk_frozen BK102.out 6; have hfz33_7 := blk_frozen BK102.out 7))
          go_ret
          exact ⟨by first | rfl | (simp [errW_none, errW_some] <;> rfl) | (simp [*, errW_none, errW_some] <;> rfl), by repeat (first | (with_reducible first | exact HB.out | apply below_alloc | apply pw_below_drewN | apply below_drew1 | refine below_set ?_ GE102.out) | exact HB.out)⟩
        · rw [if_neg c29] at H
          have c29b0 : decide (0 ≤ a0_7) = false := decide_eq_false c29
          clear c29
          obtain rfl := Option.some.inj H
          go_enter Tryd.func4, Tryd.ntmps4
          go_wp2_with (first | ((with_reducible refine gate_dst (N := 1) rfl ?_); refine box_event ?hg (N := 1) ?hd (cs := #[.int .i64 a0_0, .int .i64 a0_1, .int .i64 a0_2, .int .i64 a0_3, .int .i64 a0_4, .int .i64 a0_5, .int .i64 a0_6, .int .i64 a0_7]) (t := 23) ?hr ?_; (case hd => rfl); (case hg => rfl); (case hr => first | (go_simp; done) | (go_simp; rfl) | (go_simp; simp [IntKind.wrap_u8]; done)); intro gb102 hg w34 hbox hb; have n0_ := Aside0.mk (below_step (by repeat (first | (with_reducible first | exact HB.out | apply below_alloc | apply pw_below_drewN | apply below_drew1) | exact HB.out)) hb); have n1_ := Aside0.mk (hbox); have n2_ := Aside0.mk ((by rw [hg]; exact (below_size (by repeat (first | (with_reducible first | exact HB.out | apply below_alloc | apply pw_below_drewN | apply below_drew1) | exact HB.out))) : w.heap.size ≤ gb102)); have n3_ := Aside0.mk ((by rw [hg]; exact (below_size (by repeat (first | (with_reducible first | exact HB.out | apply below_alloc | apply pw_below_drewN | apply below_drew1) | exact HB.out))) : w.heap.size ≤ gb102)); clear HB; have HB := n0_; have BK102 := n1_; have GW102 := n2_; have GE102 := n3_; clear n0_ n1_ n2_ n3_; clear hb hbox hg; have hcz35_0 : w34.cell? ⟨gb102, 0, none⟩ = some (.int .i64 a0_0) := (blk_cell BK102.out 0).trans rfl; have hcz35_1 : w34.cell? ⟨gb102, 1, none⟩ = some (.int .i64 a0_1) := (blk_cell BK102.out 1).trans rfl; have hcz35_2 : w34.cell? ⟨gb102, 2, none⟩ = some (.int .i64 a0_2) := (blk_cell BK102.out 2).trans rfl; have hcz35_3 : w34.cell? ⟨gb102, 3, none⟩ = some (.int .i64 a0_3) := (blk_cell BK102.out 3).trans rfl; have hcz35_4 : w34.cell? ⟨gb102, 4, none⟩ = some (.int .i64 a0_4) := (blk_cell BK102.out 4).trans rfl; have hcz35_5 : w34.cell? ⟨gb102, 5, none⟩ = some (.int .i64 a0_5) := (blk_cell BK102.out 5).trans rfl; have hcz35_6 : w34.cell? ⟨gb102, 6, none⟩ = some (.int .i64 a0_6) := (blk_cell BK102.out 6).trans rfl; have hcz35_7 : w34.cell? ⟨gb102, 7, none⟩ = some (.int .i64 a0_7) := (blk_cell BK102.out 7).trans rfl; have hfz35_0 := blk_frozen BK102.out 0; have hfz35_1 := blk_frozen BK102.out 1; have hfz35_2 := blk_frozen BK102.out 2; have hfz35_3 := blk_frozen BK102.out 3; have hfz35_4 := blk_frozen BK102.out 4; have hfz35_5 := blk_frozen BK102.out 5; have hfz35_6 := blk_frozen BK102.out 6; have hfz35_7 := blk_frozen BK102.out 7) | ((with_reducible refine gate_callee (f := 9) rfl ?_); refine goesL_ (some 4) rfl rfl Tryd.func9 (by kernel_rfl) rfl #[.agg #[.int .i64 a0_0, .int .i64 a0_1, .int .i64 a0_2, .int .i64 a0_3, .int .i64 a0_4, .int .i64 a0_5, .int .i64 a0_6, .int .i64 a0_7]] rfl (by (try simp only [List.map_toArray, List.map_cons, List.map_nil]); first | done | rfl | (simp only [List.length_drop, List.length_take]; rfl)) ?_; (with_reducible refine (spec_StampRight.calls k a0_0 a0_1 a0_2 a0_3 a0_4 a0_5 a0_6 a0_7 true _ A2.out).mono ?_); rintro e w36 ⟨rfl, hb⟩; refine ⟨_, rfl, ?_⟩; have n0_ := Aside0.mk (blk_below (g := gb102) (o := .cells #[.int .i64 a0_0, .int .i64 a0_1, .int .i64 a0_2, .int .i64 a0_3, .int .i64 a0_4, .int .i64 a0_5, .int .i64 a0_6, .int .i64 a0_7] 23 (0, 0)) (by (with_reducible repeat (first | refine blk_drewN ?_ _ | refine blk_drew ?_ | refine blk_alloc ?_ _)); exact BK102.out) hb); have n1_ := Aside0.mk (below_step (by repeat (first | (with_reducible first | exact HB.out | apply below_alloc | apply pw_below_drewN | apply below_drew1 | refine below_set ?_ GE102.out) | exact HB.out)) hb); clear BK102; clear HB; have BK102 := n0_; have HB := n1_; clear n0_ n1_; (try clear hb); (try clear hb2); (try clear hk); (try clear hi); have hcz37_0 : w36.cell? ⟨gb102, 0, none⟩ = some (.int .i64 a0_0) := (blk_cell BK102.out 0).trans rfl; have hcz37_1 : w36.cell? ⟨gb102, 1, none⟩ = some (.int .i64 a0_1) := (blk_cell BK102.out 1).trans rfl; have hcz37_2 : w36.cell? ⟨gb102, 2, none⟩ = some (.int .i64 a0_2) := (blk_cell BK102.out 2).trans rfl; have hcz37_3 : w36.cell? ⟨gb102, 3, none⟩ = some (.int .i64 a0_3) := (blk_cell BK102.out 3).trans rfl; have hcz37_4 : w36.cell? ⟨gb102, 4, none⟩ = some (.int .i64 a0_4) := (blk_cell BK102.out 4).trans rfl; have hcz37_5 : w36.cell? ⟨gb102, 5, none⟩ = some (.int .i64 a0_5) := (blk_cell BK102.out 5).trans rfl; have hcz37_6 : w36.cell? ⟨gb102, 6, none⟩ = some (.int .i64 a0_6) := (blk_cell BK102.out 6).trans rfl; have hcz37_7 : w36.cell? ⟨gb102, 7, none⟩ = some (.int .i64 a0_7) := (blk_cell BK102.out 7).trans rfl; have hfz37_0 := blk_frozen BK102.out 0; have hfz37_1 := blk_frozen BK102.out 1; have hfz37_2 := blk_frozen BK102.out 2; have hfz37_3 := blk_frozen BK102.out 3; have hfz37_4 := blk_frozen BK102.out 4; have hfz37_5 := blk_frozen BK102.out 5; have hfz37_6 := blk_frozen BK102.out 6; have hfz37_7 := blk_frozen BK102.out 7))
          go_ret
          exact ⟨by first | rfl | (simp [errW_none, errW_some] <;> rfl) | (simp [*, errW_none, errW_some] <;> rfl), by repeat (first | (with_reducible first | exact HB.out | apply below_alloc | apply pw_below_drewN | apply below_drew1 | refine below_set ?_ GE102.out) | exact HB.out)⟩
  · replace c3 := Bool.eq_false_iff.mpr c3
    subst c3
    have H1 : (some false) = some r := by rw [if_neg (show ¬ (false = true) by decide)] at H; exact H
    clear H
    have H := H1
    clear H1
    obtain rfl := Option.some.inj H
    go_enter Tryd.func4, Tryd.ntmps4
    go_wp2_with (first | ((with_reducible refine gate_dst (N := 1) rfl ?_); refine box_event ?hg (N := 1) ?hd (cs := #[.int .i64 a0_0, .int .i64 a0_1, .int .i64 a0_2, .int .i64 a0_3, .int .i64 a0_4, .int .i64 a0_5, .int .i64 a0_6, .int .i64 a0_7]) (t := 23) ?hr ?_; (case hd => rfl); (case hg => rfl); (case hr => first | (go_simp; done) | (go_simp; rfl) | (go_simp; simp [IntKind.wrap_u8]; done)); intro gb102 hg w38 hbox hb; have n0_ := Aside0.mk (below_step (by repeat (first | (with_reducible first | exact HB.out | apply below_alloc | apply pw_below_drewN | apply below_drew1) | exact HB.out)) hb); have n1_ := Aside0.mk (hbox); have n2_ := Aside0.mk ((by rw [hg]; exact (below_size (by repeat (first | (with_reducible first | exact HB.out | apply below_alloc | apply pw_below_drewN | apply below_drew1) | exact HB.out))) : w.heap.size ≤ gb102)); have n3_ := Aside0.mk ((by rw [hg]; exact (below_size (by repeat (first | (with_reducible first | exact HB.out | apply below_alloc | apply pw_below_drewN | apply below_drew1) | exact HB.out))) : w.heap.size ≤ gb102)); clear HB; have HB := n0_; have BK102 := n1_; have GW102 := n2_; have GE102 := n3_; clear n0_ n1_ n2_ n3_; clear hb hbox hg; have hcz39_0 : w38.cell? ⟨gb102, 0, none⟩ = some (.int .i64 a0_0) := (blk_cell BK102.out 0).trans rfl; have hcz39_1 : w38.cell? ⟨gb102, 1, none⟩ = some (.int .i64 a0_1) := (blk_cell BK102.out 1).trans rfl; have hcz39_2 : w38.cell? ⟨gb102, 2, none⟩ = some (.int .i64 a0_2) := (blk_cell BK102.out 2).trans rfl; have hcz39_3 : w38.cell? ⟨gb102, 3, none⟩ = some (.int .i64 a0_3) := (blk_cell BK102.out 3).trans rfl; have hcz39_4 : w38.cell? ⟨gb102, 4, none⟩ = some (.int .i64 a0_4) := (blk_cell BK102.out 4).trans rfl; have hcz39_5 : w38.cell? ⟨gb102, 5, none⟩ = some (.int .i64 a0_5) := (blk_cell BK102.out 5).trans rfl; have hcz39_6 : w38.cell? ⟨gb102, 6, none⟩ = some (.int .i64 a0_6) := (blk_cell BK102.out 6).trans rfl; have hcz39_7 : w38.cell? ⟨gb102, 7, none⟩ = some (.int .i64 a0_7) := (blk_cell BK102.out 7).trans rfl; have hfz39_0 := blk_frozen BK102.out 0; have hfz39_1 := blk_frozen BK102.out 1; have hfz39_2 := blk_frozen BK102.out 2; have hfz39_3 := blk_frozen BK102.out 3; have hfz39_4 := blk_frozen BK102.out 4; have hfz39_5 := blk_frozen BK102.out 5; have hfz39_6 := blk_frozen BK102.out 6; have hfz39_7 := blk_frozen BK102.out 7) | ((with_reducible refine gate_callee (f := 9) rfl ?_); refine goesL_ (some 4) rfl rfl Tryd.func9 (by kernel_rfl) rfl #[.agg #[.int .i64 a0_0, .int .i64 a0_1, .int .i64 a0_2, .int .i64 a0_3, .int .i64 a0_4, .int .i64 a0_5, .int .i64 a0_6, .int .i64 a0_7]] rfl (by (try simp only [List.map_toArray, List.map_cons, List.map_nil]); first | done | rfl | (simp only [List.length_drop, List.length_take]; rfl)) ?_; (with_reducible refine (spec_StampRight.calls k a0_0 a0_1 a0_2 a0_3 a0_4 a0_5 a0_6 a0_7 false _ A2.out).mono ?_); rintro e w40 ⟨rfl, hb⟩; refine ⟨_, rfl, ?_⟩; have n0_ := Aside0.mk (blk_below (g := gb102) (o := .cells #[.int .i64 a0_0, .int .i64 a0_1, .int .i64 a0_2, .int .i64 a0_3, .int .i64 a0_4, .int .i64 a0_5, .int .i64 a0_6, .int .i64 a0_7] 23 (0, 0)) (by (with_reducible repeat (first | refine blk_drewN ?_ _ | refine blk_drew ?_ | refine blk_alloc ?_ _)); exact BK102.out) hb); have n1_ := Aside0.mk (below_step (by repeat (first | (with_reducible first | exact HB.out | apply below_alloc | apply pw_below_drewN | apply below_drew1 | refine below_set ?_ GE102.out) | exact HB.out)) hb); clear BK102; clear HB; have BK102 := n0_; have HB := n1_; clear n0_ n1_; (try clear hb); (try clear hb2); (try clear hk); (try clear hi)))
    go_ret
    exact ⟨by first | rfl | (simp [errW_none, errW_some] <;> rfl) | (simp [*, errW_none, errW_some] <;> rfl), by repeat (first | (with_reducible first | exact HB.out | apply below_alloc | apply pw_below_drewN | apply below_drew1 | refine below_set ?_ GE102.out) | exact HB.out)⟩

/-! ### spec_padded: function 10 -/
mutual
def spec_padded.l0 : Nat → Int → Int → ByteArray → Option (ByteArray)
  | 0, _, _, _ => none
  | k + 1, x0, x1, x5 => if x0 > 0 then ((some (([(wrap64 (48 + (Int.tmod x0 10))) % 256] : List Int) : List Int)).bind fun y104 => (if (strOfNums y104).size + x5.size ≤ 9223372036854775807 then (spec_padded.l0 k (wrap64 (Int.tdiv x0 10)) x1 ((strOfNums y104) ++ x5)) else (none))) else (if x5.toList = ([] : List UInt8) then ((some (([(wrap64 (48 + (Int.tmod x0 10))) % 256] : List Int) : List Int)).bind fun y107 => (if (strOfNums y107).size + x5.size ≤ 9223372036854775807 then (spec_padded.l0 k (wrap64 (Int.tdiv x0 10)) x1 ((strOfNums y107) ++ x5)) else (none))) else (spec_padded.l1 k x1 x5))
def spec_padded.l1 : Nat → Int → ByteArray → Option (ByteArray)
  | 0, _, _ => none
  | k + 1, x1, x5 => if (x5.size : Int) < x1 then (if 1 + x5.size ≤ 9223372036854775807 then (spec_padded.l1 k x1 ((⟨#[48]⟩ : ByteArray) ++ x5)) else (none)) else (some x5)
end
def spec_padded.f (k : Nat) (a0 : Int) (a1 : Int) : Option (ByteArray) := spec_padded.l0 k a0 a1 (⟨#[]⟩ : ByteArray)
theorem spec_padded.mono_l : ∀ k, (∀ y0 y1 y2, LeO (spec_padded.l0 k y0 y1 y2) (spec_padded.l0 (k + 1) y0 y1 y2)) ∧ (∀ y0 y1, LeO (spec_padded.l1 k y0 y1) (spec_padded.l1 (k + 1) y0 y1))
  | 0 => ⟨fun _ _ _ r h => by simp [spec_padded.l0] at h, fun _ _ r h => by simp [spec_padded.l1] at h⟩
  | k + 1 => by
    obtain ⟨ih0, ih1⟩ := spec_padded.mono_l k
    refine ⟨?_, ?_⟩
    · intro y0 y1 y2
      unfold spec_padded.l0
      repeat' first
      | (with_reducible exact ih0 _ _ _)
      | (with_reducible exact ih1 _ _)
      | (with_reducible exact LeO.refl _)
      | (with_reducible exact LeO.none _)
      | (with_reducible refine LeO.ite ?_ ?_)
      | (with_reducible refine LeO.bind ?_ (fun _ => ?_))
      | exact ih0 _ _ _
      | exact ih1 _ _
      | exact LeO.none _
      | refine LeO.ite ?_ ?_
      | refine LeO.bind ?_ (fun _ => ?_)
    · intro y0 y1
      unfold spec_padded.l1
      repeat' first
      | (with_reducible exact ih0 _ _ _)
      | (with_reducible exact ih1 _ _)
      | (with_reducible exact LeO.refl _)
      | (with_reducible exact LeO.none _)
      | (with_reducible refine LeO.ite ?_ ?_)
      | (with_reducible refine LeO.bind ?_ (fun _ => ?_))
      | exact ih0 _ _ _
      | exact ih1 _ _
      | exact LeO.none _
      | refine LeO.ite ?_ ?_
      | refine LeO.bind ?_ (fun _ => ?_)
theorem spec_padded.mono : ∀ a0 a1 k, LeO (spec_padded.f k a0 a1) (spec_padded.f (k + 1) a0 a1) := by
  intro a0 a1 k
  obtain ⟨ih0, ih1⟩ := spec_padded.mono_l k
  unfold spec_padded.f
  repeat' first
      | (with_reducible exact ih0 _ _ _)
      | (with_reducible exact ih1 _ _)
      | (with_reducible exact LeO.refl _)
      | (with_reducible exact LeO.none _)
      | (with_reducible refine LeO.ite ?_ ?_)
      | (with_reducible refine LeO.bind ?_ (fun _ => ?_))
      | exact ih0 _ _ _
      | exact ih1 _ _
      | exact LeO.none _
      | refine LeO.ite ?_ ?_
      | refine LeO.bind ?_ (fun _ => ?_)
set_option maxHeartbeats 8000000 in
set_option maxRecDepth 100000 in
theorem spec_padded.calls (k : Nat) (a0 : Int) (a1 : Int) (r : ByteArray) (w : World) (h : spec_padded.f k a0 a1 = some r) :
    Calls Tryd.prog 10 #[.int .i64 a0, .int .i64 a1] w fun e w' => e = .returned (.string r) ∧ Below w.heap.size w w' := by
  have HB := Aside0.mk (Below.refl w.heap.size w)
  have H : (spec_padded.l0 k a0 a1 (⟨#[]⟩ : ByteArray)) = some r := h
  clear h
  have H' := Aside0.mk H
  clear H
  go_enter Tryd.func10, Tryd.ntmps10
  go_wp2
  go_loopg [0, 5] k (fun kq v0 v5 w' => ∃ (x0_1 : Int) (x5_1 : ByteArray), v0 = .int .i64 x0_1 ∧ v5 = .string x5_1 ∧ Aside0 (spec_padded.l0 kq x0_1 a1 x5_1 = some r) ∧ Aside0 (kq ≤ k) ∧ Aside0 (Below w.heap.size w w'))
  case atStart => exact ⟨(a0), ((⟨#[]⟩ : ByteArray)), (by first | rfl | (simp; done) | (simp [*]; done)), (by first | rfl | (simp; done) | (simp [*]; done)), H', ⟨Nat.le_refl _⟩, ⟨by repeat (first | (with_reducible first | exact HB.out | apply below_alloc | apply pw_below_drewN | apply below_drew1) | exact HB.out)⟩⟩
  case round =>
    clear H'
    try clear c1
    try clear p2
    obtain ⟨x0_1, x5_1, rfl, rfl, HA, HK1, HB⟩ := hrel
    cases gk with
    | zero => exact absurd HA.out (by simp [spec_padded.l0])
    | succ k1 =>
      have H := HA.out
      clear HA
      simp only [spec_padded.l0] at H
      by_cases c3 : x0_1 > 0
      · rw [if_pos c3] at H
        have c3b0 : decide (0 < x0_1) = true := decide_eq_true c3
        clear c3
        obtain ⟨y104, hy104⟩ : ∃ y_ : List Int, y_ = (([(wrap64 (48 + (Int.tmod x0_1 10))) % 256] : List Int)) := ⟨_, rfl⟩
        replace H : (if (strOfNums y104).size + x5_1.size ≤ 9223372036854775807 then (spec_padded.l0 k1 (wrap64 (Int.tdiv x0_1 10)) a1 ((strOfNums y104) ++ x5_1)) else (none)) = some r := by first | (rw [hy104]; with_reducible exact H) | (have H2_ := (Option.bind_some _ _).symm.trans H; rw [hy104]; with_reducible exact H2_) | (have H2_ := (Option.bind_some _ _).symm.trans H; with_reducible exact H2_) | with_reducible exact H | (rw [hy104]; exact H) | exact H
        have Ny104 := Aside0.mk hy104
        clear hy104
        by_cases c4 : (strOfNums y104).size + x5_1.size ≤ 9223372036854775807
        · rw [if_pos c4] at H
          have c4b0 := eq_true c4
          have c4b1 : decide ((strOfNums y104).size + x5_1.size ≤ 9223372036854775807) = true := decide_eq_true c4
          try have c4b2 : (9223372036854775807 < (strOfNums y104).size + x5_1.size) = False := eq_false (Nat.not_lt.2 c4)
          have H' := Aside0.mk H
          clear H
          go_wp2_with (first | ((with_reducible refine gate_dst (N := 16) rfl ?_); refine Kd.R_lit (Kd.int .u8) _ 5 ?hg (N := 16) ?hd (xs := ([(wrap64 (48 + (Int.tmod x0_1 10))) % 256] : List Int)) (inner := [.int .u8 ((wrap64 (48 + (Int.tmod x0_1 10))) % 256)]) (ok := fun _ => True) (okp := fun _ => True) ?hr ?hp (fun _ hk => hk) trivial (Below.refl _ _) (Nat.le_refl _) (by simp) ?_; (case hd => rfl); (case hg => rfl); (case hr => first | (go_simp; done) | (go_simp; rfl) | (go_simp; simp [IntKind.wrap_u8]; done)); (case hp => exact (Reps.one (show Kd.M (Kd.int .u8) _ _ _ ((wrap64 (48 + (Int.tmod x0_1 10))) % 256) [.int .u8 ((wrap64 (48 + (Int.tmod x0_1 10))) % 256)] from rfl) (Reps.none _ _))); intro v105 w5 ho6 hb hg_ hnew_; clear hg_ hnew_; (first | rw [← Ny104.out] at ho6 | (simp only [Int.reduceToNat] at ho6; rw [← Ny104.out] at ho6)); have n0_ := Aside0.mk (Kd.R_lower ho6 (below_size (by repeat (first | (with_reducible first | exact HB.out | apply below_alloc | apply pw_below_drewN | apply below_drew1) | exact HB.out)))); have n1_ := Aside0.mk (below_step (by repeat (first | (with_reducible first | exact HB.out | apply below_alloc | apply pw_below_drewN | apply below_drew1) | exact HB.out)) hb); clear HB; have HO106 := n0_; have HB := n1_; clear n0_ n1_; clear hb ho6; have hcv7 := own_string (P := Tryd.prog) Tryd.underlying34 Tryd.underlying5 Tryd.underlying9 (Kd.own_of_R HO106.out)))
          go_roundg k1
          case measure => have := HK1.out; omega
          case rel => exact ⟨(wrap64 (Int.tdiv x0_1 10)), ((strOfNums y104) ++ x5_1), (by first | rfl | (simp; done) | (simp [*]; done)), (by first | rfl | (simp; done) | (simp [*]; done)), H', ⟨by have := HK1.out; omega⟩, ⟨by repeat (first | (with_reducible first | exact HB.out | apply below_alloc | apply pw_below_drewN | apply below_drew1) | exact HB.out)⟩⟩
        · rw [if_neg c4] at H
          exact absurd H (by simp)
      · rw [if_neg c3] at H
        have c3b0 : decide (0 < x0_1) = false := decide_eq_false c3
        clear c3
        by_cases c8 : x5_1.toList = ([] : List UInt8)
        · rw [if_pos c8] at H
          have c8b0 : (x5_1.toList == ([] : List UInt8)) = true := beq_iff_eq.mpr c8
          have c8b1 : (x5_1.toList != ([] : List UInt8)) = false := bne_eq_false_iff_eq.mpr c8
          clear c8
          obtain ⟨y107, hy107⟩ : ∃ y_ : List Int, y_ = (([(wrap64 (48 + (Int.tmod x0_1 10))) % 256] : List Int)) := ⟨_, rfl⟩
          replace H : (if (strOfNums y107).size + x5_1.size ≤ 9223372036854775807 then (spec_padded.l0 k1 (wrap64 (Int.tdiv x0_1 10)) a1 ((strOfNums y107) ++ x5_1)) else (none)) = some r := by first | (rw [hy107]; with_reducible exact H) | (have H2_ := (Option.bind_some _ _).symm.trans H; rw [hy107]; with_reducible exact H2_) | (have H2_ := (Option.bind_some _ _).symm.trans H; with_reducible exact H2_) | with_reducible exact H | (rw [hy107]; exact H) | exact H
          have Ny107 := Aside0.mk hy107
          clear hy107
          by_cases c9 : (strOfNums y107).size + x5_1.size ≤ 9223372036854775807
          · rw [if_pos c9] at H
            have c9b0 := eq_true c9
            have c9b1 : decide ((strOfNums y107).size + x5_1.size ≤ 9223372036854775807) = true := decide_eq_true c9
            try have c9b2 : (9223372036854775807 < (strOfNums y107).size + x5_1.size) = False := eq_false (Nat.not_lt.2 c9)
            have H' := Aside0.mk H
            clear H
            go_wp2_with (first | ((with_reducible refine gate_dst (N := 16) rfl ?_); refine Kd.R_lit (Kd.int .u8) _ 5 ?hg (N := 16) ?hd (xs := ([(wrap64 (48 + (Int.tmod x0_1 10))) % 256] : List Int)) (inner := [.int .u8 ((wrap64 (48 + (Int.tmod x0_1 10))) % 256)]) (ok := fun _ => True) (okp := fun _ => True) ?hr ?hp (fun _ hk => hk) trivial (Below.refl _ _) (Nat.le_refl _) (by simp) ?_; (case hd => rfl); (case hg => rfl); (case hr => first | (go_simp; done) | (go_simp; rfl) | (go_simp; simp [IntKind.wrap_u8]; done)); (case hp => exact (Reps.one (show Kd.M (Kd.int .u8) _ _ _ ((wrap64 (48 + (Int.tmod x0_1 10))) % 256) [.int .u8 ((wrap64 (48 + (Int.tmod x0_1 10))) % 256)] from rfl) (Reps.none _ _))); intro v108 w10 ho11 hb hg_ hnew_; clear hg_ hnew_; (first | rw [← Ny107.out] at ho11 | (simp only [Int.reduceToNat] at ho11; rw [← Ny107.out] at ho11)); have n0_ := Aside0.mk (Kd.R_lower ho11 (below_size (by repeat (first | (with_reducible first | exact HB.out | apply below_alloc | apply pw_below_drewN | apply below_drew1) | exact HB.out)))); have n1_ := Aside0.mk (below_step (by repeat (first | (with_reducible first | exact HB.out | apply below_alloc | apply pw_below_drewN | apply below_drew1) | exact HB.out)) hb); clear HB; have HO109 := n0_; have HB := n1_; clear n0_ n1_; clear hb ho11; have hcv12 := own_string (P := Tryd.prog) Tryd.underlying34 Tryd.underlying5 Tryd.underlying9 (Kd.own_of_R HO109.out)))
            go_roundg k1
            case measure => have := HK1.out; omega
            case rel => exact ⟨(wrap64 (Int.tdiv x0_1 10)), ((strOfNums y107) ++ x5_1), (by first | rfl | (simp; done) | (simp [*]; done)), (by first | rfl | (simp; done) | (simp [*]; done)), H', ⟨by have := HK1.out; omega⟩, ⟨by repeat (first | (with_reducible first | exact HB.out | apply below_alloc | apply pw_below_drewN | apply below_drew1) | exact HB.out)⟩⟩
          · rw [if_neg c9] at H
            exact absurd H (by simp)
        · rw [if_neg c8] at H
          have c8b0 : (x5_1.toList == ([] : List UInt8)) = false := beq_eq_false_iff_ne.mpr c8
          have c8b1 : (x5_1.toList != ([] : List UInt8)) = true := bne_iff_ne.mpr c8
          have H' := Aside0.mk H
          clear H
          go_wp2
          go_loopg [5] k1 (fun kq v5 w' => ∃ (x5_2 : ByteArray), v5 = .string x5_2 ∧ Aside0 (spec_padded.l1 kq a1 x5_2 = some r) ∧ Aside0 (kq ≤ k1) ∧ Aside0 (Below w.heap.size w w'))
          case atStart => exact ⟨(x5_1), (by first | rfl | (simp; done) | (simp [*]; done)), H', ⟨Nat.le_refl _⟩, ⟨by repeat (first | (with_reducible first | exact HB.out | apply below_alloc | apply pw_below_drewN | apply below_drew1) | exact HB.out)⟩⟩
          case round =>
            clear H'
            try clear c1
            try clear hcv1
            try clear p2
            try clear c3
            try clear c3b0
            try clear c4
            try clear c4b0
            try clear c4b1
            try clear c4b2
            try clear p6
            try clear hcv7
            try clear c8
            try clear c8b0
            try clear c8b1
            try clear c9
            try clear c9b0
            try clear c9b1
            try clear c9b2
            try clear c10
            try clear hcv12
            try clear p2
            obtain ⟨x5_2, rfl, HA, HK2, HB⟩ := hrel
            cases gk with
            | zero => exact absurd HA.out (by simp [spec_padded.l1])
            | succ k2 =>
              have H := HA.out
              clear HA
              simp only [spec_padded.l1] at H
              by_cases c13 : (x5_2.size : Int) < a1
              · rw [if_pos c13] at H
                have c13b0 : decide ((x5_2.size : Int) < a1) = true := decide_eq_true c13
                clear c13
                by_cases c14 : 1 + x5_2.size ≤ 9223372036854775807
                · rw [if_pos c14] at H
                  have c14b0 := eq_true c14
                  have c14b1 : decide (1 + x5_2.size ≤ 9223372036854775807) = true := decide_eq_true c14
                  try have c14b2 : (9223372036854775807 < 1 + x5_2.size) = False := eq_false (Nat.not_lt.2 c14)
                  have H' := Aside0.mk H
                  clear H
                  go_wp2
                  go_roundg k2
                  case measure => have := HK1.out; have := HK2.out; omega
                  case rel => exact ⟨((⟨#[48]⟩ : ByteArray) ++ x5_2), (by first | rfl | (simp; done) | (simp [*]; done)), H', ⟨by have := HK1.out; have := HK2.out; omega⟩, ⟨by repeat (first | (with_reducible first | exact HB.out | apply below_alloc | apply pw_below_drewN | apply below_drew1) | exact HB.out)⟩⟩
                · rw [if_neg c14] at H
                  exact absurd H (by simp)
              · rw [if_neg c13] at H
                have c13b0 : decide ((x5_2.size : Int) < a1) = false := decide_eq_false c13
                clear c13
                obtain rfl := Option.some.inj H
                go_wp2
                go_ret
                exact ⟨by first | rfl | (simp [errW_none, errW_some] <;> rfl) | (simp [*, errW_none, errW_some] <;> rfl), by repeat (first | (with_reducible first | exact HB.out | apply below_alloc | apply pw_below_drewN | apply below_drew1) | exact HB.out)⟩

end Go.Proofs.YtlhjblbmhlelbabDoor.P
