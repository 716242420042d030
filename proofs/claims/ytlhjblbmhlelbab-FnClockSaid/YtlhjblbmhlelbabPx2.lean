-- Written by the program wip/myprint.py of this session, over the kit's print of the translation. Lean checks it.
import Derived.Test.YtlhjblbmhlelbabPx0
namespace Go.Proofs.Ytlhjblbmhlelbab.P
open Go.RowKit Go.Proofs.YtlhjblbmhlelbabW.PrintWords Go.Proofs.YtlhjblbmhlelbabW.PrintLast Go.Proofs.YtlhjblbmhlelbabW.PrintMore
attribute [local go_sem] max2_int min2_int max_two min_two max_three min_three max_four min_four   -- for this text's walks alone
set_option linter.unusedVariables false
set_option linter.unusedSimpArgs false

/-! ### spec_Leap: function 31 -/
def spec_Leap.f (a0 : Int) : Option (Bool) := if (Int.tmod a0 4) = 0 then (if (Int.tmod a0 100) = 0 then (some ((Int.tmod a0 400) == 0)) else (some true)) else (some false)
set_option maxHeartbeats 8000000 in
set_option maxRecDepth 100000 in
theorem spec_Leap.calls (a0 : Int) (r : Bool) (w : World) (h : spec_Leap.f a0 = some r) :
    Calls Try.prog 31 #[.int .i64 a0] w fun e w' => e = .returned (.bool r) ∧ Drawn0 w w' := by
  have H : (if (Int.tmod a0 4) = 0 then (if (Int.tmod a0 100) = 0 then (some ((Int.tmod a0 400) == 0)) else (some true)) else (some false)) = some r := h
  clear h
  by_cases c2 : (Int.tmod a0 4) = 0
  · rw [if_pos c2] at H
    have c2b0 : ((Int.tmod a0 4) == 0) = true := beq_iff_eq.mpr c2
    have c2b1 : ((Int.tmod a0 4) != 0) = false := bne_eq_false_iff_eq.mpr c2
    clear c2
    by_cases c3 : (Int.tmod a0 100) = 0
    · rw [if_pos c3] at H
      have c3b0 : ((Int.tmod a0 100) == 0) = true := beq_iff_eq.mpr c3
      have c3b1 : ((Int.tmod a0 100) != 0) = false := bne_eq_false_iff_eq.mpr c3
      clear c3
      obtain rfl := Option.some.inj H
      go_enter Try.func31, Try.ntmps31
      go_wp2
      go_ret
      exact ⟨by first | rfl | (simp; done) | (simp [*]; done), by repeat (first | exact Drawn0.refl _ | apply Drawn0.step)⟩
    · rw [if_neg c3] at H
      have c3b0 : ((Int.tmod a0 100) == 0) = false := beq_eq_false_iff_ne.mpr c3
      have c3b1 : ((Int.tmod a0 100) != 0) = true := bne_iff_ne.mpr c3
      obtain rfl := Option.some.inj H
      go_enter Try.func31, Try.ntmps31
      go_wp2
      go_ret
      exact ⟨by first | rfl | (simp; done) | (simp [*]; done), by repeat (first | exact Drawn0.refl _ | apply Drawn0.step)⟩
  · rw [if_neg c2] at H
    have c2b0 : ((Int.tmod a0 4) == 0) = false := beq_eq_false_iff_ne.mpr c2
    have c2b1 : ((Int.tmod a0 4) != 0) = true := bne_iff_ne.mpr c2
    obtain rfl := Option.some.inj H
    go_enter Try.func31, Try.ntmps31
    go_wp2
    go_ret
    exact ⟨by first | rfl | (simp; done) | (simp [*]; done), by repeat (first | exact Drawn0.refl _ | apply Drawn0.step)⟩

/-! ### spec_DaysIn: function 24 -/
def spec_DaysIn.j0 : Nat → Int → Int → Bool → Option (Int)
  | 0, _, _, _ => none
  | k + 1, x0, x5, x6 => if x6 = true then (some 30) else (if x5 = 2 then ((spec_Leap.f x0).bind fun t101 => (if t101 = true then (some 29) else (some 28))) else (some 31))
def spec_DaysIn.f (k : Nat) (a0 : Int) (a1 : Int) : Option (Int) := if a1 = 4 then (spec_DaysIn.j0 k a0 a1 (a1 == 4)) else (if a1 = 6 then (spec_DaysIn.j0 k a0 a1 (a1 == 6)) else (if a1 = 9 then (spec_DaysIn.j0 k a0 a1 (a1 == 9)) else (spec_DaysIn.j0 k a0 a1 (a1 == 11))))
theorem spec_DaysIn.mono_l : ∀ k, (∀ y0 y1 y2, LeO (spec_DaysIn.j0 k y0 y1 y2) (spec_DaysIn.j0 (k + 1) y0 y1 y2))
  | 0 => fun _ _ _ r h => by simp [spec_DaysIn.j0] at h
  | k + 1 => by
    have ih0 := spec_DaysIn.mono_l k
    · intro y0 y1 y2
      unfold spec_DaysIn.j0
      repeat' first
      | (with_reducible exact ih0 _ _ _)
      | (with_reducible exact LeO.refl _)
      | (with_reducible exact LeO.none _)
      | (with_reducible refine LeO.ite ?_ ?_)
      | (with_reducible refine LeO.bind ?_ (fun _ => ?_))
      | exact ih0 _ _ _
      | exact LeO.none _
      | refine LeO.ite ?_ ?_
      | refine LeO.bind ?_ (fun _ => ?_)
theorem spec_DaysIn.mono : ∀ a0 a1 k, LeO (spec_DaysIn.f k a0 a1) (spec_DaysIn.f (k + 1) a0 a1) := by
  intro a0 a1 k
  have ih0 := spec_DaysIn.mono_l k
  unfold spec_DaysIn.f
  repeat' first
      | (with_reducible exact ih0 _ _ _)
      | (with_reducible exact LeO.refl _)
      | (with_reducible exact LeO.none _)
      | (with_reducible refine LeO.ite ?_ ?_)
      | (with_reducible refine LeO.bind ?_ (fun _ => ?_))
      | exact ih0 _ _ _
      | exact LeO.none _
      | refine LeO.ite ?_ ?_
      | refine LeO.bind ?_ (fun _ => ?_)
set_option maxHeartbeats 8000000 in
set_option maxRecDepth 100000 in
theorem spec_DaysIn.calls (k : Nat) (a0 : Int) (a1 : Int) (r : Int) (w : World) (h : spec_DaysIn.f k a0 a1 = some r) :
    Calls Try.prog 24 #[.int .i64 a0, .int .i64 a1] w fun e w' => e = .returned (.int .i64 r) ∧ Drawn0 w w' := by
  have H : (if a1 = 4 then (spec_DaysIn.j0 k a0 a1 (a1 == 4)) else (if a1 = 6 then (spec_DaysIn.j0 k a0 a1 (a1 == 6)) else (if a1 = 9 then (spec_DaysIn.j0 k a0 a1 (a1 == 9)) else (spec_DaysIn.j0 k a0 a1 (a1 == 11))))) = some r := h
  clear h
  have HC3 := Aside0.mk H
  clear H
  go_enter Try.func24, Try.ntmps24
  go_upto_if 6 with (fail)
  go_cut [6] (fun v6 wc => ∃ (kq : Nat) (x6_2 : Bool), v6 = .bool x6_2 ∧ Aside0 (spec_DaysIn.j0 kq a0 a1 x6_2 = some r) ∧ Aside0 (kq ≤ k) ∧ Drawn0 w wc)
  case first =>
    have H := HC3.out
    clear HC3
    by_cases c4 : a1 = 4
    · rw [if_pos c4] at H
      have c4b0 : (a1 == 4) = true := beq_iff_eq.mpr c4
      have c4b1 : (a1 != 4) = false := bne_eq_false_iff_eq.mpr c4
      clear c4
      (first | rw [c4b0] | (simp only [i64_w, i32_w]; rw [c4b0]) | skip)
      have H' := Aside0.mk H
      clear H
      go_wp2
      go_meet
      case rel => exact ⟨_, ((a1 == 4)), (by first | rfl | (simp; done) | (simp [*]; done)), H', ⟨by first | omega | exact Nat.le_refl _⟩, by repeat (first | exact Drawn0.refl _ | apply Drawn0.step)⟩
    · rw [if_neg c4] at H
      have c4b0 : (a1 == 4) = false := beq_eq_false_iff_ne.mpr c4
      have c4b1 : (a1 != 4) = true := bne_iff_ne.mpr c4
      (first | rw [c4b0] | (simp only [i64_w, i32_w]; rw [c4b0]) | skip)
      by_cases c5 : a1 = 6
      · rw [if_pos c5] at H
        have c5b0 : (a1 == 6) = true := beq_iff_eq.mpr c5
        have c5b1 : (a1 != 6) = false := bne_eq_false_iff_eq.mpr c5
        clear c5
        have H' := Aside0.mk H
        clear H
        go_wp2
        go_meet
        case rel => exact ⟨_, ((a1 == 6)), (by first | rfl | (simp; done) | (simp [*]; done)), H', ⟨by first | omega | exact Nat.le_refl _⟩, by repeat (first | exact Drawn0.refl _ | apply Drawn0.step)⟩
      · rw [if_neg c5] at H
        have c5b0 : (a1 == 6) = false := beq_eq_false_iff_ne.mpr c5
        have c5b1 : (a1 != 6) = true := bne_iff_ne.mpr c5
        by_cases c6 : a1 = 9
        · rw [if_pos c6] at H
          have c6b0 : (a1 == 9) = true := beq_iff_eq.mpr c6
          have c6b1 : (a1 != 9) = false := bne_eq_false_iff_eq.mpr c6
          clear c6
          have H' := Aside0.mk H
          clear H
          go_wp2
          go_meet
          case rel => exact ⟨_, ((a1 == 9)), (by first | rfl | (simp; done) | (simp [*]; done)), H', ⟨by first | omega | exact Nat.le_refl _⟩, by repeat (first | exact Drawn0.refl _ | apply Drawn0.step)⟩
        · rw [if_neg c6] at H
          have c6b0 : (a1 == 9) = false := beq_eq_false_iff_ne.mpr c6
          have c6b1 : (a1 != 9) = true := bne_iff_ne.mpr c6
          have H' := Aside0.mk H
          clear H
          go_wp2
          go_meet
          case rel => exact ⟨_, ((a1 == 11)), (by first | rfl | (simp; done) | (simp [*]; done)), H', ⟨by first | omega | exact Nat.le_refl _⟩, by repeat (first | exact Drawn0.refl _ | apply Drawn0.step)⟩
  case rest =>
    clear HC3
    try clear c2
    try clear p2
    try clear c4
    try clear c4b0
    try clear c4b1
    try clear c5
    try clear c5b0
    try clear c5b1
    try clear c6
    try clear c6b0
    try clear c6b1
    obtain ⟨kq, x6_2, rfl, HA, HJ2, ⟨mc2, rfl⟩⟩ := hcut
    cases kq with
    | zero => exact absurd HA.out (by simp [spec_DaysIn.j0])
    | succ kj2 =>
      have H := HA.out
      clear HA
      simp only [spec_DaysIn.j0] at H
      by_cases c7 : x6_2 = true
      · subst c7
        have H1 : (some 30) = some r := by rw [if_pos rfl] at H; exact H
        clear H
        have H := H1
        clear H1
        obtain rfl := Option.some.inj H
        go_wp2
        go_ret
        exact ⟨by first | rfl | (simp; done) | (simp [*]; done), by repeat (first | exact Drawn0.refl _ | apply Drawn0.step)⟩
      · replace c7 := Bool.eq_false_iff.mpr c7
        subst c7
        have H1 : (if a1 = 2 then ((spec_Leap.f a0).bind fun t101 => (if t101 = true then (some 29) else (some 28))) else (some 31)) = some r := by rw [if_neg (show ¬ (false = true) by decide)] at H; exact H
        clear H
        have H := H1
        clear H1
        by_cases c8 : a1 = 2
        · rw [if_pos c8] at H
          have c8b0 : (a1 == 2) = true := beq_iff_eq.mpr c8
          have c8b1 : (a1 != 2) = false := bne_eq_false_iff_eq.mpr c8
          clear c8
          replace H := Option.bind_eq_some_iff.mp H
          obtain ⟨t101, A90, H⟩ := H
          replace H : (if t101 = true then (some 29) else (some 28)) = some r := H
          have A9 := Aside0.mk A90
          clear A90
          by_cases c10 : t101 = true
          · subst c10
            have H1 : (some 29) = some r := by rw [if_pos rfl] at H; exact H
            clear H
            have H := H1
            clear H1
            obtain rfl := Option.some.inj H
            go_wp2_with (first | ((with_reducible refine gate_callee (f := 31) rfl ?_); refine goesL_ (some 14) rfl rfl Try.func31 (by kernel_rfl) rfl #[.int .i64 a0] rfl (by (try simp only [List.map_toArray, List.map_cons, List.map_nil]); first | done | rfl | (simp only [List.length_drop, List.length_take]; rfl)) ?_; (with_reducible refine (spec_Leap.calls a0 true _ A9.out).mono ?_); rintro e w' ⟨rfl, ⟨nd, rfl⟩⟩; refine ⟨_, rfl, ?_⟩))
            go_ret
            exact ⟨by first | rfl | (simp; done) | (simp [*]; done), by repeat (first | exact Drawn0.refl _ | apply Drawn0.step)⟩
          · replace c10 := Bool.eq_false_iff.mpr c10
            subst c10
            have H1 : (some 28) = some r := by rw [if_neg (show ¬ (false = true) by decide)] at H; exact H
            clear H
            have H := H1
            clear H1
            obtain rfl := Option.some.inj H
            go_wp2_with (first | ((with_reducible refine gate_callee (f := 31) rfl ?_); refine goesL_ (some 14) rfl rfl Try.func31 (by kernel_rfl) rfl #[.int .i64 a0] rfl (by (try simp only [List.map_toArray, List.map_cons, List.map_nil]); first | done | rfl | (simp only [List.length_drop, List.length_take]; rfl)) ?_; (with_reducible refine (spec_Leap.calls a0 false _ A9.out).mono ?_); rintro e w' ⟨rfl, ⟨nd, rfl⟩⟩; refine ⟨_, rfl, ?_⟩))
            go_ret
            exact ⟨by first | rfl | (simp; done) | (simp [*]; done), by repeat (first | exact Drawn0.refl _ | apply Drawn0.step)⟩
        · rw [if_neg c8] at H
          have c8b0 : (a1 == 2) = false := beq_eq_false_iff_ne.mpr c8
          have c8b1 : (a1 != 2) = true := bne_iff_ne.mpr c8
          obtain rfl := Option.some.inj H
          go_wp2
          go_ret
          exact ⟨by first | rfl | (simp; done) | (simp [*]; done), by repeat (first | exact Drawn0.refl _ | apply Drawn0.step)⟩

/-! ### spec_StampRight: function 12 -/
def stampOk (a3 a4 a5 a6 a7 : Int) : Prop := 0 ≤ a3 ∧ a3 < 24 ∧ 0 ≤ a4 ∧ a4 < 60 ∧ 0 ≤ a5 ∧ a5 < 60 ∧ 0 ≤ a6 ∧ a6 < 1000000000 ∧ -57599 ≤ a7 ∧ a7 ≤ 57599
instance (a3 a4 a5 a6 a7 : Int) : Decidable (stampOk a3 a4 a5 a6 a7) := by unfold stampOk; infer_instance
def spec_StampRight.f (a0 a1 a2 a3 a4 a5 a6 a7 : Int) : Option Bool := if a0 = 0 ∧ a1 = 1 ∧ a2 = 1 then some (decide (stampOk a3 a4 a5 a6 a7)) else none
theorem days_01 : spec_DaysIn.f 5 0 1 = some 31 := by kernel_rfl
set_option maxHeartbeats 4000000 in
set_option maxRecDepth 100000 in
theorem spec_StampRight.calls (a0 a1 a2 a3 a4 a5 a6 a7 : Int) (r : Bool) (w : World) (h : spec_StampRight.f a0 a1 a2 a3 a4 a5 a6 a7 = some r) :
    Calls Try.prog 12 #[.agg #[.int .i64 a0, .int .i64 a1, .int .i64 a2, .int .i64 a3, .int .i64 a4, .int .i64 a5, .int .i64 a6, .int .i64 a7]] w fun e w' => e = .returned (.bool r) ∧ Below w.heap.size w w' := by
  unfold spec_StampRight.f at h
  split at h
  case isFalse => cases h
  rename_i hh
  obtain ⟨rfl, rfl, rfl⟩ := hh
  injection h with h
  have HD := Aside0.mk (fun W => spec_DaysIn.calls 5 0 1 31 W days_01)
  by_cases h0 : 0 ≤ a3
  case neg =>
    have hn : decide (stampOk a3 a4 a5 a6 a7) = false := decide_eq_false (fun h => h0 h.1)
    rw [hn] at h
    subst h
    clear hn
    have d0 : decide (0 ≤ a3) = false := decide_eq_false h0
    clear h0
    go_enter Try.func12, Try.ntmps12
    go_wp2_with fail
    go_quiet ((go_at_call 24; exact Calls.quiet_of ((HD.out _).mono (fun e w2 h => ⟨h.1, h.2.out⟩))))
    go_wp2_with fail
    go_ret
    exact ⟨rfl, by repeat (first | exact Below.refl _ _ | apply pw_below_drewN | apply below_alloc)⟩
  by_cases h1 : a3 < 24
  case neg =>
    have hn : decide (stampOk a3 a4 a5 a6 a7) = false := decide_eq_false (fun h => h1 h.2.1)
    rw [hn] at h
    subst h
    clear hn
    have d0 : decide (0 ≤ a3) = true := decide_eq_true h0
    have d1 : decide (a3 < 24) = false := decide_eq_false h1
    clear h0 h1
    go_enter Try.func12, Try.ntmps12
    go_wp2_with fail
    go_quiet ((go_at_call 24; exact Calls.quiet_of ((HD.out _).mono (fun e w2 h => ⟨h.1, h.2.out⟩))))
    go_wp2_with fail
    go_ret
    exact ⟨rfl, by repeat (first | exact Below.refl _ _ | apply pw_below_drewN | apply below_alloc)⟩
  by_cases h2 : 0 ≤ a4
  case neg =>
    have hn : decide (stampOk a3 a4 a5 a6 a7) = false := decide_eq_false (fun h => h2 h.2.2.1)
    rw [hn] at h
    subst h
    clear hn
    have d0 : decide (0 ≤ a3) = true := decide_eq_true h0
    have d1 : decide (a3 < 24) = true := decide_eq_true h1
    have d2 : decide (0 ≤ a4) = false := decide_eq_false h2
    clear h0 h1 h2
    go_enter Try.func12, Try.ntmps12
    go_wp2_with fail
    go_quiet ((go_at_call 24; exact Calls.quiet_of ((HD.out _).mono (fun e w2 h => ⟨h.1, h.2.out⟩))))
    go_wp2_with fail
    go_ret
    exact ⟨rfl, by repeat (first | exact Below.refl _ _ | apply pw_below_drewN | apply below_alloc)⟩
  by_cases h3 : a4 < 60
  case neg =>
    have hn : decide (stampOk a3 a4 a5 a6 a7) = false := decide_eq_false (fun h => h3 h.2.2.2.1)
    rw [hn] at h
    subst h
    clear hn
    have d0 : decide (0 ≤ a3) = true := decide_eq_true h0
    have d1 : decide (a3 < 24) = true := decide_eq_true h1
    have d2 : decide (0 ≤ a4) = true := decide_eq_true h2
    have d3 : decide (a4 < 60) = false := decide_eq_false h3
    clear h0 h1 h2 h3
    go_enter Try.func12, Try.ntmps12
    go_wp2_with fail
    go_quiet ((go_at_call 24; exact Calls.quiet_of ((HD.out _).mono (fun e w2 h => ⟨h.1, h.2.out⟩))))
    go_wp2_with fail
    go_ret
    exact ⟨rfl, by repeat (first | exact Below.refl _ _ | apply pw_below_drewN | apply below_alloc)⟩
  by_cases h4 : 0 ≤ a5
  case neg =>
    have hn : decide (stampOk a3 a4 a5 a6 a7) = false := decide_eq_false (fun h => h4 h.2.2.2.2.1)
    rw [hn] at h
    subst h
    clear hn
    have d0 : decide (0 ≤ a3) = true := decide_eq_true h0
    have d1 : decide (a3 < 24) = true := decide_eq_true h1
    have d2 : decide (0 ≤ a4) = true := decide_eq_true h2
    have d3 : decide (a4 < 60) = true := decide_eq_true h3
    have d4 : decide (0 ≤ a5) = false := decide_eq_false h4
    clear h0 h1 h2 h3 h4
    go_enter Try.func12, Try.ntmps12
    go_wp2_with fail
    go_quiet ((go_at_call 24; exact Calls.quiet_of ((HD.out _).mono (fun e w2 h => ⟨h.1, h.2.out⟩))))
    go_wp2_with fail
    go_ret
    exact ⟨rfl, by repeat (first | exact Below.refl _ _ | apply pw_below_drewN | apply below_alloc)⟩
  by_cases h5 : a5 < 60
  case neg =>
    have hn : decide (stampOk a3 a4 a5 a6 a7) = false := decide_eq_false (fun h => h5 h.2.2.2.2.2.1)
    rw [hn] at h
    subst h
    clear hn
    have d0 : decide (0 ≤ a3) = true := decide_eq_true h0
    have d1 : decide (a3 < 24) = true := decide_eq_true h1
    have d2 : decide (0 ≤ a4) = true := decide_eq_true h2
    have d3 : decide (a4 < 60) = true := decide_eq_true h3
    have d4 : decide (0 ≤ a5) = true := decide_eq_true h4
    have d5 : decide (a5 < 60) = false := decide_eq_false h5
    clear h0 h1 h2 h3 h4 h5
    go_enter Try.func12, Try.ntmps12
    go_wp2_with fail
    go_quiet ((go_at_call 24; exact Calls.quiet_of ((HD.out _).mono (fun e w2 h => ⟨h.1, h.2.out⟩))))
    go_wp2_with fail
    go_ret
    exact ⟨rfl, by repeat (first | exact Below.refl _ _ | apply pw_below_drewN | apply below_alloc)⟩
  by_cases h6 : 0 ≤ a6
  case neg =>
    have hn : decide (stampOk a3 a4 a5 a6 a7) = false := decide_eq_false (fun h => h6 h.2.2.2.2.2.2.1)
    rw [hn] at h
    subst h
    clear hn
    have d0 : decide (0 ≤ a3) = true := decide_eq_true h0
    have d1 : decide (a3 < 24) = true := decide_eq_true h1
    have d2 : decide (0 ≤ a4) = true := decide_eq_true h2
    have d3 : decide (a4 < 60) = true := decide_eq_true h3
    have d4 : decide (0 ≤ a5) = true := decide_eq_true h4
    have d5 : decide (a5 < 60) = true := decide_eq_true h5
    have d6 : decide (0 ≤ a6) = false := decide_eq_false h6
    clear h0 h1 h2 h3 h4 h5 h6
    go_enter Try.func12, Try.ntmps12
    go_wp2_with fail
    go_quiet ((go_at_call 24; exact Calls.quiet_of ((HD.out _).mono (fun e w2 h => ⟨h.1, h.2.out⟩))))
    go_wp2_with fail
    go_ret
    exact ⟨rfl, by repeat (first | exact Below.refl _ _ | apply pw_below_drewN | apply below_alloc)⟩
  by_cases h7 : a6 < 1000000000
  case neg =>
    have hn : decide (stampOk a3 a4 a5 a6 a7) = false := decide_eq_false (fun h => h7 h.2.2.2.2.2.2.2.1)
    rw [hn] at h
    subst h
    clear hn
    have d0 : decide (0 ≤ a3) = true := decide_eq_true h0
    have d1 : decide (a3 < 24) = true := decide_eq_true h1
    have d2 : decide (0 ≤ a4) = true := decide_eq_true h2
    have d3 : decide (a4 < 60) = true := decide_eq_true h3
    have d4 : decide (0 ≤ a5) = true := decide_eq_true h4
    have d5 : decide (a5 < 60) = true := decide_eq_true h5
    have d6 : decide (0 ≤ a6) = true := decide_eq_true h6
    have d7 : decide (a6 < 1000000000) = false := decide_eq_false h7
    clear h0 h1 h2 h3 h4 h5 h6 h7
    go_enter Try.func12, Try.ntmps12
    go_wp2_with fail
    go_quiet ((go_at_call 24; exact Calls.quiet_of ((HD.out _).mono (fun e w2 h => ⟨h.1, h.2.out⟩))))
    go_wp2_with fail
    go_ret
    exact ⟨rfl, by repeat (first | exact Below.refl _ _ | apply pw_below_drewN | apply below_alloc)⟩
  by_cases h8 : -57599 ≤ a7
  case neg =>
    have hn : decide (stampOk a3 a4 a5 a6 a7) = false := decide_eq_false (fun h => h8 h.2.2.2.2.2.2.2.2.1)
    rw [hn] at h
    subst h
    clear hn
    have d0 : decide (0 ≤ a3) = true := decide_eq_true h0
    have d1 : decide (a3 < 24) = true := decide_eq_true h1
    have d2 : decide (0 ≤ a4) = true := decide_eq_true h2
    have d3 : decide (a4 < 60) = true := decide_eq_true h3
    have d4 : decide (0 ≤ a5) = true := decide_eq_true h4
    have d5 : decide (a5 < 60) = true := decide_eq_true h5
    have d6 : decide (0 ≤ a6) = true := decide_eq_true h6
    have d7 : decide (a6 < 1000000000) = true := decide_eq_true h7
    have d8 : decide (-57599 ≤ a7) = false := decide_eq_false h8
    clear h0 h1 h2 h3 h4 h5 h6 h7 h8
    go_enter Try.func12, Try.ntmps12
    go_wp2_with fail
    go_quiet ((go_at_call 24; exact Calls.quiet_of ((HD.out _).mono (fun e w2 h => ⟨h.1, h.2.out⟩))))
    go_wp2_with fail
    go_ret
    exact ⟨rfl, by repeat (first | exact Below.refl _ _ | apply pw_below_drewN | apply below_alloc)⟩
  by_cases h9 : a7 ≤ 57599
  case neg =>
    have hn : decide (stampOk a3 a4 a5 a6 a7) = false := decide_eq_false (fun h => h9 h.2.2.2.2.2.2.2.2.2)
    rw [hn] at h
    subst h
    clear hn
    have d0 : decide (0 ≤ a3) = true := decide_eq_true h0
    have d1 : decide (a3 < 24) = true := decide_eq_true h1
    have d2 : decide (0 ≤ a4) = true := decide_eq_true h2
    have d3 : decide (a4 < 60) = true := decide_eq_true h3
    have d4 : decide (0 ≤ a5) = true := decide_eq_true h4
    have d5 : decide (a5 < 60) = true := decide_eq_true h5
    have d6 : decide (0 ≤ a6) = true := decide_eq_true h6
    have d7 : decide (a6 < 1000000000) = true := decide_eq_true h7
    have d8 : decide (-57599 ≤ a7) = true := decide_eq_true h8
    have d9 : decide (a7 ≤ 57599) = false := decide_eq_false h9
    clear h0 h1 h2 h3 h4 h5 h6 h7 h8 h9
    go_enter Try.func12, Try.ntmps12
    go_wp2_with fail
    go_quiet ((go_at_call 24; exact Calls.quiet_of ((HD.out _).mono (fun e w2 h => ⟨h.1, h.2.out⟩))))
    go_wp2_with fail
    go_ret
    exact ⟨rfl, by repeat (first | exact Below.refl _ _ | apply pw_below_drewN | apply below_alloc)⟩
  have hn : decide (stampOk a3 a4 a5 a6 a7) = true := decide_eq_true ⟨h0, h1, h2, h3, h4, h5, h6, h7, h8, h9⟩
  rw [hn] at h
  subst h
  clear hn
  have d0 : decide (0 ≤ a3) = true := decide_eq_true h0
  have d1 : decide (a3 < 24) = true := decide_eq_true h1
  have d2 : decide (0 ≤ a4) = true := decide_eq_true h2
  have d3 : decide (a4 < 60) = true := decide_eq_true h3
  have d4 : decide (0 ≤ a5) = true := decide_eq_true h4
  have d5 : decide (a5 < 60) = true := decide_eq_true h5
  have d6 : decide (0 ≤ a6) = true := decide_eq_true h6
  have d7 : decide (a6 < 1000000000) = true := decide_eq_true h7
  have d8 : decide (-57599 ≤ a7) = true := decide_eq_true h8
  have d9 : decide (a7 ≤ 57599) = true := decide_eq_true h9
  clear h0 h1 h2 h3 h4 h5 h6 h7 h8 h9
  go_enter Try.func12, Try.ntmps12
  go_wp2_with fail
  go_quiet ((go_at_call 24; exact Calls.quiet_of ((HD.out _).mono (fun e w2 h => ⟨h.1, h.2.out⟩))))
  go_wp2_with fail
  go_ret
  exact ⟨rfl, by repeat (first | exact Below.refl _ _ | apply pw_below_drewN | apply below_alloc)⟩

/-! ### spec_padded: function 25 -/
mutual
def spec_padded.l0 : Nat → Int → Int → ByteArray → Option (ByteArray)
  | 0, _, _, _ => none
  | k + 1, x0, x1, x5 => if x0 > 0 then ((some (([(wrap64 (48 + (Int.tmod x0 10))) % 256] : List Int) : List Int)).bind fun y102 => (if (strOfNums y102).size + x5.size ≤ 9223372036854775807 then (spec_padded.l0 k (wrap64 (Int.tdiv x0 10)) x1 ((strOfNums y102) ++ x5)) else (none))) else (if x5.toList = ([] : List UInt8) then ((some (([(wrap64 (48 + (Int.tmod x0 10))) % 256] : List Int) : List Int)).bind fun y105 => (if (strOfNums y105).size + x5.size ≤ 9223372036854775807 then (spec_padded.l0 k (wrap64 (Int.tdiv x0 10)) x1 ((strOfNums y105) ++ x5)) else (none))) else (spec_padded.l1 k x1 x5))
def spec_padded.l1 : Nat → Int → ByteArray → Option (ByteArray)
  | 0, _, _ => none
  | k + 1, x1, x5 => if (x5.size : Int) < x1 then (if 1 + x5.size ≤ 9223372036854775807 then (spec_padded.l1 k x1 ((⟨#[48]⟩ : ByteArray) ++ x5)) else (none)) else (some x5)
end
def spec_padded.f (k : Nat) (a0 : Int) (a1 : Int) : Option (ByteArray) := spec_padded.l0 k a0 a1 (⟨#[]⟩ : ByteArray)
theorem spec_padded.mono_l : ∀ k, (∀ y0 y1 y2, LeO (spec_padded.l0 k y0 y1 y2) (spec_padded.l0 (k + 1) y0 y1 y2)) ∧ (∀ y0 y1, LeO (spec_padded.l1 k y0 y1) (spec_padded.l1 (k + 1) y0 y1))
  | 0 => ⟨fun _ _ _ r h => by simp [spec_padded.l0] at h, fun _ _ r h => by simp [spec_padded.l1] at h⟩
  | k + 1 => by
    obtain ⟨ih0, ih1⟩ := spec_padded.mono_l k
    refine ⟨?_, ?_⟩
    · intro y0 y1 y2
      unfold spec_padded.l0
      repeat' first
      | (with_reducible exact ih0 _ _ _)
      | (with_reducible exact ih1 _ _)
      | (with_reducible exact LeO.refl _)
      | (with_reducible exact LeO.none _)
      | (with_reducible refine LeO.ite ?_ ?_)
      | (with_reducible refine LeO.bind ?_ (fun _ => ?_))
      | exact ih0 _ _ _
      | exact ih1 _ _
      | exact LeO.none _
      | refine LeO.ite ?_ ?_
      | refine LeO.bind ?_ (fun _ => ?_)
    · intro y0 y1
      unfold spec_padded.l1
      repeat' first
      | (with_reducible exact ih0 _ _ _)
      | (with_reducible exact ih1 _ _)
      | (with_reducible exact LeO.refl _)
      | (with_reducible exact LeO.none _)
      | (with_reducible refine LeO.ite ?_ ?_)
      | (with_reducible refine LeO.bind ?_ (fun _ => ?_))
      | exact ih0 _ _ _
      | exact ih1 _ _
      | exact LeO.none _
      | refine LeO.ite ?_ ?_
      | refine LeO.bind ?_ (fun _ => ?_)
theorem spec_padded.mono : ∀ a0 a1 k, LeO (spec_padded.f k a0 a1) (spec_padded.f (k + 1) a0 a1) := by
  intro a0 a1 k
  obtain ⟨ih0, ih1⟩ := spec_padded.mono_l k
  unfold spec_padded.f
  repeat' first
      | (with_reducible exact ih0 _ _ _)
      | (with_reducible exact ih1 _ _)
      | (with_reducible exact LeO.refl _)
      | (with_reducible exact LeO.none _)
      | (with_reducible refine LeO.ite ?_ ?_)
      | (with_reducible refine LeO.bind ?_ (fun _ => ?_))
      | exact ih0 _ _ _
      | exact ih1 _ _
      | exact LeO.none _
      | refine LeO.ite ?_ ?_
      | refine LeO.bind ?_ (fun _ => ?_)
set_option maxHeartbeats 8000000 in
set_option maxRecDepth 100000 in
theorem spec_padded.calls (k : Nat) (a0 : Int) (a1 : Int) (r : ByteArray) (w : World) (h : spec_padded.f k a0 a1 = some r) :
    Calls Try.prog 25 #[.int .i64 a0, .int .i64 a1] w fun e w' => e = .returned (.string r) ∧ Below w.heap.size w w' := by
  have HB := Aside0.mk (Below.refl w.heap.size w)
  have H : (spec_padded.l0 k a0 a1 (⟨#[]⟩ : ByteArray)) = some r := h
  clear h
  have H' := Aside0.mk H
  clear H
  go_enter Try.func25, Try.ntmps25
  go_wp2
  go_loopg [0, 5] k (fun kq v0 v5 w' => ∃ (x0_1 : Int) (x5_1 : ByteArray), v0 = .int .i64 x0_1 ∧ v5 = .string x5_1 ∧ Aside0 (spec_padded.l0 kq x0_1 a1 x5_1 = some r) ∧ Aside0 (kq ≤ k) ∧ Aside0 (Below w.heap.size w w'))
  case atStart => exact ⟨(a0), ((⟨#[]⟩ : ByteArray)), (by first | rfl | (simp; done) | (simp [*]; done)), (by first | rfl | (simp; done) | (simp [*]; done)), H', ⟨Nat.le_refl _⟩, ⟨by repeat (first | (with_reducible first | exact HB.out | apply below_alloc | apply pw_below_drewN | apply below_drew1) | exact HB.out)⟩⟩
  case round =>
    clear H'
    try clear c2
    try clear p2
    obtain ⟨x0_1, x5_1, rfl, rfl, HA, HK1, HB⟩ := hrel
    cases gk with
    | zero => exact absurd HA.out (by simp [spec_padded.l0])
    | succ k1 =>
      have H := HA.out
      clear HA
      simp only [spec_padded.l0] at H
      by_cases c3 : x0_1 > 0
      · rw [if_pos c3] at H
        have c3b0 : decide (0 < x0_1) = true := decide_eq_true c3
        clear c3
        obtain ⟨y102, hy102⟩ : ∃ y_ : List Int, y_ = (([(wrap64 (48 + (Int.tmod x0_1 10))) % 256] : List Int)) := ⟨_, rfl⟩
        replace H : (if (strOfNums y102).size + x5_1.size ≤ 9223372036854775807 then (spec_padded.l0 k1 (wrap64 (Int.tdiv x0_1 10)) a1 ((strOfNums y102) ++ x5_1)) else (none)) = some r := by first | (rw [hy102]; with_reducible exact H) | (have H2_ := (Option.bind_some _ _).symm.trans H; rw [hy102]; with_reducible exact H2_) | (have H2_ := (Option.bind_some _ _).symm.trans H; with_reducible exact H2_) | with_reducible exact H | (rw [hy102]; exact H) | exact H
        have Ny102 := Aside0.mk hy102
        clear hy102
        by_cases c4 : (strOfNums y102).size + x5_1.size ≤ 9223372036854775807
        · rw [if_pos c4] at H
          have c4b0 := eq_true c4
          have c4b1 : decide ((strOfNums y102).size + x5_1.size ≤ 9223372036854775807) = true := decide_eq_true c4
          try have c4b2 : (9223372036854775807 < (strOfNums y102).size + x5_1.size) = False := eq_false (Nat.not_lt.2 c4)
          have H' := Aside0.mk H
          clear H
          go_wp2_with (first | ((with_reducible refine gate_dst (N := 16) rfl ?_); refine Kd.R_lit (Kd.int .u8) _ 5 ?hg (N := 16) ?hd (xs := ([(wrap64 (48 + (Int.tmod x0_1 10))) % 256] : List Int)) (inner := [.int .u8 ((wrap64 (48 + (Int.tmod x0_1 10))) % 256)]) (ok := fun _ => True) (okp := fun _ => True) ?hr ?hp (fun _ hk => hk) trivial (Below.refl _ _) (Nat.le_refl _) (by simp) ?_; (case hd => rfl); (case hg => rfl); (case hr => first | (go_simp; done) | (go_simp; rfl) | (go_simp; simp [IntKind.wrap_u8]; done)); (case hp => exact (Reps.one (show Kd.M (Kd.int .u8) _ _ _ ((wrap64 (48 + (Int.tmod x0_1 10))) % 256) [.int .u8 ((wrap64 (48 + (Int.tmod x0_1 10))) % 256)] from rfl) (Reps.none _ _))); intro v103 w5 ho6 hb hg_ hnew_; clear hg_ hnew_; (first | rw [← Ny102.out] at ho6 | (simp only [Int.reduceToNat] at ho6; rw [← Ny102.out] at ho6)); have n0_ := Aside0.mk (Kd.R_lower ho6 (below_size (by repeat (first | (with_reducible first | exact HB.out | apply below_alloc | apply pw_below_drewN | apply below_drew1) | exact HB.out)))); have n1_ := Aside0.mk (below_step (by repeat (first | (with_reducible first | exact HB.out | apply below_alloc | apply pw_below_drewN | apply below_drew1) | exact HB.out)) hb); clear HB; have HO104 := n0_; have HB := n1_; clear n0_ n1_; clear hb ho6; have hcv7 := own_string (P := Try.prog) Try.underlying57 Try.underlying5 Try.underlying9 (Kd.own_of_R HO104.out)))
          go_roundg k1
          case measure => have := HK1.out; omega
          case rel => exact ⟨(wrap64 (Int.tdiv x0_1 10)), ((strOfNums y102) ++ x5_1), (by first | rfl | (simp; done) | (simp [*]; done)), (by first | rfl | (simp; done) | (simp [*]; done)), H', ⟨by have := HK1.out; omega⟩, ⟨by repeat (first | (with_reducible first | exact HB.out | apply below_alloc | apply pw_below_drewN | apply below_drew1) | exact HB.out)⟩⟩
        · rw [if_neg c4] at H
          exact absurd H (by simp)
      · rw [if_neg c3] at H
        have c3b0 : decide (0 < x0_1) = false := decide_eq_false c3
        clear c3
        by_cases c8 : x5_1.toList = ([] : List UInt8)
        · rw [if_pos c8] at H
          have c8b0 : (x5_1.toList == ([] : List UInt8)) = true := beq_iff_eq.mpr c8
          have c8b1 : (x5_1.toList != ([] : List UInt8)) = false := bne_eq_false_iff_eq.mpr c8
          clear c8
          obtain ⟨y105, hy105⟩ : ∃ y_ : List Int, y_ = (([(wrap64 (48 + (Int.tmod x0_1 10))) % 256] : List Int)) := ⟨_, rfl⟩
          replace H : (if (strOfNums y105).size + x5_1.size ≤ 9223372036854775807 then (spec_padded.l0 k1 (wrap64 (Int.tdiv x0_1 10)) a1 ((strOfNums y105) ++ x5_1)) else (none)) = some r := by first | (rw [hy105]; with_reducible exact H) | (have H2_ := (Option.bind_some _ _).symm.trans H; rw [hy105]; with_reducible exact H2_) | (have H2_ := (Option.bind_some _ _).symm.trans H; with_reducible exact H2_) | with_reducible exact H | (rw [hy105]; exact H) | exact H
          have Ny105 := Aside0.mk hy105
          clear hy105
          by_cases c9 : (strOfNums y105).size + x5_1.size ≤ 9223372036854775807
          · rw [if_pos c9] at H
            have c9b0 := eq_true c9
            have c9b1 : decide ((strOfNums y105).size + x5_1.size ≤ 9223372036854775807) = true := decide_eq_true c9
            try have c9b2 : (9223372036854775807 < (strOfNums y105).size + x5_1.size) = False := eq_false (Nat.not_lt.2 c9)
            have H' := Aside0.mk H
            clear H
            go_wp2_with (first | ((with_reducible refine gate_dst (N := 16) rfl ?_); refine Kd.R_lit (Kd.int .u8) _ 5 ?hg (N := 16) ?hd (xs := ([(wrap64 (48 + (Int.tmod x0_1 10))) % 256] : List Int)) (inner := [.int .u8 ((wrap64 (48 + (Int.tmod x0_1 10))) % 256)]) (ok := fun _ => True) (okp := fun _ => True) ?hr ?hp (fun _ hk => hk) trivial (Below.refl _ _) (Nat.le_refl _) (by simp) ?_; (case hd => rfl); (case hg => rfl); (case hr => first | (go_simp; done) | (go_simp; rfl) | (go_simp; simp [IntKind.wrap_u8]; done)); (case hp => exact (Reps.one (show Kd.M (Kd.int .u8) _ _ _ ((wrap64 (48 + (Int.tmod x0_1 10))) % 256) [.int .u8 ((wrap64 (48 + (Int.tmod x0_1 10))) % 256)] from rfl) (Reps.none _ _))); intro v106 w10 ho11 hb hg_ hnew_; clear hg_ hnew_; (first | rw [← Ny105.out] at ho11 | (simp only [Int.reduceToNat] at ho11; rw [← Ny105.out] at ho11)); have n0_ := Aside0.mk (Kd.R_lower ho11 (below_size (by repeat (first | (with_reducible first | exact HB.out | apply below_alloc | apply pw_below_drewN | apply below_drew1) | exact HB.out)))); have n1_ := Aside0.mk (below_step (by repeat (first | (with_reducible first | exact HB.out | apply below_alloc | apply pw_below_drewN | apply below_drew1) | exact HB.out)) hb); clear HB; have HO107 := n0_; have HB := n1_; clear n0_ n1_; clear hb ho11; have hcv12 := own_string (P := Try.prog) Try.underlying57 Try.underlying5 Try.underlying9 (Kd.own_of_R HO107.out)))
            go_roundg k1
            case measure => have := HK1.out; omega
            case rel => exact ⟨(wrap64 (Int.tdiv x0_1 10)), ((strOfNums y105) ++ x5_1), (by first | rfl | (simp; done) | (simp [*]; done)), (by first | rfl | (simp; done) | (simp [*]; done)), H', ⟨by have := HK1.out; omega⟩, ⟨by repeat (first | (with_reducible first | exact HB.out | apply below_alloc | apply pw_below_drewN | apply below_drew1) | exact HB.out)⟩⟩
          · rw [if_neg c9] at H
            exact absurd H (by simp)
        · rw [if_neg c8] at H
          have c8b0 : (x5_1.toList == ([] : List UInt8)) = false := beq_eq_false_iff_ne.mpr c8
          have c8b1 : (x5_1.toList != ([] : List UInt8)) = true := bne_iff_ne.mpr c8
          have H' := Aside0.mk H
          clear H
          go_wp2
          go_loopg [5] k1 (fun kq v5 w' => ∃ (x5_2 : ByteArray), v5 = .string x5_2 ∧ Aside0 (spec_padded.l1 kq a1 x5_2 = some r) ∧ Aside0 (kq ≤ k1) ∧ Aside0 (Below w.heap.size w w'))
          case atStart => exact ⟨(x5_1), (by first | rfl | (simp; done) | (simp [*]; done)), H', ⟨Nat.le_refl _⟩, ⟨by repeat (first | (with_reducible first | exact HB.out | apply below_alloc | apply pw_below_drewN | apply below_drew1) | exact HB.out)⟩⟩
          case round =>
            clear H'
            try clear hcv1
            try clear c2
            try clear p2
            try clear c3
            try clear c3b0
            try clear c4
            try clear c4b0
            try clear c4b1
            try clear c4b2
            try clear p6
            try clear hcv7
            try clear c8
            try clear c8b0
            try clear c8b1
            try clear c9
            try clear c9b0
            try clear c9b1
            try clear c9b2
            try clear hcv12
            try clear p2
            obtain ⟨x5_2, rfl, HA, HK2, HB⟩ := hrel
            cases gk with
            | zero => exact absurd HA.out (by simp [spec_padded.l1])
            | succ k2 =>
              have H := HA.out
              clear HA
              simp only [spec_padded.l1] at H
              by_cases c13 : (x5_2.size : Int) < a1
              · rw [if_pos c13] at H
                have c13b0 : decide ((x5_2.size : Int) < a1) = true := decide_eq_true c13
                clear c13
                by_cases c14 : 1 + x5_2.size ≤ 9223372036854775807
                · rw [if_pos c14] at H
                  have c14b0 := eq_true c14
                  have c14b1 : decide (1 + x5_2.size ≤ 9223372036854775807) = true := decide_eq_true c14
                  try have c14b2 : (9223372036854775807 < 1 + x5_2.size) = False := eq_false (Nat.not_lt.2 c14)
                  have H' := Aside0.mk H
                  clear H
                  go_wp2
                  go_roundg k2
                  case measure => have := HK1.out; have := HK2.out; omega
                  case rel => exact ⟨((⟨#[48]⟩ : ByteArray) ++ x5_2), (by first | rfl | (simp; done) | (simp [*]; done)), H', ⟨by have := HK1.out; have := HK2.out; omega⟩, ⟨by repeat (first | (with_reducible first | exact HB.out | apply below_alloc | apply pw_below_drewN | apply below_drew1) | exact HB.out)⟩⟩
                · rw [if_neg c14] at H
                  exact absurd H (by simp)
              · rw [if_neg c13] at H
                have c13b0 : decide ((x5_2.size : Int) < a1) = false := decide_eq_false c13
                clear c13
                obtain rfl := Option.some.inj H
                go_wp2
                go_ret
                exact ⟨by first | rfl | (simp [errW_none, errW_some] <;> rfl) | (simp [*, errW_none, errW_some] <;> rfl), by repeat (first | (with_reducible first | exact HB.out | apply below_alloc | apply pw_below_drewN | apply below_drew1) | exact HB.out)⟩

end Go.Proofs.Ytlhjblbmhlelbab.P
