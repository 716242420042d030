-- Written by the program wip/myprint.py of this session, over the kit's print of the translation. Lean checks it.
import Derived.Test.YtcdcoogjhkchlaaGreatDoorPx0
namespace Go.Proofs.YtcdcoogjhkchlaaGreatDoor.P
open Go.RowKit Go.Proofs.YtcdcoogjhkchlaaGreatDoorW.PrintWords Go.Proofs.YtcdcoogjhkchlaaGreatDoorW.PrintLast Go.Proofs.YtcdcoogjhkchlaaGreatDoorW.PrintMore
attribute [local go_sem] max2_int min2_int max_two min_two max_three min_three max_four min_four   -- for this text's walks alone
set_option linter.unusedVariables false
set_option linter.unusedSimpArgs false

/-! ### spec_Whole: function 18 -/
mutual
def spec_Whole.j0 : Nat → ByteArray → Int → Int → Bool → Option (Int × Bool × Bool)
  | 0, _, _, _, _ => none
  | k + 1, x0, x2, x5, x22 => if x22 = true then (spec_Whole.j1 k x0 x2 (wrap64 (x5 + 1))) else (spec_Whole.j1 k x0 x2 x5)
def spec_Whole.j1 : Nat → ByteArray → Int → Int → Option (Int × Bool × Bool)
  | 0, _, _, _ => none
  | k + 1, x0, x2, x5 => if x5 = (x0.size : Int) then (some (0, false, true)) else (spec_Whole.l0 k x0 x2 x5 x5)
def spec_Whole.l0 : Nat → ByteArray → Int → Int → Int → Option (Int × Bool × Bool)
  | 0, _, _, _, _ => none
  | k + 1, x0, x2, x5, x6 => if x6 < (x0.size : Int) then (if 0 ≤ x6 then (if (bt x0 x6) < 48 then (spec_Whole.j3 k x0 x2 x5 x6 true) else (spec_Whole.j3 k x0 x2 x5 x6 (decide ((bt x0 x6) > 57)))) else (none)) else (if (wrap64 ((x0.size : Int) - x5)) > 18 then (spec_Whole.j4 k x0 x2 true) else (if 0 < (x0.size : Int) then (spec_Whole.j4 k x0 x2 ((bt x0 0) == 43)) else (none)))
def spec_Whole.j3 : Nat → ByteArray → Int → Int → Int → Bool → Option (Int × Bool × Bool)
  | 0, _, _, _, _, _ => none
  | k + 1, x0, x2, x5, x6, x45 => if x45 = true then (if 0 ≤ x6 then (if x6 < (x0.size : Int) then (some (0, false, ((bt x0 x6) != 95))) else (none)) else (none)) else (if (wrap64 (x6 - x5)) < 18 then (if 0 ≤ x6 then (if x6 < (x0.size : Int) then (spec_Whole.l0 k x0 (wrap64 ((wrap64 (x2 * 10)) + (((bt x0 x6) - 48) % 256))) x5 (wrap64 (x6 + 1))) else (none)) else (none)) else (spec_Whole.l0 k x0 x2 x5 (wrap64 (x6 + 1))))
def spec_Whole.j4 : Nat → ByteArray → Int → Bool → Option (Int × Bool × Bool)
  | 0, _, _, _ => none
  | k + 1, x0, x2, x71 => if x71 = true then (some (0, false, false)) else (if 0 < (x0.size : Int) then (if (bt x0 0) = 45 then (some (wrap64 (-x2), true, true)) else (some (x2, true, true))) else (none))
end
def spec_Whole.f (k : Nat) (a0 : ByteArray) : Option (Int × Bool × Bool) := if 0 < (a0.size : Int) then (if (bt a0 0) = 45 then (spec_Whole.j0 k a0 0 0 true) else (spec_Whole.j0 k a0 0 0 ((bt a0 0) == 43))) else (spec_Whole.j0 k a0 0 0 false)
theorem spec_Whole.mono_l : ∀ k, (∀ y0 y1 y2 y3, LeO (spec_Whole.j0 k y0 y1 y2 y3) (spec_Whole.j0 (k + 1) y0 y1 y2 y3)) ∧ (∀ y0 y1 y2, LeO (spec_Whole.j1 k y0 y1 y2) (spec_Whole.j1 (k + 1) y0 y1 y2)) ∧ (∀ y0 y1 y2 y3, LeO (spec_Whole.l0 k y0 y1 y2 y3) (spec_Whole.l0 (k + 1) y0 y1 y2 y3)) ∧ (∀ y0 y1 y2 y3 y4, LeO (spec_Whole.j3 k y0 y1 y2 y3 y4) (spec_Whole.j3 (k + 1) y0 y1 y2 y3 y4)) ∧ (∀ y0 y1 y2, LeO (spec_Whole.j4 k y0 y1 y2) (spec_Whole.j4 (k + 1) y0 y1 y2))
  | 0 => ⟨fun _ _ _ _ r h => by simp [spec_Whole.j0] at h, fun _ _ _ r h => by simp [spec_Whole.j1] at h, fun _ _ _ _ r h => by simp [spec_Whole.l0] at h, fun _ _ _ _ _ r h => by simp [spec_Whole.j3] at h, fun _ _ _ r h => by simp [spec_Whole.j4] at h⟩
  | k + 1 => by
    obtain ⟨ih0, ih1, ih2, ih3, ih4⟩ := spec_Whole.mono_l k
    refine ⟨?_, ?_, ?_, ?_, ?_⟩
    · intro y0 y1 y2 y3
      unfold spec_Whole.j0
      repeat' first
      | (with_reducible exact ih0 _ _ _ _)
      | (with_reducible exact ih1 _ _ _)
      | (with_reducible exact ih2 _ _ _ _)
      | (with_reducible exact ih3 _ _ _ _ _)
      | (with_reducible exact ih4 _ _ _)
      | (with_reducible exact LeO.refl _)
      | (with_reducible exact LeO.none _)
      | (with_reducible refine LeO.ite ?_ ?_)
      | (with_reducible refine LeO.bind ?_ (fun _ => ?_))
      | exact ih0 _ _ _ _
      | exact ih1 _ _ _
      | exact ih2 _ _ _ _
      | exact ih3 _ _ _ _ _
      | exact ih4 _ _ _
      | exact LeO.none _
      | refine LeO.ite ?_ ?_
      | refine LeO.bind ?_ (fun _ => ?_)
    · intro y0 y1 y2
      unfold spec_Whole.j1
      repeat' first
      | (with_reducible exact ih0 _ _ _ _)
      | (with_reducible exact ih1 _ _ _)
      | (with_reducible exact ih2 _ _ _ _)
      | (with_reducible exact ih3 _ _ _ _ _)
      | (with_reducible exact ih4 _ _ _)
      | (with_reducible exact LeO.refl _)
      | (with_reducible exact LeO.none _)
      | (with_reducible refine LeO.ite ?_ ?_)
      | (with_reducible refine LeO.bind ?_ (fun _ => ?_))
      | exact ih0 _ _ _ _
      | exact ih1 _ _ _
      | exact ih2 _ _ _ _
      | exact ih3 _ _ _ _ _
      | exact ih4 _ _ _
      | exact LeO.none _
      | refine LeO.ite ?_ ?_
      | refine LeO.bind ?_ (fun _ => ?_)
    · intro y0 y1 y2 y3
      unfold spec_Whole.l0
      repeat' first
      | (with_reducible exact ih0 _ _ _ _)
      | (with_reducible exact ih1 _ _ _)
      | (with_reducible exact ih2 _ _ _ _)
      | (with_reducible exact ih3 _ _ _ _ _)
      | (with_reducible exact ih4 _ _ _)
      | (with_reducible exact LeO.refl _)
      | (with_reducible exact LeO.none _)
      | (with_reducible refine LeO.ite ?_ ?_)
      | (with_reducible refine LeO.bind ?_ (fun _ => ?_))
      | exact ih0 _ _ _ _
      | exact ih1 _ _ _
      | exact ih2 _ _ _ _
      | exact ih3 _ _ _ _ _
      | exact ih4 _ _ _
      | exact LeO.none _
      | refine LeO.ite ?_ ?_
      | refine LeO.bind ?_ (fun _ => ?_)
    · intro y0 y1 y2 y3 y4
      unfold spec_Whole.j3
      repeat' first
      | (with_reducible exact ih0 _ _ _ _)
      | (with_reducible exact ih1 _ _ _)
      | (with_reducible exact ih2 _ _ _ _)
      | (with_reducible exact ih3 _ _ _ _ _)
      | (with_reducible exact ih4 _ _ _)
      | (with_reducible exact LeO.refl _)
      | (with_reducible exact LeO.none _)
      | (with_reducible refine LeO.ite ?_ ?_)
      | (with_reducible refine LeO.bind ?_ (fun _ => ?_))
      | exact ih0 _ _ _ _
      | exact ih1 _ _ _
      | exact ih2 _ _ _ _
      | exact ih3 _ _ _ _ _
      | exact ih4 _ _ _
      | exact LeO.none _
      | refine LeO.ite ?_ ?_
      | refine LeO.bind ?_ (fun _ => ?_)
    · intro y0 y1 y2
      unfold spec_Whole.j4
      repeat' first
      | (with_reducible exact ih0 _ _ _ _)
      | (with_reducible exact ih1 _ _ _)
      | (with_reducible exact ih2 _ _ _ _)
      | (with_reducible exact ih3 _ _ _ _ _)
      | (with_reducible exact ih4 _ _ _)
      | (with_reducible exact LeO.refl _)
      | (with_reducible exact LeO.none _)
      | (with_reducible refine LeO.ite ?_ ?_)
      | (with_reducible refine LeO.bind ?_ (fun _ => ?_))
      | exact ih0 _ _ _ _
      | exact ih1 _ _ _
      | exact ih2 _ _ _ _
      | exact ih3 _ _ _ _ _
      | exact ih4 _ _ _
      | exact LeO.none _
      | refine LeO.ite ?_ ?_
      | refine LeO.bind ?_ (fun _ => ?_)
theorem spec_Whole.mono : ∀ a0 k, LeO (spec_Whole.f k a0) (spec_Whole.f (k + 1) a0) := by
  intro a0 k
  obtain ⟨ih0, ih1, ih2, ih3, ih4⟩ := spec_Whole.mono_l k
  unfold spec_Whole.f
  repeat' first
      | (with_reducible exact ih0 _ _ _ _)
      | (with_reducible exact ih1 _ _ _)
      | (with_reducible exact ih2 _ _ _ _)
      | (with_reducible exact ih3 _ _ _ _ _)
      | (with_reducible exact ih4 _ _ _)
      | (with_reducible exact LeO.refl _)
      | (with_reducible exact LeO.none _)
      | (with_reducible refine LeO.ite ?_ ?_)
      | (with_reducible refine LeO.bind ?_ (fun _ => ?_))
      | exact ih0 _ _ _ _
      | exact ih1 _ _ _
      | exact ih2 _ _ _ _
      | exact ih3 _ _ _ _ _
      | exact ih4 _ _ _
      | exact LeO.none _
      | refine LeO.ite ?_ ?_
      | refine LeO.bind ?_ (fun _ => ?_)
set_option maxHeartbeats 8000000 in
set_option maxRecDepth 100000 in
theorem spec_Whole.calls (k : Nat) (a0 : ByteArray) (r1 : Int) (r2 : Bool) (r3 : Bool) (w : World) (h : spec_Whole.f k a0 = some (r1, r2, r3)) :
    Calls Tryz.prog 18 #[.string a0] w fun e w' => e = .returned (.tuple #[.int .i64 r1, .bool r2, .bool r3]) ∧ Drawn0 w w' := by
  have H : (if 0 < (a0.size : Int) then (if (bt a0 0) = 45 then (spec_Whole.j0 k a0 0 0 true) else (spec_Whole.j0 k a0 0 0 ((bt a0 0) == 43))) else (spec_Whole.j0 k a0 0 0 false)) = some (r1, r2, r3) := h
  clear h
  have HC2 := Aside0.mk H
  clear H
  go_enter Tryz.func18, Tryz.ntmps18
  go_upto_region 2 with (fail)
  repeat (go_quiet (fail); go_upto_region 2 with (fail))
  go_cut [22] (fun v22 wc => ∃ (kq : Nat) (x22_1 : Bool), v22 = .bool x22_1 ∧ Aside0 (spec_Whole.j0 kq a0 0 0 x22_1 = some (r1, r2, r3)) ∧ Aside0 (kq ≤ k) ∧ Drawn0 w wc)
  case first =>
    have H := HC2.out
    clear HC2
    by_cases c3 : 0 < (a0.size : Int)
    · rw [if_pos c3] at H
      have c3b0 : decide (0 < (a0.size : Int)) = true := decide_eq_true c3
      have c3b1 : decide (0 < a0.size) = true := decide_eq_true (by omega)
      clear c3
      (first | rw [c3b0] | (simp only [i64_w, i32_w]; rw [c3b0]) | skip)
      by_cases c5 : (bt a0 0) = 45
      · rw [if_pos c5] at H
        have c5b0 : ((bt a0 0) == 45) = true := beq_iff_eq.mpr c5
        have c5b1 : ((bt a0 0) != 45) = false := bne_eq_false_iff_eq.mpr c5
        clear c5
        have H' := Aside0.mk H
        clear H
        have p4 : 0 ≤ (0 : Int) := (by omega)
        have q4 : 0 < a0.size := (by have : (0 : Int) < (a0.size : Int) := of_decide_eq_true (by first | (with_reducible assumption) | assumption); omega)
        have hx4 : ∀ h : 0 < a0.size, ((a0[0]'h).toNat : Int) = bt a0 0 := bt_at a0 0
        clear p4
        have qi4 : (0 < (a0.size : Int)) = True := eq_true (of_decide_eq_true (by first | (with_reducible assumption) | assumption))
        replace q4 := eq_true q4
        go_wp2
        repeat (go_quiet (fail); try go_wp2)
        go_meet
        case rel => exact ⟨_, (true), (by first | rfl | (simp; done) | (simp [*]; done)), H', ⟨by first | omega | exact Nat.le_refl _⟩, by repeat (first | exact Drawn0.refl _ | apply Drawn0.step)⟩
      · rw [if_neg c5] at H
        have c5b0 : ((bt a0 0) == 45) = false := beq_eq_false_iff_ne.mpr c5
        have c5b1 : ((bt a0 0) != 45) = true := bne_iff_ne.mpr c5
        have H' := Aside0.mk H
        clear H
        have p4 : 0 ≤ (0 : Int) := (by omega)
        have q4 : 0 < a0.size := (by have : (0 : Int) < (a0.size : Int) := of_decide_eq_true (by first | (with_reducible assumption) | assumption); omega)
        have hx4 : ∀ h : 0 < a0.size, ((a0[0]'h).toNat : Int) = bt a0 0 := bt_at a0 0
        clear p4
        have qi4 : (0 < (a0.size : Int)) = True := eq_true (of_decide_eq_true (by first | (with_reducible assumption) | assumption))
        replace q4 := eq_true q4
        have p6 : 0 ≤ (0 : Int) := (by omega)
        have q6 : 0 < a0.size := (by have : (0 : Int) < (a0.size : Int) := of_decide_eq_true (by first | (with_reducible assumption) | assumption); omega)
        have hx6 : ∀ h : 0 < a0.size, ((a0[0]'h).toNat : Int) = bt a0 0 := bt_at a0 0
        clear p6
        have qi6 : (0 < (a0.size : Int)) = True := eq_true (of_decide_eq_true (by first | (with_reducible assumption) | assumption))
        replace q6 := eq_true q6
        go_wp2
        repeat (go_quiet (fail); try go_wp2)
        go_meet
        case rel => exact ⟨_, (((bt a0 0) == 43)), (by first | rfl | (simp; done) | (simp [*]; done)), H', ⟨by first | omega | exact Nat.le_refl _⟩, by repeat (first | exact Drawn0.refl _ | apply Drawn0.step)⟩
    · rw [if_neg c3] at H
      have c3b0 : decide (0 < (a0.size : Int)) = false := decide_eq_false c3
      have c3b1 : decide (0 < a0.size) = false := decide_eq_false (by omega)
      clear c3
      (first | rw [c3b0] | (simp only [i64_w, i32_w]; rw [c3b0]) | skip)
      have H' := Aside0.mk H
      clear H
      go_wp2
      repeat (go_quiet (fail); try go_wp2)
      go_meet
      case rel => exact ⟨_, (false), (by first | rfl | (simp; done) | (simp [*]; done)), H', ⟨by first | omega | exact Nat.le_refl _⟩, by repeat (first | exact Drawn0.refl _ | apply Drawn0.step)⟩
  case rest =>
    clear HC2
    try clear c1
    try clear p2
    try clear c3
    try clear c3b0
    try clear c3b1
    try clear p4
    try clear q4
    try clear hx4
    try clear qi4
    try clear c5
    try clear c5b0
    try clear c5b1
    try clear p6
    try clear q6
    try clear hx6
    try clear qi6
    try clear p4
    try clear p6
    try clear q4
    try clear q6
    obtain ⟨kq, x22_1, rfl, HA, HJ1, ⟨mc1, rfl⟩⟩ := hcut
    cases kq with
    | zero => exact absurd HA.out (by simp [spec_Whole.j0])
    | succ kj1 =>
      have H := HA.out
      clear HA
      simp only [spec_Whole.j0] at H
      have HC7 := Aside0.mk H
      clear H
      go_upto_if 22 with (fail)
      repeat (go_quiet (fail); go_upto_if 22 with (fail))
      go_cut [5] (fun v5 wc => ∃ (kq : Nat) (x5_6 : Int), v5 = .int .i64 x5_6 ∧ Aside0 (spec_Whole.j1 kq a0 0 x5_6 = some (r1, r2, r3)) ∧ Aside0 (kq ≤ kj1) ∧ Drawn0 w wc)
      case first =>
        have H := HC7.out
        clear HC7
        by_cases c8 : x22_1 = true
        · subst c8
          have H1 : (spec_Whole.j1 kj1 a0 0 (wrap64 (0 + 1))) = some (r1, r2, r3) := by rw [if_pos rfl] at H; exact H
          clear H
          have H := H1
          clear H1
          have H' := Aside0.mk H
          clear H
          go_wp2
          repeat (go_quiet (fail); try go_wp2)
          go_meet
          case rel => exact ⟨_, (wrap64 (0 + 1)), (by first | rfl | (simp; done) | (simp [*]; done) | (simp [wrap64]; done)), H', ⟨by have := HJ1.out; first | omega | exact Nat.le_refl _⟩, by repeat (first | exact Drawn0.refl _ | apply Drawn0.step)⟩
        · replace c8 := Bool.eq_false_iff.mpr c8
          subst c8
          have H1 : (spec_Whole.j1 kj1 a0 0 0) = some (r1, r2, r3) := by rw [if_neg (show ¬ (false = true) by decide)] at H; exact H
          clear H
          have H := H1
          clear H1
          have H' := Aside0.mk H
          clear H
          go_wp2
          repeat (go_quiet (fail); try go_wp2)
          go_meet
          case rel => exact ⟨_, (0), (by first | rfl | (simp; done) | (simp [*]; done)), H', ⟨by have := HJ1.out; first | omega | exact Nat.le_refl _⟩, by repeat (first | exact Drawn0.refl _ | apply Drawn0.step)⟩
      case rest =>
        clear HC7
        try clear c1
        try clear p2
        try clear c3
        try clear c3b0
        try clear c3b1
        try clear p4
        try clear q4
        try clear hx4
        try clear qi4
        try clear c5
        try clear c5b0
        try clear c5b1
        try clear p6
        try clear q6
        try clear hx6
        try clear qi6
        try clear c8
        try clear p2
        try clear p4
        try clear p6
        try clear q4
        try clear q6
        obtain ⟨kq, x5_6, rfl, HA, HJ6, ⟨mc6, rfl⟩⟩ := hcut
        cases kq with
        | zero => exact absurd HA.out (by simp [spec_Whole.j1])
        | succ kj6 =>
          have H := HA.out
          clear HA
          simp only [spec_Whole.j1] at H
          by_cases c9 : x5_6 = (a0.size : Int)
          · rw [if_pos c9] at H
            have c9b0 : (x5_6 == (a0.size : Int)) = true := beq_iff_eq.mpr c9
            have c9b1 : (x5_6 != (a0.size : Int)) = false := bne_eq_false_iff_eq.mpr c9
            clear c9
            simp only [Option.some.injEq, Prod.mk.injEq] at H
            obtain ⟨rfl, rfl, rfl⟩ := H
            go_wp2
            repeat (go_quiet (fail); try go_wp2)
            go_ret3
            exact ⟨by first | rfl | (simp; done) | (simp [*]; done), by repeat (first | exact Drawn0.refl _ | apply Drawn0.step)⟩
          · rw [if_neg c9] at H
            have c9b0 : (x5_6 == (a0.size : Int)) = false := beq_eq_false_iff_ne.mpr c9
            have c9b1 : (x5_6 != (a0.size : Int)) = true := bne_iff_ne.mpr c9
            have H' := Aside0.mk H
            clear H
            go_wp2
            repeat (go_quiet (fail); try go_wp2)
            go_loopg [2, 6] kj6 (fun kq v2 v6 w' => ∃ (x2_3 : Int) (x6_3 : Int), v2 = .int .i64 x2_3 ∧ v6 = .int .i64 x6_3 ∧ Aside0 (spec_Whole.l0 kq a0 x2_3 x5_6 x6_3 = some (r1, r2, r3)) ∧ Aside0 (kq ≤ kj6) ∧ Drawn0 w w')
            case atStart => exact ⟨(0), (x5_6), (by first | rfl | (simp; done) | (simp [*]; done)), (by first | rfl | (simp; done) | (simp [*]; done)), H', ⟨Nat.le_refl _⟩, by repeat (first | exact Drawn0.refl _ | apply Drawn0.step)⟩
            case round =>
              clear H'
              try clear c1
              try clear p2
              try clear c3
              try clear c3b0
              try clear c3b1
              try clear p4
              try clear q4
              try clear hx4
              try clear qi4
              try clear c5
              try clear c5b0
              try clear c5b1
              try clear c6
              try clear p6
              try clear q6
              try clear hx6
              try clear qi6
              try clear c8
              try clear c9
              try clear c9b0
              try clear c9b1
              try clear p2
              try clear p4
              try clear p6
              try clear q4
              try clear q6
              obtain ⟨x2_3, x6_3, rfl, rfl, HA, HK3, ⟨m3, rfl⟩⟩ := hrel
              cases gk with
              | zero => exact absurd HA.out (by simp [spec_Whole.l0])
              | succ k3 =>
                have H := HA.out
                clear HA
                simp only [spec_Whole.l0] at H
                by_cases c10 : x6_3 < (a0.size : Int)
                · rw [if_pos c10] at H
                  have c10b0 : decide (x6_3 < (a0.size : Int)) = true := decide_eq_true c10
                  clear c10
                  have HC11 := Aside0.mk H
                  clear H
                  go_upto_region 9 with (fail)
                  repeat (go_quiet (fail); go_upto_region 9 with (fail))
                  go_cut [45] (fun v45 wc => ∃ (kq : Nat) (x45_10 : Bool), v45 = .bool x45_10 ∧ Aside0 (spec_Whole.j3 kq a0 x2_3 x5_6 x6_3 x45_10 = some (r1, r2, r3)) ∧ Aside0 (kq ≤ k3) ∧ Drawn0 w wc)
                  case first =>
                    have H := HC11.out
                    clear HC11
                    by_cases c12 : 0 ≤ x6_3
                    · rw [if_pos c12] at H
                      have c12b0 : decide (0 ≤ x6_3) = true := decide_eq_true c12
                      clear c12
                      (first | rw [c12b0] | (simp only [i64_w, i32_w]; rw [c12b0]) | skip)
                      by_cases c14 : (bt a0 x6_3) < 48
                      · rw [if_pos c14] at H
                        have c14b0 : decide ((bt a0 x6_3) < 48) = true := decide_eq_true c14
                        clear c14
                        have H' := Aside0.mk H
                        clear H
                        have p13 : 0 ≤ (x6_3 : Int) := of_decide_eq_true (by first | (with_reducible assumption) | assumption)
                        have q13 : x6_3 < (a0.size : Int) := of_decide_eq_true (by first | (with_reducible assumption) | assumption)
                        have hx13 := bt_at a0 x6_3
                        replace p13 := eq_true p13
                        replace q13 := eq_true q13
                        go_wp2
                        repeat (go_quiet (fail); try go_wp2)
                        go_meet
                        case rel => exact ⟨_, (true), (by first | rfl | (simp; done) | (simp [*]; done)), H', ⟨by have := HJ1.out; have := HJ6.out; have := HK3.out; first | omega | exact Nat.le_refl _⟩, by repeat (first | exact Drawn0.refl _ | apply Drawn0.step)⟩
                      · rw [if_neg c14] at H
                        have c14b0 : decide ((bt a0 x6_3) < 48) = false := decide_eq_false c14
                        clear c14
                        have H' := Aside0.mk H
                        clear H
                        have p13 : 0 ≤ (x6_3 : Int) := of_decide_eq_true (by first | (with_reducible assumption) | assumption)
                        have q13 : x6_3 < (a0.size : Int) := of_decide_eq_true (by first | (with_reducible assumption) | assumption)
                        have hx13 := bt_at a0 x6_3
                        replace p13 := eq_true p13
                        replace q13 := eq_true q13
                        have p15 : 0 ≤ (x6_3 : Int) := of_decide_eq_true (by first | (with_reducible assumption) | assumption)
                        have q15 : x6_3 < (a0.size : Int) := of_decide_eq_true (by first | (with_reducible assumption) | assumption)
                        have hx15 := bt_at a0 x6_3
                        replace p15 := eq_true p15
                        replace q15 := eq_true q15
                        go_wp2
                        repeat (go_quiet (fail); try go_wp2)
                        go_meet
                        case rel => exact ⟨_, (decide ((bt a0 x6_3) > 57)), (by first | rfl | (simp; done) | (simp [*]; done)), H', ⟨by have := HJ1.out; have := HJ6.out; have := HK3.out; first | omega | exact Nat.le_refl _⟩, by repeat (first | exact Drawn0.refl _ | apply Drawn0.step)⟩
                    · rw [if_neg c12] at H
                      exact absurd H (by simp)
                  case rest =>
                    clear HC11
                    try clear c1
                    try clear p1
                    try clear q1
                    try clear hx1
                    try clear p2
                    try clear c3
                    try clear c3b0
                    try clear c3b1
                    try clear p4
                    try clear q4
                    try clear hx4
                    try clear qi4
                    try clear c5
                    try clear c5b0
                    try clear c5b1
                    try clear c6
                    try clear p6
                    try clear q6
                    try clear hx6
                    try clear qi6
                    try clear c8
                    try clear c9
                    try clear c9b0
                    try clear c9b1
                    try clear c10
                    try clear c10b0
                    try clear c12
                    try clear c12b0
                    try clear p13
                    try clear q13
                    try clear hx13
                    try clear c14
                    try clear c14b0
                    try clear p15
                    try clear q15
                    try clear hx15
                    try clear p13
                    try clear p15
                    try clear p2
                    try clear p4
                    try clear p6
                    try clear q13
                    try clear q15
                    try clear q4
                    try clear q6
                    obtain ⟨kq, x45_10, rfl, HA, HJ10, ⟨mc10, rfl⟩⟩ := hcut
                    cases kq with
                    | zero => exact absurd HA.out (by simp [spec_Whole.j3])
                    | succ kj10 =>
                      have H := HA.out
                      clear HA
                      simp only [spec_Whole.j3] at H
                      by_cases c16 : x45_10 = true
                      · subst c16
                        have H1 : (if 0 ≤ x6_3 then (if x6_3 < (a0.size : Int) then (some (0, false, ((bt a0 x6_3) != 95))) else (none)) else (none)) = some (r1, r2, r3) := by rw [if_pos rfl] at H; exact H
                        clear H
                        have H := H1
                        clear H1
                        by_cases c17 : 0 ≤ x6_3
                        · rw [if_pos c17] at H
                          have c17b0 : decide (0 ≤ x6_3) = true := decide_eq_true c17
                          clear c17
                          by_cases c18 : x6_3 < (a0.size : Int)
                          · rw [if_pos c18] at H
                            have c18b0 : decide (x6_3 < (a0.size : Int)) = true := decide_eq_true c18
                            clear c18
                            simp only [Option.some.injEq, Prod.mk.injEq] at H
                            obtain ⟨rfl, rfl, rfl⟩ := H
                            have p19 : 0 ≤ (x6_3 : Int) := of_decide_eq_true (by first | (with_reducible assumption) | assumption)
                            have q19 : x6_3 < (a0.size : Int) := of_decide_eq_true (by first | (with_reducible assumption) | assumption)
                            have hx19 := bt_at a0 x6_3
                            replace p19 := eq_true p19
                            replace q19 := eq_true q19
                            go_wp2
                            repeat (go_quiet (fail); try go_wp2)
                            go_ret3
                            exact ⟨by first | rfl | (simp; done) | (simp [*]; done), by repeat (first | exact Drawn0.refl _ | apply Drawn0.step)⟩
                          · rw [if_neg c18] at H
                            exact absurd H (by simp)
                        · rw [if_neg c17] at H
                          exact absurd H (by simp)
                      · replace c16 := Bool.eq_false_iff.mpr c16
                        subst c16
                        have H1 : (if (wrap64 (x6_3 - x5_6)) < 18 then (if 0 ≤ x6_3 then (if x6_3 < (a0.size : Int) then (spec_Whole.l0 kj10 a0 (wrap64 ((wrap64 (x2_3 * 10)) + (((bt a0 x6_3) - 48) % 256))) x5_6 (wrap64 (x6_3 + 1))) else (none)) else (none)) else (spec_Whole.l0 kj10 a0 x2_3 x5_6 (wrap64 (x6_3 + 1)))) = some (r1, r2, r3) := by rw [if_neg (show ¬ (false = true) by decide)] at H; exact H
                        clear H
                        have H := H1
                        clear H1
                        by_cases c20 : (wrap64 (x6_3 - x5_6)) < 18
                        · rw [if_pos c20] at H
                          have c20b0 : decide ((wrap64 (x6_3 - x5_6)) < 18) = true := decide_eq_true c20
                          clear c20
                          by_cases c21 : 0 ≤ x6_3
                          · rw [if_pos c21] at H
                            have c21b0 : decide (0 ≤ x6_3) = true := decide_eq_true c21
                            clear c21
                            by_cases c22 : x6_3 < (a0.size : Int)
                            · rw [if_pos c22] at H
                              have c22b0 : decide (x6_3 < (a0.size : Int)) = true := decide_eq_true c22
                              clear c22
                              have H' := Aside0.mk H
                              clear H
                              have p23 : 0 ≤ (x6_3 : Int) := of_decide_eq_true (by first | (with_reducible assumption) | assumption)
                              have q23 : x6_3 < (a0.size : Int) := of_decide_eq_true (by first | (with_reducible assumption) | assumption)
                              have hx23 := bt_at a0 x6_3
                              replace p23 := eq_true p23
                              replace q23 := eq_true q23
                              go_wp2
                              repeat (go_quiet (fail); try go_wp2)
                              go_roundg kj10
                              case measure => have := HJ1.out; have := HJ6.out; have := HK3.out; have := HJ10.out; omega
                              case rel => exact ⟨(wrap64 ((wrap64 (x2_3 * 10)) + (((bt a0 x6_3) - 48) % 256))), (wrap64 (x6_3 + 1)), (by first | rfl | (simp; done) | (simp [*]; done)), (by first | rfl | (simp; done) | (simp [*]; done)), H', ⟨by have := HJ1.out; have := HJ6.out; have := HK3.out; have := HJ10.out; omega⟩, by repeat (first | exact Drawn0.refl _ | apply Drawn0.step)⟩
                            · rw [if_neg c22] at H
                              exact absurd H (by simp)
                          · rw [if_neg c21] at H
                            exact absurd H (by simp)
                        · rw [if_neg c20] at H
                          have c20b0 : decide ((wrap64 (x6_3 - x5_6)) < 18) = false := decide_eq_false c20
                          clear c20
                          have H' := Aside0.mk H
                          clear H
                          go_wp2
                          repeat (go_quiet (fail); try go_wp2)
                          go_roundg kj10
                          case measure => have := HJ1.out; have := HJ6.out; have := HK3.out; have := HJ10.out; omega
                          case rel => exact ⟨(x2_3), (wrap64 (x6_3 + 1)), (by first | rfl | (simp; done) | (simp [*]; done)), (by first | rfl | (simp; done) | (simp [*]; done)), H', ⟨by have := HJ1.out; have := HJ6.out; have := HK3.out; have := HJ10.out; omega⟩, by repeat (first | exact Drawn0.refl _ | apply Drawn0.step)⟩
                · rw [if_neg c10] at H
                  have c10b0 : decide (x6_3 < (a0.size : Int)) = false := decide_eq_false c10
                  clear c10
                  have HC24 := Aside0.mk H
                  clear H
                  go_upto_region 13 with (fail)
                  repeat (go_quiet (fail); go_upto_region 13 with (fail))
                  go_cut [71] (fun v71 wc => ∃ (kq : Nat) (x71_23 : Bool), v71 = .bool x71_23 ∧ Aside0 (spec_Whole.j4 kq a0 x2_3 x71_23 = some (r1, r2, r3)) ∧ Aside0 (kq ≤ k3) ∧ Drawn0 w wc)
                  case first =>
                    have H := HC24.out
                    clear HC24
                    by_cases c25 : (wrap64 ((a0.size : Int) - x5_6)) > 18
                    · rw [if_pos c25] at H
                      have c25b0 : decide (18 < (wrap64 ((a0.size : Int) - x5_6))) = true := decide_eq_true c25
                      clear c25
                      (first | rw [c25b0] | (simp only [i64_w, i32_w]; rw [c25b0]) | skip)
                      have H' := Aside0.mk H
                      clear H
                      go_wp2
                      repeat (go_quiet (fail); try go_wp2)
                      go_meet
                      case rel => exact ⟨_, (true), (by first | rfl | (simp; done) | (simp [*]; done)), H', ⟨by have := HJ1.out; have := HJ6.out; have := HK3.out; first | omega | exact Nat.le_refl _⟩, by repeat (first | exact Drawn0.refl _ | apply Drawn0.step)⟩
                    · rw [if_neg c25] at H
                      have c25b0 : decide (18 < (wrap64 ((a0.size : Int) - x5_6))) = false := decide_eq_false c25
                      clear c25
                      (first | rw [c25b0] | (simp only [i64_w, i32_w]; rw [c25b0]) | skip)
                      by_cases c26 : 0 < (a0.size : Int)
                      · rw [if_pos c26] at H
                        have c26b0 : decide (0 < (a0.size : Int)) = true := decide_eq_true c26
                        have c26b1 : decide (0 < a0.size) = true := decide_eq_true (by omega)
                        clear c26
                        have H' := Aside0.mk H
                        clear H
                        have p27 : 0 ≤ (0 : Int) := (by omega)
                        have q27 : 0 < a0.size := (by have : (0 : Int) < (a0.size : Int) := of_decide_eq_true (by first | (with_reducible assumption) | assumption); omega)
                        have hx27 : ∀ h : 0 < a0.size, ((a0[0]'h).toNat : Int) = bt a0 0 := bt_at a0 0
                        clear p27
                        have qi27 : (0 < (a0.size : Int)) = True := eq_true (of_decide_eq_true (by first | (with_reducible assumption) | assumption))
                        replace q27 := eq_true q27
                        go_wp2
                        repeat (go_quiet (fail); try go_wp2)
                        go_meet
                        case rel => exact ⟨_, (((bt a0 0) == 43)), (by first | rfl | (simp; done) | (simp [*]; done)), H', ⟨by have := HJ1.out; have := HJ6.out; have := HK3.out; first | omega | exact Nat.le_refl _⟩, by repeat (first | exact Drawn0.refl _ | apply Drawn0.step)⟩
                      · rw [if_neg c26] at H
                        exact absurd H (by simp)
                  case rest =>
                    clear HC24
                    try clear c1
                    try clear p1
                    try clear q1
                    try clear hx1
                    try clear c2
                    try clear p2
                    try clear q2
                    try clear hx2
                    try clear qi2
                    try clear c3
                    try clear c3b0
                    try clear c3b1
                    try clear p4
                    try clear q4
                    try clear hx4
                    try clear qi4
                    try clear c5
                    try clear c5b0
                    try clear c5b1
                    try clear c6
                    try clear p6
                    try clear q6
                    try clear hx6
                    try clear qi6
                    try clear c8
                    try clear c9
                    try clear c9b0
                    try clear c9b1
                    try clear c10
                    try clear c10b0
                    try clear c12
                    try clear c12b0
                    try clear p13
                    try clear q13
                    try clear hx13
                    try clear c14
                    try clear c14b0
                    try clear p15
                    try clear q15
                    try clear hx15
                    try clear c16
                    try clear c17
                    try clear c17b0
                    try clear c18
                    try clear c18b0
                    try clear p19
                    try clear q19
                    try clear hx19
                    try clear c20
                    try clear c20b0
                    try clear c21
                    try clear c21b0
                    try clear c22
                    try clear c22b0
                    try clear p23
                    try clear q23
                    try clear hx23
                    try clear c25
                    try clear c25b0
                    try clear c26
                    try clear c26b0
                    try clear c26b1
                    try clear p27
                    try clear q27
                    try clear hx27
                    try clear qi27
                    try clear p1
                    try clear p13
                    try clear p15
                    try clear p19
                    try clear p2
                    try clear p23
                    try clear p27
                    try clear p4
                    try clear p6
                    try clear q1
                    try clear q13
                    try clear q15
                    try clear q19
                    try clear q23
                    try clear q27
                    try clear q4
                    try clear q6
                    obtain ⟨kq, x71_23, rfl, HA, HJ23, ⟨mc23, rfl⟩⟩ := hcut
                    cases kq with
                    | zero => exact absurd HA.out (by simp [spec_Whole.j4])
                    | succ kj23 =>
                      have H := HA.out
                      clear HA
                      simp only [spec_Whole.j4] at H
                      by_cases c28 : x71_23 = true
                      · subst c28
                        have H1 : (some (0, false, false)) = some (r1, r2, r3) := by rw [if_pos rfl] at H; exact H
                        clear H
                        have H := H1
                        clear H1
                        simp only [Option.some.injEq, Prod.mk.injEq] at H
                        obtain ⟨rfl, rfl, rfl⟩ := H
                        go_wp2
                        repeat (go_quiet (fail); try go_wp2)
                        go_ret3
                        exact ⟨by first | rfl | (simp; done) | (simp [*]; done), by repeat (first | exact Drawn0.refl _ | apply Drawn0.step)⟩
                      · replace c28 := Bool.eq_false_iff.mpr c28
                        subst c28
                        have H1 : (if 0 < (a0.size : Int) then (if (bt a0 0) = 45 then (some (wrap64 (-x2_3), true, true)) else (some (x2_3, true, true))) else (none)) = some (r1, r2, r3) := by rw [if_neg (show ¬ (false = true) by decide)] at H; exact H
                        clear H
                        have H := H1
                        clear H1
                        by_cases c29 : 0 < (a0.size : Int)
                        · rw [if_pos c29] at H
                          have c29b0 : decide (0 < (a0.size : Int)) = true := decide_eq_true c29
                          have c29b1 : decide (0 < a0.size) = true := decide_eq_true (by omega)
                          clear c29
                          by_cases c31 : (bt a0 0) = 45
                          · rw [if_pos c31] at H
                            have c31b0 : ((bt a0 0) == 45) = true := beq_iff_eq.mpr c31
                            have c31b1 : ((bt a0 0) != 45) = false := bne_eq_false_iff_eq.mpr c31
                            clear c31
                            simp only [Option.some.injEq, Prod.mk.injEq] at H
                            obtain ⟨rfl, rfl, rfl⟩ := H
                            have p30 : 0 ≤ (0 : Int) := (by omega)
                            have q30 : 0 < a0.size := (by have : (0 : Int) < (a0.size : Int) := of_decide_eq_true (by first | (with_reducible assumption) | assumption); omega)
                            have hx30 : ∀ h : 0 < a0.size, ((a0[0]'h).toNat : Int) = bt a0 0 := bt_at a0 0
                            clear p30
                            have qi30 : (0 < (a0.size : Int)) = True := eq_true (of_decide_eq_true (by first | (with_reducible assumption) | assumption))
                            replace q30 := eq_true q30
                            go_wp2
                            repeat (go_quiet (fail); try go_wp2)
                            go_ret3
                            exact ⟨by first | rfl | (simp; done) | (simp [*]; done), by repeat (first | exact Drawn0.refl _ | apply Drawn0.step)⟩
                          · rw [if_neg c31] at H
                            have c31b0 : ((bt a0 0) == 45) = false := beq_eq_false_iff_ne.mpr c31
                            have c31b1 : ((bt a0 0) != 45) = true := bne_iff_ne.mpr c31
                            simp only [Option.some.injEq, Prod.mk.injEq] at H
                            obtain ⟨rfl, rfl, rfl⟩ := H
                            have p30 : 0 ≤ (0 : Int) := (by omega)
                            have q30 : 0 < a0.size := (by have : (0 : Int) < (a0.size : Int) := of_decide_eq_true (by first | (with_reducible assumption) | assumption); omega)
                            have hx30 : ∀ h : 0 < a0.size, ((a0[0]'h).toNat : Int) = bt a0 0 := bt_at a0 0
                            clear p30
                            have qi30 : (0 < (a0.size : Int)) = True := eq_true (of_decide_eq_true (by first | (with_reducible assumption) | assumption))
                            replace q30 := eq_true q30
                            go_wp2
                            repeat (go_quiet (fail); try go_wp2)
                            go_ret3
                            exact ⟨by first | rfl | (simp; done) | (simp [*]; done), by repeat (first | exact Drawn0.refl _ | apply Drawn0.step)⟩
                        · rw [if_neg c29] at H
                          exact absurd H (by simp)

end Go.Proofs.YtcdcoogjhkchlaaGreatDoor.P
