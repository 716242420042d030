-- Written by the program wip/myprint.py of this session, over the kit's print of the translation. Lean checks it.
import Derived.Test.YtlfkejljbehcaaaPx0
namespace Go.Proofs.Ytlfkejljbehcaaa.P
open Go.RowKit Go.Proofs.YtlfkejljbehcaaaW.PrintWords Go.Proofs.YtlfkejljbehcaaaW.PrintLast Go.Proofs.YtlfkejljbehcaaaW.PrintMore
attribute [local go_sem] max2_int min2_int max_two min_two max_three min_three max_four min_four   -- for this text's walks alone
set_option linter.unusedVariables false
set_option linter.unusedSimpArgs false

/-! ### laws_text9: function 9 -/
def laws_text9.l0 : Nat → ByteArray → Int → Option (Bool)
  | 0, _, _ => none
  | k + 1, x0, x3 => if x3 < (x0.size : Int) then (if 0 ≤ x3 then (if (bt x0 x3) = 0 then (some false) else (laws_text9.l0 k x0 (wrap64 (x3 + 1)))) else (none)) else (some true)
def laws_text9.f (k : Nat) (a0 : ByteArray) : Option (Bool) := if (a0.size : Int) > 1000 then (some false) else (laws_text9.l0 k a0 0)
theorem laws_text9.mono_l : ∀ k, (∀ y0 y1, LeO (laws_text9.l0 k y0 y1) (laws_text9.l0 (k + 1) y0 y1))
  | 0 => fun _ _ r h => by simp [laws_text9.l0] at h
  | k + 1 => by
    have ih0 := laws_text9.mono_l k
    · intro y0 y1
      unfold laws_text9.l0
      repeat' first
      | (with_reducible exact ih0 _ _)
      | (with_reducible exact LeO.refl _)
      | (with_reducible exact LeO.none _)
      | (with_reducible refine LeO.ite ?_ ?_)
      | (with_reducible refine LeO.bind ?_ (fun _ => ?_))
      | exact ih0 _ _
      | exact LeO.none _
      | refine LeO.ite ?_ ?_
      | refine LeO.bind ?_ (fun _ => ?_)
theorem laws_text9.mono : ∀ a0 k, LeO (laws_text9.f k a0) (laws_text9.f (k + 1) a0) := by
  intro a0 k
  have ih0 := laws_text9.mono_l k
  unfold laws_text9.f
  repeat' first
      | (with_reducible exact ih0 _ _)
      | (with_reducible exact LeO.refl _)
      | (with_reducible exact LeO.none _)
      | (with_reducible refine LeO.ite ?_ ?_)
      | (with_reducible refine LeO.bind ?_ (fun _ => ?_))
      | exact ih0 _ _
      | exact LeO.none _
      | refine LeO.ite ?_ ?_
      | refine LeO.bind ?_ (fun _ => ?_)
set_option maxHeartbeats 8000000 in
set_option maxRecDepth 100000 in
theorem laws_text9.calls (k : Nat) (a0 : ByteArray) (r : Bool) (w : World) (h : laws_text9.f k a0 = some r) :
    Calls Try.prog 9 #[.string a0] w fun e w' => e = .returned (.bool r) ∧ Drawn0 w w' := by
  have H : (if (a0.size : Int) > 1000 then (some false) else (laws_text9.l0 k a0 0)) = some r := h
  clear h
  by_cases c2 : (a0.size : Int) > 1000
  · rw [if_pos c2] at H
    have c2b0 : decide (1000 < (a0.size : Int)) = true := decide_eq_true c2
    have c2b1 : decide (1000 < a0.size) = true := decide_eq_true (by omega)
    clear c2
    obtain rfl := Option.some.inj H
    go_enter Try.func9, Try.ntmps9
    go_wp2
    go_ret
    exact ⟨by first | rfl | (simp; done) | (simp [*]; done), by repeat (first | exact Drawn0.refl _ | apply Drawn0.step)⟩
  · rw [if_neg c2] at H
    have c2b0 : decide (1000 < (a0.size : Int)) = false := decide_eq_false c2
    have c2b1 : decide (1000 < a0.size) = false := decide_eq_false (by omega)
    clear c2
    have H' := Aside0.mk H
    clear H
    go_enter Try.func9, Try.ntmps9
    go_wp2
    go_loopg [3] k (fun kq v3 w' => ∃ (x3_1 : Int), v3 = .int .i64 x3_1 ∧ Aside0 (laws_text9.l0 kq a0 x3_1 = some r) ∧ Aside0 (kq ≤ k) ∧ Drawn0 w w')
    case atStart => exact ⟨(0), (by first | rfl | (simp; done) | (simp [*]; done)), H', ⟨Nat.le_refl _⟩, by repeat (first | exact Drawn0.refl _ | apply Drawn0.step)⟩
    case round =>
      clear H'
      try clear c2
      try clear c2b0
      try clear c2b1
      try clear p2
      obtain ⟨x3_1, rfl, HA, HK1, ⟨m1, rfl⟩⟩ := hrel
      cases gk with
      | zero => exact absurd HA.out (by simp [laws_text9.l0])
      | succ k1 =>
        have H := HA.out
        clear HA
        simp only [laws_text9.l0] at H
        by_cases c3 : x3_1 < (a0.size : Int)
        · rw [if_pos c3] at H
          have c3b0 : decide (x3_1 < (a0.size : Int)) = true := decide_eq_true c3
          clear c3
          by_cases c4 : 0 ≤ x3_1
          · rw [if_pos c4] at H
            have c4b0 : decide (0 ≤ x3_1) = true := decide_eq_true c4
            clear c4
            by_cases c6 : (bt a0 x3_1) = 0
            · rw [if_pos c6] at H
              have c6b0 : ((bt a0 x3_1) == 0) = true := beq_iff_eq.mpr c6
              have c6b1 : ((bt a0 x3_1) != 0) = false := bne_eq_false_iff_eq.mpr c6
              clear c6
              obtain rfl := Option.some.inj H
              have p5 : 0 ≤ (x3_1 : Int) := of_decide_eq_true (by first | (with_reducible assumption) | assumption)
              have q5 : x3_1 < (a0.size : Int) := of_decide_eq_true (by first | (with_reducible assumption) | assumption)
              have hx5 := bt_at a0 x3_1
              replace p5 := eq_true p5
              replace q5 := eq_true q5
              go_wp2
              go_ret
              exact ⟨by first | rfl | (simp; done) | (simp [*]; done), by repeat (first | exact Drawn0.refl _ | apply Drawn0.step)⟩
            · rw [if_neg c6] at H
              have c6b0 : ((bt a0 x3_1) == 0) = false := beq_eq_false_iff_ne.mpr c6
              have c6b1 : ((bt a0 x3_1) != 0) = true := bne_iff_ne.mpr c6
              have H' := Aside0.mk H
              clear H
              have p5 : 0 ≤ (x3_1 : Int) := of_decide_eq_true (by first | (with_reducible assumption) | assumption)
              have q5 : x3_1 < (a0.size : Int) := of_decide_eq_true (by first | (with_reducible assumption) | assumption)
              have hx5 := bt_at a0 x3_1
              replace p5 := eq_true p5
              replace q5 := eq_true q5
              go_wp2
              go_roundg k1
              case measure => have := HK1.out; omega
              case rel => exact ⟨(wrap64 (x3_1 + 1)), (by first | rfl | (simp; done) | (simp [*]; done)), H', ⟨by have := HK1.out; omega⟩, by repeat (first | exact Drawn0.refl _ | apply Drawn0.step)⟩
          · rw [if_neg c4] at H
            exact absurd H (by simp)
        · rw [if_neg c3] at H
          have c3b0 : decide (x3_1 < (a0.size : Int)) = false := decide_eq_false c3
          clear c3
          obtain rfl := Option.some.inj H
          go_wp2
          go_ret
          exact ⟨by first | rfl | (simp; done) | (simp [*]; done), by repeat (first | exact Drawn0.refl _ | apply Drawn0.step)⟩

/-! ### spec_Yes: function 10 -/
def spec_Yes.j0 : Nat → ByteArray → Bool → Option (Bool × Bool)
  | 0, _, _ => none
  | k + 1, x4, x5 => if x5 = true then (some (true, true)) else (if x4.toList = ([48] : List UInt8) then (some (false, true)) else (if x4.toList = ([102] : List UInt8) then (some (false, true)) else (if x4.toList = ([70] : List UInt8) then (some (false, true)) else (if x4.toList = ([102, 97, 108, 115, 101] : List UInt8) then (some (false, true)) else (if x4.toList = ([70, 65, 76, 83, 69] : List UInt8) then (some (false, true)) else (if x4.toList = ([70, 97, 108, 115, 101] : List UInt8) then (some (false, true)) else (if x4.toList = ([110, 111] : List UInt8) then (some (false, true)) else (if x4.toList = ([111, 102, 102] : List UInt8) then (some (false, true)) else (some (false, false))))))))))
def spec_Yes.f (k : Nat) (a0 : ByteArray) : Option (Bool × Bool) := if a0.toList = ([49] : List UInt8) then (spec_Yes.j0 k a0 (a0.toList == ([49] : List UInt8))) else (if a0.toList = ([116] : List UInt8) then (spec_Yes.j0 k a0 (a0.toList == ([116] : List UInt8))) else (if a0.toList = ([84] : List UInt8) then (spec_Yes.j0 k a0 (a0.toList == ([84] : List UInt8))) else (if a0.toList = ([116, 114, 117, 101] : List UInt8) then (spec_Yes.j0 k a0 (a0.toList == ([116, 114, 117, 101] : List UInt8))) else (if a0.toList = ([84, 82, 85, 69] : List UInt8) then (spec_Yes.j0 k a0 (a0.toList == ([84, 82, 85, 69] : List UInt8))) else (if a0.toList = ([84, 114, 117, 101] : List UInt8) then (spec_Yes.j0 k a0 (a0.toList == ([84, 114, 117, 101] : List UInt8))) else (if a0.toList = ([121, 101, 115] : List UInt8) then (spec_Yes.j0 k a0 (a0.toList == ([121, 101, 115] : List UInt8))) else (spec_Yes.j0 k a0 (a0.toList == ([111, 110] : List UInt8)))))))))
theorem spec_Yes.mono_l : ∀ k, (∀ y0 y1, LeO (spec_Yes.j0 k y0 y1) (spec_Yes.j0 (k + 1) y0 y1))
  | 0 => fun _ _ r h => by simp [spec_Yes.j0] at h
  | k + 1 => by
    have ih0 := spec_Yes.mono_l k
    · intro y0 y1
      unfold spec_Yes.j0
      repeat' first
      | (with_reducible exact ih0 _ _)
      | (with_reducible exact LeO.refl _)
      | (with_reducible exact LeO.none _)
      | (with_reducible refine LeO.ite ?_ ?_)
      | (with_reducible refine LeO.bind ?_ (fun _ => ?_))
      | exact ih0 _ _
      | exact LeO.none _
      | refine LeO.ite ?_ ?_
      | refine LeO.bind ?_ (fun _ => ?_)
theorem spec_Yes.mono : ∀ a0 k, LeO (spec_Yes.f k a0) (spec_Yes.f (k + 1) a0) := by
  intro a0 k
  have ih0 := spec_Yes.mono_l k
  unfold spec_Yes.f
  repeat' first
      | (with_reducible exact ih0 _ _)
      | (with_reducible exact LeO.refl _)
      | (with_reducible exact LeO.none _)
      | (with_reducible refine LeO.ite ?_ ?_)
      | (with_reducible refine LeO.bind ?_ (fun _ => ?_))
      | exact ih0 _ _
      | exact LeO.none _
      | refine LeO.ite ?_ ?_
      | refine LeO.bind ?_ (fun _ => ?_)
set_option maxHeartbeats 8000000 in
set_option maxRecDepth 100000 in
theorem spec_Yes.calls (k : Nat) (a0 : ByteArray) (r1 : Bool) (r2 : Bool) (w : World) (h : spec_Yes.f k a0 = some (r1, r2)) :
    Calls Try.prog 10 #[.string a0] w fun e w' => e = .returned (.tuple #[.bool r1, .bool r2]) ∧ Drawn0 w w' := by
  have H : (if a0.toList = ([49] : List UInt8) then (spec_Yes.j0 k a0 (a0.toList == ([49] : List UInt8))) else (if a0.toList = ([116] : List UInt8) then (spec_Yes.j0 k a0 (a0.toList == ([116] : List UInt8))) else (if a0.toList = ([84] : List UInt8) then (spec_Yes.j0 k a0 (a0.toList == ([84] : List UInt8))) else (if a0.toList = ([116, 114, 117, 101] : List UInt8) then (spec_Yes.j0 k a0 (a0.toList == ([116, 114, 117, 101] : List UInt8))) else (if a0.toList = ([84, 82, 85, 69] : List UInt8) then (spec_Yes.j0 k a0 (a0.toList == ([84, 82, 85, 69] : List UInt8))) else (if a0.toList = ([84, 114, 117, 101] : List UInt8) then (spec_Yes.j0 k a0 (a0.toList == ([84, 114, 117, 101] : List UInt8))) else (if a0.toList = ([121, 101, 115] : List UInt8) then (spec_Yes.j0 k a0 (a0.toList == ([121, 101, 115] : List UInt8))) else (spec_Yes.j0 k a0 (a0.toList == ([111, 110] : List UInt8)))))))))) = some (r1, r2) := h
  clear h
  have HC2 := Aside0.mk H
  clear H
  go_enter Try.func10, Try.ntmps10
  go_upto_if 5 with (fail)
  go_cut [5] (fun v5 wc => ∃ (kq : Nat) (x5_1 : Bool), v5 = .bool x5_1 ∧ Aside0 (spec_Yes.j0 kq a0 x5_1 = some (r1, r2)) ∧ Aside0 (kq ≤ k) ∧ Drawn0 w wc)
  case first =>
    have H := HC2.out
    clear HC2
    by_cases c3 : a0.toList = ([49] : List UInt8)
    · rw [if_pos c3] at H
      have c3b0 : (a0.toList == ([49] : List UInt8)) = true := beq_iff_eq.mpr c3
      have c3b1 : (a0.toList != ([49] : List UInt8)) = false := bne_eq_false_iff_eq.mpr c3
      clear c3
      (first | rw [c3b0] | (simp only [i64_w, i32_w]; rw [c3b0]) | skip)
      have H' := Aside0.mk H
      clear H
      go_wp2
      go_meet
      case rel => exact ⟨_, ((a0.toList == ([49] : List UInt8))), (by first | rfl | (simp; done) | (simp [*]; done)), H', ⟨by first | omega | exact Nat.le_refl _⟩, by repeat (first | exact Drawn0.refl _ | apply Drawn0.step)⟩
    · rw [if_neg c3] at H
      have c3b0 : (a0.toList == ([49] : List UInt8)) = false := beq_eq_false_iff_ne.mpr c3
      have c3b1 : (a0.toList != ([49] : List UInt8)) = true := bne_iff_ne.mpr c3
      (first | rw [c3b0] | (simp only [i64_w, i32_w]; rw [c3b0]) | skip)
      by_cases c4 : a0.toList = ([116] : List UInt8)
      · rw [if_pos c4] at H
        have c4b0 : (a0.toList == ([116] : List UInt8)) = true := beq_iff_eq.mpr c4
        have c4b1 : (a0.toList != ([116] : List UInt8)) = false := bne_eq_false_iff_eq.mpr c4
        clear c4
        have H' := Aside0.mk H
        clear H
        go_wp2
        go_meet
        case rel => exact ⟨_, ((a0.toList == ([116] : List UInt8))), (by first | rfl | (simp; done) | (simp [*]; done)), H', ⟨by first | omega | exact Nat.le_refl _⟩, by repeat (first | exact Drawn0.refl _ | apply Drawn0.step)⟩
      · rw [if_neg c4] at H
        have c4b0 : (a0.toList == ([116] : List UInt8)) = false := beq_eq_false_iff_ne.mpr c4
        have c4b1 : (a0.toList != ([116] : List UInt8)) = true := bne_iff_ne.mpr c4
        by_cases c5 : a0.toList = ([84] : List UInt8)
        · rw [if_pos c5] at H
          have c5b0 : (a0.toList == ([84] : List UInt8)) = true := beq_iff_eq.mpr c5
          have c5b1 : (a0.toList != ([84] : List UInt8)) = false := bne_eq_false_iff_eq.mpr c5
          clear c5
          have H' := Aside0.mk H
          clear H
          go_wp2
          go_meet
          case rel => exact ⟨_, ((a0.toList == ([84] : List UInt8))), (by first | rfl | (simp; done) | (simp [*]; done)), H', ⟨by first | omega | exact Nat.le_refl _⟩, by repeat (first | exact Drawn0.refl _ | apply Drawn0.step)⟩
        · rw [if_neg c5] at H
          have c5b0 : (a0.toList == ([84] : List UInt8)) = false := beq_eq_false_iff_ne.mpr c5
          have c5b1 : (a0.toList != ([84] : List UInt8)) = true := bne_iff_ne.mpr c5
          by_cases c6 : a0.toList = ([116, 114, 117, 101] : List UInt8)
          · rw [if_pos c6] at H
            have c6b0 : (a0.toList == ([116, 114, 117, 101] : List UInt8)) = true := beq_iff_eq.mpr c6
            have c6b1 : (a0.toList != ([116, 114, 117, 101] : List UInt8)) = false := bne_eq_false_iff_eq.mpr c6
            clear c6
            have H' := Aside0.mk H
            clear H
            go_wp2
            go_meet
            case rel => exact ⟨_, ((a0.toList == ([116, 114, 117, 101] : List UInt8))), (by first | rfl | (simp; done) | (simp [*]; done)), H', ⟨by first | omega | exact Nat.le_refl _⟩, by repeat (first | exact Drawn0.refl _ | apply Drawn0.step)⟩
          · rw [if_neg c6] at H
            have c6b0 : (a0.toList == ([116, 114, 117, 101] : List UInt8)) = false := beq_eq_false_iff_ne.mpr c6
            have c6b1 : (a0.toList != ([116, 114, 117, 101] : List UInt8)) = true := bne_iff_ne.mpr c6
            by_cases c7 : a0.toList = ([84, 82, 85, 69] : List UInt8)
            · rw [if_pos c7] at H
              have c7b0 : (a0.toList == ([84, 82, 85, 69] : List UInt8)) = true := beq_iff_eq.mpr c7
              have c7b1 : (a0.toList != ([84, 82, 85, 69] : List UInt8)) = false := bne_eq_false_iff_eq.mpr c7
              clear c7
              have H' := Aside0.mk H
              clear H
              go_wp2
              go_meet
              case rel => exact ⟨_, ((a0.toList == ([84, 82, 85, 69] : List UInt8))), (by first | rfl | (simp; done) | (simp [*]; done)), H', ⟨by first | omega | exact Nat.le_refl _⟩, by repeat (first | exact Drawn0.refl _ | apply Drawn0.step)⟩
            · rw [if_neg c7] at H
              have c7b0 : (a0.toList == ([84, 82, 85, 69] : List UInt8)) = false := beq_eq_false_iff_ne.mpr c7
              have c7b1 : (a0.toList != ([84, 82, 85, 69] : List UInt8)) = true := bne_iff_ne.mpr c7
              by_cases c8 : a0.toList = ([84, 114, 117, 101] : List UInt8)
              · rw [if_pos c8] at H
                have c8b0 : (a0.toList == ([84, 114, 117, 101] : List UInt8)) = true := beq_iff_eq.mpr c8
                have c8b1 : (a0.toList != ([84, 114, 117, 101] : List UInt8)) = false := bne_eq_false_iff_eq.mpr c8
                clear c8
                have H' := Aside0.mk H
                clear H
                go_wp2
                go_meet
                case rel => exact ⟨_, ((a0.toList == ([84, 114, 117, 101] : List UInt8))), (by first | rfl | (simp; done) | (simp [*]; done)), H', ⟨by first | omega | exact Nat.le_refl _⟩, by repeat (first | exact Drawn0.refl _ | apply Drawn0.step)⟩
              · rw [if_neg c8] at H
                have c8b0 : (a0.toList == ([84, 114, 117, 101] : List UInt8)) = false := beq_eq_false_iff_ne.mpr c8
                have c8b1 : (a0.toList != ([84, 114, 117, 101] : List UInt8)) = true := bne_iff_ne.mpr c8
                by_cases c9 : a0.toList = ([121, 101, 115] : List UInt8)
                · rw [if_pos c9] at H
                  have c9b0 : (a0.toList == ([121, 101, 115] : List UInt8)) = true := beq_iff_eq.mpr c9
                  have c9b1 : (a0.toList != ([121, 101, 115] : List UInt8)) = false := bne_eq_false_iff_eq.mpr c9
                  clear c9
                  have H' := Aside0.mk H
                  clear H
                  go_wp2
                  go_meet
                  case rel => exact ⟨_, ((a0.toList == ([121, 101, 115] : List UInt8))), (by first | rfl | (simp; done) | (simp [*]; done)), H', ⟨by first | omega | exact Nat.le_refl _⟩, by repeat (first | exact Drawn0.refl _ | apply Drawn0.step)⟩
                · rw [if_neg c9] at H
                  have c9b0 : (a0.toList == ([121, 101, 115] : List UInt8)) = false := beq_eq_false_iff_ne.mpr c9
                  have c9b1 : (a0.toList != ([121, 101, 115] : List UInt8)) = true := bne_iff_ne.mpr c9
                  have H' := Aside0.mk H
                  clear H
                  go_wp2
                  go_meet
                  case rel => exact ⟨_, ((a0.toList == ([111, 110] : List UInt8))), (by first | rfl | (simp; done) | (simp [*]; done)), H', ⟨by first | omega | exact Nat.le_refl _⟩, by repeat (first | exact Drawn0.refl _ | apply Drawn0.step)⟩
  case rest =>
    clear HC2
    try clear c1
    try clear p2
    try clear c3
    try clear c3b0
    try clear c3b1
    try clear c4
    try clear c4b0
    try clear c4b1
    try clear c5
    try clear c5b0
    try clear c5b1
    try clear c6
    try clear c6b0
    try clear c6b1
    try clear c7
    try clear c7b0
    try clear c7b1
    try clear c8
    try clear c8b0
    try clear c8b1
    try clear c9
    try clear c9b0
    try clear c9b1
    obtain ⟨kq, x5_1, rfl, HA, HJ1, ⟨mc1, rfl⟩⟩ := hcut
    cases kq with
    | zero => exact absurd HA.out (by simp [spec_Yes.j0])
    | succ kj1 =>
      have H := HA.out
      clear HA
      simp only [spec_Yes.j0] at H
      by_cases c10 : x5_1 = true
      · subst c10
        have H1 : (some (true, true)) = some (r1, r2) := by rw [if_pos rfl] at H; exact H
        clear H
        have H := H1
        clear H1
        simp only [Option.some.injEq, Prod.mk.injEq] at H
        obtain ⟨rfl, rfl⟩ := H
        go_wp2
        go_ret2
        exact ⟨by first | rfl | (simp; done) | (simp [*]; done), by repeat (first | exact Drawn0.refl _ | apply Drawn0.step)⟩
      · replace c10 := Bool.eq_false_iff.mpr c10
        subst c10
        have H1 : (if a0.toList = ([48] : List UInt8) then (some (false, true)) else (if a0.toList = ([102] : List UInt8) then (some (false, true)) else (if a0.toList = ([70] : List UInt8) then (some (false, true)) else (if a0.toList = ([102, 97, 108, 115, 101] : List UInt8) then (some (false, true)) else (if a0.toList = ([70, 65, 76, 83, 69] : List UInt8) then (some (false, true)) else (if a0.toList = ([70, 97, 108, 115, 101] : List UInt8) then (some (false, true)) else (if a0.toList = ([110, 111] : List UInt8) then (some (false, true)) else (if a0.toList = ([111, 102, 102] : List UInt8) then (some (false, true)) else (some (false, false)))))))))) = some (r1, r2) := by rw [if_neg (show ¬ (false = true) by decide)] at H; exact H
        clear H
        have H := H1
        clear H1
        by_cases c11 : a0.toList = ([48] : List UInt8)
        · rw [if_pos c11] at H
          have c11b0 : (a0.toList == ([48] : List UInt8)) = true := beq_iff_eq.mpr c11
          have c11b1 : (a0.toList != ([48] : List UInt8)) = false := bne_eq_false_iff_eq.mpr c11
          clear c11
          simp only [Option.some.injEq, Prod.mk.injEq] at H
          obtain ⟨rfl, rfl⟩ := H
          go_wp2
          go_ret2
          exact ⟨by first | rfl | (simp; done) | (simp [*]; done), by repeat (first | exact Drawn0.refl _ | apply Drawn0.step)⟩
        · rw [if_neg c11] at H
          have c11b0 : (a0.toList == ([48] : List UInt8)) = false := beq_eq_false_iff_ne.mpr c11
          have c11b1 : (a0.toList != ([48] : List UInt8)) = true := bne_iff_ne.mpr c11
          by_cases c12 : a0.toList = ([102] : List UInt8)
          · rw [if_pos c12] at H
            have c12b0 : (a0.toList == ([102] : List UInt8)) = true := beq_iff_eq.mpr c12
            have c12b1 : (a0.toList != ([102] : List UInt8)) = false := bne_eq_false_iff_eq.mpr c12
            clear c12
            simp only [Option.some.injEq, Prod.mk.injEq] at H
            obtain ⟨rfl, rfl⟩ := H
            go_wp2
            go_ret2
            exact ⟨by first | rfl | (simp; done) | (simp [*]; done), by repeat (first | exact Drawn0.refl _ | apply Drawn0.step)⟩
          · rw [if_neg c12] at H
            have c12b0 : (a0.toList == ([102] : List UInt8)) = false := beq_eq_false_iff_ne.mpr c12
            have c12b1 : (a0.toList != ([102] : List UInt8)) = true := bne_iff_ne.mpr c12
            by_cases c13 : a0.toList = ([70] : List UInt8)
            · rw [if_pos c13] at H
              have c13b0 : (a0.toList == ([70] : List UInt8)) = true := beq_iff_eq.mpr c13
              have c13b1 : (a0.toList != ([70] : List UInt8)) = false := bne_eq_false_iff_eq.mpr c13
              clear c13
              simp only [Option.some.injEq, Prod.mk.injEq] at H
              obtain ⟨rfl, rfl⟩ := H
              go_wp2
              go_ret2
              exact ⟨by first | rfl | (simp; done) | (simp [*]; done), by repeat (first | exact Drawn0.refl _ | apply Drawn0.step)⟩
            · rw [if_neg c13] at H
              have c13b0 : (a0.toList == ([70] : List UInt8)) = false := beq_eq_false_iff_ne.mpr c13
              have c13b1 : (a0.toList != ([70] : List UInt8)) = true := bne_iff_ne.mpr c13
              by_cases c14 : a0.toList = ([102, 97, 108, 115, 101] : List UInt8)
              · rw [if_pos c14] at H
                have c14b0 : (a0.toList == ([102, 97, 108, 115, 101] : List UInt8)) = true := beq_iff_eq.mpr c14
                have c14b1 : (a0.toList != ([102, 97, 108, 115, 101] : List UInt8)) = false := bne_eq_false_iff_eq.mpr c14
                clear c14
                simp only [Option.some.injEq, Prod.mk.injEq] at H
                obtain ⟨rfl, rfl⟩ := H
                go_wp2
                go_ret2
                exact ⟨by first | rfl | (simp; done) | (simp [*]; done), by repeat (first | exact Drawn0.refl _ | apply Drawn0.step)⟩
              · rw [if_neg c14] at H
                have c14b0 : (a0.toList == ([102, 97, 108, 115, 101] : List UInt8)) = false := beq_eq_false_iff_ne.mpr c14
                have c14b1 : (a0.toList != ([102, 97, 108, 115, 101] : List UInt8)) = true := bne_iff_ne.mpr c14
                by_cases c15 : a0.toList = ([70, 65, 76, 83, 69] : List UInt8)
                · rw [if_pos c15] at H
                  have c15b0 : (a0.toList == ([70, 65, 76, 83, 69] : List UInt8)) = true := beq_iff_eq.mpr c15
                  have c15b1 : (a0.toList != ([70, 65, 76, 83, 69] : List UInt8)) = false := bne_eq_false_iff_eq.mpr c15
                  clear c15
                  simp only [Option.some.injEq, Prod.mk.injEq] at H
                  obtain ⟨rfl, rfl⟩ := H
                  go_wp2
                  go_ret2
                  exact ⟨by first | rfl | (simp; done) | (simp [*]; done), by repeat (first | exact Drawn0.refl _ | apply Drawn0.step)⟩
                · rw [if_neg c15] at H
                  have c15b0 : (a0.toList == ([70, 65, 76, 83, 69] : List UInt8)) = false := beq_eq_false_iff_ne.mpr c15
                  have c15b1 : (a0.toList != ([70, 65, 76, 83, 69] : List UInt8)) = true := bne_iff_ne.mpr c15
                  by_cases c16 : a0.toList = ([70, 97, 108, 115, 101] : List UInt8)
                  · rw [if_pos c16] at H
                    have c16b0 : (a0.toList == ([70, 97, 108, 115, 101] : List UInt8)) = true := beq_iff_eq.mpr c16
                    have c16b1 : (a0.toList != ([70, 97, 108, 115, 101] : List UInt8)) = false := bne_eq_false_iff_eq.mpr c16
                    clear c16
                    simp only [Option.some.injEq, Prod.mk.injEq] at H
                    obtain ⟨rfl, rfl⟩ := H
                    go_wp2
                    go_ret2
                    exact ⟨by first | rfl | (simp; done) | (simp [*]; done), by repeat (first | exact Drawn0.refl _ | apply Drawn0.step)⟩
                  · rw [if_neg c16] at H
                    have c16b0 : (a0.toList == ([70, 97, 108, 115, 101] : List UInt8)) = false := beq_eq_false_iff_ne.mpr c16
                    have c16b1 : (a0.toList != ([70, 97, 108, 115, 101] : List UInt8)) = true := bne_iff_ne.mpr c16
                    by_cases c17 : a0.toList = ([110, 111] : List UInt8)
                    · rw [if_pos c17] at H
                      have c17b0 : (a0.toList == ([110, 111] : List UInt8)) = true := beq_iff_eq.mpr c17
                      have c17b1 : (a0.toList != ([110, 111] : List UInt8)) = false := bne_eq_false_iff_eq.mpr c17
                      clear c17
                      simp only [Option.some.injEq, Prod.mk.injEq] at H
                      obtain ⟨rfl, rfl⟩ := H
                      go_wp2
                      go_ret2
                      exact ⟨by first | rfl | (simp; done) | (simp [*]; done), by repeat (first | exact Drawn0.refl _ | apply Drawn0.step)⟩
                    · rw [if_neg c17] at H
                      have c17b0 : (a0.toList == ([110, 111] : List UInt8)) = false := beq_eq_false_iff_ne.mpr c17
                      have c17b1 : (a0.toList != ([110, 111] : List UInt8)) = true := bne_iff_ne.mpr c17
                      by_cases c18 : a0.toList = ([111, 102, 102] : List UInt8)
                      · rw [if_pos c18] at H
                        have c18b0 : (a0.toList == ([111, 102, 102] : List UInt8)) = true := beq_iff_eq.mpr c18
                        have c18b1 : (a0.toList != ([111, 102, 102] : List UInt8)) = false := bne_eq_false_iff_eq.mpr c18
                        clear c18
                        simp only [Option.some.injEq, Prod.mk.injEq] at H
                        obtain ⟨rfl, rfl⟩ := H
                        go_wp2
                        go_ret2
                        exact ⟨by first | rfl | (simp; done) | (simp [*]; done), by repeat (first | exact Drawn0.refl _ | apply Drawn0.step)⟩
                      · rw [if_neg c18] at H
                        have c18b0 : (a0.toList == ([111, 102, 102] : List UInt8)) = false := beq_eq_false_iff_ne.mpr c18
                        have c18b1 : (a0.toList != ([111, 102, 102] : List UInt8)) = true := bne_iff_ne.mpr c18
                        simp only [Option.some.injEq, Prod.mk.injEq] at H
                        obtain ⟨rfl, rfl⟩ := H
                        go_wp2
                        go_ret2
                        exact ⟨by first | rfl | (simp; done) | (simp [*]; done), by repeat (first | exact Drawn0.refl _ | apply Drawn0.step)⟩

-- NOT PRINTED: function 30 (errors_New)

-- NOT PRINTED: function 22 (pqutil_ParseBool)

-- NOT PRINTED: function 11 (impl_Yes)

-- NOT PRINTED: function 3 (laws_FnYes)

/-! ### pq_zzIndexQuote: function 36 -/
def pq_zzIndexQuote.l0 : Nat → List Int → Int → Int → Option (Int)
  | 0, _, _, _ => none
  | k + 1, x5, x6, x7 => if x7 < x6 then (if 0 ≤ x7 then (if x7 < (x5.length : Int) then (if (rd x5 x7) = 34 then (some x7) else (if (rd x5 x7) = 92 then (some x7) else (pq_zzIndexQuote.l0 k x5 x6 (wrap64 (x7 + 1))))) else (none)) else (none)) else (some (-1))
def pq_zzIndexQuote.f (k : Nat) (l0 : List Int) : Option (Int) := pq_zzIndexQuote.l0 k l0 (l0.length : Int) 0
theorem pq_zzIndexQuote.mono_l : ∀ k, (∀ y0 y1 y2, LeO (pq_zzIndexQuote.l0 k y0 y1 y2) (pq_zzIndexQuote.l0 (k + 1) y0 y1 y2))
  | 0 => fun _ _ _ r h => by simp [pq_zzIndexQuote.l0] at h
  | k + 1 => by
    have ih0 := pq_zzIndexQuote.mono_l k
    · intro y0 y1 y2
      unfold pq_zzIndexQuote.l0
      repeat' first
      | (with_reducible exact ih0 _ _ _)
      | (with_reducible exact LeO.refl _)
      | (with_reducible exact LeO.none _)
      | (with_reducible refine LeO.ite ?_ ?_)
      | (with_reducible refine LeO.bind ?_ (fun _ => ?_))
      | exact ih0 _ _ _
      | exact LeO.none _
      | refine LeO.ite ?_ ?_
      | refine LeO.bind ?_ (fun _ => ?_)
theorem pq_zzIndexQuote.mono : ∀ a0 k, LeO (pq_zzIndexQuote.f k a0) (pq_zzIndexQuote.f (k + 1) a0) := by
  intro a0 k
  have ih0 := pq_zzIndexQuote.mono_l k
  unfold pq_zzIndexQuote.f
  repeat' first
      | (with_reducible exact ih0 _ _ _)
      | (with_reducible exact LeO.refl _)
      | (with_reducible exact LeO.none _)
      | (with_reducible refine LeO.ite ?_ ?_)
      | (with_reducible refine LeO.bind ?_ (fun _ => ?_))
      | exact ih0 _ _ _
      | exact LeO.none _
      | refine LeO.ite ?_ ?_
      | refine LeO.bind ?_ (fun _ => ?_)
set_option maxHeartbeats 8000000 in
set_option maxRecDepth 100000 in
theorem pq_zzIndexQuote.calls (k : Nat) (A0 : Option Addr) (c0 : Nat) (l0 : List Int) (r : Int) (w : World) (hr0 : Kd.C (Kd.int .u8) w A0 l0.length l0) (hc0 : l0.length ≤ c0) (h : pq_zzIndexQuote.f k l0 = some r) :
    Calls Try.prog 36 #[.slice A0 l0.length c0] w fun e w' => e = .returned (.int .i64 r) ∧ Drawn0 w w' := by
  have HR0 := Aside0.mk hr0
  have HC0 := Aside0.mk hc0
  clear hr0 hc0
  have H : (pq_zzIndexQuote.l0 k l0 (l0.length : Int) 0) = some r := h
  clear h
  have H' := Aside0.mk H
  clear H
  go_enter Try.func36, Try.ntmps36
  go_wp2
  go_loopg [7] k (fun kq v7 w' => ∃ (x7_1 : Int), v7 = .int .i64 x7_1 ∧ Aside0 (pq_zzIndexQuote.l0 kq l0 (l0.length : Int) x7_1 = some r) ∧ Aside0 (kq ≤ k) ∧ Drawn0 w w')
  case atStart => exact ⟨(0), (by first | rfl | (simp; done) | (simp [*]; done)), H', ⟨Nat.le_refl _⟩, by repeat (first | exact Drawn0.refl _ | apply Drawn0.step)⟩
  case round =>
    clear H'
    obtain ⟨x7_1, rfl, HA, HK1, ⟨m1, rfl⟩⟩ := hrel
    cases gk with
    | zero => exact absurd HA.out (by simp [pq_zzIndexQuote.l0])
    | succ k1 =>
      have H := HA.out
      clear HA
      simp only [pq_zzIndexQuote.l0] at H
      by_cases c2 : x7_1 < (l0.length : Int)
      · rw [if_pos c2] at H
        have c2b0 : decide (x7_1 < (l0.length : Int)) = true := decide_eq_true c2
        clear c2
        by_cases c3 : 0 ≤ x7_1
        · rw [if_pos c3] at H
          have c3b0 : decide (0 ≤ x7_1) = true := decide_eq_true c3
          clear c3
          by_cases c4 : x7_1 < (l0.length : Int)
          · rw [if_pos c4] at H
            have c4b0 : decide (x7_1 < (l0.length : Int)) = true := decide_eq_true c4
            clear c4
            by_cases c5 : (rd l0 x7_1) = 34
            · rw [if_pos c5] at H
              have c5b0 : ((rd l0 x7_1) == 34) = true := beq_iff_eq.mpr c5
              have c5b1 : ((rd l0 x7_1) != 34) = false := bne_eq_false_iff_eq.mpr c5
              clear c5
              obtain rfl := Option.some.inj H
              have p105 : 0 ≤ (x7_1 : Int) := of_decide_eq_true (by first | (with_reducible assumption) | assumption)
              have q105 : x7_1 < (l0.length : Int) := of_decide_eq_true (by first | (with_reducible assumption) | assumption)
              obtain ⟨ad105, e105, hx105_0⟩ := Kd.at_int HR0.out x7_1 p105 q105
              cases e105
              replace p105 := eq_true p105
              replace q105 := eq_true q105
              go_wp2
              go_ret
              exact ⟨by first | rfl | (simp; done) | (simp [*]; done), by repeat (first | exact Drawn0.refl _ | apply Drawn0.step)⟩
            · rw [if_neg c5] at H
              have c5b0 : ((rd l0 x7_1) == 34) = false := beq_eq_false_iff_ne.mpr c5
              have c5b1 : ((rd l0 x7_1) != 34) = true := bne_iff_ne.mpr c5
              by_cases c6 : (rd l0 x7_1) = 92
              · rw [if_pos c6] at H
                have c6b0 : ((rd l0 x7_1) == 92) = true := beq_iff_eq.mpr c6
                have c6b1 : ((rd l0 x7_1) != 92) = false := bne_eq_false_iff_eq.mpr c6
                clear c6
                obtain rfl := Option.some.inj H
                have p105 : 0 ≤ (x7_1 : Int) := of_decide_eq_true (by first | (with_reducible assumption) | assumption)
                have q105 : x7_1 < (l0.length : Int) := of_decide_eq_true (by first | (with_reducible assumption) | assumption)
                obtain ⟨ad105, e105, hx105_0⟩ := Kd.at_int HR0.out x7_1 p105 q105
                cases e105
                replace p105 := eq_true p105
                replace q105 := eq_true q105
                go_wp2
                go_ret
                exact ⟨by first | rfl | (simp; done) | (simp [*]; done), by repeat (first | exact Drawn0.refl _ | apply Drawn0.step)⟩
              · rw [if_neg c6] at H
                have c6b0 : ((rd l0 x7_1) == 92) = false := beq_eq_false_iff_ne.mpr c6
                have c6b1 : ((rd l0 x7_1) != 92) = true := bne_iff_ne.mpr c6
                have H' := Aside0.mk H
                clear H
                have p105 : 0 ≤ (x7_1 : Int) := of_decide_eq_true (by first | (with_reducible assumption) | assumption)
                have q105 : x7_1 < (l0.length : Int) := of_decide_eq_true (by first | (with_reducible assumption) | assumption)
                obtain ⟨ad105, e105, hx105_0⟩ := Kd.at_int HR0.out x7_1 p105 q105
                cases e105
                replace p105 := eq_true p105
                replace q105 := eq_true q105
                go_wp2
                go_roundg k1
                case measure => have := HK1.out; omega
                case rel => exact ⟨(wrap64 (x7_1 + 1)), (by first | rfl | (simp; done) | (simp [*]; done)), H', ⟨by have := HK1.out; omega⟩, by repeat (first | exact Drawn0.refl _ | apply Drawn0.step)⟩
          · rw [if_neg c4] at H
            exact absurd H (by simp)
        · rw [if_neg c3] at H
          exact absurd H (by simp)
      · rw [if_neg c2] at H
        have c2b0 : decide (x7_1 < (l0.length : Int)) = false := decide_eq_false c2
        clear c2
        obtain rfl := Option.some.inj H
        go_wp2
        go_ret
        exact ⟨by first | rfl | (simp; done) | (simp [*]; done), by repeat (first | exact Drawn0.refl _ | apply Drawn0.step)⟩

/-! ### pq_appendArrayQuotedBytes: function 31 -/
def pq_appendArrayQuotedBytes.l0 : Nat → List Int → List Int → Option (List Int)
  | 0, _, _ => none
  | k + 1, x0, x1 => (pq_zzIndexQuote.f k x1).bind fun t109 => (if t109 < 0 then (if x0.length + x1.length < 140737488355328 then ((some (x0 ++ x1 : List Int)).bind fun y110 => (if y110.length < 140737488355328 then (some (y110 ++ [34])) else (none))) else (none)) else (if t109 > 0 then (if 0 ≤ t109 then (if t109 ≤ (x1.length : Int) then ((some (x1.take (t109 : Int).toNat : List Int)).bind fun y116 => (if x0.length + y116.length < 140737488355328 then ((some (x0 ++ y116 : List Int)).bind fun y121 => (if t109 < (x1.length : Int) then ((some (([92, rd x1 t109] : List Int) : List Int)).bind fun y125 => (if y121.length + y125.length < 140737488355328 then (if 0 ≤ (wrap64 (t109 + 1)) then (if (wrap64 (t109 + 1)) ≤ (x1.length : Int) then (pq_appendArrayQuotedBytes.l0 k (y121 ++ y125) (x1.drop ((wrap64 (t109 + 1)) : Int).toNat)) else (none)) else (none)) else (none))) else (none))) else (none))) else (none)) else (none)) else (if 0 ≤ t109 then (if t109 < (x1.length : Int) then ((some (([92, rd x1 t109] : List Int) : List Int)).bind fun y137 => (if x0.length + y137.length < 140737488355328 then (if 0 ≤ (wrap64 (t109 + 1)) then (if (wrap64 (t109 + 1)) ≤ (x1.length : Int) then (pq_appendArrayQuotedBytes.l0 k (x0 ++ y137) (x1.drop ((wrap64 (t109 + 1)) : Int).toNat)) else (none)) else (none)) else (none))) else (none)) else (none))))
def pq_appendArrayQuotedBytes.f (k : Nat) (l0 : List Int) (l1 : List Int) : Option (List Int) := if l0.length < 140737488355328 then (pq_appendArrayQuotedBytes.l0 k (l0 ++ [34]) l1) else (none)
theorem pq_appendArrayQuotedBytes.mono_l : ∀ k, (∀ y0 y1, LeO (pq_appendArrayQuotedBytes.l0 k y0 y1) (pq_appendArrayQuotedBytes.l0 (k + 1) y0 y1))
  | 0 => fun _ _ r h => by simp [pq_appendArrayQuotedBytes.l0] at h
  | k + 1 => by
    have ih0 := pq_appendArrayQuotedBytes.mono_l k
    · intro y0 y1
      unfold pq_appendArrayQuotedBytes.l0
      repeat' first
      | (with_reducible exact ih0 _ _)
      | (with_reducible exact pq_zzIndexQuote.mono _ _)
      | (with_reducible exact LeO.refl _)
      | (with_reducible exact LeO.none _)
      | (with_reducible refine LeO.ite ?_ ?_)
      | (with_reducible refine LeO.bind ?_ (fun _ => ?_))
      | exact ih0 _ _
      | exact pq_zzIndexQuote.mono _ _
      | exact LeO.none _
      | refine LeO.ite ?_ ?_
      | refine LeO.bind ?_ (fun _ => ?_)
theorem pq_appendArrayQuotedBytes.mono : ∀ a0 a1 k, LeO (pq_appendArrayQuotedBytes.f k a0 a1) (pq_appendArrayQuotedBytes.f (k + 1) a0 a1) := by
  intro a0 a1 k
  have ih0 := pq_appendArrayQuotedBytes.mono_l k
  unfold pq_appendArrayQuotedBytes.f
  repeat' first
      | (with_reducible exact ih0 _ _)
      | (with_reducible exact pq_zzIndexQuote.mono _ _)
      | (with_reducible exact LeO.refl _)
      | (with_reducible exact LeO.none _)
      | (with_reducible refine LeO.ite ?_ ?_)
      | (with_reducible refine LeO.bind ?_ (fun _ => ?_))
      | exact ih0 _ _
      | exact pq_zzIndexQuote.mono _ _
      | exact LeO.none _
      | refine LeO.ite ?_ ?_
      | refine LeO.bind ?_ (fun _ => ?_)
set_option maxHeartbeats 8000000 in
set_option maxRecDepth 100000 in
theorem pq_appendArrayQuotedBytes.calls (k : Nat) (P0_ : Nat → Prop) (u9000_ : Value) (l0 : List Int) (P1_ : Nat → Prop) (A1 : Option Addr) (c1 : Nat) (l1 : List Int) (r : List Int) (w0 w : World) (hB : Below w0.heap.size w0 w) (ho0 : Kd.R (Kd.int .u8) 5 w w0.heap.size P0_ u9000_ l0) (hs1 : Kd.V (Kd.int .u8) 5 w w0.heap.size (fun k_ => P1_ k_ ∧ some k_ ≠ (u9000_ : Value).ownBlock) (.slice A1 l1.length c1) l1) (h : pq_appendArrayQuotedBytes.f k l0 l1 = some r) :
    Calls Try.prog 31 #[u9000_, .slice A1 l1.length c1] w fun e w' => ∃ v0_ : Value, e = .returned (v0_) ∧ Kd.R (Kd.int .u8) 5 w' w0.heap.size (fun k_ => (P0_ k_ ∨ w.heap.size ≤ k_)) v0_ r ∧ Below w0.heap.size w0 w' ∧ Kept w w' (fun k_ => P0_ k_) := by
  have HO0 := Aside0.mk (show Kd.R (Kd.int .u8) 5 w w0.heap.size (fun k_ => (P0_ k_ ∨ w.heap.size ≤ k_)) u9000_ l0 from Kd.R_mono ho0 (fun k_ hk => (.inl hk)))
  have HO1 := Aside0.mk (show Kd.V (Kd.int .u8) 5 w w0.heap.size (fun k_ => ((P0_ k_ ∨ P1_ k_) ∨ w.heap.size ≤ k_) ∧ some k_ ≠ (u9000_ : Value).ownBlock) (.slice A1 l1.length c1) l1 from Kd.V_mono hs1 (fun k_ hk => ⟨.inl (.inr hk.1), hk.2⟩))
  have HK := Aside0.mk (Kept.refl w (fun k_ => P0_ k_))
  have HW0 := Aside0.mk hB.size
  have HB := Aside0.mk hB
  clear hB
  have H : (if l0.length < 140737488355328 then (pq_appendArrayQuotedBytes.l0 k (l0 ++ [34]) l1) else (none)) = some r := h
  clear h
  by_cases c3 : l0.length < 140737488355328
  · rw [if_pos c3] at H
    have LMc3 := Aside0.mk c3
    clear c3
    obtain ⟨y106, hy106⟩ : ∃ y_ : List Int, y_ = (l0 ++ [34]) := ⟨_, rfl⟩
    replace H : (pq_appendArrayQuotedBytes.l0 k y106 l1) = some r := by first | (rw [hy106]; with_reducible exact H) | (have H2_ := (Option.bind_some _ _).symm.trans H; rw [hy106]; with_reducible exact H2_) | (have H2_ := (Option.bind_some _ _).symm.trans H; with_reducible exact H2_) | with_reducible exact H | (rw [hy106]; exact H) | exact H
    have Ny106 := Aside0.mk hy106
    clear hy106
    have H' := Aside0.mk H
    clear H
    go_enter Try.func31, Try.ntmps31
    go_wp2_with (first | ((with_reducible refine gate_builtin (b := .append) (xs := #[.tmp 6, .tmp 7]) rfl ?_); at_builtin; refine Kd.R_append (Kd.int .u8) (w0 := w0) w0.heap.size rfl (.tmp 6) (.tmp 7) 40 5 (.int .u8 0) 1 rfl Try.underlying40 info5 rfl (by decide) (by omega) u9000_ l0 34 [.int .u8 34] (fun k_ => (P0_ k_ ∨ w.heap.size ≤ k_)) (fun _ => False) rfl rfl ?aP (fun _ hk => hk.elim) ?aF ?aO ?aB ?aS ?aL ?_; (case aP => exact rfl); (case aB => exact (by repeat (first | (with_reducible first | exact HB.out | apply below_alloc | apply pw_below_drewN | apply below_drew1) | exact HB.out))); (case aF => exact (fun k_ hk => (.inr (Nat.le_trans (by first | exact HK.out.1 | exact (show Kept w _ (fun k_ => P0_ k_) from by repeat (first | (with_reducible first | exact HK.out | apply Kept.alloc | apply Kept.drewN | apply Kept.drew) | exact HK.out)).1) hk)))); (case aO => exact (by (with_reducible repeat (first | apply Kd.R_alloc | apply Kd.R_drewN | apply Kd.R_drew)); exact HO0.out)); (case aS => exact (below_size (by repeat (first | (with_reducible first | exact HB.out | apply below_alloc | apply pw_below_drewN | apply below_drew1) | exact HB.out)))); (case aL => have := LMc3.out; omega); intro v107 w4 ho hb hg hat; rw [← Ny106.out] at ho; have n0_ := Aside0.mk (Kd.V_afterv (ok := (fun k_ => ((P0_ k_ ∨ P1_ k_) ∨ w.heap.size ≤ k_))) (by (with_reducible repeat (first | apply Kd.V_alloc | apply Kd.V_drewN | apply Kd.V_drew)); exact HO1.out) hg hat); have n1_ := Aside0.mk (hb); have n2_ := Aside0.mk (Kept.of_grown (S := (fun k_ => P0_ k_)) hg (by repeat (first | (with_reducible first | exact HK.out | apply Kept.alloc | apply Kept.drewN | apply Kept.drew) | exact HK.out)) (fun k_ e_ => (HO0.out.1 k_ e_))); have n3_ := Aside0.mk (ho); clear HO1; clear HB; clear HK; clear HO0; have HO1 := n0_; have HB := n1_; have HK := n2_; have HO108 := n3_; clear n0_ n1_ n2_ n3_; clear ho hb hg hat))
    go_loopg [0, 1] k (fun kq v0 v1 w' => ∃ (x0_1 : List Int) (x1_1 : List Int), Aside0 (pq_appendArrayQuotedBytes.l0 kq x0_1 x1_1 = some r) ∧ Aside0 (kq ≤ k) ∧ Aside0 (Kd.R (Kd.int .u8) 5 w' w0.heap.size (fun k_ => (P0_ k_ ∨ w.heap.size ≤ k_)) v0 x0_1) ∧ Aside0 (Kd.V (Kd.int .u8) 5 w' w0.heap.size (fun k_ => ((P0_ k_ ∨ P1_ k_) ∨ w.heap.size ≤ k_) ∧ some k_ ≠ (v0 : Value).ownBlock) v1 x1_1) ∧ Aside0 (Kept w w' (fun k_ => P0_ k_)) ∧ Aside0 (Below w0.heap.size w0 w'))
    case atStart => exact ⟨(y106), (l1), H', ⟨Nat.le_refl _⟩, ⟨by (with_reducible repeat (first | apply Kd.R_alloc | apply Kd.R_drewN | apply Kd.R_drew)); exact HO108.out⟩, ⟨by (with_reducible repeat (first | apply Kd.V_alloc | apply Kd.V_drewN | apply Kd.V_drew)); exact HO1.out⟩, ⟨by repeat (first | (with_reducible first | exact HK.out | apply Kept.alloc | apply Kept.drewN | apply Kept.drew) | exact HK.out)⟩, ⟨by repeat (first | (with_reducible first | exact HB.out | apply below_alloc | apply pw_below_drewN | apply below_drew1) | exact HB.out)⟩⟩
    case round =>
      clear H'
      try clear c1
      try clear p2
      try clear c3
      obtain ⟨x0_1, x1_1, HA, HK1, HO_0, HO_1, HK, HB⟩ := hrel
      cases gk with
      | zero => exact absurd HA.out (by simp [pq_appendArrayQuotedBytes.l0])
      | succ k1 =>
        have H := HA.out
        clear HA
        simp only [pq_appendArrayQuotedBytes.l0] at H
        replace H := Option.bind_eq_some_iff.mp H
        obtain ⟨t109, A50, H⟩ := H
        replace H : (if t109 < 0 then (if x0_1.length + x1_1.length < 140737488355328 then ((some (x0_1 ++ x1_1 : List Int)).bind fun y110 => (if y110.length < 140737488355328 then (some (y110 ++ [34])) else (none))) else (none)) else (if t109 > 0 then (if 0 ≤ t109 then (if t109 ≤ (x1_1.length : Int) then ((some (x1_1.take (t109 : Int).toNat : List Int)).bind fun y116 => (if x0_1.length + y116.length < 140737488355328 then ((some (x0_1 ++ y116 : List Int)).bind fun y121 => (if t109 < (x1_1.length : Int) then ((some (([92, rd x1_1 t109] : List Int) : List Int)).bind fun y125 => (if y121.length + y125.length < 140737488355328 then (if 0 ≤ (wrap64 (t109 + 1)) then (if (wrap64 (t109 + 1)) ≤ (x1_1.length : Int) then (pq_appendArrayQuotedBytes.l0 k1 (y121 ++ y125) (x1_1.drop ((wrap64 (t109 + 1)) : Int).toNat)) else (none)) else (none)) else (none))) else (none))) else (none))) else (none)) else (none)) else (if 0 ≤ t109 then (if t109 < (x1_1.length : Int) then ((some (([92, rd x1_1 t109] : List Int) : List Int)).bind fun y137 => (if x0_1.length + y137.length < 140737488355328 then (if 0 ≤ (wrap64 (t109 + 1)) then (if (wrap64 (t109 + 1)) ≤ (x1_1.length : Int) then (pq_appendArrayQuotedBytes.l0 k1 (x0_1 ++ y137) (x1_1.drop ((wrap64 (t109 + 1)) : Int).toNat)) else (none)) else (none)) else (none))) else (none)) else (none)))) = some r := H
        have A5 := Aside0.mk A50
        clear A50
        by_cases c6 : t109 < 0
        · rw [if_pos c6] at H
          have c6b0 : decide (t109 < 0) = true := decide_eq_true c6
          clear c6
          by_cases c7 : x0_1.length + x1_1.length < 140737488355328
          · rw [if_pos c7] at H
            have LMc7 := Aside0.mk c7
            clear c7
            obtain ⟨y110, hy110⟩ : ∃ y_ : List Int, y_ = (x0_1 ++ x1_1) := ⟨_, rfl⟩
            replace H : (if y110.length < 140737488355328 then (some (y110 ++ [34])) else (none)) = some r := by first | (rw [hy110]; with_reducible exact H) | (have H2_ := (Option.bind_some _ _).symm.trans H; rw [hy110]; with_reducible exact H2_) | (have H2_ := (Option.bind_some _ _).symm.trans H; with_reducible exact H2_) | with_reducible exact H | (rw [hy110]; exact H) | exact H
            have Ny110 := Aside0.mk hy110
            clear hy110
            by_cases c8 : y110.length < 140737488355328
            · rw [if_pos c8] at H
              have LMc8 := Aside0.mk c8
              clear c8
              obtain ⟨y113, hy113⟩ : ∃ y_ : List Int, y_ = (y110 ++ [34]) := ⟨_, rfl⟩
              replace H : (some y113) = some r := by first | (rw [hy113]; with_reducible exact H) | (have H2_ := (Option.bind_some _ _).symm.trans H; rw [hy113]; with_reducible exact H2_) | (have H2_ := (Option.bind_some _ _).symm.trans H; with_reducible exact H2_) | with_reducible exact H | (rw [hy113]; exact H) | exact H
              have Ny113 := Aside0.mk hy113
              clear hy113
              obtain rfl := Option.some.inj H
              obtain ⟨Ao9, co9, eo9⟩ := Kd.V_slice HO_1.out
              subst eo9
              go_wp2_with (first | ((with_reducible refine gate_callee (f := 36) rfl ?_); refine goesL_ (some 10) rfl rfl Try.func36 (by kernel_rfl) rfl #[.slice Ao9 x1_1.length co9] rfl (by (try simp only [List.map_toArray, List.map_cons, List.map_nil]); first | done | rfl | (simp only [List.length_drop, List.length_take]; rfl)) ?_; (with_reducible refine (pq_zzIndexQuote.calls k1 _ _ x1_1 t109 _ ?side1 ?side2 A5.out).mono ?_); (case side1 => repeat (first | exact (Kd.V_reads' HO_1.out).2.2 | (with_reducible refine Kd.C_alloc ?_ _) | (with_reducible refine Kd.C_drewN ?_ _) | (with_reducible refine Kd.C_drew ?_))); (case side2 => exact (Kd.V_reads' HO_1.out).2.1); rintro e w' ⟨rfl, ⟨nd, rfl⟩⟩; refine ⟨_, rfl, ?_⟩) | ((with_reducible refine gate_builtin (b := .append) (xs := #[.tmp 13, .tmp 14]) rfl ?_); at_builtin; refine Kd.R_append_rows (Kd.int .u8) (w0 := w0) w0.heap.size rfl (.tmp 13) (.tmp 14) 40 5 (.int .u8 0) 1 rfl Try.underlying40 info5 rfl (by decide) (by omega) u0 x0_1 x1_1 _ _ _ (fun k_ => (P0_ k_ ∨ w.heap.size ≤ k_)) (fun _ => False) rfl rfl ?aO ?aR (fun _ _ h => h) (fun _ h => h.elim) ?aF ?aB ?aS ?aL ?_; (case aR => repeat (first | exact (Kd.V_reads' HO_1.out).2.2 | (with_reducible refine Kd.C_alloc ?_ _) | (with_reducible refine Kd.C_drewN ?_ _) | (with_reducible refine Kd.C_drew ?_))); (case aB => exact (by repeat (first | (with_reducible first | exact HB.out | apply below_alloc | apply pw_below_drewN | apply below_drew1) | exact HB.out))); (case aF => exact (fun k_ hk => (.inr (Nat.le_trans (by first | exact HK.out.1 | exact (show Kept w _ (fun k_ => P0_ k_) from by repeat (first | (with_reducible first | exact HK.out | apply Kept.alloc | apply Kept.drewN | apply Kept.drew) | exact HK.out)).1) hk)))); (case aO => exact (by (with_reducible repeat (first | apply Kd.R_alloc | apply Kd.R_drewN | apply Kd.R_drew)); exact HO_0.out)); (case aS => exact (below_size (by repeat (first | (with_reducible first | exact HB.out | apply below_alloc | apply pw_below_drewN | apply below_drew1) | exact HB.out)))); (case aL => have := LMc7.out; omega); intro v111 w10 ho hb hg hat; rw [← Ny110.out] at ho; have n0_ := Aside0.mk (Kd.V_afterv (ok := (fun k_ => ((P0_ k_ ∨ P1_ k_) ∨ w.heap.size ≤ k_))) (by (with_reducible repeat (first | apply Kd.V_alloc | apply Kd.V_drewN | apply Kd.V_drew)); exact HO_1.out) hg hat); have n1_ := Aside0.mk (hb); have n2_ := Aside0.mk (Kept.of_grown (S := (fun k_ => P0_ k_)) hg (by repeat (first | (with_reducible first | exact HK.out | apply Kept.alloc | apply Kept.drewN | apply Kept.drew) | exact HK.out)) (fun k_ e_ => (HO_0.out.1 k_ e_))); have n3_ := Aside0.mk (ho); clear HO_1; clear HB; clear HK; clear HO_0; have HO_1 := n0_; have HB := n1_; have HK := n2_; have HO112 := n3_; clear n0_ n1_ n2_ n3_; clear ho hb hg hat) | ((with_reducible refine gate_builtin (b := .append) (xs := #[.tmp 34, .tmp 35]) rfl ?_); at_builtin; refine Kd.R_append (Kd.int .u8) (w0 := w0) w0.heap.size rfl (.tmp 34) (.tmp 35) 40 5 (.int .u8 0) 1 rfl Try.underlying40 info5 rfl (by decide) (by omega) v111 y110 34 [.int .u8 34] (fun k_ => (P0_ k_ ∨ w.heap.size ≤ k_)) (fun _ => False) rfl rfl ?aP (fun _ hk => hk.elim) ?aF ?aO ?aB ?aS ?aL ?_; (case aP => exact rfl); (case aB => exact (by repeat (first | (with_reducible first | exact HB.out | apply below_alloc | apply pw_below_drewN | apply below_drew1) | exact HB.out))); (case aF => exact (fun k_ hk => (.inr (Nat.le_trans (by first | exact HK.out.1 | exact (show Kept w _ (fun k_ => P0_ k_) from by repeat (first | (with_reducible first | exact HK.out | apply Kept.alloc | apply Kept.drewN | apply Kept.drew) | exact HK.out)).1) hk)))); (case aO => exact (by (with_reducible repeat (first | apply Kd.R_alloc | apply Kd.R_drewN | apply Kd.R_drew)); exact HO112.out)); (case aS => exact (below_size (by repeat (first | (with_reducible first | exact HB.out | apply below_alloc | apply pw_below_drewN | apply below_drew1) | exact HB.out)))); (case aL => have := LMc8.out; omega); intro v114 w11 ho hb hg hat; rw [← Ny113.out] at ho; have n0_ := Aside0.mk (Kd.V_afterv (ok := (fun k_ => ((P0_ k_ ∨ P1_ k_) ∨ w.heap.size ≤ k_))) (by (with_reducible repeat (first | apply Kd.V_alloc | apply Kd.V_drewN | apply Kd.V_drew)); exact HO_1.out) hg hat); have n1_ := Aside0.mk (hb); have n2_ := Aside0.mk (Kept.of_grown (S := (fun k_ => P0_ k_)) hg (by repeat (first | (with_reducible first | exact HK.out | apply Kept.alloc | apply Kept.drewN | apply Kept.drew) | exact HK.out)) (fun k_ e_ => (HO112.out.1 k_ e_))); have n3_ := Aside0.mk (ho); clear HO_1; clear HB; clear HK; clear HO112; have HO_1 := n0_; have HB := n1_; have HK := n2_; have HO115 := n3_; clear n0_ n1_ n2_ n3_; clear ho hb hg hat))
              go_ret
              exact ⟨_, by first | rfl | (simp [errW_none, errW_some] <;> rfl) | (simp [*, errW_none, errW_some] <;> rfl), by (with_reducible repeat (first | apply Kd.R_alloc | apply Kd.R_drewN | apply Kd.R_drew)); exact HO115.out, by repeat (first | (with_reducible first | exact HB.out | apply below_alloc | apply pw_below_drewN | apply below_drew1) | exact HB.out), by repeat (first | (with_reducible first | exact HK.out | apply Kept.alloc | apply Kept.drewN | apply Kept.drew) | exact HK.out)⟩
            · rw [if_neg c8] at H
              exact absurd H (by simp)
          · rw [if_neg c7] at H
            exact absurd H (by simp)
        · rw [if_neg c6] at H
          have c6b0 : decide (t109 < 0) = false := decide_eq_false c6
          clear c6
          by_cases c12 : t109 > 0
          · rw [if_pos c12] at H
            have c12b0 : decide (0 < t109) = true := decide_eq_true c12
            clear c12
            by_cases c13 : 0 ≤ t109
            · rw [if_pos c13] at H
              have c13b0 := eq_true c13
              have c13b1 : decide (0 ≤ t109) = true := decide_eq_true c13
              clear c13
              by_cases c14 : t109 ≤ (x1_1.length : Int)
              · rw [if_pos c14] at H
                have c14b0 := eq_true c14
                have c14b1 : decide (t109 ≤ (x1_1.length : Int)) = true := decide_eq_true c14
                clear c14
                obtain ⟨y116, hy116⟩ : ∃ y_ : List Int, y_ = (x1_1.take (t109 : Int).toNat) := ⟨_, rfl⟩
                replace H : (if x0_1.length + y116.length < 140737488355328 then ((some (x0_1 ++ y116 : List Int)).bind fun y121 => (if t109 < (x1_1.length : Int) then ((some (([92, rd x1_1 t109] : List Int) : List Int)).bind fun y125 => (if y121.length + y125.length < 140737488355328 then (if 0 ≤ (wrap64 (t109 + 1)) then (if (wrap64 (t109 + 1)) ≤ (x1_1.length : Int) then (pq_appendArrayQuotedBytes.l0 k1 (y121 ++ y125) (x1_1.drop ((wrap64 (t109 + 1)) : Int).toNat)) else (none)) else (none)) else (none))) else (none))) else (none)) = some r := by first | (rw [hy116]; with_reducible exact H) | (have H2_ := (Option.bind_some _ _).symm.trans H; rw [hy116]; with_reducible exact H2_) | (have H2_ := (Option.bind_some _ _).symm.trans H; with_reducible exact H2_) | with_reducible exact H | (rw [hy116]; exact H) | exact H
                have Ny116 := Aside0.mk hy116
                clear hy116
                by_cases c15 : x0_1.length + y116.length < 140737488355328
                · rw [if_pos c15] at H
                  have LMc15 := Aside0.mk c15
                  clear c15
                  obtain ⟨y121, hy121⟩ : ∃ y_ : List Int, y_ = (x0_1 ++ y116) := ⟨_, rfl⟩
                  replace H : (if t109 < (x1_1.length : Int) then ((some (([92, rd x1_1 t109] : List Int) : List Int)).bind fun y125 => (if y121.length + y125.length < 140737488355328 then (if 0 ≤ (wrap64 (t109 + 1)) then (if (wrap64 (t109 + 1)) ≤ (x1_1.length : Int) then (pq_appendArrayQuotedBytes.l0 k1 (y121 ++ y125) (x1_1.drop ((wrap64 (t109 + 1)) : Int).toNat)) else (none)) else (none)) else (none))) else (none)) = some r := by first | (rw [hy121]; with_reducible exact H) | (have H2_ := (Option.bind_some _ _).symm.trans H; rw [hy121]; with_reducible exact H2_) | (have H2_ := (Option.bind_some _ _).symm.trans H; with_reducible exact H2_) | with_reducible exact H | (rw [hy121]; exact H) | exact H
                  have Ny121 := Aside0.mk hy121
                  clear hy121
                  by_cases c16 : t109 < (x1_1.length : Int)
                  · rw [if_pos c16] at H
                    have c16b0 : decide (t109 < (x1_1.length : Int)) = true := decide_eq_true c16
                    clear c16
                    obtain ⟨y125, hy125⟩ : ∃ y_ : List Int, y_ = (([92, rd x1_1 t109] : List Int)) := ⟨_, rfl⟩
                    replace H : (if y121.length + y125.length < 140737488355328 then (if 0 ≤ (wrap64 (t109 + 1)) then (if (wrap64 (t109 + 1)) ≤ (x1_1.length : Int) then (pq_appendArrayQuotedBytes.l0 k1 (y121 ++ y125) (x1_1.drop ((wrap64 (t109 + 1)) : Int).toNat)) else (none)) else (none)) else (none)) = some r := by first | (rw [hy125]; with_reducible exact H) | (have H2_ := (Option.bind_some _ _).symm.trans H; rw [hy125]; with_reducible exact H2_) | (have H2_ := (Option.bind_some _ _).symm.trans H; with_reducible exact H2_) | with_reducible exact H | (rw [hy125]; exact H) | exact H
                    have Ny125 := Aside0.mk hy125
                    clear hy125
                    by_cases c17 : y121.length + y125.length < 140737488355328
                    · rw [if_pos c17] at H
                      have LMc17 := Aside0.mk c17
                      clear c17
                      obtain ⟨y128, hy128⟩ : ∃ y_ : List Int, y_ = (y121 ++ y125) := ⟨_, rfl⟩
                      replace H : (if 0 ≤ (wrap64 (t109 + 1)) then (if (wrap64 (t109 + 1)) ≤ (x1_1.length : Int) then (pq_appendArrayQuotedBytes.l0 k1 y128 (x1_1.drop ((wrap64 (t109 + 1)) : Int).toNat)) else (none)) else (none)) = some r := by first | (rw [hy128]; with_reducible exact H) | (have H2_ := (Option.bind_some _ _).symm.trans H; rw [hy128]; with_reducible exact H2_) | (have H2_ := (Option.bind_some _ _).symm.trans H; with_reducible exact H2_) | with_reducible exact H | (rw [hy128]; exact H) | exact H
                      have Ny128 := Aside0.mk hy128
                      clear hy128
                      obtain ⟨ji18, hji18⟩ : ∃ j_ : Int, (wrap64 (t109 + 1)) = j_ := ⟨_, rfl⟩
                      replace H : (if 0 ≤ (ji18) then (if (ji18) ≤ (x1_1.length : Int) then (pq_appendArrayQuotedBytes.l0 k1 y128 (x1_1.drop ((ji18) : Int).toNat)) else (none)) else (none)) = some r := by first | (rw [hji18] at H; exact H) | (simp only [hji18] at H ⊢; exact H)
                      (try rw [hji18] at A5)
                      have hji18w : (IntKind.i64.wrap (t109 + 1)) = ji18 := (i64_w _).trans hji18
                      by_cases c19 : 0 ≤ (ji18)
                      · rw [if_pos c19] at H
                        have c19b0 := eq_true c19
                        have c19b1 : decide (0 ≤ (ji18)) = true := decide_eq_true c19
                        clear c19
                        by_cases c20 : (ji18) ≤ (x1_1.length : Int)
                        · rw [if_pos c20] at H
                          have c20b0 := eq_true c20
                          have c20b1 : decide ((ji18) ≤ (x1_1.length : Int)) = true := decide_eq_true c20
                          clear c20
                          obtain ⟨y131, hy131⟩ : ∃ y_ : List Int, y_ = (x1_1.drop ((ji18) : Int).toNat) := ⟨_, rfl⟩
                          replace H : (pq_appendArrayQuotedBytes.l0 k1 y128 y131) = some r := by first | (rw [hy131]; with_reducible exact H) | (have H2_ := (Option.bind_some _ _).symm.trans H; rw [hy131]; with_reducible exact H2_) | (have H2_ := (Option.bind_some _ _).symm.trans H; with_reducible exact H2_) | with_reducible exact H | (rw [hy131]; exact H) | exact H
                          have Ny131 := Aside0.mk hy131
                          clear hy131
                          have H' := Aside0.mk H
                          clear H
                          obtain ⟨Ao21, co21, eo21⟩ := Kd.V_slice HO_1.out
                          subst eo21
                          go_wp2_with (first | ((with_reducible refine gate_callee (f := 36) rfl ?_); refine goesL_ (some 10) rfl rfl Try.func36 (by kernel_rfl) rfl #[.slice Ao21 x1_1.length co21] rfl (by (try simp only [List.map_toArray, List.map_cons, List.map_nil]); first | done | rfl | (simp only [List.length_drop, List.length_take]; rfl)) ?_; (with_reducible refine (pq_zzIndexQuote.calls k1 _ _ x1_1 t109 _ ?side1 ?side2 A5.out).mono ?_); (case side1 => repeat (first | exact (Kd.V_reads' HO_1.out).2.2 | (with_reducible refine Kd.C_alloc ?_ _) | (with_reducible refine Kd.C_drewN ?_ _) | (with_reducible refine Kd.C_drew ?_))); (case side2 => exact (Kd.V_reads' HO_1.out).2.1); rintro e w' ⟨rfl, ⟨nd, rfl⟩⟩; refine ⟨_, rfl, ?_⟩; have q22 : (t109 : Int) ≤ ((x1_1.length : Int) : Int) := of_decide_eq_true (by first | (with_reducible assumption) | assumption); obtain ⟨i022, hi022, _, hsz22, _⟩ := info_parts info5; have hroom22 : x1_1.length ≤ co21 := (Kd.V_reads' HO_1.out).2.1; have hC22 : Kd.F (Kd.int .u8) _ _ Ao21 x1_1.length x1_1 := (Kd.V_at (base := w0.heap.size) HO_1.out).2.2; have hcut22 := cut_to (P := Try.prog) 40 5 .i64 Try.underlying40 hi022 Ao21 x1_1.length co21 t109 (of_decide_eq_true (by first | (with_reducible assumption) | assumption)) q22 hroom22; have hr22 := Kd.F_take (m := (t109 : Int).toNat) hC22 (by omega); have hy22 : y116.length = (t109 : Int).toNat := (by rw [Ny116.out, List.length_take]; omega); rw [← Ny116.out] at hr22; rw [← hy22] at hcut22; have HO120 := Aside0.mk (show Kd.V (Kd.int .u8) 5 _ w0.heap.size _ (.slice Ao21 y116.length co21) y116 from Kd.V_mk (by omega) hr22); have HC120 := Aside0.mk (show y116.length ≤ co21 from by omega); clear hr22 hC22 hroom22 hi022 hsz22; have KY22 := Aside0.mk hy22; clear hy22; replace q22 := eq_true q22) | ((with_reducible refine gate_builtin (b := .append) (xs := #[.tmp 18, .tmp 21]) rfl ?_); at_builtin; refine Kd.R_append_rows (Kd.int .u8) (w0 := w0) w0.heap.size rfl (.tmp 18) (.tmp 21) 40 5 (.int .u8 0) 1 rfl Try.underlying40 info5 rfl (by decide) (by omega) u0 x0_1 y116 _ _ _ (fun k_ => (P0_ k_ ∨ w.heap.size ≤ k_)) (fun _ => False) rfl rfl ?aO ?aR (fun _ _ h => h) (fun _ h => h.elim) ?aF ?aB ?aS ?aL ?_; (case aR => repeat (first | exact (Kd.V_reads' HO120.out).2.2 | (with_reducible refine Kd.C_alloc ?_ _) | (with_reducible refine Kd.C_drewN ?_ _) | (with_reducible refine Kd.C_drew ?_))); (case aB => exact (by repeat (first | (with_reducible first | exact HB.out | apply below_alloc | apply pw_below_drewN | apply below_drew1) | exact HB.out))); (case aF => exact (fun k_ hk => (.inr (Nat.le_trans (by first | exact HK.out.1 | exact (show Kept w _ (fun k_ => P0_ k_) from by repeat (first | (with_reducible first | exact HK.out | apply Kept.alloc | apply Kept.drewN | apply Kept.drew) | exact HK.out)).1) hk)))); (case aO => exact (by (with_reducible repeat (first | apply Kd.R_alloc | apply Kd.R_drewN | apply Kd.R_drew)); exact HO_0.out)); (case aS => exact (below_size (by repeat (first | (with_reducible first | exact HB.out | apply below_alloc | apply pw_below_drewN | apply below_drew1) | exact HB.out)))); (case aL => have := LMc15.out; omega); intro v122 w23 ho hb hg hat; rw [← Ny121.out] at ho; have n0_ := Aside0.mk (Kd.V_afterv (ok := (fun k_ => ((P0_ k_ ∨ P1_ k_) ∨ w.heap.size ≤ k_))) (by (with_reducible repeat (first | apply Kd.V_alloc | apply Kd.V_drewN | apply Kd.V_drew)); exact HO_1.out) hg hat); have n1_ := Aside0.mk (Kd.V_afterv (ok := (fun k_ => ((P0_ k_ ∨ P1_ k_) ∨ w.heap.size ≤ k_))) (by (with_reducible repeat (first | apply Kd.V_alloc | apply Kd.V_drewN | apply Kd.V_drew)); exact HO120.out) hg hat); have n2_ := Aside0.mk (hb); have n3_ := Aside0.mk (Kept.of_grown (S := (fun k_ => P0_ k_)) hg (by repeat (first | (with_reducible first | exact HK.out | apply Kept.alloc | apply Kept.drewN | apply Kept.drew) | exact HK.out)) (fun k_ e_ => (HO_0.out.1 k_ e_))); have n4_ := Aside0.mk (ho); clear HO_1; clear HO120; clear HB; clear HK; clear HO_0; have HO_1 := n0_; have HO120 := n1_; have HB := n2_; have HK := n3_; have HO123 := n4_; clear n0_ n1_ n2_ n3_ n4_; clear ho hb hg hat; have p124 : 0 ≤ (t109 : Int) := of_decide_eq_true (by first | (with_reducible assumption) | assumption); have q124 : t109 < (x1_1.length : Int) := of_decide_eq_true (by first | (with_reducible assumption) | assumption); obtain ⟨ad124, e124, hx124_0⟩ := Kd.at_int (Kd.V_reads' HO_1.out).2.2 t109 p124 q124; cases e124; replace p124 := eq_true p124; replace q124 := eq_true q124) | ((with_reducible refine gate_dst (N := 28) rfl ?_); refine Kd.R_lit (Kd.int .u8) _ 5 ?hg (N := 28) ?hd (xs := ([92, rd x1_1 t109] : List Int)) (inner := [.int .u8 92, .int .u8 (rd x1_1 t109)]) (ok := fun _ => True) (okp := fun _ => True) ?hr ?hp (fun _ hk => hk) trivial (Below.refl _ _) (Nat.le_refl _) (by simp) ?_; (case hd => rfl); (case hg => rfl); (case hr => first | (go_simp; done) | (go_simp; rfl)); (case hp => exact (Reps.one (show Kd.M (Kd.int .u8) _ _ _ 92 [.int .u8 92] from rfl) (Reps.one (show Kd.M (Kd.int .u8) _ _ _ (rd x1_1 t109) [.int .u8 (rd x1_1 t109)] from rfl) (Reps.none _ _)))); intro v126 w24 ho25 hb hg_ hnew_; clear hg_ hnew_; (first | rw [← Ny125.out] at ho25 | (simp only [Int.reduceToNat] at ho25; rw [← Ny125.out] at ho25)); have n0_ := Aside0.mk (Kd.V_elder' (by (with_reducible repeat (first | apply Kd.V_alloc | apply Kd.V_drewN | apply Kd.V_drew)); exact HO_1.out) (Kd.R_base ho25) hb); have n1_ := Aside0.mk (Kd.V_elder' (by (with_reducible repeat (first | apply Kd.V_alloc | apply Kd.V_drewN | apply Kd.V_drew)); exact HO120.out) (Kd.R_base ho25) hb); have n2_ := Aside0.mk (Kd.R_elder' (by (with_reducible repeat (first | apply Kd.R_alloc | apply Kd.R_drewN | apply Kd.R_drew)); exact HO123.out) (Kd.R_base ho25) hb); have n3_ := Aside0.mk (Kd.R_lower (Kd.R_new' (Kd.R_newM (M := fun k_ => (P0_ k_ ∨ w.heap.size ≤ k_)) ho25 (by first | exact HK.out.1 | exact (show Kept w _ (fun k_ => P0_ k_) from by repeat (first | (with_reducible first | exact HK.out | apply Kept.alloc | apply Kept.drewN | apply Kept.drew) | exact HK.out)).1) (fun k_ h_ => .inr h_)) (Kd.R_lt (by (with_reducible repeat (first | apply Kd.R_alloc | apply Kd.R_drewN | apply Kd.R_drew)); exact HO123.out))) (below_size (by repeat (first | (with_reducible first | exact HB.out | apply below_alloc | apply pw_below_drewN | apply below_drew1) | exact HB.out)))); have n4_ := Aside0.mk (Kept.below (S := (fun k_ => P0_ k_)) (by repeat (first | (with_reducible first | exact HK.out | apply Kept.alloc | apply Kept.drewN | apply Kept.drew) | exact HK.out)) hb); have n5_ := Aside0.mk (below_step (by repeat (first | (with_reducible first | exact HB.out | apply below_alloc | apply pw_below_drewN | apply below_drew1) | exact HB.out)) hb); clear HO_1; clear HO120; clear HO123; clear HK; clear HB; have HO_1 := n0_; have HO120 := n1_; have HO123 := n2_; have HO127 := n3_; have HK := n4_; have HB := n5_; clear n0_ n1_ n2_ n3_ n4_ n5_; clear hb ho25; obtain ⟨Ao27, co27, eo27⟩ := Kd.R_slice HO127.out; subst eo27) | ((with_reducible refine gate_builtin (b := .append) (xs := #[.tmp 23, .tmp 28]) rfl ?_); at_builtin; refine Kd.R_append_rows (Kd.int .u8) (w0 := w0) w0.heap.size rfl (.tmp 23) (.tmp 28) 40 5 (.int .u8 0) 1 rfl Try.underlying40 info5 rfl (by decide) (by omega) v122 y121 y125 _ _ _ (fun k_ => (P0_ k_ ∨ w.heap.size ≤ k_) ∧ some k_ ≠ (.slice Ao27 y125.length co27 : Value).ownBlock) (fun _ => False) rfl rfl ?aO ?aR (fun _ _ h => h) (fun _ h => h.elim) ?aF ?aB ?aS ?aL ?_; (case aR => repeat (first | exact (Kd.R_reads' HO127.out).2.2 | (with_reducible refine Kd.C_alloc ?_ _) | (with_reducible refine Kd.C_drewN ?_ _) | (with_reducible refine Kd.C_drew ?_))); (case aB => exact (by repeat (first | (with_reducible first | exact HB.out | apply below_alloc | apply pw_below_drewN | apply below_drew1) | exact HB.out))); (case aF => exact (fun k_ hk => ⟨(.inr (Nat.le_trans (by first | exact HK.out.1 | exact (show Kept w _ (fun k_ => P0_ k_) from by repeat (first | (with_reducible first | exact HK.out | apply Kept.alloc | apply Kept.drewN | apply Kept.drew) | exact HK.out)).1) hk)), Kd.fresh' (Kd.R_lt (by (with_reducible repeat (first | apply Kd.R_alloc | apply Kd.R_drewN | apply Kd.R_drew)); exact HO127.out)) k_ hk⟩)); (case aO => exact (by (with_reducible repeat (first | apply Kd.R_alloc | apply Kd.R_drewN | apply Kd.R_drew)); exact HO123.out)); (case aS => exact (below_size (by repeat (first | (with_reducible first | exact HB.out | apply below_alloc | apply pw_below_drewN | apply below_drew1) | exact HB.out)))); (case aL => have := LMc17.out; omega); intro v129 w26 ho hb hg hat; rw [← Ny128.out] at ho; have n0_ := Aside0.mk (Kd.V_afterv (ok := (fun k_ => ((P0_ k_ ∨ P1_ k_) ∨ w.heap.size ≤ k_) ∧ some k_ ≠ (.slice Ao27 y125.length co27 : Value).ownBlock)) (by (with_reducible repeat (first | apply Kd.V_alloc | apply Kd.V_drewN | apply Kd.V_drew)); exact Kd.V_mono HO_1.out (fun _ hk => ⟨⟨hk.1.1, hk.2⟩, hk.1.2⟩)) hg hat); have n1_ := Aside0.mk (Kd.V_afterv (ok := (fun k_ => ((P0_ k_ ∨ P1_ k_) ∨ w.heap.size ≤ k_) ∧ some k_ ≠ (.slice Ao27 y125.length co27 : Value).ownBlock)) (by (with_reducible repeat (first | apply Kd.V_alloc | apply Kd.V_drewN | apply Kd.V_drew)); exact Kd.V_mono HO120.out (fun _ hk => ⟨⟨hk.1.1, hk.2⟩, hk.1.2⟩)) hg hat); have n2_ := Aside0.mk (Kd.R_after (ok := (fun k_ => (P0_ k_ ∨ w.heap.size ≤ k_))) (by (with_reducible repeat (first | apply Kd.R_alloc | apply Kd.R_drewN | apply Kd.R_drew)); exact Kd.R_mono HO127.out (fun _ hk => ⟨hk.1.1, hk.2⟩)) hg hat); have n3_ := Aside0.mk (hb); have n4_ := Aside0.mk (Kept.of_grown (S := (fun k_ => P0_ k_)) hg (by repeat (first | (with_reducible first | exact HK.out | apply Kept.alloc | apply Kept.drewN | apply Kept.drew) | exact HK.out)) (fun k_ e_ => (HO123.out.1 k_ e_).1)); have n5_ := Aside0.mk (ho); clear HO_1; clear HO120; clear HO127; clear HB; clear HK; clear HO123; have HO_1 := n0_; have HO120 := n1_; have HO127 := n2_; have HB := n3_; have HK := n4_; have HO130 := n5_; clear n0_ n1_ n2_ n3_ n4_ n5_; clear ho hb hg hat; have q28 : ((ji18) : Int) ≤ ((x1_1.length : Int) : Int) := of_decide_eq_true (by first | (with_reducible assumption) | assumption); obtain ⟨i028, hi028, _, hsz28, _⟩ := info_parts info5; have hroom28 : x1_1.length ≤ co21 := (Kd.V_reads' HO_1.out).2.1; have hC28 : Kd.F (Kd.int .u8) _ _ (some ad124) x1_1.length x1_1 := (Kd.V_at (base := w0.heap.size) HO_1.out).2.2; have q028 : (0 : Int) ≤ ((ji18) : Int) := of_decide_eq_true (by first | (with_reducible assumption) | assumption); have hcut28 := cut_from (P := Try.prog) 40 5 .i64 Try.underlying40 hi028 1 hsz28 (some ad124) x1_1.length co21 (ji18) q028 q28; have hr28 := Kd.F_cut (m := ((ji18) : Int).toNat) (c := co21) hC28 (by omega) hroom28; obtain ⟨A28, hA28⟩ : ∃ A1, A1 = (if co21 = ((ji18) : Int).toNat then (some ad124) else ((some ad124) : Option Addr).map (·.add (((ji18) : Int).toNat * 1))) := ⟨_, rfl⟩; obtain ⟨c28, hc28⟩ : ∃ c1, c1 = co21 - ((ji18) : Int).toNat := ⟨_, rfl⟩; have hy28 : y131.length = x1_1.length - ((ji18) : Int).toNat := (by rw [Ny131.out, List.length_drop] <;> omega); rw [show (x1_1).drop ((ji18) : Int).toNat = y131 from Ny131.out.symm] at hr28; replace hr28 : Kd.F (Kd.int .u8) _ _ A28 y131.length y131 := (by rw [hA28]; exact hr28); rw [← hy28, ← hA28, ← hc28] at hcut28; have HO135 := Aside0.mk (show Kd.V (Kd.int .u8) 5 _ w0.heap.size _ (.slice A28 y131.length c28) y131 from Kd.V_mk (by rw [hy28, hc28]; exact Nat.sub_le_sub_right hroom28 _) hr28); have HC135 := Aside0.mk (show y131.length ≤ c28 from by rw [hy28, hc28]; exact Nat.sub_le_sub_right hroom28 _); clear hr28 hC28 hroom28 hi028 hsz28 hc28; have KY28 := Aside0.mk hy28; have KA28 := Aside0.mk hA28; clear hy28 hA28; replace q28 := eq_true q28))
                          go_roundg k1
                          case measure => have := HK1.out; omega
                          case rel => exact ⟨(y128), (y131), H', ⟨by have := HK1.out; omega⟩, ⟨by (with_reducible repeat (first | apply Kd.R_alloc | apply Kd.R_drewN | apply Kd.R_drew)); exact Kd.R_mono HO130.out (fun _ hk => hk.1)⟩, ⟨by (with_reducible repeat (first | apply Kd.V_alloc | apply Kd.V_drewN | apply Kd.V_drew)); exact Kd.V_mono HO135.out (fun _ hk => ⟨hk.1.1, hk.2⟩)⟩, ⟨by repeat (first | (with_reducible first | exact HK.out | apply Kept.alloc | apply Kept.drewN | apply Kept.drew) | exact HK.out)⟩, ⟨by repeat (first | (with_reducible first | exact HB.out | apply below_alloc | apply pw_below_drewN | apply below_drew1) | exact HB.out)⟩⟩
                        · rw [if_neg c20] at H
                          exact absurd H (by simp)
                      · rw [if_neg c19] at H
                        exact absurd H (by simp)
                    · rw [if_neg c17] at H
                      exact absurd H (by simp)
                  · rw [if_neg c16] at H
                    exact absurd H (by simp)
                · rw [if_neg c15] at H
                  exact absurd H (by simp)
              · rw [if_neg c14] at H
                exact absurd H (by simp)
            · rw [if_neg c13] at H
              exact absurd H (by simp)
          · rw [if_neg c12] at H
            have c12b0 : decide (0 < t109) = false := decide_eq_false c12
            clear c12
            by_cases c29 : 0 ≤ t109
            · rw [if_pos c29] at H
              have c29b0 : decide (0 ≤ t109) = true := decide_eq_true c29
              clear c29
              by_cases c30 : t109 < (x1_1.length : Int)
              · rw [if_pos c30] at H
                have c30b0 : decide (t109 < (x1_1.length : Int)) = true := decide_eq_true c30
                clear c30
                obtain ⟨y137, hy137⟩ : ∃ y_ : List Int, y_ = (([92, rd x1_1 t109] : List Int)) := ⟨_, rfl⟩
                replace H : (if x0_1.length + y137.length < 140737488355328 then (if 0 ≤ (wrap64 (t109 + 1)) then (if (wrap64 (t109 + 1)) ≤ (x1_1.length : Int) then (pq_appendArrayQuotedBytes.l0 k1 (x0_1 ++ y137) (x1_1.drop ((wrap64 (t109 + 1)) : Int).toNat)) else (none)) else (none)) else (none)) = some r := by first | (rw [hy137]; with_reducible exact H) | (have H2_ := (Option.bind_some _ _).symm.trans H; rw [hy137]; with_reducible exact H2_) | (have H2_ := (Option.bind_some _ _).symm.trans H; with_reducible exact H2_) | with_reducible exact H | (rw [hy137]; exact H) | exact H
                have Ny137 := Aside0.mk hy137
                clear hy137
                by_cases c31 : x0_1.length + y137.length < 140737488355328
                · rw [if_pos c31] at H
                  have LMc31 := Aside0.mk c31
                  clear c31
                  obtain ⟨y140, hy140⟩ : ∃ y_ : List Int, y_ = (x0_1 ++ y137) := ⟨_, rfl⟩
                  replace H : (if 0 ≤ (wrap64 (t109 + 1)) then (if (wrap64 (t109 + 1)) ≤ (x1_1.length : Int) then (pq_appendArrayQuotedBytes.l0 k1 y140 (x1_1.drop ((wrap64 (t109 + 1)) : Int).toNat)) else (none)) else (none)) = some r := by first | (rw [hy140]; with_reducible exact H) | (have H2_ := (Option.bind_some _ _).symm.trans H; rw [hy140]; with_reducible exact H2_) | (have H2_ := (Option.bind_some _ _).symm.trans H; with_reducible exact H2_) | with_reducible exact H | (rw [hy140]; exact H) | exact H
                  have Ny140 := Aside0.mk hy140
                  clear hy140
                  obtain ⟨ji32, hji32⟩ : ∃ j_ : Int, (wrap64 (t109 + 1)) = j_ := ⟨_, rfl⟩
                  replace H : (if 0 ≤ (ji32) then (if (ji32) ≤ (x1_1.length : Int) then (pq_appendArrayQuotedBytes.l0 k1 y140 (x1_1.drop ((ji32) : Int).toNat)) else (none)) else (none)) = some r := by first | (rw [hji32] at H; exact H) | (simp only [hji32] at H ⊢; exact H)
                  (try rw [hji32] at A5)
                  have hji32w : (IntKind.i64.wrap (t109 + 1)) = ji32 := (i64_w _).trans hji32
                  by_cases c33 : 0 ≤ (ji32)
                  · rw [if_pos c33] at H
                    have c33b0 := eq_true c33
                    have c33b1 : decide (0 ≤ (ji32)) = true := decide_eq_true c33
                    clear c33
                    by_cases c34 : (ji32) ≤ (x1_1.length : Int)
                    · rw [if_pos c34] at H
                      have c34b0 := eq_true c34
                      have c34b1 : decide ((ji32) ≤ (x1_1.length : Int)) = true := decide_eq_true c34
                      clear c34
                      obtain ⟨y143, hy143⟩ : ∃ y_ : List Int, y_ = (x1_1.drop ((ji32) : Int).toNat) := ⟨_, rfl⟩
                      replace H : (pq_appendArrayQuotedBytes.l0 k1 y140 y143) = some r := by first | (rw [hy143]; with_reducible exact H) | (have H2_ := (Option.bind_some _ _).symm.trans H; rw [hy143]; with_reducible exact H2_) | (have H2_ := (Option.bind_some _ _).symm.trans H; with_reducible exact H2_) | with_reducible exact H | (rw [hy143]; exact H) | exact H
                      have Ny143 := Aside0.mk hy143
                      clear hy143
                      have H' := Aside0.mk H
                      clear H
                      obtain ⟨Ao35, co35, eo35⟩ := Kd.V_slice HO_1.out
                      subst eo35
                      go_wp2_with (first | ((with_reducible refine gate_callee (f := 36) rfl ?_); refine goesL_ (some 10) rfl rfl Try.func36 (by kernel_rfl) rfl #[.slice Ao35 x1_1.length co35] rfl (by (try simp only [List.map_toArray, List.map_cons, List.map_nil]); first | done | rfl | (simp only [List.length_drop, List.length_take]; rfl)) ?_; (with_reducible refine (pq_zzIndexQuote.calls k1 _ _ x1_1 t109 _ ?side1 ?side2 A5.out).mono ?_); (case side1 => repeat (first | exact (Kd.V_reads' HO_1.out).2.2 | (with_reducible refine Kd.C_alloc ?_ _) | (with_reducible refine Kd.C_drewN ?_ _) | (with_reducible refine Kd.C_drew ?_))); (case side2 => exact (Kd.V_reads' HO_1.out).2.1); rintro e w' ⟨rfl, ⟨nd, rfl⟩⟩; refine ⟨_, rfl, ?_⟩; have p136 : 0 ≤ (t109 : Int) := of_decide_eq_true (by first | (with_reducible assumption) | assumption); have q136 : t109 < (x1_1.length : Int) := of_decide_eq_true (by first | (with_reducible assumption) | assumption); obtain ⟨ad136, e136, hx136_0⟩ := Kd.at_int (Kd.V_reads' HO_1.out).2.2 t109 p136 q136; cases e136; replace p136 := eq_true p136; replace q136 := eq_true q136) | ((with_reducible refine gate_dst (N := 28) rfl ?_); refine Kd.R_lit (Kd.int .u8) _ 5 ?hg (N := 28) ?hd (xs := ([92, rd x1_1 t109] : List Int)) (inner := [.int .u8 92, .int .u8 (rd x1_1 t109)]) (ok := fun _ => True) (okp := fun _ => True) ?hr ?hp (fun _ hk => hk) trivial (Below.refl _ _) (Nat.le_refl _) (by simp) ?_; (case hd => rfl); (case hg => rfl); (case hr => first | (go_simp; done) | (go_simp; rfl)); (case hp => exact (Reps.one (show Kd.M (Kd.int .u8) _ _ _ 92 [.int .u8 92] from rfl) (Reps.one (show Kd.M (Kd.int .u8) _ _ _ (rd x1_1 t109) [.int .u8 (rd x1_1 t109)] from rfl) (Reps.none _ _)))); intro v138 w36 ho37 hb hg_ hnew_; clear hg_ hnew_; (first | rw [← Ny137.out] at ho37 | (simp only [Int.reduceToNat] at ho37; rw [← Ny137.out] at ho37)); have n0_ := Aside0.mk (Kd.R_elder' (by (with_reducible repeat (first | apply Kd.R_alloc | apply Kd.R_drewN | apply Kd.R_drew)); exact HO_0.out) (Kd.R_base ho37) hb); have n1_ := Aside0.mk (Kd.V_elder' (by (with_reducible repeat (first | apply Kd.V_alloc | apply Kd.V_drewN | apply Kd.V_drew)); exact HO_1.out) (Kd.R_base ho37) hb); have n2_ := Aside0.mk (Kd.R_lower (Kd.R_new' (Kd.R_newM (M := fun k_ => (P0_ k_ ∨ w.heap.size ≤ k_)) ho37 (by first | exact HK.out.1 | exact (show Kept w _ (fun k_ => P0_ k_) from by repeat (first | (with_reducible first | exact HK.out | apply Kept.alloc | apply Kept.drewN | apply Kept.drew) | exact HK.out)).1) (fun k_ h_ => .inr h_)) (Kd.R_lt (by (with_reducible repeat (first | apply Kd.R_alloc | apply Kd.R_drewN | apply Kd.R_drew)); exact HO_0.out))) (below_size (by repeat (first | (with_reducible first | exact HB.out | apply below_alloc | apply pw_below_drewN | apply below_drew1) | exact HB.out)))); have n3_ := Aside0.mk (Kept.below (S := (fun k_ => P0_ k_)) (by repeat (first | (with_reducible first | exact HK.out | apply Kept.alloc | apply Kept.drewN | apply Kept.drew) | exact HK.out)) hb); have n4_ := Aside0.mk (below_step (by repeat (first | (with_reducible first | exact HB.out | apply below_alloc | apply pw_below_drewN | apply below_drew1) | exact HB.out)) hb); clear HO_0; clear HO_1; clear HK; clear HB; have HO_0 := n0_; have HO_1 := n1_; have HO139 := n2_; have HK := n3_; have HB := n4_; clear n0_ n1_ n2_ n3_ n4_; clear hb ho37; obtain ⟨Ao39, co39, eo39⟩ := Kd.R_slice HO139.out; subst eo39) | ((with_reducible refine gate_builtin (b := .append) (xs := #[.tmp 23, .tmp 28]) rfl ?_); at_builtin; refine Kd.R_append_rows (Kd.int .u8) (w0 := w0) w0.heap.size rfl (.tmp 23) (.tmp 28) 40 5 (.int .u8 0) 1 rfl Try.underlying40 info5 rfl (by decide) (by omega) u0 x0_1 y137 _ _ _ (fun k_ => (P0_ k_ ∨ w.heap.size ≤ k_) ∧ some k_ ≠ (.slice Ao39 y137.length co39 : Value).ownBlock) (fun _ => False) rfl rfl ?aO ?aR (fun _ _ h => h) (fun _ h => h.elim) ?aF ?aB ?aS ?aL ?_; (case aR => repeat (first | exact (Kd.R_reads' HO139.out).2.2 | (with_reducible refine Kd.C_alloc ?_ _) | (with_reducible refine Kd.C_drewN ?_ _) | (with_reducible refine Kd.C_drew ?_))); (case aB => exact (by repeat (first | (with_reducible first | exact HB.out | apply below_alloc | apply pw_below_drewN | apply below_drew1) | exact HB.out))); (case aF => exact (fun k_ hk => ⟨(.inr (Nat.le_trans (by first | exact HK.out.1 | exact (show Kept w _ (fun k_ => P0_ k_) from by repeat (first | (with_reducible first | exact HK.out | apply Kept.alloc | apply Kept.drewN | apply Kept.drew) | exact HK.out)).1) hk)), Kd.fresh' (Kd.R_lt (by (with_reducible repeat (first | apply Kd.R_alloc | apply Kd.R_drewN | apply Kd.R_drew)); exact HO139.out)) k_ hk⟩)); (case aO => exact (by (with_reducible repeat (first | apply Kd.R_alloc | apply Kd.R_drewN | apply Kd.R_drew)); exact HO_0.out)); (case aS => exact (below_size (by repeat (first | (with_reducible first | exact HB.out | apply below_alloc | apply pw_below_drewN | apply below_drew1) | exact HB.out)))); (case aL => have := LMc31.out; omega); intro v141 w38 ho hb hg hat; rw [← Ny140.out] at ho; have n0_ := Aside0.mk (Kd.V_afterv (ok := (fun k_ => ((P0_ k_ ∨ P1_ k_) ∨ w.heap.size ≤ k_) ∧ some k_ ≠ (.slice Ao39 y137.length co39 : Value).ownBlock)) (by (with_reducible repeat (first | apply Kd.V_alloc | apply Kd.V_drewN | apply Kd.V_drew)); exact Kd.V_mono HO_1.out (fun _ hk => ⟨⟨hk.1.1, hk.2⟩, hk.1.2⟩)) hg hat); have n1_ := Aside0.mk (Kd.R_after (ok := (fun k_ => (P0_ k_ ∨ w.heap.size ≤ k_))) (by (with_reducible repeat (first | apply Kd.R_alloc | apply Kd.R_drewN | apply Kd.R_drew)); exact Kd.R_mono HO139.out (fun _ hk => ⟨hk.1.1, hk.2⟩)) hg hat); have n2_ := Aside0.mk (hb); have n3_ := Aside0.mk (Kept.of_grown (S := (fun k_ => P0_ k_)) hg (by repeat (first | (with_reducible first | exact HK.out | apply Kept.alloc | apply Kept.drewN | apply Kept.drew) | exact HK.out)) (fun k_ e_ => (HO_0.out.1 k_ e_).1)); have n4_ := Aside0.mk (ho); clear HO_1; clear HO139; clear HB; clear HK; clear HO_0; have HO_1 := n0_; have HO139 := n1_; have HB := n2_; have HK := n3_; have HO142 := n4_; clear n0_ n1_ n2_ n3_ n4_; clear ho hb hg hat; have q40 : ((ji32) : Int) ≤ ((x1_1.length : Int) : Int) := of_decide_eq_true (by first | (with_reducible assumption) | assumption); obtain ⟨i040, hi040, _, hsz40, _⟩ := info_parts info5; have hroom40 : x1_1.length ≤ co35 := (Kd.V_reads' HO_1.out).2.1; have hC40 : Kd.F (Kd.int .u8) _ _ (some ad136) x1_1.length x1_1 := (Kd.V_at (base := w0.heap.size) HO_1.out).2.2; have q040 : (0 : Int) ≤ ((ji32) : Int) := of_decide_eq_true (by first | (with_reducible assumption) | assumption); have hcut40 := cut_from (P := Try.prog) 40 5 .i64 Try.underlying40 hi040 1 hsz40 (some ad136) x1_1.length co35 (ji32) q040 q40; have hr40 := Kd.F_cut (m := ((ji32) : Int).toNat) (c := co35) hC40 (by omega) hroom40; obtain ⟨A40, hA40⟩ : ∃ A1, A1 = (if co35 = ((ji32) : Int).toNat then (some ad136) else ((some ad136) : Option Addr).map (·.add (((ji32) : Int).toNat * 1))) := ⟨_, rfl⟩; obtain ⟨c40, hc40⟩ : ∃ c1, c1 = co35 - ((ji32) : Int).toNat := ⟨_, rfl⟩; have hy40 : y143.length = x1_1.length - ((ji32) : Int).toNat := (by rw [Ny143.out, List.length_drop] <;> omega); rw [show (x1_1).drop ((ji32) : Int).toNat = y143 from Ny143.out.symm] at hr40; replace hr40 : Kd.F (Kd.int .u8) _ _ A40 y143.length y143 := (by rw [hA40]; exact hr40); rw [← hy40, ← hA40, ← hc40] at hcut40; have HO147 := Aside0.mk (show Kd.V (Kd.int .u8) 5 _ w0.heap.size _ (.slice A40 y143.length c40) y143 from Kd.V_mk (by rw [hy40, hc40]; exact Nat.sub_le_sub_right hroom40 _) hr40); have HC147 := Aside0.mk (show y143.length ≤ c40 from by rw [hy40, hc40]; exact Nat.sub_le_sub_right hroom40 _); clear hr40 hC40 hroom40 hi040 hsz40 hc40; have KY40 := Aside0.mk hy40; have KA40 := Aside0.mk hA40; clear hy40 hA40; replace q40 := eq_true q40))
                      go_roundg k1
                      case measure => have := HK1.out; omega
                      case rel => exact ⟨(y140), (y143), H', ⟨by have := HK1.out; omega⟩, ⟨by (with_reducible repeat (first | apply Kd.R_alloc | apply Kd.R_drewN | apply Kd.R_drew)); exact Kd.R_mono HO142.out (fun _ hk => hk.1)⟩, ⟨by (with_reducible repeat (first | apply Kd.V_alloc | apply Kd.V_drewN | apply Kd.V_drew)); exact Kd.V_mono HO147.out (fun _ hk => ⟨hk.1.1, hk.2⟩)⟩, ⟨by repeat (first | (with_reducible first | exact HK.out | apply Kept.alloc | apply Kept.drewN | apply Kept.drew) | exact HK.out)⟩, ⟨by repeat (first | (with_reducible first | exact HB.out | apply below_alloc | apply pw_below_drewN | apply below_drew1) | exact HB.out)⟩⟩
                    · rw [if_neg c34] at H
                      exact absurd H (by simp)
                  · rw [if_neg c33] at H
                    exact absurd H (by simp)
                · rw [if_neg c31] at H
                  exact absurd H (by simp)
              · rw [if_neg c30] at H
                exact absurd H (by simp)
            · rw [if_neg c29] at H
              exact absurd H (by simp)
  · rw [if_neg c3] at H
    exact absurd H (by simp)

/-! ### pq_QuotedBytes: function 23 -/
def pq_QuotedBytes.f (k : Nat) (l0 : List Int) : Option (List Int) := (pq_appendArrayQuotedBytes.f k ([] : List Int) l0).bind fun t148 => (some t148)
theorem pq_QuotedBytes.mono : ∀ a0 k, LeO (pq_QuotedBytes.f k a0) (pq_QuotedBytes.f (k + 1) a0) := by
  intro a0 k
  unfold pq_QuotedBytes.f
  repeat' first
      | (with_reducible exact pq_appendArrayQuotedBytes.mono _ _ _)
      | (with_reducible exact LeO.refl _)
      | (with_reducible exact LeO.none _)
      | (with_reducible refine LeO.ite ?_ ?_)
      | (with_reducible refine LeO.bind ?_ (fun _ => ?_))
      | exact pq_appendArrayQuotedBytes.mono _ _ _
      | exact LeO.none _
      | refine LeO.ite ?_ ?_
      | refine LeO.bind ?_ (fun _ => ?_)
set_option maxHeartbeats 8000000 in
set_option maxRecDepth 100000 in
theorem pq_QuotedBytes.calls (k : Nat) (A0 : Option Addr) (c0 : Nat) (l0 : List Int) (r : List Int) (w : World) (hr0 : Kd.C (Kd.int .u8) w A0 l0.length l0) (hc0 : l0.length ≤ c0) (h : pq_QuotedBytes.f k l0 = some r) :
    Calls Try.prog 23 #[.slice A0 l0.length c0] w fun e w' => ∃ v0_ : Value, e = .returned (v0_) ∧ Kd.R (Kd.int .u8) 5 w' w.heap.size (fun _ => True) v0_ r ∧ Below w.heap.size w w' := by
  have HR0 := Aside0.mk hr0
  have HC0 := Aside0.mk hc0
  clear hr0 hc0
  have HB := Aside0.mk (Below.refl w.heap.size w)
  have H : ((pq_appendArrayQuotedBytes.f k ([] : List Int) l0).bind fun t148 => (some t148)) = some r := h
  clear h
  replace H := Option.bind_eq_some_iff.mp H
  obtain ⟨t148, A20, H⟩ := H
  replace H : (some t148) = some r := H
  have A2 := Aside0.mk A20
  clear A20
  obtain rfl := Option.some.inj H
  go_enter Try.func23, Try.ntmps23
  go_wp2_with (first | ((with_reducible refine gate_callee (f := 31) rfl ?_); refine goesL_ (some 4) rfl rfl Try.func31 (by kernel_rfl) rfl #[.slice none 0 0, .slice A0 l0.length c0] rfl (by (try simp only [List.map_toArray, List.map_cons, List.map_nil]); first | done | rfl | (simp only [List.length_drop, List.length_take]; rfl)) ?_; (refine (pq_appendArrayQuotedBytes.calls k (fun k_ => some k_ = (.slice none 0 0 : Value).ownBlock) (.slice none 0 0) ([] : List Int) (fun k_ => k_ < w.heap.size) _ _ l0 t148 w _ ?side1 ?side2 ?side3 A2.out).mono ?_); (case side1 => repeat (first | (with_reducible first | exact HB.out | apply below_alloc | apply pw_below_drewN | apply below_drew1) | exact HB.out)); (case side2 => exact Kd.R_nil _ _ _ _ _); (case side3 => exact Kd.V_mono (Kd.V_mk HC0.out (Kd.F_below (Kd.C_F (Kd.heap_int .u8) HR0.out) (by repeat (first | (with_reducible first | exact HB.out | apply below_alloc | apply pw_below_drewN | apply below_drew1) | exact HB.out)))) (fun k_ hk_ => ⟨hk_, (by simp [Value.ownBlock])⟩)); rintro e w3 ⟨v149, rfl, ho0, hb, hkp⟩; refine ⟨_, rfl, ?_⟩; have n0_ := Aside0.mk (Kd.R_mono (ok' := fun k_ => True) ho0 (fun k_ hk_ => trivial)); have n1_ := Aside0.mk (hb); clear HB; have HO150 := n0_; have HB := n1_; clear n0_ n1_; (try clear hb); (try clear hkp); (try clear ho0)))
  go_ret
  exact ⟨_, by first | rfl | (simp [errW_none, errW_some] <;> rfl) | (simp [*, errW_none, errW_some] <;> rfl), by (with_reducible repeat (first | apply Kd.R_alloc | apply Kd.R_drewN | apply Kd.R_drew)); exact HO150.out, by repeat (first | (with_reducible first | exact HB.out | apply below_alloc | apply pw_below_drewN | apply below_drew1) | exact HB.out)⟩

-- NOT PRINTED: function 12 (impl_Quoted)

end Go.Proofs.Ytlfkejljbehcaaa.P
