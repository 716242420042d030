-- Written by the program wip/myprint.py of this session, over the kit's print of the translation. Lean checks it.
import Derived.Test.YtlfkejljbehcaaaPx0
namespace Go.Proofs.Ytlfkejljbehcaaa.P
open Go.RowKit Go.Proofs.YtlfkejljbehcaaaW.PrintWords Go.Proofs.YtlfkejljbehcaaaW.PrintLast Go.Proofs.YtlfkejljbehcaaaW.PrintMore
attribute [local go_sem] max2_int min2_int max_two min_two max_three min_three max_four min_four   -- for this text's walks alone
set_option linter.unusedVariables false
set_option linter.unusedSimpArgs false

/-! ### laws_text9: function 9 -/
def laws_text9.l0 : Nat → ByteArray → Int → Option (Bool)
  | 0, _, _ => none
  | k + 1, x0, x3 => if x3 < (x0.size : Int) then (if 0 ≤ x3 then (if (bt x0 x3) = 0 then (some false) else (laws_text9.l0 k x0 (wrap64 (x3 + 1)))) else (none)) else (some true)
def laws_text9.f (k : Nat) (a0 : ByteArray) : Option (Bool) := if (a0.size : Int) > 1000 then (some false) else (laws_text9.l0 k a0 0)
theorem laws_text9.mono_l : ∀ k, (∀ y0 y1, LeO (laws_text9.l0 k y0 y1) (laws_text9.l0 (k + 1) y0 y1))
  | 0 => fun _ _ r h => by simp [laws_text9.l0] at h
  | k + 1 => by
    have ih0 := laws_text9.mono_l k
    · intro y0 y1
      unfold laws_text9.l0
      repeat' first
      | (with_reducible exact ih0 _ _)
      | (with_reducible exact LeO.refl _)
      | (with_reducible exact LeO.none _)
      | (with_reducible refine LeO.ite ?_ ?_)
      | (with_reducible refine LeO.bind ?_ (fun _ => ?_))
      | exact ih0 _ _
      | exact LeO.none _
      | refine LeO.ite ?_ ?_
      | refine LeO.bind ?_ (fun _ => ?_)
theorem laws_text9.mono : ∀ a0 k, LeO (laws_text9.f k a0) (laws_text9.f (k + 1) a0) := by
  intro a0 k
  have ih0 := laws_text9.mono_l k
  unfold laws_text9.f
  repeat' first
      | (with_reducible exact ih0 _ _)
      | (with_reducible exact LeO.refl _)
      | (with_reducible exact LeO.none _)
      | (with_reducible refine LeO.ite ?_ ?_)
      | (with_reducible refine LeO.bind ?_ (fun _ => ?_))
      | exact ih0 _ _
      | exact LeO.none _
      | refine LeO.ite ?_ ?_
      | refine LeO.bind ?_ (fun _ => ?_)
set_option maxHeartbeats 8000000 in
set_option maxRecDepth 100000 in
theorem laws_text9.calls (k : Nat) (a0 : ByteArray) (r : Bool) (w : World) (h : laws_text9.f k a0 = some r) :
    Calls Try.prog 9 #[.string a0] w fun e w' => e = .returned (.bool r) ∧ Drawn0 w w' := by
  have H : (if (a0.size : Int) > 1000 then (some false) else (laws_text9.l0 k a0 0)) = some r := h
  clear h
  by_cases c2 : (a0.size : Int) > 1000
  · rw [if_pos c2] at H
    have c2b0 : decide (1000 < (a0.size : Int)) = true := decide_eq_true c2
    have c2b1 : decide (1000 < a0.size) = true := decide_eq_true (by omega)
    clear c2
    obtain rfl := Option.some.inj H
    go_enter Try.func9, Try.ntmps9
    go_wp2
    go_ret
    exact ⟨by first | rfl | (simp; done) | (simp [*]; done), by repeat (first | exact Drawn0.refl _ | apply Drawn0.step)⟩
  · rw [if_neg c2] at H
    have c2b0 : decide (1000 < (a0.size : Int)) = false := decide_eq_false c2
    have c2b1 : decide (1000 < a0.size) = false := decide_eq_false (by omega)
    clear c2
    have H' := Aside0.mk H
    clear H
    go_enter Try.func9, Try.ntmps9
    go_wp2
    go_loopg [3] k (fun kq v3 w' => ∃ (x3_1 : Int), v3 = .int .i64 x3_1 ∧ Aside0 (laws_text9.l0 kq a0 x3_1 = some r) ∧ Aside0 (kq ≤ k) ∧ Drawn0 w w')
    case atStart => exact ⟨(0), (by first | rfl | (simp; done) | (simp [*]; done)), H', ⟨Nat.le_refl _⟩, by repeat (first | exact Drawn0.refl _ | apply Drawn0.step)⟩
    case round =>
      clear H'
      try clear c2
      try clear c2b0
      try clear c2b1
      try clear p2
      obtain ⟨x3_1, rfl, HA, HK1, ⟨m1, rfl⟩⟩ := hrel
      cases gk with
      | zero => exact absurd HA.out (by simp [laws_text9.l0])
      | succ k1 =>
        have H := HA.out
        clear HA
        simp only [laws_text9.l0] at H
        by_cases c3 : x3_1 < (a0.size : Int)
        · rw [if_pos c3] at H
          have c3b0 : decide (x3_1 < (a0.size : Int)) = true := decide_eq_true c3
          clear c3
          by_cases c4 : 0 ≤ x3_1
          · rw [if_pos c4] at H
            have c4b0 : decide (0 ≤ x3_1) = true := decide_eq_true c4
            clear c4
            by_cases c6 : (bt a0 x3_1) = 0
            · rw [if_pos c6] at H
              have c6b0 : ((bt a0 x3_1) == 0) = true := beq_iff_eq.mpr c6
              have c6b1 : ((bt a0 x3_1) != 0) = false := bne_eq_false_iff_eq.mpr c6
              clear c6
              obtain rfl := Option.some.inj H
              have p5 : 0 ≤ (x3_1 : Int) := of_decide_eq_true (by first | (with_reducible assumption) | assumption)
              have q5 : x3_1 < (a0.size : Int) := of_decide_eq_true (by first | (with_reducible assumption) | assumption)
              have hx5 := bt_at a0 x3_1
              replace p5 := eq_true p5
              replace q5 := eq_true q5
              go_wp2
              go_ret
              exact ⟨by first | rfl | (simp; done) | (simp [*]; done), by repeat (first | exact Drawn0.refl _ | apply Drawn0.step)⟩
            · rw [if_neg c6] at H
              have c6b0 : ((bt a0 x3_1) == 0) = false := beq_eq_false_iff_ne.mpr c6
              have c6b1 : ((bt a0 x3_1) != 0) = true := bne_iff_ne.mpr c6
              have H' := Aside0.mk H
              clear H
              have p5 : 0 ≤ (x3_1 : Int) := of_decide_eq_true (by first | (with_reducible assumption) | assumption)
              have q5 : x3_1 < (a0.size : Int) := of_decide_eq_true (by first | (with_reducible assumption) | assumption)
              have hx5 := bt_at a0 x3_1
              replace p5 := eq_true p5
              replace q5 := eq_true q5
              go_wp2
              go_roundg k1
              case measure => have := HK1.out; omega
              case rel => exact ⟨(wrap64 (x3_1 + 1)), (by first | rfl | (simp; done) | (simp [*]; done)), H', ⟨by have := HK1.out; omega⟩, by repeat (first | exact Drawn0.refl _ | apply Drawn0.step)⟩
          · rw [if_neg c4] at H
            exact absurd H (by simp)
        · rw [if_neg c3] at H
          have c3b0 : decide (x3_1 < (a0.size : Int)) = false := decide_eq_false c3
          clear c3
          obtain rfl := Option.some.inj H
          go_wp2
          go_ret
          exact ⟨by first | rfl | (simp; done) | (simp [*]; done), by repeat (first | exact Drawn0.refl _ | apply Drawn0.step)⟩

/-! ### spec_Yes: function 10 -/
def spec_Yes.j0 : Nat → ByteArray → Bool → Option (Bool × Bool)
  | 0, _, _ => none
  | k + 1, x4, x5 => if x5 = true then (some (true, true)) else (if x4.toList = ([48] : List UInt8) then (some (false, true)) else (if x4.toList = ([102] : List UInt8) then (some (false, true)) else (if x4.toList = ([70] : List UInt8) then (some (false, true)) else (if x4.toList = ([102, 97, 108, 115, 101] : List UInt8) then (some (false, true)) else (if x4.toList = ([70, 65, 76, 83, 69] : List UInt8) then (some (false, true)) else (if x4.toList = ([70, 97, 108, 115, 101] : List UInt8) then (some (false, true)) else (if x4.toList = ([110, 111] : List UInt8) then (some (false, true)) else (if x4.toList = ([111, 102, 102] : List UInt8) then (some (false, true)) else (some (false, false))))))))))
def spec_Yes.f (k : Nat) (a0 : ByteArray) : Option (Bool × Bool) := if a0.toList = ([49] : List UInt8) then (spec_Yes.j0 k a0 (a0.toList == ([49] : List UInt8))) else (if a0.toList = ([116] : List UInt8) then (spec_Yes.j0 k a0 (a0.toList == ([116] : List UInt8))) else (if a0.toList = ([84] : List UInt8) then (spec_Yes.j0 k a0 (a0.toList == ([84] : List UInt8))) else (if a0.toList = ([116, 114, 117, 101] : List UInt8) then (spec_Yes.j0 k a0 (a0.toList == ([116, 114, 117, 101] : List UInt8))) else (if a0.toList = ([84, 82, 85, 69] : List UInt8) then (spec_Yes.j0 k a0 (a0.toList == ([84, 82, 85, 69] : List UInt8))) else (if a0.toList = ([84, 114, 117, 101] : List UInt8) then (spec_Yes.j0 k a0 (a0.toList == ([84, 114, 117, 101] : List UInt8))) else (if a0.toList = ([121, 101, 115] : List UInt8) then (spec_Yes.j0 k a0 (a0.toList == ([121, 101, 115] : List UInt8))) else (spec_Yes.j0 k a0 (a0.toList == ([111, 110] : List UInt8)))))))))
theorem spec_Yes.mono_l : ∀ k, (∀ y0 y1, LeO (spec_Yes.j0 k y0 y1) (spec_Yes.j0 (k + 1) y0 y1))
  | 0 => fun _ _ r h => by simp [spec_Yes.j0] at h
  | k + 1 => by
    have ih0 := spec_Yes.mono_l k
    · intro y0 y1
      unfold spec_Yes.j0
      repeat' first
      | (with_reducible exact ih0 _ _)
      | (with_reducible exact LeO.refl _)
      | (with_reducible exact LeO.none _)
      | (with_reducible refine LeO.ite ?_ ?_)
      | (with_reducible refine LeO.bind ?_ (fun _ => ?_))
      | exact ih0 _ _
      | exact LeO.none _
      | refine LeO.ite ?_ ?_
      | refine LeO.bind ?_ (fun _ => ?_)
theorem spec_Yes.mono : ∀ a0 k, LeO (spec_Yes.f k a0) (spec_Yes.f (k + 1) a0) := by
  intro a0 k
  have ih0 := spec_Yes.mono_l k
  unfold spec_Yes.f
  repeat' first
      | (with_reducible exact ih0 _ _)
      | (with_reducible exact LeO.refl _)
      | (with_reducible exact LeO.none _)
      | (with_reducible refine LeO.ite ?_ ?_)
      | (with_reducible refine LeO.bind ?_ (fun _ => ?_))
      | exact ih0 _ _
      | exact LeO.none _
      | refine LeO.ite ?_ ?_
      | refine LeO.bind ?_ (fun _ => ?_)
set_option maxHeartbeats 8000000 in
set_option maxRecDepth 100000 in
theorem spec_Yes.calls (k : Nat) (a0 : ByteArray) (r1 : Bool) (r2 : Bool) (w : World) (h : spec_Yes.f k a0 = some (r1, r2)) :
    Calls Try.prog 10 #[.string a0] w fun e w' => e = .returned (.tuple #[.bool r1, .bool r2]) ∧ Drawn0 w w' := by
  have H : (if a0.toList = ([49] : List UInt8) then (spec_Yes.j0 k a0 (a0.toList == ([49] : List UInt8))) else (if a0.toList = ([116] : List UInt8) then (spec_Yes.j0 k a0 (a0.toList == ([116] : List UInt8))) else (if a0.toList = ([84] : List UInt8) then (spec_Yes.j0 k a0 (a0.toList == ([84] : List UInt8))) else (if a0.toList = ([116, 114, 117, 101] : List UInt8) then (spec_Yes.j0 k a0 (a0.toList == ([116, 114, 117, 101] : List UInt8))) else (if a0.toList = ([84, 82, 85, 69] : List UInt8) then (spec_Yes.j0 k a0 (a0.toList == ([84, 82, 85, 69] : List UInt8))) else (if a0.toList = ([84, 114, 117, 101] : List UInt8) then (spec_Yes.j0 k a0 (a0.toList == ([84, 114, 117, 101] : List UInt8))) else (if a0.toList = ([121, 101, 115] : List UInt8) then (spec_Yes.j0 k a0 (a0.toList == ([121, 101, 115] : List UInt8))) else (spec_Yes.j0 k a0 (a0.toList == ([111, 110] : List UInt8)))))))))) = some (r1, r2) := h
  clear h
  have HC2 := Aside0.mk H
  clear H
  go_enter Try.func10, Try.ntmps10
  go_upto_if 5 with (fail)
  go_cut [5] (fun v5 wc => ∃ (kq : Nat) (x5_1 : Bool), v5 = .bool x5_1 ∧ Aside0 (spec_Yes.j0 kq a0 x5_1 = some (r1, r2)) ∧ Aside0 (kq ≤ k) ∧ Drawn0 w wc)
  case first =>
    have H := HC2.out
    clear HC2
    by_cases c3 : a0.toList = ([49] : List UInt8)
    · rw [if_pos c3] at H
      have c3b0 : (a0.toList == ([49] : List UInt8)) = true := beq_iff_eq.mpr c3
      have c3b1 : (a0.toList != ([49] : List UInt8)) = false := bne_eq_false_iff_eq.mpr c3
      clear c3
      (first | rw [c3b0] | (simp only [i64_w, i32_w]; rw [c3b0]) | skip)
      have H' := Aside0.mk H
      clear H
      go_wp2
      go_meet
      case rel => exact ⟨_, ((a0.toList == ([49] : List UInt8))), (by first | rfl | (simp; done) | (simp [*]; done)), H', ⟨by first | omega | exact Nat.le_refl _⟩, by repeat (first | exact Drawn0.refl _ | apply Drawn0.step)⟩
    · rw [if_neg c3] at H
      have c3b0 : (a0.toList == ([49] : List UInt8)) = false := beq_eq_false_iff_ne.mpr c3
      have c3b1 : (a0.toList != ([49] : List UInt8)) = true := bne_iff_ne.mpr c3
      (first | rw [c3b0] | (simp only [i64_w, i32_w]; rw [c3b0]) | skip)
      by_cases c4 : a0.toList = ([116] : List UInt8)
      · rw [if_pos c4] at H
        have c4b0 : (a0.toList == ([116] : List UInt8)) = true := beq_iff_eq.mpr c4
        have c4b1 : (a0.toList != ([116] : List UInt8)) = false := bne_eq_false_iff_eq.mpr c4
        clear c4
        have H' := Aside0.mk H
        clear H
        go_wp2
        go_meet
        case rel => exact ⟨_, ((a0.toList == ([116] : List UInt8))), (by first | rfl | (simp; done) | (simp [*]; done)), H', ⟨by first | omega | exact Nat.le_refl _⟩, by repeat (first | exact Drawn0.refl _ | apply Drawn0.step)⟩
      · rw [if_neg c4] at H
        have c4b0 : (a0.toList == ([116] : List UInt8)) = false := beq_eq_false_iff_ne.mpr c4
        have c4b1 : (a0.toList != ([116] : List UInt8)) = true := bne_iff_ne.mpr c4
        by_cases c5 : a0.toList = ([84] : List UInt8)
        · rw [if_pos c5] at H
          have c5b0 : (a0.toList == ([84] : List UInt8)) = true := beq_iff_eq.mpr c5
          have c5b1 : (a0.toList != ([84] : List UInt8)) = false := bne_eq_false_iff_eq.mpr c5
          clear c5
          have H' := Aside0.mk H
          clear H
          go_wp2
          go_meet
          case rel => exact ⟨_, ((a0.toList == ([84] : List UInt8))), (by first | rfl | (simp; done) | (simp [*]; done)), H', ⟨by first | omega | exact Nat.le_refl _⟩, by repeat (first | exact Drawn0.refl _ | apply Drawn0.step)⟩
        · rw [if_neg c5] at H
          have c5b0 : (a0.toList == ([84] : List UInt8)) = false := beq_eq_false_iff_ne.mpr c5
          have c5b1 : (a0.toList != ([84] : List UInt8)) = true := bne_iff_ne.mpr c5
          by_cases c6 : a0.toList = ([116, 114, 117, 101] : List UInt8)
          · rw [if_pos c6] at H
            have c6b0 : (a0.toList == ([116, 114, 117, 101] : List UInt8)) = true := beq_iff_eq.mpr c6
            have c6b1 : (a0.toList != ([116, 114, 117, 101] : List UInt8)) = false := bne_eq_false_iff_eq.mpr c6
            clear c6
            have H' := Aside0.mk H
            clear H
            go_wp2
            go_meet
            case rel => exact ⟨_, ((a0.toList == ([116, 114, 117, 101] : List UInt8))), (by first | rfl | (simp; done) | (simp [*]; done)), H', ⟨by first | omega | exact Nat.le_refl _⟩, by repeat (first | exact Drawn0.refl _ | apply Drawn0.step)⟩
          · rw [if_neg c6] at H
            have c6b0 : (a0.toList == ([116, 114, 117, 101] : List UInt8)) = false := beq_eq_false_iff_ne.mpr c6
            have c6b1 : (a0.toList != ([116, 114, 117, 101] : List UInt8)) = true := bne_iff_ne.mpr c6
            by_cases c7 : a0.toList = ([84, 82, 85, 69] : List UInt8)
            · rw [if_pos c7] at H
              have c7b0 : (a0.toList == ([84, 82, 85, 69] : List UInt8)) = true := beq_iff_eq.mpr c7
              have c7b1 : (a0.toList != ([84, 82, 85, 69] : List UInt8)) = false := bne_eq_false_iff_eq.mpr c7
              clear c7
              have H' := Aside0.mk H
              clear H
              go_wp2
              go_meet
              case rel => exact ⟨_, ((a0.toList == ([84, 82, 85, 69] : List UInt8))), (by first | rfl | (simp; done) | (simp [*]; done)), H', ⟨by first | omega | exact Nat.le_refl _⟩, by repeat (first | exact Drawn0.refl _ | apply Drawn0.step)⟩
            · rw [if_neg c7] at H
              have c7b0 : (a0.toList == ([84, 82, 85, 69] : List UInt8)) = false := beq_eq_false_iff_ne.mpr c7
              have c7b1 : (a0.toList != ([84, 82, 85, 69] : List UInt8)) = true := bne_iff_ne.mpr c7
              by_cases c8 : a0.toList = ([84, 114, 117, 101] : List UInt8)
              · rw [if_pos c8] at H
                have c8b0 : (a0.toList == ([84, 114, 117, 101] : List UInt8)) = true := beq_iff_eq.mpr c8
                have c8b1 : (a0.toList != ([84, 114, 117, 101] : List UInt8)) = false := bne_eq_false_iff_eq.mpr c8
                clear c8
                have H' := Aside0.mk H
                clear H
                go_wp2
                go_meet
                case rel => exact ⟨_, ((a0.toList == ([84, 114, 117, 101] : List UInt8))), (by first | rfl | (simp; done) | (simp [*]; done)), H', ⟨by first | omega | exact Nat.le_refl _⟩, by repeat (first | exact Drawn0.refl _ | apply Drawn0.step)⟩
              · rw [if_neg c8] at H
                have c8b0 : (a0.toList == ([84, 114, 117, 101] : List UInt8)) = false := beq_eq_false_iff_ne.mpr c8
                have c8b1 : (a0.toList != ([84, 114, 117, 101] : List UInt8)) = true := bne_iff_ne.mpr c8
                by_cases c9 : a0.toList = ([121, 101, 115] : List UInt8)
                · rw [if_pos c9] at H
                  have c9b0 : (a0.toList == ([121, 101, 115] : List UInt8)) = true := beq_iff_eq.mpr c9
                  have c9b1 : (a0.toList != ([121, 101, 115] : List UInt8)) = false := bne_eq_false_iff_eq.mpr c9
                  clear c9
                  have H' := Aside0.mk H
                  clear H
                  go_wp2
                  go_meet
                  case rel => exact ⟨_, ((a0.toList == ([121, 101, 115] : List UInt8))), (by first | rfl | (simp; done) | (simp [*]; done)), H', ⟨by first | omega | exact Nat.le_refl _⟩, by repeat (first | exact Drawn0.refl _ | apply Drawn0.step)⟩
                · rw [if_neg c9] at H
                  have c9b0 : (a0.toList == ([121, 101, 115] : List UInt8)) = false := beq_eq_false_iff_ne.mpr c9
                  have c9b1 : (a0.toList != ([121, 101, 115] : List UInt8)) = true := bne_iff_ne.mpr c9
                  have H' := Aside0.mk H
                  clear H
                  go_wp2
                  go_meet
                  case rel => exact ⟨_, ((a0.toList == ([111, 110] : List UInt8))), (by first | rfl | (simp; done) | (simp [*]; done)), H', ⟨by first | omega | exact Nat.le_refl _⟩, by repeat (first | exact Drawn0.refl _ | apply Drawn0.step)⟩
  case rest =>
    clear HC2
    try clear c1
    try clear p2
    try clear c3
    try clear c3b0
    try clear c3b1
    try clear c4
    try clear c4b0
    try clear c4b1
    try clear c5
    try clear c5b0
    try clear c5b1
    try clear c6
    try clear c6b0
    try clear c6b1
    try clear c7
    try clear c7b0
    try clear c7b1
    try clear c8
    try clear c8b0
    try clear c8b1
    try clear c9
    try clear c9b0
    try clear c9b1
    obtain ⟨kq, x5_1, rfl, HA, HJ1, ⟨mc1, rfl⟩⟩ := hcut
    cases kq with
    | zero => exact absurd HA.out (by simp [spec_Yes.j0])
    | succ kj1 =>
      have H := HA.out
      clear HA
      simp only [spec_Yes.j0] at H
      by_cases c10 : x5_1 = true
      · subst c10
        have H1 : (some (true, true)) = some (r1, r2) := by rw [if_pos rfl] at H; exact H
        clear H
        have H := H1
        clear H1
        simp only [Option.some.injEq, Prod.mk.injEq] at H
        obtain ⟨rfl, rfl⟩ := H
        go_wp2
        go_ret2
        exact ⟨by first | rfl | (simp; done) | (simp [*]; done), by repeat (first | exact Drawn0.refl _ | apply Drawn0.step)⟩
      · replace c10 := Bool.eq_false_iff.mpr c10
        subst c10
        have H1 : (if a0.toList = ([48] : List UInt8) then (some (false, true)) else (if a0.toList = ([102] : List UInt8) then (some (false, true)) else (if a0.toList = ([70] : List UInt8) then (some (false, true)) else (if a0.toList = ([102, 97, 108, 115, 101] : List UInt8) then (some (false, true)) else (if a0.toList = ([70, 65, 76, 83, 69] : List UInt8) then (some (false, true)) else (if a0.toList = ([70, 97, 108, 115, 101] : List UInt8) then (some (false, true)) else (if a0.toList = ([110, 111] : List UInt8) then (some (false, true)) else (if a0.toList = ([111, 102, 102] : List UInt8) then (some (false, true)) else (some (false, false)))))))))) = some (r1, r2) := by rw [if_neg (show ¬ (false = true) by decide)] at H; exact H
        clear H
        have H := H1
        clear H1
        by_cases c11 : a0.toList = ([48] : List UInt8)
        · rw [if_pos c11] at H
          have c11b0 : (a0.toList == ([48] : List UInt8)) = true := beq_iff_eq.mpr c11
          have c11b1 : (a0.toList != ([48] : List UInt8)) = false := bne_eq_false_iff_eq.mpr c11
          clear c11
          simp only [Option.some.injEq, Prod.mk.injEq] at H
          obtain ⟨rfl, rfl⟩ := H
          go_wp2
          go_ret2
          exact ⟨by first | rfl | (simp; done) | (simp [*]; done), by repeat (first | exact Drawn0.refl _ | apply Drawn0.step)⟩
        · rw [if_neg c11] at H
          have c11b0 : (a0.toList == ([48] : List UInt8)) = false := beq_eq_false_iff_ne.mpr c11
          have c11b1 : (a0.toList != ([48] : List UInt8)) = true := bne_iff_ne.mpr c11
          by_cases c12 : a0.toList = ([102] : List UInt8)
          · rw [if_pos c12] at H
            have c12b0 : (a0.toList == ([102] : List UInt8)) = true := beq_iff_eq.mpr c12
            have c12b1 : (a0.toList != ([102] : List UInt8)) = false := bne_eq_false_iff_eq.mpr c12
            clear c12
            simp only [Option.some.injEq, Prod.mk.injEq] at H
            obtain ⟨rfl, rfl⟩ := H
            go_wp2
            go_ret2
            exact ⟨by first | rfl | (simp; done) | (simp [*]; done), by repeat (first | exact Drawn0.refl _ | apply Drawn0.step)⟩
          · rw [if_neg c12] at H
            have c12b0 : (a0.toList == ([102] : List UInt8)) = false := beq_eq_false_iff_ne.mpr c12
            have c12b1 : (a0.toList != ([102] : List UInt8)) = true := bne_iff_ne.mpr c12
            by_cases c13 : a0.toList = ([70] : List UInt8)
            · rw [if_pos c13] at H
              have c13b0 : (a0.toList == ([70] : List UInt8)) = true := beq_iff_eq.mpr c13
              have c13b1 : (a0.toList != ([70] : List UInt8)) = false := bne_eq_false_iff_eq.mpr c13
              clear c13
              simp only [Option.some.injEq, Prod.mk.injEq] at H
              obtain ⟨rfl, rfl⟩ := H
              go_wp2
              go_ret2
              exact ⟨by first | rfl | (simp; done) | (simp [*]; done), by repeat (first | exact Drawn0.refl _ | apply Drawn0.step)⟩
            · rw [if_neg c13] at H
              have c13b0 : (a0.toList == ([70] : List UInt8)) = false := beq_eq_false_iff_ne.mpr c13
              have c13b1 : (a0.toList != ([70] : List UInt8)) = true := bne_iff_ne.mpr c13
              by_cases c14 : a0.toList = ([102, 97, 108, 115, 101] : List UInt8)
              · rw [if_pos c14] at H
                have c14b0 : (a0.toList == ([102, 97, 108, 115, 101] : List UInt8)) = true := beq_iff_eq.mpr c14
                have c14b1 : (a0.toList != ([102, 97, 108, 115, 101] : List UInt8)) = false := bne_eq_false_iff_eq.mpr c14
                clear c14
                simp only [Option.some.injEq, Prod.mk.injEq] at H
                obtain ⟨rfl, rfl⟩ := H
                go_wp2
                go_ret2
                exact ⟨by first | rfl | (simp; done) | (simp [*]; done), by repeat (first | exact Drawn0.refl _ | apply Drawn0.step)⟩
              · rw [if_neg c14] at H
                have c14b0 : (a0.toList == ([102, 97, 108, 115, 101] : List UInt8)) = false := beq_eq_false_iff_ne.mpr c14
                have c14b1 : (a0.toList != ([102, 97, 108, 115, 101] : List UInt8)) = true := bne_iff_ne.mpr c14
                by_cases c15 : a0.toList = ([70, 65, 76, 83, 69] : List UInt8)
                · rw [if_pos c15] at H
                  have c15b0 : (a0.toList == ([70, 65, 76, 83, 69] : List UInt8)) = true := beq_iff_eq.mpr c15
                  have c15b1 : (a0.toList != ([70, 65, 76, 83, 69] : List UInt8)) = false := bne_eq_false_iff_eq.mpr c15
                  clear c15
                  simp only [Option.some.injEq, Prod.mk.injEq] at H
                  obtain ⟨rfl, rfl⟩ := H
                  go_wp2
                  go_ret2
                  exact ⟨by first | rfl | (simp; done) | (simp [*]; done), by repeat (first | exact Drawn0.refl _ | apply Drawn0.step)⟩
                · rw [if_neg c15] at H
                  have c15b0 : (a0.toList == ([70, 65, 76, 83, 69] : List UInt8)) = false := beq_eq_false_iff_ne.mpr c15
                  have c15b1 : (a0.toList != ([70, 65, 76, 83, 69] : List UInt8)) = true := bne_iff_ne.mpr c15
                  by_cases c16 : a0.toList = ([70, 97, 108, 115, 101] : List UInt8)
                  · rw [if_pos c16] at H
                    have c16b0 : (a0.toList == ([70, 97, 108, 115, 101] : List UInt8)) = true := beq_iff_eq.mpr c16
                    have c16b1 : (a0.toList != ([70, 97, 108, 115, 101] : List UInt8)) = false := bne_eq_false_iff_eq.mpr c16
                    clear c16
                    simp only [Option.some.injEq, Prod.mk.injEq] at H
                    obtain ⟨rfl, rfl⟩ := H
                    go_wp2
                    go_ret2
                    exact ⟨by first | rfl | (simp; done) | (simp [*]; done), by repeat (first | exact Drawn0.refl _ | apply Drawn0.step)⟩
                  · rw [if_neg c16] at H
                    have c16b0 : (a0.toList == ([70, 97, 108, 115, 101] : List UInt8)) = false := beq_eq_false_iff_ne.mpr c16
                    have c16b1 : (a0.toList != ([70, 97, 108, 115, 101] : List UInt8)) = true := bne_iff_ne.mpr c16
                    by_cases c17 : a0.toList = ([110, 111] : List UInt8)
                    · rw [if_pos c17] at H
                      have c17b0 : (a0.toList == ([110, 111] : List UInt8)) = true := beq_iff_eq.mpr c17
                      have c17b1 : (a0.toList != ([110, 111] : List UInt8)) = false := bne_eq_false_iff_eq.mpr c17
                      clear c17
                      simp only [Option.some.injEq, Prod.mk.injEq] at H
                      obtain ⟨rfl, rfl⟩ := H
                      go_wp2
                      go_ret2
                      exact ⟨by first | rfl | (simp; done) | (simp [*]; done), by repeat (first | exact Drawn0.refl _ | apply Drawn0.step)⟩
                    · rw [if_neg c17] at H
                      have c17b0 : (a0.toList == ([110, 111] : List UInt8)) = false := beq_eq_false_iff_ne.mpr c17
                      have c17b1 : (a0.toList != ([110, 111] : List UInt8)) = true := bne_iff_ne.mpr c17
                      by_cases c18 : a0.toList = ([111, 102, 102] : List UInt8)
                      · rw [if_pos c18] at H
                        have c18b0 : (a0.toList == ([111, 102, 102] : List UInt8)) = true := beq_iff_eq.mpr c18
                        have c18b1 : (a0.toList != ([111, 102, 102] : List UInt8)) = false := bne_eq_false_iff_eq.mpr c18
                        clear c18
                        simp only [Option.some.injEq, Prod.mk.injEq] at H
                        obtain ⟨rfl, rfl⟩ := H
                        go_wp2
                        go_ret2
                        exact ⟨by first | rfl | (simp; done) | (simp [*]; done), by repeat (first | exact Drawn0.refl _ | apply Drawn0.step)⟩
                      · rw [if_neg c18] at H
                        have c18b0 : (a0.toList == ([111, 102, 102] : List UInt8)) = false := beq_eq_false_iff_ne.mpr c18
                        have c18b1 : (a0.toList != ([111, 102, 102] : List UInt8)) = true := bne_iff_ne.mpr c18
                        simp only [Option.some.injEq, Prod.mk.injEq] at H
                        obtain ⟨rfl, rfl⟩ := H
                        go_wp2
                        go_ret2
                        exact ⟨by first | rfl | (simp; done) | (simp [*]; done), by repeat (first | exact Drawn0.refl _ | apply Drawn0.step)⟩

-- NOT PRINTED: function 30 (errors_New)

-- NOT PRINTED: function 22 (pqutil_ParseBool)

/-! ### impl_Yes: function 11 -/
/-- errors.New: some error that is not nil; nothing that was is changed. -/
theorem errors_New_calls (s : ByteArray) (w : World) :
    Calls Try.prog 30 #[.string s] w fun e w' => ∃ (t : TypeId) (v : Value), e = .returned (.iface t v) ∧ Below w.heap.size w w' := by
  go_enter Try.func30, Try.ntmps30
  go_wp2
  go_ret
  exact ⟨_, _, rfl, (Below.refl _ _).alloc (Nat.le_refl _) _⟩
def impl_Yes.f (a0 : ByteArray) : Option (Bool × Bool) := if a0.toList = ([49] : List UInt8) then some (true, true) else (if a0.toList = ([116] : List UInt8) then some (true, true) else (if a0.toList = ([84] : List UInt8) then some (true, true) else (if a0.toList = ([116, 114, 117, 101] : List UInt8) then some (true, true) else (if a0.toList = ([84, 82, 85, 69] : List UInt8) then some (true, true) else (if a0.toList = ([84, 114, 117, 101] : List UInt8) then some (true, true) else (if a0.toList = ([121, 101, 115] : List UInt8) then some (true, true) else (if a0.toList = ([111, 110] : List UInt8) then some (true, true) else (if a0.toList = ([48] : List UInt8) then some (false, true) else (if a0.toList = ([102] : List UInt8) then some (false, true) else (if a0.toList = ([70] : List UInt8) then some (false, true) else (if a0.toList = ([102, 97, 108, 115, 101] : List UInt8) then some (false, true) else (if a0.toList = ([70, 65, 76, 83, 69] : List UInt8) then some (false, true) else (if a0.toList = ([70, 97, 108, 115, 101] : List UInt8) then some (false, true) else (if a0.toList = ([110, 111] : List UInt8) then some (false, true) else (if a0.toList = ([111, 102, 102] : List UInt8) then some (false, true) else (some (false, false)))))))))))))))))
def BoolErr (r : Bool × Bool) (w : World) (e : Ending) (w' : World) : Prop := (r.2 = true ∧ e = .returned (.tuple #[.bool r.1, .nilIface]) ∧ Below w.heap.size w w') ∨ (r = (false, false) ∧ ∃ (t : TypeId) (v : Value), e = .returned (.tuple #[.bool false, .iface t v]) ∧ Below w.heap.size w w')
set_option maxHeartbeats 8000000 in
set_option maxRecDepth 100000 in
theorem ParseBool_calls (a0 : ByteArray) (r : Bool × Bool) (w : World) (H : impl_Yes.f a0 = some r) :
    Calls Try.prog 22 #[.string a0] w (BoolErr r w) := by
  unfold impl_Yes.f at H
  by_cases c0 : a0.toList = ([49] : List UInt8)
  · rw [if_pos c0] at H
    obtain rfl := Option.some.inj H
    have b0 : (a0.toList == ([49] : List UInt8)) = true := beq_iff_eq.mpr c0
    clear H c0
    go_enter Try.func22, Try.ntmps22
    go_wp2
    go_ret2
    exact .inl ⟨rfl, rfl, Below.refl _ _⟩
  rw [if_neg c0] at H
  have b0 : (a0.toList == ([49] : List UInt8)) = false := beq_eq_false_iff_ne.mpr c0
  clear c0
  by_cases c1 : a0.toList = ([116] : List UInt8)
  · rw [if_pos c1] at H
    obtain rfl := Option.some.inj H
    have b1 : (a0.toList == ([116] : List UInt8)) = true := beq_iff_eq.mpr c1
    clear H c1
    go_enter Try.func22, Try.ntmps22
    go_wp2
    go_ret2
    exact .inl ⟨rfl, rfl, Below.refl _ _⟩
  rw [if_neg c1] at H
  have b1 : (a0.toList == ([116] : List UInt8)) = false := beq_eq_false_iff_ne.mpr c1
  clear c1
  by_cases c2 : a0.toList = ([84] : List UInt8)
  · rw [if_pos c2] at H
    obtain rfl := Option.some.inj H
    have b2 : (a0.toList == ([84] : List UInt8)) = true := beq_iff_eq.mpr c2
    clear H c2
    go_enter Try.func22, Try.ntmps22
    go_wp2
    go_ret2
    exact .inl ⟨rfl, rfl, Below.refl _ _⟩
  rw [if_neg c2] at H
  have b2 : (a0.toList == ([84] : List UInt8)) = false := beq_eq_false_iff_ne.mpr c2
  clear c2
  by_cases c3 : a0.toList = ([116, 114, 117, 101] : List UInt8)
  · rw [if_pos c3] at H
    obtain rfl := Option.some.inj H
    have b3 : (a0.toList == ([116, 114, 117, 101] : List UInt8)) = true := beq_iff_eq.mpr c3
    clear H c3
    go_enter Try.func22, Try.ntmps22
    go_wp2
    go_ret2
    exact .inl ⟨rfl, rfl, Below.refl _ _⟩
  rw [if_neg c3] at H
  have b3 : (a0.toList == ([116, 114, 117, 101] : List UInt8)) = false := beq_eq_false_iff_ne.mpr c3
  clear c3
  by_cases c4 : a0.toList = ([84, 82, 85, 69] : List UInt8)
  · rw [if_pos c4] at H
    obtain rfl := Option.some.inj H
    have b4 : (a0.toList == ([84, 82, 85, 69] : List UInt8)) = true := beq_iff_eq.mpr c4
    clear H c4
    go_enter Try.func22, Try.ntmps22
    go_wp2
    go_ret2
    exact .inl ⟨rfl, rfl, Below.refl _ _⟩
  rw [if_neg c4] at H
  have b4 : (a0.toList == ([84, 82, 85, 69] : List UInt8)) = false := beq_eq_false_iff_ne.mpr c4
  clear c4
  by_cases c5 : a0.toList = ([84, 114, 117, 101] : List UInt8)
  · rw [if_pos c5] at H
    obtain rfl := Option.some.inj H
    have b5 : (a0.toList == ([84, 114, 117, 101] : List UInt8)) = true := beq_iff_eq.mpr c5
    clear H c5
    go_enter Try.func22, Try.ntmps22
    go_wp2
    go_ret2
    exact .inl ⟨rfl, rfl, Below.refl _ _⟩
  rw [if_neg c5] at H
  have b5 : (a0.toList == ([84, 114, 117, 101] : List UInt8)) = false := beq_eq_false_iff_ne.mpr c5
  clear c5
  by_cases c6 : a0.toList = ([121, 101, 115] : List UInt8)
  · rw [if_pos c6] at H
    obtain rfl := Option.some.inj H
    have b6 : (a0.toList == ([121, 101, 115] : List UInt8)) = true := beq_iff_eq.mpr c6
    clear H c6
    go_enter Try.func22, Try.ntmps22
    go_wp2
    go_ret2
    exact .inl ⟨rfl, rfl, Below.refl _ _⟩
  rw [if_neg c6] at H
  have b6 : (a0.toList == ([121, 101, 115] : List UInt8)) = false := beq_eq_false_iff_ne.mpr c6
  clear c6
  by_cases c7 : a0.toList = ([111, 110] : List UInt8)
  · rw [if_pos c7] at H
    obtain rfl := Option.some.inj H
    have b7 : (a0.toList == ([111, 110] : List UInt8)) = true := beq_iff_eq.mpr c7
    clear H c7
    go_enter Try.func22, Try.ntmps22
    go_wp2
    go_ret2
    exact .inl ⟨rfl, rfl, Below.refl _ _⟩
  rw [if_neg c7] at H
  have b7 : (a0.toList == ([111, 110] : List UInt8)) = false := beq_eq_false_iff_ne.mpr c7
  clear c7
  by_cases c8 : a0.toList = ([48] : List UInt8)
  · rw [if_pos c8] at H
    obtain rfl := Option.some.inj H
    have b8 : (a0.toList == ([48] : List UInt8)) = true := beq_iff_eq.mpr c8
    clear H c8
    go_enter Try.func22, Try.ntmps22
    go_wp2
    go_ret2
    exact .inl ⟨rfl, rfl, Below.refl _ _⟩
  rw [if_neg c8] at H
  have b8 : (a0.toList == ([48] : List UInt8)) = false := beq_eq_false_iff_ne.mpr c8
  clear c8
  by_cases c9 : a0.toList = ([102] : List UInt8)
  · rw [if_pos c9] at H
    obtain rfl := Option.some.inj H
    have b9 : (a0.toList == ([102] : List UInt8)) = true := beq_iff_eq.mpr c9
    clear H c9
    go_enter Try.func22, Try.ntmps22
    go_wp2
    go_ret2
    exact .inl ⟨rfl, rfl, Below.refl _ _⟩
  rw [if_neg c9] at H
  have b9 : (a0.toList == ([102] : List UInt8)) = false := beq_eq_false_iff_ne.mpr c9
  clear c9
  by_cases c10 : a0.toList = ([70] : List UInt8)
  · rw [if_pos c10] at H
    obtain rfl := Option.some.inj H
    have b10 : (a0.toList == ([70] : List UInt8)) = true := beq_iff_eq.mpr c10
    clear H c10
    go_enter Try.func22, Try.ntmps22
    go_wp2
    go_ret2
    exact .inl ⟨rfl, rfl, Below.refl _ _⟩
  rw [if_neg c10] at H
  have b10 : (a0.toList == ([70] : List UInt8)) = false := beq_eq_false_iff_ne.mpr c10
  clear c10
  by_cases c11 : a0.toList = ([102, 97, 108, 115, 101] : List UInt8)
  · rw [if_pos c11] at H
    obtain rfl := Option.some.inj H
    have b11 : (a0.toList == ([102, 97, 108, 115, 101] : List UInt8)) = true := beq_iff_eq.mpr c11
    clear H c11
    go_enter Try.func22, Try.ntmps22
    go_wp2
    go_ret2
    exact .inl ⟨rfl, rfl, Below.refl _ _⟩
  rw [if_neg c11] at H
  have b11 : (a0.toList == ([102, 97, 108, 115, 101] : List UInt8)) = false := beq_eq_false_iff_ne.mpr c11
  clear c11
  by_cases c12 : a0.toList = ([70, 65, 76, 83, 69] : List UInt8)
  · rw [if_pos c12] at H
    obtain rfl := Option.some.inj H
    have b12 : (a0.toList == ([70, 65, 76, 83, 69] : List UInt8)) = true := beq_iff_eq.mpr c12
    clear H c12
    go_enter Try.func22, Try.ntmps22
    go_wp2
    go_ret2
    exact .inl ⟨rfl, rfl, Below.refl _ _⟩
  rw [if_neg c12] at H
  have b12 : (a0.toList == ([70, 65, 76, 83, 69] : List UInt8)) = false := beq_eq_false_iff_ne.mpr c12
  clear c12
  by_cases c13 : a0.toList = ([70, 97, 108, 115, 101] : List UInt8)
  · rw [if_pos c13] at H
    obtain rfl := Option.some.inj H
    have b13 : (a0.toList == ([70, 97, 108, 115, 101] : List UInt8)) = true := beq_iff_eq.mpr c13
    clear H c13
    go_enter Try.func22, Try.ntmps22
    go_wp2
    go_ret2
    exact .inl ⟨rfl, rfl, Below.refl _ _⟩
  rw [if_neg c13] at H
  have b13 : (a0.toList == ([70, 97, 108, 115, 101] : List UInt8)) = false := beq_eq_false_iff_ne.mpr c13
  clear c13
  by_cases c14 : a0.toList = ([110, 111] : List UInt8)
  · rw [if_pos c14] at H
    obtain rfl := Option.some.inj H
    have b14 : (a0.toList == ([110, 111] : List UInt8)) = true := beq_iff_eq.mpr c14
    clear H c14
    go_enter Try.func22, Try.ntmps22
    go_wp2
    go_ret2
    exact .inl ⟨rfl, rfl, Below.refl _ _⟩
  rw [if_neg c14] at H
  have b14 : (a0.toList == ([110, 111] : List UInt8)) = false := beq_eq_false_iff_ne.mpr c14
  clear c14
  by_cases c15 : a0.toList = ([111, 102, 102] : List UInt8)
  · rw [if_pos c15] at H
    obtain rfl := Option.some.inj H
    have b15 : (a0.toList == ([111, 102, 102] : List UInt8)) = true := beq_iff_eq.mpr c15
    clear H c15
    go_enter Try.func22, Try.ntmps22
    go_wp2
    go_ret2
    exact .inl ⟨rfl, rfl, Below.refl _ _⟩
  rw [if_neg c15] at H
  have b15 : (a0.toList == ([111, 102, 102] : List UInt8)) = false := beq_eq_false_iff_ne.mpr c15
  clear c15
  obtain rfl := Option.some.inj H
  clear H
  go_enter Try.func22, Try.ntmps22
  go_wp2_with (go_at_call 30; refine (errors_New_calls _ _).mono ?_; rintro e w' ⟨t, v, rfl, hb⟩; have HB := Aside0.mk hb; clear hb)
  go_ret2
  exact .inr ⟨rfl, _, _, rfl, HB.out⟩
set_option maxHeartbeats 1000000 in
set_option maxRecDepth 100000 in
theorem impl_Yes.calls (a0 : ByteArray) (r1 : Bool) (r2 : Bool) (w : World) (h : impl_Yes.f a0 = some (r1, r2)) :
    Calls Try.prog 11 #[.string a0] w fun e w' => e = .returned (.tuple #[.bool r1, .bool r2]) ∧ Below w.heap.size w w' := by
  have A1 := Aside0.mk h
  clear h
  have hu := Try.underlying37
  go_enter Try.func11, Try.ntmps11
  go_wp2_with fail
  refine (ParseBool_calls a0 (r1, r2) _ A1.out).mono ?_
  rintro e w1 (⟨h2, rfl, hb⟩ | ⟨h2, t, v, rfl, hb⟩)
  · have HB := Aside0.mk hb
    obtain rfl : r2 = true := h2
    clear hb
    go_wp2
    go_quiet (fail)
    go_wp2
    go_ret2
    exact ⟨rfl, by repeat (first | exact HB.out | apply pw_below_drewN | apply below_drew1)⟩
  · have HB := Aside0.mk hb
    obtain ⟨rfl, rfl⟩ : r1 = false ∧ r2 = false := by simpa using h2
    clear hb h2
    go_wp2
    go_quiet (fail)
    go_wp2
    go_ret2
    exact ⟨rfl, by repeat (first | exact HB.out | apply pw_below_drewN | apply below_drew1)⟩

/-! ### laws_FnYes: function 3 -/
def laws_FnYes.f (k : Nat) (a0 : ByteArray) : Option (Bool) := if (a0.size : Int) > 2147483647 then (some true) else ((laws_text9.f k a0).bind fun t102 => (if t102 = true then ((spec_Yes.f k a0).bind fun bt103 => ((impl_Yes.f a0).bind fun bt105 => ((impl_Yes.f (⟨#[111, 110]⟩ : ByteArray)).bind fun bt107 => (if bt107.2 = true then (if (bt105.2 == bt103.2) = true then (if bt105.2 = true then (some (bt105.1 == bt103.1)) else (some true)) else (some false)) else (some false))))) else (some true)))
theorem laws_FnYes.mono : ∀ a0 k, LeO (laws_FnYes.f k a0) (laws_FnYes.f (k + 1) a0) := by
  intro a0 k
  unfold laws_FnYes.f
  repeat' first
      | (with_reducible exact laws_text9.mono _ _)
      | (with_reducible exact spec_Yes.mono _ _)
      | (with_reducible exact LeO.refl _)
      | (with_reducible exact LeO.none _)
      | (with_reducible refine LeO.ite ?_ ?_)
      | (with_reducible refine LeO.bind ?_ (fun _ => ?_))
      | exact laws_text9.mono _ _
      | exact spec_Yes.mono _ _
      | exact LeO.none _
      | refine LeO.ite ?_ ?_
      | refine LeO.bind ?_ (fun _ => ?_)
set_option maxHeartbeats 8000000 in
set_option maxRecDepth 100000 in
theorem laws_FnYes.calls (k : Nat) (a0 : ByteArray) (r : Bool) (w : World) (h : laws_FnYes.f k a0 = some r) :
    Calls Try.prog 3 #[.string a0] w fun e w' => e = .returned (.bool r) ∧ Below w.heap.size w w' := by
  have HB := Aside0.mk (Below.refl w.heap.size w)
  have H : (if (a0.size : Int) > 2147483647 then (some true) else ((laws_text9.f k a0).bind fun t102 => (if t102 = true then ((spec_Yes.f k a0).bind fun bt103 => ((impl_Yes.f a0).bind fun bt105 => ((impl_Yes.f (⟨#[111, 110]⟩ : ByteArray)).bind fun bt107 => (if bt107.2 = true then (if (bt105.2 == bt103.2) = true then (if bt105.2 = true then (some (bt105.1 == bt103.1)) else (some true)) else (some false)) else (some false))))) else (some true)))) = some r := h
  clear h
  by_cases c2 : (a0.size : Int) > 2147483647
  · rw [if_pos c2] at H
    have c2b0 : decide (2147483647 < (a0.size : Int)) = true := decide_eq_true c2
    have c2b1 : decide (2147483647 < a0.size) = true := decide_eq_true (by omega)
    clear c2
    obtain rfl := Option.some.inj H
    go_enter Try.func3, Try.ntmps3
    go_wp2
    go_ret
    exact ⟨by first | rfl | (simp [errW_none, errW_some] <;> rfl) | (simp [*, errW_none, errW_some] <;> rfl), by repeat (first | (with_reducible first | exact HB.out | apply below_alloc | apply pw_below_drewN | apply below_drew1) | exact HB.out)⟩
  · rw [if_neg c2] at H
    have c2b0 : decide (2147483647 < (a0.size : Int)) = false := decide_eq_false c2
    have c2b1 : decide (2147483647 < a0.size) = false := decide_eq_false (by omega)
    clear c2
    replace H := Option.bind_eq_some_iff.mp H
    obtain ⟨t102, A30, H⟩ := H
    replace H : (if t102 = true then ((spec_Yes.f k a0).bind fun bt103 => ((impl_Yes.f a0).bind fun bt105 => ((impl_Yes.f (⟨#[111, 110]⟩ : ByteArray)).bind fun bt107 => (if bt107.2 = true then (if (bt105.2 == bt103.2) = true then (if bt105.2 = true then (some (bt105.1 == bt103.1)) else (some true)) else (some false)) else (some false))))) else (some true)) = some r := H
    have A3 := Aside0.mk A30
    clear A30
    by_cases c4 : t102 = true
    · subst c4
      have H1 : ((spec_Yes.f k a0).bind fun bt103 => ((impl_Yes.f a0).bind fun bt105 => ((impl_Yes.f (⟨#[111, 110]⟩ : ByteArray)).bind fun bt107 => (if bt107.2 = true then (if (bt105.2 == bt103.2) = true then (if bt105.2 = true then (some (bt105.1 == bt103.1)) else (some true)) else (some false)) else (some false))))) = some r := by rw [if_pos rfl] at H; exact H
      clear H
      have H := H1
      clear H1
      replace H := Option.bind_eq_some_iff.mp H
      obtain ⟨⟨t103, t104⟩, A50, H⟩ := H
      replace H : ((impl_Yes.f a0).bind fun bt105 => ((impl_Yes.f (⟨#[111, 110]⟩ : ByteArray)).bind fun bt107 => (if bt107.2 = true then (if (bt105.2 == t104) = true then (if bt105.2 = true then (some (bt105.1 == t103)) else (some true)) else (some false)) else (some false)))) = some r := H
      have A5 := Aside0.mk A50
      clear A50
      replace H := Option.bind_eq_some_iff.mp H
      obtain ⟨⟨t105, t106⟩, A60, H⟩ := H
      replace H : ((impl_Yes.f (⟨#[111, 110]⟩ : ByteArray)).bind fun bt107 => (if bt107.2 = true then (if (t106 == t104) = true then (if t106 = true then (some (t105 == t103)) else (some true)) else (some false)) else (some false))) = some r := H
      have A6 := Aside0.mk A60
      clear A60
      replace H := Option.bind_eq_some_iff.mp H
      obtain ⟨⟨t107, t108⟩, A70, H⟩ := H
      replace H : (if t108 = true then (if (t106 == t104) = true then (if t106 = true then (some (t105 == t103)) else (some true)) else (some false)) else (some false)) = some r := H
      have A7 := Aside0.mk A70
      clear A70
      by_cases c8 : t108 = true
      · subst c8
        have H1 : (if (t106 == t104) = true then (if t106 = true then (some (t105 == t103)) else (some true)) else (some false)) = some r := by rw [if_pos rfl] at H; exact H
        clear H
        have H := H1
        clear H1
        by_cases c9 : (t106 == t104) = true
        · rw [if_pos c9] at H
          have c9b0 : (t106 == t104) = true := c9
          (try (have c9b1 : decide (t106 = t104) = true := by simpa using c9))
          (try (have c9b2 : (t106 == t104) = true := by simpa using c9))
          clear c9
          by_cases c10 : t106 = true
          · subst c10
            have H1 : (some (t105 == t103)) = some r := by rw [if_pos rfl] at H; exact H
            clear H
            have H := H1
            clear H1
            obtain rfl := Option.some.inj H
            go_enter Try.func3, Try.ntmps3
            go_wp2_with (first | ((with_reducible refine gate_callee (f := 9) rfl ?_); refine goesL_ (some 13) rfl rfl Try.func9 (by kernel_rfl) rfl #[.string a0] rfl (by (try simp only [List.map_toArray, List.map_cons, List.map_nil]); first | done | rfl | (simp only [List.length_drop, List.length_take]; rfl)) ?_; (with_reducible refine (laws_text9.calls k a0 true _ A3.out).mono ?_); rintro e w' ⟨rfl, ⟨nd, rfl⟩⟩; refine ⟨_, rfl, ?_⟩) | ((with_reducible refine gate_callee (f := 10) rfl ?_); refine goesL_ (some 17) rfl rfl Try.func10 (by kernel_rfl) rfl #[.string a0] rfl (by (try simp only [List.map_toArray, List.map_cons, List.map_nil]); first | done | rfl | (simp only [List.length_drop, List.length_take]; rfl)) ?_; (with_reducible refine (spec_Yes.calls k a0 t103 t104 _ A5.out).mono ?_); rintro e w' ⟨rfl, ⟨nd, rfl⟩⟩; refine ⟨_, rfl, ?_⟩) | ((with_reducible refine gate_callee (f := 11) rfl ?_); refine goesL_ (some 22) rfl rfl Try.func11 (by kernel_rfl) rfl #[.string a0] rfl (by (try simp only [List.map_toArray, List.map_cons, List.map_nil]); first | done | rfl | (simp only [List.length_drop, List.length_take]; rfl)) ?_; (with_reducible refine (impl_Yes.calls a0 t105 true _ A6.out).mono ?_); rintro e w11 ⟨rfl, hb⟩; refine ⟨_, rfl, ?_⟩; have n0_ := Aside0.mk (below_step (by repeat (first | (with_reducible first | exact HB.out | apply below_alloc | apply pw_below_drewN | apply below_drew1) | exact HB.out)) hb); clear HB; have HB := n0_; clear n0_; (try clear hb); (try clear hb2); (try clear hk); (try clear hi)) | ((with_reducible refine gate_callee (f := 11) rfl ?_); refine goesL_ (some 26) rfl rfl Try.func11 (by kernel_rfl) rfl #[.string (⟨#[111, 110]⟩ : ByteArray)] rfl (by (try simp only [List.map_toArray, List.map_cons, List.map_nil]); first | done | rfl | (simp only [List.length_drop, List.length_take]; rfl)) ?_; (with_reducible refine (impl_Yes.calls (⟨#[111, 110]⟩ : ByteArray) t107 true _ A7.out).mono ?_); rintro e w12 ⟨rfl, hb⟩; refine ⟨_, rfl, ?_⟩; have n0_ := Aside0.mk (below_step (by repeat (first | (with_reducible first | exact HB.out | apply below_alloc | apply pw_below_drewN | apply below_drew1) | exact HB.out)) hb); clear HB; have HB := n0_; clear n0_; (try clear hb); (try clear hb2); (try clear hk); (try clear hi)))
            go_ret
            exact ⟨by first | rfl | (simp [errW_none, errW_some] <;> rfl) | (simp [*, errW_none, errW_some] <;> rfl), by repeat (first | (with_reducible first | exact HB.out | apply below_alloc | apply pw_below_drewN | apply below_drew1) | exact HB.out)⟩
          · replace c10 := Bool.eq_false_iff.mpr c10
            subst c10
            have H1 : (some true) = some r := by rw [if_neg (show ¬ (false = true) by decide)] at H; exact H
            clear H
            have H := H1
            clear H1
            obtain rfl := Option.some.inj H
            go_enter Try.func3, Try.ntmps3
            go_wp2_with (first | ((with_reducible refine gate_callee (f := 9) rfl ?_); refine goesL_ (some 13) rfl rfl Try.func9 (by kernel_rfl) rfl #[.string a0] rfl (by (try simp only [List.map_toArray, List.map_cons, List.map_nil]); first | done | rfl | (simp only [List.length_drop, List.length_take]; rfl)) ?_; (with_reducible refine (laws_text9.calls k a0 true _ A3.out).mono ?_); rintro e w' ⟨rfl, ⟨nd, rfl⟩⟩; refine ⟨_, rfl, ?_⟩) | ((with_reducible refine gate_callee (f := 10) rfl ?_); refine goesL_ (some 17) rfl rfl Try.func10 (by kernel_rfl) rfl #[.string a0] rfl (by (try simp only [List.map_toArray, List.map_cons, List.map_nil]); first | done | rfl | (simp only [List.length_drop, List.length_take]; rfl)) ?_; (with_reducible refine (spec_Yes.calls k a0 t103 t104 _ A5.out).mono ?_); rintro e w' ⟨rfl, ⟨nd, rfl⟩⟩; refine ⟨_, rfl, ?_⟩) | ((with_reducible refine gate_callee (f := 11) rfl ?_); refine goesL_ (some 22) rfl rfl Try.func11 (by kernel_rfl) rfl #[.string a0] rfl (by (try simp only [List.map_toArray, List.map_cons, List.map_nil]); first | done | rfl | (simp only [List.length_drop, List.length_take]; rfl)) ?_; (with_reducible refine (impl_Yes.calls a0 t105 false _ A6.out).mono ?_); rintro e w13 ⟨rfl, hb⟩; refine ⟨_, rfl, ?_⟩; have n0_ := Aside0.mk (below_step (by repeat (first | (with_reducible first | exact HB.out | apply below_alloc | apply pw_below_drewN | apply below_drew1) | exact HB.out)) hb); clear HB; have HB := n0_; clear n0_; (try clear hb); (try clear hb2); (try clear hk); (try clear hi)) | ((with_reducible refine gate_callee (f := 11) rfl ?_); refine goesL_ (some 26) rfl rfl Try.func11 (by kernel_rfl) rfl #[.string (⟨#[111, 110]⟩ : ByteArray)] rfl (by (try simp only [List.map_toArray, List.map_cons, List.map_nil]); first | done | rfl | (simp only [List.length_drop, List.length_take]; rfl)) ?_; (with_reducible refine (impl_Yes.calls (⟨#[111, 110]⟩ : ByteArray) t107 true _ A7.out).mono ?_); rintro e w14 ⟨rfl, hb⟩; refine ⟨_, rfl, ?_⟩; have n0_ := Aside0.mk (below_step (by repeat (first | (with_reducible first | exact HB.out | apply below_alloc | apply pw_below_drewN | apply below_drew1) | exact HB.out)) hb); clear HB; have HB := n0_; clear n0_; (try clear hb); (try clear hb2); (try clear hk); (try clear hi)))
            go_ret
            exact ⟨by first | rfl | (simp [errW_none, errW_some] <;> rfl) | (simp [*, errW_none, errW_some] <;> rfl), by repeat (first | (with_reducible first | exact HB.out | apply below_alloc | apply pw_below_drewN | apply below_drew1) | exact HB.out)⟩
        · rw [if_neg c9] at H
          have c9b0 : (t106 == t104) = false := by simpa using c9
          (try (have c9b1 : decide (t106 = t104) = false := by simpa using c9))
          (try (have c9b2 : (t106 == t104) = false := by simpa using c9))
          (try (have c9b3 : ¬ (t106 = t104) := by simpa using c9))
          clear c9
          obtain rfl := Option.some.inj H
          go_enter Try.func3, Try.ntmps3
          go_wp2_with (first | ((with_reducible refine gate_callee (f := 9) rfl ?_); refine goesL_ (some 13) rfl rfl Try.func9 (by kernel_rfl) rfl #[.string a0] rfl (by (try simp only [List.map_toArray, List.map_cons, List.map_nil]); first | done | rfl | (simp only [List.length_drop, List.length_take]; rfl)) ?_; (with_reducible refine (laws_text9.calls k a0 true _ A3.out).mono ?_); rintro e w' ⟨rfl, ⟨nd, rfl⟩⟩; refine ⟨_, rfl, ?_⟩) | ((with_reducible refine gate_callee (f := 10) rfl ?_); refine goesL_ (some 17) rfl rfl Try.func10 (by kernel_rfl) rfl #[.string a0] rfl (by (try simp only [List.map_toArray, List.map_cons, List.map_nil]); first | done | rfl | (simp only [List.length_drop, List.length_take]; rfl)) ?_; (with_reducible refine (spec_Yes.calls k a0 t103 t104 _ A5.out).mono ?_); rintro e w' ⟨rfl, ⟨nd, rfl⟩⟩; refine ⟨_, rfl, ?_⟩) | ((with_reducible refine gate_callee (f := 11) rfl ?_); refine goesL_ (some 22) rfl rfl Try.func11 (by kernel_rfl) rfl #[.string a0] rfl (by (try simp only [List.map_toArray, List.map_cons, List.map_nil]); first | done | rfl | (simp only [List.length_drop, List.length_take]; rfl)) ?_; (with_reducible refine (impl_Yes.calls a0 t105 t106 _ A6.out).mono ?_); rintro e w15 ⟨rfl, hb⟩; refine ⟨_, rfl, ?_⟩; have n0_ := Aside0.mk (below_step (by repeat (first | (with_reducible first | exact HB.out | apply below_alloc | apply pw_below_drewN | apply below_drew1) | exact HB.out)) hb); clear HB; have HB := n0_; clear n0_; (try clear hb); (try clear hb2); (try clear hk); (try clear hi)) | ((with_reducible refine gate_callee (f := 11) rfl ?_); refine goesL_ (some 26) rfl rfl Try.func11 (by kernel_rfl) rfl #[.string (⟨#[111, 110]⟩ : ByteArray)] rfl (by (try simp only [List.map_toArray, List.map_cons, List.map_nil]); first | done | rfl | (simp only [List.length_drop, List.length_take]; rfl)) ?_; (with_reducible refine (impl_Yes.calls (⟨#[111, 110]⟩ : ByteArray) t107 true _ A7.out).mono ?_); rintro e w16 ⟨rfl, hb⟩; refine ⟨_, rfl, ?_⟩; have n0_ := Aside0.mk (below_step (by repeat (first | (with_reducible first | exact HB.out | apply below_alloc | apply pw_below_drewN | apply below_drew1) | exact HB.out)) hb); clear HB; have HB := n0_; clear n0_; (try clear hb); (try clear hb2); (try clear hk); (try clear hi)))
          go_ret
          exact ⟨by first | rfl | (simp [errW_none, errW_some] <;> rfl) | (simp [*, errW_none, errW_some] <;> rfl), by repeat (first | (with_reducible first | exact HB.out | apply below_alloc | apply pw_below_drewN | apply below_drew1) | exact HB.out)⟩
      · replace c8 := Bool.eq_false_iff.mpr c8
        subst c8
        have H1 : (some false) = some r := by rw [if_neg (show ¬ (false = true) by decide)] at H; exact H
        clear H
        have H := H1
        clear H1
        obtain rfl := Option.some.inj H
        go_enter Try.func3, Try.ntmps3
        go_wp2_with (first | ((with_reducible refine gate_callee (f := 9) rfl ?_); refine goesL_ (some 13) rfl rfl Try.func9 (by kernel_rfl) rfl #[.string a0] rfl (by (try simp only [List.map_toArray, List.map_cons, List.map_nil]); first | done | rfl | (simp only [List.length_drop, List.length_take]; rfl)) ?_; (with_reducible refine (laws_text9.calls k a0 true _ A3.out).mono ?_); rintro e w' ⟨rfl, ⟨nd, rfl⟩⟩; refine ⟨_, rfl, ?_⟩) | ((with_reducible refine gate_callee (f := 10) rfl ?_); refine goesL_ (some 17) rfl rfl Try.func10 (by kernel_rfl) rfl #[.string a0] rfl (by (try simp only [List.map_toArray, List.map_cons, List.map_nil]); first | done | rfl | (simp only [List.length_drop, List.length_take]; rfl)) ?_; (with_reducible refine (spec_Yes.calls k a0 t103 t104 _ A5.out).mono ?_); rintro e w' ⟨rfl, ⟨nd, rfl⟩⟩; refine ⟨_, rfl, ?_⟩) | ((with_reducible refine gate_callee (f := 11) rfl ?_); refine goesL_ (some 22) rfl rfl Try.func11 (by kernel_rfl) rfl #[.string a0] rfl (by (try simp only [List.map_toArray, List.map_cons, List.map_nil]); first | done | rfl | (simp only [List.length_drop, List.length_take]; rfl)) ?_; (with_reducible refine (impl_Yes.calls a0 t105 t106 _ A6.out).mono ?_); rintro e w17 ⟨rfl, hb⟩; refine ⟨_, rfl, ?_⟩; have n0_ := Aside0.mk (below_step (by repeat (first | (with_reducible first | exact HB.out | apply below_alloc | apply pw_below_drewN | apply below_drew1) | exact HB.out)) hb); clear HB; have HB := n0_; clear n0_; (try clear hb); (try clear hb2); (try clear hk); (try clear hi)) | ((with_reducible refine gate_callee (f := 11) rfl ?_); refine goesL_ (some 26) rfl rfl Try.func11 (by kernel_rfl) rfl #[.string (⟨#[111, 110]⟩ : ByteArray)] rfl (by (try simp only [List.map_toArray, List.map_cons, List.map_nil]); first | done | rfl | (simp only [List.length_drop, List.length_take]; rfl)) ?_; (with_reducible refine (impl_Yes.calls (⟨#[111, 110]⟩ : ByteArray) t107 false _ A7.out).mono ?_); rintro e w18 ⟨rfl, hb⟩; refine ⟨_, rfl, ?_⟩; have n0_ := Aside0.mk (below_step (by repeat (first | (with_reducible first | exact HB.out | apply below_alloc | apply pw_below_drewN | apply below_drew1) | exact HB.out)) hb); clear HB; have HB := n0_; clear n0_; (try clear hb); (try clear hb2); (try clear hk); (try clear hi)))
        go_ret
        exact ⟨by first | rfl | (simp [errW_none, errW_some] <;> rfl) | (simp [*, errW_none, errW_some] <;> rfl), by repeat (first | (with_reducible first | exact HB.out | apply below_alloc | apply pw_below_drewN | apply below_drew1) | exact HB.out)⟩
    · replace c4 := Bool.eq_false_iff.mpr c4
      subst c4
      have H1 : (some true) = some r := by rw [if_neg (show ¬ (false = true) by decide)] at H; exact H
      clear H
      have H := H1
      clear H1
      obtain rfl := Option.some.inj H
      go_enter Try.func3, Try.ntmps3
      go_wp2_with (first | ((with_reducible refine gate_callee (f := 9) rfl ?_); refine goesL_ (some 13) rfl rfl Try.func9 (by kernel_rfl) rfl #[.string a0] rfl (by (try simp only [List.map_toArray, List.map_cons, List.map_nil]); first | done | rfl | (simp only [List.length_drop, List.length_take]; rfl)) ?_; (with_reducible refine (laws_text9.calls k a0 false _ A3.out).mono ?_); rintro e w' ⟨rfl, ⟨nd, rfl⟩⟩; refine ⟨_, rfl, ?_⟩))
      go_ret
      exact ⟨by first | rfl | (simp [errW_none, errW_some] <;> rfl) | (simp [*, errW_none, errW_some] <;> rfl), by repeat (first | (with_reducible first | exact HB.out | apply below_alloc | apply pw_below_drewN | apply below_drew1) | exact HB.out)⟩

/-- THE ONE PURE STATEMENT of laws_FnYes: yours. -/
def laws_FnYes.Pure : Prop := ∀ (a0 : ByteArray), a0.size ≤ 140737488351232 → ∃ k, laws_FnYes.f k a0 = some true
theorem laws_FnYes.walk (P : laws_FnYes.Pure) (a0 : ByteArray) (w : World) (w0 : a0.size ≤ 140737488351232) :
    Calls Try.prog 3 #[.string a0] w fun e w' => e = .returned (.bool true) ∧ Below w.heap.size w w' := by
  obtain ⟨k, h⟩ := P a0 w0
  refine (laws_FnYes.calls k a0 true w h).mono ?_
  rintro e w' ⟨rfl, hd⟩
  exact ⟨rfl, hd⟩

end Go.Proofs.Ytlfkejljbehcaaa.P
