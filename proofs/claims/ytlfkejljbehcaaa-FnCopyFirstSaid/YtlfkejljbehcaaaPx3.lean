-- Written by the program wip/myprint.py of this session, over the kit's print of the translation. Lean checks it.
import Derived.Test.YtlfkejljbehcaaaPx0
namespace Go.Proofs.Ytlfkejljbehcaaa.P
open Go.RowKit Go.Proofs.YtlfkejljbehcaaaW.PrintWords Go.Proofs.YtlfkejljbehcaaaW.PrintLast Go.Proofs.YtlfkejljbehcaaaW.PrintMore
attribute [local go_sem] max2_int min2_int max_two min_two max_three min_three max_four min_four   -- for this text's walks alone
set_option linter.unusedVariables false
set_option linter.unusedSimpArgs false

/-! ### spec_passed: function 26 -/
mutual
def spec_passed.l0 : Nat → ByteArray → Int → Option (Int × Bool)
  | 0, _, _ => none
  | k + 1, x0, x4 => if x4 < (x0.size : Int) then (if 0 ≤ x4 then (if (bt x0 x4) = 32 then (spec_passed.j1 k x0 x4 (bt x0 x4) true) else (if (bt x0 x4) = 9 then (spec_passed.j1 k x0 x4 (bt x0 x4) true) else (if (bt x0 x4) = 13 then (spec_passed.j1 k x0 x4 (bt x0 x4) true) else (spec_passed.j1 k x0 x4 (bt x0 x4) ((bt x0 x4) == 10))))) else (none)) else (some (x4, true))
def spec_passed.j1 : Nat → ByteArray → Int → Int → Bool → Option (Int × Bool)
  | 0, _, _, _, _ => none
  | k + 1, x0, x4, x5, x15 => if x15 = true then (spec_passed.l0 k x0 (wrap64 (x4 + 1))) else (if x5 = 11 then (spec_passed.j2 k x0 x4 x5 true) else (spec_passed.j2 k x0 x4 x5 (x5 == 12)))
def spec_passed.j2 : Nat → ByteArray → Int → Int → Bool → Option (Int × Bool)
  | 0, _, _, _, _ => none
  | k + 1, x0, x4, x5, x32 => if x32 = true then (some (x4, false)) else (if x5 = 45 then (if (wrap64 (x4 + 1)) < (x0.size : Int) then (if 0 ≤ (wrap64 (x4 + 1)) then (spec_passed.j3 k x0 x4 x5 ((bt x0 (wrap64 (x4 + 1))) == 45)) else (none)) else (spec_passed.j3 k x0 x4 x5 false)) else (spec_passed.j3 k x0 x4 x5 false))
def spec_passed.j3 : Nat → ByteArray → Int → Int → Bool → Option (Int × Bool)
  | 0, _, _, _, _ => none
  | k + 1, x0, x4, x5, x40 => if x40 = true then (spec_passed.l1 k x0 x4) else (if x5 = 47 then (if (wrap64 (x4 + 1)) < (x0.size : Int) then (if 0 ≤ (wrap64 (x4 + 1)) then (spec_passed.j5 k x0 x4 ((bt x0 (wrap64 (x4 + 1))) == 42)) else (none)) else (spec_passed.j5 k x0 x4 false)) else (spec_passed.j5 k x0 x4 false))
def spec_passed.l1 : Nat → ByteArray → Int → Option (Int × Bool)
  | 0, _, _ => none
  | k + 1, x0, x4 => if x4 < (x0.size : Int) then (if 0 ≤ x4 then (if (bt x0 x4) = 10 then (spec_passed.l0 k x0 x4) else (spec_passed.l1 k x0 (wrap64 (x4 + 1)))) else (none)) else (spec_passed.l0 k x0 x4)
def spec_passed.j5 : Nat → ByteArray → Int → Bool → Option (Int × Bool)
  | 0, _, _, _ => none
  | k + 1, x0, x4, x69 => if x69 = true then (spec_passed.l2 k x0 x4 (wrap64 (x4 + 2))) else (some (x4, true))
def spec_passed.l2 : Nat → ByteArray → Int → Int → Option (Int × Bool)
  | 0, _, _, _ => none
  | k + 1, x0, x4, x6 => if x6 < (x0.size : Int) then (if 0 ≤ x6 then (if (bt x0 x6) = 47 then (if 0 ≤ (wrap64 (x6 - 1)) then (if (wrap64 (x6 - 1)) < (x0.size : Int) then (if ((bt x0 (wrap64 (x6 - 1))) = 42) then (if x6 ≥ (wrap64 (x4 + 2)) then (if x6 = (wrap64 (x4 + 2)) then (some (x4, false)) else (spec_passed.l0 k x0 (mn (wrap64 (x6 + 1)) (x0.size : Int)))) else (spec_passed.l0 k x0 (mn (wrap64 (x6 + 1)) (x0.size : Int)))) else (spec_passed.l2 k x0 x4 (wrap64 (x6 + 1)))) else (none)) else (none)) else (spec_passed.l2 k x0 x4 (wrap64 (x6 + 1)))) else (none)) else (if x6 ≥ (wrap64 (x4 + 2)) then (if x6 = (wrap64 (x4 + 2)) then (some (x4, false)) else (spec_passed.l0 k x0 (mn (wrap64 (x6 + 1)) (x0.size : Int)))) else (spec_passed.l0 k x0 (mn (wrap64 (x6 + 1)) (x0.size : Int))))
end
def spec_passed.f (k : Nat) (a0 : ByteArray) : Option (Int × Bool) := spec_passed.l0 k a0 0
theorem spec_passed.mono_l : ∀ k, (∀ y0 y1, LeO (spec_passed.l0 k y0 y1) (spec_passed.l0 (k + 1) y0 y1)) ∧ (∀ y0 y1 y2 y3, LeO (spec_passed.j1 k y0 y1 y2 y3) (spec_passed.j1 (k + 1) y0 y1 y2 y3)) ∧ (∀ y0 y1 y2 y3, LeO (spec_passed.j2 k y0 y1 y2 y3) (spec_passed.j2 (k + 1) y0 y1 y2 y3)) ∧ (∀ y0 y1 y2 y3, LeO (spec_passed.j3 k y0 y1 y2 y3) (spec_passed.j3 (k + 1) y0 y1 y2 y3)) ∧ (∀ y0 y1, LeO (spec_passed.l1 k y0 y1) (spec_passed.l1 (k + 1) y0 y1)) ∧ (∀ y0 y1 y2, LeO (spec_passed.j5 k y0 y1 y2) (spec_passed.j5 (k + 1) y0 y1 y2)) ∧ (∀ y0 y1 y2, LeO (spec_passed.l2 k y0 y1 y2) (spec_passed.l2 (k + 1) y0 y1 y2))
  | 0 => ⟨fun _ _ r h => by simp [spec_passed.l0] at h, fun _ _ _ _ r h => by simp [spec_passed.j1] at h, fun _ _ _ _ r h => by simp [spec_passed.j2] at h, fun _ _ _ _ r h => by simp [spec_passed.j3] at h, fun _ _ r h => by simp [spec_passed.l1] at h, fun _ _ _ r h => by simp [spec_passed.j5] at h, fun _ _ _ r h => by simp [spec_passed.l2] at h⟩
  | k + 1 => by
    obtain ⟨ih0, ih1, ih2, ih3, ih4, ih5, ih6⟩ := spec_passed.mono_l k
    refine ⟨?_, ?_, ?_, ?_, ?_, ?_, ?_⟩
    · intro y0 y1
      unfold spec_passed.l0
      repeat' first
      | (with_reducible exact ih0 _ _)
      | (with_reducible exact ih1 _ _ _ _)
      | (with_reducible exact ih2 _ _ _ _)
      | (with_reducible exact ih3 _ _ _ _)
      | (with_reducible exact ih4 _ _)
      | (with_reducible exact ih5 _ _ _)
      | (with_reducible exact ih6 _ _ _)
      | (with_reducible exact LeO.refl _)
      | (with_reducible exact LeO.none _)
      | (with_reducible refine LeO.ite ?_ ?_)
      | (with_reducible refine LeO.bind ?_ (fun _ => ?_))
      | exact ih0 _ _
      | exact ih1 _ _ _ _
      | exact ih2 _ _ _ _
      | exact ih3 _ _ _ _
      | exact ih4 _ _
      | exact ih5 _ _ _
      | exact ih6 _ _ _
      | exact LeO.none _
      | refine LeO.ite ?_ ?_
      | refine LeO.bind ?_ (fun _ => ?_)
    · intro y0 y1 y2 y3
      unfold spec_passed.j1
      repeat' first
      | (with_reducible exact ih0 _ _)
      | (with_reducible exact ih1 _ _ _ _)
      | (with_reducible exact ih2 _ _ _ _)
      | (with_reducible exact ih3 _ _ _ _)
      | (with_reducible exact ih4 _ _)
      | (with_reducible exact ih5 _ _ _)
      | (with_reducible exact ih6 _ _ _)
      | (with_reducible exact LeO.refl _)
      | (with_reducible exact LeO.none _)
      | (with_reducible refine LeO.ite ?_ ?_)
      | (with_reducible refine LeO.bind ?_ (fun _ => ?_))
      | exact ih0 _ _
      | exact ih1 _ _ _ _
      | exact ih2 _ _ _ _
      | exact ih3 _ _ _ _
      | exact ih4 _ _
      | exact ih5 _ _ _
      | exact ih6 _ _ _
      | exact LeO.none _
      | refine LeO.ite ?_ ?_
      | refine LeO.bind ?_ (fun _ => ?_)
    · intro y0 y1 y2 y3
      unfold spec_passed.j2
      repeat' first
      | (with_reducible exact ih0 _ _)
      | (with_reducible exact ih1 _ _ _ _)
      | (with_reducible exact ih2 _ _ _ _)
      | (with_reducible exact ih3 _ _ _ _)
      | (with_reducible exact ih4 _ _)
      | (with_reducible exact ih5 _ _ _)
      | (with_reducible exact ih6 _ _ _)
      | (with_reducible exact LeO.refl _)
      | (with_reducible exact LeO.none _)
      | (with_reducible refine LeO.ite ?_ ?_)
      | (with_reducible refine LeO.bind ?_ (fun _ => ?_))
      | exact ih0 _ _
      | exact ih1 _ _ _ _
      | exact ih2 _ _ _ _
      | exact ih3 _ _ _ _
      | exact ih4 _ _
      | exact ih5 _ _ _
      | exact ih6 _ _ _
      | exact LeO.none _
      | refine LeO.ite ?_ ?_
      | refine LeO.bind ?_ (fun _ => ?_)
    · intro y0 y1 y2 y3
      unfold spec_passed.j3
      repeat' first
      | (with_reducible exact ih0 _ _)
      | (with_reducible exact ih1 _ _ _ _)
      | (with_reducible exact ih2 _ _ _ _)
      | (with_reducible exact ih3 _ _ _ _)
      | (with_reducible exact ih4 _ _)
      | (with_reducible exact ih5 _ _ _)
      | (with_reducible exact ih6 _ _ _)
      | (with_reducible exact LeO.refl _)
      | (with_reducible exact LeO.none _)
      | (with_reducible refine LeO.ite ?_ ?_)
      | (with_reducible refine LeO.bind ?_ (fun _ => ?_))
      | exact ih0 _ _
      | exact ih1 _ _ _ _
      | exact ih2 _ _ _ _
      | exact ih3 _ _ _ _
      | exact ih4 _ _
      | exact ih5 _ _ _
      | exact ih6 _ _ _
      | exact LeO.none _
      | refine LeO.ite ?_ ?_
      | refine LeO.bind ?_ (fun _ => ?_)
    · intro y0 y1
      unfold spec_passed.l1
      repeat' first
      | (with_reducible exact ih0 _ _)
      | (with_reducible exact ih1 _ _ _ _)
      | (with_reducible exact ih2 _ _ _ _)
      | (with_reducible exact ih3 _ _ _ _)
      | (with_reducible exact ih4 _ _)
      | (with_reducible exact ih5 _ _ _)
      | (with_reducible exact ih6 _ _ _)
      | (with_reducible exact LeO.refl _)
      | (with_reducible exact LeO.none _)
      | (with_reducible refine LeO.ite ?_ ?_)
      | (with_reducible refine LeO.bind ?_ (fun _ => ?_))
      | exact ih0 _ _
      | exact ih1 _ _ _ _
      | exact ih2 _ _ _ _
      | exact ih3 _ _ _ _
      | exact ih4 _ _
      | exact ih5 _ _ _
      | exact ih6 _ _ _
      | exact LeO.none _
      | refine LeO.ite ?_ ?_
      | refine LeO.bind ?_ (fun _ => ?_)
    · intro y0 y1 y2
      unfold spec_passed.j5
      repeat' first
      | (with_reducible exact ih0 _ _)
      | (with_reducible exact ih1 _ _ _ _)
      | (with_reducible exact ih2 _ _ _ _)
      | (with_reducible exact ih3 _ _ _ _)
      | (with_reducible exact ih4 _ _)
      | (with_reducible exact ih5 _ _ _)
      | (with_reducible exact ih6 _ _ _)
      | (with_reducible exact LeO.refl _)
      | (with_reducible exact LeO.none _)
      | (with_reducible refine LeO.ite ?_ ?_)
      | (with_reducible refine LeO.bind ?_ (fun _ => ?_))
      | exact ih0 _ _
      | exact ih1 _ _ _ _
      | exact ih2 _ _ _ _
      | exact ih3 _ _ _ _
      | exact ih4 _ _
      | exact ih5 _ _ _
      | exact ih6 _ _ _
      | exact LeO.none _
      | refine LeO.ite ?_ ?_
      | refine LeO.bind ?_ (fun _ => ?_)
    · intro y0 y1 y2
      unfold spec_passed.l2
      repeat' first
      | (with_reducible exact ih0 _ _)
      | (with_reducible exact ih1 _ _ _ _)
      | (with_reducible exact ih2 _ _ _ _)
      | (with_reducible exact ih3 _ _ _ _)
      | (with_reducible exact ih4 _ _)
      | (with_reducible exact ih5 _ _ _)
      | (with_reducible exact ih6 _ _ _)
      | (with_reducible exact LeO.refl _)
      | (with_reducible exact LeO.none _)
      | (with_reducible refine LeO.ite ?_ ?_)
      | (with_reducible refine LeO.bind ?_ (fun _ => ?_))
      | exact ih0 _ _
      | exact ih1 _ _ _ _
      | exact ih2 _ _ _ _
      | exact ih3 _ _ _ _
      | exact ih4 _ _
      | exact ih5 _ _ _
      | exact ih6 _ _ _
      | exact LeO.none _
      | refine LeO.ite ?_ ?_
      | refine LeO.bind ?_ (fun _ => ?_)
theorem spec_passed.mono : ∀ a0 k, LeO (spec_passed.f k a0) (spec_passed.f (k + 1) a0) := by
  intro a0 k
  obtain ⟨ih0, ih1, ih2, ih3, ih4, ih5, ih6⟩ := spec_passed.mono_l k
  unfold spec_passed.f
  repeat' first
      | (with_reducible exact ih0 _ _)
      | (with_reducible exact ih1 _ _ _ _)
      | (with_reducible exact ih2 _ _ _ _)
      | (with_reducible exact ih3 _ _ _ _)
      | (with_reducible exact ih4 _ _)
      | (with_reducible exact ih5 _ _ _)
      | (with_reducible exact ih6 _ _ _)
      | (with_reducible exact LeO.refl _)
      | (with_reducible exact LeO.none _)
      | (with_reducible refine LeO.ite ?_ ?_)
      | (with_reducible refine LeO.bind ?_ (fun _ => ?_))
      | exact ih0 _ _
      | exact ih1 _ _ _ _
      | exact ih2 _ _ _ _
      | exact ih3 _ _ _ _
      | exact ih4 _ _
      | exact ih5 _ _ _
      | exact ih6 _ _ _
      | exact LeO.none _
      | refine LeO.ite ?_ ?_
      | refine LeO.bind ?_ (fun _ => ?_)
set_option maxHeartbeats 8000000 in
set_option maxRecDepth 100000 in
theorem spec_passed.calls (k : Nat) (a0 : ByteArray) (r1 : Int) (r2 : Bool) (w : World) (h : spec_passed.f k a0 = some (r1, r2)) :
    Calls Try.prog 26 #[.string a0] w fun e w' => e = .returned (.tuple #[.int .i64 r1, .bool r2]) ∧ Below w.heap.size w w' := by
  have HB := Aside0.mk (Below.refl w.heap.size w)
  have H : (spec_passed.l0 k a0 0) = some (r1, r2) := h
  clear h
  have H' := Aside0.mk H
  clear H
  go_enter Try.func26, Try.ntmps26
  go_wp2
  go_loopg [4] k (fun kq v4 w' => ∃ (x4_1 : Int), v4 = .int .i64 x4_1 ∧ Aside0 (spec_passed.l0 kq a0 x4_1 = some (r1, r2)) ∧ Aside0 (kq ≤ k) ∧ Aside0 (Below w.heap.size w w'))
  case atStart => exact ⟨(0), (by first | rfl | (simp; done) | (simp [*]; done)), H', ⟨Nat.le_refl _⟩, ⟨by repeat (first | (with_reducible first | exact HB.out | apply below_alloc | apply pw_below_drewN | apply below_drew1) | exact HB.out)⟩⟩
  case round =>
    clear H'
    obtain ⟨x4_1, rfl, HA, HK1, HB⟩ := hrel
    cases gk with
    | zero => exact absurd HA.out (by simp [spec_passed.l0])
    | succ k1 =>
      have H := HA.out
      clear HA
      simp only [spec_passed.l0] at H
      by_cases c2 : x4_1 < (a0.size : Int)
      · rw [if_pos c2] at H
        have c2b0 : decide (x4_1 < (a0.size : Int)) = true := decide_eq_true c2
        clear c2
        by_cases c3 : 0 ≤ x4_1
        · rw [if_pos c3] at H
          have c3b0 : decide (0 ≤ x4_1) = true := decide_eq_true c3
          clear c3
          have HC5 := Aside0.mk H
          clear H
          have p4 : 0 ≤ (x4_1 : Int) := of_decide_eq_true (by first | (with_reducible assumption) | assumption)
          have q4 : x4_1 < (a0.size : Int) := of_decide_eq_true (by first | (with_reducible assumption) | assumption)
          have hx4 := bt_at a0 x4_1
          replace p4 := eq_true p4
          replace q4 := eq_true q4
          go_upto_region 5 with (fail)
          go_cut [15] (fun v15 wc => ∃ (kq : Nat) (x15_4 : Bool), v15 = .bool x15_4 ∧ Aside0 (spec_passed.j1 kq a0 x4_1 (bt a0 x4_1) x15_4 = some (r1, r2)) ∧ Aside0 (kq ≤ k1) ∧ Aside0 (Below w.heap.size w wc))
          case first =>
            have H := HC5.out
            clear HC5
            by_cases c6 : (bt a0 x4_1) = 32
            · rw [if_pos c6] at H
              have c6b0 : ((bt a0 x4_1) == 32) = true := beq_iff_eq.mpr c6
              have c6b1 : ((bt a0 x4_1) != 32) = false := bne_eq_false_iff_eq.mpr c6
              clear c6
              (first | rw [c6b0] | (simp only [i64_w, i32_w]; rw [c6b0]) | skip)
              have H' := Aside0.mk H
              clear H
              go_wp2
              go_meet
              case rel => exact ⟨_, (true), (by first | rfl | (simp; done) | (simp [*]; done)), H', ⟨by have := HK1.out; first | omega | exact Nat.le_refl _⟩, ⟨by repeat (first | (with_reducible first | exact HB.out | apply below_alloc | apply pw_below_drewN | apply below_drew1) | exact HB.out)⟩⟩
            · rw [if_neg c6] at H
              have c6b0 : ((bt a0 x4_1) == 32) = false := beq_eq_false_iff_ne.mpr c6
              have c6b1 : ((bt a0 x4_1) != 32) = true := bne_iff_ne.mpr c6
              (first | rw [c6b0] | (simp only [i64_w, i32_w]; rw [c6b0]) | skip)
              by_cases c7 : (bt a0 x4_1) = 9
              · rw [if_pos c7] at H
                have c7b0 : ((bt a0 x4_1) == 9) = true := beq_iff_eq.mpr c7
                have c7b1 : ((bt a0 x4_1) != 9) = false := bne_eq_false_iff_eq.mpr c7
                clear c7
                have H' := Aside0.mk H
                clear H
                go_wp2
                go_meet
                case rel => exact ⟨_, (true), (by first | rfl | (simp; done) | (simp [*]; done)), H', ⟨by have := HK1.out; first | omega | exact Nat.le_refl _⟩, ⟨by repeat (first | (with_reducible first | exact HB.out | apply below_alloc | apply pw_below_drewN | apply below_drew1) | exact HB.out)⟩⟩
              · rw [if_neg c7] at H
                have c7b0 : ((bt a0 x4_1) == 9) = false := beq_eq_false_iff_ne.mpr c7
                have c7b1 : ((bt a0 x4_1) != 9) = true := bne_iff_ne.mpr c7
                by_cases c8 : (bt a0 x4_1) = 13
                · rw [if_pos c8] at H
                  have c8b0 : ((bt a0 x4_1) == 13) = true := beq_iff_eq.mpr c8
                  have c8b1 : ((bt a0 x4_1) != 13) = false := bne_eq_false_iff_eq.mpr c8
                  clear c8
                  have H' := Aside0.mk H
                  clear H
                  go_wp2
                  go_meet
                  case rel => exact ⟨_, (true), (by first | rfl | (simp; done) | (simp [*]; done)), H', ⟨by have := HK1.out; first | omega | exact Nat.le_refl _⟩, ⟨by repeat (first | (with_reducible first | exact HB.out | apply below_alloc | apply pw_below_drewN | apply below_drew1) | exact HB.out)⟩⟩
                · rw [if_neg c8] at H
                  have c8b0 : ((bt a0 x4_1) == 13) = false := beq_eq_false_iff_ne.mpr c8
                  have c8b1 : ((bt a0 x4_1) != 13) = true := bne_iff_ne.mpr c8
                  have H' := Aside0.mk H
                  clear H
                  go_wp2
                  go_meet
                  case rel => exact ⟨_, (((bt a0 x4_1) == 10)), (by first | rfl | (simp; done) | (simp [*]; done)), H', ⟨by have := HK1.out; first | omega | exact Nat.le_refl _⟩, ⟨by repeat (first | (with_reducible first | exact HB.out | apply below_alloc | apply pw_below_drewN | apply below_drew1) | exact HB.out)⟩⟩
          case rest =>
            clear HC5
            try clear c2
            try clear c2b0
            try clear p2
            try clear c3
            try clear c3b0
            try clear p4
            try clear q4
            try clear hx4
            try clear c6
            try clear c6b0
            try clear c6b1
            try clear c7
            try clear c7b0
            try clear c7b1
            try clear c8
            try clear c8b0
            try clear c8b1
            try clear p4
            try clear q4
            obtain ⟨kq, x15_4, rfl, HA, HJ4, HB⟩ := hcut
            cases kq with
            | zero => exact absurd HA.out (by simp [spec_passed.j1])
            | succ kj4 =>
              have H := HA.out
              clear HA
              simp only [spec_passed.j1] at H
              by_cases c9 : x15_4 = true
              · subst c9
                have H1 : (spec_passed.l0 kj4 a0 (wrap64 (x4_1 + 1))) = some (r1, r2) := by rw [if_pos rfl] at H; exact H
                clear H
                have H := H1
                clear H1
                have H' := Aside0.mk H
                clear H
                go_wp2
                go_roundg kj4
                case measure => have := HK1.out; have := HJ4.out; omega
                case rel => exact ⟨(wrap64 (x4_1 + 1)), (by first | rfl | (simp; done) | (simp [*]; done)), H', ⟨by have := HK1.out; have := HJ4.out; omega⟩, ⟨by repeat (first | (with_reducible first | exact HB.out | apply below_alloc | apply pw_below_drewN | apply below_drew1) | exact HB.out)⟩⟩
              · replace c9 := Bool.eq_false_iff.mpr c9
                subst c9
                have H1 : (if (bt a0 x4_1) = 11 then (spec_passed.j2 kj4 a0 x4_1 (bt a0 x4_1) true) else (spec_passed.j2 kj4 a0 x4_1 (bt a0 x4_1) ((bt a0 x4_1) == 12))) = some (r1, r2) := by rw [if_neg (show ¬ (false = true) by decide)] at H; exact H
                clear H
                have H := H1
                clear H1
                have HC10 := Aside0.mk H
                clear H
                go_upto_region 7 with (fail)
                go_cut [32] (fun v32 wc => ∃ (kq : Nat) (x32_9 : Bool), v32 = .bool x32_9 ∧ Aside0 (spec_passed.j2 kq a0 x4_1 (bt a0 x4_1) x32_9 = some (r1, r2)) ∧ Aside0 (kq ≤ kj4) ∧ Aside0 (Below w.heap.size w wc))
                case first =>
                  have H := HC10.out
                  clear HC10
                  by_cases c11 : (bt a0 x4_1) = 11
                  · rw [if_pos c11] at H
                    have c11b0 : ((bt a0 x4_1) == 11) = true := beq_iff_eq.mpr c11
                    have c11b1 : ((bt a0 x4_1) != 11) = false := bne_eq_false_iff_eq.mpr c11
                    clear c11
                    (first | rw [c11b0] | (simp only [i64_w, i32_w]; rw [c11b0]) | skip)
                    have H' := Aside0.mk H
                    clear H
                    go_wp2
                    go_meet
                    case rel => exact ⟨_, (true), (by first | rfl | (simp; done) | (simp [*]; done)), H', ⟨by have := HK1.out; have := HJ4.out; first | omega | exact Nat.le_refl _⟩, ⟨by repeat (first | (with_reducible first | exact HB.out | apply below_alloc | apply pw_below_drewN | apply below_drew1) | exact HB.out)⟩⟩
                  · rw [if_neg c11] at H
                    have c11b0 : ((bt a0 x4_1) == 11) = false := beq_eq_false_iff_ne.mpr c11
                    have c11b1 : ((bt a0 x4_1) != 11) = true := bne_iff_ne.mpr c11
                    (first | rw [c11b0] | (simp only [i64_w, i32_w]; rw [c11b0]) | skip)
                    have H' := Aside0.mk H
                    clear H
                    go_wp2
                    go_meet
                    case rel => exact ⟨_, (((bt a0 x4_1) == 12)), (by first | rfl | (simp; done) | (simp [*]; done)), H', ⟨by have := HK1.out; have := HJ4.out; first | omega | exact Nat.le_refl _⟩, ⟨by repeat (first | (with_reducible first | exact HB.out | apply below_alloc | apply pw_below_drewN | apply below_drew1) | exact HB.out)⟩⟩
                case rest =>
                  clear HC10
                  try clear c1
                  try clear c2
                  try clear c2b0
                  try clear p2
                  try clear c3
                  try clear c3b0
                  try clear p4
                  try clear q4
                  try clear hx4
                  try clear c6
                  try clear c6b0
                  try clear c6b1
                  try clear p6
                  try clear c7
                  try clear c7b0
                  try clear c7b1
                  try clear c8
                  try clear c8b0
                  try clear c8b1
                  try clear c9
                  try clear c11
                  try clear c11b0
                  try clear c11b1
                  try clear p2
                  try clear p4
                  try clear q4
                  obtain ⟨kq, x32_9, rfl, HA, HJ9, HB⟩ := hcut
                  cases kq with
                  | zero => exact absurd HA.out (by simp [spec_passed.j2])
                  | succ kj9 =>
                    have H := HA.out
                    clear HA
                    simp only [spec_passed.j2] at H
                    by_cases c12 : x32_9 = true
                    · subst c12
                      have H1 : (some (x4_1, false)) = some (r1, r2) := by rw [if_pos rfl] at H; exact H
                      clear H
                      have H := H1
                      clear H1
                      simp only [Option.some.injEq, Prod.mk.injEq] at H
                      obtain ⟨rfl, rfl⟩ := H
                      go_wp2
                      go_ret2
                      exact ⟨by first | rfl | (simp [errW_none, errW_some] <;> rfl) | (simp [*, errW_none, errW_some] <;> rfl), by repeat (first | (with_reducible first | exact HB.out | apply below_alloc | apply pw_below_drewN | apply below_drew1) | exact HB.out)⟩
                    · replace c12 := Bool.eq_false_iff.mpr c12
                      subst c12
                      have H1 : (if (bt a0 x4_1) = 45 then (if (wrap64 (x4_1 + 1)) < (a0.size : Int) then (if 0 ≤ (wrap64 (x4_1 + 1)) then (spec_passed.j3 kj9 a0 x4_1 (bt a0 x4_1) ((bt a0 (wrap64 (x4_1 + 1))) == 45)) else (none)) else (spec_passed.j3 kj9 a0 x4_1 (bt a0 x4_1) false)) else (spec_passed.j3 kj9 a0 x4_1 (bt a0 x4_1) false)) = some (r1, r2) := by rw [if_neg (show ¬ (false = true) by decide)] at H; exact H
                      clear H
                      have H := H1
                      clear H1
                      have HC13 := Aside0.mk H
                      clear H
                      go_upto_region 9 with (fail)
                      go_cut [40] (fun v40 wc => ∃ (kq : Nat) (x40_12 : Bool), v40 = .bool x40_12 ∧ Aside0 (spec_passed.j3 kq a0 x4_1 (bt a0 x4_1) x40_12 = some (r1, r2)) ∧ Aside0 (kq ≤ kj9) ∧ Aside0 (Below w.heap.size w wc))
                      case first =>
                        have H := HC13.out
                        clear HC13
                        by_cases c14 : (bt a0 x4_1) = 45
                        · rw [if_pos c14] at H
                          have c14b0 : ((bt a0 x4_1) == 45) = true := beq_iff_eq.mpr c14
                          have c14b1 : ((bt a0 x4_1) != 45) = false := bne_eq_false_iff_eq.mpr c14
                          clear c14
                          (first | rw [c14b0] | (simp only [i64_w, i32_w]; rw [c14b0]) | skip)
                          by_cases c15 : (wrap64 (x4_1 + 1)) < (a0.size : Int)
                          · rw [if_pos c15] at H
                            have c15b0 : decide ((wrap64 (x4_1 + 1)) < (a0.size : Int)) = true := decide_eq_true c15
                            clear c15
                            obtain ⟨ji16, hji16⟩ : ∃ j_ : Int, (wrap64 (x4_1 + 1)) = j_ := ⟨_, rfl⟩
                            replace H : (if 0 ≤ (ji16) then (spec_passed.j3 kj9 a0 x4_1 (bt a0 x4_1) ((bt a0 (ji16)) == 45)) else (none)) = some (r1, r2) := by first | (rw [hji16] at H; exact H) | (simp only [hji16] at H ⊢; exact H)
                            (try rw [hji16] at c15b0)
                            have hji16w : (IntKind.i64.wrap (x4_1 + 1)) = ji16 := (i64_w _).trans hji16
                            by_cases c17 : 0 ≤ (ji16)
                            · rw [if_pos c17] at H
                              have c17b0 : decide (0 ≤ (ji16)) = true := decide_eq_true c17
                              clear c17
                              have H' := Aside0.mk H
                              clear H
                              have p18 : 0 ≤ ((ji16) : Int) := of_decide_eq_true (by first | (with_reducible assumption) | assumption)
                              have q18 : (ji16) < (a0.size : Int) := of_decide_eq_true (by first | (with_reducible assumption) | assumption)
                              have hx18 := bt_at a0 (ji16)
                              replace p18 := eq_true p18
                              replace q18 := eq_true q18
                              go_wp2
                              go_meet
                              case rel => exact ⟨_, (((bt a0 (ji16)) == 45)), (by first | rfl | (simp; done) | (simp only [← hji16] <;> (first | rfl | simp)) | (simp [*]; done)), H', ⟨by have := HK1.out; have := HJ4.out; have := HJ9.out; first | omega | exact Nat.le_refl _⟩, ⟨by repeat (first | (with_reducible first | exact HB.out | apply below_alloc | apply pw_below_drewN | apply below_drew1) | exact HB.out)⟩⟩
                            · rw [if_neg c17] at H
                              exact absurd H (by simp)
                          · rw [if_neg c15] at H
                            have c15b0 : decide ((wrap64 (x4_1 + 1)) < (a0.size : Int)) = false := decide_eq_false c15
                            clear c15
                            have H' := Aside0.mk H
                            clear H
                            go_wp2
                            go_meet
                            case rel => exact ⟨_, (false), (by first | rfl | (simp; done) | (simp [*]; done)), H', ⟨by have := HK1.out; have := HJ4.out; have := HJ9.out; first | omega | exact Nat.le_refl _⟩, ⟨by repeat (first | (with_reducible first | exact HB.out | apply below_alloc | apply pw_below_drewN | apply below_drew1) | exact HB.out)⟩⟩
                        · rw [if_neg c14] at H
                          have c14b0 : ((bt a0 x4_1) == 45) = false := beq_eq_false_iff_ne.mpr c14
                          have c14b1 : ((bt a0 x4_1) != 45) = true := bne_iff_ne.mpr c14
                          (first | rw [c14b0] | (simp only [i64_w, i32_w]; rw [c14b0]) | skip)
                          have H' := Aside0.mk H
                          clear H
                          go_wp2
                          go_meet
                          case rel => exact ⟨_, (false), (by first | rfl | (simp; done) | (simp [*]; done)), H', ⟨by have := HK1.out; have := HJ4.out; have := HJ9.out; first | omega | exact Nat.le_refl _⟩, ⟨by repeat (first | (with_reducible first | exact HB.out | apply below_alloc | apply pw_below_drewN | apply below_drew1) | exact HB.out)⟩⟩
                      case rest =>
                        clear HC13
                        try clear c1
                        try clear p1
                        try clear q1
                        try clear hx1
                        try clear c2
                        try clear c2b0
                        try clear p2
                        try clear c3
                        try clear c3b0
                        try clear p4
                        try clear q4
                        try clear hx4
                        try clear c6
                        try clear c6b0
                        try clear c6b1
                        try clear p6
                        try clear c7
                        try clear c7b0
                        try clear c7b1
                        try clear c8
                        try clear c8b0
                        try clear c8b1
                        try clear c9
                        try clear c11
                        try clear c11b0
                        try clear c11b1
                        try clear c12
                        try clear c14
                        try clear c14b0
                        try clear c14b1
                        try clear c15
                        try clear c15b0
                        try clear c17
                        try clear c17b0
                        try clear p18
                        try clear q18
                        try clear hx18
                        try clear p18
                        try clear p2
                        try clear p4
                        try clear p6
                        try clear q18
                        try clear q4
                        obtain ⟨kq, x40_12, rfl, HA, HJ12, HB⟩ := hcut
                        cases kq with
                        | zero => exact absurd HA.out (by simp [spec_passed.j3])
                        | succ kj12 =>
                          have H := HA.out
                          clear HA
                          simp only [spec_passed.j3] at H
                          by_cases c19 : x40_12 = true
                          · subst c19
                            have H1 : (spec_passed.l1 kj12 a0 x4_1) = some (r1, r2) := by rw [if_pos rfl] at H; exact H
                            clear H
                            have H := H1
                            clear H1
                            have H' := Aside0.mk H
                            clear H
                            go_wp2
                            go_loopg [4] kj12 (fun kq v4 w' => ∃ (x4_5 : Int), v4 = .int .i64 x4_5 ∧ Aside0 (spec_passed.l1 kq a0 x4_5 = some (r1, r2)) ∧ Aside0 (kq ≤ kj12) ∧ Aside0 (Below w.heap.size w w'))
                            case atStart => exact ⟨(x4_1), (by first | rfl | (simp; done) | (simp [*]; done)), H', ⟨Nat.le_refl _⟩, ⟨by repeat (first | (with_reducible first | exact HB.out | apply below_alloc | apply pw_below_drewN | apply below_drew1) | exact HB.out)⟩⟩
                            case round =>
                              clear H'
                              try clear c1
                              try clear p1
                              try clear q1
                              try clear hx1
                              try clear c2
                              try clear c2b0
                              try clear p2
                              try clear c3
                              try clear c3b0
                              try clear p4
                              try clear q4
                              try clear hx4
                              try clear c6
                              try clear c6b0
                              try clear c6b1
                              try clear p6
                              try clear c7
                              try clear c7b0
                              try clear c7b1
                              try clear c8
                              try clear c8b0
                              try clear c8b1
                              try clear c9
                              try clear c11
                              try clear c11b0
                              try clear c11b1
                              try clear c12
                              try clear c14
                              try clear c14b0
                              try clear c14b1
                              try clear c15
                              try clear c15b0
                              try clear c17
                              try clear c17b0
                              try clear p18
                              try clear q18
                              try clear hx18
                              try clear c19
                              try clear p1
                              try clear p18
                              try clear p2
                              try clear p4
                              try clear p6
                              try clear q1
                              try clear q18
                              try clear q4
                              obtain ⟨x4_5, rfl, HA, HK5, HB⟩ := hrel
                              cases gk with
                              | zero => exact absurd HA.out (by simp [spec_passed.l1])
                              | succ k5 =>
                                have H := HA.out
                                clear HA
                                simp only [spec_passed.l1] at H
                                by_cases c20 : x4_5 < (a0.size : Int)
                                · rw [if_pos c20] at H
                                  have c20b0 : decide (x4_5 < (a0.size : Int)) = true := decide_eq_true c20
                                  clear c20
                                  by_cases c21 : 0 ≤ x4_5
                                  · rw [if_pos c21] at H
                                    have c21b0 : decide (0 ≤ x4_5) = true := decide_eq_true c21
                                    clear c21
                                    by_cases c23 : (bt a0 x4_5) = 10
                                    · rw [if_pos c23] at H
                                      have c23b0 : ((bt a0 x4_5) == 10) = true := beq_iff_eq.mpr c23
                                      have c23b1 : ((bt a0 x4_5) != 10) = false := bne_eq_false_iff_eq.mpr c23
                                      clear c23
                                      have H' := Aside0.mk H
                                      clear H
                                      have p22 : 0 ≤ (x4_5 : Int) := of_decide_eq_true (by first | (with_reducible assumption) | assumption)
                                      have q22 : x4_5 < (a0.size : Int) := of_decide_eq_true (by first | (with_reducible assumption) | assumption)
                                      have hx22 := bt_at a0 x4_5
                                      replace p22 := eq_true p22
                                      replace q22 := eq_true q22
                                      go_wp2
                                      go_roundg k5
                                      case measure => have := HK1.out; have := HJ4.out; have := HJ9.out; have := HJ12.out; have := HK5.out; omega
                                      case rel => exact ⟨(x4_5), (by first | rfl | (simp; done) | (simp [*]; done)), H', ⟨by have := HK1.out; have := HJ4.out; have := HJ9.out; have := HJ12.out; have := HK5.out; omega⟩, ⟨by repeat (first | (with_reducible first | exact HB.out | apply below_alloc | apply pw_below_drewN | apply below_drew1) | exact HB.out)⟩⟩
                                    · rw [if_neg c23] at H
                                      have c23b0 : ((bt a0 x4_5) == 10) = false := beq_eq_false_iff_ne.mpr c23
                                      have c23b1 : ((bt a0 x4_5) != 10) = true := bne_iff_ne.mpr c23
                                      have H' := Aside0.mk H
                                      clear H
                                      have p22 : 0 ≤ (x4_5 : Int) := of_decide_eq_true (by first | (with_reducible assumption) | assumption)
                                      have q22 : x4_5 < (a0.size : Int) := of_decide_eq_true (by first | (with_reducible assumption) | assumption)
                                      have hx22 := bt_at a0 x4_5
                                      replace p22 := eq_true p22
                                      replace q22 := eq_true q22
                                      go_wp2
                                      go_roundg k5
                                      case measure => have := HK1.out; have := HJ4.out; have := HJ9.out; have := HJ12.out; have := HK5.out; omega
                                      case rel => exact ⟨(wrap64 (x4_5 + 1)), (by first | rfl | (simp; done) | (simp [*]; done)), H', ⟨by have := HK1.out; have := HJ4.out; have := HJ9.out; have := HJ12.out; have := HK5.out; omega⟩, ⟨by repeat (first | (with_reducible first | exact HB.out | apply below_alloc | apply pw_below_drewN | apply below_drew1) | exact HB.out)⟩⟩
                                  · rw [if_neg c21] at H
                                    exact absurd H (by simp)
                                · rw [if_neg c20] at H
                                  have c20b0 : decide (x4_5 < (a0.size : Int)) = false := decide_eq_false c20
                                  clear c20
                                  have H' := Aside0.mk H
                                  clear H
                                  go_wp2
                                  go_roundg k5
                                  case measure => have := HK1.out; have := HJ4.out; have := HJ9.out; have := HJ12.out; have := HK5.out; omega
                                  case rel => exact ⟨(x4_5), (by first | rfl | (simp; done) | (simp [*]; done)), H', ⟨by have := HK1.out; have := HJ4.out; have := HJ9.out; have := HJ12.out; have := HK5.out; omega⟩, ⟨by repeat (first | (with_reducible first | exact HB.out | apply below_alloc | apply pw_below_drewN | apply below_drew1) | exact HB.out)⟩⟩
                          · replace c19 := Bool.eq_false_iff.mpr c19
                            subst c19
                            have H1 : (if (bt a0 x4_1) = 47 then (if (wrap64 (x4_1 + 1)) < (a0.size : Int) then (if 0 ≤ (wrap64 (x4_1 + 1)) then (spec_passed.j5 kj12 a0 x4_1 ((bt a0 (wrap64 (x4_1 + 1))) == 42)) else (none)) else (spec_passed.j5 kj12 a0 x4_1 false)) else (spec_passed.j5 kj12 a0 x4_1 false)) = some (r1, r2) := by rw [if_neg (show ¬ (false = true) by decide)] at H; exact H
                            clear H
                            have H := H1
                            clear H1
                            have HC24 := Aside0.mk H
                            clear H
                            go_upto_region 12 with (fail)
                            go_cut [69] (fun v69 wc => ∃ (kq : Nat) (x69_23 : Bool), v69 = .bool x69_23 ∧ Aside0 (spec_passed.j5 kq a0 x4_1 x69_23 = some (r1, r2)) ∧ Aside0 (kq ≤ kj12) ∧ Aside0 (Below w.heap.size w wc))
                            case first =>
                              have H := HC24.out
                              clear HC24
                              by_cases c25 : (bt a0 x4_1) = 47
                              · rw [if_pos c25] at H
                                have c25b0 : ((bt a0 x4_1) == 47) = true := beq_iff_eq.mpr c25
                                have c25b1 : ((bt a0 x4_1) != 47) = false := bne_eq_false_iff_eq.mpr c25
                                clear c25
                                (first | rw [c25b0] | (simp only [i64_w, i32_w]; rw [c25b0]) | skip)
                                by_cases c26 : (wrap64 (x4_1 + 1)) < (a0.size : Int)
                                · rw [if_pos c26] at H
                                  have c26b0 : decide ((wrap64 (x4_1 + 1)) < (a0.size : Int)) = true := decide_eq_true c26
                                  clear c26
                                  obtain ⟨ji27, hji27⟩ : ∃ j_ : Int, (wrap64 (x4_1 + 1)) = j_ := ⟨_, rfl⟩
                                  replace H : (if 0 ≤ (ji27) then (spec_passed.j5 kj12 a0 x4_1 ((bt a0 (ji27)) == 42)) else (none)) = some (r1, r2) := by first | (rw [hji27] at H; exact H) | (simp only [hji27] at H ⊢; exact H)
                                  (try rw [hji27] at c26b0)
                                  have hji27w : (IntKind.i64.wrap (x4_1 + 1)) = ji27 := (i64_w _).trans hji27
                                  by_cases c28 : 0 ≤ (ji27)
                                  · rw [if_pos c28] at H
                                    have c28b0 : decide (0 ≤ (ji27)) = true := decide_eq_true c28
                                    clear c28
                                    have H' := Aside0.mk H
                                    clear H
                                    have p29 : 0 ≤ ((ji27) : Int) := of_decide_eq_true (by first | (with_reducible assumption) | assumption)
                                    have q29 : (ji27) < (a0.size : Int) := of_decide_eq_true (by first | (with_reducible assumption) | assumption)
                                    have hx29 := bt_at a0 (ji27)
                                    replace p29 := eq_true p29
                                    replace q29 := eq_true q29
                                    go_wp2
                                    go_meet
                                    case rel => exact ⟨_, (((bt a0 (ji27)) == 42)), (by first | rfl | (simp; done) | (simp only [← hji27] <;> (first | rfl | simp)) | (simp [*]; done)), H', ⟨by have := HK1.out; have := HJ4.out; have := HJ9.out; have := HJ12.out; first | omega | exact Nat.le_refl _⟩, ⟨by repeat (first | (with_reducible first | exact HB.out | apply below_alloc | apply pw_below_drewN | apply below_drew1) | exact HB.out)⟩⟩
                                  · rw [if_neg c28] at H
                                    exact absurd H (by simp)
                                · rw [if_neg c26] at H
                                  have c26b0 : decide ((wrap64 (x4_1 + 1)) < (a0.size : Int)) = false := decide_eq_false c26
                                  clear c26
                                  have H' := Aside0.mk H
                                  clear H
                                  go_wp2
                                  go_meet
                                  case rel => exact ⟨_, (false), (by first | rfl | (simp; done) | (simp [*]; done)), H', ⟨by have := HK1.out; have := HJ4.out; have := HJ9.out; have := HJ12.out; first | omega | exact Nat.le_refl _⟩, ⟨by repeat (first | (with_reducible first | exact HB.out | apply below_alloc | apply pw_below_drewN | apply below_drew1) | exact HB.out)⟩⟩
                              · rw [if_neg c25] at H
                                have c25b0 : ((bt a0 x4_1) == 47) = false := beq_eq_false_iff_ne.mpr c25
                                have c25b1 : ((bt a0 x4_1) != 47) = true := bne_iff_ne.mpr c25
                                (first | rw [c25b0] | (simp only [i64_w, i32_w]; rw [c25b0]) | skip)
                                have H' := Aside0.mk H
                                clear H
                                go_wp2
                                go_meet
                                case rel => exact ⟨_, (false), (by first | rfl | (simp; done) | (simp [*]; done)), H', ⟨by have := HK1.out; have := HJ4.out; have := HJ9.out; have := HJ12.out; first | omega | exact Nat.le_refl _⟩, ⟨by repeat (first | (with_reducible first | exact HB.out | apply below_alloc | apply pw_below_drewN | apply below_drew1) | exact HB.out)⟩⟩
                            case rest =>
                              clear HC24
                              try clear c1
                              try clear p1
                              try clear q1
                              try clear hx1
                              try clear c2
                              try clear c2b0
                              try clear p2
                              try clear q2
                              try clear hx2
                              try clear c3
                              try clear c3b0
                              try clear p4
                              try clear q4
                              try clear hx4
                              try clear c6
                              try clear c6b0
                              try clear c6b1
                              try clear p6
                              try clear c7
                              try clear c7b0
                              try clear c7b1
                              try clear c8
                              try clear c8b0
                              try clear c8b1
                              try clear c9
                              try clear c11
                              try clear c11b0
                              try clear c11b1
                              try clear c12
                              try clear c14
                              try clear c14b0
                              try clear c14b1
                              try clear c15
                              try clear c15b0
                              try clear c17
                              try clear c17b0
                              try clear p18
                              try clear q18
                              try clear hx18
                              try clear c19
                              try clear c20
                              try clear c20b0
                              try clear c21
                              try clear c21b0
                              try clear p22
                              try clear q22
                              try clear hx22
                              try clear c23
                              try clear c23b0
                              try clear c23b1
                              try clear c25
                              try clear c25b0
                              try clear c25b1
                              try clear c26
                              try clear c26b0
                              try clear c28
                              try clear c28b0
                              try clear p29
                              try clear q29
                              try clear hx29
                              try clear p1
                              try clear p18
                              try clear p2
                              try clear p22
                              try clear p29
                              try clear p4
                              try clear p6
                              try clear q1
                              try clear q18
                              try clear q22
                              try clear q29
                              try clear q4
                              obtain ⟨kq, x69_23, rfl, HA, HJ23, HB⟩ := hcut
                              cases kq with
                              | zero => exact absurd HA.out (by simp [spec_passed.j5])
                              | succ kj23 =>
                                have H := HA.out
                                clear HA
                                simp only [spec_passed.j5] at H
                                by_cases c30 : x69_23 = true
                                · subst c30
                                  have H1 : (spec_passed.l2 kj23 a0 x4_1 (wrap64 (x4_1 + 2))) = some (r1, r2) := by rw [if_pos rfl] at H; exact H
                                  clear H
                                  have H := H1
                                  clear H1
                                  have H' := Aside0.mk H
                                  clear H
                                  go_wp2
                                  go_loopg [6] kj23 (fun kq v6 w' => ∃ (x6_6 : Int), v6 = .int .i64 x6_6 ∧ Aside0 (spec_passed.l2 kq a0 x4_1 x6_6 = some (r1, r2)) ∧ Aside0 (kq ≤ kj23) ∧ Aside0 (Below w.heap.size w w'))
                                  case atStart => exact ⟨(wrap64 (x4_1 + 2)), (by first | rfl | (simp; done) | (simp [*]; done)), H', ⟨Nat.le_refl _⟩, ⟨by repeat (first | (with_reducible first | exact HB.out | apply below_alloc | apply pw_below_drewN | apply below_drew1) | exact HB.out)⟩⟩
                                  case round =>
                                    clear H'
                                    try clear c1
                                    try clear p1
                                    try clear q1
                                    try clear hx1
                                    try clear c2
                                    try clear c2b0
                                    try clear p2
                                    try clear q2
                                    try clear hx2
                                    try clear c3
                                    try clear c3b0
                                    try clear p4
                                    try clear q4
                                    try clear hx4
                                    try clear c6
                                    try clear c6b0
                                    try clear c6b1
                                    try clear p6
                                    try clear c7
                                    try clear c7b0
                                    try clear c7b1
                                    try clear c8
                                    try clear c8b0
                                    try clear c8b1
                                    try clear c9
                                    try clear c11
                                    try clear c11b0
                                    try clear c11b1
                                    try clear c12
                                    try clear c14
                                    try clear c14b0
                                    try clear c14b1
                                    try clear c15
                                    try clear c15b0
                                    try clear c17
                                    try clear c17b0
                                    try clear p18
                                    try clear q18
                                    try clear hx18
                                    try clear c19
                                    try clear c20
                                    try clear c20b0
                                    try clear c21
                                    try clear c21b0
                                    try clear p22
                                    try clear q22
                                    try clear hx22
                                    try clear c23
                                    try clear c23b0
                                    try clear c23b1
                                    try clear c25
                                    try clear c25b0
                                    try clear c25b1
                                    try clear c26
                                    try clear c26b0
                                    try clear c28
                                    try clear c28b0
                                    try clear p29
                                    try clear q29
                                    try clear hx29
                                    try clear c30
                                    try clear p1
                                    try clear p18
                                    try clear p2
                                    try clear p22
                                    try clear p29
                                    try clear p4
                                    try clear p6
                                    try clear q1
                                    try clear q18
                                    try clear q2
                                    try clear q22
                                    try clear q29
                                    try clear q4
                                    obtain ⟨x6_6, rfl, HA, HK6, HB⟩ := hrel
                                    cases gk with
                                    | zero => exact absurd HA.out (by simp [spec_passed.l2])
                                    | succ k6 =>
                                      have H := HA.out
                                      clear HA
                                      simp only [spec_passed.l2] at H
                                      by_cases c31 : x6_6 < (a0.size : Int)
                                      · rw [if_pos c31] at H
                                        have c31b0 : decide (x6_6 < (a0.size : Int)) = true := decide_eq_true c31
                                        clear c31
                                        by_cases c32 : 0 ≤ x6_6
                                        · rw [if_pos c32] at H
                                          have c32b0 : decide (0 ≤ x6_6) = true := decide_eq_true c32
                                          clear c32
                                          by_cases c34 : (bt a0 x6_6) = 47
                                          · rw [if_pos c34] at H
                                            have c34b0 : ((bt a0 x6_6) == 47) = true := beq_iff_eq.mpr c34
                                            have c34b1 : ((bt a0 x6_6) != 47) = false := bne_eq_false_iff_eq.mpr c34
                                            clear c34
                                            obtain ⟨ji35, hji35⟩ : ∃ j_ : Int, (wrap64 (x6_6 - 1)) = j_ := ⟨_, rfl⟩
                                            replace H : (if 0 ≤ (ji35) then (if (ji35) < (a0.size : Int) then (if ((bt a0 (ji35)) = 42) then (if x6_6 ≥ (wrap64 (x4_1 + 2)) then (if x6_6 = (wrap64 (x4_1 + 2)) then (some (x4_1, false)) else (spec_passed.l0 k6 a0 (mn (wrap64 (x6_6 + 1)) (a0.size : Int)))) else (spec_passed.l0 k6 a0 (mn (wrap64 (x6_6 + 1)) (a0.size : Int)))) else (spec_passed.l2 k6 a0 x4_1 (wrap64 (x6_6 + 1)))) else (none)) else (none)) = some (r1, r2) := by first | (rw [hji35] at H; exact H) | (simp only [hji35] at H ⊢; exact H)
                                            have hji35w : (IntKind.i64.wrap (x6_6 - 1)) = ji35 := (i64_w _).trans hji35
                                            by_cases c36 : 0 ≤ (ji35)
                                            · rw [if_pos c36] at H
                                              have c36b0 : decide (0 ≤ (ji35)) = true := decide_eq_true c36
                                              clear c36
                                              by_cases c37 : (ji35) < (a0.size : Int)
                                              · rw [if_pos c37] at H
                                                have c37b0 : decide ((ji35) < (a0.size : Int)) = true := decide_eq_true c37
                                                clear c37
                                                by_cases c39 : ((bt a0 (ji35)) = 42)
                                                · rw [if_pos c39] at H
                                                  have c39b0 : ((bt a0 (ji35)) == 42) = true := beq_iff_eq.mpr c39
                                                  have c39b1 : ((bt a0 (ji35)) != 42) = false := bne_eq_false_iff_eq.mpr c39
                                                  clear c39
                                                  by_cases c40 : x6_6 ≥ (wrap64 (x4_1 + 2))
                                                  · rw [if_pos c40] at H
                                                    have c40b0 : decide ((wrap64 (x4_1 + 2)) ≤ x6_6) = true := decide_eq_true c40
                                                    clear c40
                                                    by_cases c41 : x6_6 = (wrap64 (x4_1 + 2))
                                                    · rw [if_pos c41] at H
                                                      have c41b0 : (x6_6 == (wrap64 (x4_1 + 2))) = true := beq_iff_eq.mpr c41
                                                      have c41b1 : (x6_6 != (wrap64 (x4_1 + 2))) = false := bne_eq_false_iff_eq.mpr c41
                                                      clear c41
                                                      simp only [Option.some.injEq, Prod.mk.injEq] at H
                                                      obtain ⟨rfl, rfl⟩ := H
                                                      have p33 : 0 ≤ (x6_6 : Int) := of_decide_eq_true (by first | (with_reducible assumption) | assumption)
                                                      have q33 : x6_6 < (a0.size : Int) := of_decide_eq_true (by first | (with_reducible assumption) | assumption)
                                                      have hx33 := bt_at a0 x6_6
                                                      replace p33 := eq_true p33
                                                      replace q33 := eq_true q33
                                                      have p38 : 0 ≤ ((ji35) : Int) := of_decide_eq_true (by first | (with_reducible assumption) | assumption)
                                                      have q38 : (ji35) < (a0.size : Int) := of_decide_eq_true (by first | (with_reducible assumption) | assumption)
                                                      have hx38 := bt_at a0 (ji35)
                                                      replace p38 := eq_true p38
                                                      replace q38 := eq_true q38
                                                      go_wp2
                                                      go_ret2
                                                      exact ⟨by first | rfl | (simp [errW_none, errW_some] <;> rfl) | (simp only [← hji35]; first | rfl | (simp [errW_none, errW_some] <;> rfl)) | (simp [*, errW_none, errW_some] <;> rfl), by repeat (first | (with_reducible first | exact HB.out | apply below_alloc | apply pw_below_drewN | apply below_drew1) | exact HB.out)⟩
                                                    · rw [if_neg c41] at H
                                                      have c41b0 : (x6_6 == (wrap64 (x4_1 + 2))) = false := beq_eq_false_iff_ne.mpr c41
                                                      have c41b1 : (x6_6 != (wrap64 (x4_1 + 2))) = true := bne_iff_ne.mpr c41
                                                      obtain ⟨ji42, hji42⟩ : ∃ j_ : Int, (mn (wrap64 (x6_6 + 1)) (a0.size : Int)) = j_ := ⟨_, rfl⟩
                                                      replace H : (spec_passed.l0 k6 a0 ji42) = some (r1, r2) := by first | (rw [hji42] at H; exact H) | (simp only [hji42] at H ⊢; exact H)
                                                      have hji42_ : (if (a0.size : Int) < (wrap64 (x6_6 + 1)) then (a0.size : Int) else (wrap64 (x6_6 + 1))) = ji42 := hji42
                                                      have H' := Aside0.mk H
                                                      clear H
                                                      have p33 : 0 ≤ (x6_6 : Int) := of_decide_eq_true (by first | (with_reducible assumption) | assumption)
                                                      have q33 : x6_6 < (a0.size : Int) := of_decide_eq_true (by first | (with_reducible assumption) | assumption)
                                                      have hx33 := bt_at a0 x6_6
                                                      replace p33 := eq_true p33
                                                      replace q33 := eq_true q33
                                                      have p38 : 0 ≤ ((ji35) : Int) := of_decide_eq_true (by first | (with_reducible assumption) | assumption)
                                                      have q38 : (ji35) < (a0.size : Int) := of_decide_eq_true (by first | (with_reducible assumption) | assumption)
                                                      have hx38 := bt_at a0 (ji35)
                                                      replace p38 := eq_true p38
                                                      replace q38 := eq_true q38
                                                      go_wp2
                                                      go_roundg k6
                                                      case measure => have := HK1.out; have := HJ4.out; have := HJ9.out; have := HJ12.out; have := HJ23.out; have := HK6.out; omega
                                                      case rel => exact ⟨(ji42), (by first | rfl | (simp; done) | (simp only [← hji42] <;> (first | rfl | simp)) | (simp [*]; done)), H', ⟨by have := HK1.out; have := HJ4.out; have := HJ9.out; have := HJ12.out; have := HJ23.out; have := HK6.out; omega⟩, ⟨by repeat (first | (with_reducible first | exact HB.out | apply below_alloc | apply pw_below_drewN | apply below_drew1) | exact HB.out)⟩⟩
                                                  · rw [if_neg c40] at H
                                                    have c40b0 : decide ((wrap64 (x4_1 + 2)) ≤ x6_6) = false := decide_eq_false c40
                                                    clear c40
                                                    obtain ⟨ji43, hji43⟩ : ∃ j_ : Int, (mn (wrap64 (x6_6 + 1)) (a0.size : Int)) = j_ := ⟨_, rfl⟩
                                                    replace H : (spec_passed.l0 k6 a0 ji43) = some (r1, r2) := by first | (rw [hji43] at H; exact H) | (simp only [hji43] at H ⊢; exact H)
                                                    have hji43_ : (if (a0.size : Int) < (wrap64 (x6_6 + 1)) then (a0.size : Int) else (wrap64 (x6_6 + 1))) = ji43 := hji43
                                                    have H' := Aside0.mk H
                                                    clear H
                                                    have p33 : 0 ≤ (x6_6 : Int) := of_decide_eq_true (by first | (with_reducible assumption) | assumption)
                                                    have q33 : x6_6 < (a0.size : Int) := of_decide_eq_true (by first | (with_reducible assumption) | assumption)
                                                    have hx33 := bt_at a0 x6_6
                                                    replace p33 := eq_true p33
                                                    replace q33 := eq_true q33
                                                    have p38 : 0 ≤ ((ji35) : Int) := of_decide_eq_true (by first | (with_reducible assumption) | assumption)
                                                    have q38 : (ji35) < (a0.size : Int) := of_decide_eq_true (by first | (with_reducible assumption) | assumption)
                                                    have hx38 := bt_at a0 (ji35)
                                                    replace p38 := eq_true p38
                                                    replace q38 := eq_true q38
                                                    go_wp2
                                                    go_roundg k6
                                                    case measure => have := HK1.out; have := HJ4.out; have := HJ9.out; have := HJ12.out; have := HJ23.out; have := HK6.out; omega
                                                    case rel => exact ⟨(ji43), (by first | rfl | (simp; done) | (simp only [← hji43] <;> (first | rfl | simp)) | (simp [*]; done)), H', ⟨by have := HK1.out; have := HJ4.out; have := HJ9.out; have := HJ12.out; have := HJ23.out; have := HK6.out; omega⟩, ⟨by repeat (first | (with_reducible first | exact HB.out | apply below_alloc | apply pw_below_drewN | apply below_drew1) | exact HB.out)⟩⟩
                                                · rw [if_neg c39] at H
                                                  have c39b0 : ((bt a0 (ji35)) == 42) = false := beq_eq_false_iff_ne.mpr c39
                                                  have c39b1 : ((bt a0 (ji35)) != 42) = true := bne_iff_ne.mpr c39
                                                  have H' := Aside0.mk H
                                                  clear H
                                                  have p33 : 0 ≤ (x6_6 : Int) := of_decide_eq_true (by first | (with_reducible assumption) | assumption)
                                                  have q33 : x6_6 < (a0.size : Int) := of_decide_eq_true (by first | (with_reducible assumption) | assumption)
                                                  have hx33 := bt_at a0 x6_6
                                                  replace p33 := eq_true p33
                                                  replace q33 := eq_true q33
                                                  have p38 : 0 ≤ ((ji35) : Int) := of_decide_eq_true (by first | (with_reducible assumption) | assumption)
                                                  have q38 : (ji35) < (a0.size : Int) := of_decide_eq_true (by first | (with_reducible assumption) | assumption)
                                                  have hx38 := bt_at a0 (ji35)
                                                  replace p38 := eq_true p38
                                                  replace q38 := eq_true q38
                                                  go_wp2
                                                  go_roundg k6
                                                  case measure => have := HK1.out; have := HJ4.out; have := HJ9.out; have := HJ12.out; have := HJ23.out; have := HK6.out; omega
                                                  case rel => exact ⟨(wrap64 (x6_6 + 1)), (by first | rfl | (simp; done) | (simp [*]; done)), H', ⟨by have := HK1.out; have := HJ4.out; have := HJ9.out; have := HJ12.out; have := HJ23.out; have := HK6.out; omega⟩, ⟨by repeat (first | (with_reducible first | exact HB.out | apply below_alloc | apply pw_below_drewN | apply below_drew1) | exact HB.out)⟩⟩
                                              · rw [if_neg c37] at H
                                                exact absurd H (by simp)
                                            · rw [if_neg c36] at H
                                              exact absurd H (by simp)
                                          · rw [if_neg c34] at H
                                            have c34b0 : ((bt a0 x6_6) == 47) = false := beq_eq_false_iff_ne.mpr c34
                                            have c34b1 : ((bt a0 x6_6) != 47) = true := bne_iff_ne.mpr c34
                                            have H' := Aside0.mk H
                                            clear H
                                            have p33 : 0 ≤ (x6_6 : Int) := of_decide_eq_true (by first | (with_reducible assumption) | assumption)
                                            have q33 : x6_6 < (a0.size : Int) := of_decide_eq_true (by first | (with_reducible assumption) | assumption)
                                            have hx33 := bt_at a0 x6_6
                                            replace p33 := eq_true p33
                                            replace q33 := eq_true q33
                                            go_wp2
                                            go_roundg k6
                                            case measure => have := HK1.out; have := HJ4.out; have := HJ9.out; have := HJ12.out; have := HJ23.out; have := HK6.out; omega
                                            case rel => exact ⟨(wrap64 (x6_6 + 1)), (by first | rfl | (simp; done) | (simp [*]; done)), H', ⟨by have := HK1.out; have := HJ4.out; have := HJ9.out; have := HJ12.out; have := HJ23.out; have := HK6.out; omega⟩, ⟨by repeat (first | (with_reducible first | exact HB.out | apply below_alloc | apply pw_below_drewN | apply below_drew1) | exact HB.out)⟩⟩
                                        · rw [if_neg c32] at H
                                          exact absurd H (by simp)
                                      · rw [if_neg c31] at H
                                        have c31b0 : decide (x6_6 < (a0.size : Int)) = false := decide_eq_false c31
                                        clear c31
                                        by_cases c44 : x6_6 ≥ (wrap64 (x4_1 + 2))
                                        · rw [if_pos c44] at H
                                          have c44b0 : decide ((wrap64 (x4_1 + 2)) ≤ x6_6) = true := decide_eq_true c44
                                          clear c44
                                          by_cases c45 : x6_6 = (wrap64 (x4_1 + 2))
                                          · rw [if_pos c45] at H
                                            have c45b0 : (x6_6 == (wrap64 (x4_1 + 2))) = true := beq_iff_eq.mpr c45
                                            have c45b1 : (x6_6 != (wrap64 (x4_1 + 2))) = false := bne_eq_false_iff_eq.mpr c45
                                            clear c45
                                            simp only [Option.some.injEq, Prod.mk.injEq] at H
                                            obtain ⟨rfl, rfl⟩ := H
                                            go_wp2
                                            go_ret2
                                            exact ⟨by first | rfl | (simp [errW_none, errW_some] <;> rfl) | (simp [*, errW_none, errW_some] <;> rfl), by repeat (first | (with_reducible first | exact HB.out | apply below_alloc | apply pw_below_drewN | apply below_drew1) | exact HB.out)⟩
                                          · rw [if_neg c45] at H
                                            have c45b0 : (x6_6 == (wrap64 (x4_1 + 2))) = false := beq_eq_false_iff_ne.mpr c45
                                            have c45b1 : (x6_6 != (wrap64 (x4_1 + 2))) = true := bne_iff_ne.mpr c45
                                            obtain ⟨ji46, hji46⟩ : ∃ j_ : Int, (mn (wrap64 (x6_6 + 1)) (a0.size : Int)) = j_ := ⟨_, rfl⟩
                                            replace H : (spec_passed.l0 k6 a0 ji46) = some (r1, r2) := by first | (rw [hji46] at H; exact H) | (simp only [hji46] at H ⊢; exact H)
                                            have hji46_ : (if (a0.size : Int) < (wrap64 (x6_6 + 1)) then (a0.size : Int) else (wrap64 (x6_6 + 1))) = ji46 := hji46
                                            have H' := Aside0.mk H
                                            clear H
                                            go_wp2
                                            go_roundg k6
                                            case measure => have := HK1.out; have := HJ4.out; have := HJ9.out; have := HJ12.out; have := HJ23.out; have := HK6.out; omega
                                            case rel => exact ⟨(ji46), (by first | rfl | (simp; done) | (simp only [← hji46] <;> (first | rfl | simp)) | (simp [*]; done)), H', ⟨by have := HK1.out; have := HJ4.out; have := HJ9.out; have := HJ12.out; have := HJ23.out; have := HK6.out; omega⟩, ⟨by repeat (first | (with_reducible first | exact HB.out | apply below_alloc | apply pw_below_drewN | apply below_drew1) | exact HB.out)⟩⟩
                                        · rw [if_neg c44] at H
                                          have c44b0 : decide ((wrap64 (x4_1 + 2)) ≤ x6_6) = false := decide_eq_false c44
                                          clear c44
                                          obtain ⟨ji47, hji47⟩ : ∃ j_ : Int, (mn (wrap64 (x6_6 + 1)) (a0.size : Int)) = j_ := ⟨_, rfl⟩
                                          replace H : (spec_passed.l0 k6 a0 ji47) = some (r1, r2) := by first | (rw [hji47] at H; exact H) | (simp only [hji47] at H ⊢; exact H)
                                          have hji47_ : (if (a0.size : Int) < (wrap64 (x6_6 + 1)) then (a0.size : Int) else (wrap64 (x6_6 + 1))) = ji47 := hji47
                                          have H' := Aside0.mk H
                                          clear H
                                          go_wp2
                                          go_roundg k6
                                          case measure => have := HK1.out; have := HJ4.out; have := HJ9.out; have := HJ12.out; have := HJ23.out; have := HK6.out; omega
                                          case rel => exact ⟨(ji47), (by first | rfl | (simp; done) | (simp only [← hji47] <;> (first | rfl | simp)) | (simp [*]; done)), H', ⟨by have := HK1.out; have := HJ4.out; have := HJ9.out; have := HJ12.out; have := HJ23.out; have := HK6.out; omega⟩, ⟨by repeat (first | (with_reducible first | exact HB.out | apply below_alloc | apply pw_below_drewN | apply below_drew1) | exact HB.out)⟩⟩
                                · replace c30 := Bool.eq_false_iff.mpr c30
                                  subst c30
                                  have H1 : (some (x4_1, true)) = some (r1, r2) := by rw [if_neg (show ¬ (false = true) by decide)] at H; exact H
                                  clear H
                                  have H := H1
                                  clear H1
                                  simp only [Option.some.injEq, Prod.mk.injEq] at H
                                  obtain ⟨rfl, rfl⟩ := H
                                  go_wp2
                                  go_ret2
                                  exact ⟨by first | rfl | (simp [errW_none, errW_some] <;> rfl) | (simp [*, errW_none, errW_some] <;> rfl), by repeat (first | (with_reducible first | exact HB.out | apply below_alloc | apply pw_below_drewN | apply below_drew1) | exact HB.out)⟩
        · rw [if_neg c3] at H
          exact absurd H (by simp)
      · rw [if_neg c2] at H
        have c2b0 : decide (x4_1 < (a0.size : Int)) = false := decide_eq_false c2
        clear c2
        simp only [Option.some.injEq, Prod.mk.injEq] at H
        obtain ⟨rfl, rfl⟩ := H
        go_wp2
        go_ret2
        exact ⟨by first | rfl | (simp [errW_none, errW_some] <;> rfl) | (simp [*, errW_none, errW_some] <;> rfl), by repeat (first | (with_reducible first | exact HB.out | apply below_alloc | apply pw_below_drewN | apply below_drew1) | exact HB.out)⟩

end Go.Proofs.Ytlfkejljbehcaaa.P
