-- Written by the program wip/myprint.py of this session, over the kit's print of the translation. Lean checks it.
import Derived.Test.YthcikkjjegfblabPx0
import Derived.Test.YthcikkjjegfblabPx5
import Derived.Test.YthcikkjjegfblabPx9
namespace Go.Proofs.Ythcikkjjegfblab.P
open Go.RowKit Go.Proofs.YthcikkjjegfblabW.PrintWords Go.Proofs.YthcikkjjegfblabW.PrintLast Go.Proofs.YthcikkjjegfblabW.PrintMore
attribute [local go_sem] max2_int min2_int max_two min_two max_three min_three max_four min_four   -- for this text's walks alone
set_option linter.unusedVariables false
set_option linter.unusedSimpArgs false

/-! ### spec_FieldsRight: function 23 -/
mutual
def spec_FieldsRight.l0 : Nat → List (S54) → Int → Option (Bool)
  | 0, _, _ => none
  | k + 1, x0, x3 => if x3 < (x0.length : Int) then (if 0 ≤ x3 then ((spec_place.f k (⟨#[83, 67, 77, 68, 72, 80, 112, 113, 87, 115, 116, 99, 100, 110, 70, 76, 82]⟩ : ByteArray) ((rd_T54 x0 x3).f0)).bind fun t214 => (if t214 < 0 then (spec_FieldsRight.j1 k x0 x3 true) else (if ((rd_T54 x0 x3).f1).toList = ([] : List UInt8) then (spec_FieldsRight.j1 k x0 x3 true) else ((spec_hasZero.f k ((rd_T54 x0 x3).f1)).bind fun t217 => (if t217 = true then (spec_FieldsRight.j1 k x0 x3 true) else (spec_FieldsRight.j1 k x0 x3 (decide ((((rd_T54 x0 x3).f1).size : Int) > 200)))))))) else (none)) else (some true)
def spec_FieldsRight.j1 : Nat → List (S54) → Int → Bool → Option (Bool)
  | 0, _, _, _ => none
  | k + 1, x0, x3, x42 => if x42 = true then (some false) else (spec_FieldsRight.l1 k x0 x3 0)
def spec_FieldsRight.l1 : Nat → List (S54) → Int → Int → Option (Bool)
  | 0, _, _, _ => none
  | k + 1, x0, x3, x4 => if x4 < x3 then (if 0 ≤ x4 then (if x4 < (x0.length : Int) then (if 0 ≤ x3 then (if x3 < (x0.length : Int) then (if ((rd_T54 x0 x4).f0) = ((rd_T54 x0 x3).f0) then (some false) else (spec_FieldsRight.l1 k x0 x3 (wrap64 (x4 + 1)))) else (none)) else (none)) else (none)) else (none)) else (spec_FieldsRight.l0 k x0 (wrap64 (x3 + 1)))
end
def spec_FieldsRight.f (k : Nat) (l0 : List (S54)) : Option (Bool) := spec_FieldsRight.l0 k l0 0
theorem spec_FieldsRight.mono_l : ∀ k, (∀ y0 y1, LeO (spec_FieldsRight.l0 k y0 y1) (spec_FieldsRight.l0 (k + 1) y0 y1)) ∧ (∀ y0 y1 y2, LeO (spec_FieldsRight.j1 k y0 y1 y2) (spec_FieldsRight.j1 (k + 1) y0 y1 y2)) ∧ (∀ y0 y1 y2, LeO (spec_FieldsRight.l1 k y0 y1 y2) (spec_FieldsRight.l1 (k + 1) y0 y1 y2))
  | 0 => ⟨fun _ _ r h => by simp [spec_FieldsRight.l0] at h, fun _ _ _ r h => by simp [spec_FieldsRight.j1] at h, fun _ _ _ r h => by simp [spec_FieldsRight.l1] at h⟩
  | k + 1 => by
    obtain ⟨ih0, ih1, ih2⟩ := spec_FieldsRight.mono_l k
    refine ⟨?_, ?_, ?_⟩
    · intro y0 y1
      unfold spec_FieldsRight.l0
      repeat' first
      | (with_reducible exact ih0 _ _)
      | (with_reducible exact ih1 _ _ _)
      | (with_reducible exact ih2 _ _ _)
      | (with_reducible exact spec_hasZero.mono _ _)
      | (with_reducible exact spec_place.mono _ _ _)
      | (with_reducible exact LeO.refl _)
      | (with_reducible exact LeO.none _)
      | (with_reducible refine LeO.ite ?_ ?_)
      | (with_reducible refine LeO.bind ?_ (fun _ => ?_))
      | exact ih0 _ _
      | exact ih1 _ _ _
      | exact ih2 _ _ _
      | exact spec_hasZero.mono _ _
      | exact spec_place.mono _ _ _
      | exact LeO.none _
      | refine LeO.ite ?_ ?_
      | refine LeO.bind ?_ (fun _ => ?_)
    · intro y0 y1 y2
      unfold spec_FieldsRight.j1
      repeat' first
      | (with_reducible exact ih0 _ _)
      | (with_reducible exact ih1 _ _ _)
      | (with_reducible exact ih2 _ _ _)
      | (with_reducible exact spec_hasZero.mono _ _)
      | (with_reducible exact spec_place.mono _ _ _)
      | (with_reducible exact LeO.refl _)
      | (with_reducible exact LeO.none _)
      | (with_reducible refine LeO.ite ?_ ?_)
      | (with_reducible refine LeO.bind ?_ (fun _ => ?_))
      | exact ih0 _ _
      | exact ih1 _ _ _
      | exact ih2 _ _ _
      | exact spec_hasZero.mono _ _
      | exact spec_place.mono _ _ _
      | exact LeO.none _
      | refine LeO.ite ?_ ?_
      | refine LeO.bind ?_ (fun _ => ?_)
    · intro y0 y1 y2
      unfold spec_FieldsRight.l1
      repeat' first
      | (with_reducible exact ih0 _ _)
      | (with_reducible exact ih1 _ _ _)
      | (with_reducible exact ih2 _ _ _)
      | (with_reducible exact spec_hasZero.mono _ _)
      | (with_reducible exact spec_place.mono _ _ _)
      | (with_reducible exact LeO.refl _)
      | (with_reducible exact LeO.none _)
      | (with_reducible refine LeO.ite ?_ ?_)
      | (with_reducible refine LeO.bind ?_ (fun _ => ?_))
      | exact ih0 _ _
      | exact ih1 _ _ _
      | exact ih2 _ _ _
      | exact spec_hasZero.mono _ _
      | exact spec_place.mono _ _ _
      | exact LeO.none _
      | refine LeO.ite ?_ ?_
      | refine LeO.bind ?_ (fun _ => ?_)
theorem spec_FieldsRight.mono : ∀ a0 k, LeO (spec_FieldsRight.f k a0) (spec_FieldsRight.f (k + 1) a0) := by
  intro a0 k
  obtain ⟨ih0, ih1, ih2⟩ := spec_FieldsRight.mono_l k
  unfold spec_FieldsRight.f
  repeat' first
      | (with_reducible exact ih0 _ _)
      | (with_reducible exact ih1 _ _ _)
      | (with_reducible exact ih2 _ _ _)
      | (with_reducible exact spec_hasZero.mono _ _)
      | (with_reducible exact spec_place.mono _ _ _)
      | (with_reducible exact LeO.refl _)
      | (with_reducible exact LeO.none _)
      | (with_reducible refine LeO.ite ?_ ?_)
      | (with_reducible refine LeO.bind ?_ (fun _ => ?_))
      | exact ih0 _ _
      | exact ih1 _ _ _
      | exact ih2 _ _ _
      | exact spec_hasZero.mono _ _
      | exact spec_place.mono _ _ _
      | exact LeO.none _
      | refine LeO.ite ?_ ?_
      | refine LeO.bind ?_ (fun _ => ?_)
set_option maxHeartbeats 8000000 in
set_option maxRecDepth 100000 in
theorem spec_FieldsRight.calls (k : Nat) (A0 : Option Addr) (c0 : Nat) (l0 : List (S54)) (r : Bool) (w : World) (hr0 : Kd.C k54 w A0 l0.length l0) (hc0 : l0.length ≤ c0) (h : spec_FieldsRight.f k l0 = some r) :
    Calls Try.prog 23 #[.slice A0 l0.length c0] w fun e w' => e = .returned (.bool r) ∧ Drawn0 w w' := by
  have HR0 := Aside0.mk hr0
  have HC0 := Aside0.mk hc0
  clear hr0 hc0
  have H : (spec_FieldsRight.l0 k l0 0) = some r := h
  clear h
  have H' := Aside0.mk H
  clear H
  go_enter Try.func23, Try.ntmps23
  go_wp2
  repeat (go_quiet (fail); try go_wp2)
  go_loopg [3] k (fun kq v3 w' => ∃ (x3_1 : Int), v3 = .int .i64 x3_1 ∧ Aside0 (spec_FieldsRight.l0 kq l0 x3_1 = some r) ∧ Aside0 (kq ≤ k) ∧ Drawn0 w w')
  case atStart => exact ⟨(0), (by first | rfl | (simp; done) | (simp [*]; done)), H', ⟨Nat.le_refl _⟩, by repeat (first | exact Drawn0.refl _ | apply Drawn0.step)⟩
  case round =>
    clear H'
    obtain ⟨x3_1, rfl, HA, HK1, ⟨m1, rfl⟩⟩ := hrel
    cases gk with
    | zero => exact absurd HA.out (by simp [spec_FieldsRight.l0])
    | succ k1 =>
      have H := HA.out
      clear HA
      simp only [spec_FieldsRight.l0] at H
      by_cases c2 : x3_1 < (l0.length : Int)
      · rw [if_pos c2] at H
        have c2b0 : decide (x3_1 < (l0.length : Int)) = true := decide_eq_true c2
        clear c2
        have HC3 := Aside0.mk H
        clear H
        go_upto_region 4 with (fail)
        repeat (go_quiet (fail); go_upto_region 4 with (fail))
        go_cut [42] (fun v42 wc => ∃ (kq : Nat) (x42_2 : Bool), v42 = .bool x42_2 ∧ Aside0 (spec_FieldsRight.j1 kq l0 x3_1 x42_2 = some r) ∧ Aside0 (kq ≤ k1) ∧ Drawn0 w wc)
        case first =>
          have H := HC3.out
          clear HC3
          by_cases c4 : 0 ≤ x3_1
          · rw [if_pos c4] at H
            have c4b0 : decide (0 ≤ x3_1) = true := decide_eq_true c4
            clear c4
            (first | rw [c4b0] | (simp only [i64_w, i32_w]; rw [c4b0]) | skip)
            replace H := Option.bind_eq_some_iff.mp H
            obtain ⟨t214, A50, H⟩ := H
            replace H : (if t214 < 0 then (spec_FieldsRight.j1 k1 l0 x3_1 true) else (if ((rd_T54 l0 x3_1).f1).toList = ([] : List UInt8) then (spec_FieldsRight.j1 k1 l0 x3_1 true) else ((spec_hasZero.f k1 ((rd_T54 l0 x3_1).f1)).bind fun t217 => (if t217 = true then (spec_FieldsRight.j1 k1 l0 x3_1 true) else (spec_FieldsRight.j1 k1 l0 x3_1 (decide ((((rd_T54 l0 x3_1).f1).size : Int) > 200))))))) = some r := H
            have A5 := Aside0.mk A50
            clear A50
            by_cases c6 : t214 < 0
            · rw [if_pos c6] at H
              have c6b0 : decide (t214 < 0) = true := decide_eq_true c6
              clear c6
              have H' := Aside0.mk H
              clear H
              have p213 : 0 ≤ (x3_1 : Int) := of_decide_eq_true (by first | (with_reducible assumption) | assumption)
              have q213 : x3_1 < (l0.length : Int) := of_decide_eq_true (by first | (with_reducible assumption) | assumption)
              obtain ⟨ad213, e213, hx213_0, hx213_1⟩ := at_T54 HR0.out x3_1 p213 q213
              cases e213
              replace p213 := eq_true p213
              replace q213 := eq_true q213
              go_wp2_with (first | (go_at_call 51; (with_reducible refine (spec_place.calls k1 (⟨#[83, 67, 77, 68, 72, 80, 112, 113, 87, 115, 116, 99, 100, 110, 70, 76, 82]⟩ : ByteArray) ((rd_T54 l0 x3_1).f0) t214 _ A5.out).mono ?_); rintro e w' ⟨rfl, ⟨nd, rfl⟩⟩; (try first | exact ⟨rfl, _, World.drewN_drewN _ _ _⟩ | exact ⟨rfl, _, Eq.trans (World.drewN_drewN _ _ _) (congrArg (World.drewN _) (Nat.add_assoc _ _ _))⟩)))
              repeat (go_quiet (first | (go_at_call 51; (with_reducible refine (spec_place.calls k1 (⟨#[83, 67, 77, 68, 72, 80, 112, 113, 87, 115, 116, 99, 100, 110, 70, 76, 82]⟩ : ByteArray) ((rd_T54 l0 x3_1).f0) t214 _ A5.out).mono ?_); rintro e w' ⟨rfl, ⟨nd, rfl⟩⟩; (try first | exact ⟨rfl, _, World.drewN_drewN _ _ _⟩ | exact ⟨rfl, _, Eq.trans (World.drewN_drewN _ _ _) (congrArg (World.drewN _) (Nat.add_assoc _ _ _))⟩))); try go_wp2_with (first | (go_at_call 51; (with_reducible refine (spec_place.calls k1 (⟨#[83, 67, 77, 68, 72, 80, 112, 113, 87, 115, 116, 99, 100, 110, 70, 76, 82]⟩ : ByteArray) ((rd_T54 l0 x3_1).f0) t214 _ A5.out).mono ?_); rintro e w' ⟨rfl, ⟨nd, rfl⟩⟩; (try first | exact ⟨rfl, _, World.drewN_drewN _ _ _⟩ | exact ⟨rfl, _, Eq.trans (World.drewN_drewN _ _ _) (congrArg (World.drewN _) (Nat.add_assoc _ _ _))⟩))))
              go_meet
              case rel => exact ⟨_, (true), (by first | rfl | (simp; done) | (simp [*]; done)), H', ⟨by have := HK1.out; first | omega | exact Nat.le_refl _⟩, by repeat (first | exact Drawn0.refl _ | apply Drawn0.step)⟩
            · rw [if_neg c6] at H
              have c6b0 : decide (t214 < 0) = false := decide_eq_false c6
              clear c6
              by_cases c7 : ((rd_T54 l0 x3_1).f1).toList = ([] : List UInt8)
              · rw [if_pos c7] at H
                have c7b0 : (((rd_T54 l0 x3_1).f1).toList == ([] : List UInt8)) = true := beq_iff_eq.mpr c7
                have c7b1 : (((rd_T54 l0 x3_1).f1).toList != ([] : List UInt8)) = false := bne_eq_false_iff_eq.mpr c7
                clear c7
                have H' := Aside0.mk H
                clear H
                have p213 : 0 ≤ (x3_1 : Int) := of_decide_eq_true (by first | (with_reducible assumption) | assumption)
                have q213 : x3_1 < (l0.length : Int) := of_decide_eq_true (by first | (with_reducible assumption) | assumption)
                obtain ⟨ad213, e213, hx213_0, hx213_1⟩ := at_T54 HR0.out x3_1 p213 q213
                cases e213
                replace p213 := eq_true p213
                replace q213 := eq_true q213
                go_wp2_with (first | (go_at_call 51; (with_reducible refine (spec_place.calls k1 (⟨#[83, 67, 77, 68, 72, 80, 112, 113, 87, 115, 116, 99, 100, 110, 70, 76, 82]⟩ : ByteArray) ((rd_T54 l0 x3_1).f0) t214 _ A5.out).mono ?_); rintro e w' ⟨rfl, ⟨nd, rfl⟩⟩; (try first | exact ⟨rfl, _, World.drewN_drewN _ _ _⟩ | exact ⟨rfl, _, Eq.trans (World.drewN_drewN _ _ _) (congrArg (World.drewN _) (Nat.add_assoc _ _ _))⟩); have p215 : 0 ≤ (x3_1 : Int) := of_decide_eq_true (by first | (with_reducible assumption) | assumption); have q215 : x3_1 < (l0.length : Int) := of_decide_eq_true (by first | (with_reducible assumption) | assumption); obtain ⟨ad215, e215, hx215_0, hx215_1⟩ := at_T54 HR0.out x3_1 p215 q215; obtain rfl : ad213 = ad215 := (by injection e215); replace p215 := eq_true p215; replace q215 := eq_true q215))
                repeat (go_quiet (first | (go_at_call 51; (with_reducible refine (spec_place.calls k1 (⟨#[83, 67, 77, 68, 72, 80, 112, 113, 87, 115, 116, 99, 100, 110, 70, 76, 82]⟩ : ByteArray) ((rd_T54 l0 x3_1).f0) t214 _ A5.out).mono ?_); rintro e w' ⟨rfl, ⟨nd, rfl⟩⟩; (try first | exact ⟨rfl, _, World.drewN_drewN _ _ _⟩ | exact ⟨rfl, _, Eq.trans (World.drewN_drewN _ _ _) (congrArg (World.drewN _) (Nat.add_assoc _ _ _))⟩); have p215 : 0 ≤ (x3_1 : Int) := of_decide_eq_true (by first | (with_reducible assumption) | assumption); have q215 : x3_1 < (l0.length : Int) := of_decide_eq_true (by first | (with_reducible assumption) | assumption); obtain ⟨ad215, e215, hx215_0, hx215_1⟩ := at_T54 HR0.out x3_1 p215 q215; obtain rfl : ad213 = ad215 := (by injection e215); replace p215 := eq_true p215; replace q215 := eq_true q215)); try go_wp2_with (first | (go_at_call 51; (with_reducible refine (spec_place.calls k1 (⟨#[83, 67, 77, 68, 72, 80, 112, 113, 87, 115, 116, 99, 100, 110, 70, 76, 82]⟩ : ByteArray) ((rd_T54 l0 x3_1).f0) t214 _ A5.out).mono ?_); rintro e w' ⟨rfl, ⟨nd, rfl⟩⟩; (try first | exact ⟨rfl, _, World.drewN_drewN _ _ _⟩ | exact ⟨rfl, _, Eq.trans (World.drewN_drewN _ _ _) (congrArg (World.drewN _) (Nat.add_assoc _ _ _))⟩); have p215 : 0 ≤ (x3_1 : Int) := of_decide_eq_true (by first | (with_reducible assumption) | assumption); have q215 : x3_1 < (l0.length : Int) := of_decide_eq_true (by first | (with_reducible assumption) | assumption); obtain ⟨ad215, e215, hx215_0, hx215_1⟩ := at_T54 HR0.out x3_1 p215 q215; obtain rfl : ad213 = ad215 := (by injection e215); replace p215 := eq_true p215; replace q215 := eq_true q215)))
                go_meet
                case rel => exact ⟨_, (true), (by first | rfl | (simp; done) | (simp [*]; done)), H', ⟨by have := HK1.out; first | omega | exact Nat.le_refl _⟩, by repeat (first | exact Drawn0.refl _ | apply Drawn0.step)⟩
              · rw [if_neg c7] at H
                have c7b0 : (((rd_T54 l0 x3_1).f1).toList == ([] : List UInt8)) = false := beq_eq_false_iff_ne.mpr c7
                have c7b1 : (((rd_T54 l0 x3_1).f1).toList != ([] : List UInt8)) = true := bne_iff_ne.mpr c7
                replace H := Option.bind_eq_some_iff.mp H
                obtain ⟨t217, A80, H⟩ := H
                replace H : (if t217 = true then (spec_FieldsRight.j1 k1 l0 x3_1 true) else (spec_FieldsRight.j1 k1 l0 x3_1 (decide ((((rd_T54 l0 x3_1).f1).size : Int) > 200)))) = some r := H
                have A8 := Aside0.mk A80
                clear A80
                by_cases c9 : t217 = true
                · subst c9
                  have H1 : (spec_FieldsRight.j1 k1 l0 x3_1 true) = some r := by rw [if_pos rfl] at H; exact H
                  clear H
                  have H := H1
                  clear H1
                  have H' := Aside0.mk H
                  clear H
                  have p213 : 0 ≤ (x3_1 : Int) := of_decide_eq_true (by first | (with_reducible assumption) | assumption)
                  have q213 : x3_1 < (l0.length : Int) := of_decide_eq_true (by first | (with_reducible assumption) | assumption)
                  obtain ⟨ad213, e213, hx213_0, hx213_1⟩ := at_T54 HR0.out x3_1 p213 q213
                  cases e213
                  replace p213 := eq_true p213
                  replace q213 := eq_true q213
                  go_wp2_with (first | (go_at_call 51; (with_reducible refine (spec_place.calls k1 (⟨#[83, 67, 77, 68, 72, 80, 112, 113, 87, 115, 116, 99, 100, 110, 70, 76, 82]⟩ : ByteArray) ((rd_T54 l0 x3_1).f0) t214 _ A5.out).mono ?_); rintro e w' ⟨rfl, ⟨nd, rfl⟩⟩; (try first | exact ⟨rfl, _, World.drewN_drewN _ _ _⟩ | exact ⟨rfl, _, Eq.trans (World.drewN_drewN _ _ _) (congrArg (World.drewN _) (Nat.add_assoc _ _ _))⟩); have p215 : 0 ≤ (x3_1 : Int) := of_decide_eq_true (by first | (with_reducible assumption) | assumption); have q215 : x3_1 < (l0.length : Int) := of_decide_eq_true (by first | (with_reducible assumption) | assumption); obtain ⟨ad215, e215, hx215_0, hx215_1⟩ := at_T54 HR0.out x3_1 p215 q215; obtain rfl : ad213 = ad215 := (by injection e215); replace p215 := eq_true p215; replace q215 := eq_true q215; have p216 : 0 ≤ (x3_1 : Int) := of_decide_eq_true (by first | (with_reducible assumption) | assumption); have q216 : x3_1 < (l0.length : Int) := of_decide_eq_true (by first | (with_reducible assumption) | assumption); obtain ⟨ad216, e216, hx216_0, hx216_1⟩ := at_T54 HR0.out x3_1 p216 q216; obtain rfl : ad213 = ad216 := (by injection e216); replace p216 := eq_true p216; replace q216 := eq_true q216) | (go_at_call 44; (with_reducible refine (spec_hasZero.calls k1 ((rd_T54 l0 x3_1).f1) true _ A8.out).mono ?_); rintro e w' ⟨rfl, ⟨nd, rfl⟩⟩; (try first | exact ⟨rfl, _, World.drewN_drewN _ _ _⟩ | exact ⟨rfl, _, Eq.trans (World.drewN_drewN _ _ _) (congrArg (World.drewN _) (Nat.add_assoc _ _ _))⟩)))
                  repeat (go_quiet (first | (go_at_call 51; (with_reducible refine (spec_place.calls k1 (⟨#[83, 67, 77, 68, 72, 80, 112, 113, 87, 115, 116, 99, 100, 110, 70, 76, 82]⟩ : ByteArray) ((rd_T54 l0 x3_1).f0) t214 _ A5.out).mono ?_); rintro e w' ⟨rfl, ⟨nd, rfl⟩⟩; (try first | exact ⟨rfl, _, World.drewN_drewN _ _ _⟩ | exact ⟨rfl, _, Eq.trans (World.drewN_drewN _ _ _) (congrArg (World.drewN _) (Nat.add_assoc _ _ _))⟩); have p215 : 0 ≤ (x3_1 : Int) := of_decide_eq_true (by first | (with_reducible assumption) | assumption); have q215 : x3_1 < (l0.length : Int) := of_decide_eq_true (by first | (with_reducible assumption) | assumption); obtain ⟨ad215, e215, hx215_0, hx215_1⟩ := at_T54 HR0.out x3_1 p215 q215; obtain rfl : ad213 = ad215 := (by injection e215); replace p215 := eq_true p215; replace q215 := eq_true q215; have p216 : 0 ≤ (x3_1 : Int) := of_decide_eq_true (by first | (with_reducible assumption) | assumption); have q216 : x3_1 < (l0.length : Int) := of_decide_eq_true (by first | (with_reducible assumption) | assumption); obtain ⟨ad216, e216, hx216_0, hx216_1⟩ := at_T54 HR0.out x3_1 p216 q216; obtain rfl : ad213 = ad216 := (by injection e216); replace p216 := eq_true p216; replace q216 := eq_true q216) | (go_at_call 44; (with_reducible refine (spec_hasZero.calls k1 ((rd_T54 l0 x3_1).f1) true _ A8.out).mono ?_); rintro e w' ⟨rfl, ⟨nd, rfl⟩⟩; (try first | exact ⟨rfl, _, World.drewN_drewN _ _ _⟩ | exact ⟨rfl, _, Eq.trans (World.drewN_drewN _ _ _) (congrArg (World.drewN _) (Nat.add_assoc _ _ _))⟩))); try go_wp2_with (first | (go_at_call 51; (with_reducible refine (spec_place.calls k1 (⟨#[83, 67, 77, 68, 72, 80, 112, 113, 87, 115, 116, 99, 100, 110, 70, 76, 82]⟩ : ByteArray) ((rd_T54 l0 x3_1).f0) t214 _ A5.out).mono ?_); rintro e w' ⟨rfl, ⟨nd, rfl⟩⟩; (try first | exact ⟨rfl, _, World.drewN_drewN _ _ _⟩ | exact ⟨rfl, _, Eq.trans (World.drewN_drewN _ _ _) (congrArg (World.drewN _) (Nat.add_assoc _ _ _))⟩); have p215 : 0 ≤ (x3_1 : Int) := of_decide_eq_true (by first | (with_reducible assumption) | assumption); have q215 : x3_1 < (l0.length : Int) := of_decide_eq_true (by first | (with_reducible assumption) | assumption); obtain ⟨ad215, e215, hx215_0, hx215_1⟩ := at_T54 HR0.out x3_1 p215 q215; obtain rfl : ad213 = ad215 := (by injection e215); replace p215 := eq_true p215; replace q215 := eq_true q215; have p216 : 0 ≤ (x3_1 : Int) := of_decide_eq_true (by first | (with_reducible assumption) | assumption); have q216 : x3_1 < (l0.length : Int) := of_decide_eq_true (by first | (with_reducible assumption) | assumption); obtain ⟨ad216, e216, hx216_0, hx216_1⟩ := at_T54 HR0.out x3_1 p216 q216; obtain rfl : ad213 = ad216 := (by injection e216); replace p216 := eq_true p216; replace q216 := eq_true q216) | (go_at_call 44; (with_reducible refine (spec_hasZero.calls k1 ((rd_T54 l0 x3_1).f1) true _ A8.out).mono ?_); rintro e w' ⟨rfl, ⟨nd, rfl⟩⟩; (try first | exact ⟨rfl, _, World.drewN_drewN _ _ _⟩ | exact ⟨rfl, _, Eq.trans (World.drewN_drewN _ _ _) (congrArg (World.drewN _) (Nat.add_assoc _ _ _))⟩))))
                  go_meet
                  case rel => exact ⟨_, (true), (by first | rfl | (simp; done) | (simp [*]; done)), H', ⟨by have := HK1.out; first | omega | exact Nat.le_refl _⟩, by repeat (first | exact Drawn0.refl _ | apply Drawn0.step)⟩
                · replace c9 := Bool.eq_false_iff.mpr c9
                  subst c9
                  have H1 : (spec_FieldsRight.j1 k1 l0 x3_1 (decide ((((rd_T54 l0 x3_1).f1).size : Int) > 200))) = some r := by rw [if_neg (show ¬ (false = true) by decide)] at H; exact H
                  clear H
                  have H := H1
                  clear H1
                  have H' := Aside0.mk H
                  clear H
                  have p213 : 0 ≤ (x3_1 : Int) := of_decide_eq_true (by first | (with_reducible assumption) | assumption)
                  have q213 : x3_1 < (l0.length : Int) := of_decide_eq_true (by first | (with_reducible assumption) | assumption)
                  obtain ⟨ad213, e213, hx213_0, hx213_1⟩ := at_T54 HR0.out x3_1 p213 q213
                  cases e213
                  replace p213 := eq_true p213
                  replace q213 := eq_true q213
                  go_wp2_with (first | (go_at_call 51; (with_reducible refine (spec_place.calls k1 (⟨#[83, 67, 77, 68, 72, 80, 112, 113, 87, 115, 116, 99, 100, 110, 70, 76, 82]⟩ : ByteArray) ((rd_T54 l0 x3_1).f0) t214 _ A5.out).mono ?_); rintro e w' ⟨rfl, ⟨nd, rfl⟩⟩; (try first | exact ⟨rfl, _, World.drewN_drewN _ _ _⟩ | exact ⟨rfl, _, Eq.trans (World.drewN_drewN _ _ _) (congrArg (World.drewN _) (Nat.add_assoc _ _ _))⟩); have p215 : 0 ≤ (x3_1 : Int) := of_decide_eq_true (by first | (with_reducible assumption) | assumption); have q215 : x3_1 < (l0.length : Int) := of_decide_eq_true (by first | (with_reducible assumption) | assumption); obtain ⟨ad215, e215, hx215_0, hx215_1⟩ := at_T54 HR0.out x3_1 p215 q215; obtain rfl : ad213 = ad215 := (by injection e215); replace p215 := eq_true p215; replace q215 := eq_true q215; have p216 : 0 ≤ (x3_1 : Int) := of_decide_eq_true (by first | (with_reducible assumption) | assumption); have q216 : x3_1 < (l0.length : Int) := of_decide_eq_true (by first | (with_reducible assumption) | assumption); obtain ⟨ad216, e216, hx216_0, hx216_1⟩ := at_T54 HR0.out x3_1 p216 q216; obtain rfl : ad213 = ad216 := (by injection e216); replace p216 := eq_true p216; replace q216 := eq_true q216) | (go_at_call 44; (with_reducible refine (spec_hasZero.calls k1 ((rd_T54 l0 x3_1).f1) false _ A8.out).mono ?_); rintro e w' ⟨rfl, ⟨nd, rfl⟩⟩; (try first | exact ⟨rfl, _, World.drewN_drewN _ _ _⟩ | exact ⟨rfl, _, Eq.trans (World.drewN_drewN _ _ _) (congrArg (World.drewN _) (Nat.add_assoc _ _ _))⟩); have p218 : 0 ≤ (x3_1 : Int) := of_decide_eq_true (by first | (with_reducible assumption) | assumption); have q218 : x3_1 < (l0.length : Int) := of_decide_eq_true (by first | (with_reducible assumption) | assumption); obtain ⟨ad218, e218, hx218_0, hx218_1⟩ := at_T54 HR0.out x3_1 p218 q218; obtain rfl : ad213 = ad218 := (by injection e218); replace p218 := eq_true p218; replace q218 := eq_true q218))
                  repeat (go_quiet (first | (go_at_call 51; (with_reducible refine (spec_place.calls k1 (⟨#[83, 67, 77, 68, 72, 80, 112, 113, 87, 115, 116, 99, 100, 110, 70, 76, 82]⟩ : ByteArray) ((rd_T54 l0 x3_1).f0) t214 _ A5.out).mono ?_); rintro e w' ⟨rfl, ⟨nd, rfl⟩⟩; (try first | exact ⟨rfl, _, World.drewN_drewN _ _ _⟩ | exact ⟨rfl, _, Eq.trans (World.drewN_drewN _ _ _) (congrArg (World.drewN _) (Nat.add_assoc _ _ _))⟩); have p215 : 0 ≤ (x3_1 : Int) := of_decide_eq_true (by first | (with_reducible assumption) | assumption); have q215 : x3_1 < (l0.length : Int) := of_decide_eq_true (by first | (with_reducible assumption) | assumption); obtain ⟨ad215, e215, hx215_0, hx215_1⟩ := at_T54 HR0.out x3_1 p215 q215; obtain rfl : ad213 = ad215 := (by injection e215); replace p215 := eq_true p215; replace q215 := eq_true q215; have p216 : 0 ≤ (x3_1 : Int) := of_decide_eq_true (by first | (with_reducible assumption) | assumption); have q216 : x3_1 < (l0.length : Int) := of_decide_eq_true (by first | (with_reducible assumption) | assumption); obtain ⟨ad216, e216, hx216_0, hx216_1⟩ := at_T54 HR0.out x3_1 p216 q216; obtain rfl : ad213 = ad216 := (by injection e216); replace p216 := eq_true p216; replace q216 := eq_true q216) | (go_at_call 44; (with_reducible refine (spec_hasZero.calls k1 ((rd_T54 l0 x3_1).f1) false _ A8.out).mono ?_); rintro e w' ⟨rfl, ⟨nd, rfl⟩⟩; (try first | exact ⟨rfl, _, World.drewN_drewN _ _ _⟩ | exact ⟨rfl, _, Eq.trans (World.drewN_drewN _ _ _) (congrArg (World.drewN _) (Nat.add_assoc _ _ _))⟩); have p218 : 0 ≤ (x3_1 : Int) := of_decide_eq_true (by first | (with_reducible assumption) | assumption); have q218 : x3_1 < (l0.length : Int) := of_decide_eq_true (by first | (with_reducible assumption) | assumption); obtain ⟨ad218, e218, hx218_0, hx218_1⟩ := at_T54 HR0.out x3_1 p218 q218; obtain rfl : ad213 = ad218 := (by injection e218); replace p218 := eq_true p218; replace q218 := eq_true q218)); try go_wp2_with (first | (go_at_call 51; (with_reducible refine (spec_place.calls k1 (⟨#[83, 67, 77, 68, 72, 80, 112, 113, 87, 115, 116, 99, 100, 110, 70, 76, 82]⟩ : ByteArray) ((rd_T54 l0 x3_1).f0) t214 _ A5.out).mono ?_); rintro e w' ⟨rfl, ⟨nd, rfl⟩⟩; (try first | exact ⟨rfl, _, World.drewN_drewN _ _ _⟩ | exact ⟨rfl, _, Eq.trans (World.drewN_drewN _ _ _) (congrArg (World.drewN _) (Nat.add_assoc _ _ _))⟩); have p215 : 0 ≤ (x3_1 : Int) := of_decide_eq_true (by first | (with_reducible assumption) | assumption); have q215 : x3_1 < (l0.length : Int) := of_decide_eq_true (by first | (with_reducible assumption) | assumption); obtain ⟨ad215, e215, hx215_0, hx215_1⟩ := at_T54 HR0.out x3_1 p215 q215; obtain rfl : ad213 = ad215 := (by injection e215); replace p215 := eq_true p215; replace q215 := eq_true q215; have p216 : 0 ≤ (x3_1 : Int) := of_decide_eq_true (by first | (with_reducible assumption) | assumption); have q216 : x3_1 < (l0.length : Int) := of_decide_eq_true (by first | (with_reducible assumption) | assumption); obtain ⟨ad216, e216, hx216_0, hx216_1⟩ := at_T54 HR0.out x3_1 p216 q216; obtain rfl : ad213 = ad216 := (by injection e216); replace p216 := eq_true p216; replace q216 := eq_true q216) | (go_at_call 44; (with_reducible refine (spec_hasZero.calls k1 ((rd_T54 l0 x3_1).f1) false _ A8.out).mono ?_); rintro e w' ⟨rfl, ⟨nd, rfl⟩⟩; (try first | exact ⟨rfl, _, World.drewN_drewN _ _ _⟩ | exact ⟨rfl, _, Eq.trans (World.drewN_drewN _ _ _) (congrArg (World.drewN _) (Nat.add_assoc _ _ _))⟩); have p218 : 0 ≤ (x3_1 : Int) := of_decide_eq_true (by first | (with_reducible assumption) | assumption); have q218 : x3_1 < (l0.length : Int) := of_decide_eq_true (by first | (with_reducible assumption) | assumption); obtain ⟨ad218, e218, hx218_0, hx218_1⟩ := at_T54 HR0.out x3_1 p218 q218; obtain rfl : ad213 = ad218 := (by injection e218); replace p218 := eq_true p218; replace q218 := eq_true q218)))
                  go_meet
                  case rel => exact ⟨_, (decide ((((rd_T54 l0 x3_1).f1).size : Int) > 200)), (by first | rfl | (simp; done) | (simp [*]; done)), H', ⟨by have := HK1.out; first | omega | exact Nat.le_refl _⟩, by repeat (first | exact Drawn0.refl _ | apply Drawn0.step)⟩
          · rw [if_neg c4] at H
            exact absurd H (by simp)
        case rest =>
          clear HC3
          try clear c2
          try clear c2b0
          try clear p2
          try clear q2
          try clear hx2
          try clear c4
          try clear c4b0
          try clear c6
          try clear c6b0
          try clear c7
          try clear c7b0
          try clear c7b1
          try clear c9
          try clear hx213_0
          try clear hx213_1
          try clear hx215_0
          try clear hx215_1
          try clear hx216_0
          try clear hx216_1
          try clear hx218_0
          try clear hx218_1
          try clear p213
          try clear p215
          try clear p216
          try clear p218
          try clear q213
          try clear q215
          try clear q216
          try clear q218
          obtain ⟨kq, x42_2, rfl, HA, HJ2, ⟨mc2, rfl⟩⟩ := hcut
          cases kq with
          | zero => exact absurd HA.out (by simp [spec_FieldsRight.j1])
          | succ kj2 =>
            have H := HA.out
            clear HA
            simp only [spec_FieldsRight.j1] at H
            by_cases c10 : x42_2 = true
            · subst c10
              have H1 : (some false) = some r := by rw [if_pos rfl] at H; exact H
              clear H
              have H := H1
              clear H1
              obtain rfl := Option.some.inj H
              go_wp2
              repeat (go_quiet (fail); try go_wp2)
              go_ret
              exact ⟨by first | rfl | (simp; done) | (simp [*]; done), by repeat (first | exact Drawn0.refl _ | apply Drawn0.step)⟩
            · replace c10 := Bool.eq_false_iff.mpr c10
              subst c10
              have H1 : (spec_FieldsRight.l1 kj2 l0 x3_1 0) = some r := by rw [if_neg (show ¬ (false = true) by decide)] at H; exact H
              clear H
              have H := H1
              clear H1
              have H' := Aside0.mk H
              clear H
              go_wp2
              repeat (go_quiet (fail); try go_wp2)
              go_loopg [4] kj2 (fun kq v4 w' => ∃ (x4_3 : Int), v4 = .int .i64 x4_3 ∧ Aside0 (spec_FieldsRight.l1 kq l0 x3_1 x4_3 = some r) ∧ Aside0 (kq ≤ kj2) ∧ Drawn0 w w')
              case atStart => exact ⟨(0), (by first | rfl | (simp; done) | (simp [*]; done)), H', ⟨Nat.le_refl _⟩, by repeat (first | exact Drawn0.refl _ | apply Drawn0.step)⟩
              case round =>
                clear H'
                try clear c1
                try clear c2
                try clear c2b0
                try clear p2
                try clear q2
                try clear hx2
                try clear c4
                try clear c4b0
                try clear c6
                try clear c6b0
                try clear c7
                try clear c7b0
                try clear c7b1
                try clear c9
                try clear c10
                try clear hx213_0
                try clear hx213_1
                try clear hx215_0
                try clear hx215_1
                try clear hx216_0
                try clear hx216_1
                try clear hx218_0
                try clear hx218_1
                try clear p2
                try clear p213
                try clear p215
                try clear p216
                try clear p218
                try clear q2
                try clear q213
                try clear q215
                try clear q216
                try clear q218
                obtain ⟨x4_3, rfl, HA, HK3, ⟨m3, rfl⟩⟩ := hrel
                cases gk with
                | zero => exact absurd HA.out (by simp [spec_FieldsRight.l1])
                | succ k3 =>
                  have H := HA.out
                  clear HA
                  simp only [spec_FieldsRight.l1] at H
                  by_cases c11 : x4_3 < x3_1
                  · rw [if_pos c11] at H
                    have c11b0 : decide (x4_3 < x3_1) = true := decide_eq_true c11
                    clear c11
                    by_cases c12 : 0 ≤ x4_3
                    · rw [if_pos c12] at H
                      have c12b0 : decide (0 ≤ x4_3) = true := decide_eq_true c12
                      clear c12
                      by_cases c13 : x4_3 < (l0.length : Int)
                      · rw [if_pos c13] at H
                        have c13b0 : decide (x4_3 < (l0.length : Int)) = true := decide_eq_true c13
                        clear c13
                        by_cases c14 : 0 ≤ x3_1
                        · rw [if_pos c14] at H
                          have c14b0 : decide (0 ≤ x3_1) = true := decide_eq_true c14
                          clear c14
                          by_cases c15 : x3_1 < (l0.length : Int)
                          · rw [if_pos c15] at H
                            have c15b0 : decide (x3_1 < (l0.length : Int)) = true := decide_eq_true c15
                            clear c15
                            by_cases c16 : ((rd_T54 l0 x4_3).f0) = ((rd_T54 l0 x3_1).f0)
                            · rw [if_pos c16] at H
                              have c16b0 : (((rd_T54 l0 x4_3).f0) == ((rd_T54 l0 x3_1).f0)) = true := beq_iff_eq.mpr c16
                              have c16b1 : (((rd_T54 l0 x4_3).f0) != ((rd_T54 l0 x3_1).f0)) = false := bne_eq_false_iff_eq.mpr c16
                              clear c16
                              obtain rfl := Option.some.inj H
                              have p219 : 0 ≤ (x4_3 : Int) := of_decide_eq_true (by first | (with_reducible assumption) | assumption)
                              have q219 : x4_3 < (l0.length : Int) := of_decide_eq_true (by first | (with_reducible assumption) | assumption)
                              obtain ⟨ad219, e219, hx219_0, hx219_1⟩ := at_T54 HR0.out x4_3 p219 q219
                              cases e219
                              replace p219 := eq_true p219
                              replace q219 := eq_true q219
                              have p220 : 0 ≤ (x3_1 : Int) := of_decide_eq_true (by first | (with_reducible assumption) | assumption)
                              have q220 : x3_1 < (l0.length : Int) := of_decide_eq_true (by first | (with_reducible assumption) | assumption)
                              obtain ⟨ad220, e220, hx220_0, hx220_1⟩ := at_T54 HR0.out x3_1 p220 q220
                              obtain rfl : ad219 = ad220 := (by injection e220)
                              replace p220 := eq_true p220
                              replace q220 := eq_true q220
                              go_wp2
                              repeat (go_quiet (fail); try go_wp2)
                              go_ret
                              exact ⟨by first | rfl | (simp; done) | (simp [*]; done), by repeat (first | exact Drawn0.refl _ | apply Drawn0.step)⟩
                            · rw [if_neg c16] at H
                              have c16b0 : (((rd_T54 l0 x4_3).f0) == ((rd_T54 l0 x3_1).f0)) = false := beq_eq_false_iff_ne.mpr c16
                              have c16b1 : (((rd_T54 l0 x4_3).f0) != ((rd_T54 l0 x3_1).f0)) = true := bne_iff_ne.mpr c16
                              have H' := Aside0.mk H
                              clear H
                              have p219 : 0 ≤ (x4_3 : Int) := of_decide_eq_true (by first | (with_reducible assumption) | assumption)
                              have q219 : x4_3 < (l0.length : Int) := of_decide_eq_true (by first | (with_reducible assumption) | assumption)
                              obtain ⟨ad219, e219, hx219_0, hx219_1⟩ := at_T54 HR0.out x4_3 p219 q219
                              cases e219
                              replace p219 := eq_true p219
                              replace q219 := eq_true q219
                              have p220 : 0 ≤ (x3_1 : Int) := of_decide_eq_true (by first | (with_reducible assumption) | assumption)
                              have q220 : x3_1 < (l0.length : Int) := of_decide_eq_true (by first | (with_reducible assumption) | assumption)
                              obtain ⟨ad220, e220, hx220_0, hx220_1⟩ := at_T54 HR0.out x3_1 p220 q220
                              obtain rfl : ad219 = ad220 := (by injection e220)
                              replace p220 := eq_true p220
                              replace q220 := eq_true q220
                              go_wp2
                              repeat (go_quiet (fail); try go_wp2)
                              go_roundg k3
                              case measure => have := HK1.out; have := HJ2.out; have := HK3.out; omega
                              case rel => exact ⟨(wrap64 (x4_3 + 1)), (by first | rfl | (simp; done) | (simp [*]; done)), H', ⟨by have := HK1.out; have := HJ2.out; have := HK3.out; omega⟩, by repeat (first | exact Drawn0.refl _ | apply Drawn0.step)⟩
                          · rw [if_neg c15] at H
                            exact absurd H (by simp)
                        · rw [if_neg c14] at H
                          exact absurd H (by simp)
                      · rw [if_neg c13] at H
                        exact absurd H (by simp)
                    · rw [if_neg c12] at H
                      exact absurd H (by simp)
                  · rw [if_neg c11] at H
                    have c11b0 : decide (x4_3 < x3_1) = false := decide_eq_false c11
                    clear c11
                    have H' := Aside0.mk H
                    clear H
                    go_wp2
                    repeat (go_quiet (fail); try go_wp2)
                    go_roundg k3
                    case measure => have := HK1.out; have := HJ2.out; have := HK3.out; omega
                    case rel => exact ⟨(wrap64 (x3_1 + 1)), (by first | rfl | (simp; done) | (simp [*]; done)), H', ⟨by have := HK1.out; have := HJ2.out; have := HK3.out; omega⟩, by repeat (first | exact Drawn0.refl _ | apply Drawn0.step)⟩
      · rw [if_neg c2] at H
        have c2b0 : decide (x3_1 < (l0.length : Int)) = false := decide_eq_false c2
        clear c2
        obtain rfl := Option.some.inj H
        go_wp2
        repeat (go_quiet (fail); try go_wp2)
        go_ret
        exact ⟨by first | rfl | (simp; done) | (simp [*]; done), by repeat (first | exact Drawn0.refl _ | apply Drawn0.step)⟩

-- NOT PRINTED: function 71 (pq_parseError)

/-- A state of type 129 at block g of W; what its slices lead to came in by w0. -/
def IsS129 (w0 W : World) (g : Nat) (f0 : ByteArray) (f1 : ByteArray) (f2 : ByteArray) (f3 : ByteArray) (f4 : ByteArray) (f5 : ByteArray) (f6 : ByteArray) (f7 : ByteArray) (f8 : ByteArray) (f9 : ByteArray) (f10 : ByteArray) (f11 : ByteArray) (f12 : ByteArray) (f13 : ByteArray) (f14 : ByteArray) (f15 : ByteArray) (f16 : ByteArray) (f17 : ByteArray) : Prop := W.heap[g]? = some (.cells #[.string f0, .string f1, .string f2, .string f3, .string f4, .string f5, .string f6, .string f7, .string f8, .string f9, .string f10, .string f11, .string f12, .string f13, .string f14, .string f15, .string f16, .string f17] 129 (0, 0)) ∧ w0.heap.size ≤ g
theorem IsS129.grown {w0 W : World} {g : Nat} {f0 : ByteArray} {f1 : ByteArray} {f2 : ByteArray} {f3 : ByteArray} {f4 : ByteArray} {f5 : ByteArray} {f6 : ByteArray} {f7 : ByteArray} {f8 : ByteArray} {f9 : ByteArray} {f10 : ByteArray} {f11 : ByteArray} {f12 : ByteArray} {f13 : ByteArray} {f14 : ByteArray} {f15 : ByteArray} {f16 : ByteArray} {f17 : ByteArray} {W1 : World} {row : Option Nat} (h : IsS129 w0 W g f0 f1 f2 f3 f4 f5 f6 f7 f8 f9 f10 f11 f12 f13 f14 f15 f16 f17) (hw : W.grownBy W1 row) (hne : some g ≠ row) : IsS129 w0 W1 g f0 f1 f2 f3 f4 f5 f6 f7 f8 f9 f10 f11 f12 f13 f14 f15 f16 f17 := by
  obtain ⟨hb, hg⟩ := h
  exact ⟨blk_grown hb hw hne, hg⟩
theorem IsS129.own_neN {w0 W : World} {g : Nat} {f0 : ByteArray} {f1 : ByteArray} {f2 : ByteArray} {f3 : ByteArray} {f4 : ByteArray} {f5 : ByteArray} {f6 : ByteArray} {f7 : ByteArray} {f8 : ByteArray} {f9 : ByteArray} {f10 : ByteArray} {f11 : ByteArray} {f12 : ByteArray} {f13 : ByteArray} {f14 : ByteArray} {f15 : ByteArray} {f16 : ByteArray} {f17 : ByteArray} {α : Type} {d : Kd α} {e : Nat} {base : Nat} {ok : Nat → Prop} {v : Value} {xs : List α} (h : IsS129 w0 W g f0 f1 f2 f3 f4 f5 f6 f7 f8 f9 f10 f11 f12 f13 f14 f15 f16 f17) (ho : Kd.N d e W base ok v xs) (ht : e ≠ 129) : some g ≠ v.ownBlock := by
  obtain ⟨hb, hg⟩ := h
  exact Kd.N_ne ho hb ht
theorem IsS129.fresh {w0 W : World} {g : Nat} {f0 : ByteArray} {f1 : ByteArray} {f2 : ByteArray} {f3 : ByteArray} {f4 : ByteArray} {f5 : ByteArray} {f6 : ByteArray} {f7 : ByteArray} {f8 : ByteArray} {f9 : ByteArray} {f10 : ByteArray} {f11 : ByteArray} {f12 : ByteArray} {f13 : ByteArray} {f14 : ByteArray} {f15 : ByteArray} {f16 : ByteArray} {f17 : ByteArray} (h : IsS129 w0 W g f0 f1 f2 f3 f4 f5 f6 f7 f8 f9 f10 f11 f12 f13 f14 f15 f16 f17) : ∀ k, W.heap.size ≤ k → k ≠ g := by
  obtain ⟨hb, hg⟩ := h
  exact Kd.freshB hb
theorem IsS129.kept {w0 W : World} {g : Nat} {f0 : ByteArray} {f1 : ByteArray} {f2 : ByteArray} {f3 : ByteArray} {f4 : ByteArray} {f5 : ByteArray} {f6 : ByteArray} {f7 : ByteArray} {f8 : ByteArray} {f9 : ByteArray} {f10 : ByteArray} {f11 : ByteArray} {f12 : ByteArray} {f13 : ByteArray} {f14 : ByteArray} {f15 : ByteArray} {f16 : ByteArray} {f17 : ByteArray} {W1 : World} {S : Nat → Prop} (h : IsS129 w0 W g f0 f1 f2 f3 f4 f5 f6 f7 f8 f9 f10 f11 f12 f13 f14 f15 f16 f17) (hk : Kept W W1 S) (hne : ¬ S g) : IsS129 w0 W1 g f0 f1 f2 f3 f4 f5 f6 f7 f8 f9 f10 f11 f12 f13 f14 f15 f16 f17 := by
  obtain ⟨hb, hg⟩ := h
  exact ⟨blk_kept hb hk hne, hg⟩
theorem IsS129.below {w0 W : World} {g : Nat} {f0 : ByteArray} {f1 : ByteArray} {f2 : ByteArray} {f3 : ByteArray} {f4 : ByteArray} {f5 : ByteArray} {f6 : ByteArray} {f7 : ByteArray} {f8 : ByteArray} {f9 : ByteArray} {f10 : ByteArray} {f11 : ByteArray} {f12 : ByteArray} {f13 : ByteArray} {f14 : ByteArray} {f15 : ByteArray} {f16 : ByteArray} {f17 : ByteArray} {W1 : World} (h : IsS129 w0 W g f0 f1 f2 f3 f4 f5 f6 f7 f8 f9 f10 f11 f12 f13 f14 f15 f16 f17) (hw : Below W.heap.size W W1) : IsS129 w0 W1 g f0 f1 f2 f3 f4 f5 f6 f7 f8 f9 f10 f11 f12 f13 f14 f15 f16 f17 := h.grown (grown_of_below hw none) (by simp)
theorem IsS129.alloc {w0 W : World} {g : Nat} {f0 : ByteArray} {f1 : ByteArray} {f2 : ByteArray} {f3 : ByteArray} {f4 : ByteArray} {f5 : ByteArray} {f6 : ByteArray} {f7 : ByteArray} {f8 : ByteArray} {f9 : ByteArray} {f10 : ByteArray} {f11 : ByteArray} {f12 : ByteArray} {f13 : ByteArray} {f14 : ByteArray} {f15 : ByteArray} {f16 : ByteArray} {f17 : ByteArray} (h : IsS129 w0 W g f0 f1 f2 f3 f4 f5 f6 f7 f8 f9 f10 f11 f12 f13 f14 f15 f16 f17) (o : Obj) : IsS129 w0 (W.alloc o) g f0 f1 f2 f3 f4 f5 f6 f7 f8 f9 f10 f11 f12 f13 f14 f15 f16 f17 := h.below (below_alloc (Below.refl _ _) o)
theorem IsS129.drewN {w0 W : World} {g : Nat} {f0 : ByteArray} {f1 : ByteArray} {f2 : ByteArray} {f3 : ByteArray} {f4 : ByteArray} {f5 : ByteArray} {f6 : ByteArray} {f7 : ByteArray} {f8 : ByteArray} {f9 : ByteArray} {f10 : ByteArray} {f11 : ByteArray} {f12 : ByteArray} {f13 : ByteArray} {f14 : ByteArray} {f15 : ByteArray} {f16 : ByteArray} {f17 : ByteArray} (h : IsS129 w0 W g f0 f1 f2 f3 f4 f5 f6 f7 f8 f9 f10 f11 f12 f13 f14 f15 f16 f17) (m : Nat) : IsS129 w0 (W.drewN m) g f0 f1 f2 f3 f4 f5 f6 f7 f8 f9 f10 f11 f12 f13 f14 f15 f16 f17 := h
theorem IsS129.drew {w0 W : World} {g : Nat} {f0 : ByteArray} {f1 : ByteArray} {f2 : ByteArray} {f3 : ByteArray} {f4 : ByteArray} {f5 : ByteArray} {f6 : ByteArray} {f7 : ByteArray} {f8 : ByteArray} {f9 : ByteArray} {f10 : ByteArray} {f11 : ByteArray} {f12 : ByteArray} {f13 : ByteArray} {f14 : ByteArray} {f15 : ByteArray} {f16 : ByteArray} {f17 : ByteArray} (h : IsS129 w0 W g f0 f1 f2 f3 f4 f5 f6 f7 f8 f9 f10 f11 f12 f13 f14 f15 f16 f17) : IsS129 w0 W.drew g f0 f1 f2 f3 f4 f5 f6 f7 f8 f9 f10 f11 f12 f13 f14 f15 f16 f17 := h
theorem IsS129.at_ {w0 W : World} {g : Nat} {f0 : ByteArray} {f1 : ByteArray} {f2 : ByteArray} {f3 : ByteArray} {f4 : ByteArray} {f5 : ByteArray} {f6 : ByteArray} {f7 : ByteArray} {f8 : ByteArray} {f9 : ByteArray} {f10 : ByteArray} {f11 : ByteArray} {f12 : ByteArray} {f13 : ByteArray} {f14 : ByteArray} {f15 : ByteArray} {f16 : ByteArray} {f17 : ByteArray} {w' : World} {m : Nat} (hq : W.drewN m = w') (h : IsS129 w0 W g f0 f1 f2 f3 f4 f5 f6 f7 f8 f9 f10 f11 f12 f13 f14 f15 f16 f17) : IsS129 w0 w' g f0 f1 f2 f3 f4 f5 f6 f7 f8 f9 f10 f11 f12 f13 f14 f15 f16 f17 := by subst hq; exact IsS129.drewN h m
theorem IsS129.apart {w0 W : World} {g : Nat} {f0 : ByteArray} {f1 : ByteArray} {f2 : ByteArray} {f3 : ByteArray} {f4 : ByteArray} {f5 : ByteArray} {f6 : ByteArray} {f7 : ByteArray} {f8 : ByteArray} {f9 : ByteArray} {f10 : ByteArray} {f11 : ByteArray} {f12 : ByteArray} {f13 : ByteArray} {f14 : ByteArray} {f15 : ByteArray} {f16 : ByteArray} {f17 : ByteArray} {α : Type} {d : Kd α} {e : Nat} {base : Nat} {ok : Nat → Prop} {v : Value} {xs : List α} (h : IsS129 w0 W g f0 f1 f2 f3 f4 f5 f6 f7 f8 f9 f10 f11 f12 f13 f14 f15 f16 f17) (ho : d.R e W base ok v xs) (ht : ∀ q, q ∈ e :: d.E → q ≠ 129) : d.R e W base (fun k => ok k ∧ k ≠ g) v xs := by
  obtain ⟨hb, hg⟩ := h
  exact Kd.R_types ho hb ht
theorem IsS129.own_ne {w0 W : World} {g : Nat} {f0 : ByteArray} {f1 : ByteArray} {f2 : ByteArray} {f3 : ByteArray} {f4 : ByteArray} {f5 : ByteArray} {f6 : ByteArray} {f7 : ByteArray} {f8 : ByteArray} {f9 : ByteArray} {f10 : ByteArray} {f11 : ByteArray} {f12 : ByteArray} {f13 : ByteArray} {f14 : ByteArray} {f15 : ByteArray} {f16 : ByteArray} {f17 : ByteArray} {α : Type} {d : Kd α} {e : Nat} {base : Nat} {ok : Nat → Prop} {v : Value} {xs : List α} (h : IsS129 w0 W g f0 f1 f2 f3 f4 f5 f6 f7 f8 f9 f10 f11 f12 f13 f14 f15 f16 f17) (ho : d.R e W base ok v xs) (ht : e ≠ 129) : some g ≠ v.ownBlock := by
  obtain ⟨hb, hg⟩ := h
  exact Kd.R_ne ho hb ht
theorem IsS129.apartQ {w0 W : World} {g : Nat} {f0 : ByteArray} {f1 : ByteArray} {f2 : ByteArray} {f3 : ByteArray} {f4 : ByteArray} {f5 : ByteArray} {f6 : ByteArray} {f7 : ByteArray} {f8 : ByteArray} {f9 : ByteArray} {f10 : ByteArray} {f11 : ByteArray} {f12 : ByteArray} {f13 : ByteArray} {f14 : ByteArray} {f15 : ByteArray} {f16 : ByteArray} {f17 : ByteArray} {α : Type} {d : Kd α} {e : Nat} {base : Nat} {ok : Nat → Prop} {v : Value} {xs : List α} (h : IsS129 w0 W g f0 f1 f2 f3 f4 f5 f6 f7 f8 f9 f10 f11 f12 f13 f14 f15 f16 f17) (ho : d.Q e W base ok v xs) (ht : ∀ q, q ∈ e :: d.E → q ≠ 129) : d.Q e W base (fun k => ok k ∧ k ≠ g) v xs := by
  obtain ⟨hb, hg⟩ := h
  exact Kd.Q_types ho hb ht
theorem IsS129.own_neQ {w0 W : World} {g : Nat} {f0 : ByteArray} {f1 : ByteArray} {f2 : ByteArray} {f3 : ByteArray} {f4 : ByteArray} {f5 : ByteArray} {f6 : ByteArray} {f7 : ByteArray} {f8 : ByteArray} {f9 : ByteArray} {f10 : ByteArray} {f11 : ByteArray} {f12 : ByteArray} {f13 : ByteArray} {f14 : ByteArray} {f15 : ByteArray} {f16 : ByteArray} {f17 : ByteArray} {α : Type} {d : Kd α} {e : Nat} {base : Nat} {ok : Nat → Prop} {v : Value} {xs : List α} (h : IsS129 w0 W g f0 f1 f2 f3 f4 f5 f6 f7 f8 f9 f10 f11 f12 f13 f14 f15 f16 f17) (ho : d.Q e W base ok v xs) (ht : e ≠ 129) : some g ≠ v.ownBlock := by
  obtain ⟨hb, hg⟩ := h
  exact Kd.Q_ne ho hb ht
theorem IsS129.apartS {w0 W : World} {g : Nat} {f0 : ByteArray} {f1 : ByteArray} {f2 : ByteArray} {f3 : ByteArray} {f4 : ByteArray} {f5 : ByteArray} {f6 : ByteArray} {f7 : ByteArray} {f8 : ByteArray} {f9 : ByteArray} {f10 : ByteArray} {f11 : ByteArray} {f12 : ByteArray} {f13 : ByteArray} {f14 : ByteArray} {f15 : ByteArray} {f16 : ByteArray} {f17 : ByteArray} {α : Type} {d : Kd α} {e : Nat} {base : Nat} {ok : Nat → Prop} {v : Value} {xs : List α} (h : IsS129 w0 W g f0 f1 f2 f3 f4 f5 f6 f7 f8 f9 f10 f11 f12 f13 f14 f15 f16 f17) (ho : d.S e W base ok v xs) (ht : ∀ q, q ∈ e :: d.E → q ≠ 129) : d.S e W base (fun k => ok k ∧ k ≠ g) v xs := by
  obtain ⟨hb, hg⟩ := h
  exact Kd.S_types ho hb ht
theorem IsS129.own_neS {w0 W : World} {g : Nat} {f0 : ByteArray} {f1 : ByteArray} {f2 : ByteArray} {f3 : ByteArray} {f4 : ByteArray} {f5 : ByteArray} {f6 : ByteArray} {f7 : ByteArray} {f8 : ByteArray} {f9 : ByteArray} {f10 : ByteArray} {f11 : ByteArray} {f12 : ByteArray} {f13 : ByteArray} {f14 : ByteArray} {f15 : ByteArray} {f16 : ByteArray} {f17 : ByteArray} {α : Type} {d : Kd α} {e : Nat} {base : Nat} {ok : Nat → Prop} {v : Value} {xs : List α} (h : IsS129 w0 W g f0 f1 f2 f3 f4 f5 f6 f7 f8 f9 f10 f11 f12 f13 f14 f15 f16 f17) (ho : d.S e W base ok v xs) (ht : e ≠ 129) : some g ≠ v.ownBlock := by
  obtain ⟨hb, hg⟩ := h
  exact Kd.S_ne ho hb ht
theorem IsS129.lt {w0 W : World} {g : Nat} {f0 : ByteArray} {f1 : ByteArray} {f2 : ByteArray} {f3 : ByteArray} {f4 : ByteArray} {f5 : ByteArray} {f6 : ByteArray} {f7 : ByteArray} {f8 : ByteArray} {f9 : ByteArray} {f10 : ByteArray} {f11 : ByteArray} {f12 : ByteArray} {f13 : ByteArray} {f14 : ByteArray} {f15 : ByteArray} {f16 : ByteArray} {f17 : ByteArray} (h : IsS129 w0 W g f0 f1 f2 f3 f4 f5 f6 f7 f8 f9 f10 f11 f12 f13 f14 f15 f16 f17) : g < W.heap.size := by
  obtain ⟨hb, hg⟩ := h
  exact blk_lt hb
theorem IsS129.ge {w0 W : World} {g : Nat} {f0 : ByteArray} {f1 : ByteArray} {f2 : ByteArray} {f3 : ByteArray} {f4 : ByteArray} {f5 : ByteArray} {f6 : ByteArray} {f7 : ByteArray} {f8 : ByteArray} {f9 : ByteArray} {f10 : ByteArray} {f11 : ByteArray} {f12 : ByteArray} {f13 : ByteArray} {f14 : ByteArray} {f15 : ByteArray} {f16 : ByteArray} {f17 : ByteArray} (h : IsS129 w0 W g f0 f1 f2 f3 f4 f5 f6 f7 f8 f9 f10 f11 f12 f13 f14 f15 f16 f17) : w0.heap.size ≤ g := by
  obtain ⟨hb, hg⟩ := h
  exact hg
theorem IsS129.ne_blk {w0 W : World} {g : Nat} {f0 : ByteArray} {f1 : ByteArray} {f2 : ByteArray} {f3 : ByteArray} {f4 : ByteArray} {f5 : ByteArray} {f6 : ByteArray} {f7 : ByteArray} {f8 : ByteArray} {f9 : ByteArray} {f10 : ByteArray} {f11 : ByteArray} {f12 : ByteArray} {f13 : ByteArray} {f14 : ByteArray} {f15 : ByteArray} {f16 : ByteArray} {f17 : ByteArray} {a : Nat} {cs : Array Value} {t : TypeId} {fr : Nat × Nat} (h : IsS129 w0 W g f0 f1 f2 f3 f4 f5 f6 f7 f8 f9 f10 f11 f12 f13 f14 f15 f16 f17) (hb2 : W.heap[a]? = some (.cells cs t fr)) (ht : t ≠ 129) : g ≠ a := by
  obtain ⟨hb, hg⟩ := h
  rintro rfl
  rw [hb] at hb2
  injection hb2 with hb2
  injection hb2 with _ ht2
  exact ht ht2.symm
theorem IsS129.far {w0 W : World} {g : Nat} {f0 : ByteArray} {f1 : ByteArray} {f2 : ByteArray} {f3 : ByteArray} {f4 : ByteArray} {f5 : ByteArray} {f6 : ByteArray} {f7 : ByteArray} {f8 : ByteArray} {f9 : ByteArray} {f10 : ByteArray} {f11 : ByteArray} {f12 : ByteArray} {f13 : ByteArray} {f14 : ByteArray} {f15 : ByteArray} {f16 : ByteArray} {f17 : ByteArray} {p : Addr} (h : IsS129 w0 W g f0 f1 f2 f3 f4 f5 f6 f7 f8 f9 f10 f11 f12 f13 f14 f15 f16 f17) (hne : g ≠ p.block) (u : Value) : IsS129 w0 (W.setCell p u) g f0 f1 f2 f3 f4 f5 f6 f7 f8 f9 f10 f11 f12 f13 f14 f15 f16 f17 := by
  obtain ⟨hb, hg⟩ := h
  exact ⟨blk_far hb hne u, hg⟩
theorem cellS129_0 {W : World} {g : Nat} {f0 : ByteArray} {f1 : ByteArray} {f2 : ByteArray} {f3 : ByteArray} {f4 : ByteArray} {f5 : ByteArray} {f6 : ByteArray} {f7 : ByteArray} {f8 : ByteArray} {f9 : ByteArray} {f10 : ByteArray} {f11 : ByteArray} {f12 : ByteArray} {f13 : ByteArray} {f14 : ByteArray} {f15 : ByteArray} {f16 : ByteArray} {f17 : ByteArray} (h : W.heap[g]? = some (.cells #[.string f0, .string f1, .string f2, .string f3, .string f4, .string f5, .string f6, .string f7, .string f8, .string f9, .string f10, .string f11, .string f12, .string f13, .string f14, .string f15, .string f16, .string f17] 129 (0, 0))) : W.cell? ⟨g, 0, none⟩ = some (.string f0) := (blk_cell h 0).trans rfl
theorem IsS129.set_0 {w0 W : World} {g : Nat} {f0 : ByteArray} {f1 : ByteArray} {f2 : ByteArray} {f3 : ByteArray} {f4 : ByteArray} {f5 : ByteArray} {f6 : ByteArray} {f7 : ByteArray} {f8 : ByteArray} {f9 : ByteArray} {f10 : ByteArray} {f11 : ByteArray} {f12 : ByteArray} {f13 : ByteArray} {f14 : ByteArray} {f15 : ByteArray} {f16 : ByteArray} {f17 : ByteArray} (h : IsS129 w0 W g f0 f1 f2 f3 f4 f5 f6 f7 f8 f9 f10 f11 f12 f13 f14 f15 f16 f17) (x : ByteArray) : IsS129 w0 (W.setCell ⟨g, 0, none⟩ (.string x)) g x f1 f2 f3 f4 f5 f6 f7 f8 f9 f10 f11 f12 f13 f14 f15 f16 f17 := by
  obtain ⟨hb, hg⟩ := h
  exact ⟨by simpa using blk_set hb 0 (.string x), hg⟩
theorem cellS129_1 {W : World} {g : Nat} {f0 : ByteArray} {f1 : ByteArray} {f2 : ByteArray} {f3 : ByteArray} {f4 : ByteArray} {f5 : ByteArray} {f6 : ByteArray} {f7 : ByteArray} {f8 : ByteArray} {f9 : ByteArray} {f10 : ByteArray} {f11 : ByteArray} {f12 : ByteArray} {f13 : ByteArray} {f14 : ByteArray} {f15 : ByteArray} {f16 : ByteArray} {f17 : ByteArray} (h : W.heap[g]? = some (.cells #[.string f0, .string f1, .string f2, .string f3, .string f4, .string f5, .string f6, .string f7, .string f8, .string f9, .string f10, .string f11, .string f12, .string f13, .string f14, .string f15, .string f16, .string f17] 129 (0, 0))) : W.cell? ⟨g, 1, none⟩ = some (.string f1) := (blk_cell h 1).trans rfl
theorem IsS129.set_1 {w0 W : World} {g : Nat} {f0 : ByteArray} {f1 : ByteArray} {f2 : ByteArray} {f3 : ByteArray} {f4 : ByteArray} {f5 : ByteArray} {f6 : ByteArray} {f7 : ByteArray} {f8 : ByteArray} {f9 : ByteArray} {f10 : ByteArray} {f11 : ByteArray} {f12 : ByteArray} {f13 : ByteArray} {f14 : ByteArray} {f15 : ByteArray} {f16 : ByteArray} {f17 : ByteArray} (h : IsS129 w0 W g f0 f1 f2 f3 f4 f5 f6 f7 f8 f9 f10 f11 f12 f13 f14 f15 f16 f17) (x : ByteArray) : IsS129 w0 (W.setCell ⟨g, 1, none⟩ (.string x)) g f0 x f2 f3 f4 f5 f6 f7 f8 f9 f10 f11 f12 f13 f14 f15 f16 f17 := by
  obtain ⟨hb, hg⟩ := h
  exact ⟨by simpa using blk_set hb 1 (.string x), hg⟩
theorem cellS129_2 {W : World} {g : Nat} {f0 : ByteArray} {f1 : ByteArray} {f2 : ByteArray} {f3 : ByteArray} {f4 : ByteArray} {f5 : ByteArray} {f6 : ByteArray} {f7 : ByteArray} {f8 : ByteArray} {f9 : ByteArray} {f10 : ByteArray} {f11 : ByteArray} {f12 : ByteArray} {f13 : ByteArray} {f14 : ByteArray} {f15 : ByteArray} {f16 : ByteArray} {f17 : ByteArray} (h : W.heap[g]? = some (.cells #[.string f0, .string f1, .string f2, .string f3, .string f4, .string f5, .string f6, .string f7, .string f8, .string f9, .string f10, .string f11, .string f12, .string f13, .string f14, .string f15, .string f16, .string f17] 129 (0, 0))) : W.cell? ⟨g, 2, none⟩ = some (.string f2) := (blk_cell h 2).trans rfl
theorem IsS129.set_2 {w0 W : World} {g : Nat} {f0 : ByteArray} {f1 : ByteArray} {f2 : ByteArray} {f3 : ByteArray} {f4 : ByteArray} {f5 : ByteArray} {f6 : ByteArray} {f7 : ByteArray} {f8 : ByteArray} {f9 : ByteArray} {f10 : ByteArray} {f11 : ByteArray} {f12 : ByteArray} {f13 : ByteArray} {f14 : ByteArray} {f15 : ByteArray} {f16 : ByteArray} {f17 : ByteArray} (h : IsS129 w0 W g f0 f1 f2 f3 f4 f5 f6 f7 f8 f9 f10 f11 f12 f13 f14 f15 f16 f17) (x : ByteArray) : IsS129 w0 (W.setCell ⟨g, 2, none⟩ (.string x)) g f0 f1 x f3 f4 f5 f6 f7 f8 f9 f10 f11 f12 f13 f14 f15 f16 f17 := by
  obtain ⟨hb, hg⟩ := h
  exact ⟨by simpa using blk_set hb 2 (.string x), hg⟩
theorem cellS129_3 {W : World} {g : Nat} {f0 : ByteArray} {f1 : ByteArray} {f2 : ByteArray} {f3 : ByteArray} {f4 : ByteArray} {f5 : ByteArray} {f6 : ByteArray} {f7 : ByteArray} {f8 : ByteArray} {f9 : ByteArray} {f10 : ByteArray} {f11 : ByteArray} {f12 : ByteArray} {f13 : ByteArray} {f14 : ByteArray} {f15 : ByteArray} {f16 : ByteArray} {f17 : ByteArray} (h : W.heap[g]? = some (.cells #[.string f0, .string f1, .string f2, .string f3, .string f4, .string f5, .string f6, .string f7, .string f8, .string f9, .string f10, .string f11, .string f12, .string f13, .string f14, .string f15, .string f16, .string f17] 129 (0, 0))) : W.cell? ⟨g, 3, none⟩ = some (.string f3) := (blk_cell h 3).trans rfl
theorem IsS129.set_3 {w0 W : World} {g : Nat} {f0 : ByteArray} {f1 : ByteArray} {f2 : ByteArray} {f3 : ByteArray} {f4 : ByteArray} {f5 : ByteArray} {f6 : ByteArray} {f7 : ByteArray} {f8 : ByteArray} {f9 : ByteArray} {f10 : ByteArray} {f11 : ByteArray} {f12 : ByteArray} {f13 : ByteArray} {f14 : ByteArray} {f15 : ByteArray} {f16 : ByteArray} {f17 : ByteArray} (h : IsS129 w0 W g f0 f1 f2 f3 f4 f5 f6 f7 f8 f9 f10 f11 f12 f13 f14 f15 f16 f17) (x : ByteArray) : IsS129 w0 (W.setCell ⟨g, 3, none⟩ (.string x)) g f0 f1 f2 x f4 f5 f6 f7 f8 f9 f10 f11 f12 f13 f14 f15 f16 f17 := by
  obtain ⟨hb, hg⟩ := h
  exact ⟨by simpa using blk_set hb 3 (.string x), hg⟩
theorem cellS129_4 {W : World} {g : Nat} {f0 : ByteArray} {f1 : ByteArray} {f2 : ByteArray} {f3 : ByteArray} {f4 : ByteArray} {f5 : ByteArray} {f6 : ByteArray} {f7 : ByteArray} {f8 : ByteArray} {f9 : ByteArray} {f10 : ByteArray} {f11 : ByteArray} {f12 : ByteArray} {f13 : ByteArray} {f14 : ByteArray} {f15 : ByteArray} {f16 : ByteArray} {f17 : ByteArray} (h : W.heap[g]? = some (.cells #[.string f0, .string f1, .string f2, .string f3, .string f4, .string f5, .string f6, .string f7, .string f8, .string f9, .string f10, .string f11, .string f12, .string f13, .string f14, .string f15, .string f16, .string f17] 129 (0, 0))) : W.cell? ⟨g, 4, none⟩ = some (.string f4) := (blk_cell h 4).trans rfl
theorem IsS129.set_4 {w0 W : World} {g : Nat} {f0 : ByteArray} {f1 : ByteArray} {f2 : ByteArray} {f3 : ByteArray} {f4 : ByteArray} {f5 : ByteArray} {f6 : ByteArray} {f7 : ByteArray} {f8 : ByteArray} {f9 : ByteArray} {f10 : ByteArray} {f11 : ByteArray} {f12 : ByteArray} {f13 : ByteArray} {f14 : ByteArray} {f15 : ByteArray} {f16 : ByteArray} {f17 : ByteArray} (h : IsS129 w0 W g f0 f1 f2 f3 f4 f5 f6 f7 f8 f9 f10 f11 f12 f13 f14 f15 f16 f17) (x : ByteArray) : IsS129 w0 (W.setCell ⟨g, 4, none⟩ (.string x)) g f0 f1 f2 f3 x f5 f6 f7 f8 f9 f10 f11 f12 f13 f14 f15 f16 f17 := by
  obtain ⟨hb, hg⟩ := h
  exact ⟨by simpa using blk_set hb 4 (.string x), hg⟩
theorem cellS129_5 {W : World} {g : Nat} {f0 : ByteArray} {f1 : ByteArray} {f2 : ByteArray} {f3 : ByteArray} {f4 : ByteArray} {f5 : ByteArray} {f6 : ByteArray} {f7 : ByteArray} {f8 : ByteArray} {f9 : ByteArray} {f10 : ByteArray} {f11 : ByteArray} {f12 : ByteArray} {f13 : ByteArray} {f14 : ByteArray} {f15 : ByteArray} {f16 : ByteArray} {f17 : ByteArray} (h : W.heap[g]? = some (.cells #[.string f0, .string f1, .string f2, .string f3, .string f4, .string f5, .string f6, .string f7, .string f8, .string f9, .string f10, .string f11, .string f12, .string f13, .string f14, .string f15, .string f16, .string f17] 129 (0, 0))) : W.cell? ⟨g, 5, none⟩ = some (.string f5) := (blk_cell h 5).trans rfl
theorem IsS129.set_5 {w0 W : World} {g : Nat} {f0 : ByteArray} {f1 : ByteArray} {f2 : ByteArray} {f3 : ByteArray} {f4 : ByteArray} {f5 : ByteArray} {f6 : ByteArray} {f7 : ByteArray} {f8 : ByteArray} {f9 : ByteArray} {f10 : ByteArray} {f11 : ByteArray} {f12 : ByteArray} {f13 : ByteArray} {f14 : ByteArray} {f15 : ByteArray} {f16 : ByteArray} {f17 : ByteArray} (h : IsS129 w0 W g f0 f1 f2 f3 f4 f5 f6 f7 f8 f9 f10 f11 f12 f13 f14 f15 f16 f17) (x : ByteArray) : IsS129 w0 (W.setCell ⟨g, 5, none⟩ (.string x)) g f0 f1 f2 f3 f4 x f6 f7 f8 f9 f10 f11 f12 f13 f14 f15 f16 f17 := by
  obtain ⟨hb, hg⟩ := h
  exact ⟨by simpa using blk_set hb 5 (.string x), hg⟩
theorem cellS129_6 {W : World} {g : Nat} {f0 : ByteArray} {f1 : ByteArray} {f2 : ByteArray} {f3 : ByteArray} {f4 : ByteArray} {f5 : ByteArray} {f6 : ByteArray} {f7 : ByteArray} {f8 : ByteArray} {f9 : ByteArray} {f10 : ByteArray} {f11 : ByteArray} {f12 : ByteArray} {f13 : ByteArray} {f14 : ByteArray} {f15 : ByteArray} {f16 : ByteArray} {f17 : ByteArray} (h : W.heap[g]? = some (.cells #[.string f0, .string f1, .string f2, .string f3, .string f4, .string f5, .string f6, .string f7, .string f8, .string f9, .string f10, .string f11, .string f12, .string f13, .string f14, .string f15, .string f16, .string f17] 129 (0, 0))) : W.cell? ⟨g, 6, none⟩ = some (.string f6) := (blk_cell h 6).trans rfl
theorem IsS129.set_6 {w0 W : World} {g : Nat} {f0 : ByteArray} {f1 : ByteArray} {f2 : ByteArray} {f3 : ByteArray} {f4 : ByteArray} {f5 : ByteArray} {f6 : ByteArray} {f7 : ByteArray} {f8 : ByteArray} {f9 : ByteArray} {f10 : ByteArray} {f11 : ByteArray} {f12 : ByteArray} {f13 : ByteArray} {f14 : ByteArray} {f15 : ByteArray} {f16 : ByteArray} {f17 : ByteArray} (h : IsS129 w0 W g f0 f1 f2 f3 f4 f5 f6 f7 f8 f9 f10 f11 f12 f13 f14 f15 f16 f17) (x : ByteArray) : IsS129 w0 (W.setCell ⟨g, 6, none⟩ (.string x)) g f0 f1 f2 f3 f4 f5 x f7 f8 f9 f10 f11 f12 f13 f14 f15 f16 f17 := by
  obtain ⟨hb, hg⟩ := h
  exact ⟨by simpa using blk_set hb 6 (.string x), hg⟩
theorem cellS129_7 {W : World} {g : Nat} {f0 : ByteArray} {f1 : ByteArray} {f2 : ByteArray} {f3 : ByteArray} {f4 : ByteArray} {f5 : ByteArray} {f6 : ByteArray} {f7 : ByteArray} {f8 : ByteArray} {f9 : ByteArray} {f10 : ByteArray} {f11 : ByteArray} {f12 : ByteArray} {f13 : ByteArray} {f14 : ByteArray} {f15 : ByteArray} {f16 : ByteArray} {f17 : ByteArray} (h : W.heap[g]? = some (.cells #[.string f0, .string f1, .string f2, .string f3, .string f4, .string f5, .string f6, .string f7, .string f8, .string f9, .string f10, .string f11, .string f12, .string f13, .string f14, .string f15, .string f16, .string f17] 129 (0, 0))) : W.cell? ⟨g, 7, none⟩ = some (.string f7) := (blk_cell h 7).trans rfl
theorem IsS129.set_7 {w0 W : World} {g : Nat} {f0 : ByteArray} {f1 : ByteArray} {f2 : ByteArray} {f3 : ByteArray} {f4 : ByteArray} {f5 : ByteArray} {f6 : ByteArray} {f7 : ByteArray} {f8 : ByteArray} {f9 : ByteArray} {f10 : ByteArray} {f11 : ByteArray} {f12 : ByteArray} {f13 : ByteArray} {f14 : ByteArray} {f15 : ByteArray} {f16 : ByteArray} {f17 : ByteArray} (h : IsS129 w0 W g f0 f1 f2 f3 f4 f5 f6 f7 f8 f9 f10 f11 f12 f13 f14 f15 f16 f17) (x : ByteArray) : IsS129 w0 (W.setCell ⟨g, 7, none⟩ (.string x)) g f0 f1 f2 f3 f4 f5 f6 x f8 f9 f10 f11 f12 f13 f14 f15 f16 f17 := by
  obtain ⟨hb, hg⟩ := h
  exact ⟨by simpa using blk_set hb 7 (.string x), hg⟩
theorem cellS129_8 {W : World} {g : Nat} {f0 : ByteArray} {f1 : ByteArray} {f2 : ByteArray} {f3 : ByteArray} {f4 : ByteArray} {f5 : ByteArray} {f6 : ByteArray} {f7 : ByteArray} {f8 : ByteArray} {f9 : ByteArray} {f10 : ByteArray} {f11 : ByteArray} {f12 : ByteArray} {f13 : ByteArray} {f14 : ByteArray} {f15 : ByteArray} {f16 : ByteArray} {f17 : ByteArray} (h : W.heap[g]? = some (.cells #[.string f0, .string f1, .string f2, .string f3, .string f4, .string f5, .string f6, .string f7, .string f8, .string f9, .string f10, .string f11, .string f12, .string f13, .string f14, .string f15, .string f16, .string f17] 129 (0, 0))) : W.cell? ⟨g, 8, none⟩ = some (.string f8) := (blk_cell h 8).trans rfl
theorem IsS129.set_8 {w0 W : World} {g : Nat} {f0 : ByteArray} {f1 : ByteArray} {f2 : ByteArray} {f3 : ByteArray} {f4 : ByteArray} {f5 : ByteArray} {f6 : ByteArray} {f7 : ByteArray} {f8 : ByteArray} {f9 : ByteArray} {f10 : ByteArray} {f11 : ByteArray} {f12 : ByteArray} {f13 : ByteArray} {f14 : ByteArray} {f15 : ByteArray} {f16 : ByteArray} {f17 : ByteArray} (h : IsS129 w0 W g f0 f1 f2 f3 f4 f5 f6 f7 f8 f9 f10 f11 f12 f13 f14 f15 f16 f17) (x : ByteArray) : IsS129 w0 (W.setCell ⟨g, 8, none⟩ (.string x)) g f0 f1 f2 f3 f4 f5 f6 f7 x f9 f10 f11 f12 f13 f14 f15 f16 f17 := by
  obtain ⟨hb, hg⟩ := h
  exact ⟨by simpa using blk_set hb 8 (.string x), hg⟩
theorem cellS129_9 {W : World} {g : Nat} {f0 : ByteArray} {f1 : ByteArray} {f2 : ByteArray} {f3 : ByteArray} {f4 : ByteArray} {f5 : ByteArray} {f6 : ByteArray} {f7 : ByteArray} {f8 : ByteArray} {f9 : ByteArray} {f10 : ByteArray} {f11 : ByteArray} {f12 : ByteArray} {f13 : ByteArray} {f14 : ByteArray} {f15 : ByteArray} {f16 : ByteArray} {f17 : ByteArray} (h : W.heap[g]? = some (.cells #[.string f0, .string f1, .string f2, .string f3, .string f4, .string f5, .string f6, .string f7, .string f8, .string f9, .string f10, .string f11, .string f12, .string f13, .string f14, .string f15, .string f16, .string f17] 129 (0, 0))) : W.cell? ⟨g, 9, none⟩ = some (.string f9) := (blk_cell h 9).trans rfl
theorem IsS129.set_9 {w0 W : World} {g : Nat} {f0 : ByteArray} {f1 : ByteArray} {f2 : ByteArray} {f3 : ByteArray} {f4 : ByteArray} {f5 : ByteArray} {f6 : ByteArray} {f7 : ByteArray} {f8 : ByteArray} {f9 : ByteArray} {f10 : ByteArray} {f11 : ByteArray} {f12 : ByteArray} {f13 : ByteArray} {f14 : ByteArray} {f15 : ByteArray} {f16 : ByteArray} {f17 : ByteArray} (h : IsS129 w0 W g f0 f1 f2 f3 f4 f5 f6 f7 f8 f9 f10 f11 f12 f13 f14 f15 f16 f17) (x : ByteArray) : IsS129 w0 (W.setCell ⟨g, 9, none⟩ (.string x)) g f0 f1 f2 f3 f4 f5 f6 f7 f8 x f10 f11 f12 f13 f14 f15 f16 f17 := by
  obtain ⟨hb, hg⟩ := h
  exact ⟨by simpa using blk_set hb 9 (.string x), hg⟩
theorem cellS129_10 {W : World} {g : Nat} {f0 : ByteArray} {f1 : ByteArray} {f2 : ByteArray} {f3 : ByteArray} {f4 : ByteArray} {f5 : ByteArray} {f6 : ByteArray} {f7 : ByteArray} {f8 : ByteArray} {f9 : ByteArray} {f10 : ByteArray} {f11 : ByteArray} {f12 : ByteArray} {f13 : ByteArray} {f14 : ByteArray} {f15 : ByteArray} {f16 : ByteArray} {f17 : ByteArray} (h : W.heap[g]? = some (.cells #[.string f0, .string f1, .string f2, .string f3, .string f4, .string f5, .string f6, .string f7, .string f8, .string f9, .string f10, .string f11, .string f12, .string f13, .string f14, .string f15, .string f16, .string f17] 129 (0, 0))) : W.cell? ⟨g, 10, none⟩ = some (.string f10) := (blk_cell h 10).trans rfl
theorem IsS129.set_10 {w0 W : World} {g : Nat} {f0 : ByteArray} {f1 : ByteArray} {f2 : ByteArray} {f3 : ByteArray} {f4 : ByteArray} {f5 : ByteArray} {f6 : ByteArray} {f7 : ByteArray} {f8 : ByteArray} {f9 : ByteArray} {f10 : ByteArray} {f11 : ByteArray} {f12 : ByteArray} {f13 : ByteArray} {f14 : ByteArray} {f15 : ByteArray} {f16 : ByteArray} {f17 : ByteArray} (h : IsS129 w0 W g f0 f1 f2 f3 f4 f5 f6 f7 f8 f9 f10 f11 f12 f13 f14 f15 f16 f17) (x : ByteArray) : IsS129 w0 (W.setCell ⟨g, 10, none⟩ (.string x)) g f0 f1 f2 f3 f4 f5 f6 f7 f8 f9 x f11 f12 f13 f14 f15 f16 f17 := by
  obtain ⟨hb, hg⟩ := h
  exact ⟨by simpa using blk_set hb 10 (.string x), hg⟩
theorem cellS129_11 {W : World} {g : Nat} {f0 : ByteArray} {f1 : ByteArray} {f2 : ByteArray} {f3 : ByteArray} {f4 : ByteArray} {f5 : ByteArray} {f6 : ByteArray} {f7 : ByteArray} {f8 : ByteArray} {f9 : ByteArray} {f10 : ByteArray} {f11 : ByteArray} {f12 : ByteArray} {f13 : ByteArray} {f14 : ByteArray} {f15 : ByteArray} {f16 : ByteArray} {f17 : ByteArray} (h : W.heap[g]? = some (.cells #[.string f0, .string f1, .string f2, .string f3, .string f4, .string f5, .string f6, .string f7, .string f8, .string f9, .string f10, .string f11, .string f12, .string f13, .string f14, .string f15, .string f16, .string f17] 129 (0, 0))) : W.cell? ⟨g, 11, none⟩ = some (.string f11) := (blk_cell h 11).trans rfl
theorem IsS129.set_11 {w0 W : World} {g : Nat} {f0 : ByteArray} {f1 : ByteArray} {f2 : ByteArray} {f3 : ByteArray} {f4 : ByteArray} {f5 : ByteArray} {f6 : ByteArray} {f7 : ByteArray} {f8 : ByteArray} {f9 : ByteArray} {f10 : ByteArray} {f11 : ByteArray} {f12 : ByteArray} {f13 : ByteArray} {f14 : ByteArray} {f15 : ByteArray} {f16 : ByteArray} {f17 : ByteArray} (h : IsS129 w0 W g f0 f1 f2 f3 f4 f5 f6 f7 f8 f9 f10 f11 f12 f13 f14 f15 f16 f17) (x : ByteArray) : IsS129 w0 (W.setCell ⟨g, 11, none⟩ (.string x)) g f0 f1 f2 f3 f4 f5 f6 f7 f8 f9 f10 x f12 f13 f14 f15 f16 f17 := by
  obtain ⟨hb, hg⟩ := h
  exact ⟨by simpa using blk_set hb 11 (.string x), hg⟩
theorem cellS129_12 {W : World} {g : Nat} {f0 : ByteArray} {f1 : ByteArray} {f2 : ByteArray} {f3 : ByteArray} {f4 : ByteArray} {f5 : ByteArray} {f6 : ByteArray} {f7 : ByteArray} {f8 : ByteArray} {f9 : ByteArray} {f10 : ByteArray} {f11 : ByteArray} {f12 : ByteArray} {f13 : ByteArray} {f14 : ByteArray} {f15 : ByteArray} {f16 : ByteArray} {f17 : ByteArray} (h : W.heap[g]? = some (.cells #[.string f0, .string f1, .string f2, .string f3, .string f4, .string f5, .string f6, .string f7, .string f8, .string f9, .string f10, .string f11, .string f12, .string f13, .string f14, .string f15, .string f16, .string f17] 129 (0, 0))) : W.cell? ⟨g, 12, none⟩ = some (.string f12) := (blk_cell h 12).trans rfl
theorem IsS129.set_12 {w0 W : World} {g : Nat} {f0 : ByteArray} {f1 : ByteArray} {f2 : ByteArray} {f3 : ByteArray} {f4 : ByteArray} {f5 : ByteArray} {f6 : ByteArray} {f7 : ByteArray} {f8 : ByteArray} {f9 : ByteArray} {f10 : ByteArray} {f11 : ByteArray} {f12 : ByteArray} {f13 : ByteArray} {f14 : ByteArray} {f15 : ByteArray} {f16 : ByteArray} {f17 : ByteArray} (h : IsS129 w0 W g f0 f1 f2 f3 f4 f5 f6 f7 f8 f9 f10 f11 f12 f13 f14 f15 f16 f17) (x : ByteArray) : IsS129 w0 (W.setCell ⟨g, 12, none⟩ (.string x)) g f0 f1 f2 f3 f4 f5 f6 f7 f8 f9 f10 f11 x f13 f14 f15 f16 f17 := by
  obtain ⟨hb, hg⟩ := h
  exact ⟨by simpa using blk_set hb 12 (.string x), hg⟩
theorem cellS129_13 {W : World} {g : Nat} {f0 : ByteArray} {f1 : ByteArray} {f2 : ByteArray} {f3 : ByteArray} {f4 : ByteArray} {f5 : ByteArray} {f6 : ByteArray} {f7 : ByteArray} {f8 : ByteArray} {f9 : ByteArray} {f10 : ByteArray} {f11 : ByteArray} {f12 : ByteArray} {f13 : ByteArray} {f14 : ByteArray} {f15 : ByteArray} {f16 : ByteArray} {f17 : ByteArray} (h : W.heap[g]? = some (.cells #[.string f0, .string f1, .string f2, .string f3, .string f4, .string f5, .string f6, .string f7, .string f8, .string f9, .string f10, .string f11, .string f12, .string f13, .string f14, .string f15, .string f16, .string f17] 129 (0, 0))) : W.cell? ⟨g, 13, none⟩ = some (.string f13) := (blk_cell h 13).trans rfl
theorem IsS129.set_13 {w0 W : World} {g : Nat} {f0 : ByteArray} {f1 : ByteArray} {f2 : ByteArray} {f3 : ByteArray} {f4 : ByteArray} {f5 : ByteArray} {f6 : ByteArray} {f7 : ByteArray} {f8 : ByteArray} {f9 : ByteArray} {f10 : ByteArray} {f11 : ByteArray} {f12 : ByteArray} {f13 : ByteArray} {f14 : ByteArray} {f15 : ByteArray} {f16 : ByteArray} {f17 : ByteArray} (h : IsS129 w0 W g f0 f1 f2 f3 f4 f5 f6 f7 f8 f9 f10 f11 f12 f13 f14 f15 f16 f17) (x : ByteArray) : IsS129 w0 (W.setCell ⟨g, 13, none⟩ (.string x)) g f0 f1 f2 f3 f4 f5 f6 f7 f8 f9 f10 f11 f12 x f14 f15 f16 f17 := by
  obtain ⟨hb, hg⟩ := h
  exact ⟨by simpa using blk_set hb 13 (.string x), hg⟩
theorem cellS129_14 {W : World} {g : Nat} {f0 : ByteArray} {f1 : ByteArray} {f2 : ByteArray} {f3 : ByteArray} {f4 : ByteArray} {f5 : ByteArray} {f6 : ByteArray} {f7 : ByteArray} {f8 : ByteArray} {f9 : ByteArray} {f10 : ByteArray} {f11 : ByteArray} {f12 : ByteArray} {f13 : ByteArray} {f14 : ByteArray} {f15 : ByteArray} {f16 : ByteArray} {f17 : ByteArray} (h : W.heap[g]? = some (.cells #[.string f0, .string f1, .string f2, .string f3, .string f4, .string f5, .string f6, .string f7, .string f8, .string f9, .string f10, .string f11, .string f12, .string f13, .string f14, .string f15, .string f16, .string f17] 129 (0, 0))) : W.cell? ⟨g, 14, none⟩ = some (.string f14) := (blk_cell h 14).trans rfl
theorem IsS129.set_14 {w0 W : World} {g : Nat} {f0 : ByteArray} {f1 : ByteArray} {f2 : ByteArray} {f3 : ByteArray} {f4 : ByteArray} {f5 : ByteArray} {f6 : ByteArray} {f7 : ByteArray} {f8 : ByteArray} {f9 : ByteArray} {f10 : ByteArray} {f11 : ByteArray} {f12 : ByteArray} {f13 : ByteArray} {f14 : ByteArray} {f15 : ByteArray} {f16 : ByteArray} {f17 : ByteArray} (h : IsS129 w0 W g f0 f1 f2 f3 f4 f5 f6 f7 f8 f9 f10 f11 f12 f13 f14 f15 f16 f17) (x : ByteArray) : IsS129 w0 (W.setCell ⟨g, 14, none⟩ (.string x)) g f0 f1 f2 f3 f4 f5 f6 f7 f8 f9 f10 f11 f12 f13 x f15 f16 f17 := by
  obtain ⟨hb, hg⟩ := h
  exact ⟨by simpa using blk_set hb 14 (.string x), hg⟩
theorem cellS129_15 {W : World} {g : Nat} {f0 : ByteArray} {f1 : ByteArray} {f2 : ByteArray} {f3 : ByteArray} {f4 : ByteArray} {f5 : ByteArray} {f6 : ByteArray} {f7 : ByteArray} {f8 : ByteArray} {f9 : ByteArray} {f10 : ByteArray} {f11 : ByteArray} {f12 : ByteArray} {f13 : ByteArray} {f14 : ByteArray} {f15 : ByteArray} {f16 : ByteArray} {f17 : ByteArray} (h : W.heap[g]? = some (.cells #[.string f0, .string f1, .string f2, .string f3, .string f4, .string f5, .string f6, .string f7, .string f8, .string f9, .string f10, .string f11, .string f12, .string f13, .string f14, .string f15, .string f16, .string f17] 129 (0, 0))) : W.cell? ⟨g, 15, none⟩ = some (.string f15) := (blk_cell h 15).trans rfl
theorem IsS129.set_15 {w0 W : World} {g : Nat} {f0 : ByteArray} {f1 : ByteArray} {f2 : ByteArray} {f3 : ByteArray} {f4 : ByteArray} {f5 : ByteArray} {f6 : ByteArray} {f7 : ByteArray} {f8 : ByteArray} {f9 : ByteArray} {f10 : ByteArray} {f11 : ByteArray} {f12 : ByteArray} {f13 : ByteArray} {f14 : ByteArray} {f15 : ByteArray} {f16 : ByteArray} {f17 : ByteArray} (h : IsS129 w0 W g f0 f1 f2 f3 f4 f5 f6 f7 f8 f9 f10 f11 f12 f13 f14 f15 f16 f17) (x : ByteArray) : IsS129 w0 (W.setCell ⟨g, 15, none⟩ (.string x)) g f0 f1 f2 f3 f4 f5 f6 f7 f8 f9 f10 f11 f12 f13 f14 x f16 f17 := by
  obtain ⟨hb, hg⟩ := h
  exact ⟨by simpa using blk_set hb 15 (.string x), hg⟩
theorem cellS129_16 {W : World} {g : Nat} {f0 : ByteArray} {f1 : ByteArray} {f2 : ByteArray} {f3 : ByteArray} {f4 : ByteArray} {f5 : ByteArray} {f6 : ByteArray} {f7 : ByteArray} {f8 : ByteArray} {f9 : ByteArray} {f10 : ByteArray} {f11 : ByteArray} {f12 : ByteArray} {f13 : ByteArray} {f14 : ByteArray} {f15 : ByteArray} {f16 : ByteArray} {f17 : ByteArray} (h : W.heap[g]? = some (.cells #[.string f0, .string f1, .string f2, .string f3, .string f4, .string f5, .string f6, .string f7, .string f8, .string f9, .string f10, .string f11, .string f12, .string f13, .string f14, .string f15, .string f16, .string f17] 129 (0, 0))) : W.cell? ⟨g, 16, none⟩ = some (.string f16) := (blk_cell h 16).trans rfl
theorem IsS129.set_16 {w0 W : World} {g : Nat} {f0 : ByteArray} {f1 : ByteArray} {f2 : ByteArray} {f3 : ByteArray} {f4 : ByteArray} {f5 : ByteArray} {f6 : ByteArray} {f7 : ByteArray} {f8 : ByteArray} {f9 : ByteArray} {f10 : ByteArray} {f11 : ByteArray} {f12 : ByteArray} {f13 : ByteArray} {f14 : ByteArray} {f15 : ByteArray} {f16 : ByteArray} {f17 : ByteArray} (h : IsS129 w0 W g f0 f1 f2 f3 f4 f5 f6 f7 f8 f9 f10 f11 f12 f13 f14 f15 f16 f17) (x : ByteArray) : IsS129 w0 (W.setCell ⟨g, 16, none⟩ (.string x)) g f0 f1 f2 f3 f4 f5 f6 f7 f8 f9 f10 f11 f12 f13 f14 f15 x f17 := by
  obtain ⟨hb, hg⟩ := h
  exact ⟨by simpa using blk_set hb 16 (.string x), hg⟩
theorem cellS129_17 {W : World} {g : Nat} {f0 : ByteArray} {f1 : ByteArray} {f2 : ByteArray} {f3 : ByteArray} {f4 : ByteArray} {f5 : ByteArray} {f6 : ByteArray} {f7 : ByteArray} {f8 : ByteArray} {f9 : ByteArray} {f10 : ByteArray} {f11 : ByteArray} {f12 : ByteArray} {f13 : ByteArray} {f14 : ByteArray} {f15 : ByteArray} {f16 : ByteArray} {f17 : ByteArray} (h : W.heap[g]? = some (.cells #[.string f0, .string f1, .string f2, .string f3, .string f4, .string f5, .string f6, .string f7, .string f8, .string f9, .string f10, .string f11, .string f12, .string f13, .string f14, .string f15, .string f16, .string f17] 129 (0, 0))) : W.cell? ⟨g, 17, none⟩ = some (.string f17) := (blk_cell h 17).trans rfl
theorem IsS129.set_17 {w0 W : World} {g : Nat} {f0 : ByteArray} {f1 : ByteArray} {f2 : ByteArray} {f3 : ByteArray} {f4 : ByteArray} {f5 : ByteArray} {f6 : ByteArray} {f7 : ByteArray} {f8 : ByteArray} {f9 : ByteArray} {f10 : ByteArray} {f11 : ByteArray} {f12 : ByteArray} {f13 : ByteArray} {f14 : ByteArray} {f15 : ByteArray} {f16 : ByteArray} {f17 : ByteArray} (h : IsS129 w0 W g f0 f1 f2 f3 f4 f5 f6 f7 f8 f9 f10 f11 f12 f13 f14 f15 f16 f17) (x : ByteArray) : IsS129 w0 (W.setCell ⟨g, 17, none⟩ (.string x)) g f0 f1 f2 f3 f4 f5 f6 f7 f8 f9 f10 f11 f12 f13 f14 f15 f16 x := by
  obtain ⟨hb, hg⟩ := h
  exact ⟨by simpa using blk_set hb 17 (.string x), hg⟩
theorem IsS129.new (w0 W : World) (f0 : ByteArray) (f1 : ByteArray) (f2 : ByteArray) (f3 : ByteArray) (f4 : ByteArray) (f5 : ByteArray) (f6 : ByteArray) (f7 : ByteArray) (f8 : ByteArray) (f9 : ByteArray) (f10 : ByteArray) (f11 : ByteArray) (f12 : ByteArray) (f13 : ByteArray) (f14 : ByteArray) (f15 : ByteArray) (f16 : ByteArray) (f17 : ByteArray) (hB : Below w0.heap.size w0 W) : IsS129 w0 (W.alloc (.cells #[.string f0, .string f1, .string f2, .string f3, .string f4, .string f5, .string f6, .string f7, .string f8, .string f9, .string f10, .string f11, .string f12, .string f13, .string f14, .string f15, .string f16, .string f17] 129)) W.heap.size f0 f1 f2 f3 f4 f5 f6 f7 f8 f9 f10 f11 f12 f13 f14 f15 f16 f17 := ⟨by simpa using heap_alloc_new W _, hB.size⟩

/-! ### pq_ParseError: function 53 -/
def pq_ParseError.f (l0 : List Int) (a1 : ByteArray) : Option (ByteArray × ByteArray × ByteArray × ByteArray × ByteArray × ByteArray × ByteArray × ByteArray × ByteArray × ByteArray × ByteArray × ByteArray × ByteArray × ByteArray × ByteArray × ByteArray × ByteArray × ByteArray) := none
set_option maxHeartbeats 8000000 in
set_option maxRecDepth 100000 in
theorem pq_ParseError.calls (A0 : Option Addr) (c0 : Nat) (l0 : List Int) (a1 : ByteArray) (r1 : ByteArray) (r2 : ByteArray) (r3 : ByteArray) (r4 : ByteArray) (r5 : ByteArray) (r6 : ByteArray) (r7 : ByteArray) (r8 : ByteArray) (r9 : ByteArray) (r10 : ByteArray) (r11 : ByteArray) (r12 : ByteArray) (r13 : ByteArray) (r14 : ByteArray) (r15 : ByteArray) (r16 : ByteArray) (r17 : ByteArray) (r18 : ByteArray) (w0 w : World) (hB : Below w0.heap.size w0 w) (hr0 : Kd.C (Kd.int .u8) w0 A0 l0.length l0) (hc0 : l0.length ≤ c0) (h : pq_ParseError.f l0 a1 = some (r1, r2, r3, r4, r5, r6, r7, r8, r9, r10, r11, r12, r13, r14, r15, r16, r17, r18)) :
    Calls Try.prog 53 #[.slice A0 l0.length c0, .string a1] w fun e w' => ∃ g_ : Nat, e = .returned (.pointer (some ⟨g_, 0, none⟩)) ∧ IsS129 w0 w' g_ r1 r2 r3 r4 r5 r6 r7 r8 r9 r10 r11 r12 r13 r14 r15 r16 r17 r18 ∧ Below w0.heap.size w0 w' ∧ Below w.heap.size w w' := by
  have HR0 := Aside0.mk hr0
  have HC0 := Aside0.mk hc0
  clear hr0 hc0
  have HBW := Aside0.mk (Below.refl w.heap.size w)
  have HW0 := Aside0.mk hB.size
  have HB := Aside0.mk hB
  clear hB
  have H : (none) = some (r1, r2, r3, r4, r5, r6, r7, r8, r9, r10, r11, r12, r13, r14, r15, r16, r17, r18) := h
  clear h
  exact absurd H (by simp)

end Go.Proofs.Ythcikkjjegfblab.P
