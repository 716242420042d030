-- Written by the program wip/myprint.py of this session, over the kit's print of the translation. Lean checks it.
import Derived.Test.YtlfkejljbehcaabPx0
import Derived.Test.YtlfkejljbehcaabPx1
namespace Go.Proofs.Ytlfkejljbehcaab.P
open Go.RowKit Go.Proofs.YtlfkejljbehcaabW.PrintWords Go.Proofs.YtlfkejljbehcaabW.PrintLast Go.Proofs.YtlfkejljbehcaabW.PrintMore
attribute [local go_sem] max2_int min2_int max_two min_two max_three min_three max_four min_four   -- for this text's walks alone
set_option linter.unusedVariables false
set_option linter.unusedSimpArgs false

/-! ### laws_FnLiteralParts: function 5 -/
mutual
def laws_FnLiteralParts.j0 : Nat → ByteArray → ByteArray → Bool → Option (Bool)
  | 0, _, _, _ => none
  | k + 1, x0, x1, x15 => if x15 = true then (some true) else ((laws_text9.f k x0).bind fun t121 => (if t121 = true then ((laws_text9.f k x1).bind fun t122 => (laws_FnLiteralParts.j1 k x0 x1 (!t122))) else (laws_FnLiteralParts.j1 k x0 x1 true)))
def laws_FnLiteralParts.j1 : Nat → ByteArray → ByteArray → Bool → Option (Bool)
  | 0, _, _, _ => none
  | k + 1, x0, x1, x23 => if x23 = true then (some true) else ((impl_Literal.f k x0).bind fun t123 => ((impl_Literal.f k x1).bind fun t124 => (if x0.size + x1.size ≤ 9223372036854775807 then ((impl_Literal.f k (x0 ++ x1)).bind fun t125 => ((spec_HasByte.f k x0 92).bind fun t126 => (if t126 = true then (some (decide ((t125.size : Int) > (wrap64 (((x0 ++ x1).size : Int) + 2))))) else ((spec_HasByte.f k x1 92).bind fun t127 => (if t127 = true then (some (decide ((t125.size : Int) > (wrap64 (((x0 ++ x1).size : Int) + 2))))) else (if (t123.size : Int) > 1 then (if (t124.size : Int) > 1 then (if 0 ≤ (wrap64 ((t123.size : Int) - 1)) then (if (wrap64 ((t123.size : Int) - 1)) ≤ (t123.size : Int) then (if 1 ≤ (t124.size : Int) then (if (t123.extract 0 ((wrap64 ((t123.size : Int) - 1)) : Int).toNat).size + (t124.extract 1 t124.size).size ≤ 9223372036854775807 then (some (t125.toList == ((t123.extract 0 ((wrap64 ((t123.size : Int) - 1)) : Int).toNat) ++ (t124.extract 1 t124.size)).toList)) else (none)) else (none)) else (none)) else (none)) else (some false)) else (some false))))))) else (none))))
end
def laws_FnLiteralParts.f (k : Nat) (a0 : ByteArray) (a1 : ByteArray) : Option (Bool) := if (a0.size : Int) > 2147483647 then (laws_FnLiteralParts.j0 k a0 a1 true) else (laws_FnLiteralParts.j0 k a0 a1 (decide ((a1.size : Int) > 2147483647)))
theorem laws_FnLiteralParts.mono_l : ∀ k, (∀ y0 y1 y2, LeO (laws_FnLiteralParts.j0 k y0 y1 y2) (laws_FnLiteralParts.j0 (k + 1) y0 y1 y2)) ∧ (∀ y0 y1 y2, LeO (laws_FnLiteralParts.j1 k y0 y1 y2) (laws_FnLiteralParts.j1 (k + 1) y0 y1 y2))
  | 0 => ⟨fun _ _ _ r h => by simp [laws_FnLiteralParts.j0] at h, fun _ _ _ r h => by simp [laws_FnLiteralParts.j1] at h⟩
  | k + 1 => by
    obtain ⟨ih0, ih1⟩ := laws_FnLiteralParts.mono_l k
    refine ⟨?_, ?_⟩
    · intro y0 y1 y2
      unfold laws_FnLiteralParts.j0
      repeat' first
      | (with_reducible exact ih0 _ _ _)
      | (with_reducible exact ih1 _ _ _)
      | (with_reducible exact impl_Literal.mono _ _)
      | (with_reducible exact laws_text9.mono _ _)
      | (with_reducible exact spec_HasByte.mono _ _ _)
      | (with_reducible exact LeO.refl _)
      | (with_reducible exact LeO.none _)
      | (with_reducible refine LeO.ite ?_ ?_)
      | (with_reducible refine LeO.bind ?_ (fun _ => ?_))
      | exact ih0 _ _ _
      | exact ih1 _ _ _
      | exact impl_Literal.mono _ _
      | exact laws_text9.mono _ _
      | exact spec_HasByte.mono _ _ _
      | exact LeO.none _
      | refine LeO.ite ?_ ?_
      | refine LeO.bind ?_ (fun _ => ?_)
    · intro y0 y1 y2
      unfold laws_FnLiteralParts.j1
      repeat' first
      | (with_reducible exact ih0 _ _ _)
      | (with_reducible exact ih1 _ _ _)
      | (with_reducible exact impl_Literal.mono _ _)
      | (with_reducible exact laws_text9.mono _ _)
      | (with_reducible exact spec_HasByte.mono _ _ _)
      | (with_reducible exact LeO.refl _)
      | (with_reducible exact LeO.none _)
      | (with_reducible refine LeO.ite ?_ ?_)
      | (with_reducible refine LeO.bind ?_ (fun _ => ?_))
      | exact ih0 _ _ _
      | exact ih1 _ _ _
      | exact impl_Literal.mono _ _
      | exact laws_text9.mono _ _
      | exact spec_HasByte.mono _ _ _
      | exact LeO.none _
      | refine LeO.ite ?_ ?_
      | refine LeO.bind ?_ (fun _ => ?_)
theorem laws_FnLiteralParts.mono : ∀ a0 a1 k, LeO (laws_FnLiteralParts.f k a0 a1) (laws_FnLiteralParts.f (k + 1) a0 a1) := by
  intro a0 a1 k
  obtain ⟨ih0, ih1⟩ := laws_FnLiteralParts.mono_l k
  unfold laws_FnLiteralParts.f
  repeat' first
      | (with_reducible exact ih0 _ _ _)
      | (with_reducible exact ih1 _ _ _)
      | (with_reducible exact impl_Literal.mono _ _)
      | (with_reducible exact laws_text9.mono _ _)
      | (with_reducible exact spec_HasByte.mono _ _ _)
      | (with_reducible exact LeO.refl _)
      | (with_reducible exact LeO.none _)
      | (with_reducible refine LeO.ite ?_ ?_)
      | (with_reducible refine LeO.bind ?_ (fun _ => ?_))
      | exact ih0 _ _ _
      | exact ih1 _ _ _
      | exact impl_Literal.mono _ _
      | exact laws_text9.mono _ _
      | exact spec_HasByte.mono _ _ _
      | exact LeO.none _
      | refine LeO.ite ?_ ?_
      | refine LeO.bind ?_ (fun _ => ?_)
set_option maxHeartbeats 8000000 in
set_option maxRecDepth 100000 in
theorem laws_FnLiteralParts.calls (k : Nat) (a0 : ByteArray) (a1 : ByteArray) (r : Bool) (w : World) (h : laws_FnLiteralParts.f k a0 a1 = some r) :
    Calls Try.prog 5 #[.string a0, .string a1] w fun e w' => e = .returned (.bool r) ∧ Drawn0 w w' := by
  have H : (if (a0.size : Int) > 2147483647 then (laws_FnLiteralParts.j0 k a0 a1 true) else (laws_FnLiteralParts.j0 k a0 a1 (decide ((a1.size : Int) > 2147483647)))) = some r := h
  clear h
  have HC3 := Aside0.mk H
  clear H
  go_enter Try.func5, Try.ntmps5
  go_upto_region 1 with (fail)
  repeat (go_quiet (fail); go_upto_region 1 with (fail))
  go_cut [15] (fun v15 wc => ∃ (kq : Nat) (x15_2 : Bool), v15 = .bool x15_2 ∧ Aside0 (laws_FnLiteralParts.j0 kq a0 a1 x15_2 = some r) ∧ Aside0 (kq ≤ k) ∧ Drawn0 w wc)
  case first =>
    have H := HC3.out
    clear HC3
    by_cases c4 : (a0.size : Int) > 2147483647
    · rw [if_pos c4] at H
      have c4b0 : decide (2147483647 < (a0.size : Int)) = true := decide_eq_true c4
      have c4b1 : decide (2147483647 < a0.size) = true := decide_eq_true (by omega)
      clear c4
      (first | rw [c4b0] | (simp only [i64_w, i32_w]; rw [c4b0]) | skip)
      have H' := Aside0.mk H
      clear H
      go_wp2
      repeat (go_quiet (fail); try go_wp2)
      go_meet
      case rel => exact ⟨_, (true), (by first | rfl | (simp; done) | (simp [*]; done)), H', ⟨by first | omega | exact Nat.le_refl _⟩, by repeat (first | exact Drawn0.refl _ | apply Drawn0.step)⟩
    · rw [if_neg c4] at H
      have c4b0 : decide (2147483647 < (a0.size : Int)) = false := decide_eq_false c4
      have c4b1 : decide (2147483647 < a0.size) = false := decide_eq_false (by omega)
      clear c4
      (first | rw [c4b0] | (simp only [i64_w, i32_w]; rw [c4b0]) | skip)
      have H' := Aside0.mk H
      clear H
      go_wp2
      repeat (go_quiet (fail); try go_wp2)
      go_meet
      case rel => exact ⟨_, (decide ((a1.size : Int) > 2147483647)), (by first | rfl | (simp; done) | (simp [*]; done)), H', ⟨by first | omega | exact Nat.le_refl _⟩, by repeat (first | exact Drawn0.refl _ | apply Drawn0.step)⟩
  case rest =>
    clear HC3
    try clear p2
    try clear c4
    try clear c4b0
    try clear c4b1
    obtain ⟨kq, x15_2, rfl, HA, HJ2, ⟨mc2, rfl⟩⟩ := hcut
    cases kq with
    | zero => exact absurd HA.out (by simp [laws_FnLiteralParts.j0])
    | succ kj2 =>
      have H := HA.out
      clear HA
      simp only [laws_FnLiteralParts.j0] at H
      by_cases c5 : x15_2 = true
      · subst c5
        have H1 : (some true) = some r := by rw [if_pos rfl] at H; exact H
        clear H
        have H := H1
        clear H1
        obtain rfl := Option.some.inj H
        go_wp2
        repeat (go_quiet (fail); try go_wp2)
        go_ret
        exact ⟨by first | rfl | (simp; done) | (simp [*]; done), by repeat (first | exact Drawn0.refl _ | apply Drawn0.step)⟩
      · replace c5 := Bool.eq_false_iff.mpr c5
        subst c5
        have H1 : ((laws_text9.f kj2 a0).bind fun t121 => (if t121 = true then ((laws_text9.f kj2 a1).bind fun t122 => (laws_FnLiteralParts.j1 kj2 a0 a1 (!t122))) else (laws_FnLiteralParts.j1 kj2 a0 a1 true))) = some r := by rw [if_neg (show ¬ (false = true) by decide)] at H; exact H
        clear H
        have H := H1
        clear H1
        have HC6 := Aside0.mk H
        clear H
        go_upto_region 3 with (fail)
        repeat (go_quiet (fail); go_upto_region 3 with (fail))
        go_cut [23] (fun v23 wc => ∃ (kq : Nat) (x23_5 : Bool), v23 = .bool x23_5 ∧ Aside0 (laws_FnLiteralParts.j1 kq a0 a1 x23_5 = some r) ∧ Aside0 (kq ≤ kj2) ∧ Drawn0 w wc)
        case first =>
          have H := HC6.out
          clear HC6
          replace H := Option.bind_eq_some_iff.mp H
          obtain ⟨t121, A70, H⟩ := H
          replace H : (if t121 = true then ((laws_text9.f kj2 a1).bind fun t122 => (laws_FnLiteralParts.j1 kj2 a0 a1 (!t122))) else (laws_FnLiteralParts.j1 kj2 a0 a1 true)) = some r := H
          have A7 := Aside0.mk A70
          clear A70
          by_cases c8 : t121 = true
          · subst c8
            have H1 : ((laws_text9.f kj2 a1).bind fun t122 => (laws_FnLiteralParts.j1 kj2 a0 a1 (!t122))) = some r := by rw [if_pos rfl] at H; exact H
            clear H
            have H := H1
            clear H1
            replace H := Option.bind_eq_some_iff.mp H
            obtain ⟨t122, A90, H⟩ := H
            replace H : (laws_FnLiteralParts.j1 kj2 a0 a1 (!t122)) = some r := H
            have A9 := Aside0.mk A90
            clear A90
            have H' := Aside0.mk H
            clear H
            go_wp2_with (first | (go_at_call 6; (with_reducible refine (laws_text9.calls kj2 a0 true _ A7.out).mono ?_); rintro e w' ⟨rfl, ⟨nd, rfl⟩⟩; (try first | exact ⟨rfl, _, World.drewN_drewN _ _ _⟩ | exact ⟨rfl, _, Eq.trans (World.drewN_drewN _ _ _) (congrArg (World.drewN _) (Nat.add_assoc _ _ _))⟩)) | (go_at_call 6; (with_reducible refine (laws_text9.calls kj2 a1 t122 _ A9.out).mono ?_); rintro e w' ⟨rfl, ⟨nd, rfl⟩⟩; (try first | exact ⟨rfl, _, World.drewN_drewN _ _ _⟩ | exact ⟨rfl, _, Eq.trans (World.drewN_drewN _ _ _) (congrArg (World.drewN _) (Nat.add_assoc _ _ _))⟩)))
            repeat (go_quiet (first | (go_at_call 6; (with_reducible refine (laws_text9.calls kj2 a0 true _ A7.out).mono ?_); rintro e w' ⟨rfl, ⟨nd, rfl⟩⟩; (try first | exact ⟨rfl, _, World.drewN_drewN _ _ _⟩ | exact ⟨rfl, _, Eq.trans (World.drewN_drewN _ _ _) (congrArg (World.drewN _) (Nat.add_assoc _ _ _))⟩)) | (go_at_call 6; (with_reducible refine (laws_text9.calls kj2 a1 t122 _ A9.out).mono ?_); rintro e w' ⟨rfl, ⟨nd, rfl⟩⟩; (try first | exact ⟨rfl, _, World.drewN_drewN _ _ _⟩ | exact ⟨rfl, _, Eq.trans (World.drewN_drewN _ _ _) (congrArg (World.drewN _) (Nat.add_assoc _ _ _))⟩))); try go_wp2_with (first | (go_at_call 6; (with_reducible refine (laws_text9.calls kj2 a0 true _ A7.out).mono ?_); rintro e w' ⟨rfl, ⟨nd, rfl⟩⟩; (try first | exact ⟨rfl, _, World.drewN_drewN _ _ _⟩ | exact ⟨rfl, _, Eq.trans (World.drewN_drewN _ _ _) (congrArg (World.drewN _) (Nat.add_assoc _ _ _))⟩)) | (go_at_call 6; (with_reducible refine (laws_text9.calls kj2 a1 t122 _ A9.out).mono ?_); rintro e w' ⟨rfl, ⟨nd, rfl⟩⟩; (try first | exact ⟨rfl, _, World.drewN_drewN _ _ _⟩ | exact ⟨rfl, _, Eq.trans (World.drewN_drewN _ _ _) (congrArg (World.drewN _) (Nat.add_assoc _ _ _))⟩))))
            go_meet
            case rel => exact ⟨_, (!t122), (by first | rfl | (simp; done) | (simp [*]; done)), H', ⟨by have := HJ2.out; first | omega | exact Nat.le_refl _⟩, by repeat (first | exact Drawn0.refl _ | apply Drawn0.step)⟩
          · replace c8 := Bool.eq_false_iff.mpr c8
            subst c8
            have H1 : (laws_FnLiteralParts.j1 kj2 a0 a1 true) = some r := by rw [if_neg (show ¬ (false = true) by decide)] at H; exact H
            clear H
            have H := H1
            clear H1
            have H' := Aside0.mk H
            clear H
            go_wp2_with (first | (go_at_call 6; (with_reducible refine (laws_text9.calls kj2 a0 false _ A7.out).mono ?_); rintro e w' ⟨rfl, ⟨nd, rfl⟩⟩; (try first | exact ⟨rfl, _, World.drewN_drewN _ _ _⟩ | exact ⟨rfl, _, Eq.trans (World.drewN_drewN _ _ _) (congrArg (World.drewN _) (Nat.add_assoc _ _ _))⟩)))
            repeat (go_quiet (first | (go_at_call 6; (with_reducible refine (laws_text9.calls kj2 a0 false _ A7.out).mono ?_); rintro e w' ⟨rfl, ⟨nd, rfl⟩⟩; (try first | exact ⟨rfl, _, World.drewN_drewN _ _ _⟩ | exact ⟨rfl, _, Eq.trans (World.drewN_drewN _ _ _) (congrArg (World.drewN _) (Nat.add_assoc _ _ _))⟩))); try go_wp2_with (first | (go_at_call 6; (with_reducible refine (laws_text9.calls kj2 a0 false _ A7.out).mono ?_); rintro e w' ⟨rfl, ⟨nd, rfl⟩⟩; (try first | exact ⟨rfl, _, World.drewN_drewN _ _ _⟩ | exact ⟨rfl, _, Eq.trans (World.drewN_drewN _ _ _) (congrArg (World.drewN _) (Nat.add_assoc _ _ _))⟩))))
            go_meet
            case rel => exact ⟨_, (true), (by first | rfl | (simp; done) | (simp [*]; done)), H', ⟨by have := HJ2.out; first | omega | exact Nat.le_refl _⟩, by repeat (first | exact Drawn0.refl _ | apply Drawn0.step)⟩
        case rest =>
          clear HC6
          try clear c2
          try clear p2
          try clear c4
          try clear c4b0
          try clear c4b1
          try clear c5
          try clear c8
          try clear p2
          obtain ⟨kq, x23_5, rfl, HA, HJ5, ⟨mc5, rfl⟩⟩ := hcut
          cases kq with
          | zero => exact absurd HA.out (by simp [laws_FnLiteralParts.j1])
          | succ kj5 =>
            have H := HA.out
            clear HA
            simp only [laws_FnLiteralParts.j1] at H
            by_cases c10 : x23_5 = true
            · subst c10
              have H1 : (some true) = some r := by rw [if_pos rfl] at H; exact H
              clear H
              have H := H1
              clear H1
              obtain rfl := Option.some.inj H
              go_wp2
              repeat (go_quiet (fail); try go_wp2)
              go_ret
              exact ⟨by first | rfl | (simp; done) | (simp [*]; done), by repeat (first | exact Drawn0.refl _ | apply Drawn0.step)⟩
            · replace c10 := Bool.eq_false_iff.mpr c10
              subst c10
              have H1 : ((impl_Literal.f kj5 a0).bind fun t123 => ((impl_Literal.f kj5 a1).bind fun t124 => (if a0.size + a1.size ≤ 9223372036854775807 then ((impl_Literal.f kj5 (a0 ++ a1)).bind fun t125 => ((spec_HasByte.f kj5 a0 92).bind fun t126 => (if t126 = true then (some (decide ((t125.size : Int) > (wrap64 (((a0 ++ a1).size : Int) + 2))))) else ((spec_HasByte.f kj5 a1 92).bind fun t127 => (if t127 = true then (some (decide ((t125.size : Int) > (wrap64 (((a0 ++ a1).size : Int) + 2))))) else (if (t123.size : Int) > 1 then (if (t124.size : Int) > 1 then (if 0 ≤ (wrap64 ((t123.size : Int) - 1)) then (if (wrap64 ((t123.size : Int) - 1)) ≤ (t123.size : Int) then (if 1 ≤ (t124.size : Int) then (if (t123.extract 0 ((wrap64 ((t123.size : Int) - 1)) : Int).toNat).size + (t124.extract 1 t124.size).size ≤ 9223372036854775807 then (some (t125.toList == ((t123.extract 0 ((wrap64 ((t123.size : Int) - 1)) : Int).toNat) ++ (t124.extract 1 t124.size)).toList)) else (none)) else (none)) else (none)) else (none)) else (some false)) else (some false))))))) else (none)))) = some r := by rw [if_neg (show ¬ (false = true) by decide)] at H; exact H
              clear H
              have H := H1
              clear H1
              replace H := Option.bind_eq_some_iff.mp H
              obtain ⟨t123, A110, H⟩ := H
              replace H : ((impl_Literal.f kj5 a1).bind fun t124 => (if a0.size + a1.size ≤ 9223372036854775807 then ((impl_Literal.f kj5 (a0 ++ a1)).bind fun t125 => ((spec_HasByte.f kj5 a0 92).bind fun t126 => (if t126 = true then (some (decide ((t125.size : Int) > (wrap64 (((a0 ++ a1).size : Int) + 2))))) else ((spec_HasByte.f kj5 a1 92).bind fun t127 => (if t127 = true then (some (decide ((t125.size : Int) > (wrap64 (((a0 ++ a1).size : Int) + 2))))) else (if (t123.size : Int) > 1 then (if (t124.size : Int) > 1 then (if 0 ≤ (wrap64 ((t123.size : Int) - 1)) then (if (wrap64 ((t123.size : Int) - 1)) ≤ (t123.size : Int) then (if 1 ≤ (t124.size : Int) then (if (t123.extract 0 ((wrap64 ((t123.size : Int) - 1)) : Int).toNat).size + (t124.extract 1 t124.size).size ≤ 9223372036854775807 then (some (t125.toList == ((t123.extract 0 ((wrap64 ((t123.size : Int) - 1)) : Int).toNat) ++ (t124.extract 1 t124.size)).toList)) else (none)) else (none)) else (none)) else (none)) else (some false)) else (some false))))))) else (none))) = some r := H
              have A11 := Aside0.mk A110
              clear A110
              replace H := Option.bind_eq_some_iff.mp H
              obtain ⟨t124, A120, H⟩ := H
              replace H : (if a0.size + a1.size ≤ 9223372036854775807 then ((impl_Literal.f kj5 (a0 ++ a1)).bind fun t125 => ((spec_HasByte.f kj5 a0 92).bind fun t126 => (if t126 = true then (some (decide ((t125.size : Int) > (wrap64 (((a0 ++ a1).size : Int) + 2))))) else ((spec_HasByte.f kj5 a1 92).bind fun t127 => (if t127 = true then (some (decide ((t125.size : Int) > (wrap64 (((a0 ++ a1).size : Int) + 2))))) else (if (t123.size : Int) > 1 then (if (t124.size : Int) > 1 then (if 0 ≤ (wrap64 ((t123.size : Int) - 1)) then (if (wrap64 ((t123.size : Int) - 1)) ≤ (t123.size : Int) then (if 1 ≤ (t124.size : Int) then (if (t123.extract 0 ((wrap64 ((t123.size : Int) - 1)) : Int).toNat).size + (t124.extract 1 t124.size).size ≤ 9223372036854775807 then (some (t125.toList == ((t123.extract 0 ((wrap64 ((t123.size : Int) - 1)) : Int).toNat) ++ (t124.extract 1 t124.size)).toList)) else (none)) else (none)) else (none)) else (none)) else (some false)) else (some false))))))) else (none)) = some r := H
              have A12 := Aside0.mk A120
              clear A120
              by_cases c13 : a0.size + a1.size ≤ 9223372036854775807
              · rw [if_pos c13] at H
                have c13b0 := eq_true c13
                have c13b1 : decide (a0.size + a1.size ≤ 9223372036854775807) = true := decide_eq_true c13
                try have c13b2 : (9223372036854775807 < a0.size + a1.size) = False := eq_false (Nat.not_lt.2 c13)
                replace H := Option.bind_eq_some_iff.mp H
                obtain ⟨t125, A140, H⟩ := H
                replace H : ((spec_HasByte.f kj5 a0 92).bind fun t126 => (if t126 = true then (some (decide ((t125.size : Int) > (wrap64 (((a0 ++ a1).size : Int) + 2))))) else ((spec_HasByte.f kj5 a1 92).bind fun t127 => (if t127 = true then (some (decide ((t125.size : Int) > (wrap64 (((a0 ++ a1).size : Int) + 2))))) else (if (t123.size : Int) > 1 then (if (t124.size : Int) > 1 then (if 0 ≤ (wrap64 ((t123.size : Int) - 1)) then (if (wrap64 ((t123.size : Int) - 1)) ≤ (t123.size : Int) then (if 1 ≤ (t124.size : Int) then (if (t123.extract 0 ((wrap64 ((t123.size : Int) - 1)) : Int).toNat).size + (t124.extract 1 t124.size).size ≤ 9223372036854775807 then (some (t125.toList == ((t123.extract 0 ((wrap64 ((t123.size : Int) - 1)) : Int).toNat) ++ (t124.extract 1 t124.size)).toList)) else (none)) else (none)) else (none)) else (none)) else (some false)) else (some false)))))) = some r := H
                have A14 := Aside0.mk A140
                clear A140
                replace H := Option.bind_eq_some_iff.mp H
                obtain ⟨t126, A150, H⟩ := H
                replace H : (if t126 = true then (some (decide ((t125.size : Int) > (wrap64 (((a0 ++ a1).size : Int) + 2))))) else ((spec_HasByte.f kj5 a1 92).bind fun t127 => (if t127 = true then (some (decide ((t125.size : Int) > (wrap64 (((a0 ++ a1).size : Int) + 2))))) else (if (t123.size : Int) > 1 then (if (t124.size : Int) > 1 then (if 0 ≤ (wrap64 ((t123.size : Int) - 1)) then (if (wrap64 ((t123.size : Int) - 1)) ≤ (t123.size : Int) then (if 1 ≤ (t124.size : Int) then (if (t123.extract 0 ((wrap64 ((t123.size : Int) - 1)) : Int).toNat).size + (t124.extract 1 t124.size).size ≤ 9223372036854775807 then (some (t125.toList == ((t123.extract 0 ((wrap64 ((t123.size : Int) - 1)) : Int).toNat) ++ (t124.extract 1 t124.size)).toList)) else (none)) else (none)) else (none)) else (none)) else (some false)) else (some false))))) = some r := H
                have A15 := Aside0.mk A150
                clear A150
                by_cases c16 : t126 = true
                · subst c16
                  have H1 : (some (decide ((t125.size : Int) > (wrap64 (((a0 ++ a1).size : Int) + 2))))) = some r := by rw [if_pos rfl] at H; exact H
                  clear H
                  have H := H1
                  clear H1
                  obtain rfl := Option.some.inj H
                  go_wp2_with (first | (go_at_call 7; (with_reducible refine (impl_Literal.calls kj5 a0 t123 _ A11.out).mono ?_); rintro e w' ⟨rfl, ⟨nd, rfl⟩⟩; (try first | exact ⟨rfl, _, World.drewN_drewN _ _ _⟩ | exact ⟨rfl, _, Eq.trans (World.drewN_drewN _ _ _) (congrArg (World.drewN _) (Nat.add_assoc _ _ _))⟩)) | (go_at_call 7; (with_reducible refine (impl_Literal.calls kj5 a1 t124 _ A12.out).mono ?_); rintro e w' ⟨rfl, ⟨nd, rfl⟩⟩; (try first | exact ⟨rfl, _, World.drewN_drewN _ _ _⟩ | exact ⟨rfl, _, Eq.trans (World.drewN_drewN _ _ _) (congrArg (World.drewN _) (Nat.add_assoc _ _ _))⟩)) | (go_at_call 7; (with_reducible refine (impl_Literal.calls kj5 (a0 ++ a1) t125 _ A14.out).mono ?_); rintro e w' ⟨rfl, ⟨nd, rfl⟩⟩; (try first | exact ⟨rfl, _, World.drewN_drewN _ _ _⟩ | exact ⟨rfl, _, Eq.trans (World.drewN_drewN _ _ _) (congrArg (World.drewN _) (Nat.add_assoc _ _ _))⟩)) | (go_at_call 10; (with_reducible refine (spec_HasByte.calls kj5 a0 92 true _ A15.out).mono ?_); rintro e w' ⟨rfl, ⟨nd, rfl⟩⟩; (try first | exact ⟨rfl, _, World.drewN_drewN _ _ _⟩ | exact ⟨rfl, _, Eq.trans (World.drewN_drewN _ _ _) (congrArg (World.drewN _) (Nat.add_assoc _ _ _))⟩)))
                  repeat (go_quiet (first | (go_at_call 7; (with_reducible refine (impl_Literal.calls kj5 a0 t123 _ A11.out).mono ?_); rintro e w' ⟨rfl, ⟨nd, rfl⟩⟩; (try first | exact ⟨rfl, _, World.drewN_drewN _ _ _⟩ | exact ⟨rfl, _, Eq.trans (World.drewN_drewN _ _ _) (congrArg (World.drewN _) (Nat.add_assoc _ _ _))⟩)) | (go_at_call 7; (with_reducible refine (impl_Literal.calls kj5 a1 t124 _ A12.out).mono ?_); rintro e w' ⟨rfl, ⟨nd, rfl⟩⟩; (try first | exact ⟨rfl, _, World.drewN_drewN _ _ _⟩ | exact ⟨rfl, _, Eq.trans (World.drewN_drewN _ _ _) (congrArg (World.drewN _) (Nat.add_assoc _ _ _))⟩)) | (go_at_call 7; (with_reducible refine (impl_Literal.calls kj5 (a0 ++ a1) t125 _ A14.out).mono ?_); rintro e w' ⟨rfl, ⟨nd, rfl⟩⟩; (try first | exact ⟨rfl, _, World.drewN_drewN _ _ _⟩ | exact ⟨rfl, _, Eq.trans (World.drewN_drewN _ _ _) (congrArg (World.drewN _) (Nat.add_assoc _ _ _))⟩)) | (go_at_call 10; (with_reducible refine (spec_HasByte.calls kj5 a0 92 true _ A15.out).mono ?_); rintro e w' ⟨rfl, ⟨nd, rfl⟩⟩; (try first | exact ⟨rfl, _, World.drewN_drewN _ _ _⟩ | exact ⟨rfl, _, Eq.trans (World.drewN_drewN _ _ _) (congrArg (World.drewN _) (Nat.add_assoc _ _ _))⟩))); try go_wp2_with (first | (go_at_call 7; (with_reducible refine (impl_Literal.calls kj5 a0 t123 _ A11.out).mono ?_); rintro e w' ⟨rfl, ⟨nd, rfl⟩⟩; (try first | exact ⟨rfl, _, World.drewN_drewN _ _ _⟩ | exact ⟨rfl, _, Eq.trans (World.drewN_drewN _ _ _) (congrArg (World.drewN _) (Nat.add_assoc _ _ _))⟩)) | (go_at_call 7; (with_reducible refine (impl_Literal.calls kj5 a1 t124 _ A12.out).mono ?_); rintro e w' ⟨rfl, ⟨nd, rfl⟩⟩; (try first | exact ⟨rfl, _, World.drewN_drewN _ _ _⟩ | exact ⟨rfl, _, Eq.trans (World.drewN_drewN _ _ _) (congrArg (World.drewN _) (Nat.add_assoc _ _ _))⟩)) | (go_at_call 7; (with_reducible refine (impl_Literal.calls kj5 (a0 ++ a1) t125 _ A14.out).mono ?_); rintro e w' ⟨rfl, ⟨nd, rfl⟩⟩; (try first | exact ⟨rfl, _, World.drewN_drewN _ _ _⟩ | exact ⟨rfl, _, Eq.trans (World.drewN_drewN _ _ _) (congrArg (World.drewN _) (Nat.add_assoc _ _ _))⟩)) | (go_at_call 10; (with_reducible refine (spec_HasByte.calls kj5 a0 92 true _ A15.out).mono ?_); rintro e w' ⟨rfl, ⟨nd, rfl⟩⟩; (try first | exact ⟨rfl, _, World.drewN_drewN _ _ _⟩ | exact ⟨rfl, _, Eq.trans (World.drewN_drewN _ _ _) (congrArg (World.drewN _) (Nat.add_assoc _ _ _))⟩))))
                  go_ret
                  exact ⟨by first | rfl | (simp; done) | (simp [*]; done), by repeat (first | exact Drawn0.refl _ | apply Drawn0.step)⟩
                · replace c16 := Bool.eq_false_iff.mpr c16
                  subst c16
                  have H1 : ((spec_HasByte.f kj5 a1 92).bind fun t127 => (if t127 = true then (some (decide ((t125.size : Int) > (wrap64 (((a0 ++ a1).size : Int) + 2))))) else (if (t123.size : Int) > 1 then (if (t124.size : Int) > 1 then (if 0 ≤ (wrap64 ((t123.size : Int) - 1)) then (if (wrap64 ((t123.size : Int) - 1)) ≤ (t123.size : Int) then (if 1 ≤ (t124.size : Int) then (if (t123.extract 0 ((wrap64 ((t123.size : Int) - 1)) : Int).toNat).size + (t124.extract 1 t124.size).size ≤ 9223372036854775807 then (some (t125.toList == ((t123.extract 0 ((wrap64 ((t123.size : Int) - 1)) : Int).toNat) ++ (t124.extract 1 t124.size)).toList)) else (none)) else (none)) else (none)) else (none)) else (some false)) else (some false)))) = some r := by rw [if_neg (show ¬ (false = true) by decide)] at H; exact H
                  clear H
                  have H := H1
                  clear H1
                  replace H := Option.bind_eq_some_iff.mp H
                  obtain ⟨t127, A170, H⟩ := H
                  replace H : (if t127 = true then (some (decide ((t125.size : Int) > (wrap64 (((a0 ++ a1).size : Int) + 2))))) else (if (t123.size : Int) > 1 then (if (t124.size : Int) > 1 then (if 0 ≤ (wrap64 ((t123.size : Int) - 1)) then (if (wrap64 ((t123.size : Int) - 1)) ≤ (t123.size : Int) then (if 1 ≤ (t124.size : Int) then (if (t123.extract 0 ((wrap64 ((t123.size : Int) - 1)) : Int).toNat).size + (t124.extract 1 t124.size).size ≤ 9223372036854775807 then (some (t125.toList == ((t123.extract 0 ((wrap64 ((t123.size : Int) - 1)) : Int).toNat) ++ (t124.extract 1 t124.size)).toList)) else (none)) else (none)) else (none)) else (none)) else (some false)) else (some false))) = some r := H
                  have A17 := Aside0.mk A170
                  clear A170
                  by_cases c18 : t127 = true
                  · subst c18
                    have H1 : (some (decide ((t125.size : Int) > (wrap64 (((a0 ++ a1).size : Int) + 2))))) = some r := by rw [if_pos rfl] at H; exact H
                    clear H
                    have H := H1
                    clear H1
                    obtain rfl := Option.some.inj H
                    go_wp2_with (first | (go_at_call 7; (with_reducible refine (impl_Literal.calls kj5 a0 t123 _ A11.out).mono ?_); rintro e w' ⟨rfl, ⟨nd, rfl⟩⟩; (try first | exact ⟨rfl, _, World.drewN_drewN _ _ _⟩ | exact ⟨rfl, _, Eq.trans (World.drewN_drewN _ _ _) (congrArg (World.drewN _) (Nat.add_assoc _ _ _))⟩)) | (go_at_call 7; (with_reducible refine (impl_Literal.calls kj5 a1 t124 _ A12.out).mono ?_); rintro e w' ⟨rfl, ⟨nd, rfl⟩⟩; (try first | exact ⟨rfl, _, World.drewN_drewN _ _ _⟩ | exact ⟨rfl, _, Eq.trans (World.drewN_drewN _ _ _) (congrArg (World.drewN _) (Nat.add_assoc _ _ _))⟩)) | (go_at_call 7; (with_reducible refine (impl_Literal.calls kj5 (a0 ++ a1) t125 _ A14.out).mono ?_); rintro e w' ⟨rfl, ⟨nd, rfl⟩⟩; (try first | exact ⟨rfl, _, World.drewN_drewN _ _ _⟩ | exact ⟨rfl, _, Eq.trans (World.drewN_drewN _ _ _) (congrArg (World.drewN _) (Nat.add_assoc _ _ _))⟩)) | (go_at_call 10; (with_reducible refine (spec_HasByte.calls kj5 a0 92 false _ A15.out).mono ?_); rintro e w' ⟨rfl, ⟨nd, rfl⟩⟩; (try first | exact ⟨rfl, _, World.drewN_drewN _ _ _⟩ | exact ⟨rfl, _, Eq.trans (World.drewN_drewN _ _ _) (congrArg (World.drewN _) (Nat.add_assoc _ _ _))⟩)) | (go_at_call 10; (with_reducible refine (spec_HasByte.calls kj5 a1 92 true _ A17.out).mono ?_); rintro e w' ⟨rfl, ⟨nd, rfl⟩⟩; (try first | exact ⟨rfl, _, World.drewN_drewN _ _ _⟩ | exact ⟨rfl, _, Eq.trans (World.drewN_drewN _ _ _) (congrArg (World.drewN _) (Nat.add_assoc _ _ _))⟩)))
                    repeat (go_quiet (first | (go_at_call 7; (with_reducible refine (impl_Literal.calls kj5 a0 t123 _ A11.out).mono ?_); rintro e w' ⟨rfl, ⟨nd, rfl⟩⟩; (try first | exact ⟨rfl, _, World.drewN_drewN _ _ _⟩ | exact ⟨rfl, _, Eq.trans (World.drewN_drewN _ _ _) (congrArg (World.drewN _) (Nat.add_assoc _ _ _))⟩)) | (go_at_call 7; (with_reducible refine (impl_Literal.calls kj5 a1 t124 _ A12.out).mono ?_); rintro e w' ⟨rfl, ⟨nd, rfl⟩⟩; (try first | exact ⟨rfl, _, World.drewN_drewN _ _ _⟩ | exact ⟨rfl, _, Eq.trans (World.drewN_drewN _ _ _) (congrArg (World.drewN _) (Nat.add_assoc _ _ _))⟩)) | (go_at_call 7; (with_reducible refine (impl_Literal.calls kj5 (a0 ++ a1) t125 _ A14.out).mono ?_); rintro e w' ⟨rfl, ⟨nd, rfl⟩⟩; (try first | exact ⟨rfl, _, World.drewN_drewN _ _ _⟩ | exact ⟨rfl, _, Eq.trans (World.drewN_drewN _ _ _) (congrArg (World.drewN _) (Nat.add_assoc _ _ _))⟩)) | (go_at_call 10; (with_reducible refine (spec_HasByte.calls kj5 a0 92 false _ A15.out).mono ?_); rintro e w' ⟨rfl, ⟨nd, rfl⟩⟩; (try first | exact ⟨rfl, _, World.drewN_drewN _ _ _⟩ | exact ⟨rfl, _, Eq.trans (World.drewN_drewN _ _ _) (congrArg (World.drewN _) (Nat.add_assoc _ _ _))⟩)) | (go_at_call 10; (with_reducible refine (spec_HasByte.calls kj5 a1 92 true _ A17.out).mono ?_); rintro e w' ⟨rfl, ⟨nd, rfl⟩⟩; (try first | exact ⟨rfl, _, World.drewN_drewN _ _ _⟩ | exact ⟨rfl, _, Eq.trans (World.drewN_drewN _ _ _) (congrArg (World.drewN _) (Nat.add_assoc _ _ _))⟩))); try go_wp2_with (first | (go_at_call 7; (with_reducible refine (impl_Literal.calls kj5 a0 t123 _ A11.out).mono ?_); rintro e w' ⟨rfl, ⟨nd, rfl⟩⟩; (try first | exact ⟨rfl, _, World.drewN_drewN _ _ _⟩ | exact ⟨rfl, _, Eq.trans (World.drewN_drewN _ _ _) (congrArg (World.drewN _) (Nat.add_assoc _ _ _))⟩)) | (go_at_call 7; (with_reducible refine (impl_Literal.calls kj5 a1 t124 _ A12.out).mono ?_); rintro e w' ⟨rfl, ⟨nd, rfl⟩⟩; (try first | exact ⟨rfl, _, World.drewN_drewN _ _ _⟩ | exact ⟨rfl, _, Eq.trans (World.drewN_drewN _ _ _) (congrArg (World.drewN _) (Nat.add_assoc _ _ _))⟩)) | (go_at_call 7; (with_reducible refine (impl_Literal.calls kj5 (a0 ++ a1) t125 _ A14.out).mono ?_); rintro e w' ⟨rfl, ⟨nd, rfl⟩⟩; (try first | exact ⟨rfl, _, World.drewN_drewN _ _ _⟩ | exact ⟨rfl, _, Eq.trans (World.drewN_drewN _ _ _) (congrArg (World.drewN _) (Nat.add_assoc _ _ _))⟩)) | (go_at_call 10; (with_reducible refine (spec_HasByte.calls kj5 a0 92 false _ A15.out).mono ?_); rintro e w' ⟨rfl, ⟨nd, rfl⟩⟩; (try first | exact ⟨rfl, _, World.drewN_drewN _ _ _⟩ | exact ⟨rfl, _, Eq.trans (World.drewN_drewN _ _ _) (congrArg (World.drewN _) (Nat.add_assoc _ _ _))⟩)) | (go_at_call 10; (with_reducible refine (spec_HasByte.calls kj5 a1 92 true _ A17.out).mono ?_); rintro e w' ⟨rfl, ⟨nd, rfl⟩⟩; (try first | exact ⟨rfl, _, World.drewN_drewN _ _ _⟩ | exact ⟨rfl, _, Eq.trans (World.drewN_drewN _ _ _) (congrArg (World.drewN _) (Nat.add_assoc _ _ _))⟩))))
                    go_ret
                    exact ⟨by first | rfl | (simp; done) | (simp [*]; done), by repeat (first | exact Drawn0.refl _ | apply Drawn0.step)⟩
                  · replace c18 := Bool.eq_false_iff.mpr c18
                    subst c18
                    have H1 : (if (t123.size : Int) > 1 then (if (t124.size : Int) > 1 then (if 0 ≤ (wrap64 ((t123.size : Int) - 1)) then (if (wrap64 ((t123.size : Int) - 1)) ≤ (t123.size : Int) then (if 1 ≤ (t124.size : Int) then (if (t123.extract 0 ((wrap64 ((t123.size : Int) - 1)) : Int).toNat).size + (t124.extract 1 t124.size).size ≤ 9223372036854775807 then (some (t125.toList == ((t123.extract 0 ((wrap64 ((t123.size : Int) - 1)) : Int).toNat) ++ (t124.extract 1 t124.size)).toList)) else (none)) else (none)) else (none)) else (none)) else (some false)) else (some false)) = some r := by rw [if_neg (show ¬ (false = true) by decide)] at H; exact H
                    clear H
                    have H := H1
                    clear H1
                    by_cases c19 : (t123.size : Int) > 1
                    · rw [if_pos c19] at H
                      have c19b0 : decide (1 < (t123.size : Int)) = true := decide_eq_true c19
                      have c19b1 : decide (1 < t123.size) = true := decide_eq_true (by omega)
                      clear c19
                      by_cases c20 : (t124.size : Int) > 1
                      · rw [if_pos c20] at H
                        have c20b0 : decide (1 < (t124.size : Int)) = true := decide_eq_true c20
                        have c20b1 : decide (1 < t124.size) = true := decide_eq_true (by omega)
                        clear c20
                        obtain ⟨ji21, hji21⟩ : ∃ j_ : Int, (wrap64 ((t123.size : Int) - 1)) = j_ := ⟨_, rfl⟩
                        replace H : (if 0 ≤ (ji21) then (if (ji21) ≤ (t123.size : Int) then (if 1 ≤ (t124.size : Int) then (if (t123.extract 0 ((ji21) : Int).toNat).size + (t124.extract 1 t124.size).size ≤ 9223372036854775807 then (some (t125.toList == ((t123.extract 0 ((ji21) : Int).toNat) ++ (t124.extract 1 t124.size)).toList)) else (none)) else (none)) else (none)) else (none)) = some r := by first | (rw [hji21] at H; exact H) | (simp only [hji21] at H ⊢; exact H)
                        (try rw [hji21] at A11)
                        (try rw [hji21] at A12)
                        (try rw [hji21] at A14)
                        (try rw [hji21] at A15)
                        (try rw [hji21] at A17)
                        have hji21w : (IntKind.i64.wrap ((t123.size : Int) - 1)) = ji21 := (i64_w _).trans hji21
                        by_cases c22 : 0 ≤ (ji21)
                        · rw [if_pos c22] at H
                          have c22b0 := eq_true c22
                          have c22b1 : decide (0 ≤ (ji21)) = true := decide_eq_true c22
                          clear c22
                          by_cases c23 : (ji21) ≤ (t123.size : Int)
                          · rw [if_pos c23] at H
                            have c23b0 := eq_true c23
                            have c23b1 : decide ((ji21) ≤ (t123.size : Int)) = true := decide_eq_true c23
                            clear c23
                            by_cases c24 : 1 ≤ (t124.size : Int)
                            · rw [if_pos c24] at H
                              have c24b0 := eq_true c24
                              have c24b1 : decide (1 ≤ (t124.size : Int)) = true := decide_eq_true c24
                              clear c24
                              by_cases c25 : (t123.extract 0 ((ji21) : Int).toNat).size + (t124.extract 1 t124.size).size ≤ 9223372036854775807
                              · rw [if_pos c25] at H
                                have c25b0 := eq_true c25
                                have c25b1 : decide ((t123.extract 0 ((ji21) : Int).toNat).size + (t124.extract 1 t124.size).size ≤ 9223372036854775807) = true := decide_eq_true c25
                                try have c25b2 : (9223372036854775807 < (t123.extract 0 ((ji21) : Int).toNat).size + (t124.extract 1 t124.size).size) = False := eq_false (Nat.not_lt.2 c25)
                                obtain rfl := Option.some.inj H
                                go_wp2_with (first | (go_at_call 7; (with_reducible refine (impl_Literal.calls kj5 a0 t123 _ A11.out).mono ?_); rintro e w' ⟨rfl, ⟨nd, rfl⟩⟩; (try first | exact ⟨rfl, _, World.drewN_drewN _ _ _⟩ | exact ⟨rfl, _, Eq.trans (World.drewN_drewN _ _ _) (congrArg (World.drewN _) (Nat.add_assoc _ _ _))⟩)) | (go_at_call 7; (with_reducible refine (impl_Literal.calls kj5 a1 t124 _ A12.out).mono ?_); rintro e w' ⟨rfl, ⟨nd, rfl⟩⟩; (try first | exact ⟨rfl, _, World.drewN_drewN _ _ _⟩ | exact ⟨rfl, _, Eq.trans (World.drewN_drewN _ _ _) (congrArg (World.drewN _) (Nat.add_assoc _ _ _))⟩)) | (go_at_call 7; (with_reducible refine (impl_Literal.calls kj5 (a0 ++ a1) t125 _ A14.out).mono ?_); rintro e w' ⟨rfl, ⟨nd, rfl⟩⟩; (try first | exact ⟨rfl, _, World.drewN_drewN _ _ _⟩ | exact ⟨rfl, _, Eq.trans (World.drewN_drewN _ _ _) (congrArg (World.drewN _) (Nat.add_assoc _ _ _))⟩)) | (go_at_call 10; (with_reducible refine (spec_HasByte.calls kj5 a0 92 false _ A15.out).mono ?_); rintro e w' ⟨rfl, ⟨nd, rfl⟩⟩; (try first | exact ⟨rfl, _, World.drewN_drewN _ _ _⟩ | exact ⟨rfl, _, Eq.trans (World.drewN_drewN _ _ _) (congrArg (World.drewN _) (Nat.add_assoc _ _ _))⟩)) | (go_at_call 10; (with_reducible refine (spec_HasByte.calls kj5 a1 92 false _ A17.out).mono ?_); rintro e w' ⟨rfl, ⟨nd, rfl⟩⟩; (try first | exact ⟨rfl, _, World.drewN_drewN _ _ _⟩ | exact ⟨rfl, _, Eq.trans (World.drewN_drewN _ _ _) (congrArg (World.drewN _) (Nat.add_assoc _ _ _))⟩)))
                                repeat (go_quiet (first | (go_at_call 7; (with_reducible refine (impl_Literal.calls kj5 a0 t123 _ A11.out).mono ?_); rintro e w' ⟨rfl, ⟨nd, rfl⟩⟩; (try first | exact ⟨rfl, _, World.drewN_drewN _ _ _⟩ | exact ⟨rfl, _, Eq.trans (World.drewN_drewN _ _ _) (congrArg (World.drewN _) (Nat.add_assoc _ _ _))⟩)) | (go_at_call 7; (with_reducible refine (impl_Literal.calls kj5 a1 t124 _ A12.out).mono ?_); rintro e w' ⟨rfl, ⟨nd, rfl⟩⟩; (try first | exact ⟨rfl, _, World.drewN_drewN _ _ _⟩ | exact ⟨rfl, _, Eq.trans (World.drewN_drewN _ _ _) (congrArg (World.drewN _) (Nat.add_assoc _ _ _))⟩)) | (go_at_call 7; (with_reducible refine (impl_Literal.calls kj5 (a0 ++ a1) t125 _ A14.out).mono ?_); rintro e w' ⟨rfl, ⟨nd, rfl⟩⟩; (try first | exact ⟨rfl, _, World.drewN_drewN _ _ _⟩ | exact ⟨rfl, _, Eq.trans (World.drewN_drewN _ _ _) (congrArg (World.drewN _) (Nat.add_assoc _ _ _))⟩)) | (go_at_call 10; (with_reducible refine (spec_HasByte.calls kj5 a0 92 false _ A15.out).mono ?_); rintro e w' ⟨rfl, ⟨nd, rfl⟩⟩; (try first | exact ⟨rfl, _, World.drewN_drewN _ _ _⟩ | exact ⟨rfl, _, Eq.trans (World.drewN_drewN _ _ _) (congrArg (World.drewN _) (Nat.add_assoc _ _ _))⟩)) | (go_at_call 10; (with_reducible refine (spec_HasByte.calls kj5 a1 92 false _ A17.out).mono ?_); rintro e w' ⟨rfl, ⟨nd, rfl⟩⟩; (try first | exact ⟨rfl, _, World.drewN_drewN _ _ _⟩ | exact ⟨rfl, _, Eq.trans (World.drewN_drewN _ _ _) (congrArg (World.drewN _) (Nat.add_assoc _ _ _))⟩))); try go_wp2_with (first | (go_at_call 7; (with_reducible refine (impl_Literal.calls kj5 a0 t123 _ A11.out).mono ?_); rintro e w' ⟨rfl, ⟨nd, rfl⟩⟩; (try first | exact ⟨rfl, _, World.drewN_drewN _ _ _⟩ | exact ⟨rfl, _, Eq.trans (World.drewN_drewN _ _ _) (congrArg (World.drewN _) (Nat.add_assoc _ _ _))⟩)) | (go_at_call 7; (with_reducible refine (impl_Literal.calls kj5 a1 t124 _ A12.out).mono ?_); rintro e w' ⟨rfl, ⟨nd, rfl⟩⟩; (try first | exact ⟨rfl, _, World.drewN_drewN _ _ _⟩ | exact ⟨rfl, _, Eq.trans (World.drewN_drewN _ _ _) (congrArg (World.drewN _) (Nat.add_assoc _ _ _))⟩)) | (go_at_call 7; (with_reducible refine (impl_Literal.calls kj5 (a0 ++ a1) t125 _ A14.out).mono ?_); rintro e w' ⟨rfl, ⟨nd, rfl⟩⟩; (try first | exact ⟨rfl, _, World.drewN_drewN _ _ _⟩ | exact ⟨rfl, _, Eq.trans (World.drewN_drewN _ _ _) (congrArg (World.drewN _) (Nat.add_assoc _ _ _))⟩)) | (go_at_call 10; (with_reducible refine (spec_HasByte.calls kj5 a0 92 false _ A15.out).mono ?_); rintro e w' ⟨rfl, ⟨nd, rfl⟩⟩; (try first | exact ⟨rfl, _, World.drewN_drewN _ _ _⟩ | exact ⟨rfl, _, Eq.trans (World.drewN_drewN _ _ _) (congrArg (World.drewN _) (Nat.add_assoc _ _ _))⟩)) | (go_at_call 10; (with_reducible refine (spec_HasByte.calls kj5 a1 92 false _ A17.out).mono ?_); rintro e w' ⟨rfl, ⟨nd, rfl⟩⟩; (try first | exact ⟨rfl, _, World.drewN_drewN _ _ _⟩ | exact ⟨rfl, _, Eq.trans (World.drewN_drewN _ _ _) (congrArg (World.drewN _) (Nat.add_assoc _ _ _))⟩))))
                                go_ret
                                exact ⟨by first | rfl | (simp; done) | (simp only [← hji21] <;> (first | rfl | simp)) | (simp [*]; done), by repeat (first | exact Drawn0.refl _ | apply Drawn0.step)⟩
                              · rw [if_neg c25] at H
                                exact absurd H (by simp)
                            · rw [if_neg c24] at H
                              exact absurd H (by simp)
                          · rw [if_neg c23] at H
                            exact absurd H (by simp)
                        · rw [if_neg c22] at H
                          exact absurd H (by simp)
                      · rw [if_neg c20] at H
                        have c20b0 : decide (1 < (t124.size : Int)) = false := decide_eq_false c20
                        have c20b1 : decide (1 < t124.size) = false := decide_eq_false (by omega)
                        clear c20
                        obtain rfl := Option.some.inj H
                        go_wp2_with (first | (go_at_call 7; (with_reducible refine (impl_Literal.calls kj5 a0 t123 _ A11.out).mono ?_); rintro e w' ⟨rfl, ⟨nd, rfl⟩⟩; (try first | exact ⟨rfl, _, World.drewN_drewN _ _ _⟩ | exact ⟨rfl, _, Eq.trans (World.drewN_drewN _ _ _) (congrArg (World.drewN _) (Nat.add_assoc _ _ _))⟩)) | (go_at_call 7; (with_reducible refine (impl_Literal.calls kj5 a1 t124 _ A12.out).mono ?_); rintro e w' ⟨rfl, ⟨nd, rfl⟩⟩; (try first | exact ⟨rfl, _, World.drewN_drewN _ _ _⟩ | exact ⟨rfl, _, Eq.trans (World.drewN_drewN _ _ _) (congrArg (World.drewN _) (Nat.add_assoc _ _ _))⟩)) | (go_at_call 7; (with_reducible refine (impl_Literal.calls kj5 (a0 ++ a1) t125 _ A14.out).mono ?_); rintro e w' ⟨rfl, ⟨nd, rfl⟩⟩; (try first | exact ⟨rfl, _, World.drewN_drewN _ _ _⟩ | exact ⟨rfl, _, Eq.trans (World.drewN_drewN _ _ _) (congrArg (World.drewN _) (Nat.add_assoc _ _ _))⟩)) | (go_at_call 10; (with_reducible refine (spec_HasByte.calls kj5 a0 92 false _ A15.out).mono ?_); rintro e w' ⟨rfl, ⟨nd, rfl⟩⟩; (try first | exact ⟨rfl, _, World.drewN_drewN _ _ _⟩ | exact ⟨rfl, _, Eq.trans (World.drewN_drewN _ _ _) (congrArg (World.drewN _) (Nat.add_assoc _ _ _))⟩)) | (go_at_call 10; (with_reducible refine (spec_HasByte.calls kj5 a1 92 false _ A17.out).mono ?_); rintro e w' ⟨rfl, ⟨nd, rfl⟩⟩; (try first | exact ⟨rfl, _, World.drewN_drewN _ _ _⟩ | exact ⟨rfl, _, Eq.trans (World.drewN_drewN _ _ _) (congrArg (World.drewN _) (Nat.add_assoc _ _ _))⟩)))
                        repeat (go_quiet (first | (go_at_call 7; (with_reducible refine (impl_Literal.calls kj5 a0 t123 _ A11.out).mono ?_); rintro e w' ⟨rfl, ⟨nd, rfl⟩⟩; (try first | exact ⟨rfl, _, World.drewN_drewN _ _ _⟩ | exact ⟨rfl, _, Eq.trans (World.drewN_drewN _ _ _) (congrArg (World.drewN _) (Nat.add_assoc _ _ _))⟩)) | (go_at_call 7; (with_reducible refine (impl_Literal.calls kj5 a1 t124 _ A12.out).mono ?_); rintro e w' ⟨rfl, ⟨nd, rfl⟩⟩; (try first | exact ⟨rfl, _, World.drewN_drewN _ _ _⟩ | exact ⟨rfl, _, Eq.trans (World.drewN_drewN _ _ _) (congrArg (World.drewN _) (Nat.add_assoc _ _ _))⟩)) | (go_at_call 7; (with_reducible refine (impl_Literal.calls kj5 (a0 ++ a1) t125 _ A14.out).mono ?_); rintro e w' ⟨rfl, ⟨nd, rfl⟩⟩; (try first | exact ⟨rfl, _, World.drewN_drewN _ _ _⟩ | exact ⟨rfl, _, Eq.trans (World.drewN_drewN _ _ _) (congrArg (World.drewN _) (Nat.add_assoc _ _ _))⟩)) | (go_at_call 10; (with_reducible refine (spec_HasByte.calls kj5 a0 92 false _ A15.out).mono ?_); rintro e w' ⟨rfl, ⟨nd, rfl⟩⟩; (try first | exact ⟨rfl, _, World.drewN_drewN _ _ _⟩ | exact ⟨rfl, _, Eq.trans (World.drewN_drewN _ _ _) (congrArg (World.drewN _) (Nat.add_assoc _ _ _))⟩)) | (go_at_call 10; (with_reducible refine (spec_HasByte.calls kj5 a1 92 false _ A17.out).mono ?_); rintro e w' ⟨rfl, ⟨nd, rfl⟩⟩; (try first | exact ⟨rfl, _, World.drewN_drewN _ _ _⟩ | exact ⟨rfl, _, Eq.trans (World.drewN_drewN _ _ _) (congrArg (World.drewN _) (Nat.add_assoc _ _ _))⟩))); try go_wp2_with (first | (go_at_call 7; (with_reducible refine (impl_Literal.calls kj5 a0 t123 _ A11.out).mono ?_); rintro e w' ⟨rfl, ⟨nd, rfl⟩⟩; (try first | exact ⟨rfl, _, World.drewN_drewN _ _ _⟩ | exact ⟨rfl, _, Eq.trans (World.drewN_drewN _ _ _) (congrArg (World.drewN _) (Nat.add_assoc _ _ _))⟩)) | (go_at_call 7; (with_reducible refine (impl_Literal.calls kj5 a1 t124 _ A12.out).mono ?_); rintro e w' ⟨rfl, ⟨nd, rfl⟩⟩; (try first | exact ⟨rfl, _, World.drewN_drewN _ _ _⟩ | exact ⟨rfl, _, Eq.trans (World.drewN_drewN _ _ _) (congrArg (World.drewN _) (Nat.add_assoc _ _ _))⟩)) | (go_at_call 7; (with_reducible refine (impl_Literal.calls kj5 (a0 ++ a1) t125 _ A14.out).mono ?_); rintro e w' ⟨rfl, ⟨nd, rfl⟩⟩; (try first | exact ⟨rfl, _, World.drewN_drewN _ _ _⟩ | exact ⟨rfl, _, Eq.trans (World.drewN_drewN _ _ _) (congrArg (World.drewN _) (Nat.add_assoc _ _ _))⟩)) | (go_at_call 10; (with_reducible refine (spec_HasByte.calls kj5 a0 92 false _ A15.out).mono ?_); rintro e w' ⟨rfl, ⟨nd, rfl⟩⟩; (try first | exact ⟨rfl, _, World.drewN_drewN _ _ _⟩ | exact ⟨rfl, _, Eq.trans (World.drewN_drewN _ _ _) (congrArg (World.drewN _) (Nat.add_assoc _ _ _))⟩)) | (go_at_call 10; (with_reducible refine (spec_HasByte.calls kj5 a1 92 false _ A17.out).mono ?_); rintro e w' ⟨rfl, ⟨nd, rfl⟩⟩; (try first | exact ⟨rfl, _, World.drewN_drewN _ _ _⟩ | exact ⟨rfl, _, Eq.trans (World.drewN_drewN _ _ _) (congrArg (World.drewN _) (Nat.add_assoc _ _ _))⟩))))
                        go_ret
                        exact ⟨by first | rfl | (simp; done) | (simp [*]; done), by repeat (first | exact Drawn0.refl _ | apply Drawn0.step)⟩
                    · rw [if_neg c19] at H
                      have c19b0 : decide (1 < (t123.size : Int)) = false := decide_eq_false c19
                      have c19b1 : decide (1 < t123.size) = false := decide_eq_false (by omega)
                      clear c19
                      obtain rfl := Option.some.inj H
                      go_wp2_with (first | (go_at_call 7; (with_reducible refine (impl_Literal.calls kj5 a0 t123 _ A11.out).mono ?_); rintro e w' ⟨rfl, ⟨nd, rfl⟩⟩; (try first | exact ⟨rfl, _, World.drewN_drewN _ _ _⟩ | exact ⟨rfl, _, Eq.trans (World.drewN_drewN _ _ _) (congrArg (World.drewN _) (Nat.add_assoc _ _ _))⟩)) | (go_at_call 7; (with_reducible refine (impl_Literal.calls kj5 a1 t124 _ A12.out).mono ?_); rintro e w' ⟨rfl, ⟨nd, rfl⟩⟩; (try first | exact ⟨rfl, _, World.drewN_drewN _ _ _⟩ | exact ⟨rfl, _, Eq.trans (World.drewN_drewN _ _ _) (congrArg (World.drewN _) (Nat.add_assoc _ _ _))⟩)) | (go_at_call 7; (with_reducible refine (impl_Literal.calls kj5 (a0 ++ a1) t125 _ A14.out).mono ?_); rintro e w' ⟨rfl, ⟨nd, rfl⟩⟩; (try first | exact ⟨rfl, _, World.drewN_drewN _ _ _⟩ | exact ⟨rfl, _, Eq.trans (World.drewN_drewN _ _ _) (congrArg (World.drewN _) (Nat.add_assoc _ _ _))⟩)) | (go_at_call 10; (with_reducible refine (spec_HasByte.calls kj5 a0 92 false _ A15.out).mono ?_); rintro e w' ⟨rfl, ⟨nd, rfl⟩⟩; (try first | exact ⟨rfl, _, World.drewN_drewN _ _ _⟩ | exact ⟨rfl, _, Eq.trans (World.drewN_drewN _ _ _) (congrArg (World.drewN _) (Nat.add_assoc _ _ _))⟩)) | (go_at_call 10; (with_reducible refine (spec_HasByte.calls kj5 a1 92 false _ A17.out).mono ?_); rintro e w' ⟨rfl, ⟨nd, rfl⟩⟩; (try first | exact ⟨rfl, _, World.drewN_drewN _ _ _⟩ | exact ⟨rfl, _, Eq.trans (World.drewN_drewN _ _ _) (congrArg (World.drewN _) (Nat.add_assoc _ _ _))⟩)))
                      repeat (go_quiet (first | (go_at_call 7; (with_reducible refine (impl_Literal.calls kj5 a0 t123 _ A11.out).mono ?_); rintro e w' ⟨rfl, ⟨nd, rfl⟩⟩; (try first | exact ⟨rfl, _, World.drewN_drewN _ _ _⟩ | exact ⟨rfl, _, Eq.trans (World.drewN_drewN _ _ _) (congrArg (World.drewN _) (Nat.add_assoc _ _ _))⟩)) | (go_at_call 7; (with_reducible refine (impl_Literal.calls kj5 a1 t124 _ A12.out).mono ?_); rintro e w' ⟨rfl, ⟨nd, rfl⟩⟩; (try first | exact ⟨rfl, _, World.drewN_drewN _ _ _⟩ | exact ⟨rfl, _, Eq.trans (World.drewN_drewN _ _ _) (congrArg (World.drewN _) (Nat.add_assoc _ _ _))⟩)) | (go_at_call 7; (with_reducible refine (impl_Literal.calls kj5 (a0 ++ a1) t125 _ A14.out).mono ?_); rintro e w' ⟨rfl, ⟨nd, rfl⟩⟩; (try first | exact ⟨rfl, _, World.drewN_drewN _ _ _⟩ | exact ⟨rfl, _, Eq.trans (World.drewN_drewN _ _ _) (congrArg (World.drewN _) (Nat.add_assoc _ _ _))⟩)) | (go_at_call 10; (with_reducible refine (spec_HasByte.calls kj5 a0 92 false _ A15.out).mono ?_); rintro e w' ⟨rfl, ⟨nd, rfl⟩⟩; (try first | exact ⟨rfl, _, World.drewN_drewN _ _ _⟩ | exact ⟨rfl, _, Eq.trans (World.drewN_drewN _ _ _) (congrArg (World.drewN _) (Nat.add_assoc _ _ _))⟩)) | (go_at_call 10; (with_reducible refine (spec_HasByte.calls kj5 a1 92 false _ A17.out).mono ?_); rintro e w' ⟨rfl, ⟨nd, rfl⟩⟩; (try first | exact ⟨rfl, _, World.drewN_drewN _ _ _⟩ | exact ⟨rfl, _, Eq.trans (World.drewN_drewN _ _ _) (congrArg (World.drewN _) (Nat.add_assoc _ _ _))⟩))); try go_wp2_with (first | (go_at_call 7; (with_reducible refine (impl_Literal.calls kj5 a0 t123 _ A11.out).mono ?_); rintro e w' ⟨rfl, ⟨nd, rfl⟩⟩; (try first | exact ⟨rfl, _, World.drewN_drewN _ _ _⟩ | exact ⟨rfl, _, Eq.trans (World.drewN_drewN _ _ _) (congrArg (World.drewN _) (Nat.add_assoc _ _ _))⟩)) | (go_at_call 7; (with_reducible refine (impl_Literal.calls kj5 a1 t124 _ A12.out).mono ?_); rintro e w' ⟨rfl, ⟨nd, rfl⟩⟩; (try first | exact ⟨rfl, _, World.drewN_drewN _ _ _⟩ | exact ⟨rfl, _, Eq.trans (World.drewN_drewN _ _ _) (congrArg (World.drewN _) (Nat.add_assoc _ _ _))⟩)) | (go_at_call 7; (with_reducible refine (impl_Literal.calls kj5 (a0 ++ a1) t125 _ A14.out).mono ?_); rintro e w' ⟨rfl, ⟨nd, rfl⟩⟩; (try first | exact ⟨rfl, _, World.drewN_drewN _ _ _⟩ | exact ⟨rfl, _, Eq.trans (World.drewN_drewN _ _ _) (congrArg (World.drewN _) (Nat.add_assoc _ _ _))⟩)) | (go_at_call 10; (with_reducible refine (spec_HasByte.calls kj5 a0 92 false _ A15.out).mono ?_); rintro e w' ⟨rfl, ⟨nd, rfl⟩⟩; (try first | exact ⟨rfl, _, World.drewN_drewN _ _ _⟩ | exact ⟨rfl, _, Eq.trans (World.drewN_drewN _ _ _) (congrArg (World.drewN _) (Nat.add_assoc _ _ _))⟩)) | (go_at_call 10; (with_reducible refine (spec_HasByte.calls kj5 a1 92 false _ A17.out).mono ?_); rintro e w' ⟨rfl, ⟨nd, rfl⟩⟩; (try first | exact ⟨rfl, _, World.drewN_drewN _ _ _⟩ | exact ⟨rfl, _, Eq.trans (World.drewN_drewN _ _ _) (congrArg (World.drewN _) (Nat.add_assoc _ _ _))⟩))))
                      go_ret
                      exact ⟨by first | rfl | (simp; done) | (simp [*]; done), by repeat (first | exact Drawn0.refl _ | apply Drawn0.step)⟩
              · rw [if_neg c13] at H
                exact absurd H (by simp)

/-- THE ONE PURE STATEMENT of laws_FnLiteralParts: yours. -/
def laws_FnLiteralParts.Pure : Prop := ∀ (a0 : ByteArray) (a1 : ByteArray), a0.size ≤ 140737488351232 → a1.size ≤ 140737488351232 → ∃ k, laws_FnLiteralParts.f k a0 a1 = some true
theorem laws_FnLiteralParts.walk (P : laws_FnLiteralParts.Pure) (a0 : ByteArray) (a1 : ByteArray) (w : World) (w0 : a0.size ≤ 140737488351232) (w1 : a1.size ≤ 140737488351232) :
    Calls Try.prog 5 #[.string a0, .string a1] w fun e w' => e = .returned (.bool true) ∧ Below w.heap.size w w' := by
  obtain ⟨k, h⟩ := P a0 a1 w0 w1
  refine (laws_FnLiteralParts.calls k a0 a1 true w h).mono ?_
  rintro e w' ⟨rfl, hd⟩
  exact ⟨rfl, hd.below⟩

end Go.Proofs.Ytlfkejljbehcaab.P
