-- Written by the program wip/myprint.py of this session, over the kit's print of the translation. Lean checks it.
import Derived.Test.YtlfkejljbehcaaaPx0
import Derived.Test.YtlfkejljbehcaaaPx1
import Derived.Test.YtlfkejljbehcaaaPx2
import Derived.Test.YtlfkejljbehcaaaPx3
namespace Go.Proofs.Ytlfkejljbehcaaa.P
open Go.RowKit Go.Proofs.YtlfkejljbehcaaaW.PrintWords Go.Proofs.YtlfkejljbehcaaaW.PrintLast Go.Proofs.YtlfkejljbehcaaaW.PrintMore
attribute [local go_sem] max2_int min2_int max_two min_two max_three min_three max_four min_four   -- for this text's walks alone
set_option linter.unusedVariables false
set_option linter.unusedSimpArgs false

/-! ### spec_Unquoted: function 21 -/
mutual
def spec_Unquoted.j0 : Nat → ByteArray → Int → Bool → Option (ByteArray × Bool)
  | 0, _, _, _ => none
  | k + 1, x0, x1, x25 => if x25 = true then (some ((⟨#[]⟩ : ByteArray), false)) else (spec_Unquoted.l0 k x0 x1 (⟨#[]⟩ : ByteArray) 1)
def spec_Unquoted.l0 : Nat → ByteArray → Int → ByteArray → Int → Option (ByteArray × Bool)
  | 0, _, _, _, _ => none
  | k + 1, x0, x1, x6, x7 => if x7 < (wrap64 ((x0.size : Int) - 1)) then (if 0 ≤ x7 then (if x7 < (x0.size : Int) then (if (bt x0 x7) = x1 then (if (wrap64 (x7 + 1)) ≥ (wrap64 ((x0.size : Int) - 1)) then (some ((⟨#[]⟩ : ByteArray), false)) else (if 0 ≤ (wrap64 (x7 + 1)) then (if (wrap64 (x7 + 1)) < (x0.size : Int) then (if (bt x0 (wrap64 (x7 + 1))) = x1 then (if (wrap64 (x7 + 1)) ≤ (wrap64 ((wrap64 (x7 + 1)) + 1)) then (if (wrap64 ((wrap64 (x7 + 1)) + 1)) ≤ (x0.size : Int) then (if x6.size + (x0.extract ((wrap64 (x7 + 1)) : Int).toNat ((wrap64 ((wrap64 (x7 + 1)) + 1)) : Int).toNat).size ≤ 9223372036854775807 then (spec_Unquoted.l0 k x0 x1 (x6 ++ (x0.extract ((wrap64 (x7 + 1)) : Int).toNat ((wrap64 ((wrap64 (x7 + 1)) + 1)) : Int).toNat)) (wrap64 ((wrap64 (x7 + 1)) + 1))) else (none)) else (none)) else (none)) else (some ((⟨#[]⟩ : ByteArray), false))) else (none)) else (none))) else (if x7 ≤ (wrap64 (x7 + 1)) then (if (wrap64 (x7 + 1)) ≤ (x0.size : Int) then (if x6.size + (x0.extract (x7 : Int).toNat ((wrap64 (x7 + 1)) : Int).toNat).size ≤ 9223372036854775807 then (spec_Unquoted.l0 k x0 x1 (x6 ++ (x0.extract (x7 : Int).toNat ((wrap64 (x7 + 1)) : Int).toNat)) (wrap64 (x7 + 1))) else (none)) else (none)) else (none))) else (none)) else (none)) else (some (x6, true))
end
def spec_Unquoted.f (k : Nat) (a0 : ByteArray) (a1 : Int) : Option (ByteArray × Bool) := if (a0.size : Int) < 2 then (spec_Unquoted.j0 k a0 a1 true) else (if 0 < (a0.size : Int) then (if (bt a0 0) = a1 then (if 0 ≤ (wrap64 ((a0.size : Int) - 1)) then (if (wrap64 ((a0.size : Int) - 1)) < (a0.size : Int) then (spec_Unquoted.j0 k a0 a1 ((bt a0 (wrap64 ((a0.size : Int) - 1))) != a1)) else (none)) else (none)) else (spec_Unquoted.j0 k a0 a1 true)) else (none))
theorem spec_Unquoted.mono_l : ∀ k, (∀ y0 y1 y2, LeO (spec_Unquoted.j0 k y0 y1 y2) (spec_Unquoted.j0 (k + 1) y0 y1 y2)) ∧ (∀ y0 y1 y2 y3, LeO (spec_Unquoted.l0 k y0 y1 y2 y3) (spec_Unquoted.l0 (k + 1) y0 y1 y2 y3))
  | 0 => ⟨fun _ _ _ r h => by simp [spec_Unquoted.j0] at h, fun _ _ _ _ r h => by simp [spec_Unquoted.l0] at h⟩
  | k + 1 => by
    obtain ⟨ih0, ih1⟩ := spec_Unquoted.mono_l k
    refine ⟨?_, ?_⟩
    · intro y0 y1 y2
      unfold spec_Unquoted.j0
      repeat' first
      | (with_reducible exact ih0 _ _ _)
      | (with_reducible exact ih1 _ _ _ _)
      | (with_reducible exact LeO.refl _)
      | (with_reducible exact LeO.none _)
      | (with_reducible refine LeO.ite ?_ ?_)
      | (with_reducible refine LeO.bind ?_ (fun _ => ?_))
      | exact ih0 _ _ _
      | exact ih1 _ _ _ _
      | exact LeO.none _
      | refine LeO.ite ?_ ?_
      | refine LeO.bind ?_ (fun _ => ?_)
    · intro y0 y1 y2 y3
      unfold spec_Unquoted.l0
      repeat' first
      | (with_reducible exact ih0 _ _ _)
      | (with_reducible exact ih1 _ _ _ _)
      | (with_reducible exact LeO.refl _)
      | (with_reducible exact LeO.none _)
      | (with_reducible refine LeO.ite ?_ ?_)
      | (with_reducible refine LeO.bind ?_ (fun _ => ?_))
      | exact ih0 _ _ _
      | exact ih1 _ _ _ _
      | exact LeO.none _
      | refine LeO.ite ?_ ?_
      | refine LeO.bind ?_ (fun _ => ?_)
theorem spec_Unquoted.mono : ∀ a0 a1 k, LeO (spec_Unquoted.f k a0 a1) (spec_Unquoted.f (k + 1) a0 a1) := by
  intro a0 a1 k
  obtain ⟨ih0, ih1⟩ := spec_Unquoted.mono_l k
  unfold spec_Unquoted.f
  repeat' first
      | (with_reducible exact ih0 _ _ _)
      | (with_reducible exact ih1 _ _ _ _)
      | (with_reducible exact LeO.refl _)
      | (with_reducible exact LeO.none _)
      | (with_reducible refine LeO.ite ?_ ?_)
      | (with_reducible refine LeO.bind ?_ (fun _ => ?_))
      | exact ih0 _ _ _
      | exact ih1 _ _ _ _
      | exact LeO.none _
      | refine LeO.ite ?_ ?_
      | refine LeO.bind ?_ (fun _ => ?_)
set_option maxHeartbeats 8000000 in
set_option maxRecDepth 100000 in
theorem spec_Unquoted.calls (k : Nat) (a0 : ByteArray) (a1 : Int) (r1 : ByteArray) (r2 : Bool) (w : World) (h : spec_Unquoted.f k a0 a1 = some (r1, r2)) :
    Calls Try.prog 21 #[.string a0, .int .u8 a1] w fun e w' => e = .returned (.tuple #[.string r1, .bool r2]) ∧ Drawn0 w w' := by
  have H : (if (a0.size : Int) < 2 then (spec_Unquoted.j0 k a0 a1 true) else (if 0 < (a0.size : Int) then (if (bt a0 0) = a1 then (if 0 ≤ (wrap64 ((a0.size : Int) - 1)) then (if (wrap64 ((a0.size : Int) - 1)) < (a0.size : Int) then (spec_Unquoted.j0 k a0 a1 ((bt a0 (wrap64 ((a0.size : Int) - 1))) != a1)) else (none)) else (none)) else (spec_Unquoted.j0 k a0 a1 true)) else (none))) = some (r1, r2) := h
  clear h
  have HC3 := Aside0.mk H
  clear H
  go_enter Try.func21, Try.ntmps21
  go_upto_region 1 with (fail)
  go_cut [25] (fun v25 wc => ∃ (kq : Nat) (x25_2 : Bool), v25 = .bool x25_2 ∧ Aside0 (spec_Unquoted.j0 kq a0 a1 x25_2 = some (r1, r2)) ∧ Aside0 (kq ≤ k) ∧ Drawn0 w wc)
  case first =>
    have H := HC3.out
    clear HC3
    by_cases c4 : (a0.size : Int) < 2
    · rw [if_pos c4] at H
      have c4b0 : decide ((a0.size : Int) < 2) = true := decide_eq_true c4
      have c4b1 : decide (a0.size < 2) = true := decide_eq_true (by omega)
      clear c4
      (first | rw [c4b0] | (simp only [i64_w, i32_w]; rw [c4b0]) | skip)
      have H' := Aside0.mk H
      clear H
      go_wp2
      go_meet
      case rel => exact ⟨_, (true), (by first | rfl | (simp; done) | (simp [*]; done)), H', ⟨by first | omega | exact Nat.le_refl _⟩, by repeat (first | exact Drawn0.refl _ | apply Drawn0.step)⟩
    · rw [if_neg c4] at H
      have c4b0 : decide ((a0.size : Int) < 2) = false := decide_eq_false c4
      have c4b1 : decide (a0.size < 2) = false := decide_eq_false (by omega)
      clear c4
      (first | rw [c4b0] | (simp only [i64_w, i32_w]; rw [c4b0]) | skip)
      by_cases c5 : 0 < (a0.size : Int)
      · rw [if_pos c5] at H
        have c5b0 : decide (0 < (a0.size : Int)) = true := decide_eq_true c5
        have c5b1 : decide (0 < a0.size) = true := decide_eq_true (by omega)
        clear c5
        by_cases c7 : (bt a0 0) = a1
        · rw [if_pos c7] at H
          have c7b0 : ((bt a0 0) == a1) = true := beq_iff_eq.mpr c7
          have c7b1 : ((bt a0 0) != a1) = false := bne_eq_false_iff_eq.mpr c7
          clear c7
          obtain ⟨ji8, hji8⟩ : ∃ j_ : Int, (wrap64 ((a0.size : Int) - 1)) = j_ := ⟨_, rfl⟩
          replace H : (if 0 ≤ (ji8) then (if (ji8) < (a0.size : Int) then (spec_Unquoted.j0 k a0 a1 ((bt a0 (ji8)) != a1)) else (none)) else (none)) = some (r1, r2) := by first | (rw [hji8] at H; exact H) | (simp only [hji8] at H ⊢; exact H)
          have hji8w : (IntKind.i64.wrap ((a0.size : Int) - 1)) = ji8 := (i64_w _).trans hji8
          by_cases c9 : 0 ≤ (ji8)
          · rw [if_pos c9] at H
            have c9b0 : decide (0 ≤ (ji8)) = true := decide_eq_true c9
            clear c9
            by_cases c10 : (ji8) < (a0.size : Int)
            · rw [if_pos c10] at H
              have c10b0 : decide ((ji8) < (a0.size : Int)) = true := decide_eq_true c10
              clear c10
              have H' := Aside0.mk H
              clear H
              have p6 : 0 ≤ (0 : Int) := (by omega)
              have q6 : 0 < a0.size := (by have : (0 : Int) < (a0.size : Int) := of_decide_eq_true (by first | (with_reducible assumption) | assumption); omega)
              have hx6 : ∀ h : 0 < a0.size, ((a0[0]'h).toNat : Int) = bt a0 0 := bt_at a0 0
              clear p6
              have qi6 : (0 < (a0.size : Int)) = True := eq_true (of_decide_eq_true (by first | (with_reducible assumption) | assumption))
              replace q6 := eq_true q6
              have p11 : 0 ≤ ((ji8) : Int) := of_decide_eq_true (by first | (with_reducible assumption) | assumption)
              have q11 : (ji8) < (a0.size : Int) := of_decide_eq_true (by first | (with_reducible assumption) | assumption)
              have hx11 := bt_at a0 (ji8)
              replace p11 := eq_true p11
              replace q11 := eq_true q11
              go_wp2
              go_meet
              case rel => exact ⟨_, (((bt a0 (ji8)) != a1)), (by first | rfl | (simp; done) | (simp only [← hji8] <;> (first | rfl | simp)) | (simp [*]; done)), H', ⟨by first | omega | exact Nat.le_refl _⟩, by repeat (first | exact Drawn0.refl _ | apply Drawn0.step)⟩
            · rw [if_neg c10] at H
              exact absurd H (by simp)
          · rw [if_neg c9] at H
            exact absurd H (by simp)
        · rw [if_neg c7] at H
          have c7b0 : ((bt a0 0) == a1) = false := beq_eq_false_iff_ne.mpr c7
          have c7b1 : ((bt a0 0) != a1) = true := bne_iff_ne.mpr c7
          have H' := Aside0.mk H
          clear H
          have p6 : 0 ≤ (0 : Int) := (by omega)
          have q6 : 0 < a0.size := (by have : (0 : Int) < (a0.size : Int) := of_decide_eq_true (by first | (with_reducible assumption) | assumption); omega)
          have hx6 : ∀ h : 0 < a0.size, ((a0[0]'h).toNat : Int) = bt a0 0 := bt_at a0 0
          clear p6
          have qi6 : (0 < (a0.size : Int)) = True := eq_true (of_decide_eq_true (by first | (with_reducible assumption) | assumption))
          replace q6 := eq_true q6
          go_wp2
          go_meet
          case rel => exact ⟨_, (true), (by first | rfl | (simp; done) | (simp [*]; done)), H', ⟨by first | omega | exact Nat.le_refl _⟩, by repeat (first | exact Drawn0.refl _ | apply Drawn0.step)⟩
      · rw [if_neg c5] at H
        exact absurd H (by simp)
  case rest =>
    clear HC3
    try clear c1
    try clear p1
    try clear q1
    try clear hx1
    try clear c2
    try clear p2
    try clear c4
    try clear c4b0
    try clear c4b1
    try clear c5
    try clear c5b0
    try clear c5b1
    try clear p6
    try clear q6
    try clear hx6
    try clear qi6
    try clear c7
    try clear c7b0
    try clear c7b1
    try clear c9
    try clear c9b0
    try clear c10
    try clear c10b0
    try clear p11
    try clear q11
    try clear hx11
    try clear p11
    try clear p6
    try clear q11
    try clear q6
    obtain ⟨kq, x25_2, rfl, HA, HJ2, ⟨mc2, rfl⟩⟩ := hcut
    cases kq with
    | zero => exact absurd HA.out (by simp [spec_Unquoted.j0])
    | succ kj2 =>
      have H := HA.out
      clear HA
      simp only [spec_Unquoted.j0] at H
      by_cases c12 : x25_2 = true
      · subst c12
        have H1 : (some ((⟨#[]⟩ : ByteArray), false)) = some (r1, r2) := by rw [if_pos rfl] at H; exact H
        clear H
        have H := H1
        clear H1
        simp only [Option.some.injEq, Prod.mk.injEq] at H
        obtain ⟨rfl, rfl⟩ := H
        go_wp2
        go_ret2
        exact ⟨by first | rfl | (simp; done) | (simp [*]; done), by repeat (first | exact Drawn0.refl _ | apply Drawn0.step)⟩
      · replace c12 := Bool.eq_false_iff.mpr c12
        subst c12
        have H1 : (spec_Unquoted.l0 kj2 a0 a1 (⟨#[]⟩ : ByteArray) 1) = some (r1, r2) := by rw [if_neg (show ¬ (false = true) by decide)] at H; exact H
        clear H
        have H := H1
        clear H1
        have H' := Aside0.mk H
        clear H
        go_wp2
        go_loopg [6, 7] kj2 (fun kq v6 v7 w' => ∃ (x6_2 : ByteArray) (x7_2 : Int), v6 = .string x6_2 ∧ v7 = .int .i64 x7_2 ∧ Aside0 (spec_Unquoted.l0 kq a0 a1 x6_2 x7_2 = some (r1, r2)) ∧ Aside0 (kq ≤ kj2) ∧ Drawn0 w w')
        case atStart => exact ⟨((⟨#[]⟩ : ByteArray)), (1), (by first | rfl | (simp; done) | (simp [*]; done)), (by first | rfl | (simp; done) | (simp [*]; done)), H', ⟨Nat.le_refl _⟩, by repeat (first | exact Drawn0.refl _ | apply Drawn0.step)⟩
        case round =>
          clear H'
          try clear c1
          try clear p1
          try clear q1
          try clear hx1
          try clear c2
          try clear p2
          try clear c4
          try clear c4b0
          try clear c4b1
          try clear c5
          try clear c5b0
          try clear c5b1
          try clear p6
          try clear q6
          try clear hx6
          try clear qi6
          try clear c7
          try clear c7b0
          try clear c7b1
          try clear c9
          try clear c9b0
          try clear c10
          try clear c10b0
          try clear p11
          try clear q11
          try clear hx11
          try clear c12
          try clear p1
          try clear p11
          try clear p2
          try clear p6
          try clear q1
          try clear q11
          try clear q6
          obtain ⟨x6_2, x7_2, rfl, rfl, HA, HK2, ⟨m2, rfl⟩⟩ := hrel
          cases gk with
          | zero => exact absurd HA.out (by simp [spec_Unquoted.l0])
          | succ k2 =>
            have H := HA.out
            clear HA
            simp only [spec_Unquoted.l0] at H
            by_cases c13 : x7_2 < (wrap64 ((a0.size : Int) - 1))
            · rw [if_pos c13] at H
              have c13b0 : decide (x7_2 < (wrap64 ((a0.size : Int) - 1))) = true := decide_eq_true c13
              clear c13
              by_cases c14 : 0 ≤ x7_2
              · rw [if_pos c14] at H
                have c14b0 : decide (0 ≤ x7_2) = true := decide_eq_true c14
                clear c14
                by_cases c15 : x7_2 < (a0.size : Int)
                · rw [if_pos c15] at H
                  have c15b0 : decide (x7_2 < (a0.size : Int)) = true := decide_eq_true c15
                  clear c15
                  by_cases c17 : (bt a0 x7_2) = a1
                  · rw [if_pos c17] at H
                    have c17b0 : ((bt a0 x7_2) == a1) = true := beq_iff_eq.mpr c17
                    have c17b1 : ((bt a0 x7_2) != a1) = false := bne_eq_false_iff_eq.mpr c17
                    clear c17
                    by_cases c18 : (wrap64 (x7_2 + 1)) ≥ (wrap64 ((a0.size : Int) - 1))
                    · rw [if_pos c18] at H
                      have c18b0 : decide ((wrap64 ((a0.size : Int) - 1)) ≤ (wrap64 (x7_2 + 1))) = true := decide_eq_true c18
                      clear c18
                      simp only [Option.some.injEq, Prod.mk.injEq] at H
                      obtain ⟨rfl, rfl⟩ := H
                      have p16 : 0 ≤ (x7_2 : Int) := of_decide_eq_true (by first | (with_reducible assumption) | assumption)
                      have q16 : x7_2 < (a0.size : Int) := of_decide_eq_true (by first | (with_reducible assumption) | assumption)
                      have hx16 := bt_at a0 x7_2
                      replace p16 := eq_true p16
                      replace q16 := eq_true q16
                      go_wp2
                      go_ret2
                      exact ⟨by first | rfl | (simp; done) | (simp [*]; done), by repeat (first | exact Drawn0.refl _ | apply Drawn0.step)⟩
                    · rw [if_neg c18] at H
                      have c18b0 : decide ((wrap64 ((a0.size : Int) - 1)) ≤ (wrap64 (x7_2 + 1))) = false := decide_eq_false c18
                      clear c18
                      obtain ⟨ji19, hji19⟩ : ∃ j_ : Int, (wrap64 (x7_2 + 1)) = j_ := ⟨_, rfl⟩
                      replace H : (if 0 ≤ (ji19) then (if (ji19) < (a0.size : Int) then (if (bt a0 (ji19)) = a1 then (if (ji19) ≤ (wrap64 ((ji19) + 1)) then (if (wrap64 ((ji19) + 1)) ≤ (a0.size : Int) then (if x6_2.size + (a0.extract ((ji19) : Int).toNat ((wrap64 ((ji19) + 1)) : Int).toNat).size ≤ 9223372036854775807 then (spec_Unquoted.l0 k2 a0 a1 (x6_2 ++ (a0.extract ((ji19) : Int).toNat ((wrap64 ((ji19) + 1)) : Int).toNat)) (wrap64 ((ji19) + 1))) else (none)) else (none)) else (none)) else (some ((⟨#[]⟩ : ByteArray), false))) else (none)) else (none)) = some (r1, r2) := by first | (rw [hji19] at H; exact H) | (simp only [hji19] at H ⊢; exact H)
                      (try rw [hji19] at c18b0)
                      have hji19w : (IntKind.i64.wrap (x7_2 + 1)) = ji19 := (i64_w _).trans hji19
                      by_cases c20 : 0 ≤ (ji19)
                      · rw [if_pos c20] at H
                        have c20b0 : decide (0 ≤ (ji19)) = true := decide_eq_true c20
                        clear c20
                        by_cases c21 : (ji19) < (a0.size : Int)
                        · rw [if_pos c21] at H
                          have c21b0 : decide ((ji19) < (a0.size : Int)) = true := decide_eq_true c21
                          clear c21
                          by_cases c23 : (bt a0 (ji19)) = a1
                          · rw [if_pos c23] at H
                            have c23b0 : ((bt a0 (ji19)) == a1) = true := beq_iff_eq.mpr c23
                            have c23b1 : ((bt a0 (ji19)) != a1) = false := bne_eq_false_iff_eq.mpr c23
                            clear c23
                            have c24b0 := eq_true (of_decide_eq_true (by first | (with_reducible assumption) | assumption) : 0 ≤ (ji19))
                            by_cases c25 : (ji19) ≤ (wrap64 ((ji19) + 1))
                            · rw [if_pos c25] at H
                              have c25b0 := eq_true c25
                              have c25b1 : decide ((ji19) ≤ (wrap64 ((ji19) + 1))) = true := decide_eq_true c25
                              by_cases c26 : (wrap64 ((ji19) + 1)) ≤ (a0.size : Int)
                              · rw [if_pos c26] at H
                                have c26b0 := eq_true c26
                                have c26b1 : decide ((wrap64 ((ji19) + 1)) ≤ (a0.size : Int)) = true := decide_eq_true c26
                                by_cases c27 : x6_2.size + (a0.extract ((ji19) : Int).toNat ((wrap64 ((ji19) + 1)) : Int).toNat).size ≤ 9223372036854775807
                                · rw [if_pos c27] at H
                                  have c27b0 := eq_true c27
                                  have c27b1 : decide (x6_2.size + (a0.extract ((ji19) : Int).toNat ((wrap64 ((ji19) + 1)) : Int).toNat).size ≤ 9223372036854775807) = true := decide_eq_true c27
                                  try have c27b2 : (9223372036854775807 < x6_2.size + (a0.extract ((ji19) : Int).toNat ((wrap64 ((ji19) + 1)) : Int).toNat).size) = False := eq_false (Nat.not_lt.2 c27)
                                  have H' := Aside0.mk H
                                  clear H
                                  have p16 : 0 ≤ (x7_2 : Int) := of_decide_eq_true (by first | (with_reducible assumption) | assumption)
                                  have q16 : x7_2 < (a0.size : Int) := of_decide_eq_true (by first | (with_reducible assumption) | assumption)
                                  have hx16 := bt_at a0 x7_2
                                  replace p16 := eq_true p16
                                  replace q16 := eq_true q16
                                  have p22 : 0 ≤ ((ji19) : Int) := of_decide_eq_true (by first | (with_reducible assumption) | assumption)
                                  have q22 : (ji19) < (a0.size : Int) := of_decide_eq_true (by first | (with_reducible assumption) | assumption)
                                  have hx22 := bt_at a0 (ji19)
                                  replace p22 := eq_true p22
                                  replace q22 := eq_true q22
                                  go_wp2
                                  go_roundg k2
                                  case measure => have := HJ2.out; have := HK2.out; omega
                                  case rel => exact ⟨(x6_2 ++ (a0.extract ((ji19) : Int).toNat ((wrap64 ((ji19) + 1)) : Int).toNat)), (wrap64 ((ji19) + 1)), (by first | rfl | (simp; done) | (simp only [← hji19] <;> (first | rfl | simp)) | (simp [*]; done)), (by first | rfl | (simp; done) | (simp only [← hji19] <;> (first | rfl | simp)) | (simp [*]; done)), H', ⟨by have := HJ2.out; have := HK2.out; omega⟩, by repeat (first | exact Drawn0.refl _ | apply Drawn0.step)⟩
                                · rw [if_neg c27] at H
                                  exact absurd H (by simp)
                              · rw [if_neg c26] at H
                                exact absurd H (by simp)
                            · rw [if_neg c25] at H
                              exact absurd H (by simp)
                          · rw [if_neg c23] at H
                            have c23b0 : ((bt a0 (ji19)) == a1) = false := beq_eq_false_iff_ne.mpr c23
                            have c23b1 : ((bt a0 (ji19)) != a1) = true := bne_iff_ne.mpr c23
                            simp only [Option.some.injEq, Prod.mk.injEq] at H
                            obtain ⟨rfl, rfl⟩ := H
                            have p16 : 0 ≤ (x7_2 : Int) := of_decide_eq_true (by first | (with_reducible assumption) | assumption)
                            have q16 : x7_2 < (a0.size : Int) := of_decide_eq_true (by first | (with_reducible assumption) | assumption)
                            have hx16 := bt_at a0 x7_2
                            replace p16 := eq_true p16
                            replace q16 := eq_true q16
                            have p22 : 0 ≤ ((ji19) : Int) := of_decide_eq_true (by first | (with_reducible assumption) | assumption)
                            have q22 : (ji19) < (a0.size : Int) := of_decide_eq_true (by first | (with_reducible assumption) | assumption)
                            have hx22 := bt_at a0 (ji19)
                            replace p22 := eq_true p22
                            replace q22 := eq_true q22
                            go_wp2
                            go_ret2
                            exact ⟨by first | rfl | (simp; done) | (simp only [← hji19] <;> (first | rfl | simp)) | (simp [*]; done), by repeat (first | exact Drawn0.refl _ | apply Drawn0.step)⟩
                        · rw [if_neg c21] at H
                          exact absurd H (by simp)
                      · rw [if_neg c20] at H
                        exact absurd H (by simp)
                  · rw [if_neg c17] at H
                    have c17b0 : ((bt a0 x7_2) == a1) = false := beq_eq_false_iff_ne.mpr c17
                    have c17b1 : ((bt a0 x7_2) != a1) = true := bne_iff_ne.mpr c17
                    have c28b0 := eq_true (of_decide_eq_true (by first | (with_reducible assumption) | assumption) : 0 ≤ x7_2)
                    by_cases c29 : x7_2 ≤ (wrap64 (x7_2 + 1))
                    · rw [if_pos c29] at H
                      have c29b0 := eq_true c29
                      have c29b1 : decide (x7_2 ≤ (wrap64 (x7_2 + 1))) = true := decide_eq_true c29
                      by_cases c30 : (wrap64 (x7_2 + 1)) ≤ (a0.size : Int)
                      · rw [if_pos c30] at H
                        have c30b0 := eq_true c30
                        have c30b1 : decide ((wrap64 (x7_2 + 1)) ≤ (a0.size : Int)) = true := decide_eq_true c30
                        by_cases c31 : x6_2.size + (a0.extract (x7_2 : Int).toNat ((wrap64 (x7_2 + 1)) : Int).toNat).size ≤ 9223372036854775807
                        · rw [if_pos c31] at H
                          have c31b0 := eq_true c31
                          have c31b1 : decide (x6_2.size + (a0.extract (x7_2 : Int).toNat ((wrap64 (x7_2 + 1)) : Int).toNat).size ≤ 9223372036854775807) = true := decide_eq_true c31
                          try have c31b2 : (9223372036854775807 < x6_2.size + (a0.extract (x7_2 : Int).toNat ((wrap64 (x7_2 + 1)) : Int).toNat).size) = False := eq_false (Nat.not_lt.2 c31)
                          have H' := Aside0.mk H
                          clear H
                          have p16 : 0 ≤ (x7_2 : Int) := of_decide_eq_true (by first | (with_reducible assumption) | assumption)
                          have q16 : x7_2 < (a0.size : Int) := of_decide_eq_true (by first | (with_reducible assumption) | assumption)
                          have hx16 := bt_at a0 x7_2
                          replace p16 := eq_true p16
                          replace q16 := eq_true q16
                          go_wp2
                          go_roundg k2
                          case measure => have := HJ2.out; have := HK2.out; omega
                          case rel => exact ⟨(x6_2 ++ (a0.extract (x7_2 : Int).toNat ((wrap64 (x7_2 + 1)) : Int).toNat)), (wrap64 (x7_2 + 1)), (by first | rfl | (simp; done) | (simp [*]; done)), (by first | rfl | (simp; done) | (simp [*]; done)), H', ⟨by have := HJ2.out; have := HK2.out; omega⟩, by repeat (first | exact Drawn0.refl _ | apply Drawn0.step)⟩
                        · rw [if_neg c31] at H
                          exact absurd H (by simp)
                      · rw [if_neg c30] at H
                        exact absurd H (by simp)
                    · rw [if_neg c29] at H
                      exact absurd H (by simp)
                · rw [if_neg c15] at H
                  exact absurd H (by simp)
              · rw [if_neg c14] at H
                exact absurd H (by simp)
            · rw [if_neg c13] at H
              have c13b0 : decide (x7_2 < (wrap64 ((a0.size : Int) - 1))) = false := decide_eq_false c13
              clear c13
              simp only [Option.some.injEq, Prod.mk.injEq] at H
              obtain ⟨rfl, rfl⟩ := H
              go_wp2
              go_ret2
              exact ⟨by first | rfl | (simp; done) | (simp [*]; done), by repeat (first | exact Drawn0.refl _ | apply Drawn0.step)⟩

/-! ### laws_FnIdentifierBack: function 8 -/
def laws_FnIdentifierBack.j0 : Nat → ByteArray → Bool → Option (Bool)
  | 0, _, _ => none
  | k + 1, x0, x15 => if x15 = true then (some true) else ((impl_Identifier.f k x0).bind fun t189 => ((spec_Unquoted.f k t189 34).bind fun bt190 => (if bt190.2 = true then (some (bt190.1.toList == x0.toList)) else (some false))))
def laws_FnIdentifierBack.f (k : Nat) (a0 : ByteArray) : Option (Bool) := if (a0.size : Int) > 2147483647 then (some true) else ((laws_text9.f k a0).bind fun t187 => (if t187 = true then ((spec_UTF8.f k a0).bind fun t188 => (laws_FnIdentifierBack.j0 k a0 (!t188))) else (laws_FnIdentifierBack.j0 k a0 true)))
theorem laws_FnIdentifierBack.mono_l : ∀ k, (∀ y0 y1, LeO (laws_FnIdentifierBack.j0 k y0 y1) (laws_FnIdentifierBack.j0 (k + 1) y0 y1))
  | 0 => fun _ _ r h => by simp [laws_FnIdentifierBack.j0] at h
  | k + 1 => by
    have ih0 := laws_FnIdentifierBack.mono_l k
    · intro y0 y1
      unfold laws_FnIdentifierBack.j0
      repeat' first
      | (with_reducible exact ih0 _ _)
      | (with_reducible exact impl_Identifier.mono _ _)
      | (with_reducible exact laws_text9.mono _ _)
      | (with_reducible exact spec_UTF8.mono _ _)
      | (with_reducible exact spec_Unquoted.mono _ _ _)
      | (with_reducible exact LeO.refl _)
      | (with_reducible exact LeO.none _)
      | (with_reducible refine LeO.ite ?_ ?_)
      | (with_reducible refine LeO.bind ?_ (fun _ => ?_))
      | exact ih0 _ _
      | exact impl_Identifier.mono _ _
      | exact laws_text9.mono _ _
      | exact spec_UTF8.mono _ _
      | exact spec_Unquoted.mono _ _ _
      | exact LeO.none _
      | refine LeO.ite ?_ ?_
      | refine LeO.bind ?_ (fun _ => ?_)
theorem laws_FnIdentifierBack.mono : ∀ a0 k, LeO (laws_FnIdentifierBack.f k a0) (laws_FnIdentifierBack.f (k + 1) a0) := by
  intro a0 k
  have ih0 := laws_FnIdentifierBack.mono_l k
  unfold laws_FnIdentifierBack.f
  repeat' first
      | (with_reducible exact ih0 _ _)
      | (with_reducible exact impl_Identifier.mono _ _)
      | (with_reducible exact laws_text9.mono _ _)
      | (with_reducible exact spec_UTF8.mono _ _)
      | (with_reducible exact spec_Unquoted.mono _ _ _)
      | (with_reducible exact LeO.refl _)
      | (with_reducible exact LeO.none _)
      | (with_reducible refine LeO.ite ?_ ?_)
      | (with_reducible refine LeO.bind ?_ (fun _ => ?_))
      | exact ih0 _ _
      | exact impl_Identifier.mono _ _
      | exact laws_text9.mono _ _
      | exact spec_UTF8.mono _ _
      | exact spec_Unquoted.mono _ _ _
      | exact LeO.none _
      | refine LeO.ite ?_ ?_
      | refine LeO.bind ?_ (fun _ => ?_)
set_option maxHeartbeats 8000000 in
set_option maxRecDepth 100000 in
theorem laws_FnIdentifierBack.calls (k : Nat) (a0 : ByteArray) (r : Bool) (w : World) (h : laws_FnIdentifierBack.f k a0 = some r) :
    Calls Try.prog 8 #[.string a0] w fun e w' => e = .returned (.bool r) ∧ Below w.heap.size w w' := by
  have HB := Aside0.mk (Below.refl w.heap.size w)
  have H : (if (a0.size : Int) > 2147483647 then (some true) else ((laws_text9.f k a0).bind fun t187 => (if t187 = true then ((spec_UTF8.f k a0).bind fun t188 => (laws_FnIdentifierBack.j0 k a0 (!t188))) else (laws_FnIdentifierBack.j0 k a0 true)))) = some r := h
  clear h
  by_cases c2 : (a0.size : Int) > 2147483647
  · rw [if_pos c2] at H
    have c2b0 : decide (2147483647 < (a0.size : Int)) = true := decide_eq_true c2
    have c2b1 : decide (2147483647 < a0.size) = true := decide_eq_true (by omega)
    clear c2
    obtain rfl := Option.some.inj H
    go_enter Try.func8, Try.ntmps8
    go_wp2
    go_ret
    exact ⟨by first | rfl | (simp [errW_none, errW_some] <;> rfl) | (simp [*, errW_none, errW_some] <;> rfl), by repeat (first | (with_reducible first | exact HB.out | apply below_alloc | apply pw_below_drewN | apply below_drew1) | exact HB.out)⟩
  · rw [if_neg c2] at H
    have c2b0 : decide (2147483647 < (a0.size : Int)) = false := decide_eq_false c2
    have c2b1 : decide (2147483647 < a0.size) = false := decide_eq_false (by omega)
    clear c2
    have HC3 := Aside0.mk H
    clear H
    go_enter Try.func8, Try.ntmps8
    go_upto_region 3 with (fail)
    go_cut [15] (fun v15 wc => ∃ (kq : Nat) (x15_2 : Bool), v15 = .bool x15_2 ∧ Aside0 (laws_FnIdentifierBack.j0 kq a0 x15_2 = some r) ∧ Aside0 (kq ≤ k) ∧ Aside0 (Below w.heap.size w wc))
    case first =>
      have H := HC3.out
      clear HC3
      replace H := Option.bind_eq_some_iff.mp H
      obtain ⟨t187, A40, H⟩ := H
      replace H : (if t187 = true then ((spec_UTF8.f k a0).bind fun t188 => (laws_FnIdentifierBack.j0 k a0 (!t188))) else (laws_FnIdentifierBack.j0 k a0 true)) = some r := H
      have A4 := Aside0.mk A40
      clear A40
      by_cases c5 : t187 = true
      · subst c5
        have H1 : ((spec_UTF8.f k a0).bind fun t188 => (laws_FnIdentifierBack.j0 k a0 (!t188))) = some r := by rw [if_pos rfl] at H; exact H
        clear H
        have H := H1
        clear H1
        replace H := Option.bind_eq_some_iff.mp H
        obtain ⟨t188, A60, H⟩ := H
        replace H : (laws_FnIdentifierBack.j0 k a0 (!t188)) = some r := H
        have A6 := Aside0.mk A60
        clear A60
        have H' := Aside0.mk H
        clear H
        go_wp2_with (first | ((with_reducible refine gate_callee (f := 9) rfl ?_); refine goesL_ (some 9) rfl rfl Try.func9 (by kernel_rfl) rfl #[.string a0] rfl (by (try simp only [List.map_toArray, List.map_cons, List.map_nil]); first | done | rfl | (simp only [List.length_drop, List.length_take]; rfl)) ?_; (with_reducible refine (laws_text9.calls k a0 true _ A4.out).mono ?_); rintro e w' ⟨rfl, ⟨nd, rfl⟩⟩; refine ⟨_, rfl, ?_⟩) | (go_at_call 18; (with_reducible refine (spec_UTF8.calls k a0 t188 _ A6.out).mono ?_); rintro e w7 ⟨rfl, hb⟩; have n0_ := Aside0.mk (below_step (by repeat (first | (with_reducible first | exact HB.out | apply below_alloc | apply pw_below_drewN | apply below_drew1) | exact HB.out)) hb); clear HB; have HB := n0_; clear n0_; (try clear hb); (try clear hb2); (try clear hk); (try clear hi)))
        go_meet
        case rel => exact ⟨_, (!t188), (by first | rfl | (simp; done) | (simp [*]; done)), H', ⟨by first | omega | exact Nat.le_refl _⟩, ⟨by repeat (first | (with_reducible first | exact HB.out | apply below_alloc | apply pw_below_drewN | apply below_drew1) | exact HB.out)⟩⟩
      · replace c5 := Bool.eq_false_iff.mpr c5
        subst c5
        have H1 : (laws_FnIdentifierBack.j0 k a0 true) = some r := by rw [if_neg (show ¬ (false = true) by decide)] at H; exact H
        clear H
        have H := H1
        clear H1
        have H' := Aside0.mk H
        clear H
        go_wp2_with (first | ((with_reducible refine gate_callee (f := 9) rfl ?_); refine goesL_ (some 9) rfl rfl Try.func9 (by kernel_rfl) rfl #[.string a0] rfl (by (try simp only [List.map_toArray, List.map_cons, List.map_nil]); first | done | rfl | (simp only [List.length_drop, List.length_take]; rfl)) ?_; (with_reducible refine (laws_text9.calls k a0 false _ A4.out).mono ?_); rintro e w' ⟨rfl, ⟨nd, rfl⟩⟩; refine ⟨_, rfl, ?_⟩))
        go_meet
        case rel => exact ⟨_, (true), (by first | rfl | (simp; done) | (simp [*]; done)), H', ⟨by first | omega | exact Nat.le_refl _⟩, ⟨by repeat (first | (with_reducible first | exact HB.out | apply below_alloc | apply pw_below_drewN | apply below_drew1) | exact HB.out)⟩⟩
    case rest =>
      clear HC3
      try clear c2
      try clear c2b0
      try clear c2b1
      try clear p2
      try clear c5
      obtain ⟨kq, x15_2, rfl, HA, HJ2, HB⟩ := hcut
      cases kq with
      | zero => exact absurd HA.out (by simp [laws_FnIdentifierBack.j0])
      | succ kj2 =>
        have H := HA.out
        clear HA
        simp only [laws_FnIdentifierBack.j0] at H
        by_cases c8 : x15_2 = true
        · subst c8
          have H1 : (some true) = some r := by rw [if_pos rfl] at H; exact H
          clear H
          have H := H1
          clear H1
          obtain rfl := Option.some.inj H
          go_wp2
          go_ret
          exact ⟨by first | rfl | (simp [errW_none, errW_some] <;> rfl) | (simp [*, errW_none, errW_some] <;> rfl), by repeat (first | (with_reducible first | exact HB.out | apply below_alloc | apply pw_below_drewN | apply below_drew1) | exact HB.out)⟩
        · replace c8 := Bool.eq_false_iff.mpr c8
          subst c8
          have H1 : ((impl_Identifier.f kj2 a0).bind fun t189 => ((spec_Unquoted.f kj2 t189 34).bind fun bt190 => (if bt190.2 = true then (some (bt190.1.toList == a0.toList)) else (some false)))) = some r := by rw [if_neg (show ¬ (false = true) by decide)] at H; exact H
          clear H
          have H := H1
          clear H1
          replace H := Option.bind_eq_some_iff.mp H
          obtain ⟨t189, A90, H⟩ := H
          replace H : ((spec_Unquoted.f kj2 t189 34).bind fun bt190 => (if bt190.2 = true then (some (bt190.1.toList == a0.toList)) else (some false))) = some r := H
          have A9 := Aside0.mk A90
          clear A90
          replace H := Option.bind_eq_some_iff.mp H
          obtain ⟨⟨t190, t191⟩, A100, H⟩ := H
          replace H : (if t191 = true then (some (t190.toList == a0.toList)) else (some false)) = some r := H
          have A10 := Aside0.mk A100
          clear A100
          by_cases c11 : t191 = true
          · subst c11
            have H1 : (some (t190.toList == a0.toList)) = some r := by rw [if_pos rfl] at H; exact H
            clear H
            have H := H1
            clear H1
            obtain rfl := Option.some.inj H
            go_wp2_with (first | ((with_reducible refine gate_callee (f := 19) rfl ?_); refine goesL_ (some 18) rfl rfl Try.func19 (by kernel_rfl) rfl #[.string a0] rfl (by (try simp only [List.map_toArray, List.map_cons, List.map_nil]); first | done | rfl | (simp only [List.length_drop, List.length_take]; rfl)) ?_; (with_reducible refine (impl_Identifier.calls kj2 a0 t189 _ A9.out).mono ?_); rintro e w12 ⟨rfl, hb⟩; refine ⟨_, rfl, ?_⟩; have n0_ := Aside0.mk (below_step (by repeat (first | (with_reducible first | exact HB.out | apply below_alloc | apply pw_below_drewN | apply below_drew1) | exact HB.out)) hb); clear HB; have HB := n0_; clear n0_; (try clear hb); (try clear hb2); (try clear hk); (try clear hi)) | ((with_reducible refine gate_callee (f := 21) rfl ?_); refine goesL_ (some 19) rfl rfl Try.func21 (by kernel_rfl) rfl #[.string t189, .int .u8 34] rfl (by (try simp only [List.map_toArray, List.map_cons, List.map_nil]); first | done | rfl | (simp only [List.length_drop, List.length_take]; rfl)) ?_; (with_reducible refine (spec_Unquoted.calls kj2 t189 34 t190 true _ A10.out).mono ?_); rintro e w' ⟨rfl, ⟨nd, rfl⟩⟩; refine ⟨_, rfl, ?_⟩))
            go_ret
            exact ⟨by first | rfl | (simp [errW_none, errW_some] <;> rfl) | (simp [*, errW_none, errW_some] <;> rfl), by repeat (first | (with_reducible first | exact HB.out | apply below_alloc | apply pw_below_drewN | apply below_drew1) | exact HB.out)⟩
          · replace c11 := Bool.eq_false_iff.mpr c11
            subst c11
            have H1 : (some false) = some r := by rw [if_neg (show ¬ (false = true) by decide)] at H; exact H
            clear H
            have H := H1
            clear H1
            obtain rfl := Option.some.inj H
            go_wp2_with (first | ((with_reducible refine gate_callee (f := 19) rfl ?_); refine goesL_ (some 18) rfl rfl Try.func19 (by kernel_rfl) rfl #[.string a0] rfl (by (try simp only [List.map_toArray, List.map_cons, List.map_nil]); first | done | rfl | (simp only [List.length_drop, List.length_take]; rfl)) ?_; (with_reducible refine (impl_Identifier.calls kj2 a0 t189 _ A9.out).mono ?_); rintro e w13 ⟨rfl, hb⟩; refine ⟨_, rfl, ?_⟩; have n0_ := Aside0.mk (below_step (by repeat (first | (with_reducible first | exact HB.out | apply below_alloc | apply pw_below_drewN | apply below_drew1) | exact HB.out)) hb); clear HB; have HB := n0_; clear n0_; (try clear hb); (try clear hb2); (try clear hk); (try clear hi)) | ((with_reducible refine gate_callee (f := 21) rfl ?_); refine goesL_ (some 19) rfl rfl Try.func21 (by kernel_rfl) rfl #[.string t189, .int .u8 34] rfl (by (try simp only [List.map_toArray, List.map_cons, List.map_nil]); first | done | rfl | (simp only [List.length_drop, List.length_take]; rfl)) ?_; (with_reducible refine (spec_Unquoted.calls kj2 t189 34 t190 false _ A10.out).mono ?_); rintro e w' ⟨rfl, ⟨nd, rfl⟩⟩; refine ⟨_, rfl, ?_⟩))
            go_ret
            exact ⟨by first | rfl | (simp [errW_none, errW_some] <;> rfl) | (simp [*, errW_none, errW_some] <;> rfl), by repeat (first | (with_reducible first | exact HB.out | apply below_alloc | apply pw_below_drewN | apply below_drew1) | exact HB.out)⟩

/-- THE ONE PURE STATEMENT of laws_FnIdentifierBack: yours. -/
def laws_FnIdentifierBack.Pure : Prop := ∀ (a0 : ByteArray), a0.size ≤ 140737488351232 → ∃ k, laws_FnIdentifierBack.f k a0 = some true
theorem laws_FnIdentifierBack.walk (P : laws_FnIdentifierBack.Pure) (a0 : ByteArray) (w : World) (w0 : a0.size ≤ 140737488351232) :
    Calls Try.prog 8 #[.string a0] w fun e w' => e = .returned (.bool true) ∧ Below w.heap.size w w' := by
  obtain ⟨k, h⟩ := P a0 w0
  refine (laws_FnIdentifierBack.calls k a0 true w h).mono ?_
  rintro e w' ⟨rfl, hd⟩
  exact ⟨rfl, hd⟩

end Go.Proofs.Ytlfkejljbehcaaa.P
