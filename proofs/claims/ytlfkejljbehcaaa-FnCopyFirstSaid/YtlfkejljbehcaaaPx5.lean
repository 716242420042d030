-- Written by the program wip/myprint.py of this session, over the kit's print of the translation. Lean checks it.
import Derived.Test.YtlfkejljbehcaaaPx0
import Derived.Test.YtlfkejljbehcaaaPx1
import Derived.Test.YtlfkejljbehcaaaPx4
namespace Go.Proofs.Ytlfkejljbehcaaa.P
open Go.RowKit Go.Proofs.YtlfkejljbehcaaaW.PrintWords Go.Proofs.YtlfkejljbehcaaaW.PrintLast Go.Proofs.YtlfkejljbehcaaaW.PrintMore
attribute [local go_sem] max2_int min2_int max_two min_two max_three min_three max_four min_four   -- for this text's walks alone
set_option linter.unusedVariables false
set_option linter.unusedSimpArgs false

/-! ### pqsql_StartsWithCopy: function 27 -/
mutual
def pqsql_StartsWithCopy.l0 : Nat → ByteArray → Bool → Bool → Int → Option (Bool)
  | 0, _, _, _, _ => none
  | k + 1, x0, x3, x4, x5 => if x5 < (x0.size : Int) then (if 0 ≤ x5 then (if x3 = true then (pqsql_StartsWithCopy.l0 k x0 ((bt x0 x5) != 10) x4 (wrap64 (x5 + 1))) else (if x4 = true then (if (bt x0 x5) = 47 then (if 0 ≤ (wrap64 (x5 - 1)) then (if (wrap64 (x5 - 1)) < (x0.size : Int) then (pqsql_StartsWithCopy.l0 k x0 x3 (!((bt x0 (wrap64 (x5 - 1))) == 42)) (wrap64 (x5 + 1))) else (none)) else (none)) else (pqsql_StartsWithCopy.l0 k x0 x3 (!false) (wrap64 (x5 + 1)))) else (if (bt x0 x5) = 45 then (if (x0.size : Int) > (wrap64 (x5 + 1)) then (if 0 ≤ (wrap64 (x5 + 1)) then (if (wrap64 (x5 + 1)) < (x0.size : Int) then (pqsql_StartsWithCopy.j1 k x0 x3 x4 x5 (bt x0 x5) ((bt x0 (wrap64 (x5 + 1))) == 45)) else (none)) else (none)) else (pqsql_StartsWithCopy.j1 k x0 x3 x4 x5 (bt x0 x5) false)) else (pqsql_StartsWithCopy.j1 k x0 x3 x4 x5 (bt x0 x5) false)))) else (none)) else (some false)
def pqsql_StartsWithCopy.j1 : Nat → ByteArray → Bool → Bool → Int → Int → Bool → Option (Bool)
  | 0, _, _, _, _, _, _ => none
  | k + 1, x0, x3, x4, x5, x6, x48 => if x48 = true then (pqsql_StartsWithCopy.l0 k x0 true x4 (wrap64 (x5 + 1))) else (if x6 = 47 then (if (x0.size : Int) > (wrap64 (x5 + 1)) then (if 0 ≤ (wrap64 (x5 + 1)) then (if (wrap64 (x5 + 1)) < (x0.size : Int) then (pqsql_StartsWithCopy.j2 k x0 x3 x4 x5 x6 ((bt x0 (wrap64 (x5 + 1))) == 42)) else (none)) else (none)) else (pqsql_StartsWithCopy.j2 k x0 x3 x4 x5 x6 false)) else (pqsql_StartsWithCopy.j2 k x0 x3 x4 x5 x6 false))
def pqsql_StartsWithCopy.j2 : Nat → ByteArray → Bool → Bool → Int → Int → Bool → Option (Bool)
  | 0, _, _, _, _, _, _ => none
  | k + 1, x0, x3, x4, x5, x6, x64 => if x64 = true then (pqsql_StartsWithCopy.l0 k x0 x3 true (wrap64 (x5 + 1))) else (if x6 = 32 then (pqsql_StartsWithCopy.l0 k x0 x3 x4 (wrap64 (x5 + 1))) else (if x6 = 9 then (pqsql_StartsWithCopy.l0 k x0 x3 x4 (wrap64 (x5 + 1))) else (if x6 = 13 then (pqsql_StartsWithCopy.l0 k x0 x3 x4 (wrap64 (x5 + 1))) else (if x6 = 10 then (pqsql_StartsWithCopy.l0 k x0 x3 x4 (wrap64 (x5 + 1))) else (if (x0.size : Int) > (wrap64 (x5 + 3)) then (if (Go.bits .or .u8 x6 32) = 99 then (if 0 ≤ (wrap64 (x5 + 1)) then (if (wrap64 (x5 + 1)) < (x0.size : Int) then (if (Go.bits .or .u8 (bt x0 (wrap64 (x5 + 1))) 32) = 111 then (if 0 ≤ (wrap64 (x5 + 2)) then (if (wrap64 (x5 + 2)) < (x0.size : Int) then (if (Go.bits .or .u8 (bt x0 (wrap64 (x5 + 2))) 32) = 112 then (if 0 ≤ (wrap64 (x5 + 3)) then (if (wrap64 (x5 + 3)) < (x0.size : Int) then (some ((Go.bits .or .u8 (bt x0 (wrap64 (x5 + 3))) 32) == 121)) else (none)) else (none)) else (some false)) else (none)) else (none)) else (some false)) else (none)) else (none)) else (some false)) else (some false))))))
end
def pqsql_StartsWithCopy.f (k : Nat) (a0 : ByteArray) : Option (Bool) := if (a0.size : Int) < 4 then (some false) else (pqsql_StartsWithCopy.l0 k a0 false false 0)
theorem pqsql_StartsWithCopy.mono_l : ∀ k, (∀ y0 y1 y2 y3, LeO (pqsql_StartsWithCopy.l0 k y0 y1 y2 y3) (pqsql_StartsWithCopy.l0 (k + 1) y0 y1 y2 y3)) ∧ (∀ y0 y1 y2 y3 y4 y5, LeO (pqsql_StartsWithCopy.j1 k y0 y1 y2 y3 y4 y5) (pqsql_StartsWithCopy.j1 (k + 1) y0 y1 y2 y3 y4 y5)) ∧ (∀ y0 y1 y2 y3 y4 y5, LeO (pqsql_StartsWithCopy.j2 k y0 y1 y2 y3 y4 y5) (pqsql_StartsWithCopy.j2 (k + 1) y0 y1 y2 y3 y4 y5))
  | 0 => ⟨fun _ _ _ _ r h => by simp [pqsql_StartsWithCopy.l0] at h, fun _ _ _ _ _ _ r h => by simp [pqsql_StartsWithCopy.j1] at h, fun _ _ _ _ _ _ r h => by simp [pqsql_StartsWithCopy.j2] at h⟩
  | k + 1 => by
    obtain ⟨ih0, ih1, ih2⟩ := pqsql_StartsWithCopy.mono_l k
    refine ⟨?_, ?_, ?_⟩
    · intro y0 y1 y2 y3
      unfold pqsql_StartsWithCopy.l0
      repeat' first
      | (with_reducible exact ih0 _ _ _ _)
      | (with_reducible exact ih1 _ _ _ _ _ _)
      | (with_reducible exact ih2 _ _ _ _ _ _)
      | (with_reducible exact LeO.refl _)
      | (with_reducible exact LeO.none _)
      | (with_reducible refine LeO.ite ?_ ?_)
      | (with_reducible refine LeO.bind ?_ (fun _ => ?_))
      | exact ih0 _ _ _ _
      | exact ih1 _ _ _ _ _ _
      | exact ih2 _ _ _ _ _ _
      | exact LeO.none _
      | refine LeO.ite ?_ ?_
      | refine LeO.bind ?_ (fun _ => ?_)
    · intro y0 y1 y2 y3 y4 y5
      unfold pqsql_StartsWithCopy.j1
      repeat' first
      | (with_reducible exact ih0 _ _ _ _)
      | (with_reducible exact ih1 _ _ _ _ _ _)
      | (with_reducible exact ih2 _ _ _ _ _ _)
      | (with_reducible exact LeO.refl _)
      | (with_reducible exact LeO.none _)
      | (with_reducible refine LeO.ite ?_ ?_)
      | (with_reducible refine LeO.bind ?_ (fun _ => ?_))
      | exact ih0 _ _ _ _
      | exact ih1 _ _ _ _ _ _
      | exact ih2 _ _ _ _ _ _
      | exact LeO.none _
      | refine LeO.ite ?_ ?_
      | refine LeO.bind ?_ (fun _ => ?_)
    · intro y0 y1 y2 y3 y4 y5
      unfold pqsql_StartsWithCopy.j2
      repeat' first
      | (with_reducible exact ih0 _ _ _ _)
      | (with_reducible exact ih1 _ _ _ _ _ _)
      | (with_reducible exact ih2 _ _ _ _ _ _)
      | (with_reducible exact LeO.refl _)
      | (with_reducible exact LeO.none _)
      | (with_reducible refine LeO.ite ?_ ?_)
      | (with_reducible refine LeO.bind ?_ (fun _ => ?_))
      | exact ih0 _ _ _ _
      | exact ih1 _ _ _ _ _ _
      | exact ih2 _ _ _ _ _ _
      | exact LeO.none _
      | refine LeO.ite ?_ ?_
      | refine LeO.bind ?_ (fun _ => ?_)
theorem pqsql_StartsWithCopy.mono : ∀ a0 k, LeO (pqsql_StartsWithCopy.f k a0) (pqsql_StartsWithCopy.f (k + 1) a0) := by
  intro a0 k
  obtain ⟨ih0, ih1, ih2⟩ := pqsql_StartsWithCopy.mono_l k
  unfold pqsql_StartsWithCopy.f
  repeat' first
      | (with_reducible exact ih0 _ _ _ _)
      | (with_reducible exact ih1 _ _ _ _ _ _)
      | (with_reducible exact ih2 _ _ _ _ _ _)
      | (with_reducible exact LeO.refl _)
      | (with_reducible exact LeO.none _)
      | (with_reducible refine LeO.ite ?_ ?_)
      | (with_reducible refine LeO.bind ?_ (fun _ => ?_))
      | exact ih0 _ _ _ _
      | exact ih1 _ _ _ _ _ _
      | exact ih2 _ _ _ _ _ _
      | exact LeO.none _
      | refine LeO.ite ?_ ?_
      | refine LeO.bind ?_ (fun _ => ?_)
set_option maxHeartbeats 8000000 in
set_option maxRecDepth 100000 in
theorem pqsql_StartsWithCopy.calls (k : Nat) (a0 : ByteArray) (r : Bool) (w : World) (h : pqsql_StartsWithCopy.f k a0 = some r) :
    Calls Try.prog 27 #[.string a0] w fun e w' => e = .returned (.bool r) ∧ Drawn0 w w' := by
  have H : (if (a0.size : Int) < 4 then (some false) else (pqsql_StartsWithCopy.l0 k a0 false false 0)) = some r := h
  clear h
  by_cases c2 : (a0.size : Int) < 4
  · rw [if_pos c2] at H
    have c2b0 : decide ((a0.size : Int) < 4) = true := decide_eq_true c2
    have c2b1 : decide (a0.size < 4) = true := decide_eq_true (by omega)
    clear c2
    obtain rfl := Option.some.inj H
    go_enter Try.func27, Try.ntmps27
    go_wp2
    go_ret
    exact ⟨by first | rfl | (simp; done) | (simp [*]; done), by repeat (first | exact Drawn0.refl _ | apply Drawn0.step)⟩
  · rw [if_neg c2] at H
    have c2b0 : decide ((a0.size : Int) < 4) = false := decide_eq_false c2
    have c2b1 : decide (a0.size < 4) = false := decide_eq_false (by omega)
    clear c2
    have H' := Aside0.mk H
    clear H
    go_enter Try.func27, Try.ntmps27
    go_wp2
    go_loopg [3, 4, 5] k (fun kq v3 v4 v5 w' => ∃ (x3_1 : Bool) (x4_1 : Bool) (x5_1 : Int), v3 = .bool x3_1 ∧ v4 = .bool x4_1 ∧ v5 = .int .i64 x5_1 ∧ Aside0 (pqsql_StartsWithCopy.l0 kq a0 x3_1 x4_1 x5_1 = some r) ∧ Aside0 (kq ≤ k) ∧ Drawn0 w w')
    case atStart => exact ⟨(false), (false), (0), (by first | rfl | (simp; done) | (simp [*]; done)), (by first | rfl | (simp; done) | (simp [*]; done)), (by first | rfl | (simp; done) | (simp [*]; done)), H', ⟨Nat.le_refl _⟩, by repeat (first | exact Drawn0.refl _ | apply Drawn0.step)⟩
    case round =>
      clear H'
      try clear c2
      try clear c2b0
      try clear c2b1
      try clear p2
      obtain ⟨x3_1, x4_1, x5_1, rfl, rfl, rfl, HA, HK1, ⟨m1, rfl⟩⟩ := hrel
      cases gk with
      | zero => exact absurd HA.out (by simp [pqsql_StartsWithCopy.l0])
      | succ k1 =>
        have H := HA.out
        clear HA
        simp only [pqsql_StartsWithCopy.l0] at H
        by_cases c3 : x5_1 < (a0.size : Int)
        · rw [if_pos c3] at H
          have c3b0 : decide (x5_1 < (a0.size : Int)) = true := decide_eq_true c3
          clear c3
          by_cases c4 : 0 ≤ x5_1
          · rw [if_pos c4] at H
            have c4b0 : decide (0 ≤ x5_1) = true := decide_eq_true c4
            clear c4
            by_cases c6 : x3_1 = true
            · subst c6
              have H1 : (pqsql_StartsWithCopy.l0 k1 a0 ((bt a0 x5_1) != 10) x4_1 (wrap64 (x5_1 + 1))) = some r := by rw [if_pos rfl] at H; exact H
              clear H
              have H := H1
              clear H1
              have H' := Aside0.mk H
              clear H
              have p5 : 0 ≤ (x5_1 : Int) := of_decide_eq_true (by first | (with_reducible assumption) | assumption)
              have q5 : x5_1 < (a0.size : Int) := of_decide_eq_true (by first | (with_reducible assumption) | assumption)
              have hx5 := bt_at a0 x5_1
              replace p5 := eq_true p5
              replace q5 := eq_true q5
              go_wp2
              go_roundg k1
              case measure => have := HK1.out; omega
              case rel => exact ⟨(((bt a0 x5_1) != 10)), (x4_1), (wrap64 (x5_1 + 1)), (by first | rfl | (simp; done) | (simp [*]; done)), (by first | rfl | (simp; done) | (simp [*]; done)), (by first | rfl | (simp; done) | (simp [*]; done)), H', ⟨by have := HK1.out; omega⟩, by repeat (first | exact Drawn0.refl _ | apply Drawn0.step)⟩
            · replace c6 := Bool.eq_false_iff.mpr c6
              subst c6
              have H1 : (if x4_1 = true then (if (bt a0 x5_1) = 47 then (if 0 ≤ (wrap64 (x5_1 - 1)) then (if (wrap64 (x5_1 - 1)) < (a0.size : Int) then (pqsql_StartsWithCopy.l0 k1 a0 false (!((bt a0 (wrap64 (x5_1 - 1))) == 42)) (wrap64 (x5_1 + 1))) else (none)) else (none)) else (pqsql_StartsWithCopy.l0 k1 a0 false (!false) (wrap64 (x5_1 + 1)))) else (if (bt a0 x5_1) = 45 then (if (a0.size : Int) > (wrap64 (x5_1 + 1)) then (if 0 ≤ (wrap64 (x5_1 + 1)) then (if (wrap64 (x5_1 + 1)) < (a0.size : Int) then (pqsql_StartsWithCopy.j1 k1 a0 false x4_1 x5_1 (bt a0 x5_1) ((bt a0 (wrap64 (x5_1 + 1))) == 45)) else (none)) else (none)) else (pqsql_StartsWithCopy.j1 k1 a0 false x4_1 x5_1 (bt a0 x5_1) false)) else (pqsql_StartsWithCopy.j1 k1 a0 false x4_1 x5_1 (bt a0 x5_1) false))) = some r := by rw [if_neg (show ¬ (false = true) by decide)] at H; exact H
              clear H
              have H := H1
              clear H1
              by_cases c7 : x4_1 = true
              · subst c7
                have H1 : (if (bt a0 x5_1) = 47 then (if 0 ≤ (wrap64 (x5_1 - 1)) then (if (wrap64 (x5_1 - 1)) < (a0.size : Int) then (pqsql_StartsWithCopy.l0 k1 a0 false (!((bt a0 (wrap64 (x5_1 - 1))) == 42)) (wrap64 (x5_1 + 1))) else (none)) else (none)) else (pqsql_StartsWithCopy.l0 k1 a0 false (!false) (wrap64 (x5_1 + 1)))) = some r := by rw [if_pos rfl] at H; exact H
                clear H
                have H := H1
                clear H1
                by_cases c8 : (bt a0 x5_1) = 47
                · rw [if_pos c8] at H
                  have c8b0 : ((bt a0 x5_1) == 47) = true := beq_iff_eq.mpr c8
                  have c8b1 : ((bt a0 x5_1) != 47) = false := bne_eq_false_iff_eq.mpr c8
                  clear c8
                  obtain ⟨ji9, hji9⟩ : ∃ j_ : Int, (wrap64 (x5_1 - 1)) = j_ := ⟨_, rfl⟩
                  replace H : (if 0 ≤ (ji9) then (if (ji9) < (a0.size : Int) then (pqsql_StartsWithCopy.l0 k1 a0 false (!((bt a0 (ji9)) == 42)) (wrap64 (x5_1 + 1))) else (none)) else (none)) = some r := by first | (rw [hji9] at H; exact H) | (simp only [hji9] at H ⊢; exact H)
                  have hji9w : (IntKind.i64.wrap (x5_1 - 1)) = ji9 := (i64_w _).trans hji9
                  by_cases c10 : 0 ≤ (ji9)
                  · rw [if_pos c10] at H
                    have c10b0 : decide (0 ≤ (ji9)) = true := decide_eq_true c10
                    clear c10
                    by_cases c11 : (ji9) < (a0.size : Int)
                    · rw [if_pos c11] at H
                      have c11b0 : decide ((ji9) < (a0.size : Int)) = true := decide_eq_true c11
                      clear c11
                      have H' := Aside0.mk H
                      clear H
                      have p5 : 0 ≤ (x5_1 : Int) := of_decide_eq_true (by first | (with_reducible assumption) | assumption)
                      have q5 : x5_1 < (a0.size : Int) := of_decide_eq_true (by first | (with_reducible assumption) | assumption)
                      have hx5 := bt_at a0 x5_1
                      replace p5 := eq_true p5
                      replace q5 := eq_true q5
                      have p12 : 0 ≤ ((ji9) : Int) := of_decide_eq_true (by first | (with_reducible assumption) | assumption)
                      have q12 : (ji9) < (a0.size : Int) := of_decide_eq_true (by first | (with_reducible assumption) | assumption)
                      have hx12 := bt_at a0 (ji9)
                      replace p12 := eq_true p12
                      replace q12 := eq_true q12
                      go_wp2
                      go_roundg k1
                      case measure => have := HK1.out; omega
                      case rel => exact ⟨(false), (!((bt a0 (ji9)) == 42)), (wrap64 (x5_1 + 1)), (by first | rfl | (simp; done) | (simp [*]; done)), (by first | rfl | (simp; done) | (simp only [← hji9] <;> (first | rfl | simp)) | (simp [*]; done)), (by first | rfl | (simp; done) | (simp [*]; done)), H', ⟨by have := HK1.out; omega⟩, by repeat (first | exact Drawn0.refl _ | apply Drawn0.step)⟩
                    · rw [if_neg c11] at H
                      exact absurd H (by simp)
                  · rw [if_neg c10] at H
                    exact absurd H (by simp)
                · rw [if_neg c8] at H
                  have c8b0 : ((bt a0 x5_1) == 47) = false := beq_eq_false_iff_ne.mpr c8
                  have c8b1 : ((bt a0 x5_1) != 47) = true := bne_iff_ne.mpr c8
                  have H' := Aside0.mk H
                  clear H
                  have p5 : 0 ≤ (x5_1 : Int) := of_decide_eq_true (by first | (with_reducible assumption) | assumption)
                  have q5 : x5_1 < (a0.size : Int) := of_decide_eq_true (by first | (with_reducible assumption) | assumption)
                  have hx5 := bt_at a0 x5_1
                  replace p5 := eq_true p5
                  replace q5 := eq_true q5
                  go_wp2
                  go_roundg k1
                  case measure => have := HK1.out; omega
                  case rel => exact ⟨(false), (!false), (wrap64 (x5_1 + 1)), (by first | rfl | (simp; done) | (simp [*]; done)), (by first | rfl | (simp; done) | (simp [*]; done)), (by first | rfl | (simp; done) | (simp [*]; done)), H', ⟨by have := HK1.out; omega⟩, by repeat (first | exact Drawn0.refl _ | apply Drawn0.step)⟩
              · replace c7 := Bool.eq_false_iff.mpr c7
                subst c7
                have H1 : (if (bt a0 x5_1) = 45 then (if (a0.size : Int) > (wrap64 (x5_1 + 1)) then (if 0 ≤ (wrap64 (x5_1 + 1)) then (if (wrap64 (x5_1 + 1)) < (a0.size : Int) then (pqsql_StartsWithCopy.j1 k1 a0 false false x5_1 (bt a0 x5_1) ((bt a0 (wrap64 (x5_1 + 1))) == 45)) else (none)) else (none)) else (pqsql_StartsWithCopy.j1 k1 a0 false false x5_1 (bt a0 x5_1) false)) else (pqsql_StartsWithCopy.j1 k1 a0 false false x5_1 (bt a0 x5_1) false)) = some r := by rw [if_neg (show ¬ (false = true) by decide)] at H; exact H
                clear H
                have H := H1
                clear H1
                have HC13 := Aside0.mk H
                clear H
                have p5 : 0 ≤ (x5_1 : Int) := of_decide_eq_true (by first | (with_reducible assumption) | assumption)
                have q5 : x5_1 < (a0.size : Int) := of_decide_eq_true (by first | (with_reducible assumption) | assumption)
                have hx5 := bt_at a0 x5_1
                replace p5 := eq_true p5
                replace q5 := eq_true q5
                go_upto_region 12 with (fail)
                go_cut [48] (fun v48 wc => ∃ (kq : Nat) (x48_12 : Bool), v48 = .bool x48_12 ∧ Aside0 (pqsql_StartsWithCopy.j1 kq a0 false false x5_1 (bt a0 x5_1) x48_12 = some r) ∧ Aside0 (kq ≤ k1) ∧ Drawn0 w wc)
                case first =>
                  have H := HC13.out
                  clear HC13
                  by_cases c14 : (bt a0 x5_1) = 45
                  · rw [if_pos c14] at H
                    have c14b0 : ((bt a0 x5_1) == 45) = true := beq_iff_eq.mpr c14
                    have c14b1 : ((bt a0 x5_1) != 45) = false := bne_eq_false_iff_eq.mpr c14
                    clear c14
                    (first | rw [c14b0] | (simp only [i64_w, i32_w]; rw [c14b0]) | skip)
                    by_cases c15 : (a0.size : Int) > (wrap64 (x5_1 + 1))
                    · rw [if_pos c15] at H
                      have c15b0 : decide ((wrap64 (x5_1 + 1)) < (a0.size : Int)) = true := decide_eq_true c15
                      clear c15
                      obtain ⟨ji16, hji16⟩ : ∃ j_ : Int, (wrap64 (x5_1 + 1)) = j_ := ⟨_, rfl⟩
                      replace H : (if 0 ≤ (ji16) then (if (ji16) < (a0.size : Int) then (pqsql_StartsWithCopy.j1 k1 a0 false false x5_1 (bt a0 x5_1) ((bt a0 (ji16)) == 45)) else (none)) else (none)) = some r := by first | (rw [hji16] at H; exact H) | (simp only [hji16] at H ⊢; exact H)
                      (try rw [hji16] at c15b0)
                      have hji16w : (IntKind.i64.wrap (x5_1 + 1)) = ji16 := (i64_w _).trans hji16
                      by_cases c17 : 0 ≤ (ji16)
                      · rw [if_pos c17] at H
                        have c17b0 : decide (0 ≤ (ji16)) = true := decide_eq_true c17
                        clear c17
                        by_cases c18 : (ji16) < (a0.size : Int)
                        · rw [if_pos c18] at H
                          have c18b0 : decide ((ji16) < (a0.size : Int)) = true := decide_eq_true c18
                          clear c18
                          have H' := Aside0.mk H
                          clear H
                          have p19 : 0 ≤ ((ji16) : Int) := of_decide_eq_true (by first | (with_reducible assumption) | assumption)
                          have q19 : (ji16) < (a0.size : Int) := of_decide_eq_true (by first | (with_reducible assumption) | assumption)
                          have hx19 := bt_at a0 (ji16)
                          replace p19 := eq_true p19
                          replace q19 := eq_true q19
                          go_wp2
                          go_meet
                          case rel => exact ⟨_, (((bt a0 (ji16)) == 45)), (by first | rfl | (simp; done) | (simp only [← hji16] <;> (first | rfl | simp)) | (simp [*]; done)), H', ⟨by have := HK1.out; first | omega | exact Nat.le_refl _⟩, by repeat (first | exact Drawn0.refl _ | apply Drawn0.step)⟩
                        · rw [if_neg c18] at H
                          exact absurd H (by simp)
                      · rw [if_neg c17] at H
                        exact absurd H (by simp)
                    · rw [if_neg c15] at H
                      have c15b0 : decide ((wrap64 (x5_1 + 1)) < (a0.size : Int)) = false := decide_eq_false c15
                      clear c15
                      have H' := Aside0.mk H
                      clear H
                      go_wp2
                      go_meet
                      case rel => exact ⟨_, (false), (by first | rfl | (simp; done) | (simp [*]; done)), H', ⟨by have := HK1.out; first | omega | exact Nat.le_refl _⟩, by repeat (first | exact Drawn0.refl _ | apply Drawn0.step)⟩
                  · rw [if_neg c14] at H
                    have c14b0 : ((bt a0 x5_1) == 45) = false := beq_eq_false_iff_ne.mpr c14
                    have c14b1 : ((bt a0 x5_1) != 45) = true := bne_iff_ne.mpr c14
                    (first | rw [c14b0] | (simp only [i64_w, i32_w]; rw [c14b0]) | skip)
                    have H' := Aside0.mk H
                    clear H
                    go_wp2
                    go_meet
                    case rel => exact ⟨_, (false), (by first | rfl | (simp; done) | (simp [*]; done)), H', ⟨by have := HK1.out; first | omega | exact Nat.le_refl _⟩, by repeat (first | exact Drawn0.refl _ | apply Drawn0.step)⟩
                case rest =>
                  clear HC13
                  try clear c1
                  try clear p1
                  try clear q1
                  try clear hx1
                  try clear c2
                  try clear c2b0
                  try clear c2b1
                  try clear p2
                  try clear c3
                  try clear c3b0
                  try clear c4
                  try clear c4b0
                  try clear p5
                  try clear q5
                  try clear hx5
                  try clear c6
                  try clear p6
                  try clear c7
                  try clear c8
                  try clear c8b0
                  try clear c8b1
                  try clear c10
                  try clear c10b0
                  try clear c11
                  try clear c11b0
                  try clear p12
                  try clear q12
                  try clear hx12
                  try clear c14
                  try clear c14b0
                  try clear c14b1
                  try clear c15
                  try clear c15b0
                  try clear c17
                  try clear c17b0
                  try clear c18
                  try clear c18b0
                  try clear p19
                  try clear q19
                  try clear hx19
                  try clear p12
                  try clear p19
                  try clear p2
                  try clear p5
                  try clear q12
                  try clear q19
                  try clear q5
                  obtain ⟨kq, x48_12, rfl, HA, HJ12, ⟨mc12, rfl⟩⟩ := hcut
                  cases kq with
                  | zero => exact absurd HA.out (by simp [pqsql_StartsWithCopy.j1])
                  | succ kj12 =>
                    have H := HA.out
                    clear HA
                    simp only [pqsql_StartsWithCopy.j1] at H
                    by_cases c20 : x48_12 = true
                    · subst c20
                      have H1 : (pqsql_StartsWithCopy.l0 kj12 a0 true false (wrap64 (x5_1 + 1))) = some r := by rw [if_pos rfl] at H; exact H
                      clear H
                      have H := H1
                      clear H1
                      have H' := Aside0.mk H
                      clear H
                      go_wp2
                      go_roundg kj12
                      case measure => have := HK1.out; have := HJ12.out; omega
                      case rel => exact ⟨(true), (false), (wrap64 (x5_1 + 1)), (by first | rfl | (simp; done) | (simp [*]; done)), (by first | rfl | (simp; done) | (simp [*]; done)), (by first | rfl | (simp; done) | (simp [*]; done)), H', ⟨by have := HK1.out; have := HJ12.out; omega⟩, by repeat (first | exact Drawn0.refl _ | apply Drawn0.step)⟩
                    · replace c20 := Bool.eq_false_iff.mpr c20
                      subst c20
                      have H1 : (if (bt a0 x5_1) = 47 then (if (a0.size : Int) > (wrap64 (x5_1 + 1)) then (if 0 ≤ (wrap64 (x5_1 + 1)) then (if (wrap64 (x5_1 + 1)) < (a0.size : Int) then (pqsql_StartsWithCopy.j2 kj12 a0 false false x5_1 (bt a0 x5_1) ((bt a0 (wrap64 (x5_1 + 1))) == 42)) else (none)) else (none)) else (pqsql_StartsWithCopy.j2 kj12 a0 false false x5_1 (bt a0 x5_1) false)) else (pqsql_StartsWithCopy.j2 kj12 a0 false false x5_1 (bt a0 x5_1) false)) = some r := by rw [if_neg (show ¬ (false = true) by decide)] at H; exact H
                      clear H
                      have H := H1
                      clear H1
                      have HC21 := Aside0.mk H
                      clear H
                      go_upto_region 14 with (fail)
                      go_cut [64] (fun v64 wc => ∃ (kq : Nat) (x64_20 : Bool), v64 = .bool x64_20 ∧ Aside0 (pqsql_StartsWithCopy.j2 kq a0 false false x5_1 (bt a0 x5_1) x64_20 = some r) ∧ Aside0 (kq ≤ kj12) ∧ Drawn0 w wc)
                      case first =>
                        have H := HC21.out
                        clear HC21
                        by_cases c22 : (bt a0 x5_1) = 47
                        · rw [if_pos c22] at H
                          have c22b0 : ((bt a0 x5_1) == 47) = true := beq_iff_eq.mpr c22
                          have c22b1 : ((bt a0 x5_1) != 47) = false := bne_eq_false_iff_eq.mpr c22
                          clear c22
                          (first | rw [c22b0] | (simp only [i64_w, i32_w]; rw [c22b0]) | skip)
                          by_cases c23 : (a0.size : Int) > (wrap64 (x5_1 + 1))
                          · rw [if_pos c23] at H
                            have c23b0 : decide ((wrap64 (x5_1 + 1)) < (a0.size : Int)) = true := decide_eq_true c23
                            clear c23
                            obtain ⟨ji24, hji24⟩ : ∃ j_ : Int, (wrap64 (x5_1 + 1)) = j_ := ⟨_, rfl⟩
                            replace H : (if 0 ≤ (ji24) then (if (ji24) < (a0.size : Int) then (pqsql_StartsWithCopy.j2 kj12 a0 false false x5_1 (bt a0 x5_1) ((bt a0 (ji24)) == 42)) else (none)) else (none)) = some r := by first | (rw [hji24] at H; exact H) | (simp only [hji24] at H ⊢; exact H)
                            (try rw [hji24] at c23b0)
                            have hji24w : (IntKind.i64.wrap (x5_1 + 1)) = ji24 := (i64_w _).trans hji24
                            by_cases c25 : 0 ≤ (ji24)
                            · rw [if_pos c25] at H
                              have c25b0 : decide (0 ≤ (ji24)) = true := decide_eq_true c25
                              clear c25
                              by_cases c26 : (ji24) < (a0.size : Int)
                              · rw [if_pos c26] at H
                                have c26b0 : decide ((ji24) < (a0.size : Int)) = true := decide_eq_true c26
                                clear c26
                                have H' := Aside0.mk H
                                clear H
                                have p27 : 0 ≤ ((ji24) : Int) := of_decide_eq_true (by first | (with_reducible assumption) | assumption)
                                have q27 : (ji24) < (a0.size : Int) := of_decide_eq_true (by first | (with_reducible assumption) | assumption)
                                have hx27 := bt_at a0 (ji24)
                                replace p27 := eq_true p27
                                replace q27 := eq_true q27
                                go_wp2
                                go_meet
                                case rel => exact ⟨_, (((bt a0 (ji24)) == 42)), (by first | rfl | (simp; done) | (simp only [← hji24] <;> (first | rfl | simp)) | (simp [*]; done)), H', ⟨by have := HK1.out; have := HJ12.out; first | omega | exact Nat.le_refl _⟩, by repeat (first | exact Drawn0.refl _ | apply Drawn0.step)⟩
                              · rw [if_neg c26] at H
                                exact absurd H (by simp)
                            · rw [if_neg c25] at H
                              exact absurd H (by simp)
                          · rw [if_neg c23] at H
                            have c23b0 : decide ((wrap64 (x5_1 + 1)) < (a0.size : Int)) = false := decide_eq_false c23
                            clear c23
                            have H' := Aside0.mk H
                            clear H
                            go_wp2
                            go_meet
                            case rel => exact ⟨_, (false), (by first | rfl | (simp; done) | (simp [*]; done)), H', ⟨by have := HK1.out; have := HJ12.out; first | omega | exact Nat.le_refl _⟩, by repeat (first | exact Drawn0.refl _ | apply Drawn0.step)⟩
                        · rw [if_neg c22] at H
                          have c22b0 : ((bt a0 x5_1) == 47) = false := beq_eq_false_iff_ne.mpr c22
                          have c22b1 : ((bt a0 x5_1) != 47) = true := bne_iff_ne.mpr c22
                          (first | rw [c22b0] | (simp only [i64_w, i32_w]; rw [c22b0]) | skip)
                          have H' := Aside0.mk H
                          clear H
                          go_wp2
                          go_meet
                          case rel => exact ⟨_, (false), (by first | rfl | (simp; done) | (simp [*]; done)), H', ⟨by have := HK1.out; have := HJ12.out; first | omega | exact Nat.le_refl _⟩, by repeat (first | exact Drawn0.refl _ | apply Drawn0.step)⟩
                      case rest =>
                        clear HC21
                        try clear c1
                        try clear p1
                        try clear q1
                        try clear hx1
                        try clear c2
                        try clear c2b0
                        try clear c2b1
                        try clear p2
                        try clear q2
                        try clear hx2
                        try clear c3
                        try clear c3b0
                        try clear c4
                        try clear c4b0
                        try clear p5
                        try clear q5
                        try clear hx5
                        try clear c6
                        try clear p6
                        try clear c7
                        try clear c8
                        try clear c8b0
                        try clear c8b1
                        try clear c10
                        try clear c10b0
                        try clear c11
                        try clear c11b0
                        try clear c12
                        try clear p12
                        try clear q12
                        try clear hx12
                        try clear c14
                        try clear c14b0
                        try clear c14b1
                        try clear c15
                        try clear c15b0
                        try clear c17
                        try clear c17b0
                        try clear c18
                        try clear c18b0
                        try clear p19
                        try clear q19
                        try clear hx19
                        try clear c20
                        try clear c22
                        try clear c22b0
                        try clear c22b1
                        try clear c23
                        try clear c23b0
                        try clear c25
                        try clear c25b0
                        try clear c26
                        try clear c26b0
                        try clear c27
                        try clear p27
                        try clear q27
                        try clear hx27
                        try clear p1
                        try clear p12
                        try clear p19
                        try clear p2
                        try clear p27
                        try clear p5
                        try clear p6
                        try clear q1
                        try clear q12
                        try clear q19
                        try clear q27
                        try clear q5
                        obtain ⟨kq, x64_20, rfl, HA, HJ20, ⟨mc20, rfl⟩⟩ := hcut
                        cases kq with
                        | zero => exact absurd HA.out (by simp [pqsql_StartsWithCopy.j2])
                        | succ kj20 =>
                          have H := HA.out
                          clear HA
                          simp only [pqsql_StartsWithCopy.j2] at H
                          by_cases c28 : x64_20 = true
                          · subst c28
                            have H1 : (pqsql_StartsWithCopy.l0 kj20 a0 false true (wrap64 (x5_1 + 1))) = some r := by rw [if_pos rfl] at H; exact H
                            clear H
                            have H := H1
                            clear H1
                            have H' := Aside0.mk H
                            clear H
                            go_wp2
                            go_roundg kj20
                            case measure => have := HK1.out; have := HJ12.out; have := HJ20.out; omega
                            case rel => exact ⟨(false), (true), (wrap64 (x5_1 + 1)), (by first | rfl | (simp; done) | (simp [*]; done)), (by first | rfl | (simp; done) | (simp [*]; done)), (by first | rfl | (simp; done) | (simp [*]; done)), H', ⟨by have := HK1.out; have := HJ12.out; have := HJ20.out; omega⟩, by repeat (first | exact Drawn0.refl _ | apply Drawn0.step)⟩
                          · replace c28 := Bool.eq_false_iff.mpr c28
                            subst c28
                            have H1 : (if (bt a0 x5_1) = 32 then (pqsql_StartsWithCopy.l0 kj20 a0 false false (wrap64 (x5_1 + 1))) else (if (bt a0 x5_1) = 9 then (pqsql_StartsWithCopy.l0 kj20 a0 false false (wrap64 (x5_1 + 1))) else (if (bt a0 x5_1) = 13 then (pqsql_StartsWithCopy.l0 kj20 a0 false false (wrap64 (x5_1 + 1))) else (if (bt a0 x5_1) = 10 then (pqsql_StartsWithCopy.l0 kj20 a0 false false (wrap64 (x5_1 + 1))) else (if (a0.size : Int) > (wrap64 (x5_1 + 3)) then (if (Go.bits .or .u8 (bt a0 x5_1) 32) = 99 then (if 0 ≤ (wrap64 (x5_1 + 1)) then (if (wrap64 (x5_1 + 1)) < (a0.size : Int) then (if (Go.bits .or .u8 (bt a0 (wrap64 (x5_1 + 1))) 32) = 111 then (if 0 ≤ (wrap64 (x5_1 + 2)) then (if (wrap64 (x5_1 + 2)) < (a0.size : Int) then (if (Go.bits .or .u8 (bt a0 (wrap64 (x5_1 + 2))) 32) = 112 then (if 0 ≤ (wrap64 (x5_1 + 3)) then (if (wrap64 (x5_1 + 3)) < (a0.size : Int) then (some ((Go.bits .or .u8 (bt a0 (wrap64 (x5_1 + 3))) 32) == 121)) else (none)) else (none)) else (some false)) else (none)) else (none)) else (some false)) else (none)) else (none)) else (some false)) else (some false)))))) = some r := by rw [if_neg (show ¬ (false = true) by decide)] at H; exact H
                            clear H
                            have H := H1
                            clear H1
                            by_cases c29 : (bt a0 x5_1) = 32
                            · rw [if_pos c29] at H
                              have c29b0 : ((bt a0 x5_1) == 32) = true := beq_iff_eq.mpr c29
                              have c29b1 : ((bt a0 x5_1) != 32) = false := bne_eq_false_iff_eq.mpr c29
                              clear c29
                              have H' := Aside0.mk H
                              clear H
                              go_wp2
                              go_roundg kj20
                              case measure => have := HK1.out; have := HJ12.out; have := HJ20.out; omega
                              case rel => exact ⟨(false), (false), (wrap64 (x5_1 + 1)), (by first | rfl | (simp; done) | (simp [*]; done)), (by first | rfl | (simp; done) | (simp [*]; done)), (by first | rfl | (simp; done) | (simp [*]; done)), H', ⟨by have := HK1.out; have := HJ12.out; have := HJ20.out; omega⟩, by repeat (first | exact Drawn0.refl _ | apply Drawn0.step)⟩
                            · rw [if_neg c29] at H
                              have c29b0 : ((bt a0 x5_1) == 32) = false := beq_eq_false_iff_ne.mpr c29
                              have c29b1 : ((bt a0 x5_1) != 32) = true := bne_iff_ne.mpr c29
                              by_cases c30 : (bt a0 x5_1) = 9
                              · rw [if_pos c30] at H
                                have c30b0 : ((bt a0 x5_1) == 9) = true := beq_iff_eq.mpr c30
                                have c30b1 : ((bt a0 x5_1) != 9) = false := bne_eq_false_iff_eq.mpr c30
                                clear c30
                                have H' := Aside0.mk H
                                clear H
                                go_wp2
                                go_roundg kj20
                                case measure => have := HK1.out; have := HJ12.out; have := HJ20.out; omega
                                case rel => exact ⟨(false), (false), (wrap64 (x5_1 + 1)), (by first | rfl | (simp; done) | (simp [*]; done)), (by first | rfl | (simp; done) | (simp [*]; done)), (by first | rfl | (simp; done) | (simp [*]; done)), H', ⟨by have := HK1.out; have := HJ12.out; have := HJ20.out; omega⟩, by repeat (first | exact Drawn0.refl _ | apply Drawn0.step)⟩
                              · rw [if_neg c30] at H
                                have c30b0 : ((bt a0 x5_1) == 9) = false := beq_eq_false_iff_ne.mpr c30
                                have c30b1 : ((bt a0 x5_1) != 9) = true := bne_iff_ne.mpr c30
                                by_cases c31 : (bt a0 x5_1) = 13
                                · rw [if_pos c31] at H
                                  have c31b0 : ((bt a0 x5_1) == 13) = true := beq_iff_eq.mpr c31
                                  have c31b1 : ((bt a0 x5_1) != 13) = false := bne_eq_false_iff_eq.mpr c31
                                  clear c31
                                  have H' := Aside0.mk H
                                  clear H
                                  go_wp2
                                  go_roundg kj20
                                  case measure => have := HK1.out; have := HJ12.out; have := HJ20.out; omega
                                  case rel => exact ⟨(false), (false), (wrap64 (x5_1 + 1)), (by first | rfl | (simp; done) | (simp [*]; done)), (by first | rfl | (simp; done) | (simp [*]; done)), (by first | rfl | (simp; done) | (simp [*]; done)), H', ⟨by have := HK1.out; have := HJ12.out; have := HJ20.out; omega⟩, by repeat (first | exact Drawn0.refl _ | apply Drawn0.step)⟩
                                · rw [if_neg c31] at H
                                  have c31b0 : ((bt a0 x5_1) == 13) = false := beq_eq_false_iff_ne.mpr c31
                                  have c31b1 : ((bt a0 x5_1) != 13) = true := bne_iff_ne.mpr c31
                                  by_cases c32 : (bt a0 x5_1) = 10
                                  · rw [if_pos c32] at H
                                    have c32b0 : ((bt a0 x5_1) == 10) = true := beq_iff_eq.mpr c32
                                    have c32b1 : ((bt a0 x5_1) != 10) = false := bne_eq_false_iff_eq.mpr c32
                                    clear c32
                                    have H' := Aside0.mk H
                                    clear H
                                    go_wp2
                                    go_roundg kj20
                                    case measure => have := HK1.out; have := HJ12.out; have := HJ20.out; omega
                                    case rel => exact ⟨(false), (false), (wrap64 (x5_1 + 1)), (by first | rfl | (simp; done) | (simp [*]; done)), (by first | rfl | (simp; done) | (simp [*]; done)), (by first | rfl | (simp; done) | (simp [*]; done)), H', ⟨by have := HK1.out; have := HJ12.out; have := HJ20.out; omega⟩, by repeat (first | exact Drawn0.refl _ | apply Drawn0.step)⟩
                                  · rw [if_neg c32] at H
                                    have c32b0 : ((bt a0 x5_1) == 10) = false := beq_eq_false_iff_ne.mpr c32
                                    have c32b1 : ((bt a0 x5_1) != 10) = true := bne_iff_ne.mpr c32
                                    by_cases c33 : (a0.size : Int) > (wrap64 (x5_1 + 3))
                                    · rw [if_pos c33] at H
                                      have c33b0 : decide ((wrap64 (x5_1 + 3)) < (a0.size : Int)) = true := decide_eq_true c33
                                      clear c33
                                      by_cases c34 : (Go.bits .or .u8 (bt a0 x5_1) 32) = 99
                                      · rw [if_pos c34] at H
                                        have c34b0 : ((Go.bits .or .u8 (bt a0 x5_1) 32) == 99) = true := beq_iff_eq.mpr c34
                                        have c34b1 : ((Go.bits .or .u8 (bt a0 x5_1) 32) != 99) = false := bne_eq_false_iff_eq.mpr c34
                                        clear c34
                                        obtain ⟨ji35, hji35⟩ : ∃ j_ : Int, (wrap64 (x5_1 + 1)) = j_ := ⟨_, rfl⟩
                                        replace H : (if 0 ≤ (ji35) then (if (ji35) < (a0.size : Int) then (if (Go.bits .or .u8 (bt a0 (ji35)) 32) = 111 then (if 0 ≤ (wrap64 (x5_1 + 2)) then (if (wrap64 (x5_1 + 2)) < (a0.size : Int) then (if (Go.bits .or .u8 (bt a0 (wrap64 (x5_1 + 2))) 32) = 112 then (if 0 ≤ (wrap64 (x5_1 + 3)) then (if (wrap64 (x5_1 + 3)) < (a0.size : Int) then (some ((Go.bits .or .u8 (bt a0 (wrap64 (x5_1 + 3))) 32) == 121)) else (none)) else (none)) else (some false)) else (none)) else (none)) else (some false)) else (none)) else (none)) = some r := by first | (rw [hji35] at H; exact H) | (simp only [hji35] at H ⊢; exact H)
                                        have hji35w : (IntKind.i64.wrap (x5_1 + 1)) = ji35 := (i64_w _).trans hji35
                                        by_cases c36 : 0 ≤ (ji35)
                                        · rw [if_pos c36] at H
                                          have c36b0 : decide (0 ≤ (ji35)) = true := decide_eq_true c36
                                          clear c36
                                          by_cases c37 : (ji35) < (a0.size : Int)
                                          · rw [if_pos c37] at H
                                            have c37b0 : decide ((ji35) < (a0.size : Int)) = true := decide_eq_true c37
                                            clear c37
                                            by_cases c39 : (Go.bits .or .u8 (bt a0 (ji35)) 32) = 111
                                            · rw [if_pos c39] at H
                                              have c39b0 : ((Go.bits .or .u8 (bt a0 (ji35)) 32) == 111) = true := beq_iff_eq.mpr c39
                                              have c39b1 : ((Go.bits .or .u8 (bt a0 (ji35)) 32) != 111) = false := bne_eq_false_iff_eq.mpr c39
                                              clear c39
                                              obtain ⟨ji40, hji40⟩ : ∃ j_ : Int, (wrap64 (x5_1 + 2)) = j_ := ⟨_, rfl⟩
                                              replace H : (if 0 ≤ (ji40) then (if (ji40) < (a0.size : Int) then (if (Go.bits .or .u8 (bt a0 (ji40)) 32) = 112 then (if 0 ≤ (wrap64 (x5_1 + 3)) then (if (wrap64 (x5_1 + 3)) < (a0.size : Int) then (some ((Go.bits .or .u8 (bt a0 (wrap64 (x5_1 + 3))) 32) == 121)) else (none)) else (none)) else (some false)) else (none)) else (none)) = some r := by first | (rw [hji40] at H; exact H) | (simp only [hji40] at H ⊢; exact H)
                                              have hji40w : (IntKind.i64.wrap (x5_1 + 2)) = ji40 := (i64_w _).trans hji40
                                              by_cases c41 : 0 ≤ (ji40)
                                              · rw [if_pos c41] at H
                                                have c41b0 : decide (0 ≤ (ji40)) = true := decide_eq_true c41
                                                clear c41
                                                by_cases c42 : (ji40) < (a0.size : Int)
                                                · rw [if_pos c42] at H
                                                  have c42b0 : decide ((ji40) < (a0.size : Int)) = true := decide_eq_true c42
                                                  clear c42
                                                  by_cases c44 : (Go.bits .or .u8 (bt a0 (ji40)) 32) = 112
                                                  · rw [if_pos c44] at H
                                                    have c44b0 : ((Go.bits .or .u8 (bt a0 (ji40)) 32) == 112) = true := beq_iff_eq.mpr c44
                                                    have c44b1 : ((Go.bits .or .u8 (bt a0 (ji40)) 32) != 112) = false := bne_eq_false_iff_eq.mpr c44
                                                    clear c44
                                                    obtain ⟨ji45, hji45⟩ : ∃ j_ : Int, (wrap64 (x5_1 + 3)) = j_ := ⟨_, rfl⟩
                                                    replace H : (if 0 ≤ (ji45) then (if (ji45) < (a0.size : Int) then (some ((Go.bits .or .u8 (bt a0 (ji45)) 32) == 121)) else (none)) else (none)) = some r := by first | (rw [hji45] at H; exact H) | (simp only [hji45] at H ⊢; exact H)
                                                    (try rw [hji45] at c33b0)
                                                    have hji45w : (IntKind.i64.wrap (x5_1 + 3)) = ji45 := (i64_w _).trans hji45
                                                    by_cases c46 : 0 ≤ (ji45)
                                                    · rw [if_pos c46] at H
                                                      have c46b0 : decide (0 ≤ (ji45)) = true := decide_eq_true c46
                                                      clear c46
                                                      by_cases c47 : (ji45) < (a0.size : Int)
                                                      · rw [if_pos c47] at H
                                                        have c47b0 : decide ((ji45) < (a0.size : Int)) = true := decide_eq_true c47
                                                        clear c47
                                                        obtain rfl := Option.some.inj H
                                                        have p38 : 0 ≤ ((ji35) : Int) := of_decide_eq_true (by first | (with_reducible assumption) | assumption)
                                                        have q38 : (ji35) < (a0.size : Int) := of_decide_eq_true (by first | (with_reducible assumption) | assumption)
                                                        have hx38 := bt_at a0 (ji35)
                                                        replace p38 := eq_true p38
                                                        replace q38 := eq_true q38
                                                        have p43 : 0 ≤ ((ji40) : Int) := of_decide_eq_true (by first | (with_reducible assumption) | assumption)
                                                        have q43 : (ji40) < (a0.size : Int) := of_decide_eq_true (by first | (with_reducible assumption) | assumption)
                                                        have hx43 := bt_at a0 (ji40)
                                                        replace p43 := eq_true p43
                                                        replace q43 := eq_true q43
                                                        have p48 : 0 ≤ ((ji45) : Int) := of_decide_eq_true (by first | (with_reducible assumption) | assumption)
                                                        have q48 : (ji45) < (a0.size : Int) := of_decide_eq_true (by first | (with_reducible assumption) | assumption)
                                                        have hx48 := bt_at a0 (ji45)
                                                        replace p48 := eq_true p48
                                                        replace q48 := eq_true q48
                                                        go_wp2
                                                        go_ret
                                                        exact ⟨by first | rfl | (simp; done) | (simp only [← hji35, ← hji40, ← hji45] <;> (first | rfl | simp)) | (simp [*]; done), by repeat (first | exact Drawn0.refl _ | apply Drawn0.step)⟩
                                                      · rw [if_neg c47] at H
                                                        exact absurd H (by simp)
                                                    · rw [if_neg c46] at H
                                                      exact absurd H (by simp)
                                                  · rw [if_neg c44] at H
                                                    have c44b0 : ((Go.bits .or .u8 (bt a0 (ji40)) 32) == 112) = false := beq_eq_false_iff_ne.mpr c44
                                                    have c44b1 : ((Go.bits .or .u8 (bt a0 (ji40)) 32) != 112) = true := bne_iff_ne.mpr c44
                                                    obtain rfl := Option.some.inj H
                                                    have p38 : 0 ≤ ((ji35) : Int) := of_decide_eq_true (by first | (with_reducible assumption) | assumption)
                                                    have q38 : (ji35) < (a0.size : Int) := of_decide_eq_true (by first | (with_reducible assumption) | assumption)
                                                    have hx38 := bt_at a0 (ji35)
                                                    replace p38 := eq_true p38
                                                    replace q38 := eq_true q38
                                                    have p43 : 0 ≤ ((ji40) : Int) := of_decide_eq_true (by first | (with_reducible assumption) | assumption)
                                                    have q43 : (ji40) < (a0.size : Int) := of_decide_eq_true (by first | (with_reducible assumption) | assumption)
                                                    have hx43 := bt_at a0 (ji40)
                                                    replace p43 := eq_true p43
                                                    replace q43 := eq_true q43
                                                    go_wp2
                                                    go_ret
                                                    exact ⟨by first | rfl | (simp; done) | (simp only [← hji35, ← hji40] <;> (first | rfl | simp)) | (simp [*]; done), by repeat (first | exact Drawn0.refl _ | apply Drawn0.step)⟩
                                                · rw [if_neg c42] at H
                                                  exact absurd H (by simp)
                                              · rw [if_neg c41] at H
                                                exact absurd H (by simp)
                                            · rw [if_neg c39] at H
                                              have c39b0 : ((Go.bits .or .u8 (bt a0 (ji35)) 32) == 111) = false := beq_eq_false_iff_ne.mpr c39
                                              have c39b1 : ((Go.bits .or .u8 (bt a0 (ji35)) 32) != 111) = true := bne_iff_ne.mpr c39
                                              obtain rfl := Option.some.inj H
                                              have p38 : 0 ≤ ((ji35) : Int) := of_decide_eq_true (by first | (with_reducible assumption) | assumption)
                                              have q38 : (ji35) < (a0.size : Int) := of_decide_eq_true (by first | (with_reducible assumption) | assumption)
                                              have hx38 := bt_at a0 (ji35)
                                              replace p38 := eq_true p38
                                              replace q38 := eq_true q38
                                              go_wp2
                                              go_ret
                                              exact ⟨by first | rfl | (simp; done) | (simp only [← hji35] <;> (first | rfl | simp)) | (simp [*]; done), by repeat (first | exact Drawn0.refl _ | apply Drawn0.step)⟩
                                          · rw [if_neg c37] at H
                                            exact absurd H (by simp)
                                        · rw [if_neg c36] at H
                                          exact absurd H (by simp)
                                      · rw [if_neg c34] at H
                                        have c34b0 : ((Go.bits .or .u8 (bt a0 x5_1) 32) == 99) = false := beq_eq_false_iff_ne.mpr c34
                                        have c34b1 : ((Go.bits .or .u8 (bt a0 x5_1) 32) != 99) = true := bne_iff_ne.mpr c34
                                        obtain rfl := Option.some.inj H
                                        go_wp2
                                        go_ret
                                        exact ⟨by first | rfl | (simp; done) | (simp [*]; done), by repeat (first | exact Drawn0.refl _ | apply Drawn0.step)⟩
                                    · rw [if_neg c33] at H
                                      have c33b0 : decide ((wrap64 (x5_1 + 3)) < (a0.size : Int)) = false := decide_eq_false c33
                                      clear c33
                                      obtain rfl := Option.some.inj H
                                      go_wp2
                                      go_ret
                                      exact ⟨by first | rfl | (simp; done) | (simp [*]; done), by repeat (first | exact Drawn0.refl _ | apply Drawn0.step)⟩
          · rw [if_neg c4] at H
            exact absurd H (by simp)
        · rw [if_neg c3] at H
          have c3b0 : decide (x5_1 < (a0.size : Int)) = false := decide_eq_false c3
          clear c3
          obtain rfl := Option.some.inj H
          go_wp2
          go_ret
          exact ⟨by first | rfl | (simp; done) | (simp [*]; done), by repeat (first | exact Drawn0.refl _ | apply Drawn0.step)⟩

/-! ### impl_CopyFirst: function 17 -/
def impl_CopyFirst.f (k : Nat) (a0 : ByteArray) : Option (Bool) := (pqsql_StartsWithCopy.f k a0).bind fun t191 => (some t191)
theorem impl_CopyFirst.mono : ∀ a0 k, LeO (impl_CopyFirst.f k a0) (impl_CopyFirst.f (k + 1) a0) := by
  intro a0 k
  unfold impl_CopyFirst.f
  repeat' first
      | (with_reducible exact pqsql_StartsWithCopy.mono _ _)
      | (with_reducible exact LeO.refl _)
      | (with_reducible exact LeO.none _)
      | (with_reducible refine LeO.ite ?_ ?_)
      | (with_reducible refine LeO.bind ?_ (fun _ => ?_))
      | exact pqsql_StartsWithCopy.mono _ _
      | exact LeO.none _
      | refine LeO.ite ?_ ?_
      | refine LeO.bind ?_ (fun _ => ?_)
set_option maxHeartbeats 8000000 in
set_option maxRecDepth 100000 in
theorem impl_CopyFirst.calls (k : Nat) (a0 : ByteArray) (r : Bool) (w : World) (h : impl_CopyFirst.f k a0 = some r) :
    Calls Try.prog 17 #[.string a0] w fun e w' => e = .returned (.bool r) ∧ Drawn0 w w' := by
  have H : ((pqsql_StartsWithCopy.f k a0).bind fun t191 => (some t191)) = some r := h
  clear h
  replace H := Option.bind_eq_some_iff.mp H
  obtain ⟨t191, A20, H⟩ := H
  replace H : (some t191) = some r := H
  have A2 := Aside0.mk A20
  clear A20
  obtain rfl := Option.some.inj H
  go_enter Try.func17, Try.ntmps17
  go_wp2_with (first | ((with_reducible refine gate_callee (f := 27) rfl ?_); refine goesL_ (some 4) rfl rfl Try.func27 (by kernel_rfl) rfl #[.string a0] rfl (by (try simp only [List.map_toArray, List.map_cons, List.map_nil]); first | done | rfl | (simp only [List.length_drop, List.length_take]; rfl)) ?_; (with_reducible refine (pqsql_StartsWithCopy.calls k a0 t191 _ A2.out).mono ?_); rintro e w' ⟨rfl, ⟨nd, rfl⟩⟩; refine ⟨_, rfl, ?_⟩))
  go_ret
  exact ⟨by first | rfl | (simp; done) | (simp [*]; done), by repeat (first | exact Drawn0.refl _ | apply Drawn0.step)⟩

/-! ### laws_FnCopyFirst: function 6 -/
def laws_FnCopyFirst.f (k : Nat) (a0 : ByteArray) : Option (Bool) := if (a0.size : Int) > 2147483647 then (some true) else ((laws_text9.f k a0).bind fun t192 => (if t192 = true then ((spec_CopyFirst.f k a0).bind fun bt193 => (if bt193.2 = true then ((impl_CopyFirst.f k a0).bind fun t195 => (if (t195 == bt193.1) = true then ((impl_CopyFirst.f k (⟨#[99, 111, 112, 121, 32]⟩ : ByteArray)).bind fun t196 => (some t196)) else (some false))) else (some true))) else (some true)))
theorem laws_FnCopyFirst.mono : ∀ a0 k, LeO (laws_FnCopyFirst.f k a0) (laws_FnCopyFirst.f (k + 1) a0) := by
  intro a0 k
  unfold laws_FnCopyFirst.f
  repeat' first
      | (with_reducible exact impl_CopyFirst.mono _ _)
      | (with_reducible exact laws_text9.mono _ _)
      | (with_reducible exact spec_CopyFirst.mono _ _)
      | (with_reducible exact LeO.refl _)
      | (with_reducible exact LeO.none _)
      | (with_reducible refine LeO.ite ?_ ?_)
      | (with_reducible refine LeO.bind ?_ (fun _ => ?_))
      | exact impl_CopyFirst.mono _ _
      | exact laws_text9.mono _ _
      | exact spec_CopyFirst.mono _ _
      | exact LeO.none _
      | refine LeO.ite ?_ ?_
      | refine LeO.bind ?_ (fun _ => ?_)
set_option maxHeartbeats 8000000 in
set_option maxRecDepth 100000 in
theorem laws_FnCopyFirst.calls (k : Nat) (a0 : ByteArray) (r : Bool) (w : World) (h : laws_FnCopyFirst.f k a0 = some r) :
    Calls Try.prog 6 #[.string a0] w fun e w' => e = .returned (.bool r) ∧ Below w.heap.size w w' := by
  have HB := Aside0.mk (Below.refl w.heap.size w)
  have H : (if (a0.size : Int) > 2147483647 then (some true) else ((laws_text9.f k a0).bind fun t192 => (if t192 = true then ((spec_CopyFirst.f k a0).bind fun bt193 => (if bt193.2 = true then ((impl_CopyFirst.f k a0).bind fun t195 => (if (t195 == bt193.1) = true then ((impl_CopyFirst.f k (⟨#[99, 111, 112, 121, 32]⟩ : ByteArray)).bind fun t196 => (some t196)) else (some false))) else (some true))) else (some true)))) = some r := h
  clear h
  by_cases c2 : (a0.size : Int) > 2147483647
  · rw [if_pos c2] at H
    have c2b0 : decide (2147483647 < (a0.size : Int)) = true := decide_eq_true c2
    have c2b1 : decide (2147483647 < a0.size) = true := decide_eq_true (by omega)
    clear c2
    obtain rfl := Option.some.inj H
    go_enter Try.func6, Try.ntmps6
    go_wp2
    go_ret
    exact ⟨by first | rfl | (simp [errW_none, errW_some] <;> rfl) | (simp [*, errW_none, errW_some] <;> rfl), by repeat (first | (with_reducible first | exact HB.out | apply below_alloc | apply pw_below_drewN | apply below_drew1) | exact HB.out)⟩
  · rw [if_neg c2] at H
    have c2b0 : decide (2147483647 < (a0.size : Int)) = false := decide_eq_false c2
    have c2b1 : decide (2147483647 < a0.size) = false := decide_eq_false (by omega)
    clear c2
    replace H := Option.bind_eq_some_iff.mp H
    obtain ⟨t192, A30, H⟩ := H
    replace H : (if t192 = true then ((spec_CopyFirst.f k a0).bind fun bt193 => (if bt193.2 = true then ((impl_CopyFirst.f k a0).bind fun t195 => (if (t195 == bt193.1) = true then ((impl_CopyFirst.f k (⟨#[99, 111, 112, 121, 32]⟩ : ByteArray)).bind fun t196 => (some t196)) else (some false))) else (some true))) else (some true)) = some r := H
    have A3 := Aside0.mk A30
    clear A30
    by_cases c4 : t192 = true
    · subst c4
      have H1 : ((spec_CopyFirst.f k a0).bind fun bt193 => (if bt193.2 = true then ((impl_CopyFirst.f k a0).bind fun t195 => (if (t195 == bt193.1) = true then ((impl_CopyFirst.f k (⟨#[99, 111, 112, 121, 32]⟩ : ByteArray)).bind fun t196 => (some t196)) else (some false))) else (some true))) = some r := by rw [if_pos rfl] at H; exact H
      clear H
      have H := H1
      clear H1
      replace H := Option.bind_eq_some_iff.mp H
      obtain ⟨⟨t193, t194⟩, A50, H⟩ := H
      replace H : (if t194 = true then ((impl_CopyFirst.f k a0).bind fun t195 => (if (t195 == t193) = true then ((impl_CopyFirst.f k (⟨#[99, 111, 112, 121, 32]⟩ : ByteArray)).bind fun t196 => (some t196)) else (some false))) else (some true)) = some r := H
      have A5 := Aside0.mk A50
      clear A50
      by_cases c6 : t194 = true
      · subst c6
        have H1 : ((impl_CopyFirst.f k a0).bind fun t195 => (if (t195 == t193) = true then ((impl_CopyFirst.f k (⟨#[99, 111, 112, 121, 32]⟩ : ByteArray)).bind fun t196 => (some t196)) else (some false))) = some r := by rw [if_pos rfl] at H; exact H
        clear H
        have H := H1
        clear H1
        replace H := Option.bind_eq_some_iff.mp H
        obtain ⟨t195, A70, H⟩ := H
        replace H : (if (t195 == t193) = true then ((impl_CopyFirst.f k (⟨#[99, 111, 112, 121, 32]⟩ : ByteArray)).bind fun t196 => (some t196)) else (some false)) = some r := H
        have A7 := Aside0.mk A70
        clear A70
        by_cases c8 : (t195 == t193) = true
        · rw [if_pos c8] at H
          have c8b0 : (t195 == t193) = true := c8
          (try (have c8b1 : decide (t195 = t193) = true := by simpa using c8))
          (try (have c8b2 : (t195 == t193) = true := by simpa using c8))
          clear c8
          replace H := Option.bind_eq_some_iff.mp H
          obtain ⟨t196, A90, H⟩ := H
          replace H : (some t196) = some r := H
          have A9 := Aside0.mk A90
          clear A90
          obtain rfl := Option.some.inj H
          go_enter Try.func6, Try.ntmps6
          go_wp2_with (first | ((with_reducible refine gate_callee (f := 9) rfl ?_); refine goesL_ (some 9) rfl rfl Try.func9 (by kernel_rfl) rfl #[.string a0] rfl (by (try simp only [List.map_toArray, List.map_cons, List.map_nil]); first | done | rfl | (simp only [List.length_drop, List.length_take]; rfl)) ?_; (with_reducible refine (laws_text9.calls k a0 true _ A3.out).mono ?_); rintro e w' ⟨rfl, ⟨nd, rfl⟩⟩; refine ⟨_, rfl, ?_⟩) | ((with_reducible refine gate_callee (f := 16) rfl ?_); refine goesL_ (some 13) rfl rfl Try.func16 (by kernel_rfl) rfl #[.string a0] rfl (by (try simp only [List.map_toArray, List.map_cons, List.map_nil]); first | done | rfl | (simp only [List.length_drop, List.length_take]; rfl)) ?_; (with_reducible refine (spec_CopyFirst.calls k a0 t193 true _ A5.out).mono ?_); rintro e w10 ⟨rfl, hb⟩; refine ⟨_, rfl, ?_⟩; have n0_ := Aside0.mk (below_step (by repeat (first | (with_reducible first | exact HB.out | apply below_alloc | apply pw_below_drewN | apply below_drew1) | exact HB.out)) hb); clear HB; have HB := n0_; clear n0_; (try clear hb); (try clear hb2); (try clear hk); (try clear hi)) | (go_at_call 17; (with_reducible refine (impl_CopyFirst.calls k a0 t195 _ A7.out).mono ?_); rintro e w' ⟨rfl, ⟨nd, rfl⟩⟩) | (go_at_call 17; (with_reducible refine (impl_CopyFirst.calls k (⟨#[99, 111, 112, 121, 32]⟩ : ByteArray) t196 _ A9.out).mono ?_); rintro e w' ⟨rfl, ⟨nd, rfl⟩⟩))
          go_ret
          exact ⟨by first | rfl | (simp [errW_none, errW_some] <;> rfl) | (simp [*, errW_none, errW_some] <;> rfl), by repeat (first | (with_reducible first | exact HB.out | apply below_alloc | apply pw_below_drewN | apply below_drew1) | exact HB.out)⟩
        · rw [if_neg c8] at H
          have c8b0 : (t195 == t193) = false := by simpa using c8
          (try (have c8b1 : decide (t195 = t193) = false := by simpa using c8))
          (try (have c8b2 : (t195 == t193) = false := by simpa using c8))
          (try (have c8b3 : ¬ (t195 = t193) := by simpa using c8))
          clear c8
          obtain rfl := Option.some.inj H
          go_enter Try.func6, Try.ntmps6
          go_wp2_with (first | ((with_reducible refine gate_callee (f := 9) rfl ?_); refine goesL_ (some 9) rfl rfl Try.func9 (by kernel_rfl) rfl #[.string a0] rfl (by (try simp only [List.map_toArray, List.map_cons, List.map_nil]); first | done | rfl | (simp only [List.length_drop, List.length_take]; rfl)) ?_; (with_reducible refine (laws_text9.calls k a0 true _ A3.out).mono ?_); rintro e w' ⟨rfl, ⟨nd, rfl⟩⟩; refine ⟨_, rfl, ?_⟩) | ((with_reducible refine gate_callee (f := 16) rfl ?_); refine goesL_ (some 13) rfl rfl Try.func16 (by kernel_rfl) rfl #[.string a0] rfl (by (try simp only [List.map_toArray, List.map_cons, List.map_nil]); first | done | rfl | (simp only [List.length_drop, List.length_take]; rfl)) ?_; (with_reducible refine (spec_CopyFirst.calls k a0 t193 true _ A5.out).mono ?_); rintro e w11 ⟨rfl, hb⟩; refine ⟨_, rfl, ?_⟩; have n0_ := Aside0.mk (below_step (by repeat (first | (with_reducible first | exact HB.out | apply below_alloc | apply pw_below_drewN | apply below_drew1) | exact HB.out)) hb); clear HB; have HB := n0_; clear n0_; (try clear hb); (try clear hb2); (try clear hk); (try clear hi)) | (go_at_call 17; (with_reducible refine (impl_CopyFirst.calls k a0 t195 _ A7.out).mono ?_); rintro e w' ⟨rfl, ⟨nd, rfl⟩⟩))
          go_ret
          exact ⟨by first | rfl | (simp [errW_none, errW_some] <;> rfl) | (simp [*, errW_none, errW_some] <;> rfl), by repeat (first | (with_reducible first | exact HB.out | apply below_alloc | apply pw_below_drewN | apply below_drew1) | exact HB.out)⟩
      · replace c6 := Bool.eq_false_iff.mpr c6
        subst c6
        have H1 : (some true) = some r := by rw [if_neg (show ¬ (false = true) by decide)] at H; exact H
        clear H
        have H := H1
        clear H1
        obtain rfl := Option.some.inj H
        go_enter Try.func6, Try.ntmps6
        go_wp2_with (first | ((with_reducible refine gate_callee (f := 9) rfl ?_); refine goesL_ (some 9) rfl rfl Try.func9 (by kernel_rfl) rfl #[.string a0] rfl (by (try simp only [List.map_toArray, List.map_cons, List.map_nil]); first | done | rfl | (simp only [List.length_drop, List.length_take]; rfl)) ?_; (with_reducible refine (laws_text9.calls k a0 true _ A3.out).mono ?_); rintro e w' ⟨rfl, ⟨nd, rfl⟩⟩; refine ⟨_, rfl, ?_⟩) | ((with_reducible refine gate_callee (f := 16) rfl ?_); refine goesL_ (some 13) rfl rfl Try.func16 (by kernel_rfl) rfl #[.string a0] rfl (by (try simp only [List.map_toArray, List.map_cons, List.map_nil]); first | done | rfl | (simp only [List.length_drop, List.length_take]; rfl)) ?_; (with_reducible refine (spec_CopyFirst.calls k a0 t193 false _ A5.out).mono ?_); rintro e w12 ⟨rfl, hb⟩; refine ⟨_, rfl, ?_⟩; have n0_ := Aside0.mk (below_step (by repeat (first | (with_reducible first | exact HB.out | apply below_alloc | apply pw_below_drewN | apply below_drew1) | exact HB.out)) hb); clear HB; have HB := n0_; clear n0_; (try clear hb); (try clear hb2); (try clear hk); (try clear hi)))
        go_ret
        exact ⟨by first | rfl | (simp [errW_none, errW_some] <;> rfl) | (simp [*, errW_none, errW_some] <;> rfl), by repeat (first | (with_reducible first | exact HB.out | apply below_alloc | apply pw_below_drewN | apply below_drew1) | exact HB.out)⟩
    · replace c4 := Bool.eq_false_iff.mpr c4
      subst c4
      have H1 : (some true) = some r := by rw [if_neg (show ¬ (false = true) by decide)] at H; exact H
      clear H
      have H := H1
      clear H1
      obtain rfl := Option.some.inj H
      go_enter Try.func6, Try.ntmps6
      go_wp2_with (first | ((with_reducible refine gate_callee (f := 9) rfl ?_); refine goesL_ (some 9) rfl rfl Try.func9 (by kernel_rfl) rfl #[.string a0] rfl (by (try simp only [List.map_toArray, List.map_cons, List.map_nil]); first | done | rfl | (simp only [List.length_drop, List.length_take]; rfl)) ?_; (with_reducible refine (laws_text9.calls k a0 false _ A3.out).mono ?_); rintro e w' ⟨rfl, ⟨nd, rfl⟩⟩; refine ⟨_, rfl, ?_⟩))
      go_ret
      exact ⟨by first | rfl | (simp [errW_none, errW_some] <;> rfl) | (simp [*, errW_none, errW_some] <;> rfl), by repeat (first | (with_reducible first | exact HB.out | apply below_alloc | apply pw_below_drewN | apply below_drew1) | exact HB.out)⟩

/-- THE ONE PURE STATEMENT of laws_FnCopyFirst: yours. -/
def laws_FnCopyFirst.Pure : Prop := ∀ (a0 : ByteArray), a0.size ≤ 140737488351232 → ∃ k, laws_FnCopyFirst.f k a0 = some true
theorem laws_FnCopyFirst.walk (P : laws_FnCopyFirst.Pure) (a0 : ByteArray) (w : World) (w0 : a0.size ≤ 140737488351232) :
    Calls Try.prog 6 #[.string a0] w fun e w' => e = .returned (.bool true) ∧ Below w.heap.size w w' := by
  obtain ⟨k, h⟩ := P a0 w0
  refine (laws_FnCopyFirst.calls k a0 true w h).mono ?_
  rintro e w' ⟨rfl, hd⟩
  exact ⟨rfl, hd⟩

-- NOT PRINTED: function 18 (spec_UTF8)

-- NOT PRINTED: function 34 (pq_zzIndexRune)

end Go.Proofs.Ytlfkejljbehcaaa.P
