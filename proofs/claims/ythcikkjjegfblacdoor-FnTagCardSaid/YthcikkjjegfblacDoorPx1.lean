-- Written by the program wip/myprint.py of this session, over the kit's print of the translation. Lean checks it.
import Derived.Test.YthcikkjjegfblacDoorPx0
namespace Go.Proofs.YthcikkjjegfblacDoor.P
open Go.RowKit Go.Proofs.YthcikkjjegfblacDoorW.PrintWords Go.Proofs.YthcikkjjegfblacDoorW.PrintLast Go.Proofs.YthcikkjjegfblacDoorW.PrintMore
attribute [local go_sem] max2_int min2_int max_two min_two max_three min_three max_four min_four   -- for this text's walks alone
set_option linter.unusedVariables false
set_option linter.unusedSimpArgs false

/-! ### strconv_small: function 38 -/
def strconv_small.f (a0 : Int) : Option (ByteArray) := if a0 < 10 then (if 0 ≤ a0 then (if a0 ≤ (wrap64 (a0 + 1)) then (if (wrap64 (a0 + 1)) ≤ 36 then (some ((⟨#[48, 49, 50, 51, 52, 53, 54, 55, 56, 57, 97, 98, 99, 100, 101, 102, 103, 104, 105, 106, 107, 108, 109, 110, 111, 112, 113, 114, 115, 116, 117, 118, 119, 120, 121, 122]⟩ : ByteArray).extract (a0 : Int).toNat ((wrap64 (a0 + 1)) : Int).toNat)) else (none)) else (none)) else (none)) else (if 0 ≤ (wrap64 (a0 * 2)) then (if (wrap64 (a0 * 2)) ≤ (wrap64 ((wrap64 (a0 * 2)) + 2)) then (if (wrap64 ((wrap64 (a0 * 2)) + 2)) ≤ 200 then (some ((⟨#[48, 48, 48, 49, 48, 50, 48, 51, 48, 52, 48, 53, 48, 54, 48, 55, 48, 56, 48, 57, 49, 48, 49, 49, 49, 50, 49, 51, 49, 52, 49, 53, 49, 54, 49, 55, 49, 56, 49, 57, 50, 48, 50, 49, 50, 50, 50, 51, 50, 52, 50, 53, 50, 54, 50, 55, 50, 56, 50, 57, 51, 48, 51, 49, 51, 50, 51, 51, 51, 52, 51, 53, 51, 54, 51, 55, 51, 56, 51, 57, 52, 48, 52, 49, 52, 50, 52, 51, 52, 52, 52, 53, 52, 54, 52, 55, 52, 56, 52, 57, 53, 48, 53, 49, 53, 50, 53, 51, 53, 52, 53, 53, 53, 54, 53, 55, 53, 56, 53, 57, 54, 48, 54, 49, 54, 50, 54, 51, 54, 52, 54, 53, 54, 54, 54, 55, 54, 56, 54, 57, 55, 48, 55, 49, 55, 50, 55, 51, 55, 52, 55, 53, 55, 54, 55, 55, 55, 56, 55, 57, 56, 48, 56, 49, 56, 50, 56, 51, 56, 52, 56, 53, 56, 54, 56, 55, 56, 56, 56, 57, 57, 48, 57, 49, 57, 50, 57, 51, 57, 52, 57, 53, 57, 54, 57, 55, 57, 56, 57, 57]⟩ : ByteArray).extract ((wrap64 (a0 * 2)) : Int).toNat ((wrap64 ((wrap64 (a0 * 2)) + 2)) : Int).toNat)) else (none)) else (none)) else (none))
set_option maxHeartbeats 8000000 in
set_option maxRecDepth 100000 in
theorem strconv_small.calls (a0 : Int) (r : ByteArray) (w : World) (h : strconv_small.f a0 = some r) :
    Calls Tryd.prog 38 #[.int .i64 a0] w fun e w' => e = .returned (.string r) ∧ Drawn0 w w' := by
  have H : (if a0 < 10 then (if 0 ≤ a0 then (if a0 ≤ (wrap64 (a0 + 1)) then (if (wrap64 (a0 + 1)) ≤ 36 then (some ((⟨#[48, 49, 50, 51, 52, 53, 54, 55, 56, 57, 97, 98, 99, 100, 101, 102, 103, 104, 105, 106, 107, 108, 109, 110, 111, 112, 113, 114, 115, 116, 117, 118, 119, 120, 121, 122]⟩ : ByteArray).extract (a0 : Int).toNat ((wrap64 (a0 + 1)) : Int).toNat)) else (none)) else (none)) else (none)) else (if 0 ≤ (wrap64 (a0 * 2)) then (if (wrap64 (a0 * 2)) ≤ (wrap64 ((wrap64 (a0 * 2)) + 2)) then (if (wrap64 ((wrap64 (a0 * 2)) + 2)) ≤ 200 then (some ((⟨#[48, 48, 48, 49, 48, 50, 48, 51, 48, 52, 48, 53, 48, 54, 48, 55, 48, 56, 48, 57, 49, 48, 49, 49, 49, 50, 49, 51, 49, 52, 49, 53, 49, 54, 49, 55, 49, 56, 49, 57, 50, 48, 50, 49, 50, 50, 50, 51, 50, 52, 50, 53, 50, 54, 50, 55, 50, 56, 50, 57, 51, 48, 51, 49, 51, 50, 51, 51, 51, 52, 51, 53, 51, 54, 51, 55, 51, 56, 51, 57, 52, 48, 52, 49, 52, 50, 52, 51, 52, 52, 52, 53, 52, 54, 52, 55, 52, 56, 52, 57, 53, 48, 53, 49, 53, 50, 53, 51, 53, 52, 53, 53, 53, 54, 53, 55, 53, 56, 53, 57, 54, 48, 54, 49, 54, 50, 54, 51, 54, 52, 54, 53, 54, 54, 54, 55, 54, 56, 54, 57, 55, 48, 55, 49, 55, 50, 55, 51, 55, 52, 55, 53, 55, 54, 55, 55, 55, 56, 55, 57, 56, 48, 56, 49, 56, 50, 56, 51, 56, 52, 56, 53, 56, 54, 56, 55, 56, 56, 56, 57, 57, 48, 57, 49, 57, 50, 57, 51, 57, 52, 57, 53, 57, 54, 57, 55, 57, 56, 57, 57]⟩ : ByteArray).extract ((wrap64 (a0 * 2)) : Int).toNat ((wrap64 ((wrap64 (a0 * 2)) + 2)) : Int).toNat)) else (none)) else (none)) else (none))) = some r := h
  clear h
  by_cases c2 : a0 < 10
  · rw [if_pos c2] at H
    have c2b0 : decide (a0 < 10) = true := decide_eq_true c2
    clear c2
    by_cases c3 : 0 ≤ a0
    · rw [if_pos c3] at H
      have c3b0 := eq_true c3
      have c3b1 : decide (0 ≤ a0) = true := decide_eq_true c3
      clear c3
      by_cases c4 : a0 ≤ (wrap64 (a0 + 1))
      · rw [if_pos c4] at H
        have c4b0 := eq_true c4
        have c4b1 : decide (a0 ≤ (wrap64 (a0 + 1))) = true := decide_eq_true c4
        by_cases c5 : (wrap64 (a0 + 1)) ≤ 36
        · rw [if_pos c5] at H
          have c5b0 := eq_true c5
          have c5b1 : decide ((wrap64 (a0 + 1)) ≤ 36) = true := decide_eq_true c5
          obtain rfl := Option.some.inj H
          go_enter Tryd.func38, Tryd.ntmps38
          go_wp2
          go_ret
          exact ⟨by first | rfl | (simp; done) | (simp [*]; done), by repeat (first | exact Drawn0.refl _ | apply Drawn0.step)⟩
        · rw [if_neg c5] at H
          exact absurd H (by simp)
      · rw [if_neg c4] at H
        exact absurd H (by simp)
    · rw [if_neg c3] at H
      exact absurd H (by simp)
  · rw [if_neg c2] at H
    have c2b0 : decide (a0 < 10) = false := decide_eq_false c2
    clear c2
    obtain ⟨ji6, hji6⟩ : ∃ j_ : Int, (wrap64 (a0 * 2)) = j_ := ⟨_, rfl⟩
    replace H : (if 0 ≤ (ji6) then (if (ji6) ≤ (wrap64 ((ji6) + 2)) then (if (wrap64 ((ji6) + 2)) ≤ 200 then (some ((⟨#[48, 48, 48, 49, 48, 50, 48, 51, 48, 52, 48, 53, 48, 54, 48, 55, 48, 56, 48, 57, 49, 48, 49, 49, 49, 50, 49, 51, 49, 52, 49, 53, 49, 54, 49, 55, 49, 56, 49, 57, 50, 48, 50, 49, 50, 50, 50, 51, 50, 52, 50, 53, 50, 54, 50, 55, 50, 56, 50, 57, 51, 48, 51, 49, 51, 50, 51, 51, 51, 52, 51, 53, 51, 54, 51, 55, 51, 56, 51, 57, 52, 48, 52, 49, 52, 50, 52, 51, 52, 52, 52, 53, 52, 54, 52, 55, 52, 56, 52, 57, 53, 48, 53, 49, 53, 50, 53, 51, 53, 52, 53, 53, 53, 54, 53, 55, 53, 56, 53, 57, 54, 48, 54, 49, 54, 50, 54, 51, 54, 52, 54, 53, 54, 54, 54, 55, 54, 56, 54, 57, 55, 48, 55, 49, 55, 50, 55, 51, 55, 52, 55, 53, 55, 54, 55, 55, 55, 56, 55, 57, 56, 48, 56, 49, 56, 50, 56, 51, 56, 52, 56, 53, 56, 54, 56, 55, 56, 56, 56, 57, 57, 48, 57, 49, 57, 50, 57, 51, 57, 52, 57, 53, 57, 54, 57, 55, 57, 56, 57, 57]⟩ : ByteArray).extract ((ji6) : Int).toNat ((wrap64 ((ji6) + 2)) : Int).toNat)) else (none)) else (none)) else (none)) = some r := by first | (rw [hji6] at H; exact H) | (simp only [hji6] at H ⊢; exact H)
    have hji6w : (IntKind.i64.wrap (a0 * 2)) = ji6 := (i64_w _).trans hji6
    by_cases c7 : 0 ≤ (ji6)
    · rw [if_pos c7] at H
      have c7b0 := eq_true c7
      have c7b1 : decide (0 ≤ (ji6)) = true := decide_eq_true c7
      clear c7
      by_cases c8 : (ji6) ≤ (wrap64 ((ji6) + 2))
      · rw [if_pos c8] at H
        have c8b0 := eq_true c8
        have c8b1 : decide ((ji6) ≤ (wrap64 ((ji6) + 2))) = true := decide_eq_true c8
        by_cases c9 : (wrap64 ((ji6) + 2)) ≤ 200
        · rw [if_pos c9] at H
          have c9b0 := eq_true c9
          have c9b1 : decide ((wrap64 ((ji6) + 2)) ≤ 200) = true := decide_eq_true c9
          obtain rfl := Option.some.inj H
          go_enter Tryd.func38, Tryd.ntmps38
          go_wp2
          go_ret
          exact ⟨by first | rfl | (simp; done) | (simp only [← hji6] <;> (first | rfl | simp)) | (simp [*]; done), by repeat (first | exact Drawn0.refl _ | apply Drawn0.step)⟩
        · rw [if_neg c9] at H
          exact absurd H (by simp)
      · rw [if_neg c8] at H
        exact absurd H (by simp)
    · rw [if_neg c7] at H
      exact absurd H (by simp)

/-! ### strconv_log10Pow2: function 52 -/
def strconv_log10Pow2.f (a0 : Int) : Option (Int) := some ((wrap64 (a0 * 78913)) / 262144)
set_option maxHeartbeats 8000000 in
set_option maxRecDepth 100000 in
theorem strconv_log10Pow2.calls (a0 : Int) (r : Int) (w : World) (h : strconv_log10Pow2.f a0 = some r) :
    Calls Tryd.prog 52 #[.int .i64 a0] w fun e w' => e = .returned (.int .i64 r) ∧ Drawn0 w w' := by
  have H : (some ((wrap64 (a0 * 78913)) / 262144)) = some r := h
  clear h
  obtain rfl := Option.some.inj H
  go_enter Tryd.func52, Tryd.ntmps52
  go_wp2
  go_ret
  exact ⟨by first | rfl | (simp; done) | (simp [*]; done), by repeat (first | exact Drawn0.refl _ | apply Drawn0.step)⟩

/-! ### bits_Len64: function 53 -/
def bits_Len64.j0 : Nat → Int → Int → Option (Int)
  | 0, _, _ => none
  | k + 1, x0, x2 => if x0 ≥ 65536 then (if (x0 / 65536) ≥ 256 then (if 0 ≤ (((x0 / 65536) / 256) % 256) then (if (((x0 / 65536) / 256) % 256) < 256 then (some (wrap64 ((wrap64 ((wrap64 (x2 + 16)) + 8)) + (wrap64 (bt (⟨#[0, 1, 2, 2, 3, 3, 3, 3, 4, 4, 4, 4, 4, 4, 4, 4, 5, 5, 5, 5, 5, 5, 5, 5, 5, 5, 5, 5, 5, 5, 5, 5, 6, 6, 6, 6, 6, 6, 6, 6, 6, 6, 6, 6, 6, 6, 6, 6, 6, 6, 6, 6, 6, 6, 6, 6, 6, 6, 6, 6, 6, 6, 6, 6, 7, 7, 7, 7, 7, 7, 7, 7, 7, 7, 7, 7, 7, 7, 7, 7, 7, 7, 7, 7, 7, 7, 7, 7, 7, 7, 7, 7, 7, 7, 7, 7, 7, 7, 7, 7, 7, 7, 7, 7, 7, 7, 7, 7, 7, 7, 7, 7, 7, 7, 7, 7, 7, 7, 7, 7, 7, 7, 7, 7, 7, 7, 7, 7, 8, 8, 8, 8, 8, 8, 8, 8, 8, 8, 8, 8, 8, 8, 8, 8, 8, 8, 8, 8, 8, 8, 8, 8, 8, 8, 8, 8, 8, 8, 8, 8, 8, 8, 8, 8, 8, 8, 8, 8, 8, 8, 8, 8, 8, 8, 8, 8, 8, 8, 8, 8, 8, 8, 8, 8, 8, 8, 8, 8, 8, 8, 8, 8, 8, 8, 8, 8, 8, 8, 8, 8, 8, 8, 8, 8, 8, 8, 8, 8, 8, 8, 8, 8, 8, 8, 8, 8, 8, 8, 8, 8, 8, 8, 8, 8, 8, 8, 8, 8, 8, 8, 8, 8, 8, 8, 8, 8, 8, 8, 8, 8, 8, 8, 8, 8, 8, 8, 8, 8, 8, 8, 8, 8, 8, 8, 8, 8]⟩ : ByteArray) (((x0 / 65536) / 256) % 256)))))) else (none)) else (none)) else (if 0 ≤ ((x0 / 65536) % 256) then (if ((x0 / 65536) % 256) < 256 then (some (wrap64 ((wrap64 (x2 + 16)) + (wrap64 (bt (⟨#[0, 1, 2, 2, 3, 3, 3, 3, 4, 4, 4, 4, 4, 4, 4, 4, 5, 5, 5, 5, 5, 5, 5, 5, 5, 5, 5, 5, 5, 5, 5, 5, 6, 6, 6, 6, 6, 6, 6, 6, 6, 6, 6, 6, 6, 6, 6, 6, 6, 6, 6, 6, 6, 6, 6, 6, 6, 6, 6, 6, 6, 6, 6, 6, 7, 7, 7, 7, 7, 7, 7, 7, 7, 7, 7, 7, 7, 7, 7, 7, 7, 7, 7, 7, 7, 7, 7, 7, 7, 7, 7, 7, 7, 7, 7, 7, 7, 7, 7, 7, 7, 7, 7, 7, 7, 7, 7, 7, 7, 7, 7, 7, 7, 7, 7, 7, 7, 7, 7, 7, 7, 7, 7, 7, 7, 7, 7, 7, 8, 8, 8, 8, 8, 8, 8, 8, 8, 8, 8, 8, 8, 8, 8, 8, 8, 8, 8, 8, 8, 8, 8, 8, 8, 8, 8, 8, 8, 8, 8, 8, 8, 8, 8, 8, 8, 8, 8, 8, 8, 8, 8, 8, 8, 8, 8, 8, 8, 8, 8, 8, 8, 8, 8, 8, 8, 8, 8, 8, 8, 8, 8, 8, 8, 8, 8, 8, 8, 8, 8, 8, 8, 8, 8, 8, 8, 8, 8, 8, 8, 8, 8, 8, 8, 8, 8, 8, 8, 8, 8, 8, 8, 8, 8, 8, 8, 8, 8, 8, 8, 8, 8, 8, 8, 8, 8, 8, 8, 8, 8, 8, 8, 8, 8, 8, 8, 8, 8, 8, 8, 8, 8, 8, 8, 8, 8, 8]⟩ : ByteArray) ((x0 / 65536) % 256)))))) else (none)) else (none))) else (if x0 ≥ 256 then (if 0 ≤ ((x0 / 256) % 256) then (if ((x0 / 256) % 256) < 256 then (some (wrap64 ((wrap64 (x2 + 8)) + (wrap64 (bt (⟨#[0, 1, 2, 2, 3, 3, 3, 3, 4, 4, 4, 4, 4, 4, 4, 4, 5, 5, 5, 5, 5, 5, 5, 5, 5, 5, 5, 5, 5, 5, 5, 5, 6, 6, 6, 6, 6, 6, 6, 6, 6, 6, 6, 6, 6, 6, 6, 6, 6, 6, 6, 6, 6, 6, 6, 6, 6, 6, 6, 6, 6, 6, 6, 6, 7, 7, 7, 7, 7, 7, 7, 7, 7, 7, 7, 7, 7, 7, 7, 7, 7, 7, 7, 7, 7, 7, 7, 7, 7, 7, 7, 7, 7, 7, 7, 7, 7, 7, 7, 7, 7, 7, 7, 7, 7, 7, 7, 7, 7, 7, 7, 7, 7, 7, 7, 7, 7, 7, 7, 7, 7, 7, 7, 7, 7, 7, 7, 7, 8, 8, 8, 8, 8, 8, 8, 8, 8, 8, 8, 8, 8, 8, 8, 8, 8, 8, 8, 8, 8, 8, 8, 8, 8, 8, 8, 8, 8, 8, 8, 8, 8, 8, 8, 8, 8, 8, 8, 8, 8, 8, 8, 8, 8, 8, 8, 8, 8, 8, 8, 8, 8, 8, 8, 8, 8, 8, 8, 8, 8, 8, 8, 8, 8, 8, 8, 8, 8, 8, 8, 8, 8, 8, 8, 8, 8, 8, 8, 8, 8, 8, 8, 8, 8, 8, 8, 8, 8, 8, 8, 8, 8, 8, 8, 8, 8, 8, 8, 8, 8, 8, 8, 8, 8, 8, 8, 8, 8, 8, 8, 8, 8, 8, 8, 8, 8, 8, 8, 8, 8, 8, 8, 8, 8, 8, 8, 8]⟩ : ByteArray) ((x0 / 256) % 256)))))) else (none)) else (none)) else (if 0 ≤ ((x0) % 256) then (if ((x0) % 256) < 256 then (some (wrap64 (x2 + (wrap64 (bt (⟨#[0, 1, 2, 2, 3, 3, 3, 3, 4, 4, 4, 4, 4, 4, 4, 4, 5, 5, 5, 5, 5, 5, 5, 5, 5, 5, 5, 5, 5, 5, 5, 5, 6, 6, 6, 6, 6, 6, 6, 6, 6, 6, 6, 6, 6, 6, 6, 6, 6, 6, 6, 6, 6, 6, 6, 6, 6, 6, 6, 6, 6, 6, 6, 6, 7, 7, 7, 7, 7, 7, 7, 7, 7, 7, 7, 7, 7, 7, 7, 7, 7, 7, 7, 7, 7, 7, 7, 7, 7, 7, 7, 7, 7, 7, 7, 7, 7, 7, 7, 7, 7, 7, 7, 7, 7, 7, 7, 7, 7, 7, 7, 7, 7, 7, 7, 7, 7, 7, 7, 7, 7, 7, 7, 7, 7, 7, 7, 7, 8, 8, 8, 8, 8, 8, 8, 8, 8, 8, 8, 8, 8, 8, 8, 8, 8, 8, 8, 8, 8, 8, 8, 8, 8, 8, 8, 8, 8, 8, 8, 8, 8, 8, 8, 8, 8, 8, 8, 8, 8, 8, 8, 8, 8, 8, 8, 8, 8, 8, 8, 8, 8, 8, 8, 8, 8, 8, 8, 8, 8, 8, 8, 8, 8, 8, 8, 8, 8, 8, 8, 8, 8, 8, 8, 8, 8, 8, 8, 8, 8, 8, 8, 8, 8, 8, 8, 8, 8, 8, 8, 8, 8, 8, 8, 8, 8, 8, 8, 8, 8, 8, 8, 8, 8, 8, 8, 8, 8, 8, 8, 8, 8, 8, 8, 8, 8, 8, 8, 8, 8, 8, 8, 8, 8, 8, 8, 8]⟩ : ByteArray) ((x0) % 256)))))) else (none)) else (none)))
def bits_Len64.f (k : Nat) (a0 : Int) : Option (Int) := if a0 ≥ 4294967296 then (bits_Len64.j0 k (a0 / 4294967296) 32) else (bits_Len64.j0 k a0 0)
theorem bits_Len64.mono_l : ∀ k, (∀ y0 y1, LeO (bits_Len64.j0 k y0 y1) (bits_Len64.j0 (k + 1) y0 y1))
  | 0 => fun _ _ r h => by simp [bits_Len64.j0] at h
  | k + 1 => by
    have ih0 := bits_Len64.mono_l k
    · intro y0 y1
      unfold bits_Len64.j0
      repeat' first
      | (with_reducible exact ih0 _ _)
      | (with_reducible exact LeO.refl _)
      | (with_reducible exact LeO.none _)
      | (with_reducible refine LeO.ite ?_ ?_)
      | (with_reducible refine LeO.bind ?_ (fun _ => ?_))
      | exact ih0 _ _
      | exact LeO.none _
      | refine LeO.ite ?_ ?_
      | refine LeO.bind ?_ (fun _ => ?_)
theorem bits_Len64.mono : ∀ a0 k, LeO (bits_Len64.f k a0) (bits_Len64.f (k + 1) a0) := by
  intro a0 k
  have ih0 := bits_Len64.mono_l k
  unfold bits_Len64.f
  repeat' first
      | (with_reducible exact ih0 _ _)
      | (with_reducible exact LeO.refl _)
      | (with_reducible exact LeO.none _)
      | (with_reducible refine LeO.ite ?_ ?_)
      | (with_reducible refine LeO.bind ?_ (fun _ => ?_))
      | exact ih0 _ _
      | exact LeO.none _
      | refine LeO.ite ?_ ?_
      | refine LeO.bind ?_ (fun _ => ?_)
set_option maxHeartbeats 8000000 in
set_option maxRecDepth 100000 in
theorem bits_Len64.calls (k : Nat) (a0 : Int) (r : Int) (w : World) (h : bits_Len64.f k a0 = some r) :
    Calls Tryd.prog 53 #[.int .u64 a0] w fun e w' => e = .returned (.int .i64 r) ∧ Drawn0 w w' := by
  have H : (if a0 ≥ 4294967296 then (bits_Len64.j0 k (a0 / 4294967296) 32) else (bits_Len64.j0 k a0 0)) = some r := h
  clear h
  have HC2 := Aside0.mk H
  clear H
  go_enter Tryd.func53, Tryd.ntmps53
  go_upto_if 4 with (fail)
  go_cut [0, 2] (fun v0 v2 wc => ∃ (kq : Nat) (x0_1 : Int) (x2_1 : Int), v0 = .int .u64 x0_1 ∧ v2 = .int .i64 x2_1 ∧ Aside0 (bits_Len64.j0 kq x0_1 x2_1 = some r) ∧ Aside0 (kq ≤ k) ∧ Drawn0 w wc)
  case first =>
    have H := HC2.out
    clear HC2
    by_cases c3 : a0 ≥ 4294967296
    · rw [if_pos c3] at H
      have c3b0 : decide (4294967296 ≤ a0) = true := decide_eq_true c3
      clear c3
      (first | rw [c3b0] | (simp only [i64_w, i32_w]; rw [c3b0]) | skip)
      have H' := Aside0.mk H
      clear H
      go_wp2
      go_meet
      case rel => exact ⟨_, (a0 / 4294967296), (32), (by first | rfl | (simp; done) | (simp [*]; done)), (by first | rfl | (simp; done) | (simp [*]; done)), H', ⟨by first | omega | exact Nat.le_refl _⟩, by repeat (first | exact Drawn0.refl _ | apply Drawn0.step)⟩
    · rw [if_neg c3] at H
      have c3b0 : decide (4294967296 ≤ a0) = false := decide_eq_false c3
      clear c3
      (first | rw [c3b0] | (simp only [i64_w, i32_w]; rw [c3b0]) | skip)
      have H' := Aside0.mk H
      clear H
      go_wp2
      go_meet
      case rel => exact ⟨_, (a0), (0), (by first | rfl | (simp; done) | (simp [*]; done)), (by first | rfl | (simp; done) | (simp [*]; done)), H', ⟨by first | omega | exact Nat.le_refl _⟩, by repeat (first | exact Drawn0.refl _ | apply Drawn0.step)⟩
  case rest =>
    clear HC2
    try clear p2
    try clear c3
    try clear c3b0
    obtain ⟨kq, x0_1, x2_1, rfl, rfl, HA, HJ1, ⟨mc1, rfl⟩⟩ := hcut
    cases kq with
    | zero => exact absurd HA.out (by simp [bits_Len64.j0])
    | succ kj1 =>
      have H := HA.out
      clear HA
      simp only [bits_Len64.j0] at H
      by_cases c4 : x0_1 ≥ 65536
      · rw [if_pos c4] at H
        have c4b0 : decide (65536 ≤ x0_1) = true := decide_eq_true c4
        clear c4
        by_cases c5 : (x0_1 / 65536) ≥ 256
        · rw [if_pos c5] at H
          have c5b0 : decide (256 ≤ (x0_1 / 65536)) = true := decide_eq_true c5
          clear c5
          obtain ⟨ji6, hji6⟩ : ∃ j_ : Int, (((x0_1 / 65536) / 256) % 256) = j_ := ⟨_, rfl⟩
          replace H : (if 0 ≤ (ji6) then (if (ji6) < 256 then (some (wrap64 ((wrap64 ((wrap64 (x2_1 + 16)) + 8)) + (wrap64 (bt (⟨#[0, 1, 2, 2, 3, 3, 3, 3, 4, 4, 4, 4, 4, 4, 4, 4, 5, 5, 5, 5, 5, 5, 5, 5, 5, 5, 5, 5, 5, 5, 5, 5, 6, 6, 6, 6, 6, 6, 6, 6, 6, 6, 6, 6, 6, 6, 6, 6, 6, 6, 6, 6, 6, 6, 6, 6, 6, 6, 6, 6, 6, 6, 6, 6, 7, 7, 7, 7, 7, 7, 7, 7, 7, 7, 7, 7, 7, 7, 7, 7, 7, 7, 7, 7, 7, 7, 7, 7, 7, 7, 7, 7, 7, 7, 7, 7, 7, 7, 7, 7, 7, 7, 7, 7, 7, 7, 7, 7, 7, 7, 7, 7, 7, 7, 7, 7, 7, 7, 7, 7, 7, 7, 7, 7, 7, 7, 7, 7, 8, 8, 8, 8, 8, 8, 8, 8, 8, 8, 8, 8, 8, 8, 8, 8, 8, 8, 8, 8, 8, 8, 8, 8, 8, 8, 8, 8, 8, 8, 8, 8, 8, 8, 8, 8, 8, 8, 8, 8, 8, 8, 8, 8, 8, 8, 8, 8, 8, 8, 8, 8, 8, 8, 8, 8, 8, 8, 8, 8, 8, 8, 8, 8, 8, 8, 8, 8, 8, 8, 8, 8, 8, 8, 8, 8, 8, 8, 8, 8, 8, 8, 8, 8, 8, 8, 8, 8, 8, 8, 8, 8, 8, 8, 8, 8, 8, 8, 8, 8, 8, 8, 8, 8, 8, 8, 8, 8, 8, 8, 8, 8, 8, 8, 8, 8, 8, 8, 8, 8, 8, 8, 8, 8, 8, 8, 8, 8]⟩ : ByteArray) (ji6)))))) else (none)) else (none)) = some r := by first | (rw [hji6] at H; exact H) | (simp only [hji6] at H ⊢; exact H)
          by_cases c7 : 0 ≤ (ji6)
          · rw [if_pos c7] at H
            have c7b0 : decide (0 ≤ (ji6)) = true := decide_eq_true c7
            clear c7
            by_cases c8 : (ji6) < 256
            · rw [if_pos c8] at H
              have c8b0 : decide ((ji6) < 256) = true := decide_eq_true c8
              clear c8
              obtain rfl := Option.some.inj H
              have p9 : 0 ≤ ((ji6) : Int) := of_decide_eq_true (by first | (with_reducible assumption) | assumption)
              have q9 : (ji6) < (256 : Int) := of_decide_eq_true (by first | (with_reducible assumption) | assumption)
              have hx9 := bt_at (⟨#[0, 1, 2, 2, 3, 3, 3, 3, 4, 4, 4, 4, 4, 4, 4, 4, 5, 5, 5, 5, 5, 5, 5, 5, 5, 5, 5, 5, 5, 5, 5, 5, 6, 6, 6, 6, 6, 6, 6, 6, 6, 6, 6, 6, 6, 6, 6, 6, 6, 6, 6, 6, 6, 6, 6, 6, 6, 6, 6, 6, 6, 6, 6, 6, 7, 7, 7, 7, 7, 7, 7, 7, 7, 7, 7, 7, 7, 7, 7, 7, 7, 7, 7, 7, 7, 7, 7, 7, 7, 7, 7, 7, 7, 7, 7, 7, 7, 7, 7, 7, 7, 7, 7, 7, 7, 7, 7, 7, 7, 7, 7, 7, 7, 7, 7, 7, 7, 7, 7, 7, 7, 7, 7, 7, 7, 7, 7, 7, 8, 8, 8, 8, 8, 8, 8, 8, 8, 8, 8, 8, 8, 8, 8, 8, 8, 8, 8, 8, 8, 8, 8, 8, 8, 8, 8, 8, 8, 8, 8, 8, 8, 8, 8, 8, 8, 8, 8, 8, 8, 8, 8, 8, 8, 8, 8, 8, 8, 8, 8, 8, 8, 8, 8, 8, 8, 8, 8, 8, 8, 8, 8, 8, 8, 8, 8, 8, 8, 8, 8, 8, 8, 8, 8, 8, 8, 8, 8, 8, 8, 8, 8, 8, 8, 8, 8, 8, 8, 8, 8, 8, 8, 8, 8, 8, 8, 8, 8, 8, 8, 8, 8, 8, 8, 8, 8, 8, 8, 8, 8, 8, 8, 8, 8, 8, 8, 8, 8, 8, 8, 8, 8, 8, 8, 8, 8, 8]⟩ : ByteArray) (ji6)
              replace p9 := eq_true p9
              replace q9 := eq_true q9
              go_wp2
              go_ret
              exact ⟨by first | rfl | (simp; done) | (simp only [← hji6] <;> (first | rfl | simp)) | (simp [*]; done), by repeat (first | exact Drawn0.refl _ | apply Drawn0.step)⟩
            · rw [if_neg c8] at H
              exact absurd H (by simp)
          · rw [if_neg c7] at H
            exact absurd H (by simp)
        · rw [if_neg c5] at H
          have c5b0 : decide (256 ≤ (x0_1 / 65536)) = false := decide_eq_false c5
          clear c5
          obtain ⟨ji10, hji10⟩ : ∃ j_ : Int, ((x0_1 / 65536) % 256) = j_ := ⟨_, rfl⟩
          replace H : (if 0 ≤ (ji10) then (if (ji10) < 256 then (some (wrap64 ((wrap64 (x2_1 + 16)) + (wrap64 (bt (⟨#[0, 1, 2, 2, 3, 3, 3, 3, 4, 4, 4, 4, 4, 4, 4, 4, 5, 5, 5, 5, 5, 5, 5, 5, 5, 5, 5, 5, 5, 5, 5, 5, 6, 6, 6, 6, 6, 6, 6, 6, 6, 6, 6, 6, 6, 6, 6, 6, 6, 6, 6, 6, 6, 6, 6, 6, 6, 6, 6, 6, 6, 6, 6, 6, 7, 7, 7, 7, 7, 7, 7, 7, 7, 7, 7, 7, 7, 7, 7, 7, 7, 7, 7, 7, 7, 7, 7, 7, 7, 7, 7, 7, 7, 7, 7, 7, 7, 7, 7, 7, 7, 7, 7, 7, 7, 7, 7, 7, 7, 7, 7, 7, 7, 7, 7, 7, 7, 7, 7, 7, 7, 7, 7, 7, 7, 7, 7, 7, 8, 8, 8, 8, 8, 8, 8, 8, 8, 8, 8, 8, 8, 8, 8, 8, 8, 8, 8, 8, 8, 8, 8, 8, 8, 8, 8, 8, 8, 8, 8, 8, 8, 8, 8, 8, 8, 8, 8, 8, 8, 8, 8, 8, 8, 8, 8, 8, 8, 8, 8, 8, 8, 8, 8, 8, 8, 8, 8, 8, 8, 8, 8, 8, 8, 8, 8, 8, 8, 8, 8, 8, 8, 8, 8, 8, 8, 8, 8, 8, 8, 8, 8, 8, 8, 8, 8, 8, 8, 8, 8, 8, 8, 8, 8, 8, 8, 8, 8, 8, 8, 8, 8, 8, 8, 8, 8, 8, 8, 8, 8, 8, 8, 8, 8, 8, 8, 8, 8, 8, 8, 8, 8, 8, 8, 8, 8, 8]⟩ : ByteArray) (ji10)))))) else (none)) else (none)) = some r := by first | (rw [hji10] at H; exact H) | (simp only [hji10] at H ⊢; exact H)
          by_cases c11 : 0 ≤ (ji10)
          · rw [if_pos c11] at H
            have c11b0 : decide (0 ≤ (ji10)) = true := decide_eq_true c11
            clear c11
            by_cases c12 : (ji10) < 256
            · rw [if_pos c12] at H
              have c12b0 : decide ((ji10) < 256) = true := decide_eq_true c12
              clear c12
              obtain rfl := Option.some.inj H
              have p13 : 0 ≤ ((ji10) : Int) := of_decide_eq_true (by first | (with_reducible assumption) | assumption)
              have q13 : (ji10) < (256 : Int) := of_decide_eq_true (by first | (with_reducible assumption) | assumption)
              have hx13 := bt_at (⟨#[0, 1, 2, 2, 3, 3, 3, 3, 4, 4, 4, 4, 4, 4, 4, 4, 5, 5, 5, 5, 5, 5, 5, 5, 5, 5, 5, 5, 5, 5, 5, 5, 6, 6, 6, 6, 6, 6, 6, 6, 6, 6, 6, 6, 6, 6, 6, 6, 6, 6, 6, 6, 6, 6, 6, 6, 6, 6, 6, 6, 6, 6, 6, 6, 7, 7, 7, 7, 7, 7, 7, 7, 7, 7, 7, 7, 7, 7, 7, 7, 7, 7, 7, 7, 7, 7, 7, 7, 7, 7, 7, 7, 7, 7, 7, 7, 7, 7, 7, 7, 7, 7, 7, 7, 7, 7, 7, 7, 7, 7, 7, 7, 7, 7, 7, 7, 7, 7, 7, 7, 7, 7, 7, 7, 7, 7, 7, 7, 8, 8, 8, 8, 8, 8, 8, 8, 8, 8, 8, 8, 8, 8, 8, 8, 8, 8, 8, 8, 8, 8, 8, 8, 8, 8, 8, 8, 8, 8, 8, 8, 8, 8, 8, 8, 8, 8, 8, 8, 8, 8, 8, 8, 8, 8, 8, 8, 8, 8, 8, 8, 8, 8, 8, 8, 8, 8, 8, 8, 8, 8, 8, 8, 8, 8, 8, 8, 8, 8, 8, 8, 8, 8, 8, 8, 8, 8, 8, 8, 8, 8, 8, 8, 8, 8, 8, 8, 8, 8, 8, 8, 8, 8, 8, 8, 8, 8, 8, 8, 8, 8, 8, 8, 8, 8, 8, 8, 8, 8, 8, 8, 8, 8, 8, 8, 8, 8, 8, 8, 8, 8, 8, 8, 8, 8, 8, 8]⟩ : ByteArray) (ji10)
              replace p13 := eq_true p13
              replace q13 := eq_true q13
              go_wp2
              go_ret
              exact ⟨by first | rfl | (simp; done) | (simp only [← hji10] <;> (first | rfl | simp)) | (simp [*]; done), by repeat (first | exact Drawn0.refl _ | apply Drawn0.step)⟩
            · rw [if_neg c12] at H
              exact absurd H (by simp)
          · rw [if_neg c11] at H
            exact absurd H (by simp)
      · rw [if_neg c4] at H
        have c4b0 : decide (65536 ≤ x0_1) = false := decide_eq_false c4
        clear c4
        by_cases c14 : x0_1 ≥ 256
        · rw [if_pos c14] at H
          have c14b0 : decide (256 ≤ x0_1) = true := decide_eq_true c14
          clear c14
          obtain ⟨ji15, hji15⟩ : ∃ j_ : Int, ((x0_1 / 256) % 256) = j_ := ⟨_, rfl⟩
          replace H : (if 0 ≤ (ji15) then (if (ji15) < 256 then (some (wrap64 ((wrap64 (x2_1 + 8)) + (wrap64 (bt (⟨#[0, 1, 2, 2, 3, 3, 3, 3, 4, 4, 4, 4, 4, 4, 4, 4, 5, 5, 5, 5, 5, 5, 5, 5, 5, 5, 5, 5, 5, 5, 5, 5, 6, 6, 6, 6, 6, 6, 6, 6, 6, 6, 6, 6, 6, 6, 6, 6, 6, 6, 6, 6, 6, 6, 6, 6, 6, 6, 6, 6, 6, 6, 6, 6, 7, 7, 7, 7, 7, 7, 7, 7, 7, 7, 7, 7, 7, 7, 7, 7, 7, 7, 7, 7, 7, 7, 7, 7, 7, 7, 7, 7, 7, 7, 7, 7, 7, 7, 7, 7, 7, 7, 7, 7, 7, 7, 7, 7, 7, 7, 7, 7, 7, 7, 7, 7, 7, 7, 7, 7, 7, 7, 7, 7, 7, 7, 7, 7, 8, 8, 8, 8, 8, 8, 8, 8, 8, 8, 8, 8, 8, 8, 8, 8, 8, 8, 8, 8, 8, 8, 8, 8, 8, 8, 8, 8, 8, 8, 8, 8, 8, 8, 8, 8, 8, 8, 8, 8, 8, 8, 8, 8, 8, 8, 8, 8, 8, 8, 8, 8, 8, 8, 8, 8, 8, 8, 8, 8, 8, 8, 8, 8, 8, 8, 8, 8, 8, 8, 8, 8, 8, 8, 8, 8, 8, 8, 8, 8, 8, 8, 8, 8, 8, 8, 8, 8, 8, 8, 8, 8, 8, 8, 8, 8, 8, 8, 8, 8, 8, 8, 8, 8, 8, 8, 8, 8, 8, 8, 8, 8, 8, 8, 8, 8, 8, 8, 8, 8, 8, 8, 8, 8, 8, 8, 8, 8]⟩ : ByteArray) (ji15)))))) else (none)) else (none)) = some r := by first | (rw [hji15] at H; exact H) | (simp only [hji15] at H ⊢; exact H)
          by_cases c16 : 0 ≤ (ji15)
          · rw [if_pos c16] at H
            have c16b0 : decide (0 ≤ (ji15)) = true := decide_eq_true c16
            clear c16
            by_cases c17 : (ji15) < 256
            · rw [if_pos c17] at H
              have c17b0 : decide ((ji15) < 256) = true := decide_eq_true c17
              clear c17
              obtain rfl := Option.some.inj H
              have p18 : 0 ≤ ((ji15) : Int) := of_decide_eq_true (by first | (with_reducible assumption) | assumption)
              have q18 : (ji15) < (256 : Int) := of_decide_eq_true (by first | (with_reducible assumption) | assumption)
              have hx18 := bt_at (⟨#[0, 1, 2, 2, 3, 3, 3, 3, 4, 4, 4, 4, 4, 4, 4, 4, 5, 5, 5, 5, 5, 5, 5, 5, 5, 5, 5, 5, 5, 5, 5, 5, 6, 6, 6, 6, 6, 6, 6, 6, 6, 6, 6, 6, 6, 6, 6, 6, 6, 6, 6, 6, 6, 6, 6, 6, 6, 6, 6, 6, 6, 6, 6, 6, 7, 7, 7, 7, 7, 7, 7, 7, 7, 7, 7, 7, 7, 7, 7, 7, 7, 7, 7, 7, 7, 7, 7, 7, 7, 7, 7, 7, 7, 7, 7, 7, 7, 7, 7, 7, 7, 7, 7, 7, 7, 7, 7, 7, 7, 7, 7, 7, 7, 7, 7, 7, 7, 7, 7, 7, 7, 7, 7, 7, 7, 7, 7, 7, 8, 8, 8, 8, 8, 8, 8, 8, 8, 8, 8, 8, 8, 8, 8, 8, 8, 8, 8, 8, 8, 8, 8, 8, 8, 8, 8, 8, 8, 8, 8, 8, 8, 8, 8, 8, 8, 8, 8, 8, 8, 8, 8, 8, 8, 8, 8, 8, 8, 8, 8, 8, 8, 8, 8, 8, 8, 8, 8, 8, 8, 8, 8, 8, 8, 8, 8, 8, 8, 8, 8, 8, 8, 8, 8, 8, 8, 8, 8, 8, 8, 8, 8, 8, 8, 8, 8, 8, 8, 8, 8, 8, 8, 8, 8, 8, 8, 8, 8, 8, 8, 8, 8, 8, 8, 8, 8, 8, 8, 8, 8, 8, 8, 8, 8, 8, 8, 8, 8, 8, 8, 8, 8, 8, 8, 8, 8, 8]⟩ : ByteArray) (ji15)
              replace p18 := eq_true p18
              replace q18 := eq_true q18
              go_wp2
              go_ret
              exact ⟨by first | rfl | (simp; done) | (simp only [← hji15] <;> (first | rfl | simp)) | (simp [*]; done), by repeat (first | exact Drawn0.refl _ | apply Drawn0.step)⟩
            · rw [if_neg c17] at H
              exact absurd H (by simp)
          · rw [if_neg c16] at H
            exact absurd H (by simp)
        · rw [if_neg c14] at H
          have c14b0 : decide (256 ≤ x0_1) = false := decide_eq_false c14
          clear c14
          obtain ⟨ji19, hji19⟩ : ∃ j_ : Int, ((x0_1) % 256) = j_ := ⟨_, rfl⟩
          replace H : (if 0 ≤ (ji19) then (if (ji19) < 256 then (some (wrap64 (x2_1 + (wrap64 (bt (⟨#[0, 1, 2, 2, 3, 3, 3, 3, 4, 4, 4, 4, 4, 4, 4, 4, 5, 5, 5, 5, 5, 5, 5, 5, 5, 5, 5, 5, 5, 5, 5, 5, 6, 6, 6, 6, 6, 6, 6, 6, 6, 6, 6, 6, 6, 6, 6, 6, 6, 6, 6, 6, 6, 6, 6, 6, 6, 6, 6, 6, 6, 6, 6, 6, 7, 7, 7, 7, 7, 7, 7, 7, 7, 7, 7, 7, 7, 7, 7, 7, 7, 7, 7, 7, 7, 7, 7, 7, 7, 7, 7, 7, 7, 7, 7, 7, 7, 7, 7, 7, 7, 7, 7, 7, 7, 7, 7, 7, 7, 7, 7, 7, 7, 7, 7, 7, 7, 7, 7, 7, 7, 7, 7, 7, 7, 7, 7, 7, 8, 8, 8, 8, 8, 8, 8, 8, 8, 8, 8, 8, 8, 8, 8, 8, 8, 8, 8, 8, 8, 8, 8, 8, 8, 8, 8, 8, 8, 8, 8, 8, 8, 8, 8, 8, 8, 8, 8, 8, 8, 8, 8, 8, 8, 8, 8, 8, 8, 8, 8, 8, 8, 8, 8, 8, 8, 8, 8, 8, 8, 8, 8, 8, 8, 8, 8, 8, 8, 8, 8, 8, 8, 8, 8, 8, 8, 8, 8, 8, 8, 8, 8, 8, 8, 8, 8, 8, 8, 8, 8, 8, 8, 8, 8, 8, 8, 8, 8, 8, 8, 8, 8, 8, 8, 8, 8, 8, 8, 8, 8, 8, 8, 8, 8, 8, 8, 8, 8, 8, 8, 8, 8, 8, 8, 8, 8, 8]⟩ : ByteArray) (ji19)))))) else (none)) else (none)) = some r := by first | (rw [hji19] at H; exact H) | (simp only [hji19] at H ⊢; exact H)
          by_cases c20 : 0 ≤ (ji19)
          · rw [if_pos c20] at H
            have c20b0 : decide (0 ≤ (ji19)) = true := decide_eq_true c20
            clear c20
            by_cases c21 : (ji19) < 256
            · rw [if_pos c21] at H
              have c21b0 : decide ((ji19) < 256) = true := decide_eq_true c21
              clear c21
              obtain rfl := Option.some.inj H
              have p22 : 0 ≤ ((ji19) : Int) := of_decide_eq_true (by first | (with_reducible assumption) | assumption)
              have q22 : (ji19) < (256 : Int) := of_decide_eq_true (by first | (with_reducible assumption) | assumption)
              have hx22 := bt_at (⟨#[0, 1, 2, 2, 3, 3, 3, 3, 4, 4, 4, 4, 4, 4, 4, 4, 5, 5, 5, 5, 5, 5, 5, 5, 5, 5, 5, 5, 5, 5, 5, 5, 6, 6, 6, 6, 6, 6, 6, 6, 6, 6, 6, 6, 6, 6, 6, 6, 6, 6, 6, 6, 6, 6, 6, 6, 6, 6, 6, 6, 6, 6, 6, 6, 7, 7, 7, 7, 7, 7, 7, 7, 7, 7, 7, 7, 7, 7, 7, 7, 7, 7, 7, 7, 7, 7, 7, 7, 7, 7, 7, 7, 7, 7, 7, 7, 7, 7, 7, 7, 7, 7, 7, 7, 7, 7, 7, 7, 7, 7, 7, 7, 7, 7, 7, 7, 7, 7, 7, 7, 7, 7, 7, 7, 7, 7, 7, 7, 8, 8, 8, 8, 8, 8, 8, 8, 8, 8, 8, 8, 8, 8, 8, 8, 8, 8, 8, 8, 8, 8, 8, 8, 8, 8, 8, 8, 8, 8, 8, 8, 8, 8, 8, 8, 8, 8, 8, 8, 8, 8, 8, 8, 8, 8, 8, 8, 8, 8, 8, 8, 8, 8, 8, 8, 8, 8, 8, 8, 8, 8, 8, 8, 8, 8, 8, 8, 8, 8, 8, 8, 8, 8, 8, 8, 8, 8, 8, 8, 8, 8, 8, 8, 8, 8, 8, 8, 8, 8, 8, 8, 8, 8, 8, 8, 8, 8, 8, 8, 8, 8, 8, 8, 8, 8, 8, 8, 8, 8, 8, 8, 8, 8, 8, 8, 8, 8, 8, 8, 8, 8, 8, 8, 8, 8, 8, 8]⟩ : ByteArray) (ji19)
              replace p22 := eq_true p22
              replace q22 := eq_true q22
              go_wp2
              go_ret
              exact ⟨by first | rfl | (simp; done) | (simp only [← hji19] <;> (first | rfl | simp)) | (simp [*]; done), by repeat (first | exact Drawn0.refl _ | apply Drawn0.step)⟩
            · rw [if_neg c21] at H
              exact absurd H (by simp)
          · rw [if_neg c20] at H
            exact absurd H (by simp)

/-! ### strconv_bool2_int: function 54 -/
def strconv_bool2_int.f (a0 : Bool) : Option (Int) := if a0 = true then (some 1) else (some 0)
set_option maxHeartbeats 8000000 in
set_option maxRecDepth 100000 in
theorem strconv_bool2_int.calls (a0 : Bool) (r : Int) (w : World) (h : strconv_bool2_int.f a0 = some r) :
    Calls Tryd.prog 54 #[.bool a0] w fun e w' => e = .returned (.int .i64 r) ∧ Drawn0 w w' := by
  have H : (if a0 = true then (some 1) else (some 0)) = some r := h
  clear h
  by_cases c2 : a0 = true
  · subst c2
    have H1 : (some 1) = some r := by rw [if_pos rfl] at H; exact H
    clear H
    have H := H1
    clear H1
    obtain rfl := Option.some.inj H
    go_enter Tryd.func54, Tryd.ntmps54
    go_wp2
    go_ret
    exact ⟨by first | rfl | (simp; done) | (simp [*]; done), by repeat (first | exact Drawn0.refl _ | apply Drawn0.step)⟩
  · replace c2 := Bool.eq_false_iff.mpr c2
    subst c2
    have H1 : (some 0) = some r := by rw [if_neg (show ¬ (false = true) by decide)] at H; exact H
    clear H
    have H := H1
    clear H1
    obtain rfl := Option.some.inj H
    go_enter Tryd.func54, Tryd.ntmps54
    go_wp2
    go_ret
    exact ⟨by first | rfl | (simp; done) | (simp [*]; done), by repeat (first | exact Drawn0.refl _ | apply Drawn0.step)⟩

/-! ### strconv_numDigits: function 39 -/
def strconv_numDigits.f (k : Nat) (a0 : Int) : Option (Int) := (bits_Len64.f k a0).bind fun t101 => ((strconv_log10Pow2.f t101).bind fun t102 => (none))
theorem strconv_numDigits.mono : ∀ a0 k, LeO (strconv_numDigits.f k a0) (strconv_numDigits.f (k + 1) a0) := by
  intro a0 k
  unfold strconv_numDigits.f
  repeat' first
      | (with_reducible exact bits_Len64.mono _ _)
      | (with_reducible exact LeO.refl _)
      | (with_reducible exact LeO.none _)
      | (with_reducible refine LeO.ite ?_ ?_)
      | (with_reducible refine LeO.bind ?_ (fun _ => ?_))
      | exact bits_Len64.mono _ _
      | exact LeO.none _
      | refine LeO.ite ?_ ?_
      | refine LeO.bind ?_ (fun _ => ?_)
set_option maxHeartbeats 8000000 in
set_option maxRecDepth 100000 in
theorem strconv_numDigits.calls (k : Nat) (a0 : Int) (r : Int) (w : World) (h : strconv_numDigits.f k a0 = some r) :
    Calls Tryd.prog 39 #[.int .u64 a0] w fun e w' => e = .returned (.int .i64 r) ∧ Drawn0 w w' := by
  have H : ((bits_Len64.f k a0).bind fun t101 => ((strconv_log10Pow2.f t101).bind fun t102 => (none))) = some r := h
  clear h
  replace H := Option.bind_eq_some_iff.mp H
  obtain ⟨t101, A20, H⟩ := H
  replace H : ((strconv_log10Pow2.f t101).bind fun t102 => (none)) = some r := H
  have A2 := Aside0.mk A20
  clear A20
  replace H := Option.bind_eq_some_iff.mp H
  obtain ⟨t102, A30, H⟩ := H
  replace H : (none) = some r := H
  have A3 := Aside0.mk A30
  clear A30
  exact absurd H (by simp)

-- NOT PRINTED: function 40 (strconv_formatBase10)

/-! ### strconv_isPowerOfTwo: function 55 -/
def strconv_isPowerOfTwo.f (a0 : Int) : Option (Bool) := some ((Go.bits .and .i64 a0 (wrap64 (a0 - 1))) == 0)
set_option maxHeartbeats 8000000 in
set_option maxRecDepth 100000 in
theorem strconv_isPowerOfTwo.calls (a0 : Int) (r : Bool) (w : World) (h : strconv_isPowerOfTwo.f a0 = some r) :
    Calls Tryd.prog 55 #[.int .i64 a0] w fun e w' => e = .returned (.bool r) ∧ Drawn0 w w' := by
  have H : (some ((Go.bits .and .i64 a0 (wrap64 (a0 - 1))) == 0)) = some r := h
  clear h
  obtain rfl := Option.some.inj H
  go_enter Tryd.func55, Tryd.ntmps55
  go_wp2
  go_ret
  exact ⟨by first | rfl | (simp; done) | (simp [*]; done), by repeat (first | exact Drawn0.refl _ | apply Drawn0.step)⟩

/-! ### bits_TrailingZeros32: function 62 -/
def bits_TrailingZeros32.f (a0 : Int) : Option (Int) := if a0 = 0 then (some 32) else (none)
set_option maxHeartbeats 8000000 in
set_option maxRecDepth 100000 in
theorem bits_TrailingZeros32.calls (a0 : Int) (r : Int) (w : World) (h : bits_TrailingZeros32.f a0 = some r) :
    Calls Tryd.prog 62 #[.int .u32 a0] w fun e w' => e = .returned (.int .i64 r) ∧ Drawn0 w w' := by
  have H : (if a0 = 0 then (some 32) else (none)) = some r := h
  clear h
  by_cases c2 : a0 = 0
  · rw [if_pos c2] at H
    have c2b0 : (a0 == 0) = true := beq_iff_eq.mpr c2
    have c2b1 : (a0 != 0) = false := bne_eq_false_iff_eq.mpr c2
    clear c2
    obtain rfl := Option.some.inj H
    go_enter Tryd.func62, Tryd.ntmps62
    go_wp2
    go_ret
    exact ⟨by first | rfl | (simp; done) | (simp [*]; done), by repeat (first | exact Drawn0.refl _ | apply Drawn0.step)⟩
  · rw [if_neg c2] at H
    exact absurd H (by simp)

/-! ### bits_TrailingZeros64: function 63 -/
def bits_TrailingZeros64.f (a0 : Int) : Option (Int) := if a0 = 0 then (some 64) else (none)
set_option maxHeartbeats 8000000 in
set_option maxRecDepth 100000 in
theorem bits_TrailingZeros64.calls (a0 : Int) (r : Int) (w : World) (h : bits_TrailingZeros64.f a0 = some r) :
    Calls Tryd.prog 63 #[.int .u64 a0] w fun e w' => e = .returned (.int .i64 r) ∧ Drawn0 w w' := by
  have H : (if a0 = 0 then (some 64) else (none)) = some r := h
  clear h
  by_cases c2 : a0 = 0
  · rw [if_pos c2] at H
    have c2b0 : (a0 == 0) = true := beq_iff_eq.mpr c2
    have c2b1 : (a0 != 0) = false := bne_eq_false_iff_eq.mpr c2
    clear c2
    obtain rfl := Option.some.inj H
    go_enter Tryd.func63, Tryd.ntmps63
    go_wp2
    go_ret
    exact ⟨by first | rfl | (simp; done) | (simp [*]; done), by repeat (first | exact Drawn0.refl _ | apply Drawn0.step)⟩
  · rw [if_neg c2] at H
    exact absurd H (by simp)

/-! ### bits_TrailingZeros: function 56 -/
def bits_TrailingZeros.f (a0 : Int) : Option (Int) := (bits_TrailingZeros64.f a0).bind fun t119 => (some t119)
set_option maxHeartbeats 8000000 in
set_option maxRecDepth 100000 in
theorem bits_TrailingZeros.calls (a0 : Int) (r : Int) (w : World) (h : bits_TrailingZeros.f a0 = some r) :
    Calls Tryd.prog 56 #[.int .u64 a0] w fun e w' => e = .returned (.int .i64 r) ∧ Drawn0 w w' := by
  have H : ((bits_TrailingZeros64.f a0).bind fun t119 => (some t119)) = some r := h
  clear h
  replace H := Option.bind_eq_some_iff.mp H
  obtain ⟨t119, A20, H⟩ := H
  replace H : (some t119) = some r := H
  have A2 := Aside0.mk A20
  clear A20
  obtain rfl := Option.some.inj H
  go_enter Tryd.func56, Tryd.ntmps56
  go_wp2_with (first | ((with_reducible refine gate_callee (f := 63) rfl ?_); refine goesL_ (some 7) rfl rfl Tryd.func63 (by kernel_rfl) rfl #[.int .u64 a0] rfl (by (try simp only [List.map_toArray, List.map_cons, List.map_nil]); first | done | rfl | (simp only [List.length_drop, List.length_take]; rfl)) ?_; (with_reducible refine (bits_TrailingZeros64.calls a0 t119 _ A2.out).mono ?_); rintro e w' ⟨rfl, ⟨nd, rfl⟩⟩; refine ⟨_, rfl, ?_⟩))
  go_ret
  exact ⟨by first | rfl | (simp; done) | (simp [*]; done), by repeat (first | exact Drawn0.refl _ | apply Drawn0.step)⟩

/-! ### strconv_formatBits: function 41 -/
def strconv_formatBits.j0 : Nat → Bool → Option (List Int × ByteArray)
  | 0, _ => none
  | k + 1, x28 => if x28 = true then (none) else (none)
def strconv_formatBits.f (k : Nat) (l0 : List Int) (a1 : Int) (a2 : Int) (a3 : Bool) (a4 : Bool) : Option (List Int × ByteArray) := if a2 < 2 then (strconv_formatBits.j0 k true) else (if a2 = 10 then (strconv_formatBits.j0 k true) else (strconv_formatBits.j0 k (decide (a2 > 36))))
theorem strconv_formatBits.mono_l : ∀ k, (∀ y0, LeO (strconv_formatBits.j0 k y0) (strconv_formatBits.j0 (k + 1) y0))
  | 0 => fun _ r h => by simp [strconv_formatBits.j0] at h
  | k + 1 => by
    have ih0 := strconv_formatBits.mono_l k
    · intro y0
      unfold strconv_formatBits.j0
      repeat' first
      | (with_reducible exact ih0 _)
      | (with_reducible exact LeO.refl _)
      | (with_reducible exact LeO.none _)
      | (with_reducible refine LeO.ite ?_ ?_)
      | (with_reducible refine LeO.bind ?_ (fun _ => ?_))
      | exact ih0 _
      | exact LeO.none _
      | refine LeO.ite ?_ ?_
      | refine LeO.bind ?_ (fun _ => ?_)
theorem strconv_formatBits.mono : ∀ a0 a1 a2 a3 a4 k, LeO (strconv_formatBits.f k a0 a1 a2 a3 a4) (strconv_formatBits.f (k + 1) a0 a1 a2 a3 a4) := by
  intro a0 a1 a2 a3 a4 k
  have ih0 := strconv_formatBits.mono_l k
  unfold strconv_formatBits.f
  repeat' first
      | (with_reducible exact ih0 _)
      | (with_reducible exact LeO.refl _)
      | (with_reducible exact LeO.none _)
      | (with_reducible refine LeO.ite ?_ ?_)
      | (with_reducible refine LeO.bind ?_ (fun _ => ?_))
      | exact ih0 _
      | exact LeO.none _
      | refine LeO.ite ?_ ?_
      | refine LeO.bind ?_ (fun _ => ?_)
set_option maxHeartbeats 8000000 in
set_option maxRecDepth 100000 in
theorem strconv_formatBits.calls (k : Nat) (A0 : Option Addr) (c0 : Nat) (l0 : List Int) (a1 : Int) (a2 : Int) (a3 : Bool) (a4 : Bool) (r1 : List Int) (r2 : ByteArray) (w : World) (hr0 : Kd.C (Kd.int .u8) w A0 l0.length l0) (hc0 : l0.length ≤ c0) (h : strconv_formatBits.f k l0 a1 a2 a3 a4 = some (r1, r2)) :
    Calls Tryd.prog 41 #[.slice A0 l0.length c0, .int .u64 a1, .int .i64 a2, .bool a3, .bool a4] w fun e w' => ∃ v0_ : Value, e = .returned (.tuple #[v0_, .string r2]) ∧ Kd.R (Kd.int .u8) 5 w' w.heap.size (fun _ => True) v0_ r1 ∧ Below w.heap.size w w' := by
  have HR0 := Aside0.mk hr0
  have HC0 := Aside0.mk hc0
  clear hr0 hc0
  have HB := Aside0.mk (Below.refl w.heap.size w)
  have H : (if a2 < 2 then (strconv_formatBits.j0 k true) else (if a2 = 10 then (strconv_formatBits.j0 k true) else (strconv_formatBits.j0 k (decide (a2 > 36))))) = some (r1, r2) := h
  clear h
  have HC6 := Aside0.mk H
  clear H
  go_enter Tryd.func41, Tryd.ntmps41
  go_upto_region 1 with (fail)
  go_cut [28] (fun v28 wc => ∃ (kq : Nat) (x28_5 : Bool), v28 = .bool x28_5 ∧ Aside0 (strconv_formatBits.j0 kq x28_5 = some (r1, r2)) ∧ Aside0 (kq ≤ k) ∧ Aside0 (Below w.heap.size w wc))
  case first =>
    have H := HC6.out
    clear HC6
    by_cases c7 : a2 < 2
    · rw [if_pos c7] at H
      have c7b0 : decide (a2 < 2) = true := decide_eq_true c7
      clear c7
      (first | rw [c7b0] | (simp only [i64_w, i32_w]; rw [c7b0]) | skip)
      have H' := Aside0.mk H
      clear H
      go_wp2
      go_meet
      case rel => exact ⟨_, (true), (by first | rfl | (simp; done) | (simp [*]; done)), H', ⟨by first | omega | exact Nat.le_refl _⟩, ⟨by repeat (first | (with_reducible first | exact HB.out | apply below_alloc | apply pw_below_drewN | apply below_drew1) | exact HB.out)⟩⟩
    · rw [if_neg c7] at H
      have c7b0 : decide (a2 < 2) = false := decide_eq_false c7
      clear c7
      (first | rw [c7b0] | (simp only [i64_w, i32_w]; rw [c7b0]) | skip)
      by_cases c8 : a2 = 10
      · rw [if_pos c8] at H
        have c8b0 : (a2 == 10) = true := beq_iff_eq.mpr c8
        have c8b1 : (a2 != 10) = false := bne_eq_false_iff_eq.mpr c8
        clear c8
        have H' := Aside0.mk H
        clear H
        go_wp2
        go_meet
        case rel => exact ⟨_, (true), (by first | rfl | (simp; done) | (simp [*]; done)), H', ⟨by first | omega | exact Nat.le_refl _⟩, ⟨by repeat (first | (with_reducible first | exact HB.out | apply below_alloc | apply pw_below_drewN | apply below_drew1) | exact HB.out)⟩⟩
      · rw [if_neg c8] at H
        have c8b0 : (a2 == 10) = false := beq_eq_false_iff_ne.mpr c8
        have c8b1 : (a2 != 10) = true := bne_iff_ne.mpr c8
        have H' := Aside0.mk H
        clear H
        go_wp2
        go_meet
        case rel => exact ⟨_, (decide (a2 > 36)), (by first | rfl | (simp; done) | (simp [*]; done)), H', ⟨by first | omega | exact Nat.le_refl _⟩, ⟨by repeat (first | (with_reducible first | exact HB.out | apply below_alloc | apply pw_below_drewN | apply below_drew1) | exact HB.out)⟩⟩
  case rest =>
    clear HC6
    try clear p2
    try clear c4
    try clear c7
    try clear c7b0
    try clear c8
    try clear c8b0
    try clear c8b1
    obtain ⟨kq, x28_5, rfl, HA, HJ5, HB⟩ := hcut
    cases kq with
    | zero => exact absurd HA.out (by simp [strconv_formatBits.j0])
    | succ kj5 =>
      have H := HA.out
      clear HA
      simp only [strconv_formatBits.j0] at H
      by_cases c9 : x28_5 = true
      · subst c9
        have H1 : (none) = some (r1, r2) := by rw [if_pos rfl] at H; exact H
        clear H
        have H := H1
        clear H1
        exact absurd H (by simp)
      · replace c9 := Bool.eq_false_iff.mpr c9
        subst c9
        have H1 : (none) = some (r1, r2) := by rw [if_neg (show ¬ (false = true) by decide)] at H; exact H
        clear H
        have H := H1
        clear H1
        exact absurd H (by simp)

/-! ### internal_strconv_FormatInt: function 32 -/
def internal_strconv_FormatInt.j0 : Nat → Int → Bool → Option (ByteArray)
  | 0, _, _ => none
  | k + 1, x0, x17 => if x17 = true then ((strconv_small.f x0).bind fun t120 => (some t120)) else (none)
def internal_strconv_FormatInt.f (k : Nat) (a0 : Int) (a1 : Int) : Option (ByteArray) := if a1 = 10 then (if 0 ≤ a0 then (internal_strconv_FormatInt.j0 k a0 (decide (a0 < 100))) else (internal_strconv_FormatInt.j0 k a0 false)) else ((strconv_formatBits.f k ([] : List Int) (IntKind.u64.wrap (a0)) a1 (decide (a0 < 0)) false).bind fun bt121 => (some bt121.2))
theorem internal_strconv_FormatInt.mono_l : ∀ k, (∀ y0 y1, LeO (internal_strconv_FormatInt.j0 k y0 y1) (internal_strconv_FormatInt.j0 (k + 1) y0 y1))
  | 0 => fun _ _ r h => by simp [internal_strconv_FormatInt.j0] at h
  | k + 1 => by
    have ih0 := internal_strconv_FormatInt.mono_l k
    · intro y0 y1
      unfold internal_strconv_FormatInt.j0
      repeat' first
      | (with_reducible exact ih0 _ _)
      | (with_reducible exact strconv_formatBits.mono _ _ _ _ _ _)
      | (with_reducible exact LeO.refl _)
      | (with_reducible exact LeO.none _)
      | (with_reducible refine LeO.ite ?_ ?_)
      | (with_reducible refine LeO.bind ?_ (fun _ => ?_))
      | exact ih0 _ _
      | exact strconv_formatBits.mono _ _ _ _ _ _
      | exact LeO.none _
      | refine LeO.ite ?_ ?_
      | refine LeO.bind ?_ (fun _ => ?_)
theorem internal_strconv_FormatInt.mono : ∀ a0 a1 k, LeO (internal_strconv_FormatInt.f k a0 a1) (internal_strconv_FormatInt.f (k + 1) a0 a1) := by
  intro a0 a1 k
  have ih0 := internal_strconv_FormatInt.mono_l k
  unfold internal_strconv_FormatInt.f
  repeat' first
      | (with_reducible exact ih0 _ _)
      | (with_reducible exact strconv_formatBits.mono _ _ _ _ _ _)
      | (with_reducible exact LeO.refl _)
      | (with_reducible exact LeO.none _)
      | (with_reducible refine LeO.ite ?_ ?_)
      | (with_reducible refine LeO.bind ?_ (fun _ => ?_))
      | exact ih0 _ _
      | exact strconv_formatBits.mono _ _ _ _ _ _
      | exact LeO.none _
      | refine LeO.ite ?_ ?_
      | refine LeO.bind ?_ (fun _ => ?_)
set_option maxHeartbeats 8000000 in
set_option maxRecDepth 100000 in
theorem internal_strconv_FormatInt.calls (k : Nat) (a0 : Int) (a1 : Int) (r : ByteArray) (w : World) (h : internal_strconv_FormatInt.f k a0 a1 = some r) :
    Calls Tryd.prog 32 #[.int .i64 a0, .int .i64 a1] w fun e w' => e = .returned (.string r) ∧ Below w.heap.size w w' := by
  have HB := Aside0.mk (Below.refl w.heap.size w)
  have H : (if a1 = 10 then (if 0 ≤ a0 then (internal_strconv_FormatInt.j0 k a0 (decide (a0 < 100))) else (internal_strconv_FormatInt.j0 k a0 false)) else ((strconv_formatBits.f k ([] : List Int) (IntKind.u64.wrap (a0)) a1 (decide (a0 < 0)) false).bind fun bt121 => (some bt121.2))) = some r := h
  clear h
  by_cases c3 : a1 = 10
  · rw [if_pos c3] at H
    have c3b0 : (a1 == 10) = true := beq_iff_eq.mpr c3
    have c3b1 : (a1 != 10) = false := bne_eq_false_iff_eq.mpr c3
    clear c3
    have HC4 := Aside0.mk H
    clear H
    go_enter Tryd.func32, Tryd.ntmps32
    go_upto_region 2 with (fail)
    go_cut [17] (fun v17 wc => ∃ (kq : Nat) (x17_3 : Bool), v17 = .bool x17_3 ∧ Aside0 (internal_strconv_FormatInt.j0 kq a0 x17_3 = some r) ∧ Aside0 (kq ≤ k) ∧ Aside0 (Below w.heap.size w wc))
    case first =>
      have H := HC4.out
      clear HC4
      by_cases c5 : 0 ≤ a0
      · rw [if_pos c5] at H
        have c5b0 : decide (0 ≤ a0) = true := decide_eq_true c5
        clear c5
        (first | rw [c5b0] | (simp only [i64_w, i32_w]; rw [c5b0]) | skip)
        have H' := Aside0.mk H
        clear H
        go_wp2
        go_meet
        case rel => exact ⟨_, (decide (a0 < 100)), (by first | rfl | (simp; done) | (simp [*]; done)), H', ⟨by first | omega | exact Nat.le_refl _⟩, ⟨by repeat (first | (with_reducible first | exact HB.out | apply below_alloc | apply pw_below_drewN | apply below_drew1) | exact HB.out)⟩⟩
      · rw [if_neg c5] at H
        have c5b0 : decide (0 ≤ a0) = false := decide_eq_false c5
        clear c5
        (first | rw [c5b0] | (simp only [i64_w, i32_w]; rw [c5b0]) | skip)
        have H' := Aside0.mk H
        clear H
        go_wp2
        go_meet
        case rel => exact ⟨_, (false), (by first | rfl | (simp; done) | (simp [*]; done)), H', ⟨by first | omega | exact Nat.le_refl _⟩, ⟨by repeat (first | (with_reducible first | exact HB.out | apply below_alloc | apply pw_below_drewN | apply below_drew1) | exact HB.out)⟩⟩
    case rest =>
      clear HC4
      try clear p2
      try clear c3
      try clear c3b0
      try clear c3b1
      try clear c5
      try clear c5b0
      obtain ⟨kq, x17_3, rfl, HA, HJ3, HB⟩ := hcut
      cases kq with
      | zero => exact absurd HA.out (by simp [internal_strconv_FormatInt.j0])
      | succ kj3 =>
        have H := HA.out
        clear HA
        simp only [internal_strconv_FormatInt.j0] at H
        by_cases c6 : x17_3 = true
        · subst c6
          have H1 : ((strconv_small.f a0).bind fun t120 => (some t120)) = some r := by rw [if_pos rfl] at H; exact H
          clear H
          have H := H1
          clear H1
          replace H := Option.bind_eq_some_iff.mp H
          obtain ⟨t120, A70, H⟩ := H
          replace H : (some t120) = some r := H
          have A7 := Aside0.mk A70
          clear A70
          obtain rfl := Option.some.inj H
          go_wp2_with (first | ((with_reducible refine gate_callee (f := 38) rfl ?_); refine goesL_ (some 19) rfl rfl Tryd.func38 (by kernel_rfl) rfl #[.int .i64 a0] rfl (by (try simp only [List.map_toArray, List.map_cons, List.map_nil]); first | done | rfl | (simp only [List.length_drop, List.length_take]; rfl)) ?_; (with_reducible refine (strconv_small.calls a0 t120 _ A7.out).mono ?_); rintro e w' ⟨rfl, ⟨nd, rfl⟩⟩; refine ⟨_, rfl, ?_⟩))
          go_ret
          exact ⟨by first | rfl | (simp [errW_none, errW_some] <;> rfl) | (simp [*, errW_none, errW_some] <;> rfl), by repeat (first | (with_reducible first | exact HB.out | apply below_alloc | apply pw_below_drewN | apply below_drew1) | exact HB.out)⟩
        · replace c6 := Bool.eq_false_iff.mpr c6
          subst c6
          have H1 : (none) = some r := by rw [if_neg (show ¬ (false = true) by decide)] at H; exact H
          clear H
          have H := H1
          clear H1
          exact absurd H (by simp)
  · rw [if_neg c3] at H
    have c3b0 : (a1 == 10) = false := beq_eq_false_iff_ne.mpr c3
    have c3b1 : (a1 != 10) = true := bne_iff_ne.mpr c3
    replace H := Option.bind_eq_some_iff.mp H
    obtain ⟨⟨t121, t122⟩, A80, H⟩ := H
    replace H : (some t122) = some r := H
    have A8 := Aside0.mk A80
    clear A80
    obtain rfl := Option.some.inj H
    go_enter Tryd.func32, Tryd.ntmps32
    go_wp2_with (first | ((with_reducible refine gate_callee (f := 41) rfl ?_); refine goesL_ (some 50) rfl rfl Tryd.func41 (by kernel_rfl) rfl #[.slice none 0 0, .int .u64 (IntKind.u64.wrap (a0)), .int .i64 a1, .bool (decide (a0 < 0)), .bool false] rfl (by (try simp only [List.map_toArray, List.map_cons, List.map_nil]); first | done | rfl | (simp only [List.length_drop, List.length_take]; rfl)) ?_; (refine (strconv_formatBits.calls k _ _ ([] : List Int) (IntKind.u64.wrap (a0)) a1 (decide (a0 < 0)) false t121 t122 _ ?side1 ?side2 A8.out).mono ?_); (case side1 => exact Kd.C_nil _ _); (case side2 => exact Nat.le_refl _); rintro e w9 ⟨v123, rfl, ho0, hb⟩; refine ⟨_, rfl, ?_⟩; have n0_ := Aside0.mk (Kd.R_lower ho0 (below_size (by repeat (first | (with_reducible first | exact HB.out | apply below_alloc | apply pw_below_drewN | apply below_drew1) | exact HB.out)))); have n1_ := Aside0.mk (below_step (by repeat (first | (with_reducible first | exact HB.out | apply below_alloc | apply pw_below_drewN | apply below_drew1) | exact HB.out)) hb); clear HB; have HO124 := n0_; have HB := n1_; clear n0_ n1_; (try clear hb); (try clear hb2); (try clear hk); (try clear hi); (try clear ho0)))
    go_ret
    exact ⟨by first | rfl | (simp [errW_none, errW_some] <;> rfl) | (simp [*, errW_none, errW_some] <;> rfl), by repeat (first | (with_reducible first | exact HB.out | apply below_alloc | apply pw_below_drewN | apply below_drew1) | exact HB.out)⟩

/-! ### strconv_FormatInt: function 22 -/
def strconv_FormatInt.f (k : Nat) (a0 : Int) (a1 : Int) : Option (ByteArray) := (internal_strconv_FormatInt.f k a0 a1).bind fun t125 => (some t125)
theorem strconv_FormatInt.mono : ∀ a0 a1 k, LeO (strconv_FormatInt.f k a0 a1) (strconv_FormatInt.f (k + 1) a0 a1) := by
  intro a0 a1 k
  unfold strconv_FormatInt.f
  repeat' first
      | (with_reducible exact internal_strconv_FormatInt.mono _ _ _)
      | (with_reducible exact LeO.refl _)
      | (with_reducible exact LeO.none _)
      | (with_reducible refine LeO.ite ?_ ?_)
      | (with_reducible refine LeO.bind ?_ (fun _ => ?_))
      | exact internal_strconv_FormatInt.mono _ _ _
      | exact LeO.none _
      | refine LeO.ite ?_ ?_
      | refine LeO.bind ?_ (fun _ => ?_)
set_option maxHeartbeats 8000000 in
set_option maxRecDepth 100000 in
theorem strconv_FormatInt.calls (k : Nat) (a0 : Int) (a1 : Int) (r : ByteArray) (w : World) (h : strconv_FormatInt.f k a0 a1 = some r) :
    Calls Tryd.prog 22 #[.int .i64 a0, .int .i64 a1] w fun e w' => e = .returned (.string r) ∧ Below w.heap.size w w' := by
  have HB := Aside0.mk (Below.refl w.heap.size w)
  have H : ((internal_strconv_FormatInt.f k a0 a1).bind fun t125 => (some t125)) = some r := h
  clear h
  replace H := Option.bind_eq_some_iff.mp H
  obtain ⟨t125, A30, H⟩ := H
  replace H : (some t125) = some r := H
  have A3 := Aside0.mk A30
  clear A30
  obtain rfl := Option.some.inj H
  go_enter Tryd.func22, Tryd.ntmps22
  go_wp2_with (first | ((with_reducible refine gate_callee (f := 32) rfl ?_); refine goesL_ (some 7) rfl rfl Tryd.func32 (by kernel_rfl) rfl #[.int .i64 a0, .int .i64 a1] rfl (by (try simp only [List.map_toArray, List.map_cons, List.map_nil]); first | done | rfl | (simp only [List.length_drop, List.length_take]; rfl)) ?_; (with_reducible refine (internal_strconv_FormatInt.calls k a0 a1 t125 _ A3.out).mono ?_); rintro e w4 ⟨rfl, hb⟩; refine ⟨_, rfl, ?_⟩; have n0_ := Aside0.mk (below_step (by repeat (first | (with_reducible first | exact HB.out | apply below_alloc | apply pw_below_drewN | apply below_drew1) | exact HB.out)) hb); clear HB; have HB := n0_; clear n0_; (try clear hb); (try clear hb2); (try clear hk); (try clear hi)))
  go_ret
  exact ⟨by first | rfl | (simp [errW_none, errW_some] <;> rfl) | (simp [*, errW_none, errW_some] <;> rfl), by repeat (first | (with_reducible first | exact HB.out | apply below_alloc | apply pw_below_drewN | apply below_drew1) | exact HB.out)⟩

/-! ### spec_Number: function 14 -/
def spec_Number.f (k : Nat) (a0 : Int) : Option (ByteArray) := (strconv_FormatInt.f k a0 10).bind fun t126 => (some t126)
theorem spec_Number.mono : ∀ a0 k, LeO (spec_Number.f k a0) (spec_Number.f (k + 1) a0) := by
  intro a0 k
  unfold spec_Number.f
  repeat' first
      | (with_reducible exact strconv_FormatInt.mono _ _ _)
      | (with_reducible exact LeO.refl _)
      | (with_reducible exact LeO.none _)
      | (with_reducible refine LeO.ite ?_ ?_)
      | (with_reducible refine LeO.bind ?_ (fun _ => ?_))
      | exact strconv_FormatInt.mono _ _ _
      | exact LeO.none _
      | refine LeO.ite ?_ ?_
      | refine LeO.bind ?_ (fun _ => ?_)
set_option maxHeartbeats 8000000 in
set_option maxRecDepth 100000 in
theorem spec_Number.calls (k : Nat) (a0 : Int) (r : ByteArray) (w : World) (h : spec_Number.f k a0 = some r) :
    Calls Tryd.prog 14 #[.int .i64 a0] w fun e w' => e = .returned (.string r) ∧ Below w.heap.size w w' := by
  have HB := Aside0.mk (Below.refl w.heap.size w)
  have H : ((strconv_FormatInt.f k a0 10).bind fun t126 => (some t126)) = some r := h
  clear h
  replace H := Option.bind_eq_some_iff.mp H
  obtain ⟨t126, A20, H⟩ := H
  replace H : (some t126) = some r := H
  have A2 := Aside0.mk A20
  clear A20
  obtain rfl := Option.some.inj H
  go_enter Tryd.func14, Tryd.ntmps14
  go_wp2_with (first | ((with_reducible refine gate_callee (f := 22) rfl ?_); refine goesL_ (some 4) rfl rfl Tryd.func22 (by kernel_rfl) rfl #[.int .i64 a0, .int .i64 10] rfl (by (try simp only [List.map_toArray, List.map_cons, List.map_nil]); first | done | rfl | (simp only [List.length_drop, List.length_take]; rfl)) ?_; (with_reducible refine (strconv_FormatInt.calls k a0 10 t126 _ A2.out).mono ?_); rintro e w3 ⟨rfl, hb⟩; refine ⟨_, rfl, ?_⟩; have n0_ := Aside0.mk (below_step (by repeat (first | (with_reducible first | exact HB.out | apply below_alloc | apply pw_below_drewN | apply below_drew1) | exact HB.out)) hb); clear HB; have HB := n0_; clear n0_; (try clear hb); (try clear hb2); (try clear hk); (try clear hi)))
  go_ret
  exact ⟨by first | rfl | (simp [errW_none, errW_some] <;> rfl) | (simp [*, errW_none, errW_some] <;> rfl), by repeat (first | (with_reducible first | exact HB.out | apply below_alloc | apply pw_below_drewN | apply below_drew1) | exact HB.out)⟩

/-! ### stringslite_HasPrefix: function 57 -/
def stringslite_HasPrefix.f (a0 : ByteArray) (a1 : ByteArray) : Option (Bool) := if (a0.size : Int) ≥ (a1.size : Int) then (if 0 ≤ (a1.size : Int) then (if (a1.size : Int) ≤ (a0.size : Int) then (some ((a0.extract 0 ((a1.size : Int) : Int).toNat).toList == a1.toList)) else (none)) else (none)) else (some false)
set_option maxHeartbeats 8000000 in
set_option maxRecDepth 100000 in
theorem stringslite_HasPrefix.calls (a0 : ByteArray) (a1 : ByteArray) (r : Bool) (w : World) (h : stringslite_HasPrefix.f a0 a1 = some r) :
    Calls Tryd.prog 57 #[.string a0, .string a1] w fun e w' => e = .returned (.bool r) ∧ Drawn0 w w' := by
  have H : (if (a0.size : Int) ≥ (a1.size : Int) then (if 0 ≤ (a1.size : Int) then (if (a1.size : Int) ≤ (a0.size : Int) then (some ((a0.extract 0 ((a1.size : Int) : Int).toNat).toList == a1.toList)) else (none)) else (none)) else (some false)) = some r := h
  clear h
  by_cases c3 : (a0.size : Int) ≥ (a1.size : Int)
  · rw [if_pos c3] at H
    have c3b0 : decide ((a1.size : Int) ≤ (a0.size : Int)) = true := decide_eq_true c3
    have c3b1 : decide (a1.size ≤ a0.size) = true := decide_eq_true (Int.ofNat_le.mp c3)
    clear c3
    by_cases c4 : 0 ≤ (a1.size : Int)
    · rw [if_pos c4] at H
      have c4b0 := eq_true c4
      have c4b1 : decide (0 ≤ (a1.size : Int)) = true := decide_eq_true c4
      clear c4
      by_cases c5 : (a1.size : Int) ≤ (a0.size : Int)
      · rw [if_pos c5] at H
        have c5b0 := eq_true c5
        have c5b1 : decide ((a1.size : Int) ≤ (a0.size : Int)) = true := decide_eq_true c5
        clear c5
        obtain rfl := Option.some.inj H
        go_enter Tryd.func57, Tryd.ntmps57
        go_wp2
        go_ret
        exact ⟨by first | rfl | (simp; done) | (simp [*]; done), by repeat (first | exact Drawn0.refl _ | apply Drawn0.step)⟩
      · rw [if_neg c5] at H
        exact absurd H (by simp)
    · rw [if_neg c4] at H
      exact absurd H (by simp)
  · rw [if_neg c3] at H
    have c3b0 : decide ((a1.size : Int) ≤ (a0.size : Int)) = false := decide_eq_false c3
    have c3b1 : decide (a1.size ≤ a0.size) = false := decide_eq_false (fun h => c3 (Int.ofNat_le.mpr h))
    clear c3
    obtain rfl := Option.some.inj H
    go_enter Tryd.func57, Tryd.ntmps57
    go_wp2
    go_ret
    exact ⟨by first | rfl | (simp; done) | (simp [*]; done), by repeat (first | exact Drawn0.refl _ | apply Drawn0.step)⟩

/-! ### strings_HasPrefix: function 42 -/
def strings_HasPrefix.f (a0 : ByteArray) (a1 : ByteArray) : Option (Bool) := (stringslite_HasPrefix.f a0 a1).bind fun t127 => (some t127)
set_option maxHeartbeats 8000000 in
set_option maxRecDepth 100000 in
theorem strings_HasPrefix.calls (a0 : ByteArray) (a1 : ByteArray) (r : Bool) (w : World) (h : strings_HasPrefix.f a0 a1 = some r) :
    Calls Tryd.prog 42 #[.string a0, .string a1] w fun e w' => e = .returned (.bool r) ∧ Drawn0 w w' := by
  have H : ((stringslite_HasPrefix.f a0 a1).bind fun t127 => (some t127)) = some r := h
  clear h
  replace H := Option.bind_eq_some_iff.mp H
  obtain ⟨t127, A30, H⟩ := H
  replace H : (some t127) = some r := H
  have A3 := Aside0.mk A30
  clear A30
  obtain rfl := Option.some.inj H
  go_enter Tryd.func42, Tryd.ntmps42
  go_wp2_with (first | ((with_reducible refine gate_callee (f := 57) rfl ?_); refine goesL_ (some 7) rfl rfl Tryd.func57 (by kernel_rfl) rfl #[.string a0, .string a1] rfl (by (try simp only [List.map_toArray, List.map_cons, List.map_nil]); first | done | rfl | (simp only [List.length_drop, List.length_take]; rfl)) ?_; (with_reducible refine (stringslite_HasPrefix.calls a0 a1 t127 _ A3.out).mono ?_); rintro e w' ⟨rfl, ⟨nd, rfl⟩⟩; refine ⟨_, rfl, ?_⟩))
  go_ret
  exact ⟨by first | rfl | (simp; done) | (simp [*]; done), by repeat (first | exact Drawn0.refl _ | apply Drawn0.step)⟩

/-! ### pq_zzIndex: function 49 -/
def pq_zzIndex.l0 : Nat → ByteArray → ByteArray → Int → Option (Int)
  | 0, _, _, _ => none
  | k + 1, x0, x1, x5 => if (wrap64 (x5 + (x1.size : Int))) ≤ (x0.size : Int) then (if 0 ≤ x5 then (if x5 ≤ (wrap64 (x5 + (x1.size : Int))) then (if (x0.extract (x5 : Int).toNat ((wrap64 (x5 + (x1.size : Int))) : Int).toNat).toList = x1.toList then (some x5) else (pq_zzIndex.l0 k x0 x1 (wrap64 (x5 + 1)))) else (none)) else (none)) else (some (-1))
def pq_zzIndex.f (k : Nat) (a0 : ByteArray) (a1 : ByteArray) : Option (Int) := pq_zzIndex.l0 k a0 a1 0
theorem pq_zzIndex.mono_l : ∀ k, (∀ y0 y1 y2, LeO (pq_zzIndex.l0 k y0 y1 y2) (pq_zzIndex.l0 (k + 1) y0 y1 y2))
  | 0 => fun _ _ _ r h => by simp [pq_zzIndex.l0] at h
  | k + 1 => by
    have ih0 := pq_zzIndex.mono_l k
    · intro y0 y1 y2
      unfold pq_zzIndex.l0
      repeat' first
      | (with_reducible exact ih0 _ _ _)
      | (with_reducible exact LeO.refl _)
      | (with_reducible exact LeO.none _)
      | (with_reducible refine LeO.ite ?_ ?_)
      | (with_reducible refine LeO.bind ?_ (fun _ => ?_))
      | exact ih0 _ _ _
      | exact LeO.none _
      | refine LeO.ite ?_ ?_
      | refine LeO.bind ?_ (fun _ => ?_)
theorem pq_zzIndex.mono : ∀ a0 a1 k, LeO (pq_zzIndex.f k a0 a1) (pq_zzIndex.f (k + 1) a0 a1) := by
  intro a0 a1 k
  have ih0 := pq_zzIndex.mono_l k
  unfold pq_zzIndex.f
  repeat' first
      | (with_reducible exact ih0 _ _ _)
      | (with_reducible exact LeO.refl _)
      | (with_reducible exact LeO.none _)
      | (with_reducible refine LeO.ite ?_ ?_)
      | (with_reducible refine LeO.bind ?_ (fun _ => ?_))
      | exact ih0 _ _ _
      | exact LeO.none _
      | refine LeO.ite ?_ ?_
      | refine LeO.bind ?_ (fun _ => ?_)
set_option maxHeartbeats 8000000 in
set_option maxRecDepth 100000 in
theorem pq_zzIndex.calls (k : Nat) (a0 : ByteArray) (a1 : ByteArray) (r : Int) (w : World) (h : pq_zzIndex.f k a0 a1 = some r) :
    Calls Tryd.prog 49 #[.string a0, .string a1] w fun e w' => e = .returned (.int .i64 r) ∧ Drawn0 w w' := by
  have H : (pq_zzIndex.l0 k a0 a1 0) = some r := h
  clear h
  have H' := Aside0.mk H
  clear H
  go_enter Tryd.func49, Tryd.ntmps49
  go_wp2
  go_loopg [5] k (fun kq v5 w' => ∃ (x5_1 : Int), v5 = .int .i64 x5_1 ∧ Aside0 (pq_zzIndex.l0 kq a0 a1 x5_1 = some r) ∧ Aside0 (kq ≤ k) ∧ Drawn0 w w')
  case atStart => exact ⟨(0), (by first | rfl | (simp; done) | (simp [*]; done)), H', ⟨Nat.le_refl _⟩, by repeat (first | exact Drawn0.refl _ | apply Drawn0.step)⟩
  case round =>
    clear H'
    try clear p2
    obtain ⟨x5_1, rfl, HA, HK1, ⟨m1, rfl⟩⟩ := hrel
    cases gk with
    | zero => exact absurd HA.out (by simp [pq_zzIndex.l0])
    | succ k1 =>
      have H := HA.out
      clear HA
      simp only [pq_zzIndex.l0] at H
      by_cases c3 : (wrap64 (x5_1 + (a1.size : Int))) ≤ (a0.size : Int)
      · rw [if_pos c3] at H
        have c3b0 : decide ((wrap64 (x5_1 + (a1.size : Int))) ≤ (a0.size : Int)) = true := decide_eq_true c3
        clear c3
        by_cases c4 : 0 ≤ x5_1
        · rw [if_pos c4] at H
          have c4b0 := eq_true c4
          have c4b1 : decide (0 ≤ x5_1) = true := decide_eq_true c4
          clear c4
          by_cases c5 : x5_1 ≤ (wrap64 (x5_1 + (a1.size : Int)))
          · rw [if_pos c5] at H
            have c5b0 := eq_true c5
            have c5b1 : decide (x5_1 ≤ (wrap64 (x5_1 + (a1.size : Int)))) = true := decide_eq_true c5
            have c6b0 := eq_true (of_decide_eq_true (by first | (with_reducible assumption) | assumption) : (wrap64 (x5_1 + (a1.size : Int))) ≤ (a0.size : Int))
            by_cases c7 : (a0.extract (x5_1 : Int).toNat ((wrap64 (x5_1 + (a1.size : Int))) : Int).toNat).toList = a1.toList
            · rw [if_pos c7] at H
              have c7b0 : ((a0.extract (x5_1 : Int).toNat ((wrap64 (x5_1 + (a1.size : Int))) : Int).toNat).toList == a1.toList) = true := beq_iff_eq.mpr c7
              have c7b1 : ((a0.extract (x5_1 : Int).toNat ((wrap64 (x5_1 + (a1.size : Int))) : Int).toNat).toList != a1.toList) = false := bne_eq_false_iff_eq.mpr c7
              clear c7
              obtain rfl := Option.some.inj H
              go_wp2
              go_ret
              exact ⟨by first | rfl | (simp; done) | (simp [*]; done), by repeat (first | exact Drawn0.refl _ | apply Drawn0.step)⟩
            · rw [if_neg c7] at H
              have c7b0 : ((a0.extract (x5_1 : Int).toNat ((wrap64 (x5_1 + (a1.size : Int))) : Int).toNat).toList == a1.toList) = false := beq_eq_false_iff_ne.mpr c7
              have c7b1 : ((a0.extract (x5_1 : Int).toNat ((wrap64 (x5_1 + (a1.size : Int))) : Int).toNat).toList != a1.toList) = true := bne_iff_ne.mpr c7
              have H' := Aside0.mk H
              clear H
              go_wp2
              go_roundg k1
              case measure => have := HK1.out; omega
              case rel => exact ⟨(wrap64 (x5_1 + 1)), (by first | rfl | (simp; done) | (simp [*]; done)), H', ⟨by have := HK1.out; omega⟩, by repeat (first | exact Drawn0.refl _ | apply Drawn0.step)⟩
          · rw [if_neg c5] at H
            exact absurd H (by simp)
        · rw [if_neg c4] at H
          exact absurd H (by simp)
      · rw [if_neg c3] at H
        have c3b0 : decide ((wrap64 (x5_1 + (a1.size : Int))) ≤ (a0.size : Int)) = false := decide_eq_false c3
        clear c3
        obtain rfl := Option.some.inj H
        go_wp2
        go_ret
        exact ⟨by first | rfl | (simp; done) | (simp [*]; done), by repeat (first | exact Drawn0.refl _ | apply Drawn0.step)⟩

end Go.Proofs.YthcikkjjegfblacDoor.P
