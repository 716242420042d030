-- Written by the program wip/myprint.py of this session, over the kit's print of the translation. Lean checks it.
import Derived.Test.YtlhjblbmhlelbabPx0
import Derived.Test.YtlhjblbmhlelbabPx4
import Derived.Test.YtlhjblbmhlelbabPx5
namespace Go.Proofs.Ytlhjblbmhlelbab.P
open Go.RowKit Go.Proofs.YtlhjblbmhlelbabW.PrintWords Go.Proofs.YtlhjblbmhlelbabW.PrintLast Go.Proofs.YtlhjblbmhlelbabW.PrintMore
attribute [local go_sem] max2_int min2_int max_two min_two max_three min_three max_four min_four   -- for this text's walks alone
set_option linter.unusedVariables false
set_option linter.unusedSimpArgs false

/-! ### zztime_Parse: function 49 -/
mutual
def zztime_Parse.j0 : Nat → ByteArray → ByteArray → Int → Bool → Option (Int × Int × Int × Option Int)
  | 0, _, _, _, _ => none
  | k + 1, x0, x1, x6, x35 => if x35 = true then ((zztime_errRefused.f).bind fun t140 => (some (0, 0, 0, t140))) else (if 1 ≤ (x1.size : Int) then ((zztime_number.f k (x1.extract 1 x1.size) true).bind fun bt141 => (if bt141.2.2 = true then (if bt141.1 ≥ 60 then (zztime_Parse.j1 k x0 bt141.2.1 x6 bt141.1 true) else (if bt141.2.1.toList = ([] : List UInt8) then (zztime_Parse.j1 k x0 bt141.2.1 x6 bt141.1 true) else (if 0 < (bt141.2.1.size : Int) then (zztime_Parse.j1 k x0 bt141.2.1 x6 bt141.1 ((bt bt141.2.1 0) != 58)) else (none)))) else (zztime_Parse.j1 k x0 bt141.2.1 x6 bt141.1 true))) else (none))
def zztime_Parse.j1 : Nat → ByteArray → ByteArray → Int → Int → Bool → Option (Int × Int × Int × Option Int)
  | 0, _, _, _, _, _ => none
  | k + 1, x0, x1, x6, x8, x59 => if x59 = true then ((zztime_errRefused.f).bind fun t144 => (some (0, 0, 0, t144))) else (if 1 ≤ (x1.size : Int) then ((zztime_number.f k (x1.extract 1 x1.size) true).bind fun bt145 => (if bt145.2.2 = true then (zztime_Parse.j2 k x0 bt145.2.1 x6 x8 bt145.1 (decide (bt145.1 ≥ 60))) else (zztime_Parse.j2 k x0 bt145.2.1 x6 x8 bt145.1 true))) else (none))
def zztime_Parse.j2 : Nat → ByteArray → ByteArray → Int → Int → Int → Bool → Option (Int × Int × Int × Option Int)
  | 0, _, _, _, _, _, _ => none
  | k + 1, x0, x1, x6, x8, x9, x74 => if x74 = true then ((zztime_errRefused.f).bind fun t148 => (some (0, 0, 0, t148))) else (if (x1.size : Int) ≥ 2 then (if 0 < (x1.size : Int) then (if (bt x1 0) = 46 then ((zztime_digit.f x1 1).bind fun t149 => (zztime_Parse.j3 k x0 x1 x6 x8 x9 0 t149)) else (if (bt x1 0) = 44 then ((zztime_digit.f x1 1).bind fun t150 => (zztime_Parse.j3 k x0 x1 x6 x8 x9 0 t150)) else (zztime_Parse.j3 k x0 x1 x6 x8 x9 0 false))) else (none)) else (zztime_Parse.j3 k x0 x1 x6 x8 x9 0 false))
def zztime_Parse.j3 : Nat → ByteArray → ByteArray → Int → Int → Int → Int → Bool → Option (Int × Int × Int × Option Int)
  | 0, _, _, _, _, _, _, _ => none
  | k + 1, x0, x1, x6, x8, x9, x10, x93 => if x93 = true then (zztime_Parse.l0 k x0 x1 x6 x8 x9 x10 1) else (zztime_Parse.j6 k x0 x1 x6 x8 x9 x10)
def zztime_Parse.j6 : Nat → ByteArray → ByteArray → Int → Int → Int → Int → Option (Int × Int × Int × Option Int)
  | 0, _, _, _, _, _, _ => none
  | k + 1, x0, x1, x6, x8, x9, x10 => if (wrap64 (Int.tdiv (wrap64 ((x0.size : Int) - 8)) 3)) > 0 then ((zztime_zone.f k x1 (wrap64 (Int.tdiv (wrap64 ((x0.size : Int) - 8)) 3))).bind fun bt152 => (if bt152.2.2 = true then (zztime_Parse.j7 k bt152.2.1 x6 x8 x9 x10 bt152.1) else ((zztime_errRefused.f).bind fun t155 => (some (0, 0, 0, t155))))) else (zztime_Parse.j7 k x1 x6 x8 x9 x10 0)
def zztime_Parse.j7 : Nat → ByteArray → Int → Int → Int → Int → Int → Option (Int × Int × Int × Option Int)
  | 0, _, _, _, _, _, _ => none
  | k + 1, x1, x6, x8, x9, x10, x13 => if x1.toList = ([] : List UInt8) then (if x13 = (-1) then ((zztime_Date.f 0 1 1 x6 x8 x9 x10 0).bind fun bt156 => (some (bt156.1, bt156.2.1, bt156.2.2, none))) else ((zztime_Date.f 0 1 1 x6 x8 x9 x10 x13).bind fun bt159 => (some (bt159.1, bt159.2.1, bt159.2.2, none)))) else ((zztime_errRefused.f).bind fun t162 => (some (0, 0, 0, t162)))
def zztime_Parse.l0 : Nat → ByteArray → ByteArray → Int → Int → Int → Int → Int → Option (Int × Int × Int × Option Int)
  | 0, _, _, _, _, _, _, _ => none
  | k + 1, x0, x1, x6, x8, x9, x10, x11 => (zztime_digit.f x1 x11).bind fun t151 => (if t151 = true then (if x11 ≤ 9 then (if 0 ≤ x11 then (if x11 < (x1.size : Int) then (zztime_Parse.l0 k x0 x1 x6 x8 x9 (wrap64 ((wrap64 (x10 * 10)) + (((bt x1 x11) - 48) % 256))) (wrap64 (x11 + 1))) else (none)) else (none)) else (zztime_Parse.l0 k x0 x1 x6 x8 x9 x10 (wrap64 (x11 + 1)))) else (zztime_Parse.l1 k x0 x1 x6 x8 x9 x10 x11 x11))
def zztime_Parse.l1 : Nat → ByteArray → ByteArray → Int → Int → Int → Int → Int → Int → Option (Int × Int × Int × Option Int)
  | 0, _, _, _, _, _, _, _, _ => none
  | k + 1, x0, x1, x6, x8, x9, x10, x11, x12 => if x12 ≤ 9 then (zztime_Parse.l1 k x0 x1 x6 x8 x9 (wrap64 (x10 * 10)) x11 (wrap64 (x12 + 1))) else (if 0 ≤ x11 then (if x11 ≤ (x1.size : Int) then (zztime_Parse.j6 k x0 (x1.extract (x11 : Int).toNat x1.size) x6 x8 x9 x10) else (none)) else (none))
end
def zztime_Parse.f (k : Nat) (a0 : ByteArray) (a1 : ByteArray) : Option (Int × Int × Int × Option Int) := (zztime_number.f k a1 false).bind fun bt137 => (if bt137.2.2 = true then (if bt137.1 ≥ 24 then (zztime_Parse.j0 k a0 bt137.2.1 bt137.1 true) else (if bt137.2.1.toList = ([] : List UInt8) then (zztime_Parse.j0 k a0 bt137.2.1 bt137.1 true) else (if 0 < (bt137.2.1.size : Int) then (zztime_Parse.j0 k a0 bt137.2.1 bt137.1 ((bt bt137.2.1 0) != 58)) else (none)))) else (zztime_Parse.j0 k a0 bt137.2.1 bt137.1 true))
theorem zztime_Parse.mono_l : ∀ k, (∀ y0 y1 y2 y3, LeO (zztime_Parse.j0 k y0 y1 y2 y3) (zztime_Parse.j0 (k + 1) y0 y1 y2 y3)) ∧ (∀ y0 y1 y2 y3 y4, LeO (zztime_Parse.j1 k y0 y1 y2 y3 y4) (zztime_Parse.j1 (k + 1) y0 y1 y2 y3 y4)) ∧ (∀ y0 y1 y2 y3 y4 y5, LeO (zztime_Parse.j2 k y0 y1 y2 y3 y4 y5) (zztime_Parse.j2 (k + 1) y0 y1 y2 y3 y4 y5)) ∧ (∀ y0 y1 y2 y3 y4 y5 y6, LeO (zztime_Parse.j3 k y0 y1 y2 y3 y4 y5 y6) (zztime_Parse.j3 (k + 1) y0 y1 y2 y3 y4 y5 y6)) ∧ (∀ y0 y1 y2 y3 y4 y5, LeO (zztime_Parse.j6 k y0 y1 y2 y3 y4 y5) (zztime_Parse.j6 (k + 1) y0 y1 y2 y3 y4 y5)) ∧ (∀ y0 y1 y2 y3 y4 y5, LeO (zztime_Parse.j7 k y0 y1 y2 y3 y4 y5) (zztime_Parse.j7 (k + 1) y0 y1 y2 y3 y4 y5)) ∧ (∀ y0 y1 y2 y3 y4 y5 y6, LeO (zztime_Parse.l0 k y0 y1 y2 y3 y4 y5 y6) (zztime_Parse.l0 (k + 1) y0 y1 y2 y3 y4 y5 y6)) ∧ (∀ y0 y1 y2 y3 y4 y5 y6 y7, LeO (zztime_Parse.l1 k y0 y1 y2 y3 y4 y5 y6 y7) (zztime_Parse.l1 (k + 1) y0 y1 y2 y3 y4 y5 y6 y7))
  | 0 => ⟨fun _ _ _ _ r h => by simp [zztime_Parse.j0] at h, fun _ _ _ _ _ r h => by simp [zztime_Parse.j1] at h, fun _ _ _ _ _ _ r h => by simp [zztime_Parse.j2] at h, fun _ _ _ _ _ _ _ r h => by simp [zztime_Parse.j3] at h, fun _ _ _ _ _ _ r h => by simp [zztime_Parse.j6] at h, fun _ _ _ _ _ _ r h => by simp [zztime_Parse.j7] at h, fun _ _ _ _ _ _ _ r h => by simp [zztime_Parse.l0] at h, fun _ _ _ _ _ _ _ _ r h => by simp [zztime_Parse.l1] at h⟩
  | k + 1 => by
    obtain ⟨ih0, ih1, ih2, ih3, ih4, ih5, ih6, ih7⟩ := zztime_Parse.mono_l k
    refine ⟨?_, ?_, ?_, ?_, ?_, ?_, ?_, ?_⟩
    · intro y0 y1 y2 y3
      unfold zztime_Parse.j0
      repeat' first
      | (with_reducible exact ih0 _ _ _ _)
      | (with_reducible exact ih1 _ _ _ _ _)
      | (with_reducible exact ih2 _ _ _ _ _ _)
      | (with_reducible exact ih3 _ _ _ _ _ _ _)
      | (with_reducible exact ih4 _ _ _ _ _ _)
      | (with_reducible exact ih5 _ _ _ _ _ _)
      | (with_reducible exact ih6 _ _ _ _ _ _ _)
      | (with_reducible exact ih7 _ _ _ _ _ _ _ _)
      | (with_reducible exact zztime_number.mono _ _ _)
      | (with_reducible exact zztime_zone.mono _ _ _)
      | (with_reducible exact LeO.refl _)
      | (with_reducible exact LeO.none _)
      | (with_reducible refine LeO.ite ?_ ?_)
      | (with_reducible refine LeO.bind ?_ (fun _ => ?_))
      | exact ih0 _ _ _ _
      | exact ih1 _ _ _ _ _
      | exact ih2 _ _ _ _ _ _
      | exact ih3 _ _ _ _ _ _ _
      | exact ih4 _ _ _ _ _ _
      | exact ih5 _ _ _ _ _ _
      | exact ih6 _ _ _ _ _ _ _
      | exact ih7 _ _ _ _ _ _ _ _
      | exact zztime_number.mono _ _ _
      | exact zztime_zone.mono _ _ _
      | exact LeO.none _
      | refine LeO.ite ?_ ?_
      | refine LeO.bind ?_ (fun _ => ?_)
    · intro y0 y1 y2 y3 y4
      unfold zztime_Parse.j1
      repeat' first
      | (with_reducible exact ih0 _ _ _ _)
      | (with_reducible exact ih1 _ _ _ _ _)
      | (with_reducible exact ih2 _ _ _ _ _ _)
      | (with_reducible exact ih3 _ _ _ _ _ _ _)
      | (with_reducible exact ih4 _ _ _ _ _ _)
      | (with_reducible exact ih5 _ _ _ _ _ _)
      | (with_reducible exact ih6 _ _ _ _ _ _ _)
      | (with_reducible exact ih7 _ _ _ _ _ _ _ _)
      | (with_reducible exact zztime_number.mono _ _ _)
      | (with_reducible exact zztime_zone.mono _ _ _)
      | (with_reducible exact LeO.refl _)
      | (with_reducible exact LeO.none _)
      | (with_reducible refine LeO.ite ?_ ?_)
      | (with_reducible refine LeO.bind ?_ (fun _ => ?_))
      | exact ih0 _ _ _ _
      | exact ih1 _ _ _ _ _
      | exact ih2 _ _ _ _ _ _
      | exact ih3 _ _ _ _ _ _ _
      | exact ih4 _ _ _ _ _ _
      | exact ih5 _ _ _ _ _ _
      | exact ih6 _ _ _ _ _ _ _
      | exact ih7 _ _ _ _ _ _ _ _
      | exact zztime_number.mono _ _ _
      | exact zztime_zone.mono _ _ _
      | exact LeO.none _
      | refine LeO.ite ?_ ?_
      | refine LeO.bind ?_ (fun _ => ?_)
    · intro y0 y1 y2 y3 y4 y5
      unfold zztime_Parse.j2
      repeat' first
      | (with_reducible exact ih0 _ _ _ _)
      | (with_reducible exact ih1 _ _ _ _ _)
      | (with_reducible exact ih2 _ _ _ _ _ _)
      | (with_reducible exact ih3 _ _ _ _ _ _ _)
      | (with_reducible exact ih4 _ _ _ _ _ _)
      | (with_reducible exact ih5 _ _ _ _ _ _)
      | (with_reducible exact ih6 _ _ _ _ _ _ _)
      | (with_reducible exact ih7 _ _ _ _ _ _ _ _)
      | (with_reducible exact zztime_number.mono _ _ _)
      | (with_reducible exact zztime_zone.mono _ _ _)
      | (with_reducible exact LeO.refl _)
      | (with_reducible exact LeO.none _)
      | (with_reducible refine LeO.ite ?_ ?_)
      | (with_reducible refine LeO.bind ?_ (fun _ => ?_))
      | exact ih0 _ _ _ _
      | exact ih1 _ _ _ _ _
      | exact ih2 _ _ _ _ _ _
      | exact ih3 _ _ _ _ _ _ _
      | exact ih4 _ _ _ _ _ _
      | exact ih5 _ _ _ _ _ _
      | exact ih6 _ _ _ _ _ _ _
      | exact ih7 _ _ _ _ _ _ _ _
      | exact zztime_number.mono _ _ _
      | exact zztime_zone.mono _ _ _
      | exact LeO.none _
      | refine LeO.ite ?_ ?_
      | refine LeO.bind ?_ (fun _ => ?_)
    · intro y0 y1 y2 y3 y4 y5 y6
      unfold zztime_Parse.j3
      repeat' first
      | (with_reducible exact ih0 _ _ _ _)
      | (with_reducible exact ih1 _ _ _ _ _)
      | (with_reducible exact ih2 _ _ _ _ _ _)
      | (with_reducible exact ih3 _ _ _ _ _ _ _)
      | (with_reducible exact ih4 _ _ _ _ _ _)
      | (with_reducible exact ih5 _ _ _ _ _ _)
      | (with_reducible exact ih6 _ _ _ _ _ _ _)
      | (with_reducible exact ih7 _ _ _ _ _ _ _ _)
      | (with_reducible exact zztime_number.mono _ _ _)
      | (with_reducible exact zztime_zone.mono _ _ _)
      | (with_reducible exact LeO.refl _)
      | (with_reducible exact LeO.none _)
      | (with_reducible refine LeO.ite ?_ ?_)
      | (with_reducible refine LeO.bind ?_ (fun _ => ?_))
      | exact ih0 _ _ _ _
      | exact ih1 _ _ _ _ _
      | exact ih2 _ _ _ _ _ _
      | exact ih3 _ _ _ _ _ _ _
      | exact ih4 _ _ _ _ _ _
      | exact ih5 _ _ _ _ _ _
      | exact ih6 _ _ _ _ _ _ _
      | exact ih7 _ _ _ _ _ _ _ _
      | exact zztime_number.mono _ _ _
      | exact zztime_zone.mono _ _ _
      | exact LeO.none _
      | refine LeO.ite ?_ ?_
      | refine LeO.bind ?_ (fun _ => ?_)
    · intro y0 y1 y2 y3 y4 y5
      unfold zztime_Parse.j6
      repeat' first
      | (with_reducible exact ih0 _ _ _ _)
      | (with_reducible exact ih1 _ _ _ _ _)
      | (with_reducible exact ih2 _ _ _ _ _ _)
      | (with_reducible exact ih3 _ _ _ _ _ _ _)
      | (with_reducible exact ih4 _ _ _ _ _ _)
      | (with_reducible exact ih5 _ _ _ _ _ _)
      | (with_reducible exact ih6 _ _ _ _ _ _ _)
      | (with_reducible exact ih7 _ _ _ _ _ _ _ _)
      | (with_reducible exact zztime_number.mono _ _ _)
      | (with_reducible exact zztime_zone.mono _ _ _)
      | (with_reducible exact LeO.refl _)
      | (with_reducible exact LeO.none _)
      | (with_reducible refine LeO.ite ?_ ?_)
      | (with_reducible refine LeO.bind ?_ (fun _ => ?_))
      | exact ih0 _ _ _ _
      | exact ih1 _ _ _ _ _
      | exact ih2 _ _ _ _ _ _
      | exact ih3 _ _ _ _ _ _ _
      | exact ih4 _ _ _ _ _ _
      | exact ih5 _ _ _ _ _ _
      | exact ih6 _ _ _ _ _ _ _
      | exact ih7 _ _ _ _ _ _ _ _
      | exact zztime_number.mono _ _ _
      | exact zztime_zone.mono _ _ _
      | exact LeO.none _
      | refine LeO.ite ?_ ?_
      | refine LeO.bind ?_ (fun _ => ?_)
    · intro y0 y1 y2 y3 y4 y5
      unfold zztime_Parse.j7
      repeat' first
      | (with_reducible exact ih0 _ _ _ _)
      | (with_reducible exact ih1 _ _ _ _ _)
      | (with_reducible exact ih2 _ _ _ _ _ _)
      | (with_reducible exact ih3 _ _ _ _ _ _ _)
      | (with_reducible exact ih4 _ _ _ _ _ _)
      | (with_reducible exact ih5 _ _ _ _ _ _)
      | (with_reducible exact ih6 _ _ _ _ _ _ _)
      | (with_reducible exact ih7 _ _ _ _ _ _ _ _)
      | (with_reducible exact zztime_number.mono _ _ _)
      | (with_reducible exact zztime_zone.mono _ _ _)
      | (with_reducible exact LeO.refl _)
      | (with_reducible exact LeO.none _)
      | (with_reducible refine LeO.ite ?_ ?_)
      | (with_reducible refine LeO.bind ?_ (fun _ => ?_))
      | exact ih0 _ _ _ _
      | exact ih1 _ _ _ _ _
      | exact ih2 _ _ _ _ _ _
      | exact ih3 _ _ _ _ _ _ _
      | exact ih4 _ _ _ _ _ _
      | exact ih5 _ _ _ _ _ _
      | exact ih6 _ _ _ _ _ _ _
      | exact ih7 _ _ _ _ _ _ _ _
      | exact zztime_number.mono _ _ _
      | exact zztime_zone.mono _ _ _
      | exact LeO.none _
      | refine LeO.ite ?_ ?_
      | refine LeO.bind ?_ (fun _ => ?_)
    · intro y0 y1 y2 y3 y4 y5 y6
      unfold zztime_Parse.l0
      repeat' first
      | (with_reducible exact ih0 _ _ _ _)
      | (with_reducible exact ih1 _ _ _ _ _)
      | (with_reducible exact ih2 _ _ _ _ _ _)
      | (with_reducible exact ih3 _ _ _ _ _ _ _)
      | (with_reducible exact ih4 _ _ _ _ _ _)
      | (with_reducible exact ih5 _ _ _ _ _ _)
      | (with_reducible exact ih6 _ _ _ _ _ _ _)
      | (with_reducible exact ih7 _ _ _ _ _ _ _ _)
      | (with_reducible exact zztime_number.mono _ _ _)
      | (with_reducible exact zztime_zone.mono _ _ _)
      | (with_reducible exact LeO.refl _)
      | (with_reducible exact LeO.none _)
      | (with_reducible refine LeO.ite ?_ ?_)
      | (with_reducible refine LeO.bind ?_ (fun _ => ?_))
      | exact ih0 _ _ _ _
      | exact ih1 _ _ _ _ _
      | exact ih2 _ _ _ _ _ _
      | exact ih3 _ _ _ _ _ _ _
      | exact ih4 _ _ _ _ _ _
      | exact ih5 _ _ _ _ _ _
      | exact ih6 _ _ _ _ _ _ _
      | exact ih7 _ _ _ _ _ _ _ _
      | exact zztime_number.mono _ _ _
      | exact zztime_zone.mono _ _ _
      | exact LeO.none _
      | refine LeO.ite ?_ ?_
      | refine LeO.bind ?_ (fun _ => ?_)
    · intro y0 y1 y2 y3 y4 y5 y6 y7
      unfold zztime_Parse.l1
      repeat' first
      | (with_reducible exact ih0 _ _ _ _)
      | (with_reducible exact ih1 _ _ _ _ _)
      | (with_reducible exact ih2 _ _ _ _ _ _)
      | (with_reducible exact ih3 _ _ _ _ _ _ _)
      | (with_reducible exact ih4 _ _ _ _ _ _)
      | (with_reducible exact ih5 _ _ _ _ _ _)
      | (with_reducible exact ih6 _ _ _ _ _ _ _)
      | (with_reducible exact ih7 _ _ _ _ _ _ _ _)
      | (with_reducible exact zztime_number.mono _ _ _)
      | (with_reducible exact zztime_zone.mono _ _ _)
      | (with_reducible exact LeO.refl _)
      | (with_reducible exact LeO.none _)
      | (with_reducible refine LeO.ite ?_ ?_)
      | (with_reducible refine LeO.bind ?_ (fun _ => ?_))
      | exact ih0 _ _ _ _
      | exact ih1 _ _ _ _ _
      | exact ih2 _ _ _ _ _ _
      | exact ih3 _ _ _ _ _ _ _
      | exact ih4 _ _ _ _ _ _
      | exact ih5 _ _ _ _ _ _
      | exact ih6 _ _ _ _ _ _ _
      | exact ih7 _ _ _ _ _ _ _ _
      | exact zztime_number.mono _ _ _
      | exact zztime_zone.mono _ _ _
      | exact LeO.none _
      | refine LeO.ite ?_ ?_
      | refine LeO.bind ?_ (fun _ => ?_)
theorem zztime_Parse.mono : ∀ a0 a1 k, LeO (zztime_Parse.f k a0 a1) (zztime_Parse.f (k + 1) a0 a1) := by
  intro a0 a1 k
  obtain ⟨ih0, ih1, ih2, ih3, ih4, ih5, ih6, ih7⟩ := zztime_Parse.mono_l k
  unfold zztime_Parse.f
  repeat' first
      | (with_reducible exact ih0 _ _ _ _)
      | (with_reducible exact ih1 _ _ _ _ _)
      | (with_reducible exact ih2 _ _ _ _ _ _)
      | (with_reducible exact ih3 _ _ _ _ _ _ _)
      | (with_reducible exact ih4 _ _ _ _ _ _)
      | (with_reducible exact ih5 _ _ _ _ _ _)
      | (with_reducible exact ih6 _ _ _ _ _ _ _)
      | (with_reducible exact ih7 _ _ _ _ _ _ _ _)
      | (with_reducible exact zztime_number.mono _ _ _)
      | (with_reducible exact zztime_zone.mono _ _ _)
      | (with_reducible exact LeO.refl _)
      | (with_reducible exact LeO.none _)
      | (with_reducible refine LeO.ite ?_ ?_)
      | (with_reducible refine LeO.bind ?_ (fun _ => ?_))
      | exact ih0 _ _ _ _
      | exact ih1 _ _ _ _ _
      | exact ih2 _ _ _ _ _ _
      | exact ih3 _ _ _ _ _ _ _
      | exact ih4 _ _ _ _ _ _
      | exact ih5 _ _ _ _ _ _
      | exact ih6 _ _ _ _ _ _ _
      | exact ih7 _ _ _ _ _ _ _ _
      | exact zztime_number.mono _ _ _
      | exact zztime_zone.mono _ _ _
      | exact LeO.none _
      | refine LeO.ite ?_ ?_
      | refine LeO.bind ?_ (fun _ => ?_)
set_option maxHeartbeats 8000000 in
set_option maxRecDepth 100000 in
theorem zztime_Parse.calls (k : Nat) (a0 : ByteArray) (a1 : ByteArray) (r1 : Int) (r2 : Int) (r3 : Int) (r4 : Option Int) (w : World) (h : zztime_Parse.f k a0 a1 = some (r1, r2, r3, r4)) :
    Calls Try.prog 49 #[.string a0, .string a1] w fun e w' => e = .returned (.tuple #[.agg #[.int .i64 r1, .int .i64 r2, .int .i64 r3], errW r4]) ∧ Below w.heap.size w w' := by
  have hu62 := Try.underlying62
  have HB := Aside0.mk (Below.refl w.heap.size w)
  have H : ((zztime_number.f k a1 false).bind fun bt137 => (if bt137.2.2 = true then (if bt137.1 ≥ 24 then (zztime_Parse.j0 k a0 bt137.2.1 bt137.1 true) else (if bt137.2.1.toList = ([] : List UInt8) then (zztime_Parse.j0 k a0 bt137.2.1 bt137.1 true) else (if 0 < (bt137.2.1.size : Int) then (zztime_Parse.j0 k a0 bt137.2.1 bt137.1 ((bt bt137.2.1 0) != 58)) else (none)))) else (zztime_Parse.j0 k a0 bt137.2.1 bt137.1 true))) = some (r1, r2, r3, r4) := h
  clear h
  replace H := Option.bind_eq_some_iff.mp H
  obtain ⟨⟨t137, t138, t139⟩, A30, H⟩ := H
  replace H : (if t139 = true then (if t137 ≥ 24 then (zztime_Parse.j0 k a0 t138 t137 true) else (if t138.toList = ([] : List UInt8) then (zztime_Parse.j0 k a0 t138 t137 true) else (if 0 < (t138.size : Int) then (zztime_Parse.j0 k a0 t138 t137 ((bt t138 0) != 58)) else (none)))) else (zztime_Parse.j0 k a0 t138 t137 true)) = some (r1, r2, r3, r4) := H
  have A3 := Aside0.mk A30
  clear A30
  have HC4 := Aside0.mk H
  clear H
  go_enter Try.func49, Try.ntmps49
  go_upto_region 2 with (first | ((with_reducible refine gate_dst (N := 4) rfl ?_); refine box_event ?hg (N := 4) ?hd (cs := #[.int .i64 0, .int .i64 0, .int .i64 0]) (t := 62) ?hr ?_; (case hd => rfl); (case hg => rfl); (case hr => first | (go_simp; done) | (go_simp; rfl) | (go_simp; simp [IntKind.wrap_u8]; done)); intro gb136 hg w5 hbox hb; have n0_ := Aside0.mk (below_step (by repeat (first | (with_reducible first | exact HB.out | apply below_alloc | apply pw_below_drewN | apply below_drew1) | exact HB.out)) hb); have n1_ := Aside0.mk (hbox); have n2_ := Aside0.mk ((by rw [hg]; exact (below_size (by repeat (first | (with_reducible first | exact HB.out | apply below_alloc | apply pw_below_drewN | apply below_drew1) | exact HB.out))) : w.heap.size ≤ gb136)); have n3_ := Aside0.mk ((by rw [hg]; exact (below_size (by repeat (first | (with_reducible first | exact HB.out | apply below_alloc | apply pw_below_drewN | apply below_drew1) | exact HB.out))) : w.heap.size ≤ gb136)); clear HB; have HB := n0_; have BK136 := n1_; have GW136 := n2_; have GE136 := n3_; clear n0_ n1_ n2_ n3_; clear hb hbox hg) | ((with_reducible refine gate_callee (f := 81) rfl ?_); refine goesL_ (some 17) rfl rfl Try.func81 (by kernel_rfl) rfl #[.string a1, .bool false] rfl (by (try simp only [List.map_toArray, List.map_cons, List.map_nil]); first | done | rfl | (simp only [List.length_drop, List.length_take]; rfl)) ?_; (with_reducible refine (zztime_number.calls k a1 false t137 t138 t139 _ A3.out).mono ?_); rintro e w' ⟨rfl, ⟨nd, rfl⟩⟩; refine ⟨_, rfl, ?_⟩))
  (try simp only [Act.put, List.setIfInBounds_toArray, List.set_cons_zero, List.set_cons_succ])
  go_cut [35] (fun v35 wc => ∃ (kq : Nat) (x35_3 : Bool), v35 = .bool x35_3 ∧ Aside0 (zztime_Parse.j0 kq a0 t138 t137 x35_3 = some (r1, r2, r3, r4)) ∧ Aside0 (kq ≤ k) ∧ Aside0 (wc.heap[gb136]? = some (.cells #[.int .i64 0, .int .i64 0, .int .i64 0] 62 (0, 0))) ∧ Aside0 (Below w.heap.size w wc))
  case first =>
    have H := HC4.out
    clear HC4
    by_cases c6 : t139 = true
    · subst c6
      have H1 : (if t137 ≥ 24 then (zztime_Parse.j0 k a0 t138 t137 true) else (if t138.toList = ([] : List UInt8) then (zztime_Parse.j0 k a0 t138 t137 true) else (if 0 < (t138.size : Int) then (zztime_Parse.j0 k a0 t138 t137 ((bt t138 0) != 58)) else (none)))) = some (r1, r2, r3, r4) := by rw [if_pos rfl] at H; exact H
      clear H
      have H := H1
      clear H1
      by_cases c7 : t137 ≥ 24
      · rw [if_pos c7] at H
        have c7b0 : decide (24 ≤ t137) = true := decide_eq_true c7
        clear c7
        (first | rw [c7b0] | (simp only [i64_w, i32_w]; rw [c7b0]) | skip)
        have H' := Aside0.mk H
        clear H
        go_wp2
        go_meet
        case rel => exact ⟨_, (true), (by first | rfl | (simp; done) | (simp [*]; done)), H', ⟨by first | omega | exact Nat.le_refl _⟩, ⟨by (with_reducible repeat (first | refine blk_drewN ?_ _ | refine blk_drew ?_ | refine blk_alloc ?_ _)); exact BK136.out⟩, ⟨by repeat (first | (with_reducible first | exact HB.out | apply below_alloc | apply pw_below_drewN | apply below_drew1 | refine below_set ?_ GE136.out) | exact HB.out)⟩⟩
      · rw [if_neg c7] at H
        have c7b0 : decide (24 ≤ t137) = false := decide_eq_false c7
        clear c7
        (first | rw [c7b0] | (simp only [i64_w, i32_w]; rw [c7b0]) | skip)
        by_cases c8 : t138.toList = ([] : List UInt8)
        · rw [if_pos c8] at H
          have c8b0 : (t138.toList == ([] : List UInt8)) = true := beq_iff_eq.mpr c8
          have c8b1 : (t138.toList != ([] : List UInt8)) = false := bne_eq_false_iff_eq.mpr c8
          clear c8
          have H' := Aside0.mk H
          clear H
          go_wp2
          go_meet
          case rel => exact ⟨_, (true), (by first | rfl | (simp; done) | (simp [*]; done)), H', ⟨by first | omega | exact Nat.le_refl _⟩, ⟨by (with_reducible repeat (first | refine blk_drewN ?_ _ | refine blk_drew ?_ | refine blk_alloc ?_ _)); exact BK136.out⟩, ⟨by repeat (first | (with_reducible first | exact HB.out | apply below_alloc | apply pw_below_drewN | apply below_drew1 | refine below_set ?_ GE136.out) | exact HB.out)⟩⟩
        · rw [if_neg c8] at H
          have c8b0 : (t138.toList == ([] : List UInt8)) = false := beq_eq_false_iff_ne.mpr c8
          have c8b1 : (t138.toList != ([] : List UInt8)) = true := bne_iff_ne.mpr c8
          by_cases c9 : 0 < (t138.size : Int)
          · rw [if_pos c9] at H
            have c9b0 : decide (0 < (t138.size : Int)) = true := decide_eq_true c9
            have c9b1 : decide (0 < t138.size) = true := decide_eq_true (by omega)
            clear c9
            have H' := Aside0.mk H
            clear H
            have p10 : 0 ≤ (0 : Int) := (by omega)
            have q10 : 0 < t138.size := (by have : (0 : Int) < (t138.size : Int) := of_decide_eq_true (by first | (with_reducible assumption) | assumption); omega)
            have hx10 : ∀ h : 0 < t138.size, ((t138[0]'h).toNat : Int) = bt t138 0 := bt_at t138 0
            clear p10
            have qi10 : (0 < (t138.size : Int)) = True := eq_true (of_decide_eq_true (by first | (with_reducible assumption) | assumption))
            replace q10 := eq_true q10
            go_wp2
            go_meet
            case rel => exact ⟨_, (((bt t138 0) != 58)), (by first | rfl | (simp; done) | (simp [*]; done)), H', ⟨by first | omega | exact Nat.le_refl _⟩, ⟨by (with_reducible repeat (first | refine blk_drewN ?_ _ | refine blk_drew ?_ | refine blk_alloc ?_ _)); exact BK136.out⟩, ⟨by repeat (first | (with_reducible first | exact HB.out | apply below_alloc | apply pw_below_drewN | apply below_drew1 | refine below_set ?_ GE136.out) | exact HB.out)⟩⟩
          · rw [if_neg c9] at H
            exact absurd H (by simp)
    · replace c6 := Bool.eq_false_iff.mpr c6
      subst c6
      have H1 : (zztime_Parse.j0 k a0 t138 t137 true) = some (r1, r2, r3, r4) := by rw [if_neg (show ¬ (false = true) by decide)] at H; exact H
      clear H
      have H := H1
      clear H1
      have H' := Aside0.mk H
      clear H
      go_wp2
      go_meet
      case rel => exact ⟨_, (true), (by first | rfl | (simp; done) | (simp [*]; done)), H', ⟨by first | omega | exact Nat.le_refl _⟩, ⟨by (with_reducible repeat (first | refine blk_drewN ?_ _ | refine blk_drew ?_ | refine blk_alloc ?_ _)); exact BK136.out⟩, ⟨by repeat (first | (with_reducible first | exact HB.out | apply below_alloc | apply pw_below_drewN | apply below_drew1 | refine below_set ?_ GE136.out) | exact HB.out)⟩⟩
  case rest =>
    clear HC4
    try clear p1
    try clear q1
    try clear hx1
    try clear qi1
    try clear p2
    try clear c4
    try clear c6
    try clear c7
    try clear c7b0
    try clear c8
    try clear c8b0
    try clear c8b1
    try clear c9
    try clear c9b0
    try clear c9b1
    try clear p10
    try clear q10
    try clear hx10
    try clear qi10
    try clear p10
    try clear q10
    obtain ⟨kq, x35_3, rfl, HA, HJ3, BK136, HB⟩ := hcut
    cases kq with
    | zero => exact absurd HA.out (by simp [zztime_Parse.j0])
    | succ kj3 =>
      have H := HA.out
      clear HA
      simp only [zztime_Parse.j0] at H
      by_cases c11 : x35_3 = true
      · subst c11
        have H1 : ((zztime_errRefused.f).bind fun t140 => (some (0, 0, 0, t140))) = some (r1, r2, r3, r4) := by rw [if_pos rfl] at H; exact H
        clear H
        have H := H1
        clear H1
        replace H := Option.bind_eq_some_iff.mp H
        obtain ⟨t140, A120, H⟩ := H
        replace H : (some (0, 0, 0, t140)) = some (r1, r2, r3, r4) := H
        have A12 := Aside0.mk A120
        clear A120
        simp only [Option.some.injEq, Prod.mk.injEq] at H
        obtain ⟨rfl, rfl, rfl, rfl⟩ := H
        go_wp2_with (first | ((with_reducible refine gate_callee (f := 82) rfl ?_); refine goesL_ (some 37) rfl rfl Try.func82 (by kernel_rfl) rfl #[] rfl (by (try simp only [List.map_toArray, List.map_cons, List.map_nil]); first | done | rfl | (simp only [List.length_drop, List.length_take]; rfl)) ?_; (with_reducible refine (zztime_errRefused.calls  t140 _ A12.out).mono ?_); rintro e w13 ⟨rfl, hb⟩; refine ⟨_, rfl, ?_⟩; have n0_ := Aside0.mk (blk_below (g := gb136) (o := .cells #[.int .i64 0, .int .i64 0, .int .i64 0] 62 (0, 0)) (by (with_reducible repeat (first | refine blk_drewN ?_ _ | refine blk_drew ?_ | refine blk_alloc ?_ _)); exact BK136.out) hb); have n1_ := Aside0.mk (below_step (by repeat (first | (with_reducible first | exact HB.out | apply below_alloc | apply pw_below_drewN | apply below_drew1 | refine below_set ?_ GE136.out) | exact HB.out)) hb); clear BK136; clear HB; have BK136 := n0_; have HB := n1_; clear n0_ n1_; (try clear hb); (try clear hb2); (try clear hk); (try clear hi); (try simp only [errW_none, errW_some]); have hcz14_0 : w13.cell? ⟨gb136, 0, none⟩ = some (.int .i64 0) := (blk_cell BK136.out 0).trans rfl; have hcz14_1 : w13.cell? ⟨gb136, 1, none⟩ = some (.int .i64 0) := (blk_cell BK136.out 1).trans rfl; have hcz14_2 : w13.cell? ⟨gb136, 2, none⟩ = some (.int .i64 0) := (blk_cell BK136.out 2).trans rfl; have hfz14_0 := blk_frozen BK136.out 0; have hfz14_1 := blk_frozen BK136.out 1; have hfz14_2 := blk_frozen BK136.out 2))
        refine bodyPost_ret (results_ct rfl _ _ gb136 62 #[.int .i64 0, .int .i64 0, .int .i64 0] (0, 0) _ rfl (by (with_reducible repeat (first | refine blk_drewN ?_ _ | refine blk_drew ?_ | refine blk_alloc ?_ _)); refine blk_put (cs := #[.int .i64 0, .int .i64 0, .int .i64 0]) ?_ 2 _ rfl; (with_reducible repeat (first | refine blk_drewN ?_ _ | refine blk_drew ?_ | refine blk_alloc ?_ _)); refine blk_put (cs := #[.int .i64 0, .int .i64 0, .int .i64 0]) ?_ 1 _ rfl; (with_reducible repeat (first | refine blk_drewN ?_ _ | refine blk_drew ?_ | refine blk_alloc ?_ _)); refine blk_put (cs := #[.int .i64 0, .int .i64 0, .int .i64 0]) ?_ 0 _ rfl; (with_reducible repeat (first | refine blk_drewN ?_ _ | refine blk_drew ?_ | refine blk_alloc ?_ _)); exact BK136.out) Try.underlying62 rfl (by kernel_rfl)) rfl ?_
        exact ⟨by first | rfl | (simp [errW_none, errW_some] <;> rfl) | (simp [*, errW_none, errW_some] <;> rfl), by repeat (first | (with_reducible first | exact HB.out | apply below_alloc | apply pw_below_drewN | apply below_drew1 | refine below_set ?_ GE136.out) | exact HB.out)⟩
      · replace c11 := Bool.eq_false_iff.mpr c11
        subst c11
        have H1 : (if 1 ≤ (t138.size : Int) then ((zztime_number.f kj3 (t138.extract 1 t138.size) true).bind fun bt141 => (if bt141.2.2 = true then (if bt141.1 ≥ 60 then (zztime_Parse.j1 kj3 a0 bt141.2.1 t137 bt141.1 true) else (if bt141.2.1.toList = ([] : List UInt8) then (zztime_Parse.j1 kj3 a0 bt141.2.1 t137 bt141.1 true) else (if 0 < (bt141.2.1.size : Int) then (zztime_Parse.j1 kj3 a0 bt141.2.1 t137 bt141.1 ((bt bt141.2.1 0) != 58)) else (none)))) else (zztime_Parse.j1 kj3 a0 bt141.2.1 t137 bt141.1 true))) else (none)) = some (r1, r2, r3, r4) := by rw [if_neg (show ¬ (false = true) by decide)] at H; exact H
        clear H
        have H := H1
        clear H1
        by_cases c15 : 1 ≤ (t138.size : Int)
        · rw [if_pos c15] at H
          have c15b0 := eq_true c15
          have c15b1 : decide (1 ≤ (t138.size : Int)) = true := decide_eq_true c15
          clear c15
          replace H := Option.bind_eq_some_iff.mp H
          obtain ⟨⟨t141, t142, t143⟩, A160, H⟩ := H
          replace H : (if t143 = true then (if t141 ≥ 60 then (zztime_Parse.j1 kj3 a0 t142 t137 t141 true) else (if t142.toList = ([] : List UInt8) then (zztime_Parse.j1 kj3 a0 t142 t137 t141 true) else (if 0 < (t142.size : Int) then (zztime_Parse.j1 kj3 a0 t142 t137 t141 ((bt t142 0) != 58)) else (none)))) else (zztime_Parse.j1 kj3 a0 t142 t137 t141 true)) = some (r1, r2, r3, r4) := H
          have A16 := Aside0.mk A160
          clear A160
          have HC17 := Aside0.mk H
          clear H
          go_upto_region 5 with (first | ((with_reducible refine gate_callee (f := 81) rfl ?_); refine goesL_ (some 41) rfl rfl Try.func81 (by kernel_rfl) rfl #[.string (t138.extract 1 t138.size), .bool true] rfl (by (try simp only [List.map_toArray, List.map_cons, List.map_nil]); first | done | rfl | (simp only [List.length_drop, List.length_take]; rfl)) ?_; (with_reducible refine (zztime_number.calls kj3 (t138.extract 1 t138.size) true t141 t142 t143 _ A16.out).mono ?_); rintro e w' ⟨rfl, ⟨nd, rfl⟩⟩; refine ⟨_, rfl, ?_⟩))
          (try simp only [Act.put, List.setIfInBounds_toArray, List.set_cons_zero, List.set_cons_succ])
          go_cut [59] (fun v59 wc => ∃ (kq : Nat) (x59_16 : Bool), v59 = .bool x59_16 ∧ Aside0 (zztime_Parse.j1 kq a0 t142 t137 t141 x59_16 = some (r1, r2, r3, r4)) ∧ Aside0 (kq ≤ kj3) ∧ Aside0 (wc.heap[gb136]? = some (.cells #[.int .i64 0, .int .i64 0, .int .i64 0] 62 (0, 0))) ∧ Aside0 (Below w.heap.size w wc))
          case first =>
            have H := HC17.out
            clear HC17
            by_cases c18 : t143 = true
            · subst c18
              have H1 : (if t141 ≥ 60 then (zztime_Parse.j1 kj3 a0 t142 t137 t141 true) else (if t142.toList = ([] : List UInt8) then (zztime_Parse.j1 kj3 a0 t142 t137 t141 true) else (if 0 < (t142.size : Int) then (zztime_Parse.j1 kj3 a0 t142 t137 t141 ((bt t142 0) != 58)) else (none)))) = some (r1, r2, r3, r4) := by rw [if_pos rfl] at H; exact H
              clear H
              have H := H1
              clear H1
              by_cases c19 : t141 ≥ 60
              · rw [if_pos c19] at H
                have c19b0 : decide (60 ≤ t141) = true := decide_eq_true c19
                clear c19
                (first | rw [c19b0] | (simp only [i64_w, i32_w]; rw [c19b0]) | skip)
                have H' := Aside0.mk H
                clear H
                go_wp2
                go_meet
                case rel => exact ⟨_, (true), (by first | rfl | (simp; done) | (simp [*]; done)), H', ⟨by have := HJ3.out; first | omega | exact Nat.le_refl _⟩, ⟨by (with_reducible repeat (first | refine blk_drewN ?_ _ | refine blk_drew ?_ | refine blk_alloc ?_ _)); exact BK136.out⟩, ⟨by repeat (first | (with_reducible first | exact HB.out | apply below_alloc | apply pw_below_drewN | apply below_drew1 | refine below_set ?_ GE136.out) | exact HB.out)⟩⟩
              · rw [if_neg c19] at H
                have c19b0 : decide (60 ≤ t141) = false := decide_eq_false c19
                clear c19
                (first | rw [c19b0] | (simp only [i64_w, i32_w]; rw [c19b0]) | skip)
                by_cases c20 : t142.toList = ([] : List UInt8)
                · rw [if_pos c20] at H
                  have c20b0 : (t142.toList == ([] : List UInt8)) = true := beq_iff_eq.mpr c20
                  have c20b1 : (t142.toList != ([] : List UInt8)) = false := bne_eq_false_iff_eq.mpr c20
                  clear c20
                  have H' := Aside0.mk H
                  clear H
                  go_wp2
                  go_meet
                  case rel => exact ⟨_, (true), (by first | rfl | (simp; done) | (simp [*]; done)), H', ⟨by have := HJ3.out; first | omega | exact Nat.le_refl _⟩, ⟨by (with_reducible repeat (first | refine blk_drewN ?_ _ | refine blk_drew ?_ | refine blk_alloc ?_ _)); exact BK136.out⟩, ⟨by repeat (first | (with_reducible first | exact HB.out | apply below_alloc | apply pw_below_drewN | apply below_drew1 | refine below_set ?_ GE136.out) | exact HB.out)⟩⟩
                · rw [if_neg c20] at H
                  have c20b0 : (t142.toList == ([] : List UInt8)) = false := beq_eq_false_iff_ne.mpr c20
                  have c20b1 : (t142.toList != ([] : List UInt8)) = true := bne_iff_ne.mpr c20
                  by_cases c21 : 0 < (t142.size : Int)
                  · rw [if_pos c21] at H
                    have c21b0 : decide (0 < (t142.size : Int)) = true := decide_eq_true c21
                    have c21b1 : decide (0 < t142.size) = true := decide_eq_true (by omega)
                    clear c21
                    have H' := Aside0.mk H
                    clear H
                    have p22 : 0 ≤ (0 : Int) := (by omega)
                    have q22 : 0 < t142.size := (by have : (0 : Int) < (t142.size : Int) := of_decide_eq_true (by first | (with_reducible assumption) | assumption); omega)
                    have hx22 : ∀ h : 0 < t142.size, ((t142[0]'h).toNat : Int) = bt t142 0 := bt_at t142 0
                    clear p22
                    have qi22 : (0 < (t142.size : Int)) = True := eq_true (of_decide_eq_true (by first | (with_reducible assumption) | assumption))
                    replace q22 := eq_true q22
                    go_wp2
                    go_meet
                    case rel => exact ⟨_, (((bt t142 0) != 58)), (by first | rfl | (simp; done) | (simp [*]; done)), H', ⟨by have := HJ3.out; first | omega | exact Nat.le_refl _⟩, ⟨by (with_reducible repeat (first | refine blk_drewN ?_ _ | refine blk_drew ?_ | refine blk_alloc ?_ _)); exact BK136.out⟩, ⟨by repeat (first | (with_reducible first | exact HB.out | apply below_alloc | apply pw_below_drewN | apply below_drew1 | refine below_set ?_ GE136.out) | exact HB.out)⟩⟩
                  · rw [if_neg c21] at H
                    exact absurd H (by simp)
            · replace c18 := Bool.eq_false_iff.mpr c18
              subst c18
              have H1 : (zztime_Parse.j1 kj3 a0 t142 t137 t141 true) = some (r1, r2, r3, r4) := by rw [if_neg (show ¬ (false = true) by decide)] at H; exact H
              clear H
              have H := H1
              clear H1
              have H' := Aside0.mk H
              clear H
              go_wp2
              go_meet
              case rel => exact ⟨_, (true), (by first | rfl | (simp; done) | (simp [*]; done)), H', ⟨by have := HJ3.out; first | omega | exact Nat.le_refl _⟩, ⟨by (with_reducible repeat (first | refine blk_drewN ?_ _ | refine blk_drew ?_ | refine blk_alloc ?_ _)); exact BK136.out⟩, ⟨by repeat (first | (with_reducible first | exact HB.out | apply below_alloc | apply pw_below_drewN | apply below_drew1 | refine below_set ?_ GE136.out) | exact HB.out)⟩⟩
          case rest =>
            clear HC17
            try clear c1
            try clear p1
            try clear q1
            try clear hx1
            try clear qi1
            try clear c2
            try clear p2
            try clear q2
            try clear hx2
            try clear qi2
            try clear c4
            try clear c6
            try clear c7
            try clear c7b0
            try clear c8
            try clear c8b0
            try clear c8b1
            try clear c9
            try clear c9b0
            try clear c9b1
            try clear p10
            try clear q10
            try clear hx10
            try clear qi10
            try clear c11
            try clear c15
            try clear c15b0
            try clear c15b1
            try clear c18
            try clear c19
            try clear c19b0
            try clear c20
            try clear c20b0
            try clear c20b1
            try clear c21
            try clear c21b0
            try clear c21b1
            try clear p22
            try clear q22
            try clear hx22
            try clear qi22
            try clear hcz14_0
            try clear hcz14_1
            try clear hcz14_2
            try clear hfz14_0
            try clear hfz14_1
            try clear hfz14_2
            try clear p1
            try clear p10
            try clear p2
            try clear p22
            try clear q1
            try clear q10
            try clear q22
            obtain ⟨kq, x59_16, rfl, HA, HJ16, BK136, HB⟩ := hcut
            cases kq with
            | zero => exact absurd HA.out (by simp [zztime_Parse.j1])
            | succ kj16 =>
              have H := HA.out
              clear HA
              simp only [zztime_Parse.j1] at H
              by_cases c23 : x59_16 = true
              · subst c23
                have H1 : ((zztime_errRefused.f).bind fun t144 => (some (0, 0, 0, t144))) = some (r1, r2, r3, r4) := by rw [if_pos rfl] at H; exact H
                clear H
                have H := H1
                clear H1
                replace H := Option.bind_eq_some_iff.mp H
                obtain ⟨t144, A240, H⟩ := H
                replace H : (some (0, 0, 0, t144)) = some (r1, r2, r3, r4) := H
                have A24 := Aside0.mk A240
                clear A240
                simp only [Option.some.injEq, Prod.mk.injEq] at H
                obtain ⟨rfl, rfl, rfl, rfl⟩ := H
                go_wp2_with (first | ((with_reducible refine gate_callee (f := 82) rfl ?_); refine goesL_ (some 61) rfl rfl Try.func82 (by kernel_rfl) rfl #[] rfl (by (try simp only [List.map_toArray, List.map_cons, List.map_nil]); first | done | rfl | (simp only [List.length_drop, List.length_take]; rfl)) ?_; (with_reducible refine (zztime_errRefused.calls  t144 _ A24.out).mono ?_); rintro e w25 ⟨rfl, hb⟩; refine ⟨_, rfl, ?_⟩; have n0_ := Aside0.mk (blk_below (g := gb136) (o := .cells #[.int .i64 0, .int .i64 0, .int .i64 0] 62 (0, 0)) (by (with_reducible repeat (first | refine blk_drewN ?_ _ | refine blk_drew ?_ | refine blk_alloc ?_ _)); exact BK136.out) hb); have n1_ := Aside0.mk (below_step (by repeat (first | (with_reducible first | exact HB.out | apply below_alloc | apply pw_below_drewN | apply below_drew1 | refine below_set ?_ GE136.out) | exact HB.out)) hb); clear BK136; clear HB; have BK136 := n0_; have HB := n1_; clear n0_ n1_; (try clear hb); (try clear hb2); (try clear hk); (try clear hi); (try simp only [errW_none, errW_some]); have hcz26_0 : w25.cell? ⟨gb136, 0, none⟩ = some (.int .i64 0) := (blk_cell BK136.out 0).trans rfl; have hcz26_1 : w25.cell? ⟨gb136, 1, none⟩ = some (.int .i64 0) := (blk_cell BK136.out 1).trans rfl; have hcz26_2 : w25.cell? ⟨gb136, 2, none⟩ = some (.int .i64 0) := (blk_cell BK136.out 2).trans rfl; have hfz26_0 := blk_frozen BK136.out 0; have hfz26_1 := blk_frozen BK136.out 1; have hfz26_2 := blk_frozen BK136.out 2))
                refine bodyPost_ret (results_ct rfl _ _ gb136 62 #[.int .i64 0, .int .i64 0, .int .i64 0] (0, 0) _ rfl (by (with_reducible repeat (first | refine blk_drewN ?_ _ | refine blk_drew ?_ | refine blk_alloc ?_ _)); refine blk_put (cs := #[.int .i64 0, .int .i64 0, .int .i64 0]) ?_ 2 _ rfl; (with_reducible repeat (first | refine blk_drewN ?_ _ | refine blk_drew ?_ | refine blk_alloc ?_ _)); refine blk_put (cs := #[.int .i64 0, .int .i64 0, .int .i64 0]) ?_ 1 _ rfl; (with_reducible repeat (first | refine blk_drewN ?_ _ | refine blk_drew ?_ | refine blk_alloc ?_ _)); refine blk_put (cs := #[.int .i64 0, .int .i64 0, .int .i64 0]) ?_ 0 _ rfl; (with_reducible repeat (first | refine blk_drewN ?_ _ | refine blk_drew ?_ | refine blk_alloc ?_ _)); exact BK136.out) Try.underlying62 rfl (by kernel_rfl)) rfl ?_
                exact ⟨by first | rfl | (simp [errW_none, errW_some] <;> rfl) | (simp [*, errW_none, errW_some] <;> rfl), by repeat (first | (with_reducible first | exact HB.out | apply below_alloc | apply pw_below_drewN | apply below_drew1 | refine below_set ?_ GE136.out) | exact HB.out)⟩
              · replace c23 := Bool.eq_false_iff.mpr c23
                subst c23
                have H1 : (if 1 ≤ (t142.size : Int) then ((zztime_number.f kj16 (t142.extract 1 t142.size) true).bind fun bt145 => (if bt145.2.2 = true then (zztime_Parse.j2 kj16 a0 bt145.2.1 t137 t141 bt145.1 (decide (bt145.1 ≥ 60))) else (zztime_Parse.j2 kj16 a0 bt145.2.1 t137 t141 bt145.1 true))) else (none)) = some (r1, r2, r3, r4) := by rw [if_neg (show ¬ (false = true) by decide)] at H; exact H
                clear H
                have H := H1
                clear H1
                by_cases c27 : 1 ≤ (t142.size : Int)
                · rw [if_pos c27] at H
                  have c27b0 := eq_true c27
                  have c27b1 : decide (1 ≤ (t142.size : Int)) = true := decide_eq_true c27
                  clear c27
                  replace H := Option.bind_eq_some_iff.mp H
                  obtain ⟨⟨t145, t146, t147⟩, A280, H⟩ := H
                  replace H : (if t147 = true then (zztime_Parse.j2 kj16 a0 t146 t137 t141 t145 (decide (t145 ≥ 60))) else (zztime_Parse.j2 kj16 a0 t146 t137 t141 t145 true)) = some (r1, r2, r3, r4) := H
                  have A28 := Aside0.mk A280
                  clear A280
                  have HC29 := Aside0.mk H
                  clear H
                  go_upto_region 8 with (first | ((with_reducible refine gate_callee (f := 81) rfl ?_); refine goesL_ (some 65) rfl rfl Try.func81 (by kernel_rfl) rfl #[.string (t142.extract 1 t142.size), .bool true] rfl (by (try simp only [List.map_toArray, List.map_cons, List.map_nil]); first | done | rfl | (simp only [List.length_drop, List.length_take]; rfl)) ?_; (with_reducible refine (zztime_number.calls kj16 (t142.extract 1 t142.size) true t145 t146 t147 _ A28.out).mono ?_); rintro e w' ⟨rfl, ⟨nd, rfl⟩⟩; refine ⟨_, rfl, ?_⟩))
                  (try simp only [Act.put, List.setIfInBounds_toArray, List.set_cons_zero, List.set_cons_succ])
                  go_cut [74] (fun v74 wc => ∃ (kq : Nat) (x74_28 : Bool), v74 = .bool x74_28 ∧ Aside0 (zztime_Parse.j2 kq a0 t146 t137 t141 t145 x74_28 = some (r1, r2, r3, r4)) ∧ Aside0 (kq ≤ kj16) ∧ Aside0 (wc.heap[gb136]? = some (.cells #[.int .i64 0, .int .i64 0, .int .i64 0] 62 (0, 0))) ∧ Aside0 (Below w.heap.size w wc))
                  case first =>
                    have H := HC29.out
                    clear HC29
                    by_cases c30 : t147 = true
                    · subst c30
                      have H1 : (zztime_Parse.j2 kj16 a0 t146 t137 t141 t145 (decide (t145 ≥ 60))) = some (r1, r2, r3, r4) := by rw [if_pos rfl] at H; exact H
                      clear H
                      have H := H1
                      clear H1
                      have H' := Aside0.mk H
                      clear H
                      go_wp2
                      go_meet
                      case rel => exact ⟨_, (decide (t145 ≥ 60)), (by first | rfl | (simp; done) | (simp [*]; done)), H', ⟨by have := HJ3.out; have := HJ16.out; first | omega | exact Nat.le_refl _⟩, ⟨by (with_reducible repeat (first | refine blk_drewN ?_ _ | refine blk_drew ?_ | refine blk_alloc ?_ _)); exact BK136.out⟩, ⟨by repeat (first | (with_reducible first | exact HB.out | apply below_alloc | apply pw_below_drewN | apply below_drew1 | refine below_set ?_ GE136.out) | exact HB.out)⟩⟩
                    · replace c30 := Bool.eq_false_iff.mpr c30
                      subst c30
                      have H1 : (zztime_Parse.j2 kj16 a0 t146 t137 t141 t145 true) = some (r1, r2, r3, r4) := by rw [if_neg (show ¬ (false = true) by decide)] at H; exact H
                      clear H
                      have H := H1
                      clear H1
                      have H' := Aside0.mk H
                      clear H
                      go_wp2
                      go_meet
                      case rel => exact ⟨_, (true), (by first | rfl | (simp; done) | (simp [*]; done)), H', ⟨by have := HJ3.out; have := HJ16.out; first | omega | exact Nat.le_refl _⟩, ⟨by (with_reducible repeat (first | refine blk_drewN ?_ _ | refine blk_drew ?_ | refine blk_alloc ?_ _)); exact BK136.out⟩, ⟨by repeat (first | (with_reducible first | exact HB.out | apply below_alloc | apply pw_below_drewN | apply below_drew1 | refine below_set ?_ GE136.out) | exact HB.out)⟩⟩
                  case rest =>
                    clear HC29
                    try clear c1
                    try clear p1
                    try clear q1
                    try clear hx1
                    try clear qi1
                    try clear c2
                    try clear p2
                    try clear q2
                    try clear hx2
                    try clear qi2
                    try clear c3
                    try clear c4
                    try clear c6
                    try clear c7
                    try clear c7b0
                    try clear c8
                    try clear c8b0
                    try clear c8b1
                    try clear c9
                    try clear c9b0
                    try clear c9b1
                    try clear p10
                    try clear q10
                    try clear hx10
                    try clear qi10
                    try clear c11
                    try clear c15
                    try clear c15b0
                    try clear c15b1
                    try clear c18
                    try clear c19
                    try clear c19b0
                    try clear c20
                    try clear c20b0
                    try clear c20b1
                    try clear c21
                    try clear c21b0
                    try clear c21b1
                    try clear p22
                    try clear q22
                    try clear hx22
                    try clear qi22
                    try clear c23
                    try clear c27
                    try clear c27b0
                    try clear c27b1
                    try clear c30
                    try clear hcz14_0
                    try clear hcz14_1
                    try clear hcz14_2
                    try clear hcz26_0
                    try clear hcz26_1
                    try clear hcz26_2
                    try clear hfz14_0
                    try clear hfz14_1
                    try clear hfz14_2
                    try clear hfz26_0
                    try clear hfz26_1
                    try clear hfz26_2
                    try clear p1
                    try clear p10
                    try clear p2
                    try clear p22
                    try clear q1
                    try clear q10
                    try clear q2
                    try clear q22
                    obtain ⟨kq, x74_28, rfl, HA, HJ28, BK136, HB⟩ := hcut
                    cases kq with
                    | zero => exact absurd HA.out (by simp [zztime_Parse.j2])
                    | succ kj28 =>
                      have H := HA.out
                      clear HA
                      simp only [zztime_Parse.j2] at H
                      by_cases c31 : x74_28 = true
                      · subst c31
                        have H1 : ((zztime_errRefused.f).bind fun t148 => (some (0, 0, 0, t148))) = some (r1, r2, r3, r4) := by rw [if_pos rfl] at H; exact H
                        clear H
                        have H := H1
                        clear H1
                        replace H := Option.bind_eq_some_iff.mp H
                        obtain ⟨t148, A320, H⟩ := H
                        replace H : (some (0, 0, 0, t148)) = some (r1, r2, r3, r4) := H
                        have A32 := Aside0.mk A320
                        clear A320
                        simp only [Option.some.injEq, Prod.mk.injEq] at H
                        obtain ⟨rfl, rfl, rfl, rfl⟩ := H
                        go_wp2_with (first | ((with_reducible refine gate_callee (f := 82) rfl ?_); refine goesL_ (some 76) rfl rfl Try.func82 (by kernel_rfl) rfl #[] rfl (by (try simp only [List.map_toArray, List.map_cons, List.map_nil]); first | done | rfl | (simp only [List.length_drop, List.length_take]; rfl)) ?_; (with_reducible refine (zztime_errRefused.calls  t148 _ A32.out).mono ?_); rintro e w33 ⟨rfl, hb⟩; refine ⟨_, rfl, ?_⟩; have n0_ := Aside0.mk (blk_below (g := gb136) (o := .cells #[.int .i64 0, .int .i64 0, .int .i64 0] 62 (0, 0)) (by (with_reducible repeat (first | refine blk_drewN ?_ _ | refine blk_drew ?_ | refine blk_alloc ?_ _)); exact BK136.out) hb); have n1_ := Aside0.mk (below_step (by repeat (first | (with_reducible first | exact HB.out | apply below_alloc | apply pw_below_drewN | apply below_drew1 | refine below_set ?_ GE136.out) | exact HB.out)) hb); clear BK136; clear HB; have BK136 := n0_; have HB := n1_; clear n0_ n1_; (try clear hb); (try clear hb2); (try clear hk); (try clear hi); (try simp only [errW_none, errW_some]); have hcz34_0 : w33.cell? ⟨gb136, 0, none⟩ = some (.int .i64 0) := (blk_cell BK136.out 0).trans rfl; have hcz34_1 : w33.cell? ⟨gb136, 1, none⟩ = some (.int .i64 0) := (blk_cell BK136.out 1).trans rfl; have hcz34_2 : w33.cell? ⟨gb136, 2, none⟩ = some (.int .i64 0) := (blk_cell BK136.out 2).trans rfl; have hfz34_0 := blk_frozen BK136.out 0; have hfz34_1 := blk_frozen BK136.out 1; have hfz34_2 := blk_frozen BK136.out 2))
                        refine bodyPost_ret (results_ct rfl _ _ gb136 62 #[.int .i64 0, .int .i64 0, .int .i64 0] (0, 0) _ rfl (by (with_reducible repeat (first | refine blk_drewN ?_ _ | refine blk_drew ?_ | refine blk_alloc ?_ _)); refine blk_put (cs := #[.int .i64 0, .int .i64 0, .int .i64 0]) ?_ 2 _ rfl; (with_reducible repeat (first | refine blk_drewN ?_ _ | refine blk_drew ?_ | refine blk_alloc ?_ _)); refine blk_put (cs := #[.int .i64 0, .int .i64 0, .int .i64 0]) ?_ 1 _ rfl; (with_reducible repeat (first | refine blk_drewN ?_ _ | refine blk_drew ?_ | refine blk_alloc ?_ _)); refine blk_put (cs := #[.int .i64 0, .int .i64 0, .int .i64 0]) ?_ 0 _ rfl; (with_reducible repeat (first | refine blk_drewN ?_ _ | refine blk_drew ?_ | refine blk_alloc ?_ _)); exact BK136.out) Try.underlying62 rfl (by kernel_rfl)) rfl ?_
                        exact ⟨by first | rfl | (simp [errW_none, errW_some] <;> rfl) | (simp [*, errW_none, errW_some] <;> rfl), by repeat (first | (with_reducible first | exact HB.out | apply below_alloc | apply pw_below_drewN | apply below_drew1 | refine below_set ?_ GE136.out) | exact HB.out)⟩
                      · replace c31 := Bool.eq_false_iff.mpr c31
                        subst c31
                        have H1 : (if (t146.size : Int) ≥ 2 then (if 0 < (t146.size : Int) then (if (bt t146 0) = 46 then ((zztime_digit.f t146 1).bind fun t149 => (zztime_Parse.j3 kj28 a0 t146 t137 t141 t145 0 t149)) else (if (bt t146 0) = 44 then ((zztime_digit.f t146 1).bind fun t150 => (zztime_Parse.j3 kj28 a0 t146 t137 t141 t145 0 t150)) else (zztime_Parse.j3 kj28 a0 t146 t137 t141 t145 0 false))) else (none)) else (zztime_Parse.j3 kj28 a0 t146 t137 t141 t145 0 false)) = some (r1, r2, r3, r4) := by rw [if_neg (show ¬ (false = true) by decide)] at H; exact H
                        clear H
                        have H := H1
                        clear H1
                        have HC35 := Aside0.mk H
                        clear H
                        go_upto_region 11 with (fail)
                        go_cut [93] (fun v93 wc => ∃ (kq : Nat) (x93_34 : Bool), v93 = .bool x93_34 ∧ Aside0 (zztime_Parse.j3 kq a0 t146 t137 t141 t145 0 x93_34 = some (r1, r2, r3, r4)) ∧ Aside0 (kq ≤ kj28) ∧ Aside0 (wc.heap[gb136]? = some (.cells #[.int .i64 0, .int .i64 0, .int .i64 0] 62 (0, 0))) ∧ Aside0 (Below w.heap.size w wc))
                        case first =>
                          have H := HC35.out
                          clear HC35
                          by_cases c36 : (t146.size : Int) ≥ 2
                          · rw [if_pos c36] at H
                            have c36b0 : decide (2 ≤ (t146.size : Int)) = true := decide_eq_true c36
                            have c36b1 : decide (2 ≤ t146.size) = true := decide_eq_true (by omega)
                            clear c36
                            (first | rw [c36b0] | (simp only [i64_w, i32_w]; rw [c36b0]) | skip)
                            by_cases c37 : 0 < (t146.size : Int)
                            · rw [if_pos c37] at H
                              have c37b0 : decide (0 < (t146.size : Int)) = true := decide_eq_true c37
                              have c37b1 : decide (0 < t146.size) = true := decide_eq_true (by omega)
                              clear c37
                              by_cases c39 : (bt t146 0) = 46
                              · rw [if_pos c39] at H
                                have c39b0 : ((bt t146 0) == 46) = true := beq_iff_eq.mpr c39
                                have c39b1 : ((bt t146 0) != 46) = false := bne_eq_false_iff_eq.mpr c39
                                clear c39
                                replace H := Option.bind_eq_some_iff.mp H
                                obtain ⟨t149, A400, H⟩ := H
                                replace H : (zztime_Parse.j3 kj28 a0 t146 t137 t141 t145 0 t149) = some (r1, r2, r3, r4) := H
                                have A40 := Aside0.mk A400
                                clear A400
                                have H' := Aside0.mk H
                                clear H
                                have p38 : 0 ≤ (0 : Int) := (by omega)
                                have q38 : 0 < t146.size := (by have : (0 : Int) < (t146.size : Int) := of_decide_eq_true (by first | (with_reducible assumption) | assumption); omega)
                                have hx38 : ∀ h : 0 < t146.size, ((t146[0]'h).toNat : Int) = bt t146 0 := bt_at t146 0
                                clear p38
                                have qi38 : (0 < (t146.size : Int)) = True := eq_true (of_decide_eq_true (by first | (with_reducible assumption) | assumption))
                                replace q38 := eq_true q38
                                go_wp2_with (first | (go_at_call 83; (with_reducible refine (zztime_digit.calls t146 1 t149 _ A40.out).mono ?_); rintro e w' ⟨rfl, ⟨nd, rfl⟩⟩))
                                go_meet
                                case rel => exact ⟨_, (t149), (by first | rfl | (simp; done) | (simp [*]; done)), H', ⟨by have := HJ3.out; have := HJ16.out; have := HJ28.out; first | omega | exact Nat.le_refl _⟩, ⟨by (with_reducible repeat (first | refine blk_drewN ?_ _ | refine blk_drew ?_ | refine blk_alloc ?_ _)); exact BK136.out⟩, ⟨by repeat (first | (with_reducible first | exact HB.out | apply below_alloc | apply pw_below_drewN | apply below_drew1 | refine below_set ?_ GE136.out) | exact HB.out)⟩⟩
                              · rw [if_neg c39] at H
                                have c39b0 : ((bt t146 0) == 46) = false := beq_eq_false_iff_ne.mpr c39
                                have c39b1 : ((bt t146 0) != 46) = true := bne_iff_ne.mpr c39
                                by_cases c42 : (bt t146 0) = 44
                                · rw [if_pos c42] at H
                                  have c42b0 : ((bt t146 0) == 44) = true := beq_iff_eq.mpr c42
                                  have c42b1 : ((bt t146 0) != 44) = false := bne_eq_false_iff_eq.mpr c42
                                  clear c42
                                  replace H := Option.bind_eq_some_iff.mp H
                                  obtain ⟨t150, A430, H⟩ := H
                                  replace H : (zztime_Parse.j3 kj28 a0 t146 t137 t141 t145 0 t150) = some (r1, r2, r3, r4) := H
                                  have A43 := Aside0.mk A430
                                  clear A430
                                  have H' := Aside0.mk H
                                  clear H
                                  have p38 : 0 ≤ (0 : Int) := (by omega)
                                  have q38 : 0 < t146.size := (by have : (0 : Int) < (t146.size : Int) := of_decide_eq_true (by first | (with_reducible assumption) | assumption); omega)
                                  have hx38 : ∀ h : 0 < t146.size, ((t146[0]'h).toNat : Int) = bt t146 0 := bt_at t146 0
                                  clear p38
                                  have qi38 : (0 < (t146.size : Int)) = True := eq_true (of_decide_eq_true (by first | (with_reducible assumption) | assumption))
                                  replace q38 := eq_true q38
                                  have p41 : 0 ≤ (0 : Int) := (by omega)
                                  have q41 : 0 < t146.size := (by have : (0 : Int) < (t146.size : Int) := of_decide_eq_true (by first | (with_reducible assumption) | assumption); omega)
                                  have hx41 : ∀ h : 0 < t146.size, ((t146[0]'h).toNat : Int) = bt t146 0 := bt_at t146 0
                                  clear p41
                                  have qi41 : (0 < (t146.size : Int)) = True := eq_true (of_decide_eq_true (by first | (with_reducible assumption) | assumption))
                                  replace q41 := eq_true q41
                                  go_wp2_with (first | (go_at_call 83; (with_reducible refine (zztime_digit.calls t146 1 t150 _ A43.out).mono ?_); rintro e w' ⟨rfl, ⟨nd, rfl⟩⟩))
                                  go_meet
                                  case rel => exact ⟨_, (t150), (by first | rfl | (simp; done) | (simp [*]; done)), H', ⟨by have := HJ3.out; have := HJ16.out; have := HJ28.out; first | omega | exact Nat.le_refl _⟩, ⟨by (with_reducible repeat (first | refine blk_drewN ?_ _ | refine blk_drew ?_ | refine blk_alloc ?_ _)); exact BK136.out⟩, ⟨by repeat (first | (with_reducible first | exact HB.out | apply below_alloc | apply pw_below_drewN | apply below_drew1 | refine below_set ?_ GE136.out) | exact HB.out)⟩⟩
                                · rw [if_neg c42] at H
                                  have c42b0 : ((bt t146 0) == 44) = false := beq_eq_false_iff_ne.mpr c42
                                  have c42b1 : ((bt t146 0) != 44) = true := bne_iff_ne.mpr c42
                                  have H' := Aside0.mk H
                                  clear H
                                  have p38 : 0 ≤ (0 : Int) := (by omega)
                                  have q38 : 0 < t146.size := (by have : (0 : Int) < (t146.size : Int) := of_decide_eq_true (by first | (with_reducible assumption) | assumption); omega)
                                  have hx38 : ∀ h : 0 < t146.size, ((t146[0]'h).toNat : Int) = bt t146 0 := bt_at t146 0
                                  clear p38
                                  have qi38 : (0 < (t146.size : Int)) = True := eq_true (of_decide_eq_true (by first | (with_reducible assumption) | assumption))
                                  replace q38 := eq_true q38
                                  have p41 : 0 ≤ (0 : Int) := (by omega)
                                  have q41 : 0 < t146.size := (by have : (0 : Int) < (t146.size : Int) := of_decide_eq_true (by first | (with_reducible assumption) | assumption); omega)
                                  have hx41 : ∀ h : 0 < t146.size, ((t146[0]'h).toNat : Int) = bt t146 0 := bt_at t146 0
                                  clear p41
                                  have qi41 : (0 < (t146.size : Int)) = True := eq_true (of_decide_eq_true (by first | (with_reducible assumption) | assumption))
                                  replace q41 := eq_true q41
                                  go_wp2
                                  go_meet
                                  case rel => exact ⟨_, (false), (by first | rfl | (simp; done) | (simp [*]; done)), H', ⟨by have := HJ3.out; have := HJ16.out; have := HJ28.out; first | omega | exact Nat.le_refl _⟩, ⟨by (with_reducible repeat (first | refine blk_drewN ?_ _ | refine blk_drew ?_ | refine blk_alloc ?_ _)); exact BK136.out⟩, ⟨by repeat (first | (with_reducible first | exact HB.out | apply below_alloc | apply pw_below_drewN | apply below_drew1 | refine below_set ?_ GE136.out) | exact HB.out)⟩⟩
                            · rw [if_neg c37] at H
                              exact absurd H (by simp)
                          · rw [if_neg c36] at H
                            have c36b0 : decide (2 ≤ (t146.size : Int)) = false := decide_eq_false c36
                            have c36b1 : decide (2 ≤ t146.size) = false := decide_eq_false (by omega)
                            clear c36
                            (first | rw [c36b0] | (simp only [i64_w, i32_w]; rw [c36b0]) | skip)
                            have H' := Aside0.mk H
                            clear H
                            go_wp2
                            go_meet
                            case rel => exact ⟨_, (false), (by first | rfl | (simp; done) | (simp [*]; done)), H', ⟨by have := HJ3.out; have := HJ16.out; have := HJ28.out; first | omega | exact Nat.le_refl _⟩, ⟨by (with_reducible repeat (first | refine blk_drewN ?_ _ | refine blk_drew ?_ | refine blk_alloc ?_ _)); exact BK136.out⟩, ⟨by repeat (first | (with_reducible first | exact HB.out | apply below_alloc | apply pw_below_drewN | apply below_drew1 | refine below_set ?_ GE136.out) | exact HB.out)⟩⟩
                        case rest =>
                          clear HC35
                          try clear c1
                          try clear p1
                          try clear q1
                          try clear hx1
                          try clear qi1
                          try clear c2
                          try clear p2
                          try clear q2
                          try clear hx2
                          try clear qi2
                          try clear c3
                          try clear p3
                          try clear q3
                          try clear hx3
                          try clear qi3
                          try clear c4
                          try clear p4
                          try clear q4
                          try clear hx4
                          try clear qi4
                          try clear c6
                          try clear c7
                          try clear c7b0
                          try clear c8
                          try clear c8b0
                          try clear c8b1
                          try clear c9
                          try clear c9b0
                          try clear c9b1
                          try clear p10
                          try clear q10
                          try clear hx10
                          try clear qi10
                          try clear c11
                          try clear c15
                          try clear c15b0
                          try clear c15b1
                          try clear c18
                          try clear c19
                          try clear c19b0
                          try clear c20
                          try clear c20b0
                          try clear c20b1
                          try clear c21
                          try clear c21b0
                          try clear c21b1
                          try clear p22
                          try clear q22
                          try clear hx22
                          try clear qi22
                          try clear c23
                          try clear c27
                          try clear c27b0
                          try clear c27b1
                          try clear c30
                          try clear c31
                          try clear c36
                          try clear c36b0
                          try clear c36b1
                          try clear c37
                          try clear c37b0
                          try clear c37b1
                          try clear p38
                          try clear q38
                          try clear hx38
                          try clear qi38
                          try clear c39
                          try clear c39b0
                          try clear c39b1
                          try clear p41
                          try clear q41
                          try clear hx41
                          try clear qi41
                          try clear c42
                          try clear c42b0
                          try clear c42b1
                          try clear hcz14_0
                          try clear hcz14_1
                          try clear hcz14_2
                          try clear hcz26_0
                          try clear hcz26_1
                          try clear hcz26_2
                          try clear hcz34_0
                          try clear hcz34_1
                          try clear hcz34_2
                          try clear hfz14_0
                          try clear hfz14_1
                          try clear hfz14_2
                          try clear hfz26_0
                          try clear hfz26_1
                          try clear hfz26_2
                          try clear hfz34_0
                          try clear hfz34_1
                          try clear hfz34_2
                          try clear p1
                          try clear p10
                          try clear p2
                          try clear p22
                          try clear p38
                          try clear p41
                          try clear q1
                          try clear q10
                          try clear q2
                          try clear q22
                          try clear q38
                          try clear q41
                          obtain ⟨kq, x93_34, rfl, HA, HJ34, BK136, HB⟩ := hcut
                          cases kq with
                          | zero => exact absurd HA.out (by simp [zztime_Parse.j3])
                          | succ kj34 =>
                            have H := HA.out
                            clear HA
                            simp only [zztime_Parse.j3] at H
                            have HC44 := Aside0.mk H
                            clear H
                            go_upto_if 93 with (fail)
                            go_cut [1, 10] (fun v1 v10 wc => ∃ (kq : Nat) (x1_43 : ByteArray) (x10_43 : Int), v1 = .string x1_43 ∧ v10 = .int .i64 x10_43 ∧ Aside0 (zztime_Parse.j6 kq a0 x1_43 t137 t141 t145 x10_43 = some (r1, r2, r3, r4)) ∧ Aside0 (kq ≤ kj34) ∧ Aside0 (wc.heap[gb136]? = some (.cells #[.int .i64 0, .int .i64 0, .int .i64 0] 62 (0, 0))) ∧ Aside0 (Below w.heap.size w wc))
                            case first =>
                              have H := HC44.out
                              clear HC44
                              by_cases c45 : x93_34 = true
                              · subst c45
                                have H1 : (zztime_Parse.l0 kj34 a0 t146 t137 t141 t145 0 1) = some (r1, r2, r3, r4) := by rw [if_pos rfl] at H; exact H
                                clear H
                                have H := H1
                                clear H1
                                have H' := Aside0.mk H
                                clear H
                                go_wp2
                                go_loopg [10, 11] kj34 (fun kq v10 v11 w' => ∃ (x10_5 : Int) (x11_5 : Int), v10 = .int .i64 x10_5 ∧ v11 = .int .i64 x11_5 ∧ Aside0 (zztime_Parse.l0 kq a0 t146 t137 t141 t145 x10_5 x11_5 = some (r1, r2, r3, r4)) ∧ Aside0 (kq ≤ kj34) ∧ Aside0 (w'.heap[gb136]? = some (.cells #[.int .i64 0, .int .i64 0, .int .i64 0] 62 (0, 0))) ∧ Aside0 (Below w.heap.size w w'))
                                case atStart => exact ⟨(0), (1), (by first | rfl | (simp; done) | (simp [*]; done)), (by first | rfl | (simp; done) | (simp [*]; done)), H', ⟨Nat.le_refl _⟩, ⟨by (with_reducible repeat (first | refine blk_drewN ?_ _ | refine blk_drew ?_ | refine blk_alloc ?_ _)); exact BK136.out⟩, ⟨by repeat (first | (with_reducible first | exact HB.out | apply below_alloc | apply pw_below_drewN | apply below_drew1 | refine below_set ?_ GE136.out) | exact HB.out)⟩⟩
                                case round =>
                                  clear H'
                                  try clear c1
                                  try clear p1
                                  try clear q1
                                  try clear hx1
                                  try clear qi1
                                  try clear c2
                                  try clear p2
                                  try clear q2
                                  try clear hx2
                                  try clear qi2
                                  try clear c3
                                  try clear p3
                                  try clear q3
                                  try clear hx3
                                  try clear qi3
                                  try clear c4
                                  try clear p4
                                  try clear q4
                                  try clear hx4
                                  try clear qi4
                                  try clear c6
                                  try clear c7
                                  try clear c7b0
                                  try clear c8
                                  try clear c8b0
                                  try clear c8b1
                                  try clear c9
                                  try clear c9b0
                                  try clear c9b1
                                  try clear p10
                                  try clear q10
                                  try clear hx10
                                  try clear qi10
                                  try clear c11
                                  try clear c15
                                  try clear c15b0
                                  try clear c15b1
                                  try clear c18
                                  try clear c19
                                  try clear c19b0
                                  try clear c20
                                  try clear c20b0
                                  try clear c20b1
                                  try clear c21
                                  try clear c21b0
                                  try clear c21b1
                                  try clear p22
                                  try clear q22
                                  try clear hx22
                                  try clear qi22
                                  try clear c23
                                  try clear c27
                                  try clear c27b0
                                  try clear c27b1
                                  try clear c30
                                  try clear c31
                                  try clear c36
                                  try clear c36b0
                                  try clear c36b1
                                  try clear c37
                                  try clear c37b0
                                  try clear c37b1
                                  try clear p38
                                  try clear q38
                                  try clear hx38
                                  try clear qi38
                                  try clear c39
                                  try clear c39b0
                                  try clear c39b1
                                  try clear p41
                                  try clear q41
                                  try clear hx41
                                  try clear qi41
                                  try clear c42
                                  try clear c42b0
                                  try clear c42b1
                                  try clear c45
                                  try clear hcz14_0
                                  try clear hcz14_1
                                  try clear hcz14_2
                                  try clear hcz26_0
                                  try clear hcz26_1
                                  try clear hcz26_2
                                  try clear hcz34_0
                                  try clear hcz34_1
                                  try clear hcz34_2
                                  try clear hfz14_0
                                  try clear hfz14_1
                                  try clear hfz14_2
                                  try clear hfz26_0
                                  try clear hfz26_1
                                  try clear hfz26_2
                                  try clear hfz34_0
                                  try clear hfz34_1
                                  try clear hfz34_2
                                  try clear p1
                                  try clear p10
                                  try clear p2
                                  try clear p22
                                  try clear p3
                                  try clear p38
                                  try clear p4
                                  try clear p41
                                  try clear q1
                                  try clear q10
                                  try clear q2
                                  try clear q22
                                  try clear q3
                                  try clear q38
                                  try clear q4
                                  try clear q41
                                  obtain ⟨x10_5, x11_5, rfl, rfl, HA, HK5, BK136, HB⟩ := hrel
                                  cases gk with
                                  | zero => exact absurd HA.out (by simp [zztime_Parse.l0])
                                  | succ k5 =>
                                    have H := HA.out
                                    clear HA
                                    simp only [zztime_Parse.l0] at H
                                    replace H := Option.bind_eq_some_iff.mp H
                                    obtain ⟨t151, A460, H⟩ := H
                                    replace H : (if t151 = true then (if x11_5 ≤ 9 then (if 0 ≤ x11_5 then (if x11_5 < (t146.size : Int) then (zztime_Parse.l0 k5 a0 t146 t137 t141 t145 (wrap64 ((wrap64 (x10_5 * 10)) + (((bt t146 x11_5) - 48) % 256))) (wrap64 (x11_5 + 1))) else (none)) else (none)) else (zztime_Parse.l0 k5 a0 t146 t137 t141 t145 x10_5 (wrap64 (x11_5 + 1)))) else (zztime_Parse.l1 k5 a0 t146 t137 t141 t145 x10_5 x11_5 x11_5)) = some (r1, r2, r3, r4) := H
                                    have A46 := Aside0.mk A460
                                    clear A460
                                    by_cases c47 : t151 = true
                                    · subst c47
                                      have H1 : (if x11_5 ≤ 9 then (if 0 ≤ x11_5 then (if x11_5 < (t146.size : Int) then (zztime_Parse.l0 k5 a0 t146 t137 t141 t145 (wrap64 ((wrap64 (x10_5 * 10)) + (((bt t146 x11_5) - 48) % 256))) (wrap64 (x11_5 + 1))) else (none)) else (none)) else (zztime_Parse.l0 k5 a0 t146 t137 t141 t145 x10_5 (wrap64 (x11_5 + 1)))) = some (r1, r2, r3, r4) := by rw [if_pos rfl] at H; exact H
                                      clear H
                                      have H := H1
                                      clear H1
                                      by_cases c48 : x11_5 ≤ 9
                                      · rw [if_pos c48] at H
                                        have c48b0 : decide (x11_5 ≤ 9) = true := decide_eq_true c48
                                        clear c48
                                        (first | rw [c48b0] | (simp only [i64_w, i32_w]; rw [c48b0]) | skip)
                                        by_cases c49 : 0 ≤ x11_5
                                        · rw [if_pos c49] at H
                                          have c49b0 : decide (0 ≤ x11_5) = true := decide_eq_true c49
                                          clear c49
                                          by_cases c50 : x11_5 < (t146.size : Int)
                                          · rw [if_pos c50] at H
                                            have c50b0 : decide (x11_5 < (t146.size : Int)) = true := decide_eq_true c50
                                            clear c50
                                            have H' := Aside0.mk H
                                            clear H
                                            go_wp2_with (first | ((with_reducible refine gate_callee (f := 83) rfl ?_); refine goesL_ (some 96) rfl rfl Try.func83 (by kernel_rfl) rfl #[.string t146, .int .i64 x11_5] rfl (by (try simp only [List.map_toArray, List.map_cons, List.map_nil]); first | done | rfl | (simp only [List.length_drop, List.length_take]; rfl)) ?_; (with_reducible refine (zztime_digit.calls t146 x11_5 true _ A46.out).mono ?_); rintro e w' ⟨rfl, ⟨nd, rfl⟩⟩; refine ⟨_, rfl, ?_⟩; have p51 : 0 ≤ (x11_5 : Int) := of_decide_eq_true (by first | (with_reducible assumption) | assumption); have q51 : x11_5 < (t146.size : Int) := of_decide_eq_true (by first | (with_reducible assumption) | assumption); have hx51 := bt_at t146 x11_5; replace p51 := eq_true p51; replace q51 := eq_true q51))
                                            go_roundg k5
                                            case measure => have := HJ3.out; have := HJ16.out; have := HJ28.out; have := HJ34.out; have := HK5.out; omega
                                            case rel => exact ⟨(wrap64 ((wrap64 (x10_5 * 10)) + (((bt t146 x11_5) - 48) % 256))), (wrap64 (x11_5 + 1)), (by first | rfl | (simp; done) | (simp [*]; done)), (by first | rfl | (simp; done) | (simp [*]; done)), H', ⟨by have := HJ3.out; have := HJ16.out; have := HJ28.out; have := HJ34.out; have := HK5.out; omega⟩, ⟨by (with_reducible repeat (first | refine blk_drewN ?_ _ | refine blk_drew ?_ | refine blk_alloc ?_ _)); exact BK136.out⟩, ⟨by repeat (first | (with_reducible first | exact HB.out | apply below_alloc | apply pw_below_drewN | apply below_drew1 | refine below_set ?_ GE136.out) | exact HB.out)⟩⟩
                                          · rw [if_neg c50] at H
                                            exact absurd H (by simp)
                                        · rw [if_neg c49] at H
                                          exact absurd H (by simp)
                                      · rw [if_neg c48] at H
                                        have c48b0 : decide (x11_5 ≤ 9) = false := decide_eq_false c48
                                        clear c48
                                        (first | rw [c48b0] | (simp only [i64_w, i32_w]; rw [c48b0]) | skip)
                                        have H' := Aside0.mk H
                                        clear H
                                        go_wp2_with (first | ((with_reducible refine gate_callee (f := 83) rfl ?_); refine goesL_ (some 96) rfl rfl Try.func83 (by kernel_rfl) rfl #[.string t146, .int .i64 x11_5] rfl (by (try simp only [List.map_toArray, List.map_cons, List.map_nil]); first | done | rfl | (simp only [List.length_drop, List.length_take]; rfl)) ?_; (with_reducible refine (zztime_digit.calls t146 x11_5 true _ A46.out).mono ?_); rintro e w' ⟨rfl, ⟨nd, rfl⟩⟩; refine ⟨_, rfl, ?_⟩))
                                        go_roundg k5
                                        case measure => have := HJ3.out; have := HJ16.out; have := HJ28.out; have := HJ34.out; have := HK5.out; omega
                                        case rel => exact ⟨(x10_5), (wrap64 (x11_5 + 1)), (by first | rfl | (simp; done) | (simp [*]; done)), (by first | rfl | (simp; done) | (simp [*]; done)), H', ⟨by have := HJ3.out; have := HJ16.out; have := HJ28.out; have := HJ34.out; have := HK5.out; omega⟩, ⟨by (with_reducible repeat (first | refine blk_drewN ?_ _ | refine blk_drew ?_ | refine blk_alloc ?_ _)); exact BK136.out⟩, ⟨by repeat (first | (with_reducible first | exact HB.out | apply below_alloc | apply pw_below_drewN | apply below_drew1 | refine below_set ?_ GE136.out) | exact HB.out)⟩⟩
                                    · replace c47 := Bool.eq_false_iff.mpr c47
                                      subst c47
                                      have H1 : (zztime_Parse.l1 k5 a0 t146 t137 t141 t145 x10_5 x11_5 x11_5) = some (r1, r2, r3, r4) := by rw [if_neg (show ¬ (false = true) by decide)] at H; exact H
                                      clear H
                                      have H := H1
                                      clear H1
                                      have H' := Aside0.mk H
                                      clear H
                                      go_wp2_with (first | ((with_reducible refine gate_callee (f := 83) rfl ?_); refine goesL_ (some 96) rfl rfl Try.func83 (by kernel_rfl) rfl #[.string t146, .int .i64 x11_5] rfl (by (try simp only [List.map_toArray, List.map_cons, List.map_nil]); first | done | rfl | (simp only [List.length_drop, List.length_take]; rfl)) ?_; (with_reducible refine (zztime_digit.calls t146 x11_5 false _ A46.out).mono ?_); rintro e w' ⟨rfl, ⟨nd, rfl⟩⟩; refine ⟨_, rfl, ?_⟩))
                                      go_loopg [10, 12] k5 (fun kq v10 v12 w' => ∃ (x10_6 : Int) (x12_6 : Int), v10 = .int .i64 x10_6 ∧ v12 = .int .i64 x12_6 ∧ Aside0 (zztime_Parse.l1 kq a0 t146 t137 t141 t145 x10_6 x11_5 x12_6 = some (r1, r2, r3, r4)) ∧ Aside0 (kq ≤ k5) ∧ Aside0 (w'.heap[gb136]? = some (.cells #[.int .i64 0, .int .i64 0, .int .i64 0] 62 (0, 0))) ∧ Aside0 (Below w.heap.size w w'))
                                      case atStart => exact ⟨(x10_5), (x11_5), (by first | rfl | (simp; done) | (simp [*]; done)), (by first | rfl | (simp; done) | (simp [*]; done)), H', ⟨Nat.le_refl _⟩, ⟨by (with_reducible repeat (first | refine blk_drewN ?_ _ | refine blk_drew ?_ | refine blk_alloc ?_ _)); exact BK136.out⟩, ⟨by repeat (first | (with_reducible first | exact HB.out | apply below_alloc | apply pw_below_drewN | apply below_drew1 | refine below_set ?_ GE136.out) | exact HB.out)⟩⟩
                                      case round =>
                                        clear H'
                                        try clear c1
                                        try clear p1
                                        try clear q1
                                        try clear hx1
                                        try clear qi1
                                        try clear c2
                                        try clear p2
                                        try clear q2
                                        try clear hx2
                                        try clear qi2
                                        try clear c3
                                        try clear p3
                                        try clear q3
                                        try clear hx3
                                        try clear qi3
                                        try clear c4
                                        try clear p4
                                        try clear q4
                                        try clear hx4
                                        try clear qi4
                                        try clear c5
                                        try clear p5
                                        try clear q5
                                        try clear hx5
                                        try clear c6
                                        try clear p6
                                        try clear c7
                                        try clear c7b0
                                        try clear c8
                                        try clear c8b0
                                        try clear c8b1
                                        try clear c9
                                        try clear c9b0
                                        try clear c9b1
                                        try clear p10
                                        try clear q10
                                        try clear hx10
                                        try clear qi10
                                        try clear c11
                                        try clear c15
                                        try clear c15b0
                                        try clear c15b1
                                        try clear c18
                                        try clear c19
                                        try clear c19b0
                                        try clear c20
                                        try clear c20b0
                                        try clear c20b1
                                        try clear c21
                                        try clear c21b0
                                        try clear c21b1
                                        try clear p22
                                        try clear q22
                                        try clear hx22
                                        try clear qi22
                                        try clear c23
                                        try clear c27
                                        try clear c27b0
                                        try clear c27b1
                                        try clear c30
                                        try clear c31
                                        try clear c36
                                        try clear c36b0
                                        try clear c36b1
                                        try clear c37
                                        try clear c37b0
                                        try clear c37b1
                                        try clear p38
                                        try clear q38
                                        try clear hx38
                                        try clear qi38
                                        try clear c39
                                        try clear c39b0
                                        try clear c39b1
                                        try clear p41
                                        try clear q41
                                        try clear hx41
                                        try clear qi41
                                        try clear c42
                                        try clear c42b0
                                        try clear c42b1
                                        try clear c45
                                        try clear c47
                                        try clear c48
                                        try clear c48b0
                                        try clear c49
                                        try clear c49b0
                                        try clear c50
                                        try clear c50b0
                                        try clear p51
                                        try clear q51
                                        try clear hx51
                                        try clear hcz14_0
                                        try clear hcz14_1
                                        try clear hcz14_2
                                        try clear hcz26_0
                                        try clear hcz26_1
                                        try clear hcz26_2
                                        try clear hcz34_0
                                        try clear hcz34_1
                                        try clear hcz34_2
                                        try clear hfz14_0
                                        try clear hfz14_1
                                        try clear hfz14_2
                                        try clear hfz26_0
                                        try clear hfz26_1
                                        try clear hfz26_2
                                        try clear hfz34_0
                                        try clear hfz34_1
                                        try clear hfz34_2
                                        try clear p1
                                        try clear p10
                                        try clear p2
                                        try clear p22
                                        try clear p3
                                        try clear p38
                                        try clear p4
                                        try clear p41
                                        try clear p51
                                        try clear q1
                                        try clear q10
                                        try clear q2
                                        try clear q22
                                        try clear q3
                                        try clear q38
                                        try clear q4
                                        try clear q41
                                        try clear q51
                                        obtain ⟨x10_6, x12_6, rfl, rfl, HA, HK6, BK136, HB⟩ := hrel
                                        cases gk with
                                        | zero => exact absurd HA.out (by simp [zztime_Parse.l1])
                                        | succ k6 =>
                                          have H := HA.out
                                          clear HA
                                          simp only [zztime_Parse.l1] at H
                                          by_cases c52 : x12_6 ≤ 9
                                          · rw [if_pos c52] at H
                                            have c52b0 : decide (x12_6 ≤ 9) = true := decide_eq_true c52
                                            clear c52
                                            have H' := Aside0.mk H
                                            clear H
                                            go_wp2
                                            go_roundg k6
                                            case measure => have := HJ3.out; have := HJ16.out; have := HJ28.out; have := HJ34.out; have := HK5.out; have := HK6.out; omega
                                            case rel => exact ⟨(wrap64 (x10_6 * 10)), (wrap64 (x12_6 + 1)), (by first | rfl | (simp; done) | (simp [*]; done)), (by first | rfl | (simp; done) | (simp [*]; done)), H', ⟨by have := HJ3.out; have := HJ16.out; have := HJ28.out; have := HJ34.out; have := HK5.out; have := HK6.out; omega⟩, ⟨by (with_reducible repeat (first | refine blk_drewN ?_ _ | refine blk_drew ?_ | refine blk_alloc ?_ _)); exact BK136.out⟩, ⟨by repeat (first | (with_reducible first | exact HB.out | apply below_alloc | apply pw_below_drewN | apply below_drew1 | refine below_set ?_ GE136.out) | exact HB.out)⟩⟩
                                          · rw [if_neg c52] at H
                                            have c52b0 : decide (x12_6 ≤ 9) = false := decide_eq_false c52
                                            clear c52
                                            by_cases c53 : 0 ≤ x11_5
                                            · rw [if_pos c53] at H
                                              have c53b0 := eq_true c53
                                              have c53b1 : decide (0 ≤ x11_5) = true := decide_eq_true c53
                                              clear c53
                                              by_cases c54 : x11_5 ≤ (t146.size : Int)
                                              · rw [if_pos c54] at H
                                                have c54b0 := eq_true c54
                                                have c54b1 : decide (x11_5 ≤ (t146.size : Int)) = true := decide_eq_true c54
                                                clear c54
                                                have H' := Aside0.mk H
                                                clear H
                                                go_wp2
                                                go_meet
                                                case rel => exact ⟨_, (t146.extract (x11_5 : Int).toNat t146.size), (x10_6), (by first | rfl | (simp; done) | (simp [*]; done)), (by first | rfl | (simp; done) | (simp [*]; done)), H', ⟨by have := HJ3.out; have := HJ16.out; have := HJ28.out; have := HJ34.out; have := HK5.out; have := HK6.out; first | omega | exact Nat.le_refl _⟩, ⟨by (with_reducible repeat (first | refine blk_drewN ?_ _ | refine blk_drew ?_ | refine blk_alloc ?_ _)); exact BK136.out⟩, ⟨by repeat (first | (with_reducible first | exact HB.out | apply below_alloc | apply pw_below_drewN | apply below_drew1 | refine below_set ?_ GE136.out) | exact HB.out)⟩⟩
                                              · rw [if_neg c54] at H
                                                exact absurd H (by simp)
                                            · rw [if_neg c53] at H
                                              exact absurd H (by simp)
                              · replace c45 := Bool.eq_false_iff.mpr c45
                                subst c45
                                have H1 : (zztime_Parse.j6 kj34 a0 t146 t137 t141 t145 0) = some (r1, r2, r3, r4) := by rw [if_neg (show ¬ (false = true) by decide)] at H; exact H
                                clear H
                                have H := H1
                                clear H1
                                have H' := Aside0.mk H
                                clear H
                                go_wp2
                                go_meet
                                case rel => exact ⟨_, (t146), (0), (by first | rfl | (simp; done) | (simp [*]; done)), (by first | rfl | (simp; done) | (simp [*]; done)), H', ⟨by have := HJ3.out; have := HJ16.out; have := HJ28.out; have := HJ34.out; first | omega | exact Nat.le_refl _⟩, ⟨by (with_reducible repeat (first | refine blk_drewN ?_ _ | refine blk_drew ?_ | refine blk_alloc ?_ _)); exact BK136.out⟩, ⟨by repeat (first | (with_reducible first | exact HB.out | apply below_alloc | apply pw_below_drewN | apply below_drew1 | refine below_set ?_ GE136.out) | exact HB.out)⟩⟩
                            case rest =>
                              clear HC44
                              try clear c1
                              try clear p1
                              try clear q1
                              try clear hx1
                              try clear qi1
                              try clear c2
                              try clear p2
                              try clear q2
                              try clear hx2
                              try clear qi2
                              try clear c3
                              try clear p3
                              try clear q3
                              try clear hx3
                              try clear qi3
                              try clear c4
                              try clear p4
                              try clear q4
                              try clear hx4
                              try clear qi4
                              try clear c5
                              try clear p5
                              try clear q5
                              try clear hx5
                              try clear c6
                              try clear p6
                              try clear c7
                              try clear c7b0
                              try clear c8
                              try clear c8b0
                              try clear c8b1
                              try clear c9
                              try clear c9b0
                              try clear c9b1
                              try clear p10
                              try clear q10
                              try clear hx10
                              try clear qi10
                              try clear c11
                              try clear c15
                              try clear c15b0
                              try clear c15b1
                              try clear c18
                              try clear c19
                              try clear c19b0
                              try clear c20
                              try clear c20b0
                              try clear c20b1
                              try clear c21
                              try clear c21b0
                              try clear c21b1
                              try clear p22
                              try clear q22
                              try clear hx22
                              try clear qi22
                              try clear c23
                              try clear c27
                              try clear c27b0
                              try clear c27b1
                              try clear c30
                              try clear c31
                              try clear c36
                              try clear c36b0
                              try clear c36b1
                              try clear c37
                              try clear c37b0
                              try clear c37b1
                              try clear p38
                              try clear q38
                              try clear hx38
                              try clear qi38
                              try clear c39
                              try clear c39b0
                              try clear c39b1
                              try clear p41
                              try clear q41
                              try clear hx41
                              try clear qi41
                              try clear c42
                              try clear c42b0
                              try clear c42b1
                              try clear c45
                              try clear c47
                              try clear c48
                              try clear c48b0
                              try clear c49
                              try clear c49b0
                              try clear c50
                              try clear c50b0
                              try clear p51
                              try clear q51
                              try clear hx51
                              try clear c52
                              try clear c52b0
                              try clear c53
                              try clear c53b0
                              try clear c53b1
                              try clear c54
                              try clear c54b0
                              try clear c54b1
                              try clear hcz14_0
                              try clear hcz14_1
                              try clear hcz14_2
                              try clear hcz26_0
                              try clear hcz26_1
                              try clear hcz26_2
                              try clear hcz34_0
                              try clear hcz34_1
                              try clear hcz34_2
                              try clear hfz14_0
                              try clear hfz14_1
                              try clear hfz14_2
                              try clear hfz26_0
                              try clear hfz26_1
                              try clear hfz26_2
                              try clear hfz34_0
                              try clear hfz34_1
                              try clear hfz34_2
                              try clear p1
                              try clear p10
                              try clear p2
                              try clear p22
                              try clear p3
                              try clear p38
                              try clear p4
                              try clear p41
                              try clear p5
                              try clear p51
                              try clear p6
                              try clear q1
                              try clear q10
                              try clear q2
                              try clear q22
                              try clear q3
                              try clear q38
                              try clear q4
                              try clear q41
                              try clear q5
                              try clear q51
                              obtain ⟨kq, x1_43, x10_43, rfl, rfl, HA, HJ43, BK136, HB⟩ := hcut
                              cases kq with
                              | zero => exact absurd HA.out (by simp [zztime_Parse.j6])
                              | succ kj43 =>
                                have H := HA.out
                                clear HA
                                simp only [zztime_Parse.j6] at H
                                have HC55 := Aside0.mk H
                                clear H
                                go_upto_if 124 with (fail)
                                go_cut [1, 13] (fun v1 v13 wc => ∃ (kq : Nat) (x1_54 : ByteArray) (x13_54 : Int) (x137000_54 : Int) (x137001_54 : Int) (x137002_54 : Int), v1 = .string x1_54 ∧ v13 = .int .i64 x13_54 ∧ Aside0 (zztime_Parse.j7 kq x1_54 t137 t141 t145 x10_43 x13_54 = some (r1, r2, r3, r4)) ∧ Aside0 (kq ≤ kj43) ∧ Aside0 (wc.heap[gb136]? = some (.cells #[.int .i64 x137000_54, .int .i64 x137001_54, .int .i64 x137002_54] 62 (0, 0))) ∧ Aside0 (Below w.heap.size w wc))
                                case first =>
                                  have H := HC55.out
                                  clear HC55
                                  by_cases c56 : (wrap64 (Int.tdiv (wrap64 ((a0.size : Int) - 8)) 3)) > 0
                                  · rw [if_pos c56] at H
                                    have c56b0 : decide (0 < (wrap64 (Int.tdiv (wrap64 ((a0.size : Int) - 8)) 3))) = true := decide_eq_true c56
                                    clear c56
                                    (first | rw [c56b0] | (simp only [i64_w, i32_w]; rw [c56b0]) | skip)
                                    replace H := Option.bind_eq_some_iff.mp H
                                    obtain ⟨⟨t152, t153, t154⟩, A570, H⟩ := H
                                    replace H : (if t154 = true then (zztime_Parse.j7 kj43 t153 t137 t141 t145 x10_43 t152) else ((zztime_errRefused.f).bind fun t155 => (some (0, 0, 0, t155)))) = some (r1, r2, r3, r4) := H
                                    have A57 := Aside0.mk A570
                                    clear A570
                                    by_cases c58 : t154 = true
                                    · subst c58
                                      have H1 : (zztime_Parse.j7 kj43 t153 t137 t141 t145 x10_43 t152) = some (r1, r2, r3, r4) := by rw [if_pos rfl] at H; exact H
                                      clear H
                                      have H := H1
                                      clear H1
                                      have H' := Aside0.mk H
                                      clear H
                                      go_wp2_with (first | ((with_reducible refine gate_callee (f := 84) rfl ?_); refine goesL_ (some 128) rfl rfl Try.func84 (by kernel_rfl) rfl #[.string x1_43, .int .i64 (wrap64 (Int.tdiv (wrap64 ((a0.size : Int) - 8)) 3))] rfl (by (try simp only [List.map_toArray, List.map_cons, List.map_nil]); first | done | rfl | (simp only [List.length_drop, List.length_take]; rfl)) ?_; (with_reducible refine (zztime_zone.calls kj43 x1_43 (wrap64 (Int.tdiv (wrap64 ((a0.size : Int) - 8)) 3)) t152 t153 true _ A57.out).mono ?_); rintro e w59 ⟨rfl, hb⟩; refine ⟨_, rfl, ?_⟩; have n0_ := Aside0.mk (blk_below (g := gb136) (o := .cells #[.int .i64 0, .int .i64 0, .int .i64 0] 62 (0, 0)) (by (with_reducible repeat (first | refine blk_drewN ?_ _ | refine blk_drew ?_ | refine blk_alloc ?_ _)); exact BK136.out) hb); have n1_ := Aside0.mk (below_step (by repeat (first | (with_reducible first | exact HB.out | apply below_alloc | apply pw_below_drewN | apply below_drew1 | refine below_set ?_ GE136.out) | exact HB.out)) hb); clear BK136; clear HB; have BK136 := n0_; have HB := n1_; clear n0_ n1_; (try clear hb); (try clear hb2); (try clear hk); (try clear hi)))
                                      go_meet
                                      case rel => exact ⟨_, (t153), (t152), (0), (0), (0), (by first | rfl | (simp; done) | (simp [*]; done)), (by first | rfl | (simp; done) | (simp [*]; done)), H', ⟨by have := HJ3.out; have := HJ16.out; have := HJ28.out; have := HJ34.out; have := HJ43.out; first | omega | exact Nat.le_refl _⟩, ⟨by (with_reducible repeat (first | refine blk_drewN ?_ _ | refine blk_drew ?_ | refine blk_alloc ?_ _)); exact BK136.out⟩, ⟨by repeat (first | (with_reducible first | exact HB.out | apply below_alloc | apply pw_below_drewN | apply below_drew1 | refine below_set ?_ GE136.out) | exact HB.out)⟩⟩
                                    · replace c58 := Bool.eq_false_iff.mpr c58
                                      subst c58
                                      have H1 : ((zztime_errRefused.f).bind fun t155 => (some (0, 0, 0, t155))) = some (r1, r2, r3, r4) := by rw [if_neg (show ¬ (false = true) by decide)] at H; exact H
                                      clear H
                                      have H := H1
                                      clear H1
                                      replace H := Option.bind_eq_some_iff.mp H
                                      obtain ⟨t155, A600, H⟩ := H
                                      replace H : (some (0, 0, 0, t155)) = some (r1, r2, r3, r4) := H
                                      have A60 := Aside0.mk A600
                                      clear A600
                                      simp only [Option.some.injEq, Prod.mk.injEq] at H
                                      obtain ⟨rfl, rfl, rfl, rfl⟩ := H
                                      go_wp2_with (first | ((with_reducible refine gate_callee (f := 84) rfl ?_); refine goesL_ (some 128) rfl rfl Try.func84 (by kernel_rfl) rfl #[.string x1_43, .int .i64 (wrap64 (Int.tdiv (wrap64 ((a0.size : Int) - 8)) 3))] rfl (by (try simp only [List.map_toArray, List.map_cons, List.map_nil]); first | done | rfl | (simp only [List.length_drop, List.length_take]; rfl)) ?_; (with_reducible refine (zztime_zone.calls kj43 x1_43 (wrap64 (Int.tdiv (wrap64 ((a0.size : Int) - 8)) 3)) t152 t153 false _ A57.out).mono ?_); rintro e w61 ⟨rfl, hb⟩; refine ⟨_, rfl, ?_⟩; have n0_ := Aside0.mk (blk_below (g := gb136) (o := .cells #[.int .i64 0, .int .i64 0, .int .i64 0] 62 (0, 0)) (by (with_reducible repeat (first | refine blk_drewN ?_ _ | refine blk_drew ?_ | refine blk_alloc ?_ _)); exact BK136.out) hb); have n1_ := Aside0.mk (below_step (by repeat (first | (with_reducible first | exact HB.out | apply below_alloc | apply pw_below_drewN | apply below_drew1 | refine below_set ?_ GE136.out) | exact HB.out)) hb); clear BK136; clear HB; have BK136 := n0_; have HB := n1_; clear n0_ n1_; (try clear hb); (try clear hb2); (try clear hk); (try clear hi)) | ((with_reducible refine gate_callee (f := 82) rfl ?_); refine goesL_ (some 135) rfl rfl Try.func82 (by kernel_rfl) rfl #[] rfl (by (try simp only [List.map_toArray, List.map_cons, List.map_nil]); first | done | rfl | (simp only [List.length_drop, List.length_take]; rfl)) ?_; (with_reducible refine (zztime_errRefused.calls  t155 _ A60.out).mono ?_); rintro e w62 ⟨rfl, hb⟩; refine ⟨_, rfl, ?_⟩; have n0_ := Aside0.mk (blk_below (g := gb136) (o := .cells #[.int .i64 0, .int .i64 0, .int .i64 0] 62 (0, 0)) (by (with_reducible repeat (first | refine blk_drewN ?_ _ | refine blk_drew ?_ | refine blk_alloc ?_ _)); exact BK136.out) hb); have n1_ := Aside0.mk (below_step (by repeat (first | (with_reducible first | exact HB.out | apply below_alloc | apply pw_below_drewN | apply below_drew1 | refine below_set ?_ GE136.out) | exact HB.out)) hb); clear BK136; clear HB; have BK136 := n0_; have HB := n1_; clear n0_ n1_; (try clear hb); (try clear hb2); (try clear hk); (try clear hi); (try simp only [errW_none, errW_some]); have hcz63_0 : w62.cell? ⟨gb136, 0, none⟩ = some (.int .i64 0) := (blk_cell BK136.out 0).trans rfl; have hcz63_1 : w62.cell? ⟨gb136, 1, none⟩ = some (.int .i64 0) := (blk_cell BK136.out 1).trans rfl; have hcz63_2 : w62.cell? ⟨gb136, 2, none⟩ = some (.int .i64 0) := (blk_cell BK136.out 2).trans rfl; have hfz63_0 := blk_frozen BK136.out 0; have hfz63_1 := blk_frozen BK136.out 1; have hfz63_2 := blk_frozen BK136.out 2))
                                      refine bodyPost_ret (results_ct rfl _ _ gb136 62 #[.int .i64 0, .int .i64 0, .int .i64 0] (0, 0) _ rfl (by (with_reducible repeat (first | refine blk_drewN ?_ _ | refine blk_drew ?_ | refine blk_alloc ?_ _)); refine blk_put (cs := #[.int .i64 0, .int .i64 0, .int .i64 0]) ?_ 2 _ rfl; (with_reducible repeat (first | refine blk_drewN ?_ _ | refine blk_drew ?_ | refine blk_alloc ?_ _)); refine blk_put (cs := #[.int .i64 0, .int .i64 0, .int .i64 0]) ?_ 1 _ rfl; (with_reducible repeat (first | refine blk_drewN ?_ _ | refine blk_drew ?_ | refine blk_alloc ?_ _)); refine blk_put (cs := #[.int .i64 0, .int .i64 0, .int .i64 0]) ?_ 0 _ rfl; (with_reducible repeat (first | refine blk_drewN ?_ _ | refine blk_drew ?_ | refine blk_alloc ?_ _)); exact BK136.out) Try.underlying62 rfl (by kernel_rfl)) rfl ?_
                                      exact ⟨by first | rfl | (simp [errW_none, errW_some] <;> rfl) | (simp [*, errW_none, errW_some] <;> rfl), by repeat (first | (with_reducible first | exact HB.out | apply below_alloc | apply pw_below_drewN | apply below_drew1 | refine below_set ?_ GE136.out) | exact HB.out)⟩
                                  · rw [if_neg c56] at H
                                    have c56b0 : decide (0 < (wrap64 (Int.tdiv (wrap64 ((a0.size : Int) - 8)) 3))) = false := decide_eq_false c56
                                    clear c56
                                    (first | rw [c56b0] | (simp only [i64_w, i32_w]; rw [c56b0]) | skip)
                                    have H' := Aside0.mk H
                                    clear H
                                    go_wp2
                                    go_meet
                                    case rel => exact ⟨_, (x1_43), (0), (0), (0), (0), (by first | rfl | (simp; done) | (simp [*]; done)), (by first | rfl | (simp; done) | (simp [*]; done)), H', ⟨by have := HJ3.out; have := HJ16.out; have := HJ28.out; have := HJ34.out; have := HJ43.out; first | omega | exact Nat.le_refl _⟩, ⟨by (with_reducible repeat (first | refine blk_drewN ?_ _ | refine blk_drew ?_ | refine blk_alloc ?_ _)); exact BK136.out⟩, ⟨by repeat (first | (with_reducible first | exact HB.out | apply below_alloc | apply pw_below_drewN | apply below_drew1 | refine below_set ?_ GE136.out) | exact HB.out)⟩⟩
                                case rest =>
                                  clear HC55
                                  try clear c1
                                  try clear p1
                                  try clear q1
                                  try clear hx1
                                  try clear qi1
                                  try clear c2
                                  try clear p2
                                  try clear q2
                                  try clear hx2
                                  try clear qi2
                                  try clear c3
                                  try clear p3
                                  try clear q3
                                  try clear hx3
                                  try clear qi3
                                  try clear c4
                                  try clear p4
                                  try clear q4
                                  try clear hx4
                                  try clear qi4
                                  try clear c5
                                  try clear p5
                                  try clear q5
                                  try clear hx5
                                  try clear c6
                                  try clear p6
                                  try clear c7
                                  try clear c7b0
                                  try clear c8
                                  try clear c8b0
                                  try clear c8b1
                                  try clear c9
                                  try clear c9b0
                                  try clear c9b1
                                  try clear p10
                                  try clear q10
                                  try clear hx10
                                  try clear qi10
                                  try clear c11
                                  try clear c15
                                  try clear c15b0
                                  try clear c15b1
                                  try clear c18
                                  try clear c19
                                  try clear c19b0
                                  try clear c20
                                  try clear c20b0
                                  try clear c20b1
                                  try clear c21
                                  try clear c21b0
                                  try clear c21b1
                                  try clear p22
                                  try clear q22
                                  try clear hx22
                                  try clear qi22
                                  try clear c23
                                  try clear c27
                                  try clear c27b0
                                  try clear c27b1
                                  try clear c30
                                  try clear c31
                                  try clear c36
                                  try clear c36b0
                                  try clear c36b1
                                  try clear c37
                                  try clear c37b0
                                  try clear c37b1
                                  try clear p38
                                  try clear q38
                                  try clear hx38
                                  try clear qi38
                                  try clear c39
                                  try clear c39b0
                                  try clear c39b1
                                  try clear p41
                                  try clear q41
                                  try clear hx41
                                  try clear qi41
                                  try clear c42
                                  try clear c42b0
                                  try clear c42b1
                                  try clear c45
                                  try clear c47
                                  try clear c48
                                  try clear c48b0
                                  try clear c49
                                  try clear c49b0
                                  try clear c50
                                  try clear c50b0
                                  try clear p51
                                  try clear q51
                                  try clear hx51
                                  try clear c52
                                  try clear c52b0
                                  try clear c53
                                  try clear c53b0
                                  try clear c53b1
                                  try clear c54
                                  try clear c54b0
                                  try clear c54b1
                                  try clear c56
                                  try clear c56b0
                                  try clear c58
                                  try clear hcz14_0
                                  try clear hcz14_1
                                  try clear hcz14_2
                                  try clear hcz26_0
                                  try clear hcz26_1
                                  try clear hcz26_2
                                  try clear hcz34_0
                                  try clear hcz34_1
                                  try clear hcz34_2
                                  try clear hcz63_0
                                  try clear hcz63_1
                                  try clear hcz63_2
                                  try clear hfz14_0
                                  try clear hfz14_1
                                  try clear hfz14_2
                                  try clear hfz26_0
                                  try clear hfz26_1
                                  try clear hfz26_2
                                  try clear hfz34_0
                                  try clear hfz34_1
                                  try clear hfz34_2
                                  try clear hfz63_0
                                  try clear hfz63_1
                                  try clear hfz63_2
                                  try clear p1
                                  try clear p10
                                  try clear p2
                                  try clear p22
                                  try clear p3
                                  try clear p38
                                  try clear p4
                                  try clear p41
                                  try clear p5
                                  try clear p51
                                  try clear p6
                                  try clear q1
                                  try clear q10
                                  try clear q2
                                  try clear q22
                                  try clear q3
                                  try clear q38
                                  try clear q4
                                  try clear q41
                                  try clear q5
                                  try clear q51
                                  obtain ⟨kq, x1_54, x13_54, x137000_54, x137001_54, x137002_54, rfl, rfl, HA, HJ54, BK136, HB⟩ := hcut
                                  cases kq with
                                  | zero => exact absurd HA.out (by simp [zztime_Parse.j7])
                                  | succ kj54 =>
                                    have H := HA.out
                                    clear HA
                                    simp only [zztime_Parse.j7] at H
                                    by_cases c64 : x1_54.toList = ([] : List UInt8)
                                    · rw [if_pos c64] at H
                                      have c64b0 : (x1_54.toList == ([] : List UInt8)) = true := beq_iff_eq.mpr c64
                                      have c64b1 : (x1_54.toList != ([] : List UInt8)) = false := bne_eq_false_iff_eq.mpr c64
                                      clear c64
                                      by_cases c65 : x13_54 = (-1)
                                      · rw [if_pos c65] at H
                                        have c65b0 : (x13_54 == (-1)) = true := beq_iff_eq.mpr c65
                                        have c65b1 : (x13_54 != (-1)) = false := bne_eq_false_iff_eq.mpr c65
                                        clear c65
                                        replace H := Option.bind_eq_some_iff.mp H
                                        obtain ⟨⟨t156, t157, t158⟩, A660, H⟩ := H
                                        replace H : (some (t156, t157, t158, none)) = some (r1, r2, r3, r4) := H
                                        have A66 := Aside0.mk A660
                                        clear A660
                                        simp only [Option.some.injEq, Prod.mk.injEq] at H
                                        obtain ⟨rfl, rfl, rfl, rfl⟩ := H
                                        go_wp2_with (first | (go_at_call 85; (refine (zztime_Date.calls 0 1 1 t137 t141 t145 x10_43 0 t156 t157 t158 _ _ ((blk_cell (blk_new _ _) 0).trans rfl) A66.out).mono ?_); rintro e w67 ⟨rfl, hb⟩; have hb := below_step (below_alloc (Below.refl _ _) _) hb; have n0_ := Aside0.mk (blk_below (g := gb136) (o := .cells #[.int .i64 x137000_54, .int .i64 x137001_54, .int .i64 x137002_54] 62 (0, 0)) (by (with_reducible repeat (first | refine blk_drewN ?_ _ | refine blk_drew ?_ | refine blk_alloc ?_ _)); exact BK136.out) hb); have n1_ := Aside0.mk (below_step (by repeat (first | (with_reducible first | exact HB.out | apply below_alloc | apply pw_below_drewN | apply below_drew1 | refine below_set ?_ GE136.out) | exact HB.out)) hb); clear BK136; clear HB; have BK136 := n0_; have HB := n1_; clear n0_ n1_; (try clear hb); (try clear hb2); (try clear hk); (try clear hi); have hcz68_0 : w67.cell? ⟨gb136, 0, none⟩ = some (.int .i64 x137000_54) := (blk_cell BK136.out 0).trans rfl; have hcz68_1 : w67.cell? ⟨gb136, 1, none⟩ = some (.int .i64 x137001_54) := (blk_cell BK136.out 1).trans rfl; have hcz68_2 : w67.cell? ⟨gb136, 2, none⟩ = some (.int .i64 x137002_54) := (blk_cell BK136.out 2).trans rfl; have hfz68_0 := blk_frozen BK136.out 0; have hfz68_1 := blk_frozen BK136.out 1; have hfz68_2 := blk_frozen BK136.out 2))
                                        refine bodyPost_ret (results_ct rfl _ _ gb136 62 #[.int .i64 t156, .int .i64 t157, .int .i64 t158] (0, 0) _ rfl (by (with_reducible repeat (first | refine blk_drewN ?_ _ | refine blk_drew ?_ | refine blk_alloc ?_ _)); refine blk_put (cs := #[.int .i64 t156, .int .i64 t157, .int .i64 x137002_54]) ?_ 2 _ rfl; (with_reducible repeat (first | refine blk_drewN ?_ _ | refine blk_drew ?_ | refine blk_alloc ?_ _)); refine blk_put (cs := #[.int .i64 t156, .int .i64 x137001_54, .int .i64 x137002_54]) ?_ 1 _ rfl; (with_reducible repeat (first | refine blk_drewN ?_ _ | refine blk_drew ?_ | refine blk_alloc ?_ _)); refine blk_put (cs := #[.int .i64 x137000_54, .int .i64 x137001_54, .int .i64 x137002_54]) ?_ 0 _ rfl; (with_reducible repeat (first | refine blk_drewN ?_ _ | refine blk_drew ?_ | refine blk_alloc ?_ _)); exact BK136.out) Try.underlying62 rfl (by kernel_rfl)) rfl ?_
                                        exact ⟨by first | rfl | (simp [errW_none, errW_some] <;> rfl) | (simp [*, errW_none, errW_some] <;> rfl), by repeat (first | (with_reducible first | exact HB.out | apply below_alloc | apply pw_below_drewN | apply below_drew1 | refine below_set ?_ GE136.out) | exact HB.out)⟩
                                      · rw [if_neg c65] at H
                                        have c65b0 : (x13_54 == (-1)) = false := beq_eq_false_iff_ne.mpr c65
                                        have c65b1 : (x13_54 != (-1)) = true := bne_iff_ne.mpr c65
                                        replace H := Option.bind_eq_some_iff.mp H
                                        obtain ⟨⟨t159, t160, t161⟩, A690, H⟩ := H
                                        replace H : (some (t159, t160, t161, none)) = some (r1, r2, r3, r4) := H
                                        have A69 := Aside0.mk A690
                                        clear A690
                                        simp only [Option.some.injEq, Prod.mk.injEq] at H
                                        obtain ⟨rfl, rfl, rfl, rfl⟩ := H
                                        go_wp2_with (first | (go_at_call 85; (refine (zztime_Date.calls 0 1 1 t137 t141 t145 x10_43 x13_54 t159 t160 t161 _ _ ((blk_cell (blk_new _ _) 0).trans rfl) A69.out).mono ?_); rintro e w70 ⟨rfl, hb⟩; have hb := below_step (below_alloc (Below.refl _ _) _) hb; have n0_ := Aside0.mk (blk_below (g := gb136) (o := .cells #[.int .i64 x137000_54, .int .i64 x137001_54, .int .i64 x137002_54] 62 (0, 0)) (by (with_reducible repeat (first | refine blk_drewN ?_ _ | refine blk_drew ?_ | refine blk_alloc ?_ _)); exact BK136.out) hb); have n1_ := Aside0.mk (below_step (by repeat (first | (with_reducible first | exact HB.out | apply below_alloc | apply pw_below_drewN | apply below_drew1 | refine below_set ?_ GE136.out) | exact HB.out)) hb); clear BK136; clear HB; have BK136 := n0_; have HB := n1_; clear n0_ n1_; (try clear hb); (try clear hb2); (try clear hk); (try clear hi); have hcz71_0 : w70.cell? ⟨gb136, 0, none⟩ = some (.int .i64 x137000_54) := (blk_cell BK136.out 0).trans rfl; have hcz71_1 : w70.cell? ⟨gb136, 1, none⟩ = some (.int .i64 x137001_54) := (blk_cell BK136.out 1).trans rfl; have hcz71_2 : w70.cell? ⟨gb136, 2, none⟩ = some (.int .i64 x137002_54) := (blk_cell BK136.out 2).trans rfl; have hfz71_0 := blk_frozen BK136.out 0; have hfz71_1 := blk_frozen BK136.out 1; have hfz71_2 := blk_frozen BK136.out 2))
                                        refine bodyPost_ret (results_ct rfl _ _ gb136 62 #[.int .i64 t159, .int .i64 t160, .int .i64 t161] (0, 0) _ rfl (by (with_reducible repeat (first | refine blk_drewN ?_ _ | refine blk_drew ?_ | refine blk_alloc ?_ _)); refine blk_put (cs := #[.int .i64 t159, .int .i64 t160, .int .i64 x137002_54]) ?_ 2 _ rfl; (with_reducible repeat (first | refine blk_drewN ?_ _ | refine blk_drew ?_ | refine blk_alloc ?_ _)); refine blk_put (cs := #[.int .i64 t159, .int .i64 x137001_54, .int .i64 x137002_54]) ?_ 1 _ rfl; (with_reducible repeat (first | refine blk_drewN ?_ _ | refine blk_drew ?_ | refine blk_alloc ?_ _)); refine blk_put (cs := #[.int .i64 x137000_54, .int .i64 x137001_54, .int .i64 x137002_54]) ?_ 0 _ rfl; (with_reducible repeat (first | refine blk_drewN ?_ _ | refine blk_drew ?_ | refine blk_alloc ?_ _)); exact BK136.out) Try.underlying62 rfl (by kernel_rfl)) rfl ?_
                                        exact ⟨by first | rfl | (simp [errW_none, errW_some] <;> rfl) | (simp [*, errW_none, errW_some] <;> rfl), by repeat (first | (with_reducible first | exact HB.out | apply below_alloc | apply pw_below_drewN | apply below_drew1 | refine below_set ?_ GE136.out) | exact HB.out)⟩
                                    · rw [if_neg c64] at H
                                      have c64b0 : (x1_54.toList == ([] : List UInt8)) = false := beq_eq_false_iff_ne.mpr c64
                                      have c64b1 : (x1_54.toList != ([] : List UInt8)) = true := bne_iff_ne.mpr c64
                                      replace H := Option.bind_eq_some_iff.mp H
                                      obtain ⟨t162, A720, H⟩ := H
                                      replace H : (some (0, 0, 0, t162)) = some (r1, r2, r3, r4) := H
                                      have A72 := Aside0.mk A720
                                      clear A720
                                      simp only [Option.some.injEq, Prod.mk.injEq] at H
                                      obtain ⟨rfl, rfl, rfl, rfl⟩ := H
                                      go_wp2_with (first | ((with_reducible refine gate_callee (f := 82) rfl ?_); refine goesL_ (some 139) rfl rfl Try.func82 (by kernel_rfl) rfl #[] rfl (by (try simp only [List.map_toArray, List.map_cons, List.map_nil]); first | done | rfl | (simp only [List.length_drop, List.length_take]; rfl)) ?_; (with_reducible refine (zztime_errRefused.calls  t162 _ A72.out).mono ?_); rintro e w73 ⟨rfl, hb⟩; refine ⟨_, rfl, ?_⟩; have n0_ := Aside0.mk (blk_below (g := gb136) (o := .cells #[.int .i64 x137000_54, .int .i64 x137001_54, .int .i64 x137002_54] 62 (0, 0)) (by (with_reducible repeat (first | refine blk_drewN ?_ _ | refine blk_drew ?_ | refine blk_alloc ?_ _)); exact BK136.out) hb); have n1_ := Aside0.mk (below_step (by repeat (first | (with_reducible first | exact HB.out | apply below_alloc | apply pw_below_drewN | apply below_drew1 | refine below_set ?_ GE136.out) | exact HB.out)) hb); clear BK136; clear HB; have BK136 := n0_; have HB := n1_; clear n0_ n1_; (try clear hb); (try clear hb2); (try clear hk); (try clear hi); (try simp only [errW_none, errW_some]); have hcz74_0 : w73.cell? ⟨gb136, 0, none⟩ = some (.int .i64 x137000_54) := (blk_cell BK136.out 0).trans rfl; have hcz74_1 : w73.cell? ⟨gb136, 1, none⟩ = some (.int .i64 x137001_54) := (blk_cell BK136.out 1).trans rfl; have hcz74_2 : w73.cell? ⟨gb136, 2, none⟩ = some (.int .i64 x137002_54) := (blk_cell BK136.out 2).trans rfl; have hfz74_0 := blk_frozen BK136.out 0; have hfz74_1 := blk_frozen BK136.out 1; have hfz74_2 := blk_frozen BK136.out 2))
                                      refine bodyPost_ret (results_ct rfl _ _ gb136 62 #[.int .i64 0, .int .i64 0, .int .i64 0] (0, 0) _ rfl (by (with_reducible repeat (first | refine blk_drewN ?_ _ | refine blk_drew ?_ | refine blk_alloc ?_ _)); refine blk_put (cs := #[.int .i64 0, .int .i64 0, .int .i64 x137002_54]) ?_ 2 _ rfl; (with_reducible repeat (first | refine blk_drewN ?_ _ | refine blk_drew ?_ | refine blk_alloc ?_ _)); refine blk_put (cs := #[.int .i64 0, .int .i64 x137001_54, .int .i64 x137002_54]) ?_ 1 _ rfl; (with_reducible repeat (first | refine blk_drewN ?_ _ | refine blk_drew ?_ | refine blk_alloc ?_ _)); refine blk_put (cs := #[.int .i64 x137000_54, .int .i64 x137001_54, .int .i64 x137002_54]) ?_ 0 _ rfl; (with_reducible repeat (first | refine blk_drewN ?_ _ | refine blk_drew ?_ | refine blk_alloc ?_ _)); exact BK136.out) Try.underlying62 rfl (by kernel_rfl)) rfl ?_
                                      exact ⟨by first | rfl | (simp [errW_none, errW_some] <;> rfl) | (simp [*, errW_none, errW_some] <;> rfl), by repeat (first | (with_reducible first | exact HB.out | apply below_alloc | apply pw_below_drewN | apply below_drew1 | refine below_set ?_ GE136.out) | exact HB.out)⟩
                · rw [if_neg c27] at H
                  exact absurd H (by simp)
        · rw [if_neg c15] at H
          exact absurd H (by simp)

end Go.Proofs.Ytlhjblbmhlelbab.P
