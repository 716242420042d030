-- Written by the program wip/myprint.py of this session, over the kit's print of the translation. Lean checks it.
import Derived.Test.YthcikkjjegfblaaPx0
import Derived.Test.YthcikkjjegfblaaPx3
import Derived.Test.YthcikkjjegfblaaPx4
import Derived.Test.YthcikkjjegfblaaPx5
namespace Go.Proofs.Ythcikkjjegfblaa.P
open Go.RowKit Go.Proofs.YthcikkjjegfblaaW.PrintWords Go.Proofs.YthcikkjjegfblaaW.PrintLast Go.Proofs.YthcikkjjegfblaaW.PrintMore
attribute [local go_sem] max2_int min2_int max_two min_two max_three min_three max_four min_four   -- for this text's walks alone
set_option linter.unusedVariables false
set_option linter.unusedSimpArgs false

/-! ### laws_FnParsedUneven: function 5 -/
mutual
def laws_FnParsedUneven.j0 : Nat → List (List Int) → Bool → Option (Bool)
  | 0, _, _ => none
  | k + 1, x0, x22 => if x22 = true then (some true) else (laws_FnParsedUneven.l0 k x0 (⟨#[123]⟩ : ByteArray) false 0 0)
def laws_FnParsedUneven.l0 : Nat → List (List Int) → ByteArray → Bool → Int → Int → Option (Bool)
  | 0, _, _, _, _, _ => none
  | k + 1, x0, x3, x4, x5, x6 => if x6 < (x0.length : Int) then (if 0 ≤ x6 then (if ((rd_L2 x0 x6).length : Int) = 0 then (laws_FnParsedUneven.j2 k x0 x3 x4 x5 x6 true) else (laws_FnParsedUneven.j2 k x0 x3 x4 x5 x6 (decide (((rd_L2 x0 x6).length : Int) > 20)))) else (none)) else (if x4 = true then (if (x0.length : Int) = 0 then (none) else (laws_FnParsedUneven.j6 k x0 x3 x4 ((Int.tmod x5 (x0.length : Int)) == 0))) else (laws_FnParsedUneven.j6 k x0 x3 x4 false))
def laws_FnParsedUneven.j2 : Nat → List (List Int) → ByteArray → Bool → Int → Int → Bool → Option (Bool)
  | 0, _, _, _, _, _, _ => none
  | k + 1, x0, x3, x4, x5, x6, x42 => if x42 = true then (some true) else (if x4 = true then (laws_FnParsedUneven.j3 k x0 x3 true x5 x6) else (if 0 ≤ x6 then (if x6 < (x0.length : Int) then (if 0 < (x0.length : Int) then (laws_FnParsedUneven.j3 k x0 x3 (((rd_L2 x0 x6).length : Int) != ((rd_L2 x0 0).length : Int)) x5 x6) else (none)) else (none)) else (none)))
def laws_FnParsedUneven.j3 : Nat → List (List Int) → ByteArray → Bool → Int → Int → Option (Bool)
  | 0, _, _, _, _, _ => none
  | k + 1, x0, x3, x4, x5, x6 => if 0 ≤ x6 then (if x6 < (x0.length : Int) then (if x6 > 0 then (if x3.size + 1 ≤ 9223372036854775807 then (laws_FnParsedUneven.j4 k x0 (x3 ++ (⟨#[44]⟩ : ByteArray)) x4 (wrap64 (x5 + ((rd_L2 x0 x6).length : Int))) x6) else (none)) else (laws_FnParsedUneven.j4 k x0 x3 x4 (wrap64 (x5 + ((rd_L2 x0 x6).length : Int))) x6)) else (none)) else (none)
def laws_FnParsedUneven.j4 : Nat → List (List Int) → ByteArray → Bool → Int → Int → Option (Bool)
  | 0, _, _, _, _, _ => none
  | k + 1, x0, x3, x4, x5, x6 => laws_FnParsedUneven.l1 k x0 x3 x4 x5 x6 ([] : List ByteArray) 0
def laws_FnParsedUneven.l1 : Nat → List (List Int) → ByteArray → Bool → Int → Int → List ByteArray → Int → Option (Bool)
  | 0, _, _, _, _, _, _, _ => none
  | k + 1, x0, x3, x4, x5, x6, x7, x8 => if 0 ≤ x6 then (if x6 < (x0.length : Int) then (if x8 < ((rd_L2 x0 x6).length : Int) then (if 0 ≤ x8 then ((spec_Decimal.f k (rd (rd_L2 x0 x6) x8)).bind fun t141 => (if x7.length < 8796093022208 then (laws_FnParsedUneven.l1 k x0 x3 x4 x5 x6 (x7 ++ [t141]) (wrap64 (x8 + 1))) else (none))) else (none)) else ((spec_Literal.f k (([(x7.length : Int)] : List Int)) x7 (⟨#[44]⟩ : ByteArray)).bind fun t148 => (if x3.size + t148.size ≤ 9223372036854775807 then (laws_FnParsedUneven.l0 k x0 (x3 ++ t148) x4 x5 (wrap64 (x6 + 1))) else (none)))) else (none)) else (none)
def laws_FnParsedUneven.j6 : Nat → List (List Int) → ByteArray → Bool → Bool → Option (Bool)
  | 0, _, _, _, _ => none
  | k + 1, x0, x3, x4, x101 => if x101 = true then (some true) else (if x3.size + 1 ≤ 9223372036854775807 then ((impl_Parsed.f (x3 ++ (⟨#[125]⟩ : ByteArray)) (⟨#[44]⟩ : ByteArray)).bind fun bt149 => (if x4 = true then (if bt149.2.2 = true then (some false) else (if (bt149.1.length : Int) = 0 then (if (bt149.2.1.length : Int) = 0 then ((laws_oneRow.f).bind fun t156 => (some t156)) else (some false)) else (some false))) else (if bt149.2.2 = true then (if 0 < (x0.length : Int) then ((spec_SameInts.f k bt149.1 (([(x0.length : Int), ((rd_L2 x0 0).length : Int)] : List Int))).bind fun t161 => (some t161)) else (none)) else (some false)))) else (none))
end
def laws_FnParsedUneven.f (k : Nat) (l0 : List (List Int)) : Option (Bool) := (laws_zzFits2.f k l0).bind fun t132 => (if t132 = true then (if (l0.length : Int) < 2 then (laws_FnParsedUneven.j0 k l0 true) else (laws_FnParsedUneven.j0 k l0 (decide ((l0.length : Int) > 6)))) else (some true))
theorem laws_FnParsedUneven.mono_l : ∀ k, (∀ y0 y1, LeO (laws_FnParsedUneven.j0 k y0 y1) (laws_FnParsedUneven.j0 (k + 1) y0 y1)) ∧ (∀ y0 y1 y2 y3 y4, LeO (laws_FnParsedUneven.l0 k y0 y1 y2 y3 y4) (laws_FnParsedUneven.l0 (k + 1) y0 y1 y2 y3 y4)) ∧ (∀ y0 y1 y2 y3 y4 y5, LeO (laws_FnParsedUneven.j2 k y0 y1 y2 y3 y4 y5) (laws_FnParsedUneven.j2 (k + 1) y0 y1 y2 y3 y4 y5)) ∧ (∀ y0 y1 y2 y3 y4, LeO (laws_FnParsedUneven.j3 k y0 y1 y2 y3 y4) (laws_FnParsedUneven.j3 (k + 1) y0 y1 y2 y3 y4)) ∧ (∀ y0 y1 y2 y3 y4, LeO (laws_FnParsedUneven.j4 k y0 y1 y2 y3 y4) (laws_FnParsedUneven.j4 (k + 1) y0 y1 y2 y3 y4)) ∧ (∀ y0 y1 y2 y3 y4 y5 y6, LeO (laws_FnParsedUneven.l1 k y0 y1 y2 y3 y4 y5 y6) (laws_FnParsedUneven.l1 (k + 1) y0 y1 y2 y3 y4 y5 y6)) ∧ (∀ y0 y1 y2 y3, LeO (laws_FnParsedUneven.j6 k y0 y1 y2 y3) (laws_FnParsedUneven.j6 (k + 1) y0 y1 y2 y3))
  | 0 => ⟨fun _ _ r h => by simp [laws_FnParsedUneven.j0] at h, fun _ _ _ _ _ r h => by simp [laws_FnParsedUneven.l0] at h, fun _ _ _ _ _ _ r h => by simp [laws_FnParsedUneven.j2] at h, fun _ _ _ _ _ r h => by simp [laws_FnParsedUneven.j3] at h, fun _ _ _ _ _ r h => by simp [laws_FnParsedUneven.j4] at h, fun _ _ _ _ _ _ _ r h => by simp [laws_FnParsedUneven.l1] at h, fun _ _ _ _ r h => by simp [laws_FnParsedUneven.j6] at h⟩
  | k + 1 => by
    obtain ⟨ih0, ih1, ih2, ih3, ih4, ih5, ih6⟩ := laws_FnParsedUneven.mono_l k
    refine ⟨?_, ?_, ?_, ?_, ?_, ?_, ?_⟩
    · intro y0 y1
      unfold laws_FnParsedUneven.j0
      repeat' first
      | (with_reducible exact ih0 _ _)
      | (with_reducible exact ih1 _ _ _ _ _)
      | (with_reducible exact ih2 _ _ _ _ _ _)
      | (with_reducible exact ih3 _ _ _ _ _)
      | (with_reducible exact ih4 _ _ _ _ _)
      | (with_reducible exact ih5 _ _ _ _ _ _ _)
      | (with_reducible exact ih6 _ _ _ _)
      | (with_reducible exact laws_zzFits2.mono _ _)
      | (with_reducible exact spec_Decimal.mono _ _)
      | (with_reducible exact spec_Literal.mono _ _ _ _)
      | (with_reducible exact spec_SameInts.mono _ _ _)
      | (with_reducible exact LeO.refl _)
      | (with_reducible exact LeO.none _)
      | (with_reducible refine LeO.ite ?_ ?_)
      | (with_reducible refine LeO.bind ?_ (fun _ => ?_))
      | exact ih0 _ _
      | exact ih1 _ _ _ _ _
      | exact ih2 _ _ _ _ _ _
      | exact ih3 _ _ _ _ _
      | exact ih4 _ _ _ _ _
      | exact ih5 _ _ _ _ _ _ _
      | exact ih6 _ _ _ _
      | exact laws_zzFits2.mono _ _
      | exact spec_Decimal.mono _ _
      | exact spec_Literal.mono _ _ _ _
      | exact spec_SameInts.mono _ _ _
      | exact LeO.none _
      | refine LeO.ite ?_ ?_
      | refine LeO.bind ?_ (fun _ => ?_)
    · intro y0 y1 y2 y3 y4
      unfold laws_FnParsedUneven.l0
      repeat' first
      | (with_reducible exact ih0 _ _)
      | (with_reducible exact ih1 _ _ _ _ _)
      | (with_reducible exact ih2 _ _ _ _ _ _)
      | (with_reducible exact ih3 _ _ _ _ _)
      | (with_reducible exact ih4 _ _ _ _ _)
      | (with_reducible exact ih5 _ _ _ _ _ _ _)
      | (with_reducible exact ih6 _ _ _ _)
      | (with_reducible exact laws_zzFits2.mono _ _)
      | (with_reducible exact spec_Decimal.mono _ _)
      | (with_reducible exact spec_Literal.mono _ _ _ _)
      | (with_reducible exact spec_SameInts.mono _ _ _)
      | (with_reducible exact LeO.refl _)
      | (with_reducible exact LeO.none _)
      | (with_reducible refine LeO.ite ?_ ?_)
      | (with_reducible refine LeO.bind ?_ (fun _ => ?_))
      | exact ih0 _ _
      | exact ih1 _ _ _ _ _
      | exact ih2 _ _ _ _ _ _
      | exact ih3 _ _ _ _ _
      | exact ih4 _ _ _ _ _
      | exact ih5 _ _ _ _ _ _ _
      | exact ih6 _ _ _ _
      | exact laws_zzFits2.mono _ _
      | exact spec_Decimal.mono _ _
      | exact spec_Literal.mono _ _ _ _
      | exact spec_SameInts.mono _ _ _
      | exact LeO.none _
      | refine LeO.ite ?_ ?_
      | refine LeO.bind ?_ (fun _ => ?_)
    · intro y0 y1 y2 y3 y4 y5
      unfold laws_FnParsedUneven.j2
      repeat' first
      | (with_reducible exact ih0 _ _)
      | (with_reducible exact ih1 _ _ _ _ _)
      | (with_reducible exact ih2 _ _ _ _ _ _)
      | (with_reducible exact ih3 _ _ _ _ _)
      | (with_reducible exact ih4 _ _ _ _ _)
      | (with_reducible exact ih5 _ _ _ _ _ _ _)
      | (with_reducible exact ih6 _ _ _ _)
      | (with_reducible exact laws_zzFits2.mono _ _)
      | (with_reducible exact spec_Decimal.mono _ _)
      | (with_reducible exact spec_Literal.mono _ _ _ _)
      | (with_reducible exact spec_SameInts.mono _ _ _)
      | (with_reducible exact LeO.refl _)
      | (with_reducible exact LeO.none _)
      | (with_reducible refine LeO.ite ?_ ?_)
      | (with_reducible refine LeO.bind ?_ (fun _ => ?_))
      | exact ih0 _ _
      | exact ih1 _ _ _ _ _
      | exact ih2 _ _ _ _ _ _
      | exact ih3 _ _ _ _ _
      | exact ih4 _ _ _ _ _
      | exact ih5 _ _ _ _ _ _ _
      | exact ih6 _ _ _ _
      | exact laws_zzFits2.mono _ _
      | exact spec_Decimal.mono _ _
      | exact spec_Literal.mono _ _ _ _
      | exact spec_SameInts.mono _ _ _
      | exact LeO.none _
      | refine LeO.ite ?_ ?_
      | refine LeO.bind ?_ (fun _ => ?_)
    · intro y0 y1 y2 y3 y4
      unfold laws_FnParsedUneven.j3
      repeat' first
      | (with_reducible exact ih0 _ _)
      | (with_reducible exact ih1 _ _ _ _ _)
      | (with_reducible exact ih2 _ _ _ _ _ _)
      | (with_reducible exact ih3 _ _ _ _ _)
      | (with_reducible exact ih4 _ _ _ _ _)
      | (with_reducible exact ih5 _ _ _ _ _ _ _)
      | (with_reducible exact ih6 _ _ _ _)
      | (with_reducible exact laws_zzFits2.mono _ _)
      | (with_reducible exact spec_Decimal.mono _ _)
      | (with_reducible exact spec_Literal.mono _ _ _ _)
      | (with_reducible exact spec_SameInts.mono _ _ _)
      | (with_reducible exact LeO.refl _)
      | (with_reducible exact LeO.none _)
      | (with_reducible refine LeO.ite ?_ ?_)
      | (with_reducible refine LeO.bind ?_ (fun _ => ?_))
      | exact ih0 _ _
      | exact ih1 _ _ _ _ _
      | exact ih2 _ _ _ _ _ _
      | exact ih3 _ _ _ _ _
      | exact ih4 _ _ _ _ _
      | exact ih5 _ _ _ _ _ _ _
      | exact ih6 _ _ _ _
      | exact laws_zzFits2.mono _ _
      | exact spec_Decimal.mono _ _
      | exact spec_Literal.mono _ _ _ _
      | exact spec_SameInts.mono _ _ _
      | exact LeO.none _
      | refine LeO.ite ?_ ?_
      | refine LeO.bind ?_ (fun _ => ?_)
    · intro y0 y1 y2 y3 y4
      unfold laws_FnParsedUneven.j4
      repeat' first
      | (with_reducible exact ih0 _ _)
      | (with_reducible exact ih1 _ _ _ _ _)
      | (with_reducible exact ih2 _ _ _ _ _ _)
      | (with_reducible exact ih3 _ _ _ _ _)
      | (with_reducible exact ih4 _ _ _ _ _)
      | (with_reducible exact ih5 _ _ _ _ _ _ _)
      | (with_reducible exact ih6 _ _ _ _)
      | (with_reducible exact laws_zzFits2.mono _ _)
      | (with_reducible exact spec_Decimal.mono _ _)
      | (with_reducible exact spec_Literal.mono _ _ _ _)
      | (with_reducible exact spec_SameInts.mono _ _ _)
      | (with_reducible exact LeO.refl _)
      | (with_reducible exact LeO.none _)
      | (with_reducible refine LeO.ite ?_ ?_)
      | (with_reducible refine LeO.bind ?_ (fun _ => ?_))
      | exact ih0 _ _
      | exact ih1 _ _ _ _ _
      | exact ih2 _ _ _ _ _ _
      | exact ih3 _ _ _ _ _
      | exact ih4 _ _ _ _ _
      | exact ih5 _ _ _ _ _ _ _
      | exact ih6 _ _ _ _
      | exact laws_zzFits2.mono _ _
      | exact spec_Decimal.mono _ _
      | exact spec_Literal.mono _ _ _ _
      | exact spec_SameInts.mono _ _ _
      | exact LeO.none _
      | refine LeO.ite ?_ ?_
      | refine LeO.bind ?_ (fun _ => ?_)
    · intro y0 y1 y2 y3 y4 y5 y6
      unfold laws_FnParsedUneven.l1
      repeat' first
      | (with_reducible exact ih0 _ _)
      | (with_reducible exact ih1 _ _ _ _ _)
      | (with_reducible exact ih2 _ _ _ _ _ _)
      | (with_reducible exact ih3 _ _ _ _ _)
      | (with_reducible exact ih4 _ _ _ _ _)
      | (with_reducible exact ih5 _ _ _ _ _ _ _)
      | (with_reducible exact ih6 _ _ _ _)
      | (with_reducible exact laws_zzFits2.mono _ _)
      | (with_reducible exact spec_Decimal.mono _ _)
      | (with_reducible exact spec_Literal.mono _ _ _ _)
      | (with_reducible exact spec_SameInts.mono _ _ _)
      | (with_reducible exact LeO.refl _)
      | (with_reducible exact LeO.none _)
      | (with_reducible refine LeO.ite ?_ ?_)
      | (with_reducible refine LeO.bind ?_ (fun _ => ?_))
      | exact ih0 _ _
      | exact ih1 _ _ _ _ _
      | exact ih2 _ _ _ _ _ _
      | exact ih3 _ _ _ _ _
      | exact ih4 _ _ _ _ _
      | exact ih5 _ _ _ _ _ _ _
      | exact ih6 _ _ _ _
      | exact laws_zzFits2.mono _ _
      | exact spec_Decimal.mono _ _
      | exact spec_Literal.mono _ _ _ _
      | exact spec_SameInts.mono _ _ _
      | exact LeO.none _
      | refine LeO.ite ?_ ?_
      | refine LeO.bind ?_ (fun _ => ?_)
    · intro y0 y1 y2 y3
      unfold laws_FnParsedUneven.j6
      repeat' first
      | (with_reducible exact ih0 _ _)
      | (with_reducible exact ih1 _ _ _ _ _)
      | (with_reducible exact ih2 _ _ _ _ _ _)
      | (with_reducible exact ih3 _ _ _ _ _)
      | (with_reducible exact ih4 _ _ _ _ _)
      | (with_reducible exact ih5 _ _ _ _ _ _ _)
      | (with_reducible exact ih6 _ _ _ _)
      | (with_reducible exact laws_zzFits2.mono _ _)
      | (with_reducible exact spec_Decimal.mono _ _)
      | (with_reducible exact spec_Literal.mono _ _ _ _)
      | (with_reducible exact spec_SameInts.mono _ _ _)
      | (with_reducible exact LeO.refl _)
      | (with_reducible exact LeO.none _)
      | (with_reducible refine LeO.ite ?_ ?_)
      | (with_reducible refine LeO.bind ?_ (fun _ => ?_))
      | exact ih0 _ _
      | exact ih1 _ _ _ _ _
      | exact ih2 _ _ _ _ _ _
      | exact ih3 _ _ _ _ _
      | exact ih4 _ _ _ _ _
      | exact ih5 _ _ _ _ _ _ _
      | exact ih6 _ _ _ _
      | exact laws_zzFits2.mono _ _
      | exact spec_Decimal.mono _ _
      | exact spec_Literal.mono _ _ _ _
      | exact spec_SameInts.mono _ _ _
      | exact LeO.none _
      | refine LeO.ite ?_ ?_
      | refine LeO.bind ?_ (fun _ => ?_)
theorem laws_FnParsedUneven.mono : ∀ a0 k, LeO (laws_FnParsedUneven.f k a0) (laws_FnParsedUneven.f (k + 1) a0) := by
  intro a0 k
  obtain ⟨ih0, ih1, ih2, ih3, ih4, ih5, ih6⟩ := laws_FnParsedUneven.mono_l k
  unfold laws_FnParsedUneven.f
  repeat' first
      | (with_reducible exact ih0 _ _)
      | (with_reducible exact ih1 _ _ _ _ _)
      | (with_reducible exact ih2 _ _ _ _ _ _)
      | (with_reducible exact ih3 _ _ _ _ _)
      | (with_reducible exact ih4 _ _ _ _ _)
      | (with_reducible exact ih5 _ _ _ _ _ _ _)
      | (with_reducible exact ih6 _ _ _ _)
      | (with_reducible exact laws_zzFits2.mono _ _)
      | (with_reducible exact spec_Decimal.mono _ _)
      | (with_reducible exact spec_Literal.mono _ _ _ _)
      | (with_reducible exact spec_SameInts.mono _ _ _)
      | (with_reducible exact LeO.refl _)
      | (with_reducible exact LeO.none _)
      | (with_reducible refine LeO.ite ?_ ?_)
      | (with_reducible refine LeO.bind ?_ (fun _ => ?_))
      | exact ih0 _ _
      | exact ih1 _ _ _ _ _
      | exact ih2 _ _ _ _ _ _
      | exact ih3 _ _ _ _ _
      | exact ih4 _ _ _ _ _
      | exact ih5 _ _ _ _ _ _ _
      | exact ih6 _ _ _ _
      | exact laws_zzFits2.mono _ _
      | exact spec_Decimal.mono _ _
      | exact spec_Literal.mono _ _ _ _
      | exact spec_SameInts.mono _ _ _
      | exact LeO.none _
      | refine LeO.ite ?_ ?_
      | refine LeO.bind ?_ (fun _ => ?_)
set_option maxHeartbeats 8000000 in
set_option maxRecDepth 100000 in
theorem laws_FnParsedUneven.calls (k : Nat) (A0 : Option Addr) (c0 : Nat) (l0 : List (List Int)) (r : Bool) (w : World) (hr0 : Kd.C (Kd.slice 2 (Kd.int .i64)) w A0 l0.length l0) (hc0 : l0.length ≤ c0) (h : laws_FnParsedUneven.f k l0 = some r) :
    Calls Try.prog 5 #[.slice A0 l0.length c0] w fun e w' => e = .returned (.bool r) ∧ Below w.heap.size w w' := by
  have HR0 := Aside0.mk hr0
  have HC0 := Aside0.mk hc0
  clear hr0 hc0
  have HB := Aside0.mk (Below.refl w.heap.size w)
  have H : ((laws_zzFits2.f k l0).bind fun t132 => (if t132 = true then (if (l0.length : Int) < 2 then (laws_FnParsedUneven.j0 k l0 true) else (laws_FnParsedUneven.j0 k l0 (decide ((l0.length : Int) > 6)))) else (some true))) = some r := h
  clear h
  replace H := Option.bind_eq_some_iff.mp H
  obtain ⟨t132, A20, H⟩ := H
  replace H : (if t132 = true then (if (l0.length : Int) < 2 then (laws_FnParsedUneven.j0 k l0 true) else (laws_FnParsedUneven.j0 k l0 (decide ((l0.length : Int) > 6)))) else (some true)) = some r := H
  have A2 := Aside0.mk A20
  clear A20
  by_cases c3 : t132 = true
  · subst c3
    have H1 : (if (l0.length : Int) < 2 then (laws_FnParsedUneven.j0 k l0 true) else (laws_FnParsedUneven.j0 k l0 (decide ((l0.length : Int) > 6)))) = some r := by rw [if_pos rfl] at H; exact H
    clear H
    have H := H1
    clear H1
    have HC4 := Aside0.mk H
    clear H
    go_enter Try.func5, Try.ntmps5
    go_upto_region 3 with (first | (go_at_call 16; (with_reducible refine (laws_zzFits2.calls k _ _ l0 true _ ?side1 ?side2 A2.out).mono ?_); (case side1 => repeat (first | exact HR0.out | (with_reducible refine Kd.C_alloc ?_ _) | (with_reducible refine Kd.C_drewN ?_ _) | (with_reducible refine Kd.C_drew ?_))); (case side2 => exact HC0.out); rintro e w' ⟨rfl, ⟨nd, rfl⟩⟩; (try first | exact ⟨rfl, _, World.drewN_drewN _ _ _⟩ | exact ⟨rfl, _, Eq.trans (World.drewN_drewN _ _ _) (congrArg (World.drewN _) (Nat.add_assoc _ _ _))⟩)))
    repeat (go_quiet (first | (go_at_call 16; (with_reducible refine (laws_zzFits2.calls k _ _ l0 true _ ?side1 ?side2 A2.out).mono ?_); (case side1 => repeat (first | exact HR0.out | (with_reducible refine Kd.C_alloc ?_ _) | (with_reducible refine Kd.C_drewN ?_ _) | (with_reducible refine Kd.C_drew ?_))); (case side2 => exact HC0.out); rintro e w' ⟨rfl, ⟨nd, rfl⟩⟩; (try first | exact ⟨rfl, _, World.drewN_drewN _ _ _⟩ | exact ⟨rfl, _, Eq.trans (World.drewN_drewN _ _ _) (congrArg (World.drewN _) (Nat.add_assoc _ _ _))⟩))); go_upto_region 3 with (first | (go_at_call 16; (with_reducible refine (laws_zzFits2.calls k _ _ l0 true _ ?side1 ?side2 A2.out).mono ?_); (case side1 => repeat (first | exact HR0.out | (with_reducible refine Kd.C_alloc ?_ _) | (with_reducible refine Kd.C_drewN ?_ _) | (with_reducible refine Kd.C_drew ?_))); (case side2 => exact HC0.out); rintro e w' ⟨rfl, ⟨nd, rfl⟩⟩; (try first | exact ⟨rfl, _, World.drewN_drewN _ _ _⟩ | exact ⟨rfl, _, Eq.trans (World.drewN_drewN _ _ _) (congrArg (World.drewN _) (Nat.add_assoc _ _ _))⟩))))
    (try simp only [Act.put, List.setIfInBounds_toArray, List.set_cons_zero, List.set_cons_succ])
    go_cut [22] (fun v22 wc => ∃ (kq : Nat) (x22_3 : Bool), v22 = .bool x22_3 ∧ Aside0 (laws_FnParsedUneven.j0 kq l0 x22_3 = some r) ∧ Aside0 (kq ≤ k) ∧ Aside0 (Below w.heap.size w wc))
    case first =>
      have H := HC4.out
      clear HC4
      by_cases c5 : (l0.length : Int) < 2
      · rw [if_pos c5] at H
        have c5b0 : decide ((l0.length : Int) < 2) = true := decide_eq_true c5
        have c5b1 : decide (l0.length < 2) = true := decide_eq_true (by omega)
        clear c5
        (first | rw [c5b0] | (simp only [i64_w, i32_w]; rw [c5b0]) | skip)
        have H' := Aside0.mk H
        clear H
        go_wp2
        repeat (go_quiet (fail); try go_wp2)
        go_meet
        case rel => exact ⟨_, (true), (by first | rfl | (simp; done) | (simp [*]; done)), H', ⟨by first | omega | exact Nat.le_refl _⟩, ⟨by repeat (first | (with_reducible first | exact HB.out | apply below_alloc | apply pw_below_drewN | apply below_drew1) | exact HB.out)⟩⟩
      · rw [if_neg c5] at H
        have c5b0 : decide ((l0.length : Int) < 2) = false := decide_eq_false c5
        have c5b1 : decide (l0.length < 2) = false := decide_eq_false (by omega)
        clear c5
        (first | rw [c5b0] | (simp only [i64_w, i32_w]; rw [c5b0]) | skip)
        have H' := Aside0.mk H
        clear H
        go_wp2
        repeat (go_quiet (fail); try go_wp2)
        go_meet
        case rel => exact ⟨_, (decide ((l0.length : Int) > 6)), (by first | rfl | (simp; done) | (simp [*]; done)), H', ⟨by first | omega | exact Nat.le_refl _⟩, ⟨by repeat (first | (with_reducible first | exact HB.out | apply below_alloc | apply pw_below_drewN | apply below_drew1) | exact HB.out)⟩⟩
    case rest =>
      clear HC4
      try clear p2
      try clear c3
      try clear c5
      try clear c5b0
      try clear c5b1
      obtain ⟨kq, x22_3, rfl, HA, HJ3, HB⟩ := hcut
      cases kq with
      | zero => exact absurd HA.out (by simp [laws_FnParsedUneven.j0])
      | succ kj3 =>
        have H := HA.out
        clear HA
        simp only [laws_FnParsedUneven.j0] at H
        by_cases c6 : x22_3 = true
        · subst c6
          have H1 : (some true) = some r := by rw [if_pos rfl] at H; exact H
          clear H
          have H := H1
          clear H1
          obtain rfl := Option.some.inj H
          go_wp2
          repeat (go_quiet (fail); try go_wp2)
          go_ret
          exact ⟨by first | rfl | (simp [errW_none, errW_some] <;> rfl) | (simp [*, errW_none, errW_some] <;> rfl), by repeat (first | (with_reducible first | exact HB.out | apply below_alloc | apply pw_below_drewN | apply below_drew1) | exact HB.out)⟩
        · replace c6 := Bool.eq_false_iff.mpr c6
          subst c6
          have H1 : (laws_FnParsedUneven.l0 kj3 l0 (⟨#[123]⟩ : ByteArray) false 0 0) = some r := by rw [if_neg (show ¬ (false = true) by decide)] at H; exact H
          clear H
          have H := H1
          clear H1
          have H' := Aside0.mk H
          clear H
          go_wp2
          repeat (go_quiet (fail); try go_wp2)
          go_loopg [3, 4, 5, 6] kj3 (fun kq v3 v4 v5 v6 w' => ∃ (x3_2 : ByteArray) (x4_2 : Bool) (x5_2 : Int) (x6_2 : Int), v3 = .string x3_2 ∧ v4 = .bool x4_2 ∧ v5 = .int .i64 x5_2 ∧ v6 = .int .i64 x6_2 ∧ Aside0 (laws_FnParsedUneven.l0 kq l0 x3_2 x4_2 x5_2 x6_2 = some r) ∧ Aside0 (kq ≤ kj3) ∧ Aside0 (Below w.heap.size w w'))
          case atStart => exact ⟨((⟨#[123]⟩ : ByteArray)), (false), (0), (0), (by first | rfl | (simp; done) | (simp [*]; done)), (by first | rfl | (simp; done) | (simp [*]; done)), (by first | rfl | (simp; done) | (simp [*]; done)), (by first | rfl | (simp; done) | (simp [*]; done)), H', ⟨Nat.le_refl _⟩, ⟨by repeat (first | (with_reducible first | exact HB.out | apply below_alloc | apply pw_below_drewN | apply below_drew1) | exact HB.out)⟩⟩
          case round =>
            clear H'
            try clear p2
            try clear c3
            try clear c5
            try clear c5b0
            try clear c5b1
            try clear c6
            try clear p2
            obtain ⟨x3_2, x4_2, x5_2, x6_2, rfl, rfl, rfl, rfl, HA, HK2, HB⟩ := hrel
            cases gk with
            | zero => exact absurd HA.out (by simp [laws_FnParsedUneven.l0])
            | succ k2 =>
              have H := HA.out
              clear HA
              simp only [laws_FnParsedUneven.l0] at H
              by_cases c7 : x6_2 < (l0.length : Int)
              · rw [if_pos c7] at H
                have c7b0 : decide (x6_2 < (l0.length : Int)) = true := decide_eq_true c7
                clear c7
                have HC8 := Aside0.mk H
                clear H
                go_upto_region 9 with (fail)
                repeat (go_quiet (fail); go_upto_region 9 with (fail))
                go_cut [42] (fun v42 wc => ∃ (kq : Nat) (x42_7 : Bool), v42 = .bool x42_7 ∧ Aside0 (laws_FnParsedUneven.j2 kq l0 x3_2 x4_2 x5_2 x6_2 x42_7 = some r) ∧ Aside0 (kq ≤ k2) ∧ Aside0 (Below w.heap.size w wc))
                case first =>
                  have H := HC8.out
                  clear HC8
                  by_cases c9 : 0 ≤ x6_2
                  · rw [if_pos c9] at H
                    have c9b0 : decide (0 ≤ x6_2) = true := decide_eq_true c9
                    clear c9
                    (first | rw [c9b0] | (simp only [i64_w, i32_w]; rw [c9b0]) | skip)
                    by_cases c10 : ((rd_L2 l0 x6_2).length : Int) = 0
                    · rw [if_pos c10] at H
                      have c10b0 : (((rd_L2 l0 x6_2).length : Int) == 0) = true := beq_iff_eq.mpr c10
                      have c10b1 : (((rd_L2 l0 x6_2).length : Int) != 0) = false := bne_eq_false_iff_eq.mpr c10
                      clear c10
                      have H' := Aside0.mk H
                      clear H
                      have p133 : 0 ≤ (x6_2 : Int) := of_decide_eq_true (by first | (with_reducible assumption) | assumption)
                      have q133 : x6_2 < (l0.length : Int) := of_decide_eq_true (by first | (with_reducible assumption) | assumption)
                      obtain ⟨ad133, A133_0, c133_0, e133, hx133_0, hl133_0, hi133_0⟩ := at_L2 HR0.out x6_2 p133 q133
                      cases e133
                      replace hx133_0 := (HB.out.cell (World.block_lt_of_cell? w _ hx133_0)).trans hx133_0
                      have HR133_0 := Aside0.mk hi133_0
                      have HC133_0 := Aside0.mk hl133_0
                      clear hi133_0 hl133_0
                      replace p133 := eq_true p133
                      replace q133 := eq_true q133
                      go_wp2
                      repeat (go_quiet (fail); try go_wp2)
                      go_meet
                      case rel => exact ⟨_, (true), (by first | rfl | (simp; done) | (simp [*]; done)), H', ⟨by have := HJ3.out; have := HK2.out; first | omega | exact Nat.le_refl _⟩, ⟨by repeat (first | (with_reducible first | exact HB.out | apply below_alloc | apply pw_below_drewN | apply below_drew1) | exact HB.out)⟩⟩
                    · rw [if_neg c10] at H
                      have c10b0 : (((rd_L2 l0 x6_2).length : Int) == 0) = false := beq_eq_false_iff_ne.mpr c10
                      have c10b1 : (((rd_L2 l0 x6_2).length : Int) != 0) = true := bne_iff_ne.mpr c10
                      have c10b2 : ¬ ((rd_L2 l0 x6_2) = []) := fun h_ => c10 (by rw [h_]; rfl)
                      have H' := Aside0.mk H
                      clear H
                      have p133 : 0 ≤ (x6_2 : Int) := of_decide_eq_true (by first | (with_reducible assumption) | assumption)
                      have q133 : x6_2 < (l0.length : Int) := of_decide_eq_true (by first | (with_reducible assumption) | assumption)
                      obtain ⟨ad133, A133_0, c133_0, e133, hx133_0, hl133_0, hi133_0⟩ := at_L2 HR0.out x6_2 p133 q133
                      cases e133
                      replace hx133_0 := (HB.out.cell (World.block_lt_of_cell? w _ hx133_0)).trans hx133_0
                      have HR133_0 := Aside0.mk hi133_0
                      have HC133_0 := Aside0.mk hl133_0
                      clear hi133_0 hl133_0
                      replace p133 := eq_true p133
                      replace q133 := eq_true q133
                      have p134 : 0 ≤ (x6_2 : Int) := of_decide_eq_true (by first | (with_reducible assumption) | assumption)
                      have q134 : x6_2 < (l0.length : Int) := of_decide_eq_true (by first | (with_reducible assumption) | assumption)
                      obtain ⟨ad134, A134_0, c134_0, e134, hx134_0, hl134_0, hi134_0⟩ := at_L2 HR0.out x6_2 p134 q134
                      obtain rfl : ad133 = ad134 := (by injection e134)
                      replace hx134_0 := (HB.out.cell (World.block_lt_of_cell? w _ hx134_0)).trans hx134_0
                      have HR134_0 := Aside0.mk hi134_0
                      have HC134_0 := Aside0.mk hl134_0
                      clear hi134_0 hl134_0
                      replace p134 := eq_true p134
                      replace q134 := eq_true q134
                      have ea_ := Option.some.inj (hx133_0.symm.trans hx134_0)
                      injection ea_ with ea_ en_ ec_
                      subst ea_
                      subst ec_
                      clear en_
                      go_wp2
                      repeat (go_quiet (fail); try go_wp2)
                      go_meet
                      case rel => exact ⟨_, (decide (((rd_L2 l0 x6_2).length : Int) > 20)), (by first | rfl | (simp; done) | (simp [*]; done)), H', ⟨by have := HJ3.out; have := HK2.out; first | omega | exact Nat.le_refl _⟩, ⟨by repeat (first | (with_reducible first | exact HB.out | apply below_alloc | apply pw_below_drewN | apply below_drew1) | exact HB.out)⟩⟩
                  · rw [if_neg c9] at H
                    exact absurd H (by simp)
                case rest =>
                  clear HC8
                  try clear c1
                  try clear p1
                  try clear q1
                  try clear hx1
                  try clear p2
                  try clear c3
                  try clear c5
                  try clear c5b0
                  try clear c5b1
                  try clear c6
                  try clear c7
                  try clear c7b0
                  try clear c9
                  try clear c9b0
                  try clear c10
                  try clear c10b0
                  try clear c10b1
                  try clear c10b2
                  try clear hx133_0
                  try clear hx134_0
                  try clear p133
                  try clear p134
                  try clear p2
                  try clear q133
                  try clear q134
                  obtain ⟨kq, x42_7, rfl, HA, HJ7, HB⟩ := hcut
                  cases kq with
                  | zero => exact absurd HA.out (by simp [laws_FnParsedUneven.j2])
                  | succ kj7 =>
                    have H := HA.out
                    clear HA
                    simp only [laws_FnParsedUneven.j2] at H
                    by_cases c11 : x42_7 = true
                    · subst c11
                      have H1 : (some true) = some r := by rw [if_pos rfl] at H; exact H
                      clear H
                      have H := H1
                      clear H1
                      obtain rfl := Option.some.inj H
                      go_wp2
                      repeat (go_quiet (fail); try go_wp2)
                      go_ret
                      exact ⟨by first | rfl | (simp [errW_none, errW_some] <;> rfl) | (simp [*, errW_none, errW_some] <;> rfl), by repeat (first | (with_reducible first | exact HB.out | apply below_alloc | apply pw_below_drewN | apply below_drew1) | exact HB.out)⟩
                    · replace c11 := Bool.eq_false_iff.mpr c11
                      subst c11
                      have H1 : (if x4_2 = true then (laws_FnParsedUneven.j3 kj7 l0 x3_2 true x5_2 x6_2) else (if 0 ≤ x6_2 then (if x6_2 < (l0.length : Int) then (if 0 < (l0.length : Int) then (laws_FnParsedUneven.j3 kj7 l0 x3_2 (((rd_L2 l0 x6_2).length : Int) != ((rd_L2 l0 0).length : Int)) x5_2 x6_2) else (none)) else (none)) else (none))) = some r := by rw [if_neg (show ¬ (false = true) by decide)] at H; exact H
                      clear H
                      have H := H1
                      clear H1
                      have HC12 := Aside0.mk H
                      clear H
                      go_upto_region 11 with (fail)
                      repeat (go_quiet (fail); go_upto_region 11 with (fail))
                      go_cut [4] (fun v4 wc => ∃ (kq : Nat) (x4_11 : Bool), v4 = .bool x4_11 ∧ Aside0 (laws_FnParsedUneven.j3 kq l0 x3_2 x4_11 x5_2 x6_2 = some r) ∧ Aside0 (kq ≤ kj7) ∧ Aside0 (Below w.heap.size w wc))
                      case first =>
                        have H := HC12.out
                        clear HC12
                        by_cases c13 : x4_2 = true
                        · subst c13
                          have H1 : (laws_FnParsedUneven.j3 kj7 l0 x3_2 true x5_2 x6_2) = some r := by rw [if_pos rfl] at H; exact H
                          clear H
                          have H := H1
                          clear H1
                          have H' := Aside0.mk H
                          clear H
                          go_wp2
                          repeat (go_quiet (fail); try go_wp2)
                          go_meet
                          case rel => exact ⟨_, (true), (by first | rfl | (simp; done) | (simp [*]; done)), H', ⟨by have := HJ3.out; have := HK2.out; have := HJ7.out; first | omega | exact Nat.le_refl _⟩, ⟨by repeat (first | (with_reducible first | exact HB.out | apply below_alloc | apply pw_below_drewN | apply below_drew1) | exact HB.out)⟩⟩
                        · replace c13 := Bool.eq_false_iff.mpr c13
                          subst c13
                          have H1 : (if 0 ≤ x6_2 then (if x6_2 < (l0.length : Int) then (if 0 < (l0.length : Int) then (laws_FnParsedUneven.j3 kj7 l0 x3_2 (((rd_L2 l0 x6_2).length : Int) != ((rd_L2 l0 0).length : Int)) x5_2 x6_2) else (none)) else (none)) else (none)) = some r := by rw [if_neg (show ¬ (false = true) by decide)] at H; exact H
                          clear H
                          have H := H1
                          clear H1
                          by_cases c14 : 0 ≤ x6_2
                          · rw [if_pos c14] at H
                            have c14b0 : decide (0 ≤ x6_2) = true := decide_eq_true c14
                            clear c14
                            (first | rw [c14b0] | (simp only [i64_w, i32_w]; rw [c14b0]) | skip)
                            by_cases c15 : x6_2 < (l0.length : Int)
                            · rw [if_pos c15] at H
                              have c15b0 : decide (x6_2 < (l0.length : Int)) = true := decide_eq_true c15
                              clear c15
                              by_cases c16 : 0 < (l0.length : Int)
                              · rw [if_pos c16] at H
                                have c16b0 : decide (0 < (l0.length : Int)) = true := decide_eq_true c16
                                have c16b1 : decide (0 < l0.length) = true := decide_eq_true (by omega)
                                clear c16
                                have H' := Aside0.mk H
                                clear H
                                have p135 : 0 ≤ (x6_2 : Int) := of_decide_eq_true (by first | (with_reducible assumption) | assumption)
                                have q135 : x6_2 < (l0.length : Int) := of_decide_eq_true (by first | (with_reducible assumption) | assumption)
                                obtain ⟨ad135, A135_0, c135_0, e135, hx135_0, hl135_0, hi135_0⟩ := at_L2 HR0.out x6_2 p135 q135
                                cases e135
                                replace hx135_0 := (HB.out.cell (World.block_lt_of_cell? w _ hx135_0)).trans hx135_0
                                have HR135_0 := Aside0.mk hi135_0
                                have HC135_0 := Aside0.mk hl135_0
                                clear hi135_0 hl135_0
                                replace p135 := eq_true p135
                                replace q135 := eq_true q135
                                have p136 : 0 ≤ (0 : Int) := (by omega)
                                have q136 : 0 < (l0.length : Int) := of_decide_eq_true (by first | (with_reducible assumption) | assumption)
                                obtain ⟨ad136, A136_0, c136_0, e136, hx136_0, hl136_0, hi136_0⟩ := at_L2 HR0.out 0 p136 q136
                                obtain rfl : ad135 = ad136 := (by injection e136)
                                have qi136 : (0 < l0.length) = True := eq_true (by omega)
                                (try rw [show ((0 : Int)).toNat = 0 from rfl] at hx136_0)
                                (try rw [Addr.add_zero'] at hx136_0)
                                replace hx136_0 := (HB.out.cell (World.block_lt_of_cell? w _ hx136_0)).trans hx136_0
                                have HR136_0 := Aside0.mk hi136_0
                                have HC136_0 := Aside0.mk hl136_0
                                clear hi136_0 hl136_0
                                replace p136 := eq_true p136
                                replace q136 := eq_true q136
                                go_wp2
                                repeat (go_quiet (fail); try go_wp2)
                                go_meet
                                case rel => exact ⟨_, ((((rd_L2 l0 x6_2).length : Int) != ((rd_L2 l0 0).length : Int))), (by first | rfl | (simp; done) | (simp [*]; done)), H', ⟨by have := HJ3.out; have := HK2.out; have := HJ7.out; first | omega | exact Nat.le_refl _⟩, ⟨by repeat (first | (with_reducible first | exact HB.out | apply below_alloc | apply pw_below_drewN | apply below_drew1) | exact HB.out)⟩⟩
                              · rw [if_neg c16] at H
                                exact absurd H (by simp)
                            · rw [if_neg c15] at H
                              exact absurd H (by simp)
                          · rw [if_neg c14] at H
                            exact absurd H (by simp)
                      case rest =>
                        clear HC12
                        try clear c1
                        try clear p1
                        try clear q1
                        try clear hx1
                        try clear qi1
                        try clear p2
                        try clear c3
                        try clear c5
                        try clear c5b0
                        try clear c5b1
                        try clear c6
                        try clear c7
                        try clear c7b0
                        try clear c9
                        try clear c9b0
                        try clear c10
                        try clear c10b0
                        try clear c10b1
                        try clear c10b2
                        try clear c11
                        try clear c13
                        try clear p13
                        try clear q13
                        try clear hx13
                        try clear qi13
                        try clear c14
                        try clear c14b0
                        try clear c15
                        try clear c15b0
                        try clear c16
                        try clear c16b0
                        try clear c16b1
                        try clear hx133_0
                        try clear hx134_0
                        try clear hx135_0
                        try clear hx136_0
                        try clear p1
                        try clear p133
                        try clear p134
                        try clear p135
                        try clear p136
                        try clear p2
                        try clear q1
                        try clear q133
                        try clear q134
                        try clear q135
                        try clear q136
                        obtain ⟨kq, x4_11, rfl, HA, HJ11, HB⟩ := hcut
                        cases kq with
                        | zero => exact absurd HA.out (by simp [laws_FnParsedUneven.j3])
                        | succ kj11 =>
                          have H := HA.out
                          clear HA
                          simp only [laws_FnParsedUneven.j3] at H
                          by_cases c17 : 0 ≤ x6_2
                          · rw [if_pos c17] at H
                            have c17b0 : decide (0 ≤ x6_2) = true := decide_eq_true c17
                            clear c17
                            by_cases c18 : x6_2 < (l0.length : Int)
                            · rw [if_pos c18] at H
                              have c18b0 : decide (x6_2 < (l0.length : Int)) = true := decide_eq_true c18
                              clear c18
                              have HC19 := Aside0.mk H
                              clear H
                              have p137 : 0 ≤ (x6_2 : Int) := of_decide_eq_true (by first | (with_reducible assumption) | assumption)
                              have q137 : x6_2 < (l0.length : Int) := of_decide_eq_true (by first | (with_reducible assumption) | assumption)
                              obtain ⟨ad137, A137_0, c137_0, e137, hx137_0, hl137_0, hi137_0⟩ := at_L2 HR0.out x6_2 p137 q137
                              cases e137
                              replace hx137_0 := (HB.out.cell (World.block_lt_of_cell? w _ hx137_0)).trans hx137_0
                              have HR137_0 := Aside0.mk hi137_0
                              have HC137_0 := Aside0.mk hl137_0
                              clear hi137_0 hl137_0
                              replace p137 := eq_true p137
                              replace q137 := eq_true q137
                              go_upto_if 64 with (fail)
                              repeat (go_quiet (fail); go_upto_if 64 with (fail))
                              go_cut [3] (fun v3 wc => ∃ (kq : Nat) (x3_18 : ByteArray), v3 = .string x3_18 ∧ Aside0 (laws_FnParsedUneven.j4 kq l0 x3_18 x4_11 (wrap64 (x5_2 + ((rd_L2 l0 x6_2).length : Int))) x6_2 = some r) ∧ Aside0 (kq ≤ kj11) ∧ Aside0 (Below w.heap.size w wc))
                              case first =>
                                have H := HC19.out
                                clear HC19
                                by_cases c20 : x6_2 > 0
                                · rw [if_pos c20] at H
                                  have c20b0 : decide (0 < x6_2) = true := decide_eq_true c20
                                  clear c20
                                  (first | rw [c20b0] | (simp only [i64_w, i32_w]; rw [c20b0]) | skip)
                                  by_cases c21 : x3_2.size + 1 ≤ 9223372036854775807
                                  · rw [if_pos c21] at H
                                    have c21b0 := eq_true c21
                                    have c21b1 : decide (x3_2.size + 1 ≤ 9223372036854775807) = true := decide_eq_true c21
                                    try have c21b2 : (9223372036854775807 < x3_2.size + 1) = False := eq_false (Nat.not_lt.2 c21)
                                    have H' := Aside0.mk H
                                    clear H
                                    go_wp2
                                    repeat (go_quiet (fail); try go_wp2)
                                    go_meet
                                    case rel => exact ⟨_, (x3_2 ++ (⟨#[44]⟩ : ByteArray)), (by first | rfl | (simp; done) | (simp [*]; done)), H', ⟨by have := HJ3.out; have := HK2.out; have := HJ7.out; have := HJ11.out; first | omega | exact Nat.le_refl _⟩, ⟨by repeat (first | (with_reducible first | exact HB.out | apply below_alloc | apply pw_below_drewN | apply below_drew1) | exact HB.out)⟩⟩
                                  · rw [if_neg c21] at H
                                    exact absurd H (by simp)
                                · rw [if_neg c20] at H
                                  have c20b0 : decide (0 < x6_2) = false := decide_eq_false c20
                                  clear c20
                                  (first | rw [c20b0] | (simp only [i64_w, i32_w]; rw [c20b0]) | skip)
                                  have H' := Aside0.mk H
                                  clear H
                                  go_wp2
                                  repeat (go_quiet (fail); try go_wp2)
                                  go_meet
                                  case rel => exact ⟨_, (x3_2), (by first | rfl | (simp; done) | (simp [*]; done)), H', ⟨by have := HJ3.out; have := HK2.out; have := HJ7.out; have := HJ11.out; first | omega | exact Nat.le_refl _⟩, ⟨by repeat (first | (with_reducible first | exact HB.out | apply below_alloc | apply pw_below_drewN | apply below_drew1) | exact HB.out)⟩⟩
                              case rest =>
                                clear HC19
                                try clear c1
                                try clear p1
                                try clear q1
                                try clear hx1
                                try clear qi1
                                try clear c2
                                try clear p2
                                try clear c3
                                try clear c5
                                try clear c5b0
                                try clear c5b1
                                try clear c6
                                try clear p6
                                try clear c7
                                try clear c7b0
                                try clear c9
                                try clear c9b0
                                try clear c10
                                try clear c10b0
                                try clear c10b1
                                try clear c10b2
                                try clear c11
                                try clear c13
                                try clear p13
                                try clear q13
                                try clear hx13
                                try clear qi13
                                try clear c14
                                try clear c14b0
                                try clear c15
                                try clear c15b0
                                try clear c16
                                try clear c16b0
                                try clear c16b1
                                try clear c17
                                try clear c17b0
                                try clear c18
                                try clear c18b0
                                try clear c20
                                try clear c20b0
                                try clear c21
                                try clear c21b0
                                try clear c21b1
                                try clear c21b2
                                try clear hx133_0
                                try clear hx134_0
                                try clear hx135_0
                                try clear hx136_0
                                try clear hx137_0
                                try clear p1
                                try clear p13
                                try clear p133
                                try clear p134
                                try clear p135
                                try clear p136
                                try clear p137
                                try clear p2
                                try clear q1
                                try clear q13
                                try clear q133
                                try clear q134
                                try clear q135
                                try clear q136
                                try clear q137
                                obtain ⟨kq, x3_18, rfl, HA, HJ18, HB⟩ := hcut
                                cases kq with
                                | zero => exact absurd HA.out (by simp [laws_FnParsedUneven.j4])
                                | succ kj18 =>
                                  have H := HA.out
                                  clear HA
                                  simp only [laws_FnParsedUneven.j4] at H
                                  have H' := Aside0.mk H
                                  clear H
                                  go_wp2
                                  repeat (go_quiet (fail); try go_wp2)
                                  go_loopg [7, 8] kj18 (fun kq v7 v8 w' => ∃ (x7_6 : List ByteArray) (x8_6 : Int), v8 = .int .i64 x8_6 ∧ Aside0 (laws_FnParsedUneven.l1 kq l0 x3_18 x4_11 (wrap64 (x5_2 + ((rd_L2 l0 x6_2).length : Int))) x6_2 x7_6 x8_6 = some r) ∧ Aside0 (kq ≤ kj18) ∧ Aside0 (Kd.R Kd.string 9 w' w.heap.size (fun _ => True) v7 x7_6) ∧ Aside0 (Below w.heap.size w w'))
                                  case atStart => exact ⟨(([] : List ByteArray)), (0), (by first | rfl | (simp; done) | (simp [*]; done)), H', ⟨Nat.le_refl _⟩, ⟨by first | exact Kd.R_nil _ _ _ _ _ | exact Kd.N_nil _ _ _ _ _ | exact Kd.V_nil _ _ _ _ _ | exact Kd.Q_nil _ _ _ _ _ | exact Kd.S_nil _ _ _ _ _⟩, ⟨by repeat (first | (with_reducible first | exact HB.out | apply below_alloc | apply pw_below_drewN | apply below_drew1) | exact HB.out)⟩⟩
                                  case round =>
                                    clear H'
                                    try clear c1
                                    try clear p1
                                    try clear q1
                                    try clear hx1
                                    try clear qi1
                                    try clear c2
                                    try clear p2
                                    try clear c3
                                    try clear c5
                                    try clear c5b0
                                    try clear c5b1
                                    try clear c6
                                    try clear p6
                                    try clear c7
                                    try clear c7b0
                                    try clear c9
                                    try clear c9b0
                                    try clear c10
                                    try clear c10b0
                                    try clear c10b1
                                    try clear c10b2
                                    try clear c11
                                    try clear c13
                                    try clear p13
                                    try clear q13
                                    try clear hx13
                                    try clear qi13
                                    try clear c14
                                    try clear c14b0
                                    try clear c15
                                    try clear c15b0
                                    try clear c16
                                    try clear c16b0
                                    try clear c16b1
                                    try clear c17
                                    try clear c17b0
                                    try clear c18
                                    try clear c18b0
                                    try clear c20
                                    try clear c20b0
                                    try clear c21
                                    try clear c21b0
                                    try clear c21b1
                                    try clear c21b2
                                    try clear hx133_0
                                    try clear hx134_0
                                    try clear hx135_0
                                    try clear hx136_0
                                    try clear hx137_0
                                    try clear p1
                                    try clear p13
                                    try clear p133
                                    try clear p134
                                    try clear p135
                                    try clear p136
                                    try clear p137
                                    try clear p2
                                    try clear p6
                                    try clear q1
                                    try clear q13
                                    try clear q133
                                    try clear q134
                                    try clear q135
                                    try clear q136
                                    try clear q137
                                    obtain ⟨x7_6, x8_6, rfl, HA, HK6, HO_7, HB⟩ := hrel
                                    cases gk with
                                    | zero => exact absurd HA.out (by simp [laws_FnParsedUneven.l1])
                                    | succ k6 =>
                                      have H := HA.out
                                      clear HA
                                      simp only [laws_FnParsedUneven.l1] at H
                                      by_cases c22 : 0 ≤ x6_2
                                      · rw [if_pos c22] at H
                                        have c22b0 : decide (0 ≤ x6_2) = true := decide_eq_true c22
                                        clear c22
                                        by_cases c23 : x6_2 < (l0.length : Int)
                                        · rw [if_pos c23] at H
                                          have c23b0 : decide (x6_2 < (l0.length : Int)) = true := decide_eq_true c23
                                          clear c23
                                          by_cases c24 : x8_6 < ((rd_L2 l0 x6_2).length : Int)
                                          · rw [if_pos c24] at H
                                            have c24b0 : decide (x8_6 < ((rd_L2 l0 x6_2).length : Int)) = true := decide_eq_true c24
                                            clear c24
                                            by_cases c25 : 0 ≤ x8_6
                                            · rw [if_pos c25] at H
                                              have c25b0 : decide (0 ≤ x8_6) = true := decide_eq_true c25
                                              clear c25
                                              replace H := Option.bind_eq_some_iff.mp H
                                              obtain ⟨t141, A260, H⟩ := H
                                              replace H : (if x7_6.length < 8796093022208 then (laws_FnParsedUneven.l1 k6 l0 x3_18 x4_11 (wrap64 (x5_2 + ((rd_L2 l0 x6_2).length : Int))) x6_2 (x7_6 ++ [t141]) (wrap64 (x8_6 + 1))) else (none)) = some r := H
                                              have A26 := Aside0.mk A260
                                              clear A260
                                              by_cases c27 : x7_6.length < 8796093022208
                                              · rw [if_pos c27] at H
                                                have LMc27 := Aside0.mk c27
                                                clear c27
                                                obtain ⟨y142, hy142⟩ : ∃ y_ : List ByteArray, y_ = (x7_6 ++ [t141]) := ⟨_, rfl⟩
                                                replace H : (laws_FnParsedUneven.l1 k6 l0 x3_18 x4_11 (wrap64 (x5_2 + ((rd_L2 l0 x6_2).length : Int))) x6_2 y142 (wrap64 (x8_6 + 1))) = some r := by first | (rw [hy142]; with_reducible exact H) | (have H2_ := (Option.bind_some _ _).symm.trans H; rw [hy142]; with_reducible exact H2_) | (have H2_ := (Option.bind_some _ _).symm.trans H; with_reducible exact H2_) | with_reducible exact H | (rw [hy142]; exact H) | exact H
                                                have Ny142 := Aside0.mk hy142
                                                clear hy142
                                                have H' := Aside0.mk H
                                                clear H
                                                have p138 : 0 ≤ (x6_2 : Int) := of_decide_eq_true (by first | (with_reducible assumption) | assumption)
                                                have q138 : x6_2 < (l0.length : Int) := of_decide_eq_true (by first | (with_reducible assumption) | assumption)
                                                obtain ⟨ad138, A138_0, c138_0, e138, hx138_0, hl138_0, hi138_0⟩ := at_L2 HR0.out x6_2 p138 q138
                                                obtain rfl : ad137 = ad138 := (by injection e138)
                                                replace hx138_0 := (HB.out.cell (World.block_lt_of_cell? w _ hx138_0)).trans hx138_0
                                                have HR138_0 := Aside0.mk hi138_0
                                                have HC138_0 := Aside0.mk hl138_0
                                                clear hi138_0 hl138_0
                                                replace p138 := eq_true p138
                                                replace q138 := eq_true q138
                                                have p139 : 0 ≤ (x6_2 : Int) := of_decide_eq_true (by first | (with_reducible assumption) | assumption)
                                                have q139 : x6_2 < (l0.length : Int) := of_decide_eq_true (by first | (with_reducible assumption) | assumption)
                                                obtain ⟨ad139, A139_0, c139_0, e139, hx139_0, hl139_0, hi139_0⟩ := at_L2 HR0.out x6_2 p139 q139
                                                obtain rfl : ad137 = ad139 := (by injection e139)
                                                replace hx139_0 := (HB.out.cell (World.block_lt_of_cell? w _ hx139_0)).trans hx139_0
                                                have HR139_0 := Aside0.mk hi139_0
                                                have HC139_0 := Aside0.mk hl139_0
                                                clear hi139_0 hl139_0
                                                replace p139 := eq_true p139
                                                replace q139 := eq_true q139
                                                have ea_ := Option.some.inj (hx138_0.symm.trans hx139_0)
                                                injection ea_ with ea_ en_ ec_
                                                subst ea_
                                                subst ec_
                                                clear en_
                                                have p140 : 0 ≤ (x8_6 : Int) := of_decide_eq_true (by first | (with_reducible assumption) | assumption)
                                                have q140 : x8_6 < ((rd_L2 l0 x6_2).length : Int) := of_decide_eq_true (by first | (with_reducible assumption) | assumption)
                                                obtain ⟨ad140, e140, hx140_0⟩ := Kd.at_int HR139_0.out x8_6 p140 q140
                                                cases e140
                                                replace hx140_0 := (HB.out.cell (World.block_lt_of_cell? w _ hx140_0)).trans hx140_0
                                                replace p140 := eq_true p140
                                                replace q140 := eq_true q140
                                                go_wp2_with (first | (go_at_call 17; (with_reducible refine (spec_Decimal.calls k6 (rd (rd_L2 l0 x6_2) x8_6) t141 _ A26.out).mono ?_); rintro e w28 ⟨rfl, hb⟩; have n0_ := Aside0.mk (Kd.R_below (by (with_reducible repeat (first | apply Kd.R_alloc | apply Kd.R_drewN | apply Kd.R_drew)); exact HO_7.out) hb); have n1_ := Aside0.mk (below_step (by repeat (first | (with_reducible first | exact HB.out | apply below_alloc | apply pw_below_drewN | apply below_drew1) | exact HB.out)) hb); clear HO_7; clear HB; have HO_7 := n0_; have HB := n1_; clear n0_ n1_; (try clear hb); (try clear hb2); (try clear hk); (try clear hi)) | ((with_reducible refine gate_builtin (b := .append) (xs := #[.tmp 76, .tmp 85]) rfl ?_); (try (refine gate_guard (by rfl) ?_; dsimp only)); at_builtin; refine Kd.R_append Kd.string (w0 := w) w.heap.size rfl (.tmp 76) (.tmp 85) 32 9 (.string ⟨#[]⟩) 16 rfl Try.underlying32 info9 rfl (by decide) (by omega) u7 x7_6 t141 [.string t141] (fun _ => True) (fun _ => False) rfl rfl ?aP (fun _ hk => hk.elim) ?aF ?aO ?aB ?aS ?aL ?_; (case aP => exact rfl); (case aB => exact (by repeat (first | (with_reducible first | exact HB.out | apply below_alloc | apply pw_below_drewN | apply below_drew1) | exact HB.out))); (case aF => exact (fun _ _ => trivial)); (case aO => exact (by (with_reducible repeat (first | apply Kd.R_alloc | apply Kd.R_drewN | apply Kd.R_drew)); exact HO_7.out)); (case aS => exact (below_size (by repeat (first | (with_reducible first | exact HB.out | apply below_alloc | apply pw_below_drewN | apply below_drew1) | exact HB.out)))); (case aL => have := LMc27.out; omega); intro v143 w29 ho hb hg hat; rw [← Ny142.out] at ho; have n0_ := Aside0.mk (hb); have n1_ := Aside0.mk (ho); clear HB; clear HO_7; have HB := n0_; have HO144 := n1_; clear n0_ n1_; clear ho hb hg hat))
                                                repeat (go_quiet (first | (go_at_call 17; (with_reducible refine (spec_Decimal.calls k6 (rd (rd_L2 l0 x6_2) x8_6) t141 _ A26.out).mono ?_); rintro e w28 ⟨rfl, hb⟩; have n0_ := Aside0.mk (Kd.R_below (by (with_reducible repeat (first | apply Kd.R_alloc | apply Kd.R_drewN | apply Kd.R_drew)); exact HO_7.out) hb); have n1_ := Aside0.mk (below_step (by repeat (first | (with_reducible first | exact HB.out | apply below_alloc | apply pw_below_drewN | apply below_drew1) | exact HB.out)) hb); clear HO_7; clear HB; have HO_7 := n0_; have HB := n1_; clear n0_ n1_; (try clear hb); (try clear hb2); (try clear hk); (try clear hi)) | ((with_reducible refine gate_builtin (b := .append) (xs := #[.tmp 76, .tmp 85]) rfl ?_); (try (refine gate_guard (by rfl) ?_; dsimp only)); at_builtin; refine Kd.R_append Kd.string (w0 := w) w.heap.size rfl (.tmp 76) (.tmp 85) 32 9 (.string ⟨#[]⟩) 16 rfl Try.underlying32 info9 rfl (by decide) (by omega) u7 x7_6 t141 [.string t141] (fun _ => True) (fun _ => False) rfl rfl ?aP (fun _ hk => hk.elim) ?aF ?aO ?aB ?aS ?aL ?_; (case aP => exact rfl); (case aB => exact (by repeat (first | (with_reducible first | exact HB.out | apply below_alloc | apply pw_below_drewN | apply below_drew1) | exact HB.out))); (case aF => exact (fun _ _ => trivial)); (case aO => exact (by (with_reducible repeat (first | apply Kd.R_alloc | apply Kd.R_drewN | apply Kd.R_drew)); exact HO_7.out)); (case aS => exact (below_size (by repeat (first | (with_reducible first | exact HB.out | apply below_alloc | apply pw_below_drewN | apply below_drew1) | exact HB.out)))); (case aL => have := LMc27.out; omega); intro v143 w29 ho hb hg hat; rw [← Ny142.out] at ho; have n0_ := Aside0.mk (hb); have n1_ := Aside0.mk (ho); clear HB; clear HO_7; have HB := n0_; have HO144 := n1_; clear n0_ n1_; clear ho hb hg hat)); try go_wp2_with (first | (go_at_call 17; (with_reducible refine (spec_Decimal.calls k6 (rd (rd_L2 l0 x6_2) x8_6) t141 _ A26.out).mono ?_); rintro e w28 ⟨rfl, hb⟩; have n0_ := Aside0.mk (Kd.R_below (by (with_reducible repeat (first | apply Kd.R_alloc | apply Kd.R_drewN | apply Kd.R_drew)); exact HO_7.out) hb); have n1_ := Aside0.mk (below_step (by repeat (first | (with_reducible first | exact HB.out | apply below_alloc | apply pw_below_drewN | apply below_drew1) | exact HB.out)) hb); clear HO_7; clear HB; have HO_7 := n0_; have HB := n1_; clear n0_ n1_; (try clear hb); (try clear hb2); (try clear hk); (try clear hi)) | ((with_reducible refine gate_builtin (b := .append) (xs := #[.tmp 76, .tmp 85]) rfl ?_); (try (refine gate_guard (by rfl) ?_; dsimp only)); at_builtin; refine Kd.R_append Kd.string (w0 := w) w.heap.size rfl (.tmp 76) (.tmp 85) 32 9 (.string ⟨#[]⟩) 16 rfl Try.underlying32 info9 rfl (by decide) (by omega) u7 x7_6 t141 [.string t141] (fun _ => True) (fun _ => False) rfl rfl ?aP (fun _ hk => hk.elim) ?aF ?aO ?aB ?aS ?aL ?_; (case aP => exact rfl); (case aB => exact (by repeat (first | (with_reducible first | exact HB.out | apply below_alloc | apply pw_below_drewN | apply below_drew1) | exact HB.out))); (case aF => exact (fun _ _ => trivial)); (case aO => exact (by (with_reducible repeat (first | apply Kd.R_alloc | apply Kd.R_drewN | apply Kd.R_drew)); exact HO_7.out)); (case aS => exact (below_size (by repeat (first | (with_reducible first | exact HB.out | apply below_alloc | apply pw_below_drewN | apply below_drew1) | exact HB.out)))); (case aL => have := LMc27.out; omega); intro v143 w29 ho hb hg hat; rw [← Ny142.out] at ho; have n0_ := Aside0.mk (hb); have n1_ := Aside0.mk (ho); clear HB; clear HO_7; have HB := n0_; have HO144 := n1_; clear n0_ n1_; clear ho hb hg hat)))
                                                go_roundg k6
                                                case measure => have := HJ3.out; have := HK2.out; have := HJ7.out; have := HJ11.out; have := HJ18.out; have := HK6.out; omega
                                                case rel => exact ⟨(y142), (wrap64 (x8_6 + 1)), (by first | rfl | (simp; done) | (simp [*]; done)), H', ⟨by have := HJ3.out; have := HK2.out; have := HJ7.out; have := HJ11.out; have := HJ18.out; have := HK6.out; omega⟩, ⟨by (with_reducible repeat (first | apply Kd.R_alloc | apply Kd.R_drewN | apply Kd.R_drew)); exact HO144.out⟩, ⟨by repeat (first | (with_reducible first | exact HB.out | apply below_alloc | apply pw_below_drewN | apply below_drew1) | exact HB.out)⟩⟩
                                              · rw [if_neg c27] at H
                                                exact absurd H (by simp)
                                            · rw [if_neg c25] at H
                                              exact absurd H (by simp)
                                          · rw [if_neg c24] at H
                                            have c24b0 : decide (x8_6 < ((rd_L2 l0 x6_2).length : Int)) = false := decide_eq_false c24
                                            clear c24
                                            obtain ⟨y145, hy145⟩ : ∃ y_ : List Int, y_ = (([(x7_6.length : Int)] : List Int)) := ⟨_, rfl⟩
                                            replace H : ((spec_Literal.f k6 y145 x7_6 (⟨#[44]⟩ : ByteArray)).bind fun t148 => (if x3_18.size + t148.size ≤ 9223372036854775807 then (laws_FnParsedUneven.l0 k6 l0 (x3_18 ++ t148) x4_11 (wrap64 (x5_2 + ((rd_L2 l0 x6_2).length : Int))) (wrap64 (x6_2 + 1))) else (none))) = some r := by first | (rw [hy145]; with_reducible exact H) | (have H2_ := (Option.bind_some _ _).symm.trans H; rw [hy145]; with_reducible exact H2_) | (have H2_ := (Option.bind_some _ _).symm.trans H; with_reducible exact H2_) | with_reducible exact H | (rw [hy145]; exact H) | exact H
                                            have Ny145 := Aside0.mk hy145
                                            clear hy145
                                            replace H := Option.bind_eq_some_iff.mp H
                                            obtain ⟨t148, A300, H⟩ := H
                                            replace H : (if x3_18.size + t148.size ≤ 9223372036854775807 then (laws_FnParsedUneven.l0 k6 l0 (x3_18 ++ t148) x4_11 (wrap64 (x5_2 + ((rd_L2 l0 x6_2).length : Int))) (wrap64 (x6_2 + 1))) else (none)) = some r := H
                                            have A30 := Aside0.mk A300
                                            clear A300
                                            by_cases c31 : x3_18.size + t148.size ≤ 9223372036854775807
                                            · rw [if_pos c31] at H
                                              have c31b0 := eq_true c31
                                              have c31b1 : decide (x3_18.size + t148.size ≤ 9223372036854775807) = true := decide_eq_true c31
                                              try have c31b2 : (9223372036854775807 < x3_18.size + t148.size) = False := eq_false (Nat.not_lt.2 c31)
                                              have H' := Aside0.mk H
                                              clear H
                                              have p138 : 0 ≤ (x6_2 : Int) := of_decide_eq_true (by first | (with_reducible assumption) | assumption)
                                              have q138 : x6_2 < (l0.length : Int) := of_decide_eq_true (by first | (with_reducible assumption) | assumption)
                                              obtain ⟨ad138, A138_0, c138_0, e138, hx138_0, hl138_0, hi138_0⟩ := at_L2 HR0.out x6_2 p138 q138
                                              obtain rfl : ad137 = ad138 := (by injection e138)
                                              replace hx138_0 := (HB.out.cell (World.block_lt_of_cell? w _ hx138_0)).trans hx138_0
                                              have HR138_0 := Aside0.mk hi138_0
                                              have HC138_0 := Aside0.mk hl138_0
                                              clear hi138_0 hl138_0
                                              replace p138 := eq_true p138
                                              replace q138 := eq_true q138
                                              obtain ⟨Ao32, co32, eo32⟩ := Kd.R_slice HO_7.out
                                              subst eo32
                                              go_wp2_with (first | ((with_reducible refine gate_dst (N := 90) rfl ?_); (try (refine gate_guard (by rfl) ?_; dsimp only)); refine Kd.R_lit (Kd.int .i64) _ 3 ?hg (N := 90) ?hd (xs := ([(x7_6.length : Int)] : List Int)) (inner := [.int .i64 (x7_6.length : Int)]) (ok := fun _ => True) (okp := fun _ => True) ?hr ?hp (fun _ hk => hk) trivial (Below.refl _ _) (Nat.le_refl _) (by simp) ?_; (case hd => rfl); (case hg => rfl); (case hr => first | (go_simp; done) | (go_simp; rfl) | (go_simp; simp [IntKind.wrap_u8]; done)); (case hp => exact (Reps.one (show Kd.M (Kd.int .i64) _ _ _ (x7_6.length : Int) [.int .i64 (x7_6.length : Int)] from rfl) (Reps.none _ _))); intro v146 w33 ho34 hb hg_ hnew_; clear hg_ hnew_; (first | rw [← Ny145.out] at ho34 | (simp only [Int.reduceToNat] at ho34; rw [← Ny145.out] at ho34)); have n0_ := Aside0.mk (Kd.R_below (by (with_reducible repeat (first | apply Kd.R_alloc | apply Kd.R_drewN | apply Kd.R_drew)); exact HO_7.out) hb); have n1_ := Aside0.mk (Kd.R_lower ho34 (below_size (by repeat (first | (with_reducible first | exact HB.out | apply below_alloc | apply pw_below_drewN | apply below_drew1) | exact HB.out)))); have n2_ := Aside0.mk (below_step (by repeat (first | (with_reducible first | exact HB.out | apply below_alloc | apply pw_below_drewN | apply below_drew1) | exact HB.out)) hb); clear HO_7; clear HB; have HO_7 := n0_; have HO147 := n1_; have HB := n2_; clear n0_ n1_ n2_; clear hb ho34; obtain ⟨Ao35, co35, eo35⟩ := Kd.R_slice HO147.out; subst eo35) | (go_at_call 15; (with_reducible refine (spec_Literal.calls k6 _ _ y145 _ _ x7_6 (⟨#[44]⟩ : ByteArray) t148 _ ?side1 ?side2 ?side3 ?side4 A30.out).mono ?_); (case side1 => repeat (first | exact (Kd.R_reads' HO147.out).2.2 | (with_reducible refine Kd.C_alloc ?_ _) | (with_reducible refine Kd.C_drewN ?_ _) | (with_reducible refine Kd.C_drew ?_))); (case side2 => exact (Kd.R_reads' HO147.out).2.1); (case side3 => repeat (first | exact (Kd.R_reads' HO_7.out).2.2 | (with_reducible refine Kd.C_alloc ?_ _) | (with_reducible refine Kd.C_drewN ?_ _) | (with_reducible refine Kd.C_drew ?_))); (case side4 => exact (Kd.R_reads' HO_7.out).2.1); rintro e w36 ⟨rfl, hb⟩; have n0_ := Aside0.mk (Kd.R_below (by (with_reducible repeat (first | apply Kd.R_alloc | apply Kd.R_drewN | apply Kd.R_drew)); exact HO_7.out) hb); have n1_ := Aside0.mk (Kd.R_below (by (with_reducible repeat (first | apply Kd.R_alloc | apply Kd.R_drewN | apply Kd.R_drew)); exact HO147.out) hb); have n2_ := Aside0.mk (below_step (by repeat (first | (with_reducible first | exact HB.out | apply below_alloc | apply pw_below_drewN | apply below_drew1) | exact HB.out)) hb); clear HO_7; clear HO147; clear HB; have HO_7 := n0_; have HO147 := n1_; have HB := n2_; clear n0_ n1_ n2_; (try clear hb); (try clear hb2); (try clear hk); (try clear hi)))
                                              repeat (go_quiet (first | ((with_reducible refine gate_dst (N := 90) rfl ?_); (try (refine gate_guard (by rfl) ?_; dsimp only)); refine Kd.R_lit (Kd.int .i64) _ 3 ?hg (N := 90) ?hd (xs := ([(x7_6.length : Int)] : List Int)) (inner := [.int .i64 (x7_6.length : Int)]) (ok := fun _ => True) (okp := fun _ => True) ?hr ?hp (fun _ hk => hk) trivial (Below.refl _ _) (Nat.le_refl _) (by simp) ?_; (case hd => rfl); (case hg => rfl); (case hr => first | (go_simp; done) | (go_simp; rfl) | (go_simp; simp [IntKind.wrap_u8]; done)); (case hp => exact (Reps.one (show Kd.M (Kd.int .i64) _ _ _ (x7_6.length : Int) [.int .i64 (x7_6.length : Int)] from rfl) (Reps.none _ _))); intro v146 w33 ho34 hb hg_ hnew_; clear hg_ hnew_; (first | rw [← Ny145.out] at ho34 | (simp only [Int.reduceToNat] at ho34; rw [← Ny145.out] at ho34)); have n0_ := Aside0.mk (Kd.R_below (by (with_reducible repeat (first | apply Kd.R_alloc | apply Kd.R_drewN | apply Kd.R_drew)); exact HO_7.out) hb); have n1_ := Aside0.mk (Kd.R_lower ho34 (below_size (by repeat (first | (with_reducible first | exact HB.out | apply below_alloc | apply pw_below_drewN | apply below_drew1) | exact HB.out)))); have n2_ := Aside0.mk (below_step (by repeat (first | (with_reducible first | exact HB.out | apply below_alloc | apply pw_below_drewN | apply below_drew1) | exact HB.out)) hb); clear HO_7; clear HB; have HO_7 := n0_; have HO147 := n1_; have HB := n2_; clear n0_ n1_ n2_; clear hb ho34; obtain ⟨Ao35, co35, eo35⟩ := Kd.R_slice HO147.out; subst eo35) | (go_at_call 15; (with_reducible refine (spec_Literal.calls k6 _ _ y145 _ _ x7_6 (⟨#[44]⟩ : ByteArray) t148 _ ?side1 ?side2 ?side3 ?side4 A30.out).mono ?_); (case side1 => repeat (first | exact (Kd.R_reads' HO147.out).2.2 | (with_reducible refine Kd.C_alloc ?_ _) | (with_reducible refine Kd.C_drewN ?_ _) | (with_reducible refine Kd.C_drew ?_))); (case side2 => exact (Kd.R_reads' HO147.out).2.1); (case side3 => repeat (first | exact (Kd.R_reads' HO_7.out).2.2 | (with_reducible refine Kd.C_alloc ?_ _) | (with_reducible refine Kd.C_drewN ?_ _) | (with_reducible refine Kd.C_drew ?_))); (case side4 => exact (Kd.R_reads' HO_7.out).2.1); rintro e w36 ⟨rfl, hb⟩; have n0_ := Aside0.mk (Kd.R_below (by (with_reducible repeat (first | apply Kd.R_alloc | apply Kd.R_drewN | apply Kd.R_drew)); exact HO_7.out) hb); have n1_ := Aside0.mk (Kd.R_below (by (with_reducible repeat (first | apply Kd.R_alloc | apply Kd.R_drewN | apply Kd.R_drew)); exact HO147.out) hb); have n2_ := Aside0.mk (below_step (by repeat (first | (with_reducible first | exact HB.out | apply below_alloc | apply pw_below_drewN | apply below_drew1) | exact HB.out)) hb); clear HO_7; clear HO147; clear HB; have HO_7 := n0_; have HO147 := n1_; have HB := n2_; clear n0_ n1_ n2_; (try clear hb); (try clear hb2); (try clear hk); (try clear hi))); try go_wp2_with (first | ((with_reducible refine gate_dst (N := 90) rfl ?_); (try (refine gate_guard (by rfl) ?_; dsimp only)); refine Kd.R_lit (Kd.int .i64) _ 3 ?hg (N := 90) ?hd (xs := ([(x7_6.length : Int)] : List Int)) (inner := [.int .i64 (x7_6.length : Int)]) (ok := fun _ => True) (okp := fun _ => True) ?hr ?hp (fun _ hk => hk) trivial (Below.refl _ _) (Nat.le_refl _) (by simp) ?_; (case hd => rfl); (case hg => rfl); (case hr => first | (go_simp; done) | (go_simp; rfl) | (go_simp; simp [IntKind.wrap_u8]; done)); (case hp => exact (Reps.one (show Kd.M (Kd.int .i64) _ _ _ (x7_6.length : Int) [.int .i64 (x7_6.length : Int)] from rfl) (Reps.none _ _))); intro v146 w33 ho34 hb hg_ hnew_; clear hg_ hnew_; (first | rw [← Ny145.out] at ho34 | (simp only [Int.reduceToNat] at ho34; rw [← Ny145.out] at ho34)); have n0_ := Aside0.mk (Kd.R_below (by (with_reducible repeat (first | apply Kd.R_alloc | apply Kd.R_drewN | apply Kd.R_drew)); exact HO_7.out) hb); have n1_ := Aside0.mk (Kd.R_lower ho34 (below_size (by repeat (first | (with_reducible first | exact HB.out | apply below_alloc | apply pw_below_drewN | apply below_drew1) | exact HB.out)))); have n2_ := Aside0.mk (below_step (by repeat (first | (with_reducible first | exact HB.out | apply below_alloc | apply pw_below_drewN | apply below_drew1) | exact HB.out)) hb); clear HO_7; clear HB; have HO_7 := n0_; have HO147 := n1_; have HB := n2_; clear n0_ n1_ n2_; clear hb ho34; obtain ⟨Ao35, co35, eo35⟩ := Kd.R_slice HO147.out; subst eo35) | (go_at_call 15; (with_reducible refine (spec_Literal.calls k6 _ _ y145 _ _ x7_6 (⟨#[44]⟩ : ByteArray) t148 _ ?side1 ?side2 ?side3 ?side4 A30.out).mono ?_); (case side1 => repeat (first | exact (Kd.R_reads' HO147.out).2.2 | (with_reducible refine Kd.C_alloc ?_ _) | (with_reducible refine Kd.C_drewN ?_ _) | (with_reducible refine Kd.C_drew ?_))); (case side2 => exact (Kd.R_reads' HO147.out).2.1); (case side3 => repeat (first | exact (Kd.R_reads' HO_7.out).2.2 | (with_reducible refine Kd.C_alloc ?_ _) | (with_reducible refine Kd.C_drewN ?_ _) | (with_reducible refine Kd.C_drew ?_))); (case side4 => exact (Kd.R_reads' HO_7.out).2.1); rintro e w36 ⟨rfl, hb⟩; have n0_ := Aside0.mk (Kd.R_below (by (with_reducible repeat (first | apply Kd.R_alloc | apply Kd.R_drewN | apply Kd.R_drew)); exact HO_7.out) hb); have n1_ := Aside0.mk (Kd.R_below (by (with_reducible repeat (first | apply Kd.R_alloc | apply Kd.R_drewN | apply Kd.R_drew)); exact HO147.out) hb); have n2_ := Aside0.mk (below_step (by repeat (first | (with_reducible first | exact HB.out | apply below_alloc | apply pw_below_drewN | apply below_drew1) | exact HB.out)) hb); clear HO_7; clear HO147; clear HB; have HO_7 := n0_; have HO147 := n1_; have HB := n2_; clear n0_ n1_ n2_; (try clear hb); (try clear hb2); (try clear hk); (try clear hi))))
                                              go_roundg k6
                                              case measure => have := HJ3.out; have := HK2.out; have := HJ7.out; have := HJ11.out; have := HJ18.out; have := HK6.out; omega
                                              case rel => exact ⟨(x3_18 ++ t148), (x4_11), ((wrap64 (x5_2 + ((rd_L2 l0 x6_2).length : Int)))), (wrap64 (x6_2 + 1)), (by first | rfl | (simp; done) | (simp [*]; done)), (by first | rfl | (simp; done) | (simp [*]; done)), (by first | rfl | (simp; done) | (simp [*]; done)), (by first | rfl | (simp; done) | (simp [*]; done)), H', ⟨by have := HJ3.out; have := HK2.out; have := HJ7.out; have := HJ11.out; have := HJ18.out; have := HK6.out; omega⟩, ⟨by repeat (first | (with_reducible first | exact HB.out | apply below_alloc | apply pw_below_drewN | apply below_drew1) | exact HB.out)⟩⟩
                                            · rw [if_neg c31] at H
                                              exact absurd H (by simp)
                                        · rw [if_neg c23] at H
                                          exact absurd H (by simp)
                                      · rw [if_neg c22] at H
                                        exact absurd H (by simp)
                            · rw [if_neg c18] at H
                              exact absurd H (by simp)
                          · rw [if_neg c17] at H
                            exact absurd H (by simp)
              · rw [if_neg c7] at H
                have c7b0 : decide (x6_2 < (l0.length : Int)) = false := decide_eq_false c7
                clear c7
                have HC37 := Aside0.mk H
                clear H
                go_upto_region 21 with (fail)
                repeat (go_quiet (fail); go_upto_region 21 with (fail))
                go_cut [101] (fun v101 wc => ∃ (kq : Nat) (x101_36 : Bool), v101 = .bool x101_36 ∧ Aside0 (laws_FnParsedUneven.j6 kq l0 x3_2 x4_2 x101_36 = some r) ∧ Aside0 (kq ≤ k2) ∧ Aside0 (Below w.heap.size w wc))
                case first =>
                  have H := HC37.out
                  clear HC37
                  by_cases c38 : x4_2 = true
                  · subst c38
                    have H1 : (if (l0.length : Int) = 0 then (none) else (laws_FnParsedUneven.j6 k2 l0 x3_2 true ((Int.tmod x5_2 (l0.length : Int)) == 0))) = some r := by rw [if_pos rfl] at H; exact H
                    clear H
                    have H := H1
                    clear H1
                    by_cases c39 : (l0.length : Int) = 0
                    · rw [if_pos c39] at H
                      exact absurd H (by simp)
                    · rw [if_neg c39] at H
                      have c39b0 : ((l0.length : Int) == 0) = false := beq_eq_false_iff_ne.mpr c39
                      have c39b1 : ((l0.length : Int) != 0) = true := bne_iff_ne.mpr c39
                      have c39b2 : ¬ (l0 = []) := fun h_ => c39 (by rw [h_]; rfl)
                      (first | rw [c39b0] | (simp only [i64_w, i32_w]; rw [c39b0]) | skip)
                      have H' := Aside0.mk H
                      clear H
                      go_wp2
                      repeat (go_quiet (fail); try go_wp2)
                      go_meet
                      case rel => exact ⟨_, (((Int.tmod x5_2 (l0.length : Int)) == 0)), (by first | rfl | (simp; done) | (simp [*]; done)), H', ⟨by have := HJ3.out; have := HK2.out; first | omega | exact Nat.le_refl _⟩, ⟨by repeat (first | (with_reducible first | exact HB.out | apply below_alloc | apply pw_below_drewN | apply below_drew1) | exact HB.out)⟩⟩
                  · replace c38 := Bool.eq_false_iff.mpr c38
                    subst c38
                    have H1 : (laws_FnParsedUneven.j6 k2 l0 x3_2 false false) = some r := by rw [if_neg (show ¬ (false = true) by decide)] at H; exact H
                    clear H
                    have H := H1
                    clear H1
                    have H' := Aside0.mk H
                    clear H
                    go_wp2
                    repeat (go_quiet (fail); try go_wp2)
                    go_meet
                    case rel => exact ⟨_, (false), (by first | rfl | (simp; done) | (simp [*]; done)), H', ⟨by have := HJ3.out; have := HK2.out; first | omega | exact Nat.le_refl _⟩, ⟨by repeat (first | (with_reducible first | exact HB.out | apply below_alloc | apply pw_below_drewN | apply below_drew1) | exact HB.out)⟩⟩
                case rest =>
                  clear HC37
                  try clear c1
                  try clear p1
                  try clear q1
                  try clear hx1
                  try clear qi1
                  try clear c2
                  try clear p2
                  try clear c3
                  try clear c5
                  try clear c5b0
                  try clear c5b1
                  try clear c6
                  try clear p6
                  try clear c7
                  try clear c7b0
                  try clear c9
                  try clear c9b0
                  try clear c10
                  try clear c10b0
                  try clear c10b1
                  try clear c10b2
                  try clear c11
                  try clear c13
                  try clear p13
                  try clear q13
                  try clear hx13
                  try clear qi13
                  try clear c14
                  try clear c14b0
                  try clear p14
                  try clear q14
                  try clear hx14
                  try clear c15
                  try clear c15b0
                  try clear c16
                  try clear c16b0
                  try clear c16b1
                  try clear c17
                  try clear c17b0
                  try clear c18
                  try clear c18b0
                  try clear c20
                  try clear c20b0
                  try clear c21
                  try clear c21b0
                  try clear c21b1
                  try clear c21b2
                  try clear c22
                  try clear c22b0
                  try clear c23
                  try clear c23b0
                  try clear c24
                  try clear c24b0
                  try clear c25
                  try clear c25b0
                  try clear c27
                  try clear c31
                  try clear c31b0
                  try clear c31b1
                  try clear c31b2
                  try clear c38
                  try clear c39
                  try clear c39b0
                  try clear c39b1
                  try clear c39b2
                  try clear hx133_0
                  try clear hx134_0
                  try clear hx135_0
                  try clear hx136_0
                  try clear hx137_0
                  try clear hx138_0
                  try clear hx139_0
                  try clear hx140_0
                  try clear p1
                  try clear p13
                  try clear p133
                  try clear p134
                  try clear p135
                  try clear p136
                  try clear p137
                  try clear p138
                  try clear p139
                  try clear p140
                  try clear p2
                  try clear p6
                  try clear q1
                  try clear q13
                  try clear q133
                  try clear q134
                  try clear q135
                  try clear q136
                  try clear q137
                  try clear q138
                  try clear q139
                  try clear q140
                  obtain ⟨kq, x101_36, rfl, HA, HJ36, HB⟩ := hcut
                  cases kq with
                  | zero => exact absurd HA.out (by simp [laws_FnParsedUneven.j6])
                  | succ kj36 =>
                    have H := HA.out
                    clear HA
                    simp only [laws_FnParsedUneven.j6] at H
                    by_cases c40 : x101_36 = true
                    · subst c40
                      have H1 : (some true) = some r := by rw [if_pos rfl] at H; exact H
                      clear H
                      have H := H1
                      clear H1
                      obtain rfl := Option.some.inj H
                      go_wp2
                      repeat (go_quiet (fail); try go_wp2)
                      go_ret
                      exact ⟨by first | rfl | (simp [errW_none, errW_some] <;> rfl) | (simp [*, errW_none, errW_some] <;> rfl), by repeat (first | (with_reducible first | exact HB.out | apply below_alloc | apply pw_below_drewN | apply below_drew1) | exact HB.out)⟩
                    · replace c40 := Bool.eq_false_iff.mpr c40
                      subst c40
                      have H1 : (if x3_2.size + 1 ≤ 9223372036854775807 then ((impl_Parsed.f (x3_2 ++ (⟨#[125]⟩ : ByteArray)) (⟨#[44]⟩ : ByteArray)).bind fun bt149 => (if x4_2 = true then (if bt149.2.2 = true then (some false) else (if (bt149.1.length : Int) = 0 then (if (bt149.2.1.length : Int) = 0 then ((laws_oneRow.f).bind fun t156 => (some t156)) else (some false)) else (some false))) else (if bt149.2.2 = true then (if 0 < (l0.length : Int) then ((spec_SameInts.f kj36 bt149.1 (([(l0.length : Int), ((rd_L2 l0 0).length : Int)] : List Int))).bind fun t161 => (some t161)) else (none)) else (some false)))) else (none)) = some r := by rw [if_neg (show ¬ (false = true) by decide)] at H; exact H
                      clear H
                      have H := H1
                      clear H1
                      by_cases c41 : x3_2.size + 1 ≤ 9223372036854775807
                      · rw [if_pos c41] at H
                        have c41b0 := eq_true c41
                        have c41b1 : decide (x3_2.size + 1 ≤ 9223372036854775807) = true := decide_eq_true c41
                        try have c41b2 : (9223372036854775807 < x3_2.size + 1) = False := eq_false (Nat.not_lt.2 c41)
                        replace H := Option.bind_eq_some_iff.mp H
                        obtain ⟨⟨t149, t150, t151⟩, A420, H⟩ := H
                        replace H : (if x4_2 = true then (if t151 = true then (some false) else (if (t149.length : Int) = 0 then (if (t150.length : Int) = 0 then ((laws_oneRow.f).bind fun t156 => (some t156)) else (some false)) else (some false))) else (if t151 = true then (if 0 < (l0.length : Int) then ((spec_SameInts.f kj36 t149 (([(l0.length : Int), ((rd_L2 l0 0).length : Int)] : List Int))).bind fun t161 => (some t161)) else (none)) else (some false))) = some r := H
                        have A42 := Aside0.mk A420
                        clear A420
                        by_cases c43 : x4_2 = true
                        · subst c43
                          have H1 : (if t151 = true then (some false) else (if (t149.length : Int) = 0 then (if (t150.length : Int) = 0 then ((laws_oneRow.f).bind fun t156 => (some t156)) else (some false)) else (some false))) = some r := by rw [if_pos rfl] at H; exact H
                          clear H
                          have H := H1
                          clear H1
                          by_cases c44 : t151 = true
                          · subst c44
                            have H1 : (some false) = some r := by rw [if_pos rfl] at H; exact H
                            clear H
                            have H := H1
                            clear H1
                            obtain rfl := Option.some.inj H
                            go_wp2_with (first | (go_at_call 9; (with_reducible refine (impl_Parsed.calls (x3_2 ++ (⟨#[125]⟩ : ByteArray)) (⟨#[44]⟩ : ByteArray) t149 t150 true _ A42.out).mono ?_); rintro e w45 ⟨v152, v154, rfl, ho0, ho1, hb⟩; have n0_ := Aside0.mk (Kd.R_lower ho0 (below_size (by repeat (first | (with_reducible first | exact HB.out | apply below_alloc | apply pw_below_drewN | apply below_drew1) | exact HB.out)))); have n1_ := Aside0.mk (Kd.R_lower ho1 (below_size (by repeat (first | (with_reducible first | exact HB.out | apply below_alloc | apply pw_below_drewN | apply below_drew1) | exact HB.out)))); have n2_ := Aside0.mk (below_step (by repeat (first | (with_reducible first | exact HB.out | apply below_alloc | apply pw_below_drewN | apply below_drew1) | exact HB.out)) hb); clear HB; have HO153 := n0_; have HO155 := n1_; have HB := n2_; clear n0_ n1_ n2_; (try clear hb); (try clear hb2); (try clear hk); (try clear hi); (try clear ho0); (try clear ho1)))
                            repeat (go_quiet (first | (go_at_call 9; (with_reducible refine (impl_Parsed.calls (x3_2 ++ (⟨#[125]⟩ : ByteArray)) (⟨#[44]⟩ : ByteArray) t149 t150 true _ A42.out).mono ?_); rintro e w45 ⟨v152, v154, rfl, ho0, ho1, hb⟩; have n0_ := Aside0.mk (Kd.R_lower ho0 (below_size (by repeat (first | (with_reducible first | exact HB.out | apply below_alloc | apply pw_below_drewN | apply below_drew1) | exact HB.out)))); have n1_ := Aside0.mk (Kd.R_lower ho1 (below_size (by repeat (first | (with_reducible first | exact HB.out | apply below_alloc | apply pw_below_drewN | apply below_drew1) | exact HB.out)))); have n2_ := Aside0.mk (below_step (by repeat (first | (with_reducible first | exact HB.out | apply below_alloc | apply pw_below_drewN | apply below_drew1) | exact HB.out)) hb); clear HB; have HO153 := n0_; have HO155 := n1_; have HB := n2_; clear n0_ n1_ n2_; (try clear hb); (try clear hb2); (try clear hk); (try clear hi); (try clear ho0); (try clear ho1))); try go_wp2_with (first | (go_at_call 9; (with_reducible refine (impl_Parsed.calls (x3_2 ++ (⟨#[125]⟩ : ByteArray)) (⟨#[44]⟩ : ByteArray) t149 t150 true _ A42.out).mono ?_); rintro e w45 ⟨v152, v154, rfl, ho0, ho1, hb⟩; have n0_ := Aside0.mk (Kd.R_lower ho0 (below_size (by repeat (first | (with_reducible first | exact HB.out | apply below_alloc | apply pw_below_drewN | apply below_drew1) | exact HB.out)))); have n1_ := Aside0.mk (Kd.R_lower ho1 (below_size (by repeat (first | (with_reducible first | exact HB.out | apply below_alloc | apply pw_below_drewN | apply below_drew1) | exact HB.out)))); have n2_ := Aside0.mk (below_step (by repeat (first | (with_reducible first | exact HB.out | apply below_alloc | apply pw_below_drewN | apply below_drew1) | exact HB.out)) hb); clear HB; have HO153 := n0_; have HO155 := n1_; have HB := n2_; clear n0_ n1_ n2_; (try clear hb); (try clear hb2); (try clear hk); (try clear hi); (try clear ho0); (try clear ho1))))
                            go_ret
                            exact ⟨by first | rfl | (simp [errW_none, errW_some] <;> rfl) | (simp [*, errW_none, errW_some] <;> rfl), by repeat (first | (with_reducible first | exact HB.out | apply below_alloc | apply pw_below_drewN | apply below_drew1) | exact HB.out)⟩
                          · replace c44 := Bool.eq_false_iff.mpr c44
                            subst c44
                            have H1 : (if (t149.length : Int) = 0 then (if (t150.length : Int) = 0 then ((laws_oneRow.f).bind fun t156 => (some t156)) else (some false)) else (some false)) = some r := by rw [if_neg (show ¬ (false = true) by decide)] at H; exact H
                            clear H
                            have H := H1
                            clear H1
                            by_cases c46 : (t149.length : Int) = 0
                            · rw [if_pos c46] at H
                              have c46b0 : ((t149.length : Int) == 0) = true := beq_iff_eq.mpr c46
                              have c46b1 : ((t149.length : Int) != 0) = false := bne_eq_false_iff_eq.mpr c46
                              clear c46
                              by_cases c47 : (t150.length : Int) = 0
                              · rw [if_pos c47] at H
                                have c47b0 : ((t150.length : Int) == 0) = true := beq_iff_eq.mpr c47
                                have c47b1 : ((t150.length : Int) != 0) = false := bne_eq_false_iff_eq.mpr c47
                                clear c47
                                replace H := Option.bind_eq_some_iff.mp H
                                obtain ⟨t156, A480, H⟩ := H
                                replace H : (some t156) = some r := H
                                have A48 := Aside0.mk A480
                                clear A480
                                obtain rfl := Option.some.inj H
                                go_wp2_with (first | (go_at_call 9; (with_reducible refine (impl_Parsed.calls (x3_2 ++ (⟨#[125]⟩ : ByteArray)) (⟨#[44]⟩ : ByteArray) t149 t150 false _ A42.out).mono ?_); rintro e w49 ⟨v152, v154, rfl, ho0, ho1, hb⟩; have n0_ := Aside0.mk (Kd.R_lower ho0 (below_size (by repeat (first | (with_reducible first | exact HB.out | apply below_alloc | apply pw_below_drewN | apply below_drew1) | exact HB.out)))); have n1_ := Aside0.mk (Kd.R_lower ho1 (below_size (by repeat (first | (with_reducible first | exact HB.out | apply below_alloc | apply pw_below_drewN | apply below_drew1) | exact HB.out)))); have n2_ := Aside0.mk (below_step (by repeat (first | (with_reducible first | exact HB.out | apply below_alloc | apply pw_below_drewN | apply below_drew1) | exact HB.out)) hb); clear HB; have HO153 := n0_; have HO155 := n1_; have HB := n2_; clear n0_ n1_ n2_; (try clear hb); (try clear hb2); (try clear hk); (try clear hi); (try clear ho0); (try clear ho1); obtain ⟨Ao50, co50, eo50⟩ := Kd.R_slice HO153.out; subst eo50; obtain ⟨Ao51, co51, eo51⟩ := Kd.R_slice HO155.out; subst eo51) | (go_at_call 18; (with_reducible refine (laws_oneRow.calls  t156 _ A48.out).mono ?_); rintro e w52 ⟨rfl, hb⟩; have n0_ := Aside0.mk (Kd.R_below (by (with_reducible repeat (first | apply Kd.R_alloc | apply Kd.R_drewN | apply Kd.R_drew)); exact HO153.out) hb); have n1_ := Aside0.mk (Kd.R_below (by (with_reducible repeat (first | apply Kd.R_alloc | apply Kd.R_drewN | apply Kd.R_drew)); exact HO155.out) hb); have n2_ := Aside0.mk (below_step (by repeat (first | (with_reducible first | exact HB.out | apply below_alloc | apply pw_below_drewN | apply below_drew1) | exact HB.out)) hb); clear HO153; clear HO155; clear HB; have HO153 := n0_; have HO155 := n1_; have HB := n2_; clear n0_ n1_ n2_; (try clear hb); (try clear hb2); (try clear hk); (try clear hi)))
                                repeat (go_quiet (first | (go_at_call 9; (with_reducible refine (impl_Parsed.calls (x3_2 ++ (⟨#[125]⟩ : ByteArray)) (⟨#[44]⟩ : ByteArray) t149 t150 false _ A42.out).mono ?_); rintro e w49 ⟨v152, v154, rfl, ho0, ho1, hb⟩; have n0_ := Aside0.mk (Kd.R_lower ho0 (below_size (by repeat (first | (with_reducible first | exact HB.out | apply below_alloc | apply pw_below_drewN | apply below_drew1) | exact HB.out)))); have n1_ := Aside0.mk (Kd.R_lower ho1 (below_size (by repeat (first | (with_reducible first | exact HB.out | apply below_alloc | apply pw_below_drewN | apply below_drew1) | exact HB.out)))); have n2_ := Aside0.mk (below_step (by repeat (first | (with_reducible first | exact HB.out | apply below_alloc | apply pw_below_drewN | apply below_drew1) | exact HB.out)) hb); clear HB; have HO153 := n0_; have HO155 := n1_; have HB := n2_; clear n0_ n1_ n2_; (try clear hb); (try clear hb2); (try clear hk); (try clear hi); (try clear ho0); (try clear ho1); obtain ⟨Ao50, co50, eo50⟩ := Kd.R_slice HO153.out; subst eo50; obtain ⟨Ao51, co51, eo51⟩ := Kd.R_slice HO155.out; subst eo51) | (go_at_call 18; (with_reducible refine (laws_oneRow.calls  t156 _ A48.out).mono ?_); rintro e w52 ⟨rfl, hb⟩; have n0_ := Aside0.mk (Kd.R_below (by (with_reducible repeat (first | apply Kd.R_alloc | apply Kd.R_drewN | apply Kd.R_drew)); exact HO153.out) hb); have n1_ := Aside0.mk (Kd.R_below (by (with_reducible repeat (first | apply Kd.R_alloc | apply Kd.R_drewN | apply Kd.R_drew)); exact HO155.out) hb); have n2_ := Aside0.mk (below_step (by repeat (first | (with_reducible first | exact HB.out | apply below_alloc | apply pw_below_drewN | apply below_drew1) | exact HB.out)) hb); clear HO153; clear HO155; clear HB; have HO153 := n0_; have HO155 := n1_; have HB := n2_; clear n0_ n1_ n2_; (try clear hb); (try clear hb2); (try clear hk); (try clear hi))); try go_wp2_with (first | (go_at_call 9; (with_reducible refine (impl_Parsed.calls (x3_2 ++ (⟨#[125]⟩ : ByteArray)) (⟨#[44]⟩ : ByteArray) t149 t150 false _ A42.out).mono ?_); rintro e w49 ⟨v152, v154, rfl, ho0, ho1, hb⟩; have n0_ := Aside0.mk (Kd.R_lower ho0 (below_size (by repeat (first | (with_reducible first | exact HB.out | apply below_alloc | apply pw_below_drewN | apply below_drew1) | exact HB.out)))); have n1_ := Aside0.mk (Kd.R_lower ho1 (below_size (by repeat (first | (with_reducible first | exact HB.out | apply below_alloc | apply pw_below_drewN | apply below_drew1) | exact HB.out)))); have n2_ := Aside0.mk (below_step (by repeat (first | (with_reducible first | exact HB.out | apply below_alloc | apply pw_below_drewN | apply below_drew1) | exact HB.out)) hb); clear HB; have HO153 := n0_; have HO155 := n1_; have HB := n2_; clear n0_ n1_ n2_; (try clear hb); (try clear hb2); (try clear hk); (try clear hi); (try clear ho0); (try clear ho1); obtain ⟨Ao50, co50, eo50⟩ := Kd.R_slice HO153.out; subst eo50; obtain ⟨Ao51, co51, eo51⟩ := Kd.R_slice HO155.out; subst eo51) | (go_at_call 18; (with_reducible refine (laws_oneRow.calls  t156 _ A48.out).mono ?_); rintro e w52 ⟨rfl, hb⟩; have n0_ := Aside0.mk (Kd.R_below (by (with_reducible repeat (first | apply Kd.R_alloc | apply Kd.R_drewN | apply Kd.R_drew)); exact HO153.out) hb); have n1_ := Aside0.mk (Kd.R_below (by (with_reducible repeat (first | apply Kd.R_alloc | apply Kd.R_drewN | apply Kd.R_drew)); exact HO155.out) hb); have n2_ := Aside0.mk (below_step (by repeat (first | (with_reducible first | exact HB.out | apply below_alloc | apply pw_below_drewN | apply below_drew1) | exact HB.out)) hb); clear HO153; clear HO155; clear HB; have HO153 := n0_; have HO155 := n1_; have HB := n2_; clear n0_ n1_ n2_; (try clear hb); (try clear hb2); (try clear hk); (try clear hi))))
                                go_ret
                                exact ⟨by first | rfl | (simp [errW_none, errW_some] <;> rfl) | (simp [*, errW_none, errW_some] <;> rfl), by repeat (first | (with_reducible first | exact HB.out | apply below_alloc | apply pw_below_drewN | apply below_drew1) | exact HB.out)⟩
                              · rw [if_neg c47] at H
                                have c47b0 : ((t150.length : Int) == 0) = false := beq_eq_false_iff_ne.mpr c47
                                have c47b1 : ((t150.length : Int) != 0) = true := bne_iff_ne.mpr c47
                                have c47b2 : ¬ (t150 = []) := fun h_ => c47 (by rw [h_]; rfl)
                                obtain rfl := Option.some.inj H
                                go_wp2_with (first | (go_at_call 9; (with_reducible refine (impl_Parsed.calls (x3_2 ++ (⟨#[125]⟩ : ByteArray)) (⟨#[44]⟩ : ByteArray) t149 t150 false _ A42.out).mono ?_); rintro e w53 ⟨v152, v154, rfl, ho0, ho1, hb⟩; have n0_ := Aside0.mk (Kd.R_lower ho0 (below_size (by repeat (first | (with_reducible first | exact HB.out | apply below_alloc | apply pw_below_drewN | apply below_drew1) | exact HB.out)))); have n1_ := Aside0.mk (Kd.R_lower ho1 (below_size (by repeat (first | (with_reducible first | exact HB.out | apply below_alloc | apply pw_below_drewN | apply below_drew1) | exact HB.out)))); have n2_ := Aside0.mk (below_step (by repeat (first | (with_reducible first | exact HB.out | apply below_alloc | apply pw_below_drewN | apply below_drew1) | exact HB.out)) hb); clear HB; have HO153 := n0_; have HO155 := n1_; have HB := n2_; clear n0_ n1_ n2_; (try clear hb); (try clear hb2); (try clear hk); (try clear hi); (try clear ho0); (try clear ho1); obtain ⟨Ao54, co54, eo54⟩ := Kd.R_slice HO153.out; subst eo54; obtain ⟨Ao55, co55, eo55⟩ := Kd.R_slice HO155.out; subst eo55))
                                repeat (go_quiet (first | (go_at_call 9; (with_reducible refine (impl_Parsed.calls (x3_2 ++ (⟨#[125]⟩ : ByteArray)) (⟨#[44]⟩ : ByteArray) t149 t150 false _ A42.out).mono ?_); rintro e w53 ⟨v152, v154, rfl, ho0, ho1, hb⟩; have n0_ := Aside0.mk (Kd.R_lower ho0 (below_size (by repeat (first | (with_reducible first | exact HB.out | apply below_alloc | apply pw_below_drewN | apply below_drew1) | exact HB.out)))); have n1_ := Aside0.mk (Kd.R_lower ho1 (below_size (by repeat (first | (with_reducible first | exact HB.out | apply below_alloc | apply pw_below_drewN | apply below_drew1) | exact HB.out)))); have n2_ := Aside0.mk (below_step (by repeat (first | (with_reducible first | exact HB.out | apply below_alloc | apply pw_below_drewN | apply below_drew1) | exact HB.out)) hb); clear HB; have HO153 := n0_; have HO155 := n1_; have HB := n2_; clear n0_ n1_ n2_; (try clear hb); (try clear hb2); (try clear hk); (try clear hi); (try clear ho0); (try clear ho1); obtain ⟨Ao54, co54, eo54⟩ := Kd.R_slice HO153.out; subst eo54; obtain ⟨Ao55, co55, eo55⟩ := Kd.R_slice HO155.out; subst eo55)); try go_wp2_with (first | (go_at_call 9; (with_reducible refine (impl_Parsed.calls (x3_2 ++ (⟨#[125]⟩ : ByteArray)) (⟨#[44]⟩ : ByteArray) t149 t150 false _ A42.out).mono ?_); rintro e w53 ⟨v152, v154, rfl, ho0, ho1, hb⟩; have n0_ := Aside0.mk (Kd.R_lower ho0 (below_size (by repeat (first | (with_reducible first | exact HB.out | apply below_alloc | apply pw_below_drewN | apply below_drew1) | exact HB.out)))); have n1_ := Aside0.mk (Kd.R_lower ho1 (below_size (by repeat (first | (with_reducible first | exact HB.out | apply below_alloc | apply pw_below_drewN | apply below_drew1) | exact HB.out)))); have n2_ := Aside0.mk (below_step (by repeat (first | (with_reducible first | exact HB.out | apply below_alloc | apply pw_below_drewN | apply below_drew1) | exact HB.out)) hb); clear HB; have HO153 := n0_; have HO155 := n1_; have HB := n2_; clear n0_ n1_ n2_; (try clear hb); (try clear hb2); (try clear hk); (try clear hi); (try clear ho0); (try clear ho1); obtain ⟨Ao54, co54, eo54⟩ := Kd.R_slice HO153.out; subst eo54; obtain ⟨Ao55, co55, eo55⟩ := Kd.R_slice HO155.out; subst eo55)))
                                go_ret
                                exact ⟨by first | rfl | (simp [errW_none, errW_some] <;> rfl) | (simp [*, errW_none, errW_some] <;> rfl), by repeat (first | (with_reducible first | exact HB.out | apply below_alloc | apply pw_below_drewN | apply below_drew1) | exact HB.out)⟩
                            · rw [if_neg c46] at H
                              have c46b0 : ((t149.length : Int) == 0) = false := beq_eq_false_iff_ne.mpr c46
                              have c46b1 : ((t149.length : Int) != 0) = true := bne_iff_ne.mpr c46
                              have c46b2 : ¬ (t149 = []) := fun h_ => c46 (by rw [h_]; rfl)
                              obtain rfl := Option.some.inj H
                              go_wp2_with (first | (go_at_call 9; (with_reducible refine (impl_Parsed.calls (x3_2 ++ (⟨#[125]⟩ : ByteArray)) (⟨#[44]⟩ : ByteArray) t149 t150 false _ A42.out).mono ?_); rintro e w56 ⟨v152, v154, rfl, ho0, ho1, hb⟩; have n0_ := Aside0.mk (Kd.R_lower ho0 (below_size (by repeat (first | (with_reducible first | exact HB.out | apply below_alloc | apply pw_below_drewN | apply below_drew1) | exact HB.out)))); have n1_ := Aside0.mk (Kd.R_lower ho1 (below_size (by repeat (first | (with_reducible first | exact HB.out | apply below_alloc | apply pw_below_drewN | apply below_drew1) | exact HB.out)))); have n2_ := Aside0.mk (below_step (by repeat (first | (with_reducible first | exact HB.out | apply below_alloc | apply pw_below_drewN | apply below_drew1) | exact HB.out)) hb); clear HB; have HO153 := n0_; have HO155 := n1_; have HB := n2_; clear n0_ n1_ n2_; (try clear hb); (try clear hb2); (try clear hk); (try clear hi); (try clear ho0); (try clear ho1); obtain ⟨Ao57, co57, eo57⟩ := Kd.R_slice HO153.out; subst eo57))
                              repeat (go_quiet (first | (go_at_call 9; (with_reducible refine (impl_Parsed.calls (x3_2 ++ (⟨#[125]⟩ : ByteArray)) (⟨#[44]⟩ : ByteArray) t149 t150 false _ A42.out).mono ?_); rintro e w56 ⟨v152, v154, rfl, ho0, ho1, hb⟩; have n0_ := Aside0.mk (Kd.R_lower ho0 (below_size (by repeat (first | (with_reducible first | exact HB.out | apply below_alloc | apply pw_below_drewN | apply below_drew1) | exact HB.out)))); have n1_ := Aside0.mk (Kd.R_lower ho1 (below_size (by repeat (first | (with_reducible first | exact HB.out | apply below_alloc | apply pw_below_drewN | apply below_drew1) | exact HB.out)))); have n2_ := Aside0.mk (below_step (by repeat (first | (with_reducible first | exact HB.out | apply below_alloc | apply pw_below_drewN | apply below_drew1) | exact HB.out)) hb); clear HB; have HO153 := n0_; have HO155 := n1_; have HB := n2_; clear n0_ n1_ n2_; (try clear hb); (try clear hb2); (try clear hk); (try clear hi); (try clear ho0); (try clear ho1); obtain ⟨Ao57, co57, eo57⟩ := Kd.R_slice HO153.out; subst eo57)); try go_wp2_with (first | (go_at_call 9; (with_reducible refine (impl_Parsed.calls (x3_2 ++ (⟨#[125]⟩ : ByteArray)) (⟨#[44]⟩ : ByteArray) t149 t150 false _ A42.out).mono ?_); rintro e w56 ⟨v152, v154, rfl, ho0, ho1, hb⟩; have n0_ := Aside0.mk (Kd.R_lower ho0 (below_size (by repeat (first | (with_reducible first | exact HB.out | apply below_alloc | apply pw_below_drewN | apply below_drew1) | exact HB.out)))); have n1_ := Aside0.mk (Kd.R_lower ho1 (below_size (by repeat (first | (with_reducible first | exact HB.out | apply below_alloc | apply pw_below_drewN | apply below_drew1) | exact HB.out)))); have n2_ := Aside0.mk (below_step (by repeat (first | (with_reducible first | exact HB.out | apply below_alloc | apply pw_below_drewN | apply below_drew1) | exact HB.out)) hb); clear HB; have HO153 := n0_; have HO155 := n1_; have HB := n2_; clear n0_ n1_ n2_; (try clear hb); (try clear hb2); (try clear hk); (try clear hi); (try clear ho0); (try clear ho1); obtain ⟨Ao57, co57, eo57⟩ := Kd.R_slice HO153.out; subst eo57)))
                              go_ret
                              exact ⟨by first | rfl | (simp [errW_none, errW_some] <;> rfl) | (simp [*, errW_none, errW_some] <;> rfl), by repeat (first | (with_reducible first | exact HB.out | apply below_alloc | apply pw_below_drewN | apply below_drew1) | exact HB.out)⟩
                        · replace c43 := Bool.eq_false_iff.mpr c43
                          subst c43
                          have H1 : (if t151 = true then (if 0 < (l0.length : Int) then ((spec_SameInts.f kj36 t149 (([(l0.length : Int), ((rd_L2 l0 0).length : Int)] : List Int))).bind fun t161 => (some t161)) else (none)) else (some false)) = some r := by rw [if_neg (show ¬ (false = true) by decide)] at H; exact H
                          clear H
                          have H := H1
                          clear H1
                          by_cases c58 : t151 = true
                          · subst c58
                            have H1 : (if 0 < (l0.length : Int) then ((spec_SameInts.f kj36 t149 (([(l0.length : Int), ((rd_L2 l0 0).length : Int)] : List Int))).bind fun t161 => (some t161)) else (none)) = some r := by rw [if_pos rfl] at H; exact H
                            clear H
                            have H := H1
                            clear H1
                            by_cases c59 : 0 < (l0.length : Int)
                            · rw [if_pos c59] at H
                              have c59b0 : decide (0 < (l0.length : Int)) = true := decide_eq_true c59
                              have c59b1 : decide (0 < l0.length) = true := decide_eq_true (by omega)
                              clear c59
                              obtain ⟨y158, hy158⟩ : ∃ y_ : List Int, y_ = (([(l0.length : Int), ((rd_L2 l0 0).length : Int)] : List Int)) := ⟨_, rfl⟩
                              replace H : ((spec_SameInts.f kj36 t149 y158).bind fun t161 => (some t161)) = some r := by first | (rw [hy158]; with_reducible exact H) | (have H2_ := (Option.bind_some _ _).symm.trans H; rw [hy158]; with_reducible exact H2_) | (have H2_ := (Option.bind_some _ _).symm.trans H; with_reducible exact H2_) | with_reducible exact H | (rw [hy158]; exact H) | exact H
                              have Ny158 := Aside0.mk hy158
                              clear hy158
                              replace H := Option.bind_eq_some_iff.mp H
                              obtain ⟨t161, A600, H⟩ := H
                              replace H : (some t161) = some r := H
                              have A60 := Aside0.mk A600
                              clear A600
                              obtain rfl := Option.some.inj H
                              go_wp2_with (first | (go_at_call 9; (with_reducible refine (impl_Parsed.calls (x3_2 ++ (⟨#[125]⟩ : ByteArray)) (⟨#[44]⟩ : ByteArray) t149 t150 true _ A42.out).mono ?_); rintro e w61 ⟨v152, v154, rfl, ho0, ho1, hb⟩; have n0_ := Aside0.mk (Kd.R_lower ho0 (below_size (by repeat (first | (with_reducible first | exact HB.out | apply below_alloc | apply pw_below_drewN | apply below_drew1) | exact HB.out)))); have n1_ := Aside0.mk (Kd.R_lower ho1 (below_size (by repeat (first | (with_reducible first | exact HB.out | apply below_alloc | apply pw_below_drewN | apply below_drew1) | exact HB.out)))); have n2_ := Aside0.mk (below_step (by repeat (first | (with_reducible first | exact HB.out | apply below_alloc | apply pw_below_drewN | apply below_drew1) | exact HB.out)) hb); clear HB; have HO153 := n0_; have HO155 := n1_; have HB := n2_; clear n0_ n1_ n2_; (try clear hb); (try clear hb2); (try clear hk); (try clear hi); (try clear ho0); (try clear ho1); have p157 : 0 ≤ (0 : Int) := (by omega); have q157 : 0 < (l0.length : Int) := of_decide_eq_true (by first | (with_reducible assumption) | assumption); obtain ⟨ad157, A157_0, c157_0, e157, hx157_0, hl157_0, hi157_0⟩ := at_L2 HR0.out 0 p157 q157; cases e157; have qi157 : (0 < l0.length) = True := eq_true (by omega); (try rw [show ((0 : Int)).toNat = 0 from rfl] at hx157_0); (try rw [Addr.add_zero'] at hx157_0); replace hx157_0 := (HB.out.cell (World.block_lt_of_cell? w _ hx157_0)).trans hx157_0; have HR157_0 := Aside0.mk hi157_0; have HC157_0 := Aside0.mk hl157_0; clear hi157_0 hl157_0; replace p157 := eq_true p157; replace q157 := eq_true q157) | ((with_reducible refine gate_dst (N := 134) rfl ?_); (try (refine gate_guard (by rfl) ?_; dsimp only)); refine Kd.R_lit (Kd.int .i64) _ 3 ?hg (N := 134) ?hd (xs := ([(l0.length : Int), ((rd_L2 l0 0).length : Int)] : List Int)) (inner := [.int .i64 (l0.length : Int), .int .i64 ((rd_L2 l0 0).length : Int)]) (ok := fun _ => True) (okp := fun _ => True) ?hr ?hp (fun _ hk => hk) trivial (Below.refl _ _) (Nat.le_refl _) (by simp) ?_; (case hd => rfl); (case hg => rfl); (case hr => first | (go_simp; done) | (go_simp; rfl) | (go_simp; simp [IntKind.wrap_u8]; done)); (case hp => exact (Reps.one (show Kd.M (Kd.int .i64) _ _ _ (l0.length : Int) [.int .i64 (l0.length : Int)] from rfl) (Reps.one (show Kd.M (Kd.int .i64) _ _ _ ((rd_L2 l0 0).length : Int) [.int .i64 ((rd_L2 l0 0).length : Int)] from rfl) (Reps.none _ _)))); intro v159 w62 ho63 hb hg_ hnew_; clear hg_ hnew_; (first | rw [← Ny158.out] at ho63 | (simp only [Int.reduceToNat] at ho63; rw [← Ny158.out] at ho63)); have n0_ := Aside0.mk (Kd.R_elder' (by (with_reducible repeat (first | apply Kd.R_alloc | apply Kd.R_drewN | apply Kd.R_drew)); exact HO153.out) (Kd.R_base ho63) hb); have n1_ := Aside0.mk (Kd.R_below (by (with_reducible repeat (first | apply Kd.R_alloc | apply Kd.R_drewN | apply Kd.R_drew)); exact HO155.out) hb); have n2_ := Aside0.mk (Kd.R_lower (Kd.R_new' ho63 (Kd.R_lt (by (with_reducible repeat (first | apply Kd.R_alloc | apply Kd.R_drewN | apply Kd.R_drew)); exact HO153.out))) (below_size (by repeat (first | (with_reducible first | exact HB.out | apply below_alloc | apply pw_below_drewN | apply below_drew1) | exact HB.out)))); have n3_ := Aside0.mk (below_step (by repeat (first | (with_reducible first | exact HB.out | apply below_alloc | apply pw_below_drewN | apply below_drew1) | exact HB.out)) hb); clear HO153; clear HO155; clear HB; have HO153 := n0_; have HO155 := n1_; have HO160 := n2_; have HB := n3_; clear n0_ n1_ n2_ n3_; clear hb ho63; obtain ⟨Ao64, co64, eo64⟩ := Kd.R_slice HO153.out; subst eo64; obtain ⟨Ao65, co65, eo65⟩ := Kd.R_slice HO160.out; subst eo65) | (go_at_call 10; (with_reducible refine (spec_SameInts.calls kj36 _ _ t149 _ _ y158 t161 _ ?side1 ?side2 ?side3 ?side4 A60.out).mono ?_); (case side1 => repeat (first | exact (Kd.R_reads' HO153.out).2.2 | (with_reducible refine Kd.C_alloc ?_ _) | (with_reducible refine Kd.C_drewN ?_ _) | (with_reducible refine Kd.C_drew ?_))); (case side2 => exact (Kd.R_reads' HO153.out).2.1); (case side3 => repeat (first | exact (Kd.R_reads' HO160.out).2.2 | (with_reducible refine Kd.C_alloc ?_ _) | (with_reducible refine Kd.C_drewN ?_ _) | (with_reducible refine Kd.C_drew ?_))); (case side4 => exact (Kd.R_reads' HO160.out).2.1); rintro e w' ⟨rfl, ⟨nd, rfl⟩⟩; (try first | exact ⟨rfl, _, World.drewN_drewN _ _ _⟩ | exact ⟨rfl, _, Eq.trans (World.drewN_drewN _ _ _) (congrArg (World.drewN _) (Nat.add_assoc _ _ _))⟩)))
                              repeat (go_quiet (first | (go_at_call 9; (with_reducible refine (impl_Parsed.calls (x3_2 ++ (⟨#[125]⟩ : ByteArray)) (⟨#[44]⟩ : ByteArray) t149 t150 true _ A42.out).mono ?_); rintro e w61 ⟨v152, v154, rfl, ho0, ho1, hb⟩; have n0_ := Aside0.mk (Kd.R_lower ho0 (below_size (by repeat (first | (with_reducible first | exact HB.out | apply below_alloc | apply pw_below_drewN | apply below_drew1) | exact HB.out)))); have n1_ := Aside0.mk (Kd.R_lower ho1 (below_size (by repeat (first | (with_reducible first | exact HB.out | apply below_alloc | apply pw_below_drewN | apply below_drew1) | exact HB.out)))); have n2_ := Aside0.mk (below_step (by repeat (first | (with_reducible first | exact HB.out | apply below_alloc | apply pw_below_drewN | apply below_drew1) | exact HB.out)) hb); clear HB; have HO153 := n0_; have HO155 := n1_; have HB := n2_; clear n0_ n1_ n2_; (try clear hb); (try clear hb2); (try clear hk); (try clear hi); (try clear ho0); (try clear ho1); have p157 : 0 ≤ (0 : Int) := (by omega); have q157 : 0 < (l0.length : Int) := of_decide_eq_true (by first | (with_reducible assumption) | assumption); obtain ⟨ad157, A157_0, c157_0, e157, hx157_0, hl157_0, hi157_0⟩ := at_L2 HR0.out 0 p157 q157; cases e157; have qi157 : (0 < l0.length) = True := eq_true (by omega); (try rw [show ((0 : Int)).toNat = 0 from rfl] at hx157_0); (try rw [Addr.add_zero'] at hx157_0); replace hx157_0 := (HB.out.cell (World.block_lt_of_cell? w _ hx157_0)).trans hx157_0; have HR157_0 := Aside0.mk hi157_0; have HC157_0 := Aside0.mk hl157_0; clear hi157_0 hl157_0; replace p157 := eq_true p157; replace q157 := eq_true q157) | ((with_reducible refine gate_dst (N := 134) rfl ?_); (try (refine gate_guard (by rfl) ?_; dsimp only)); refine Kd.R_lit (Kd.int .i64) _ 3 ?hg (N := 134) ?hd (xs := ([(l0.length : Int), ((rd_L2 l0 0).length : Int)] : List Int)) (inner := [.int .i64 (l0.length : Int), .int .i64 ((rd_L2 l0 0).length : Int)]) (ok := fun _ => True) (okp := fun _ => True) ?hr ?hp (fun _ hk => hk) trivial (Below.refl _ _) (Nat.le_refl _) (by simp) ?_; (case hd => rfl); (case hg => rfl); (case hr => first | (go_simp; done) | (go_simp; rfl) | (go_simp; simp [IntKind.wrap_u8]; done)); (case hp => exact (Reps.one (show Kd.M (Kd.int .i64) _ _ _ (l0.length : Int) [.int .i64 (l0.length : Int)] from rfl) (Reps.one (show Kd.M (Kd.int .i64) _ _ _ ((rd_L2 l0 0).length : Int) [.int .i64 ((rd_L2 l0 0).length : Int)] from rfl) (Reps.none _ _)))); intro v159 w62 ho63 hb hg_ hnew_; clear hg_ hnew_; (first | rw [← Ny158.out] at ho63 | (simp only [Int.reduceToNat] at ho63; rw [← Ny158.out] at ho63)); have n0_ := Aside0.mk (Kd.R_elder' (by (with_reducible repeat (first | apply Kd.R_alloc | apply Kd.R_drewN | apply Kd.R_drew)); exact HO153.out) (Kd.R_base ho63) hb); have n1_ := Aside0.mk (Kd.R_below (by (with_reducible repeat (first | apply Kd.R_alloc | apply Kd.R_drewN | apply Kd.R_drew)); exact HO155.out) hb); have n2_ := Aside0.mk (Kd.R_lower (Kd.R_new' ho63 (Kd.R_lt (by (with_reducible repeat (first | apply Kd.R_alloc | apply Kd.R_drewN | apply Kd.R_drew)); exact HO153.out))) (below_size (by repeat (first | (with_reducible first | exact HB.out | apply below_alloc | apply pw_below_drewN | apply below_drew1) | exact HB.out)))); have n3_ := Aside0.mk (below_step (by repeat (first | (with_reducible first | exact HB.out | apply below_alloc | apply pw_below_drewN | apply below_drew1) | exact HB.out)) hb); clear HO153; clear HO155; clear HB; have HO153 := n0_; have HO155 := n1_; have HO160 := n2_; have HB := n3_; clear n0_ n1_ n2_ n3_; clear hb ho63; obtain ⟨Ao64, co64, eo64⟩ := Kd.R_slice HO153.out; subst eo64; obtain ⟨Ao65, co65, eo65⟩ := Kd.R_slice HO160.out; subst eo65) | (go_at_call 10; (with_reducible refine (spec_SameInts.calls kj36 _ _ t149 _ _ y158 t161 _ ?side1 ?side2 ?side3 ?side4 A60.out).mono ?_); (case side1 => repeat (first | exact (Kd.R_reads' HO153.out).2.2 | (with_reducible refine Kd.C_alloc ?_ _) | (with_reducible refine Kd.C_drewN ?_ _) | (with_reducible refine Kd.C_drew ?_))); (case side2 => exact (Kd.R_reads' HO153.out).2.1); (case side3 => repeat (first | exact (Kd.R_reads' HO160.out).2.2 | (with_reducible refine Kd.C_alloc ?_ _) | (with_reducible refine Kd.C_drewN ?_ _) | (with_reducible refine Kd.C_drew ?_))); (case side4 => exact (Kd.R_reads' HO160.out).2.1); rintro e w' ⟨rfl, ⟨nd, rfl⟩⟩; (try first | exact ⟨rfl, _, World.drewN_drewN _ _ _⟩ | exact ⟨rfl, _, Eq.trans (World.drewN_drewN _ _ _) (congrArg (World.drewN _) (Nat.add_assoc _ _ _))⟩))); try go_wp2_with (first | (go_at_call 9; (with_reducible refine (impl_Parsed.calls (x3_2 ++ (⟨#[125]⟩ : ByteArray)) (⟨#[44]⟩ : ByteArray) t149 t150 true _ A42.out).mono ?_); rintro e w61 ⟨v152, v154, rfl, ho0, ho1, hb⟩; have n0_ := Aside0.mk (Kd.R_lower ho0 (below_size (by repeat (first | (with_reducible first | exact HB.out | apply below_alloc | apply pw_below_drewN | apply below_drew1) | exact HB.out)))); have n1_ := Aside0.mk (Kd.R_lower ho1 (below_size (by repeat (first | (with_reducible first | exact HB.out | apply below_alloc | apply pw_below_drewN | apply below_drew1) | exact HB.out)))); have n2_ := Aside0.mk (below_step (by repeat (first | (with_reducible first | exact HB.out | apply below_alloc | apply pw_below_drewN | apply below_drew1) | exact HB.out)) hb); clear HB; have HO153 := n0_; have HO155 := n1_; have HB := n2_; clear n0_ n1_ n2_; (try clear hb); (try clear hb2); (try clear hk); (try clear hi); (try clear ho0); (try clear ho1); have p157 : 0 ≤ (0 : Int) := (by omega); have q157 : 0 < (l0.length : Int) := of_decide_eq_true (by first | (with_reducible assumption) | assumption); obtain ⟨ad157, A157_0, c157_0, e157, hx157_0, hl157_0, hi157_0⟩ := at_L2 HR0.out 0 p157 q157; cases e157; have qi157 : (0 < l0.length) = True := eq_true (by omega); (try rw [show ((0 : Int)).toNat = 0 from rfl] at hx157_0); (try rw [Addr.add_zero'] at hx157_0); replace hx157_0 := (HB.out.cell (World.block_lt_of_cell? w _ hx157_0)).trans hx157_0; have HR157_0 := Aside0.mk hi157_0; have HC157_0 := Aside0.mk hl157_0; clear hi157_0 hl157_0; replace p157 := eq_true p157; replace q157 := eq_true q157) | ((with_reducible refine gate_dst (N := 134) rfl ?_); (try (refine gate_guard (by rfl) ?_; dsimp only)); refine Kd.R_lit (Kd.int .i64) _ 3 ?hg (N := 134) ?hd (xs := ([(l0.length : Int), ((rd_L2 l0 0).length : Int)] : List Int)) (inner := [.int .i64 (l0.length : Int), .int .i64 ((rd_L2 l0 0).length : Int)]) (ok := fun _ => True) (okp := fun _ => True) ?hr ?hp (fun _ hk => hk) trivial (Below.refl _ _) (Nat.le_refl _) (by simp) ?_; (case hd => rfl); (case hg => rfl); (case hr => first | (go_simp; done) | (go_simp; rfl) | (go_simp; simp [IntKind.wrap_u8]; done)); (case hp => exact (Reps.one (show Kd.M (Kd.int .i64) _ _ _ (l0.length : Int) [.int .i64 (l0.length : Int)] from rfl) (Reps.one (show Kd.M (Kd.int .i64) _ _ _ ((rd_L2 l0 0).length : Int) [.int .i64 ((rd_L2 l0 0).length : Int)] from rfl) (Reps.none _ _)))); intro v159 w62 ho63 hb hg_ hnew_; clear hg_ hnew_; (first | rw [← Ny158.out] at ho63 | (simp only [Int.reduceToNat] at ho63; rw [← Ny158.out] at ho63)); have n0_ := Aside0.mk (Kd.R_elder' (by (with_reducible repeat (first | apply Kd.R_alloc | apply Kd.R_drewN | apply Kd.R_drew)); exact HO153.out) (Kd.R_base ho63) hb); have n1_ := Aside0.mk (Kd.R_below (by (with_reducible repeat (first | apply Kd.R_alloc | apply Kd.R_drewN | apply Kd.R_drew)); exact HO155.out) hb); have n2_ := Aside0.mk (Kd.R_lower (Kd.R_new' ho63 (Kd.R_lt (by (with_reducible repeat (first | apply Kd.R_alloc | apply Kd.R_drewN | apply Kd.R_drew)); exact HO153.out))) (below_size (by repeat (first | (with_reducible first | exact HB.out | apply below_alloc | apply pw_below_drewN | apply below_drew1) | exact HB.out)))); have n3_ := Aside0.mk (below_step (by repeat (first | (with_reducible first | exact HB.out | apply below_alloc | apply pw_below_drewN | apply below_drew1) | exact HB.out)) hb); clear HO153; clear HO155; clear HB; have HO153 := n0_; have HO155 := n1_; have HO160 := n2_; have HB := n3_; clear n0_ n1_ n2_ n3_; clear hb ho63; obtain ⟨Ao64, co64, eo64⟩ := Kd.R_slice HO153.out; subst eo64; obtain ⟨Ao65, co65, eo65⟩ := Kd.R_slice HO160.out; subst eo65) | (go_at_call 10; (with_reducible refine (spec_SameInts.calls kj36 _ _ t149 _ _ y158 t161 _ ?side1 ?side2 ?side3 ?side4 A60.out).mono ?_); (case side1 => repeat (first | exact (Kd.R_reads' HO153.out).2.2 | (with_reducible refine Kd.C_alloc ?_ _) | (with_reducible refine Kd.C_drewN ?_ _) | (with_reducible refine Kd.C_drew ?_))); (case side2 => exact (Kd.R_reads' HO153.out).2.1); (case side3 => repeat (first | exact (Kd.R_reads' HO160.out).2.2 | (with_reducible refine Kd.C_alloc ?_ _) | (with_reducible refine Kd.C_drewN ?_ _) | (with_reducible refine Kd.C_drew ?_))); (case side4 => exact (Kd.R_reads' HO160.out).2.1); rintro e w' ⟨rfl, ⟨nd, rfl⟩⟩; (try first | exact ⟨rfl, _, World.drewN_drewN _ _ _⟩ | exact ⟨rfl, _, Eq.trans (World.drewN_drewN _ _ _) (congrArg (World.drewN _) (Nat.add_assoc _ _ _))⟩))))
                              go_ret
                              exact ⟨by first | rfl | (simp [errW_none, errW_some] <;> rfl) | (simp [*, errW_none, errW_some] <;> rfl), by repeat (first | (with_reducible first | exact HB.out | apply below_alloc | apply pw_below_drewN | apply below_drew1) | exact HB.out)⟩
                            · rw [if_neg c59] at H
                              exact absurd H (by simp)
                          · replace c58 := Bool.eq_false_iff.mpr c58
                            subst c58
                            have H1 : (some false) = some r := by rw [if_neg (show ¬ (false = true) by decide)] at H; exact H
                            clear H
                            have H := H1
                            clear H1
                            obtain rfl := Option.some.inj H
                            go_wp2_with (first | (go_at_call 9; (with_reducible refine (impl_Parsed.calls (x3_2 ++ (⟨#[125]⟩ : ByteArray)) (⟨#[44]⟩ : ByteArray) t149 t150 false _ A42.out).mono ?_); rintro e w66 ⟨v152, v154, rfl, ho0, ho1, hb⟩; have n0_ := Aside0.mk (Kd.R_lower ho0 (below_size (by repeat (first | (with_reducible first | exact HB.out | apply below_alloc | apply pw_below_drewN | apply below_drew1) | exact HB.out)))); have n1_ := Aside0.mk (Kd.R_lower ho1 (below_size (by repeat (first | (with_reducible first | exact HB.out | apply below_alloc | apply pw_below_drewN | apply below_drew1) | exact HB.out)))); have n2_ := Aside0.mk (below_step (by repeat (first | (with_reducible first | exact HB.out | apply below_alloc | apply pw_below_drewN | apply below_drew1) | exact HB.out)) hb); clear HB; have HO153 := n0_; have HO155 := n1_; have HB := n2_; clear n0_ n1_ n2_; (try clear hb); (try clear hb2); (try clear hk); (try clear hi); (try clear ho0); (try clear ho1)))
                            repeat (go_quiet (first | (go_at_call 9; (with_reducible refine (impl_Parsed.calls (x3_2 ++ (⟨#[125]⟩ : ByteArray)) (⟨#[44]⟩ : ByteArray) t149 t150 false _ A42.out).mono ?_); rintro e w66 ⟨v152, v154, rfl, ho0, ho1, hb⟩; have n0_ := Aside0.mk (Kd.R_lower ho0 (below_size (by repeat (first | (with_reducible first | exact HB.out | apply below_alloc | apply pw_below_drewN | apply below_drew1) | exact HB.out)))); have n1_ := Aside0.mk (Kd.R_lower ho1 (below_size (by repeat (first | (with_reducible first | exact HB.out | apply below_alloc | apply pw_below_drewN | apply below_drew1) | exact HB.out)))); have n2_ := Aside0.mk (below_step (by repeat (first | (with_reducible first | exact HB.out | apply below_alloc | apply pw_below_drewN | apply below_drew1) | exact HB.out)) hb); clear HB; have HO153 := n0_; have HO155 := n1_; have HB := n2_; clear n0_ n1_ n2_; (try clear hb); (try clear hb2); (try clear hk); (try clear hi); (try clear ho0); (try clear ho1))); try go_wp2_with (first | (go_at_call 9; (with_reducible refine (impl_Parsed.calls (x3_2 ++ (⟨#[125]⟩ : ByteArray)) (⟨#[44]⟩ : ByteArray) t149 t150 false _ A42.out).mono ?_); rintro e w66 ⟨v152, v154, rfl, ho0, ho1, hb⟩; have n0_ := Aside0.mk (Kd.R_lower ho0 (below_size (by repeat (first | (with_reducible first | exact HB.out | apply below_alloc | apply pw_below_drewN | apply below_drew1) | exact HB.out)))); have n1_ := Aside0.mk (Kd.R_lower ho1 (below_size (by repeat (first | (with_reducible first | exact HB.out | apply below_alloc | apply pw_below_drewN | apply below_drew1) | exact HB.out)))); have n2_ := Aside0.mk (below_step (by repeat (first | (with_reducible first | exact HB.out | apply below_alloc | apply pw_below_drewN | apply below_drew1) | exact HB.out)) hb); clear HB; have HO153 := n0_; have HO155 := n1_; have HB := n2_; clear n0_ n1_ n2_; (try clear hb); (try clear hb2); (try clear hk); (try clear hi); (try clear ho0); (try clear ho1))))
                            go_ret
                            exact ⟨by first | rfl | (simp [errW_none, errW_some] <;> rfl) | (simp [*, errW_none, errW_some] <;> rfl), by repeat (first | (with_reducible first | exact HB.out | apply below_alloc | apply pw_below_drewN | apply below_drew1) | exact HB.out)⟩
                      · rw [if_neg c41] at H
                        exact absurd H (by simp)
  · replace c3 := Bool.eq_false_iff.mpr c3
    subst c3
    have H1 : (some true) = some r := by rw [if_neg (show ¬ (false = true) by decide)] at H; exact H
    clear H
    have H := H1
    clear H1
    obtain rfl := Option.some.inj H
    go_enter Try.func5, Try.ntmps5
    go_wp2_with (first | (go_at_call 16; (with_reducible refine (laws_zzFits2.calls k _ _ l0 false _ ?side1 ?side2 A2.out).mono ?_); (case side1 => repeat (first | exact HR0.out | (with_reducible refine Kd.C_alloc ?_ _) | (with_reducible refine Kd.C_drewN ?_ _) | (with_reducible refine Kd.C_drew ?_))); (case side2 => exact HC0.out); rintro e w' ⟨rfl, ⟨nd, rfl⟩⟩; (try first | exact ⟨rfl, _, World.drewN_drewN _ _ _⟩ | exact ⟨rfl, _, Eq.trans (World.drewN_drewN _ _ _) (congrArg (World.drewN _) (Nat.add_assoc _ _ _))⟩)))
    repeat (go_quiet (first | (go_at_call 16; (with_reducible refine (laws_zzFits2.calls k _ _ l0 false _ ?side1 ?side2 A2.out).mono ?_); (case side1 => repeat (first | exact HR0.out | (with_reducible refine Kd.C_alloc ?_ _) | (with_reducible refine Kd.C_drewN ?_ _) | (with_reducible refine Kd.C_drew ?_))); (case side2 => exact HC0.out); rintro e w' ⟨rfl, ⟨nd, rfl⟩⟩; (try first | exact ⟨rfl, _, World.drewN_drewN _ _ _⟩ | exact ⟨rfl, _, Eq.trans (World.drewN_drewN _ _ _) (congrArg (World.drewN _) (Nat.add_assoc _ _ _))⟩))); try go_wp2_with (first | (go_at_call 16; (with_reducible refine (laws_zzFits2.calls k _ _ l0 false _ ?side1 ?side2 A2.out).mono ?_); (case side1 => repeat (first | exact HR0.out | (with_reducible refine Kd.C_alloc ?_ _) | (with_reducible refine Kd.C_drewN ?_ _) | (with_reducible refine Kd.C_drew ?_))); (case side2 => exact HC0.out); rintro e w' ⟨rfl, ⟨nd, rfl⟩⟩; (try first | exact ⟨rfl, _, World.drewN_drewN _ _ _⟩ | exact ⟨rfl, _, Eq.trans (World.drewN_drewN _ _ _) (congrArg (World.drewN _) (Nat.add_assoc _ _ _))⟩))))
    go_ret
    exact ⟨by first | rfl | (simp [errW_none, errW_some] <;> rfl) | (simp [*, errW_none, errW_some] <;> rfl), by repeat (first | (with_reducible first | exact HB.out | apply below_alloc | apply pw_below_drewN | apply below_drew1) | exact HB.out)⟩

end Go.Proofs.Ythcikkjjegfblaa.P
