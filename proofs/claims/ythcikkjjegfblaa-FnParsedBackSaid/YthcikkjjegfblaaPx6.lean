-- Written by the program wip/myprint.py of this session, over the kit's print of the translation. Lean checks it.
import Derived.Test.YthcikkjjegfblaaPx0
import Derived.Test.YthcikkjjegfblaaPx3
import Derived.Test.YthcikkjjegfblaaPx4
import Derived.Test.YthcikkjjegfblaaPx5
namespace Go.Proofs.Ythcikkjjegfblaa.P
open Go.RowKit Go.Proofs.YthcikkjjegfblaaW.PrintWords Go.Proofs.YthcikkjjegfblaaW.PrintLast Go.Proofs.YthcikkjjegfblaaW.PrintMore
attribute [local go_sem] max2_int min2_int max_two min_two max_three min_three max_four min_four   -- for this text's walks alone
set_option linter.unusedVariables false
set_option linter.unusedSimpArgs false

/-! ### laws_FnParsedBack: function 4 -/
mutual
def laws_FnParsedBack.j0 : Nat → List Int → List ByteArray → List Bool → Bool → Option (Bool)
  | 0, _, _, _, _ => none
  | k + 1, x0, x1, x2, x27 => if x27 = true then (some true) else ((spec_Count.f k x0).bind fun bt141 => (if bt141.2 = true then (if (x0.length : Int) > 6 then (laws_FnParsedBack.j1 k x0 x1 x2 bt141.1 true) else (if (x0.length : Int) = 0 then (laws_FnParsedBack.j1 k x0 x1 x2 bt141.1 true) else (if (x1.length : Int) < bt141.1 then (laws_FnParsedBack.j1 k x0 x1 x2 bt141.1 true) else (laws_FnParsedBack.j1 k x0 x1 x2 bt141.1 (decide ((x2.length : Int) < bt141.1)))))) else (laws_FnParsedBack.j1 k x0 x1 x2 bt141.1 true)))
def laws_FnParsedBack.j1 : Nat → List Int → List ByteArray → List Bool → Int → Bool → Option (Bool)
  | 0, _, _, _, _, _ => none
  | k + 1, x0, x1, x2, x7, x56 => if x56 = true then (some true) else (laws_FnParsedBack.l0 k x0 x1 x2 x7 ([] : List ByteArray) ([] : List (S39)) 0)
def laws_FnParsedBack.l0 : Nat → List Int → List ByteArray → List Bool → Int → List ByteArray → List (S39) → Int → Option (Bool)
  | 0, _, _, _, _, _, _, _ => none
  | k + 1, x0, x1, x2, x7, x9, x10, x11 => if x11 < x7 then (if 0 ≤ x11 then (if x11 < (x1.length : Int) then (if ((rdOf ByteArray.empty x1 x11).size : Int) > 200 then (some true) else (if x11 < (x2.length : Int) then (if rdOf false x2 x11 = true then ((some (([(⟨#[78, 85, 76, 76]⟩ : ByteArray)] : List ByteArray) : List ByteArray)).bind fun y145 => (if x9.length + y145.length < 8796093022208 then ((some (([(⟨true, (⟨#[]⟩ : ByteArray), 0, 0, false⟩ : S39)] : List (S39)) : List (S39))).bind fun y151 => (if x10.length + y151.length < 2932031007402 then (laws_FnParsedBack.l0 k x0 x1 x2 x7 (x9 ++ y145) (x10 ++ y151) (wrap64 (x11 + 1))) else (none))) else (none))) else ((spec_Quoted.f k (rdOf ByteArray.empty x1 x11)).bind fun t158 => ((some (([t158] : List ByteArray) : List ByteArray)).bind fun y159 => (if x9.length + y159.length < 8796093022208 then ((some (([(⟨false, rdOf ByteArray.empty x1 x11, 0, 0, false⟩ : S39)] : List (S39)) : List (S39))).bind fun y166 => (if x10.length + y166.length < 2932031007402 then (laws_FnParsedBack.l0 k x0 x1 x2 x7 (x9 ++ y159) (x10 ++ y166) (wrap64 (x11 + 1))) else (none))) else (none))))) else (none))) else (none)) else (none)) else ((spec_Literal.f k x0 x9 (⟨#[44]⟩ : ByteArray)).bind fun t172 => ((impl_Parsed.f t172 (⟨#[44]⟩ : ByteArray)).bind fun bt173 => (if bt173.2.2 = true then ((spec_SameInts.f k bt173.1 x0).bind fun t180 => (if t180 = true then ((spec_SameItems.f bt173.2.1 x10).bind fun t181 => (some t181)) else (some false))) else (some false))))
end
def laws_FnParsedBack.f (k : Nat) (l0 : List Int) (l1 : List ByteArray) (l2 : List Bool) : Option (Bool) := if (l0.length : Int) > 2147483647 then (laws_FnParsedBack.j0 k l0 l1 l2 true) else ((laws_zzFits1.f k l1).bind fun t140 => (if t140 = true then (laws_FnParsedBack.j0 k l0 l1 l2 (decide ((l2.length : Int) > 2147483647))) else (laws_FnParsedBack.j0 k l0 l1 l2 true)))
theorem laws_FnParsedBack.mono_l : ∀ k, (∀ y0 y1 y2 y3, LeO (laws_FnParsedBack.j0 k y0 y1 y2 y3) (laws_FnParsedBack.j0 (k + 1) y0 y1 y2 y3)) ∧ (∀ y0 y1 y2 y3 y4, LeO (laws_FnParsedBack.j1 k y0 y1 y2 y3 y4) (laws_FnParsedBack.j1 (k + 1) y0 y1 y2 y3 y4)) ∧ (∀ y0 y1 y2 y3 y4 y5 y6, LeO (laws_FnParsedBack.l0 k y0 y1 y2 y3 y4 y5 y6) (laws_FnParsedBack.l0 (k + 1) y0 y1 y2 y3 y4 y5 y6))
  | 0 => ⟨fun _ _ _ _ r h => by simp [laws_FnParsedBack.j0] at h, fun _ _ _ _ _ r h => by simp [laws_FnParsedBack.j1] at h, fun _ _ _ _ _ _ _ r h => by simp [laws_FnParsedBack.l0] at h⟩
  | k + 1 => by
    obtain ⟨ih0, ih1, ih2⟩ := laws_FnParsedBack.mono_l k
    refine ⟨?_, ?_, ?_⟩
    · intro y0 y1 y2 y3
      unfold laws_FnParsedBack.j0
      repeat' first
      | (with_reducible exact ih0 _ _ _ _)
      | (with_reducible exact ih1 _ _ _ _ _)
      | (with_reducible exact ih2 _ _ _ _ _ _ _)
      | (with_reducible exact laws_zzFits1.mono _ _)
      | (with_reducible exact spec_Count.mono _ _)
      | (with_reducible exact spec_Literal.mono _ _ _ _)
      | (with_reducible exact spec_Quoted.mono _ _)
      | (with_reducible exact spec_SameInts.mono _ _ _)
      | (with_reducible exact LeO.refl _)
      | (with_reducible exact LeO.none _)
      | (with_reducible refine LeO.ite ?_ ?_)
      | (with_reducible refine LeO.bind ?_ (fun _ => ?_))
      | exact ih0 _ _ _ _
      | exact ih1 _ _ _ _ _
      | exact ih2 _ _ _ _ _ _ _
      | exact laws_zzFits1.mono _ _
      | exact spec_Count.mono _ _
      | exact spec_Literal.mono _ _ _ _
      | exact spec_Quoted.mono _ _
      | exact spec_SameInts.mono _ _ _
      | exact LeO.none _
      | refine LeO.ite ?_ ?_
      | refine LeO.bind ?_ (fun _ => ?_)
    · intro y0 y1 y2 y3 y4
      unfold laws_FnParsedBack.j1
      repeat' first
      | (with_reducible exact ih0 _ _ _ _)
      | (with_reducible exact ih1 _ _ _ _ _)
      | (with_reducible exact ih2 _ _ _ _ _ _ _)
      | (with_reducible exact laws_zzFits1.mono _ _)
      | (with_reducible exact spec_Count.mono _ _)
      | (with_reducible exact spec_Literal.mono _ _ _ _)
      | (with_reducible exact spec_Quoted.mono _ _)
      | (with_reducible exact spec_SameInts.mono _ _ _)
      | (with_reducible exact LeO.refl _)
      | (with_reducible exact LeO.none _)
      | (with_reducible refine LeO.ite ?_ ?_)
      | (with_reducible refine LeO.bind ?_ (fun _ => ?_))
      | exact ih0 _ _ _ _
      | exact ih1 _ _ _ _ _
      | exact ih2 _ _ _ _ _ _ _
      | exact laws_zzFits1.mono _ _
      | exact spec_Count.mono _ _
      | exact spec_Literal.mono _ _ _ _
      | exact spec_Quoted.mono _ _
      | exact spec_SameInts.mono _ _ _
      | exact LeO.none _
      | refine LeO.ite ?_ ?_
      | refine LeO.bind ?_ (fun _ => ?_)
    · intro y0 y1 y2 y3 y4 y5 y6
      unfold laws_FnParsedBack.l0
      repeat' first
      | (with_reducible exact ih0 _ _ _ _)
      | (with_reducible exact ih1 _ _ _ _ _)
      | (with_reducible exact ih2 _ _ _ _ _ _ _)
      | (with_reducible exact laws_zzFits1.mono _ _)
      | (with_reducible exact spec_Count.mono _ _)
      | (with_reducible exact spec_Literal.mono _ _ _ _)
      | (with_reducible exact spec_Quoted.mono _ _)
      | (with_reducible exact spec_SameInts.mono _ _ _)
      | (with_reducible exact LeO.refl _)
      | (with_reducible exact LeO.none _)
      | (with_reducible refine LeO.ite ?_ ?_)
      | (with_reducible refine LeO.bind ?_ (fun _ => ?_))
      | exact ih0 _ _ _ _
      | exact ih1 _ _ _ _ _
      | exact ih2 _ _ _ _ _ _ _
      | exact laws_zzFits1.mono _ _
      | exact spec_Count.mono _ _
      | exact spec_Literal.mono _ _ _ _
      | exact spec_Quoted.mono _ _
      | exact spec_SameInts.mono _ _ _
      | exact LeO.none _
      | refine LeO.ite ?_ ?_
      | refine LeO.bind ?_ (fun _ => ?_)
theorem laws_FnParsedBack.mono : ∀ a0 a1 a2 k, LeO (laws_FnParsedBack.f k a0 a1 a2) (laws_FnParsedBack.f (k + 1) a0 a1 a2) := by
  intro a0 a1 a2 k
  obtain ⟨ih0, ih1, ih2⟩ := laws_FnParsedBack.mono_l k
  unfold laws_FnParsedBack.f
  repeat' first
      | (with_reducible exact ih0 _ _ _ _)
      | (with_reducible exact ih1 _ _ _ _ _)
      | (with_reducible exact ih2 _ _ _ _ _ _ _)
      | (with_reducible exact laws_zzFits1.mono _ _)
      | (with_reducible exact spec_Count.mono _ _)
      | (with_reducible exact spec_Literal.mono _ _ _ _)
      | (with_reducible exact spec_Quoted.mono _ _)
      | (with_reducible exact spec_SameInts.mono _ _ _)
      | (with_reducible exact LeO.refl _)
      | (with_reducible exact LeO.none _)
      | (with_reducible refine LeO.ite ?_ ?_)
      | (with_reducible refine LeO.bind ?_ (fun _ => ?_))
      | exact ih0 _ _ _ _
      | exact ih1 _ _ _ _ _
      | exact ih2 _ _ _ _ _ _ _
      | exact laws_zzFits1.mono _ _
      | exact spec_Count.mono _ _
      | exact spec_Literal.mono _ _ _ _
      | exact spec_Quoted.mono _ _
      | exact spec_SameInts.mono _ _ _
      | exact LeO.none _
      | refine LeO.ite ?_ ?_
      | refine LeO.bind ?_ (fun _ => ?_)
def laws_FnParsedBack.T15 : Bool × List (List Nat × List Nat) := (true, [([], []), ([], []), ([], []), ([1, 2], [1, 2]), ([3], [3]), ([4], [4]), ([5], [5]), ([0, 6, 5], [0, 6]), ([], []), ([], []), ([], []), ([9, 10], [9, 10]), ([11], [11]), ([12], [12]), ([13], [13]), ([8, 14, 7], [8, 14]), ([7, 15, 0, 1, 2, 3, 4, 5, 6, 7], [0, 7]), ([15, 16, 0, 1, 2, 3, 4, 5, 6, 7, 8, 9, 10, 11, 12, 13, 14, 15, 16], [8, 15])])
def laws_FnParsedBack.B15 : List Nat := [0, 0, 0, 6, 14, 30, 62, 127, 0, 0, 0, 1536, 3584, 7680, 15872, 32767, 65535, 131071]
theorem laws_FnParsedBack.tab15 : rtab .any (opsOf Try.f4 15) = laws_FnParsedBack.T15 := by kernel_rfl
theorem laws_FnParsedBack.bits15 : waitsOk laws_FnParsedBack.T15.2 laws_FnParsedBack.B15 = true := by kernel_rfl
set_option maxHeartbeats 8000000 in
set_option maxRecDepth 100000 in
theorem laws_FnParsedBack.calls (k : Nat) (A0 : Option Addr) (c0 : Nat) (l0 : List Int) (A1 : Option Addr) (c1 : Nat) (l1 : List ByteArray) (A2 : Option Addr) (c2 : Nat) (l2 : List Bool) (r : Bool) (w : World) (hr0 : Kd.C (Kd.int .i64) w A0 l0.length l0) (hc0 : l0.length ≤ c0) (hr1 : Kd.C Kd.string w A1 l1.length l1) (hc1 : l1.length ≤ c1) (hr2 : Kd.C Kd.bool w A2 l2.length l2) (hc2 : l2.length ≤ c2) (h : laws_FnParsedBack.f k l0 l1 l2 = some r) :
    Calls Try.prog 4 #[.slice A0 l0.length c0, .slice A1 l1.length c1, .slice A2 l2.length c2] w fun e w' => e = .returned (.bool r) ∧ Below w.heap.size w w' := by
  have hu39 := Try.underlying39
  have HR0 := Aside0.mk hr0
  have HC0 := Aside0.mk hc0
  clear hr0 hc0
  have HR1 := Aside0.mk hr1
  have HC1 := Aside0.mk hc1
  clear hr1 hc1
  have HR2 := Aside0.mk hr2
  have HC2 := Aside0.mk hc2
  clear hr2 hc2
  have HB := Aside0.mk (Below.refl w.heap.size w)
  have H : (if (l0.length : Int) > 2147483647 then (laws_FnParsedBack.j0 k l0 l1 l2 true) else ((laws_zzFits1.f k l1).bind fun t140 => (if t140 = true then (laws_FnParsedBack.j0 k l0 l1 l2 (decide ((l2.length : Int) > 2147483647))) else (laws_FnParsedBack.j0 k l0 l1 l2 true)))) = some r := h
  clear h
  have HC4 := Aside0.mk H
  clear H
  go_enter Try.func4, Try.ntmps4
  go_upto_region 1 with (fail)
  go_cut [27] (fun v27 wc => ∃ (kq : Nat) (x27_3 : Bool), v27 = .bool x27_3 ∧ Aside0 (laws_FnParsedBack.j0 kq l0 l1 l2 x27_3 = some r) ∧ Aside0 (kq ≤ k) ∧ Aside0 (Below w.heap.size w wc))
  case first =>
    have H := HC4.out
    clear HC4
    by_cases c5 : (l0.length : Int) > 2147483647
    · rw [if_pos c5] at H
      have c5b0 : decide (2147483647 < (l0.length : Int)) = true := decide_eq_true c5
      have c5b1 : decide (2147483647 < l0.length) = true := decide_eq_true (by omega)
      clear c5
      (first | rw [c5b0] | (simp only [i64_w, i32_w]; rw [c5b0]) | skip)
      have H' := Aside0.mk H
      clear H
      go_wp2
      go_meet
      case rel => exact ⟨_, (true), (by first | rfl | (simp; done) | (simp [*]; done)), H', ⟨by first | omega | exact Nat.le_refl _⟩, ⟨by repeat (first | (with_reducible first | exact HB.out | apply below_alloc | apply pw_below_drewN | apply below_drew1) | exact HB.out)⟩⟩
    · rw [if_neg c5] at H
      have c5b0 : decide (2147483647 < (l0.length : Int)) = false := decide_eq_false c5
      have c5b1 : decide (2147483647 < l0.length) = false := decide_eq_false (by omega)
      clear c5
      (first | rw [c5b0] | (simp only [i64_w, i32_w]; rw [c5b0]) | skip)
      replace H := Option.bind_eq_some_iff.mp H
      obtain ⟨t140, A60, H⟩ := H
      replace H : (if t140 = true then (laws_FnParsedBack.j0 k l0 l1 l2 (decide ((l2.length : Int) > 2147483647))) else (laws_FnParsedBack.j0 k l0 l1 l2 true)) = some r := H
      have A6 := Aside0.mk A60
      clear A60
      by_cases c7 : t140 = true
      · subst c7
        have H1 : (laws_FnParsedBack.j0 k l0 l1 l2 (decide ((l2.length : Int) > 2147483647))) = some r := by rw [if_pos rfl] at H; exact H
        clear H
        have H := H1
        clear H1
        have H' := Aside0.mk H
        clear H
        go_wp2_with (first | (go_at_call 12; (with_reducible refine (laws_zzFits1.calls k _ _ l1 true _ ?side1 ?side2 A6.out).mono ?_); (case side1 => repeat (first | exact (Kd.C_below HR1.out HB.out) | (with_reducible refine Kd.C_alloc ?_ _) | (with_reducible refine Kd.C_drewN ?_ _) | (with_reducible refine Kd.C_drew ?_))); (case side2 => exact HC1.out); rintro e w' ⟨rfl, ⟨nd, rfl⟩⟩))
        go_meet
        case rel => exact ⟨_, (decide ((l2.length : Int) > 2147483647)), (by first | rfl | (simp; done) | (simp [*]; done)), H', ⟨by first | omega | exact Nat.le_refl _⟩, ⟨by repeat (first | (with_reducible first | exact HB.out | apply below_alloc | apply pw_below_drewN | apply below_drew1) | exact HB.out)⟩⟩
      · replace c7 := Bool.eq_false_iff.mpr c7
        subst c7
        have H1 : (laws_FnParsedBack.j0 k l0 l1 l2 true) = some r := by rw [if_neg (show ¬ (false = true) by decide)] at H; exact H
        clear H
        have H := H1
        clear H1
        have H' := Aside0.mk H
        clear H
        go_wp2_with (first | (go_at_call 12; (with_reducible refine (laws_zzFits1.calls k _ _ l1 false _ ?side1 ?side2 A6.out).mono ?_); (case side1 => repeat (first | exact (Kd.C_below HR1.out HB.out) | (with_reducible refine Kd.C_alloc ?_ _) | (with_reducible refine Kd.C_drewN ?_ _) | (with_reducible refine Kd.C_drew ?_))); (case side2 => exact HC1.out); rintro e w' ⟨rfl, ⟨nd, rfl⟩⟩))
        go_meet
        case rel => exact ⟨_, (true), (by first | rfl | (simp; done) | (simp [*]; done)), H', ⟨by first | omega | exact Nat.le_refl _⟩, ⟨by repeat (first | (with_reducible first | exact HB.out | apply below_alloc | apply pw_below_drewN | apply below_drew1) | exact HB.out)⟩⟩
  case rest =>
    clear HC4
    try clear c1
    try clear c2
    try clear p2
    try clear c4
    try clear c5
    try clear c5b0
    try clear c5b1
    try clear c7
    obtain ⟨kq, x27_3, rfl, HA, HJ3, HB⟩ := hcut
    cases kq with
    | zero => exact absurd HA.out (by simp [laws_FnParsedBack.j0])
    | succ kj3 =>
      have H := HA.out
      clear HA
      simp only [laws_FnParsedBack.j0] at H
      by_cases c8 : x27_3 = true
      · subst c8
        have H1 : (some true) = some r := by rw [if_pos rfl] at H; exact H
        clear H
        have H := H1
        clear H1
        obtain rfl := Option.some.inj H
        go_wp2
        go_ret
        exact ⟨by first | rfl | (simp [errW_none, errW_some] <;> rfl) | (simp [*, errW_none, errW_some] <;> rfl), by repeat (first | (with_reducible first | exact HB.out | apply below_alloc | apply pw_below_drewN | apply below_drew1) | exact HB.out)⟩
      · replace c8 := Bool.eq_false_iff.mpr c8
        subst c8
        have H1 : ((spec_Count.f kj3 l0).bind fun bt141 => (if bt141.2 = true then (if (l0.length : Int) > 6 then (laws_FnParsedBack.j1 kj3 l0 l1 l2 bt141.1 true) else (if (l0.length : Int) = 0 then (laws_FnParsedBack.j1 kj3 l0 l1 l2 bt141.1 true) else (if (l1.length : Int) < bt141.1 then (laws_FnParsedBack.j1 kj3 l0 l1 l2 bt141.1 true) else (laws_FnParsedBack.j1 kj3 l0 l1 l2 bt141.1 (decide ((l2.length : Int) < bt141.1)))))) else (laws_FnParsedBack.j1 kj3 l0 l1 l2 bt141.1 true))) = some r := by rw [if_neg (show ¬ (false = true) by decide)] at H; exact H
        clear H
        have H := H1
        clear H1
        replace H := Option.bind_eq_some_iff.mp H
        obtain ⟨⟨t141, t142⟩, A90, H⟩ := H
        replace H : (if t142 = true then (if (l0.length : Int) > 6 then (laws_FnParsedBack.j1 kj3 l0 l1 l2 t141 true) else (if (l0.length : Int) = 0 then (laws_FnParsedBack.j1 kj3 l0 l1 l2 t141 true) else (if (l1.length : Int) < t141 then (laws_FnParsedBack.j1 kj3 l0 l1 l2 t141 true) else (laws_FnParsedBack.j1 kj3 l0 l1 l2 t141 (decide ((l2.length : Int) < t141)))))) else (laws_FnParsedBack.j1 kj3 l0 l1 l2 t141 true)) = some r := H
        have A9 := Aside0.mk A90
        clear A90
        have HC10 := Aside0.mk H
        clear H
        go_upto_region 4 with (first | ((with_reducible refine gate_callee (f := 13) rfl ?_); refine goesL_ (some 30) rfl rfl Try.func13 (by kernel_rfl) rfl #[.slice A0 l0.length c0] rfl (by (try simp only [List.map_toArray, List.map_cons, List.map_nil]); first | done | rfl | (simp only [List.length_drop, List.length_take]; rfl)) ?_; (with_reducible refine (spec_Count.calls kj3 _ _ l0 t141 t142 _ ?side1 ?side2 A9.out).mono ?_); (case side1 => repeat (first | exact (Kd.C_below HR0.out HB.out) | (with_reducible refine Kd.C_alloc ?_ _) | (with_reducible refine Kd.C_drewN ?_ _) | (with_reducible refine Kd.C_drew ?_))); (case side2 => exact HC0.out); rintro e w' ⟨rfl, ⟨nd, rfl⟩⟩; refine ⟨_, rfl, ?_⟩))
        (try simp only [Act.put, List.setIfInBounds_toArray, List.set_cons_zero, List.set_cons_succ])
        go_cut [56] (fun v56 wc => ∃ (kq : Nat) (x56_9 : Bool), v56 = .bool x56_9 ∧ Aside0 (laws_FnParsedBack.j1 kq l0 l1 l2 t141 x56_9 = some r) ∧ Aside0 (kq ≤ kj3) ∧ Aside0 (Below w.heap.size w wc))
        case first =>
          have H := HC10.out
          clear HC10
          by_cases c11 : t142 = true
          · subst c11
            have H1 : (if (l0.length : Int) > 6 then (laws_FnParsedBack.j1 kj3 l0 l1 l2 t141 true) else (if (l0.length : Int) = 0 then (laws_FnParsedBack.j1 kj3 l0 l1 l2 t141 true) else (if (l1.length : Int) < t141 then (laws_FnParsedBack.j1 kj3 l0 l1 l2 t141 true) else (laws_FnParsedBack.j1 kj3 l0 l1 l2 t141 (decide ((l2.length : Int) < t141)))))) = some r := by rw [if_pos rfl] at H; exact H
            clear H
            have H := H1
            clear H1
            by_cases c12 : (l0.length : Int) > 6
            · rw [if_pos c12] at H
              have c12b0 : decide (6 < (l0.length : Int)) = true := decide_eq_true c12
              have c12b1 : decide (6 < l0.length) = true := decide_eq_true (by omega)
              clear c12
              (first | rw [c12b0] | (simp only [i64_w, i32_w]; rw [c12b0]) | skip)
              have H' := Aside0.mk H
              clear H
              go_wp2
              go_meet
              case rel => exact ⟨_, (true), (by first | rfl | (simp; done) | (simp [*]; done)), H', ⟨by have := HJ3.out; first | omega | exact Nat.le_refl _⟩, ⟨by repeat (first | (with_reducible first | exact HB.out | apply below_alloc | apply pw_below_drewN | apply below_drew1) | exact HB.out)⟩⟩
            · rw [if_neg c12] at H
              have c12b0 : decide (6 < (l0.length : Int)) = false := decide_eq_false c12
              have c12b1 : decide (6 < l0.length) = false := decide_eq_false (by omega)
              clear c12
              (first | rw [c12b0] | (simp only [i64_w, i32_w]; rw [c12b0]) | skip)
              by_cases c13 : (l0.length : Int) = 0
              · rw [if_pos c13] at H
                have c13b0 : ((l0.length : Int) == 0) = true := beq_iff_eq.mpr c13
                have c13b1 : ((l0.length : Int) != 0) = false := bne_eq_false_iff_eq.mpr c13
                clear c13
                have H' := Aside0.mk H
                clear H
                go_wp2
                go_meet
                case rel => exact ⟨_, (true), (by first | rfl | (simp; done) | (simp [*]; done)), H', ⟨by have := HJ3.out; first | omega | exact Nat.le_refl _⟩, ⟨by repeat (first | (with_reducible first | exact HB.out | apply below_alloc | apply pw_below_drewN | apply below_drew1) | exact HB.out)⟩⟩
              · rw [if_neg c13] at H
                have c13b0 : ((l0.length : Int) == 0) = false := beq_eq_false_iff_ne.mpr c13
                have c13b1 : ((l0.length : Int) != 0) = true := bne_iff_ne.mpr c13
                have c13b2 : ¬ (l0 = []) := fun h_ => c13 (by rw [h_]; rfl)
                by_cases c14 : (l1.length : Int) < t141
                · rw [if_pos c14] at H
                  have c14b0 : decide ((l1.length : Int) < t141) = true := decide_eq_true c14
                  clear c14
                  have H' := Aside0.mk H
                  clear H
                  go_wp2
                  go_meet
                  case rel => exact ⟨_, (true), (by first | rfl | (simp; done) | (simp [*]; done)), H', ⟨by have := HJ3.out; first | omega | exact Nat.le_refl _⟩, ⟨by repeat (first | (with_reducible first | exact HB.out | apply below_alloc | apply pw_below_drewN | apply below_drew1) | exact HB.out)⟩⟩
                · rw [if_neg c14] at H
                  have c14b0 : decide ((l1.length : Int) < t141) = false := decide_eq_false c14
                  clear c14
                  have H' := Aside0.mk H
                  clear H
                  go_wp2
                  go_meet
                  case rel => exact ⟨_, (decide ((l2.length : Int) < t141)), (by first | rfl | (simp; done) | (simp [*]; done)), H', ⟨by have := HJ3.out; first | omega | exact Nat.le_refl _⟩, ⟨by repeat (first | (with_reducible first | exact HB.out | apply below_alloc | apply pw_below_drewN | apply below_drew1) | exact HB.out)⟩⟩
          · replace c11 := Bool.eq_false_iff.mpr c11
            subst c11
            have H1 : (laws_FnParsedBack.j1 kj3 l0 l1 l2 t141 true) = some r := by rw [if_neg (show ¬ (false = true) by decide)] at H; exact H
            clear H
            have H := H1
            clear H1
            have H' := Aside0.mk H
            clear H
            go_wp2
            go_meet
            case rel => exact ⟨_, (true), (by first | rfl | (simp; done) | (simp [*]; done)), H', ⟨by have := HJ3.out; first | omega | exact Nat.le_refl _⟩, ⟨by repeat (first | (with_reducible first | exact HB.out | apply below_alloc | apply pw_below_drewN | apply below_drew1) | exact HB.out)⟩⟩
        case rest =>
          clear HC10
          try clear c1
          try clear c2
          try clear p2
          try clear c4
          try clear c5
          try clear c5b0
          try clear c5b1
          try clear c7
          try clear c8
          try clear c11
          try clear c12
          try clear c12b0
          try clear c12b1
          try clear c13
          try clear c13b0
          try clear c13b1
          try clear c13b2
          try clear c14
          try clear c14b0
          try clear p2
          obtain ⟨kq, x56_9, rfl, HA, HJ9, HB⟩ := hcut
          cases kq with
          | zero => exact absurd HA.out (by simp [laws_FnParsedBack.j1])
          | succ kj9 =>
            have H := HA.out
            clear HA
            simp only [laws_FnParsedBack.j1] at H
            by_cases c15 : x56_9 = true
            · subst c15
              have H1 : (some true) = some r := by rw [if_pos rfl] at H; exact H
              clear H
              have H := H1
              clear H1
              obtain rfl := Option.some.inj H
              go_wp2
              go_ret
              exact ⟨by first | rfl | (simp [errW_none, errW_some] <;> rfl) | (simp [*, errW_none, errW_some] <;> rfl), by repeat (first | (with_reducible first | exact HB.out | apply below_alloc | apply pw_below_drewN | apply below_drew1) | exact HB.out)⟩
            · replace c15 := Bool.eq_false_iff.mpr c15
              subst c15
              have H1 : (laws_FnParsedBack.l0 kj9 l0 l1 l2 t141 ([] : List ByteArray) ([] : List (S39)) 0) = some r := by rw [if_neg (show ¬ (false = true) by decide)] at H; exact H
              clear H
              have H := H1
              clear H1
              have H' := Aside0.mk H
              clear H
              go_wp2
              go_loopg [9, 10, 11] kj9 (fun kq v9 v10 v11 w' => ∃ (x9_3 : List ByteArray) (x10_3 : List (S39)) (x11_3 : Int), v11 = .int .i64 x11_3 ∧ Aside0 (laws_FnParsedBack.l0 kq l0 l1 l2 t141 x9_3 x10_3 x11_3 = some r) ∧ Aside0 (kq ≤ kj9) ∧ Aside0 (Kd.R Kd.string 9 w' w.heap.size (fun _ => True) v9 x9_3) ∧ Aside0 (Kd.R k39 39 w' w.heap.size (fun _ => True) v10 x10_3) ∧ Aside0 (Below w.heap.size w w'))
              case atStart => exact ⟨(([] : List ByteArray)), (([] : List (S39))), (0), (by first | rfl | (simp; done) | (simp [*]; done)), H', ⟨Nat.le_refl _⟩, ⟨by first | exact Kd.R_nil _ _ _ _ _ | exact Kd.N_nil _ _ _ _ _ | exact Kd.V_nil _ _ _ _ _ | exact Kd.Q_nil _ _ _ _ _ | exact Kd.S_nil _ _ _ _ _⟩, ⟨by first | exact Kd.R_nil _ _ _ _ _ | exact Kd.N_nil _ _ _ _ _ | exact Kd.V_nil _ _ _ _ _ | exact Kd.Q_nil _ _ _ _ _ | exact Kd.S_nil _ _ _ _ _⟩, ⟨by repeat (first | (with_reducible first | exact HB.out | apply below_alloc | apply pw_below_drewN | apply below_drew1) | exact HB.out)⟩⟩
              case round =>
                clear H'
                try clear c1
                try clear c2
                try clear p2
                try clear c4
                try clear c5
                try clear c5b0
                try clear c5b1
                try clear c7
                try clear c8
                try clear c11
                try clear c12
                try clear c12b0
                try clear c12b1
                try clear c13
                try clear c13b0
                try clear c13b1
                try clear c13b2
                try clear c14
                try clear c14b0
                try clear c15
                try clear p2
                obtain ⟨x9_3, x10_3, x11_3, rfl, HA, HK3, HO_9, HO_10, HB⟩ := hrel
                cases gk with
                | zero => exact absurd HA.out (by simp [laws_FnParsedBack.l0])
                | succ k3 =>
                  have H := HA.out
                  clear HA
                  simp only [laws_FnParsedBack.l0] at H
                  by_cases c16 : x11_3 < t141
                  · rw [if_pos c16] at H
                    have c16b0 : decide (x11_3 < t141) = true := decide_eq_true c16
                    clear c16
                    by_cases c17 : 0 ≤ x11_3
                    · rw [if_pos c17] at H
                      have c17b0 : decide (0 ≤ x11_3) = true := decide_eq_true c17
                      clear c17
                      by_cases c18 : x11_3 < (l1.length : Int)
                      · rw [if_pos c18] at H
                        have c18b0 : decide (x11_3 < (l1.length : Int)) = true := decide_eq_true c18
                        clear c18
                        by_cases c19 : ((rdOf ByteArray.empty l1 x11_3).size : Int) > 200
                        · rw [if_pos c19] at H
                          have c19b0 : decide (200 < ((rdOf ByteArray.empty l1 x11_3).size : Int)) = true := decide_eq_true c19
                          have c19b1 : decide (200 < (rdOf ByteArray.empty l1 x11_3).size) = true := decide_eq_true (by omega)
                          clear c19
                          obtain rfl := Option.some.inj H
                          have p143 : 0 ≤ (x11_3 : Int) := of_decide_eq_true (by first | (with_reducible assumption) | assumption)
                          have q143 : x11_3 < (l1.length : Int) := of_decide_eq_true (by first | (with_reducible assumption) | assumption)
                          obtain ⟨ad143, e143, hx143_0⟩ := Kd.at_string HR1.out x11_3 p143 q143
                          cases e143
                          replace hx143_0 := (HB.out.cell (World.block_lt_of_cell? w _ hx143_0)).trans hx143_0
                          replace p143 := eq_true p143
                          replace q143 := eq_true q143
                          go_wp2
                          go_ret
                          exact ⟨by first | rfl | (simp [errW_none, errW_some] <;> rfl) | (simp [*, errW_none, errW_some] <;> rfl), by repeat (first | (with_reducible first | exact HB.out | apply below_alloc | apply pw_below_drewN | apply below_drew1) | exact HB.out)⟩
                        · rw [if_neg c19] at H
                          have c19b0 : decide (200 < ((rdOf ByteArray.empty l1 x11_3).size : Int)) = false := decide_eq_false c19
                          have c19b1 : decide (200 < (rdOf ByteArray.empty l1 x11_3).size) = false := decide_eq_false (by omega)
                          clear c19
                          by_cases c20 : x11_3 < (l2.length : Int)
                          · rw [if_pos c20] at H
                            have c20b0 : decide (x11_3 < (l2.length : Int)) = true := decide_eq_true c20
                            clear c20
                            obtain ⟨bq21, hbq21⟩ : ∃ b_ : Bool, b_ = (rdOf false l2 x11_3) := ⟨_, rfl⟩
                            replace H : (if bq21 = true then ((some (([(⟨#[78, 85, 76, 76]⟩ : ByteArray)] : List ByteArray) : List ByteArray)).bind fun y145 => (if x9_3.length + y145.length < 8796093022208 then ((some (([(⟨true, (⟨#[]⟩ : ByteArray), 0, 0, false⟩ : S39)] : List (S39)) : List (S39))).bind fun y151 => (if x10_3.length + y151.length < 2932031007402 then (laws_FnParsedBack.l0 k3 l0 l1 l2 t141 (x9_3 ++ y145) (x10_3 ++ y151) (wrap64 (x11_3 + 1))) else (none))) else (none))) else ((spec_Quoted.f k3 (rdOf ByteArray.empty l1 x11_3)).bind fun t158 => ((some (([t158] : List ByteArray) : List ByteArray)).bind fun y159 => (if x9_3.length + y159.length < 8796093022208 then ((some (([(⟨false, rdOf ByteArray.empty l1 x11_3, 0, 0, false⟩ : S39)] : List (S39)) : List (S39))).bind fun y166 => (if x10_3.length + y166.length < 2932031007402 then (laws_FnParsedBack.l0 k3 l0 l1 l2 t141 (x9_3 ++ y159) (x10_3 ++ y166) (wrap64 (x11_3 + 1))) else (none))) else (none))))) = some r := by rw [← hbq21] at H; exact H
                            have Nbq21 := Aside0.mk hbq21
                            clear hbq21
                            by_cases c22 : bq21 = true
                            · subst c22
                              have H1 : ((some (([(⟨#[78, 85, 76, 76]⟩ : ByteArray)] : List ByteArray) : List ByteArray)).bind fun y145 => (if x9_3.length + y145.length < 8796093022208 then ((some (([(⟨true, (⟨#[]⟩ : ByteArray), 0, 0, false⟩ : S39)] : List (S39)) : List (S39))).bind fun y151 => (if x10_3.length + y151.length < 2932031007402 then (laws_FnParsedBack.l0 k3 l0 l1 l2 t141 (x9_3 ++ y145) (x10_3 ++ y151) (wrap64 (x11_3 + 1))) else (none))) else (none))) = some r := by rw [if_pos rfl] at H; exact H
                              clear H
                              have H := H1
                              clear H1
                              obtain ⟨y145, hy145⟩ : ∃ y_ : List ByteArray, y_ = (([(⟨#[78, 85, 76, 76]⟩ : ByteArray)] : List ByteArray)) := ⟨_, rfl⟩
                              replace H : (if x9_3.length + y145.length < 8796093022208 then ((some (([(⟨true, (⟨#[]⟩ : ByteArray), 0, 0, false⟩ : S39)] : List (S39)) : List (S39))).bind fun y151 => (if x10_3.length + y151.length < 2932031007402 then (laws_FnParsedBack.l0 k3 l0 l1 l2 t141 (x9_3 ++ y145) (x10_3 ++ y151) (wrap64 (x11_3 + 1))) else (none))) else (none)) = some r := by first | (rw [hy145]; with_reducible exact H) | (have H2_ := (Option.bind_some _ _).symm.trans H; rw [hy145]; with_reducible exact H2_) | (have H2_ := (Option.bind_some _ _).symm.trans H; with_reducible exact H2_) | with_reducible exact H | (rw [hy145]; exact H) | exact H
                              have Ny145 := Aside0.mk hy145
                              clear hy145
                              by_cases c23 : x9_3.length + y145.length < 8796093022208
                              · rw [if_pos c23] at H
                                have LMc23 := Aside0.mk c23
                                clear c23
                                obtain ⟨y148, hy148⟩ : ∃ y_ : List ByteArray, y_ = (x9_3 ++ y145) := ⟨_, rfl⟩
                                replace H : ((some (([(⟨true, (⟨#[]⟩ : ByteArray), 0, 0, false⟩ : S39)] : List (S39)) : List (S39))).bind fun y151 => (if x10_3.length + y151.length < 2932031007402 then (laws_FnParsedBack.l0 k3 l0 l1 l2 t141 y148 (x10_3 ++ y151) (wrap64 (x11_3 + 1))) else (none))) = some r := by first | (rw [hy148]; with_reducible exact H) | (have H2_ := (Option.bind_some _ _).symm.trans H; rw [hy148]; with_reducible exact H2_) | (have H2_ := (Option.bind_some _ _).symm.trans H; with_reducible exact H2_) | with_reducible exact H | (rw [hy148]; exact H) | exact H
                                have Ny148 := Aside0.mk hy148
                                clear hy148
                                obtain ⟨y151, hy151⟩ : ∃ y_ : List (S39), y_ = (([(⟨true, (⟨#[]⟩ : ByteArray), 0, 0, false⟩ : S39)] : List (S39))) := ⟨_, rfl⟩
                                replace H : (if x10_3.length + y151.length < 2932031007402 then (laws_FnParsedBack.l0 k3 l0 l1 l2 t141 y148 (x10_3 ++ y151) (wrap64 (x11_3 + 1))) else (none)) = some r := by first | (rw [hy151]; with_reducible exact H) | (have H2_ := (Option.bind_some _ _).symm.trans H; rw [hy151]; with_reducible exact H2_) | (have H2_ := (Option.bind_some _ _).symm.trans H; with_reducible exact H2_) | with_reducible exact H | (rw [hy151]; exact H) | exact H
                                have Ny151 := Aside0.mk hy151
                                clear hy151
                                by_cases c24 : x10_3.length + y151.length < 2932031007402
                                · rw [if_pos c24] at H
                                  have LMc24 := Aside0.mk c24
                                  clear c24
                                  obtain ⟨y154, hy154⟩ : ∃ y_ : List (S39), y_ = (x10_3 ++ y151) := ⟨_, rfl⟩
                                  replace H : (laws_FnParsedBack.l0 k3 l0 l1 l2 t141 y148 y154 (wrap64 (x11_3 + 1))) = some r := by first | (rw [hy154]; with_reducible exact H) | (have H2_ := (Option.bind_some _ _).symm.trans H; rw [hy154]; with_reducible exact H2_) | (have H2_ := (Option.bind_some _ _).symm.trans H; with_reducible exact H2_) | with_reducible exact H | (rw [hy154]; exact H) | exact H
                                  have Ny154 := Aside0.mk hy154
                                  clear hy154
                                  have H' := Aside0.mk H
                                  clear H
                                  have p143 : 0 ≤ (x11_3 : Int) := of_decide_eq_true (by first | (with_reducible assumption) | assumption)
                                  have q143 : x11_3 < (l1.length : Int) := of_decide_eq_true (by first | (with_reducible assumption) | assumption)
                                  obtain ⟨ad143, e143, hx143_0⟩ := Kd.at_string HR1.out x11_3 p143 q143
                                  cases e143
                                  replace hx143_0 := (HB.out.cell (World.block_lt_of_cell? w _ hx143_0)).trans hx143_0
                                  replace p143 := eq_true p143
                                  replace q143 := eq_true q143
                                  have p144 : 0 ≤ (x11_3 : Int) := of_decide_eq_true (by first | (with_reducible assumption) | assumption)
                                  have q144 : x11_3 < (l2.length : Int) := of_decide_eq_true (by first | (with_reducible assumption) | assumption)
                                  obtain ⟨ad144, e144, hx144_0⟩ := Kd.at_bool HR2.out x11_3 p144 q144
                                  (try rw [← Nbq21.out] at hx144_0)
                                  cases e144
                                  replace hx144_0 := (HB.out.cell (World.block_lt_of_cell? w _ hx144_0)).trans hx144_0
                                  replace p144 := eq_true p144
                                  replace q144 := eq_true q144
                                  go_wp2_with (first | ((with_reducible refine gate_dst (N := 73) rfl ?_); (try (refine gate_guard (by rfl) ?_; dsimp only)); refine Kd.R_lit Kd.string _ 9 ?hg (N := 73) ?hd (xs := ([(⟨#[78, 85, 76, 76]⟩ : ByteArray)] : List ByteArray)) (inner := [.string (⟨#[78, 85, 76, 76]⟩ : ByteArray)]) (ok := fun _ => True) (okp := fun _ => True) ?hr ?hp (fun _ hk => hk) trivial (Below.refl _ _) (Nat.le_refl _) (by simp) ?_; (case hd => rfl); (case hg => rfl); (case hr => first | (go_simp; done) | (go_simp; rfl) | (go_simp; simp [IntKind.wrap_u8]; done)); (case hp => exact (Reps.one (show Kd.M Kd.string _ _ _ (⟨#[78, 85, 76, 76]⟩ : ByteArray) [.string (⟨#[78, 85, 76, 76]⟩ : ByteArray)] from rfl) (Reps.none _ _))); intro v146 w25 ho26 hb hg_ hnew_; clear hg_ hnew_; (first | rw [← Ny145.out] at ho26 | (simp only [Int.reduceToNat] at ho26; rw [← Ny145.out] at ho26)); have n0_ := Aside0.mk (Kd.R_elder' (by (with_reducible repeat (first | apply Kd.R_alloc | apply Kd.R_drewN | apply Kd.R_drew)); exact HO_9.out) (Kd.R_base ho26) hb); have n1_ := Aside0.mk (Kd.R_below (by (with_reducible repeat (first | apply Kd.R_alloc | apply Kd.R_drewN | apply Kd.R_drew)); exact HO_10.out) hb); have n2_ := Aside0.mk (Kd.R_lower (Kd.R_new' ho26 (Kd.R_lt (by (with_reducible repeat (first | apply Kd.R_alloc | apply Kd.R_drewN | apply Kd.R_drew)); exact HO_9.out))) (below_size (by repeat (first | (with_reducible first | exact HB.out | apply below_alloc | apply pw_below_drewN | apply below_drew1) | exact HB.out)))); have n3_ := Aside0.mk (below_step (by repeat (first | (with_reducible first | exact HB.out | apply below_alloc | apply pw_below_drewN | apply below_drew1) | exact HB.out)) hb); clear HO_9; clear HO_10; clear HB; have HO_9 := n0_; have HO_10 := n1_; have HO147 := n2_; have HB := n3_; clear n0_ n1_ n2_ n3_; clear hb ho26; obtain ⟨Ao28, co28, eo28⟩ := Kd.R_slice HO147.out; subst eo28) | ((with_reducible refine gate_builtin (b := .append) (xs := #[.tmp 72, .tmp 73]) rfl ?_); (try (refine gate_guard (by rfl) ?_; dsimp only)); at_builtin; refine Kd.R_append_rows Kd.string (w0 := w) w.heap.size rfl (.tmp 72) (.tmp 73) 32 9 (.string ⟨#[]⟩) 16 rfl Try.underlying32 info9 rfl (by decide) (by omega) u9 x9_3 y145 _ _ _ (fun k_ => some k_ ≠ (.slice Ao28 y145.length co28 : Value).ownBlock) (fun _ => False) rfl rfl ?aO ?aR (fun _ _ h => h) (fun _ h => h.elim) ?aF ?aB ?aS ?aL ?_; (case aR => repeat (first | exact (Kd.R_reads' HO147.out).2.2 | (with_reducible refine Kd.C_alloc ?_ _) | (with_reducible refine Kd.C_drewN ?_ _) | (with_reducible refine Kd.C_drew ?_))); (case aB => exact (by repeat (first | (with_reducible first | exact HB.out | apply below_alloc | apply pw_below_drewN | apply below_drew1) | exact HB.out))); (case aF => exact (fun k_ hk => Kd.fresh' (Kd.R_lt (by (with_reducible repeat (first | apply Kd.R_alloc | apply Kd.R_drewN | apply Kd.R_drew)); exact HO147.out)) k_ hk)); (case aO => exact (by (with_reducible repeat (first | apply Kd.R_alloc | apply Kd.R_drewN | apply Kd.R_drew)); exact Kd.R_mono HO_9.out (fun _ hk => hk.2))); (case aS => exact (below_size (by repeat (first | (with_reducible first | exact HB.out | apply below_alloc | apply pw_below_drewN | apply below_drew1) | exact HB.out)))); (case aL => have := LMc23.out; omega); intro v149 w27 ho hb hg hat; rw [← Ny148.out] at ho; have n0_ := Aside0.mk (Kd.R_over' (by (with_reducible repeat (first | apply Kd.R_alloc | apply Kd.R_drewN | apply Kd.R_drew)); exact HO_10.out) (Kd.R_typed (by (with_reducible repeat (first | apply Kd.R_alloc | apply Kd.R_drewN | apply Kd.R_drew)); exact HO_9.out)) (by decide) hg); have n1_ := Aside0.mk (Kd.R_after (ok := (fun _ => True)) (by (with_reducible repeat (first | apply Kd.R_alloc | apply Kd.R_drewN | apply Kd.R_drew)); exact HO147.out) hg hat); have n2_ := Aside0.mk (hb); have n3_ := Aside0.mk (ho); clear HO_10; clear HO147; clear HB; clear HO_9; have HO_10 := n0_; have HO147 := n1_; have HB := n2_; have HO150 := n3_; clear n0_ n1_ n2_ n3_; clear ho hb hg hat) | ((with_reducible refine gate_dst (N := 77) rfl ?_); (try (refine gate_guard (by rfl) ?_; dsimp only)); refine Kd.R_lit k39 _ 39 ?hg (N := 77) ?hd (xs := ([(⟨true, (⟨#[]⟩ : ByteArray), 0, 0, false⟩ : S39)] : List (S39))) (inner := [.bool true, .string (⟨#[]⟩ : ByteArray), .int .i64 0, .float .f64 0, .bool false]) (ok := fun _ => True) (okp := fun _ => True) ?hr ?hp (fun _ hk => hk) trivial (Below.refl _ _) (Nat.le_refl _) (by simp) ?_; (case hd => rfl); (case hg => rfl); (case hr => first | (go_simp; done) | (go_simp; rfl) | (go_simp; simp [IntKind.wrap_u8]; done)); (case hp => exact (Reps.c5 (show Kd.M k39 _ _ _ (⟨true, (⟨#[]⟩ : ByteArray), 0, 0, false⟩ : S39) [.bool true, .string (⟨#[]⟩ : ByteArray), .int .i64 0, .float .f64 0, .bool false] from (k39_mkM _ _ _ (⟨true, (⟨#[]⟩ : ByteArray), 0, 0, false⟩ : S39) )) (Reps.none _ _))); intro v152 w29 ho30 hb hg_ hnew_; clear hg_ hnew_; (first | rw [← Ny151.out] at ho30 | (simp only [Int.reduceToNat] at ho30; rw [← Ny151.out] at ho30)); have n0_ := Aside0.mk (Kd.R_elder' (by (with_reducible repeat (first | apply Kd.R_alloc | apply Kd.R_drewN | apply Kd.R_drew)); exact HO_10.out) (Kd.R_base ho30) hb); have n1_ := Aside0.mk (Kd.R_below (by (with_reducible repeat (first | apply Kd.R_alloc | apply Kd.R_drewN | apply Kd.R_drew)); exact HO147.out) hb); have n2_ := Aside0.mk (Kd.R_below (by (with_reducible repeat (first | apply Kd.R_alloc | apply Kd.R_drewN | apply Kd.R_drew)); exact HO150.out) hb); have n3_ := Aside0.mk (Kd.R_lower (Kd.R_new' ho30 (Kd.R_lt (by (with_reducible repeat (first | apply Kd.R_alloc | apply Kd.R_drewN | apply Kd.R_drew)); exact HO_10.out))) (below_size (by repeat (first | (with_reducible first | exact HB.out | apply below_alloc | apply pw_below_drewN | apply below_drew1) | exact HB.out)))); have n4_ := Aside0.mk (below_step (by repeat (first | (with_reducible first | exact HB.out | apply below_alloc | apply pw_below_drewN | apply below_drew1) | exact HB.out)) hb); clear HO_10; clear HO147; clear HO150; clear HB; have HO_10 := n0_; have HO147 := n1_; have HO150 := n2_; have HO153 := n3_; have HB := n4_; clear n0_ n1_ n2_ n3_ n4_; clear hb ho30; obtain ⟨Ao32, co32, eo32⟩ := Kd.R_slice HO153.out; subst eo32) | ((with_reducible refine gate_builtin (b := .append) (xs := #[.tmp 75, .tmp 77]) rfl ?_); (try (refine gate_guard (by rfl) ?_; dsimp only)); at_builtin; refine Kd.R_append_rows k39 (w0 := w) w.heap.size rfl (.tmp 75) (.tmp 77) 24 39 (.agg #[(.bool false), (.string ⟨#[]⟩), (.int .i64 0), (.float .f64 0), (.bool false)]) 48 rfl Try.underlying24 info39 rfl (by decide) (by omega) u10 x10_3 y151 _ _ _ (fun k_ => some k_ ≠ (.slice Ao32 y151.length co32 : Value).ownBlock) (fun _ => False) rfl rfl ?aO ?aR (fun _ _ h => h) (fun _ h => h.elim) ?aF ?aB ?aS ?aL ?_; (case aR => repeat (first | exact (Kd.R_reads' HO153.out).2.2 | (with_reducible refine Kd.C_alloc ?_ _) | (with_reducible refine Kd.C_drewN ?_ _) | (with_reducible refine Kd.C_drew ?_))); (case aB => exact (by repeat (first | (with_reducible first | exact HB.out | apply below_alloc | apply pw_below_drewN | apply below_drew1) | exact HB.out))); (case aF => exact (fun k_ hk => Kd.fresh' (Kd.R_lt (by (with_reducible repeat (first | apply Kd.R_alloc | apply Kd.R_drewN | apply Kd.R_drew)); exact HO153.out)) k_ hk)); (case aO => exact (by (with_reducible repeat (first | apply Kd.R_alloc | apply Kd.R_drewN | apply Kd.R_drew)); exact Kd.R_mono HO_10.out (fun _ hk => hk.2))); (case aS => exact (below_size (by repeat (first | (with_reducible first | exact HB.out | apply below_alloc | apply pw_below_drewN | apply below_drew1) | exact HB.out)))); (case aL => have := LMc24.out; omega); intro v155 w31 ho hb hg hat; rw [← Ny154.out] at ho; have n0_ := Aside0.mk (Kd.R_over' (by (with_reducible repeat (first | apply Kd.R_alloc | apply Kd.R_drewN | apply Kd.R_drew)); exact HO147.out) (Kd.R_typed (by (with_reducible repeat (first | apply Kd.R_alloc | apply Kd.R_drewN | apply Kd.R_drew)); exact HO_10.out)) (by decide) hg); have n1_ := Aside0.mk (Kd.R_over' (by (with_reducible repeat (first | apply Kd.R_alloc | apply Kd.R_drewN | apply Kd.R_drew)); exact HO150.out) (Kd.R_typed (by (with_reducible repeat (first | apply Kd.R_alloc | apply Kd.R_drewN | apply Kd.R_drew)); exact HO_10.out)) (by decide) hg); have n2_ := Aside0.mk (Kd.R_after (ok := (fun _ => True)) (by (with_reducible repeat (first | apply Kd.R_alloc | apply Kd.R_drewN | apply Kd.R_drew)); exact HO153.out) hg hat); have n3_ := Aside0.mk (hb); have n4_ := Aside0.mk (ho); clear HO147; clear HO150; clear HO153; clear HB; clear HO_10; have HO147 := n0_; have HO150 := n1_; have HO153 := n2_; have HB := n3_; have HO156 := n4_; clear n0_ n1_ n2_ n3_ n4_; clear ho hb hg hat))
                                  go_roundg k3
                                  case measure => have := HJ3.out; have := HJ9.out; have := HK3.out; omega
                                  case rel => exact ⟨(y148), (y154), (wrap64 (x11_3 + 1)), (by first | rfl | (simp; done) | (simp [*]; done)), H', ⟨by have := HJ3.out; have := HJ9.out; have := HK3.out; omega⟩, ⟨by (with_reducible repeat (first | apply Kd.R_alloc | apply Kd.R_drewN | apply Kd.R_drew)); exact Kd.R_mono HO150.out (fun _ hk => trivial)⟩, ⟨by (with_reducible repeat (first | apply Kd.R_alloc | apply Kd.R_drewN | apply Kd.R_drew)); exact Kd.R_mono HO156.out (fun _ hk => trivial)⟩, ⟨by repeat (first | (with_reducible first | exact HB.out | apply below_alloc | apply pw_below_drewN | apply below_drew1) | exact HB.out)⟩⟩
                                · rw [if_neg c24] at H
                                  exact absurd H (by simp)
                              · rw [if_neg c23] at H
                                exact absurd H (by simp)
                            · replace c22 := Bool.eq_false_iff.mpr c22
                              subst c22
                              have H1 : ((spec_Quoted.f k3 (rdOf ByteArray.empty l1 x11_3)).bind fun t158 => ((some (([t158] : List ByteArray) : List ByteArray)).bind fun y159 => (if x9_3.length + y159.length < 8796093022208 then ((some (([(⟨false, rdOf ByteArray.empty l1 x11_3, 0, 0, false⟩ : S39)] : List (S39)) : List (S39))).bind fun y166 => (if x10_3.length + y166.length < 2932031007402 then (laws_FnParsedBack.l0 k3 l0 l1 l2 t141 (x9_3 ++ y159) (x10_3 ++ y166) (wrap64 (x11_3 + 1))) else (none))) else (none)))) = some r := by rw [if_neg (show ¬ (false = true) by decide)] at H; exact H
                              clear H
                              have H := H1
                              clear H1
                              replace H := Option.bind_eq_some_iff.mp H
                              obtain ⟨t158, A330, H⟩ := H
                              replace H : ((some (([t158] : List ByteArray) : List ByteArray)).bind fun y159 => (if x9_3.length + y159.length < 8796093022208 then ((some (([(⟨false, rdOf ByteArray.empty l1 x11_3, 0, 0, false⟩ : S39)] : List (S39)) : List (S39))).bind fun y166 => (if x10_3.length + y166.length < 2932031007402 then (laws_FnParsedBack.l0 k3 l0 l1 l2 t141 (x9_3 ++ y159) (x10_3 ++ y166) (wrap64 (x11_3 + 1))) else (none))) else (none))) = some r := H
                              have A33 := Aside0.mk A330
                              clear A330
                              obtain ⟨y159, hy159⟩ : ∃ y_ : List ByteArray, y_ = (([t158] : List ByteArray)) := ⟨_, rfl⟩
                              replace H : (if x9_3.length + y159.length < 8796093022208 then ((some (([(⟨false, rdOf ByteArray.empty l1 x11_3, 0, 0, false⟩ : S39)] : List (S39)) : List (S39))).bind fun y166 => (if x10_3.length + y166.length < 2932031007402 then (laws_FnParsedBack.l0 k3 l0 l1 l2 t141 (x9_3 ++ y159) (x10_3 ++ y166) (wrap64 (x11_3 + 1))) else (none))) else (none)) = some r := by first | (rw [hy159]; with_reducible exact H) | (have H2_ := (Option.bind_some _ _).symm.trans H; rw [hy159]; with_reducible exact H2_) | (have H2_ := (Option.bind_some _ _).symm.trans H; with_reducible exact H2_) | with_reducible exact H | (rw [hy159]; exact H) | exact H
                              have Ny159 := Aside0.mk hy159
                              clear hy159
                              by_cases c34 : x9_3.length + y159.length < 8796093022208
                              · rw [if_pos c34] at H
                                have LMc34 := Aside0.mk c34
                                clear c34
                                obtain ⟨y162, hy162⟩ : ∃ y_ : List ByteArray, y_ = (x9_3 ++ y159) := ⟨_, rfl⟩
                                replace H : ((some (([(⟨false, rdOf ByteArray.empty l1 x11_3, 0, 0, false⟩ : S39)] : List (S39)) : List (S39))).bind fun y166 => (if x10_3.length + y166.length < 2932031007402 then (laws_FnParsedBack.l0 k3 l0 l1 l2 t141 y162 (x10_3 ++ y166) (wrap64 (x11_3 + 1))) else (none))) = some r := by first | (rw [hy162]; with_reducible exact H) | (have H2_ := (Option.bind_some _ _).symm.trans H; rw [hy162]; with_reducible exact H2_) | (have H2_ := (Option.bind_some _ _).symm.trans H; with_reducible exact H2_) | with_reducible exact H | (rw [hy162]; exact H) | exact H
                                have Ny162 := Aside0.mk hy162
                                clear hy162
                                obtain ⟨y166, hy166⟩ : ∃ y_ : List (S39), y_ = (([(⟨false, rdOf ByteArray.empty l1 x11_3, 0, 0, false⟩ : S39)] : List (S39))) := ⟨_, rfl⟩
                                replace H : (if x10_3.length + y166.length < 2932031007402 then (laws_FnParsedBack.l0 k3 l0 l1 l2 t141 y162 (x10_3 ++ y166) (wrap64 (x11_3 + 1))) else (none)) = some r := by first | (rw [hy166]; with_reducible exact H) | (have H2_ := (Option.bind_some _ _).symm.trans H; rw [hy166]; with_reducible exact H2_) | (have H2_ := (Option.bind_some _ _).symm.trans H; with_reducible exact H2_) | with_reducible exact H | (rw [hy166]; exact H) | exact H
                                have Ny166 := Aside0.mk hy166
                                clear hy166
                                by_cases c35 : x10_3.length + y166.length < 2932031007402
                                · rw [if_pos c35] at H
                                  have LMc35 := Aside0.mk c35
                                  clear c35
                                  obtain ⟨y169, hy169⟩ : ∃ y_ : List (S39), y_ = (x10_3 ++ y166) := ⟨_, rfl⟩
                                  replace H : (laws_FnParsedBack.l0 k3 l0 l1 l2 t141 y162 y169 (wrap64 (x11_3 + 1))) = some r := by first | (rw [hy169]; with_reducible exact H) | (have H2_ := (Option.bind_some _ _).symm.trans H; rw [hy169]; with_reducible exact H2_) | (have H2_ := (Option.bind_some _ _).symm.trans H; with_reducible exact H2_) | with_reducible exact H | (rw [hy169]; exact H) | exact H
                                  have Ny169 := Aside0.mk hy169
                                  clear hy169
                                  have H' := Aside0.mk H
                                  clear H
                                  have p143 : 0 ≤ (x11_3 : Int) := of_decide_eq_true (by first | (with_reducible assumption) | assumption)
                                  have q143 : x11_3 < (l1.length : Int) := of_decide_eq_true (by first | (with_reducible assumption) | assumption)
                                  obtain ⟨ad143, e143, hx143_0⟩ := Kd.at_string HR1.out x11_3 p143 q143
                                  cases e143
                                  replace hx143_0 := (HB.out.cell (World.block_lt_of_cell? w _ hx143_0)).trans hx143_0
                                  replace p143 := eq_true p143
                                  replace q143 := eq_true q143
                                  have p144 : 0 ≤ (x11_3 : Int) := of_decide_eq_true (by first | (with_reducible assumption) | assumption)
                                  have q144 : x11_3 < (l2.length : Int) := of_decide_eq_true (by first | (with_reducible assumption) | assumption)
                                  obtain ⟨ad144, e144, hx144_0⟩ := Kd.at_bool HR2.out x11_3 p144 q144
                                  (try rw [← Nbq21.out] at hx144_0)
                                  cases e144
                                  replace hx144_0 := (HB.out.cell (World.block_lt_of_cell? w _ hx144_0)).trans hx144_0
                                  replace p144 := eq_true p144
                                  replace q144 := eq_true q144
                                  obtain ⟨Ao36, co36, eo36⟩ := Kd.R_slice HO_9.out
                                  subst eo36
                                  obtain ⟨Ao37, co37, eo37⟩ := Kd.R_slice HO_10.out
                                  subst eo37
                                  try go_wp2
                                  have n0_ := Aside0.mk (Kd.R_drew HO_9.out)
                                  have n1_ := Aside0.mk (Kd.R_drew HO_10.out)
                                  have n2_ := Aside0.mk (below_drew1 HB.out)
                                  clear HO_9
                                  clear HO_10
                                  clear HB
                                  have HO_9 := n0_
                                  have HO_10 := n1_
                                  have HB := n2_
                                  clear n0_ n1_ n2_
                                  have p157 : 0 ≤ (x11_3 : Int) := of_decide_eq_true (by first | (with_reducible assumption) | assumption)
                                  have q157 : x11_3 < (l1.length : Int) := of_decide_eq_true (by first | (with_reducible assumption) | assumption)
                                  obtain ⟨ad157, e157, hx157_0⟩ := Kd.at_string HR1.out x11_3 p157 q157
                                  have hw157_0 := hx157_0
                                  obtain rfl : ad143 = ad157 := (by injection e157)
                                  replace hx157_0 := (HB.out.cell (World.block_lt_of_cell? w _ hx157_0)).trans hx157_0
                                  replace p157 := eq_true p157
                                  replace q157 := eq_true q157
                                  have p165 : 0 ≤ (x11_3 : Int) := of_decide_eq_true (by first | (with_reducible assumption) | assumption)
                                  have q165 : x11_3 < (l1.length : Int) := of_decide_eq_true (by first | (with_reducible assumption) | assumption)
                                  obtain ⟨ad165, e165, hx165_0⟩ := Kd.at_string HR1.out x11_3 p165 q165
                                  have hw165_0 := hx165_0
                                  obtain rfl : ad143 = ad165 := (by injection e165)
                                  replace hx165_0 := (HB.out.cell (World.block_lt_of_cell? w _ hx165_0)).trans hx165_0
                                  replace p165 := eq_true p165
                                  replace q165 := eq_true q165
                                  refine start_ (n := 18) (S := fun w' => w'.cell? (ad143.add (x11_3).toNat) = some (.string (rdOf ByteArray.empty l1 x11_3)) ∧ w'.cell? (ad143.add (x11_3).toNat) = some (.string (rdOf ByteArray.empty l1 x11_3))) (ds := []) #[false, false, false, false, false, false, false, false, false, false, false, false, false, false, false, false, false, false] (by kernel_rfl) rfl rfl ⟨((HB.out.cell (World.block_lt_of_cell? w _ hw157_0)).trans hw157_0), ((HB.out.cell (World.block_lt_of_cell? w _ hw165_0)).trans hw165_0)⟩ (fun hHeld => ?_); refine with_tabW laws_FnParsedBack.tab15 laws_FnParsedBack.bits15 (fun HT_ HW_ => ?_)
                                  generalize wr.drew = w38 at HO_9 HO_10 HB hx157_0 hx165_0 hHeld ⊢
                                  refine pure_ (i := 0) (N := some 79) (v := ?_) (a' := ?_) #[true, false, false, false, false, false, false, false, false, false, false, false, false, false, false, false, false, false] rfl rfl (any_of HT_.out (by kernel_rfl)) (fun _ _ _ h => h) (Or.inl ⟨by rfl, ?_⟩) ?_ ?_
                                  rotate_left
                                  · intro w'
                                    go_simp
                                    with_reducible rfl
                                  rotate_left
                                  · simp only [Act.put, List.setIfInBounds_toArray, List.set_cons_zero, List.set_cons_succ, i64_w, i32_w]
                                    rfl
                                  refine pure_ (i := 1) (N := some 80) (v := ?_) (a' := ?_) #[true, true, false, false, false, false, false, false, false, false, false, false, false, false, false, false, false, false] rfl rfl (any_of HT_.out (by kernel_rfl)) (fun _ _ _ h => h) (Or.inl ⟨by rfl, ?_⟩) ?_ ?_
                                  rotate_left
                                  · intro w'
                                    go_simp
                                    with_reducible rfl
                                  rotate_left
                                  · simp only [Act.put, List.setIfInBounds_toArray, List.set_cons_zero, List.set_cons_succ, i64_w, i32_w]
                                    rfl
                                  refine pure_ (i := 2) (N := some 81) (v := ?_) (a' := ?_) #[true, true, true, false, false, false, false, false, false, false, false, false, false, false, false, false, false, false] rfl rfl (any_of HT_.out (by kernel_rfl)) (fun _ _ _ h => h) (Or.inl ⟨by rfl, ?_⟩) ?_ ?_
                                  rotate_left
                                  · intro w'
                                    go_simp
                                    with_reducible rfl
                                  rotate_left
                                  · simp only [Act.put, List.setIfInBounds_toArray, List.set_cons_zero, List.set_cons_succ, i64_w, i32_w]
                                    rfl
                                  refine pure_ (i := 3) (N := some 82) (v := ?_) (a' := ?_) #[true, true, true, true, false, false, false, false, false, false, false, false, false, false, false, false, false, false] rfl rfl (any_of HT_.out (by kernel_rfl)) (fun _ _ _ h => h) (Or.inl ⟨by rfl, ?_⟩) ?_ ?_
                                  rotate_left
                                  · intro w'
                                    go_simp
                                    with_reducible rfl
                                  rotate_left
                                  · simp only [Act.put, List.setIfInBounds_toArray, List.set_cons_zero, List.set_cons_succ, i64_w, i32_w]
                                    rfl
                                  refine pure_ (i := 8) (N := some 87) (v := ?_) (a' := ?_) #[true, true, true, true, false, false, false, false, true, false, false, false, false, false, false, false, false, false] rfl rfl (any_of HT_.out (by kernel_rfl)) (fun _ _ _ h => h) (Or.inl ⟨by rfl, ?_⟩) ?_ ?_
                                  rotate_left
                                  · intro w'
                                    go_simp
                                    with_reducible rfl
                                  rotate_left
                                  · simp only [Act.put, List.setIfInBounds_toArray, List.set_cons_zero, List.set_cons_succ, i64_w, i32_w]
                                    rfl
                                  refine pure_ (i := 9) (N := some 88) (v := ?_) (a' := ?_) #[true, true, true, true, false, false, false, false, true, true, false, false, false, false, false, false, false, false] rfl rfl (any_of HT_.out (by kernel_rfl)) (fun _ _ _ h => h) (Or.inl ⟨by rfl, ?_⟩) ?_ ?_
                                  rotate_left
                                  · intro w'
                                    go_simp
                                    with_reducible rfl
                                  rotate_left
                                  · simp only [Act.put, List.setIfInBounds_toArray, List.set_cons_zero, List.set_cons_succ, i64_w, i32_w]
                                    rfl
                                  refine pure_ (i := 10) (N := some 89) (v := ?_) (a' := ?_) #[true, true, true, true, false, false, false, false, true, true, true, false, false, false, false, false, false, false] rfl rfl (any_of HT_.out (by kernel_rfl)) (fun _ _ _ h => h) (Or.inl ⟨by rfl, ?_⟩) ?_ ?_
                                  rotate_left
                                  · intro w'
                                    go_simp
                                    with_reducible rfl
                                  rotate_left
                                  · simp only [Act.put, List.setIfInBounds_toArray, List.set_cons_zero, List.set_cons_succ, i64_w, i32_w]
                                    rfl
                                  refine pure_ (i := 11) (N := some 90) (v := ?_) (a' := ?_) #[true, true, true, true, false, false, false, false, true, true, true, true, false, false, false, false, false, false] rfl rfl (any_of HT_.out (by kernel_rfl)) (fun _ _ _ h => h) (Or.inl ⟨by rfl, ?_⟩) ?_ ?_
                                  rotate_left
                                  · intro w'
                                    go_simp
                                    with_reducible rfl
                                  rotate_left
                                  · simp only [Act.put, List.setIfInBounds_toArray, List.set_cons_zero, List.set_cons_succ, i64_w, i32_w]
                                    rfl
                                  refine take_ (i := 4) (N := some 83) (v := ?_) (a' := ?_) #[true, true, true, true, true, false, false, false, true, true, true, true, false, false, false, false, false, false] rfl rfl (take_ofW HT_.out HW_.out (by kernel_rfl)) (fun _ _ _ h => h) (Or.inl ⟨by rfl, ?_⟩) hHeld ?_ ?_
                                  rotate_left
                                  · rintro w' ⟨s0, s1⟩
                                    go_simp
                                    with_reducible rfl
                                  rotate_left
                                  · simp only [Act.put, List.setIfInBounds_toArray, List.set_cons_zero, List.set_cons_succ, i64_w, i32_w]
                                    rfl
                                  refine take_ (i := 12) (N := some 91) (v := ?_) (a' := ?_) #[true, true, true, true, true, false, false, false, true, true, true, true, true, false, false, false, false, false] rfl rfl (take_ofW HT_.out HW_.out (by kernel_rfl)) (fun _ _ _ h => h) (Or.inl ⟨by rfl, ?_⟩) hHeld ?_ ?_
                                  rotate_left
                                  · rintro w' ⟨s0, s1⟩
                                    go_simp
                                    with_reducible rfl
                                  rotate_left
                                  · simp only [Act.put, List.setIfInBounds_toArray, List.set_cons_zero, List.set_cons_succ, i64_w, i32_w]
                                    rfl
                                  refine pure_ (i := 13) (N := some 92) (v := ?_) (a' := ?_) #[true, true, true, true, true, false, false, false, true, true, true, true, true, true, false, false, false, false] rfl rfl (any_of HT_.out (by kernel_rfl)) (fun _ _ _ h => h) (Or.inl ⟨by rfl, ?_⟩) ?_ ?_
                                  rotate_left
                                  · intro w'
                                    go_simp
                                    with_reducible rfl
                                  rotate_left
                                  · simp only [Act.put, List.setIfInBounds_toArray, List.set_cons_zero, List.set_cons_succ, i64_w, i32_w]
                                    rfl
                                  refine join_ (σ := Value × Value × Value) 3 #[true, true, true, true, true, true, true, true, true, true, true, true, true, true, true, false, false, false] (fun s_ => [(84, .string t158), (85, s_.1), (86, s_.2.1), (93, s_.2.2)]) (fun s_ w' => (w'.cell? (ad143.add (x11_3).toNat) = some (.string (rdOf ByteArray.empty l1 x11_3)) ∧ w'.cell? (ad143.add (x11_3).toNat) = some (.string (rdOf ByteArray.empty l1 x11_3))) ∧ (Kd.R Kd.string 9 w' w.heap.size (fun k_ => some k_ ≠ (s_.2.1 : Value).ownBlock) s_.1 y159) ∧ (Kd.R Kd.string 9 w' w.heap.size (fun k_ => some k_ ≠ (s_.1 : Value).ownBlock) s_.2.1 y162) ∧ (Kd.R k39 39 w' w.heap.size (fun k_ => some k_ ≠ (.slice Ao37 x10_3.length co37 : Value).ownBlock) s_.2.2 y166) ∧ (Kd.R k39 39 w' w.heap.size (fun k_ => some k_ ≠ (s_.2.2 : Value).ownBlock) (.slice Ao37 x10_3.length co37) x10_3) ∧ (Below w.heap.size w w')) ?_ ?_
                                  rotate_left
                                  · intro hCont
                                    refine two_ (i := 5) (j := 14) (Ni := some 84) (Nj := some 93) #[true, true, true, true, true, true, false, false, true, true, true, true, true, true, false, false, false, false] #[true, true, true, true, true, false, false, false, true, true, true, true, true, true, true, false, false, false] rfl rfl rfl rfl (two_of HT_.out (by kernel_rfl)) (by decide) (by decide) (fun K hK => ?_) (fun K hK => ?_)
                                    · skip
                                      refine goes_ Try.func14 (by kernel_rfl) rfl #[.string (rdOf ByteArray.empty l1 x11_3)] (by rfl) rfl rfl (by (try simp only [List.map_toArray, List.map_cons, List.map_nil]); first | done | rfl | (simp only [List.length_drop, List.length_take]; rfl)) ?_
                                      with_reducible refine (spec_Quoted.calls k3 (rdOf ByteArray.empty l1 x11_3) t158 _ A33.out).mono ?_
                                      rintro e w39 ⟨rfl, hb⟩
                                      refine ⟨_, rfl, ?_⟩
                                      have n0_ := Aside0.mk (Kd.R_below (by (with_reducible repeat (first | apply Kd.R_alloc | apply Kd.R_drewN | apply Kd.R_drew)); exact HO_9.out) hb)
                                      have n1_ := Aside0.mk (Kd.R_below (by (with_reducible repeat (first | apply Kd.R_alloc | apply Kd.R_drewN | apply Kd.R_drew)); exact HO_10.out) hb)
                                      have n2_ := Aside0.mk (below_step (by repeat (first | (with_reducible first | exact HB.out | apply below_alloc | apply pw_below_drewN | apply below_drew1) | exact HB.out)) hb)
                                      clear HO_9
                                      clear HO_10
                                      clear HB
                                      have HO_9 := n0_
                                      have HO_10 := n1_
                                      have HB := n2_
                                      clear n0_ n1_ n2_
                                      (try clear hb)
                                      (try clear hb2)
                                      (try clear hk)
                                      (try clear hi)
                                      refine hK.out _ _ ⟨((HB.out.cell (World.block_lt_of_cell? w _ hw157_0)).trans hw157_0), ((HB.out.cell (World.block_lt_of_cell? w _ hw165_0)).trans hw165_0)⟩ (fun hHeld => ?_)
                                      clear hK K
                                      refine norm_ (a' := ?_) ?_ ?_
                                      rotate_left
                                      · show Act.put _ (some 84) _ = _
                                        simp only [Act.put, List.setIfInBounds_toArray, List.set_cons_zero, List.set_cons_succ, i64_w, i32_w]
                                        rfl
                                      refine two_ (i := 6) (j := 14) (Ni := some 85) (Nj := some 93) #[true, true, true, true, true, true, true, false, true, true, true, true, true, true, false, false, false, false] #[true, true, true, true, true, true, false, false, true, true, true, true, true, true, true, false, false, false] rfl rfl rfl rfl (two_of HT_.out (by kernel_rfl)) (by decide) (by decide) (fun K hK => ?_) (fun K hK => ?_)
                                      · skip
                                        refine Kd.R_lit_step Kd.string _ 9 ?hg (N := 85) ?hd (xs := ([t158] : List ByteArray)) (inner := [.string t158]) (ok := fun _ => True) (okp := fun _ => True) ?hr ?hp (fun _ hk => hk) trivial (Below.refl _ _) (Nat.le_refl _) (by simp) ?_; (case hd => rfl); (case hg => rfl); (case hr => first | (go_simp; done) | (go_simp; rfl) | (go_simp; simp [IntKind.wrap_u8]; done)); (case hp => exact (Reps.one (show Kd.M Kd.string _ _ _ t158 [.string t158] from rfl) (Reps.none _ _)))
                                        intro v160 w40 ho41 hb hg_ hnew_
                                        clear hg_ hnew_
                                        (first | rw [← Ny159.out] at ho41 | (simp only [Int.reduceToNat] at ho41; rw [← Ny159.out] at ho41))
                                        have n0_ := Aside0.mk (Kd.R_elder' (by (with_reducible repeat (first | apply Kd.R_alloc | apply Kd.R_drewN | apply Kd.R_drew)); exact HO_9.out) (Kd.R_base ho41) hb)
                                        have n1_ := Aside0.mk (Kd.R_below (by (with_reducible repeat (first | apply Kd.R_alloc | apply Kd.R_drewN | apply Kd.R_drew)); exact HO_10.out) hb)
                                        have n2_ := Aside0.mk (Kd.R_lower (Kd.R_new' ho41 (Kd.R_lt (by (with_reducible repeat (first | apply Kd.R_alloc | apply Kd.R_drewN | apply Kd.R_drew)); exact HO_9.out))) (below_size (by repeat (first | (with_reducible first | exact HB.out | apply below_alloc | apply pw_below_drewN | apply below_drew1) | exact HB.out))))
                                        have n3_ := Aside0.mk (below_step (by repeat (first | (with_reducible first | exact HB.out | apply below_alloc | apply pw_below_drewN | apply below_drew1) | exact HB.out)) hb)
                                        clear HO_9
                                        clear HO_10
                                        clear HB
                                        have HO_9 := n0_
                                        have HO_10 := n1_
                                        have HO161 := n2_
                                        have HB := n3_
                                        clear n0_ n1_ n2_ n3_
                                        clear hb ho41
                                        obtain ⟨Ao43, co43, eo43⟩ := Kd.R_slice HO161.out
                                        (first | subst eo43 | (injection eo43 with f1_ f2_ f3_; have f4_ := f1_.symm; have f5_ := f3_.symm; clear f1_ f2_ f3_; subst f4_; subst f5_))
                                        refine hK.out _ _ ⟨((HB.out.cell (World.block_lt_of_cell? w _ hw157_0)).trans hw157_0), ((HB.out.cell (World.block_lt_of_cell? w _ hw165_0)).trans hw165_0)⟩ (fun hHeld => ?_)
                                        clear hK K
                                        refine norm_ (a' := ?_) ?_ ?_
                                        rotate_left
                                        · show Act.put _ (some 85) _ = _
                                          simp only [Act.put, List.setIfInBounds_toArray, List.set_cons_zero, List.set_cons_succ, i64_w, i32_w]
                                          rfl
                                        refine two_ (i := 7) (j := 14) (Ni := some 86) (Nj := some 93) #[true, true, true, true, true, true, true, true, true, true, true, true, true, true, false, false, false, false] #[true, true, true, true, true, true, true, false, true, true, true, true, true, true, true, false, false, false] rfl rfl rfl rfl (two_of HT_.out (by kernel_rfl)) (by decide) (by decide) (fun K hK => ?_) (fun K hK => ?_)
                                        · skip
                                          refine Kd.R_append_rows_step Kd.string (w0 := w) w.heap.size (by rfl) (.tmp 79) (.tmp 85) 32 9 (.string ⟨#[]⟩) 16 rfl Try.underlying32 info9 rfl (by decide) (by omega) (.slice Ao36 x9_3.length co36) x9_3 y159 _ _ _ (fun k_ => some k_ ≠ (.slice Ao43 y159.length co43 : Value).ownBlock) (fun _ => False) rfl rfl ?aO ?aR (fun _ _ h => h) (fun _ h => h.elim) ?aF ?aB ?aS ?aL ?_
                                          (case aR => repeat (first | exact (Kd.R_reads' HO161.out).2.2 | (with_reducible refine Kd.C_alloc ?_ _) | (with_reducible refine Kd.C_drewN ?_ _) | (with_reducible refine Kd.C_drew ?_)))
                                          (case aB => exact (by repeat (first | (with_reducible first | exact HB.out | apply below_alloc | apply pw_below_drewN | apply below_drew1) | exact HB.out)))
                                          (case aF => exact (fun k_ hk => Kd.fresh' (Kd.R_lt (by (with_reducible repeat (first | apply Kd.R_alloc | apply Kd.R_drewN | apply Kd.R_drew)); exact HO161.out)) k_ hk))
                                          (case aO => exact (by (with_reducible repeat (first | apply Kd.R_alloc | apply Kd.R_drewN | apply Kd.R_drew)); exact Kd.R_mono HO_9.out (fun _ hk => hk.2)))
                                          (case aS => exact (below_size (by repeat (first | (with_reducible first | exact HB.out | apply below_alloc | apply pw_below_drewN | apply below_drew1) | exact HB.out))))
                                          (case aL => have := LMc34.out; omega)
                                          intro v163 w42 ho hb hg hat
                                          rw [← Ny162.out] at ho
                                          have n0_ := Aside0.mk (Kd.R_over' (by (with_reducible repeat (first | apply Kd.R_alloc | apply Kd.R_drewN | apply Kd.R_drew)); exact HO_10.out) (Kd.R_typed (by (with_reducible repeat (first | apply Kd.R_alloc | apply Kd.R_drewN | apply Kd.R_drew)); exact HO_9.out)) (by decide) hg)
                                          have n1_ := Aside0.mk (Kd.R_after (ok := (fun _ => True)) (by (with_reducible repeat (first | apply Kd.R_alloc | apply Kd.R_drewN | apply Kd.R_drew)); exact HO161.out) hg hat)
                                          have n2_ := Aside0.mk (hb)
                                          have n3_ := Aside0.mk (ho)
                                          clear HO_10
                                          clear HO161
                                          clear HB
                                          clear HO_9
                                          have HO_10 := n0_
                                          have HO161 := n1_
                                          have HB := n2_
                                          have HO164 := n3_
                                          clear n0_ n1_ n2_ n3_
                                          clear ho hb hg hat
                                          refine hK.out _ _ ⟨((HB.out.cell (World.block_lt_of_cell? w _ hw157_0)).trans hw157_0), ((HB.out.cell (World.block_lt_of_cell? w _ hw165_0)).trans hw165_0)⟩ (fun hHeld => ?_)
                                          clear hK K
                                          refine norm_ (a' := ?_) ?_ ?_
                                          rotate_left
                                          · show Act.put _ (some 86) _ = _
                                            simp only [Act.put, List.setIfInBounds_toArray, List.set_cons_zero, List.set_cons_succ, i64_w, i32_w]
                                            rfl
                                          refine one_ (i := 14) (N := some 93) #[true, true, true, true, true, true, true, true, true, true, true, true, true, true, true, false, false, false] rfl rfl (one_of HT_.out (by kernel_rfl)) (by decide) (fun K hK => ?_)
                                          refine Kd.R_lit_step k39 _ 39 ?hg (N := 93) ?hd (xs := ([(⟨false, rdOf ByteArray.empty l1 x11_3, 0, 0, false⟩ : S39)] : List (S39))) (inner := [.bool false, .string (rdOf ByteArray.empty l1 x11_3), .int .i64 0, .float .f64 0, .bool false]) (ok := fun _ => True) (okp := fun _ => True) ?hr ?hp (fun _ hk => hk) trivial (Below.refl _ _) (Nat.le_refl _) (by simp) ?_; (case hd => rfl); (case hg => rfl); (case hr => first | (go_simp; done) | (go_simp; rfl) | (go_simp; simp [IntKind.wrap_u8]; done)); (case hp => exact (Reps.c5 (show Kd.M k39 _ _ _ (⟨false, rdOf ByteArray.empty l1 x11_3, 0, 0, false⟩ : S39) [.bool false, .string (rdOf ByteArray.empty l1 x11_3), .int .i64 0, .float .f64 0, .bool false] from (k39_mkM _ _ _ (⟨false, rdOf ByteArray.empty l1 x11_3, 0, 0, false⟩ : S39) )) (Reps.none _ _)))
                                          intro v167 w44 ho45 hb hg_ hnew_
                                          clear hg_ hnew_
                                          (first | rw [← Ny166.out] at ho45 | (simp only [Int.reduceToNat] at ho45; rw [← Ny166.out] at ho45))
                                          have n0_ := Aside0.mk (Kd.R_elder' (by (with_reducible repeat (first | apply Kd.R_alloc | apply Kd.R_drewN | apply Kd.R_drew)); exact HO_10.out) (Kd.R_base ho45) hb)
                                          have n1_ := Aside0.mk (Kd.R_below (by (with_reducible repeat (first | apply Kd.R_alloc | apply Kd.R_drewN | apply Kd.R_drew)); exact HO161.out) hb)
                                          have n2_ := Aside0.mk (Kd.R_below (by (with_reducible repeat (first | apply Kd.R_alloc | apply Kd.R_drewN | apply Kd.R_drew)); exact HO164.out) hb)
                                          have n3_ := Aside0.mk (Kd.R_lower (Kd.R_new' ho45 (Kd.R_lt (by (with_reducible repeat (first | apply Kd.R_alloc | apply Kd.R_drewN | apply Kd.R_drew)); exact HO_10.out))) (below_size (by repeat (first | (with_reducible first | exact HB.out | apply below_alloc | apply pw_below_drewN | apply below_drew1) | exact HB.out))))
                                          have n4_ := Aside0.mk (below_step (by repeat (first | (with_reducible first | exact HB.out | apply below_alloc | apply pw_below_drewN | apply below_drew1) | exact HB.out)) hb)
                                          clear HO_10
                                          clear HO161
                                          clear HO164
                                          clear HB
                                          have HO_10 := n0_
                                          have HO161 := n1_
                                          have HO164 := n2_
                                          have HO168 := n3_
                                          have HB := n4_
                                          clear n0_ n1_ n2_ n3_ n4_
                                          clear hb ho45
                                          refine hK.out _ _ ⟨((HB.out.cell (World.block_lt_of_cell? w _ hw157_0)).trans hw157_0), ((HB.out.cell (World.block_lt_of_cell? w _ hw165_0)).trans hw165_0)⟩ (fun hHeld => ?_)
                                          clear hK K
                                          refine norm_ (a' := ?_) ?_ ?_
                                          rotate_left
                                          · show Act.put _ (some 93) _ = _
                                            simp only [Act.put, List.setIfInBounds_toArray, List.set_cons_zero, List.set_cons_succ, i64_w, i32_w]
                                            rfl
                                          exact norm_ (by simp only [putAll, Act.put, List.setIfInBounds_toArray, List.set_cons_zero, List.set_cons_succ]) (hCont (.slice Ao43 y159.length co43, v163, v167) _ ⟨hHeld, (by (with_reducible repeat (first | apply Kd.R_alloc | apply Kd.R_drewN | apply Kd.R_drew)); exact Kd.R_mono HO161.out (fun _ hk => hk.2)), (by (with_reducible repeat (first | apply Kd.R_alloc | apply Kd.R_drewN | apply Kd.R_drew)); exact HO164.out), (by (with_reducible repeat (first | apply Kd.R_alloc | apply Kd.R_drewN | apply Kd.R_drew)); exact Kd.R_mono HO168.out (fun _ hk => hk.2)), (by (with_reducible repeat (first | apply Kd.R_alloc | apply Kd.R_drewN | apply Kd.R_drew)); exact Kd.R_mono HO_10.out (fun _ hk => hk.2)), (by repeat (first | (with_reducible first | exact HB.out | apply below_alloc | apply pw_below_drewN | apply below_drew1) | exact HB.out))⟩)
                                        · skip
                                          refine Kd.R_lit_step k39 _ 39 ?hg (N := 93) ?hd (xs := ([(⟨false, rdOf ByteArray.empty l1 x11_3, 0, 0, false⟩ : S39)] : List (S39))) (inner := [.bool false, .string (rdOf ByteArray.empty l1 x11_3), .int .i64 0, .float .f64 0, .bool false]) (ok := fun _ => True) (okp := fun _ => True) ?hr ?hp (fun _ hk => hk) trivial (Below.refl _ _) (Nat.le_refl _) (by simp) ?_; (case hd => rfl); (case hg => rfl); (case hr => first | (go_simp; done) | (go_simp; rfl) | (go_simp; simp [IntKind.wrap_u8]; done)); (case hp => exact (Reps.c5 (show Kd.M k39 _ _ _ (⟨false, rdOf ByteArray.empty l1 x11_3, 0, 0, false⟩ : S39) [.bool false, .string (rdOf ByteArray.empty l1 x11_3), .int .i64 0, .float .f64 0, .bool false] from (k39_mkM _ _ _ (⟨false, rdOf ByteArray.empty l1 x11_3, 0, 0, false⟩ : S39) )) (Reps.none _ _)))
                                          intro v167 w42 ho43 hb hg_ hnew_
                                          clear hg_ hnew_
                                          (first | rw [← Ny166.out] at ho43 | (simp only [Int.reduceToNat] at ho43; rw [← Ny166.out] at ho43))
                                          have n0_ := Aside0.mk (Kd.R_below (by (with_reducible repeat (first | apply Kd.R_alloc | apply Kd.R_drewN | apply Kd.R_drew)); exact HO_9.out) hb)
                                          have n1_ := Aside0.mk (Kd.R_elder' (by (with_reducible repeat (first | apply Kd.R_alloc | apply Kd.R_drewN | apply Kd.R_drew)); exact HO_10.out) (Kd.R_base ho43) hb)
                                          have n2_ := Aside0.mk (Kd.R_below (by (with_reducible repeat (first | apply Kd.R_alloc | apply Kd.R_drewN | apply Kd.R_drew)); exact HO161.out) hb)
                                          have n3_ := Aside0.mk (Kd.R_lower (Kd.R_new' ho43 (Kd.R_lt (by (with_reducible repeat (first | apply Kd.R_alloc | apply Kd.R_drewN | apply Kd.R_drew)); exact HO_10.out))) (below_size (by repeat (first | (with_reducible first | exact HB.out | apply below_alloc | apply pw_below_drewN | apply below_drew1) | exact HB.out))))
                                          have n4_ := Aside0.mk (below_step (by repeat (first | (with_reducible first | exact HB.out | apply below_alloc | apply pw_below_drewN | apply below_drew1) | exact HB.out)) hb)
                                          clear HO_9
                                          clear HO_10
                                          clear HO161
                                          clear HB
                                          have HO_9 := n0_
                                          have HO_10 := n1_
                                          have HO161 := n2_
                                          have HO168 := n3_
                                          have HB := n4_
                                          clear n0_ n1_ n2_ n3_ n4_
                                          clear hb ho43
                                          obtain ⟨Ao45, co45, eo45⟩ := Kd.R_slice HO161.out
                                          (first | subst eo45 | (injection eo45 with f1_ f2_ f3_; have f4_ := f1_.symm; have f5_ := f3_.symm; clear f1_ f2_ f3_; subst f4_; subst f5_))
                                          refine hK.out _ _ ⟨((HB.out.cell (World.block_lt_of_cell? w _ hw157_0)).trans hw157_0), ((HB.out.cell (World.block_lt_of_cell? w _ hw165_0)).trans hw165_0)⟩ (fun hHeld => ?_)
                                          clear hK K
                                          refine norm_ (a' := ?_) ?_ ?_
                                          rotate_left
                                          · show Act.put _ (some 93) _ = _
                                            simp only [Act.put, List.setIfInBounds_toArray, List.set_cons_zero, List.set_cons_succ, i64_w, i32_w]
                                            rfl
                                          refine one_ (i := 7) (N := some 86) #[true, true, true, true, true, true, true, true, true, true, true, true, true, true, true, false, false, false] rfl rfl (one_of HT_.out (by kernel_rfl)) (by decide) (fun K hK => ?_)
                                          refine Kd.R_append_rows_step Kd.string (w0 := w) w.heap.size (by rfl) (.tmp 79) (.tmp 85) 32 9 (.string ⟨#[]⟩) 16 rfl Try.underlying32 info9 rfl (by decide) (by omega) (.slice Ao36 x9_3.length co36) x9_3 y159 _ _ _ (fun k_ => some k_ ≠ (.slice Ao45 y159.length co45 : Value).ownBlock) (fun _ => False) rfl rfl ?aO ?aR (fun _ _ h => h) (fun _ h => h.elim) ?aF ?aB ?aS ?aL ?_
                                          (case aR => repeat (first | exact (Kd.R_reads' HO161.out).2.2 | (with_reducible refine Kd.C_alloc ?_ _) | (with_reducible refine Kd.C_drewN ?_ _) | (with_reducible refine Kd.C_drew ?_)))
                                          (case aB => exact (by repeat (first | (with_reducible first | exact HB.out | apply below_alloc | apply pw_below_drewN | apply below_drew1) | exact HB.out)))
                                          (case aF => exact (fun k_ hk => Kd.fresh' (Kd.R_lt (by (with_reducible repeat (first | apply Kd.R_alloc | apply Kd.R_drewN | apply Kd.R_drew)); exact HO161.out)) k_ hk))
                                          (case aO => exact (by (with_reducible repeat (first | apply Kd.R_alloc | apply Kd.R_drewN | apply Kd.R_drew)); exact Kd.R_mono HO_9.out (fun _ hk => hk.2)))
                                          (case aS => exact (below_size (by repeat (first | (with_reducible first | exact HB.out | apply below_alloc | apply pw_below_drewN | apply below_drew1) | exact HB.out))))
                                          (case aL => have := LMc34.out; omega)
                                          intro v163 w44 ho hb hg hat
                                          rw [← Ny162.out] at ho
                                          have n0_ := Aside0.mk (Kd.R_over' (by (with_reducible repeat (first | apply Kd.R_alloc | apply Kd.R_drewN | apply Kd.R_drew)); exact HO_10.out) (Kd.R_typed (by (with_reducible repeat (first | apply Kd.R_alloc | apply Kd.R_drewN | apply Kd.R_drew)); exact HO_9.out)) (by decide) hg)
                                          have n1_ := Aside0.mk (Kd.R_after (ok := (fun _ => True)) (by (with_reducible repeat (first | apply Kd.R_alloc | apply Kd.R_drewN | apply Kd.R_drew)); exact HO161.out) hg hat)
                                          have n2_ := Aside0.mk (Kd.R_over' (by (with_reducible repeat (first | apply Kd.R_alloc | apply Kd.R_drewN | apply Kd.R_drew)); exact HO168.out) (Kd.R_typed (by (with_reducible repeat (first | apply Kd.R_alloc | apply Kd.R_drewN | apply Kd.R_drew)); exact HO_9.out)) (by decide) hg)
                                          have n3_ := Aside0.mk (hb)
                                          have n4_ := Aside0.mk (ho)
                                          clear HO_10
                                          clear HO161
                                          clear HO168
                                          clear HB
                                          clear HO_9
                                          have HO_10 := n0_
                                          have HO161 := n1_
                                          have HO168 := n2_
                                          have HB := n3_
                                          have HO164 := n4_
                                          clear n0_ n1_ n2_ n3_ n4_
                                          clear ho hb hg hat
                                          refine hK.out _ _ ⟨((HB.out.cell (World.block_lt_of_cell? w _ hw157_0)).trans hw157_0), ((HB.out.cell (World.block_lt_of_cell? w _ hw165_0)).trans hw165_0)⟩ (fun hHeld => ?_)
                                          clear hK K
                                          refine norm_ (a' := ?_) ?_ ?_
                                          rotate_left
                                          · show Act.put _ (some 86) _ = _
                                            simp only [Act.put, List.setIfInBounds_toArray, List.set_cons_zero, List.set_cons_succ, i64_w, i32_w]
                                            rfl
                                          exact norm_ (by simp only [putAll, Act.put, List.setIfInBounds_toArray, List.set_cons_zero, List.set_cons_succ]) (hCont (.slice Ao45 y159.length co45, v163, v167) _ ⟨hHeld, (by (with_reducible repeat (first | apply Kd.R_alloc | apply Kd.R_drewN | apply Kd.R_drew)); exact Kd.R_mono HO161.out (fun _ hk => hk.2)), (by (with_reducible repeat (first | apply Kd.R_alloc | apply Kd.R_drewN | apply Kd.R_drew)); exact HO164.out), (by (with_reducible repeat (first | apply Kd.R_alloc | apply Kd.R_drewN | apply Kd.R_drew)); exact Kd.R_mono HO168.out (fun _ hk => hk.2)), (by (with_reducible repeat (first | apply Kd.R_alloc | apply Kd.R_drewN | apply Kd.R_drew)); exact Kd.R_mono HO_10.out (fun _ hk => hk.2)), (by repeat (first | (with_reducible first | exact HB.out | apply below_alloc | apply pw_below_drewN | apply below_drew1) | exact HB.out))⟩)
                                      · skip
                                        refine Kd.R_lit_step k39 _ 39 ?hg (N := 93) ?hd (xs := ([(⟨false, rdOf ByteArray.empty l1 x11_3, 0, 0, false⟩ : S39)] : List (S39))) (inner := [.bool false, .string (rdOf ByteArray.empty l1 x11_3), .int .i64 0, .float .f64 0, .bool false]) (ok := fun _ => True) (okp := fun _ => True) ?hr ?hp (fun _ hk => hk) trivial (Below.refl _ _) (Nat.le_refl _) (by simp) ?_; (case hd => rfl); (case hg => rfl); (case hr => first | (go_simp; done) | (go_simp; rfl) | (go_simp; simp [IntKind.wrap_u8]; done)); (case hp => exact (Reps.c5 (show Kd.M k39 _ _ _ (⟨false, rdOf ByteArray.empty l1 x11_3, 0, 0, false⟩ : S39) [.bool false, .string (rdOf ByteArray.empty l1 x11_3), .int .i64 0, .float .f64 0, .bool false] from (k39_mkM _ _ _ (⟨false, rdOf ByteArray.empty l1 x11_3, 0, 0, false⟩ : S39) )) (Reps.none _ _)))
                                        intro v167 w40 ho41 hb hg_ hnew_
                                        clear hg_ hnew_
                                        (first | rw [← Ny166.out] at ho41 | (simp only [Int.reduceToNat] at ho41; rw [← Ny166.out] at ho41))
                                        have n0_ := Aside0.mk (Kd.R_below (by (with_reducible repeat (first | apply Kd.R_alloc | apply Kd.R_drewN | apply Kd.R_drew)); exact HO_9.out) hb)
                                        have n1_ := Aside0.mk (Kd.R_elder' (by (with_reducible repeat (first | apply Kd.R_alloc | apply Kd.R_drewN | apply Kd.R_drew)); exact HO_10.out) (Kd.R_base ho41) hb)
                                        have n2_ := Aside0.mk (Kd.R_lower (Kd.R_new' ho41 (Kd.R_lt (by (with_reducible repeat (first | apply Kd.R_alloc | apply Kd.R_drewN | apply Kd.R_drew)); exact HO_10.out))) (below_size (by repeat (first | (with_reducible first | exact HB.out | apply below_alloc | apply pw_below_drewN | apply below_drew1) | exact HB.out))))
                                        have n3_ := Aside0.mk (below_step (by repeat (first | (with_reducible first | exact HB.out | apply below_alloc | apply pw_below_drewN | apply below_drew1) | exact HB.out)) hb)
                                        clear HO_9
                                        clear HO_10
                                        clear HB
                                        have HO_9 := n0_
                                        have HO_10 := n1_
                                        have HO168 := n2_
                                        have HB := n3_
                                        clear n0_ n1_ n2_ n3_
                                        clear hb ho41
                                        refine hK.out _ _ ⟨((HB.out.cell (World.block_lt_of_cell? w _ hw157_0)).trans hw157_0), ((HB.out.cell (World.block_lt_of_cell? w _ hw165_0)).trans hw165_0)⟩ (fun hHeld => ?_)
                                        clear hK K
                                        refine norm_ (a' := ?_) ?_ ?_
                                        rotate_left
                                        · show Act.put _ (some 93) _ = _
                                          simp only [Act.put, List.setIfInBounds_toArray, List.set_cons_zero, List.set_cons_succ, i64_w, i32_w]
                                          rfl
                                        refine one_ (i := 6) (N := some 85) #[true, true, true, true, true, true, true, false, true, true, true, true, true, true, true, false, false, false] rfl rfl (one_of HT_.out (by kernel_rfl)) (by decide) (fun K hK => ?_)
                                        refine Kd.R_lit_step Kd.string _ 9 ?hg (N := 85) ?hd (xs := ([t158] : List ByteArray)) (inner := [.string t158]) (ok := fun _ => True) (okp := fun _ => True) ?hr ?hp (fun _ hk => hk) trivial (Below.refl _ _) (Nat.le_refl _) (by simp) ?_; (case hd => rfl); (case hg => rfl); (case hr => first | (go_simp; done) | (go_simp; rfl) | (go_simp; simp [IntKind.wrap_u8]; done)); (case hp => exact (Reps.one (show Kd.M Kd.string _ _ _ t158 [.string t158] from rfl) (Reps.none _ _)))
                                        intro v160 w42 ho43 hb hg_ hnew_
                                        clear hg_ hnew_
                                        (first | rw [← Ny159.out] at ho43 | (simp only [Int.reduceToNat] at ho43; rw [← Ny159.out] at ho43))
                                        have n0_ := Aside0.mk (Kd.R_elder' (by (with_reducible repeat (first | apply Kd.R_alloc | apply Kd.R_drewN | apply Kd.R_drew)); exact HO_9.out) (Kd.R_base ho43) hb)
                                        have n1_ := Aside0.mk (Kd.R_below (by (with_reducible repeat (first | apply Kd.R_alloc | apply Kd.R_drewN | apply Kd.R_drew)); exact HO_10.out) hb)
                                        have n2_ := Aside0.mk (Kd.R_below (by (with_reducible repeat (first | apply Kd.R_alloc | apply Kd.R_drewN | apply Kd.R_drew)); exact HO168.out) hb)
                                        have n3_ := Aside0.mk (Kd.R_lower (Kd.R_new' ho43 (Kd.R_lt (by (with_reducible repeat (first | apply Kd.R_alloc | apply Kd.R_drewN | apply Kd.R_drew)); exact HO_9.out))) (below_size (by repeat (first | (with_reducible first | exact HB.out | apply below_alloc | apply pw_below_drewN | apply below_drew1) | exact HB.out))))
                                        have n4_ := Aside0.mk (below_step (by repeat (first | (with_reducible first | exact HB.out | apply below_alloc | apply pw_below_drewN | apply below_drew1) | exact HB.out)) hb)
                                        clear HO_9
                                        clear HO_10
                                        clear HO168
                                        clear HB
                                        have HO_9 := n0_
                                        have HO_10 := n1_
                                        have HO168 := n2_
                                        have HO161 := n3_
                                        have HB := n4_
                                        clear n0_ n1_ n2_ n3_ n4_
                                        clear hb ho43
                                        obtain ⟨Ao45, co45, eo45⟩ := Kd.R_slice HO161.out
                                        (first | subst eo45 | (injection eo45 with f1_ f2_ f3_; have f4_ := f1_.symm; have f5_ := f3_.symm; clear f1_ f2_ f3_; subst f4_; subst f5_))
                                        refine hK.out _ _ ⟨((HB.out.cell (World.block_lt_of_cell? w _ hw157_0)).trans hw157_0), ((HB.out.cell (World.block_lt_of_cell? w _ hw165_0)).trans hw165_0)⟩ (fun hHeld => ?_)
                                        clear hK K
                                        refine norm_ (a' := ?_) ?_ ?_
                                        rotate_left
                                        · show Act.put _ (some 85) _ = _
                                          simp only [Act.put, List.setIfInBounds_toArray, List.set_cons_zero, List.set_cons_succ, i64_w, i32_w]
                                          rfl
                                        refine one_ (i := 7) (N := some 86) #[true, true, true, true, true, true, true, true, true, true, true, true, true, true, true, false, false, false] rfl rfl (one_of HT_.out (by kernel_rfl)) (by decide) (fun K hK => ?_)
                                        refine Kd.R_append_rows_step Kd.string (w0 := w) w.heap.size (by rfl) (.tmp 79) (.tmp 85) 32 9 (.string ⟨#[]⟩) 16 rfl Try.underlying32 info9 rfl (by decide) (by omega) (.slice Ao36 x9_3.length co36) x9_3 y159 _ _ _ (fun k_ => some k_ ≠ (.slice Ao45 y159.length co45 : Value).ownBlock) (fun _ => False) rfl rfl ?aO ?aR (fun _ _ h => h) (fun _ h => h.elim) ?aF ?aB ?aS ?aL ?_
                                        (case aR => repeat (first | exact (Kd.R_reads' HO161.out).2.2 | (with_reducible refine Kd.C_alloc ?_ _) | (with_reducible refine Kd.C_drewN ?_ _) | (with_reducible refine Kd.C_drew ?_)))
                                        (case aB => exact (by repeat (first | (with_reducible first | exact HB.out | apply below_alloc | apply pw_below_drewN | apply below_drew1) | exact HB.out)))
                                        (case aF => exact (fun k_ hk => Kd.fresh' (Kd.R_lt (by (with_reducible repeat (first | apply Kd.R_alloc | apply Kd.R_drewN | apply Kd.R_drew)); exact HO161.out)) k_ hk))
                                        (case aO => exact (by (with_reducible repeat (first | apply Kd.R_alloc | apply Kd.R_drewN | apply Kd.R_drew)); exact Kd.R_mono HO_9.out (fun _ hk => hk.2)))
                                        (case aS => exact (below_size (by repeat (first | (with_reducible first | exact HB.out | apply below_alloc | apply pw_below_drewN | apply below_drew1) | exact HB.out))))
                                        (case aL => have := LMc34.out; omega)
                                        intro v163 w44 ho hb hg hat
                                        rw [← Ny162.out] at ho
                                        have n0_ := Aside0.mk (Kd.R_over' (by (with_reducible repeat (first | apply Kd.R_alloc | apply Kd.R_drewN | apply Kd.R_drew)); exact HO_10.out) (Kd.R_typed (by (with_reducible repeat (first | apply Kd.R_alloc | apply Kd.R_drewN | apply Kd.R_drew)); exact HO_9.out)) (by decide) hg)
                                        have n1_ := Aside0.mk (Kd.R_over' (by (with_reducible repeat (first | apply Kd.R_alloc | apply Kd.R_drewN | apply Kd.R_drew)); exact HO168.out) (Kd.R_typed (by (with_reducible repeat (first | apply Kd.R_alloc | apply Kd.R_drewN | apply Kd.R_drew)); exact HO_9.out)) (by decide) hg)
                                        have n2_ := Aside0.mk (Kd.R_after (ok := (fun _ => True)) (by (with_reducible repeat (first | apply Kd.R_alloc | apply Kd.R_drewN | apply Kd.R_drew)); exact HO161.out) hg hat)
                                        have n3_ := Aside0.mk (hb)
                                        have n4_ := Aside0.mk (ho)
                                        clear HO_10
                                        clear HO168
                                        clear HO161
                                        clear HB
                                        clear HO_9
                                        have HO_10 := n0_
                                        have HO168 := n1_
                                        have HO161 := n2_
                                        have HB := n3_
                                        have HO164 := n4_
                                        clear n0_ n1_ n2_ n3_ n4_
                                        clear ho hb hg hat
                                        refine hK.out _ _ ⟨((HB.out.cell (World.block_lt_of_cell? w _ hw157_0)).trans hw157_0), ((HB.out.cell (World.block_lt_of_cell? w _ hw165_0)).trans hw165_0)⟩ (fun hHeld => ?_)
                                        clear hK K
                                        refine norm_ (a' := ?_) ?_ ?_
                                        rotate_left
                                        · show Act.put _ (some 86) _ = _
                                          simp only [Act.put, List.setIfInBounds_toArray, List.set_cons_zero, List.set_cons_succ, i64_w, i32_w]
                                          rfl
                                        exact norm_ (by simp only [putAll, Act.put, List.setIfInBounds_toArray, List.set_cons_zero, List.set_cons_succ]) (hCont (.slice Ao45 y159.length co45, v163, v167) _ ⟨hHeld, (by (with_reducible repeat (first | apply Kd.R_alloc | apply Kd.R_drewN | apply Kd.R_drew)); exact Kd.R_mono HO161.out (fun _ hk => hk.2)), (by (with_reducible repeat (first | apply Kd.R_alloc | apply Kd.R_drewN | apply Kd.R_drew)); exact HO164.out), (by (with_reducible repeat (first | apply Kd.R_alloc | apply Kd.R_drewN | apply Kd.R_drew)); exact Kd.R_mono HO168.out (fun _ hk => hk.2)), (by (with_reducible repeat (first | apply Kd.R_alloc | apply Kd.R_drewN | apply Kd.R_drew)); exact Kd.R_mono HO_10.out (fun _ hk => hk.2)), (by repeat (first | (with_reducible first | exact HB.out | apply below_alloc | apply pw_below_drewN | apply below_drew1) | exact HB.out))⟩)
                                    · skip
                                      refine Kd.R_lit_step k39 _ 39 ?hg (N := 93) ?hd (xs := ([(⟨false, rdOf ByteArray.empty l1 x11_3, 0, 0, false⟩ : S39)] : List (S39))) (inner := [.bool false, .string (rdOf ByteArray.empty l1 x11_3), .int .i64 0, .float .f64 0, .bool false]) (ok := fun _ => True) (okp := fun _ => True) ?hr ?hp (fun _ hk => hk) trivial (Below.refl _ _) (Nat.le_refl _) (by simp) ?_; (case hd => rfl); (case hg => rfl); (case hr => first | (go_simp; done) | (go_simp; rfl) | (go_simp; simp [IntKind.wrap_u8]; done)); (case hp => exact (Reps.c5 (show Kd.M k39 _ _ _ (⟨false, rdOf ByteArray.empty l1 x11_3, 0, 0, false⟩ : S39) [.bool false, .string (rdOf ByteArray.empty l1 x11_3), .int .i64 0, .float .f64 0, .bool false] from (k39_mkM _ _ _ (⟨false, rdOf ByteArray.empty l1 x11_3, 0, 0, false⟩ : S39) )) (Reps.none _ _)))
                                      intro v167 w39 ho40 hb hg_ hnew_
                                      clear hg_ hnew_
                                      (first | rw [← Ny166.out] at ho40 | (simp only [Int.reduceToNat] at ho40; rw [← Ny166.out] at ho40))
                                      have n0_ := Aside0.mk (Kd.R_below (by (with_reducible repeat (first | apply Kd.R_alloc | apply Kd.R_drewN | apply Kd.R_drew)); exact HO_9.out) hb)
                                      have n1_ := Aside0.mk (Kd.R_elder' (by (with_reducible repeat (first | apply Kd.R_alloc | apply Kd.R_drewN | apply Kd.R_drew)); exact HO_10.out) (Kd.R_base ho40) hb)
                                      have n2_ := Aside0.mk (Kd.R_lower (Kd.R_new' ho40 (Kd.R_lt (by (with_reducible repeat (first | apply Kd.R_alloc | apply Kd.R_drewN | apply Kd.R_drew)); exact HO_10.out))) (below_size (by repeat (first | (with_reducible first | exact HB.out | apply below_alloc | apply pw_below_drewN | apply below_drew1) | exact HB.out))))
                                      have n3_ := Aside0.mk (below_step (by repeat (first | (with_reducible first | exact HB.out | apply below_alloc | apply pw_below_drewN | apply below_drew1) | exact HB.out)) hb)
                                      clear HO_9
                                      clear HO_10
                                      clear HB
                                      have HO_9 := n0_
                                      have HO_10 := n1_
                                      have HO168 := n2_
                                      have HB := n3_
                                      clear n0_ n1_ n2_ n3_
                                      clear hb ho40
                                      refine hK.out _ _ ⟨((HB.out.cell (World.block_lt_of_cell? w _ hw157_0)).trans hw157_0), ((HB.out.cell (World.block_lt_of_cell? w _ hw165_0)).trans hw165_0)⟩ (fun hHeld => ?_)
                                      clear hK K
                                      refine norm_ (a' := ?_) ?_ ?_
                                      rotate_left
                                      · show Act.put _ (some 93) _ = _
                                        simp only [Act.put, List.setIfInBounds_toArray, List.set_cons_zero, List.set_cons_succ, i64_w, i32_w]
                                        rfl
                                      refine one_ (i := 5) (N := some 84) #[true, true, true, true, true, true, false, false, true, true, true, true, true, true, true, false, false, false] rfl rfl (one_of HT_.out (by kernel_rfl)) (by decide) (fun K hK => ?_)
                                      refine goes_ Try.func14 (by kernel_rfl) rfl #[.string (rdOf ByteArray.empty l1 x11_3)] (by rfl) rfl rfl (by (try simp only [List.map_toArray, List.map_cons, List.map_nil]); first | done | rfl | (simp only [List.length_drop, List.length_take]; rfl)) ?_
                                      with_reducible refine (spec_Quoted.calls k3 (rdOf ByteArray.empty l1 x11_3) t158 _ A33.out).mono ?_
                                      rintro e w41 ⟨rfl, hb⟩
                                      refine ⟨_, rfl, ?_⟩
                                      have n0_ := Aside0.mk (Kd.R_below (by (with_reducible repeat (first | apply Kd.R_alloc | apply Kd.R_drewN | apply Kd.R_drew)); exact HO_9.out) hb)
                                      have n1_ := Aside0.mk (Kd.R_below (by (with_reducible repeat (first | apply Kd.R_alloc | apply Kd.R_drewN | apply Kd.R_drew)); exact HO_10.out) hb)
                                      have n2_ := Aside0.mk (Kd.R_below (by (with_reducible repeat (first | apply Kd.R_alloc | apply Kd.R_drewN | apply Kd.R_drew)); exact HO168.out) hb)
                                      have n3_ := Aside0.mk (below_step (by repeat (first | (with_reducible first | exact HB.out | apply below_alloc | apply pw_below_drewN | apply below_drew1) | exact HB.out)) hb)
                                      clear HO_9
                                      clear HO_10
                                      clear HO168
                                      clear HB
                                      have HO_9 := n0_
                                      have HO_10 := n1_
                                      have HO168 := n2_
                                      have HB := n3_
                                      clear n0_ n1_ n2_ n3_
                                      (try clear hb)
                                      (try clear hb2)
                                      (try clear hk)
                                      (try clear hi)
                                      refine hK.out _ _ ⟨((HB.out.cell (World.block_lt_of_cell? w _ hw157_0)).trans hw157_0), ((HB.out.cell (World.block_lt_of_cell? w _ hw165_0)).trans hw165_0)⟩ (fun hHeld => ?_)
                                      clear hK K
                                      refine norm_ (a' := ?_) ?_ ?_
                                      rotate_left
                                      · show Act.put _ (some 84) _ = _
                                        simp only [Act.put, List.setIfInBounds_toArray, List.set_cons_zero, List.set_cons_succ, i64_w, i32_w]
                                        rfl
                                      refine one_ (i := 6) (N := some 85) #[true, true, true, true, true, true, true, false, true, true, true, true, true, true, true, false, false, false] rfl rfl (one_of HT_.out (by kernel_rfl)) (by decide) (fun K hK => ?_)
                                      refine Kd.R_lit_step Kd.string _ 9 ?hg (N := 85) ?hd (xs := ([t158] : List ByteArray)) (inner := [.string t158]) (ok := fun _ => True) (okp := fun _ => True) ?hr ?hp (fun _ hk => hk) trivial (Below.refl _ _) (Nat.le_refl _) (by simp) ?_; (case hd => rfl); (case hg => rfl); (case hr => first | (go_simp; done) | (go_simp; rfl) | (go_simp; simp [IntKind.wrap_u8]; done)); (case hp => exact (Reps.one (show Kd.M Kd.string _ _ _ t158 [.string t158] from rfl) (Reps.none _ _)))
                                      intro v160 w42 ho43 hb hg_ hnew_
                                      clear hg_ hnew_
                                      (first | rw [← Ny159.out] at ho43 | (simp only [Int.reduceToNat] at ho43; rw [← Ny159.out] at ho43))
                                      have n0_ := Aside0.mk (Kd.R_elder' (by (with_reducible repeat (first | apply Kd.R_alloc | apply Kd.R_drewN | apply Kd.R_drew)); exact HO_9.out) (Kd.R_base ho43) hb)
                                      have n1_ := Aside0.mk (Kd.R_below (by (with_reducible repeat (first | apply Kd.R_alloc | apply Kd.R_drewN | apply Kd.R_drew)); exact HO_10.out) hb)
                                      have n2_ := Aside0.mk (Kd.R_below (by (with_reducible repeat (first | apply Kd.R_alloc | apply Kd.R_drewN | apply Kd.R_drew)); exact HO168.out) hb)
                                      have n3_ := Aside0.mk (Kd.R_lower (Kd.R_new' ho43 (Kd.R_lt (by (with_reducible repeat (first | apply Kd.R_alloc | apply Kd.R_drewN | apply Kd.R_drew)); exact HO_9.out))) (below_size (by repeat (first | (with_reducible first | exact HB.out | apply below_alloc | apply pw_below_drewN | apply below_drew1) | exact HB.out))))
                                      have n4_ := Aside0.mk (below_step (by repeat (first | (with_reducible first | exact HB.out | apply below_alloc | apply pw_below_drewN | apply below_drew1) | exact HB.out)) hb)
                                      clear HO_9
                                      clear HO_10
                                      clear HO168
                                      clear HB
                                      have HO_9 := n0_
                                      have HO_10 := n1_
                                      have HO168 := n2_
                                      have HO161 := n3_
                                      have HB := n4_
                                      clear n0_ n1_ n2_ n3_ n4_
                                      clear hb ho43
                                      obtain ⟨Ao45, co45, eo45⟩ := Kd.R_slice HO161.out
                                      (first | subst eo45 | (injection eo45 with f1_ f2_ f3_; have f4_ := f1_.symm; have f5_ := f3_.symm; clear f1_ f2_ f3_; subst f4_; subst f5_))
                                      refine hK.out _ _ ⟨((HB.out.cell (World.block_lt_of_cell? w _ hw157_0)).trans hw157_0), ((HB.out.cell (World.block_lt_of_cell? w _ hw165_0)).trans hw165_0)⟩ (fun hHeld => ?_)
                                      clear hK K
                                      refine norm_ (a' := ?_) ?_ ?_
                                      rotate_left
                                      · show Act.put _ (some 85) _ = _
                                        simp only [Act.put, List.setIfInBounds_toArray, List.set_cons_zero, List.set_cons_succ, i64_w, i32_w]
                                        rfl
                                      refine one_ (i := 7) (N := some 86) #[true, true, true, true, true, true, true, true, true, true, true, true, true, true, true, false, false, false] rfl rfl (one_of HT_.out (by kernel_rfl)) (by decide) (fun K hK => ?_)
                                      refine Kd.R_append_rows_step Kd.string (w0 := w) w.heap.size (by rfl) (.tmp 79) (.tmp 85) 32 9 (.string ⟨#[]⟩) 16 rfl Try.underlying32 info9 rfl (by decide) (by omega) (.slice Ao36 x9_3.length co36) x9_3 y159 _ _ _ (fun k_ => some k_ ≠ (.slice Ao45 y159.length co45 : Value).ownBlock) (fun _ => False) rfl rfl ?aO ?aR (fun _ _ h => h) (fun _ h => h.elim) ?aF ?aB ?aS ?aL ?_
                                      (case aR => repeat (first | exact (Kd.R_reads' HO161.out).2.2 | (with_reducible refine Kd.C_alloc ?_ _) | (with_reducible refine Kd.C_drewN ?_ _) | (with_reducible refine Kd.C_drew ?_)))
                                      (case aB => exact (by repeat (first | (with_reducible first | exact HB.out | apply below_alloc | apply pw_below_drewN | apply below_drew1) | exact HB.out)))
                                      (case aF => exact (fun k_ hk => Kd.fresh' (Kd.R_lt (by (with_reducible repeat (first | apply Kd.R_alloc | apply Kd.R_drewN | apply Kd.R_drew)); exact HO161.out)) k_ hk))
                                      (case aO => exact (by (with_reducible repeat (first | apply Kd.R_alloc | apply Kd.R_drewN | apply Kd.R_drew)); exact Kd.R_mono HO_9.out (fun _ hk => hk.2)))
                                      (case aS => exact (below_size (by repeat (first | (with_reducible first | exact HB.out | apply below_alloc | apply pw_below_drewN | apply below_drew1) | exact HB.out))))
                                      (case aL => have := LMc34.out; omega)
                                      intro v163 w44 ho hb hg hat
                                      rw [← Ny162.out] at ho
                                      have n0_ := Aside0.mk (Kd.R_over' (by (with_reducible repeat (first | apply Kd.R_alloc | apply Kd.R_drewN | apply Kd.R_drew)); exact HO_10.out) (Kd.R_typed (by (with_reducible repeat (first | apply Kd.R_alloc | apply Kd.R_drewN | apply Kd.R_drew)); exact HO_9.out)) (by decide) hg)
                                      have n1_ := Aside0.mk (Kd.R_over' (by (with_reducible repeat (first | apply Kd.R_alloc | apply Kd.R_drewN | apply Kd.R_drew)); exact HO168.out) (Kd.R_typed (by (with_reducible repeat (first | apply Kd.R_alloc | apply Kd.R_drewN | apply Kd.R_drew)); exact HO_9.out)) (by decide) hg)
                                      have n2_ := Aside0.mk (Kd.R_after (ok := (fun _ => True)) (by (with_reducible repeat (first | apply Kd.R_alloc | apply Kd.R_drewN | apply Kd.R_drew)); exact HO161.out) hg hat)
                                      have n3_ := Aside0.mk (hb)
                                      have n4_ := Aside0.mk (ho)
                                      clear HO_10
                                      clear HO168
                                      clear HO161
                                      clear HB
                                      clear HO_9
                                      have HO_10 := n0_
                                      have HO168 := n1_
                                      have HO161 := n2_
                                      have HB := n3_
                                      have HO164 := n4_
                                      clear n0_ n1_ n2_ n3_ n4_
                                      clear ho hb hg hat
                                      refine hK.out _ _ ⟨((HB.out.cell (World.block_lt_of_cell? w _ hw157_0)).trans hw157_0), ((HB.out.cell (World.block_lt_of_cell? w _ hw165_0)).trans hw165_0)⟩ (fun hHeld => ?_)
                                      clear hK K
                                      refine norm_ (a' := ?_) ?_ ?_
                                      rotate_left
                                      · show Act.put _ (some 86) _ = _
                                        simp only [Act.put, List.setIfInBounds_toArray, List.set_cons_zero, List.set_cons_succ, i64_w, i32_w]
                                        rfl
                                      exact norm_ (by simp only [putAll, Act.put, List.setIfInBounds_toArray, List.set_cons_zero, List.set_cons_succ]) (hCont (.slice Ao45 y159.length co45, v163, v167) _ ⟨hHeld, (by (with_reducible repeat (first | apply Kd.R_alloc | apply Kd.R_drewN | apply Kd.R_drew)); exact Kd.R_mono HO161.out (fun _ hk => hk.2)), (by (with_reducible repeat (first | apply Kd.R_alloc | apply Kd.R_drewN | apply Kd.R_drew)); exact HO164.out), (by (with_reducible repeat (first | apply Kd.R_alloc | apply Kd.R_drewN | apply Kd.R_drew)); exact Kd.R_mono HO168.out (fun _ hk => hk.2)), (by (with_reducible repeat (first | apply Kd.R_alloc | apply Kd.R_drewN | apply Kd.R_drew)); exact Kd.R_mono HO_10.out (fun _ hk => hk.2)), (by repeat (first | (with_reducible first | exact HB.out | apply below_alloc | apply pw_below_drewN | apply below_drew1) | exact HB.out))⟩)
                                  rintro ⟨v160, v163, v167⟩ w46 ⟨hS_, h0_, h1_, h2_, h3_, h4_⟩
                                  have n0_ : Aside0 (Kd.R Kd.string 9 w46 w.heap.size (fun k_ => some k_ ≠ (v163 : Value).ownBlock) v160 y159) := ⟨h0_⟩
                                  have n1_ : Aside0 (Kd.R Kd.string 9 w46 w.heap.size (fun k_ => some k_ ≠ (v160 : Value).ownBlock) v163 y162) := ⟨h1_⟩
                                  have n2_ : Aside0 (Kd.R k39 39 w46 w.heap.size (fun k_ => some k_ ≠ (.slice Ao37 x10_3.length co37 : Value).ownBlock) v167 y166) := ⟨h2_⟩
                                  have n3_ : Aside0 (Kd.R k39 39 w46 w.heap.size (fun k_ => some k_ ≠ (v167 : Value).ownBlock) (.slice Ao37 x10_3.length co37) x10_3) := ⟨h3_⟩
                                  have n4_ : Aside0 (Below w.heap.size w w46) := ⟨h4_⟩
                                  clear HO_9
                                  clear HO_10
                                  clear HB
                                  clear h0_ h1_ h2_ h3_ h4_
                                  have HO161 := n0_
                                  have HO164 := n1_
                                  have HO168 := n2_
                                  have HO_10 := n3_
                                  have HB := n4_
                                  clear n0_ n1_ n2_ n3_ n4_
                                  have hHeld : w46.cell? (ad143.add (x11_3).toNat) = some (.string (rdOf ByteArray.empty l1 x11_3)) ∧ w46.cell? (ad143.add (x11_3).toNat) = some (.string (rdOf ByteArray.empty l1 x11_3)) := hS_
                                  obtain ⟨Ao48, co48, eo48⟩ := Kd.R_slice HO168.out
                                  (first | subst eo48 | (injection eo48 with f1_ f2_ f3_; have f4_ := f1_.symm; have f5_ := f3_.symm; clear f1_ f2_ f3_; subst f4_; subst f5_))
                                  refine norm_ (a' := ?_) ?_ ?_
                                  rotate_left
                                  · simp only [putAll, Act.put, List.setIfInBounds_toArray, List.set_cons_zero, List.set_cons_succ]
                                    rfl
                                  refine one_ (i := 15) (N := some 94) #[true, true, true, true, true, true, true, true, true, true, true, true, true, true, true, true, false, false] rfl rfl (one_of HT_.out (by kernel_rfl)) (by decide) (fun K hK => ?_)
                                  refine Kd.R_append_rows_step k39 (w0 := w) w.heap.size (by rfl) (.tmp 87) (.tmp 93) 24 39 (.agg #[(.bool false), (.string ⟨#[]⟩), (.int .i64 0), (.float .f64 0), (.bool false)]) 48 rfl Try.underlying24 info39 rfl (by decide) (by omega) (.slice Ao37 x10_3.length co37) x10_3 y166 _ _ _ (fun k_ => some k_ ≠ (.slice Ao48 y166.length co48 : Value).ownBlock) (fun _ => False) rfl rfl ?aO ?aR (fun _ _ h => h) (fun _ h => h.elim) ?aF ?aB ?aS ?aL ?_
                                  (case aR => repeat (first | exact (Kd.R_reads' HO168.out).2.2 | (with_reducible refine Kd.C_alloc ?_ _) | (with_reducible refine Kd.C_drewN ?_ _) | (with_reducible refine Kd.C_drew ?_)))
                                  (case aB => exact (by repeat (first | (with_reducible first | exact HB.out | apply below_alloc | apply pw_below_drewN | apply below_drew1) | exact HB.out)))
                                  (case aF => exact (fun k_ hk => Kd.fresh' (Kd.R_lt (by (with_reducible repeat (first | apply Kd.R_alloc | apply Kd.R_drewN | apply Kd.R_drew)); exact HO168.out)) k_ hk))
                                  (case aO => exact (by (with_reducible repeat (first | apply Kd.R_alloc | apply Kd.R_drewN | apply Kd.R_drew)); exact HO_10.out))
                                  (case aS => exact (below_size (by repeat (first | (with_reducible first | exact HB.out | apply below_alloc | apply pw_below_drewN | apply below_drew1) | exact HB.out))))
                                  (case aL => have := LMc35.out; omega)
                                  intro v170 w47 ho hb hg hat
                                  rw [← Ny169.out] at ho
                                  have n0_ := Aside0.mk (Kd.R_over' (by (with_reducible repeat (first | apply Kd.R_alloc | apply Kd.R_drewN | apply Kd.R_drew)); exact HO161.out) (Kd.R_typed (by (with_reducible repeat (first | apply Kd.R_alloc | apply Kd.R_drewN | apply Kd.R_drew)); exact HO_10.out)) (by decide) hg)
                                  have n1_ := Aside0.mk (Kd.R_over' (by (with_reducible repeat (first | apply Kd.R_alloc | apply Kd.R_drewN | apply Kd.R_drew)); exact HO164.out) (Kd.R_typed (by (with_reducible repeat (first | apply Kd.R_alloc | apply Kd.R_drewN | apply Kd.R_drew)); exact HO_10.out)) (by decide) hg)
                                  have n2_ := Aside0.mk (Kd.R_after (ok := (fun _ => True)) (by (with_reducible repeat (first | apply Kd.R_alloc | apply Kd.R_drewN | apply Kd.R_drew)); exact Kd.R_mono HO168.out (fun _ hk => ⟨trivial, hk⟩)) hg hat)
                                  have n3_ := Aside0.mk (hb)
                                  have n4_ := Aside0.mk (ho)
                                  clear HO161
                                  clear HO164
                                  clear HO168
                                  clear HB
                                  clear HO_10
                                  have HO161 := n0_
                                  have HO164 := n1_
                                  have HO168 := n2_
                                  have HB := n3_
                                  have HO171 := n4_
                                  clear n0_ n1_ n2_ n3_ n4_
                                  clear ho hb hg hat
                                  refine hK.out _ _ ⟨((HB.out.cell (World.block_lt_of_cell? w _ hw157_0)).trans hw157_0), ((HB.out.cell (World.block_lt_of_cell? w _ hw165_0)).trans hw165_0)⟩ (fun hHeld => ?_)
                                  clear hK K
                                  refine norm_ (a' := ?_) ?_ ?_
                                  rotate_left
                                  · show Act.put _ (some 94) _ = _
                                    simp only [Act.put, List.setIfInBounds_toArray, List.set_cons_zero, List.set_cons_succ, i64_w, i32_w]
                                    rfl
                                  refine pure_ (i := 16) (N := some 9) (v := ?_) (a' := ?_) #[true, true, true, true, true, true, true, true, true, true, true, true, true, true, true, true, true, false] rfl rfl (any_of HT_.out (by kernel_rfl)) (fun _ _ _ h => h) (Or.inl ⟨by rfl, ?_⟩) ?_ ?_
                                  rotate_left
                                  · intro w'
                                    go_simp
                                    with_reducible rfl
                                  rotate_left
                                  · simp only [Act.put, List.setIfInBounds_toArray, List.set_cons_zero, List.set_cons_succ, i64_w, i32_w]
                                    rfl
                                  refine pure_ (i := 17) (N := some 10) (v := ?_) (a' := ?_) #[true, true, true, true, true, true, true, true, true, true, true, true, true, true, true, true, true, true] rfl rfl (any_of HT_.out (by kernel_rfl)) (fun _ _ _ h => h) (Or.inl ⟨by rfl, ?_⟩) ?_ ?_
                                  rotate_left
                                  · intro w'
                                    go_simp
                                    with_reducible rfl
                                  rotate_left
                                  · simp only [Act.put, List.setIfInBounds_toArray, List.set_cons_zero, List.set_cons_succ, i64_w, i32_w]
                                    rfl
                                  refine done_ (done_of HT_.out (by kernel_rfl)) ?_
                                  try go_wp2
                                  go_roundg k3
                                  case measure => have := HJ3.out; have := HJ9.out; have := HK3.out; omega
                                  case rel => exact ⟨(y162), (y169), (wrap64 (x11_3 + 1)), (by first | rfl | (simp; done) | (simp [*]; done)), H', ⟨by have := HJ3.out; have := HJ9.out; have := HK3.out; omega⟩, ⟨by (with_reducible repeat (first | apply Kd.R_alloc | apply Kd.R_drewN | apply Kd.R_drew)); exact Kd.R_mono HO164.out (fun _ hk => trivial)⟩, ⟨by (with_reducible repeat (first | apply Kd.R_alloc | apply Kd.R_drewN | apply Kd.R_drew)); exact Kd.R_mono HO171.out (fun _ hk => trivial)⟩, ⟨by repeat (first | (with_reducible first | exact HB.out | apply below_alloc | apply pw_below_drewN | apply below_drew1) | exact HB.out)⟩⟩
                                · rw [if_neg c35] at H
                                  exact absurd H (by simp)
                              · rw [if_neg c34] at H
                                exact absurd H (by simp)
                          · rw [if_neg c20] at H
                            exact absurd H (by simp)
                      · rw [if_neg c18] at H
                        exact absurd H (by simp)
                    · rw [if_neg c17] at H
                      exact absurd H (by simp)
                  · rw [if_neg c16] at H
                    have c16b0 : decide (x11_3 < t141) = false := decide_eq_false c16
                    clear c16
                    replace H := Option.bind_eq_some_iff.mp H
                    obtain ⟨t172, A490, H⟩ := H
                    replace H : ((impl_Parsed.f t172 (⟨#[44]⟩ : ByteArray)).bind fun bt173 => (if bt173.2.2 = true then ((spec_SameInts.f k3 bt173.1 l0).bind fun t180 => (if t180 = true then ((spec_SameItems.f bt173.2.1 x10_3).bind fun t181 => (some t181)) else (some false))) else (some false))) = some r := H
                    have A49 := Aside0.mk A490
                    clear A490
                    replace H := Option.bind_eq_some_iff.mp H
                    obtain ⟨⟨t173, t174, t175⟩, A500, H⟩ := H
                    replace H : (if t175 = true then ((spec_SameInts.f k3 t173 l0).bind fun t180 => (if t180 = true then ((spec_SameItems.f t174 x10_3).bind fun t181 => (some t181)) else (some false))) else (some false)) = some r := H
                    have A50 := Aside0.mk A500
                    clear A500
                    by_cases c51 : t175 = true
                    · subst c51
                      have H1 : ((spec_SameInts.f k3 t173 l0).bind fun t180 => (if t180 = true then ((spec_SameItems.f t174 x10_3).bind fun t181 => (some t181)) else (some false))) = some r := by rw [if_pos rfl] at H; exact H
                      clear H
                      have H := H1
                      clear H1
                      replace H := Option.bind_eq_some_iff.mp H
                      obtain ⟨t180, A520, H⟩ := H
                      replace H : (if t180 = true then ((spec_SameItems.f t174 x10_3).bind fun t181 => (some t181)) else (some false)) = some r := H
                      have A52 := Aside0.mk A520
                      clear A520
                      by_cases c53 : t180 = true
                      · subst c53
                        have H1 : ((spec_SameItems.f t174 x10_3).bind fun t181 => (some t181)) = some r := by rw [if_pos rfl] at H; exact H
                        clear H
                        have H := H1
                        clear H1
                        replace H := Option.bind_eq_some_iff.mp H
                        obtain ⟨t181, A540, H⟩ := H
                        replace H : (some t181) = some r := H
                        have A54 := Aside0.mk A540
                        clear A540
                        obtain rfl := Option.some.inj H
                        obtain ⟨Ao55, co55, eo55⟩ := Kd.R_slice HO_9.out
                        subst eo55
                        go_wp2_with (first | ((with_reducible refine gate_callee (f := 15) rfl ?_); refine goesL_ (some 98) rfl rfl Try.func15 (by kernel_rfl) rfl #[.slice A0 l0.length c0, .slice Ao55 x9_3.length co55, .string (⟨#[44]⟩ : ByteArray)] rfl (by (try simp only [List.map_toArray, List.map_cons, List.map_nil]); first | done | rfl | (simp only [List.length_drop, List.length_take]; rfl)) ?_; (with_reducible refine (spec_Literal.calls k3 _ _ l0 _ _ x9_3 (⟨#[44]⟩ : ByteArray) t172 _ ?side1 ?side2 ?side3 ?side4 A49.out).mono ?_); (case side1 => repeat (first | exact (Kd.C_below HR0.out HB.out) | (with_reducible refine Kd.C_alloc ?_ _) | (with_reducible refine Kd.C_drewN ?_ _) | (with_reducible refine Kd.C_drew ?_))); (case side2 => exact HC0.out); (case side3 => repeat (first | exact (Kd.R_reads' HO_9.out).2.2 | (with_reducible refine Kd.C_alloc ?_ _) | (with_reducible refine Kd.C_drewN ?_ _) | (with_reducible refine Kd.C_drew ?_))); (case side4 => exact (Kd.R_reads' HO_9.out).2.1); rintro e w56 ⟨rfl, hb⟩; refine ⟨_, rfl, ?_⟩; have n0_ := Aside0.mk (Kd.R_below (by (with_reducible repeat (first | apply Kd.R_alloc | apply Kd.R_drewN | apply Kd.R_drew)); exact HO_9.out) hb); have n1_ := Aside0.mk (Kd.R_below (by (with_reducible repeat (first | apply Kd.R_alloc | apply Kd.R_drewN | apply Kd.R_drew)); exact HO_10.out) hb); have n2_ := Aside0.mk (below_step (by repeat (first | (with_reducible first | exact HB.out | apply below_alloc | apply pw_below_drewN | apply below_drew1) | exact HB.out)) hb); clear HO_9; clear HO_10; clear HB; have HO_9 := n0_; have HO_10 := n1_; have HB := n2_; clear n0_ n1_ n2_; (try clear hb); (try clear hb2); (try clear hk); (try clear hi)) | ((with_reducible refine gate_callee (f := 9) rfl ?_); refine goesL_ (some 99) rfl rfl Try.func9 (by kernel_rfl) rfl #[.string t172, .string (⟨#[44]⟩ : ByteArray)] rfl (by (try simp only [List.map_toArray, List.map_cons, List.map_nil]); first | done | rfl | (simp only [List.length_drop, List.length_take]; rfl)) ?_; (with_reducible refine (impl_Parsed.calls t172 (⟨#[44]⟩ : ByteArray) t173 t174 true _ A50.out).mono ?_); rintro e w57 ⟨v176, v178, rfl, ho0, ho1, hb⟩; refine ⟨_, rfl, ?_⟩; have n0_ := Aside0.mk (Kd.R_below (by (with_reducible repeat (first | apply Kd.R_alloc | apply Kd.R_drewN | apply Kd.R_drew)); exact HO_9.out) hb); have n1_ := Aside0.mk (Kd.R_elder' (by (with_reducible repeat (first | apply Kd.R_alloc | apply Kd.R_drewN | apply Kd.R_drew)); exact HO_10.out) (Kd.R_base ho1) hb); have n2_ := Aside0.mk (Kd.R_lower ho0 (below_size (by repeat (first | (with_reducible first | exact HB.out | apply below_alloc | apply pw_below_drewN | apply below_drew1) | exact HB.out)))); have n3_ := Aside0.mk (Kd.R_lower (Kd.R_new' ho1 (Kd.R_lt (by (with_reducible repeat (first | apply Kd.R_alloc | apply Kd.R_drewN | apply Kd.R_drew)); exact HO_10.out))) (below_size (by repeat (first | (with_reducible first | exact HB.out | apply below_alloc | apply pw_below_drewN | apply below_drew1) | exact HB.out)))); have n4_ := Aside0.mk (below_step (by repeat (first | (with_reducible first | exact HB.out | apply below_alloc | apply pw_below_drewN | apply below_drew1) | exact HB.out)) hb); clear HO_9; clear HO_10; clear HB; have HO_9 := n0_; have HO_10 := n1_; have HO177 := n2_; have HO179 := n3_; have HB := n4_; clear n0_ n1_ n2_ n3_ n4_; (try clear hb); (try clear hb2); (try clear hk); (try clear hi); (try clear ho0); (try clear ho1); obtain ⟨Ao58, co58, eo58⟩ := Kd.R_slice HO177.out; subst eo58) | (go_at_call 10; (with_reducible refine (spec_SameInts.calls k3 _ _ t173 _ _ l0 true _ ?side1 ?side2 ?side3 ?side4 A52.out).mono ?_); (case side1 => repeat (first | exact (Kd.R_reads' HO177.out).2.2 | (with_reducible refine Kd.C_alloc ?_ _) | (with_reducible refine Kd.C_drewN ?_ _) | (with_reducible refine Kd.C_drew ?_))); (case side2 => exact (Kd.R_reads' HO177.out).2.1); (case side3 => repeat (first | exact (Kd.C_below HR0.out HB.out) | (with_reducible refine Kd.C_alloc ?_ _) | (with_reducible refine Kd.C_drewN ?_ _) | (with_reducible refine Kd.C_drew ?_))); (case side4 => exact HC0.out); rintro e w' ⟨rfl, ⟨nd, rfl⟩⟩; obtain ⟨Ao59, co59, eo59⟩ := Kd.R_slice HO179.out; subst eo59; obtain ⟨Ao60, co60, eo60⟩ := Kd.R_slice HO_10.out; subst eo60) | (go_at_call 11; (with_reducible refine (spec_SameItems.calls _ _ t174 _ _ x10_3 t181 _ ?side1 ?side2 ?side3 ?side4 A54.out).mono ?_); (case side1 => repeat (first | exact (Kd.R_reads' HO179.out).2.2 | (with_reducible refine Kd.C_alloc ?_ _) | (with_reducible refine Kd.C_drewN ?_ _) | (with_reducible refine Kd.C_drew ?_))); (case side2 => exact (Kd.R_reads' HO179.out).2.1); (case side3 => repeat (first | exact (Kd.R_reads' HO_10.out).2.2 | (with_reducible refine Kd.C_alloc ?_ _) | (with_reducible refine Kd.C_drewN ?_ _) | (with_reducible refine Kd.C_drew ?_))); (case side4 => exact (Kd.R_reads' HO_10.out).2.1); rintro e w61 ⟨rfl, hb⟩; have n0_ := Aside0.mk (Kd.R_below (by (with_reducible repeat (first | apply Kd.R_alloc | apply Kd.R_drewN | apply Kd.R_drew)); exact HO_9.out) hb); have n1_ := Aside0.mk (Kd.R_below (by (with_reducible repeat (first | apply Kd.R_alloc | apply Kd.R_drewN | apply Kd.R_drew)); exact HO_10.out) hb); have n2_ := Aside0.mk (Kd.R_below (by (with_reducible repeat (first | apply Kd.R_alloc | apply Kd.R_drewN | apply Kd.R_drew)); exact HO177.out) hb); have n3_ := Aside0.mk (Kd.R_below (by (with_reducible repeat (first | apply Kd.R_alloc | apply Kd.R_drewN | apply Kd.R_drew)); exact HO179.out) hb); have n4_ := Aside0.mk (below_step (by repeat (first | (with_reducible first | exact HB.out | apply below_alloc | apply pw_below_drewN | apply below_drew1) | exact HB.out)) hb); clear HO_9; clear HO_10; clear HO177; clear HO179; clear HB; have HO_9 := n0_; have HO_10 := n1_; have HO177 := n2_; have HO179 := n3_; have HB := n4_; clear n0_ n1_ n2_ n3_ n4_; (try clear hb); (try clear hb2); (try clear hk); (try clear hi)))
                        go_ret
                        exact ⟨by first | rfl | (simp [errW_none, errW_some] <;> rfl) | (simp [*, errW_none, errW_some] <;> rfl), by repeat (first | (with_reducible first | exact HB.out | apply below_alloc | apply pw_below_drewN | apply below_drew1) | exact HB.out)⟩
                      · replace c53 := Bool.eq_false_iff.mpr c53
                        subst c53
                        have H1 : (some false) = some r := by rw [if_neg (show ¬ (false = true) by decide)] at H; exact H
                        clear H
                        have H := H1
                        clear H1
                        obtain rfl := Option.some.inj H
                        obtain ⟨Ao62, co62, eo62⟩ := Kd.R_slice HO_9.out
                        subst eo62
                        go_wp2_with (first | ((with_reducible refine gate_callee (f := 15) rfl ?_); refine goesL_ (some 98) rfl rfl Try.func15 (by kernel_rfl) rfl #[.slice A0 l0.length c0, .slice Ao62 x9_3.length co62, .string (⟨#[44]⟩ : ByteArray)] rfl (by (try simp only [List.map_toArray, List.map_cons, List.map_nil]); first | done | rfl | (simp only [List.length_drop, List.length_take]; rfl)) ?_; (with_reducible refine (spec_Literal.calls k3 _ _ l0 _ _ x9_3 (⟨#[44]⟩ : ByteArray) t172 _ ?side1 ?side2 ?side3 ?side4 A49.out).mono ?_); (case side1 => repeat (first | exact (Kd.C_below HR0.out HB.out) | (with_reducible refine Kd.C_alloc ?_ _) | (with_reducible refine Kd.C_drewN ?_ _) | (with_reducible refine Kd.C_drew ?_))); (case side2 => exact HC0.out); (case side3 => repeat (first | exact (Kd.R_reads' HO_9.out).2.2 | (with_reducible refine Kd.C_alloc ?_ _) | (with_reducible refine Kd.C_drewN ?_ _) | (with_reducible refine Kd.C_drew ?_))); (case side4 => exact (Kd.R_reads' HO_9.out).2.1); rintro e w63 ⟨rfl, hb⟩; refine ⟨_, rfl, ?_⟩; have n0_ := Aside0.mk (Kd.R_below (by (with_reducible repeat (first | apply Kd.R_alloc | apply Kd.R_drewN | apply Kd.R_drew)); exact HO_9.out) hb); have n1_ := Aside0.mk (Kd.R_below (by (with_reducible repeat (first | apply Kd.R_alloc | apply Kd.R_drewN | apply Kd.R_drew)); exact HO_10.out) hb); have n2_ := Aside0.mk (below_step (by repeat (first | (with_reducible first | exact HB.out | apply below_alloc | apply pw_below_drewN | apply below_drew1) | exact HB.out)) hb); clear HO_9; clear HO_10; clear HB; have HO_9 := n0_; have HO_10 := n1_; have HB := n2_; clear n0_ n1_ n2_; (try clear hb); (try clear hb2); (try clear hk); (try clear hi)) | ((with_reducible refine gate_callee (f := 9) rfl ?_); refine goesL_ (some 99) rfl rfl Try.func9 (by kernel_rfl) rfl #[.string t172, .string (⟨#[44]⟩ : ByteArray)] rfl (by (try simp only [List.map_toArray, List.map_cons, List.map_nil]); first | done | rfl | (simp only [List.length_drop, List.length_take]; rfl)) ?_; (with_reducible refine (impl_Parsed.calls t172 (⟨#[44]⟩ : ByteArray) t173 t174 true _ A50.out).mono ?_); rintro e w64 ⟨v176, v178, rfl, ho0, ho1, hb⟩; refine ⟨_, rfl, ?_⟩; have n0_ := Aside0.mk (Kd.R_below (by (with_reducible repeat (first | apply Kd.R_alloc | apply Kd.R_drewN | apply Kd.R_drew)); exact HO_9.out) hb); have n1_ := Aside0.mk (Kd.R_elder' (by (with_reducible repeat (first | apply Kd.R_alloc | apply Kd.R_drewN | apply Kd.R_drew)); exact HO_10.out) (Kd.R_base ho1) hb); have n2_ := Aside0.mk (Kd.R_lower ho0 (below_size (by repeat (first | (with_reducible first | exact HB.out | apply below_alloc | apply pw_below_drewN | apply below_drew1) | exact HB.out)))); have n3_ := Aside0.mk (Kd.R_lower (Kd.R_new' ho1 (Kd.R_lt (by (with_reducible repeat (first | apply Kd.R_alloc | apply Kd.R_drewN | apply Kd.R_drew)); exact HO_10.out))) (below_size (by repeat (first | (with_reducible first | exact HB.out | apply below_alloc | apply pw_below_drewN | apply below_drew1) | exact HB.out)))); have n4_ := Aside0.mk (below_step (by repeat (first | (with_reducible first | exact HB.out | apply below_alloc | apply pw_below_drewN | apply below_drew1) | exact HB.out)) hb); clear HO_9; clear HO_10; clear HB; have HO_9 := n0_; have HO_10 := n1_; have HO177 := n2_; have HO179 := n3_; have HB := n4_; clear n0_ n1_ n2_ n3_ n4_; (try clear hb); (try clear hb2); (try clear hk); (try clear hi); (try clear ho0); (try clear ho1); obtain ⟨Ao65, co65, eo65⟩ := Kd.R_slice HO177.out; subst eo65) | (go_at_call 10; (with_reducible refine (spec_SameInts.calls k3 _ _ t173 _ _ l0 false _ ?side1 ?side2 ?side3 ?side4 A52.out).mono ?_); (case side1 => repeat (first | exact (Kd.R_reads' HO177.out).2.2 | (with_reducible refine Kd.C_alloc ?_ _) | (with_reducible refine Kd.C_drewN ?_ _) | (with_reducible refine Kd.C_drew ?_))); (case side2 => exact (Kd.R_reads' HO177.out).2.1); (case side3 => repeat (first | exact (Kd.C_below HR0.out HB.out) | (with_reducible refine Kd.C_alloc ?_ _) | (with_reducible refine Kd.C_drewN ?_ _) | (with_reducible refine Kd.C_drew ?_))); (case side4 => exact HC0.out); rintro e w' ⟨rfl, ⟨nd, rfl⟩⟩))
                        go_ret
                        exact ⟨by first | rfl | (simp [errW_none, errW_some] <;> rfl) | (simp [*, errW_none, errW_some] <;> rfl), by repeat (first | (with_reducible first | exact HB.out | apply below_alloc | apply pw_below_drewN | apply below_drew1) | exact HB.out)⟩
                    · replace c51 := Bool.eq_false_iff.mpr c51
                      subst c51
                      have H1 : (some false) = some r := by rw [if_neg (show ¬ (false = true) by decide)] at H; exact H
                      clear H
                      have H := H1
                      clear H1
                      obtain rfl := Option.some.inj H
                      obtain ⟨Ao66, co66, eo66⟩ := Kd.R_slice HO_9.out
                      subst eo66
                      go_wp2_with (first | ((with_reducible refine gate_callee (f := 15) rfl ?_); refine goesL_ (some 98) rfl rfl Try.func15 (by kernel_rfl) rfl #[.slice A0 l0.length c0, .slice Ao66 x9_3.length co66, .string (⟨#[44]⟩ : ByteArray)] rfl (by (try simp only [List.map_toArray, List.map_cons, List.map_nil]); first | done | rfl | (simp only [List.length_drop, List.length_take]; rfl)) ?_; (with_reducible refine (spec_Literal.calls k3 _ _ l0 _ _ x9_3 (⟨#[44]⟩ : ByteArray) t172 _ ?side1 ?side2 ?side3 ?side4 A49.out).mono ?_); (case side1 => repeat (first | exact (Kd.C_below HR0.out HB.out) | (with_reducible refine Kd.C_alloc ?_ _) | (with_reducible refine Kd.C_drewN ?_ _) | (with_reducible refine Kd.C_drew ?_))); (case side2 => exact HC0.out); (case side3 => repeat (first | exact (Kd.R_reads' HO_9.out).2.2 | (with_reducible refine Kd.C_alloc ?_ _) | (with_reducible refine Kd.C_drewN ?_ _) | (with_reducible refine Kd.C_drew ?_))); (case side4 => exact (Kd.R_reads' HO_9.out).2.1); rintro e w67 ⟨rfl, hb⟩; refine ⟨_, rfl, ?_⟩; have n0_ := Aside0.mk (Kd.R_below (by (with_reducible repeat (first | apply Kd.R_alloc | apply Kd.R_drewN | apply Kd.R_drew)); exact HO_9.out) hb); have n1_ := Aside0.mk (Kd.R_below (by (with_reducible repeat (first | apply Kd.R_alloc | apply Kd.R_drewN | apply Kd.R_drew)); exact HO_10.out) hb); have n2_ := Aside0.mk (below_step (by repeat (first | (with_reducible first | exact HB.out | apply below_alloc | apply pw_below_drewN | apply below_drew1) | exact HB.out)) hb); clear HO_9; clear HO_10; clear HB; have HO_9 := n0_; have HO_10 := n1_; have HB := n2_; clear n0_ n1_ n2_; (try clear hb); (try clear hb2); (try clear hk); (try clear hi)) | ((with_reducible refine gate_callee (f := 9) rfl ?_); refine goesL_ (some 99) rfl rfl Try.func9 (by kernel_rfl) rfl #[.string t172, .string (⟨#[44]⟩ : ByteArray)] rfl (by (try simp only [List.map_toArray, List.map_cons, List.map_nil]); first | done | rfl | (simp only [List.length_drop, List.length_take]; rfl)) ?_; (with_reducible refine (impl_Parsed.calls t172 (⟨#[44]⟩ : ByteArray) t173 t174 false _ A50.out).mono ?_); rintro e w68 ⟨v176, v178, rfl, ho0, ho1, hb⟩; refine ⟨_, rfl, ?_⟩; have n0_ := Aside0.mk (Kd.R_below (by (with_reducible repeat (first | apply Kd.R_alloc | apply Kd.R_drewN | apply Kd.R_drew)); exact HO_9.out) hb); have n1_ := Aside0.mk (Kd.R_elder' (by (with_reducible repeat (first | apply Kd.R_alloc | apply Kd.R_drewN | apply Kd.R_drew)); exact HO_10.out) (Kd.R_base ho1) hb); have n2_ := Aside0.mk (Kd.R_lower ho0 (below_size (by repeat (first | (with_reducible first | exact HB.out | apply below_alloc | apply pw_below_drewN | apply below_drew1) | exact HB.out)))); have n3_ := Aside0.mk (Kd.R_lower (Kd.R_new' ho1 (Kd.R_lt (by (with_reducible repeat (first | apply Kd.R_alloc | apply Kd.R_drewN | apply Kd.R_drew)); exact HO_10.out))) (below_size (by repeat (first | (with_reducible first | exact HB.out | apply below_alloc | apply pw_below_drewN | apply below_drew1) | exact HB.out)))); have n4_ := Aside0.mk (below_step (by repeat (first | (with_reducible first | exact HB.out | apply below_alloc | apply pw_below_drewN | apply below_drew1) | exact HB.out)) hb); clear HO_9; clear HO_10; clear HB; have HO_9 := n0_; have HO_10 := n1_; have HO177 := n2_; have HO179 := n3_; have HB := n4_; clear n0_ n1_ n2_ n3_ n4_; (try clear hb); (try clear hb2); (try clear hk); (try clear hi); (try clear ho0); (try clear ho1)))
                      go_ret
                      exact ⟨by first | rfl | (simp [errW_none, errW_some] <;> rfl) | (simp [*, errW_none, errW_some] <;> rfl), by repeat (first | (with_reducible first | exact HB.out | apply below_alloc | apply pw_below_drewN | apply below_drew1) | exact HB.out)⟩

end Go.Proofs.Ythcikkjjegfblaa.P
