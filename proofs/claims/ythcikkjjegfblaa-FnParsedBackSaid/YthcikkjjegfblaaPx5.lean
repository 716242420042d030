-- Written by the program wip/myprint.py of this session, over the kit's print of the translation. Lean checks it.
import Derived.Test.YthcikkjjegfblaaPx0
namespace Go.Proofs.Ythcikkjjegfblaa.P
open Go.RowKit Go.Proofs.YthcikkjjegfblaaW.PrintWords Go.Proofs.YthcikkjjegfblaaW.PrintLast Go.Proofs.YthcikkjjegfblaaW.PrintMore
attribute [local go_sem] max2_int min2_int max_two min_two max_three min_three max_four min_four   -- for this text's walks alone
set_option linter.unusedVariables false
set_option linter.unusedSimpArgs false

/-! ### spec_Literal: function 15 -/
mutual
def spec_Literal.l0 : Nat → List Int → List ByteArray → ByteArray → ByteArray → Int → Int → Option (ByteArray)
  | 0, _, _, _, _, _, _ => none
  | k + 1, x0, x1, x2, x7, x8, x9 => if 0 < (x0.length : Int) then (if x9 < (rd x0 0) then (if x9 > 0 then (if x7.size + x2.size ≤ 9223372036854775807 then (if (x0.length : Int) = 1 then (if 0 ≤ x9 then (if x9 < (x1.length : Int) then (if (x7 ++ x2).size + (rdOf ByteArray.empty x1 x9).size ≤ 9223372036854775807 then (spec_Literal.l0 k x0 x1 x2 ((x7 ++ x2) ++ (rdOf ByteArray.empty x1 x9)) x8 (wrap64 (x9 + 1))) else (none)) else (none)) else (none)) else (if 1 ≤ (x0.length : Int) then (if 0 ≤ (wrap64 (x9 * x8)) then (if (wrap64 (x9 * x8)) ≤ (wrap64 ((wrap64 (x9 + 1)) * x8)) then (if (wrap64 ((wrap64 (x9 + 1)) * x8)) ≤ (x1.length : Int) then ((spec_Literal.f k (x0.drop 1) ((x1.take ((wrap64 ((wrap64 (x9 + 1)) * x8)) : Int).toNat).drop ((wrap64 (x9 * x8)) : Int).toNat) x2).bind fun t135 => (if (x7 ++ x2).size + t135.size ≤ 9223372036854775807 then (spec_Literal.l0 k x0 x1 x2 ((x7 ++ x2) ++ t135) x8 (wrap64 (x9 + 1))) else (none))) else (none)) else (none)) else (none)) else (none))) else (none)) else (if (x0.length : Int) = 1 then (if 0 ≤ x9 then (if x9 < (x1.length : Int) then (if x7.size + (rdOf ByteArray.empty x1 x9).size ≤ 9223372036854775807 then (spec_Literal.l0 k x0 x1 x2 (x7 ++ (rdOf ByteArray.empty x1 x9)) x8 (wrap64 (x9 + 1))) else (none)) else (none)) else (none)) else (if 1 ≤ (x0.length : Int) then (if 0 ≤ (wrap64 (x9 * x8)) then (if (wrap64 (x9 * x8)) ≤ (wrap64 ((wrap64 (x9 + 1)) * x8)) then (if (wrap64 ((wrap64 (x9 + 1)) * x8)) ≤ (x1.length : Int) then ((spec_Literal.f k (x0.drop 1) ((x1.take ((wrap64 ((wrap64 (x9 + 1)) * x8)) : Int).toNat).drop ((wrap64 (x9 * x8)) : Int).toNat) x2).bind fun t139 => (if x7.size + t139.size ≤ 9223372036854775807 then (spec_Literal.l0 k x0 x1 x2 (x7 ++ t139) x8 (wrap64 (x9 + 1))) else (none))) else (none)) else (none)) else (none)) else (none)))) else (if x7.size + 1 ≤ 9223372036854775807 then (some (x7 ++ (⟨#[125]⟩ : ByteArray))) else (none))) else (none)
def spec_Literal.f : Nat → List Int → List ByteArray → ByteArray → Option (ByteArray)
  | 0, _, _, _ => none
  | k + 1, l0, l1, a2 => if (l0.length : Int) = 0 then (some (⟨#[123, 125]⟩ : ByteArray)) else (if 0 < (l0.length : Int) then (if (rd l0 0) = 0 then (none) else (spec_Literal.l0 k l0 l1 a2 (⟨#[123]⟩ : ByteArray) (wrap64 ((l1.length : Int) / (rd l0 0))) 0)) else (none))
end
theorem spec_Literal.mono_l : ∀ k, (∀ y0 y1 y2, LeO (spec_Literal.f k y0 y1 y2) (spec_Literal.f (k + 1) y0 y1 y2)) ∧ (∀ y0 y1 y2 y3 y4 y5, LeO (spec_Literal.l0 k y0 y1 y2 y3 y4 y5) (spec_Literal.l0 (k + 1) y0 y1 y2 y3 y4 y5))
  | 0 => ⟨fun _ _ _ r h => by simp [spec_Literal.f] at h, fun _ _ _ _ _ _ r h => by simp [spec_Literal.l0] at h⟩
  | k + 1 => by
    obtain ⟨ih0, ih1⟩ := spec_Literal.mono_l k
    refine ⟨?_, ?_⟩
    · intro y0 y1 y2
      unfold spec_Literal.f
      repeat' first
      | (with_reducible exact ih0 _ _ _)
      | (with_reducible exact ih1 _ _ _ _ _ _)
      | (with_reducible exact LeO.refl _)
      | (with_reducible exact LeO.none _)
      | (with_reducible refine LeO.ite ?_ ?_)
      | (with_reducible refine LeO.bind ?_ (fun _ => ?_))
      | exact ih0 _ _ _
      | exact ih1 _ _ _ _ _ _
      | exact LeO.none _
      | refine LeO.ite ?_ ?_
      | refine LeO.bind ?_ (fun _ => ?_)
    · intro y0 y1 y2 y3 y4 y5
      unfold spec_Literal.l0
      repeat' first
      | (with_reducible exact ih0 _ _ _)
      | (with_reducible exact ih1 _ _ _ _ _ _)
      | (with_reducible exact LeO.refl _)
      | (with_reducible exact LeO.none _)
      | (with_reducible refine LeO.ite ?_ ?_)
      | (with_reducible refine LeO.bind ?_ (fun _ => ?_))
      | exact ih0 _ _ _
      | exact ih1 _ _ _ _ _ _
      | exact LeO.none _
      | refine LeO.ite ?_ ?_
      | refine LeO.bind ?_ (fun _ => ?_)
theorem spec_Literal.mono : ∀ a0 a1 a2 k, LeO (spec_Literal.f k a0 a1 a2) (spec_Literal.f (k + 1) a0 a1 a2) := by
  intro a0 a1 a2 k
  obtain ⟨ih0, ih1⟩ := spec_Literal.mono_l k
  exact ih0 a0 a1 a2
def spec_Literal.T12 : Bool × List (List Nat × List Nat) := (true, [([], []), ([], []), ([1], [1]), ([], []), ([], []), ([], []), ([4, 5], [4, 5]), ([], []), ([7], [7]), ([], []), ([8, 9], [8, 9]), ([3, 6, 10], [3, 6, 10]), ([], []), ([2, 11, 12], [2, 11, 12]), ([0, 13], [0, 13]), ([14, 13, 0, 1, 2, 3, 4, 5, 6, 7, 8, 9, 10, 11, 12, 13, 14], [0, 14])])
def spec_Literal.B12 : List Nat := [0, 0, 2, 0, 0, 0, 48, 0, 128, 0, 896, 2040, 0, 8190, 16383, 32767]
theorem spec_Literal.tab12 : rtab .any (opsOf Try.f15 12) = spec_Literal.T12 := by kernel_rfl
theorem spec_Literal.bits12 : waitsOk spec_Literal.T12.2 spec_Literal.B12 = true := by kernel_rfl
set_option maxHeartbeats 8000000 in
set_option maxRecDepth 100000 in
theorem spec_Literal.calls (k : Nat) : ∀ (A0 : Option Addr) (c0 : Nat) (l0 : List Int) (A1 : Option Addr) (c1 : Nat) (l1 : List ByteArray) (a2 : ByteArray) (r : ByteArray) (w : World) (hr0 : Kd.C (Kd.int .i64) w A0 l0.length l0) (hc0 : l0.length ≤ c0) (hr1 : Kd.C Kd.string w A1 l1.length l1) (hc1 : l1.length ≤ c1) (h : spec_Literal.f k l0 l1 a2 = some r),
    Calls Try.prog 15 #[.slice A0 l0.length c0, .slice A1 l1.length c1, .string a2] w fun e w' => e = .returned (.string r) ∧ Below w.heap.size w w' := by
  induction k using Nat.strongRecOn with
  | _ k ih =>
  intro A0 c0 l0 A1 c1 l1 a2 r w hr0 hc0 hr1 hc1 h
  cases k with
  | zero => exact absurd h (by simp [spec_Literal.f])
  | succ k =>
  simp only [spec_Literal.f] at h
  have HR0 := Aside0.mk hr0
  have HC0 := Aside0.mk hc0
  clear hr0 hc0
  have HR1 := Aside0.mk hr1
  have HC1 := Aside0.mk hc1
  clear hr1 hc1
  have HB := Aside0.mk (Below.refl w.heap.size w)
  have H : (if (l0.length : Int) = 0 then (some (⟨#[123, 125]⟩ : ByteArray)) else (if 0 < (l0.length : Int) then (if (rd l0 0) = 0 then (none) else (spec_Literal.l0 k l0 l1 a2 (⟨#[123]⟩ : ByteArray) (wrap64 ((l1.length : Int) / (rd l0 0))) 0)) else (none))) = some r := h
  clear h
  by_cases c4 : (l0.length : Int) = 0
  · rw [if_pos c4] at H
    have c4b0 : ((l0.length : Int) == 0) = true := beq_iff_eq.mpr c4
    have c4b1 : ((l0.length : Int) != 0) = false := bne_eq_false_iff_eq.mpr c4
    clear c4
    obtain rfl := Option.some.inj H
    go_enter Try.func15, Try.ntmps15
    go_wp2
    go_ret
    exact ⟨by first | rfl | (simp [errW_none, errW_some] <;> rfl) | (simp [*, errW_none, errW_some] <;> rfl), by repeat (first | (with_reducible first | exact HB.out | apply below_alloc | apply pw_below_drewN | apply below_drew1) | exact HB.out)⟩
  · rw [if_neg c4] at H
    have c4b0 : ((l0.length : Int) == 0) = false := beq_eq_false_iff_ne.mpr c4
    have c4b1 : ((l0.length : Int) != 0) = true := bne_iff_ne.mpr c4
    have c4b2 : ¬ (l0 = []) := fun h_ => c4 (by rw [h_]; rfl)
    by_cases c5 : 0 < (l0.length : Int)
    · rw [if_pos c5] at H
      have c5b0 : decide (0 < (l0.length : Int)) = true := decide_eq_true c5
      have c5b1 : decide (0 < l0.length) = true := decide_eq_true (by omega)
      clear c5
      by_cases c6 : (rd l0 0) = 0
      · rw [if_pos c6] at H
        exact absurd H (by simp)
      · rw [if_neg c6] at H
        have c6b0 : ((rd l0 0) == 0) = false := beq_eq_false_iff_ne.mpr c6
        have c6b1 : ((rd l0 0) != 0) = true := bne_iff_ne.mpr c6
        have H' := Aside0.mk H
        clear H
        have p130 : 0 ≤ (0 : Int) := (by omega)
        have q130 : 0 < (l0.length : Int) := of_decide_eq_true (by first | (with_reducible assumption) | assumption)
        obtain ⟨ad130, e130, hx130_0⟩ := Kd.at_int HR0.out 0 p130 q130
        cases e130
        have qi130 : (0 < l0.length) = True := eq_true (by omega)
        (try rw [show ((0 : Int)).toNat = 0 from rfl] at hx130_0)
        (try rw [Addr.add_zero'] at hx130_0)
        replace p130 := eq_true p130
        replace q130 := eq_true q130
        go_enter Try.func15, Try.ntmps15
        go_wp2
        go_loopg [7, 9] k (fun kq v7 v9 w' => ∃ (x7_1 : ByteArray) (x9_1 : Int), v7 = .string x7_1 ∧ v9 = .int .i64 x9_1 ∧ Aside0 (spec_Literal.l0 kq l0 l1 a2 x7_1 (wrap64 ((l1.length : Int) / (rd l0 0))) x9_1 = some r) ∧ Aside0 (kq ≤ k) ∧ Aside0 (Below w.heap.size w w'))
        case atStart => exact ⟨((⟨#[123]⟩ : ByteArray)), (0), (by first | rfl | (simp; done) | (simp [*]; done)), (by first | rfl | (simp; done) | (simp [*]; done)), H', ⟨Nat.le_refl _⟩, ⟨by repeat (first | (with_reducible first | exact HB.out | apply below_alloc | apply pw_below_drewN | apply below_drew1) | exact HB.out)⟩⟩
        case round =>
          clear H'
          try clear c1
          try clear p1
          try clear q1
          try clear hx1
          try clear qi1
          try clear p2
          try clear c4
          try clear c4b0
          try clear c4b1
          try clear c4b2
          try clear c5
          try clear c5b0
          try clear c5b1
          try clear c6
          try clear c6b0
          try clear c6b1
          try clear p6
          try clear hx130_0
          try clear p130
          try clear q130
          obtain ⟨x7_1, x9_1, rfl, rfl, HA, HK1, HB⟩ := hrel
          cases gk with
          | zero => exact absurd HA.out (by simp [spec_Literal.l0])
          | succ k1 =>
            have H := HA.out
            clear HA
            simp only [spec_Literal.l0] at H
            by_cases c7 : 0 < (l0.length : Int)
            · rw [if_pos c7] at H
              have c7b0 : decide (0 < (l0.length : Int)) = true := decide_eq_true c7
              have c7b1 : decide (0 < l0.length) = true := decide_eq_true (by omega)
              clear c7
              by_cases c8 : x9_1 < (rd l0 0)
              · rw [if_pos c8] at H
                have c8b0 : decide (x9_1 < (rd l0 0)) = true := decide_eq_true c8
                clear c8
                by_cases c9 : x9_1 > 0
                · rw [if_pos c9] at H
                  have c9b0 : decide (0 < x9_1) = true := decide_eq_true c9
                  clear c9
                  by_cases c10 : x7_1.size + a2.size ≤ 9223372036854775807
                  · rw [if_pos c10] at H
                    have c10b0 := eq_true c10
                    have c10b1 : decide (x7_1.size + a2.size ≤ 9223372036854775807) = true := decide_eq_true c10
                    try have c10b2 : (9223372036854775807 < x7_1.size + a2.size) = False := eq_false (Nat.not_lt.2 c10)
                    by_cases c11 : (l0.length : Int) = 1
                    · rw [if_pos c11] at H
                      have c11b0 : ((l0.length : Int) == 1) = true := beq_iff_eq.mpr c11
                      have c11b1 : ((l0.length : Int) != 1) = false := bne_eq_false_iff_eq.mpr c11
                      clear c11
                      by_cases c12 : 0 ≤ x9_1
                      · rw [if_pos c12] at H
                        have c12b0 : decide (0 ≤ x9_1) = true := decide_eq_true c12
                        clear c12
                        by_cases c13 : x9_1 < (l1.length : Int)
                        · rw [if_pos c13] at H
                          have c13b0 : decide (x9_1 < (l1.length : Int)) = true := decide_eq_true c13
                          clear c13
                          by_cases c14 : (x7_1 ++ a2).size + (rdOf ByteArray.empty l1 x9_1).size ≤ 9223372036854775807
                          · rw [if_pos c14] at H
                            have c14b0 := eq_true c14
                            have c14b1 : decide ((x7_1 ++ a2).size + (rdOf ByteArray.empty l1 x9_1).size ≤ 9223372036854775807) = true := decide_eq_true c14
                            try have c14b2 : (9223372036854775807 < (x7_1 ++ a2).size + (rdOf ByteArray.empty l1 x9_1).size) = False := eq_false (Nat.not_lt.2 c14)
                            try have c14b3 : (9223372036854775807 < x7_1.size + a2.size + (rdOf ByteArray.empty l1 x9_1).size) = False := eq_false (by have h_ := c14; simp only [ByteArray.size_append] at h_; omega)
                            have H' := Aside0.mk H
                            clear H
                            have p131 : 0 ≤ (0 : Int) := (by omega)
                            have q131 : 0 < (l0.length : Int) := of_decide_eq_true (by first | (with_reducible assumption) | assumption)
                            obtain ⟨ad131, e131, hx131_0⟩ := Kd.at_int HR0.out 0 p131 q131
                            obtain rfl : ad130 = ad131 := (by injection e131)
                            have qi131 : (0 < l0.length) = True := eq_true (by omega)
                            (try rw [show ((0 : Int)).toNat = 0 from rfl] at hx131_0)
                            (try rw [Addr.add_zero'] at hx131_0)
                            replace hx131_0 := (HB.out.cell (World.block_lt_of_cell? w _ hx131_0)).trans hx131_0
                            replace p131 := eq_true p131
                            replace q131 := eq_true q131
                            have p132 : 0 ≤ (x9_1 : Int) := of_decide_eq_true (by first | (with_reducible assumption) | assumption)
                            have q132 : x9_1 < (l1.length : Int) := of_decide_eq_true (by first | (with_reducible assumption) | assumption)
                            obtain ⟨ad132, e132, hx132_0⟩ := Kd.at_string HR1.out x9_1 p132 q132
                            cases e132
                            replace hx132_0 := (HB.out.cell (World.block_lt_of_cell? w _ hx132_0)).trans hx132_0
                            replace p132 := eq_true p132
                            replace q132 := eq_true q132
                            go_wp2
                            go_roundg k1
                            case measure => have := HK1.out; omega
                            case rel => exact ⟨((x7_1 ++ a2) ++ (rdOf ByteArray.empty l1 x9_1)), (wrap64 (x9_1 + 1)), (by first | rfl | (simp; done) | (simp [*]; done)), (by first | rfl | (simp; done) | (simp [*]; done)), H', ⟨by have := HK1.out; omega⟩, ⟨by repeat (first | (with_reducible first | exact HB.out | apply below_alloc | apply pw_below_drewN | apply below_drew1) | exact HB.out)⟩⟩
                          · rw [if_neg c14] at H
                            exact absurd H (by simp)
                        · rw [if_neg c13] at H
                          exact absurd H (by simp)
                      · rw [if_neg c12] at H
                        exact absurd H (by simp)
                    · rw [if_neg c11] at H
                      have c11b0 : ((l0.length : Int) == 1) = false := beq_eq_false_iff_ne.mpr c11
                      have c11b1 : ((l0.length : Int) != 1) = true := bne_iff_ne.mpr c11
                      by_cases c15 : 1 ≤ (l0.length : Int)
                      · rw [if_pos c15] at H
                        have c15b0 := eq_true c15
                        have c15b1 : decide (1 ≤ (l0.length : Int)) = true := decide_eq_true c15
                        clear c15
                        obtain ⟨ji16, hji16⟩ : ∃ j_ : Int, (wrap64 (x9_1 * (wrap64 ((l1.length : Int) / (rd l0 0))))) = j_ := ⟨_, rfl⟩
                        replace H : (if 0 ≤ (ji16) then (if (ji16) ≤ (wrap64 ((wrap64 (x9_1 + 1)) * (wrap64 ((l1.length : Int) / (rd l0 0))))) then (if (wrap64 ((wrap64 (x9_1 + 1)) * (wrap64 ((l1.length : Int) / (rd l0 0))))) ≤ (l1.length : Int) then ((spec_Literal.f k1 (l0.drop 1) ((l1.take ((wrap64 ((wrap64 (x9_1 + 1)) * (wrap64 ((l1.length : Int) / (rd l0 0))))) : Int).toNat).drop ((ji16) : Int).toNat) a2).bind fun t135 => (if (x7_1 ++ a2).size + t135.size ≤ 9223372036854775807 then (spec_Literal.l0 k1 l0 l1 a2 ((x7_1 ++ a2) ++ t135) (wrap64 ((l1.length : Int) / (rd l0 0))) (wrap64 (x9_1 + 1))) else (none))) else (none)) else (none)) else (none)) = some r := by first | (rw [hji16] at H; exact H) | (simp only [hji16] at H ⊢; exact H)
                        have hji16w : (IntKind.i64.wrap (x9_1 * (wrap64 ((l1.length : Int) / (rd l0 0))))) = ji16 := (i64_w _).trans hji16
                        by_cases c17 : 0 ≤ (ji16)
                        · rw [if_pos c17] at H
                          have c17b0 := eq_true c17
                          have c17b1 : decide (0 ≤ (ji16)) = true := decide_eq_true c17
                          clear c17
                          by_cases c18 : (ji16) ≤ (wrap64 ((wrap64 (x9_1 + 1)) * (wrap64 ((l1.length : Int) / (rd l0 0)))))
                          · rw [if_pos c18] at H
                            have c18b0 := eq_true c18
                            have c18b1 : decide ((ji16) ≤ (wrap64 ((wrap64 (x9_1 + 1)) * (wrap64 ((l1.length : Int) / (rd l0 0)))))) = true := decide_eq_true c18
                            by_cases c19 : (wrap64 ((wrap64 (x9_1 + 1)) * (wrap64 ((l1.length : Int) / (rd l0 0))))) ≤ (l1.length : Int)
                            · rw [if_pos c19] at H
                              have c19b0 := eq_true c19
                              have c19b1 : decide ((wrap64 ((wrap64 (x9_1 + 1)) * (wrap64 ((l1.length : Int) / (rd l0 0))))) ≤ (l1.length : Int)) = true := decide_eq_true c19
                              replace H := Option.bind_eq_some_iff.mp H
                              obtain ⟨t135, A200, H⟩ := H
                              replace H : (if (x7_1 ++ a2).size + t135.size ≤ 9223372036854775807 then (spec_Literal.l0 k1 l0 l1 a2 ((x7_1 ++ a2) ++ t135) (wrap64 ((l1.length : Int) / (rd l0 0))) (wrap64 (x9_1 + 1))) else (none)) = some r := H
                              have A20 := Aside0.mk A200
                              clear A200
                              by_cases c21 : (x7_1 ++ a2).size + t135.size ≤ 9223372036854775807
                              · rw [if_pos c21] at H
                                have c21b0 := eq_true c21
                                have c21b1 : decide ((x7_1 ++ a2).size + t135.size ≤ 9223372036854775807) = true := decide_eq_true c21
                                try have c21b2 : (9223372036854775807 < (x7_1 ++ a2).size + t135.size) = False := eq_false (Nat.not_lt.2 c21)
                                try have c21b3 : (9223372036854775807 < x7_1.size + a2.size + t135.size) = False := eq_false (by have h_ := c21; simp only [ByteArray.size_append] at h_; omega)
                                have H' := Aside0.mk H
                                clear H
                                have p131 : 0 ≤ (0 : Int) := (by omega)
                                have q131 : 0 < (l0.length : Int) := of_decide_eq_true (by first | (with_reducible assumption) | assumption)
                                obtain ⟨ad131, e131, hx131_0⟩ := Kd.at_int HR0.out 0 p131 q131
                                obtain rfl : ad130 = ad131 := (by injection e131)
                                have qi131 : (0 < l0.length) = True := eq_true (by omega)
                                (try rw [show ((0 : Int)).toNat = 0 from rfl] at hx131_0)
                                (try rw [Addr.add_zero'] at hx131_0)
                                replace hx131_0 := (HB.out.cell (World.block_lt_of_cell? w _ hx131_0)).trans hx131_0
                                replace p131 := eq_true p131
                                replace q131 := eq_true q131
                                try go_wp2
                                have n0_ := Aside0.mk (below_drew1 HB.out)
                                clear HB
                                have HB := n0_
                                clear n0_
                                obtain ⟨i023, hi023, _, hsz23, _⟩ := info_parts info3
                                obtain ⟨A23, hcut23, hA23, hC23⟩ := print_drop_of (P := Try.prog) (Value.int .i64) 0 23 3 .i64 Try.underlying23 hi023 hsz23 (some ad130) c0 l0 1 (by omega) (of_decide_eq_true (by first | (with_reducible assumption) | assumption)) HC0.out
                                have HR133 := Aside0.mk (Kd.C_of_reads (h1 := fun _ => rfl) (hA23 _ (Kd.reads_of_C HR0.out)))
                                have HC133 := Aside0.mk hC23
                                clear hA23 hC23 hi023 hsz23
                                obtain ⟨i024, hi024, _, hsz24, _⟩ := info_parts info9
                                obtain ⟨A24, hcut24, hA24, hC24⟩ := print_mid_of (P := Try.prog) Value.string (⟨#[]⟩ : ByteArray) 32 9 .i64 .i64 Try.underlying32 hi024 hsz24 A1 c1 l1 (ji16) (wrap64 ((wrap64 (x9_1 + 1)) * (wrap64 ((l1.length : Int) / (rd l0 0))))) (of_decide_eq_true (by first | (with_reducible assumption) | assumption)) (by first | omega | exact of_decide_eq_true (by first | (with_reducible assumption) | assumption)) (of_decide_eq_true (by first | (with_reducible assumption) | assumption)) HC1.out
                                have HR134 := Aside0.mk (Kd.C_of_reads (h1 := fun _ => rfl) (hA24 _ (Kd.reads_of_C HR1.out)))
                                have HC134 := Aside0.mk hC24
                                clear hA24 hC24 hi024 hsz24
                                refine start_ (n := 16) (S := fun w' => True) (ds := []) #[false, false, false, false, false, false, false, false, false, false, false, false, false, false, false, false] (by kernel_rfl) rfl rfl trivial (fun hHeld => ?_); refine with_tabW spec_Literal.tab12 spec_Literal.bits12 (fun HT_ HW_ => ?_)
                                generalize wr.drew = w22 at HB HR133 HR134 hHeld ⊢
                                refine pure_ (i := 0) (N := some 40) (v := ?_) (a' := ?_) #[true, false, false, false, false, false, false, false, false, false, false, false, false, false, false, false] rfl rfl (any_of HT_.out (by kernel_rfl)) (fun _ _ _ h => h) (Or.inl ⟨by rfl, ?_⟩) ?_ ?_
                                rotate_left
                                · intro w'
                                  go_simp
                                  with_reducible rfl
                                rotate_left
                                · simp only [Act.put, List.setIfInBounds_toArray, List.set_cons_zero, List.set_cons_succ, i64_w, i32_w]
                                  rfl
                                refine pure_ (i := 1) (N := some 41) (v := ?_) (a' := ?_) #[true, true, false, false, false, false, false, false, false, false, false, false, false, false, false, false] rfl rfl (any_of HT_.out (by kernel_rfl)) (fun _ _ _ h => h) (Or.inl ⟨by rfl, ?_⟩) ?_ ?_
                                rotate_left
                                · intro w'
                                  go_simp
                                  with_reducible rfl
                                rotate_left
                                · simp only [Act.put, List.setIfInBounds_toArray, List.set_cons_zero, List.set_cons_succ, i64_w, i32_w]
                                  rfl
                                refine pure_ (i := 2) (N := some 42) (v := ?_) (a' := ?_) #[true, true, true, false, false, false, false, false, false, false, false, false, false, false, false, false] rfl rfl (any_of HT_.out (by kernel_rfl)) (fun _ _ _ h => h) (Or.inl ⟨by rfl, ?_⟩) ?_ ?_
                                rotate_left
                                · intro w'
                                  go_simp
                                  with_reducible rfl
                                rotate_left
                                · simp only [Act.put, List.setIfInBounds_toArray, List.set_cons_zero, List.set_cons_succ, i64_w, i32_w]
                                  rfl
                                refine pure_ (i := 3) (N := some 43) (v := ?_) (a' := ?_) #[true, true, true, true, false, false, false, false, false, false, false, false, false, false, false, false] rfl rfl (any_of HT_.out (by kernel_rfl)) (fun _ _ _ h => h) (Or.inl ⟨by rfl, ?_⟩) ?_ ?_
                                rotate_left
                                · intro w'
                                  go_simp
                                  with_reducible rfl
                                rotate_left
                                · simp only [Act.put, List.setIfInBounds_toArray, List.set_cons_zero, List.set_cons_succ, i64_w, i32_w]
                                  rfl
                                refine pure_ (i := 4) (N := some 44) (v := ?_) (a' := ?_) #[true, true, true, true, true, false, false, false, false, false, false, false, false, false, false, false] rfl rfl (any_of HT_.out (by kernel_rfl)) (fun _ _ _ h => h) (Or.inl ⟨by rfl, ?_⟩) ?_ ?_
                                rotate_left
                                · intro w'
                                  go_simp
                                  with_reducible rfl
                                rotate_left
                                · simp only [Act.put, List.setIfInBounds_toArray, List.set_cons_zero, List.set_cons_succ, i64_w, i32_w]
                                  rfl
                                refine pure_ (i := 5) (N := some 45) (v := ?_) (a' := ?_) #[true, true, true, true, true, true, false, false, false, false, false, false, false, false, false, false] rfl rfl (any_of HT_.out (by kernel_rfl)) (fun _ _ _ h => h) (Or.inl ⟨by rfl, ?_⟩) ?_ ?_
                                rotate_left
                                · intro w'
                                  go_simp
                                  with_reducible rfl
                                rotate_left
                                · simp only [Act.put, List.setIfInBounds_toArray, List.set_cons_zero, List.set_cons_succ, i64_w, i32_w]
                                  rfl
                                refine pure_ (i := 6) (N := some 46) (v := ?_) (a' := ?_) #[true, true, true, true, true, true, true, false, false, false, false, false, false, false, false, false] rfl rfl (any_of HT_.out (by kernel_rfl)) (fun _ _ _ h => h) (Or.inl ⟨by rfl, ?_⟩) ?_ ?_
                                rotate_left
                                · intro w'
                                  go_simp
                                  with_reducible rfl
                                rotate_left
                                · simp only [Act.put, List.setIfInBounds_toArray, List.set_cons_zero, List.set_cons_succ, i64_w, i32_w]
                                  rfl
                                refine pure_ (i := 7) (N := some 47) (v := ?_) (a' := ?_) #[true, true, true, true, true, true, true, true, false, false, false, false, false, false, false, false] rfl rfl (any_of HT_.out (by kernel_rfl)) (fun _ _ _ h => h) (Or.inl ⟨by rfl, ?_⟩) ?_ ?_
                                rotate_left
                                · intro w'
                                  go_simp
                                  with_reducible rfl
                                rotate_left
                                · simp only [Act.put, List.setIfInBounds_toArray, List.set_cons_zero, List.set_cons_succ, i64_w, i32_w]
                                  rfl
                                refine pure_ (i := 8) (N := some 48) (v := ?_) (a' := ?_) #[true, true, true, true, true, true, true, true, true, false, false, false, false, false, false, false] rfl rfl (any_of HT_.out (by kernel_rfl)) (fun _ _ _ h => h) (Or.inl ⟨by rfl, ?_⟩) ?_ ?_
                                rotate_left
                                · intro w'
                                  go_simp
                                  with_reducible rfl
                                rotate_left
                                · simp only [Act.put, List.setIfInBounds_toArray, List.set_cons_zero, List.set_cons_succ, i64_w, i32_w]
                                  rfl
                                refine pure_ (i := 9) (N := some 49) (v := ?_) (a' := ?_) #[true, true, true, true, true, true, true, true, true, true, false, false, false, false, false, false] rfl rfl (any_of HT_.out (by kernel_rfl)) (fun _ _ _ h => h) (Or.inl ⟨by rfl, ?_⟩) ?_ ?_
                                rotate_left
                                · intro w'
                                  go_simp
                                  with_reducible rfl
                                rotate_left
                                · simp only [Act.put, List.setIfInBounds_toArray, List.set_cons_zero, List.set_cons_succ, i64_w, i32_w]
                                  rfl
                                refine pure_ (i := 10) (N := some 50) (v := ?_) (a' := ?_) #[true, true, true, true, true, true, true, true, true, true, true, false, false, false, false, false] rfl rfl (any_of HT_.out (by kernel_rfl)) (fun _ _ _ h => h) (Or.inl ⟨by rfl, ?_⟩) ?_ ?_
                                rotate_left
                                · intro w'
                                  go_simp
                                  with_reducible rfl
                                rotate_left
                                · simp only [Act.put, List.setIfInBounds_toArray, List.set_cons_zero, List.set_cons_succ, i64_w, i32_w]
                                  rfl
                                refine pure_ (i := 11) (N := some 51) (v := ?_) (a' := ?_) #[true, true, true, true, true, true, true, true, true, true, true, true, false, false, false, false] rfl rfl (any_of HT_.out (by kernel_rfl)) (fun _ _ _ h => h) (Or.inl ⟨by rfl, ?_⟩) ?_ ?_
                                rotate_left
                                · intro w'
                                  go_simp
                                  with_reducible rfl
                                rotate_left
                                · simp only [Act.put, List.setIfInBounds_toArray, List.set_cons_zero, List.set_cons_succ, i64_w, i32_w]
                                  rfl
                                refine pure_ (i := 12) (N := some 52) (v := ?_) (a' := ?_) #[true, true, true, true, true, true, true, true, true, true, true, true, true, false, false, false] rfl rfl (any_of HT_.out (by kernel_rfl)) (fun _ _ _ h => h) (Or.inl ⟨by rfl, ?_⟩) ?_ ?_
                                rotate_left
                                · intro w'
                                  go_simp
                                  with_reducible rfl
                                rotate_left
                                · simp only [Act.put, List.setIfInBounds_toArray, List.set_cons_zero, List.set_cons_succ, i64_w, i32_w]
                                  rfl
                                refine one_ (i := 13) (N := some 53) #[true, true, true, true, true, true, true, true, true, true, true, true, true, true, false, false] rfl rfl (one_of HT_.out (by kernel_rfl)) (by decide) (fun K hK => ?_)
                                refine goes_ Try.func15 (by kernel_rfl) rfl #[.slice A23 (l0.drop 1).length (c0 - 1), .slice A24 ((l1.take ((wrap64 ((wrap64 (x9_1 + 1)) * (wrap64 ((l1.length : Int) / (rd l0 0))))) : Int).toNat).drop ((ji16) : Int).toNat).length (c1 - (ji16).toNat), .string a2] (by rfl) rfl rfl (by (try simp only [List.map_toArray, List.map_cons, List.map_nil]); first | done | (rw [show (l0.drop 1).length = (l0.length - 1) from List.length_drop, show ((l1.take ((wrap64 ((wrap64 (x9_1 + 1)) * (wrap64 ((l1.length : Int) / (rd l0 0))))) : Int).toNat).drop ((ji16) : Int).toNat).length = ((wrap64 ((wrap64 (x9_1 + 1)) * (wrap64 ((l1.length : Int) / (rd l0 0))))).toNat - (ji16).toNat) from (by rw [List.length_drop, List.length_take]; have h_ : ((wrap64 ((wrap64 (x9_1 + 1)) * (wrap64 ((l1.length : Int) / (rd l0 0))))) : Int) ≤ (l1.length : Int) := of_decide_eq_true (by first | (with_reducible assumption) | assumption); omega)] <;> rfl) | (rw [show (l0.drop 1).length = (l0.length - 1) from List.length_drop] <;> rfl) | (rw [show ((l1.take ((wrap64 ((wrap64 (x9_1 + 1)) * (wrap64 ((l1.length : Int) / (rd l0 0))))) : Int).toNat).drop ((ji16) : Int).toNat).length = ((wrap64 ((wrap64 (x9_1 + 1)) * (wrap64 ((l1.length : Int) / (rd l0 0))))).toNat - (ji16).toNat) from (by rw [List.length_drop, List.length_take]; have h_ : ((wrap64 ((wrap64 (x9_1 + 1)) * (wrap64 ((l1.length : Int) / (rd l0 0))))) : Int) ≤ (l1.length : Int) := of_decide_eq_true (by first | (with_reducible assumption) | assumption); omega)] <;> rfl) | (simp only [hji16]; rfl) | rfl | (simp only [List.length_drop, List.length_take]; rfl)) ?_
                                with_reducible refine (ih k1 (by have := HK1.out; omega) _ _ (l0.drop 1) _ _ ((l1.take ((wrap64 ((wrap64 (x9_1 + 1)) * (wrap64 ((l1.length : Int) / (rd l0 0))))) : Int).toNat).drop ((ji16) : Int).toNat) a2 t135 _ ?side1 ?side2 ?side3 ?side4 A20.out).mono ?_
                                (case side1 => repeat (first | exact (Kd.C_below HR133.out HB.out) | (with_reducible refine Kd.C_alloc ?_ _) | (with_reducible refine Kd.C_drewN ?_ _) | (with_reducible refine Kd.C_drew ?_)))
                                (case side2 => exact HC133.out)
                                (case side3 => repeat (first | exact (Kd.C_below HR134.out HB.out) | (with_reducible refine Kd.C_alloc ?_ _) | (with_reducible refine Kd.C_drewN ?_ _) | (with_reducible refine Kd.C_drew ?_)))
                                (case side4 => exact HC134.out)
                                rintro e w25 ⟨rfl, hb⟩
                                refine ⟨_, rfl, ?_⟩
                                have n0_ := Aside0.mk (below_step (by repeat (first | (with_reducible first | exact HB.out | apply below_alloc | apply pw_below_drewN | apply below_drew1) | exact HB.out)) hb)
                                clear HB
                                have HB := n0_
                                clear n0_
                                (try clear hb)
                                (try clear hb2)
                                (try clear hk)
                                (try clear hi)
                                refine hK.out _ _ trivial (fun hHeld => ?_)
                                clear hK K
                                refine norm_ (a' := ?_) ?_ ?_
                                rotate_left
                                · show Act.put _ (some 53) _ = _
                                  simp only [Act.put, List.setIfInBounds_toArray, List.set_cons_zero, List.set_cons_succ, i64_w, i32_w]
                                  rfl
                                refine pure_ (i := 14) (N := some 54) (v := ?_) (a' := ?_) #[true, true, true, true, true, true, true, true, true, true, true, true, true, true, true, false] rfl rfl (any_of HT_.out (by kernel_rfl)) (fun _ _ _ h => h) (Or.inl ⟨by rfl, ?_⟩) ?_ ?_
                                rotate_left
                                · intro w'
                                  go_simp
                                  with_reducible rfl
                                rotate_left
                                · simp only [Act.put, List.setIfInBounds_toArray, List.set_cons_zero, List.set_cons_succ, i64_w, i32_w]
                                  rfl
                                refine pure_ (i := 15) (N := some 7) (v := ?_) (a' := ?_) #[true, true, true, true, true, true, true, true, true, true, true, true, true, true, true, true] rfl rfl (any_of HT_.out (by kernel_rfl)) (fun _ _ _ h => h) (Or.inl ⟨by rfl, ?_⟩) ?_ ?_
                                rotate_left
                                · intro w'
                                  go_simp
                                  with_reducible rfl
                                rotate_left
                                · simp only [Act.put, List.setIfInBounds_toArray, List.set_cons_zero, List.set_cons_succ, i64_w, i32_w]
                                  rfl
                                refine done_ (done_of HT_.out (by kernel_rfl)) ?_
                                try go_wp2
                                go_roundg k1
                                case measure => have := HK1.out; omega
                                case rel => exact ⟨((x7_1 ++ a2) ++ t135), (wrap64 (x9_1 + 1)), (by first | rfl | (simp; done) | (simp [*]; done)), (by first | rfl | (simp; done) | (simp [*]; done)), H', ⟨by have := HK1.out; omega⟩, ⟨by repeat (first | (with_reducible first | exact HB.out | apply below_alloc | apply pw_below_drewN | apply below_drew1) | exact HB.out)⟩⟩
                              · rw [if_neg c21] at H
                                exact absurd H (by simp)
                            · rw [if_neg c19] at H
                              exact absurd H (by simp)
                          · rw [if_neg c18] at H
                            exact absurd H (by simp)
                        · rw [if_neg c17] at H
                          exact absurd H (by simp)
                      · rw [if_neg c15] at H
                        exact absurd H (by simp)
                  · rw [if_neg c10] at H
                    exact absurd H (by simp)
                · rw [if_neg c9] at H
                  have c9b0 : decide (0 < x9_1) = false := decide_eq_false c9
                  clear c9
                  by_cases c26 : (l0.length : Int) = 1
                  · rw [if_pos c26] at H
                    have c26b0 : ((l0.length : Int) == 1) = true := beq_iff_eq.mpr c26
                    have c26b1 : ((l0.length : Int) != 1) = false := bne_eq_false_iff_eq.mpr c26
                    clear c26
                    by_cases c27 : 0 ≤ x9_1
                    · rw [if_pos c27] at H
                      have c27b0 : decide (0 ≤ x9_1) = true := decide_eq_true c27
                      clear c27
                      by_cases c28 : x9_1 < (l1.length : Int)
                      · rw [if_pos c28] at H
                        have c28b0 : decide (x9_1 < (l1.length : Int)) = true := decide_eq_true c28
                        clear c28
                        by_cases c29 : x7_1.size + (rdOf ByteArray.empty l1 x9_1).size ≤ 9223372036854775807
                        · rw [if_pos c29] at H
                          have c29b0 := eq_true c29
                          have c29b1 : decide (x7_1.size + (rdOf ByteArray.empty l1 x9_1).size ≤ 9223372036854775807) = true := decide_eq_true c29
                          try have c29b2 : (9223372036854775807 < x7_1.size + (rdOf ByteArray.empty l1 x9_1).size) = False := eq_false (Nat.not_lt.2 c29)
                          have H' := Aside0.mk H
                          clear H
                          have p131 : 0 ≤ (0 : Int) := (by omega)
                          have q131 : 0 < (l0.length : Int) := of_decide_eq_true (by first | (with_reducible assumption) | assumption)
                          obtain ⟨ad131, e131, hx131_0⟩ := Kd.at_int HR0.out 0 p131 q131
                          obtain rfl : ad130 = ad131 := (by injection e131)
                          have qi131 : (0 < l0.length) = True := eq_true (by omega)
                          (try rw [show ((0 : Int)).toNat = 0 from rfl] at hx131_0)
                          (try rw [Addr.add_zero'] at hx131_0)
                          replace hx131_0 := (HB.out.cell (World.block_lt_of_cell? w _ hx131_0)).trans hx131_0
                          replace p131 := eq_true p131
                          replace q131 := eq_true q131
                          have p136 : 0 ≤ (x9_1 : Int) := of_decide_eq_true (by first | (with_reducible assumption) | assumption)
                          have q136 : x9_1 < (l1.length : Int) := of_decide_eq_true (by first | (with_reducible assumption) | assumption)
                          obtain ⟨ad136, e136, hx136_0⟩ := Kd.at_string HR1.out x9_1 p136 q136
                          cases e136
                          replace hx136_0 := (HB.out.cell (World.block_lt_of_cell? w _ hx136_0)).trans hx136_0
                          replace p136 := eq_true p136
                          replace q136 := eq_true q136
                          go_wp2
                          go_roundg k1
                          case measure => have := HK1.out; omega
                          case rel => exact ⟨(x7_1 ++ (rdOf ByteArray.empty l1 x9_1)), (wrap64 (x9_1 + 1)), (by first | rfl | (simp; done) | (simp [*]; done)), (by first | rfl | (simp; done) | (simp [*]; done)), H', ⟨by have := HK1.out; omega⟩, ⟨by repeat (first | (with_reducible first | exact HB.out | apply below_alloc | apply pw_below_drewN | apply below_drew1) | exact HB.out)⟩⟩
                        · rw [if_neg c29] at H
                          exact absurd H (by simp)
                      · rw [if_neg c28] at H
                        exact absurd H (by simp)
                    · rw [if_neg c27] at H
                      exact absurd H (by simp)
                  · rw [if_neg c26] at H
                    have c26b0 : ((l0.length : Int) == 1) = false := beq_eq_false_iff_ne.mpr c26
                    have c26b1 : ((l0.length : Int) != 1) = true := bne_iff_ne.mpr c26
                    by_cases c30 : 1 ≤ (l0.length : Int)
                    · rw [if_pos c30] at H
                      have c30b0 := eq_true c30
                      have c30b1 : decide (1 ≤ (l0.length : Int)) = true := decide_eq_true c30
                      clear c30
                      obtain ⟨ji31, hji31⟩ : ∃ j_ : Int, (wrap64 (x9_1 * (wrap64 ((l1.length : Int) / (rd l0 0))))) = j_ := ⟨_, rfl⟩
                      replace H : (if 0 ≤ (ji31) then (if (ji31) ≤ (wrap64 ((wrap64 (x9_1 + 1)) * (wrap64 ((l1.length : Int) / (rd l0 0))))) then (if (wrap64 ((wrap64 (x9_1 + 1)) * (wrap64 ((l1.length : Int) / (rd l0 0))))) ≤ (l1.length : Int) then ((spec_Literal.f k1 (l0.drop 1) ((l1.take ((wrap64 ((wrap64 (x9_1 + 1)) * (wrap64 ((l1.length : Int) / (rd l0 0))))) : Int).toNat).drop ((ji31) : Int).toNat) a2).bind fun t139 => (if x7_1.size + t139.size ≤ 9223372036854775807 then (spec_Literal.l0 k1 l0 l1 a2 (x7_1 ++ t139) (wrap64 ((l1.length : Int) / (rd l0 0))) (wrap64 (x9_1 + 1))) else (none))) else (none)) else (none)) else (none)) = some r := by first | (rw [hji31] at H; exact H) | (simp only [hji31] at H ⊢; exact H)
                      have hji31w : (IntKind.i64.wrap (x9_1 * (wrap64 ((l1.length : Int) / (rd l0 0))))) = ji31 := (i64_w _).trans hji31
                      by_cases c32 : 0 ≤ (ji31)
                      · rw [if_pos c32] at H
                        have c32b0 := eq_true c32
                        have c32b1 : decide (0 ≤ (ji31)) = true := decide_eq_true c32
                        clear c32
                        by_cases c33 : (ji31) ≤ (wrap64 ((wrap64 (x9_1 + 1)) * (wrap64 ((l1.length : Int) / (rd l0 0)))))
                        · rw [if_pos c33] at H
                          have c33b0 := eq_true c33
                          have c33b1 : decide ((ji31) ≤ (wrap64 ((wrap64 (x9_1 + 1)) * (wrap64 ((l1.length : Int) / (rd l0 0)))))) = true := decide_eq_true c33
                          by_cases c34 : (wrap64 ((wrap64 (x9_1 + 1)) * (wrap64 ((l1.length : Int) / (rd l0 0))))) ≤ (l1.length : Int)
                          · rw [if_pos c34] at H
                            have c34b0 := eq_true c34
                            have c34b1 : decide ((wrap64 ((wrap64 (x9_1 + 1)) * (wrap64 ((l1.length : Int) / (rd l0 0))))) ≤ (l1.length : Int)) = true := decide_eq_true c34
                            replace H := Option.bind_eq_some_iff.mp H
                            obtain ⟨t139, A350, H⟩ := H
                            replace H : (if x7_1.size + t139.size ≤ 9223372036854775807 then (spec_Literal.l0 k1 l0 l1 a2 (x7_1 ++ t139) (wrap64 ((l1.length : Int) / (rd l0 0))) (wrap64 (x9_1 + 1))) else (none)) = some r := H
                            have A35 := Aside0.mk A350
                            clear A350
                            by_cases c36 : x7_1.size + t139.size ≤ 9223372036854775807
                            · rw [if_pos c36] at H
                              have c36b0 := eq_true c36
                              have c36b1 : decide (x7_1.size + t139.size ≤ 9223372036854775807) = true := decide_eq_true c36
                              try have c36b2 : (9223372036854775807 < x7_1.size + t139.size) = False := eq_false (Nat.not_lt.2 c36)
                              have H' := Aside0.mk H
                              clear H
                              have p131 : 0 ≤ (0 : Int) := (by omega)
                              have q131 : 0 < (l0.length : Int) := of_decide_eq_true (by first | (with_reducible assumption) | assumption)
                              obtain ⟨ad131, e131, hx131_0⟩ := Kd.at_int HR0.out 0 p131 q131
                              obtain rfl : ad130 = ad131 := (by injection e131)
                              have qi131 : (0 < l0.length) = True := eq_true (by omega)
                              (try rw [show ((0 : Int)).toNat = 0 from rfl] at hx131_0)
                              (try rw [Addr.add_zero'] at hx131_0)
                              replace hx131_0 := (HB.out.cell (World.block_lt_of_cell? w _ hx131_0)).trans hx131_0
                              replace p131 := eq_true p131
                              replace q131 := eq_true q131
                              try go_wp2
                              have n0_ := Aside0.mk (below_drew1 HB.out)
                              clear HB
                              have HB := n0_
                              clear n0_
                              obtain ⟨i038, hi038, _, hsz38, _⟩ := info_parts info3
                              obtain ⟨A38, hcut38, hA38, hC38⟩ := print_drop_of (P := Try.prog) (Value.int .i64) 0 23 3 .i64 Try.underlying23 hi038 hsz38 (some ad130) c0 l0 1 (by omega) (of_decide_eq_true (by first | (with_reducible assumption) | assumption)) HC0.out
                              have HR137 := Aside0.mk (Kd.C_of_reads (h1 := fun _ => rfl) (hA38 _ (Kd.reads_of_C HR0.out)))
                              have HC137 := Aside0.mk hC38
                              clear hA38 hC38 hi038 hsz38
                              obtain ⟨i039, hi039, _, hsz39, _⟩ := info_parts info9
                              obtain ⟨A39, hcut39, hA39, hC39⟩ := print_mid_of (P := Try.prog) Value.string (⟨#[]⟩ : ByteArray) 32 9 .i64 .i64 Try.underlying32 hi039 hsz39 A1 c1 l1 (ji31) (wrap64 ((wrap64 (x9_1 + 1)) * (wrap64 ((l1.length : Int) / (rd l0 0))))) (of_decide_eq_true (by first | (with_reducible assumption) | assumption)) (by first | omega | exact of_decide_eq_true (by first | (with_reducible assumption) | assumption)) (of_decide_eq_true (by first | (with_reducible assumption) | assumption)) HC1.out
                              have HR138 := Aside0.mk (Kd.C_of_reads (h1 := fun _ => rfl) (hA39 _ (Kd.reads_of_C HR1.out)))
                              have HC138 := Aside0.mk hC39
                              clear hA39 hC39 hi039 hsz39
                              refine start_ (n := 16) (S := fun w' => True) (ds := []) #[false, false, false, false, false, false, false, false, false, false, false, false, false, false, false, false] (by kernel_rfl) rfl rfl trivial (fun hHeld => ?_); refine with_tabW spec_Literal.tab12 spec_Literal.bits12 (fun HT_ HW_ => ?_)
                              generalize wr.drew = w37 at HB HR137 HR138 hHeld ⊢
                              refine pure_ (i := 0) (N := some 40) (v := ?_) (a' := ?_) #[true, false, false, false, false, false, false, false, false, false, false, false, false, false, false, false] rfl rfl (any_of HT_.out (by kernel_rfl)) (fun _ _ _ h => h) (Or.inl ⟨by rfl, ?_⟩) ?_ ?_
                              rotate_left
                              · intro w'
                                go_simp
                                with_reducible rfl
                              rotate_left
                              · simp only [Act.put, List.setIfInBounds_toArray, List.set_cons_zero, List.set_cons_succ, i64_w, i32_w]
                                rfl
                              refine pure_ (i := 1) (N := some 41) (v := ?_) (a' := ?_) #[true, true, false, false, false, false, false, false, false, false, false, false, false, false, false, false] rfl rfl (any_of HT_.out (by kernel_rfl)) (fun _ _ _ h => h) (Or.inl ⟨by rfl, ?_⟩) ?_ ?_
                              rotate_left
                              · intro w'
                                go_simp
                                with_reducible rfl
                              rotate_left
                              · simp only [Act.put, List.setIfInBounds_toArray, List.set_cons_zero, List.set_cons_succ, i64_w, i32_w]
                                rfl
                              refine pure_ (i := 2) (N := some 42) (v := ?_) (a' := ?_) #[true, true, true, false, false, false, false, false, false, false, false, false, false, false, false, false] rfl rfl (any_of HT_.out (by kernel_rfl)) (fun _ _ _ h => h) (Or.inl ⟨by rfl, ?_⟩) ?_ ?_
                              rotate_left
                              · intro w'
                                go_simp
                                with_reducible rfl
                              rotate_left
                              · simp only [Act.put, List.setIfInBounds_toArray, List.set_cons_zero, List.set_cons_succ, i64_w, i32_w]
                                rfl
                              refine pure_ (i := 3) (N := some 43) (v := ?_) (a' := ?_) #[true, true, true, true, false, false, false, false, false, false, false, false, false, false, false, false] rfl rfl (any_of HT_.out (by kernel_rfl)) (fun _ _ _ h => h) (Or.inl ⟨by rfl, ?_⟩) ?_ ?_
                              rotate_left
                              · intro w'
                                go_simp
                                with_reducible rfl
                              rotate_left
                              · simp only [Act.put, List.setIfInBounds_toArray, List.set_cons_zero, List.set_cons_succ, i64_w, i32_w]
                                rfl
                              refine pure_ (i := 4) (N := some 44) (v := ?_) (a' := ?_) #[true, true, true, true, true, false, false, false, false, false, false, false, false, false, false, false] rfl rfl (any_of HT_.out (by kernel_rfl)) (fun _ _ _ h => h) (Or.inl ⟨by rfl, ?_⟩) ?_ ?_
                              rotate_left
                              · intro w'
                                go_simp
                                with_reducible rfl
                              rotate_left
                              · simp only [Act.put, List.setIfInBounds_toArray, List.set_cons_zero, List.set_cons_succ, i64_w, i32_w]
                                rfl
                              refine pure_ (i := 5) (N := some 45) (v := ?_) (a' := ?_) #[true, true, true, true, true, true, false, false, false, false, false, false, false, false, false, false] rfl rfl (any_of HT_.out (by kernel_rfl)) (fun _ _ _ h => h) (Or.inl ⟨by rfl, ?_⟩) ?_ ?_
                              rotate_left
                              · intro w'
                                go_simp
                                with_reducible rfl
                              rotate_left
                              · simp only [Act.put, List.setIfInBounds_toArray, List.set_cons_zero, List.set_cons_succ, i64_w, i32_w]
                                rfl
                              refine pure_ (i := 6) (N := some 46) (v := ?_) (a' := ?_) #[true, true, true, true, true, true, true, false, false, false, false, false, false, false, false, false] rfl rfl (any_of HT_.out (by kernel_rfl)) (fun _ _ _ h => h) (Or.inl ⟨by rfl, ?_⟩) ?_ ?_
                              rotate_left
                              · intro w'
                                go_simp
                                with_reducible rfl
                              rotate_left
                              · simp only [Act.put, List.setIfInBounds_toArray, List.set_cons_zero, List.set_cons_succ, i64_w, i32_w]
                                rfl
                              refine pure_ (i := 7) (N := some 47) (v := ?_) (a' := ?_) #[true, true, true, true, true, true, true, true, false, false, false, false, false, false, false, false] rfl rfl (any_of HT_.out (by kernel_rfl)) (fun _ _ _ h => h) (Or.inl ⟨by rfl, ?_⟩) ?_ ?_
                              rotate_left
                              · intro w'
                                go_simp
                                with_reducible rfl
                              rotate_left
                              · simp only [Act.put, List.setIfInBounds_toArray, List.set_cons_zero, List.set_cons_succ, i64_w, i32_w]
                                rfl
                              refine pure_ (i := 8) (N := some 48) (v := ?_) (a' := ?_) #[true, true, true, true, true, true, true, true, true, false, false, false, false, false, false, false] rfl rfl (any_of HT_.out (by kernel_rfl)) (fun _ _ _ h => h) (Or.inl ⟨by rfl, ?_⟩) ?_ ?_
                              rotate_left
                              · intro w'
                                go_simp
                                with_reducible rfl
                              rotate_left
                              · simp only [Act.put, List.setIfInBounds_toArray, List.set_cons_zero, List.set_cons_succ, i64_w, i32_w]
                                rfl
                              refine pure_ (i := 9) (N := some 49) (v := ?_) (a' := ?_) #[true, true, true, true, true, true, true, true, true, true, false, false, false, false, false, false] rfl rfl (any_of HT_.out (by kernel_rfl)) (fun _ _ _ h => h) (Or.inl ⟨by rfl, ?_⟩) ?_ ?_
                              rotate_left
                              · intro w'
                                go_simp
                                with_reducible rfl
                              rotate_left
                              · simp only [Act.put, List.setIfInBounds_toArray, List.set_cons_zero, List.set_cons_succ, i64_w, i32_w]
                                rfl
                              refine pure_ (i := 10) (N := some 50) (v := ?_) (a' := ?_) #[true, true, true, true, true, true, true, true, true, true, true, false, false, false, false, false] rfl rfl (any_of HT_.out (by kernel_rfl)) (fun _ _ _ h => h) (Or.inl ⟨by rfl, ?_⟩) ?_ ?_
                              rotate_left
                              · intro w'
                                go_simp
                                with_reducible rfl
                              rotate_left
                              · simp only [Act.put, List.setIfInBounds_toArray, List.set_cons_zero, List.set_cons_succ, i64_w, i32_w]
                                rfl
                              refine pure_ (i := 11) (N := some 51) (v := ?_) (a' := ?_) #[true, true, true, true, true, true, true, true, true, true, true, true, false, false, false, false] rfl rfl (any_of HT_.out (by kernel_rfl)) (fun _ _ _ h => h) (Or.inl ⟨by rfl, ?_⟩) ?_ ?_
                              rotate_left
                              · intro w'
                                go_simp
                                with_reducible rfl
                              rotate_left
                              · simp only [Act.put, List.setIfInBounds_toArray, List.set_cons_zero, List.set_cons_succ, i64_w, i32_w]
                                rfl
                              refine pure_ (i := 12) (N := some 52) (v := ?_) (a' := ?_) #[true, true, true, true, true, true, true, true, true, true, true, true, true, false, false, false] rfl rfl (any_of HT_.out (by kernel_rfl)) (fun _ _ _ h => h) (Or.inl ⟨by rfl, ?_⟩) ?_ ?_
                              rotate_left
                              · intro w'
                                go_simp
                                with_reducible rfl
                              rotate_left
                              · simp only [Act.put, List.setIfInBounds_toArray, List.set_cons_zero, List.set_cons_succ, i64_w, i32_w]
                                rfl
                              refine one_ (i := 13) (N := some 53) #[true, true, true, true, true, true, true, true, true, true, true, true, true, true, false, false] rfl rfl (one_of HT_.out (by kernel_rfl)) (by decide) (fun K hK => ?_)
                              refine goes_ Try.func15 (by kernel_rfl) rfl #[.slice A38 (l0.drop 1).length (c0 - 1), .slice A39 ((l1.take ((wrap64 ((wrap64 (x9_1 + 1)) * (wrap64 ((l1.length : Int) / (rd l0 0))))) : Int).toNat).drop ((ji31) : Int).toNat).length (c1 - (ji31).toNat), .string a2] (by rfl) rfl rfl (by (try simp only [List.map_toArray, List.map_cons, List.map_nil]); first | done | (rw [show (l0.drop 1).length = (l0.length - 1) from List.length_drop, show ((l1.take ((wrap64 ((wrap64 (x9_1 + 1)) * (wrap64 ((l1.length : Int) / (rd l0 0))))) : Int).toNat).drop ((ji31) : Int).toNat).length = ((wrap64 ((wrap64 (x9_1 + 1)) * (wrap64 ((l1.length : Int) / (rd l0 0))))).toNat - (ji31).toNat) from (by rw [List.length_drop, List.length_take]; have h_ : ((wrap64 ((wrap64 (x9_1 + 1)) * (wrap64 ((l1.length : Int) / (rd l0 0))))) : Int) ≤ (l1.length : Int) := of_decide_eq_true (by first | (with_reducible assumption) | assumption); omega)] <;> rfl) | (rw [show (l0.drop 1).length = (l0.length - 1) from List.length_drop] <;> rfl) | (rw [show ((l1.take ((wrap64 ((wrap64 (x9_1 + 1)) * (wrap64 ((l1.length : Int) / (rd l0 0))))) : Int).toNat).drop ((ji31) : Int).toNat).length = ((wrap64 ((wrap64 (x9_1 + 1)) * (wrap64 ((l1.length : Int) / (rd l0 0))))).toNat - (ji31).toNat) from (by rw [List.length_drop, List.length_take]; have h_ : ((wrap64 ((wrap64 (x9_1 + 1)) * (wrap64 ((l1.length : Int) / (rd l0 0))))) : Int) ≤ (l1.length : Int) := of_decide_eq_true (by first | (with_reducible assumption) | assumption); omega)] <;> rfl) | (simp only [hji31]; rfl) | rfl | (simp only [List.length_drop, List.length_take]; rfl)) ?_
                              with_reducible refine (ih k1 (by have := HK1.out; omega) _ _ (l0.drop 1) _ _ ((l1.take ((wrap64 ((wrap64 (x9_1 + 1)) * (wrap64 ((l1.length : Int) / (rd l0 0))))) : Int).toNat).drop ((ji31) : Int).toNat) a2 t139 _ ?side1 ?side2 ?side3 ?side4 A35.out).mono ?_
                              (case side1 => repeat (first | exact (Kd.C_below HR137.out HB.out) | (with_reducible refine Kd.C_alloc ?_ _) | (with_reducible refine Kd.C_drewN ?_ _) | (with_reducible refine Kd.C_drew ?_)))
                              (case side2 => exact HC137.out)
                              (case side3 => repeat (first | exact (Kd.C_below HR138.out HB.out) | (with_reducible refine Kd.C_alloc ?_ _) | (with_reducible refine Kd.C_drewN ?_ _) | (with_reducible refine Kd.C_drew ?_)))
                              (case side4 => exact HC138.out)
                              rintro e w40 ⟨rfl, hb⟩
                              refine ⟨_, rfl, ?_⟩
                              have n0_ := Aside0.mk (below_step (by repeat (first | (with_reducible first | exact HB.out | apply below_alloc | apply pw_below_drewN | apply below_drew1) | exact HB.out)) hb)
                              clear HB
                              have HB := n0_
                              clear n0_
                              (try clear hb)
                              (try clear hb2)
                              (try clear hk)
                              (try clear hi)
                              refine hK.out _ _ trivial (fun hHeld => ?_)
                              clear hK K
                              refine norm_ (a' := ?_) ?_ ?_
                              rotate_left
                              · show Act.put _ (some 53) _ = _
                                simp only [Act.put, List.setIfInBounds_toArray, List.set_cons_zero, List.set_cons_succ, i64_w, i32_w]
                                rfl
                              refine pure_ (i := 14) (N := some 54) (v := ?_) (a' := ?_) #[true, true, true, true, true, true, true, true, true, true, true, true, true, true, true, false] rfl rfl (any_of HT_.out (by kernel_rfl)) (fun _ _ _ h => h) (Or.inl ⟨by rfl, ?_⟩) ?_ ?_
                              rotate_left
                              · intro w'
                                go_simp
                                with_reducible rfl
                              rotate_left
                              · simp only [Act.put, List.setIfInBounds_toArray, List.set_cons_zero, List.set_cons_succ, i64_w, i32_w]
                                rfl
                              refine pure_ (i := 15) (N := some 7) (v := ?_) (a' := ?_) #[true, true, true, true, true, true, true, true, true, true, true, true, true, true, true, true] rfl rfl (any_of HT_.out (by kernel_rfl)) (fun _ _ _ h => h) (Or.inl ⟨by rfl, ?_⟩) ?_ ?_
                              rotate_left
                              · intro w'
                                go_simp
                                with_reducible rfl
                              rotate_left
                              · simp only [Act.put, List.setIfInBounds_toArray, List.set_cons_zero, List.set_cons_succ, i64_w, i32_w]
                                rfl
                              refine done_ (done_of HT_.out (by kernel_rfl)) ?_
                              try go_wp2
                              go_roundg k1
                              case measure => have := HK1.out; omega
                              case rel => exact ⟨(x7_1 ++ t139), (wrap64 (x9_1 + 1)), (by first | rfl | (simp; done) | (simp [*]; done)), (by first | rfl | (simp; done) | (simp [*]; done)), H', ⟨by have := HK1.out; omega⟩, ⟨by repeat (first | (with_reducible first | exact HB.out | apply below_alloc | apply pw_below_drewN | apply below_drew1) | exact HB.out)⟩⟩
                            · rw [if_neg c36] at H
                              exact absurd H (by simp)
                          · rw [if_neg c34] at H
                            exact absurd H (by simp)
                        · rw [if_neg c33] at H
                          exact absurd H (by simp)
                      · rw [if_neg c32] at H
                        exact absurd H (by simp)
                    · rw [if_neg c30] at H
                      exact absurd H (by simp)
              · rw [if_neg c8] at H
                have c8b0 : decide (x9_1 < (rd l0 0)) = false := decide_eq_false c8
                clear c8
                by_cases c41 : x7_1.size + 1 ≤ 9223372036854775807
                · rw [if_pos c41] at H
                  have c41b0 := eq_true c41
                  have c41b1 : decide (x7_1.size + 1 ≤ 9223372036854775807) = true := decide_eq_true c41
                  try have c41b2 : (9223372036854775807 < x7_1.size + 1) = False := eq_false (Nat.not_lt.2 c41)
                  obtain rfl := Option.some.inj H
                  have p131 : 0 ≤ (0 : Int) := (by omega)
                  have q131 : 0 < (l0.length : Int) := of_decide_eq_true (by first | (with_reducible assumption) | assumption)
                  obtain ⟨ad131, e131, hx131_0⟩ := Kd.at_int HR0.out 0 p131 q131
                  obtain rfl : ad130 = ad131 := (by injection e131)
                  have qi131 : (0 < l0.length) = True := eq_true (by omega)
                  (try rw [show ((0 : Int)).toNat = 0 from rfl] at hx131_0)
                  (try rw [Addr.add_zero'] at hx131_0)
                  replace hx131_0 := (HB.out.cell (World.block_lt_of_cell? w _ hx131_0)).trans hx131_0
                  replace p131 := eq_true p131
                  replace q131 := eq_true q131
                  go_wp2
                  go_ret
                  exact ⟨by first | rfl | (simp [errW_none, errW_some] <;> rfl) | (simp [*, errW_none, errW_some] <;> rfl), by repeat (first | (with_reducible first | exact HB.out | apply below_alloc | apply pw_below_drewN | apply below_drew1) | exact HB.out)⟩
                · rw [if_neg c41] at H
                  exact absurd H (by simp)
            · rw [if_neg c7] at H
              exact absurd H (by simp)
    · rw [if_neg c5] at H
      exact absurd H (by simp)

end Go.Proofs.Ythcikkjjegfblaa.P
