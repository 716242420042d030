-- Written by the program wip/myprint.py of this session, over the kit's print of the translation. Lean checks it.
import Derived.Deep.CutBlock
import Derived.Test.YtlhjblbmhlelbaaDoorPx0
namespace Go.Proofs.YtlhjblbmhlelbaaDoor.P
open Go.RowKit Go.Proofs.YtlhjblbmhlelbaaDoorW.PrintWords Go.Proofs.YtlhjblbmhlelbaaDoorW.PrintLast Go.Proofs.YtlhjblbmhlelbaaDoorW.PrintMore
attribute [local go_sem] max2_int min2_int max_two min_two max_three min_three max_four min_four   -- for this text's walks alone
set_option linter.unusedVariables false
set_option linter.unusedSimpArgs false

/-! ### pq_appendEscapedText: function 53 -/
mutual
def pq_appendEscapedText.j1 : Nat → List Int → ByteArray → Bool → Int → Option (List Int)
  | 0, _, _, _, _ => none
  | k + 1, x0, x1, x5, x6 => if x5 = true then (if 0 ≤ x6 then (if x6 ≤ (x1.size : Int) then (if x0.length + (x1.extract 0 (x6 : Int).toNat).size < 140737488355328 then (pq_appendEscapedText.l1 k x1 (x0 ++ bytesOf (x1.extract 0 (x6 : Int).toNat)) x6) else (none)) else (none)) else (none)) else (if x0.length + x1.size < 140737488355328 then (some (x0 ++ bytesOf x1)) else (none))
def pq_appendEscapedText.l1 : Nat → ByteArray → List Int → Int → Option (List Int)
  | 0, _, _, _ => none
  | k + 1, x1, x9, x10 => if x10 < (x1.size : Int) then (if 0 ≤ x10 then (if (bt x1 x10) = 92 then ((some (([92, 92] : List Int) : List Int)).bind fun y591 => (if x9.length + y591.length < 140737488355328 then (pq_appendEscapedText.l1 k x1 (x9 ++ y591) (wrap64 (x10 + 1))) else (none))) else (if (bt x1 x10) = 10 then ((some (([92, 110] : List Int) : List Int)).bind fun y597 => (if x9.length + y597.length < 140737488355328 then (pq_appendEscapedText.l1 k x1 (x9 ++ y597) (wrap64 (x10 + 1))) else (none))) else (if (bt x1 x10) = 13 then ((some (([92, 114] : List Int) : List Int)).bind fun y603 => (if x9.length + y603.length < 140737488355328 then (pq_appendEscapedText.l1 k x1 (x9 ++ y603) (wrap64 (x10 + 1))) else (none))) else (if (bt x1 x10) = 9 then ((some (([92, 116] : List Int) : List Int)).bind fun y609 => (if x9.length + y609.length < 140737488355328 then (pq_appendEscapedText.l1 k x1 (x9 ++ y609) (wrap64 (x10 + 1))) else (none))) else (if x9.length < 140737488355328 then (pq_appendEscapedText.l1 k x1 (x9 ++ [bt x1 x10]) (wrap64 (x10 + 1))) else (none)))))) else (none)) else (some x9)
def pq_appendEscapedText.l0 : Nat → ByteArray → Bool → Int → Int → Option (List Int)
  | 0, _, _, _, _ => none
  | k + 1, x1, x5, x6, x7 => if x7 < (x1.size : Int) then (if 0 ≤ x7 then (if (bt x1 x7) = 92 then (pq_appendEscapedText.j1 k ([] : List Int) x1 true x7) else (if (bt x1 x7) = 10 then (pq_appendEscapedText.j1 k ([] : List Int) x1 true x7) else (if (bt x1 x7) = 13 then (pq_appendEscapedText.j1 k ([] : List Int) x1 true x7) else (if (bt x1 x7) = 9 then (pq_appendEscapedText.j1 k ([] : List Int) x1 true x7) else (pq_appendEscapedText.l0 k x1 x5 x6 (wrap64 (x7 + 1))))))) else (none)) else (pq_appendEscapedText.j1 k ([] : List Int) x1 x5 x6)
end
def pq_appendEscapedText.f (k : Nat) (l0 : List Int) (a1 : ByteArray) : Option (List Int) := pq_appendEscapedText.l0 k a1 false 0 0
theorem pq_appendEscapedText.mono_l : ∀ k, (∀ y0 y1 y2 y3, LeO (pq_appendEscapedText.j1 k y0 y1 y2 y3) (pq_appendEscapedText.j1 (k + 1) y0 y1 y2 y3)) ∧ (∀ y0 y1 y2, LeO (pq_appendEscapedText.l1 k y0 y1 y2) (pq_appendEscapedText.l1 (k + 1) y0 y1 y2)) ∧ (∀ y0 y1 y2 y3, LeO (pq_appendEscapedText.l0 k y0 y1 y2 y3) (pq_appendEscapedText.l0 (k + 1) y0 y1 y2 y3))
  | 0 => ⟨fun _ _ _ _ r h => by simp [pq_appendEscapedText.j1] at h, fun _ _ _ r h => by simp [pq_appendEscapedText.l1] at h, fun _ _ _ _ r h => by simp [pq_appendEscapedText.l0] at h⟩
  | k + 1 => by
    obtain ⟨ih0, ih1, ih2⟩ := pq_appendEscapedText.mono_l k
    refine ⟨?_, ?_, ?_⟩
    · intro y0 y1 y2 y3
      unfold pq_appendEscapedText.j1
      repeat' first
      | (with_reducible exact ih0 _ _ _ _)
      | (with_reducible exact ih1 _ _ _)
      | (with_reducible exact ih2 _ _ _ _)
      | (with_reducible exact LeO.refl _)
      | (with_reducible exact LeO.none _)
      | (with_reducible refine LeO.ite ?_ ?_)
      | (with_reducible refine LeO.bind ?_ (fun _ => ?_))
      | exact ih0 _ _ _ _
      | exact ih1 _ _ _
      | exact ih2 _ _ _ _
      | exact LeO.none _
      | refine LeO.ite ?_ ?_
      | refine LeO.bind ?_ (fun _ => ?_)
    · intro y0 y1 y2
      unfold pq_appendEscapedText.l1
      repeat' first
      | (with_reducible exact ih0 _ _ _ _)
      | (with_reducible exact ih1 _ _ _)
      | (with_reducible exact ih2 _ _ _ _)
      | (with_reducible exact LeO.refl _)
      | (with_reducible exact LeO.none _)
      | (with_reducible refine LeO.ite ?_ ?_)
      | (with_reducible refine LeO.bind ?_ (fun _ => ?_))
      | exact ih0 _ _ _ _
      | exact ih1 _ _ _
      | exact ih2 _ _ _ _
      | exact LeO.none _
      | refine LeO.ite ?_ ?_
      | refine LeO.bind ?_ (fun _ => ?_)
    · intro y0 y1 y2 y3
      unfold pq_appendEscapedText.l0
      repeat' first
      | (with_reducible exact ih0 _ _ _ _)
      | (with_reducible exact ih1 _ _ _)
      | (with_reducible exact ih2 _ _ _ _)
      | (with_reducible exact LeO.refl _)
      | (with_reducible exact LeO.none _)
      | (with_reducible refine LeO.ite ?_ ?_)
      | (with_reducible refine LeO.bind ?_ (fun _ => ?_))
      | exact ih0 _ _ _ _
      | exact ih1 _ _ _
      | exact ih2 _ _ _ _
      | exact LeO.none _
      | refine LeO.ite ?_ ?_
      | refine LeO.bind ?_ (fun _ => ?_)
theorem pq_appendEscapedText.mono : ∀ a0 a1 k, LeO (pq_appendEscapedText.f k a0 a1) (pq_appendEscapedText.f (k + 1) a0 a1) := by
  intro a0 a1 k
  obtain ⟨ih0, ih1, ih2⟩ := pq_appendEscapedText.mono_l k
  unfold pq_appendEscapedText.f
  repeat' first
      | (with_reducible exact ih0 _ _ _ _)
      | (with_reducible exact ih1 _ _ _)
      | (with_reducible exact ih2 _ _ _ _)
      | (with_reducible exact LeO.refl _)
      | (with_reducible exact LeO.none _)
      | (with_reducible refine LeO.ite ?_ ?_)
      | (with_reducible refine LeO.bind ?_ (fun _ => ?_))
      | exact ih0 _ _ _ _
      | exact ih1 _ _ _
      | exact ih2 _ _ _ _
      | exact LeO.none _
      | refine LeO.ite ?_ ?_
      | refine LeO.bind ?_ (fun _ => ?_)
set_option maxHeartbeats 8000000 in
set_option maxRecDepth 100000 in
theorem pq_appendEscapedText.calls (k : Nat) (l0 : List Int) (a1 : ByteArray) (r : List Int) (w : World) (h : pq_appendEscapedText.f k l0 a1 = some r) :
    Calls Tryd.prog 53 #[.slice none 0 0, .string a1] w fun e w' => ∃ v0_ : Value, e = .returned (v0_) ∧ Kd.R (Kd.int .u8) 5 w' w.heap.size (fun _ => True) v0_ r ∧ Below w.heap.size w w' := by
  have HB := Aside0.mk (Below.refl w.heap.size w)
  have H : (pq_appendEscapedText.l0 k a1 false 0 0) = some r := h
  clear h
  have HC3 := Aside0.mk H
  clear H
  go_enter Tryd.func53, Tryd.ntmps53
  go_upto_block 0 with (fail)
  go_cut [5, 6] (fun v5 v6 wc => ∃ (kq : Nat) (x5_2 : Bool) (x6_2 : Int), v5 = .bool x5_2 ∧ v6 = .int .i64 x6_2 ∧ Aside0 (pq_appendEscapedText.j1 kq ([] : List Int) a1 x5_2 x6_2 = some r) ∧ Aside0 (kq ≤ k) ∧ Aside0 (Kd.R (Kd.int .u8) 5 wc w.heap.size (fun _ => True) (.slice none 0 0) ([] : List Int)) ∧ Aside0 (Below w.heap.size w wc))
  case first =>
    have H := HC3.out
    clear HC3
    have H' := Aside0.mk H
    clear H
    go_wp2
    go_loopg [5, 6, 7] k (fun kq v5 v6 v7 w' => ∃ (x5_1 : Bool) (x6_1 : Int) (x7_1 : Int), v5 = .bool x5_1 ∧ v6 = .int .i64 x6_1 ∧ v7 = .int .i64 x7_1 ∧ Aside0 (pq_appendEscapedText.l0 kq a1 x5_1 x6_1 x7_1 = some r) ∧ Aside0 (kq ≤ k) ∧ Aside0 (Below w.heap.size w w'))
    case atStart => exact ⟨(false), (0), (0), (by first | rfl | (simp; done) | (simp [*]; done)), (by first | rfl | (simp; done) | (simp [*]; done)), (by first | rfl | (simp; done) | (simp [*]; done)), H', ⟨Nat.le_refl _⟩, ⟨by repeat (first | (with_reducible first | exact HB.out | apply below_alloc | apply pw_below_drewN | apply below_drew1) | exact HB.out)⟩⟩
    case round =>
      clear H'
      try clear p2
      obtain ⟨x5_1, x6_1, x7_1, rfl, rfl, rfl, HA, HK1, HB⟩ := hrel
      cases gk with
      | zero => exact absurd HA.out (by simp [pq_appendEscapedText.l0])
      | succ k1 =>
        have H := HA.out
        clear HA
        simp only [pq_appendEscapedText.l0] at H
        by_cases c4 : x7_1 < (a1.size : Int)
        · rw [if_pos c4] at H
          have c4b0 : decide (x7_1 < (a1.size : Int)) = true := decide_eq_true c4
          clear c4
          (first | rw [c4b0] | (simp only [i64_w, i32_w]; rw [c4b0]) | skip)
          by_cases c5 : 0 ≤ x7_1
          · rw [if_pos c5] at H
            have c5b0 : decide (0 ≤ x7_1) = true := decide_eq_true c5
            clear c5
            by_cases c7 : (bt a1 x7_1) = 92
            · rw [if_pos c7] at H
              have c7b0 : ((bt a1 x7_1) == 92) = true := beq_iff_eq.mpr c7
              have c7b1 : ((bt a1 x7_1) != 92) = false := bne_eq_false_iff_eq.mpr c7
              clear c7
              have H' := Aside0.mk H
              clear H
              have p6 : 0 ≤ (x7_1 : Int) := of_decide_eq_true (by first | (with_reducible assumption) | assumption)
              have q6 : x7_1 < (a1.size : Int) := of_decide_eq_true (by first | (with_reducible assumption) | assumption)
              have hx6 := bt_at a1 x7_1
              replace p6 := eq_true p6
              replace q6 := eq_true q6
              go_wp2
              go_meet
              case rel => exact ⟨_, (true), (x7_1), (by first | rfl | (simp; done) | (simp [*]; done)), (by first | rfl | (simp; done) | (simp [*]; done)), H', ⟨by have := HK1.out; first | omega | exact Nat.le_refl _⟩, ⟨by first | exact Kd.R_nil _ _ _ _ _ | exact Kd.N_nil _ _ _ _ _ | exact Kd.V_nil _ _ _ _ _ | exact Kd.Q_nil _ _ _ _ _ | exact Kd.S_nil _ _ _ _ _⟩, ⟨by repeat (first | (with_reducible first | exact HB.out | apply below_alloc | apply pw_below_drewN | apply below_drew1) | exact HB.out)⟩⟩
            · rw [if_neg c7] at H
              have c7b0 : ((bt a1 x7_1) == 92) = false := beq_eq_false_iff_ne.mpr c7
              have c7b1 : ((bt a1 x7_1) != 92) = true := bne_iff_ne.mpr c7
              by_cases c8 : (bt a1 x7_1) = 10
              · rw [if_pos c8] at H
                have c8b0 : ((bt a1 x7_1) == 10) = true := beq_iff_eq.mpr c8
                have c8b1 : ((bt a1 x7_1) != 10) = false := bne_eq_false_iff_eq.mpr c8
                clear c8
                have H' := Aside0.mk H
                clear H
                have p6 : 0 ≤ (x7_1 : Int) := of_decide_eq_true (by first | (with_reducible assumption) | assumption)
                have q6 : x7_1 < (a1.size : Int) := of_decide_eq_true (by first | (with_reducible assumption) | assumption)
                have hx6 := bt_at a1 x7_1
                replace p6 := eq_true p6
                replace q6 := eq_true q6
                go_wp2
                go_meet
                case rel => exact ⟨_, (true), (x7_1), (by first | rfl | (simp; done) | (simp [*]; done)), (by first | rfl | (simp; done) | (simp [*]; done)), H', ⟨by have := HK1.out; first | omega | exact Nat.le_refl _⟩, ⟨by first | exact Kd.R_nil _ _ _ _ _ | exact Kd.N_nil _ _ _ _ _ | exact Kd.V_nil _ _ _ _ _ | exact Kd.Q_nil _ _ _ _ _ | exact Kd.S_nil _ _ _ _ _⟩, ⟨by repeat (first | (with_reducible first | exact HB.out | apply below_alloc | apply pw_below_drewN | apply below_drew1) | exact HB.out)⟩⟩
              · rw [if_neg c8] at H
                have c8b0 : ((bt a1 x7_1) == 10) = false := beq_eq_false_iff_ne.mpr c8
                have c8b1 : ((bt a1 x7_1) != 10) = true := bne_iff_ne.mpr c8
                by_cases c9 : (bt a1 x7_1) = 13
                · rw [if_pos c9] at H
                  have c9b0 : ((bt a1 x7_1) == 13) = true := beq_iff_eq.mpr c9
                  have c9b1 : ((bt a1 x7_1) != 13) = false := bne_eq_false_iff_eq.mpr c9
                  clear c9
                  have H' := Aside0.mk H
                  clear H
                  have p6 : 0 ≤ (x7_1 : Int) := of_decide_eq_true (by first | (with_reducible assumption) | assumption)
                  have q6 : x7_1 < (a1.size : Int) := of_decide_eq_true (by first | (with_reducible assumption) | assumption)
                  have hx6 := bt_at a1 x7_1
                  replace p6 := eq_true p6
                  replace q6 := eq_true q6
                  go_wp2
                  go_meet
                  case rel => exact ⟨_, (true), (x7_1), (by first | rfl | (simp; done) | (simp [*]; done)), (by first | rfl | (simp; done) | (simp [*]; done)), H', ⟨by have := HK1.out; first | omega | exact Nat.le_refl _⟩, ⟨by first | exact Kd.R_nil _ _ _ _ _ | exact Kd.N_nil _ _ _ _ _ | exact Kd.V_nil _ _ _ _ _ | exact Kd.Q_nil _ _ _ _ _ | exact Kd.S_nil _ _ _ _ _⟩, ⟨by repeat (first | (with_reducible first | exact HB.out | apply below_alloc | apply pw_below_drewN | apply below_drew1) | exact HB.out)⟩⟩
                · rw [if_neg c9] at H
                  have c9b0 : ((bt a1 x7_1) == 13) = false := beq_eq_false_iff_ne.mpr c9
                  have c9b1 : ((bt a1 x7_1) != 13) = true := bne_iff_ne.mpr c9
                  by_cases c10 : (bt a1 x7_1) = 9
                  · rw [if_pos c10] at H
                    have c10b0 : ((bt a1 x7_1) == 9) = true := beq_iff_eq.mpr c10
                    have c10b1 : ((bt a1 x7_1) != 9) = false := bne_eq_false_iff_eq.mpr c10
                    clear c10
                    have H' := Aside0.mk H
                    clear H
                    have p6 : 0 ≤ (x7_1 : Int) := of_decide_eq_true (by first | (with_reducible assumption) | assumption)
                    have q6 : x7_1 < (a1.size : Int) := of_decide_eq_true (by first | (with_reducible assumption) | assumption)
                    have hx6 := bt_at a1 x7_1
                    replace p6 := eq_true p6
                    replace q6 := eq_true q6
                    go_wp2
                    go_meet
                    case rel => exact ⟨_, (true), (x7_1), (by first | rfl | (simp; done) | (simp [*]; done)), (by first | rfl | (simp; done) | (simp [*]; done)), H', ⟨by have := HK1.out; first | omega | exact Nat.le_refl _⟩, ⟨by first | exact Kd.R_nil _ _ _ _ _ | exact Kd.N_nil _ _ _ _ _ | exact Kd.V_nil _ _ _ _ _ | exact Kd.Q_nil _ _ _ _ _ | exact Kd.S_nil _ _ _ _ _⟩, ⟨by repeat (first | (with_reducible first | exact HB.out | apply below_alloc | apply pw_below_drewN | apply below_drew1) | exact HB.out)⟩⟩
                  · rw [if_neg c10] at H
                    have c10b0 : ((bt a1 x7_1) == 9) = false := beq_eq_false_iff_ne.mpr c10
                    have c10b1 : ((bt a1 x7_1) != 9) = true := bne_iff_ne.mpr c10
                    have H' := Aside0.mk H
                    clear H
                    have p6 : 0 ≤ (x7_1 : Int) := of_decide_eq_true (by first | (with_reducible assumption) | assumption)
                    have q6 : x7_1 < (a1.size : Int) := of_decide_eq_true (by first | (with_reducible assumption) | assumption)
                    have hx6 := bt_at a1 x7_1
                    replace p6 := eq_true p6
                    replace q6 := eq_true q6
                    go_wp2
                    go_roundg k1
                    case measure => have := HK1.out; omega
                    case rel => exact ⟨(x5_1), (x6_1), (wrap64 (x7_1 + 1)), (by first | rfl | (simp; done) | (simp [*]; done)), (by first | rfl | (simp; done) | (simp [*]; done)), (by first | rfl | (simp; done) | (simp [*]; done)), H', ⟨by have := HK1.out; omega⟩, ⟨by repeat (first | (with_reducible first | exact HB.out | apply below_alloc | apply pw_below_drewN | apply below_drew1) | exact HB.out)⟩⟩
          · rw [if_neg c5] at H
            exact absurd H (by simp)
        · rw [if_neg c4] at H
          have c4b0 : decide (x7_1 < (a1.size : Int)) = false := decide_eq_false c4
          clear c4
          (first | rw [c4b0] | (simp only [i64_w, i32_w]; rw [c4b0]) | skip)
          have H' := Aside0.mk H
          clear H
          go_wp2
          go_meet
          case rel => exact ⟨_, (x5_1), (x6_1), (by first | rfl | (simp; done) | (simp [*]; done)), (by first | rfl | (simp; done) | (simp [*]; done)), H', ⟨by have := HK1.out; first | omega | exact Nat.le_refl _⟩, ⟨by first | exact Kd.R_nil _ _ _ _ _ | exact Kd.N_nil _ _ _ _ _ | exact Kd.V_nil _ _ _ _ _ | exact Kd.Q_nil _ _ _ _ _ | exact Kd.S_nil _ _ _ _ _⟩, ⟨by repeat (first | (with_reducible first | exact HB.out | apply below_alloc | apply pw_below_drewN | apply below_drew1) | exact HB.out)⟩⟩
  case rest =>
    clear HC3
    try clear c1
    try clear p2
    try clear c4
    try clear c4b0
    try clear c5
    try clear c5b0
    try clear p6
    try clear q6
    try clear hx6
    try clear c7
    try clear c7b0
    try clear c7b1
    try clear c8
    try clear c8b0
    try clear c8b1
    try clear c9
    try clear c9b0
    try clear c9b1
    try clear c10
    try clear c10b0
    try clear c10b1
    try clear p2
    try clear p6
    try clear q6
    obtain ⟨kq, x5_2, x6_2, rfl, rfl, HA, HJ2, HO_0, HB⟩ := hcut
    cases kq with
    | zero => exact absurd HA.out (by simp [pq_appendEscapedText.j1])
    | succ kj2 =>
      have H := HA.out
      clear HA
      simp only [pq_appendEscapedText.j1] at H
      by_cases c11 : x5_2 = true
      · subst c11
        have H1 : (if 0 ≤ x6_2 then (if x6_2 ≤ (a1.size : Int) then (if ([] : List Int).length + (a1.extract 0 (x6_2 : Int).toNat).size < 140737488355328 then (pq_appendEscapedText.l1 kj2 a1 (([] : List Int) ++ bytesOf (a1.extract 0 (x6_2 : Int).toNat)) x6_2) else (none)) else (none)) else (none)) = some r := by rw [if_pos rfl] at H; exact H
        clear H
        have H := H1
        clear H1
        by_cases c12 : 0 ≤ x6_2
        · rw [if_pos c12] at H
          have c12b0 := eq_true c12
          have c12b1 : decide (0 ≤ x6_2) = true := decide_eq_true c12
          clear c12
          by_cases c13 : x6_2 ≤ (a1.size : Int)
          · rw [if_pos c13] at H
            have c13b0 := eq_true c13
            have c13b1 : decide (x6_2 ≤ (a1.size : Int)) = true := decide_eq_true c13
            clear c13
            by_cases c14 : ([] : List Int).length + (a1.extract 0 (x6_2 : Int).toNat).size < 140737488355328
            · rw [if_pos c14] at H
              have LMc14 := Aside0.mk c14
              clear c14
              obtain ⟨y588, hy588⟩ : ∃ y_ : List Int, y_ = (([] : List Int) ++ bytesOf (a1.extract 0 (x6_2 : Int).toNat)) := ⟨_, rfl⟩
              replace H : (pq_appendEscapedText.l1 kj2 a1 y588 x6_2) = some r := by first | (rw [hy588]; with_reducible exact H) | (have H2_ := (Option.bind_some _ _).symm.trans H; rw [hy588]; with_reducible exact H2_) | (have H2_ := (Option.bind_some _ _).symm.trans H; with_reducible exact H2_) | with_reducible exact H | (rw [hy588]; exact H) | exact H
              have Ny588 := Aside0.mk hy588
              clear hy588
              have H' := Aside0.mk H
              clear H
              go_wp2_with (first | (at_builtin; refine print_append_str (w0 := w) w.heap.size rfl (.tmp 41) _ 47 9 5 rfl Tryd.underlying47 Tryd.underlying9 info5 (.slice none 0 0) ([] : List Int) (a1.extract 0 (x6_2 : Int).toNat) rfl rfl ?aO ?aB ?aS ?aL ?_; (case aB => exact (by repeat (first | (with_reducible first | exact HB.out | apply below_alloc | apply pw_below_drewN | apply below_drew1) | exact HB.out))); (case aO => exact (Kd.own_of_R (by (with_reducible repeat (first | apply Kd.R_alloc | apply Kd.R_drewN | apply Kd.R_drew)); exact HO_0.out))); (case aS => exact (below_size (by repeat (first | (with_reducible first | exact HB.out | apply below_alloc | apply pw_below_drewN | apply below_drew1) | exact HB.out)))); (case aL => have := LMc14.out; omega); intro v589 w15 ho0 hb hg; have ho := Kd.R_of_own (h1 := fun _ => rfl) (ok := fun _ => True) ho0 (fun _ _ => trivial); clear ho0; have hat := True.intro; rw [← Ny588.out] at ho; change Kd.R (Kd.int .u8) 5 w15 w.heap.size (fun _ => True) v589 y588 at ho; have n0_ := Aside0.mk (hb); have n1_ := Aside0.mk (ho); clear HB; clear HO_0; have HB := n0_; have HO590 := n1_; clear n0_ n1_; clear ho hb hg hat))
              go_loopg [9, 10] kj2 (fun kq v9 v10 w' => ∃ (x9_2 : List Int) (x10_2 : Int), v10 = .int .i64 x10_2 ∧ Aside0 (pq_appendEscapedText.l1 kq a1 x9_2 x10_2 = some r) ∧ Aside0 (kq ≤ kj2) ∧ Aside0 (Kd.R (Kd.int .u8) 5 w' w.heap.size (fun _ => True) v9 x9_2) ∧ Aside0 (Below w.heap.size w w'))
              case atStart => exact ⟨(y588), (x6_2), (by first | rfl | (simp; done) | (simp [*]; done)), H', ⟨Nat.le_refl _⟩, ⟨by (with_reducible repeat (first | apply Kd.R_alloc | apply Kd.R_drewN | apply Kd.R_drew)); exact HO590.out⟩, ⟨by repeat (first | (with_reducible first | exact HB.out | apply below_alloc | apply pw_below_drewN | apply below_drew1) | exact HB.out)⟩⟩
              case round =>
                clear H'
                try clear c1
                try clear p2
                try clear c4
                try clear c4b0
                try clear c5
                try clear c5b0
                try clear p6
                try clear q6
                try clear hx6
                try clear c7
                try clear c7b0
                try clear c7b1
                try clear c8
                try clear c8b0
                try clear c8b1
                try clear c9
                try clear c9b0
                try clear c9b1
                try clear c10
                try clear c10b0
                try clear c10b1
                try clear c11
                try clear c12
                try clear c12b0
                try clear c12b1
                try clear c13
                try clear c13b0
                try clear c13b1
                try clear c14
                try clear p2
                try clear p6
                try clear q6
                obtain ⟨x9_2, x10_2, rfl, HA, HK2, HO_9, HB⟩ := hrel
                cases gk with
                | zero => exact absurd HA.out (by simp [pq_appendEscapedText.l1])
                | succ k2 =>
                  have H := HA.out
                  clear HA
                  simp only [pq_appendEscapedText.l1] at H
                  by_cases c16 : x10_2 < (a1.size : Int)
                  · rw [if_pos c16] at H
                    have c16b0 : decide (x10_2 < (a1.size : Int)) = true := decide_eq_true c16
                    clear c16
                    by_cases c17 : 0 ≤ x10_2
                    · rw [if_pos c17] at H
                      have c17b0 : decide (0 ≤ x10_2) = true := decide_eq_true c17
                      clear c17
                      by_cases c19 : (bt a1 x10_2) = 92
                      · rw [if_pos c19] at H
                        have c19b0 : ((bt a1 x10_2) == 92) = true := beq_iff_eq.mpr c19
                        have c19b1 : ((bt a1 x10_2) != 92) = false := bne_eq_false_iff_eq.mpr c19
                        clear c19
                        obtain ⟨y591, hy591⟩ : ∃ y_ : List Int, y_ = (([92, 92] : List Int)) := ⟨_, rfl⟩
                        replace H : (if x9_2.length + y591.length < 140737488355328 then (pq_appendEscapedText.l1 k2 a1 (x9_2 ++ y591) (wrap64 (x10_2 + 1))) else (none)) = some r := by first | (rw [hy591]; with_reducible exact H) | (have H2_ := (Option.bind_some _ _).symm.trans H; rw [hy591]; with_reducible exact H2_) | (have H2_ := (Option.bind_some _ _).symm.trans H; with_reducible exact H2_) | with_reducible exact H | (rw [hy591]; exact H) | exact H
                        have Ny591 := Aside0.mk hy591
                        clear hy591
                        by_cases c20 : x9_2.length + y591.length < 140737488355328
                        · rw [if_pos c20] at H
                          have LMc20 := Aside0.mk c20
                          clear c20
                          obtain ⟨y594, hy594⟩ : ∃ y_ : List Int, y_ = (x9_2 ++ y591) := ⟨_, rfl⟩
                          replace H : (pq_appendEscapedText.l1 k2 a1 y594 (wrap64 (x10_2 + 1))) = some r := by first | (rw [hy594]; with_reducible exact H) | (have H2_ := (Option.bind_some _ _).symm.trans H; rw [hy594]; with_reducible exact H2_) | (have H2_ := (Option.bind_some _ _).symm.trans H; with_reducible exact H2_) | with_reducible exact H | (rw [hy594]; exact H) | exact H
                          have Ny594 := Aside0.mk hy594
                          clear hy594
                          have H' := Aside0.mk H
                          clear H
                          have p18 : 0 ≤ (x10_2 : Int) := of_decide_eq_true (by first | (with_reducible assumption) | assumption)
                          have q18 : x10_2 < (a1.size : Int) := of_decide_eq_true (by first | (with_reducible assumption) | assumption)
                          have hx18 := bt_at a1 x10_2
                          replace p18 := eq_true p18
                          replace q18 := eq_true q18
                          go_wp2_with (first | ((with_reducible refine gate_dst (N := 64) rfl ?_); refine Kd.R_lit (Kd.int .u8) _ 5 ?hg (N := 64) ?hd (xs := ([92, 92] : List Int)) (inner := [.int .u8 92, .int .u8 92]) (ok := fun _ => True) (okp := fun _ => True) ?hr ?hp (fun _ hk => hk) trivial (Below.refl _ _) (Nat.le_refl _) (by simp) ?_; (case hd => rfl); (case hg => rfl); (case hr => first | (go_simp; done) | (go_simp; rfl) | (go_simp; simp [IntKind.wrap_u8]; done)); (case hp => exact (Reps.one (show Kd.M (Kd.int .u8) _ _ _ 92 [.int .u8 92] from rfl) (Reps.one (show Kd.M (Kd.int .u8) _ _ _ 92 [.int .u8 92] from rfl) (Reps.none _ _)))); intro v592 w21 ho22 hb hg_ hnew_; clear hg_ hnew_; (first | rw [← Ny591.out] at ho22 | (simp only [Int.reduceToNat] at ho22; rw [← Ny591.out] at ho22)); have n0_ := Aside0.mk (Kd.R_elder' (by (with_reducible repeat (first | apply Kd.R_alloc | apply Kd.R_drewN | apply Kd.R_drew)); exact HO_9.out) (Kd.R_base ho22) hb); have n1_ := Aside0.mk (Kd.R_lower (Kd.R_new' ho22 (Kd.R_lt (by (with_reducible repeat (first | apply Kd.R_alloc | apply Kd.R_drewN | apply Kd.R_drew)); exact HO_9.out))) (below_size (by repeat (first | (with_reducible first | exact HB.out | apply below_alloc | apply pw_below_drewN | apply below_drew1) | exact HB.out)))); have n2_ := Aside0.mk (below_step (by repeat (first | (with_reducible first | exact HB.out | apply below_alloc | apply pw_below_drewN | apply below_drew1) | exact HB.out)) hb); clear HO_9; clear HB; have HO_9 := n0_; have HO593 := n1_; have HB := n2_; clear n0_ n1_ n2_; clear hb ho22; obtain ⟨Ao24, co24, eo24⟩ := Kd.R_slice HO593.out; subst eo24) | ((with_reducible refine gate_builtin (b := .append) (xs := #[.tmp 63, .tmp 64]) rfl ?_); at_builtin; refine Kd.R_append_rows (Kd.int .u8) (w0 := w) w.heap.size rfl (.tmp 63) (.tmp 64) 47 5 (.int .u8 0) 1 rfl Tryd.underlying47 info5 rfl (by decide) (by omega) u9 x9_2 y591 _ _ _ (fun k_ => some k_ ≠ (.slice Ao24 y591.length co24 : Value).ownBlock) (fun _ => False) rfl rfl ?aO ?aR (fun _ _ h => h) (fun _ h => h.elim) ?aF ?aB ?aS ?aL ?_; (case aR => repeat (first | exact (Kd.R_reads' HO593.out).2.2 | (with_reducible refine Kd.C_alloc ?_ _) | (with_reducible refine Kd.C_drewN ?_ _) | (with_reducible refine Kd.C_drew ?_))); (case aB => exact (by repeat (first | (with_reducible first | exact HB.out | apply below_alloc | apply pw_below_drewN | apply below_drew1) | exact HB.out))); (case aF => exact (fun k_ hk => Kd.fresh' (Kd.R_lt (by (with_reducible repeat (first | apply Kd.R_alloc | apply Kd.R_drewN | apply Kd.R_drew)); exact HO593.out)) k_ hk)); (case aO => exact (by (with_reducible repeat (first | apply Kd.R_alloc | apply Kd.R_drewN | apply Kd.R_drew)); exact Kd.R_mono HO_9.out (fun _ hk => hk.2))); (case aS => exact (below_size (by repeat (first | (with_reducible first | exact HB.out | apply below_alloc | apply pw_below_drewN | apply below_drew1) | exact HB.out)))); (case aL => have := LMc20.out; omega); intro v595 w23 ho hb hg hat; rw [← Ny594.out] at ho; have n0_ := Aside0.mk (Kd.R_after (ok := (fun _ => True)) (by (with_reducible repeat (first | apply Kd.R_alloc | apply Kd.R_drewN | apply Kd.R_drew)); exact HO593.out) hg hat); have n1_ := Aside0.mk (hb); have n2_ := Aside0.mk (ho); clear HO593; clear HB; clear HO_9; have HO593 := n0_; have HB := n1_; have HO596 := n2_; clear n0_ n1_ n2_; clear ho hb hg hat))
                          go_roundg k2
                          case measure => have := HJ2.out; have := HK2.out; omega
                          case rel => exact ⟨(y594), (wrap64 (x10_2 + 1)), (by first | rfl | (simp; done) | (simp [*]; done)), H', ⟨by have := HJ2.out; have := HK2.out; omega⟩, ⟨by (with_reducible repeat (first | apply Kd.R_alloc | apply Kd.R_drewN | apply Kd.R_drew)); exact Kd.R_mono HO596.out (fun _ hk => trivial)⟩, ⟨by repeat (first | (with_reducible first | exact HB.out | apply below_alloc | apply pw_below_drewN | apply below_drew1) | exact HB.out)⟩⟩
                        · rw [if_neg c20] at H
                          exact absurd H (by simp)
                      · rw [if_neg c19] at H
                        have c19b0 : ((bt a1 x10_2) == 92) = false := beq_eq_false_iff_ne.mpr c19
                        have c19b1 : ((bt a1 x10_2) != 92) = true := bne_iff_ne.mpr c19
                        by_cases c25 : (bt a1 x10_2) = 10
                        · rw [if_pos c25] at H
                          have c25b0 : ((bt a1 x10_2) == 10) = true := beq_iff_eq.mpr c25
                          have c25b1 : ((bt a1 x10_2) != 10) = false := bne_eq_false_iff_eq.mpr c25
                          clear c25
                          obtain ⟨y597, hy597⟩ : ∃ y_ : List Int, y_ = (([92, 110] : List Int)) := ⟨_, rfl⟩
                          replace H : (if x9_2.length + y597.length < 140737488355328 then (pq_appendEscapedText.l1 k2 a1 (x9_2 ++ y597) (wrap64 (x10_2 + 1))) else (none)) = some r := by first | (rw [hy597]; with_reducible exact H) | (have H2_ := (Option.bind_some _ _).symm.trans H; rw [hy597]; with_reducible exact H2_) | (have H2_ := (Option.bind_some _ _).symm.trans H; with_reducible exact H2_) | with_reducible exact H | (rw [hy597]; exact H) | exact H
                          have Ny597 := Aside0.mk hy597
                          clear hy597
                          by_cases c26 : x9_2.length + y597.length < 140737488355328
                          · rw [if_pos c26] at H
                            have LMc26 := Aside0.mk c26
                            clear c26
                            obtain ⟨y600, hy600⟩ : ∃ y_ : List Int, y_ = (x9_2 ++ y597) := ⟨_, rfl⟩
                            replace H : (pq_appendEscapedText.l1 k2 a1 y600 (wrap64 (x10_2 + 1))) = some r := by first | (rw [hy600]; with_reducible exact H) | (have H2_ := (Option.bind_some _ _).symm.trans H; rw [hy600]; with_reducible exact H2_) | (have H2_ := (Option.bind_some _ _).symm.trans H; with_reducible exact H2_) | with_reducible exact H | (rw [hy600]; exact H) | exact H
                            have Ny600 := Aside0.mk hy600
                            clear hy600
                            have H' := Aside0.mk H
                            clear H
                            have p18 : 0 ≤ (x10_2 : Int) := of_decide_eq_true (by first | (with_reducible assumption) | assumption)
                            have q18 : x10_2 < (a1.size : Int) := of_decide_eq_true (by first | (with_reducible assumption) | assumption)
                            have hx18 := bt_at a1 x10_2
                            replace p18 := eq_true p18
                            replace q18 := eq_true q18
                            go_wp2_with (first | ((with_reducible refine gate_dst (N := 69) rfl ?_); refine Kd.R_lit (Kd.int .u8) _ 5 ?hg (N := 69) ?hd (xs := ([92, 110] : List Int)) (inner := [.int .u8 92, .int .u8 110]) (ok := fun _ => True) (okp := fun _ => True) ?hr ?hp (fun _ hk => hk) trivial (Below.refl _ _) (Nat.le_refl _) (by simp) ?_; (case hd => rfl); (case hg => rfl); (case hr => first | (go_simp; done) | (go_simp; rfl) | (go_simp; simp [IntKind.wrap_u8]; done)); (case hp => exact (Reps.one (show Kd.M (Kd.int .u8) _ _ _ 92 [.int .u8 92] from rfl) (Reps.one (show Kd.M (Kd.int .u8) _ _ _ 110 [.int .u8 110] from rfl) (Reps.none _ _)))); intro v598 w27 ho28 hb hg_ hnew_; clear hg_ hnew_; (first | rw [← Ny597.out] at ho28 | (simp only [Int.reduceToNat] at ho28; rw [← Ny597.out] at ho28)); have n0_ := Aside0.mk (Kd.R_elder' (by (with_reducible repeat (first | apply Kd.R_alloc | apply Kd.R_drewN | apply Kd.R_drew)); exact HO_9.out) (Kd.R_base ho28) hb); have n1_ := Aside0.mk (Kd.R_lower (Kd.R_new' ho28 (Kd.R_lt (by (with_reducible repeat (first | apply Kd.R_alloc | apply Kd.R_drewN | apply Kd.R_drew)); exact HO_9.out))) (below_size (by repeat (first | (with_reducible first | exact HB.out | apply below_alloc | apply pw_below_drewN | apply below_drew1) | exact HB.out)))); have n2_ := Aside0.mk (below_step (by repeat (first | (with_reducible first | exact HB.out | apply below_alloc | apply pw_below_drewN | apply below_drew1) | exact HB.out)) hb); clear HO_9; clear HB; have HO_9 := n0_; have HO599 := n1_; have HB := n2_; clear n0_ n1_ n2_; clear hb ho28; obtain ⟨Ao30, co30, eo30⟩ := Kd.R_slice HO599.out; subst eo30) | ((with_reducible refine gate_builtin (b := .append) (xs := #[.tmp 68, .tmp 69]) rfl ?_); at_builtin; refine Kd.R_append_rows (Kd.int .u8) (w0 := w) w.heap.size rfl (.tmp 68) (.tmp 69) 47 5 (.int .u8 0) 1 rfl Tryd.underlying47 info5 rfl (by decide) (by omega) u9 x9_2 y597 _ _ _ (fun k_ => some k_ ≠ (.slice Ao30 y597.length co30 : Value).ownBlock) (fun _ => False) rfl rfl ?aO ?aR (fun _ _ h => h) (fun _ h => h.elim) ?aF ?aB ?aS ?aL ?_; (case aR => repeat (first | exact (Kd.R_reads' HO599.out).2.2 | (with_reducible refine Kd.C_alloc ?_ _) | (with_reducible refine Kd.C_drewN ?_ _) | (with_reducible refine Kd.C_drew ?_))); (case aB => exact (by repeat (first | (with_reducible first | exact HB.out | apply below_alloc | apply pw_below_drewN | apply below_drew1) | exact HB.out))); (case aF => exact (fun k_ hk => Kd.fresh' (Kd.R_lt (by (with_reducible repeat (first | apply Kd.R_alloc | apply Kd.R_drewN | apply Kd.R_drew)); exact HO599.out)) k_ hk)); (case aO => exact (by (with_reducible repeat (first | apply Kd.R_alloc | apply Kd.R_drewN | apply Kd.R_drew)); exact Kd.R_mono HO_9.out (fun _ hk => hk.2))); (case aS => exact (below_size (by repeat (first | (with_reducible first | exact HB.out | apply below_alloc | apply pw_below_drewN | apply below_drew1) | exact HB.out)))); (case aL => have := LMc26.out; omega); intro v601 w29 ho hb hg hat; rw [← Ny600.out] at ho; have n0_ := Aside0.mk (Kd.R_after (ok := (fun _ => True)) (by (with_reducible repeat (first | apply Kd.R_alloc | apply Kd.R_drewN | apply Kd.R_drew)); exact HO599.out) hg hat); have n1_ := Aside0.mk (hb); have n2_ := Aside0.mk (ho); clear HO599; clear HB; clear HO_9; have HO599 := n0_; have HB := n1_; have HO602 := n2_; clear n0_ n1_ n2_; clear ho hb hg hat))
                            go_roundg k2
                            case measure => have := HJ2.out; have := HK2.out; omega
                            case rel => exact ⟨(y600), (wrap64 (x10_2 + 1)), (by first | rfl | (simp; done) | (simp [*]; done)), H', ⟨by have := HJ2.out; have := HK2.out; omega⟩, ⟨by (with_reducible repeat (first | apply Kd.R_alloc | apply Kd.R_drewN | apply Kd.R_drew)); exact Kd.R_mono HO602.out (fun _ hk => trivial)⟩, ⟨by repeat (first | (with_reducible first | exact HB.out | apply below_alloc | apply pw_below_drewN | apply below_drew1) | exact HB.out)⟩⟩
                          · rw [if_neg c26] at H
                            exact absurd H (by simp)
                        · rw [if_neg c25] at H
                          have c25b0 : ((bt a1 x10_2) == 10) = false := beq_eq_false_iff_ne.mpr c25
                          have c25b1 : ((bt a1 x10_2) != 10) = true := bne_iff_ne.mpr c25
                          by_cases c31 : (bt a1 x10_2) = 13
                          · rw [if_pos c31] at H
                            have c31b0 : ((bt a1 x10_2) == 13) = true := beq_iff_eq.mpr c31
                            have c31b1 : ((bt a1 x10_2) != 13) = false := bne_eq_false_iff_eq.mpr c31
                            clear c31
                            obtain ⟨y603, hy603⟩ : ∃ y_ : List Int, y_ = (([92, 114] : List Int)) := ⟨_, rfl⟩
                            replace H : (if x9_2.length + y603.length < 140737488355328 then (pq_appendEscapedText.l1 k2 a1 (x9_2 ++ y603) (wrap64 (x10_2 + 1))) else (none)) = some r := by first | (rw [hy603]; with_reducible exact H) | (have H2_ := (Option.bind_some _ _).symm.trans H; rw [hy603]; with_reducible exact H2_) | (have H2_ := (Option.bind_some _ _).symm.trans H; with_reducible exact H2_) | with_reducible exact H | (rw [hy603]; exact H) | exact H
                            have Ny603 := Aside0.mk hy603
                            clear hy603
                            by_cases c32 : x9_2.length + y603.length < 140737488355328
                            · rw [if_pos c32] at H
                              have LMc32 := Aside0.mk c32
                              clear c32
                              obtain ⟨y606, hy606⟩ : ∃ y_ : List Int, y_ = (x9_2 ++ y603) := ⟨_, rfl⟩
                              replace H : (pq_appendEscapedText.l1 k2 a1 y606 (wrap64 (x10_2 + 1))) = some r := by first | (rw [hy606]; with_reducible exact H) | (have H2_ := (Option.bind_some _ _).symm.trans H; rw [hy606]; with_reducible exact H2_) | (have H2_ := (Option.bind_some _ _).symm.trans H; with_reducible exact H2_) | with_reducible exact H | (rw [hy606]; exact H) | exact H
                              have Ny606 := Aside0.mk hy606
                              clear hy606
                              have H' := Aside0.mk H
                              clear H
                              have p18 : 0 ≤ (x10_2 : Int) := of_decide_eq_true (by first | (with_reducible assumption) | assumption)
                              have q18 : x10_2 < (a1.size : Int) := of_decide_eq_true (by first | (with_reducible assumption) | assumption)
                              have hx18 := bt_at a1 x10_2
                              replace p18 := eq_true p18
                              replace q18 := eq_true q18
                              go_wp2_with (first | ((with_reducible refine gate_dst (N := 74) rfl ?_); refine Kd.R_lit (Kd.int .u8) _ 5 ?hg (N := 74) ?hd (xs := ([92, 114] : List Int)) (inner := [.int .u8 92, .int .u8 114]) (ok := fun _ => True) (okp := fun _ => True) ?hr ?hp (fun _ hk => hk) trivial (Below.refl _ _) (Nat.le_refl _) (by simp) ?_; (case hd => rfl); (case hg => rfl); (case hr => first | (go_simp; done) | (go_simp; rfl) | (go_simp; simp [IntKind.wrap_u8]; done)); (case hp => exact (Reps.one (show Kd.M (Kd.int .u8) _ _ _ 92 [.int .u8 92] from rfl) (Reps.one (show Kd.M (Kd.int .u8) _ _ _ 114 [.int .u8 114] from rfl) (Reps.none _ _)))); intro v604 w33 ho34 hb hg_ hnew_; clear hg_ hnew_; (first | rw [← Ny603.out] at ho34 | (simp only [Int.reduceToNat] at ho34; rw [← Ny603.out] at ho34)); have n0_ := Aside0.mk (Kd.R_elder' (by (with_reducible repeat (first | apply Kd.R_alloc | apply Kd.R_drewN | apply Kd.R_drew)); exact HO_9.out) (Kd.R_base ho34) hb); have n1_ := Aside0.mk (Kd.R_lower (Kd.R_new' ho34 (Kd.R_lt (by (with_reducible repeat (first | apply Kd.R_alloc | apply Kd.R_drewN | apply Kd.R_drew)); exact HO_9.out))) (below_size (by repeat (first | (with_reducible first | exact HB.out | apply below_alloc | apply pw_below_drewN | apply below_drew1) | exact HB.out)))); have n2_ := Aside0.mk (below_step (by repeat (first | (with_reducible first | exact HB.out | apply below_alloc | apply pw_below_drewN | apply below_drew1) | exact HB.out)) hb); clear HO_9; clear HB; have HO_9 := n0_; have HO605 := n1_; have HB := n2_; clear n0_ n1_ n2_; clear hb ho34; obtain ⟨Ao36, co36, eo36⟩ := Kd.R_slice HO605.out; subst eo36) | ((with_reducible refine gate_builtin (b := .append) (xs := #[.tmp 73, .tmp 74]) rfl ?_); at_builtin; refine Kd.R_append_rows (Kd.int .u8) (w0 := w) w.heap.size rfl (.tmp 73) (.tmp 74) 47 5 (.int .u8 0) 1 rfl Tryd.underlying47 info5 rfl (by decide) (by omega) u9 x9_2 y603 _ _ _ (fun k_ => some k_ ≠ (.slice Ao36 y603.length co36 : Value).ownBlock) (fun _ => False) rfl rfl ?aO ?aR (fun _ _ h => h) (fun _ h => h.elim) ?aF ?aB ?aS ?aL ?_; (case aR => repeat (first | exact (Kd.R_reads' HO605.out).2.2 | (with_reducible refine Kd.C_alloc ?_ _) | (with_reducible refine Kd.C_drewN ?_ _) | (with_reducible refine Kd.C_drew ?_))); (case aB => exact (by repeat (first | (with_reducible first | exact HB.out | apply below_alloc | apply pw_below_drewN | apply below_drew1) | exact HB.out))); (case aF => exact (fun k_ hk => Kd.fresh' (Kd.R_lt (by (with_reducible repeat (first | apply Kd.R_alloc | apply Kd.R_drewN | apply Kd.R_drew)); exact HO605.out)) k_ hk)); (case aO => exact (by (with_reducible repeat (first | apply Kd.R_alloc | apply Kd.R_drewN | apply Kd.R_drew)); exact Kd.R_mono HO_9.out (fun _ hk => hk.2))); (case aS => exact (below_size (by repeat (first | (with_reducible first | exact HB.out | apply below_alloc | apply pw_below_drewN | apply below_drew1) | exact HB.out)))); (case aL => have := LMc32.out; omega); intro v607 w35 ho hb hg hat; rw [← Ny606.out] at ho; have n0_ := Aside0.mk (Kd.R_after (ok := (fun _ => True)) (by (with_reducible repeat (first | apply Kd.R_alloc | apply Kd.R_drewN | apply Kd.R_drew)); exact HO605.out) hg hat); have n1_ := Aside0.mk (hb); have n2_ := Aside0.mk (ho); clear HO605; clear HB; clear HO_9; have HO605 := n0_; have HB := n1_; have HO608 := n2_; clear n0_ n1_ n2_; clear ho hb hg hat))
                              go_roundg k2
                              case measure => have := HJ2.out; have := HK2.out; omega
                              case rel => exact ⟨(y606), (wrap64 (x10_2 + 1)), (by first | rfl | (simp; done) | (simp [*]; done)), H', ⟨by have := HJ2.out; have := HK2.out; omega⟩, ⟨by (with_reducible repeat (first | apply Kd.R_alloc | apply Kd.R_drewN | apply Kd.R_drew)); exact Kd.R_mono HO608.out (fun _ hk => trivial)⟩, ⟨by repeat (first | (with_reducible first | exact HB.out | apply below_alloc | apply pw_below_drewN | apply below_drew1) | exact HB.out)⟩⟩
                            · rw [if_neg c32] at H
                              exact absurd H (by simp)
                          · rw [if_neg c31] at H
                            have c31b0 : ((bt a1 x10_2) == 13) = false := beq_eq_false_iff_ne.mpr c31
                            have c31b1 : ((bt a1 x10_2) != 13) = true := bne_iff_ne.mpr c31
                            by_cases c37 : (bt a1 x10_2) = 9
                            · rw [if_pos c37] at H
                              have c37b0 : ((bt a1 x10_2) == 9) = true := beq_iff_eq.mpr c37
                              have c37b1 : ((bt a1 x10_2) != 9) = false := bne_eq_false_iff_eq.mpr c37
                              clear c37
                              obtain ⟨y609, hy609⟩ : ∃ y_ : List Int, y_ = (([92, 116] : List Int)) := ⟨_, rfl⟩
                              replace H : (if x9_2.length + y609.length < 140737488355328 then (pq_appendEscapedText.l1 k2 a1 (x9_2 ++ y609) (wrap64 (x10_2 + 1))) else (none)) = some r := by first | (rw [hy609]; with_reducible exact H) | (have H2_ := (Option.bind_some _ _).symm.trans H; rw [hy609]; with_reducible exact H2_) | (have H2_ := (Option.bind_some _ _).symm.trans H; with_reducible exact H2_) | with_reducible exact H | (rw [hy609]; exact H) | exact H
                              have Ny609 := Aside0.mk hy609
                              clear hy609
                              by_cases c38 : x9_2.length + y609.length < 140737488355328
                              · rw [if_pos c38] at H
                                have LMc38 := Aside0.mk c38
                                clear c38
                                obtain ⟨y612, hy612⟩ : ∃ y_ : List Int, y_ = (x9_2 ++ y609) := ⟨_, rfl⟩
                                replace H : (pq_appendEscapedText.l1 k2 a1 y612 (wrap64 (x10_2 + 1))) = some r := by first | (rw [hy612]; with_reducible exact H) | (have H2_ := (Option.bind_some _ _).symm.trans H; rw [hy612]; with_reducible exact H2_) | (have H2_ := (Option.bind_some _ _).symm.trans H; with_reducible exact H2_) | with_reducible exact H | (rw [hy612]; exact H) | exact H
                                have Ny612 := Aside0.mk hy612
                                clear hy612
                                have H' := Aside0.mk H
                                clear H
                                have p18 : 0 ≤ (x10_2 : Int) := of_decide_eq_true (by first | (with_reducible assumption) | assumption)
                                have q18 : x10_2 < (a1.size : Int) := of_decide_eq_true (by first | (with_reducible assumption) | assumption)
                                have hx18 := bt_at a1 x10_2
                                replace p18 := eq_true p18
                                replace q18 := eq_true q18
                                go_wp2_with (first | ((with_reducible refine gate_dst (N := 79) rfl ?_); refine Kd.R_lit (Kd.int .u8) _ 5 ?hg (N := 79) ?hd (xs := ([92, 116] : List Int)) (inner := [.int .u8 92, .int .u8 116]) (ok := fun _ => True) (okp := fun _ => True) ?hr ?hp (fun _ hk => hk) trivial (Below.refl _ _) (Nat.le_refl _) (by simp) ?_; (case hd => rfl); (case hg => rfl); (case hr => first | (go_simp; done) | (go_simp; rfl) | (go_simp; simp [IntKind.wrap_u8]; done)); (case hp => exact (Reps.one (show Kd.M (Kd.int .u8) _ _ _ 92 [.int .u8 92] from rfl) (Reps.one (show Kd.M (Kd.int .u8) _ _ _ 116 [.int .u8 116] from rfl) (Reps.none _ _)))); intro v610 w39 ho40 hb hg_ hnew_; clear hg_ hnew_; (first | rw [← Ny609.out] at ho40 | (simp only [Int.reduceToNat] at ho40; rw [← Ny609.out] at ho40)); have n0_ := Aside0.mk (Kd.R_elder' (by (with_reducible repeat (first | apply Kd.R_alloc | apply Kd.R_drewN | apply Kd.R_drew)); exact HO_9.out) (Kd.R_base ho40) hb); have n1_ := Aside0.mk (Kd.R_lower (Kd.R_new' ho40 (Kd.R_lt (by (with_reducible repeat (first | apply Kd.R_alloc | apply Kd.R_drewN | apply Kd.R_drew)); exact HO_9.out))) (below_size (by repeat (first | (with_reducible first | exact HB.out | apply below_alloc | apply pw_below_drewN | apply below_drew1) | exact HB.out)))); have n2_ := Aside0.mk (below_step (by repeat (first | (with_reducible first | exact HB.out | apply below_alloc | apply pw_below_drewN | apply below_drew1) | exact HB.out)) hb); clear HO_9; clear HB; have HO_9 := n0_; have HO611 := n1_; have HB := n2_; clear n0_ n1_ n2_; clear hb ho40; obtain ⟨Ao42, co42, eo42⟩ := Kd.R_slice HO611.out; subst eo42) | ((with_reducible refine gate_builtin (b := .append) (xs := #[.tmp 78, .tmp 79]) rfl ?_); at_builtin; refine Kd.R_append_rows (Kd.int .u8) (w0 := w) w.heap.size rfl (.tmp 78) (.tmp 79) 47 5 (.int .u8 0) 1 rfl Tryd.underlying47 info5 rfl (by decide) (by omega) u9 x9_2 y609 _ _ _ (fun k_ => some k_ ≠ (.slice Ao42 y609.length co42 : Value).ownBlock) (fun _ => False) rfl rfl ?aO ?aR (fun _ _ h => h) (fun _ h => h.elim) ?aF ?aB ?aS ?aL ?_; (case aR => repeat (first | exact (Kd.R_reads' HO611.out).2.2 | (with_reducible refine Kd.C_alloc ?_ _) | (with_reducible refine Kd.C_drewN ?_ _) | (with_reducible refine Kd.C_drew ?_))); (case aB => exact (by repeat (first | (with_reducible first | exact HB.out | apply below_alloc | apply pw_below_drewN | apply below_drew1) | exact HB.out))); (case aF => exact (fun k_ hk => Kd.fresh' (Kd.R_lt (by (with_reducible repeat (first | apply Kd.R_alloc | apply Kd.R_drewN | apply Kd.R_drew)); exact HO611.out)) k_ hk)); (case aO => exact (by (with_reducible repeat (first | apply Kd.R_alloc | apply Kd.R_drewN | apply Kd.R_drew)); exact Kd.R_mono HO_9.out (fun _ hk => hk.2))); (case aS => exact (below_size (by repeat (first | (with_reducible first | exact HB.out | apply below_alloc | apply pw_below_drewN | apply below_drew1) | exact HB.out)))); (case aL => have := LMc38.out; omega); intro v613 w41 ho hb hg hat; rw [← Ny612.out] at ho; have n0_ := Aside0.mk (Kd.R_after (ok := (fun _ => True)) (by (with_reducible repeat (first | apply Kd.R_alloc | apply Kd.R_drewN | apply Kd.R_drew)); exact HO611.out) hg hat); have n1_ := Aside0.mk (hb); have n2_ := Aside0.mk (ho); clear HO611; clear HB; clear HO_9; have HO611 := n0_; have HB := n1_; have HO614 := n2_; clear n0_ n1_ n2_; clear ho hb hg hat))
                                go_roundg k2
                                case measure => have := HJ2.out; have := HK2.out; omega
                                case rel => exact ⟨(y612), (wrap64 (x10_2 + 1)), (by first | rfl | (simp; done) | (simp [*]; done)), H', ⟨by have := HJ2.out; have := HK2.out; omega⟩, ⟨by (with_reducible repeat (first | apply Kd.R_alloc | apply Kd.R_drewN | apply Kd.R_drew)); exact Kd.R_mono HO614.out (fun _ hk => trivial)⟩, ⟨by repeat (first | (with_reducible first | exact HB.out | apply below_alloc | apply pw_below_drewN | apply below_drew1) | exact HB.out)⟩⟩
                              · rw [if_neg c38] at H
                                exact absurd H (by simp)
                            · rw [if_neg c37] at H
                              have c37b0 : ((bt a1 x10_2) == 9) = false := beq_eq_false_iff_ne.mpr c37
                              have c37b1 : ((bt a1 x10_2) != 9) = true := bne_iff_ne.mpr c37
                              by_cases c43 : x9_2.length < 140737488355328
                              · rw [if_pos c43] at H
                                have LMc43 := Aside0.mk c43
                                clear c43
                                obtain ⟨y615, hy615⟩ : ∃ y_ : List Int, y_ = (x9_2 ++ [bt a1 x10_2]) := ⟨_, rfl⟩
                                replace H : (pq_appendEscapedText.l1 k2 a1 y615 (wrap64 (x10_2 + 1))) = some r := by first | (rw [hy615]; with_reducible exact H) | (have H2_ := (Option.bind_some _ _).symm.trans H; rw [hy615]; with_reducible exact H2_) | (have H2_ := (Option.bind_some _ _).symm.trans H; with_reducible exact H2_) | with_reducible exact H | (rw [hy615]; exact H) | exact H
                                have Ny615 := Aside0.mk hy615
                                clear hy615
                                have H' := Aside0.mk H
                                clear H
                                have p18 : 0 ≤ (x10_2 : Int) := of_decide_eq_true (by first | (with_reducible assumption) | assumption)
                                have q18 : x10_2 < (a1.size : Int) := of_decide_eq_true (by first | (with_reducible assumption) | assumption)
                                have hx18 := bt_at a1 x10_2
                                replace p18 := eq_true p18
                                replace q18 := eq_true q18
                                go_wp2_with (first | ((with_reducible refine gate_builtin (b := .append) (xs := #[.tmp 57, .tmp 59]) rfl ?_); at_builtin; refine Kd.R_append (Kd.int .u8) (w0 := w) w.heap.size rfl (.tmp 57) (.tmp 59) 47 5 (.int .u8 0) 1 rfl Tryd.underlying47 info5 rfl (by decide) (by omega) u9 x9_2 (bt a1 x10_2) [.int .u8 (bt a1 x10_2)] (fun _ => True) (fun _ => False) rfl rfl ?aP (fun _ hk => hk.elim) ?aF ?aO ?aB ?aS ?aL ?_; (case aP => exact rfl); (case aB => exact (by repeat (first | (with_reducible first | exact HB.out | apply below_alloc | apply pw_below_drewN | apply below_drew1) | exact HB.out))); (case aF => exact (fun _ _ => trivial)); (case aO => exact (by (with_reducible repeat (first | apply Kd.R_alloc | apply Kd.R_drewN | apply Kd.R_drew)); exact HO_9.out)); (case aS => exact (below_size (by repeat (first | (with_reducible first | exact HB.out | apply below_alloc | apply pw_below_drewN | apply below_drew1) | exact HB.out)))); (case aL => have := LMc43.out; omega); intro v616 w44 ho hb hg hat; rw [← Ny615.out] at ho; have n0_ := Aside0.mk (hb); have n1_ := Aside0.mk (ho); clear HB; clear HO_9; have HB := n0_; have HO617 := n1_; clear n0_ n1_; clear ho hb hg hat))
                                go_roundg k2
                                case measure => have := HJ2.out; have := HK2.out; omega
                                case rel => exact ⟨(y615), (wrap64 (x10_2 + 1)), (by first | rfl | (simp; done) | (simp [*]; done)), H', ⟨by have := HJ2.out; have := HK2.out; omega⟩, ⟨by (with_reducible repeat (first | apply Kd.R_alloc | apply Kd.R_drewN | apply Kd.R_drew)); exact HO617.out⟩, ⟨by repeat (first | (with_reducible first | exact HB.out | apply below_alloc | apply pw_below_drewN | apply below_drew1) | exact HB.out)⟩⟩
                              · rw [if_neg c43] at H
                                exact absurd H (by simp)
                    · rw [if_neg c17] at H
                      exact absurd H (by simp)
                  · rw [if_neg c16] at H
                    have c16b0 : decide (x10_2 < (a1.size : Int)) = false := decide_eq_false c16
                    clear c16
                    obtain rfl := Option.some.inj H
                    go_wp2
                    go_ret
                    exact ⟨_, by first | rfl | (simp [errW_none, errW_some] <;> rfl) | (simp [*, errW_none, errW_some] <;> rfl), by (with_reducible repeat (first | apply Kd.R_alloc | apply Kd.R_drewN | apply Kd.R_drew)); exact HO_9.out, by repeat (first | (with_reducible first | exact HB.out | apply below_alloc | apply pw_below_drewN | apply below_drew1) | exact HB.out)⟩
            · rw [if_neg c14] at H
              exact absurd H (by simp)
          · rw [if_neg c13] at H
            exact absurd H (by simp)
        · rw [if_neg c12] at H
          exact absurd H (by simp)
      · replace c11 := Bool.eq_false_iff.mpr c11
        subst c11
        have H1 : (if ([] : List Int).length + a1.size < 140737488355328 then (some (([] : List Int) ++ bytesOf a1)) else (none)) = some r := by rw [if_neg (show ¬ (false = true) by decide)] at H; exact H
        clear H
        have H := H1
        clear H1
        by_cases c45 : ([] : List Int).length + a1.size < 140737488355328
        · rw [if_pos c45] at H
          have LMc45 := Aside0.mk c45
          clear c45
          obtain ⟨y585, hy585⟩ : ∃ y_ : List Int, y_ = (([] : List Int) ++ bytesOf a1) := ⟨_, rfl⟩
          replace H : (some y585) = some r := by first | (rw [hy585]; with_reducible exact H) | (have H2_ := (Option.bind_some _ _).symm.trans H; rw [hy585]; with_reducible exact H2_) | (have H2_ := (Option.bind_some _ _).symm.trans H; with_reducible exact H2_) | with_reducible exact H | (rw [hy585]; exact H) | exact H
          have Ny585 := Aside0.mk hy585
          clear hy585
          obtain rfl := Option.some.inj H
          go_wp2_with (first | (at_builtin; refine print_append_str (w0 := w) w.heap.size rfl (.tmp 38) _ 47 9 5 rfl Tryd.underlying47 Tryd.underlying9 info5 (.slice none 0 0) ([] : List Int) a1 rfl rfl ?aO ?aB ?aS ?aL ?_; (case aB => exact (by repeat (first | (with_reducible first | exact HB.out | apply below_alloc | apply pw_below_drewN | apply below_drew1) | exact HB.out))); (case aO => exact (Kd.own_of_R (by (with_reducible repeat (first | apply Kd.R_alloc | apply Kd.R_drewN | apply Kd.R_drew)); exact HO_0.out))); (case aS => exact (below_size (by repeat (first | (with_reducible first | exact HB.out | apply below_alloc | apply pw_below_drewN | apply below_drew1) | exact HB.out)))); (case aL => have := LMc45.out; omega); intro v586 w46 ho0 hb hg; have ho := Kd.R_of_own (h1 := fun _ => rfl) (ok := fun _ => True) ho0 (fun _ _ => trivial); clear ho0; have hat := True.intro; rw [← Ny585.out] at ho; change Kd.R (Kd.int .u8) 5 w46 w.heap.size (fun _ => True) v586 y585 at ho; have n0_ := Aside0.mk (hb); have n1_ := Aside0.mk (ho); clear HB; clear HO_0; have HB := n0_; have HO587 := n1_; clear n0_ n1_; clear ho hb hg hat))
          go_ret
          exact ⟨_, by first | rfl | (simp [errW_none, errW_some] <;> rfl) | (simp [*, errW_none, errW_some] <;> rfl), by (with_reducible repeat (first | apply Kd.R_alloc | apply Kd.R_drewN | apply Kd.R_drew)); exact HO587.out, by repeat (first | (with_reducible first | exact HB.out | apply below_alloc | apply pw_below_drewN | apply below_drew1) | exact HB.out)⟩
        · rw [if_neg c45] at H
          exact absurd H (by simp)

-- NOT PRINTED: function 34 (pq_appendEncodedText)

-- NOT PRINTED: function 24 (pq_CopyText)

end Go.Proofs.YtlhjblbmhlelbaaDoor.P
