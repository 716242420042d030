-- PRINTED BY print.sh 35421559b90ae4d0a3588c463048766b98c2df88dd9212a6774a882060cdf62d: not written by this session
import Derived.Test.YtlfkejljbehcaaaPFnTypeSizex0
namespace Go.Proofs.Ytlfkejljbehcaaa.PFnTypeSize
open Go.RowKit Go.Proofs.YtlfkejljbehcaaaW.PrintWords Go.Proofs.YtlfkejljbehcaaaW.PrintLast Go.Proofs.YtlfkejljbehcaaaW.PrintMore
attribute [local go_sem] max2_int min2_int max_two min_two max_three min_three max_four min_four   -- for this text's walks alone
set_option linter.unusedVariables false
set_option linter.unusedSimpArgs false

/-! ### pq_fieldDesc_Length: function 32 -/
mutual
def pq_fieldDesc_Length.j0 : Nat → Int → Bool → Int → Int → Int → Option (Int × Bool)
  | 0, _, _, _, _, _ => none
  | k + 1, x5, x6, x102000, x102001, x102002 => if x6 = true then (some (9223372036854775807, true)) else (if x5 = 1043 then (pq_fieldDesc_Length.j1 k x5 (x5 == 1043) x102000 x102001 x102002) else (pq_fieldDesc_Length.j1 k x5 (x5 == 1042) x102000 x102001 x102002))
def pq_fieldDesc_Length.j1 : Nat → Int → Bool → Int → Int → Int → Option (Int × Bool)
  | 0, _, _, _, _, _ => none
  | k + 1, x5, x9, x102000, x102001, x102002 => if x9 = true then (some (wrap64 (x102002 - 4), true)) else (if x5 = 1562 then (some (x102002, true)) else (if x5 = 1560 then (some (x102002, true)) else (some (0, false))))
end
def pq_fieldDesc_Length.f (k : Nat) (a0_0 : Int) (a0_1 : Int) (a0_2 : Int) : Option (Int × Bool) := if a0_0 = 25 then (pq_fieldDesc_Length.j0 k a0_0 (a0_0 == 25) a0_0 a0_1 a0_2) else (pq_fieldDesc_Length.j0 k a0_0 (a0_0 == 17) a0_0 a0_1 a0_2)
theorem pq_fieldDesc_Length.mono_l : ∀ k, (∀ y0 y1 y2 y3 y4, LeO (pq_fieldDesc_Length.j0 k y0 y1 y2 y3 y4) (pq_fieldDesc_Length.j0 (k + 1) y0 y1 y2 y3 y4)) ∧ (∀ y0 y1 y2 y3 y4, LeO (pq_fieldDesc_Length.j1 k y0 y1 y2 y3 y4) (pq_fieldDesc_Length.j1 (k + 1) y0 y1 y2 y3 y4))
  | 0 => ⟨fun _ _ _ _ _ r h => by simp [pq_fieldDesc_Length.j0] at h, fun _ _ _ _ _ r h => by simp [pq_fieldDesc_Length.j1] at h⟩
  | k + 1 => by
    obtain ⟨ih0, ih1⟩ := pq_fieldDesc_Length.mono_l k
    refine ⟨?_, ?_⟩
    · intro y0 y1 y2 y3 y4
      unfold pq_fieldDesc_Length.j0
      repeat' first
      | (with_reducible exact ih0 _ _ _ _ _)
      | (with_reducible exact ih1 _ _ _ _ _)
      | (with_reducible exact LeO.refl _)
      | (with_reducible exact LeO.none _)
      | (with_reducible refine LeO.ite ?_ ?_)
      | (with_reducible refine LeO.bind ?_ (fun _ => ?_))
      | exact ih0 _ _ _ _ _
      | exact ih1 _ _ _ _ _
      | exact LeO.none _
      | refine LeO.ite ?_ ?_
      | refine LeO.bind ?_ (fun _ => ?_)
    · intro y0 y1 y2 y3 y4
      unfold pq_fieldDesc_Length.j1
      repeat' first
      | (with_reducible exact ih0 _ _ _ _ _)
      | (with_reducible exact ih1 _ _ _ _ _)
      | (with_reducible exact LeO.refl _)
      | (with_reducible exact LeO.none _)
      | (with_reducible refine LeO.ite ?_ ?_)
      | (with_reducible refine LeO.bind ?_ (fun _ => ?_))
      | exact ih0 _ _ _ _ _
      | exact ih1 _ _ _ _ _
      | exact LeO.none _
      | refine LeO.ite ?_ ?_
      | refine LeO.bind ?_ (fun _ => ?_)
theorem pq_fieldDesc_Length.mono : ∀ a0 a1 a2 k, LeO (pq_fieldDesc_Length.f k a0 a1 a2) (pq_fieldDesc_Length.f (k + 1) a0 a1 a2) := by
  intro a0 a1 a2 k
  obtain ⟨ih0, ih1⟩ := pq_fieldDesc_Length.mono_l k
  unfold pq_fieldDesc_Length.f
  repeat' first
      | (with_reducible exact ih0 _ _ _ _ _)
      | (with_reducible exact ih1 _ _ _ _ _)
      | (with_reducible exact LeO.refl _)
      | (with_reducible exact LeO.none _)
      | (with_reducible refine LeO.ite ?_ ?_)
      | (with_reducible refine LeO.bind ?_ (fun _ => ?_))
      | exact ih0 _ _ _ _ _
      | exact ih1 _ _ _ _ _
      | exact LeO.none _
      | refine LeO.ite ?_ ?_
      | refine LeO.bind ?_ (fun _ => ?_)
set_option maxHeartbeats 8000000 in
set_option maxRecDepth 100000 in
theorem pq_fieldDesc_Length.calls (k : Nat) (a0_0 : Int) (a0_1 : Int) (a0_2 : Int) (r1 : Int) (r2 : Bool) (w : World) (h : pq_fieldDesc_Length.f k a0_0 a0_1 a0_2 = some (r1, r2)) :
    Calls Try.prog 32 #[.agg #[.int .u32 a0_0, .int .i64 a0_1, .int .i64 a0_2]] w fun e w' => e = .returned (.tuple #[.int .i64 r1, .bool r2]) ∧ Below w.heap.size w w' := by
  have hu51 := Try.underlying51
  have HB := Aside0.mk (Below.refl w.heap.size w)
  have H : (if a0_0 = 25 then (pq_fieldDesc_Length.j0 k a0_0 (a0_0 == 25) a0_0 a0_1 a0_2) else (pq_fieldDesc_Length.j0 k a0_0 (a0_0 == 17) a0_0 a0_1 a0_2)) = some (r1, r2) := h
  clear h
  have HC2 := Aside0.mk H
  clear H
  go_enter Try.func32, Try.ntmps32
  go_upto_if 6 with (first | ((with_reducible refine gate_dst (N := 1) rfl ?_); refine box_event ?hg (N := 1) ?hd (cs := #[.int .u32 a0_0, .int .i64 a0_1, .int .i64 a0_2]) (t := 51) ?hr ?_; (case hd => rfl); (case hg => rfl); (case hr => first | (go_simp; done) | (go_simp; rfl)); intro gb101 hg w3 hbox hb; have n0_ := Aside0.mk (below_step (by repeat (first | (with_reducible first | exact HB.out | apply below_alloc | apply pw_below_drewN | apply below_drew1) | exact HB.out)) hb); have n1_ := Aside0.mk (hbox); have n2_ := Aside0.mk ((by rw [hg]; exact (below_size (by repeat (first | (with_reducible first | exact HB.out | apply below_alloc | apply pw_below_drewN | apply below_drew1) | exact HB.out))) : w.heap.size ≤ gb101)); have n3_ := Aside0.mk ((by rw [hg]; exact (below_size (by repeat (first | (with_reducible first | exact HB.out | apply below_alloc | apply pw_below_drewN | apply below_drew1) | exact HB.out))) : w.heap.size ≤ gb101)); clear HB; have HB := n0_; have BK101 := n1_; have GW101 := n2_; have GE101 := n3_; clear n0_ n1_ n2_ n3_; clear hb hbox hg; have hcz4_0 : w3.cell? ⟨gb101, 0, none⟩ = some (.int .u32 a0_0) := (blk_cell BK101.out 0).trans rfl; have hcz4_1 : w3.cell? ⟨gb101, 1, none⟩ = some (.int .i64 a0_1) := (blk_cell BK101.out 1).trans rfl; have hcz4_2 : w3.cell? ⟨gb101, 2, none⟩ = some (.int .i64 a0_2) := (blk_cell BK101.out 2).trans rfl; have hfz4_0 := blk_frozen BK101.out 0; have hfz4_1 := blk_frozen BK101.out 1; have hfz4_2 := blk_frozen BK101.out 2))
  (try simp only [Act.put, List.setIfInBounds_toArray, List.set_cons_zero, List.set_cons_succ])
  go_cut [6] (fun v6 wc => ∃ (kq : Nat) (x6_1 : Bool), v6 = .bool x6_1 ∧ Aside0 (pq_fieldDesc_Length.j0 kq a0_0 x6_1 a0_0 a0_1 a0_2 = some (r1, r2)) ∧ Aside0 (kq ≤ k) ∧ Aside0 (wc.heap[gb101]? = some (.cells #[.int .u32 a0_0, .int .i64 a0_1, .int .i64 a0_2] 51 (0, 0))) ∧ Aside0 (Below w.heap.size w wc))
  case first =>
    have H := HC2.out
    clear HC2
    by_cases c5 : a0_0 = 25
    · rw [if_pos c5] at H
      have c5b0 : (a0_0 == 25) = true := beq_iff_eq.mpr c5
      have c5b1 : (a0_0 != 25) = false := bne_eq_false_iff_eq.mpr c5
      clear c5
      (first | rw [c5b0] | (simp only [i64_w, i32_w]; rw [c5b0]) | skip)
      have H' := Aside0.mk H
      clear H
      go_wp2
      go_meet
      case rel => exact ⟨_, ((a0_0 == 25)), (by first | rfl | (simp; done) | (simp [*]; done)), H', ⟨by first | omega | exact Nat.le_refl _⟩, ⟨by (with_reducible repeat (first | refine blk_drewN ?_ _ | refine blk_drew ?_ | refine blk_alloc ?_ _)); exact BK101.out⟩, ⟨by repeat (first | (with_reducible first | exact HB.out | apply below_alloc | apply pw_below_drewN | apply below_drew1 | refine below_set ?_ GE101.out) | exact HB.out)⟩⟩
    · rw [if_neg c5] at H
      have c5b0 : (a0_0 == 25) = false := beq_eq_false_iff_ne.mpr c5
      have c5b1 : (a0_0 != 25) = true := bne_iff_ne.mpr c5
      (first | rw [c5b0] | (simp only [i64_w, i32_w]; rw [c5b0]) | skip)
      have H' := Aside0.mk H
      clear H
      go_wp2
      go_meet
      case rel => exact ⟨_, ((a0_0 == 17)), (by first | rfl | (simp; done) | (simp [*]; done)), H', ⟨by first | omega | exact Nat.le_refl _⟩, ⟨by (with_reducible repeat (first | refine blk_drewN ?_ _ | refine blk_drew ?_ | refine blk_alloc ?_ _)); exact BK101.out⟩, ⟨by repeat (first | (with_reducible first | exact HB.out | apply below_alloc | apply pw_below_drewN | apply below_drew1 | refine below_set ?_ GE101.out) | exact HB.out)⟩⟩
  case rest =>
    clear HC2
    try clear p2
    try clear c3
    try clear c5
    try clear c5b0
    try clear c5b1
    try clear hcz4_0
    try clear hcz4_1
    try clear hcz4_2
    try clear hfz4_0
    try clear hfz4_1
    try clear hfz4_2
    obtain ⟨kq, x6_1, rfl, HA, HJ1, BK101, HB⟩ := hcut
    cases kq with
    | zero => exact absurd HA.out (by simp [pq_fieldDesc_Length.j0])
    | succ kj1 =>
      have H := HA.out
      clear HA
      simp only [pq_fieldDesc_Length.j0] at H
      by_cases c6 : x6_1 = true
      · subst c6
        have H1 : (some (9223372036854775807, true)) = some (r1, r2) := by rw [if_pos rfl] at H; exact H
        clear H
        have H := H1
        clear H1
        simp only [Option.some.injEq, Prod.mk.injEq] at H
        obtain ⟨rfl, rfl⟩ := H
        go_wp2
        go_ret2
        exact ⟨by first | rfl | (simp [errW_none, errW_some] <;> rfl) | (simp [*, errW_none, errW_some] <;> rfl), by repeat (first | (with_reducible first | exact HB.out | apply below_alloc | apply pw_below_drewN | apply below_drew1 | refine below_set ?_ GE101.out) | exact HB.out)⟩
      · replace c6 := Bool.eq_false_iff.mpr c6
        subst c6
        have H1 : (if a0_0 = 1043 then (pq_fieldDesc_Length.j1 kj1 a0_0 (a0_0 == 1043) a0_0 a0_1 a0_2) else (pq_fieldDesc_Length.j1 kj1 a0_0 (a0_0 == 1042) a0_0 a0_1 a0_2)) = some (r1, r2) := by rw [if_neg (show ¬ (false = true) by decide)] at H; exact H
        clear H
        have H := H1
        clear H1
        have HC7 := Aside0.mk H
        clear H
        go_upto_if 9 with (fail)
        go_cut [9] (fun v9 wc => ∃ (kq : Nat) (x9_6 : Bool), v9 = .bool x9_6 ∧ Aside0 (pq_fieldDesc_Length.j1 kq a0_0 x9_6 a0_0 a0_1 a0_2 = some (r1, r2)) ∧ Aside0 (kq ≤ kj1) ∧ Aside0 (wc.heap[gb101]? = some (.cells #[.int .u32 a0_0, .int .i64 a0_1, .int .i64 a0_2] 51 (0, 0))) ∧ Aside0 (Below w.heap.size w wc))
        case first =>
          have H := HC7.out
          clear HC7
          by_cases c8 : a0_0 = 1043
          · rw [if_pos c8] at H
            have c8b0 : (a0_0 == 1043) = true := beq_iff_eq.mpr c8
            have c8b1 : (a0_0 != 1043) = false := bne_eq_false_iff_eq.mpr c8
            clear c8
            (first | rw [c8b0] | (simp only [i64_w, i32_w]; rw [c8b0]) | skip)
            have H' := Aside0.mk H
            clear H
            go_wp2
            go_meet
            case rel => exact ⟨_, ((a0_0 == 1043)), (by first | rfl | (simp; done) | (simp [*]; done)), H', ⟨by have := HJ1.out; first | omega | exact Nat.le_refl _⟩, ⟨by (with_reducible repeat (first | refine blk_drewN ?_ _ | refine blk_drew ?_ | refine blk_alloc ?_ _)); exact BK101.out⟩, ⟨by repeat (first | (with_reducible first | exact HB.out | apply below_alloc | apply pw_below_drewN | apply below_drew1 | refine below_set ?_ GE101.out) | exact HB.out)⟩⟩
          · rw [if_neg c8] at H
            have c8b0 : (a0_0 == 1043) = false := beq_eq_false_iff_ne.mpr c8
            have c8b1 : (a0_0 != 1043) = true := bne_iff_ne.mpr c8
            (first | rw [c8b0] | (simp only [i64_w, i32_w]; rw [c8b0]) | skip)
            have H' := Aside0.mk H
            clear H
            go_wp2
            go_meet
            case rel => exact ⟨_, ((a0_0 == 1042)), (by first | rfl | (simp; done) | (simp [*]; done)), H', ⟨by have := HJ1.out; first | omega | exact Nat.le_refl _⟩, ⟨by (with_reducible repeat (first | refine blk_drewN ?_ _ | refine blk_drew ?_ | refine blk_alloc ?_ _)); exact BK101.out⟩, ⟨by repeat (first | (with_reducible first | exact HB.out | apply below_alloc | apply pw_below_drewN | apply below_drew1 | refine below_set ?_ GE101.out) | exact HB.out)⟩⟩
        case rest =>
          clear HC7
          try clear p2
          try clear c3
          try clear c5
          try clear c5b0
          try clear c5b1
          try clear c6
          try clear c8
          try clear c8b0
          try clear c8b1
          try clear hcz4_0
          try clear hcz4_1
          try clear hcz4_2
          try clear hfz4_0
          try clear hfz4_1
          try clear hfz4_2
          try clear p2
          obtain ⟨kq, x9_6, rfl, HA, HJ6, BK101, HB⟩ := hcut
          cases kq with
          | zero => exact absurd HA.out (by simp [pq_fieldDesc_Length.j1])
          | succ kj6 =>
            have H := HA.out
            clear HA
            simp only [pq_fieldDesc_Length.j1] at H
            by_cases c9 : x9_6 = true
            · subst c9
              have H1 : (some (wrap64 (a0_2 - 4), true)) = some (r1, r2) := by rw [if_pos rfl] at H; exact H
              clear H
              have H := H1
              clear H1
              simp only [Option.some.injEq, Prod.mk.injEq] at H
              obtain ⟨rfl, rfl⟩ := H
              have hcz10_0 : wc.cell? ⟨gb101, 0, none⟩ = some (.int .u32 a0_0) := (blk_cell BK101.out 0).trans rfl
              have hcz10_1 : wc.cell? ⟨gb101, 1, none⟩ = some (.int .i64 a0_1) := (blk_cell BK101.out 1).trans rfl
              have hcz10_2 : wc.cell? ⟨gb101, 2, none⟩ = some (.int .i64 a0_2) := (blk_cell BK101.out 2).trans rfl
              have hfz10_0 := blk_frozen BK101.out 0
              have hfz10_1 := blk_frozen BK101.out 1
              have hfz10_2 := blk_frozen BK101.out 2
              go_wp2
              go_ret2
              exact ⟨by first | rfl | (simp [errW_none, errW_some] <;> rfl) | (simp [*, errW_none, errW_some] <;> rfl), by repeat (first | (with_reducible first | exact HB.out | apply below_alloc | apply pw_below_drewN | apply below_drew1 | refine below_set ?_ GE101.out) | exact HB.out)⟩
            · replace c9 := Bool.eq_false_iff.mpr c9
              subst c9
              have H1 : (if a0_0 = 1562 then (some (a0_2, true)) else (if a0_0 = 1560 then (some (a0_2, true)) else (some (0, false)))) = some (r1, r2) := by rw [if_neg (show ¬ (false = true) by decide)] at H; exact H
              clear H
              have H := H1
              clear H1
              by_cases c11 : a0_0 = 1562
              · rw [if_pos c11] at H
                have c11b0 : (a0_0 == 1562) = true := beq_iff_eq.mpr c11
                have c11b1 : (a0_0 != 1562) = false := bne_eq_false_iff_eq.mpr c11
                clear c11
                simp only [Option.some.injEq, Prod.mk.injEq] at H
                obtain ⟨rfl, rfl⟩ := H
                have hcz12_0 : wc.cell? ⟨gb101, 0, none⟩ = some (.int .u32 a0_0) := (blk_cell BK101.out 0).trans rfl
                have hcz12_1 : wc.cell? ⟨gb101, 1, none⟩ = some (.int .i64 a0_1) := (blk_cell BK101.out 1).trans rfl
                have hcz12_2 : wc.cell? ⟨gb101, 2, none⟩ = some (.int .i64 a0_2) := (blk_cell BK101.out 2).trans rfl
                have hfz12_0 := blk_frozen BK101.out 0
                have hfz12_1 := blk_frozen BK101.out 1
                have hfz12_2 := blk_frozen BK101.out 2
                go_wp2
                go_ret2
                exact ⟨by first | rfl | (simp [errW_none, errW_some] <;> rfl) | (simp [*, errW_none, errW_some] <;> rfl), by repeat (first | (with_reducible first | exact HB.out | apply below_alloc | apply pw_below_drewN | apply below_drew1 | refine below_set ?_ GE101.out) | exact HB.out)⟩
              · rw [if_neg c11] at H
                have c11b0 : (a0_0 == 1562) = false := beq_eq_false_iff_ne.mpr c11
                have c11b1 : (a0_0 != 1562) = true := bne_iff_ne.mpr c11
                by_cases c13 : a0_0 = 1560
                · rw [if_pos c13] at H
                  have c13b0 : (a0_0 == 1560) = true := beq_iff_eq.mpr c13
                  have c13b1 : (a0_0 != 1560) = false := bne_eq_false_iff_eq.mpr c13
                  clear c13
                  simp only [Option.some.injEq, Prod.mk.injEq] at H
                  obtain ⟨rfl, rfl⟩ := H
                  have hcz14_0 : wc.cell? ⟨gb101, 0, none⟩ = some (.int .u32 a0_0) := (blk_cell BK101.out 0).trans rfl
                  have hcz14_1 : wc.cell? ⟨gb101, 1, none⟩ = some (.int .i64 a0_1) := (blk_cell BK101.out 1).trans rfl
                  have hcz14_2 : wc.cell? ⟨gb101, 2, none⟩ = some (.int .i64 a0_2) := (blk_cell BK101.out 2).trans rfl
                  have hfz14_0 := blk_frozen BK101.out 0
                  have hfz14_1 := blk_frozen BK101.out 1
                  have hfz14_2 := blk_frozen BK101.out 2
                  go_wp2
                  go_ret2
                  exact ⟨by first | rfl | (simp [errW_none, errW_some] <;> rfl) | (simp [*, errW_none, errW_some] <;> rfl), by repeat (first | (with_reducible first | exact HB.out | apply below_alloc | apply pw_below_drewN | apply below_drew1 | refine below_set ?_ GE101.out) | exact HB.out)⟩
                · rw [if_neg c13] at H
                  have c13b0 : (a0_0 == 1560) = false := beq_eq_false_iff_ne.mpr c13
                  have c13b1 : (a0_0 != 1560) = true := bne_iff_ne.mpr c13
                  simp only [Option.some.injEq, Prod.mk.injEq] at H
                  obtain ⟨rfl, rfl⟩ := H
                  go_wp2
                  go_ret2
                  exact ⟨by first | rfl | (simp [errW_none, errW_some] <;> rfl) | (simp [*, errW_none, errW_some] <;> rfl), by repeat (first | (with_reducible first | exact HB.out | apply below_alloc | apply pw_below_drewN | apply below_drew1 | refine below_set ?_ GE101.out) | exact HB.out)⟩

/-! ### pq_ColumnLength: function 24 -/
def pq_ColumnLength.f (k : Nat) (a0 : Int) (a1 : Int) : Option (Int × Bool) := (pq_fieldDesc_Length.f k a0 0 a1).bind fun bt102 => (some (bt102.1, bt102.2))
theorem pq_ColumnLength.mono : ∀ a0 a1 k, LeO (pq_ColumnLength.f k a0 a1) (pq_ColumnLength.f (k + 1) a0 a1) := by
  intro a0 a1 k
  unfold pq_ColumnLength.f
  repeat' first
      | (with_reducible exact pq_fieldDesc_Length.mono _ _ _ _)
      | (with_reducible exact LeO.refl _)
      | (with_reducible exact LeO.none _)
      | (with_reducible refine LeO.ite ?_ ?_)
      | (with_reducible refine LeO.bind ?_ (fun _ => ?_))
      | exact pq_fieldDesc_Length.mono _ _ _ _
      | exact LeO.none _
      | refine LeO.ite ?_ ?_
      | refine LeO.bind ?_ (fun _ => ?_)
set_option maxHeartbeats 8000000 in
set_option maxRecDepth 100000 in
theorem pq_ColumnLength.calls (k : Nat) (a0 : Int) (a1 : Int) (r1 : Int) (r2 : Bool) (w : World) (h : pq_ColumnLength.f k a0 a1 = some (r1, r2)) :
    Calls Try.prog 24 #[.int .u32 a0, .int .i64 a1] w fun e w' => e = .returned (.tuple #[.int .i64 r1, .bool r2]) ∧ Below w.heap.size w w' := by
  have hu51 := Try.underlying51
  have HB := Aside0.mk (Below.refl w.heap.size w)
  have H : ((pq_fieldDesc_Length.f k a0 0 a1).bind fun bt102 => (some (bt102.1, bt102.2))) = some (r1, r2) := h
  clear h
  replace H := Option.bind_eq_some_iff.mp H
  obtain ⟨⟨t102, t103⟩, A30, H⟩ := H
  replace H : (some (t102, t103)) = some (r1, r2) := H
  have A3 := Aside0.mk A30
  clear A30
  simp only [Option.some.injEq, Prod.mk.injEq] at H
  obtain ⟨rfl, rfl⟩ := H
  go_enter Try.func24, Try.ntmps24
  go_wp2_with (first | ((with_reducible refine gate_callee (f := 32) rfl ?_); refine goesL_ (some 9) rfl rfl Try.func32 (by kernel_rfl) rfl #[.agg #[.int .u32 a0, .int .i64 0, .int .i64 a1]] rfl (by (try simp only [List.map_toArray, List.map_cons, List.map_nil]); first | done | rfl | (simp only [List.length_drop, List.length_take]; rfl)) ?_; (with_reducible refine (pq_fieldDesc_Length.calls k a0 0 a1 t102 t103 _ A3.out).mono ?_); rintro e w4 ⟨rfl, hb⟩; refine ⟨_, rfl, ?_⟩; have n0_ := Aside0.mk (below_step (by repeat (first | (with_reducible first | exact HB.out | apply below_alloc | apply pw_below_drewN | apply below_drew1) | exact HB.out)) hb); clear HB; have HB := n0_; clear n0_; (try clear hb); (try clear hb2); (try clear hk); (try clear hi)))
  go_ret2
  exact ⟨by first | rfl | (simp [errW_none, errW_some] <;> rfl) | (simp [*, errW_none, errW_some] <;> rfl), by repeat (first | (with_reducible first | exact HB.out | apply below_alloc | apply pw_below_drewN | apply below_drew1) | exact HB.out)⟩

/-! ### impl_TypeLength: function 14 -/
def impl_TypeLength.f (k : Nat) (a0 : Int) (a1 : Int) : Option (Int × Bool) := (pq_ColumnLength.f k a0 a1).bind fun bt104 => (some (bt104.1, bt104.2))
theorem impl_TypeLength.mono : ∀ a0 a1 k, LeO (impl_TypeLength.f k a0 a1) (impl_TypeLength.f (k + 1) a0 a1) := by
  intro a0 a1 k
  unfold impl_TypeLength.f
  repeat' first
      | (with_reducible exact pq_ColumnLength.mono _ _ _)
      | (with_reducible exact LeO.refl _)
      | (with_reducible exact LeO.none _)
      | (with_reducible refine LeO.ite ?_ ?_)
      | (with_reducible refine LeO.bind ?_ (fun _ => ?_))
      | exact pq_ColumnLength.mono _ _ _
      | exact LeO.none _
      | refine LeO.ite ?_ ?_
      | refine LeO.bind ?_ (fun _ => ?_)
set_option maxHeartbeats 8000000 in
set_option maxRecDepth 100000 in
theorem impl_TypeLength.calls (k : Nat) (a0 : Int) (a1 : Int) (r1 : Int) (r2 : Bool) (w : World) (h : impl_TypeLength.f k a0 a1 = some (r1, r2)) :
    Calls Try.prog 14 #[.int .u32 a0, .int .i64 a1] w fun e w' => e = .returned (.tuple #[.int .i64 r1, .bool r2]) ∧ Below w.heap.size w w' := by
  have HB := Aside0.mk (Below.refl w.heap.size w)
  have H : ((pq_ColumnLength.f k a0 a1).bind fun bt104 => (some (bt104.1, bt104.2))) = some (r1, r2) := h
  clear h
  replace H := Option.bind_eq_some_iff.mp H
  obtain ⟨⟨t104, t105⟩, A30, H⟩ := H
  replace H : (some (t104, t105)) = some (r1, r2) := H
  have A3 := Aside0.mk A30
  clear A30
  simp only [Option.some.injEq, Prod.mk.injEq] at H
  obtain ⟨rfl, rfl⟩ := H
  go_enter Try.func14, Try.ntmps14
  go_wp2_with (first | ((with_reducible refine gate_callee (f := 24) rfl ?_); refine goesL_ (some 8) rfl rfl Try.func24 (by kernel_rfl) rfl #[.int .u32 a0, .int .i64 a1] rfl (by (try simp only [List.map_toArray, List.map_cons, List.map_nil]); first | done | rfl | (simp only [List.length_drop, List.length_take]; rfl)) ?_; (with_reducible refine (pq_ColumnLength.calls k a0 a1 t104 t105 _ A3.out).mono ?_); rintro e w4 ⟨rfl, hb⟩; refine ⟨_, rfl, ?_⟩; have n0_ := Aside0.mk (below_step (by repeat (first | (with_reducible first | exact HB.out | apply below_alloc | apply pw_below_drewN | apply below_drew1) | exact HB.out)) hb); clear HB; have HB := n0_; clear n0_; (try clear hb); (try clear hb2); (try clear hk); (try clear hi)))
  go_ret2
  exact ⟨by first | rfl | (simp [errW_none, errW_some] <;> rfl) | (simp [*, errW_none, errW_some] <;> rfl), by repeat (first | (with_reducible first | exact HB.out | apply below_alloc | apply pw_below_drewN | apply below_drew1) | exact HB.out)⟩

/-! ### pq_fieldDesc_PrecisionScale: function 33 -/
def pq_fieldDesc_PrecisionScale.f (a0_0 : Int) (a0_1 : Int) (a0_2 : Int) : Option (Int × Int × Bool) := if a0_0 = 1700 then (some (Go.bits .and .i64 ((wrap64 (a0_2 - 4)) / 65536) 65535, Go.bits .and .i64 (wrap64 (a0_2 - 4)) 65535, true)) else (if a0_0 = 1231 then (some (Go.bits .and .i64 ((wrap64 (a0_2 - 4)) / 65536) 65535, Go.bits .and .i64 (wrap64 (a0_2 - 4)) 65535, true)) else (some (0, 0, false)))
set_option maxHeartbeats 8000000 in
set_option maxRecDepth 100000 in
theorem pq_fieldDesc_PrecisionScale.calls (a0_0 : Int) (a0_1 : Int) (a0_2 : Int) (r1 : Int) (r2 : Int) (r3 : Bool) (w : World) (h : pq_fieldDesc_PrecisionScale.f a0_0 a0_1 a0_2 = some (r1, r2, r3)) :
    Calls Try.prog 33 #[.agg #[.int .u32 a0_0, .int .i64 a0_1, .int .i64 a0_2]] w fun e w' => e = .returned (.tuple #[.int .i64 r1, .int .i64 r2, .bool r3]) ∧ Below w.heap.size w w' := by
  have hu51 := Try.underlying51
  have HB := Aside0.mk (Below.refl w.heap.size w)
  have H : (if a0_0 = 1700 then (some (Go.bits .and .i64 ((wrap64 (a0_2 - 4)) / 65536) 65535, Go.bits .and .i64 (wrap64 (a0_2 - 4)) 65535, true)) else (if a0_0 = 1231 then (some (Go.bits .and .i64 ((wrap64 (a0_2 - 4)) / 65536) 65535, Go.bits .and .i64 (wrap64 (a0_2 - 4)) 65535, true)) else (some (0, 0, false)))) = some (r1, r2, r3) := h
  clear h
  by_cases c2 : a0_0 = 1700
  · rw [if_pos c2] at H
    have c2b0 : (a0_0 == 1700) = true := beq_iff_eq.mpr c2
    have c2b1 : (a0_0 != 1700) = false := bne_eq_false_iff_eq.mpr c2
    clear c2
    simp only [Option.some.injEq, Prod.mk.injEq] at H
    obtain ⟨rfl, rfl, rfl⟩ := H
    go_enter Try.func33, Try.ntmps33
    go_wp2_with (first | ((with_reducible refine gate_dst (N := 1) rfl ?_); refine box_event ?hg (N := 1) ?hd (cs := #[.int .u32 a0_0, .int .i64 a0_1, .int .i64 a0_2]) (t := 51) ?hr ?_; (case hd => rfl); (case hg => rfl); (case hr => first | (go_simp; done) | (go_simp; rfl)); intro gb106 hg w3 hbox hb; have n0_ := Aside0.mk (below_step (by repeat (first | (with_reducible first | exact HB.out | apply below_alloc | apply pw_below_drewN | apply below_drew1) | exact HB.out)) hb); have n1_ := Aside0.mk (hbox); have n2_ := Aside0.mk ((by rw [hg]; exact (below_size (by repeat (first | (with_reducible first | exact HB.out | apply below_alloc | apply pw_below_drewN | apply below_drew1) | exact HB.out))) : w.heap.size ≤ gb106)); have n3_ := Aside0.mk ((by rw [hg]; exact (below_size (by repeat (first | (with_reducible first | exact HB.out | apply below_alloc | apply pw_below_drewN | apply below_drew1) | exact HB.out))) : w.heap.size ≤ gb106)); clear HB; have HB := n0_; have BK106 := n1_; have GW106 := n2_; have GE106 := n3_; clear n0_ n1_ n2_ n3_; clear hb hbox hg; have hcz4_0 : w3.cell? ⟨gb106, 0, none⟩ = some (.int .u32 a0_0) := (blk_cell BK106.out 0).trans rfl; have hcz4_1 : w3.cell? ⟨gb106, 1, none⟩ = some (.int .i64 a0_1) := (blk_cell BK106.out 1).trans rfl; have hcz4_2 : w3.cell? ⟨gb106, 2, none⟩ = some (.int .i64 a0_2) := (blk_cell BK106.out 2).trans rfl; have hfz4_0 := blk_frozen BK106.out 0; have hfz4_1 := blk_frozen BK106.out 1; have hfz4_2 := blk_frozen BK106.out 2))
    go_ret3
    exact ⟨by first | rfl | (simp [errW_none, errW_some] <;> rfl) | (simp [*, errW_none, errW_some] <;> rfl), by repeat (first | (with_reducible first | exact HB.out | apply below_alloc | apply pw_below_drewN | apply below_drew1 | refine below_set ?_ GE106.out) | exact HB.out)⟩
  · rw [if_neg c2] at H
    have c2b0 : (a0_0 == 1700) = false := beq_eq_false_iff_ne.mpr c2
    have c2b1 : (a0_0 != 1700) = true := bne_iff_ne.mpr c2
    by_cases c5 : a0_0 = 1231
    · rw [if_pos c5] at H
      have c5b0 : (a0_0 == 1231) = true := beq_iff_eq.mpr c5
      have c5b1 : (a0_0 != 1231) = false := bne_eq_false_iff_eq.mpr c5
      clear c5
      simp only [Option.some.injEq, Prod.mk.injEq] at H
      obtain ⟨rfl, rfl, rfl⟩ := H
      go_enter Try.func33, Try.ntmps33
      go_wp2_with (first | ((with_reducible refine gate_dst (N := 1) rfl ?_); refine box_event ?hg (N := 1) ?hd (cs := #[.int .u32 a0_0, .int .i64 a0_1, .int .i64 a0_2]) (t := 51) ?hr ?_; (case hd => rfl); (case hg => rfl); (case hr => first | (go_simp; done) | (go_simp; rfl)); intro gb106 hg w6 hbox hb; have n0_ := Aside0.mk (below_step (by repeat (first | (with_reducible first | exact HB.out | apply below_alloc | apply pw_below_drewN | apply below_drew1) | exact HB.out)) hb); have n1_ := Aside0.mk (hbox); have n2_ := Aside0.mk ((by rw [hg]; exact (below_size (by repeat (first | (with_reducible first | exact HB.out | apply below_alloc | apply pw_below_drewN | apply below_drew1) | exact HB.out))) : w.heap.size ≤ gb106)); have n3_ := Aside0.mk ((by rw [hg]; exact (below_size (by repeat (first | (with_reducible first | exact HB.out | apply below_alloc | apply pw_below_drewN | apply below_drew1) | exact HB.out))) : w.heap.size ≤ gb106)); clear HB; have HB := n0_; have BK106 := n1_; have GW106 := n2_; have GE106 := n3_; clear n0_ n1_ n2_ n3_; clear hb hbox hg; have hcz7_0 : w6.cell? ⟨gb106, 0, none⟩ = some (.int .u32 a0_0) := (blk_cell BK106.out 0).trans rfl; have hcz7_1 : w6.cell? ⟨gb106, 1, none⟩ = some (.int .i64 a0_1) := (blk_cell BK106.out 1).trans rfl; have hcz7_2 : w6.cell? ⟨gb106, 2, none⟩ = some (.int .i64 a0_2) := (blk_cell BK106.out 2).trans rfl; have hfz7_0 := blk_frozen BK106.out 0; have hfz7_1 := blk_frozen BK106.out 1; have hfz7_2 := blk_frozen BK106.out 2))
      go_ret3
      exact ⟨by first | rfl | (simp [errW_none, errW_some] <;> rfl) | (simp [*, errW_none, errW_some] <;> rfl), by repeat (first | (with_reducible first | exact HB.out | apply below_alloc | apply pw_below_drewN | apply below_drew1 | refine below_set ?_ GE106.out) | exact HB.out)⟩
    · rw [if_neg c5] at H
      have c5b0 : (a0_0 == 1231) = false := beq_eq_false_iff_ne.mpr c5
      have c5b1 : (a0_0 != 1231) = true := bne_iff_ne.mpr c5
      simp only [Option.some.injEq, Prod.mk.injEq] at H
      obtain ⟨rfl, rfl, rfl⟩ := H
      go_enter Try.func33, Try.ntmps33
      go_wp2_with (first | ((with_reducible refine gate_dst (N := 1) rfl ?_); refine box_event ?hg (N := 1) ?hd (cs := #[.int .u32 a0_0, .int .i64 a0_1, .int .i64 a0_2]) (t := 51) ?hr ?_; (case hd => rfl); (case hg => rfl); (case hr => first | (go_simp; done) | (go_simp; rfl)); intro gb106 hg w8 hbox hb; have n0_ := Aside0.mk (below_step (by repeat (first | (with_reducible first | exact HB.out | apply below_alloc | apply pw_below_drewN | apply below_drew1) | exact HB.out)) hb); have n1_ := Aside0.mk (hbox); have n2_ := Aside0.mk ((by rw [hg]; exact (below_size (by repeat (first | (with_reducible first | exact HB.out | apply below_alloc | apply pw_below_drewN | apply below_drew1) | exact HB.out))) : w.heap.size ≤ gb106)); have n3_ := Aside0.mk ((by rw [hg]; exact (below_size (by repeat (first | (with_reducible first | exact HB.out | apply below_alloc | apply pw_below_drewN | apply below_drew1) | exact HB.out))) : w.heap.size ≤ gb106)); clear HB; have HB := n0_; have BK106 := n1_; have GW106 := n2_; have GE106 := n3_; clear n0_ n1_ n2_ n3_; clear hb hbox hg; have hcz9_0 : w8.cell? ⟨gb106, 0, none⟩ = some (.int .u32 a0_0) := (blk_cell BK106.out 0).trans rfl; have hcz9_1 : w8.cell? ⟨gb106, 1, none⟩ = some (.int .i64 a0_1) := (blk_cell BK106.out 1).trans rfl; have hcz9_2 : w8.cell? ⟨gb106, 2, none⟩ = some (.int .i64 a0_2) := (blk_cell BK106.out 2).trans rfl; have hfz9_0 := blk_frozen BK106.out 0; have hfz9_1 := blk_frozen BK106.out 1; have hfz9_2 := blk_frozen BK106.out 2))
      go_ret3
      exact ⟨by first | rfl | (simp [errW_none, errW_some] <;> rfl) | (simp [*, errW_none, errW_some] <;> rfl), by repeat (first | (with_reducible first | exact HB.out | apply below_alloc | apply pw_below_drewN | apply below_drew1 | refine below_set ?_ GE106.out) | exact HB.out)⟩

/-! ### pq_ColumnScale: function 25 -/
def pq_ColumnScale.f (a0 : Int) (a1 : Int) : Option (Int × Int × Bool) := (pq_fieldDesc_PrecisionScale.f a0 0 a1).bind fun bt107 => (some (bt107.1, bt107.2.1, bt107.2.2))
set_option maxHeartbeats 8000000 in
set_option maxRecDepth 100000 in
theorem pq_ColumnScale.calls (a0 : Int) (a1 : Int) (r1 : Int) (r2 : Int) (r3 : Bool) (w : World) (h : pq_ColumnScale.f a0 a1 = some (r1, r2, r3)) :
    Calls Try.prog 25 #[.int .u32 a0, .int .i64 a1] w fun e w' => e = .returned (.tuple #[.int .i64 r1, .int .i64 r2, .bool r3]) ∧ Below w.heap.size w w' := by
  have hu51 := Try.underlying51
  have HB := Aside0.mk (Below.refl w.heap.size w)
  have H : ((pq_fieldDesc_PrecisionScale.f a0 0 a1).bind fun bt107 => (some (bt107.1, bt107.2.1, bt107.2.2))) = some (r1, r2, r3) := h
  clear h
  replace H := Option.bind_eq_some_iff.mp H
  obtain ⟨⟨t107, t108, t109⟩, A30, H⟩ := H
  replace H : (some (t107, t108, t109)) = some (r1, r2, r3) := H
  have A3 := Aside0.mk A30
  clear A30
  simp only [Option.some.injEq, Prod.mk.injEq] at H
  obtain ⟨rfl, rfl, rfl⟩ := H
  go_enter Try.func25, Try.ntmps25
  go_wp2_with (first | ((with_reducible refine gate_callee (f := 33) rfl ?_); refine goesL_ (some 10) rfl rfl Try.func33 (by kernel_rfl) rfl #[.agg #[.int .u32 a0, .int .i64 0, .int .i64 a1]] rfl (by (try simp only [List.map_toArray, List.map_cons, List.map_nil]); first | done | rfl | (simp only [List.length_drop, List.length_take]; rfl)) ?_; (with_reducible refine (pq_fieldDesc_PrecisionScale.calls a0 0 a1 t107 t108 t109 _ A3.out).mono ?_); rintro e w4 ⟨rfl, hb⟩; refine ⟨_, rfl, ?_⟩; have n0_ := Aside0.mk (below_step (by repeat (first | (with_reducible first | exact HB.out | apply below_alloc | apply pw_below_drewN | apply below_drew1) | exact HB.out)) hb); clear HB; have HB := n0_; clear n0_; (try clear hb); (try clear hb2); (try clear hk); (try clear hi)))
  go_ret3
  exact ⟨by first | rfl | (simp [errW_none, errW_some] <;> rfl) | (simp [*, errW_none, errW_some] <;> rfl), by repeat (first | (with_reducible first | exact HB.out | apply below_alloc | apply pw_below_drewN | apply below_drew1) | exact HB.out)⟩

/-! ### impl_TypeScale: function 15 -/
def impl_TypeScale.f (a0 : Int) (a1 : Int) : Option (Int × Int × Bool) := (pq_ColumnScale.f a0 a1).bind fun bt110 => (some (bt110.1, bt110.2.1, bt110.2.2))
set_option maxHeartbeats 8000000 in
set_option maxRecDepth 100000 in
theorem impl_TypeScale.calls (a0 : Int) (a1 : Int) (r1 : Int) (r2 : Int) (r3 : Bool) (w : World) (h : impl_TypeScale.f a0 a1 = some (r1, r2, r3)) :
    Calls Try.prog 15 #[.int .u32 a0, .int .i64 a1] w fun e w' => e = .returned (.tuple #[.int .i64 r1, .int .i64 r2, .bool r3]) ∧ Below w.heap.size w w' := by
  have HB := Aside0.mk (Below.refl w.heap.size w)
  have H : ((pq_ColumnScale.f a0 a1).bind fun bt110 => (some (bt110.1, bt110.2.1, bt110.2.2))) = some (r1, r2, r3) := h
  clear h
  replace H := Option.bind_eq_some_iff.mp H
  obtain ⟨⟨t110, t111, t112⟩, A30, H⟩ := H
  replace H : (some (t110, t111, t112)) = some (r1, r2, r3) := H
  have A3 := Aside0.mk A30
  clear A30
  simp only [Option.some.injEq, Prod.mk.injEq] at H
  obtain ⟨rfl, rfl, rfl⟩ := H
  go_enter Try.func15, Try.ntmps15
  go_wp2_with (first | ((with_reducible refine gate_callee (f := 25) rfl ?_); refine goesL_ (some 9) rfl rfl Try.func25 (by kernel_rfl) rfl #[.int .u32 a0, .int .i64 a1] rfl (by (try simp only [List.map_toArray, List.map_cons, List.map_nil]); first | done | rfl | (simp only [List.length_drop, List.length_take]; rfl)) ?_; (with_reducible refine (pq_ColumnScale.calls a0 a1 t110 t111 t112 _ A3.out).mono ?_); rintro e w4 ⟨rfl, hb⟩; refine ⟨_, rfl, ?_⟩; have n0_ := Aside0.mk (below_step (by repeat (first | (with_reducible first | exact HB.out | apply below_alloc | apply pw_below_drewN | apply below_drew1) | exact HB.out)) hb); clear HB; have HB := n0_; clear n0_; (try clear hb); (try clear hb2); (try clear hk); (try clear hi)))
  go_ret3
  exact ⟨by first | rfl | (simp [errW_none, errW_some] <;> rfl) | (simp [*, errW_none, errW_some] <;> rfl), by repeat (first | (with_reducible first | exact HB.out | apply below_alloc | apply pw_below_drewN | apply below_drew1) | exact HB.out)⟩

/-! ### laws_FnTypeSize: function 5 -/
def laws_FnTypeSize.j0 : Nat → Int → Int → Int → Bool → Option (Bool)
  | 0, _, _, _, _ => none
  | k + 1, x0, x1, x2, x30 => if x30 = true then (some true) else ((impl_TypeLength.f k 1043 (wrap64 ((wrap64 (x0)) + 4))).bind fun bt113 => ((impl_TypeScale.f 1700 (wrap64 ((Go.bits .or .i64 (wrap64 ((wrap64 (x1)) * 65536)) (wrap64 (x2))) + 4))).bind fun bt115 => (if bt113.2 = true then (if bt115.2.2 = true then (if bt113.1 = (wrap64 (x0)) then (if bt115.1 = (wrap64 (x1)) then (some (bt115.2.1 == (wrap64 (x2)))) else (some false)) else (some false)) else (some false)) else (some false))))
def laws_FnTypeSize.f (k : Nat) (a0 : Int) (a1 : Int) (a2 : Int) : Option (Bool) := if a0 < 1 then (laws_FnTypeSize.j0 k a0 a1 a2 true) else (if a0 > 10485760 then (laws_FnTypeSize.j0 k a0 a1 a2 true) else (if a1 < 1 then (laws_FnTypeSize.j0 k a0 a1 a2 true) else (if a1 > 1000 then (laws_FnTypeSize.j0 k a0 a1 a2 true) else (laws_FnTypeSize.j0 k a0 a1 a2 (decide (a2 > a1))))))
theorem laws_FnTypeSize.mono_l : ∀ k, (∀ y0 y1 y2 y3, LeO (laws_FnTypeSize.j0 k y0 y1 y2 y3) (laws_FnTypeSize.j0 (k + 1) y0 y1 y2 y3))
  | 0 => fun _ _ _ _ r h => by simp [laws_FnTypeSize.j0] at h
  | k + 1 => by
    have ih0 := laws_FnTypeSize.mono_l k
    · intro y0 y1 y2 y3
      unfold laws_FnTypeSize.j0
      repeat' first
      | (with_reducible exact ih0 _ _ _ _)
      | (with_reducible exact impl_TypeLength.mono _ _ _)
      | (with_reducible exact LeO.refl _)
      | (with_reducible exact LeO.none _)
      | (with_reducible refine LeO.ite ?_ ?_)
      | (with_reducible refine LeO.bind ?_ (fun _ => ?_))
      | exact ih0 _ _ _ _
      | exact impl_TypeLength.mono _ _ _
      | exact LeO.none _
      | refine LeO.ite ?_ ?_
      | refine LeO.bind ?_ (fun _ => ?_)
theorem laws_FnTypeSize.mono : ∀ a0 a1 a2 k, LeO (laws_FnTypeSize.f k a0 a1 a2) (laws_FnTypeSize.f (k + 1) a0 a1 a2) := by
  intro a0 a1 a2 k
  have ih0 := laws_FnTypeSize.mono_l k
  unfold laws_FnTypeSize.f
  repeat' first
      | (with_reducible exact ih0 _ _ _ _)
      | (with_reducible exact impl_TypeLength.mono _ _ _)
      | (with_reducible exact LeO.refl _)
      | (with_reducible exact LeO.none _)
      | (with_reducible refine LeO.ite ?_ ?_)
      | (with_reducible refine LeO.bind ?_ (fun _ => ?_))
      | exact ih0 _ _ _ _
      | exact impl_TypeLength.mono _ _ _
      | exact LeO.none _
      | refine LeO.ite ?_ ?_
      | refine LeO.bind ?_ (fun _ => ?_)
set_option maxHeartbeats 8000000 in
set_option maxRecDepth 100000 in
theorem laws_FnTypeSize.calls (k : Nat) (a0 : Int) (a1 : Int) (a2 : Int) (r : Bool) (w : World) (h : laws_FnTypeSize.f k a0 a1 a2 = some r) :
    Calls Try.prog 5 #[.int .u32 a0, .int .u16 a1, .int .u16 a2] w fun e w' => e = .returned (.bool r) ∧ Below w.heap.size w w' := by
  have HB := Aside0.mk (Below.refl w.heap.size w)
  have H : (if a0 < 1 then (laws_FnTypeSize.j0 k a0 a1 a2 true) else (if a0 > 10485760 then (laws_FnTypeSize.j0 k a0 a1 a2 true) else (if a1 < 1 then (laws_FnTypeSize.j0 k a0 a1 a2 true) else (if a1 > 1000 then (laws_FnTypeSize.j0 k a0 a1 a2 true) else (laws_FnTypeSize.j0 k a0 a1 a2 (decide (a2 > a1))))))) = some r := h
  clear h
  have HC4 := Aside0.mk H
  clear H
  go_enter Try.func5, Try.ntmps5
  go_upto_region 1 with (fail)
  go_cut [30] (fun v30 wc => ∃ (kq : Nat) (x30_3 : Bool), v30 = .bool x30_3 ∧ Aside0 (laws_FnTypeSize.j0 kq a0 a1 a2 x30_3 = some r) ∧ Aside0 (kq ≤ k) ∧ Aside0 (Below w.heap.size w wc))
  case first =>
    have H := HC4.out
    clear HC4
    by_cases c5 : a0 < 1
    · rw [if_pos c5] at H
      have c5b0 : decide (a0 < 1) = true := decide_eq_true c5
      clear c5
      (first | rw [c5b0] | (simp only [i64_w, i32_w]; rw [c5b0]) | skip)
      have H' := Aside0.mk H
      clear H
      go_wp2
      go_meet
      case rel => exact ⟨_, (true), (by first | rfl | (simp; done) | (simp [*]; done)), H', ⟨by first | omega | exact Nat.le_refl _⟩, ⟨by repeat (first | (with_reducible first | exact HB.out | apply below_alloc | apply pw_below_drewN | apply below_drew1) | exact HB.out)⟩⟩
    · rw [if_neg c5] at H
      have c5b0 : decide (a0 < 1) = false := decide_eq_false c5
      clear c5
      (first | rw [c5b0] | (simp only [i64_w, i32_w]; rw [c5b0]) | skip)
      by_cases c6 : a0 > 10485760
      · rw [if_pos c6] at H
        have c6b0 : decide (10485760 < a0) = true := decide_eq_true c6
        clear c6
        have H' := Aside0.mk H
        clear H
        go_wp2
        go_meet
        case rel => exact ⟨_, (true), (by first | rfl | (simp; done) | (simp [*]; done)), H', ⟨by first | omega | exact Nat.le_refl _⟩, ⟨by repeat (first | (with_reducible first | exact HB.out | apply below_alloc | apply pw_below_drewN | apply below_drew1) | exact HB.out)⟩⟩
      · rw [if_neg c6] at H
        have c6b0 : decide (10485760 < a0) = false := decide_eq_false c6
        clear c6
        by_cases c7 : a1 < 1
        · rw [if_pos c7] at H
          have c7b0 : decide (a1 < 1) = true := decide_eq_true c7
          clear c7
          have H' := Aside0.mk H
          clear H
          go_wp2
          go_meet
          case rel => exact ⟨_, (true), (by first | rfl | (simp; done) | (simp [*]; done)), H', ⟨by first | omega | exact Nat.le_refl _⟩, ⟨by repeat (first | (with_reducible first | exact HB.out | apply below_alloc | apply pw_below_drewN | apply below_drew1) | exact HB.out)⟩⟩
        · rw [if_neg c7] at H
          have c7b0 : decide (a1 < 1) = false := decide_eq_false c7
          clear c7
          by_cases c8 : a1 > 1000
          · rw [if_pos c8] at H
            have c8b0 : decide (1000 < a1) = true := decide_eq_true c8
            clear c8
            have H' := Aside0.mk H
            clear H
            go_wp2
            go_meet
            case rel => exact ⟨_, (true), (by first | rfl | (simp; done) | (simp [*]; done)), H', ⟨by first | omega | exact Nat.le_refl _⟩, ⟨by repeat (first | (with_reducible first | exact HB.out | apply below_alloc | apply pw_below_drewN | apply below_drew1) | exact HB.out)⟩⟩
          · rw [if_neg c8] at H
            have c8b0 : decide (1000 < a1) = false := decide_eq_false c8
            clear c8
            have H' := Aside0.mk H
            clear H
            go_wp2
            go_meet
            case rel => exact ⟨_, (decide (a2 > a1)), (by first | rfl | (simp; done) | (simp [*]; done)), H', ⟨by first | omega | exact Nat.le_refl _⟩, ⟨by repeat (first | (with_reducible first | exact HB.out | apply below_alloc | apply pw_below_drewN | apply below_drew1) | exact HB.out)⟩⟩
  case rest =>
    clear HC4
    try clear p2
    try clear c5
    try clear c5b0
    try clear c6
    try clear c6b0
    try clear c7
    try clear c7b0
    try clear c8
    try clear c8b0
    obtain ⟨kq, x30_3, rfl, HA, HJ3, HB⟩ := hcut
    cases kq with
    | zero => exact absurd HA.out (by simp [laws_FnTypeSize.j0])
    | succ kj3 =>
      have H := HA.out
      clear HA
      simp only [laws_FnTypeSize.j0] at H
      by_cases c9 : x30_3 = true
      · subst c9
        have H1 : (some true) = some r := by rw [if_pos rfl] at H; exact H
        clear H
        have H := H1
        clear H1
        obtain rfl := Option.some.inj H
        go_wp2
        go_ret
        exact ⟨by first | rfl | (simp [errW_none, errW_some] <;> rfl) | (simp [*, errW_none, errW_some] <;> rfl), by repeat (first | (with_reducible first | exact HB.out | apply below_alloc | apply pw_below_drewN | apply below_drew1) | exact HB.out)⟩
      · replace c9 := Bool.eq_false_iff.mpr c9
        subst c9
        have H1 : ((impl_TypeLength.f kj3 1043 (wrap64 ((wrap64 (a0)) + 4))).bind fun bt113 => ((impl_TypeScale.f 1700 (wrap64 ((Go.bits .or .i64 (wrap64 ((wrap64 (a1)) * 65536)) (wrap64 (a2))) + 4))).bind fun bt115 => (if bt113.2 = true then (if bt115.2.2 = true then (if bt113.1 = (wrap64 (a0)) then (if bt115.1 = (wrap64 (a1)) then (some (bt115.2.1 == (wrap64 (a2)))) else (some false)) else (some false)) else (some false)) else (some false)))) = some r := by rw [if_neg (show ¬ (false = true) by decide)] at H; exact H
        clear H
        have H := H1
        clear H1
        replace H := Option.bind_eq_some_iff.mp H
        obtain ⟨⟨t113, t114⟩, A100, H⟩ := H
        replace H : ((impl_TypeScale.f 1700 (wrap64 ((Go.bits .or .i64 (wrap64 ((wrap64 (a1)) * 65536)) (wrap64 (a2))) + 4))).bind fun bt115 => (if t114 = true then (if bt115.2.2 = true then (if t113 = (wrap64 (a0)) then (if bt115.1 = (wrap64 (a1)) then (some (bt115.2.1 == (wrap64 (a2)))) else (some false)) else (some false)) else (some false)) else (some false))) = some r := H
        have A10 := Aside0.mk A100
        clear A100
        replace H := Option.bind_eq_some_iff.mp H
        obtain ⟨⟨t115, t116, t117⟩, A110, H⟩ := H
        replace H : (if t114 = true then (if t117 = true then (if t113 = (wrap64 (a0)) then (if t115 = (wrap64 (a1)) then (some (t116 == (wrap64 (a2)))) else (some false)) else (some false)) else (some false)) else (some false)) = some r := H
        have A11 := Aside0.mk A110
        clear A110
        by_cases c12 : t114 = true
        · subst c12
          have H1 : (if t117 = true then (if t113 = (wrap64 (a0)) then (if t115 = (wrap64 (a1)) then (some (t116 == (wrap64 (a2)))) else (some false)) else (some false)) else (some false)) = some r := by rw [if_pos rfl] at H; exact H
          clear H
          have H := H1
          clear H1
          by_cases c13 : t117 = true
          · subst c13
            have H1 : (if t113 = (wrap64 (a0)) then (if t115 = (wrap64 (a1)) then (some (t116 == (wrap64 (a2)))) else (some false)) else (some false)) = some r := by rw [if_pos rfl] at H; exact H
            clear H
            have H := H1
            clear H1
            by_cases c14 : t113 = (wrap64 (a0))
            · rw [if_pos c14] at H
              have c14b0 : (t113 == (wrap64 (a0))) = true := beq_iff_eq.mpr c14
              have c14b1 : (t113 != (wrap64 (a0))) = false := bne_eq_false_iff_eq.mpr c14
              clear c14
              by_cases c15 : t115 = (wrap64 (a1))
              · rw [if_pos c15] at H
                have c15b0 : (t115 == (wrap64 (a1))) = true := beq_iff_eq.mpr c15
                have c15b1 : (t115 != (wrap64 (a1))) = false := bne_eq_false_iff_eq.mpr c15
                clear c15
                obtain rfl := Option.some.inj H
                go_wp2_with (first | ((with_reducible refine gate_callee (f := 14) rfl ?_); refine goesL_ (some 35) rfl rfl Try.func14 (by kernel_rfl) rfl #[.int .u32 1043, .int .i64 (wrap64 ((wrap64 (a0)) + 4))] rfl (by (try simp only [List.map_toArray, List.map_cons, List.map_nil]); first | done | rfl | (simp only [List.length_drop, List.length_take]; rfl)) ?_; (with_reducible refine (impl_TypeLength.calls kj3 1043 (wrap64 ((wrap64 (a0)) + 4)) t113 true _ A10.out).mono ?_); rintro e w16 ⟨rfl, hb⟩; refine ⟨_, rfl, ?_⟩; have n0_ := Aside0.mk (below_step (by repeat (first | (with_reducible first | exact HB.out | apply below_alloc | apply pw_below_drewN | apply below_drew1) | exact HB.out)) hb); clear HB; have HB := n0_; clear n0_; (try clear hb); (try clear hb2); (try clear hk); (try clear hi)) | ((with_reducible refine gate_callee (f := 15) rfl ?_); refine goesL_ (some 46) rfl rfl Try.func15 (by kernel_rfl) rfl #[.int .u32 1700, .int .i64 (wrap64 ((Go.bits .or .i64 (wrap64 ((wrap64 (a1)) * 65536)) (wrap64 (a2))) + 4))] rfl (by (try simp only [List.map_toArray, List.map_cons, List.map_nil]); first | done | rfl | (simp only [List.length_drop, List.length_take]; rfl)) ?_; (with_reducible refine (impl_TypeScale.calls 1700 (wrap64 ((Go.bits .or .i64 (wrap64 ((wrap64 (a1)) * 65536)) (wrap64 (a2))) + 4)) t115 t116 true _ A11.out).mono ?_); rintro e w17 ⟨rfl, hb⟩; refine ⟨_, rfl, ?_⟩; have n0_ := Aside0.mk (below_step (by repeat (first | (with_reducible first | exact HB.out | apply below_alloc | apply pw_below_drewN | apply below_drew1) | exact HB.out)) hb); clear HB; have HB := n0_; clear n0_; (try clear hb); (try clear hb2); (try clear hk); (try clear hi)))
                go_ret
                exact ⟨by first | rfl | (simp [errW_none, errW_some] <;> rfl) | (simp [*, errW_none, errW_some] <;> rfl), by repeat (first | (with_reducible first | exact HB.out | apply below_alloc | apply pw_below_drewN | apply below_drew1) | exact HB.out)⟩
              · rw [if_neg c15] at H
                have c15b0 : (t115 == (wrap64 (a1))) = false := beq_eq_false_iff_ne.mpr c15
                have c15b1 : (t115 != (wrap64 (a1))) = true := bne_iff_ne.mpr c15
                obtain rfl := Option.some.inj H
                go_wp2_with (first | ((with_reducible refine gate_callee (f := 14) rfl ?_); refine goesL_ (some 35) rfl rfl Try.func14 (by kernel_rfl) rfl #[.int .u32 1043, .int .i64 (wrap64 ((wrap64 (a0)) + 4))] rfl (by (try simp only [List.map_toArray, List.map_cons, List.map_nil]); first | done | rfl | (simp only [List.length_drop, List.length_take]; rfl)) ?_; (with_reducible refine (impl_TypeLength.calls kj3 1043 (wrap64 ((wrap64 (a0)) + 4)) t113 true _ A10.out).mono ?_); rintro e w18 ⟨rfl, hb⟩; refine ⟨_, rfl, ?_⟩; have n0_ := Aside0.mk (below_step (by repeat (first | (with_reducible first | exact HB.out | apply below_alloc | apply pw_below_drewN | apply below_drew1) | exact HB.out)) hb); clear HB; have HB := n0_; clear n0_; (try clear hb); (try clear hb2); (try clear hk); (try clear hi)) | ((with_reducible refine gate_callee (f := 15) rfl ?_); refine goesL_ (some 46) rfl rfl Try.func15 (by kernel_rfl) rfl #[.int .u32 1700, .int .i64 (wrap64 ((Go.bits .or .i64 (wrap64 ((wrap64 (a1)) * 65536)) (wrap64 (a2))) + 4))] rfl (by (try simp only [List.map_toArray, List.map_cons, List.map_nil]); first | done | rfl | (simp only [List.length_drop, List.length_take]; rfl)) ?_; (with_reducible refine (impl_TypeScale.calls 1700 (wrap64 ((Go.bits .or .i64 (wrap64 ((wrap64 (a1)) * 65536)) (wrap64 (a2))) + 4)) t115 t116 true _ A11.out).mono ?_); rintro e w19 ⟨rfl, hb⟩; refine ⟨_, rfl, ?_⟩; have n0_ := Aside0.mk (below_step (by repeat (first | (with_reducible first | exact HB.out | apply below_alloc | apply pw_below_drewN | apply below_drew1) | exact HB.out)) hb); clear HB; have HB := n0_; clear n0_; (try clear hb); (try clear hb2); (try clear hk); (try clear hi)))
                go_ret
                exact ⟨by first | rfl | (simp [errW_none, errW_some] <;> rfl) | (simp [*, errW_none, errW_some] <;> rfl), by repeat (first | (with_reducible first | exact HB.out | apply below_alloc | apply pw_below_drewN | apply below_drew1) | exact HB.out)⟩
            · rw [if_neg c14] at H
              have c14b0 : (t113 == (wrap64 (a0))) = false := beq_eq_false_iff_ne.mpr c14
              have c14b1 : (t113 != (wrap64 (a0))) = true := bne_iff_ne.mpr c14
              obtain rfl := Option.some.inj H
              go_wp2_with (first | ((with_reducible refine gate_callee (f := 14) rfl ?_); refine goesL_ (some 35) rfl rfl Try.func14 (by kernel_rfl) rfl #[.int .u32 1043, .int .i64 (wrap64 ((wrap64 (a0)) + 4))] rfl (by (try simp only [List.map_toArray, List.map_cons, List.map_nil]); first | done | rfl | (simp only [List.length_drop, List.length_take]; rfl)) ?_; (with_reducible refine (impl_TypeLength.calls kj3 1043 (wrap64 ((wrap64 (a0)) + 4)) t113 true _ A10.out).mono ?_); rintro e w20 ⟨rfl, hb⟩; refine ⟨_, rfl, ?_⟩; have n0_ := Aside0.mk (below_step (by repeat (first | (with_reducible first | exact HB.out | apply below_alloc | apply pw_below_drewN | apply below_drew1) | exact HB.out)) hb); clear HB; have HB := n0_; clear n0_; (try clear hb); (try clear hb2); (try clear hk); (try clear hi)) | ((with_reducible refine gate_callee (f := 15) rfl ?_); refine goesL_ (some 46) rfl rfl Try.func15 (by kernel_rfl) rfl #[.int .u32 1700, .int .i64 (wrap64 ((Go.bits .or .i64 (wrap64 ((wrap64 (a1)) * 65536)) (wrap64 (a2))) + 4))] rfl (by (try simp only [List.map_toArray, List.map_cons, List.map_nil]); first | done | rfl | (simp only [List.length_drop, List.length_take]; rfl)) ?_; (with_reducible refine (impl_TypeScale.calls 1700 (wrap64 ((Go.bits .or .i64 (wrap64 ((wrap64 (a1)) * 65536)) (wrap64 (a2))) + 4)) t115 t116 true _ A11.out).mono ?_); rintro e w21 ⟨rfl, hb⟩; refine ⟨_, rfl, ?_⟩; have n0_ := Aside0.mk (below_step (by repeat (first | (with_reducible first | exact HB.out | apply below_alloc | apply pw_below_drewN | apply below_drew1) | exact HB.out)) hb); clear HB; have HB := n0_; clear n0_; (try clear hb); (try clear hb2); (try clear hk); (try clear hi)))
              go_ret
              exact ⟨by first | rfl | (simp [errW_none, errW_some] <;> rfl) | (simp [*, errW_none, errW_some] <;> rfl), by repeat (first | (with_reducible first | exact HB.out | apply below_alloc | apply pw_below_drewN | apply below_drew1) | exact HB.out)⟩
          · replace c13 := Bool.eq_false_iff.mpr c13
            subst c13
            have H1 : (some false) = some r := by rw [if_neg (show ¬ (false = true) by decide)] at H; exact H
            clear H
            have H := H1
            clear H1
            obtain rfl := Option.some.inj H
            go_wp2_with (first | ((with_reducible refine gate_callee (f := 14) rfl ?_); refine goesL_ (some 35) rfl rfl Try.func14 (by kernel_rfl) rfl #[.int .u32 1043, .int .i64 (wrap64 ((wrap64 (a0)) + 4))] rfl (by (try simp only [List.map_toArray, List.map_cons, List.map_nil]); first | done | rfl | (simp only [List.length_drop, List.length_take]; rfl)) ?_; (with_reducible refine (impl_TypeLength.calls kj3 1043 (wrap64 ((wrap64 (a0)) + 4)) t113 true _ A10.out).mono ?_); rintro e w22 ⟨rfl, hb⟩; refine ⟨_, rfl, ?_⟩; have n0_ := Aside0.mk (below_step (by repeat (first | (with_reducible first | exact HB.out | apply below_alloc | apply pw_below_drewN | apply below_drew1) | exact HB.out)) hb); clear HB; have HB := n0_; clear n0_; (try clear hb); (try clear hb2); (try clear hk); (try clear hi)) | ((with_reducible refine gate_callee (f := 15) rfl ?_); refine goesL_ (some 46) rfl rfl Try.func15 (by kernel_rfl) rfl #[.int .u32 1700, .int .i64 (wrap64 ((Go.bits .or .i64 (wrap64 ((wrap64 (a1)) * 65536)) (wrap64 (a2))) + 4))] rfl (by (try simp only [List.map_toArray, List.map_cons, List.map_nil]); first | done | rfl | (simp only [List.length_drop, List.length_take]; rfl)) ?_; (with_reducible refine (impl_TypeScale.calls 1700 (wrap64 ((Go.bits .or .i64 (wrap64 ((wrap64 (a1)) * 65536)) (wrap64 (a2))) + 4)) t115 t116 false _ A11.out).mono ?_); rintro e w23 ⟨rfl, hb⟩; refine ⟨_, rfl, ?_⟩; have n0_ := Aside0.mk (below_step (by repeat (first | (with_reducible first | exact HB.out | apply below_alloc | apply pw_below_drewN | apply below_drew1) | exact HB.out)) hb); clear HB; have HB := n0_; clear n0_; (try clear hb); (try clear hb2); (try clear hk); (try clear hi)))
            go_ret
            exact ⟨by first | rfl | (simp [errW_none, errW_some] <;> rfl) | (simp [*, errW_none, errW_some] <;> rfl), by repeat (first | (with_reducible first | exact HB.out | apply below_alloc | apply pw_below_drewN | apply below_drew1) | exact HB.out)⟩
        · replace c12 := Bool.eq_false_iff.mpr c12
          subst c12
          have H1 : (some false) = some r := by rw [if_neg (show ¬ (false = true) by decide)] at H; exact H
          clear H
          have H := H1
          clear H1
          obtain rfl := Option.some.inj H
          go_wp2_with (first | ((with_reducible refine gate_callee (f := 14) rfl ?_); refine goesL_ (some 35) rfl rfl Try.func14 (by kernel_rfl) rfl #[.int .u32 1043, .int .i64 (wrap64 ((wrap64 (a0)) + 4))] rfl (by (try simp only [List.map_toArray, List.map_cons, List.map_nil]); first | done | rfl | (simp only [List.length_drop, List.length_take]; rfl)) ?_; (with_reducible refine (impl_TypeLength.calls kj3 1043 (wrap64 ((wrap64 (a0)) + 4)) t113 false _ A10.out).mono ?_); rintro e w24 ⟨rfl, hb⟩; refine ⟨_, rfl, ?_⟩; have n0_ := Aside0.mk (below_step (by repeat (first | (with_reducible first | exact HB.out | apply below_alloc | apply pw_below_drewN | apply below_drew1) | exact HB.out)) hb); clear HB; have HB := n0_; clear n0_; (try clear hb); (try clear hb2); (try clear hk); (try clear hi)) | ((with_reducible refine gate_callee (f := 15) rfl ?_); refine goesL_ (some 46) rfl rfl Try.func15 (by kernel_rfl) rfl #[.int .u32 1700, .int .i64 (wrap64 ((Go.bits .or .i64 (wrap64 ((wrap64 (a1)) * 65536)) (wrap64 (a2))) + 4))] rfl (by (try simp only [List.map_toArray, List.map_cons, List.map_nil]); first | done | rfl | (simp only [List.length_drop, List.length_take]; rfl)) ?_; (with_reducible refine (impl_TypeScale.calls 1700 (wrap64 ((Go.bits .or .i64 (wrap64 ((wrap64 (a1)) * 65536)) (wrap64 (a2))) + 4)) t115 t116 t117 _ A11.out).mono ?_); rintro e w25 ⟨rfl, hb⟩; refine ⟨_, rfl, ?_⟩; have n0_ := Aside0.mk (below_step (by repeat (first | (with_reducible first | exact HB.out | apply below_alloc | apply pw_below_drewN | apply below_drew1) | exact HB.out)) hb); clear HB; have HB := n0_; clear n0_; (try clear hb); (try clear hb2); (try clear hk); (try clear hi)))
          go_ret
          exact ⟨by first | rfl | (simp [errW_none, errW_some] <;> rfl) | (simp [*, errW_none, errW_some] <;> rfl), by repeat (first | (with_reducible first | exact HB.out | apply below_alloc | apply pw_below_drewN | apply below_drew1) | exact HB.out)⟩

/-- THE ONE PURE STATEMENT of laws_FnTypeSize: yours. -/
def laws_FnTypeSize.Pure : Prop := ∀ (a0 : Int) (a1 : Int) (a2 : Int), (Lit.int .u32 a0).wf = true → (Lit.int .u16 a1).wf = true → (Lit.int .u16 a2).wf = true → ∃ k, laws_FnTypeSize.f k a0 a1 a2 = some true
theorem laws_FnTypeSize.walk (P : laws_FnTypeSize.Pure) (a0 : Int) (a1 : Int) (a2 : Int) (w : World) (w0 : (Lit.int .u32 a0).wf = true) (w1 : (Lit.int .u16 a1).wf = true) (w2 : (Lit.int .u16 a2).wf = true) :
    Calls Try.prog 5 #[.int .u32 a0, .int .u16 a1, .int .u16 a2] w fun e w' => e = .returned (.bool true) ∧ Below w.heap.size w w' := by
  obtain ⟨k, h⟩ := P a0 a1 a2 w0 w1 w2
  refine (laws_FnTypeSize.calls k a0 a1 a2 true w h).mono ?_
  rintro e w' ⟨rfl, hd⟩
  exact ⟨rfl, hd⟩

end Go.Proofs.Ytlfkejljbehcaaa.PFnTypeSize
