-- Written by the program wip/myprint.py of this session, over the kit's print of the translation. Lean checks it.
import Derived.Test.YtlhjblbmhlelbaaStrOrd
import Derived.WalkLawsBesides
import Derived.Test.YtlhjblbmhlelbaaPx0
namespace Go.Proofs.Ytlhjblbmhlelbaa.P
open Go.RowKit Go.Proofs.YtlhjblbmhlelbaaW.PrintWords Go.Proofs.YtlhjblbmhlelbaaW.PrintLast Go.Proofs.YtlhjblbmhlelbaaW.PrintMore
attribute [local go_sem] max2_int min2_int max_two min_two max_three min_three max_four min_four   -- for this text's walks alone
set_option linter.unusedVariables false
set_option linter.unusedSimpArgs false

/-! ### spec_put: function 20 -/
mutual
def spec_put.l0 : Nat → List (S34) → List (S34) → Bool → Int → ByteArray → ByteArray → Option ((List (S34)))
  | 0, _, _, _, _, _, _ => none
  | k + 1, x0, x5, x6, x7, x110000, x110001 => if x7 < (x0.length : Int) then (if x6 = true then (spec_put.j1 k x0 x5 x6 x7 false x110000 x110001) else (if 0 ≤ x7 then (spec_put.j1 k x0 x5 x6 x7 (!(Op.bytesLess (((rd_T34 x0 x7).f0).toList) x110000.toList)) x110000 x110001) else (none))) else (if x6 = true then (some x5) else (if x5.length < 4398046511104 then (some (x5 ++ [(⟨x110000, x110001⟩ : S34)])) else (none)))
def spec_put.j1 : Nat → List (S34) → List (S34) → Bool → Int → Bool → ByteArray → ByteArray → Option ((List (S34)))
  | 0, _, _, _, _, _, _, _ => none
  | k + 1, x0, x5, x6, x7, x25, x110000, x110001 => if x25 = true then (if x5.length < 4398046511104 then ((some (x5 ++ [(⟨x110000, x110001⟩ : S34)] : List (S34))).bind fun y114 => (if 0 ≤ x7 then (if x7 < (x0.length : Int) then (if ((rd_T34 x0 x7).f0).toList = x110000.toList then (spec_put.l0 k x0 y114 true (wrap64 (x7 + 1)) x110000 x110001) else (if y114.length < 4398046511104 then (spec_put.l0 k x0 (y114 ++ [(⟨(rd_T34 x0 x7).f0, (rd_T34 x0 x7).f1⟩ : S34)]) true (wrap64 (x7 + 1)) x110000 x110001) else (none))) else (none)) else (none))) else (none)) else (if 0 ≤ x7 then (if x7 < (x0.length : Int) then (if ((rd_T34 x0 x7).f0).toList = x110000.toList then (spec_put.l0 k x0 x5 x6 (wrap64 (x7 + 1)) x110000 x110001) else (if x5.length < 4398046511104 then (spec_put.l0 k x0 (x5 ++ [(⟨(rd_T34 x0 x7).f0, (rd_T34 x0 x7).f1⟩ : S34)]) x6 (wrap64 (x7 + 1)) x110000 x110001) else (none))) else (none)) else (none))
end
def spec_put.f (k : Nat) (l0 : List (S34)) (a1_0 : ByteArray) (a1_1 : ByteArray) : Option ((List (S34))) := spec_put.l0 k l0 ([] : List (S34)) false 0 a1_0 a1_1
theorem spec_put.mono_l : ∀ k, (∀ y0 y1 y2 y3 y4 y5, LeO (spec_put.l0 k y0 y1 y2 y3 y4 y5) (spec_put.l0 (k + 1) y0 y1 y2 y3 y4 y5)) ∧ (∀ y0 y1 y2 y3 y4 y5 y6, LeO (spec_put.j1 k y0 y1 y2 y3 y4 y5 y6) (spec_put.j1 (k + 1) y0 y1 y2 y3 y4 y5 y6))
  | 0 => ⟨fun _ _ _ _ _ _ r h => by simp [spec_put.l0] at h, fun _ _ _ _ _ _ _ r h => by simp [spec_put.j1] at h⟩
  | k + 1 => by
    obtain ⟨ih0, ih1⟩ := spec_put.mono_l k
    refine ⟨?_, ?_⟩
    · intro y0 y1 y2 y3 y4 y5
      unfold spec_put.l0
      repeat' first
      | (with_reducible exact ih0 _ _ _ _ _ _)
      | (with_reducible exact ih1 _ _ _ _ _ _ _)
      | (with_reducible exact LeO.refl _)
      | (with_reducible exact LeO.none _)
      | (with_reducible refine LeO.ite ?_ ?_)
      | (with_reducible refine LeO.bind ?_ (fun _ => ?_))
      | exact ih0 _ _ _ _ _ _
      | exact ih1 _ _ _ _ _ _ _
      | exact LeO.none _
      | refine LeO.ite ?_ ?_
      | refine LeO.bind ?_ (fun _ => ?_)
    · intro y0 y1 y2 y3 y4 y5 y6
      unfold spec_put.j1
      repeat' first
      | (with_reducible exact ih0 _ _ _ _ _ _)
      | (with_reducible exact ih1 _ _ _ _ _ _ _)
      | (with_reducible exact LeO.refl _)
      | (with_reducible exact LeO.none _)
      | (with_reducible refine LeO.ite ?_ ?_)
      | (with_reducible refine LeO.bind ?_ (fun _ => ?_))
      | exact ih0 _ _ _ _ _ _
      | exact ih1 _ _ _ _ _ _ _
      | exact LeO.none _
      | refine LeO.ite ?_ ?_
      | refine LeO.bind ?_ (fun _ => ?_)
theorem spec_put.mono : ∀ a0 a1 a2 k, LeO (spec_put.f k a0 a1 a2) (spec_put.f (k + 1) a0 a1 a2) := by
  intro a0 a1 a2 k
  obtain ⟨ih0, ih1⟩ := spec_put.mono_l k
  unfold spec_put.f
  repeat' first
      | (with_reducible exact ih0 _ _ _ _ _ _)
      | (with_reducible exact ih1 _ _ _ _ _ _ _)
      | (with_reducible exact LeO.refl _)
      | (with_reducible exact LeO.none _)
      | (with_reducible refine LeO.ite ?_ ?_)
      | (with_reducible refine LeO.bind ?_ (fun _ => ?_))
      | exact ih0 _ _ _ _ _ _
      | exact ih1 _ _ _ _ _ _ _
      | exact LeO.none _
      | refine LeO.ite ?_ ?_
      | refine LeO.bind ?_ (fun _ => ?_)
set_option maxHeartbeats 8000000 in
set_option maxRecDepth 100000 in
theorem spec_put.calls (k : Nat) (A0 : Option Addr) (c0 : Nat) (l0 : List (S34)) (a1_0 : ByteArray) (a1_1 : ByteArray) (r : List (S34)) (w : World) (hr0 : Kd.C k34 w A0 l0.length l0) (hc0 : l0.length ≤ c0) (h : spec_put.f k l0 a1_0 a1_1 = some r) :
    Calls Try.prog 20 #[.slice A0 l0.length c0, .agg #[.string a1_0, .string a1_1]] w fun e w' => ∃ v0_ : Value, e = .returned (v0_) ∧ Kd.R k34 34 w' w.heap.size (fun _ => True) v0_ r ∧ Below w.heap.size w w' := by
  have hu34 := Try.underlying34
  have HR0 := Aside0.mk hr0
  have HC0 := Aside0.mk hc0
  clear hr0 hc0
  have HB := Aside0.mk (Below.refl w.heap.size w)
  have H : (spec_put.l0 k l0 ([] : List (S34)) false 0 a1_0 a1_1) = some r := h
  clear h
  have H' := Aside0.mk H
  clear H
  go_enter Try.func20, Try.ntmps20
  go_wp2_with (first | ((with_reducible refine gate_dst (N := 3) rfl ?_); refine box_event ?hg (N := 3) ?hd (cs := #[.string a1_0, .string a1_1]) (t := 34) ?hr ?_; (case hd => rfl); (case hg => rfl); (case hr => first | (go_simp; done) | (go_simp; rfl) | (go_simp; simp [IntKind.wrap_u8]; done)); intro gb109 hg w3 hbox hb; have n0_ := Aside0.mk (below_step (by repeat (first | (with_reducible first | exact HB.out | apply below_alloc | apply pw_below_drewN | apply below_drew1) | exact HB.out)) hb); have n1_ := Aside0.mk (hbox); have n2_ := Aside0.mk ((by rw [hg]; exact (below_size (by repeat (first | (with_reducible first | exact HB.out | apply below_alloc | apply pw_below_drewN | apply below_drew1) | exact HB.out))) : w.heap.size ≤ gb109)); have n3_ := Aside0.mk ((by rw [hg]; exact (below_size (by repeat (first | (with_reducible first | exact HB.out | apply below_alloc | apply pw_below_drewN | apply below_drew1) | exact HB.out))) : w.heap.size ≤ gb109)); clear HB; have HB := n0_; have BK109 := n1_; have GW109 := n2_; have GE109 := n3_; clear n0_ n1_ n2_ n3_; clear hb hbox hg))
  repeat (go_quiet (first | ((with_reducible refine gate_dst (N := 3) rfl ?_); refine box_event ?hg (N := 3) ?hd (cs := #[.string a1_0, .string a1_1]) (t := 34) ?hr ?_; (case hd => rfl); (case hg => rfl); (case hr => first | (go_simp; done) | (go_simp; rfl) | (go_simp; simp [IntKind.wrap_u8]; done)); intro gb109 hg w3 hbox hb; have n0_ := Aside0.mk (below_step (by repeat (first | (with_reducible first | exact HB.out | apply below_alloc | apply pw_below_drewN | apply below_drew1) | exact HB.out)) hb); have n1_ := Aside0.mk (hbox); have n2_ := Aside0.mk ((by rw [hg]; exact (below_size (by repeat (first | (with_reducible first | exact HB.out | apply below_alloc | apply pw_below_drewN | apply below_drew1) | exact HB.out))) : w.heap.size ≤ gb109)); have n3_ := Aside0.mk ((by rw [hg]; exact (below_size (by repeat (first | (with_reducible first | exact HB.out | apply below_alloc | apply pw_below_drewN | apply below_drew1) | exact HB.out))) : w.heap.size ≤ gb109)); clear HB; have HB := n0_; have BK109 := n1_; have GW109 := n2_; have GE109 := n3_; clear n0_ n1_ n2_ n3_; clear hb hbox hg)); try go_wp2_with (first | ((with_reducible refine gate_dst (N := 3) rfl ?_); refine box_event ?hg (N := 3) ?hd (cs := #[.string a1_0, .string a1_1]) (t := 34) ?hr ?_; (case hd => rfl); (case hg => rfl); (case hr => first | (go_simp; done) | (go_simp; rfl) | (go_simp; simp [IntKind.wrap_u8]; done)); intro gb109 hg w3 hbox hb; have n0_ := Aside0.mk (below_step (by repeat (first | (with_reducible first | exact HB.out | apply below_alloc | apply pw_below_drewN | apply below_drew1) | exact HB.out)) hb); have n1_ := Aside0.mk (hbox); have n2_ := Aside0.mk ((by rw [hg]; exact (below_size (by repeat (first | (with_reducible first | exact HB.out | apply below_alloc | apply pw_below_drewN | apply below_drew1) | exact HB.out))) : w.heap.size ≤ gb109)); have n3_ := Aside0.mk ((by rw [hg]; exact (below_size (by repeat (first | (with_reducible first | exact HB.out | apply below_alloc | apply pw_below_drewN | apply below_drew1) | exact HB.out))) : w.heap.size ≤ gb109)); clear HB; have HB := n0_; have BK109 := n1_; have GW109 := n2_; have GE109 := n3_; clear n0_ n1_ n2_ n3_; clear hb hbox hg)))
  go_loopg [5, 6, 7] k (fun kq v5 v6 v7 w' => ∃ (x5_1 : List (S34)) (x6_1 : Bool) (x7_1 : Int), v6 = .bool x6_1 ∧ v7 = .int .i64 x7_1 ∧ Aside0 (spec_put.l0 kq l0 x5_1 x6_1 x7_1 a1_0 a1_1 = some r) ∧ Aside0 (kq ≤ k) ∧ Aside0 (Kd.R k34 34 w' w.heap.size (fun k_ => k_ ≠ gb109) v5 x5_1) ∧ Aside0 (w'.heap[gb109]? = some (.cells #[.string a1_0, .string a1_1] 34 (0, 0))) ∧ Aside0 (Below w.heap.size w w'))
  case atStart => exact ⟨(([] : List (S34))), (false), (0), (by first | rfl | (simp; done) | (simp [*]; done) | exact congrArg Value.bool (leq_bytes _ _)), (by first | rfl | (simp; done) | (simp [*]; done) | exact congrArg Value.bool (leq_bytes _ _)), H', ⟨Nat.le_refl _⟩, ⟨by first | exact Kd.R_nil _ _ _ _ _ | exact Kd.N_nil _ _ _ _ _ | exact Kd.V_nil _ _ _ _ _ | exact Kd.Q_nil _ _ _ _ _ | exact Kd.S_nil _ _ _ _ _⟩, ⟨by (with_reducible repeat (first | refine blk_drewN ?_ _ | refine blk_drew ?_ | refine blk_alloc ?_ _)); exact BK109.out⟩, ⟨by repeat (first | (with_reducible first | exact HB.out | apply below_alloc | apply pw_below_drewN | apply below_drew1 | refine below_set ?_ GE109.out) | exact HB.out)⟩⟩
  case round =>
    clear H'
    try clear c2
    try clear p2
    obtain ⟨x5_1, x6_1, x7_1, rfl, rfl, HA, HK1, HO_5, BK109, HB⟩ := hrel
    cases gk with
    | zero => exact absurd HA.out (by simp [spec_put.l0])
    | succ k1 =>
      have H := HA.out
      clear HA
      simp only [spec_put.l0] at H
      by_cases c4 : x7_1 < (l0.length : Int)
      · rw [if_pos c4] at H
        have c4b0 : decide (x7_1 < (l0.length : Int)) = true := decide_eq_true c4
        clear c4
        have HC5 := Aside0.mk H
        clear H
        go_upto_region 6 with (fail)
        repeat (go_quiet (fail); go_upto_region 6 with (fail))
        go_cut [25] (fun v25 wc => ∃ (kq : Nat) (x25_4 : Bool), v25 = .bool x25_4 ∧ Aside0 (spec_put.j1 kq l0 x5_1 x6_1 x7_1 x25_4 a1_0 a1_1 = some r) ∧ Aside0 (kq ≤ k1) ∧ Aside0 (Kd.R k34 34 wc w.heap.size (fun k_ => k_ ≠ gb109) u5 x5_1) ∧ Aside0 (wc.heap[gb109]? = some (.cells #[.string a1_0, .string a1_1] 34 (0, 0))) ∧ Aside0 (Below w.heap.size w wc))
        case first =>
          have H := HC5.out
          clear HC5
          by_cases c6 : x6_1 = true
          · subst c6
            have H1 : (spec_put.j1 k1 l0 x5_1 true x7_1 false a1_0 a1_1) = some r := by rw [if_pos rfl] at H; exact H
            clear H
            have H := H1
            clear H1
            have H' := Aside0.mk H
            clear H
            go_wp2
            repeat (go_quiet (fail); try go_wp2)
            go_meet
            case rel => exact ⟨_, (false), (by first | rfl | (simp; done) | (simp [*]; done) | exact congrArg Value.bool (leq_bytes _ _)), H', ⟨by have := HK1.out; first | omega | exact Nat.le_refl _⟩, ⟨by (with_reducible repeat (first | apply Kd.R_alloc | apply Kd.R_drewN | apply Kd.R_drew)); exact HO_5.out⟩, ⟨by (with_reducible repeat (first | refine blk_drewN ?_ _ | refine blk_drew ?_ | refine blk_alloc ?_ _)); exact BK109.out⟩, ⟨by repeat (first | (with_reducible first | exact HB.out | apply below_alloc | apply pw_below_drewN | apply below_drew1 | refine below_set ?_ GE109.out) | exact HB.out)⟩⟩
          · replace c6 := Bool.eq_false_iff.mpr c6
            subst c6
            have H1 : (if 0 ≤ x7_1 then (spec_put.j1 k1 l0 x5_1 false x7_1 (!(Op.bytesLess (((rd_T34 l0 x7_1).f0).toList) a1_0.toList)) a1_0 a1_1) else (none)) = some r := by rw [if_neg (show ¬ (false = true) by decide)] at H; exact H
            clear H
            have H := H1
            clear H1
            by_cases c7 : 0 ≤ x7_1
            · rw [if_pos c7] at H
              have c7b0 : decide (0 ≤ x7_1) = true := decide_eq_true c7
              clear c7
              (first | rw [c7b0] | (simp only [i64_w, i32_w]; rw [c7b0]) | skip)
              have H' := Aside0.mk H
              clear H
              have hcz8_0 : wr.cell? ⟨gb109, 0, none⟩ = some (.string a1_0) := (blk_cell BK109.out 0).trans rfl
              have hcz8_1 : wr.cell? ⟨gb109, 1, none⟩ = some (.string a1_1) := (blk_cell BK109.out 1).trans rfl
              have hfz8_0 := blk_frozen BK109.out 0
              have hfz8_1 := blk_frozen BK109.out 1
              have p113 : 0 ≤ (x7_1 : Int) := of_decide_eq_true (by first | (with_reducible assumption) | assumption)
              have q113 : x7_1 < (l0.length : Int) := of_decide_eq_true (by first | (with_reducible assumption) | assumption)
              obtain ⟨ad113, e113, hx113_0, hx113_1⟩ := at_T34 HR0.out x7_1 p113 q113
              cases e113
              replace hx113_0 := (HB.out.cell (World.block_lt_of_cell? w _ hx113_0)).trans hx113_0
              replace hx113_1 := (HB.out.cell (World.block_lt_of_cell? w _ hx113_1)).trans hx113_1
              replace p113 := eq_true p113
              replace q113 := eq_true q113
              go_wp2
              repeat (go_quiet (fail); try go_wp2)
              go_meet
              case rel => exact ⟨_, (!(Op.bytesLess (((rd_T34 l0 x7_1).f0).toList) a1_0.toList)), (by first | rfl | (simp; done) | (simp [*]; done) | exact congrArg Value.bool (leq_bytes _ _)), H', ⟨by have := HK1.out; first | omega | exact Nat.le_refl _⟩, ⟨by (with_reducible repeat (first | apply Kd.R_alloc | apply Kd.R_drewN | apply Kd.R_drew)); exact HO_5.out⟩, ⟨by (with_reducible repeat (first | refine blk_drewN ?_ _ | refine blk_drew ?_ | refine blk_alloc ?_ _)); exact BK109.out⟩, ⟨by repeat (first | (with_reducible first | exact HB.out | apply below_alloc | apply pw_below_drewN | apply below_drew1 | refine below_set ?_ GE109.out) | exact HB.out)⟩⟩
            · rw [if_neg c7] at H
              exact absurd H (by simp)
        case rest =>
          clear HC5
          try clear p1
          try clear q1
          try clear hx1
          try clear c2
          try clear p2
          try clear c4
          try clear c4b0
          try clear c6
          try clear c7
          try clear c7b0
          try clear hcz8_0
          try clear hcz8_1
          try clear hfz8_0
          try clear hfz8_1
          try clear hx113_0
          try clear hx113_1
          try clear p113
          try clear p2
          try clear q113
          obtain ⟨kq, x25_4, rfl, HA, HJ4, HO_5, BK109, HB⟩ := hcut
          cases kq with
          | zero => exact absurd HA.out (by simp [spec_put.j1])
          | succ kj4 =>
            have H := HA.out
            clear HA
            simp only [spec_put.j1] at H
            by_cases c9 : x25_4 = true
            · subst c9
              have H1 : (if x5_1.length < 4398046511104 then ((some (x5_1 ++ [(⟨a1_0, a1_1⟩ : S34)] : List (S34))).bind fun y114 => (if 0 ≤ x7_1 then (if x7_1 < (l0.length : Int) then (if ((rd_T34 l0 x7_1).f0).toList = a1_0.toList then (spec_put.l0 kj4 l0 y114 true (wrap64 (x7_1 + 1)) a1_0 a1_1) else (if y114.length < 4398046511104 then (spec_put.l0 kj4 l0 (y114 ++ [(⟨(rd_T34 l0 x7_1).f0, (rd_T34 l0 x7_1).f1⟩ : S34)]) true (wrap64 (x7_1 + 1)) a1_0 a1_1) else (none))) else (none)) else (none))) else (none)) = some r := by rw [if_pos rfl] at H; exact H
              clear H
              have H := H1
              clear H1
              by_cases c10 : x5_1.length < 4398046511104
              · rw [if_pos c10] at H
                have LMc10 := Aside0.mk c10
                clear c10
                obtain ⟨y114, hy114⟩ : ∃ y_ : List (S34), y_ = (x5_1 ++ [(⟨a1_0, a1_1⟩ : S34)]) := ⟨_, rfl⟩
                replace H : (if 0 ≤ x7_1 then (if x7_1 < (l0.length : Int) then (if ((rd_T34 l0 x7_1).f0).toList = a1_0.toList then (spec_put.l0 kj4 l0 y114 true (wrap64 (x7_1 + 1)) a1_0 a1_1) else (if y114.length < 4398046511104 then (spec_put.l0 kj4 l0 (y114 ++ [(⟨(rd_T34 l0 x7_1).f0, (rd_T34 l0 x7_1).f1⟩ : S34)]) true (wrap64 (x7_1 + 1)) a1_0 a1_1) else (none))) else (none)) else (none)) = some r := by first | (rw [hy114]; with_reducible exact H) | (have H2_ := (Option.bind_some _ _).symm.trans H; rw [hy114]; with_reducible exact H2_) | (have H2_ := (Option.bind_some _ _).symm.trans H; with_reducible exact H2_) | with_reducible exact H | (rw [hy114]; exact H) | exact H
                have Ny114 := Aside0.mk hy114
                clear hy114
                by_cases c11 : 0 ≤ x7_1
                · rw [if_pos c11] at H
                  have c11b0 : decide (0 ≤ x7_1) = true := decide_eq_true c11
                  clear c11
                  by_cases c12 : x7_1 < (l0.length : Int)
                  · rw [if_pos c12] at H
                    have c12b0 : decide (x7_1 < (l0.length : Int)) = true := decide_eq_true c12
                    clear c12
                    by_cases c13 : ((rd_T34 l0 x7_1).f0).toList = a1_0.toList
                    · rw [if_pos c13] at H
                      have c13b0 : (((rd_T34 l0 x7_1).f0).toList == a1_0.toList) = true := beq_iff_eq.mpr c13
                      have c13b1 : (((rd_T34 l0 x7_1).f0).toList != a1_0.toList) = false := bne_eq_false_iff_eq.mpr c13
                      clear c13
                      have H' := Aside0.mk H
                      clear H
                      have hcz14_0 : wc.cell? ⟨gb109, 0, none⟩ = some (.string a1_0) := (blk_cell BK109.out 0).trans rfl
                      have hcz14_1 : wc.cell? ⟨gb109, 1, none⟩ = some (.string a1_1) := (blk_cell BK109.out 1).trans rfl
                      have hfz14_0 := blk_frozen BK109.out 0
                      have hfz14_1 := blk_frozen BK109.out 1
                      go_wp2_with (first | ((with_reducible refine gate_builtin (b := .append) (xs := #[.tmp 26, .tmp 28]) rfl ?_); at_builtin; refine Kd.R_append k34 (w0 := w) w.heap.size rfl (.tmp 26) (.tmp 28) 23 34 (.agg #[(.string ⟨#[]⟩), (.string ⟨#[]⟩)]) 32 rfl Try.underlying23 info34 rfl (by decide) (by omega) u5 x5_1 (⟨a1_0, a1_1⟩ : S34) [.string a1_0, .string a1_1] (fun k_ => k_ ≠ gb109) (fun _ => False) rfl rfl ?aP (fun _ hk => hk.elim) ?aF ?aO ?aB ?aS ?aL ?_; (case aP => exact k34_mkM _ _ _ (⟨a1_0, a1_1⟩ : S34)); (case aB => exact (by repeat (first | (with_reducible first | exact HB.out | apply below_alloc | apply pw_below_drewN | apply below_drew1 | refine below_set ?_ GE109.out) | exact HB.out))); (case aF => exact (fun k_ hk => Kd.freshB (g := gb109) (o := .cells #[.string a1_0, .string a1_1] 34 (0, 0)) (by (with_reducible repeat (first | refine blk_drewN ?_ _ | refine blk_drew ?_ | refine blk_alloc ?_ _)); exact BK109.out) k_ hk)); (case aO => exact (by (with_reducible repeat (first | apply Kd.R_alloc | apply Kd.R_drewN | apply Kd.R_drew)); exact HO_5.out)); (case aS => exact (below_size (by repeat (first | (with_reducible first | exact HB.out | apply below_alloc | apply pw_below_drewN | apply below_drew1 | refine below_set ?_ GE109.out) | exact HB.out)))); (case aL => have := LMc10.out; omega); intro v115 w15 ho hb hg hat; rw [← Ny114.out] at ho; have n0_ := Aside0.mk (blk_grown (g := gb109) (o := .cells #[.string a1_0, .string a1_1] 34 (0, 0)) (by (with_reducible repeat (first | refine blk_drewN ?_ _ | refine blk_drew ?_ | refine blk_alloc ?_ _)); exact BK109.out) hg (Kd.R_away HO_5.out (fun _ hk => hk))); have n1_ := Aside0.mk (hb); have n2_ := Aside0.mk (ho); clear BK109; clear HB; clear HO_5; have BK109 := n0_; have HB := n1_; have HO116 := n2_; clear n0_ n1_ n2_; clear ho hb hg hat; have p117 : 0 ≤ (x7_1 : Int) := of_decide_eq_true (by first | (with_reducible assumption) | assumption); have q117 : x7_1 < (l0.length : Int) := of_decide_eq_true (by first | (with_reducible assumption) | assumption); obtain ⟨ad117, e117, hx117_0, hx117_1⟩ := at_T34 HR0.out x7_1 p117 q117; cases e117; replace hx117_0 := (HB.out.cell (World.block_lt_of_cell? w _ hx117_0)).trans hx117_0; replace hx117_1 := (HB.out.cell (World.block_lt_of_cell? w _ hx117_1)).trans hx117_1; replace p117 := eq_true p117; replace q117 := eq_true q117; have hcz16_0 : w15.cell? ⟨gb109, 0, none⟩ = some (.string a1_0) := (blk_cell BK109.out 0).trans rfl; have hcz16_1 : w15.cell? ⟨gb109, 1, none⟩ = some (.string a1_1) := (blk_cell BK109.out 1).trans rfl; have hfz16_0 := blk_frozen BK109.out 0; have hfz16_1 := blk_frozen BK109.out 1))
                      repeat (go_quiet (first | ((with_reducible refine gate_builtin (b := .append) (xs := #[.tmp 26, .tmp 28]) rfl ?_); at_builtin; refine Kd.R_append k34 (w0 := w) w.heap.size rfl (.tmp 26) (.tmp 28) 23 34 (.agg #[(.string ⟨#[]⟩), (.string ⟨#[]⟩)]) 32 rfl Try.underlying23 info34 rfl (by decide) (by omega) u5 x5_1 (⟨a1_0, a1_1⟩ : S34) [.string a1_0, .string a1_1] (fun k_ => k_ ≠ gb109) (fun _ => False) rfl rfl ?aP (fun _ hk => hk.elim) ?aF ?aO ?aB ?aS ?aL ?_; (case aP => exact k34_mkM _ _ _ (⟨a1_0, a1_1⟩ : S34)); (case aB => exact (by repeat (first | (with_reducible first | exact HB.out | apply below_alloc | apply pw_below_drewN | apply below_drew1 | refine below_set ?_ GE109.out) | exact HB.out))); (case aF => exact (fun k_ hk => Kd.freshB (g := gb109) (o := .cells #[.string a1_0, .string a1_1] 34 (0, 0)) (by (with_reducible repeat (first | refine blk_drewN ?_ _ | refine blk_drew ?_ | refine blk_alloc ?_ _)); exact BK109.out) k_ hk)); (case aO => exact (by (with_reducible repeat (first | apply Kd.R_alloc | apply Kd.R_drewN | apply Kd.R_drew)); exact HO_5.out)); (case aS => exact (below_size (by repeat (first | (with_reducible first | exact HB.out | apply below_alloc | apply pw_below_drewN | apply below_drew1 | refine below_set ?_ GE109.out) | exact HB.out)))); (case aL => have := LMc10.out; omega); intro v115 w15 ho hb hg hat; rw [← Ny114.out] at ho; have n0_ := Aside0.mk (blk_grown (g := gb109) (o := .cells #[.string a1_0, .string a1_1] 34 (0, 0)) (by (with_reducible repeat (first | refine blk_drewN ?_ _ | refine blk_drew ?_ | refine blk_alloc ?_ _)); exact BK109.out) hg (Kd.R_away HO_5.out (fun _ hk => hk))); have n1_ := Aside0.mk (hb); have n2_ := Aside0.mk (ho); clear BK109; clear HB; clear HO_5; have BK109 := n0_; have HB := n1_; have HO116 := n2_; clear n0_ n1_ n2_; clear ho hb hg hat; have p117 : 0 ≤ (x7_1 : Int) := of_decide_eq_true (by first | (with_reducible assumption) | assumption); have q117 : x7_1 < (l0.length : Int) := of_decide_eq_true (by first | (with_reducible assumption) | assumption); obtain ⟨ad117, e117, hx117_0, hx117_1⟩ := at_T34 HR0.out x7_1 p117 q117; cases e117; replace hx117_0 := (HB.out.cell (World.block_lt_of_cell? w _ hx117_0)).trans hx117_0; replace hx117_1 := (HB.out.cell (World.block_lt_of_cell? w _ hx117_1)).trans hx117_1; replace p117 := eq_true p117; replace q117 := eq_true q117; have hcz16_0 : w15.cell? ⟨gb109, 0, none⟩ = some (.string a1_0) := (blk_cell BK109.out 0).trans rfl; have hcz16_1 : w15.cell? ⟨gb109, 1, none⟩ = some (.string a1_1) := (blk_cell BK109.out 1).trans rfl; have hfz16_0 := blk_frozen BK109.out 0; have hfz16_1 := blk_frozen BK109.out 1)); try go_wp2_with (first | ((with_reducible refine gate_builtin (b := .append) (xs := #[.tmp 26, .tmp 28]) rfl ?_); at_builtin; refine Kd.R_append k34 (w0 := w) w.heap.size rfl (.tmp 26) (.tmp 28) 23 34 (.agg #[(.string ⟨#[]⟩), (.string ⟨#[]⟩)]) 32 rfl Try.underlying23 info34 rfl (by decide) (by omega) u5 x5_1 (⟨a1_0, a1_1⟩ : S34) [.string a1_0, .string a1_1] (fun k_ => k_ ≠ gb109) (fun _ => False) rfl rfl ?aP (fun _ hk => hk.elim) ?aF ?aO ?aB ?aS ?aL ?_; (case aP => exact k34_mkM _ _ _ (⟨a1_0, a1_1⟩ : S34)); (case aB => exact (by repeat (first | (with_reducible first | exact HB.out | apply below_alloc | apply pw_below_drewN | apply below_drew1 | refine below_set ?_ GE109.out) | exact HB.out))); (case aF => exact (fun k_ hk => Kd.freshB (g := gb109) (o := .cells #[.string a1_0, .string a1_1] 34 (0, 0)) (by (with_reducible repeat (first | refine blk_drewN ?_ _ | refine blk_drew ?_ | refine blk_alloc ?_ _)); exact BK109.out) k_ hk)); (case aO => exact (by (with_reducible repeat (first | apply Kd.R_alloc | apply Kd.R_drewN | apply Kd.R_drew)); exact HO_5.out)); (case aS => exact (below_size (by repeat (first | (with_reducible first | exact HB.out | apply below_alloc | apply pw_below_drewN | apply below_drew1 | refine below_set ?_ GE109.out) | exact HB.out)))); (case aL => have := LMc10.out; omega); intro v115 w15 ho hb hg hat; rw [← Ny114.out] at ho; have n0_ := Aside0.mk (blk_grown (g := gb109) (o := .cells #[.string a1_0, .string a1_1] 34 (0, 0)) (by (with_reducible repeat (first | refine blk_drewN ?_ _ | refine blk_drew ?_ | refine blk_alloc ?_ _)); exact BK109.out) hg (Kd.R_away HO_5.out (fun _ hk => hk))); have n1_ := Aside0.mk (hb); have n2_ := Aside0.mk (ho); clear BK109; clear HB; clear HO_5; have BK109 := n0_; have HB := n1_; have HO116 := n2_; clear n0_ n1_ n2_; clear ho hb hg hat; have p117 : 0 ≤ (x7_1 : Int) := of_decide_eq_true (by first | (with_reducible assumption) | assumption); have q117 : x7_1 < (l0.length : Int) := of_decide_eq_true (by first | (with_reducible assumption) | assumption); obtain ⟨ad117, e117, hx117_0, hx117_1⟩ := at_T34 HR0.out x7_1 p117 q117; cases e117; replace hx117_0 := (HB.out.cell (World.block_lt_of_cell? w _ hx117_0)).trans hx117_0; replace hx117_1 := (HB.out.cell (World.block_lt_of_cell? w _ hx117_1)).trans hx117_1; replace p117 := eq_true p117; replace q117 := eq_true q117; have hcz16_0 : w15.cell? ⟨gb109, 0, none⟩ = some (.string a1_0) := (blk_cell BK109.out 0).trans rfl; have hcz16_1 : w15.cell? ⟨gb109, 1, none⟩ = some (.string a1_1) := (blk_cell BK109.out 1).trans rfl; have hfz16_0 := blk_frozen BK109.out 0; have hfz16_1 := blk_frozen BK109.out 1)))
                      go_roundg kj4
                      case measure => have := HK1.out; have := HJ4.out; omega
                      case rel => exact ⟨(y114), (true), (wrap64 (x7_1 + 1)), (by first | rfl | (simp; done) | (simp [*]; done) | exact congrArg Value.bool (leq_bytes _ _)), (by first | rfl | (simp; done) | (simp [*]; done) | exact congrArg Value.bool (leq_bytes _ _)), H', ⟨by have := HK1.out; have := HJ4.out; omega⟩, ⟨by (with_reducible repeat (first | apply Kd.R_alloc | apply Kd.R_drewN | apply Kd.R_drew)); exact HO116.out⟩, ⟨by (with_reducible repeat (first | refine blk_drewN ?_ _ | refine blk_drew ?_ | refine blk_alloc ?_ _)); exact BK109.out⟩, ⟨by repeat (first | (with_reducible first | exact HB.out | apply below_alloc | apply pw_below_drewN | apply below_drew1 | refine below_set ?_ GE109.out) | exact HB.out)⟩⟩
                    · rw [if_neg c13] at H
                      have c13b0 : (((rd_T34 l0 x7_1).f0).toList == a1_0.toList) = false := beq_eq_false_iff_ne.mpr c13
                      have c13b1 : (((rd_T34 l0 x7_1).f0).toList != a1_0.toList) = true := bne_iff_ne.mpr c13
                      by_cases c17 : y114.length < 4398046511104
                      · rw [if_pos c17] at H
                        have LMc17 := Aside0.mk c17
                        clear c17
                        obtain ⟨y119, hy119⟩ : ∃ y_ : List (S34), y_ = (y114 ++ [(⟨(rd_T34 l0 x7_1).f0, (rd_T34 l0 x7_1).f1⟩ : S34)]) := ⟨_, rfl⟩
                        replace H : (spec_put.l0 kj4 l0 y119 true (wrap64 (x7_1 + 1)) a1_0 a1_1) = some r := by first | (rw [hy119]; with_reducible exact H) | (have H2_ := (Option.bind_some _ _).symm.trans H; rw [hy119]; with_reducible exact H2_) | (have H2_ := (Option.bind_some _ _).symm.trans H; with_reducible exact H2_) | with_reducible exact H | (rw [hy119]; exact H) | exact H
                        have Ny119 := Aside0.mk hy119
                        clear hy119
                        have H' := Aside0.mk H
                        clear H
                        have hcz18_0 : wc.cell? ⟨gb109, 0, none⟩ = some (.string a1_0) := (blk_cell BK109.out 0).trans rfl
                        have hcz18_1 : wc.cell? ⟨gb109, 1, none⟩ = some (.string a1_1) := (blk_cell BK109.out 1).trans rfl
                        have hfz18_0 := blk_frozen BK109.out 0
                        have hfz18_1 := blk_frozen BK109.out 1
                        go_wp2_with (first | ((with_reducible refine gate_builtin (b := .append) (xs := #[.tmp 26, .tmp 28]) rfl ?_); at_builtin; refine Kd.R_append k34 (w0 := w) w.heap.size rfl (.tmp 26) (.tmp 28) 23 34 (.agg #[(.string ⟨#[]⟩), (.string ⟨#[]⟩)]) 32 rfl Try.underlying23 info34 rfl (by decide) (by omega) u5 x5_1 (⟨a1_0, a1_1⟩ : S34) [.string a1_0, .string a1_1] (fun k_ => k_ ≠ gb109) (fun _ => False) rfl rfl ?aP (fun _ hk => hk.elim) ?aF ?aO ?aB ?aS ?aL ?_; (case aP => exact k34_mkM _ _ _ (⟨a1_0, a1_1⟩ : S34)); (case aB => exact (by repeat (first | (with_reducible first | exact HB.out | apply below_alloc | apply pw_below_drewN | apply below_drew1 | refine below_set ?_ GE109.out) | exact HB.out))); (case aF => exact (fun k_ hk => Kd.freshB (g := gb109) (o := .cells #[.string a1_0, .string a1_1] 34 (0, 0)) (by (with_reducible repeat (first | refine blk_drewN ?_ _ | refine blk_drew ?_ | refine blk_alloc ?_ _)); exact BK109.out) k_ hk)); (case aO => exact (by (with_reducible repeat (first | apply Kd.R_alloc | apply Kd.R_drewN | apply Kd.R_drew)); exact HO_5.out)); (case aS => exact (below_size (by repeat (first | (with_reducible first | exact HB.out | apply below_alloc | apply pw_below_drewN | apply below_drew1 | refine below_set ?_ GE109.out) | exact HB.out)))); (case aL => have := LMc10.out; omega); intro v115 w19 ho hb hg hat; rw [← Ny114.out] at ho; have n0_ := Aside0.mk (blk_grown (g := gb109) (o := .cells #[.string a1_0, .string a1_1] 34 (0, 0)) (by (with_reducible repeat (first | refine blk_drewN ?_ _ | refine blk_drew ?_ | refine blk_alloc ?_ _)); exact BK109.out) hg (Kd.R_away HO_5.out (fun _ hk => hk))); have n1_ := Aside0.mk (hb); have n2_ := Aside0.mk (ho); clear BK109; clear HB; clear HO_5; have BK109 := n0_; have HB := n1_; have HO116 := n2_; clear n0_ n1_ n2_; clear ho hb hg hat; have p117 : 0 ≤ (x7_1 : Int) := of_decide_eq_true (by first | (with_reducible assumption) | assumption); have q117 : x7_1 < (l0.length : Int) := of_decide_eq_true (by first | (with_reducible assumption) | assumption); obtain ⟨ad117, e117, hx117_0, hx117_1⟩ := at_T34 HR0.out x7_1 p117 q117; cases e117; replace hx117_0 := (HB.out.cell (World.block_lt_of_cell? w _ hx117_0)).trans hx117_0; replace hx117_1 := (HB.out.cell (World.block_lt_of_cell? w _ hx117_1)).trans hx117_1; replace p117 := eq_true p117; replace q117 := eq_true q117; have hcz20_0 : w19.cell? ⟨gb109, 0, none⟩ = some (.string a1_0) := (blk_cell BK109.out 0).trans rfl; have hcz20_1 : w19.cell? ⟨gb109, 1, none⟩ = some (.string a1_1) := (blk_cell BK109.out 1).trans rfl; have hfz20_0 := blk_frozen BK109.out 0; have hfz20_1 := blk_frozen BK109.out 1; have p118 : 0 ≤ (x7_1 : Int) := of_decide_eq_true (by first | (with_reducible assumption) | assumption); have q118 : x7_1 < (l0.length : Int) := of_decide_eq_true (by first | (with_reducible assumption) | assumption); obtain ⟨ad118, e118, hx118_0, hx118_1⟩ := at_T34 HR0.out x7_1 p118 q118; obtain rfl : ad117 = ad118 := (by injection e118); replace hx118_0 := (HB.out.cell (World.block_lt_of_cell? w _ hx118_0)).trans hx118_0; replace hx118_1 := (HB.out.cell (World.block_lt_of_cell? w _ hx118_1)).trans hx118_1; replace p118 := eq_true p118; replace q118 := eq_true q118) | ((with_reducible refine gate_builtin (b := .append) (xs := #[.tmp 38, .tmp 43]) rfl ?_); at_builtin; refine Kd.R_append k34 (w0 := w) w.heap.size rfl (.tmp 38) (.tmp 43) 23 34 (.agg #[(.string ⟨#[]⟩), (.string ⟨#[]⟩)]) 32 rfl Try.underlying23 info34 rfl (by decide) (by omega) v115 y114 (⟨(rd_T34 l0 x7_1).f0, (rd_T34 l0 x7_1).f1⟩ : S34) [.string ((rd_T34 l0 x7_1).f0), .string ((rd_T34 l0 x7_1).f1)] (fun k_ => k_ ≠ gb109) (fun _ => False) rfl rfl ?aP (fun _ hk => hk.elim) ?aF ?aO ?aB ?aS ?aL ?_; (case aP => exact k34_mkM _ _ _ (⟨(rd_T34 l0 x7_1).f0, (rd_T34 l0 x7_1).f1⟩ : S34)); (case aB => exact (by repeat (first | (with_reducible first | exact HB.out | apply below_alloc | apply pw_below_drewN | apply below_drew1 | refine below_set ?_ GE109.out) | exact HB.out))); (case aF => exact (fun k_ hk => Kd.freshB (g := gb109) (o := .cells #[.string a1_0, .string a1_1] 34 (0, 0)) (by (with_reducible repeat (first | refine blk_drewN ?_ _ | refine blk_drew ?_ | refine blk_alloc ?_ _)); exact BK109.out) k_ hk)); (case aO => exact (by (with_reducible repeat (first | apply Kd.R_alloc | apply Kd.R_drewN | apply Kd.R_drew)); exact HO116.out)); (case aS => exact (below_size (by repeat (first | (with_reducible first | exact HB.out | apply below_alloc | apply pw_below_drewN | apply below_drew1 | refine below_set ?_ GE109.out) | exact HB.out)))); (case aL => have := LMc17.out; omega); intro v120 w21 ho hb hg hat; rw [← Ny119.out] at ho; have n0_ := Aside0.mk (blk_grown (g := gb109) (o := .cells #[.string a1_0, .string a1_1] 34 (0, 0)) (by (with_reducible repeat (first | refine blk_drewN ?_ _ | refine blk_drew ?_ | refine blk_alloc ?_ _)); exact BK109.out) hg (Kd.R_away HO116.out (fun _ hk => hk))); have n1_ := Aside0.mk (hb); have n2_ := Aside0.mk (ho); clear BK109; clear HB; clear HO116; have BK109 := n0_; have HB := n1_; have HO121 := n2_; clear n0_ n1_ n2_; clear ho hb hg hat))
                        repeat (go_quiet (first | ((with_reducible refine gate_builtin (b := .append) (xs := #[.tmp 26, .tmp 28]) rfl ?_); at_builtin; refine Kd.R_append k34 (w0 := w) w.heap.size rfl (.tmp 26) (.tmp 28) 23 34 (.agg #[(.string ⟨#[]⟩), (.string ⟨#[]⟩)]) 32 rfl Try.underlying23 info34 rfl (by decide) (by omega) u5 x5_1 (⟨a1_0, a1_1⟩ : S34) [.string a1_0, .string a1_1] (fun k_ => k_ ≠ gb109) (fun _ => False) rfl rfl ?aP (fun _ hk => hk.elim) ?aF ?aO ?aB ?aS ?aL ?_; (case aP => exact k34_mkM _ _ _ (⟨a1_0, a1_1⟩ : S34)); (case aB => exact (by repeat (first | (with_reducible first | exact HB.out | apply below_alloc | apply pw_below_drewN | apply below_drew1 | refine below_set ?_ GE109.out) | exact HB.out))); (case aF => exact (fun k_ hk => Kd.freshB (g := gb109) (o := .cells #[.string a1_0, .string a1_1] 34 (0, 0)) (by (with_reducible repeat (first | refine blk_drewN ?_ _ | refine blk_drew ?_ | refine blk_alloc ?_ _)); exact BK109.out) k_ hk)); (case aO => exact (by (with_reducible repeat (first | apply Kd.R_alloc | apply Kd.R_drewN | apply Kd.R_drew)); exact HO_5.out)); (case aS => exact (below_size (by repeat (first | (with_reducible first | exact HB.out | apply below_alloc | apply pw_below_drewN | apply below_drew1 | refine below_set ?_ GE109.out) | exact HB.out)))); (case aL => have := LMc10.out; omega); intro v115 w19 ho hb hg hat; rw [← Ny114.out] at ho; have n0_ := Aside0.mk (blk_grown (g := gb109) (o := .cells #[.string a1_0, .string a1_1] 34 (0, 0)) (by (with_reducible repeat (first | refine blk_drewN ?_ _ | refine blk_drew ?_ | refine blk_alloc ?_ _)); exact BK109.out) hg (Kd.R_away HO_5.out (fun _ hk => hk))); have n1_ := Aside0.mk (hb); have n2_ := Aside0.mk (ho); clear BK109; clear HB; clear HO_5; have BK109 := n0_; have HB := n1_; have HO116 := n2_; clear n0_ n1_ n2_; clear ho hb hg hat; have p117 : 0 ≤ (x7_1 : Int) := of_decide_eq_true (by first | (with_reducible assumption) | assumption); have q117 : x7_1 < (l0.length : Int) := of_decide_eq_true (by first | (with_reducible assumption) | assumption); obtain ⟨ad117, e117, hx117_0, hx117_1⟩ := at_T34 HR0.out x7_1 p117 q117; cases e117; replace hx117_0 := (HB.out.cell (World.block_lt_of_cell? w _ hx117_0)).trans hx117_0; replace hx117_1 := (HB.out.cell (World.block_lt_of_cell? w _ hx117_1)).trans hx117_1; replace p117 := eq_true p117; replace q117 := eq_true q117; have hcz20_0 : w19.cell? ⟨gb109, 0, none⟩ = some (.string a1_0) := (blk_cell BK109.out 0).trans rfl; have hcz20_1 : w19.cell? ⟨gb109, 1, none⟩ = some (.string a1_1) := (blk_cell BK109.out 1).trans rfl; have hfz20_0 := blk_frozen BK109.out 0; have hfz20_1 := blk_frozen BK109.out 1; have p118 : 0 ≤ (x7_1 : Int) := of_decide_eq_true (by first | (with_reducible assumption) | assumption); have q118 : x7_1 < (l0.length : Int) := of_decide_eq_true (by first | (with_reducible assumption) | assumption); obtain ⟨ad118, e118, hx118_0, hx118_1⟩ := at_T34 HR0.out x7_1 p118 q118; obtain rfl : ad117 = ad118 := (by injection e118); replace hx118_0 := (HB.out.cell (World.block_lt_of_cell? w _ hx118_0)).trans hx118_0; replace hx118_1 := (HB.out.cell (World.block_lt_of_cell? w _ hx118_1)).trans hx118_1; replace p118 := eq_true p118; replace q118 := eq_true q118) | ((with_reducible refine gate_builtin (b := .append) (xs := #[.tmp 38, .tmp 43]) rfl ?_); at_builtin; refine Kd.R_append k34 (w0 := w) w.heap.size rfl (.tmp 38) (.tmp 43) 23 34 (.agg #[(.string ⟨#[]⟩), (.string ⟨#[]⟩)]) 32 rfl Try.underlying23 info34 rfl (by decide) (by omega) v115 y114 (⟨(rd_T34 l0 x7_1).f0, (rd_T34 l0 x7_1).f1⟩ : S34) [.string ((rd_T34 l0 x7_1).f0), .string ((rd_T34 l0 x7_1).f1)] (fun k_ => k_ ≠ gb109) (fun _ => False) rfl rfl ?aP (fun _ hk => hk.elim) ?aF ?aO ?aB ?aS ?aL ?_; (case aP => exact k34_mkM _ _ _ (⟨(rd_T34 l0 x7_1).f0, (rd_T34 l0 x7_1).f1⟩ : S34)); (case aB => exact (by repeat (first | (with_reducible first | exact HB.out | apply below_alloc | apply pw_below_drewN | apply below_drew1 | refine below_set ?_ GE109.out) | exact HB.out))); (case aF => exact (fun k_ hk => Kd.freshB (g := gb109) (o := .cells #[.string a1_0, .string a1_1] 34 (0, 0)) (by (with_reducible repeat (first | refine blk_drewN ?_ _ | refine blk_drew ?_ | refine blk_alloc ?_ _)); exact BK109.out) k_ hk)); (case aO => exact (by (with_reducible repeat (first | apply Kd.R_alloc | apply Kd.R_drewN | apply Kd.R_drew)); exact HO116.out)); (case aS => exact (below_size (by repeat (first | (with_reducible first | exact HB.out | apply below_alloc | apply pw_below_drewN | apply below_drew1 | refine below_set ?_ GE109.out) | exact HB.out)))); (case aL => have := LMc17.out; omega); intro v120 w21 ho hb hg hat; rw [← Ny119.out] at ho; have n0_ := Aside0.mk (blk_grown (g := gb109) (o := .cells #[.string a1_0, .string a1_1] 34 (0, 0)) (by (with_reducible repeat (first | refine blk_drewN ?_ _ | refine blk_drew ?_ | refine blk_alloc ?_ _)); exact BK109.out) hg (Kd.R_away HO116.out (fun _ hk => hk))); have n1_ := Aside0.mk (hb); have n2_ := Aside0.mk (ho); clear BK109; clear HB; clear HO116; have BK109 := n0_; have HB := n1_; have HO121 := n2_; clear n0_ n1_ n2_; clear ho hb hg hat)); try go_wp2_with (first | ((with_reducible refine gate_builtin (b := .append) (xs := #[.tmp 26, .tmp 28]) rfl ?_); at_builtin; refine Kd.R_append k34 (w0 := w) w.heap.size rfl (.tmp 26) (.tmp 28) 23 34 (.agg #[(.string ⟨#[]⟩), (.string ⟨#[]⟩)]) 32 rfl Try.underlying23 info34 rfl (by decide) (by omega) u5 x5_1 (⟨a1_0, a1_1⟩ : S34) [.string a1_0, .string a1_1] (fun k_ => k_ ≠ gb109) (fun _ => False) rfl rfl ?aP (fun _ hk => hk.elim) ?aF ?aO ?aB ?aS ?aL ?_; (case aP => exact k34_mkM _ _ _ (⟨a1_0, a1_1⟩ : S34)); (case aB => exact (by repeat (first | (with_reducible first | exact HB.out | apply below_alloc | apply pw_below_drewN | apply below_drew1 | refine below_set ?_ GE109.out) | exact HB.out))); (case aF => exact (fun k_ hk => Kd.freshB (g := gb109) (o := .cells #[.string a1_0, .string a1_1] 34 (0, 0)) (by (with_reducible repeat (first | refine blk_drewN ?_ _ | refine blk_drew ?_ | refine blk_alloc ?_ _)); exact BK109.out) k_ hk)); (case aO => exact (by (with_reducible repeat (first | apply Kd.R_alloc | apply Kd.R_drewN | apply Kd.R_drew)); exact HO_5.out)); (case aS => exact (below_size (by repeat (first | (with_reducible first | exact HB.out | apply below_alloc | apply pw_below_drewN | apply below_drew1 | refine below_set ?_ GE109.out) | exact HB.out)))); (case aL => have := LMc10.out; omega); intro v115 w19 ho hb hg hat; rw [← Ny114.out] at ho; have n0_ := Aside0.mk (blk_grown (g := gb109) (o := .cells #[.string a1_0, .string a1_1] 34 (0, 0)) (by (with_reducible repeat (first | refine blk_drewN ?_ _ | refine blk_drew ?_ | refine blk_alloc ?_ _)); exact BK109.out) hg (Kd.R_away HO_5.out (fun _ hk => hk))); have n1_ := Aside0.mk (hb); have n2_ := Aside0.mk (ho); clear BK109; clear HB; clear HO_5; have BK109 := n0_; have HB := n1_; have HO116 := n2_; clear n0_ n1_ n2_; clear ho hb hg hat; have p117 : 0 ≤ (x7_1 : Int) := of_decide_eq_true (by first | (with_reducible assumption) | assumption); have q117 : x7_1 < (l0.length : Int) := of_decide_eq_true (by first | (with_reducible assumption) | assumption); obtain ⟨ad117, e117, hx117_0, hx117_1⟩ := at_T34 HR0.out x7_1 p117 q117; cases e117; replace hx117_0 := (HB.out.cell (World.block_lt_of_cell? w _ hx117_0)).trans hx117_0; replace hx117_1 := (HB.out.cell (World.block_lt_of_cell? w _ hx117_1)).trans hx117_1; replace p117 := eq_true p117; replace q117 := eq_true q117; have hcz20_0 : w19.cell? ⟨gb109, 0, none⟩ = some (.string a1_0) := (blk_cell BK109.out 0).trans rfl; have hcz20_1 : w19.cell? ⟨gb109, 1, none⟩ = some (.string a1_1) := (blk_cell BK109.out 1).trans rfl; have hfz20_0 := blk_frozen BK109.out 0; have hfz20_1 := blk_frozen BK109.out 1; have p118 : 0 ≤ (x7_1 : Int) := of_decide_eq_true (by first | (with_reducible assumption) | assumption); have q118 : x7_1 < (l0.length : Int) := of_decide_eq_true (by first | (with_reducible assumption) | assumption); obtain ⟨ad118, e118, hx118_0, hx118_1⟩ := at_T34 HR0.out x7_1 p118 q118; obtain rfl : ad117 = ad118 := (by injection e118); replace hx118_0 := (HB.out.cell (World.block_lt_of_cell? w _ hx118_0)).trans hx118_0; replace hx118_1 := (HB.out.cell (World.block_lt_of_cell? w _ hx118_1)).trans hx118_1; replace p118 := eq_true p118; replace q118 := eq_true q118) | ((with_reducible refine gate_builtin (b := .append) (xs := #[.tmp 38, .tmp 43]) rfl ?_); at_builtin; refine Kd.R_append k34 (w0 := w) w.heap.size rfl (.tmp 38) (.tmp 43) 23 34 (.agg #[(.string ⟨#[]⟩), (.string ⟨#[]⟩)]) 32 rfl Try.underlying23 info34 rfl (by decide) (by omega) v115 y114 (⟨(rd_T34 l0 x7_1).f0, (rd_T34 l0 x7_1).f1⟩ : S34) [.string ((rd_T34 l0 x7_1).f0), .string ((rd_T34 l0 x7_1).f1)] (fun k_ => k_ ≠ gb109) (fun _ => False) rfl rfl ?aP (fun _ hk => hk.elim) ?aF ?aO ?aB ?aS ?aL ?_; (case aP => exact k34_mkM _ _ _ (⟨(rd_T34 l0 x7_1).f0, (rd_T34 l0 x7_1).f1⟩ : S34)); (case aB => exact (by repeat (first | (with_reducible first | exact HB.out | apply below_alloc | apply pw_below_drewN | apply below_drew1 | refine below_set ?_ GE109.out) | exact HB.out))); (case aF => exact (fun k_ hk => Kd.freshB (g := gb109) (o := .cells #[.string a1_0, .string a1_1] 34 (0, 0)) (by (with_reducible repeat (first | refine blk_drewN ?_ _ | refine blk_drew ?_ | refine blk_alloc ?_ _)); exact BK109.out) k_ hk)); (case aO => exact (by (with_reducible repeat (first | apply Kd.R_alloc | apply Kd.R_drewN | apply Kd.R_drew)); exact HO116.out)); (case aS => exact (below_size (by repeat (first | (with_reducible first | exact HB.out | apply below_alloc | apply pw_below_drewN | apply below_drew1 | refine below_set ?_ GE109.out) | exact HB.out)))); (case aL => have := LMc17.out; omega); intro v120 w21 ho hb hg hat; rw [← Ny119.out] at ho; have n0_ := Aside0.mk (blk_grown (g := gb109) (o := .cells #[.string a1_0, .string a1_1] 34 (0, 0)) (by (with_reducible repeat (first | refine blk_drewN ?_ _ | refine blk_drew ?_ | refine blk_alloc ?_ _)); exact BK109.out) hg (Kd.R_away HO116.out (fun _ hk => hk))); have n1_ := Aside0.mk (hb); have n2_ := Aside0.mk (ho); clear BK109; clear HB; clear HO116; have BK109 := n0_; have HB := n1_; have HO121 := n2_; clear n0_ n1_ n2_; clear ho hb hg hat)))
                        go_roundg kj4
                        case measure => have := HK1.out; have := HJ4.out; omega
                        case rel => exact ⟨(y119), (true), (wrap64 (x7_1 + 1)), (by first | rfl | (simp; done) | (simp [*]; done) | exact congrArg Value.bool (leq_bytes _ _)), (by first | rfl | (simp; done) | (simp [*]; done) | exact congrArg Value.bool (leq_bytes _ _)), H', ⟨by have := HK1.out; have := HJ4.out; omega⟩, ⟨by (with_reducible repeat (first | apply Kd.R_alloc | apply Kd.R_drewN | apply Kd.R_drew)); exact HO121.out⟩, ⟨by (with_reducible repeat (first | refine blk_drewN ?_ _ | refine blk_drew ?_ | refine blk_alloc ?_ _)); exact BK109.out⟩, ⟨by repeat (first | (with_reducible first | exact HB.out | apply below_alloc | apply pw_below_drewN | apply below_drew1 | refine below_set ?_ GE109.out) | exact HB.out)⟩⟩
                      · rw [if_neg c17] at H
                        exact absurd H (by simp)
                  · rw [if_neg c12] at H
                    exact absurd H (by simp)
                · rw [if_neg c11] at H
                  exact absurd H (by simp)
              · rw [if_neg c10] at H
                exact absurd H (by simp)
            · replace c9 := Bool.eq_false_iff.mpr c9
              subst c9
              have H1 : (if 0 ≤ x7_1 then (if x7_1 < (l0.length : Int) then (if ((rd_T34 l0 x7_1).f0).toList = a1_0.toList then (spec_put.l0 kj4 l0 x5_1 x6_1 (wrap64 (x7_1 + 1)) a1_0 a1_1) else (if x5_1.length < 4398046511104 then (spec_put.l0 kj4 l0 (x5_1 ++ [(⟨(rd_T34 l0 x7_1).f0, (rd_T34 l0 x7_1).f1⟩ : S34)]) x6_1 (wrap64 (x7_1 + 1)) a1_0 a1_1) else (none))) else (none)) else (none)) = some r := by rw [if_neg (show ¬ (false = true) by decide)] at H; exact H
              clear H
              have H := H1
              clear H1
              by_cases c22 : 0 ≤ x7_1
              · rw [if_pos c22] at H
                have c22b0 : decide (0 ≤ x7_1) = true := decide_eq_true c22
                clear c22
                by_cases c23 : x7_1 < (l0.length : Int)
                · rw [if_pos c23] at H
                  have c23b0 : decide (x7_1 < (l0.length : Int)) = true := decide_eq_true c23
                  clear c23
                  by_cases c24 : ((rd_T34 l0 x7_1).f0).toList = a1_0.toList
                  · rw [if_pos c24] at H
                    have c24b0 : (((rd_T34 l0 x7_1).f0).toList == a1_0.toList) = true := beq_iff_eq.mpr c24
                    have c24b1 : (((rd_T34 l0 x7_1).f0).toList != a1_0.toList) = false := bne_eq_false_iff_eq.mpr c24
                    clear c24
                    have H' := Aside0.mk H
                    clear H
                    have p122 : 0 ≤ (x7_1 : Int) := of_decide_eq_true (by first | (with_reducible assumption) | assumption)
                    have q122 : x7_1 < (l0.length : Int) := of_decide_eq_true (by first | (with_reducible assumption) | assumption)
                    obtain ⟨ad122, e122, hx122_0, hx122_1⟩ := at_T34 HR0.out x7_1 p122 q122
                    cases e122
                    replace hx122_0 := (HB.out.cell (World.block_lt_of_cell? w _ hx122_0)).trans hx122_0
                    replace hx122_1 := (HB.out.cell (World.block_lt_of_cell? w _ hx122_1)).trans hx122_1
                    replace p122 := eq_true p122
                    replace q122 := eq_true q122
                    have hcz25_0 : wc.cell? ⟨gb109, 0, none⟩ = some (.string a1_0) := (blk_cell BK109.out 0).trans rfl
                    have hcz25_1 : wc.cell? ⟨gb109, 1, none⟩ = some (.string a1_1) := (blk_cell BK109.out 1).trans rfl
                    have hfz25_0 := blk_frozen BK109.out 0
                    have hfz25_1 := blk_frozen BK109.out 1
                    go_wp2
                    repeat (go_quiet (fail); try go_wp2)
                    go_roundg kj4
                    case measure => have := HK1.out; have := HJ4.out; omega
                    case rel => exact ⟨(x5_1), (x6_1), (wrap64 (x7_1 + 1)), (by first | rfl | (simp; done) | (simp [*]; done) | exact congrArg Value.bool (leq_bytes _ _)), (by first | rfl | (simp; done) | (simp [*]; done) | exact congrArg Value.bool (leq_bytes _ _)), H', ⟨by have := HK1.out; have := HJ4.out; omega⟩, ⟨by (with_reducible repeat (first | apply Kd.R_alloc | apply Kd.R_drewN | apply Kd.R_drew)); exact HO_5.out⟩, ⟨by (with_reducible repeat (first | refine blk_drewN ?_ _ | refine blk_drew ?_ | refine blk_alloc ?_ _)); exact BK109.out⟩, ⟨by repeat (first | (with_reducible first | exact HB.out | apply below_alloc | apply pw_below_drewN | apply below_drew1 | refine below_set ?_ GE109.out) | exact HB.out)⟩⟩
                  · rw [if_neg c24] at H
                    have c24b0 : (((rd_T34 l0 x7_1).f0).toList == a1_0.toList) = false := beq_eq_false_iff_ne.mpr c24
                    have c24b1 : (((rd_T34 l0 x7_1).f0).toList != a1_0.toList) = true := bne_iff_ne.mpr c24
                    by_cases c26 : x5_1.length < 4398046511104
                    · rw [if_pos c26] at H
                      have LMc26 := Aside0.mk c26
                      clear c26
                      obtain ⟨y124, hy124⟩ : ∃ y_ : List (S34), y_ = (x5_1 ++ [(⟨(rd_T34 l0 x7_1).f0, (rd_T34 l0 x7_1).f1⟩ : S34)]) := ⟨_, rfl⟩
                      replace H : (spec_put.l0 kj4 l0 y124 x6_1 (wrap64 (x7_1 + 1)) a1_0 a1_1) = some r := by first | (rw [hy124]; with_reducible exact H) | (have H2_ := (Option.bind_some _ _).symm.trans H; rw [hy124]; with_reducible exact H2_) | (have H2_ := (Option.bind_some _ _).symm.trans H; with_reducible exact H2_) | with_reducible exact H | (rw [hy124]; exact H) | exact H
                      have Ny124 := Aside0.mk hy124
                      clear hy124
                      have H' := Aside0.mk H
                      clear H
                      have p122 : 0 ≤ (x7_1 : Int) := of_decide_eq_true (by first | (with_reducible assumption) | assumption)
                      have q122 : x7_1 < (l0.length : Int) := of_decide_eq_true (by first | (with_reducible assumption) | assumption)
                      obtain ⟨ad122, e122, hx122_0, hx122_1⟩ := at_T34 HR0.out x7_1 p122 q122
                      cases e122
                      replace hx122_0 := (HB.out.cell (World.block_lt_of_cell? w _ hx122_0)).trans hx122_0
                      replace hx122_1 := (HB.out.cell (World.block_lt_of_cell? w _ hx122_1)).trans hx122_1
                      replace p122 := eq_true p122
                      replace q122 := eq_true q122
                      have hcz27_0 : wc.cell? ⟨gb109, 0, none⟩ = some (.string a1_0) := (blk_cell BK109.out 0).trans rfl
                      have hcz27_1 : wc.cell? ⟨gb109, 1, none⟩ = some (.string a1_1) := (blk_cell BK109.out 1).trans rfl
                      have hfz27_0 := blk_frozen BK109.out 0
                      have hfz27_1 := blk_frozen BK109.out 1
                      have p123 : 0 ≤ (x7_1 : Int) := of_decide_eq_true (by first | (with_reducible assumption) | assumption)
                      have q123 : x7_1 < (l0.length : Int) := of_decide_eq_true (by first | (with_reducible assumption) | assumption)
                      obtain ⟨ad123, e123, hx123_0, hx123_1⟩ := at_T34 HR0.out x7_1 p123 q123
                      obtain rfl : ad122 = ad123 := (by injection e123)
                      replace hx123_0 := (HB.out.cell (World.block_lt_of_cell? w _ hx123_0)).trans hx123_0
                      replace hx123_1 := (HB.out.cell (World.block_lt_of_cell? w _ hx123_1)).trans hx123_1
                      replace p123 := eq_true p123
                      replace q123 := eq_true q123
                      go_wp2_with (first | ((with_reducible refine gate_builtin (b := .append) (xs := #[.tmp 38, .tmp 43]) rfl ?_); at_builtin; refine Kd.R_append k34 (w0 := w) w.heap.size rfl (.tmp 38) (.tmp 43) 23 34 (.agg #[(.string ⟨#[]⟩), (.string ⟨#[]⟩)]) 32 rfl Try.underlying23 info34 rfl (by decide) (by omega) u5 x5_1 (⟨(rd_T34 l0 x7_1).f0, (rd_T34 l0 x7_1).f1⟩ : S34) [.string ((rd_T34 l0 x7_1).f0), .string ((rd_T34 l0 x7_1).f1)] (fun k_ => k_ ≠ gb109) (fun _ => False) rfl rfl ?aP (fun _ hk => hk.elim) ?aF ?aO ?aB ?aS ?aL ?_; (case aP => exact k34_mkM _ _ _ (⟨(rd_T34 l0 x7_1).f0, (rd_T34 l0 x7_1).f1⟩ : S34)); (case aB => exact (by repeat (first | (with_reducible first | exact HB.out | apply below_alloc | apply pw_below_drewN | apply below_drew1 | refine below_set ?_ GE109.out) | exact HB.out))); (case aF => exact (fun k_ hk => Kd.freshB (g := gb109) (o := .cells #[.string a1_0, .string a1_1] 34 (0, 0)) (by (with_reducible repeat (first | refine blk_drewN ?_ _ | refine blk_drew ?_ | refine blk_alloc ?_ _)); exact BK109.out) k_ hk)); (case aO => exact (by (with_reducible repeat (first | apply Kd.R_alloc | apply Kd.R_drewN | apply Kd.R_drew)); exact HO_5.out)); (case aS => exact (below_size (by repeat (first | (with_reducible first | exact HB.out | apply below_alloc | apply pw_below_drewN | apply below_drew1 | refine below_set ?_ GE109.out) | exact HB.out)))); (case aL => have := LMc26.out; omega); intro v125 w28 ho hb hg hat; rw [← Ny124.out] at ho; have n0_ := Aside0.mk (blk_grown (g := gb109) (o := .cells #[.string a1_0, .string a1_1] 34 (0, 0)) (by (with_reducible repeat (first | refine blk_drewN ?_ _ | refine blk_drew ?_ | refine blk_alloc ?_ _)); exact BK109.out) hg (Kd.R_away HO_5.out (fun _ hk => hk))); have n1_ := Aside0.mk (hb); have n2_ := Aside0.mk (ho); clear BK109; clear HB; clear HO_5; have BK109 := n0_; have HB := n1_; have HO126 := n2_; clear n0_ n1_ n2_; clear ho hb hg hat))
                      repeat (go_quiet (first | ((with_reducible refine gate_builtin (b := .append) (xs := #[.tmp 38, .tmp 43]) rfl ?_); at_builtin; refine Kd.R_append k34 (w0 := w) w.heap.size rfl (.tmp 38) (.tmp 43) 23 34 (.agg #[(.string ⟨#[]⟩), (.string ⟨#[]⟩)]) 32 rfl Try.underlying23 info34 rfl (by decide) (by omega) u5 x5_1 (⟨(rd_T34 l0 x7_1).f0, (rd_T34 l0 x7_1).f1⟩ : S34) [.string ((rd_T34 l0 x7_1).f0), .string ((rd_T34 l0 x7_1).f1)] (fun k_ => k_ ≠ gb109) (fun _ => False) rfl rfl ?aP (fun _ hk => hk.elim) ?aF ?aO ?aB ?aS ?aL ?_; (case aP => exact k34_mkM _ _ _ (⟨(rd_T34 l0 x7_1).f0, (rd_T34 l0 x7_1).f1⟩ : S34)); (case aB => exact (by repeat (first | (with_reducible first | exact HB.out | apply below_alloc | apply pw_below_drewN | apply below_drew1 | refine below_set ?_ GE109.out) | exact HB.out))); (case aF => exact (fun k_ hk => Kd.freshB (g := gb109) (o := .cells #[.string a1_0, .string a1_1] 34 (0, 0)) (by (with_reducible repeat (first | refine blk_drewN ?_ _ | refine blk_drew ?_ | refine blk_alloc ?_ _)); exact BK109.out) k_ hk)); (case aO => exact (by (with_reducible repeat (first | apply Kd.R_alloc | apply Kd.R_drewN | apply Kd.R_drew)); exact HO_5.out)); (case aS => exact (below_size (by repeat (first | (with_reducible first | exact HB.out | apply below_alloc | apply pw_below_drewN | apply below_drew1 | refine below_set ?_ GE109.out) | exact HB.out)))); (case aL => have := LMc26.out; omega); intro v125 w28 ho hb hg hat; rw [← Ny124.out] at ho; have n0_ := Aside0.mk (blk_grown (g := gb109) (o := .cells #[.string a1_0, .string a1_1] 34 (0, 0)) (by (with_reducible repeat (first | refine blk_drewN ?_ _ | refine blk_drew ?_ | refine blk_alloc ?_ _)); exact BK109.out) hg (Kd.R_away HO_5.out (fun _ hk => hk))); have n1_ := Aside0.mk (hb); have n2_ := Aside0.mk (ho); clear BK109; clear HB; clear HO_5; have BK109 := n0_; have HB := n1_; have HO126 := n2_; clear n0_ n1_ n2_; clear ho hb hg hat)); try go_wp2_with (first | ((with_reducible refine gate_builtin (b := .append) (xs := #[.tmp 38, .tmp 43]) rfl ?_); at_builtin; refine Kd.R_append k34 (w0 := w) w.heap.size rfl (.tmp 38) (.tmp 43) 23 34 (.agg #[(.string ⟨#[]⟩), (.string ⟨#[]⟩)]) 32 rfl Try.underlying23 info34 rfl (by decide) (by omega) u5 x5_1 (⟨(rd_T34 l0 x7_1).f0, (rd_T34 l0 x7_1).f1⟩ : S34) [.string ((rd_T34 l0 x7_1).f0), .string ((rd_T34 l0 x7_1).f1)] (fun k_ => k_ ≠ gb109) (fun _ => False) rfl rfl ?aP (fun _ hk => hk.elim) ?aF ?aO ?aB ?aS ?aL ?_; (case aP => exact k34_mkM _ _ _ (⟨(rd_T34 l0 x7_1).f0, (rd_T34 l0 x7_1).f1⟩ : S34)); (case aB => exact (by repeat (first | (with_reducible first | exact HB.out | apply below_alloc | apply pw_below_drewN | apply below_drew1 | refine below_set ?_ GE109.out) | exact HB.out))); (case aF => exact (fun k_ hk => Kd.freshB (g := gb109) (o := .cells #[.string a1_0, .string a1_1] 34 (0, 0)) (by (with_reducible repeat (first | refine blk_drewN ?_ _ | refine blk_drew ?_ | refine blk_alloc ?_ _)); exact BK109.out) k_ hk)); (case aO => exact (by (with_reducible repeat (first | apply Kd.R_alloc | apply Kd.R_drewN | apply Kd.R_drew)); exact HO_5.out)); (case aS => exact (below_size (by repeat (first | (with_reducible first | exact HB.out | apply below_alloc | apply pw_below_drewN | apply below_drew1 | refine below_set ?_ GE109.out) | exact HB.out)))); (case aL => have := LMc26.out; omega); intro v125 w28 ho hb hg hat; rw [← Ny124.out] at ho; have n0_ := Aside0.mk (blk_grown (g := gb109) (o := .cells #[.string a1_0, .string a1_1] 34 (0, 0)) (by (with_reducible repeat (first | refine blk_drewN ?_ _ | refine blk_drew ?_ | refine blk_alloc ?_ _)); exact BK109.out) hg (Kd.R_away HO_5.out (fun _ hk => hk))); have n1_ := Aside0.mk (hb); have n2_ := Aside0.mk (ho); clear BK109; clear HB; clear HO_5; have BK109 := n0_; have HB := n1_; have HO126 := n2_; clear n0_ n1_ n2_; clear ho hb hg hat)))
                      go_roundg kj4
                      case measure => have := HK1.out; have := HJ4.out; omega
                      case rel => exact ⟨(y124), (x6_1), (wrap64 (x7_1 + 1)), (by first | rfl | (simp; done) | (simp [*]; done) | exact congrArg Value.bool (leq_bytes _ _)), (by first | rfl | (simp; done) | (simp [*]; done) | exact congrArg Value.bool (leq_bytes _ _)), H', ⟨by have := HK1.out; have := HJ4.out; omega⟩, ⟨by (with_reducible repeat (first | apply Kd.R_alloc | apply Kd.R_drewN | apply Kd.R_drew)); exact HO126.out⟩, ⟨by (with_reducible repeat (first | refine blk_drewN ?_ _ | refine blk_drew ?_ | refine blk_alloc ?_ _)); exact BK109.out⟩, ⟨by repeat (first | (with_reducible first | exact HB.out | apply below_alloc | apply pw_below_drewN | apply below_drew1 | refine below_set ?_ GE109.out) | exact HB.out)⟩⟩
                    · rw [if_neg c26] at H
                      exact absurd H (by simp)
                · rw [if_neg c23] at H
                  exact absurd H (by simp)
              · rw [if_neg c22] at H
                exact absurd H (by simp)
      · rw [if_neg c4] at H
        have c4b0 : decide (x7_1 < (l0.length : Int)) = false := decide_eq_false c4
        clear c4
        by_cases c29 : x6_1 = true
        · subst c29
          have H1 : (some x5_1) = some r := by rw [if_pos rfl] at H; exact H
          clear H
          have H := H1
          clear H1
          obtain rfl := Option.some.inj H
          go_wp2
          repeat (go_quiet (fail); try go_wp2)
          go_ret
          exact ⟨_, by first | rfl | (simp [errW_none, errW_some] <;> rfl) | (simp [*, errW_none, errW_some] <;> rfl), by (with_reducible repeat (first | apply Kd.R_alloc | apply Kd.R_drewN | apply Kd.R_drew)); exact Kd.R_mono HO_5.out (fun _ hk => trivial), by repeat (first | (with_reducible first | exact HB.out | apply below_alloc | apply pw_below_drewN | apply below_drew1 | refine below_set ?_ GE109.out) | exact HB.out)⟩
        · replace c29 := Bool.eq_false_iff.mpr c29
          subst c29
          have H1 : (if x5_1.length < 4398046511104 then (some (x5_1 ++ [(⟨a1_0, a1_1⟩ : S34)])) else (none)) = some r := by rw [if_neg (show ¬ (false = true) by decide)] at H; exact H
          clear H
          have H := H1
          clear H1
          by_cases c30 : x5_1.length < 4398046511104
          · rw [if_pos c30] at H
            have LMc30 := Aside0.mk c30
            clear c30
            obtain ⟨y110, hy110⟩ : ∃ y_ : List (S34), y_ = (x5_1 ++ [(⟨a1_0, a1_1⟩ : S34)]) := ⟨_, rfl⟩
            replace H : (some y110) = some r := by first | (rw [hy110]; with_reducible exact H) | (have H2_ := (Option.bind_some _ _).symm.trans H; rw [hy110]; with_reducible exact H2_) | (have H2_ := (Option.bind_some _ _).symm.trans H; with_reducible exact H2_) | with_reducible exact H | (rw [hy110]; exact H) | exact H
            have Ny110 := Aside0.mk hy110
            clear hy110
            obtain rfl := Option.some.inj H
            have hcz31_0 : wr.cell? ⟨gb109, 0, none⟩ = some (.string a1_0) := (blk_cell BK109.out 0).trans rfl
            have hcz31_1 : wr.cell? ⟨gb109, 1, none⟩ = some (.string a1_1) := (blk_cell BK109.out 1).trans rfl
            have hfz31_0 := blk_frozen BK109.out 0
            have hfz31_1 := blk_frozen BK109.out 1
            go_wp2_with (first | ((with_reducible refine gate_builtin (b := .append) (xs := #[.tmp 47, .tmp 49]) rfl ?_); at_builtin; refine Kd.R_append k34 (w0 := w) w.heap.size rfl (.tmp 47) (.tmp 49) 23 34 (.agg #[(.string ⟨#[]⟩), (.string ⟨#[]⟩)]) 32 rfl Try.underlying23 info34 rfl (by decide) (by omega) u5 x5_1 (⟨a1_0, a1_1⟩ : S34) [.string a1_0, .string a1_1] (fun k_ => k_ ≠ gb109) (fun _ => False) rfl rfl ?aP (fun _ hk => hk.elim) ?aF ?aO ?aB ?aS ?aL ?_; (case aP => exact k34_mkM _ _ _ (⟨a1_0, a1_1⟩ : S34)); (case aB => exact (by repeat (first | (with_reducible first | exact HB.out | apply below_alloc | apply pw_below_drewN | apply below_drew1 | refine below_set ?_ GE109.out) | exact HB.out))); (case aF => exact (fun k_ hk => Kd.freshB (g := gb109) (o := .cells #[.string a1_0, .string a1_1] 34 (0, 0)) (by (with_reducible repeat (first | refine blk_drewN ?_ _ | refine blk_drew ?_ | refine blk_alloc ?_ _)); exact BK109.out) k_ hk)); (case aO => exact (by (with_reducible repeat (first | apply Kd.R_alloc | apply Kd.R_drewN | apply Kd.R_drew)); exact HO_5.out)); (case aS => exact (below_size (by repeat (first | (with_reducible first | exact HB.out | apply below_alloc | apply pw_below_drewN | apply below_drew1 | refine below_set ?_ GE109.out) | exact HB.out)))); (case aL => have := LMc30.out; omega); intro v111 w32 ho hb hg hat; rw [← Ny110.out] at ho; have n0_ := Aside0.mk (blk_grown (g := gb109) (o := .cells #[.string a1_0, .string a1_1] 34 (0, 0)) (by (with_reducible repeat (first | refine blk_drewN ?_ _ | refine blk_drew ?_ | refine blk_alloc ?_ _)); exact BK109.out) hg (Kd.R_away HO_5.out (fun _ hk => hk))); have n1_ := Aside0.mk (hb); have n2_ := Aside0.mk (ho); clear BK109; clear HB; clear HO_5; have BK109 := n0_; have HB := n1_; have HO112 := n2_; clear n0_ n1_ n2_; clear ho hb hg hat))
            repeat (go_quiet (first | ((with_reducible refine gate_builtin (b := .append) (xs := #[.tmp 47, .tmp 49]) rfl ?_); at_builtin; refine Kd.R_append k34 (w0 := w) w.heap.size rfl (.tmp 47) (.tmp 49) 23 34 (.agg #[(.string ⟨#[]⟩), (.string ⟨#[]⟩)]) 32 rfl Try.underlying23 info34 rfl (by decide) (by omega) u5 x5_1 (⟨a1_0, a1_1⟩ : S34) [.string a1_0, .string a1_1] (fun k_ => k_ ≠ gb109) (fun _ => False) rfl rfl ?aP (fun _ hk => hk.elim) ?aF ?aO ?aB ?aS ?aL ?_; (case aP => exact k34_mkM _ _ _ (⟨a1_0, a1_1⟩ : S34)); (case aB => exact (by repeat (first | (with_reducible first | exact HB.out | apply below_alloc | apply pw_below_drewN | apply below_drew1 | refine below_set ?_ GE109.out) | exact HB.out))); (case aF => exact (fun k_ hk => Kd.freshB (g := gb109) (o := .cells #[.string a1_0, .string a1_1] 34 (0, 0)) (by (with_reducible repeat (first | refine blk_drewN ?_ _ | refine blk_drew ?_ | refine blk_alloc ?_ _)); exact BK109.out) k_ hk)); (case aO => exact (by (with_reducible repeat (first | apply Kd.R_alloc | apply Kd.R_drewN | apply Kd.R_drew)); exact HO_5.out)); (case aS => exact (below_size (by repeat (first | (with_reducible first | exact HB.out | apply below_alloc | apply pw_below_drewN | apply below_drew1 | refine below_set ?_ GE109.out) | exact HB.out)))); (case aL => have := LMc30.out; omega); intro v111 w32 ho hb hg hat; rw [← Ny110.out] at ho; have n0_ := Aside0.mk (blk_grown (g := gb109) (o := .cells #[.string a1_0, .string a1_1] 34 (0, 0)) (by (with_reducible repeat (first | refine blk_drewN ?_ _ | refine blk_drew ?_ | refine blk_alloc ?_ _)); exact BK109.out) hg (Kd.R_away HO_5.out (fun _ hk => hk))); have n1_ := Aside0.mk (hb); have n2_ := Aside0.mk (ho); clear BK109; clear HB; clear HO_5; have BK109 := n0_; have HB := n1_; have HO112 := n2_; clear n0_ n1_ n2_; clear ho hb hg hat)); try go_wp2_with (first | ((with_reducible refine gate_builtin (b := .append) (xs := #[.tmp 47, .tmp 49]) rfl ?_); at_builtin; refine Kd.R_append k34 (w0 := w) w.heap.size rfl (.tmp 47) (.tmp 49) 23 34 (.agg #[(.string ⟨#[]⟩), (.string ⟨#[]⟩)]) 32 rfl Try.underlying23 info34 rfl (by decide) (by omega) u5 x5_1 (⟨a1_0, a1_1⟩ : S34) [.string a1_0, .string a1_1] (fun k_ => k_ ≠ gb109) (fun _ => False) rfl rfl ?aP (fun _ hk => hk.elim) ?aF ?aO ?aB ?aS ?aL ?_; (case aP => exact k34_mkM _ _ _ (⟨a1_0, a1_1⟩ : S34)); (case aB => exact (by repeat (first | (with_reducible first | exact HB.out | apply below_alloc | apply pw_below_drewN | apply below_drew1 | refine below_set ?_ GE109.out) | exact HB.out))); (case aF => exact (fun k_ hk => Kd.freshB (g := gb109) (o := .cells #[.string a1_0, .string a1_1] 34 (0, 0)) (by (with_reducible repeat (first | refine blk_drewN ?_ _ | refine blk_drew ?_ | refine blk_alloc ?_ _)); exact BK109.out) k_ hk)); (case aO => exact (by (with_reducible repeat (first | apply Kd.R_alloc | apply Kd.R_drewN | apply Kd.R_drew)); exact HO_5.out)); (case aS => exact (below_size (by repeat (first | (with_reducible first | exact HB.out | apply below_alloc | apply pw_below_drewN | apply below_drew1 | refine below_set ?_ GE109.out) | exact HB.out)))); (case aL => have := LMc30.out; omega); intro v111 w32 ho hb hg hat; rw [← Ny110.out] at ho; have n0_ := Aside0.mk (blk_grown (g := gb109) (o := .cells #[.string a1_0, .string a1_1] 34 (0, 0)) (by (with_reducible repeat (first | refine blk_drewN ?_ _ | refine blk_drew ?_ | refine blk_alloc ?_ _)); exact BK109.out) hg (Kd.R_away HO_5.out (fun _ hk => hk))); have n1_ := Aside0.mk (hb); have n2_ := Aside0.mk (ho); clear BK109; clear HB; clear HO_5; have BK109 := n0_; have HB := n1_; have HO112 := n2_; clear n0_ n1_ n2_; clear ho hb hg hat)))
            go_ret
            exact ⟨_, by first | rfl | (simp [errW_none, errW_some] <;> rfl) | (simp [*, errW_none, errW_some] <;> rfl), by (with_reducible repeat (first | apply Kd.R_alloc | apply Kd.R_drewN | apply Kd.R_drew)); exact Kd.R_mono HO112.out (fun _ hk => trivial), by repeat (first | (with_reducible first | exact HB.out | apply below_alloc | apply pw_below_drewN | apply below_drew1 | refine below_set ?_ GE109.out) | exact HB.out)⟩
          · rw [if_neg c30] at H
            exact absurd H (by simp)

-- NOT PRINTED: function 8 (spec_Settings)

/-! ### pq_zzIsSpace: function 31 -/
def pq_zzIsSpace.f (a0 : Int) : Option (Bool) := if a0 = 9 then (some true) else (if a0 = 10 then (some true) else (if a0 = 11 then (some true) else (if a0 = 12 then (some true) else (if a0 = 13 then (some true) else (if a0 = 32 then (some true) else (if a0 = 133 then (some true) else (if a0 = 160 then (some true) else (if a0 = 5760 then (some true) else (if a0 = 8232 then (some true) else (if a0 = 8233 then (some true) else (if a0 = 8239 then (some true) else (if a0 = 8287 then (some true) else (if a0 = 12288 then (some true) else (if a0 ≥ 8192 then (some (decide (a0 ≤ 8202))) else (some false)))))))))))))))
set_option maxHeartbeats 8000000 in
set_option maxRecDepth 100000 in
theorem pq_zzIsSpace.calls (a0 : Int) (r : Bool) (w : World) (h : pq_zzIsSpace.f a0 = some r) :
    Calls Try.prog 31 #[.int .i32 a0] w fun e w' => e = .returned (.bool r) ∧ Drawn0 w w' := by
  have H : (if a0 = 9 then (some true) else (if a0 = 10 then (some true) else (if a0 = 11 then (some true) else (if a0 = 12 then (some true) else (if a0 = 13 then (some true) else (if a0 = 32 then (some true) else (if a0 = 133 then (some true) else (if a0 = 160 then (some true) else (if a0 = 5760 then (some true) else (if a0 = 8232 then (some true) else (if a0 = 8233 then (some true) else (if a0 = 8239 then (some true) else (if a0 = 8287 then (some true) else (if a0 = 12288 then (some true) else (if a0 ≥ 8192 then (some (decide (a0 ≤ 8202))) else (some false)))))))))))))))) = some r := h
  clear h
  by_cases c2 : a0 = 9
  · rw [if_pos c2] at H
    have c2b0 : (a0 == 9) = true := beq_iff_eq.mpr c2
    have c2b1 : (a0 != 9) = false := bne_eq_false_iff_eq.mpr c2
    clear c2
    obtain rfl := Option.some.inj H
    go_enter Try.func31, Try.ntmps31
    go_wp2
    go_ret
    exact ⟨by first | rfl | (simp; done) | (simp [*]; done), by repeat (first | exact Drawn0.refl _ | apply Drawn0.step)⟩
  · rw [if_neg c2] at H
    have c2b0 : (a0 == 9) = false := beq_eq_false_iff_ne.mpr c2
    have c2b1 : (a0 != 9) = true := bne_iff_ne.mpr c2
    by_cases c3 : a0 = 10
    · rw [if_pos c3] at H
      have c3b0 : (a0 == 10) = true := beq_iff_eq.mpr c3
      have c3b1 : (a0 != 10) = false := bne_eq_false_iff_eq.mpr c3
      clear c3
      obtain rfl := Option.some.inj H
      go_enter Try.func31, Try.ntmps31
      go_wp2
      go_ret
      exact ⟨by first | rfl | (simp; done) | (simp [*]; done), by repeat (first | exact Drawn0.refl _ | apply Drawn0.step)⟩
    · rw [if_neg c3] at H
      have c3b0 : (a0 == 10) = false := beq_eq_false_iff_ne.mpr c3
      have c3b1 : (a0 != 10) = true := bne_iff_ne.mpr c3
      by_cases c4 : a0 = 11
      · rw [if_pos c4] at H
        have c4b0 : (a0 == 11) = true := beq_iff_eq.mpr c4
        have c4b1 : (a0 != 11) = false := bne_eq_false_iff_eq.mpr c4
        clear c4
        obtain rfl := Option.some.inj H
        go_enter Try.func31, Try.ntmps31
        go_wp2
        go_ret
        exact ⟨by first | rfl | (simp; done) | (simp [*]; done), by repeat (first | exact Drawn0.refl _ | apply Drawn0.step)⟩
      · rw [if_neg c4] at H
        have c4b0 : (a0 == 11) = false := beq_eq_false_iff_ne.mpr c4
        have c4b1 : (a0 != 11) = true := bne_iff_ne.mpr c4
        by_cases c5 : a0 = 12
        · rw [if_pos c5] at H
          have c5b0 : (a0 == 12) = true := beq_iff_eq.mpr c5
          have c5b1 : (a0 != 12) = false := bne_eq_false_iff_eq.mpr c5
          clear c5
          obtain rfl := Option.some.inj H
          go_enter Try.func31, Try.ntmps31
          go_wp2
          go_ret
          exact ⟨by first | rfl | (simp; done) | (simp [*]; done), by repeat (first | exact Drawn0.refl _ | apply Drawn0.step)⟩
        · rw [if_neg c5] at H
          have c5b0 : (a0 == 12) = false := beq_eq_false_iff_ne.mpr c5
          have c5b1 : (a0 != 12) = true := bne_iff_ne.mpr c5
          by_cases c6 : a0 = 13
          · rw [if_pos c6] at H
            have c6b0 : (a0 == 13) = true := beq_iff_eq.mpr c6
            have c6b1 : (a0 != 13) = false := bne_eq_false_iff_eq.mpr c6
            clear c6
            obtain rfl := Option.some.inj H
            go_enter Try.func31, Try.ntmps31
            go_wp2
            go_ret
            exact ⟨by first | rfl | (simp; done) | (simp [*]; done), by repeat (first | exact Drawn0.refl _ | apply Drawn0.step)⟩
          · rw [if_neg c6] at H
            have c6b0 : (a0 == 13) = false := beq_eq_false_iff_ne.mpr c6
            have c6b1 : (a0 != 13) = true := bne_iff_ne.mpr c6
            by_cases c7 : a0 = 32
            · rw [if_pos c7] at H
              have c7b0 : (a0 == 32) = true := beq_iff_eq.mpr c7
              have c7b1 : (a0 != 32) = false := bne_eq_false_iff_eq.mpr c7
              clear c7
              obtain rfl := Option.some.inj H
              go_enter Try.func31, Try.ntmps31
              go_wp2
              go_ret
              exact ⟨by first | rfl | (simp; done) | (simp [*]; done), by repeat (first | exact Drawn0.refl _ | apply Drawn0.step)⟩
            · rw [if_neg c7] at H
              have c7b0 : (a0 == 32) = false := beq_eq_false_iff_ne.mpr c7
              have c7b1 : (a0 != 32) = true := bne_iff_ne.mpr c7
              by_cases c8 : a0 = 133
              · rw [if_pos c8] at H
                have c8b0 : (a0 == 133) = true := beq_iff_eq.mpr c8
                have c8b1 : (a0 != 133) = false := bne_eq_false_iff_eq.mpr c8
                clear c8
                obtain rfl := Option.some.inj H
                go_enter Try.func31, Try.ntmps31
                go_wp2
                go_ret
                exact ⟨by first | rfl | (simp; done) | (simp [*]; done), by repeat (first | exact Drawn0.refl _ | apply Drawn0.step)⟩
              · rw [if_neg c8] at H
                have c8b0 : (a0 == 133) = false := beq_eq_false_iff_ne.mpr c8
                have c8b1 : (a0 != 133) = true := bne_iff_ne.mpr c8
                by_cases c9 : a0 = 160
                · rw [if_pos c9] at H
                  have c9b0 : (a0 == 160) = true := beq_iff_eq.mpr c9
                  have c9b1 : (a0 != 160) = false := bne_eq_false_iff_eq.mpr c9
                  clear c9
                  obtain rfl := Option.some.inj H
                  go_enter Try.func31, Try.ntmps31
                  go_wp2
                  go_ret
                  exact ⟨by first | rfl | (simp; done) | (simp [*]; done), by repeat (first | exact Drawn0.refl _ | apply Drawn0.step)⟩
                · rw [if_neg c9] at H
                  have c9b0 : (a0 == 160) = false := beq_eq_false_iff_ne.mpr c9
                  have c9b1 : (a0 != 160) = true := bne_iff_ne.mpr c9
                  by_cases c10 : a0 = 5760
                  · rw [if_pos c10] at H
                    have c10b0 : (a0 == 5760) = true := beq_iff_eq.mpr c10
                    have c10b1 : (a0 != 5760) = false := bne_eq_false_iff_eq.mpr c10
                    clear c10
                    obtain rfl := Option.some.inj H
                    go_enter Try.func31, Try.ntmps31
                    go_wp2
                    go_ret
                    exact ⟨by first | rfl | (simp; done) | (simp [*]; done), by repeat (first | exact Drawn0.refl _ | apply Drawn0.step)⟩
                  · rw [if_neg c10] at H
                    have c10b0 : (a0 == 5760) = false := beq_eq_false_iff_ne.mpr c10
                    have c10b1 : (a0 != 5760) = true := bne_iff_ne.mpr c10
                    by_cases c11 : a0 = 8232
                    · rw [if_pos c11] at H
                      have c11b0 : (a0 == 8232) = true := beq_iff_eq.mpr c11
                      have c11b1 : (a0 != 8232) = false := bne_eq_false_iff_eq.mpr c11
                      clear c11
                      obtain rfl := Option.some.inj H
                      go_enter Try.func31, Try.ntmps31
                      go_wp2
                      go_ret
                      exact ⟨by first | rfl | (simp; done) | (simp [*]; done), by repeat (first | exact Drawn0.refl _ | apply Drawn0.step)⟩
                    · rw [if_neg c11] at H
                      have c11b0 : (a0 == 8232) = false := beq_eq_false_iff_ne.mpr c11
                      have c11b1 : (a0 != 8232) = true := bne_iff_ne.mpr c11
                      by_cases c12 : a0 = 8233
                      · rw [if_pos c12] at H
                        have c12b0 : (a0 == 8233) = true := beq_iff_eq.mpr c12
                        have c12b1 : (a0 != 8233) = false := bne_eq_false_iff_eq.mpr c12
                        clear c12
                        obtain rfl := Option.some.inj H
                        go_enter Try.func31, Try.ntmps31
                        go_wp2
                        go_ret
                        exact ⟨by first | rfl | (simp; done) | (simp [*]; done), by repeat (first | exact Drawn0.refl _ | apply Drawn0.step)⟩
                      · rw [if_neg c12] at H
                        have c12b0 : (a0 == 8233) = false := beq_eq_false_iff_ne.mpr c12
                        have c12b1 : (a0 != 8233) = true := bne_iff_ne.mpr c12
                        by_cases c13 : a0 = 8239
                        · rw [if_pos c13] at H
                          have c13b0 : (a0 == 8239) = true := beq_iff_eq.mpr c13
                          have c13b1 : (a0 != 8239) = false := bne_eq_false_iff_eq.mpr c13
                          clear c13
                          obtain rfl := Option.some.inj H
                          go_enter Try.func31, Try.ntmps31
                          go_wp2
                          go_ret
                          exact ⟨by first | rfl | (simp; done) | (simp [*]; done), by repeat (first | exact Drawn0.refl _ | apply Drawn0.step)⟩
                        · rw [if_neg c13] at H
                          have c13b0 : (a0 == 8239) = false := beq_eq_false_iff_ne.mpr c13
                          have c13b1 : (a0 != 8239) = true := bne_iff_ne.mpr c13
                          by_cases c14 : a0 = 8287
                          · rw [if_pos c14] at H
                            have c14b0 : (a0 == 8287) = true := beq_iff_eq.mpr c14
                            have c14b1 : (a0 != 8287) = false := bne_eq_false_iff_eq.mpr c14
                            clear c14
                            obtain rfl := Option.some.inj H
                            go_enter Try.func31, Try.ntmps31
                            go_wp2
                            go_ret
                            exact ⟨by first | rfl | (simp; done) | (simp [*]; done), by repeat (first | exact Drawn0.refl _ | apply Drawn0.step)⟩
                          · rw [if_neg c14] at H
                            have c14b0 : (a0 == 8287) = false := beq_eq_false_iff_ne.mpr c14
                            have c14b1 : (a0 != 8287) = true := bne_iff_ne.mpr c14
                            by_cases c15 : a0 = 12288
                            · rw [if_pos c15] at H
                              have c15b0 : (a0 == 12288) = true := beq_iff_eq.mpr c15
                              have c15b1 : (a0 != 12288) = false := bne_eq_false_iff_eq.mpr c15
                              clear c15
                              obtain rfl := Option.some.inj H
                              go_enter Try.func31, Try.ntmps31
                              go_wp2
                              go_ret
                              exact ⟨by first | rfl | (simp; done) | (simp [*]; done), by repeat (first | exact Drawn0.refl _ | apply Drawn0.step)⟩
                            · rw [if_neg c15] at H
                              have c15b0 : (a0 == 12288) = false := beq_eq_false_iff_ne.mpr c15
                              have c15b1 : (a0 != 12288) = true := bne_iff_ne.mpr c15
                              by_cases c16 : a0 ≥ 8192
                              · rw [if_pos c16] at H
                                have c16b0 : decide (8192 ≤ a0) = true := decide_eq_true c16
                                clear c16
                                obtain rfl := Option.some.inj H
                                go_enter Try.func31, Try.ntmps31
                                go_wp2
                                go_ret
                                exact ⟨by first | rfl | (simp; done) | (simp [*]; done), by repeat (first | exact Drawn0.refl _ | apply Drawn0.step)⟩
                              · rw [if_neg c16] at H
                                have c16b0 : decide (8192 ≤ a0) = false := decide_eq_false c16
                                clear c16
                                obtain rfl := Option.some.inj H
                                go_enter Try.func31, Try.ntmps31
                                go_wp2
                                go_ret
                                exact ⟨by first | rfl | (simp; done) | (simp [*]; done), by repeat (first | exact Drawn0.refl _ | apply Drawn0.step)⟩

/-! ### errors_New: function 32 -/
def errors_New.f (a0 : ByteArray) : Option (Option Int) := none
set_option maxHeartbeats 8000000 in
set_option maxRecDepth 100000 in
theorem errors_New.calls (a0 : ByteArray) (r : Option Int) (w : World) (h : errors_New.f a0 = some r) :
    Calls Try.prog 32 #[.string a0] w fun e w' => e = .returned (errW r) ∧ Below w.heap.size w w' := by
  have hu74 := Try.underlying74
  have hu45 := Try.underlying45
  have HB := Aside0.mk (Below.refl w.heap.size w)
  have H : (none) = some r := h
  clear h
  exact absurd H (by simp)

-- NOT PRINTED: function 26 (pq_fromDSN)

-- NOT PRINTED: function 21 (pq_FromDSN)

-- NOT PRINTED: function 33 (reflectlite_ValueOf)

-- NOT PRINTED: function 34 (reflectlite_Swapper)

-- NOT PRINTED: function 35 (reflectlite_Value_Len)

/-! ### bits_Len32: function 47 -/
def bits_Len32.f (a0 : Int) : Option (Int) := if a0 ≥ 65536 then (if (a0 / 65536) ≥ 256 then (if 0 ≤ (((a0 / 65536) / 256) % 256) then (if (((a0 / 65536) / 256) % 256) < 256 then (some (wrap64 ((16 + 8) + (wrap64 (bt (⟨#[0, 1, 2, 2, 3, 3, 3, 3, 4, 4, 4, 4, 4, 4, 4, 4, 5, 5, 5, 5, 5, 5, 5, 5, 5, 5, 5, 5, 5, 5, 5, 5, 6, 6, 6, 6, 6, 6, 6, 6, 6, 6, 6, 6, 6, 6, 6, 6, 6, 6, 6, 6, 6, 6, 6, 6, 6, 6, 6, 6, 6, 6, 6, 6, 7, 7, 7, 7, 7, 7, 7, 7, 7, 7, 7, 7, 7, 7, 7, 7, 7, 7, 7, 7, 7, 7, 7, 7, 7, 7, 7, 7, 7, 7, 7, 7, 7, 7, 7, 7, 7, 7, 7, 7, 7, 7, 7, 7, 7, 7, 7, 7, 7, 7, 7, 7, 7, 7, 7, 7, 7, 7, 7, 7, 7, 7, 7, 7, 8, 8, 8, 8, 8, 8, 8, 8, 8, 8, 8, 8, 8, 8, 8, 8, 8, 8, 8, 8, 8, 8, 8, 8, 8, 8, 8, 8, 8, 8, 8, 8, 8, 8, 8, 8, 8, 8, 8, 8, 8, 8, 8, 8, 8, 8, 8, 8, 8, 8, 8, 8, 8, 8, 8, 8, 8, 8, 8, 8, 8, 8, 8, 8, 8, 8, 8, 8, 8, 8, 8, 8, 8, 8, 8, 8, 8, 8, 8, 8, 8, 8, 8, 8, 8, 8, 8, 8, 8, 8, 8, 8, 8, 8, 8, 8, 8, 8, 8, 8, 8, 8, 8, 8, 8, 8, 8, 8, 8, 8, 8, 8, 8, 8, 8, 8, 8, 8, 8, 8, 8, 8, 8, 8, 8, 8, 8, 8]⟩ : ByteArray) (((a0 / 65536) / 256) % 256)))))) else (none)) else (none)) else (if 0 ≤ ((a0 / 65536) % 256) then (if ((a0 / 65536) % 256) < 256 then (some (wrap64 (16 + (wrap64 (bt (⟨#[0, 1, 2, 2, 3, 3, 3, 3, 4, 4, 4, 4, 4, 4, 4, 4, 5, 5, 5, 5, 5, 5, 5, 5, 5, 5, 5, 5, 5, 5, 5, 5, 6, 6, 6, 6, 6, 6, 6, 6, 6, 6, 6, 6, 6, 6, 6, 6, 6, 6, 6, 6, 6, 6, 6, 6, 6, 6, 6, 6, 6, 6, 6, 6, 7, 7, 7, 7, 7, 7, 7, 7, 7, 7, 7, 7, 7, 7, 7, 7, 7, 7, 7, 7, 7, 7, 7, 7, 7, 7, 7, 7, 7, 7, 7, 7, 7, 7, 7, 7, 7, 7, 7, 7, 7, 7, 7, 7, 7, 7, 7, 7, 7, 7, 7, 7, 7, 7, 7, 7, 7, 7, 7, 7, 7, 7, 7, 7, 8, 8, 8, 8, 8, 8, 8, 8, 8, 8, 8, 8, 8, 8, 8, 8, 8, 8, 8, 8, 8, 8, 8, 8, 8, 8, 8, 8, 8, 8, 8, 8, 8, 8, 8, 8, 8, 8, 8, 8, 8, 8, 8, 8, 8, 8, 8, 8, 8, 8, 8, 8, 8, 8, 8, 8, 8, 8, 8, 8, 8, 8, 8, 8, 8, 8, 8, 8, 8, 8, 8, 8, 8, 8, 8, 8, 8, 8, 8, 8, 8, 8, 8, 8, 8, 8, 8, 8, 8, 8, 8, 8, 8, 8, 8, 8, 8, 8, 8, 8, 8, 8, 8, 8, 8, 8, 8, 8, 8, 8, 8, 8, 8, 8, 8, 8, 8, 8, 8, 8, 8, 8, 8, 8, 8, 8, 8, 8]⟩ : ByteArray) ((a0 / 65536) % 256)))))) else (none)) else (none))) else (if a0 ≥ 256 then (if 0 ≤ ((a0 / 256) % 256) then (if ((a0 / 256) % 256) < 256 then (some (wrap64 ((0 + 8) + (wrap64 (bt (⟨#[0, 1, 2, 2, 3, 3, 3, 3, 4, 4, 4, 4, 4, 4, 4, 4, 5, 5, 5, 5, 5, 5, 5, 5, 5, 5, 5, 5, 5, 5, 5, 5, 6, 6, 6, 6, 6, 6, 6, 6, 6, 6, 6, 6, 6, 6, 6, 6, 6, 6, 6, 6, 6, 6, 6, 6, 6, 6, 6, 6, 6, 6, 6, 6, 7, 7, 7, 7, 7, 7, 7, 7, 7, 7, 7, 7, 7, 7, 7, 7, 7, 7, 7, 7, 7, 7, 7, 7, 7, 7, 7, 7, 7, 7, 7, 7, 7, 7, 7, 7, 7, 7, 7, 7, 7, 7, 7, 7, 7, 7, 7, 7, 7, 7, 7, 7, 7, 7, 7, 7, 7, 7, 7, 7, 7, 7, 7, 7, 8, 8, 8, 8, 8, 8, 8, 8, 8, 8, 8, 8, 8, 8, 8, 8, 8, 8, 8, 8, 8, 8, 8, 8, 8, 8, 8, 8, 8, 8, 8, 8, 8, 8, 8, 8, 8, 8, 8, 8, 8, 8, 8, 8, 8, 8, 8, 8, 8, 8, 8, 8, 8, 8, 8, 8, 8, 8, 8, 8, 8, 8, 8, 8, 8, 8, 8, 8, 8, 8, 8, 8, 8, 8, 8, 8, 8, 8, 8, 8, 8, 8, 8, 8, 8, 8, 8, 8, 8, 8, 8, 8, 8, 8, 8, 8, 8, 8, 8, 8, 8, 8, 8, 8, 8, 8, 8, 8, 8, 8, 8, 8, 8, 8, 8, 8, 8, 8, 8, 8, 8, 8, 8, 8, 8, 8, 8, 8]⟩ : ByteArray) ((a0 / 256) % 256)))))) else (none)) else (none)) else (if 0 ≤ ((a0) % 256) then (if ((a0) % 256) < 256 then (some (wrap64 (0 + (wrap64 (bt (⟨#[0, 1, 2, 2, 3, 3, 3, 3, 4, 4, 4, 4, 4, 4, 4, 4, 5, 5, 5, 5, 5, 5, 5, 5, 5, 5, 5, 5, 5, 5, 5, 5, 6, 6, 6, 6, 6, 6, 6, 6, 6, 6, 6, 6, 6, 6, 6, 6, 6, 6, 6, 6, 6, 6, 6, 6, 6, 6, 6, 6, 6, 6, 6, 6, 7, 7, 7, 7, 7, 7, 7, 7, 7, 7, 7, 7, 7, 7, 7, 7, 7, 7, 7, 7, 7, 7, 7, 7, 7, 7, 7, 7, 7, 7, 7, 7, 7, 7, 7, 7, 7, 7, 7, 7, 7, 7, 7, 7, 7, 7, 7, 7, 7, 7, 7, 7, 7, 7, 7, 7, 7, 7, 7, 7, 7, 7, 7, 7, 8, 8, 8, 8, 8, 8, 8, 8, 8, 8, 8, 8, 8, 8, 8, 8, 8, 8, 8, 8, 8, 8, 8, 8, 8, 8, 8, 8, 8, 8, 8, 8, 8, 8, 8, 8, 8, 8, 8, 8, 8, 8, 8, 8, 8, 8, 8, 8, 8, 8, 8, 8, 8, 8, 8, 8, 8, 8, 8, 8, 8, 8, 8, 8, 8, 8, 8, 8, 8, 8, 8, 8, 8, 8, 8, 8, 8, 8, 8, 8, 8, 8, 8, 8, 8, 8, 8, 8, 8, 8, 8, 8, 8, 8, 8, 8, 8, 8, 8, 8, 8, 8, 8, 8, 8, 8, 8, 8, 8, 8, 8, 8, 8, 8, 8, 8, 8, 8, 8, 8, 8, 8, 8, 8, 8, 8, 8, 8]⟩ : ByteArray) ((a0) % 256)))))) else (none)) else (none)))
set_option maxHeartbeats 8000000 in
set_option maxRecDepth 100000 in
theorem bits_Len32.calls (a0 : Int) (r : Int) (w : World) (h : bits_Len32.f a0 = some r) :
    Calls Try.prog 47 #[.int .u32 a0] w fun e w' => e = .returned (.int .i64 r) ∧ Drawn0 w w' := by
  have H : (if a0 ≥ 65536 then (if (a0 / 65536) ≥ 256 then (if 0 ≤ (((a0 / 65536) / 256) % 256) then (if (((a0 / 65536) / 256) % 256) < 256 then (some (wrap64 ((16 + 8) + (wrap64 (bt (⟨#[0, 1, 2, 2, 3, 3, 3, 3, 4, 4, 4, 4, 4, 4, 4, 4, 5, 5, 5, 5, 5, 5, 5, 5, 5, 5, 5, 5, 5, 5, 5, 5, 6, 6, 6, 6, 6, 6, 6, 6, 6, 6, 6, 6, 6, 6, 6, 6, 6, 6, 6, 6, 6, 6, 6, 6, 6, 6, 6, 6, 6, 6, 6, 6, 7, 7, 7, 7, 7, 7, 7, 7, 7, 7, 7, 7, 7, 7, 7, 7, 7, 7, 7, 7, 7, 7, 7, 7, 7, 7, 7, 7, 7, 7, 7, 7, 7, 7, 7, 7, 7, 7, 7, 7, 7, 7, 7, 7, 7, 7, 7, 7, 7, 7, 7, 7, 7, 7, 7, 7, 7, 7, 7, 7, 7, 7, 7, 7, 8, 8, 8, 8, 8, 8, 8, 8, 8, 8, 8, 8, 8, 8, 8, 8, 8, 8, 8, 8, 8, 8, 8, 8, 8, 8, 8, 8, 8, 8, 8, 8, 8, 8, 8, 8, 8, 8, 8, 8, 8, 8, 8, 8, 8, 8, 8, 8, 8, 8, 8, 8, 8, 8, 8, 8, 8, 8, 8, 8, 8, 8, 8, 8, 8, 8, 8, 8, 8, 8, 8, 8, 8, 8, 8, 8, 8, 8, 8, 8, 8, 8, 8, 8, 8, 8, 8, 8, 8, 8, 8, 8, 8, 8, 8, 8, 8, 8, 8, 8, 8, 8, 8, 8, 8, 8, 8, 8, 8, 8, 8, 8, 8, 8, 8, 8, 8, 8, 8, 8, 8, 8, 8, 8, 8, 8, 8, 8]⟩ : ByteArray) (((a0 / 65536) / 256) % 256)))))) else (none)) else (none)) else (if 0 ≤ ((a0 / 65536) % 256) then (if ((a0 / 65536) % 256) < 256 then (some (wrap64 (16 + (wrap64 (bt (⟨#[0, 1, 2, 2, 3, 3, 3, 3, 4, 4, 4, 4, 4, 4, 4, 4, 5, 5, 5, 5, 5, 5, 5, 5, 5, 5, 5, 5, 5, 5, 5, 5, 6, 6, 6, 6, 6, 6, 6, 6, 6, 6, 6, 6, 6, 6, 6, 6, 6, 6, 6, 6, 6, 6, 6, 6, 6, 6, 6, 6, 6, 6, 6, 6, 7, 7, 7, 7, 7, 7, 7, 7, 7, 7, 7, 7, 7, 7, 7, 7, 7, 7, 7, 7, 7, 7, 7, 7, 7, 7, 7, 7, 7, 7, 7, 7, 7, 7, 7, 7, 7, 7, 7, 7, 7, 7, 7, 7, 7, 7, 7, 7, 7, 7, 7, 7, 7, 7, 7, 7, 7, 7, 7, 7, 7, 7, 7, 7, 8, 8, 8, 8, 8, 8, 8, 8, 8, 8, 8, 8, 8, 8, 8, 8, 8, 8, 8, 8, 8, 8, 8, 8, 8, 8, 8, 8, 8, 8, 8, 8, 8, 8, 8, 8, 8, 8, 8, 8, 8, 8, 8, 8, 8, 8, 8, 8, 8, 8, 8, 8, 8, 8, 8, 8, 8, 8, 8, 8, 8, 8, 8, 8, 8, 8, 8, 8, 8, 8, 8, 8, 8, 8, 8, 8, 8, 8, 8, 8, 8, 8, 8, 8, 8, 8, 8, 8, 8, 8, 8, 8, 8, 8, 8, 8, 8, 8, 8, 8, 8, 8, 8, 8, 8, 8, 8, 8, 8, 8, 8, 8, 8, 8, 8, 8, 8, 8, 8, 8, 8, 8, 8, 8, 8, 8, 8, 8]⟩ : ByteArray) ((a0 / 65536) % 256)))))) else (none)) else (none))) else (if a0 ≥ 256 then (if 0 ≤ ((a0 / 256) % 256) then (if ((a0 / 256) % 256) < 256 then (some (wrap64 ((0 + 8) + (wrap64 (bt (⟨#[0, 1, 2, 2, 3, 3, 3, 3, 4, 4, 4, 4, 4, 4, 4, 4, 5, 5, 5, 5, 5, 5, 5, 5, 5, 5, 5, 5, 5, 5, 5, 5, 6, 6, 6, 6, 6, 6, 6, 6, 6, 6, 6, 6, 6, 6, 6, 6, 6, 6, 6, 6, 6, 6, 6, 6, 6, 6, 6, 6, 6, 6, 6, 6, 7, 7, 7, 7, 7, 7, 7, 7, 7, 7, 7, 7, 7, 7, 7, 7, 7, 7, 7, 7, 7, 7, 7, 7, 7, 7, 7, 7, 7, 7, 7, 7, 7, 7, 7, 7, 7, 7, 7, 7, 7, 7, 7, 7, 7, 7, 7, 7, 7, 7, 7, 7, 7, 7, 7, 7, 7, 7, 7, 7, 7, 7, 7, 7, 8, 8, 8, 8, 8, 8, 8, 8, 8, 8, 8, 8, 8, 8, 8, 8, 8, 8, 8, 8, 8, 8, 8, 8, 8, 8, 8, 8, 8, 8, 8, 8, 8, 8, 8, 8, 8, 8, 8, 8, 8, 8, 8, 8, 8, 8, 8, 8, 8, 8, 8, 8, 8, 8, 8, 8, 8, 8, 8, 8, 8, 8, 8, 8, 8, 8, 8, 8, 8, 8, 8, 8, 8, 8, 8, 8, 8, 8, 8, 8, 8, 8, 8, 8, 8, 8, 8, 8, 8, 8, 8, 8, 8, 8, 8, 8, 8, 8, 8, 8, 8, 8, 8, 8, 8, 8, 8, 8, 8, 8, 8, 8, 8, 8, 8, 8, 8, 8, 8, 8, 8, 8, 8, 8, 8, 8, 8, 8]⟩ : ByteArray) ((a0 / 256) % 256)))))) else (none)) else (none)) else (if 0 ≤ ((a0) % 256) then (if ((a0) % 256) < 256 then (some (wrap64 (0 + (wrap64 (bt (⟨#[0, 1, 2, 2, 3, 3, 3, 3, 4, 4, 4, 4, 4, 4, 4, 4, 5, 5, 5, 5, 5, 5, 5, 5, 5, 5, 5, 5, 5, 5, 5, 5, 6, 6, 6, 6, 6, 6, 6, 6, 6, 6, 6, 6, 6, 6, 6, 6, 6, 6, 6, 6, 6, 6, 6, 6, 6, 6, 6, 6, 6, 6, 6, 6, 7, 7, 7, 7, 7, 7, 7, 7, 7, 7, 7, 7, 7, 7, 7, 7, 7, 7, 7, 7, 7, 7, 7, 7, 7, 7, 7, 7, 7, 7, 7, 7, 7, 7, 7, 7, 7, 7, 7, 7, 7, 7, 7, 7, 7, 7, 7, 7, 7, 7, 7, 7, 7, 7, 7, 7, 7, 7, 7, 7, 7, 7, 7, 7, 8, 8, 8, 8, 8, 8, 8, 8, 8, 8, 8, 8, 8, 8, 8, 8, 8, 8, 8, 8, 8, 8, 8, 8, 8, 8, 8, 8, 8, 8, 8, 8, 8, 8, 8, 8, 8, 8, 8, 8, 8, 8, 8, 8, 8, 8, 8, 8, 8, 8, 8, 8, 8, 8, 8, 8, 8, 8, 8, 8, 8, 8, 8, 8, 8, 8, 8, 8, 8, 8, 8, 8, 8, 8, 8, 8, 8, 8, 8, 8, 8, 8, 8, 8, 8, 8, 8, 8, 8, 8, 8, 8, 8, 8, 8, 8, 8, 8, 8, 8, 8, 8, 8, 8, 8, 8, 8, 8, 8, 8, 8, 8, 8, 8, 8, 8, 8, 8, 8, 8, 8, 8, 8, 8, 8, 8, 8, 8]⟩ : ByteArray) ((a0) % 256)))))) else (none)) else (none)))) = some r := h
  clear h
  by_cases c2 : a0 ≥ 65536
  · rw [if_pos c2] at H
    have c2b0 : decide (65536 ≤ a0) = true := decide_eq_true c2
    clear c2
    by_cases c3 : (a0 / 65536) ≥ 256
    · rw [if_pos c3] at H
      have c3b0 : decide (256 ≤ (a0 / 65536)) = true := decide_eq_true c3
      clear c3
      obtain ⟨ji4, hji4⟩ : ∃ j_ : Int, (((a0 / 65536) / 256) % 256) = j_ := ⟨_, rfl⟩
      replace H : (if 0 ≤ (ji4) then (if (ji4) < 256 then (some (wrap64 ((16 + 8) + (wrap64 (bt (⟨#[0, 1, 2, 2, 3, 3, 3, 3, 4, 4, 4, 4, 4, 4, 4, 4, 5, 5, 5, 5, 5, 5, 5, 5, 5, 5, 5, 5, 5, 5, 5, 5, 6, 6, 6, 6, 6, 6, 6, 6, 6, 6, 6, 6, 6, 6, 6, 6, 6, 6, 6, 6, 6, 6, 6, 6, 6, 6, 6, 6, 6, 6, 6, 6, 7, 7, 7, 7, 7, 7, 7, 7, 7, 7, 7, 7, 7, 7, 7, 7, 7, 7, 7, 7, 7, 7, 7, 7, 7, 7, 7, 7, 7, 7, 7, 7, 7, 7, 7, 7, 7, 7, 7, 7, 7, 7, 7, 7, 7, 7, 7, 7, 7, 7, 7, 7, 7, 7, 7, 7, 7, 7, 7, 7, 7, 7, 7, 7, 8, 8, 8, 8, 8, 8, 8, 8, 8, 8, 8, 8, 8, 8, 8, 8, 8, 8, 8, 8, 8, 8, 8, 8, 8, 8, 8, 8, 8, 8, 8, 8, 8, 8, 8, 8, 8, 8, 8, 8, 8, 8, 8, 8, 8, 8, 8, 8, 8, 8, 8, 8, 8, 8, 8, 8, 8, 8, 8, 8, 8, 8, 8, 8, 8, 8, 8, 8, 8, 8, 8, 8, 8, 8, 8, 8, 8, 8, 8, 8, 8, 8, 8, 8, 8, 8, 8, 8, 8, 8, 8, 8, 8, 8, 8, 8, 8, 8, 8, 8, 8, 8, 8, 8, 8, 8, 8, 8, 8, 8, 8, 8, 8, 8, 8, 8, 8, 8, 8, 8, 8, 8, 8, 8, 8, 8, 8, 8]⟩ : ByteArray) (ji4)))))) else (none)) else (none)) = some r := by first | (rw [hji4] at H; exact H) | (simp only [hji4] at H ⊢; exact H)
      by_cases c5 : 0 ≤ (ji4)
      · rw [if_pos c5] at H
        have c5b0 : decide (0 ≤ (ji4)) = true := decide_eq_true c5
        clear c5
        by_cases c6 : (ji4) < 256
        · rw [if_pos c6] at H
          have c6b0 : decide ((ji4) < 256) = true := decide_eq_true c6
          clear c6
          obtain rfl := Option.some.inj H
          have p7 : 0 ≤ ((ji4) : Int) := of_decide_eq_true (by first | (with_reducible assumption) | assumption)
          have q7 : (ji4) < (256 : Int) := of_decide_eq_true (by first | (with_reducible assumption) | assumption)
          have hx7 := bt_at (⟨#[0, 1, 2, 2, 3, 3, 3, 3, 4, 4, 4, 4, 4, 4, 4, 4, 5, 5, 5, 5, 5, 5, 5, 5, 5, 5, 5, 5, 5, 5, 5, 5, 6, 6, 6, 6, 6, 6, 6, 6, 6, 6, 6, 6, 6, 6, 6, 6, 6, 6, 6, 6, 6, 6, 6, 6, 6, 6, 6, 6, 6, 6, 6, 6, 7, 7, 7, 7, 7, 7, 7, 7, 7, 7, 7, 7, 7, 7, 7, 7, 7, 7, 7, 7, 7, 7, 7, 7, 7, 7, 7, 7, 7, 7, 7, 7, 7, 7, 7, 7, 7, 7, 7, 7, 7, 7, 7, 7, 7, 7, 7, 7, 7, 7, 7, 7, 7, 7, 7, 7, 7, 7, 7, 7, 7, 7, 7, 7, 8, 8, 8, 8, 8, 8, 8, 8, 8, 8, 8, 8, 8, 8, 8, 8, 8, 8, 8, 8, 8, 8, 8, 8, 8, 8, 8, 8, 8, 8, 8, 8, 8, 8, 8, 8, 8, 8, 8, 8, 8, 8, 8, 8, 8, 8, 8, 8, 8, 8, 8, 8, 8, 8, 8, 8, 8, 8, 8, 8, 8, 8, 8, 8, 8, 8, 8, 8, 8, 8, 8, 8, 8, 8, 8, 8, 8, 8, 8, 8, 8, 8, 8, 8, 8, 8, 8, 8, 8, 8, 8, 8, 8, 8, 8, 8, 8, 8, 8, 8, 8, 8, 8, 8, 8, 8, 8, 8, 8, 8, 8, 8, 8, 8, 8, 8, 8, 8, 8, 8, 8, 8, 8, 8, 8, 8, 8, 8]⟩ : ByteArray) (ji4)
          replace p7 := eq_true p7
          replace q7 := eq_true q7
          go_enter Try.func47, Try.ntmps47
          go_wp2
          go_ret
          exact ⟨by first | rfl | (simp; done) | (simp only [← hji4] <;> (first | rfl | simp)) | (simp [*]; done), by repeat (first | exact Drawn0.refl _ | apply Drawn0.step)⟩
        · rw [if_neg c6] at H
          exact absurd H (by simp)
      · rw [if_neg c5] at H
        exact absurd H (by simp)
    · rw [if_neg c3] at H
      have c3b0 : decide (256 ≤ (a0 / 65536)) = false := decide_eq_false c3
      clear c3
      obtain ⟨ji8, hji8⟩ : ∃ j_ : Int, ((a0 / 65536) % 256) = j_ := ⟨_, rfl⟩
      replace H : (if 0 ≤ (ji8) then (if (ji8) < 256 then (some (wrap64 (16 + (wrap64 (bt (⟨#[0, 1, 2, 2, 3, 3, 3, 3, 4, 4, 4, 4, 4, 4, 4, 4, 5, 5, 5, 5, 5, 5, 5, 5, 5, 5, 5, 5, 5, 5, 5, 5, 6, 6, 6, 6, 6, 6, 6, 6, 6, 6, 6, 6, 6, 6, 6, 6, 6, 6, 6, 6, 6, 6, 6, 6, 6, 6, 6, 6, 6, 6, 6, 6, 7, 7, 7, 7, 7, 7, 7, 7, 7, 7, 7, 7, 7, 7, 7, 7, 7, 7, 7, 7, 7, 7, 7, 7, 7, 7, 7, 7, 7, 7, 7, 7, 7, 7, 7, 7, 7, 7, 7, 7, 7, 7, 7, 7, 7, 7, 7, 7, 7, 7, 7, 7, 7, 7, 7, 7, 7, 7, 7, 7, 7, 7, 7, 7, 8, 8, 8, 8, 8, 8, 8, 8, 8, 8, 8, 8, 8, 8, 8, 8, 8, 8, 8, 8, 8, 8, 8, 8, 8, 8, 8, 8, 8, 8, 8, 8, 8, 8, 8, 8, 8, 8, 8, 8, 8, 8, 8, 8, 8, 8, 8, 8, 8, 8, 8, 8, 8, 8, 8, 8, 8, 8, 8, 8, 8, 8, 8, 8, 8, 8, 8, 8, 8, 8, 8, 8, 8, 8, 8, 8, 8, 8, 8, 8, 8, 8, 8, 8, 8, 8, 8, 8, 8, 8, 8, 8, 8, 8, 8, 8, 8, 8, 8, 8, 8, 8, 8, 8, 8, 8, 8, 8, 8, 8, 8, 8, 8, 8, 8, 8, 8, 8, 8, 8, 8, 8, 8, 8, 8, 8, 8, 8]⟩ : ByteArray) (ji8)))))) else (none)) else (none)) = some r := by first | (rw [hji8] at H; exact H) | (simp only [hji8] at H ⊢; exact H)
      by_cases c9 : 0 ≤ (ji8)
      · rw [if_pos c9] at H
        have c9b0 : decide (0 ≤ (ji8)) = true := decide_eq_true c9
        clear c9
        by_cases c10 : (ji8) < 256
        · rw [if_pos c10] at H
          have c10b0 : decide ((ji8) < 256) = true := decide_eq_true c10
          clear c10
          obtain rfl := Option.some.inj H
          have p11 : 0 ≤ ((ji8) : Int) := of_decide_eq_true (by first | (with_reducible assumption) | assumption)
          have q11 : (ji8) < (256 : Int) := of_decide_eq_true (by first | (with_reducible assumption) | assumption)
          have hx11 := bt_at (⟨#[0, 1, 2, 2, 3, 3, 3, 3, 4, 4, 4, 4, 4, 4, 4, 4, 5, 5, 5, 5, 5, 5, 5, 5, 5, 5, 5, 5, 5, 5, 5, 5, 6, 6, 6, 6, 6, 6, 6, 6, 6, 6, 6, 6, 6, 6, 6, 6, 6, 6, 6, 6, 6, 6, 6, 6, 6, 6, 6, 6, 6, 6, 6, 6, 7, 7, 7, 7, 7, 7, 7, 7, 7, 7, 7, 7, 7, 7, 7, 7, 7, 7, 7, 7, 7, 7, 7, 7, 7, 7, 7, 7, 7, 7, 7, 7, 7, 7, 7, 7, 7, 7, 7, 7, 7, 7, 7, 7, 7, 7, 7, 7, 7, 7, 7, 7, 7, 7, 7, 7, 7, 7, 7, 7, 7, 7, 7, 7, 8, 8, 8, 8, 8, 8, 8, 8, 8, 8, 8, 8, 8, 8, 8, 8, 8, 8, 8, 8, 8, 8, 8, 8, 8, 8, 8, 8, 8, 8, 8, 8, 8, 8, 8, 8, 8, 8, 8, 8, 8, 8, 8, 8, 8, 8, 8, 8, 8, 8, 8, 8, 8, 8, 8, 8, 8, 8, 8, 8, 8, 8, 8, 8, 8, 8, 8, 8, 8, 8, 8, 8, 8, 8, 8, 8, 8, 8, 8, 8, 8, 8, 8, 8, 8, 8, 8, 8, 8, 8, 8, 8, 8, 8, 8, 8, 8, 8, 8, 8, 8, 8, 8, 8, 8, 8, 8, 8, 8, 8, 8, 8, 8, 8, 8, 8, 8, 8, 8, 8, 8, 8, 8, 8, 8, 8, 8, 8]⟩ : ByteArray) (ji8)
          replace p11 := eq_true p11
          replace q11 := eq_true q11
          go_enter Try.func47, Try.ntmps47
          go_wp2
          go_ret
          exact ⟨by first | rfl | (simp; done) | (simp only [← hji8] <;> (first | rfl | simp)) | (simp [*]; done), by repeat (first | exact Drawn0.refl _ | apply Drawn0.step)⟩
        · rw [if_neg c10] at H
          exact absurd H (by simp)
      · rw [if_neg c9] at H
        exact absurd H (by simp)
  · rw [if_neg c2] at H
    have c2b0 : decide (65536 ≤ a0) = false := decide_eq_false c2
    clear c2
    by_cases c12 : a0 ≥ 256
    · rw [if_pos c12] at H
      have c12b0 : decide (256 ≤ a0) = true := decide_eq_true c12
      clear c12
      obtain ⟨ji13, hji13⟩ : ∃ j_ : Int, ((a0 / 256) % 256) = j_ := ⟨_, rfl⟩
      replace H : (if 0 ≤ (ji13) then (if (ji13) < 256 then (some (wrap64 ((0 + 8) + (wrap64 (bt (⟨#[0, 1, 2, 2, 3, 3, 3, 3, 4, 4, 4, 4, 4, 4, 4, 4, 5, 5, 5, 5, 5, 5, 5, 5, 5, 5, 5, 5, 5, 5, 5, 5, 6, 6, 6, 6, 6, 6, 6, 6, 6, 6, 6, 6, 6, 6, 6, 6, 6, 6, 6, 6, 6, 6, 6, 6, 6, 6, 6, 6, 6, 6, 6, 6, 7, 7, 7, 7, 7, 7, 7, 7, 7, 7, 7, 7, 7, 7, 7, 7, 7, 7, 7, 7, 7, 7, 7, 7, 7, 7, 7, 7, 7, 7, 7, 7, 7, 7, 7, 7, 7, 7, 7, 7, 7, 7, 7, 7, 7, 7, 7, 7, 7, 7, 7, 7, 7, 7, 7, 7, 7, 7, 7, 7, 7, 7, 7, 7, 8, 8, 8, 8, 8, 8, 8, 8, 8, 8, 8, 8, 8, 8, 8, 8, 8, 8, 8, 8, 8, 8, 8, 8, 8, 8, 8, 8, 8, 8, 8, 8, 8, 8, 8, 8, 8, 8, 8, 8, 8, 8, 8, 8, 8, 8, 8, 8, 8, 8, 8, 8, 8, 8, 8, 8, 8, 8, 8, 8, 8, 8, 8, 8, 8, 8, 8, 8, 8, 8, 8, 8, 8, 8, 8, 8, 8, 8, 8, 8, 8, 8, 8, 8, 8, 8, 8, 8, 8, 8, 8, 8, 8, 8, 8, 8, 8, 8, 8, 8, 8, 8, 8, 8, 8, 8, 8, 8, 8, 8, 8, 8, 8, 8, 8, 8, 8, 8, 8, 8, 8, 8, 8, 8, 8, 8, 8, 8]⟩ : ByteArray) (ji13)))))) else (none)) else (none)) = some r := by first | (rw [hji13] at H; exact H) | (simp only [hji13] at H ⊢; exact H)
      by_cases c14 : 0 ≤ (ji13)
      · rw [if_pos c14] at H
        have c14b0 : decide (0 ≤ (ji13)) = true := decide_eq_true c14
        clear c14
        by_cases c15 : (ji13) < 256
        · rw [if_pos c15] at H
          have c15b0 : decide ((ji13) < 256) = true := decide_eq_true c15
          clear c15
          obtain rfl := Option.some.inj H
          have p16 : 0 ≤ ((ji13) : Int) := of_decide_eq_true (by first | (with_reducible assumption) | assumption)
          have q16 : (ji13) < (256 : Int) := of_decide_eq_true (by first | (with_reducible assumption) | assumption)
          have hx16 := bt_at (⟨#[0, 1, 2, 2, 3, 3, 3, 3, 4, 4, 4, 4, 4, 4, 4, 4, 5, 5, 5, 5, 5, 5, 5, 5, 5, 5, 5, 5, 5, 5, 5, 5, 6, 6, 6, 6, 6, 6, 6, 6, 6, 6, 6, 6, 6, 6, 6, 6, 6, 6, 6, 6, 6, 6, 6, 6, 6, 6, 6, 6, 6, 6, 6, 6, 7, 7, 7, 7, 7, 7, 7, 7, 7, 7, 7, 7, 7, 7, 7, 7, 7, 7, 7, 7, 7, 7, 7, 7, 7, 7, 7, 7, 7, 7, 7, 7, 7, 7, 7, 7, 7, 7, 7, 7, 7, 7, 7, 7, 7, 7, 7, 7, 7, 7, 7, 7, 7, 7, 7, 7, 7, 7, 7, 7, 7, 7, 7, 7, 8, 8, 8, 8, 8, 8, 8, 8, 8, 8, 8, 8, 8, 8, 8, 8, 8, 8, 8, 8, 8, 8, 8, 8, 8, 8, 8, 8, 8, 8, 8, 8, 8, 8, 8, 8, 8, 8, 8, 8, 8, 8, 8, 8, 8, 8, 8, 8, 8, 8, 8, 8, 8, 8, 8, 8, 8, 8, 8, 8, 8, 8, 8, 8, 8, 8, 8, 8, 8, 8, 8, 8, 8, 8, 8, 8, 8, 8, 8, 8, 8, 8, 8, 8, 8, 8, 8, 8, 8, 8, 8, 8, 8, 8, 8, 8, 8, 8, 8, 8, 8, 8, 8, 8, 8, 8, 8, 8, 8, 8, 8, 8, 8, 8, 8, 8, 8, 8, 8, 8, 8, 8, 8, 8, 8, 8, 8, 8]⟩ : ByteArray) (ji13)
          replace p16 := eq_true p16
          replace q16 := eq_true q16
          go_enter Try.func47, Try.ntmps47
          go_wp2
          go_ret
          exact ⟨by first | rfl | (simp; done) | (simp only [← hji13] <;> (first | rfl | simp)) | (simp [*]; done), by repeat (first | exact Drawn0.refl _ | apply Drawn0.step)⟩
        · rw [if_neg c15] at H
          exact absurd H (by simp)
      · rw [if_neg c14] at H
        exact absurd H (by simp)
    · rw [if_neg c12] at H
      have c12b0 : decide (256 ≤ a0) = false := decide_eq_false c12
      clear c12
      obtain ⟨ji17, hji17⟩ : ∃ j_ : Int, ((a0) % 256) = j_ := ⟨_, rfl⟩
      replace H : (if 0 ≤ (ji17) then (if (ji17) < 256 then (some (wrap64 (0 + (wrap64 (bt (⟨#[0, 1, 2, 2, 3, 3, 3, 3, 4, 4, 4, 4, 4, 4, 4, 4, 5, 5, 5, 5, 5, 5, 5, 5, 5, 5, 5, 5, 5, 5, 5, 5, 6, 6, 6, 6, 6, 6, 6, 6, 6, 6, 6, 6, 6, 6, 6, 6, 6, 6, 6, 6, 6, 6, 6, 6, 6, 6, 6, 6, 6, 6, 6, 6, 7, 7, 7, 7, 7, 7, 7, 7, 7, 7, 7, 7, 7, 7, 7, 7, 7, 7, 7, 7, 7, 7, 7, 7, 7, 7, 7, 7, 7, 7, 7, 7, 7, 7, 7, 7, 7, 7, 7, 7, 7, 7, 7, 7, 7, 7, 7, 7, 7, 7, 7, 7, 7, 7, 7, 7, 7, 7, 7, 7, 7, 7, 7, 7, 8, 8, 8, 8, 8, 8, 8, 8, 8, 8, 8, 8, 8, 8, 8, 8, 8, 8, 8, 8, 8, 8, 8, 8, 8, 8, 8, 8, 8, 8, 8, 8, 8, 8, 8, 8, 8, 8, 8, 8, 8, 8, 8, 8, 8, 8, 8, 8, 8, 8, 8, 8, 8, 8, 8, 8, 8, 8, 8, 8, 8, 8, 8, 8, 8, 8, 8, 8, 8, 8, 8, 8, 8, 8, 8, 8, 8, 8, 8, 8, 8, 8, 8, 8, 8, 8, 8, 8, 8, 8, 8, 8, 8, 8, 8, 8, 8, 8, 8, 8, 8, 8, 8, 8, 8, 8, 8, 8, 8, 8, 8, 8, 8, 8, 8, 8, 8, 8, 8, 8, 8, 8, 8, 8, 8, 8, 8, 8]⟩ : ByteArray) (ji17)))))) else (none)) else (none)) = some r := by first | (rw [hji17] at H; exact H) | (simp only [hji17] at H ⊢; exact H)
      by_cases c18 : 0 ≤ (ji17)
      · rw [if_pos c18] at H
        have c18b0 : decide (0 ≤ (ji17)) = true := decide_eq_true c18
        clear c18
        by_cases c19 : (ji17) < 256
        · rw [if_pos c19] at H
          have c19b0 : decide ((ji17) < 256) = true := decide_eq_true c19
          clear c19
          obtain rfl := Option.some.inj H
          have p20 : 0 ≤ ((ji17) : Int) := of_decide_eq_true (by first | (with_reducible assumption) | assumption)
          have q20 : (ji17) < (256 : Int) := of_decide_eq_true (by first | (with_reducible assumption) | assumption)
          have hx20 := bt_at (⟨#[0, 1, 2, 2, 3, 3, 3, 3, 4, 4, 4, 4, 4, 4, 4, 4, 5, 5, 5, 5, 5, 5, 5, 5, 5, 5, 5, 5, 5, 5, 5, 5, 6, 6, 6, 6, 6, 6, 6, 6, 6, 6, 6, 6, 6, 6, 6, 6, 6, 6, 6, 6, 6, 6, 6, 6, 6, 6, 6, 6, 6, 6, 6, 6, 7, 7, 7, 7, 7, 7, 7, 7, 7, 7, 7, 7, 7, 7, 7, 7, 7, 7, 7, 7, 7, 7, 7, 7, 7, 7, 7, 7, 7, 7, 7, 7, 7, 7, 7, 7, 7, 7, 7, 7, 7, 7, 7, 7, 7, 7, 7, 7, 7, 7, 7, 7, 7, 7, 7, 7, 7, 7, 7, 7, 7, 7, 7, 7, 8, 8, 8, 8, 8, 8, 8, 8, 8, 8, 8, 8, 8, 8, 8, 8, 8, 8, 8, 8, 8, 8, 8, 8, 8, 8, 8, 8, 8, 8, 8, 8, 8, 8, 8, 8, 8, 8, 8, 8, 8, 8, 8, 8, 8, 8, 8, 8, 8, 8, 8, 8, 8, 8, 8, 8, 8, 8, 8, 8, 8, 8, 8, 8, 8, 8, 8, 8, 8, 8, 8, 8, 8, 8, 8, 8, 8, 8, 8, 8, 8, 8, 8, 8, 8, 8, 8, 8, 8, 8, 8, 8, 8, 8, 8, 8, 8, 8, 8, 8, 8, 8, 8, 8, 8, 8, 8, 8, 8, 8, 8, 8, 8, 8, 8, 8, 8, 8, 8, 8, 8, 8, 8, 8, 8, 8, 8, 8]⟩ : ByteArray) (ji17)
          replace p20 := eq_true p20
          replace q20 := eq_true q20
          go_enter Try.func47, Try.ntmps47
          go_wp2
          go_ret
          exact ⟨by first | rfl | (simp; done) | (simp only [← hji17] <;> (first | rfl | simp)) | (simp [*]; done), by repeat (first | exact Drawn0.refl _ | apply Drawn0.step)⟩
        · rw [if_neg c19] at H
          exact absurd H (by simp)
      · rw [if_neg c18] at H
        exact absurd H (by simp)

end Go.Proofs.Ytlhjblbmhlelbaa.P
