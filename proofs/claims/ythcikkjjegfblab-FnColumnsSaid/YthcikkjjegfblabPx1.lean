-- Written by the program wip/myprint.py of this session, over the kit's print of the translation. Lean checks it.
import Derived.Test.YthcikkjjegfblabPx0
namespace Go.Proofs.Ythcikkjjegfblab.P
open Go.RowKit Go.Proofs.YthcikkjjegfblabW.PrintWords Go.Proofs.YthcikkjjegfblabW.PrintLast Go.Proofs.YthcikkjjegfblabW.PrintMore
attribute [local go_sem] max2_int min2_int max_two min_two max_three min_three max_four min_four   -- for this text's walks alone
set_option linter.unusedVariables false
set_option linter.unusedSimpArgs false

/-! ### laws_zzFits10: function 43 -/
def laws_zzFits10.f (a0_0 : ByteArray) (a0_1 : Int) (a0_2 : Int) (a0_3 : Int) (a0_4 : Int) : Option (Bool) := if (a0_0.size : Int) > 2147483647 then (some false) else (some true)
set_option maxHeartbeats 8000000 in
set_option maxRecDepth 100000 in
theorem laws_zzFits10.calls (a0_0 : ByteArray) (a0_1 : Int) (a0_2 : Int) (a0_3 : Int) (a0_4 : Int) (r : Bool) (w : World) (h : laws_zzFits10.f a0_0 a0_1 a0_2 a0_3 a0_4 = some r) :
    Calls Try.prog 43 #[.agg #[.string a0_0, .int .u32 a0_1, .int .i64 a0_2, .int .i64 a0_3, .int .i64 a0_4]] w fun e w' => e = .returned (.bool r) ∧ Below w.heap.size w w' := by
  have hu43 := Try.underlying43
  have HB := Aside0.mk (Below.refl w.heap.size w)
  have H : (if (a0_0.size : Int) > 2147483647 then (some false) else (some true)) = some r := h
  clear h
  by_cases c2 : (a0_0.size : Int) > 2147483647
  · rw [if_pos c2] at H
    have c2b0 : decide (2147483647 < (a0_0.size : Int)) = true := decide_eq_true c2
    have c2b1 : decide (2147483647 < a0_0.size) = true := decide_eq_true (by omega)
    clear c2
    obtain rfl := Option.some.inj H
    go_enter Try.func43, Try.ntmps43
    go_wp2_with (first | ((with_reducible refine gate_dst (N := 1) rfl ?_); refine box_event ?hg (N := 1) ?hd (cs := #[.string a0_0, .int .u32 a0_1, .int .i64 a0_2, .int .i64 a0_3, .int .i64 a0_4]) (t := 43) ?hr ?_; (case hd => rfl); (case hg => rfl); (case hr => first | (go_simp; done) | (go_simp; rfl)); intro gb101 hg w3 hbox hb; have n0_ := Aside0.mk (below_step (by repeat (first | (with_reducible first | exact HB.out | apply below_alloc | apply pw_below_drewN | apply below_drew1) | exact HB.out)) hb); have n1_ := Aside0.mk (hbox); have n2_ := Aside0.mk ((by rw [hg]; exact (below_size (by repeat (first | (with_reducible first | exact HB.out | apply below_alloc | apply pw_below_drewN | apply below_drew1) | exact HB.out))) : w.heap.size ≤ gb101)); have n3_ := Aside0.mk ((by rw [hg]; exact (below_size (by repeat (first | (with_reducible first | exact HB.out | apply below_alloc | apply pw_below_drewN | apply below_drew1) | exact HB.out))) : w.heap.size ≤ gb101)); clear HB; have HB := n0_; have BK101 := n1_; have GW101 := n2_; have GE101 := n3_; clear n0_ n1_ n2_ n3_; clear hb hbox hg; have hcz4_0 : w3.cell? ⟨gb101, 0, none⟩ = some (.string a0_0) := (blk_cell BK101.out 0).trans rfl; have hcz4_1 : w3.cell? ⟨gb101, 1, none⟩ = some (.int .u32 a0_1) := (blk_cell BK101.out 1).trans rfl; have hcz4_2 : w3.cell? ⟨gb101, 2, none⟩ = some (.int .i64 a0_2) := (blk_cell BK101.out 2).trans rfl; have hcz4_3 : w3.cell? ⟨gb101, 3, none⟩ = some (.int .i64 a0_3) := (blk_cell BK101.out 3).trans rfl; have hcz4_4 : w3.cell? ⟨gb101, 4, none⟩ = some (.int .i64 a0_4) := (blk_cell BK101.out 4).trans rfl; have hfz4_0 := blk_frozen BK101.out 0; have hfz4_1 := blk_frozen BK101.out 1; have hfz4_2 := blk_frozen BK101.out 2; have hfz4_3 := blk_frozen BK101.out 3; have hfz4_4 := blk_frozen BK101.out 4))
    go_ret
    exact ⟨by first | rfl | (simp [errW_none, errW_some] <;> rfl) | (simp [*, errW_none, errW_some] <;> rfl), by repeat (first | (with_reducible first | exact HB.out | apply below_alloc | apply pw_below_drewN | apply below_drew1 | refine below_set ?_ GE101.out) | exact HB.out)⟩
  · rw [if_neg c2] at H
    have c2b0 : decide (2147483647 < (a0_0.size : Int)) = false := decide_eq_false c2
    have c2b1 : decide (2147483647 < a0_0.size) = false := decide_eq_false (by omega)
    clear c2
    obtain rfl := Option.some.inj H
    go_enter Try.func43, Try.ntmps43
    go_wp2_with (first | ((with_reducible refine gate_dst (N := 1) rfl ?_); refine box_event ?hg (N := 1) ?hd (cs := #[.string a0_0, .int .u32 a0_1, .int .i64 a0_2, .int .i64 a0_3, .int .i64 a0_4]) (t := 43) ?hr ?_; (case hd => rfl); (case hg => rfl); (case hr => first | (go_simp; done) | (go_simp; rfl)); intro gb101 hg w5 hbox hb; have n0_ := Aside0.mk (below_step (by repeat (first | (with_reducible first | exact HB.out | apply below_alloc | apply pw_below_drewN | apply below_drew1) | exact HB.out)) hb); have n1_ := Aside0.mk (hbox); have n2_ := Aside0.mk ((by rw [hg]; exact (below_size (by repeat (first | (with_reducible first | exact HB.out | apply below_alloc | apply pw_below_drewN | apply below_drew1) | exact HB.out))) : w.heap.size ≤ gb101)); have n3_ := Aside0.mk ((by rw [hg]; exact (below_size (by repeat (first | (with_reducible first | exact HB.out | apply below_alloc | apply pw_below_drewN | apply below_drew1) | exact HB.out))) : w.heap.size ≤ gb101)); clear HB; have HB := n0_; have BK101 := n1_; have GW101 := n2_; have GE101 := n3_; clear n0_ n1_ n2_ n3_; clear hb hbox hg; have hcz6_0 : w5.cell? ⟨gb101, 0, none⟩ = some (.string a0_0) := (blk_cell BK101.out 0).trans rfl; have hcz6_1 : w5.cell? ⟨gb101, 1, none⟩ = some (.int .u32 a0_1) := (blk_cell BK101.out 1).trans rfl; have hcz6_2 : w5.cell? ⟨gb101, 2, none⟩ = some (.int .i64 a0_2) := (blk_cell BK101.out 2).trans rfl; have hcz6_3 : w5.cell? ⟨gb101, 3, none⟩ = some (.int .i64 a0_3) := (blk_cell BK101.out 3).trans rfl; have hcz6_4 : w5.cell? ⟨gb101, 4, none⟩ = some (.int .i64 a0_4) := (blk_cell BK101.out 4).trans rfl; have hfz6_0 := blk_frozen BK101.out 0; have hfz6_1 := blk_frozen BK101.out 1; have hfz6_2 := blk_frozen BK101.out 2; have hfz6_3 := blk_frozen BK101.out 3; have hfz6_4 := blk_frozen BK101.out 4))
    go_ret
    exact ⟨by first | rfl | (simp [errW_none, errW_some] <;> rfl) | (simp [*, errW_none, errW_some] <;> rfl), by repeat (first | (with_reducible first | exact HB.out | apply below_alloc | apply pw_below_drewN | apply below_drew1 | refine below_set ?_ GE101.out) | exact HB.out)⟩

/-! ### laws_zzFits9: function 17 -/
def laws_zzFits9.l0 : Nat → List (S43) → Int → Int → Option (Bool)
  | 0, _, _, _ => none
  | k + 1, x8, x9, x10 => if x10 < x9 then (if 0 ≤ x10 then (if x10 < (x8.length : Int) then ((laws_zzFits10.f ((rd_T43 x8 x10).f0) ((rd_T43 x8 x10).f1) ((rd_T43 x8 x10).f2) ((rd_T43 x8 x10).f3) ((rd_T43 x8 x10).f4)).bind fun t104 => (if t104 = true then (laws_zzFits9.l0 k x8 x9 (wrap64 (x10 + 1))) else (some false))) else (none)) else (none)) else (some true)
def laws_zzFits9.f (k : Nat) (l0 : List (S43)) : Option (Bool) := if (l0.length : Int) > 2147483647 then (some false) else (laws_zzFits9.l0 k l0 (l0.length : Int) 0)
theorem laws_zzFits9.mono_l : ∀ k, (∀ y0 y1 y2, LeO (laws_zzFits9.l0 k y0 y1 y2) (laws_zzFits9.l0 (k + 1) y0 y1 y2))
  | 0 => fun _ _ _ r h => by simp [laws_zzFits9.l0] at h
  | k + 1 => by
    have ih0 := laws_zzFits9.mono_l k
    · intro y0 y1 y2
      unfold laws_zzFits9.l0
      repeat' first
      | (with_reducible exact ih0 _ _ _)
      | (with_reducible exact LeO.refl _)
      | (with_reducible exact LeO.none _)
      | (with_reducible refine LeO.ite ?_ ?_)
      | (with_reducible refine LeO.bind ?_ (fun _ => ?_))
      | exact ih0 _ _ _
      | exact LeO.none _
      | refine LeO.ite ?_ ?_
      | refine LeO.bind ?_ (fun _ => ?_)
theorem laws_zzFits9.mono : ∀ a0 k, LeO (laws_zzFits9.f k a0) (laws_zzFits9.f (k + 1) a0) := by
  intro a0 k
  have ih0 := laws_zzFits9.mono_l k
  unfold laws_zzFits9.f
  repeat' first
      | (with_reducible exact ih0 _ _ _)
      | (with_reducible exact LeO.refl _)
      | (with_reducible exact LeO.none _)
      | (with_reducible refine LeO.ite ?_ ?_)
      | (with_reducible refine LeO.bind ?_ (fun _ => ?_))
      | exact ih0 _ _ _
      | exact LeO.none _
      | refine LeO.ite ?_ ?_
      | refine LeO.bind ?_ (fun _ => ?_)
set_option maxHeartbeats 8000000 in
set_option maxRecDepth 100000 in
theorem laws_zzFits9.calls (k : Nat) (A0 : Option Addr) (c0 : Nat) (l0 : List (S43)) (r : Bool) (w : World) (hr0 : Kd.C k43 w A0 l0.length l0) (hc0 : l0.length ≤ c0) (h : laws_zzFits9.f k l0 = some r) :
    Calls Try.prog 17 #[.slice A0 l0.length c0] w fun e w' => e = .returned (.bool r) ∧ Below w.heap.size w w' := by
  have hu43 := Try.underlying43
  have HR0 := Aside0.mk hr0
  have HC0 := Aside0.mk hc0
  clear hr0 hc0
  have HB := Aside0.mk (Below.refl w.heap.size w)
  have H : (if (l0.length : Int) > 2147483647 then (some false) else (laws_zzFits9.l0 k l0 (l0.length : Int) 0)) = some r := h
  clear h
  by_cases c2 : (l0.length : Int) > 2147483647
  · rw [if_pos c2] at H
    have c2b0 : decide (2147483647 < (l0.length : Int)) = true := decide_eq_true c2
    have c2b1 : decide (2147483647 < l0.length) = true := decide_eq_true (by omega)
    clear c2
    obtain rfl := Option.some.inj H
    go_enter Try.func17, Try.ntmps17
    go_wp2
    go_ret
    exact ⟨by first | rfl | (simp [errW_none, errW_some] <;> rfl) | (simp [*, errW_none, errW_some] <;> rfl), by repeat (first | (with_reducible first | exact HB.out | apply below_alloc | apply pw_below_drewN | apply below_drew1) | exact HB.out)⟩
  · rw [if_neg c2] at H
    have c2b0 : decide (2147483647 < (l0.length : Int)) = false := decide_eq_false c2
    have c2b1 : decide (2147483647 < l0.length) = false := decide_eq_false (by omega)
    clear c2
    have H' := Aside0.mk H
    clear H
    go_enter Try.func17, Try.ntmps17
    go_wp2
    go_loopg [10] k (fun kq v10 w' => ∃ (x10_1 : Int), v10 = .int .i64 x10_1 ∧ Aside0 (laws_zzFits9.l0 kq l0 (l0.length : Int) x10_1 = some r) ∧ Aside0 (kq ≤ k) ∧ Aside0 (Below w.heap.size w w'))
    case atStart => exact ⟨(0), (by first | rfl | (simp; done) | (simp [*]; done)), H', ⟨Nat.le_refl _⟩, ⟨by repeat (first | (with_reducible first | exact HB.out | apply below_alloc | apply pw_below_drewN | apply below_drew1) | exact HB.out)⟩⟩
    case round =>
      clear H'
      try clear c1
      try clear c2
      try clear c2b0
      try clear c2b1
      try clear p2
      obtain ⟨x10_1, rfl, HA, HK1, HB⟩ := hrel
      cases gk with
      | zero => exact absurd HA.out (by simp [laws_zzFits9.l0])
      | succ k1 =>
        have H := HA.out
        clear HA
        simp only [laws_zzFits9.l0] at H
        by_cases c3 : x10_1 < (l0.length : Int)
        · rw [if_pos c3] at H
          have c3b0 : decide (x10_1 < (l0.length : Int)) = true := decide_eq_true c3
          clear c3
          by_cases c4 : 0 ≤ x10_1
          · rw [if_pos c4] at H
            have c4b0 : decide (0 ≤ x10_1) = true := decide_eq_true c4
            clear c4
            by_cases c5 : x10_1 < (l0.length : Int)
            · rw [if_pos c5] at H
              have c5b0 : decide (x10_1 < (l0.length : Int)) = true := decide_eq_true c5
              clear c5
              replace H := Option.bind_eq_some_iff.mp H
              obtain ⟨t104, A60, H⟩ := H
              replace H : (if t104 = true then (laws_zzFits9.l0 k1 l0 (l0.length : Int) (wrap64 (x10_1 + 1))) else (some false)) = some r := H
              have A6 := Aside0.mk A60
              clear A60
              by_cases c7 : t104 = true
              · subst c7
                have H1 : (laws_zzFits9.l0 k1 l0 (l0.length : Int) (wrap64 (x10_1 + 1))) = some r := by rw [if_pos rfl] at H; exact H
                clear H
                have H := H1
                clear H1
                have H' := Aside0.mk H
                clear H
                have p102 : 0 ≤ (x10_1 : Int) := of_decide_eq_true (by first | (with_reducible assumption) | assumption)
                have q102 : x10_1 < (l0.length : Int) := of_decide_eq_true (by first | (with_reducible assumption) | assumption)
                obtain ⟨ad102, e102, hx102_0, hx102_1, hx102_2, hx102_3, hx102_4⟩ := at_T43 HR0.out x10_1 p102 q102
                cases e102
                replace hx102_0 := (HB.out.cell (World.block_lt_of_cell? w _ hx102_0)).trans hx102_0
                replace hx102_1 := (HB.out.cell (World.block_lt_of_cell? w _ hx102_1)).trans hx102_1
                replace hx102_2 := (HB.out.cell (World.block_lt_of_cell? w _ hx102_2)).trans hx102_2
                replace hx102_3 := (HB.out.cell (World.block_lt_of_cell? w _ hx102_3)).trans hx102_3
                replace hx102_4 := (HB.out.cell (World.block_lt_of_cell? w _ hx102_4)).trans hx102_4
                replace p102 := eq_true p102
                replace q102 := eq_true q102
                go_wp2_with (first | ((with_reducible refine gate_dst (N := 4) rfl ?_); refine box_event ?hg (N := 4) ?hd (cs := #[.string (⟨#[]⟩ : ByteArray), .int .u32 0, .int .i64 0, .int .i64 0, .int .i64 0]) (t := 43) ?hr ?_; (case hd => rfl); (case hg => rfl); (case hr => first | (go_simp; done) | (go_simp; rfl)); intro gb103 hg w8 hbox hb; have n0_ := Aside0.mk (below_step (by repeat (first | (with_reducible first | exact HB.out | apply below_alloc | apply pw_below_drewN | apply below_drew1) | exact HB.out)) hb); have n1_ := Aside0.mk (hbox); have n2_ := Aside0.mk ((by rw [hg]; exact (below_size (by repeat (first | (with_reducible first | exact HB.out | apply below_alloc | apply pw_below_drewN | apply below_drew1) | exact HB.out))) : w.heap.size ≤ gb103)); have n3_ := Aside0.mk ((by rw [hg]; exact (below_size (by repeat (first | (with_reducible first | exact HB.out | apply below_alloc | apply pw_below_drewN | apply below_drew1) | exact HB.out))) : w.heap.size ≤ gb103)); clear HB; have HB := n0_; have BK103 := n1_; have GW103 := n2_; have GE103 := n3_; clear n0_ n1_ n2_ n3_; clear hb hbox hg; have hcz9_0 : w8.cell? ⟨gb103, 0, none⟩ = some (.string (⟨#[]⟩ : ByteArray)) := (blk_cell BK103.out 0).trans rfl; have hcz9_1 : w8.cell? ⟨gb103, 1, none⟩ = some (.int .u32 0) := (blk_cell BK103.out 1).trans rfl; have hcz9_2 : w8.cell? ⟨gb103, 2, none⟩ = some (.int .i64 0) := (blk_cell BK103.out 2).trans rfl; have hcz9_3 : w8.cell? ⟨gb103, 3, none⟩ = some (.int .i64 0) := (blk_cell BK103.out 3).trans rfl; have hcz9_4 : w8.cell? ⟨gb103, 4, none⟩ = some (.int .i64 0) := (blk_cell BK103.out 4).trans rfl; have hfz9_0 := blk_frozen BK103.out 0; have hfz9_1 := blk_frozen BK103.out 1; have hfz9_2 := blk_frozen BK103.out 2; have hfz9_3 := blk_frozen BK103.out 3; have hfz9_4 := blk_frozen BK103.out 4) | ((with_reducible refine gate_callee (f := 43) rfl ?_); refine goesL_ (some 15) rfl rfl Try.func43 (by kernel_rfl) rfl #[.agg #[.string ((rd_T43 l0 x10_1).f0), .int .u32 ((rd_T43 l0 x10_1).f1), .int .i64 ((rd_T43 l0 x10_1).f2), .int .i64 ((rd_T43 l0 x10_1).f3), .int .i64 ((rd_T43 l0 x10_1).f4)]] rfl (by (try simp only [List.map_toArray, List.map_cons, List.map_nil]); first | done | rfl | (simp only [List.length_drop, List.length_take]; rfl)) ?_; (with_reducible refine (laws_zzFits10.calls ((rd_T43 l0 x10_1).f0) ((rd_T43 l0 x10_1).f1) ((rd_T43 l0 x10_1).f2) ((rd_T43 l0 x10_1).f3) ((rd_T43 l0 x10_1).f4) true _ A6.out).mono ?_); rintro e w10 ⟨rfl, hb⟩; refine ⟨_, rfl, ?_⟩; have n0_ := Aside0.mk (blk_below (g := gb103) (o := .cells #[.string ((rd_T43 l0 x10_1).f0), .int .u32 ((rd_T43 l0 x10_1).f1), .int .i64 ((rd_T43 l0 x10_1).f2), .int .i64 ((rd_T43 l0 x10_1).f3), .int .i64 ((rd_T43 l0 x10_1).f4)] 43 (0, 0)) (by (with_reducible repeat (first | refine blk_drewN ?_ _ | refine blk_drew ?_ | refine blk_alloc ?_ _)); refine blk_put (cs := #[.string ((rd_T43 l0 x10_1).f0), .int .u32 ((rd_T43 l0 x10_1).f1), .int .i64 ((rd_T43 l0 x10_1).f2), .int .i64 ((rd_T43 l0 x10_1).f3), .int .i64 0]) ?_ 4 _ rfl; (with_reducible repeat (first | refine blk_drewN ?_ _ | refine blk_drew ?_ | refine blk_alloc ?_ _)); refine blk_put (cs := #[.string ((rd_T43 l0 x10_1).f0), .int .u32 ((rd_T43 l0 x10_1).f1), .int .i64 ((rd_T43 l0 x10_1).f2), .int .i64 0, .int .i64 0]) ?_ 3 _ rfl; (with_reducible repeat (first | refine blk_drewN ?_ _ | refine blk_drew ?_ | refine blk_alloc ?_ _)); refine blk_put (cs := #[.string ((rd_T43 l0 x10_1).f0), .int .u32 ((rd_T43 l0 x10_1).f1), .int .i64 0, .int .i64 0, .int .i64 0]) ?_ 2 _ rfl; (with_reducible repeat (first | refine blk_drewN ?_ _ | refine blk_drew ?_ | refine blk_alloc ?_ _)); refine blk_put (cs := #[.string ((rd_T43 l0 x10_1).f0), .int .u32 0, .int .i64 0, .int .i64 0, .int .i64 0]) ?_ 1 _ rfl; (with_reducible repeat (first | refine blk_drewN ?_ _ | refine blk_drew ?_ | refine blk_alloc ?_ _)); refine blk_put (cs := #[.string (⟨#[]⟩ : ByteArray), .int .u32 0, .int .i64 0, .int .i64 0, .int .i64 0]) ?_ 0 _ rfl; (with_reducible repeat (first | refine blk_drewN ?_ _ | refine blk_drew ?_ | refine blk_alloc ?_ _)); exact BK103.out) hb); have n1_ := Aside0.mk (below_step (by repeat (first | (with_reducible first | exact HB.out | apply below_alloc | apply pw_below_drewN | apply below_drew1 | refine below_set ?_ GE103.out) | exact HB.out)) hb); clear BK103; clear HB; have BK103 := n0_; have HB := n1_; clear n0_ n1_; (try clear hb); (try clear hb2); (try clear hk); (try clear hi)))
                go_roundg k1
                case measure => have := HK1.out; omega
                case rel => exact ⟨(wrap64 (x10_1 + 1)), (by first | rfl | (simp; done) | (simp [*]; done)), H', ⟨by have := HK1.out; omega⟩, ⟨by repeat (first | (with_reducible first | exact HB.out | apply below_alloc | apply pw_below_drewN | apply below_drew1 | refine below_set ?_ GE103.out) | exact HB.out)⟩⟩
              · replace c7 := Bool.eq_false_iff.mpr c7
                subst c7
                have H1 : (some false) = some r := by rw [if_neg (show ¬ (false = true) by decide)] at H; exact H
                clear H
                have H := H1
                clear H1
                obtain rfl := Option.some.inj H
                have p102 : 0 ≤ (x10_1 : Int) := of_decide_eq_true (by first | (with_reducible assumption) | assumption)
                have q102 : x10_1 < (l0.length : Int) := of_decide_eq_true (by first | (with_reducible assumption) | assumption)
                obtain ⟨ad102, e102, hx102_0, hx102_1, hx102_2, hx102_3, hx102_4⟩ := at_T43 HR0.out x10_1 p102 q102
                cases e102
                replace hx102_0 := (HB.out.cell (World.block_lt_of_cell? w _ hx102_0)).trans hx102_0
                replace hx102_1 := (HB.out.cell (World.block_lt_of_cell? w _ hx102_1)).trans hx102_1
                replace hx102_2 := (HB.out.cell (World.block_lt_of_cell? w _ hx102_2)).trans hx102_2
                replace hx102_3 := (HB.out.cell (World.block_lt_of_cell? w _ hx102_3)).trans hx102_3
                replace hx102_4 := (HB.out.cell (World.block_lt_of_cell? w _ hx102_4)).trans hx102_4
                replace p102 := eq_true p102
                replace q102 := eq_true q102
                go_wp2_with (first | ((with_reducible refine gate_dst (N := 4) rfl ?_); refine box_event ?hg (N := 4) ?hd (cs := #[.string (⟨#[]⟩ : ByteArray), .int .u32 0, .int .i64 0, .int .i64 0, .int .i64 0]) (t := 43) ?hr ?_; (case hd => rfl); (case hg => rfl); (case hr => first | (go_simp; done) | (go_simp; rfl)); intro gb103 hg w11 hbox hb; have n0_ := Aside0.mk (below_step (by repeat (first | (with_reducible first | exact HB.out | apply below_alloc | apply pw_below_drewN | apply below_drew1) | exact HB.out)) hb); have n1_ := Aside0.mk (hbox); have n2_ := Aside0.mk ((by rw [hg]; exact (below_size (by repeat (first | (with_reducible first | exact HB.out | apply below_alloc | apply pw_below_drewN | apply below_drew1) | exact HB.out))) : w.heap.size ≤ gb103)); have n3_ := Aside0.mk ((by rw [hg]; exact (below_size (by repeat (first | (with_reducible first | exact HB.out | apply below_alloc | apply pw_below_drewN | apply below_drew1) | exact HB.out))) : w.heap.size ≤ gb103)); clear HB; have HB := n0_; have BK103 := n1_; have GW103 := n2_; have GE103 := n3_; clear n0_ n1_ n2_ n3_; clear hb hbox hg; have hcz12_0 : w11.cell? ⟨gb103, 0, none⟩ = some (.string (⟨#[]⟩ : ByteArray)) := (blk_cell BK103.out 0).trans rfl; have hcz12_1 : w11.cell? ⟨gb103, 1, none⟩ = some (.int .u32 0) := (blk_cell BK103.out 1).trans rfl; have hcz12_2 : w11.cell? ⟨gb103, 2, none⟩ = some (.int .i64 0) := (blk_cell BK103.out 2).trans rfl; have hcz12_3 : w11.cell? ⟨gb103, 3, none⟩ = some (.int .i64 0) := (blk_cell BK103.out 3).trans rfl; have hcz12_4 : w11.cell? ⟨gb103, 4, none⟩ = some (.int .i64 0) := (blk_cell BK103.out 4).trans rfl; have hfz12_0 := blk_frozen BK103.out 0; have hfz12_1 := blk_frozen BK103.out 1; have hfz12_2 := blk_frozen BK103.out 2; have hfz12_3 := blk_frozen BK103.out 3; have hfz12_4 := blk_frozen BK103.out 4) | ((with_reducible refine gate_callee (f := 43) rfl ?_); refine goesL_ (some 15) rfl rfl Try.func43 (by kernel_rfl) rfl #[.agg #[.string ((rd_T43 l0 x10_1).f0), .int .u32 ((rd_T43 l0 x10_1).f1), .int .i64 ((rd_T43 l0 x10_1).f2), .int .i64 ((rd_T43 l0 x10_1).f3), .int .i64 ((rd_T43 l0 x10_1).f4)]] rfl (by (try simp only [List.map_toArray, List.map_cons, List.map_nil]); first | done | rfl | (simp only [List.length_drop, List.length_take]; rfl)) ?_; (with_reducible refine (laws_zzFits10.calls ((rd_T43 l0 x10_1).f0) ((rd_T43 l0 x10_1).f1) ((rd_T43 l0 x10_1).f2) ((rd_T43 l0 x10_1).f3) ((rd_T43 l0 x10_1).f4) false _ A6.out).mono ?_); rintro e w13 ⟨rfl, hb⟩; refine ⟨_, rfl, ?_⟩; have n0_ := Aside0.mk (blk_below (g := gb103) (o := .cells #[.string ((rd_T43 l0 x10_1).f0), .int .u32 ((rd_T43 l0 x10_1).f1), .int .i64 ((rd_T43 l0 x10_1).f2), .int .i64 ((rd_T43 l0 x10_1).f3), .int .i64 ((rd_T43 l0 x10_1).f4)] 43 (0, 0)) (by (with_reducible repeat (first | refine blk_drewN ?_ _ | refine blk_drew ?_ | refine blk_alloc ?_ _)); refine blk_put (cs := #[.string ((rd_T43 l0 x10_1).f0), .int .u32 ((rd_T43 l0 x10_1).f1), .int .i64 ((rd_T43 l0 x10_1).f2), .int .i64 ((rd_T43 l0 x10_1).f3), .int .i64 0]) ?_ 4 _ rfl; (with_reducible repeat (first | refine blk_drewN ?_ _ | refine blk_drew ?_ | refine blk_alloc ?_ _)); refine blk_put (cs := #[.string ((rd_T43 l0 x10_1).f0), .int .u32 ((rd_T43 l0 x10_1).f1), .int .i64 ((rd_T43 l0 x10_1).f2), .int .i64 0, .int .i64 0]) ?_ 3 _ rfl; (with_reducible repeat (first | refine blk_drewN ?_ _ | refine blk_drew ?_ | refine blk_alloc ?_ _)); refine blk_put (cs := #[.string ((rd_T43 l0 x10_1).f0), .int .u32 ((rd_T43 l0 x10_1).f1), .int .i64 0, .int .i64 0, .int .i64 0]) ?_ 2 _ rfl; (with_reducible repeat (first | refine blk_drewN ?_ _ | refine blk_drew ?_ | refine blk_alloc ?_ _)); refine blk_put (cs := #[.string ((rd_T43 l0 x10_1).f0), .int .u32 0, .int .i64 0, .int .i64 0, .int .i64 0]) ?_ 1 _ rfl; (with_reducible repeat (first | refine blk_drewN ?_ _ | refine blk_drew ?_ | refine blk_alloc ?_ _)); refine blk_put (cs := #[.string (⟨#[]⟩ : ByteArray), .int .u32 0, .int .i64 0, .int .i64 0, .int .i64 0]) ?_ 0 _ rfl; (with_reducible repeat (first | refine blk_drewN ?_ _ | refine blk_drew ?_ | refine blk_alloc ?_ _)); exact BK103.out) hb); have n1_ := Aside0.mk (below_step (by repeat (first | (with_reducible first | exact HB.out | apply below_alloc | apply pw_below_drewN | apply below_drew1 | refine below_set ?_ GE103.out) | exact HB.out)) hb); clear BK103; clear HB; have BK103 := n0_; have HB := n1_; clear n0_ n1_; (try clear hb); (try clear hb2); (try clear hk); (try clear hi)))
                go_ret
                exact ⟨by first | rfl | (simp [errW_none, errW_some] <;> rfl) | (simp [*, errW_none, errW_some] <;> rfl), by repeat (first | (with_reducible first | exact HB.out | apply below_alloc | apply pw_below_drewN | apply below_drew1 | refine below_set ?_ GE103.out) | exact HB.out)⟩
            · rw [if_neg c5] at H
              exact absurd H (by simp)
          · rw [if_neg c4] at H
            exact absurd H (by simp)
        · rw [if_neg c3] at H
          have c3b0 : decide (x10_1 < (l0.length : Int)) = false := decide_eq_false c3
          clear c3
          obtain rfl := Option.some.inj H
          go_wp2
          go_ret
          exact ⟨by first | rfl | (simp [errW_none, errW_some] <;> rfl) | (simp [*, errW_none, errW_some] <;> rfl), by repeat (first | (with_reducible first | exact HB.out | apply below_alloc | apply pw_below_drewN | apply below_drew1) | exact HB.out)⟩

/-! ### spec_hasZero: function 44 -/
def spec_hasZero.l0 : Nat → ByteArray → Int → Option (Bool)
  | 0, _, _ => none
  | k + 1, x0, x3 => if x3 < (x0.size : Int) then (if 0 ≤ x3 then (if (bt x0 x3) = 0 then (some true) else (spec_hasZero.l0 k x0 (wrap64 (x3 + 1)))) else (none)) else (some false)
def spec_hasZero.f (k : Nat) (a0 : ByteArray) : Option (Bool) := spec_hasZero.l0 k a0 0
theorem spec_hasZero.mono_l : ∀ k, (∀ y0 y1, LeO (spec_hasZero.l0 k y0 y1) (spec_hasZero.l0 (k + 1) y0 y1))
  | 0 => fun _ _ r h => by simp [spec_hasZero.l0] at h
  | k + 1 => by
    have ih0 := spec_hasZero.mono_l k
    · intro y0 y1
      unfold spec_hasZero.l0
      repeat' first
      | (with_reducible exact ih0 _ _)
      | (with_reducible exact LeO.refl _)
      | (with_reducible exact LeO.none _)
      | (with_reducible refine LeO.ite ?_ ?_)
      | (with_reducible refine LeO.bind ?_ (fun _ => ?_))
      | exact ih0 _ _
      | exact LeO.none _
      | refine LeO.ite ?_ ?_
      | refine LeO.bind ?_ (fun _ => ?_)
theorem spec_hasZero.mono : ∀ a0 k, LeO (spec_hasZero.f k a0) (spec_hasZero.f (k + 1) a0) := by
  intro a0 k
  have ih0 := spec_hasZero.mono_l k
  unfold spec_hasZero.f
  repeat' first
      | (with_reducible exact ih0 _ _)
      | (with_reducible exact LeO.refl _)
      | (with_reducible exact LeO.none _)
      | (with_reducible refine LeO.ite ?_ ?_)
      | (with_reducible refine LeO.bind ?_ (fun _ => ?_))
      | exact ih0 _ _
      | exact LeO.none _
      | refine LeO.ite ?_ ?_
      | refine LeO.bind ?_ (fun _ => ?_)
set_option maxHeartbeats 8000000 in
set_option maxRecDepth 100000 in
theorem spec_hasZero.calls (k : Nat) (a0 : ByteArray) (r : Bool) (w : World) (h : spec_hasZero.f k a0 = some r) :
    Calls Try.prog 44 #[.string a0] w fun e w' => e = .returned (.bool r) ∧ Drawn0 w w' := by
  have H : (spec_hasZero.l0 k a0 0) = some r := h
  clear h
  have H' := Aside0.mk H
  clear H
  go_enter Try.func44, Try.ntmps44
  go_wp2
  go_loopg [3] k (fun kq v3 w' => ∃ (x3_1 : Int), v3 = .int .i64 x3_1 ∧ Aside0 (spec_hasZero.l0 kq a0 x3_1 = some r) ∧ Aside0 (kq ≤ k) ∧ Drawn0 w w')
  case atStart => exact ⟨(0), (by first | rfl | (simp; done) | (simp [*]; done)), H', ⟨Nat.le_refl _⟩, by repeat (first | exact Drawn0.refl _ | apply Drawn0.step)⟩
  case round =>
    clear H'
    obtain ⟨x3_1, rfl, HA, HK1, ⟨m1, rfl⟩⟩ := hrel
    cases gk with
    | zero => exact absurd HA.out (by simp [spec_hasZero.l0])
    | succ k1 =>
      have H := HA.out
      clear HA
      simp only [spec_hasZero.l0] at H
      by_cases c2 : x3_1 < (a0.size : Int)
      · rw [if_pos c2] at H
        have c2b0 : decide (x3_1 < (a0.size : Int)) = true := decide_eq_true c2
        clear c2
        by_cases c3 : 0 ≤ x3_1
        · rw [if_pos c3] at H
          have c3b0 : decide (0 ≤ x3_1) = true := decide_eq_true c3
          clear c3
          by_cases c5 : (bt a0 x3_1) = 0
          · rw [if_pos c5] at H
            have c5b0 : ((bt a0 x3_1) == 0) = true := beq_iff_eq.mpr c5
            have c5b1 : ((bt a0 x3_1) != 0) = false := bne_eq_false_iff_eq.mpr c5
            clear c5
            obtain rfl := Option.some.inj H
            have p4 : 0 ≤ (x3_1 : Int) := of_decide_eq_true (by first | (with_reducible assumption) | assumption)
            have q4 : x3_1 < (a0.size : Int) := of_decide_eq_true (by first | (with_reducible assumption) | assumption)
            have hx4 := bt_at a0 x3_1
            replace p4 := eq_true p4
            replace q4 := eq_true q4
            go_wp2
            go_ret
            exact ⟨by first | rfl | (simp; done) | (simp [*]; done), by repeat (first | exact Drawn0.refl _ | apply Drawn0.step)⟩
          · rw [if_neg c5] at H
            have c5b0 : ((bt a0 x3_1) == 0) = false := beq_eq_false_iff_ne.mpr c5
            have c5b1 : ((bt a0 x3_1) != 0) = true := bne_iff_ne.mpr c5
            have H' := Aside0.mk H
            clear H
            have p4 : 0 ≤ (x3_1 : Int) := of_decide_eq_true (by first | (with_reducible assumption) | assumption)
            have q4 : x3_1 < (a0.size : Int) := of_decide_eq_true (by first | (with_reducible assumption) | assumption)
            have hx4 := bt_at a0 x3_1
            replace p4 := eq_true p4
            replace q4 := eq_true q4
            go_wp2
            go_roundg k1
            case measure => have := HK1.out; omega
            case rel => exact ⟨(wrap64 (x3_1 + 1)), (by first | rfl | (simp; done) | (simp [*]; done)), H', ⟨by have := HK1.out; omega⟩, by repeat (first | exact Drawn0.refl _ | apply Drawn0.step)⟩
        · rw [if_neg c3] at H
          exact absurd H (by simp)
      · rw [if_neg c2] at H
        have c2b0 : decide (x3_1 < (a0.size : Int)) = false := decide_eq_false c2
        clear c2
        obtain rfl := Option.some.inj H
        go_wp2
        go_ret
        exact ⟨by first | rfl | (simp; done) | (simp [*]; done), by repeat (first | exact Drawn0.refl _ | apply Drawn0.step)⟩

/-! ### spec_ColumnRight: function 18 -/
def spec_ColumnRight.f (k : Nat) (a0_0 : ByteArray) (a0_1 : Int) (a0_2 : Int) (a0_3 : Int) (a0_4 : Int) : Option (Bool) := (spec_hasZero.f k a0_0).bind fun t106 => (if t106 = true then (some false) else (if (a0_0.size : Int) ≤ 100 then (if a0_2 ≥ 0 then (if a0_2 < 32768 then (if a0_3 ≥ (-2147483648) then (if a0_3 < 2147483648 then (if a0_4 = 0 then (some true) else (some (a0_4 == 1))) else (some false)) else (some false)) else (some false)) else (some false)) else (some false)))
theorem spec_ColumnRight.mono : ∀ a0 a1 a2 a3 a4 k, LeO (spec_ColumnRight.f k a0 a1 a2 a3 a4) (spec_ColumnRight.f (k + 1) a0 a1 a2 a3 a4) := by
  intro a0 a1 a2 a3 a4 k
  unfold spec_ColumnRight.f
  repeat' first
      | (with_reducible exact spec_hasZero.mono _ _)
      | (with_reducible exact LeO.refl _)
      | (with_reducible exact LeO.none _)
      | (with_reducible refine LeO.ite ?_ ?_)
      | (with_reducible refine LeO.bind ?_ (fun _ => ?_))
      | exact spec_hasZero.mono _ _
      | exact LeO.none _
      | refine LeO.ite ?_ ?_
      | refine LeO.bind ?_ (fun _ => ?_)
set_option maxHeartbeats 8000000 in
set_option maxRecDepth 100000 in
theorem spec_ColumnRight.calls (k : Nat) (a0_0 : ByteArray) (a0_1 : Int) (a0_2 : Int) (a0_3 : Int) (a0_4 : Int) (r : Bool) (w : World) (h : spec_ColumnRight.f k a0_0 a0_1 a0_2 a0_3 a0_4 = some r) :
    Calls Try.prog 18 #[.agg #[.string a0_0, .int .u32 a0_1, .int .i64 a0_2, .int .i64 a0_3, .int .i64 a0_4]] w fun e w' => e = .returned (.bool r) ∧ Below w.heap.size w w' := by
  have hu43 := Try.underlying43
  have HB := Aside0.mk (Below.refl w.heap.size w)
  have H : ((spec_hasZero.f k a0_0).bind fun t106 => (if t106 = true then (some false) else (if (a0_0.size : Int) ≤ 100 then (if a0_2 ≥ 0 then (if a0_2 < 32768 then (if a0_3 ≥ (-2147483648) then (if a0_3 < 2147483648 then (if a0_4 = 0 then (some true) else (some (a0_4 == 1))) else (some false)) else (some false)) else (some false)) else (some false)) else (some false)))) = some r := h
  clear h
  replace H := Option.bind_eq_some_iff.mp H
  obtain ⟨t106, A20, H⟩ := H
  replace H : (if t106 = true then (some false) else (if (a0_0.size : Int) ≤ 100 then (if a0_2 ≥ 0 then (if a0_2 < 32768 then (if a0_3 ≥ (-2147483648) then (if a0_3 < 2147483648 then (if a0_4 = 0 then (some true) else (some (a0_4 == 1))) else (some false)) else (some false)) else (some false)) else (some false)) else (some false))) = some r := H
  have A2 := Aside0.mk A20
  clear A20
  by_cases c3 : t106 = true
  · subst c3
    have H1 : (some false) = some r := by rw [if_pos rfl] at H; exact H
    clear H
    have H := H1
    clear H1
    obtain rfl := Option.some.inj H
    go_enter Try.func18, Try.ntmps18
    go_wp2_with (first | ((with_reducible refine gate_dst (N := 1) rfl ?_); (try (refine gate_guard (by rfl) ?_; dsimp only)); refine box_event ?hg (N := 1) ?hd (cs := #[.string a0_0, .int .u32 a0_1, .int .i64 a0_2, .int .i64 a0_3, .int .i64 a0_4]) (t := 43) ?hr ?_; (case hd => rfl); (case hg => rfl); (case hr => first | (go_simp; done) | (go_simp; rfl)); intro gb105 hg w4 hbox hb; have n0_ := Aside0.mk (below_step (by repeat (first | (with_reducible first | exact HB.out | apply below_alloc | apply pw_below_drewN | apply below_drew1) | exact HB.out)) hb); have n1_ := Aside0.mk (hbox); have n2_ := Aside0.mk ((by rw [hg]; exact (below_size (by repeat (first | (with_reducible first | exact HB.out | apply below_alloc | apply pw_below_drewN | apply below_drew1) | exact HB.out))) : w.heap.size ≤ gb105)); have n3_ := Aside0.mk ((by rw [hg]; exact (below_size (by repeat (first | (with_reducible first | exact HB.out | apply below_alloc | apply pw_below_drewN | apply below_drew1) | exact HB.out))) : w.heap.size ≤ gb105)); clear HB; have HB := n0_; have BK105 := n1_; have GW105 := n2_; have GE105 := n3_; clear n0_ n1_ n2_ n3_; clear hb hbox hg; have hcz5_0 : w4.cell? ⟨gb105, 0, none⟩ = some (.string a0_0) := (blk_cell BK105.out 0).trans rfl; have hcz5_1 : w4.cell? ⟨gb105, 1, none⟩ = some (.int .u32 a0_1) := (blk_cell BK105.out 1).trans rfl; have hcz5_2 : w4.cell? ⟨gb105, 2, none⟩ = some (.int .i64 a0_2) := (blk_cell BK105.out 2).trans rfl; have hcz5_3 : w4.cell? ⟨gb105, 3, none⟩ = some (.int .i64 a0_3) := (blk_cell BK105.out 3).trans rfl; have hcz5_4 : w4.cell? ⟨gb105, 4, none⟩ = some (.int .i64 a0_4) := (blk_cell BK105.out 4).trans rfl; have hfz5_0 := blk_frozen BK105.out 0; have hfz5_1 := blk_frozen BK105.out 1; have hfz5_2 := blk_frozen BK105.out 2; have hfz5_3 := blk_frozen BK105.out 3; have hfz5_4 := blk_frozen BK105.out 4) | ((with_reducible refine gate_callee (f := 44) rfl ?_); refine goesL_ (some 5) rfl rfl Try.func44 (by kernel_rfl) rfl #[.string a0_0] rfl (by (try simp only [List.map_toArray, List.map_cons, List.map_nil]); first | done | rfl | (simp only [List.length_drop, List.length_take]; rfl)) ?_; (with_reducible refine (spec_hasZero.calls k a0_0 true _ A2.out).mono ?_); rintro e w' ⟨rfl, ⟨nd, rfl⟩⟩; refine ⟨_, rfl, ?_⟩))
    go_ret
    exact ⟨by first | rfl | (simp [errW_none, errW_some] <;> rfl) | (simp [*, errW_none, errW_some] <;> rfl), by repeat (first | (with_reducible first | exact HB.out | apply below_alloc | apply pw_below_drewN | apply below_drew1 | refine below_set ?_ GE105.out) | exact HB.out)⟩
  · replace c3 := Bool.eq_false_iff.mpr c3
    subst c3
    have H1 : (if (a0_0.size : Int) ≤ 100 then (if a0_2 ≥ 0 then (if a0_2 < 32768 then (if a0_3 ≥ (-2147483648) then (if a0_3 < 2147483648 then (if a0_4 = 0 then (some true) else (some (a0_4 == 1))) else (some false)) else (some false)) else (some false)) else (some false)) else (some false)) = some r := by rw [if_neg (show ¬ (false = true) by decide)] at H; exact H
    clear H
    have H := H1
    clear H1
    by_cases c6 : (a0_0.size : Int) ≤ 100
    · rw [if_pos c6] at H
      have c6b0 : decide ((a0_0.size : Int) ≤ 100) = true := decide_eq_true c6
      have c6b1 : decide (a0_0.size ≤ 100) = true := decide_eq_true (by omega)
      clear c6
      by_cases c7 : a0_2 ≥ 0
      · rw [if_pos c7] at H
        have c7b0 : decide (0 ≤ a0_2) = true := decide_eq_true c7
        clear c7
        by_cases c8 : a0_2 < 32768
        · rw [if_pos c8] at H
          have c8b0 : decide (a0_2 < 32768) = true := decide_eq_true c8
          clear c8
          by_cases c9 : a0_3 ≥ (-2147483648)
          · rw [if_pos c9] at H
            have c9b0 : decide ((-2147483648) ≤ a0_3) = true := decide_eq_true c9
            clear c9
            by_cases c10 : a0_3 < 2147483648
            · rw [if_pos c10] at H
              have c10b0 : decide (a0_3 < 2147483648) = true := decide_eq_true c10
              clear c10
              by_cases c11 : a0_4 = 0
              · rw [if_pos c11] at H
                have c11b0 : (a0_4 == 0) = true := beq_iff_eq.mpr c11
                have c11b1 : (a0_4 != 0) = false := bne_eq_false_iff_eq.mpr c11
                clear c11
                obtain rfl := Option.some.inj H
                go_enter Try.func18, Try.ntmps18
                go_wp2_with (first | ((with_reducible refine gate_dst (N := 1) rfl ?_); (try (refine gate_guard (by rfl) ?_; dsimp only)); refine box_event ?hg (N := 1) ?hd (cs := #[.string a0_0, .int .u32 a0_1, .int .i64 a0_2, .int .i64 a0_3, .int .i64 a0_4]) (t := 43) ?hr ?_; (case hd => rfl); (case hg => rfl); (case hr => first | (go_simp; done) | (go_simp; rfl)); intro gb105 hg w12 hbox hb; have n0_ := Aside0.mk (below_step (by repeat (first | (with_reducible first | exact HB.out | apply below_alloc | apply pw_below_drewN | apply below_drew1) | exact HB.out)) hb); have n1_ := Aside0.mk (hbox); have n2_ := Aside0.mk ((by rw [hg]; exact (below_size (by repeat (first | (with_reducible first | exact HB.out | apply below_alloc | apply pw_below_drewN | apply below_drew1) | exact HB.out))) : w.heap.size ≤ gb105)); have n3_ := Aside0.mk ((by rw [hg]; exact (below_size (by repeat (first | (with_reducible first | exact HB.out | apply below_alloc | apply pw_below_drewN | apply below_drew1) | exact HB.out))) : w.heap.size ≤ gb105)); clear HB; have HB := n0_; have BK105 := n1_; have GW105 := n2_; have GE105 := n3_; clear n0_ n1_ n2_ n3_; clear hb hbox hg; have hcz13_0 : w12.cell? ⟨gb105, 0, none⟩ = some (.string a0_0) := (blk_cell BK105.out 0).trans rfl; have hcz13_1 : w12.cell? ⟨gb105, 1, none⟩ = some (.int .u32 a0_1) := (blk_cell BK105.out 1).trans rfl; have hcz13_2 : w12.cell? ⟨gb105, 2, none⟩ = some (.int .i64 a0_2) := (blk_cell BK105.out 2).trans rfl; have hcz13_3 : w12.cell? ⟨gb105, 3, none⟩ = some (.int .i64 a0_3) := (blk_cell BK105.out 3).trans rfl; have hcz13_4 : w12.cell? ⟨gb105, 4, none⟩ = some (.int .i64 a0_4) := (blk_cell BK105.out 4).trans rfl; have hfz13_0 := blk_frozen BK105.out 0; have hfz13_1 := blk_frozen BK105.out 1; have hfz13_2 := blk_frozen BK105.out 2; have hfz13_3 := blk_frozen BK105.out 3; have hfz13_4 := blk_frozen BK105.out 4) | ((with_reducible refine gate_callee (f := 44) rfl ?_); refine goesL_ (some 5) rfl rfl Try.func44 (by kernel_rfl) rfl #[.string a0_0] rfl (by (try simp only [List.map_toArray, List.map_cons, List.map_nil]); first | done | rfl | (simp only [List.length_drop, List.length_take]; rfl)) ?_; (with_reducible refine (spec_hasZero.calls k a0_0 false _ A2.out).mono ?_); rintro e w' ⟨rfl, ⟨nd, rfl⟩⟩; refine ⟨_, rfl, ?_⟩))
                go_ret
                exact ⟨by first | rfl | (simp [errW_none, errW_some] <;> rfl) | (simp [*, errW_none, errW_some] <;> rfl), by repeat (first | (with_reducible first | exact HB.out | apply below_alloc | apply pw_below_drewN | apply below_drew1 | refine below_set ?_ GE105.out) | exact HB.out)⟩
              · rw [if_neg c11] at H
                have c11b0 : (a0_4 == 0) = false := beq_eq_false_iff_ne.mpr c11
                have c11b1 : (a0_4 != 0) = true := bne_iff_ne.mpr c11
                obtain rfl := Option.some.inj H
                go_enter Try.func18, Try.ntmps18
                go_wp2_with (first | ((with_reducible refine gate_dst (N := 1) rfl ?_); (try (refine gate_guard (by rfl) ?_; dsimp only)); refine box_event ?hg (N := 1) ?hd (cs := #[.string a0_0, .int .u32 a0_1, .int .i64 a0_2, .int .i64 a0_3, .int .i64 a0_4]) (t := 43) ?hr ?_; (case hd => rfl); (case hg => rfl); (case hr => first | (go_simp; done) | (go_simp; rfl)); intro gb105 hg w14 hbox hb; have n0_ := Aside0.mk (below_step (by repeat (first | (with_reducible first | exact HB.out | apply below_alloc | apply pw_below_drewN | apply below_drew1) | exact HB.out)) hb); have n1_ := Aside0.mk (hbox); have n2_ := Aside0.mk ((by rw [hg]; exact (below_size (by repeat (first | (with_reducible first | exact HB.out | apply below_alloc | apply pw_below_drewN | apply below_drew1) | exact HB.out))) : w.heap.size ≤ gb105)); have n3_ := Aside0.mk ((by rw [hg]; exact (below_size (by repeat (first | (with_reducible first | exact HB.out | apply below_alloc | apply pw_below_drewN | apply below_drew1) | exact HB.out))) : w.heap.size ≤ gb105)); clear HB; have HB := n0_; have BK105 := n1_; have GW105 := n2_; have GE105 := n3_; clear n0_ n1_ n2_ n3_; clear hb hbox hg; have hcz15_0 : w14.cell? ⟨gb105, 0, none⟩ = some (.string a0_0) := (blk_cell BK105.out 0).trans rfl; have hcz15_1 : w14.cell? ⟨gb105, 1, none⟩ = some (.int .u32 a0_1) := (blk_cell BK105.out 1).trans rfl; have hcz15_2 : w14.cell? ⟨gb105, 2, none⟩ = some (.int .i64 a0_2) := (blk_cell BK105.out 2).trans rfl; have hcz15_3 : w14.cell? ⟨gb105, 3, none⟩ = some (.int .i64 a0_3) := (blk_cell BK105.out 3).trans rfl; have hcz15_4 : w14.cell? ⟨gb105, 4, none⟩ = some (.int .i64 a0_4) := (blk_cell BK105.out 4).trans rfl; have hfz15_0 := blk_frozen BK105.out 0; have hfz15_1 := blk_frozen BK105.out 1; have hfz15_2 := blk_frozen BK105.out 2; have hfz15_3 := blk_frozen BK105.out 3; have hfz15_4 := blk_frozen BK105.out 4) | ((with_reducible refine gate_callee (f := 44) rfl ?_); refine goesL_ (some 5) rfl rfl Try.func44 (by kernel_rfl) rfl #[.string a0_0] rfl (by (try simp only [List.map_toArray, List.map_cons, List.map_nil]); first | done | rfl | (simp only [List.length_drop, List.length_take]; rfl)) ?_; (with_reducible refine (spec_hasZero.calls k a0_0 false _ A2.out).mono ?_); rintro e w' ⟨rfl, ⟨nd, rfl⟩⟩; refine ⟨_, rfl, ?_⟩))
                go_ret
                exact ⟨by first | rfl | (simp [errW_none, errW_some] <;> rfl) | (simp [*, errW_none, errW_some] <;> rfl), by repeat (first | (with_reducible first | exact HB.out | apply below_alloc | apply pw_below_drewN | apply below_drew1 | refine below_set ?_ GE105.out) | exact HB.out)⟩
            · rw [if_neg c10] at H
              have c10b0 : decide (a0_3 < 2147483648) = false := decide_eq_false c10
              clear c10
              obtain rfl := Option.some.inj H
              go_enter Try.func18, Try.ntmps18
              go_wp2_with (first | ((with_reducible refine gate_dst (N := 1) rfl ?_); (try (refine gate_guard (by rfl) ?_; dsimp only)); refine box_event ?hg (N := 1) ?hd (cs := #[.string a0_0, .int .u32 a0_1, .int .i64 a0_2, .int .i64 a0_3, .int .i64 a0_4]) (t := 43) ?hr ?_; (case hd => rfl); (case hg => rfl); (case hr => first | (go_simp; done) | (go_simp; rfl)); intro gb105 hg w16 hbox hb; have n0_ := Aside0.mk (below_step (by repeat (first | (with_reducible first | exact HB.out | apply below_alloc | apply pw_below_drewN | apply below_drew1) | exact HB.out)) hb); have n1_ := Aside0.mk (hbox); have n2_ := Aside0.mk ((by rw [hg]; exact (below_size (by repeat (first | (with_reducible first | exact HB.out | apply below_alloc | apply pw_below_drewN | apply below_drew1) | exact HB.out))) : w.heap.size ≤ gb105)); have n3_ := Aside0.mk ((by rw [hg]; exact (below_size (by repeat (first | (with_reducible first | exact HB.out | apply below_alloc | apply pw_below_drewN | apply below_drew1) | exact HB.out))) : w.heap.size ≤ gb105)); clear HB; have HB := n0_; have BK105 := n1_; have GW105 := n2_; have GE105 := n3_; clear n0_ n1_ n2_ n3_; clear hb hbox hg; have hcz17_0 : w16.cell? ⟨gb105, 0, none⟩ = some (.string a0_0) := (blk_cell BK105.out 0).trans rfl; have hcz17_1 : w16.cell? ⟨gb105, 1, none⟩ = some (.int .u32 a0_1) := (blk_cell BK105.out 1).trans rfl; have hcz17_2 : w16.cell? ⟨gb105, 2, none⟩ = some (.int .i64 a0_2) := (blk_cell BK105.out 2).trans rfl; have hcz17_3 : w16.cell? ⟨gb105, 3, none⟩ = some (.int .i64 a0_3) := (blk_cell BK105.out 3).trans rfl; have hcz17_4 : w16.cell? ⟨gb105, 4, none⟩ = some (.int .i64 a0_4) := (blk_cell BK105.out 4).trans rfl; have hfz17_0 := blk_frozen BK105.out 0; have hfz17_1 := blk_frozen BK105.out 1; have hfz17_2 := blk_frozen BK105.out 2; have hfz17_3 := blk_frozen BK105.out 3; have hfz17_4 := blk_frozen BK105.out 4) | ((with_reducible refine gate_callee (f := 44) rfl ?_); refine goesL_ (some 5) rfl rfl Try.func44 (by kernel_rfl) rfl #[.string a0_0] rfl (by (try simp only [List.map_toArray, List.map_cons, List.map_nil]); first | done | rfl | (simp only [List.length_drop, List.length_take]; rfl)) ?_; (with_reducible refine (spec_hasZero.calls k a0_0 false _ A2.out).mono ?_); rintro e w' ⟨rfl, ⟨nd, rfl⟩⟩; refine ⟨_, rfl, ?_⟩))
              go_ret
              exact ⟨by first | rfl | (simp [errW_none, errW_some] <;> rfl) | (simp [*, errW_none, errW_some] <;> rfl), by repeat (first | (with_reducible first | exact HB.out | apply below_alloc | apply pw_below_drewN | apply below_drew1 | refine below_set ?_ GE105.out) | exact HB.out)⟩
          · rw [if_neg c9] at H
            have c9b0 : decide ((-2147483648) ≤ a0_3) = false := decide_eq_false c9
            clear c9
            obtain rfl := Option.some.inj H
            go_enter Try.func18, Try.ntmps18
            go_wp2_with (first | ((with_reducible refine gate_dst (N := 1) rfl ?_); (try (refine gate_guard (by rfl) ?_; dsimp only)); refine box_event ?hg (N := 1) ?hd (cs := #[.string a0_0, .int .u32 a0_1, .int .i64 a0_2, .int .i64 a0_3, .int .i64 a0_4]) (t := 43) ?hr ?_; (case hd => rfl); (case hg => rfl); (case hr => first | (go_simp; done) | (go_simp; rfl)); intro gb105 hg w18 hbox hb; have n0_ := Aside0.mk (below_step (by repeat (first | (with_reducible first | exact HB.out | apply below_alloc | apply pw_below_drewN | apply below_drew1) | exact HB.out)) hb); have n1_ := Aside0.mk (hbox); have n2_ := Aside0.mk ((by rw [hg]; exact (below_size (by repeat (first | (with_reducible first | exact HB.out | apply below_alloc | apply pw_below_drewN | apply below_drew1) | exact HB.out))) : w.heap.size ≤ gb105)); have n3_ := Aside0.mk ((by rw [hg]; exact (below_size (by repeat (first | (with_reducible first | exact HB.out | apply below_alloc | apply pw_below_drewN | apply below_drew1) | exact HB.out))) : w.heap.size ≤ gb105)); clear HB; have HB := n0_; have BK105 := n1_; have GW105 := n2_; have GE105 := n3_; clear n0_ n1_ n2_ n3_; clear hb hbox hg; have hcz19_0 : w18.cell? ⟨gb105, 0, none⟩ = some (.string a0_0) := (blk_cell BK105.out 0).trans rfl; have hcz19_1 : w18.cell? ⟨gb105, 1, none⟩ = some (.int .u32 a0_1) := (blk_cell BK105.out 1).trans rfl; have hcz19_2 : w18.cell? ⟨gb105, 2, none⟩ = some (.int .i64 a0_2) := (blk_cell BK105.out 2).trans rfl; have hcz19_3 : w18.cell? ⟨gb105, 3, none⟩ = some (.int .i64 a0_3) := (blk_cell BK105.out 3).trans rfl; have hcz19_4 : w18.cell? ⟨gb105, 4, none⟩ = some (.int .i64 a0_4) := (blk_cell BK105.out 4).trans rfl; have hfz19_0 := blk_frozen BK105.out 0; have hfz19_1 := blk_frozen BK105.out 1; have hfz19_2 := blk_frozen BK105.out 2; have hfz19_3 := blk_frozen BK105.out 3; have hfz19_4 := blk_frozen BK105.out 4) | ((with_reducible refine gate_callee (f := 44) rfl ?_); refine goesL_ (some 5) rfl rfl Try.func44 (by kernel_rfl) rfl #[.string a0_0] rfl (by (try simp only [List.map_toArray, List.map_cons, List.map_nil]); first | done | rfl | (simp only [List.length_drop, List.length_take]; rfl)) ?_; (with_reducible refine (spec_hasZero.calls k a0_0 false _ A2.out).mono ?_); rintro e w' ⟨rfl, ⟨nd, rfl⟩⟩; refine ⟨_, rfl, ?_⟩))
            go_ret
            exact ⟨by first | rfl | (simp [errW_none, errW_some] <;> rfl) | (simp [*, errW_none, errW_some] <;> rfl), by repeat (first | (with_reducible first | exact HB.out | apply below_alloc | apply pw_below_drewN | apply below_drew1 | refine below_set ?_ GE105.out) | exact HB.out)⟩
        · rw [if_neg c8] at H
          have c8b0 : decide (a0_2 < 32768) = false := decide_eq_false c8
          clear c8
          obtain rfl := Option.some.inj H
          go_enter Try.func18, Try.ntmps18
          go_wp2_with (first | ((with_reducible refine gate_dst (N := 1) rfl ?_); (try (refine gate_guard (by rfl) ?_; dsimp only)); refine box_event ?hg (N := 1) ?hd (cs := #[.string a0_0, .int .u32 a0_1, .int .i64 a0_2, .int .i64 a0_3, .int .i64 a0_4]) (t := 43) ?hr ?_; (case hd => rfl); (case hg => rfl); (case hr => first | (go_simp; done) | (go_simp; rfl)); intro gb105 hg w20 hbox hb; have n0_ := Aside0.mk (below_step (by repeat (first | (with_reducible first | exact HB.out | apply below_alloc | apply pw_below_drewN | apply below_drew1) | exact HB.out)) hb); have n1_ := Aside0.mk (hbox); have n2_ := Aside0.mk ((by rw [hg]; exact (below_size (by repeat (first | (with_reducible first | exact HB.out | apply below_alloc | apply pw_below_drewN | apply below_drew1) | exact HB.out))) : w.heap.size ≤ gb105)); have n3_ := Aside0.mk ((by rw [hg]; exact (below_size (by repeat (first | (with_reducible first | exact HB.out | apply below_alloc | apply pw_below_drewN | apply below_drew1) | exact HB.out))) : w.heap.size ≤ gb105)); clear HB; have HB := n0_; have BK105 := n1_; have GW105 := n2_; have GE105 := n3_; clear n0_ n1_ n2_ n3_; clear hb hbox hg; have hcz21_0 : w20.cell? ⟨gb105, 0, none⟩ = some (.string a0_0) := (blk_cell BK105.out 0).trans rfl; have hcz21_1 : w20.cell? ⟨gb105, 1, none⟩ = some (.int .u32 a0_1) := (blk_cell BK105.out 1).trans rfl; have hcz21_2 : w20.cell? ⟨gb105, 2, none⟩ = some (.int .i64 a0_2) := (blk_cell BK105.out 2).trans rfl; have hcz21_3 : w20.cell? ⟨gb105, 3, none⟩ = some (.int .i64 a0_3) := (blk_cell BK105.out 3).trans rfl; have hcz21_4 : w20.cell? ⟨gb105, 4, none⟩ = some (.int .i64 a0_4) := (blk_cell BK105.out 4).trans rfl; have hfz21_0 := blk_frozen BK105.out 0; have hfz21_1 := blk_frozen BK105.out 1; have hfz21_2 := blk_frozen BK105.out 2; have hfz21_3 := blk_frozen BK105.out 3; have hfz21_4 := blk_frozen BK105.out 4) | ((with_reducible refine gate_callee (f := 44) rfl ?_); refine goesL_ (some 5) rfl rfl Try.func44 (by kernel_rfl) rfl #[.string a0_0] rfl (by (try simp only [List.map_toArray, List.map_cons, List.map_nil]); first | done | rfl | (simp only [List.length_drop, List.length_take]; rfl)) ?_; (with_reducible refine (spec_hasZero.calls k a0_0 false _ A2.out).mono ?_); rintro e w' ⟨rfl, ⟨nd, rfl⟩⟩; refine ⟨_, rfl, ?_⟩))
          go_ret
          exact ⟨by first | rfl | (simp [errW_none, errW_some] <;> rfl) | (simp [*, errW_none, errW_some] <;> rfl), by repeat (first | (with_reducible first | exact HB.out | apply below_alloc | apply pw_below_drewN | apply below_drew1 | refine below_set ?_ GE105.out) | exact HB.out)⟩
      · rw [if_neg c7] at H
        have c7b0 : decide (0 ≤ a0_2) = false := decide_eq_false c7
        clear c7
        obtain rfl := Option.some.inj H
        go_enter Try.func18, Try.ntmps18
        go_wp2_with (first | ((with_reducible refine gate_dst (N := 1) rfl ?_); (try (refine gate_guard (by rfl) ?_; dsimp only)); refine box_event ?hg (N := 1) ?hd (cs := #[.string a0_0, .int .u32 a0_1, .int .i64 a0_2, .int .i64 a0_3, .int .i64 a0_4]) (t := 43) ?hr ?_; (case hd => rfl); (case hg => rfl); (case hr => first | (go_simp; done) | (go_simp; rfl)); intro gb105 hg w22 hbox hb; have n0_ := Aside0.mk (below_step (by repeat (first | (with_reducible first | exact HB.out | apply below_alloc | apply pw_below_drewN | apply below_drew1) | exact HB.out)) hb); have n1_ := Aside0.mk (hbox); have n2_ := Aside0.mk ((by rw [hg]; exact (below_size (by repeat (first | (with_reducible first | exact HB.out | apply below_alloc | apply pw_below_drewN | apply below_drew1) | exact HB.out))) : w.heap.size ≤ gb105)); have n3_ := Aside0.mk ((by rw [hg]; exact (below_size (by repeat (first | (with_reducible first | exact HB.out | apply below_alloc | apply pw_below_drewN | apply below_drew1) | exact HB.out))) : w.heap.size ≤ gb105)); clear HB; have HB := n0_; have BK105 := n1_; have GW105 := n2_; have GE105 := n3_; clear n0_ n1_ n2_ n3_; clear hb hbox hg; have hcz23_0 : w22.cell? ⟨gb105, 0, none⟩ = some (.string a0_0) := (blk_cell BK105.out 0).trans rfl; have hcz23_1 : w22.cell? ⟨gb105, 1, none⟩ = some (.int .u32 a0_1) := (blk_cell BK105.out 1).trans rfl; have hcz23_2 : w22.cell? ⟨gb105, 2, none⟩ = some (.int .i64 a0_2) := (blk_cell BK105.out 2).trans rfl; have hcz23_3 : w22.cell? ⟨gb105, 3, none⟩ = some (.int .i64 a0_3) := (blk_cell BK105.out 3).trans rfl; have hcz23_4 : w22.cell? ⟨gb105, 4, none⟩ = some (.int .i64 a0_4) := (blk_cell BK105.out 4).trans rfl; have hfz23_0 := blk_frozen BK105.out 0; have hfz23_1 := blk_frozen BK105.out 1; have hfz23_2 := blk_frozen BK105.out 2; have hfz23_3 := blk_frozen BK105.out 3; have hfz23_4 := blk_frozen BK105.out 4) | ((with_reducible refine gate_callee (f := 44) rfl ?_); refine goesL_ (some 5) rfl rfl Try.func44 (by kernel_rfl) rfl #[.string a0_0] rfl (by (try simp only [List.map_toArray, List.map_cons, List.map_nil]); first | done | rfl | (simp only [List.length_drop, List.length_take]; rfl)) ?_; (with_reducible refine (spec_hasZero.calls k a0_0 false _ A2.out).mono ?_); rintro e w' ⟨rfl, ⟨nd, rfl⟩⟩; refine ⟨_, rfl, ?_⟩))
        go_ret
        exact ⟨by first | rfl | (simp [errW_none, errW_some] <;> rfl) | (simp [*, errW_none, errW_some] <;> rfl), by repeat (first | (with_reducible first | exact HB.out | apply below_alloc | apply pw_below_drewN | apply below_drew1 | refine below_set ?_ GE105.out) | exact HB.out)⟩
    · rw [if_neg c6] at H
      have c6b0 : decide ((a0_0.size : Int) ≤ 100) = false := decide_eq_false c6
      have c6b1 : decide (a0_0.size ≤ 100) = false := decide_eq_false (by omega)
      clear c6
      obtain rfl := Option.some.inj H
      go_enter Try.func18, Try.ntmps18
      go_wp2_with (first | ((with_reducible refine gate_dst (N := 1) rfl ?_); (try (refine gate_guard (by rfl) ?_; dsimp only)); refine box_event ?hg (N := 1) ?hd (cs := #[.string a0_0, .int .u32 a0_1, .int .i64 a0_2, .int .i64 a0_3, .int .i64 a0_4]) (t := 43) ?hr ?_; (case hd => rfl); (case hg => rfl); (case hr => first | (go_simp; done) | (go_simp; rfl)); intro gb105 hg w24 hbox hb; have n0_ := Aside0.mk (below_step (by repeat (first | (with_reducible first | exact HB.out | apply below_alloc | apply pw_below_drewN | apply below_drew1) | exact HB.out)) hb); have n1_ := Aside0.mk (hbox); have n2_ := Aside0.mk ((by rw [hg]; exact (below_size (by repeat (first | (with_reducible first | exact HB.out | apply below_alloc | apply pw_below_drewN | apply below_drew1) | exact HB.out))) : w.heap.size ≤ gb105)); have n3_ := Aside0.mk ((by rw [hg]; exact (below_size (by repeat (first | (with_reducible first | exact HB.out | apply below_alloc | apply pw_below_drewN | apply below_drew1) | exact HB.out))) : w.heap.size ≤ gb105)); clear HB; have HB := n0_; have BK105 := n1_; have GW105 := n2_; have GE105 := n3_; clear n0_ n1_ n2_ n3_; clear hb hbox hg; have hcz25_0 : w24.cell? ⟨gb105, 0, none⟩ = some (.string a0_0) := (blk_cell BK105.out 0).trans rfl; have hcz25_1 : w24.cell? ⟨gb105, 1, none⟩ = some (.int .u32 a0_1) := (blk_cell BK105.out 1).trans rfl; have hcz25_2 : w24.cell? ⟨gb105, 2, none⟩ = some (.int .i64 a0_2) := (blk_cell BK105.out 2).trans rfl; have hcz25_3 : w24.cell? ⟨gb105, 3, none⟩ = some (.int .i64 a0_3) := (blk_cell BK105.out 3).trans rfl; have hcz25_4 : w24.cell? ⟨gb105, 4, none⟩ = some (.int .i64 a0_4) := (blk_cell BK105.out 4).trans rfl; have hfz25_0 := blk_frozen BK105.out 0; have hfz25_1 := blk_frozen BK105.out 1; have hfz25_2 := blk_frozen BK105.out 2; have hfz25_3 := blk_frozen BK105.out 3; have hfz25_4 := blk_frozen BK105.out 4) | ((with_reducible refine gate_callee (f := 44) rfl ?_); refine goesL_ (some 5) rfl rfl Try.func44 (by kernel_rfl) rfl #[.string a0_0] rfl (by (try simp only [List.map_toArray, List.map_cons, List.map_nil]); first | done | rfl | (simp only [List.length_drop, List.length_take]; rfl)) ?_; (with_reducible refine (spec_hasZero.calls k a0_0 false _ A2.out).mono ?_); rintro e w' ⟨rfl, ⟨nd, rfl⟩⟩; refine ⟨_, rfl, ?_⟩))
      go_ret
      exact ⟨by first | rfl | (simp [errW_none, errW_some] <;> rfl) | (simp [*, errW_none, errW_some] <;> rfl), by repeat (first | (with_reducible first | exact HB.out | apply below_alloc | apply pw_below_drewN | apply below_drew1 | refine below_set ?_ GE105.out) | exact HB.out)⟩

end Go.Proofs.Ythcikkjjegfblab.P
