-- Written by the program wip/myprint.py of this session, over the kit's print of the translation. Lean checks it.
import Derived.Test.YthcikkjjegfblabPx0
namespace Go.Proofs.Ythcikkjjegfblab.P
open Go.RowKit Go.Proofs.YthcikkjjegfblabW.PrintWords Go.Proofs.YthcikkjjegfblabW.PrintLast Go.Proofs.YthcikkjjegfblabW.PrintMore
attribute [local go_sem] max2_int min2_int max_two min_two max_three min_three max_four min_four   -- for this text's walks alone
set_option linter.unusedVariables false
set_option linter.unusedSimpArgs false

/-! ### laws_zzFits8: function 28 -/
def laws_zzFits8.f (a0_0 : Int) (a0_1 : Int) (a0_2 : ByteArray) : Option (Bool) := if (a0_2.size : Int) > 2147483647 then (some false) else (some true)
set_option maxHeartbeats 8000000 in
set_option maxRecDepth 100000 in
theorem laws_zzFits8.calls (a0_0 : Int) (a0_1 : Int) (a0_2 : ByteArray) (r : Bool) (w : World) (h : laws_zzFits8.f a0_0 a0_1 a0_2 = some r) :
    Calls Try.prog 28 #[.agg #[.int .i64 a0_0, .int .i64 a0_1, .string a0_2]] w fun e w' => e = .returned (.bool r) ∧ Below w.heap.size w w' := by
  have hu25 := Try.underlying25
  have HB := Aside0.mk (Below.refl w.heap.size w)
  have H : (if (a0_2.size : Int) > 2147483647 then (some false) else (some true)) = some r := h
  clear h
  by_cases c2 : (a0_2.size : Int) > 2147483647
  · rw [if_pos c2] at H
    have c2b0 : decide (2147483647 < (a0_2.size : Int)) = true := decide_eq_true c2
    have c2b1 : decide (2147483647 < a0_2.size) = true := decide_eq_true (by omega)
    clear c2
    obtain rfl := Option.some.inj H
    go_enter Try.func28, Try.ntmps28
    go_wp2_with (first | ((with_reducible refine gate_dst (N := 1) rfl ?_); refine box_event ?hg (N := 1) ?hd (cs := #[.int .i64 a0_0, .int .i64 a0_1, .string a0_2]) (t := 25) ?hr ?_; (case hd => rfl); (case hg => rfl); (case hr => first | (go_simp; done) | (go_simp; rfl)); intro gb101 hg w3 hbox hb; have n0_ := Aside0.mk (below_step (by repeat (first | (with_reducible first | exact HB.out | apply below_alloc | apply pw_below_drewN | apply below_drew1) | exact HB.out)) hb); have n1_ := Aside0.mk (hbox); have n2_ := Aside0.mk ((by rw [hg]; exact (below_size (by repeat (first | (with_reducible first | exact HB.out | apply below_alloc | apply pw_below_drewN | apply below_drew1) | exact HB.out))) : w.heap.size ≤ gb101)); have n3_ := Aside0.mk ((by rw [hg]; exact (below_size (by repeat (first | (with_reducible first | exact HB.out | apply below_alloc | apply pw_below_drewN | apply below_drew1) | exact HB.out))) : w.heap.size ≤ gb101)); clear HB; have HB := n0_; have BK101 := n1_; have GW101 := n2_; have GE101 := n3_; clear n0_ n1_ n2_ n3_; clear hb hbox hg; have hcz4_0 : w3.cell? ⟨gb101, 0, none⟩ = some (.int .i64 a0_0) := (blk_cell BK101.out 0).trans rfl; have hcz4_1 : w3.cell? ⟨gb101, 1, none⟩ = some (.int .i64 a0_1) := (blk_cell BK101.out 1).trans rfl; have hcz4_2 : w3.cell? ⟨gb101, 2, none⟩ = some (.string a0_2) := (blk_cell BK101.out 2).trans rfl; have hfz4_0 := blk_frozen BK101.out 0; have hfz4_1 := blk_frozen BK101.out 1; have hfz4_2 := blk_frozen BK101.out 2))
    go_ret
    exact ⟨by first | rfl | (simp [errW_none, errW_some] <;> rfl) | (simp [*, errW_none, errW_some] <;> rfl), by repeat (first | (with_reducible first | exact HB.out | apply below_alloc | apply pw_below_drewN | apply below_drew1 | refine below_set ?_ GE101.out) | exact HB.out)⟩
  · rw [if_neg c2] at H
    have c2b0 : decide (2147483647 < (a0_2.size : Int)) = false := decide_eq_false c2
    have c2b1 : decide (2147483647 < a0_2.size) = false := decide_eq_false (by omega)
    clear c2
    obtain rfl := Option.some.inj H
    go_enter Try.func28, Try.ntmps28
    go_wp2_with (first | ((with_reducible refine gate_dst (N := 1) rfl ?_); refine box_event ?hg (N := 1) ?hd (cs := #[.int .i64 a0_0, .int .i64 a0_1, .string a0_2]) (t := 25) ?hr ?_; (case hd => rfl); (case hg => rfl); (case hr => first | (go_simp; done) | (go_simp; rfl)); intro gb101 hg w5 hbox hb; have n0_ := Aside0.mk (below_step (by repeat (first | (with_reducible first | exact HB.out | apply below_alloc | apply pw_below_drewN | apply below_drew1) | exact HB.out)) hb); have n1_ := Aside0.mk (hbox); have n2_ := Aside0.mk ((by rw [hg]; exact (below_size (by repeat (first | (with_reducible first | exact HB.out | apply below_alloc | apply pw_below_drewN | apply below_drew1) | exact HB.out))) : w.heap.size ≤ gb101)); have n3_ := Aside0.mk ((by rw [hg]; exact (below_size (by repeat (first | (with_reducible first | exact HB.out | apply below_alloc | apply pw_below_drewN | apply below_drew1) | exact HB.out))) : w.heap.size ≤ gb101)); clear HB; have HB := n0_; have BK101 := n1_; have GW101 := n2_; have GE101 := n3_; clear n0_ n1_ n2_ n3_; clear hb hbox hg; have hcz6_0 : w5.cell? ⟨gb101, 0, none⟩ = some (.int .i64 a0_0) := (blk_cell BK101.out 0).trans rfl; have hcz6_1 : w5.cell? ⟨gb101, 1, none⟩ = some (.int .i64 a0_1) := (blk_cell BK101.out 1).trans rfl; have hcz6_2 : w5.cell? ⟨gb101, 2, none⟩ = some (.string a0_2) := (blk_cell BK101.out 2).trans rfl; have hfz6_0 := blk_frozen BK101.out 0; have hfz6_1 := blk_frozen BK101.out 1; have hfz6_2 := blk_frozen BK101.out 2))
    go_ret
    exact ⟨by first | rfl | (simp [errW_none, errW_some] <;> rfl) | (simp [*, errW_none, errW_some] <;> rfl), by repeat (first | (with_reducible first | exact HB.out | apply below_alloc | apply pw_below_drewN | apply below_drew1 | refine below_set ?_ GE101.out) | exact HB.out)⟩

/-! ### laws_zzFits7: function 9 -/
def laws_zzFits7.l0 : Nat → List (S25) → Int → Int → Option (Bool)
  | 0, _, _, _ => none
  | k + 1, x8, x9, x10 => if x10 < x9 then (if 0 ≤ x10 then (if x10 < (x8.length : Int) then ((laws_zzFits8.f ((rd_T25 x8 x10).f0) ((rd_T25 x8 x10).f1) ((rd_T25 x8 x10).f2)).bind fun t104 => (if t104 = true then (laws_zzFits7.l0 k x8 x9 (wrap64 (x10 + 1))) else (some false))) else (none)) else (none)) else (some true)
def laws_zzFits7.f (k : Nat) (l0 : List (S25)) : Option (Bool) := if (l0.length : Int) > 2147483647 then (some false) else (laws_zzFits7.l0 k l0 (l0.length : Int) 0)
theorem laws_zzFits7.mono_l : ∀ k, (∀ y0 y1 y2, LeO (laws_zzFits7.l0 k y0 y1 y2) (laws_zzFits7.l0 (k + 1) y0 y1 y2))
  | 0 => fun _ _ _ r h => by simp [laws_zzFits7.l0] at h
  | k + 1 => by
    have ih0 := laws_zzFits7.mono_l k
    · intro y0 y1 y2
      unfold laws_zzFits7.l0
      repeat' first
      | (with_reducible exact ih0 _ _ _)
      | (with_reducible exact LeO.refl _)
      | (with_reducible exact LeO.none _)
      | (with_reducible refine LeO.ite ?_ ?_)
      | (with_reducible refine LeO.bind ?_ (fun _ => ?_))
      | exact ih0 _ _ _
      | exact LeO.none _
      | refine LeO.ite ?_ ?_
      | refine LeO.bind ?_ (fun _ => ?_)
theorem laws_zzFits7.mono : ∀ a0 k, LeO (laws_zzFits7.f k a0) (laws_zzFits7.f (k + 1) a0) := by
  intro a0 k
  have ih0 := laws_zzFits7.mono_l k
  unfold laws_zzFits7.f
  repeat' first
      | (with_reducible exact ih0 _ _ _)
      | (with_reducible exact LeO.refl _)
      | (with_reducible exact LeO.none _)
      | (with_reducible refine LeO.ite ?_ ?_)
      | (with_reducible refine LeO.bind ?_ (fun _ => ?_))
      | exact ih0 _ _ _
      | exact LeO.none _
      | refine LeO.ite ?_ ?_
      | refine LeO.bind ?_ (fun _ => ?_)
set_option maxHeartbeats 8000000 in
set_option maxRecDepth 100000 in
theorem laws_zzFits7.calls (k : Nat) (A0 : Option Addr) (c0 : Nat) (l0 : List (S25)) (r : Bool) (w : World) (hr0 : Kd.C k25 w A0 l0.length l0) (hc0 : l0.length ≤ c0) (h : laws_zzFits7.f k l0 = some r) :
    Calls Try.prog 9 #[.slice A0 l0.length c0] w fun e w' => e = .returned (.bool r) ∧ Below w.heap.size w w' := by
  have hu25 := Try.underlying25
  have HR0 := Aside0.mk hr0
  have HC0 := Aside0.mk hc0
  clear hr0 hc0
  have HB := Aside0.mk (Below.refl w.heap.size w)
  have H : (if (l0.length : Int) > 2147483647 then (some false) else (laws_zzFits7.l0 k l0 (l0.length : Int) 0)) = some r := h
  clear h
  by_cases c2 : (l0.length : Int) > 2147483647
  · rw [if_pos c2] at H
    have c2b0 : decide (2147483647 < (l0.length : Int)) = true := decide_eq_true c2
    have c2b1 : decide (2147483647 < l0.length) = true := decide_eq_true (by omega)
    clear c2
    obtain rfl := Option.some.inj H
    go_enter Try.func9, Try.ntmps9
    go_wp2
    go_ret
    exact ⟨by first | rfl | (simp [errW_none, errW_some] <;> rfl) | (simp [*, errW_none, errW_some] <;> rfl), by repeat (first | (with_reducible first | exact HB.out | apply below_alloc | apply pw_below_drewN | apply below_drew1) | exact HB.out)⟩
  · rw [if_neg c2] at H
    have c2b0 : decide (2147483647 < (l0.length : Int)) = false := decide_eq_false c2
    have c2b1 : decide (2147483647 < l0.length) = false := decide_eq_false (by omega)
    clear c2
    have H' := Aside0.mk H
    clear H
    go_enter Try.func9, Try.ntmps9
    go_wp2
    go_loopg [10] k (fun kq v10 w' => ∃ (x10_1 : Int), v10 = .int .i64 x10_1 ∧ Aside0 (laws_zzFits7.l0 kq l0 (l0.length : Int) x10_1 = some r) ∧ Aside0 (kq ≤ k) ∧ Aside0 (Below w.heap.size w w'))
    case atStart => exact ⟨(0), (by first | rfl | (simp; done) | (simp [*]; done)), H', ⟨Nat.le_refl _⟩, ⟨by repeat (first | (with_reducible first | exact HB.out | apply below_alloc | apply pw_below_drewN | apply below_drew1) | exact HB.out)⟩⟩
    case round =>
      clear H'
      try clear c2
      try clear c2b0
      try clear c2b1
      try clear p2
      obtain ⟨x10_1, rfl, HA, HK1, HB⟩ := hrel
      cases gk with
      | zero => exact absurd HA.out (by simp [laws_zzFits7.l0])
      | succ k1 =>
        have H := HA.out
        clear HA
        simp only [laws_zzFits7.l0] at H
        by_cases c3 : x10_1 < (l0.length : Int)
        · rw [if_pos c3] at H
          have c3b0 : decide (x10_1 < (l0.length : Int)) = true := decide_eq_true c3
          clear c3
          by_cases c4 : 0 ≤ x10_1
          · rw [if_pos c4] at H
            have c4b0 : decide (0 ≤ x10_1) = true := decide_eq_true c4
            clear c4
            by_cases c5 : x10_1 < (l0.length : Int)
            · rw [if_pos c5] at H
              have c5b0 : decide (x10_1 < (l0.length : Int)) = true := decide_eq_true c5
              clear c5
              replace H := Option.bind_eq_some_iff.mp H
              obtain ⟨t104, A60, H⟩ := H
              replace H : (if t104 = true then (laws_zzFits7.l0 k1 l0 (l0.length : Int) (wrap64 (x10_1 + 1))) else (some false)) = some r := H
              have A6 := Aside0.mk A60
              clear A60
              by_cases c7 : t104 = true
              · subst c7
                have H1 : (laws_zzFits7.l0 k1 l0 (l0.length : Int) (wrap64 (x10_1 + 1))) = some r := by rw [if_pos rfl] at H; exact H
                clear H
                have H := H1
                clear H1
                have H' := Aside0.mk H
                clear H
                have p102 : 0 ≤ (x10_1 : Int) := of_decide_eq_true (by first | (with_reducible assumption) | assumption)
                have q102 : x10_1 < (l0.length : Int) := of_decide_eq_true (by first | (with_reducible assumption) | assumption)
                obtain ⟨ad102, e102, hx102_0, hx102_1, hx102_2⟩ := at_T25 HR0.out x10_1 p102 q102
                cases e102
                replace hx102_0 := (HB.out.cell (World.block_lt_of_cell? w _ hx102_0)).trans hx102_0
                replace hx102_1 := (HB.out.cell (World.block_lt_of_cell? w _ hx102_1)).trans hx102_1
                replace hx102_2 := (HB.out.cell (World.block_lt_of_cell? w _ hx102_2)).trans hx102_2
                replace p102 := eq_true p102
                replace q102 := eq_true q102
                go_wp2_with (first | ((with_reducible refine gate_dst (N := 4) rfl ?_); refine box_event ?hg (N := 4) ?hd (cs := #[.int .i64 0, .int .i64 0, .string (⟨#[]⟩ : ByteArray)]) (t := 25) ?hr ?_; (case hd => rfl); (case hg => rfl); (case hr => first | (go_simp; done) | (go_simp; rfl)); intro gb103 hg w8 hbox hb; have n0_ := Aside0.mk (below_step (by repeat (first | (with_reducible first | exact HB.out | apply below_alloc | apply pw_below_drewN | apply below_drew1) | exact HB.out)) hb); have n1_ := Aside0.mk (hbox); have n2_ := Aside0.mk ((by rw [hg]; exact (below_size (by repeat (first | (with_reducible first | exact HB.out | apply below_alloc | apply pw_below_drewN | apply below_drew1) | exact HB.out))) : w.heap.size ≤ gb103)); have n3_ := Aside0.mk ((by rw [hg]; exact (below_size (by repeat (first | (with_reducible first | exact HB.out | apply below_alloc | apply pw_below_drewN | apply below_drew1) | exact HB.out))) : w.heap.size ≤ gb103)); clear HB; have HB := n0_; have BK103 := n1_; have GW103 := n2_; have GE103 := n3_; clear n0_ n1_ n2_ n3_; clear hb hbox hg; have hcz9_0 : w8.cell? ⟨gb103, 0, none⟩ = some (.int .i64 0) := (blk_cell BK103.out 0).trans rfl; have hcz9_1 : w8.cell? ⟨gb103, 1, none⟩ = some (.int .i64 0) := (blk_cell BK103.out 1).trans rfl; have hcz9_2 : w8.cell? ⟨gb103, 2, none⟩ = some (.string (⟨#[]⟩ : ByteArray)) := (blk_cell BK103.out 2).trans rfl; have hfz9_0 := blk_frozen BK103.out 0; have hfz9_1 := blk_frozen BK103.out 1; have hfz9_2 := blk_frozen BK103.out 2) | ((with_reducible refine gate_callee (f := 28) rfl ?_); refine goesL_ (some 15) rfl rfl Try.func28 (by kernel_rfl) rfl #[.agg #[.int .i64 ((rd_T25 l0 x10_1).f0), .int .i64 ((rd_T25 l0 x10_1).f1), .string ((rd_T25 l0 x10_1).f2)]] rfl (by (try simp only [List.map_toArray, List.map_cons, List.map_nil]); first | done | rfl | (simp only [List.length_drop, List.length_take]; rfl)) ?_; (with_reducible refine (laws_zzFits8.calls ((rd_T25 l0 x10_1).f0) ((rd_T25 l0 x10_1).f1) ((rd_T25 l0 x10_1).f2) true _ A6.out).mono ?_); rintro e w10 ⟨rfl, hb⟩; refine ⟨_, rfl, ?_⟩; have n0_ := Aside0.mk (blk_below (g := gb103) (o := .cells #[.int .i64 ((rd_T25 l0 x10_1).f0), .int .i64 ((rd_T25 l0 x10_1).f1), .string ((rd_T25 l0 x10_1).f2)] 25 (0, 0)) (by (with_reducible repeat (first | refine blk_drewN ?_ _ | refine blk_drew ?_ | refine blk_alloc ?_ _)); refine blk_put (cs := #[.int .i64 ((rd_T25 l0 x10_1).f0), .int .i64 ((rd_T25 l0 x10_1).f1), .string (⟨#[]⟩ : ByteArray)]) ?_ 2 _ rfl; (with_reducible repeat (first | refine blk_drewN ?_ _ | refine blk_drew ?_ | refine blk_alloc ?_ _)); refine blk_put (cs := #[.int .i64 ((rd_T25 l0 x10_1).f0), .int .i64 0, .string (⟨#[]⟩ : ByteArray)]) ?_ 1 _ rfl; (with_reducible repeat (first | refine blk_drewN ?_ _ | refine blk_drew ?_ | refine blk_alloc ?_ _)); refine blk_put (cs := #[.int .i64 0, .int .i64 0, .string (⟨#[]⟩ : ByteArray)]) ?_ 0 _ rfl; (with_reducible repeat (first | refine blk_drewN ?_ _ | refine blk_drew ?_ | refine blk_alloc ?_ _)); exact BK103.out) hb); have n1_ := Aside0.mk (below_step (by repeat (first | (with_reducible first | exact HB.out | apply below_alloc | apply pw_below_drewN | apply below_drew1 | refine below_set ?_ GE103.out) | exact HB.out)) hb); clear BK103; clear HB; have BK103 := n0_; have HB := n1_; clear n0_ n1_; (try clear hb); (try clear hb2); (try clear hk); (try clear hi)))
                go_roundg k1
                case measure => have := HK1.out; omega
                case rel => exact ⟨(wrap64 (x10_1 + 1)), (by first | rfl | (simp; done) | (simp [*]; done)), H', ⟨by have := HK1.out; omega⟩, ⟨by repeat (first | (with_reducible first | exact HB.out | apply below_alloc | apply pw_below_drewN | apply below_drew1 | refine below_set ?_ GE103.out) | exact HB.out)⟩⟩
              · replace c7 := Bool.eq_false_iff.mpr c7
                subst c7
                have H1 : (some false) = some r := by rw [if_neg (show ¬ (false = true) by decide)] at H; exact H
                clear H
                have H := H1
                clear H1
                obtain rfl := Option.some.inj H
                have p102 : 0 ≤ (x10_1 : Int) := of_decide_eq_true (by first | (with_reducible assumption) | assumption)
                have q102 : x10_1 < (l0.length : Int) := of_decide_eq_true (by first | (with_reducible assumption) | assumption)
                obtain ⟨ad102, e102, hx102_0, hx102_1, hx102_2⟩ := at_T25 HR0.out x10_1 p102 q102
                cases e102
                replace hx102_0 := (HB.out.cell (World.block_lt_of_cell? w _ hx102_0)).trans hx102_0
                replace hx102_1 := (HB.out.cell (World.block_lt_of_cell? w _ hx102_1)).trans hx102_1
                replace hx102_2 := (HB.out.cell (World.block_lt_of_cell? w _ hx102_2)).trans hx102_2
                replace p102 := eq_true p102
                replace q102 := eq_true q102
                go_wp2_with (first | ((with_reducible refine gate_dst (N := 4) rfl ?_); refine box_event ?hg (N := 4) ?hd (cs := #[.int .i64 0, .int .i64 0, .string (⟨#[]⟩ : ByteArray)]) (t := 25) ?hr ?_; (case hd => rfl); (case hg => rfl); (case hr => first | (go_simp; done) | (go_simp; rfl)); intro gb103 hg w11 hbox hb; have n0_ := Aside0.mk (below_step (by repeat (first | (with_reducible first | exact HB.out | apply below_alloc | apply pw_below_drewN | apply below_drew1) | exact HB.out)) hb); have n1_ := Aside0.mk (hbox); have n2_ := Aside0.mk ((by rw [hg]; exact (below_size (by repeat (first | (with_reducible first | exact HB.out | apply below_alloc | apply pw_below_drewN | apply below_drew1) | exact HB.out))) : w.heap.size ≤ gb103)); have n3_ := Aside0.mk ((by rw [hg]; exact (below_size (by repeat (first | (with_reducible first | exact HB.out | apply below_alloc | apply pw_below_drewN | apply below_drew1) | exact HB.out))) : w.heap.size ≤ gb103)); clear HB; have HB := n0_; have BK103 := n1_; have GW103 := n2_; have GE103 := n3_; clear n0_ n1_ n2_ n3_; clear hb hbox hg; have hcz12_0 : w11.cell? ⟨gb103, 0, none⟩ = some (.int .i64 0) := (blk_cell BK103.out 0).trans rfl; have hcz12_1 : w11.cell? ⟨gb103, 1, none⟩ = some (.int .i64 0) := (blk_cell BK103.out 1).trans rfl; have hcz12_2 : w11.cell? ⟨gb103, 2, none⟩ = some (.string (⟨#[]⟩ : ByteArray)) := (blk_cell BK103.out 2).trans rfl; have hfz12_0 := blk_frozen BK103.out 0; have hfz12_1 := blk_frozen BK103.out 1; have hfz12_2 := blk_frozen BK103.out 2) | ((with_reducible refine gate_callee (f := 28) rfl ?_); refine goesL_ (some 15) rfl rfl Try.func28 (by kernel_rfl) rfl #[.agg #[.int .i64 ((rd_T25 l0 x10_1).f0), .int .i64 ((rd_T25 l0 x10_1).f1), .string ((rd_T25 l0 x10_1).f2)]] rfl (by (try simp only [List.map_toArray, List.map_cons, List.map_nil]); first | done | rfl | (simp only [List.length_drop, List.length_take]; rfl)) ?_; (with_reducible refine (laws_zzFits8.calls ((rd_T25 l0 x10_1).f0) ((rd_T25 l0 x10_1).f1) ((rd_T25 l0 x10_1).f2) false _ A6.out).mono ?_); rintro e w13 ⟨rfl, hb⟩; refine ⟨_, rfl, ?_⟩; have n0_ := Aside0.mk (blk_below (g := gb103) (o := .cells #[.int .i64 ((rd_T25 l0 x10_1).f0), .int .i64 ((rd_T25 l0 x10_1).f1), .string ((rd_T25 l0 x10_1).f2)] 25 (0, 0)) (by (with_reducible repeat (first | refine blk_drewN ?_ _ | refine blk_drew ?_ | refine blk_alloc ?_ _)); refine blk_put (cs := #[.int .i64 ((rd_T25 l0 x10_1).f0), .int .i64 ((rd_T25 l0 x10_1).f1), .string (⟨#[]⟩ : ByteArray)]) ?_ 2 _ rfl; (with_reducible repeat (first | refine blk_drewN ?_ _ | refine blk_drew ?_ | refine blk_alloc ?_ _)); refine blk_put (cs := #[.int .i64 ((rd_T25 l0 x10_1).f0), .int .i64 0, .string (⟨#[]⟩ : ByteArray)]) ?_ 1 _ rfl; (with_reducible repeat (first | refine blk_drewN ?_ _ | refine blk_drew ?_ | refine blk_alloc ?_ _)); refine blk_put (cs := #[.int .i64 0, .int .i64 0, .string (⟨#[]⟩ : ByteArray)]) ?_ 0 _ rfl; (with_reducible repeat (first | refine blk_drewN ?_ _ | refine blk_drew ?_ | refine blk_alloc ?_ _)); exact BK103.out) hb); have n1_ := Aside0.mk (below_step (by repeat (first | (with_reducible first | exact HB.out | apply below_alloc | apply pw_below_drewN | apply below_drew1 | refine below_set ?_ GE103.out) | exact HB.out)) hb); clear BK103; clear HB; have BK103 := n0_; have HB := n1_; clear n0_ n1_; (try clear hb); (try clear hb2); (try clear hk); (try clear hi)))
                go_ret
                exact ⟨by first | rfl | (simp [errW_none, errW_some] <;> rfl) | (simp [*, errW_none, errW_some] <;> rfl), by repeat (first | (with_reducible first | exact HB.out | apply below_alloc | apply pw_below_drewN | apply below_drew1 | refine below_set ?_ GE103.out) | exact HB.out)⟩
            · rw [if_neg c5] at H
              exact absurd H (by simp)
          · rw [if_neg c4] at H
            exact absurd H (by simp)
        · rw [if_neg c3] at H
          have c3b0 : decide (x10_1 < (l0.length : Int)) = false := decide_eq_false c3
          clear c3
          obtain rfl := Option.some.inj H
          go_wp2
          go_ret
          exact ⟨by first | rfl | (simp [errW_none, errW_some] <;> rfl) | (simp [*, errW_none, errW_some] <;> rfl), by repeat (first | (with_reducible first | exact HB.out | apply below_alloc | apply pw_below_drewN | apply below_drew1) | exact HB.out)⟩

/-! ### spec_Unframed: function 10 -/
theorem or_lo (k : IntKind) (j : Nat) (hj : j ≤ k.bits) (hk : ∀ n : Int, 0 ≤ n → n < 2 ^ j → k.wrap n = n) (i : Nat)
    (x y : Int) (hx₀ : 0 ≤ x) (hx : x % 2 ^ i = 0) (hx₁ : x < 2 ^ j) (hy₀ : 0 ≤ y) (hy : y < 2 ^ i) (hy₁ : y < 2 ^ j) : bits .or k y x = x + y := by
  rw [← bits_join k j hj hk i x y hx₀ hx hx₁ hy₀ hy hy₁]
  obtain ⟨a, rfl⟩ := Int.eq_ofNat_of_zero_le hx₀
  obtain ⟨b, rfl⟩ := Int.eq_ofNat_of_zero_le hy₀
  have ha : a < 2 ^ j := by exact_mod_cast hx₁
  have hb : b < 2 ^ j := by exact_mod_cast hy₁
  rw [(bits_nat k j hj hk a b ha hb).2, (bits_nat k j hj hk b a hb ha).2, Nat.or_comm]
theorem or16 (x y : Int) (hx₀ : 0 ≤ x) (hx : x < 256) (hy₀ : 0 ≤ y) (hy : y < 256) : bits .or .u16 (IntKind.u16.wrap y) (IntKind.u16.wrap (IntKind.u16.wrap x * 256)) = x * 256 + y := by
  have hw : ∀ n : Int, 0 ≤ n → n < 2 ^ 16 → IntKind.u16.wrap n = n := fun n h0 h1 => by simp [IntKind.wrap, IntKind.bits, IntKind.signed]; omega
  rw [hw y hy₀ (by omega), hw x hx₀ (by omega), hw (x * 256) (by omega) (by omega)]
  exact or_lo .u16 16 (by decide) hw 8 _ _ (by omega) (by omega) (by omega) hy₀ (by omega) (by omega)
theorem or32 (x y z u : Int) (hx₀ : 0 ≤ x) (hx : x < 256) (hy₀ : 0 ≤ y) (hy : y < 256) (hz₀ : 0 ≤ z) (hz : z < 256) (hu₀ : 0 ≤ u) (hu : u < 256) :
    bits .or .u32 (bits .or .u32 (bits .or .u32 (u % 4294967296) (z % 4294967296 * 256 % 4294967296)) (y % 4294967296 * 65536 % 4294967296)) (x % 4294967296 * 16777216 % 4294967296) = x * 16777216 + y * 65536 + z * 256 + u := by
  have hw : ∀ n : Int, 0 ≤ n → n < 2 ^ 32 → IntKind.u32.wrap n = n := fun n h0 h1 => by rw [IntKind.wrap_u32]; omega
  have hm : ∀ n : Int, 0 ≤ n → n < 2 ^ 32 → n % 4294967296 = n := fun n h0 h1 => by omega
  rw [hm x hx₀ (by omega), hm y hy₀ (by omega), hm z hz₀ (by omega), hm u hu₀ (by omega), hm (z * 256) (by omega) (by omega), hm (y * 65536) (by omega) (by omega), hm (x * 16777216) (by omega) (by omega)]
  rw [or_lo .u32 32 (by decide) hw 8 (z * 256) u (by omega) (by omega) (by omega) hu₀ (by omega) (by omega), or_lo .u32 32 (by decide) hw 16 (y * 65536) _ (by omega) (by omega) (by omega) (by omega) (by omega) (by omega), or_lo .u32 32 (by decide) hw 24 (x * 16777216) _ (by omega) (by omega) (by omega) (by omega) (by omega) (by omega)]
  omega
/-- Numbers that are bytes. -/
def Bytes (f : List Int) : Prop := ∀ x, x ∈ f → 0 ≤ x ∧ x < 256
theorem Bytes.rd {f : List Int} (h : Bytes f) (i : Int) : 0 ≤ rd f i ∧ rd f i < 256 := by
  show 0 ≤ f.getD i.toNat 0 ∧ f.getD i.toNat 0 < 256
  rw [List.getD_eq_getElem?_getD]
  cases e : f[i.toNat]? with
  | none => simp
  | some x => exact h x (List.mem_of_getElem? e)
theorem rd_cell {w : World} {A : Option Addr} {n : Nat} {f : List Int} (h : (Kd.int .u8).C w A n f) (hn : 0 < n) : ∃ ad, A = some ad ∧ ∀ i, i < n → w.cell? (ad.add i) = some (.int .u8 (rd f i)) := by
  obtain ⟨ad, e, hc⟩ := Kd.at_int h 0 (by omega) (by omega)
  refine ⟨ad, e, fun i hi => ?_⟩
  obtain ⟨ad', e', hc'⟩ := Kd.at_int h i (by omega) (by omega)
  rw [e] at e'
  injection e' with e'
  subst e'
  simpa using hc'
theorem bytesOf_bytes (b : ByteArray) : Bytes (bytesOf b) := by
  intro x hx
  simp only [bytesOf, List.mem_map] at hx
  obtain ⟨y, _, rfl⟩ := hx
  have := y.toNat_lt
  omega
theorem strOfNums_size (f : List Int) : (strOfNums f).size = f.length := by simp [strOfNums, ByteArray.size]
/-- A map literal's object: keys of kind q, with integers. -/
def mapEntries (q : IntKind) (l : List (Int × Int)) : Array MapEntry := (l.zipIdx.map fun x => (⟨.int q x.1.1, .int .i64 x.1.2, x.2⟩ : MapEntry)).toArray
def mapObj (q : IntKind) (l : List (Int × Int)) : Obj := .map (mapEntries q l) l.length
def look : List (Int × Int) → Int → Int
  | [], _ => 0
  | p :: l, k => if k = p.1 then p.2 else look l k
theorem findNow_lit (q : IntKind) (k : Int) : ∀ (l : List (Int × Int)) (n i : Nat), (∀ p ∈ l, p.1 ≠ k) → Instr.findNow (.int q) (.int q k) ((l.zipIdx n).map fun x => (⟨.int q x.1.1, .int .i64 x.1.2, x.2⟩ : MapEntry)) i = some none
  | [], _, _, _ => rfl
  | p :: l, n, i, h => by
    have h0 : (k == p.1) = false := by simpa [beq_eq_false_iff_ne] using (h p (by simp)).symm
    simp only [List.zipIdx_cons, List.map_cons, Instr.findNow, Instr.sameNow, if_true, h0]
    exact findNow_lit q k l _ _ (fun p hp => h p (by simp [hp]))
theorem findNow_look (q : IntKind) (k : Int) : ∀ (l : List (Int × Int)) (n i : Nat), ∃ r, Instr.findNow (.int q) (.int q k) ((l.zipIdx n).map fun x => (⟨.int q x.1.1, .int .i64 x.1.2, x.2⟩ : MapEntry)) i = some r ∧ (r.map (·.2)).getD (.int .i64 0) = .int .i64 (look l k)
  | [], _, _ => ⟨none, rfl, rfl⟩
  | p :: l, n, i => by
    by_cases hk : k = p.1
    · refine ⟨some (i, .int .i64 p.2), ?_, ?_⟩
      · have h0 : (k == p.1) = true := by simpa using hk
        simp only [List.zipIdx_cons, List.map_cons, Instr.findNow, Instr.sameNow, if_true, h0]
      · simp [look, hk]
    · obtain ⟨r, h1, h2⟩ := findNow_look q k l (n + 1) (i + 1)
      refine ⟨r, ?_, by simpa [look, hk] using h2⟩
      have h0 : (k == p.1) = false := by simpa [beq_eq_false_iff_ne] using hk
      simp only [List.zipIdx_cons, List.map_cons, Instr.findNow, Instr.sameNow, if_true, h0]
      exact h1
theorem mapObj_push (q : IntKind) (l : List (Int × Int)) (k v : Int) : (Obj.map ((mapEntries q l).push ⟨.int q k, .int .i64 v, l.length⟩) (l.length + 1)) = mapObj q (l ++ [(k, v)]) := by
  simp [mapObj, mapEntries, List.zipIdx_append]
theorem run_lit_insert {P : Program} {w : World} {t kt et : TypeId} {q : IntKind} {b : Nat} {l : List (Int × Int)} {k v : Int} (ht : P.underlying t = some (.map kt et)) (hk : P.underlying kt = some (.int q)) (hb : w.heap[b]? = some (mapObj q l)) (hn : ∀ p ∈ l, p.1 ≠ k) :
    (Instr.mapUpdate t (.map (some b)) (.int q k) (.int .i64 v)).run P w = .ok () (ChangeMaps.setBlock w b (mapObj q (l ++ [(k, v)]))) := by
  have hf := findNow_lit q k l 0 0 hn
  have hb' : w.heap[b]? = some (.map (mapEntries q l) l.length) := hb
  rw [← mapObj_push]
  have hck : ∀ e n, (Instr.checkKey e (n + 1) kt (.int q k)).run P w = .ok () w := fun e n => by simp [Instr.checkKey, run_underlying hk]
  have hfk : (Instr.findKey kt (.int q k) (mapEntries q l).toList).run P w = .ok none w := by
    simp only [Instr.findKey, Sem.run_bind, run_underlying hk, Result.andThen]
    rw [show (mapEntries q l).toList = (l.zipIdx.map fun x => (⟨.int q x.1.1, .int .i64 x.1.2, x.2⟩ : MapEntry)) from by simp [mapEntries], hf]
    rfl
  simp [Instr.mapUpdate, run_underlying ht, Go.MapKept.run_getObj_map hb', hck, hfk, Go.MapKept.run_setObj_map _ hb', Result.andThen, ChangeMaps.setBlock]
theorem run_lit_lookup {P : Program} {w : World} {t kt et : TypeId} {q : IntKind} {b : Nat} {l : List (Int × Int)} {k : Int} (ht : P.underlying t = some (.map kt et)) (hk : P.underlying kt = some (.int q)) (hz : (zeroValue et).run P w = .ok (.int .i64 0) w) (hb : w.heap[b]? = some (mapObj q l)) :
    (Instr.lookup t (.map (some b)) (.int q k) false).run P w = .ok (.int .i64 (look l k)) w := by
  obtain ⟨r, h1, h2⟩ := findNow_look q k l 0 0
  have hb' : w.heap[b]? = some (.map (mapEntries q l) l.length) := hb
  have hck : ∀ e n, (Instr.checkKey e (n + 1) kt (.int q k)).run P w = .ok () w := fun e n => by simp [Instr.checkKey, run_underlying hk]
  have hfk : (Instr.findKey kt (.int q k) (mapEntries q l).toList).run P w = .ok r w := by
    simp only [Instr.findKey, Sem.run_bind, run_underlying hk, Result.andThen]
    rw [show (mapEntries q l).toList = (l.zipIdx.map fun x => (⟨.int q x.1.1, .int .i64 x.1.2, x.2⟩ : MapEntry)) from by simp [mapEntries], h1]
    rfl
  cases r with
  | none => simp at h2; simp [Instr.lookup, run_underlying ht, Go.MapKept.run_getObj_map hb', hck, hfk, hz, Result.andThen, ← h2]
  | some x => obtain ⟨i, v⟩ := x; simp at h2; simp [Instr.lookup, run_underlying ht, Go.MapKept.run_getObj_map hb', hck, hfk, Result.andThen, h2]
theorem setBlock_twice (w : World) (b : Nat) (o o' : Obj) : ChangeMaps.setBlock (ChangeMaps.setBlock w b o) b o' = ChangeMaps.setBlock w b o' := by simp [ChangeMaps.setBlock]
theorem setBlock_at (w : World) (b : Nat) (o : Obj) (h : b < w.heap.size) : (ChangeMaps.setBlock w b o).heap[b]? = some o := by simp [ChangeMaps.setBlock, h]
theorem setBlock_other (w : World) (b k : Nat) (o : Obj) (h : k ≠ b) : (ChangeMaps.setBlock w b o).heap[k]? = w.heap[k]? := by simp [ChangeMaps.setBlock, Ne.symm h]
theorem below_setBlock {B : Nat} {w W : World} (h : Below B w W) {b : Nat} (o : Obj) (hb : B ≤ b) : Below B w (ChangeMaps.setBlock W b o) := ⟨h.os, h.tape, h.output, by have := h.size; simpa [ChangeMaps.setBlock] using this, fun i hi => (setBlock_other W b i o (by omega)).trans (h.block i hi)⟩
theorem strOfNums_of (b : ByteArray) : strOfNums (bytesOf b) = b := by
  obtain ⟨d⟩ := b
  simp only [strOfNums, bytesOf]
  congr 1
  apply Array.ext'
  simp only [List.map_map]
  refine (List.map_congr_left (fun a _ => ?_)).trans (List.map_id _)
  simp
theorem bytesOf_strOfNums' {f : List Int} (h : Bytes f) : bytesOf (strOfNums f) = f := by
  unfold bytesOf
  rw [strOfNums_data, List.map_map]
  have : f.map ((fun b : UInt8 => (b.toNat : Int)) ∘ fun n : Int => UInt8.ofNat n.toNat) = f.map id := by
    refine List.map_congr_left fun c hc => ?_
    have := h c hc
    simp only [Function.comp, id, UInt8.toNat_ofNat']
    omega
  rw [this, List.map_id]
theorem bt_strOfNums {f : List Int} (h : Bytes f) (i : Int) : bt (strOfNums f) i = rd f i := by rw [← rd_bytesOf, bytesOf_strOfNums' h]
def zeroAt (f : List Int) : Nat := f.findIdx (· == 0)
theorem zeroAt_le (f : List Int) : zeroAt f ≤ f.length := List.findIdx_le_length
theorem zeroAt_lt {f : List Int} {m : Nat} (h : m < zeroAt f) : rd f (m : Int) ≠ 0 := by
  have hm : m < f.length := Nat.lt_of_lt_of_le h (zeroAt_le f)
  have := List.not_of_lt_findIdx h
  show f.getD m 0 ≠ 0
  rw [List.getD_eq_getElem?_getD, List.getElem?_eq_getElem hm]
  simpa using this
theorem zeroAt_at {f : List Int} (h : zeroAt f < f.length) : rd f (zeroAt f : Int) = 0 := by
  have e : (f[zeroAt f] == 0) = true := List.findIdx_getElem (p := (· == 0)) (w := h)
  show f.getD (zeroAt f) 0 = 0
  rw [List.getD_eq_getElem?_getD, List.getElem?_eq_getElem h]
  exact eq_of_beq e
theorem strOfNums_cut (f : List Int) (a b : Nat) : (strOfNums f).extract a b = strOfNums ((f.take b).drop a) := by
  apply ByteArray.ext
  apply Array.ext'
  rw [ByteArray.data_extract, Array.toList_extract]
  rw [strOfNums_data, strOfNums_data]
  simp [List.extract, List.map_take, List.map_drop, List.drop_take]
theorem strOfNums_head (f : List Int) (m : Nat) : (strOfNums f).extract 0 m = strOfNums (f.take m) := by rw [strOfNums_cut]; rfl
theorem strOfNums_rest (f : List Int) (m : Nat) : (strOfNums f).extract m f.length = strOfNums (f.drop m) := by rw [strOfNums_cut, List.take_of_length_le (Nat.le_refl _)]
theorem or_i64 (x y : Int) (hx₀ : 0 ≤ x) (hx : x < 16777216) (hy₀ : 0 ≤ y) (hy : y < 256) : bits .or .i64 (x * 256) y = x * 256 + y := by
  have hw : ∀ n : Int, 0 ≤ n → n < 2 ^ 62 → IntKind.i64.wrap n = n := fun n h0 h1 => by rw [IntKind.wrap_i64]; omega
  obtain ⟨a, rfl⟩ := Int.eq_ofNat_of_zero_le hx₀
  obtain ⟨b, rfl⟩ := Int.eq_ofNat_of_zero_le hy₀
  rw [show ((a : Int) * 256) = ((a * 256 : Nat) : Int) from by omega, (bits_nat .i64 62 (by decide) hw (a * 256) b (by omega) (by omega)).2, Nat.or_comm,
    ← (bits_nat .i64 62 (by decide) hw b (a * 256) (by omega) (by omega)).2, or_lo .i64 62 (by decide) hw 8 _ _ (by omega) (by omega) (by omega) (by omega) (by omega) (by omega)]

def valOf (f : List Int) : Nat → Int
  | 0 => 0
  | n + 1 => valOf f n * 256 + rd f n
theorem valOf_lt {f : List Int} (h : Bytes f) : ∀ m : Nat, 0 ≤ valOf f m ∧ valOf f m < 256 ^ m
  | 0 => by simp [valOf]
  | m + 1 => by
    have ih := valOf_lt h m
    have hb := h.rd (m : Int)
    have e : (256 : Int) ^ (m + 1) = 256 ^ m * 256 := Int.pow_succ _ _
    rw [e]
    simp only [valOf]
    omega
/-- How many bytes a piece of a kind has. -/
def manyOf (x : S25) : Int := if x.f0 = 1 then 1 else if x.f0 = 2 then 2 else if x.f0 = 3 then 4 else x.f1
/-- What spec.Unframed makes of pieces' kinds and bytes (the kinds 1 to 5 alone). -/
def specUnframed : List S25 → List Int → List S25 → Option (List S25 × ByteArray × Bool)
  | [], f, out => some (out, strOfNums f, true)
  | x :: t, f, out =>
    if out.length < 4398046511104 then
    (if x.f0 = 4 then (if zeroAt f = f.length then some ([], ⟨#[]⟩, false) else specUnframed t (f.drop (zeroAt f + 1)) (out ++ [⟨4, 0, strOfNums (f.take (zeroAt f))⟩]))
    else if 1 ≤ x.f0 ∧ x.f0 ≤ 5 then
      (if manyOf x < 0 ∨ (f.length : Int) < manyOf x then some ([], ⟨#[]⟩, false)
       else specUnframed t (f.drop (manyOf x).toNat) (out ++ [⟨x.f0, if x.f0 = 5 then 0 else if x.f0 = 3 ∧ valOf f 4 ≥ 2147483648 then valOf f 4 - 4294967296 else valOf f (manyOf x).toNat, if x.f0 = 5 then strOfNums (f.take (manyOf x).toNat) else ⟨#[]⟩⟩]))
    else none) else none
def spec_Unframed.f (a0 : ByteArray) (l1 : List S25) : Option (List S25 × ByteArray × Bool) := if a0.size ≤ 9223372036854775807 then specUnframed l1 (bytesOf a0) [] else none
set_option maxHeartbeats 8000000 in
set_option maxRecDepth 100000 in
theorem spec_Unframed.calls (a0 : ByteArray) (A1 : Option Addr) (c1 : Nat) (l1 : List S25) (r1 : List S25) (r2 : ByteArray) (r3 : Bool) (w : World) (hr1 : Kd.C k25 w A1 l1.length l1) (hc1 : l1.length ≤ c1) (h : spec_Unframed.f a0 l1 = some (r1, r2, r3)) :
    Calls Try.prog 10 #[.string a0, .slice A1 l1.length c1] w fun e w' => ∃ v0_ : Value, e = .returned (.tuple #[v0_, .string r2, .bool r3]) ∧ Kd.R k25 25 w' w.heap.size (fun _ => True) v0_ r1 ∧ Below w.heap.size w w' := by
  have H : (if a0.size ≤ 9223372036854775807 then specUnframed l1 (bytesOf a0) [] else none) = some (r1, r2, r3) := h
  clear h
  by_cases hs : a0.size ≤ 9223372036854775807
  · rw [if_pos hs] at H
    have H' := Aside0.mk H
    clear H
    have HS := Aside0.mk hs
    have HR1 := Aside0.mk hr1
    have HC1 := Aside0.mk hc1
    have hmax := Kd.C_max hr1
    clear hs hr1 hc1
    have hu25 := Try.underlying25
    have hmm := @run_makeMap Try.prog
    have e0 : (Value.string a0) = .string (strOfNums (bytesOf a0)) := by rw [strOfNums_of]
    rw [e0]
    have BY0 := Aside0.mk (bytesOf_bytes a0)
    have LN0 : Aside0 ((bytesOf a0).length ≤ 9223372036854775807) := ⟨by rw [bytesOf_length]; exact HS.out⟩
    go_enter Try.func10, Try.ntmps10
    go_wp2_with fail
    go_loopg [0, 4, 7] (l1.length) (fun kq v0 v4 v7 w' => ∃ (out : List S25) (i : Nat) (f : List Int), v0 = .string (strOfNums f) ∧ v7 = .int .i64 (i : Int) ∧ i + kq = l1.length ∧ Aside0 (specUnframed (l1.drop i) f out = some (r1, r2, r3)) ∧ Aside0 (Kd.R k25 25 w' w.heap.size (fun _ => True) v4 out) ∧ Aside0 (Bytes f) ∧ Aside0 (f.length ≤ 9223372036854775807) ∧ Aside0 (Below w.heap.size w w'))
    case atStart => exact ⟨[], 0, _, rfl, rfl, by omega, H', ⟨Kd.R_nil _ _ _ _ _⟩, BY0, LN0, ⟨Below.refl _ _⟩⟩
    case round =>
      clear H' BY0 LN0 e0
      obtain ⟨out, i, f, rfl, rfl, HK1, HA, HO, HBY, HLN, HB⟩ := hrel
      have hfs : (strOfNums f).size = f.length := strOfNums_size f
      cases gk with
      | zero =>
        have hil : i = l1.length := by omega
        have c2 : ((i : Int) < (l1.length : Int)) = False := eq_false (by omega)
        have Hr := HA.out
        rw [List.drop_of_length_le (by omega)] at Hr
        simp only [specUnframed, Option.some.injEq, Prod.mk.injEq] at Hr
        obtain ⟨rfl, rfl, rfl⟩ := Hr
        have hc2n : (i < l1.length) = False := eq_false (by omega)
        clear hil
        go_wp2_with fail
        go_ret3
        exact ⟨_, by first | rfl | (simp; done), HO.out, HB.out⟩
      | succ k1 =>
        have hil : i < l1.length := by omega
        have c2 : ((i : Int) < (l1.length : Int)) = True := eq_true (by omega)
        have c3 : ((0 : Int) ≤ (i : Int)) = True := eq_true (by omega)
        have hd : l1.drop i = rd_T25 l1 i :: l1.drop (i + 1) := by
          rw [List.drop_eq_getElem_cons hil]
          simp [rd_T25, List.getD_eq_getElem?_getD, List.getElem?_eq_getElem hil]
        rw [hd] at HA
        obtain ⟨x, hx⟩ : ∃ x, x = rd_T25 l1 i := ⟨_, rfl⟩
        rw [← hx] at HA
        obtain ⟨ad, e1, x0, x1, x2⟩ := at_T25 HR1.out (i : Int) (by omega) (by omega)
        cases e1
        rw [← hx, Int.toNat_natCast] at x0 x1 x2
        replace x0 := (HB.out.cell (World.block_lt_of_cell? w _ x0)).trans x0
        replace x1 := (HB.out.cell (World.block_lt_of_cell? w _ x1)).trans x1
        replace x2 := (HB.out.cell (World.block_lt_of_cell? w _ x2)).trans x2
        have HX := Aside0.mk hx
        clear hx hd
        go_upto_region 5 with (fail)
        obtain ⟨wx, hwx⟩ : ∃ wx, wx = wr.alloc (.cells #[.int .i64 x.f0, .int .i64 0, .string ⟨#[]⟩] 25) := ⟨_, rfl⟩
        have Bx : wx.heap[wr.heap.size]? = some (.cells #[.int .i64 x.f0, .int .i64 0, .string ⟨#[]⟩] 25 (0, 0)) := by rw [hwx]; simpa using heap_alloc_new wr _
        have BW : Below wr.heap.size wr wx := by rw [hwx]; exact below_alloc (Below.refl _ _) _
        rw [← hwx]
        have BX := Aside0.mk Bx
        have BWX := Aside0.mk BW
        replace x1 := (BW.cell (World.block_lt_of_cell? wr _ x1)).trans x1
        have y0 := blk_cell Bx 0
        clear hwx Bx x0 x2
        have Bm : (wx.alloc (Obj.map #[] 0)).heap[wx.heap.size]? = some (mapObj .i64 []) := heap_alloc_new wx _
        have hblt := blk_lt Bm
        obtain ⟨wm, hwm⟩ : ∃ wm, wm = wx.alloc (Obj.map #[] 0) := ⟨_, rfl⟩
        have BWm : Below wx.heap.size wx wm := by rw [hwm]; exact below_alloc (Below.refl _ _) _
        have hins : ∀ l k v, (∀ p ∈ l, p.1 ≠ k) → (Instr.mapUpdate 69 (.map (some wx.heap.size)) (.int .i64 k) (.int .i64 v)).run Try.prog (ChangeMaps.setBlock (wx.alloc (Obj.map #[] 0)) wx.heap.size (mapObj .i64 l)) = .ok () (ChangeMaps.setBlock (wx.alloc (Obj.map #[] 0)) wx.heap.size (mapObj .i64 (l ++ [(k, v)]))) := fun l k v hn => by
          have h := run_lit_insert (v := v) Try.underlying69 Try.underlying3 (setBlock_at (wx.alloc (Obj.map #[] 0)) wx.heap.size (mapObj .i64 l) hblt) hn
          rw [setBlock_twice] at h
          exact h
        have hins0_1 : ∀ k v, (Instr.mapUpdate 69 (.map (some wx.heap.size)) (.int .i64 k) (.int .i64 v)).run Try.prog (wx.alloc (Obj.map #[] 0)).drew = .ok () (ChangeMaps.setBlock (wx.alloc (Obj.map #[] 0)) wx.heap.size (mapObj .i64 [(k, v)])).drew := fun k v => run_lit_insert (w := (wx.alloc (Obj.map #[] 0)).drew) Try.underlying69 Try.underlying3 Bm (by simp)
        have hins_1 : ∀ l k v, (∀ p ∈ l, p.1 ≠ k) → (Instr.mapUpdate 69 (.map (some wx.heap.size)) (.int .i64 k) (.int .i64 v)).run Try.prog (ChangeMaps.setBlock (wx.alloc (Obj.map #[] 0)) wx.heap.size (mapObj .i64 l)).drew = .ok () (ChangeMaps.setBlock (wx.alloc (Obj.map #[] 0)) wx.heap.size (mapObj .i64 (l ++ [(k, v)]))).drew := fun l k v hn => by
          have h := run_lit_insert (v := v) (w := (ChangeMaps.setBlock (wx.alloc (Obj.map #[] 0)) wx.heap.size (mapObj .i64 l)).drew) Try.underlying69 Try.underlying3 (setBlock_at (wx.alloc (Obj.map #[] 0)) wx.heap.size (mapObj .i64 l) hblt) hn
          have e := setBlock_twice (wx.alloc (Obj.map #[] 0)) wx.heap.size (mapObj .i64 l) (mapObj .i64 (l ++ [(k, v)]))
          rw [h, ← e]
          rfl
        have zE : ∀ w : World, (zeroValue 3).run Try.prog w = .ok (.int .i64 0) w := fun w => by kernel_rfl
        have hlk_1 : ∀ l k, (Instr.lookup 69 (.map (some wx.heap.size)) (.int .i64 k) false).run Try.prog (ChangeMaps.setBlock (wx.alloc (Obj.map #[] 0)) wx.heap.size (mapObj .i64 l)).drew = .ok (.int .i64 (look l k)) (ChangeMaps.setBlock (wx.alloc (Obj.map #[] 0)) wx.heap.size (mapObj .i64 l)).drew := fun l k => run_lit_lookup Try.underlying69 Try.underlying3 (zE _) (setBlock_at (wx.alloc (Obj.map #[] 0)) wx.heap.size (mapObj .i64 l) hblt)
        go_cut [9] from 23 to 32 (fun v9 wc => v9 = .int .i64 (if x.f0 = 1 then 1 else if x.f0 = 2 then 2 else if x.f0 = 3 then 4 else if x.f0 = 5 then x.f1 else 0) ∧ Aside0 (Below wx.heap.size wx wc))
        case first =>
          have hltb : wr.heap.size < wx.heap.size := blk_lt BX.out
          have hlta : (ad.add (i * 3)).block < wx.heap.size := World.block_lt_of_cell? wx ⟨(ad.add (i * 3)).block, (ad.add (i * 3)).off + 1, none⟩ x1
          have kA : ∀ W : World, W.heap = (wx.alloc (Obj.map #[] 0)).heap → W.cell? ⟨wr.heap.size, 0, none⟩ = some (.int .i64 x.f0) ∧ W.cell? ⟨(ad.add (i * 3)).block, (ad.add (i * 3)).off + 1, none⟩ = some (.int .i64 x.f1) := fun W e =>
            ⟨(World.cell?_of_block (by rw [e]; exact Below.heap_alloc wx _ _ hltb)).trans y0, (World.cell?_of_block (by rw [e]; exact Below.heap_alloc wx _ _ hlta)).trans x1⟩
          have kM : ∀ (o : Obj) (W : World), W.heap = (ChangeMaps.setBlock (wx.alloc (Obj.map #[] 0)) wx.heap.size o).heap → W.cell? ⟨wr.heap.size, 0, none⟩ = some (.int .i64 x.f0) ∧ W.cell? ⟨(ad.add (i * 3)).block, (ad.add (i * 3)).off + 1, none⟩ = some (.int .i64 x.f1) := fun o W e =>
            ⟨(World.cell?_of_block (by rw [e, setBlock_other _ _ _ _ (show wr.heap.size ≠ wx.heap.size by omega)]; exact Below.heap_alloc wx _ _ hltb)).trans y0, (World.cell?_of_block (by rw [e, setBlock_other _ _ _ _ (show (ad.add (i * 3)).block ≠ wx.heap.size by omega)]; exact Below.heap_alloc wx _ _ hlta)).trans x1⟩
          have BM : ∀ o : Obj, Below wx.heap.size wx (ChangeMaps.setBlock (wx.alloc (Obj.map #[] 0)) wx.heap.size o) := fun o => below_setBlock (below_alloc (Below.refl _ _) _) o (Nat.le_refl _)
          go_region_held3 (fun w' => w'.cell? ⟨wr.heap.size, 0, none⟩ = some (.int .i64 x.f0) ∧ w'.cell? ⟨(ad.add (i * 3)).block, (ad.add (i * 3)).off + 1, none⟩ = some (.int .i64 x.f1)) (first | exact ⟨y0, x1⟩ | exact kA _ rfl | exact kM _ _ rfl) (fail)
          all_goals go_wp2
          all_goals go_meet
          all_goals (case rel => refine ⟨?_, ⟨by first | exact below_drew (BM _) | exact BM _ | exact pw_below_drewN (BM _) _⟩⟩; refine congrArg (Value.int .i64) ?_; simp only [look] <;> (by_cases h1 : x.f0 = 1 <;> by_cases h2 : x.f0 = 2 <;> by_cases h3 : x.f0 = 3 <;> by_cases h5 : x.f0 = 5 <;> first | omega | (simp only [h1, h2, h3, h5, if_true, if_false]; first | rfl | omega) | (simp [h1, h2, h3, h5])))
        case rest =>
          obtain ⟨rfl, BC⟩ := hcut
          have Bxc := (BC.out.block _ (blk_lt BX.out)).trans BX.out
          have y0c := blk_cell Bxc 0
          have y1c := blk_cell Bxc 1
          have BWC : Below wr.heap.size wr wc := Below.trans BWX.out (BC.out.mono BWX.out.size)
          have HBC := Aside0.mk (Below.trans HB.out (BWC.mono HB.out.size))
          have fin0 : ∀ W, Below wc.heap.size wc W → Below w.heap.size w W := fun W h => Below.trans HBC.out (h.mono HBC.out.size)
          clear hins hins0_1 hins_1 hlk_1 Bm hblt BWm hwm x1 hmm
          have hlen := HLN.out
          simp only [specUnframed] at HA
          by_cases hcap : out.length < 4398046511104
          · replace HA := HA.out
            rw [if_pos hcap] at HA
            obtain ⟨wo, rfl⟩ : ∃ wo : World, wo = wr := ⟨_, rfl⟩
            have hne : some wo.heap.size ≠ u4.ownBlock := fun e => by have := Kd.R_lt HO.out _ e.symm; omega
            have hwle : w.heap.size ≤ wo.heap.size := HB.out.size
            by_cases hk : x.f0 = 4
            · rw [if_pos hk] at HA
              have hk4 : (x.f0 == 4) = true := beq_iff_eq.mpr hk
              have e9 : (if x.f0 = 1 then (1 : Int) else if x.f0 = 2 then 2 else if x.f0 = 3 then 4 else if x.f0 = 5 then x.f1 else 0) = 0 := by simp [hk]
              rw [e9]
              have HA' := Aside0.mk HA
              clear HA
              go_wp2_with fail
              go_loopg [9] (zeroAt f) (fun kq v9 w' => ∃ m : Nat, v9 = .int .i64 (m : Int) ∧ m + kq = zeroAt f ∧ Aside0 (Below wc.heap.size wc w'))
              case atStart => exact ⟨0, rfl, by omega, ⟨Below.refl _ _⟩⟩
              case round =>
                obtain ⟨m, rfl, HM, HB3⟩ := hrel
                have hzl := zeroAt_le f
                have hx4 : ∀ h : m < (strOfNums f).size, (((strOfNums f)[m]'h).toNat : Int) = rd f (m : Int) := fun h => by
                  have e := bt_at (strOfNums f) (m : Int) (by simpa using h)
                  rw [bt_strOfNums HBY.out] at e
                  simpa using e
                cases gk with
                | zero =>
                  obtain rfl : m = zeroAt f := by omega
                  by_cases hzz : zeroAt f = f.length
                  · have c5 : (((zeroAt f : Nat) : Int) < (f.length : Int)) = False := eq_false (by omega)
                    have Hr := HA'.out
                    rw [if_pos hzz] at Hr
                    simp only [Option.some.injEq, Prod.mk.injEq] at Hr
                    obtain ⟨rfl, rfl, rfl⟩ := Hr
                    have hzb : ((((zeroAt f : Nat) : Int)) == (f.length : Int)) = true := beq_iff_eq.mpr (by omega)
                    go_wp2_with fail
                    go_ret3
                    exact ⟨_, by first | rfl | (simp; done), Kd.R_nil _ _ _ _ _, fin0 _ (by first | exact HB3.out | exact below_drew HB3.out | exact pw_below_drewN HB3.out _)⟩
                  · have hzz' : zeroAt f < f.length := by omega
                    have c5 : (((zeroAt f : Nat) : Int) < (f.length : Int)) = True := eq_true (by omega)
                    have hz0 := zeroAt_at hzz'
                    have hzb : ((((zeroAt f : Nat) : Int)) == (f.length : Int)) = false := beq_eq_false_iff_ne.mpr (by omega)
                    have hnz1 : (rd f (zeroAt f : Int) != 0) = false := bne_eq_false_iff_eq.mpr hz0
                    replace HA' := Aside0.mk ((if_neg hzz).symm.trans HA'.out)
                    clear hz0
                    have Bxr := (HB3.out.block _ (blk_lt Bxc)).trans Bxc
                    have p1 := blk_cell Bxr 2
                    have fz := blk_frozen Bxr 2
                    rw [hk] at Bxr
                    have BK : ∀ v, (wr.setCell ⟨wo.heap.size, 2, none⟩ v).heap[wo.heap.size]? = some (.cells #[.int .i64 4, .int .i64 0, v] 25 (0, 0)) := fun v => by simpa using blk_set Bxr 2 v
                    have HO6 : Kd.R k25 25 ((wr.setCell ⟨wo.heap.size, 2, none⟩ (.string (strOfNums (f.take (zeroAt f))))).drew) w.heap.size (fun _ => True) u4 out := Kd.R_step HO.out (fun k _ hlt => (Below.heap_setCell wr _ _ k (by show k ≠ wo.heap.size; omega)).trans ((HB3.out.block k (Nat.lt_of_lt_of_le hlt BWC.size)).trans (BWC.block k hlt)))
                    have HB6 : Below w.heap.size w ((wr.setCell ⟨wo.heap.size, 2, none⟩ (.string (strOfNums (f.take (zeroAt f))))).drew) := below_drew (below_set (fin0 _ HB3.out) hwle)
                    have hhd := strOfNums_head f (zeroAt f)
                    have hrs := strOfNums_rest f (zeroAt f + 1)
                    have hws : IntKind.i64.wrap (((zeroAt f : Nat) : Int) + 1) = ((zeroAt f : Nat) : Int) + 1 := by rw [IntKind.wrap_i64]; omega
                    have hz1 : (0 : Int) ≤ ((zeroAt f : Nat) : Int) + 1 := by omega
                    have hz2 : ((zeroAt f : Nat) : Int) + 1 ≤ (f.length : Int) := by omega
                    have hz3 : (((zeroAt f : Nat) : Int) + 1).toNat = zeroAt f + 1 := by omega
                    clear hk hk4
                    go_wp2_with fail
                    go_region_held3 (fun w' => w'.cell? ⟨wo.heap.size, 0, none⟩ = some (.int .i64 4) ∧ w'.cell? ⟨wo.heap.size, 1, none⟩ = some (.int .i64 0) ∧ w'.cell? ⟨wo.heap.size, 2, none⟩ = some (.string (strOfNums (f.take (zeroAt f))))) (first | exact ⟨blk_cell (BK _) 0, blk_cell (BK _) 1, blk_cell (BK _) 2⟩ | exact ⟨blk_cell (blk_alloc (BK _) _) 0, blk_cell (blk_alloc (BK _) _) 1, blk_cell (blk_alloc (BK _) _) 2⟩ | exact ⟨blk_cell B8 0, blk_cell B8 1, blk_cell B8 2⟩)
                      ((refine Kd.R_append_step k25 (w0 := w) (W := (wr.setCell ⟨wo.heap.size, 2, none⟩ (.string (strOfNums (f.take (zeroAt f))))).drew) w.heap.size (by rfl) (.tmp 56) (.tmp 58) 22 25 (.agg #[(.int .i64 0), (.int .i64 0), (.string ⟨#[]⟩)]) 32 (by rfl) Try.underlying22 info25 (by rfl) (by decide) (by omega) u4 out (⟨4, 0, (strOfNums (f.take (zeroAt f)))⟩ : S25) [.int .i64 4, .int .i64 0, .string (strOfNums (f.take (zeroAt f)))] (fun _ => True) (fun _ => False) (by rfl) (by first | (go_simp; done) | (go_simp; rfl)) (k25_mkM _ _ _ (⟨4, 0, (strOfNums (f.take (zeroAt f)))⟩ : S25)) (fun _ hk => hk.elim) (fun _ _ => trivial) HO6 HB6 HB6.size (by omega) ?_; intro v1 w8 ho hb hg hat; have B8 := blk_grown (show ((wr.setCell ⟨wo.heap.size, 2, none⟩ (.string (strOfNums (f.take (zeroAt f))))).drew).heap[wo.heap.size]? = _ from (BK _)) hg hne))
                    go_wp2
                    go_roundg k1
                    case measure => omega
                    case rel => exact ⟨_, i + 1, _, rfl, by first | rfl | go_num | (simp; done), by omega, HA', ⟨ho⟩, ⟨fun y hy => HBY.out y (List.mem_of_mem_drop hy)⟩, ⟨by rw [List.length_drop]; omega⟩, ⟨hb⟩⟩
                | succ k2 =>
                  have hnz := zeroAt_lt (f := f) (m := m) (by omega)
                  have c5 : ((m : Int) < (f.length : Int)) = True := eq_true (by omega)
                  have hnz1 : (rd f (m : Int) != 0) = true := bne_iff_ne.mpr hnz
                  have hw1 : IntKind.i64.wrap ((m : Int) + 1) = ((m + 1 : Nat) : Int) := by rw [IntKind.wrap_i64]; omega
                  go_wp2_with fail
                  go_roundg k2
                  case measure => omega
                  case rel => exact ⟨m + 1, by first | rfl | (go_num) | (simp; done), by omega, ⟨by first | exact HB3.out | exact below_drew HB3.out | exact pw_below_drewN HB3.out _⟩⟩
            · rw [if_neg hk] at HA
              have hk4 : (x.f0 == 4) = false := beq_eq_false_iff_ne.mpr hk
              by_cases hr : 1 ≤ x.f0 ∧ x.f0 ≤ 5
              · rw [if_pos hr] at HA
                have e9 : (if x.f0 = 1 then (1 : Int) else if x.f0 = 2 then 2 else if x.f0 = 3 then 4 else if x.f0 = 5 then x.f1 else 0) = manyOf x := by
                  unfold manyOf
                  by_cases h1 : x.f0 = 1
                  · simp [h1]
                  by_cases h2 : x.f0 = 2
                  · simp [h2]
                  by_cases h3 : x.f0 = 3
                  · simp [h3]
                  rw [if_neg h1, if_neg h2, if_neg h3, if_neg h1, if_neg h2, if_neg h3, if_pos (by omega)]
                rw [e9]
                clear e9
                obtain ⟨many, hmany⟩ : ∃ m, m = manyOf x := ⟨_, rfl⟩
                rw [← hmany] at HA
                rw [← hmany]
                by_cases hbad : many < 0 ∨ (f.length : Int) < many
                · rw [if_pos hbad] at HA
                  simp only [Option.some.injEq, Prod.mk.injEq] at HA
                  obtain ⟨rfl, rfl, rfl⟩ := HA
                  have hmany' := Aside0.mk hmany
                  clear hmany
                  by_cases hb0 : many < 0
                  · have hb0' : (many < 0) = True := eq_true hb0
                    go_wp2_with fail
                    go_ret3
                    exact ⟨_, by first | rfl | (simp; done), Kd.R_nil _ _ _ _ _, by first | exact HBC.out | exact below_drew HBC.out | exact pw_below_drewN HBC.out _⟩
                  · have hb0' : (many < 0) = False := eq_false hb0
                    have hb1' : ((f.length : Int) < many) = True := eq_true (by omega)
                    have hb2' : (many > (f.length : Int)) = True := eq_true (by omega)
                    go_wp2_with fail
                    go_ret3
                    exact ⟨_, by first | rfl | (simp; done), Kd.R_nil _ _ _ _ _, by first | exact HBC.out | exact below_drew HBC.out | exact pw_below_drewN HBC.out _⟩
                · rw [if_neg hbad] at HA
                  obtain ⟨M, rfl⟩ := Int.eq_ofNat_of_zero_le (show 0 ≤ many by omega)
                  have hMl : M ≤ f.length := by omega
                  have hb0' : ((M : Int) < 0) = False := eq_false (by omega)
                  have hb1' : ((f.length : Int) < (M : Int)) = False := eq_false (by omega)
                  have hb2' : ((M : Int) > (f.length : Int)) = False := eq_false (by omega)
                  rw [Int.toNat_natCast] at HA
                  have HA' := Aside0.mk HA
                  have hmany' := Aside0.mk hmany
                  clear HA hmany hbad
                  have fin1 : ∀ W, Below wo.heap.size wo W → Below w.heap.size w W := fun W h => Below.trans HB.out (h.mono HB.out.size)
                  by_cases h5 : x.f0 = 5
                  · have h5b : (x.f0 == 5) = true := beq_iff_eq.mpr h5
                    have h5c : (x.f0 != 5) = false := bne_eq_false_iff_eq.mpr h5
                    have h3b : (x.f0 == 3) = false := beq_eq_false_iff_ne.mpr (by omega)
                    rw [if_pos h5, if_pos h5, h5] at HA'
                    go_wp2_with fail
                    go_loopg [10] 0 (fun kq v10 w' => v10 = .int .i64 (0 : Int) ∧ Aside0 (Below wc.heap.size wc w'))
                    case atStart => exact ⟨rfl, ⟨Below.refl _ _⟩⟩
                    case round =>
                      obtain ⟨rfl, HB3⟩ := hrel
                      have Bxr := (HB3.out.block _ (blk_lt Bxc)).trans Bxc
                      rw [h5] at Bxr
                      clear h5
                      have p0 := (blk_cell Bxr 0).trans (rfl : _ = some (Value.int .i64 5))
                      have p1 := (blk_cell Bxr 2).trans (rfl : _ = some (Value.string ⟨#[]⟩))
                      have fz := blk_frozen Bxr 2
                      have BK : ∀ v, (wr.setCell ⟨wo.heap.size, 2, none⟩ v).heap[wo.heap.size]? = some (.cells #[.int .i64 5, .int .i64 0, v] 25 (0, 0)) := fun v => by simpa using blk_set Bxr 2 v
                      have hhd := strOfNums_head f M
                      have hrs := strOfNums_rest f M
                      have hz1 : (0 : Int) ≤ (M : Int) := by omega
                      have hz2 : (M : Int) ≤ (f.length : Int) := by omega
                      have HO6 : Kd.R k25 25 ((wr.setCell ⟨wo.heap.size, 2, none⟩ (.string (strOfNums (f.take M)))).drew) w.heap.size (fun _ => True) u4 out := Kd.R_step HO.out (fun k _ hlt => (Below.heap_setCell wr _ _ k (by show k ≠ wo.heap.size; omega)).trans ((HB3.out.block k (Nat.lt_of_lt_of_le hlt BWC.size)).trans (BWC.block k hlt)))
                      have HB6 : Below w.heap.size w ((wr.setCell ⟨wo.heap.size, 2, none⟩ (.string (strOfNums (f.take M)))).drew) := below_drew (below_set (fin0 _ HB3.out) hwle)
                      by_cases hM0 : 0 < M
                      · have hmt : ((0 : Int) < (M : Int)) = True := eq_true (by omega)
                        go_wp2_with fail
                        go_region_held3 (fun w' => w'.cell? ⟨wo.heap.size, 0, none⟩ = some (.int .i64 5) ∧ w'.cell? ⟨wo.heap.size, 1, none⟩ = some (.int .i64 0) ∧ w'.cell? ⟨wo.heap.size, 2, none⟩ = some (.string (strOfNums (f.take M)))) (first | exact ⟨blk_cell (BK _) 0, blk_cell (BK _) 1, blk_cell (BK _) 2⟩ | exact ⟨blk_cell (blk_alloc (BK _) _) 0, blk_cell (blk_alloc (BK _) _) 1, blk_cell (blk_alloc (BK _) _) 2⟩ | exact ⟨blk_cell B8 0, blk_cell B8 1, blk_cell B8 2⟩)
                          ((refine Kd.R_append_step k25 (w0 := w) (W := (wr.setCell ⟨wo.heap.size, 2, none⟩ (.string (strOfNums (f.take M)))).drew) w.heap.size (by rfl) (.tmp 110) (.tmp 112) 22 25 (.agg #[(.int .i64 0), (.int .i64 0), (.string ⟨#[]⟩)]) 32 (by rfl) Try.underlying22 info25 (by rfl) (by decide) (by omega) u4 out (⟨5, 0, (strOfNums (f.take M))⟩ : S25) [.int .i64 5, .int .i64 0, .string (strOfNums (f.take M))] (fun _ => True) (fun _ => False) (by rfl) (by first | (go_simp; done) | (go_simp; rfl)) (k25_mkM _ _ _ (⟨5, 0, (strOfNums (f.take M))⟩ : S25)) (fun _ hk => hk.elim) (fun _ _ => trivial) HO6 HB6 HB6.size (by omega) ?_; intro v1 w8 ho hb hg hat; have B8 := blk_grown (show ((wr.setCell ⟨wo.heap.size, 2, none⟩ (.string (strOfNums (f.take M)))).drew).heap[wo.heap.size]? = _ from (BK _)) hg hne))
                        go_wp2
                        go_roundg k1
                        case measure => omega
                        case rel => exact ⟨_, i + 1, _, rfl, by first | rfl | go_num | (simp; done), by omega, HA', ⟨ho⟩, ⟨fun y hy => HBY.out y (List.mem_of_mem_drop hy)⟩, ⟨by rw [List.length_drop]; omega⟩, ⟨hb⟩⟩
                      · have hmt : ((0 : Int) < (M : Int)) = False := eq_false (by omega)
                        have hmt2 : (0 < M) = False := eq_false hM0
                        clear hM0
                        go_wp2_with fail
                        go_region_held3 (fun w' => w'.cell? ⟨wo.heap.size, 0, none⟩ = some (.int .i64 5) ∧ w'.cell? ⟨wo.heap.size, 1, none⟩ = some (.int .i64 0) ∧ w'.cell? ⟨wo.heap.size, 2, none⟩ = some (.string (strOfNums (f.take M)))) (first | exact ⟨blk_cell (BK _) 0, blk_cell (BK _) 1, blk_cell (BK _) 2⟩ | exact ⟨blk_cell (blk_alloc (BK _) _) 0, blk_cell (blk_alloc (BK _) _) 1, blk_cell (blk_alloc (BK _) _) 2⟩ | exact ⟨blk_cell B8 0, blk_cell B8 1, blk_cell B8 2⟩)
                          ((refine Kd.R_append_step k25 (w0 := w) (W := (wr.setCell ⟨wo.heap.size, 2, none⟩ (.string (strOfNums (f.take M)))).drew) w.heap.size (by rfl) (.tmp 110) (.tmp 112) 22 25 (.agg #[(.int .i64 0), (.int .i64 0), (.string ⟨#[]⟩)]) 32 (by rfl) Try.underlying22 info25 (by rfl) (by decide) (by omega) u4 out (⟨5, 0, (strOfNums (f.take M))⟩ : S25) [.int .i64 5, .int .i64 0, .string (strOfNums (f.take M))] (fun _ => True) (fun _ => False) (by rfl) (by first | (go_simp; done) | (go_simp; rfl)) (k25_mkM _ _ _ (⟨5, 0, (strOfNums (f.take M))⟩ : S25)) (fun _ hk => hk.elim) (fun _ _ => trivial) HO6 HB6 HB6.size (by omega) ?_; intro v1 w8 ho hb hg hat; have B8 := blk_grown (show ((wr.setCell ⟨wo.heap.size, 2, none⟩ (.string (strOfNums (f.take M)))).drew).heap[wo.heap.size]? = _ from (BK _)) hg hne))
                        go_wp2
                        go_roundg k1
                        case measure => omega
                        case rel => exact ⟨_, i + 1, _, rfl, by first | rfl | go_num | (simp; done), by omega, HA', ⟨ho⟩, ⟨fun y hy => HBY.out y (List.mem_of_mem_drop hy)⟩, ⟨by rw [List.length_drop]; omega⟩, ⟨hb⟩⟩
                  · have h5b : (x.f0 == 5) = false := beq_eq_false_iff_ne.mpr h5
                    have h5c : (x.f0 != 5) = true := bne_iff_ne.mpr h5
                    have hM4 : M = 1 ∧ x.f0 = 1 ∨ M = 2 ∧ x.f0 = 2 ∨ M = 4 ∧ x.f0 = 3 := by
                      have e := hmany'.out
                      unfold manyOf at e
                      by_cases h1 : x.f0 = 1
                      · rw [if_pos h1] at e; omega
                      by_cases h2 : x.f0 = 2
                      · rw [if_neg h1, if_pos h2] at e; omega
                      by_cases h3 : x.f0 = 3
                      · rw [if_neg h1, if_neg h2, if_pos h3] at e; omega
                      omega
                    rw [if_neg h5, if_neg h5] at HA'
                    have HM4 := Aside0.mk hM4
                    clear hM4
                    go_wp2_with fail
                    go_loopg [10] M (fun kq v10 w' => ∃ m : Nat, v10 = .int .i64 (m : Int) ∧ m + kq = M ∧ w'.heap[wo.heap.size]? = some (.cells #[.int .i64 x.f0, .int .i64 (valOf f m), .string ⟨#[]⟩] 25 (0, 0)) ∧ Aside0 (Below wo.heap.size wo w'))
                    case atStart => exact ⟨0, rfl, by omega, Bxc, ⟨BWC⟩⟩
                    case round =>
                      obtain ⟨m, rfl, hmk, Bxr, HB3⟩ := hrel
                      have p0 := (blk_cell Bxr 0).trans (rfl : _ = some (Value.int .i64 x.f0))
                      have p1 := (blk_cell Bxr 1).trans (rfl : _ = some (Value.int .i64 (valOf f m)))
                      have hx4 : ∀ h : m < (strOfNums f).size, (((strOfNums f)[m]'h).toNat : Int) = rd f (m : Int) := fun h => by
                        have e := bt_at (strOfNums f) (m : Int) (by simpa using h)
                        rw [bt_strOfNums HBY.out] at e
                        simpa using e
                      cases gk with
                      | zero =>
                        obtain rfl : m = M := by omega
                        by_cases h3 : x.f0 = 3
                        · obtain rfl : m = 4 := by have := HM4.out; omega
                          have hmt : ((4 : Int) < (4 : Int)) = False := eq_false (by omega)
                          have hrs := strOfNums_rest f 4
                          have hz2 : (4 : Int) ≤ (f.length : Int) := by omega
                          have fz := blk_frozen Bxr 1
                          rw [h3] at Bxr p0
                          by_cases hv : valOf f 4 ≥ 2147483648
                          · rw [if_pos ⟨h3, hv⟩, h3] at HA'
                            have hvb : decide (valOf f 4 ≥ 2147483648) = true := decide_eq_true hv
                            have hvc : decide (2147483648 ≤ valOf f 4) = true := decide_eq_true hv
                            have hvw : IntKind.i64.wrap (valOf f 4 - 4294967296) = valOf f 4 - 4294967296 := by have := valOf_lt HBY.out 4; rw [IntKind.wrap_i64]; omega
                            have hvw2 : wrap64 (valOf f 4 - 4294967296) = valOf f 4 - 4294967296 := by have := valOf_lt HBY.out 4; unfold wrap64; omega
                            clear h3 h5
                            have BK : ∀ v, (wr.setCell ⟨wo.heap.size, 1, none⟩ v).heap[wo.heap.size]? = some (.cells #[.int .i64 3, v, .string ⟨#[]⟩] 25 (0, 0)) := fun v => by simpa using blk_set Bxr 1 v
                            have HO6 : Kd.R k25 25 ((wr.setCell ⟨wo.heap.size, 1, none⟩ (.int .i64 (valOf f 4 - 4294967296))).drew) w.heap.size (fun _ => True) u4 out := Kd.R_step HO.out (fun k _ hlt => (Below.heap_setCell wr _ _ k (by show k ≠ wo.heap.size; omega)).trans (HB3.out.block k hlt))
                            have HB6 : Below w.heap.size w ((wr.setCell ⟨wo.heap.size, 1, none⟩ (.int .i64 (valOf f 4 - 4294967296))).drew) := below_drew (below_set (fin1 _ HB3.out) hwle)
                            have q0 := fun v => (blk_cell (BK v) 0).trans (rfl : _ = some (Value.int .i64 3))
                            have q1 := fun v => (blk_cell (BK v) 1).trans (rfl : _ = some v)
                            have q2 := fun v => (blk_cell (BK v) 2).trans (rfl : _ = some (Value.string ⟨#[]⟩))
                            go_wp2_with fail
                            go_region_held3 (fun w' => w'.cell? ⟨wo.heap.size, 0, none⟩ = some (.int .i64 3) ∧ w'.cell? ⟨wo.heap.size, 1, none⟩ = some (.int .i64 (valOf f 4 - 4294967296)) ∧ w'.cell? ⟨wo.heap.size, 2, none⟩ = some (.string ⟨#[]⟩)) (first | exact ⟨blk_cell (BK _) 0, blk_cell (BK _) 1, blk_cell (BK _) 2⟩ | exact ⟨blk_cell (blk_alloc (BK _) _) 0, blk_cell (blk_alloc (BK _) _) 1, blk_cell (blk_alloc (BK _) _) 2⟩ | exact ⟨blk_cell B8 0, blk_cell B8 1, blk_cell B8 2⟩)
                              ((refine Kd.R_append_step k25 (w0 := w) (W := (wr.setCell ⟨wo.heap.size, 1, none⟩ (.int .i64 (valOf f 4 - 4294967296))).drew) w.heap.size (by rfl) (.tmp 110) (.tmp 112) 22 25 (.agg #[(.int .i64 0), (.int .i64 0), (.string ⟨#[]⟩)]) 32 (by rfl) Try.underlying22 info25 (by rfl) (by decide) (by omega) u4 out (⟨3, (valOf f 4 - 4294967296), ⟨#[]⟩⟩ : S25) [.int .i64 3, .int .i64 (valOf f 4 - 4294967296), .string ⟨#[]⟩] (fun _ => True) (fun _ => False) (by rfl) (by first | (go_simp; done) | (go_simp; rfl)) (k25_mkM _ _ _ (⟨3, (valOf f 4 - 4294967296), ⟨#[]⟩⟩ : S25)) (fun _ hk => hk.elim) (fun _ _ => trivial) HO6 HB6 HB6.size (by omega) ?_; intro v1 w8 ho hb hg hat; have B8 := blk_grown (show ((wr.setCell ⟨wo.heap.size, 1, none⟩ (.int .i64 (valOf f 4 - 4294967296))).drew).heap[wo.heap.size]? = _ from (BK _)) hg hne))
                            go_wp2
                            go_roundg k1
                            case measure => omega
                            case rel => exact ⟨_, i + 1, _, rfl, by first | rfl | go_num | (simp; done), by omega, HA', ⟨ho⟩, ⟨fun y hy => HBY.out y (List.mem_of_mem_drop hy)⟩, ⟨by rw [List.length_drop]; omega⟩, ⟨hb⟩⟩
                          · rw [if_neg (fun e => hv e.2), h3] at HA'
                            have hvb : decide (valOf f 4 ≥ 2147483648) = false := decide_eq_false hv
                            have hvc : decide (2147483648 ≤ valOf f 4) = false := decide_eq_false hv
                            clear h3 h5
                            have HO6 : Kd.R k25 25 (wr.drew) w.heap.size (fun _ => True) u4 out := Kd.R_step HO.out (fun k _ hlt => HB3.out.block k hlt)
                            have HB6 : Below w.heap.size w (wr.drew) := below_drew (fin1 _ HB3.out)
                            have q2 := (blk_cell Bxr 2).trans (rfl : _ = some (Value.string ⟨#[]⟩))
                            go_wp2_with fail
                            go_region_held3 (fun w' => w'.cell? ⟨wo.heap.size, 0, none⟩ = some (.int .i64 3) ∧ w'.cell? ⟨wo.heap.size, 1, none⟩ = some (.int .i64 (valOf f 4)) ∧ w'.cell? ⟨wo.heap.size, 2, none⟩ = some (.string ⟨#[]⟩)) (first | exact ⟨blk_cell Bxr 0, blk_cell Bxr 1, blk_cell Bxr 2⟩ | exact ⟨blk_cell (blk_alloc Bxr _) 0, blk_cell (blk_alloc Bxr _) 1, blk_cell (blk_alloc Bxr _) 2⟩ | exact ⟨blk_cell B8 0, blk_cell B8 1, blk_cell B8 2⟩)
                              ((refine Kd.R_append_step k25 (w0 := w) (W := wr.drew) w.heap.size (by rfl) (.tmp 110) (.tmp 112) 22 25 (.agg #[(.int .i64 0), (.int .i64 0), (.string ⟨#[]⟩)]) 32 (by rfl) Try.underlying22 info25 (by rfl) (by decide) (by omega) u4 out (⟨3, (valOf f 4), ⟨#[]⟩⟩ : S25) [.int .i64 3, .int .i64 (valOf f 4), .string ⟨#[]⟩] (fun _ => True) (fun _ => False) (by rfl) (by first | (go_simp; done) | (go_simp; rfl)) (k25_mkM _ _ _ (⟨3, (valOf f 4), ⟨#[]⟩⟩ : S25)) (fun _ hk => hk.elim) (fun _ _ => trivial) HO6 HB6 HB6.size (by omega) ?_; intro v1 w8 ho hb hg hat; have B8 := blk_grown (show (wr.drew).heap[wo.heap.size]? = _ from Bxr) hg hne))
                            go_wp2
                            go_roundg k1
                            case measure => omega
                            case rel => exact ⟨_, i + 1, _, rfl, by first | rfl | go_num | (simp; done), by omega, HA', ⟨ho⟩, ⟨fun y hy => HBY.out y (List.mem_of_mem_drop hy)⟩, ⟨by rw [List.length_drop]; omega⟩, ⟨hb⟩⟩
                        · have h3b : (x.f0 == 3) = false := beq_eq_false_iff_ne.mpr h3
                          rw [if_neg (fun e => h3 e.1)] at HA'
                          have hmt : ((m : Int) < (m : Int)) = False := eq_false (by omega)
                          have hrs := strOfNums_rest f m
                          have hz1 : (0 : Int) ≤ (m : Int) := by omega
                          have hz2 : (m : Int) ≤ (f.length : Int) := by omega
                          have HO6 : Kd.R k25 25 (wr.drew) w.heap.size (fun _ => True) u4 out := Kd.R_step HO.out (fun k _ hlt => HB3.out.block k hlt)
                          have HB6 : Below w.heap.size w (wr.drew) := below_drew (fin1 _ HB3.out)
                          have q2 := (blk_cell Bxr 2).trans (rfl : _ = some (Value.string ⟨#[]⟩))
                          clear h3 h5
                          go_wp2_with fail
                          go_region_held3 (fun w' => w'.cell? ⟨wo.heap.size, 0, none⟩ = some (.int .i64 x.f0) ∧ w'.cell? ⟨wo.heap.size, 1, none⟩ = some (.int .i64 (valOf f m)) ∧ w'.cell? ⟨wo.heap.size, 2, none⟩ = some (.string ⟨#[]⟩)) (first | exact ⟨blk_cell Bxr 0, blk_cell Bxr 1, blk_cell Bxr 2⟩ | exact ⟨blk_cell (blk_alloc Bxr _) 0, blk_cell (blk_alloc Bxr _) 1, blk_cell (blk_alloc Bxr _) 2⟩ | exact ⟨blk_cell B8 0, blk_cell B8 1, blk_cell B8 2⟩)
                            ((refine Kd.R_append_step k25 (w0 := w) (W := wr.drew) w.heap.size (by rfl) (.tmp 110) (.tmp 112) 22 25 (.agg #[(.int .i64 0), (.int .i64 0), (.string ⟨#[]⟩)]) 32 (by rfl) Try.underlying22 info25 (by rfl) (by decide) (by omega) u4 out (⟨x.f0, (valOf f m), ⟨#[]⟩⟩ : S25) [.int .i64 x.f0, .int .i64 (valOf f m), .string ⟨#[]⟩] (fun _ => True) (fun _ => False) (by rfl) (by first | (go_simp; done) | (go_simp; rfl)) (k25_mkM _ _ _ (⟨x.f0, (valOf f m), ⟨#[]⟩⟩ : S25)) (fun _ hk => hk.elim) (fun _ _ => trivial) HO6 HB6 HB6.size (by omega) ?_; intro v1 w8 ho hb hg hat; have B8 := blk_grown (show (wr.drew).heap[wo.heap.size]? = _ from Bxr) hg hne))
                          go_wp2
                          go_roundg k1
                          case measure => omega
                          case rel => exact ⟨_, i + 1, _, rfl, by first | rfl | go_num | (simp; done), by omega, HA', ⟨ho⟩, ⟨fun y hy => HBY.out y (List.mem_of_mem_drop hy)⟩, ⟨by rw [List.length_drop]; omega⟩, ⟨hb⟩⟩
                      | succ k2 =>
                        have hmt : ((m : Int) < (M : Int)) = True := eq_true (by omega)
                        have hmt2 : ((m : Int) < (f.length : Int)) = True := eq_true (by omega)
                        have hmt3 : ((0 : Int) ≤ (m : Int)) = True := eq_true (by omega)
                        have hb := HBY.out.rd (m : Int)
                        have hvl := valOf_lt HBY.out m
                        have hv24 : valOf f m < 16777216 := by
                          have := HM4.out
                          have : m = 0 ∨ m = 1 ∨ m = 2 ∨ m = 3 := by omega
                          rcases this with rfl | rfl | rfl | rfl <;> simp at hvl <;> omega
                        have hsh : IntKind.i64.wrap (valOf f m * 256) = valOf f m * 256 := by rw [IntKind.wrap_i64]; omega
                        have hcv : IntKind.i64.wrap (rd f (m : Int)) = rd f (m : Int) := by rw [IntKind.wrap_i64]; omega
                        have hor := or_i64 (valOf f m) (rd f (m : Int)) hvl.1 hv24 hb.1 hb.2
                        have fz := blk_frozen Bxr 1
                        go_wp2_with fail
                        go_region
                        go_wp2_with fail
                        go_roundg k2
                        case measure => omega
                        case rel => exact ⟨m + 1, by first | rfl | go_num | (simp; done), by omega, (show (wr.setCell ⟨wo.heap.size, 1, none⟩ (.int .i64 (valOf f m * 256 + rd f (m : Int)))).heap[wo.heap.size]? = _ from by simpa [valOf] using blk_set Bxr 1 (.int .i64 (valOf f m * 256 + rd f (m : Int)))), ⟨by first | exact (below_drew HB3.out).setCell (Nat.le_refl _) _ | exact below_drew (HB3.out.setCell (Nat.le_refl _) _)⟩⟩
              · rw [if_neg hr] at HA
                exact absurd HA (by simp)
          · have := HA.out
            rw [if_neg hcap] at this
            exact absurd this (by simp)
  · rw [if_neg hs] at H
    exact absurd H (by simp)

/-! ### pq_NewReader: function 29 -/
/-- A reader at block g of W whose bytes that are left are f; they lie where w0 has them. -/
def IsRd (w0 W : World) (g : Nat) (f : List Int) : Prop := ∃ A c, W.heap[g]? = some (.cells #[.slice A f.length c] 102 (0, 0)) ∧ w0.heap.size ≤ g ∧ f.length ≤ c ∧ Kd.C (Kd.int .u8) w0 A f.length f ∧ Bytes f
theorem IsRd.below {w0 W : World} {g : Nat} {f : List Int} {W1 : World} (h : IsRd w0 W g f) (hw : Below W.heap.size W W1) : IsRd w0 W1 g f := by
  obtain ⟨A, c, hb, hg, hc, hr, hby⟩ := h
  exact ⟨A, c, blk_grown hb (grown_of_below hw none) (by simp), hg, hc, hr, hby⟩
theorem IsRd.keep {w0 W : World} {g g1 : Nat} {f : List Int} {W1 : World} (h : IsRd w0 W g f) (hw : KeepBut W W1 g1 none) (hne : g ≠ g1) : IsRd w0 W1 g f := by
  obtain ⟨A, c, hb, hg, hc, hr, hby⟩ := h
  exact ⟨A, c, hw.blk hb hne (by simp), hg, hc, hr, hby⟩
theorem IsRd.lt {w0 W : World} {g : Nat} {f : List Int} (h : IsRd w0 W g f) : g < W.heap.size := by
  obtain ⟨A, c, hb, hg, hc, hr, hby⟩ := h
  exact blk_lt hb
theorem IsRd.grown {w0 W : World} {g : Nat} {f : List Int} {W1 : World} {row : Option Nat} (h : IsRd w0 W g f) (hw : W.grownBy W1 row) (hne : some g ≠ row) : IsRd w0 W1 g f := by
  obtain ⟨A, c, hb, hg, hc, hr, hby⟩ := h
  exact ⟨A, c, blk_grown hb hw hne, hg, hc, hr, hby⟩
theorem IsRd.far {w0 W : World} {g : Nat} {f : List Int} {p : Addr} (h : IsRd w0 W g f) (hne : g ≠ p.block) (u : Value) : IsRd w0 (W.setCell p u) g f := by
  obtain ⟨A, c, hb, hg, hc, hr, hby⟩ := h
  exact ⟨A, c, blk_far hb hne u, hg, hc, hr, hby⟩
theorem IsRd.alloc {w0 W : World} {g : Nat} {f : List Int} (h : IsRd w0 W g f) (o : Obj) : IsRd w0 (W.alloc o) g f := h.below (below_alloc (Below.refl _ _) o)
theorem IsRd.bytes {w0 W : World} {g : Nat} {f : List Int} (h : IsRd w0 W g f) : Bytes f := by
  obtain ⟨A, c, hb, hg, hc, hr, hby⟩ := h
  exact hby
theorem IsRd.ge {w0 W : World} {g : Nat} {f : List Int} (h : IsRd w0 W g f) : w0.heap.size ≤ g := by
  obtain ⟨A, c, hb, hg, hc, hr, hby⟩ := h
  exact hg
theorem IsRd.max {w0 W : World} {g : Nat} {f : List Int} (h : IsRd w0 W g f) : f.length ≤ 9223372036854775807 := by
  obtain ⟨A, c, hb, hg, hc, hr, hby⟩ := h
  exact Kd.C_max hr
/-- A row that is owned, of elements of another type than a reader's, is as it was where all but the reader's block is kept. -/
theorem Kd.R_rd {α : Type} {d : Kd α} {e base : Nat} {w0 W W1 : World} {v : Value} {xs : List α} {g : Nat} {f : List Int} (h : d.R e W base (fun _ => True) v xs) (hI : IsRd w0 W g f) (ht : ∀ q, q ∈ e :: d.E → q ≠ 102) (hk : ∀ k, k < W.heap.size → k ≠ g → W1.heap[k]? = W.heap[k]?) : d.R e W1 base (fun _ => True) v xs := by
  obtain ⟨A, c, hb, hg, hc, hr, hby⟩ := hI
  exact Kd.R_mono (Kd.R_step (Kd.R_types h hb ht) (fun k ho hlt => hk k hlt ho.2)) (fun _ _ => trivial)
theorem Kd.R_ne_rd {α : Type} {d : Kd α} {e base : Nat} {w0 W : World} {ok : Nat → Prop} {v : Value} {xs : List α} {g : Nat} {f : List Int} (h : d.R e W base ok v xs) (hI : IsRd w0 W g f) (ht : e ≠ 102) : some g ≠ v.ownBlock := by
  obtain ⟨A, c, hb, hg, hc, hr, hby⟩ := hI
  exact Kd.R_ne h hb ht
set_option maxHeartbeats 1000000 in
set_option maxRecDepth 100000 in
theorem pq_NewReader.calls (A : Option Addr) (c : Nat) (f : List Int) (w : World) (hr : Kd.C (Kd.int .u8) w A f.length f) (hc : f.length ≤ c) (hby : Bytes f) :
    Calls Try.prog 29 #[.slice A f.length c] w fun e w' => ∃ g, e = .returned (.pointer (some ⟨g, 0, none⟩)) ∧ w.heap.size ≤ g ∧ IsRd w w' g f ∧ Below w.heap.size w w' := by
  have hu := Try.underlying102
  go_enter Try.func29, Try.ntmps29
  go_wp2
  go_ret
  exact ⟨w.heap.size, rfl, Nat.le_refl _, ⟨A, c, by simpa using heap_alloc_new w _, Nat.le_refl _, hc, hr, hby⟩, below_alloc (Below.refl _ _) _⟩

/-! ### pq_Reader_Rest: function 30 -/
set_option maxHeartbeats 1000000 in
set_option maxRecDepth 100000 in
theorem pq_Reader_Rest.calls (g : Nat) (f : List Int) (w0 w : World) (hI : IsRd w0 w g f) :
    Calls Try.prog 30 #[.pointer (some ⟨g, 0, none⟩)] w fun e w' => ∃ A c, e = .returned (.slice A f.length c) ∧ f.length ≤ c ∧ Kd.C (Kd.int .u8) w0 A f.length f ∧ w' = w := by
  obtain ⟨A, c, hb, hg, hc, hr, hby⟩ := hI
  have hcell : w.cell? ⟨g, 0, none⟩ = some (.slice A f.length c) := (blk_cell hb 0).trans rfl
  have hu1 := Try.underlying100
  go_enter Try.func30, Try.ntmps30
  go_wp2
  go_ret
  exact ⟨_, _, rfl, hc, hr, rfl⟩
theorem pq_Reader_Rest.calls2 (g : Nat) (f : List Int) (w0 w : World) (hI : IsRd w0 w g f) :
    Calls Try.prog 30 #[.pointer (some ⟨g, 0, none⟩)] w fun e w' => ∃ A c, e = .returned (.slice A f.length c) ∧ f.length ≤ c ∧ Kd.C (Kd.int .u8) w0 A f.length f ∧ Below w.heap.size w w' :=
  (pq_Reader_Rest.calls g f w0 w hI).mono (fun _ _ h => by obtain ⟨A, c, h1, h2, h3, rfl⟩ := h; exact ⟨A, c, h1, h2, h3, Below.refl _ _⟩)

/-! ### pq_readBuf_next: function 61 -/
set_option maxHeartbeats 1000000 in
set_option maxRecDepth 100000 in
theorem pq_readBuf_next.calls (g : Nat) (f : List Int) (n : Nat) (w0 w : World) (hI : IsRd w0 w g f) (hB : Below w0.heap.size w0 w) (hn : n ≤ f.length) :
    Calls Try.prog 61 #[.pointer (some ⟨g, 0, none⟩), .int .i64 (n : Int)] w fun e w' => ∃ A c, e = .returned (.slice A n c) ∧ n ≤ c ∧ Kd.C (Kd.int .u8) w0 A n (f.take n) ∧ IsRd w0 w' g (f.drop n) ∧ Below w0.heap.size w0 w' ∧ KeepBut w w' g none := by
  obtain ⟨A, c, hb, hg, hc, hr, hby⟩ := hI
  have hcell : w.cell? ⟨g, 0, none⟩ = some (.slice A f.length c) := (blk_cell hb 0).trans rfl
  have hu1 := Try.underlying100
  have h1 : (0 : Int) ≤ (n : Int) := by omega
  have h2 : (n : Int) ≤ (c : Int) := by omega
  have h3 : (n : Int) ≤ (f.length : Int) := by omega
  have h4 : ((n : Int)).toNat = n := by omega
  have hfz := blk_frozen hb 0
  have hd := Kd.C_drop (c := c) hr hn hc
  have ht := Kd.C_take hr hn
  rw [List.length_take, Nat.min_eq_left hn] at ht
  have hl : (f.drop n).length = f.length - n := List.length_drop
  have fin : ∀ A', (Kd.int .u8).C w0 A' (f.drop n).length (f.drop n) → IsRd w0 (w.setCell ⟨g, 0, none⟩ (.slice A' (f.length - n) (c - n))) g (f.drop n) := fun A' h => ⟨A', c - n, by rw [hl]; simpa using blk_set hb 0 (.slice A' (f.length - n) (c - n)), hg, by omega, h, fun x hx => hby x (List.mem_of_mem_drop hx)⟩
  have hk : ∀ u, KeepBut w (w.setCell ⟨g, 0, none⟩ u) g none := fun u => (KeepBut.refl w g none).set_ 0 u
  have hbel : ∀ u, Below w0.heap.size w0 (w.setCell ⟨g, 0, none⟩ u) := fun u => below_set hB hg
  by_cases hcn : c = n
  · subst hcn
    rw [if_pos rfl] at hd
    go_enter Try.func61, Try.ntmps61
    go_wp2
    go_ret
    exact ⟨_, _, rfl, by omega, ht, by have h := fin A hd; rw [Nat.sub_self, show f.length - c = 0 by omega] at h; first | exact h | simpa [show f.length - c = 0 by omega] using h, hbel _, hk _⟩
  · rw [if_neg hcn] at hd
    go_enter Try.func61, Try.ntmps61
    go_wp2
    go_ret
    exact ⟨_, _, rfl, by omega, ht, fin _ (by rw [show (Kd.int .u8).sz = 1 from rfl, Nat.mul_one] at hd; exact hd), hbel _, hk _⟩

/-! ### pq_readBuf_byte: function 57 -/
set_option maxHeartbeats 1000000 in
set_option maxRecDepth 100000 in
theorem pq_readBuf_byte.calls (g : Nat) (f : List Int) (w0 w : World) (hI : IsRd w0 w g f) (hB : Below w0.heap.size w0 w) (hn : 1 ≤ f.length) :
    Calls Try.prog 57 #[.pointer (some ⟨g, 0, none⟩)] w fun e w' => e = .returned (.int .u8 (rd f 0)) ∧ IsRd w0 w' g (f.drop 1) ∧ Below w0.heap.size w0 w' ∧ KeepBut w w' g none := by
  have hc := pq_readBuf_next.calls g f 1 w0 w hI hB hn
  go_enter Try.func57, Try.ntmps57
  go_wp2_with fail
  refine hc.mono ?_
  rintro e w1 ⟨A, c, rfl, h1, h2, h3, h4, h5⟩
  have h2' := Kd.C_below h2 h4
  obtain ⟨ad, rfl, hcell⟩ := Kd.at_int h2' 0 (by omega) (by simp)
  have hcell' : w1.cell? ad = some (.int .u8 (rd f 0)) := by
    obtain ⟨x, t, rfl⟩ : ∃ x t, f = x :: t := by cases f with | nil => simp at hn | cons x t => exact ⟨x, t, rfl⟩
    simpa [rd, Addr.add] using hcell
  go_wp2
  go_ret
  exact ⟨rfl, h3, h4, h5⟩

/-! ### pq_Reader_Byte: function 31 -/
set_option maxHeartbeats 1000000 in
set_option maxRecDepth 100000 in
theorem pq_Reader_Byte.calls (g : Nat) (f : List Int) (w0 w : World) (hI : IsRd w0 w g f) (hB : Below w0.heap.size w0 w) (hn : 1 ≤ f.length) :
    Calls Try.prog 31 #[.pointer (some ⟨g, 0, none⟩)] w fun e w' => e = .returned (.int .u8 (rd f 0)) ∧ IsRd w0 w' g (f.drop 1) ∧ Below w0.heap.size w0 w' ∧ KeepBut w w' g none := by
  have hc := pq_readBuf_byte.calls g f w0 w hI hB hn
  go_enter Try.func31, Try.ntmps31
  go_wp2_with fail
  refine hc.mono ?_
  rintro e w1 ⟨rfl, h1, h2, h3⟩
  go_wp2
  go_ret
  exact ⟨rfl, h1, h2, h3⟩

/-! ### binary_bigEndian_Uint16: function 73 -/
set_option maxHeartbeats 1000000 in
set_option maxRecDepth 100000 in
theorem binary_bigEndian_Uint16.calls (A : Option Addr) (n c : Nat) (f : List Int) (w : World) (hr : (Kd.int .u8).C w A n f) (hn : 2 ≤ n) (hf : Bytes f) :
    Calls Try.prog 73 #[.agg #[], .slice A n c] w fun e w' => e = .returned (.int .u16 (rd f 0 * 256 + rd f 1)) ∧ Below w.heap.size w w' := by
  have hr' := fun o q => Kd.C_drewN (Kd.C_alloc hr o) q
  have hA : ∃ ad, A = some ad := by obtain ⟨ad, e, _⟩ := rd_cell hr (by omega); exact ⟨ad, e⟩
  obtain ⟨ad, rfl⟩ := hA
  have hc : ∀ o q i, i < n → ((w.alloc o).drewN q).cell? (ad.add i) = some (.int .u8 (rd f i)) := by
    intro o q i hi
    obtain ⟨ad', e, hc⟩ := rd_cell (hr' o q) (by omega)
    injection e with e
    subst e
    exact hc i hi
  have c0 : ∀ o q, ((w.alloc o).drewN q).cell? ad = some (.int .u8 (rd f 0)) := fun o q => by simpa [Addr.add] using hc o q 0 (by omega)
  have c1 : ∀ o q, ((w.alloc o).drewN q).cell? ⟨ad.block, ad.off + 1, none⟩ = some (.int .u8 (rd f 1)) := fun o q => by simpa [Addr.add] using hc o q 1 (by omega)
  have c00 : ∀ o, (w.alloc o).cell? ad = some (.int .u8 (rd f 0)) := fun o => c0 o 0
  have c10 : ∀ o, (w.alloc o).cell? ⟨ad.block, ad.off + 1, none⟩ = some (.int .u8 (rd f 1)) := fun o => c1 o 0
  have h1 : (1 : Int) < (n : Int) := by omega
  have h0 : (0 : Int) < (n : Int) := by omega
  go_enter Try.func73, Try.ntmps73
  go_wp2
  go_quiet (fail)
  go_wp2
  go_ret
  exact ⟨by rw [or16 _ _ (hf.rd 0).1 (hf.rd 0).2 (hf.rd 1).1 (hf.rd 1).2]; rfl, pw_below_drewN (below_alloc (Below.refl _ _) _) _⟩

end Go.Proofs.Ythcikkjjegfblab.P
