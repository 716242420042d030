-- Written by the program wip/myprint.py of this session, over the kit's print of the translation. Lean checks it.
import Derived.Test.YthcikkjjegfblabPx0
import Derived.Test.YthcikkjjegfblabPx2
import Derived.Test.YthcikkjjegfblabPx3
import Derived.Test.YthcikkjjegfblabPx5
import Derived.Test.YthcikkjjegfblabPx7
import Derived.Test.YthcikkjjegfblabPx8
namespace Go.Proofs.Ythcikkjjegfblab.P
open Go.RowKit Go.Proofs.YthcikkjjegfblabW.PrintWords Go.Proofs.YthcikkjjegfblabW.PrintLast Go.Proofs.YthcikkjjegfblabW.PrintMore
attribute [local go_sem] max2_int min2_int max_two min_two max_three min_three max_four min_four   -- for this text's walks alone
set_option linter.unusedVariables false
set_option linter.unusedSimpArgs false

/-! ### laws_zzFits9: function 17 -/
def laws_zzFits9.l0 : Nat → List (S43) → Int → Int → Option (Bool)
  | 0, _, _, _ => none
  | k + 1, x8, x9, x10 => if x10 < x9 then (if 0 ≤ x10 then (if x10 < (x8.length : Int) then ((laws_zzFits10.f ((rd_T43 x8 x10).f0) ((rd_T43 x8 x10).f1) ((rd_T43 x8 x10).f2) ((rd_T43 x8 x10).f3) ((rd_T43 x8 x10).f4)).bind fun t171 => (if t171 = true then (laws_zzFits9.l0 k x8 x9 (wrap64 (x10 + 1))) else (some false))) else (none)) else (none)) else (some true)
def laws_zzFits9.f (k : Nat) (l0 : List (S43)) : Option (Bool) := if (l0.length : Int) > 2147483647 then (some false) else (laws_zzFits9.l0 k l0 (l0.length : Int) 0)
theorem laws_zzFits9.mono_l : ∀ k, (∀ y0 y1 y2, LeO (laws_zzFits9.l0 k y0 y1 y2) (laws_zzFits9.l0 (k + 1) y0 y1 y2))
  | 0 => fun _ _ _ r h => by simp [laws_zzFits9.l0] at h
  | k + 1 => by
    have ih0 := laws_zzFits9.mono_l k
    · intro y0 y1 y2
      unfold laws_zzFits9.l0
      repeat' first
      | (with_reducible exact ih0 _ _ _)
      | (with_reducible exact LeO.refl _)
      | (with_reducible exact LeO.none _)
      | (with_reducible refine LeO.ite ?_ ?_)
      | (with_reducible refine LeO.bind ?_ (fun _ => ?_))
      | exact ih0 _ _ _
      | exact LeO.none _
      | refine LeO.ite ?_ ?_
      | refine LeO.bind ?_ (fun _ => ?_)
theorem laws_zzFits9.mono : ∀ a0 k, LeO (laws_zzFits9.f k a0) (laws_zzFits9.f (k + 1) a0) := by
  intro a0 k
  have ih0 := laws_zzFits9.mono_l k
  unfold laws_zzFits9.f
  repeat' first
      | (with_reducible exact ih0 _ _ _)
      | (with_reducible exact LeO.refl _)
      | (with_reducible exact LeO.none _)
      | (with_reducible refine LeO.ite ?_ ?_)
      | (with_reducible refine LeO.bind ?_ (fun _ => ?_))
      | exact ih0 _ _ _
      | exact LeO.none _
      | refine LeO.ite ?_ ?_
      | refine LeO.bind ?_ (fun _ => ?_)
set_option maxHeartbeats 8000000 in
set_option maxRecDepth 100000 in
theorem laws_zzFits9.calls (k : Nat) (A0 : Option Addr) (c0 : Nat) (l0 : List (S43)) (r : Bool) (w : World) (hr0 : Kd.C k43 w A0 l0.length l0) (hc0 : l0.length ≤ c0) (h : laws_zzFits9.f k l0 = some r) :
    Calls Try.prog 17 #[.slice A0 l0.length c0] w fun e w' => e = .returned (.bool r) ∧ Below w.heap.size w w' := by
  have hu43 := Try.underlying43
  have HR0 := Aside0.mk hr0
  have HC0 := Aside0.mk hc0
  clear hr0 hc0
  have HB := Aside0.mk (Below.refl w.heap.size w)
  have H : (if (l0.length : Int) > 2147483647 then (some false) else (laws_zzFits9.l0 k l0 (l0.length : Int) 0)) = some r := h
  clear h
  by_cases c2 : (l0.length : Int) > 2147483647
  · rw [if_pos c2] at H
    have c2b0 : decide (2147483647 < (l0.length : Int)) = true := decide_eq_true c2
    have c2b1 : decide (2147483647 < l0.length) = true := decide_eq_true (by omega)
    clear c2
    obtain rfl := Option.some.inj H
    go_enter Try.func17, Try.ntmps17
    go_wp2
    go_ret
    exact ⟨by first | rfl | (simp [errW_none, errW_some] <;> rfl) | (simp [*, errW_none, errW_some] <;> rfl), by repeat (first | (with_reducible first | exact HB.out | apply below_alloc | apply pw_below_drewN | apply below_drew1) | exact HB.out)⟩
  · rw [if_neg c2] at H
    have c2b0 : decide (2147483647 < (l0.length : Int)) = false := decide_eq_false c2
    have c2b1 : decide (2147483647 < l0.length) = false := decide_eq_false (by omega)
    clear c2
    have H' := Aside0.mk H
    clear H
    go_enter Try.func17, Try.ntmps17
    go_wp2
    go_loopg [10] k (fun kq v10 w' => ∃ (x10_1 : Int), v10 = .int .i64 x10_1 ∧ Aside0 (laws_zzFits9.l0 kq l0 (l0.length : Int) x10_1 = some r) ∧ Aside0 (kq ≤ k) ∧ Aside0 (Below w.heap.size w w'))
    case atStart => exact ⟨(0), (by first | rfl | (simp; done) | (simp [*]; done)), H', ⟨Nat.le_refl _⟩, ⟨by repeat (first | (with_reducible first | exact HB.out | apply below_alloc | apply pw_below_drewN | apply below_drew1) | exact HB.out)⟩⟩
    case round =>
      clear H'
      try clear c1
      try clear c2
      try clear c2b0
      try clear c2b1
      try clear p2
      obtain ⟨x10_1, rfl, HA, HK1, HB⟩ := hrel
      cases gk with
      | zero => exact absurd HA.out (by simp [laws_zzFits9.l0])
      | succ k1 =>
        have H := HA.out
        clear HA
        simp only [laws_zzFits9.l0] at H
        by_cases c3 : x10_1 < (l0.length : Int)
        · rw [if_pos c3] at H
          have c3b0 : decide (x10_1 < (l0.length : Int)) = true := decide_eq_true c3
          clear c3
          by_cases c4 : 0 ≤ x10_1
          · rw [if_pos c4] at H
            have c4b0 : decide (0 ≤ x10_1) = true := decide_eq_true c4
            clear c4
            by_cases c5 : x10_1 < (l0.length : Int)
            · rw [if_pos c5] at H
              have c5b0 : decide (x10_1 < (l0.length : Int)) = true := decide_eq_true c5
              clear c5
              replace H := Option.bind_eq_some_iff.mp H
              obtain ⟨t171, A60, H⟩ := H
              replace H : (if t171 = true then (laws_zzFits9.l0 k1 l0 (l0.length : Int) (wrap64 (x10_1 + 1))) else (some false)) = some r := H
              have A6 := Aside0.mk A60
              clear A60
              by_cases c7 : t171 = true
              · subst c7
                have H1 : (laws_zzFits9.l0 k1 l0 (l0.length : Int) (wrap64 (x10_1 + 1))) = some r := by rw [if_pos rfl] at H; exact H
                clear H
                have H := H1
                clear H1
                have H' := Aside0.mk H
                clear H
                have p169 : 0 ≤ (x10_1 : Int) := of_decide_eq_true (by first | (with_reducible assumption) | assumption)
                have q169 : x10_1 < (l0.length : Int) := of_decide_eq_true (by first | (with_reducible assumption) | assumption)
                obtain ⟨ad169, e169, hx169_0, hx169_1, hx169_2, hx169_3, hx169_4⟩ := at_T43 HR0.out x10_1 p169 q169
                cases e169
                replace hx169_0 := (HB.out.cell (World.block_lt_of_cell? w _ hx169_0)).trans hx169_0
                replace hx169_1 := (HB.out.cell (World.block_lt_of_cell? w _ hx169_1)).trans hx169_1
                replace hx169_2 := (HB.out.cell (World.block_lt_of_cell? w _ hx169_2)).trans hx169_2
                replace hx169_3 := (HB.out.cell (World.block_lt_of_cell? w _ hx169_3)).trans hx169_3
                replace hx169_4 := (HB.out.cell (World.block_lt_of_cell? w _ hx169_4)).trans hx169_4
                replace p169 := eq_true p169
                replace q169 := eq_true q169
                go_wp2_with (first | ((with_reducible refine gate_dst (N := 4) rfl ?_); refine box_event ?hg (N := 4) ?hd (cs := #[.string (⟨#[]⟩ : ByteArray), .int .u32 0, .int .i64 0, .int .i64 0, .int .i64 0]) (t := 43) ?hr ?_; (case hd => rfl); (case hg => rfl); (case hr => first | (go_simp; done) | (go_simp; rfl)); intro gb170 hg w8 hbox hb; have n0_ := Aside0.mk (below_step (by repeat (first | (with_reducible first | exact HB.out | apply below_alloc | apply pw_below_drewN | apply below_drew1) | exact HB.out)) hb); have n1_ := Aside0.mk (hbox); have n2_ := Aside0.mk ((by rw [hg]; exact (below_size (by repeat (first | (with_reducible first | exact HB.out | apply below_alloc | apply pw_below_drewN | apply below_drew1) | exact HB.out))) : w.heap.size ≤ gb170)); have n3_ := Aside0.mk ((by rw [hg]; exact (below_size (by repeat (first | (with_reducible first | exact HB.out | apply below_alloc | apply pw_below_drewN | apply below_drew1) | exact HB.out))) : w.heap.size ≤ gb170)); clear HB; have HB := n0_; have BK170 := n1_; have GW170 := n2_; have GE170 := n3_; clear n0_ n1_ n2_ n3_; clear hb hbox hg; have hcz9_0 : w8.cell? ⟨gb170, 0, none⟩ = some (.string (⟨#[]⟩ : ByteArray)) := (blk_cell BK170.out 0).trans rfl; have hcz9_1 : w8.cell? ⟨gb170, 1, none⟩ = some (.int .u32 0) := (blk_cell BK170.out 1).trans rfl; have hcz9_2 : w8.cell? ⟨gb170, 2, none⟩ = some (.int .i64 0) := (blk_cell BK170.out 2).trans rfl; have hcz9_3 : w8.cell? ⟨gb170, 3, none⟩ = some (.int .i64 0) := (blk_cell BK170.out 3).trans rfl; have hcz9_4 : w8.cell? ⟨gb170, 4, none⟩ = some (.int .i64 0) := (blk_cell BK170.out 4).trans rfl; have hfz9_0 := blk_frozen BK170.out 0; have hfz9_1 := blk_frozen BK170.out 1; have hfz9_2 := blk_frozen BK170.out 2; have hfz9_3 := blk_frozen BK170.out 3; have hfz9_4 := blk_frozen BK170.out 4) | ((with_reducible refine gate_callee (f := 43) rfl ?_); refine goesL_ (some 15) rfl rfl Try.func43 (by kernel_rfl) rfl #[.agg #[.string ((rd_T43 l0 x10_1).f0), .int .u32 ((rd_T43 l0 x10_1).f1), .int .i64 ((rd_T43 l0 x10_1).f2), .int .i64 ((rd_T43 l0 x10_1).f3), .int .i64 ((rd_T43 l0 x10_1).f4)]] rfl (by (try simp only [List.map_toArray, List.map_cons, List.map_nil]); first | done | rfl | (simp only [List.length_drop, List.length_take]; rfl)) ?_; (with_reducible refine (laws_zzFits10.calls ((rd_T43 l0 x10_1).f0) ((rd_T43 l0 x10_1).f1) ((rd_T43 l0 x10_1).f2) ((rd_T43 l0 x10_1).f3) ((rd_T43 l0 x10_1).f4) true _ A6.out).mono ?_); rintro e w10 ⟨rfl, hb⟩; refine ⟨_, rfl, ?_⟩; have n0_ := Aside0.mk (blk_below (g := gb170) (o := .cells #[.string ((rd_T43 l0 x10_1).f0), .int .u32 ((rd_T43 l0 x10_1).f1), .int .i64 ((rd_T43 l0 x10_1).f2), .int .i64 ((rd_T43 l0 x10_1).f3), .int .i64 ((rd_T43 l0 x10_1).f4)] 43 (0, 0)) (by (with_reducible repeat (first | refine blk_drewN ?_ _ | refine blk_drew ?_ | refine blk_alloc ?_ _)); refine blk_put (cs := #[.string ((rd_T43 l0 x10_1).f0), .int .u32 ((rd_T43 l0 x10_1).f1), .int .i64 ((rd_T43 l0 x10_1).f2), .int .i64 ((rd_T43 l0 x10_1).f3), .int .i64 0]) ?_ 4 _ rfl; (with_reducible repeat (first | refine blk_drewN ?_ _ | refine blk_drew ?_ | refine blk_alloc ?_ _)); refine blk_put (cs := #[.string ((rd_T43 l0 x10_1).f0), .int .u32 ((rd_T43 l0 x10_1).f1), .int .i64 ((rd_T43 l0 x10_1).f2), .int .i64 0, .int .i64 0]) ?_ 3 _ rfl; (with_reducible repeat (first | refine blk_drewN ?_ _ | refine blk_drew ?_ | refine blk_alloc ?_ _)); refine blk_put (cs := #[.string ((rd_T43 l0 x10_1).f0), .int .u32 ((rd_T43 l0 x10_1).f1), .int .i64 0, .int .i64 0, .int .i64 0]) ?_ 2 _ rfl; (with_reducible repeat (first | refine blk_drewN ?_ _ | refine blk_drew ?_ | refine blk_alloc ?_ _)); refine blk_put (cs := #[.string ((rd_T43 l0 x10_1).f0), .int .u32 0, .int .i64 0, .int .i64 0, .int .i64 0]) ?_ 1 _ rfl; (with_reducible repeat (first | refine blk_drewN ?_ _ | refine blk_drew ?_ | refine blk_alloc ?_ _)); refine blk_put (cs := #[.string (⟨#[]⟩ : ByteArray), .int .u32 0, .int .i64 0, .int .i64 0, .int .i64 0]) ?_ 0 _ rfl; (with_reducible repeat (first | refine blk_drewN ?_ _ | refine blk_drew ?_ | refine blk_alloc ?_ _)); exact BK170.out) hb); have n1_ := Aside0.mk (below_step (by repeat (first | (with_reducible first | exact HB.out | apply below_alloc | apply pw_below_drewN | apply below_drew1 | refine below_set ?_ GE170.out) | exact HB.out)) hb); clear BK170; clear HB; have BK170 := n0_; have HB := n1_; clear n0_ n1_; (try clear hb); (try clear hb2); (try clear hk); (try clear hi)))
                go_roundg k1
                case measure => have := HK1.out; omega
                case rel => exact ⟨(wrap64 (x10_1 + 1)), (by first | rfl | (simp; done) | (simp [*]; done)), H', ⟨by have := HK1.out; omega⟩, ⟨by repeat (first | (with_reducible first | exact HB.out | apply below_alloc | apply pw_below_drewN | apply below_drew1 | refine below_set ?_ GE170.out) | exact HB.out)⟩⟩
              · replace c7 := Bool.eq_false_iff.mpr c7
                subst c7
                have H1 : (some false) = some r := by rw [if_neg (show ¬ (false = true) by decide)] at H; exact H
                clear H
                have H := H1
                clear H1
                obtain rfl := Option.some.inj H
                have p169 : 0 ≤ (x10_1 : Int) := of_decide_eq_true (by first | (with_reducible assumption) | assumption)
                have q169 : x10_1 < (l0.length : Int) := of_decide_eq_true (by first | (with_reducible assumption) | assumption)
                obtain ⟨ad169, e169, hx169_0, hx169_1, hx169_2, hx169_3, hx169_4⟩ := at_T43 HR0.out x10_1 p169 q169
                cases e169
                replace hx169_0 := (HB.out.cell (World.block_lt_of_cell? w _ hx169_0)).trans hx169_0
                replace hx169_1 := (HB.out.cell (World.block_lt_of_cell? w _ hx169_1)).trans hx169_1
                replace hx169_2 := (HB.out.cell (World.block_lt_of_cell? w _ hx169_2)).trans hx169_2
                replace hx169_3 := (HB.out.cell (World.block_lt_of_cell? w _ hx169_3)).trans hx169_3
                replace hx169_4 := (HB.out.cell (World.block_lt_of_cell? w _ hx169_4)).trans hx169_4
                replace p169 := eq_true p169
                replace q169 := eq_true q169
                go_wp2_with (first | ((with_reducible refine gate_dst (N := 4) rfl ?_); refine box_event ?hg (N := 4) ?hd (cs := #[.string (⟨#[]⟩ : ByteArray), .int .u32 0, .int .i64 0, .int .i64 0, .int .i64 0]) (t := 43) ?hr ?_; (case hd => rfl); (case hg => rfl); (case hr => first | (go_simp; done) | (go_simp; rfl)); intro gb170 hg w11 hbox hb; have n0_ := Aside0.mk (below_step (by repeat (first | (with_reducible first | exact HB.out | apply below_alloc | apply pw_below_drewN | apply below_drew1) | exact HB.out)) hb); have n1_ := Aside0.mk (hbox); have n2_ := Aside0.mk ((by rw [hg]; exact (below_size (by repeat (first | (with_reducible first | exact HB.out | apply below_alloc | apply pw_below_drewN | apply below_drew1) | exact HB.out))) : w.heap.size ≤ gb170)); have n3_ := Aside0.mk ((by rw [hg]; exact (below_size (by repeat (first | (with_reducible first | exact HB.out | apply below_alloc | apply pw_below_drewN | apply below_drew1) | exact HB.out))) : w.heap.size ≤ gb170)); clear HB; have HB := n0_; have BK170 := n1_; have GW170 := n2_; have GE170 := n3_; clear n0_ n1_ n2_ n3_; clear hb hbox hg; have hcz12_0 : w11.cell? ⟨gb170, 0, none⟩ = some (.string (⟨#[]⟩ : ByteArray)) := (blk_cell BK170.out 0).trans rfl; have hcz12_1 : w11.cell? ⟨gb170, 1, none⟩ = some (.int .u32 0) := (blk_cell BK170.out 1).trans rfl; have hcz12_2 : w11.cell? ⟨gb170, 2, none⟩ = some (.int .i64 0) := (blk_cell BK170.out 2).trans rfl; have hcz12_3 : w11.cell? ⟨gb170, 3, none⟩ = some (.int .i64 0) := (blk_cell BK170.out 3).trans rfl; have hcz12_4 : w11.cell? ⟨gb170, 4, none⟩ = some (.int .i64 0) := (blk_cell BK170.out 4).trans rfl; have hfz12_0 := blk_frozen BK170.out 0; have hfz12_1 := blk_frozen BK170.out 1; have hfz12_2 := blk_frozen BK170.out 2; have hfz12_3 := blk_frozen BK170.out 3; have hfz12_4 := blk_frozen BK170.out 4) | ((with_reducible refine gate_callee (f := 43) rfl ?_); refine goesL_ (some 15) rfl rfl Try.func43 (by kernel_rfl) rfl #[.agg #[.string ((rd_T43 l0 x10_1).f0), .int .u32 ((rd_T43 l0 x10_1).f1), .int .i64 ((rd_T43 l0 x10_1).f2), .int .i64 ((rd_T43 l0 x10_1).f3), .int .i64 ((rd_T43 l0 x10_1).f4)]] rfl (by (try simp only [List.map_toArray, List.map_cons, List.map_nil]); first | done | rfl | (simp only [List.length_drop, List.length_take]; rfl)) ?_; (with_reducible refine (laws_zzFits10.calls ((rd_T43 l0 x10_1).f0) ((rd_T43 l0 x10_1).f1) ((rd_T43 l0 x10_1).f2) ((rd_T43 l0 x10_1).f3) ((rd_T43 l0 x10_1).f4) false _ A6.out).mono ?_); rintro e w13 ⟨rfl, hb⟩; refine ⟨_, rfl, ?_⟩; have n0_ := Aside0.mk (blk_below (g := gb170) (o := .cells #[.string ((rd_T43 l0 x10_1).f0), .int .u32 ((rd_T43 l0 x10_1).f1), .int .i64 ((rd_T43 l0 x10_1).f2), .int .i64 ((rd_T43 l0 x10_1).f3), .int .i64 ((rd_T43 l0 x10_1).f4)] 43 (0, 0)) (by (with_reducible repeat (first | refine blk_drewN ?_ _ | refine blk_drew ?_ | refine blk_alloc ?_ _)); refine blk_put (cs := #[.string ((rd_T43 l0 x10_1).f0), .int .u32 ((rd_T43 l0 x10_1).f1), .int .i64 ((rd_T43 l0 x10_1).f2), .int .i64 ((rd_T43 l0 x10_1).f3), .int .i64 0]) ?_ 4 _ rfl; (with_reducible repeat (first | refine blk_drewN ?_ _ | refine blk_drew ?_ | refine blk_alloc ?_ _)); refine blk_put (cs := #[.string ((rd_T43 l0 x10_1).f0), .int .u32 ((rd_T43 l0 x10_1).f1), .int .i64 ((rd_T43 l0 x10_1).f2), .int .i64 0, .int .i64 0]) ?_ 3 _ rfl; (with_reducible repeat (first | refine blk_drewN ?_ _ | refine blk_drew ?_ | refine blk_alloc ?_ _)); refine blk_put (cs := #[.string ((rd_T43 l0 x10_1).f0), .int .u32 ((rd_T43 l0 x10_1).f1), .int .i64 0, .int .i64 0, .int .i64 0]) ?_ 2 _ rfl; (with_reducible repeat (first | refine blk_drewN ?_ _ | refine blk_drew ?_ | refine blk_alloc ?_ _)); refine blk_put (cs := #[.string ((rd_T43 l0 x10_1).f0), .int .u32 0, .int .i64 0, .int .i64 0, .int .i64 0]) ?_ 1 _ rfl; (with_reducible repeat (first | refine blk_drewN ?_ _ | refine blk_drew ?_ | refine blk_alloc ?_ _)); refine blk_put (cs := #[.string (⟨#[]⟩ : ByteArray), .int .u32 0, .int .i64 0, .int .i64 0, .int .i64 0]) ?_ 0 _ rfl; (with_reducible repeat (first | refine blk_drewN ?_ _ | refine blk_drew ?_ | refine blk_alloc ?_ _)); exact BK170.out) hb); have n1_ := Aside0.mk (below_step (by repeat (first | (with_reducible first | exact HB.out | apply below_alloc | apply pw_below_drewN | apply below_drew1 | refine below_set ?_ GE170.out) | exact HB.out)) hb); clear BK170; clear HB; have BK170 := n0_; have HB := n1_; clear n0_ n1_; (try clear hb); (try clear hb2); (try clear hk); (try clear hi)))
                go_ret
                exact ⟨by first | rfl | (simp [errW_none, errW_some] <;> rfl) | (simp [*, errW_none, errW_some] <;> rfl), by repeat (first | (with_reducible first | exact HB.out | apply below_alloc | apply pw_below_drewN | apply below_drew1 | refine below_set ?_ GE170.out) | exact HB.out)⟩
            · rw [if_neg c5] at H
              exact absurd H (by simp)
          · rw [if_neg c4] at H
            exact absurd H (by simp)
        · rw [if_neg c3] at H
          have c3b0 : decide (x10_1 < (l0.length : Int)) = false := decide_eq_false c3
          clear c3
          obtain rfl := Option.some.inj H
          go_wp2
          go_ret
          exact ⟨by first | rfl | (simp [errW_none, errW_some] <;> rfl) | (simp [*, errW_none, errW_some] <;> rfl), by repeat (first | (with_reducible first | exact HB.out | apply below_alloc | apply pw_below_drewN | apply below_drew1) | exact HB.out)⟩

/-! ### spec_ColumnRight: function 18 -/
def spec_ColumnRight.f (k : Nat) (a0_0 : ByteArray) (a0_1 : Int) (a0_2 : Int) (a0_3 : Int) (a0_4 : Int) : Option (Bool) := (spec_hasZero.f k a0_0).bind fun t173 => (if t173 = true then (some false) else (if (a0_0.size : Int) ≤ 100 then (if a0_2 ≥ 0 then (if a0_2 < 32768 then (if a0_3 ≥ (-2147483648) then (if a0_3 < 2147483648 then (if a0_4 = 0 then (some true) else (some (a0_4 == 1))) else (some false)) else (some false)) else (some false)) else (some false)) else (some false)))
theorem spec_ColumnRight.mono : ∀ a0 a1 a2 a3 a4 k, LeO (spec_ColumnRight.f k a0 a1 a2 a3 a4) (spec_ColumnRight.f (k + 1) a0 a1 a2 a3 a4) := by
  intro a0 a1 a2 a3 a4 k
  unfold spec_ColumnRight.f
  repeat' first
      | (with_reducible exact spec_hasZero.mono _ _)
      | (with_reducible exact LeO.refl _)
      | (with_reducible exact LeO.none _)
      | (with_reducible refine LeO.ite ?_ ?_)
      | (with_reducible refine LeO.bind ?_ (fun _ => ?_))
      | exact spec_hasZero.mono _ _
      | exact LeO.none _
      | refine LeO.ite ?_ ?_
      | refine LeO.bind ?_ (fun _ => ?_)
set_option maxHeartbeats 8000000 in
set_option maxRecDepth 100000 in
theorem spec_ColumnRight.calls (k : Nat) (a0_0 : ByteArray) (a0_1 : Int) (a0_2 : Int) (a0_3 : Int) (a0_4 : Int) (r : Bool) (w : World) (h : spec_ColumnRight.f k a0_0 a0_1 a0_2 a0_3 a0_4 = some r) :
    Calls Try.prog 18 #[.agg #[.string a0_0, .int .u32 a0_1, .int .i64 a0_2, .int .i64 a0_3, .int .i64 a0_4]] w fun e w' => e = .returned (.bool r) ∧ Below w.heap.size w w' := by
  have hu43 := Try.underlying43
  have HB := Aside0.mk (Below.refl w.heap.size w)
  have H : ((spec_hasZero.f k a0_0).bind fun t173 => (if t173 = true then (some false) else (if (a0_0.size : Int) ≤ 100 then (if a0_2 ≥ 0 then (if a0_2 < 32768 then (if a0_3 ≥ (-2147483648) then (if a0_3 < 2147483648 then (if a0_4 = 0 then (some true) else (some (a0_4 == 1))) else (some false)) else (some false)) else (some false)) else (some false)) else (some false)))) = some r := h
  clear h
  replace H := Option.bind_eq_some_iff.mp H
  obtain ⟨t173, A20, H⟩ := H
  replace H : (if t173 = true then (some false) else (if (a0_0.size : Int) ≤ 100 then (if a0_2 ≥ 0 then (if a0_2 < 32768 then (if a0_3 ≥ (-2147483648) then (if a0_3 < 2147483648 then (if a0_4 = 0 then (some true) else (some (a0_4 == 1))) else (some false)) else (some false)) else (some false)) else (some false)) else (some false))) = some r := H
  have A2 := Aside0.mk A20
  clear A20
  by_cases c3 : t173 = true
  · subst c3
    have H1 : (some false) = some r := by rw [if_pos rfl] at H; exact H
    clear H
    have H := H1
    clear H1
    obtain rfl := Option.some.inj H
    go_enter Try.func18, Try.ntmps18
    go_wp2_with (first | ((with_reducible refine gate_dst (N := 1) rfl ?_); (try (refine gate_guard (by rfl) ?_; dsimp only)); refine box_event ?hg (N := 1) ?hd (cs := #[.string a0_0, .int .u32 a0_1, .int .i64 a0_2, .int .i64 a0_3, .int .i64 a0_4]) (t := 43) ?hr ?_; (case hd => rfl); (case hg => rfl); (case hr => first | (go_simp; done) | (go_simp; rfl)); intro gb172 hg w4 hbox hb; have n0_ := Aside0.mk (below_step (by repeat (first | (with_reducible first | exact HB.out | apply below_alloc | apply pw_below_drewN | apply below_drew1) | exact HB.out)) hb); have n1_ := Aside0.mk (hbox); have n2_ := Aside0.mk ((by rw [hg]; exact (below_size (by repeat (first | (with_reducible first | exact HB.out | apply below_alloc | apply pw_below_drewN | apply below_drew1) | exact HB.out))) : w.heap.size ≤ gb172)); have n3_ := Aside0.mk ((by rw [hg]; exact (below_size (by repeat (first | (with_reducible first | exact HB.out | apply below_alloc | apply pw_below_drewN | apply below_drew1) | exact HB.out))) : w.heap.size ≤ gb172)); clear HB; have HB := n0_; have BK172 := n1_; have GW172 := n2_; have GE172 := n3_; clear n0_ n1_ n2_ n3_; clear hb hbox hg; have hcz5_0 : w4.cell? ⟨gb172, 0, none⟩ = some (.string a0_0) := (blk_cell BK172.out 0).trans rfl; have hcz5_1 : w4.cell? ⟨gb172, 1, none⟩ = some (.int .u32 a0_1) := (blk_cell BK172.out 1).trans rfl; have hcz5_2 : w4.cell? ⟨gb172, 2, none⟩ = some (.int .i64 a0_2) := (blk_cell BK172.out 2).trans rfl; have hcz5_3 : w4.cell? ⟨gb172, 3, none⟩ = some (.int .i64 a0_3) := (blk_cell BK172.out 3).trans rfl; have hcz5_4 : w4.cell? ⟨gb172, 4, none⟩ = some (.int .i64 a0_4) := (blk_cell BK172.out 4).trans rfl; have hfz5_0 := blk_frozen BK172.out 0; have hfz5_1 := blk_frozen BK172.out 1; have hfz5_2 := blk_frozen BK172.out 2; have hfz5_3 := blk_frozen BK172.out 3; have hfz5_4 := blk_frozen BK172.out 4) | ((with_reducible refine gate_callee (f := 44) rfl ?_); refine goesL_ (some 5) rfl rfl Try.func44 (by kernel_rfl) rfl #[.string a0_0] rfl (by (try simp only [List.map_toArray, List.map_cons, List.map_nil]); first | done | rfl | (simp only [List.length_drop, List.length_take]; rfl)) ?_; (with_reducible refine (spec_hasZero.calls k a0_0 true _ A2.out).mono ?_); rintro e w' ⟨rfl, ⟨nd, rfl⟩⟩; refine ⟨_, rfl, ?_⟩))
    go_ret
    exact ⟨by first | rfl | (simp [errW_none, errW_some] <;> rfl) | (simp [*, errW_none, errW_some] <;> rfl), by repeat (first | (with_reducible first | exact HB.out | apply below_alloc | apply pw_below_drewN | apply below_drew1 | refine below_set ?_ GE172.out) | exact HB.out)⟩
  · replace c3 := Bool.eq_false_iff.mpr c3
    subst c3
    have H1 : (if (a0_0.size : Int) ≤ 100 then (if a0_2 ≥ 0 then (if a0_2 < 32768 then (if a0_3 ≥ (-2147483648) then (if a0_3 < 2147483648 then (if a0_4 = 0 then (some true) else (some (a0_4 == 1))) else (some false)) else (some false)) else (some false)) else (some false)) else (some false)) = some r := by rw [if_neg (show ¬ (false = true) by decide)] at H; exact H
    clear H
    have H := H1
    clear H1
    by_cases c6 : (a0_0.size : Int) ≤ 100
    · rw [if_pos c6] at H
      have c6b0 : decide ((a0_0.size : Int) ≤ 100) = true := decide_eq_true c6
      have c6b1 : decide (a0_0.size ≤ 100) = true := decide_eq_true (by omega)
      clear c6
      by_cases c7 : a0_2 ≥ 0
      · rw [if_pos c7] at H
        have c7b0 : decide (0 ≤ a0_2) = true := decide_eq_true c7
        clear c7
        by_cases c8 : a0_2 < 32768
        · rw [if_pos c8] at H
          have c8b0 : decide (a0_2 < 32768) = true := decide_eq_true c8
          clear c8
          by_cases c9 : a0_3 ≥ (-2147483648)
          · rw [if_pos c9] at H
            have c9b0 : decide ((-2147483648) ≤ a0_3) = true := decide_eq_true c9
            clear c9
            by_cases c10 : a0_3 < 2147483648
            · rw [if_pos c10] at H
              have c10b0 : decide (a0_3 < 2147483648) = true := decide_eq_true c10
              clear c10
              by_cases c11 : a0_4 = 0
              · rw [if_pos c11] at H
                have c11b0 : (a0_4 == 0) = true := beq_iff_eq.mpr c11
                have c11b1 : (a0_4 != 0) = false := bne_eq_false_iff_eq.mpr c11
                clear c11
                obtain rfl := Option.some.inj H
                go_enter Try.func18, Try.ntmps18
                go_wp2_with (first | ((with_reducible refine gate_dst (N := 1) rfl ?_); (try (refine gate_guard (by rfl) ?_; dsimp only)); refine box_event ?hg (N := 1) ?hd (cs := #[.string a0_0, .int .u32 a0_1, .int .i64 a0_2, .int .i64 a0_3, .int .i64 a0_4]) (t := 43) ?hr ?_; (case hd => rfl); (case hg => rfl); (case hr => first | (go_simp; done) | (go_simp; rfl)); intro gb172 hg w12 hbox hb; have n0_ := Aside0.mk (below_step (by repeat (first | (with_reducible first | exact HB.out | apply below_alloc | apply pw_below_drewN | apply below_drew1) | exact HB.out)) hb); have n1_ := Aside0.mk (hbox); have n2_ := Aside0.mk ((by rw [hg]; exact (below_size (by repeat (first | (with_reducible first | exact HB.out | apply below_alloc | apply pw_below_drewN | apply below_drew1) | exact HB.out))) : w.heap.size ≤ gb172)); have n3_ := Aside0.mk ((by rw [hg]; exact (below_size (by repeat (first | (with_reducible first | exact HB.out | apply below_alloc | apply pw_below_drewN | apply below_drew1) | exact HB.out))) : w.heap.size ≤ gb172)); clear HB; have HB := n0_; have BK172 := n1_; have GW172 := n2_; have GE172 := n3_; clear n0_ n1_ n2_ n3_; clear hb hbox hg; have hcz13_0 : w12.cell? ⟨gb172, 0, none⟩ = some (.string a0_0) := (blk_cell BK172.out 0).trans rfl; have hcz13_1 : w12.cell? ⟨gb172, 1, none⟩ = some (.int .u32 a0_1) := (blk_cell BK172.out 1).trans rfl; have hcz13_2 : w12.cell? ⟨gb172, 2, none⟩ = some (.int .i64 a0_2) := (blk_cell BK172.out 2).trans rfl; have hcz13_3 : w12.cell? ⟨gb172, 3, none⟩ = some (.int .i64 a0_3) := (blk_cell BK172.out 3).trans rfl; have hcz13_4 : w12.cell? ⟨gb172, 4, none⟩ = some (.int .i64 a0_4) := (blk_cell BK172.out 4).trans rfl; have hfz13_0 := blk_frozen BK172.out 0; have hfz13_1 := blk_frozen BK172.out 1; have hfz13_2 := blk_frozen BK172.out 2; have hfz13_3 := blk_frozen BK172.out 3; have hfz13_4 := blk_frozen BK172.out 4) | ((with_reducible refine gate_callee (f := 44) rfl ?_); refine goesL_ (some 5) rfl rfl Try.func44 (by kernel_rfl) rfl #[.string a0_0] rfl (by (try simp only [List.map_toArray, List.map_cons, List.map_nil]); first | done | rfl | (simp only [List.length_drop, List.length_take]; rfl)) ?_; (with_reducible refine (spec_hasZero.calls k a0_0 false _ A2.out).mono ?_); rintro e w' ⟨rfl, ⟨nd, rfl⟩⟩; refine ⟨_, rfl, ?_⟩))
                go_ret
                exact ⟨by first | rfl | (simp [errW_none, errW_some] <;> rfl) | (simp [*, errW_none, errW_some] <;> rfl), by repeat (first | (with_reducible first | exact HB.out | apply below_alloc | apply pw_below_drewN | apply below_drew1 | refine below_set ?_ GE172.out) | exact HB.out)⟩
              · rw [if_neg c11] at H
                have c11b0 : (a0_4 == 0) = false := beq_eq_false_iff_ne.mpr c11
                have c11b1 : (a0_4 != 0) = true := bne_iff_ne.mpr c11
                obtain rfl := Option.some.inj H
                go_enter Try.func18, Try.ntmps18
                go_wp2_with (first | ((with_reducible refine gate_dst (N := 1) rfl ?_); (try (refine gate_guard (by rfl) ?_; dsimp only)); refine box_event ?hg (N := 1) ?hd (cs := #[.string a0_0, .int .u32 a0_1, .int .i64 a0_2, .int .i64 a0_3, .int .i64 a0_4]) (t := 43) ?hr ?_; (case hd => rfl); (case hg => rfl); (case hr => first | (go_simp; done) | (go_simp; rfl)); intro gb172 hg w14 hbox hb; have n0_ := Aside0.mk (below_step (by repeat (first | (with_reducible first | exact HB.out | apply below_alloc | apply pw_below_drewN | apply below_drew1) | exact HB.out)) hb); have n1_ := Aside0.mk (hbox); have n2_ := Aside0.mk ((by rw [hg]; exact (below_size (by repeat (first | (with_reducible first | exact HB.out | apply below_alloc | apply pw_below_drewN | apply below_drew1) | exact HB.out))) : w.heap.size ≤ gb172)); have n3_ := Aside0.mk ((by rw [hg]; exact (below_size (by repeat (first | (with_reducible first | exact HB.out | apply below_alloc | apply pw_below_drewN | apply below_drew1) | exact HB.out))) : w.heap.size ≤ gb172)); clear HB; have HB := n0_; have BK172 := n1_; have GW172 := n2_; have GE172 := n3_; clear n0_ n1_ n2_ n3_; clear hb hbox hg; have hcz15_0 : w14.cell? ⟨gb172, 0, none⟩ = some (.string a0_0) := (blk_cell BK172.out 0).trans rfl; have hcz15_1 : w14.cell? ⟨gb172, 1, none⟩ = some (.int .u32 a0_1) := (blk_cell BK172.out 1).trans rfl; have hcz15_2 : w14.cell? ⟨gb172, 2, none⟩ = some (.int .i64 a0_2) := (blk_cell BK172.out 2).trans rfl; have hcz15_3 : w14.cell? ⟨gb172, 3, none⟩ = some (.int .i64 a0_3) := (blk_cell BK172.out 3).trans rfl; have hcz15_4 : w14.cell? ⟨gb172, 4, none⟩ = some (.int .i64 a0_4) := (blk_cell BK172.out 4).trans rfl; have hfz15_0 := blk_frozen BK172.out 0; have hfz15_1 := blk_frozen BK172.out 1; have hfz15_2 := blk_frozen BK172.out 2; have hfz15_3 := blk_frozen BK172.out 3; have hfz15_4 := blk_frozen BK172.out 4) | ((with_reducible refine gate_callee (f := 44) rfl ?_); refine goesL_ (some 5) rfl rfl Try.func44 (by kernel_rfl) rfl #[.string a0_0] rfl (by (try simp only [List.map_toArray, List.map_cons, List.map_nil]); first | done | rfl | (simp only [List.length_drop, List.length_take]; rfl)) ?_; (with_reducible refine (spec_hasZero.calls k a0_0 false _ A2.out).mono ?_); rintro e w' ⟨rfl, ⟨nd, rfl⟩⟩; refine ⟨_, rfl, ?_⟩))
                go_ret
                exact ⟨by first | rfl | (simp [errW_none, errW_some] <;> rfl) | (simp [*, errW_none, errW_some] <;> rfl), by repeat (first | (with_reducible first | exact HB.out | apply below_alloc | apply pw_below_drewN | apply below_drew1 | refine below_set ?_ GE172.out) | exact HB.out)⟩
            · rw [if_neg c10] at H
              have c10b0 : decide (a0_3 < 2147483648) = false := decide_eq_false c10
              clear c10
              obtain rfl := Option.some.inj H
              go_enter Try.func18, Try.ntmps18
              go_wp2_with (first | ((with_reducible refine gate_dst (N := 1) rfl ?_); (try (refine gate_guard (by rfl) ?_; dsimp only)); refine box_event ?hg (N := 1) ?hd (cs := #[.string a0_0, .int .u32 a0_1, .int .i64 a0_2, .int .i64 a0_3, .int .i64 a0_4]) (t := 43) ?hr ?_; (case hd => rfl); (case hg => rfl); (case hr => first | (go_simp; done) | (go_simp; rfl)); intro gb172 hg w16 hbox hb; have n0_ := Aside0.mk (below_step (by repeat (first | (with_reducible first | exact HB.out | apply below_alloc | apply pw_below_drewN | apply below_drew1) | exact HB.out)) hb); have n1_ := Aside0.mk (hbox); have n2_ := Aside0.mk ((by rw [hg]; exact (below_size (by repeat (first | (with_reducible first | exact HB.out | apply below_alloc | apply pw_below_drewN | apply below_drew1) | exact HB.out))) : w.heap.size ≤ gb172)); have n3_ := Aside0.mk ((by rw [hg]; exact (below_size (by repeat (first | (with_reducible first | exact HB.out | apply below_alloc | apply pw_below_drewN | apply below_drew1) | exact HB.out))) : w.heap.size ≤ gb172)); clear HB; have HB := n0_; have BK172 := n1_; have GW172 := n2_; have GE172 := n3_; clear n0_ n1_ n2_ n3_; clear hb hbox hg; have hcz17_0 : w16.cell? ⟨gb172, 0, none⟩ = some (.string a0_0) := (blk_cell BK172.out 0).trans rfl; have hcz17_1 : w16.cell? ⟨gb172, 1, none⟩ = some (.int .u32 a0_1) := (blk_cell BK172.out 1).trans rfl; have hcz17_2 : w16.cell? ⟨gb172, 2, none⟩ = some (.int .i64 a0_2) := (blk_cell BK172.out 2).trans rfl; have hcz17_3 : w16.cell? ⟨gb172, 3, none⟩ = some (.int .i64 a0_3) := (blk_cell BK172.out 3).trans rfl; have hcz17_4 : w16.cell? ⟨gb172, 4, none⟩ = some (.int .i64 a0_4) := (blk_cell BK172.out 4).trans rfl; have hfz17_0 := blk_frozen BK172.out 0; have hfz17_1 := blk_frozen BK172.out 1; have hfz17_2 := blk_frozen BK172.out 2; have hfz17_3 := blk_frozen BK172.out 3; have hfz17_4 := blk_frozen BK172.out 4) | ((with_reducible refine gate_callee (f := 44) rfl ?_); refine goesL_ (some 5) rfl rfl Try.func44 (by kernel_rfl) rfl #[.string a0_0] rfl (by (try simp only [List.map_toArray, List.map_cons, List.map_nil]); first | done | rfl | (simp only [List.length_drop, List.length_take]; rfl)) ?_; (with_reducible refine (spec_hasZero.calls k a0_0 false _ A2.out).mono ?_); rintro e w' ⟨rfl, ⟨nd, rfl⟩⟩; refine ⟨_, rfl, ?_⟩))
              go_ret
              exact ⟨by first | rfl | (simp [errW_none, errW_some] <;> rfl) | (simp [*, errW_none, errW_some] <;> rfl), by repeat (first | (with_reducible first | exact HB.out | apply below_alloc | apply pw_below_drewN | apply below_drew1 | refine below_set ?_ GE172.out) | exact HB.out)⟩
          · rw [if_neg c9] at H
            have c9b0 : decide ((-2147483648) ≤ a0_3) = false := decide_eq_false c9
            clear c9
            obtain rfl := Option.some.inj H
            go_enter Try.func18, Try.ntmps18
            go_wp2_with (first | ((with_reducible refine gate_dst (N := 1) rfl ?_); (try (refine gate_guard (by rfl) ?_; dsimp only)); refine box_event ?hg (N := 1) ?hd (cs := #[.string a0_0, .int .u32 a0_1, .int .i64 a0_2, .int .i64 a0_3, .int .i64 a0_4]) (t := 43) ?hr ?_; (case hd => rfl); (case hg => rfl); (case hr => first | (go_simp; done) | (go_simp; rfl)); intro gb172 hg w18 hbox hb; have n0_ := Aside0.mk (below_step (by repeat (first | (with_reducible first | exact HB.out | apply below_alloc | apply pw_below_drewN | apply below_drew1) | exact HB.out)) hb); have n1_ := Aside0.mk (hbox); have n2_ := Aside0.mk ((by rw [hg]; exact (below_size (by repeat (first | (with_reducible first | exact HB.out | apply below_alloc | apply pw_below_drewN | apply below_drew1) | exact HB.out))) : w.heap.size ≤ gb172)); have n3_ := Aside0.mk ((by rw [hg]; exact (below_size (by repeat (first | (with_reducible first | exact HB.out | apply below_alloc | apply pw_below_drewN | apply below_drew1) | exact HB.out))) : w.heap.size ≤ gb172)); clear HB; have HB := n0_; have BK172 := n1_; have GW172 := n2_; have GE172 := n3_; clear n0_ n1_ n2_ n3_; clear hb hbox hg; have hcz19_0 : w18.cell? ⟨gb172, 0, none⟩ = some (.string a0_0) := (blk_cell BK172.out 0).trans rfl; have hcz19_1 : w18.cell? ⟨gb172, 1, none⟩ = some (.int .u32 a0_1) := (blk_cell BK172.out 1).trans rfl; have hcz19_2 : w18.cell? ⟨gb172, 2, none⟩ = some (.int .i64 a0_2) := (blk_cell BK172.out 2).trans rfl; have hcz19_3 : w18.cell? ⟨gb172, 3, none⟩ = some (.int .i64 a0_3) := (blk_cell BK172.out 3).trans rfl; have hcz19_4 : w18.cell? ⟨gb172, 4, none⟩ = some (.int .i64 a0_4) := (blk_cell BK172.out 4).trans rfl; have hfz19_0 := blk_frozen BK172.out 0; have hfz19_1 := blk_frozen BK172.out 1; have hfz19_2 := blk_frozen BK172.out 2; have hfz19_3 := blk_frozen BK172.out 3; have hfz19_4 := blk_frozen BK172.out 4) | ((with_reducible refine gate_callee (f := 44) rfl ?_); refine goesL_ (some 5) rfl rfl Try.func44 (by kernel_rfl) rfl #[.string a0_0] rfl (by (try simp only [List.map_toArray, List.map_cons, List.map_nil]); first | done | rfl | (simp only [List.length_drop, List.length_take]; rfl)) ?_; (with_reducible refine (spec_hasZero.calls k a0_0 false _ A2.out).mono ?_); rintro e w' ⟨rfl, ⟨nd, rfl⟩⟩; refine ⟨_, rfl, ?_⟩))
            go_ret
            exact ⟨by first | rfl | (simp [errW_none, errW_some] <;> rfl) | (simp [*, errW_none, errW_some] <;> rfl), by repeat (first | (with_reducible first | exact HB.out | apply below_alloc | apply pw_below_drewN | apply below_drew1 | refine below_set ?_ GE172.out) | exact HB.out)⟩
        · rw [if_neg c8] at H
          have c8b0 : decide (a0_2 < 32768) = false := decide_eq_false c8
          clear c8
          obtain rfl := Option.some.inj H
          go_enter Try.func18, Try.ntmps18
          go_wp2_with (first | ((with_reducible refine gate_dst (N := 1) rfl ?_); (try (refine gate_guard (by rfl) ?_; dsimp only)); refine box_event ?hg (N := 1) ?hd (cs := #[.string a0_0, .int .u32 a0_1, .int .i64 a0_2, .int .i64 a0_3, .int .i64 a0_4]) (t := 43) ?hr ?_; (case hd => rfl); (case hg => rfl); (case hr => first | (go_simp; done) | (go_simp; rfl)); intro gb172 hg w20 hbox hb; have n0_ := Aside0.mk (below_step (by repeat (first | (with_reducible first | exact HB.out | apply below_alloc | apply pw_below_drewN | apply below_drew1) | exact HB.out)) hb); have n1_ := Aside0.mk (hbox); have n2_ := Aside0.mk ((by rw [hg]; exact (below_size (by repeat (first | (with_reducible first | exact HB.out | apply below_alloc | apply pw_below_drewN | apply below_drew1) | exact HB.out))) : w.heap.size ≤ gb172)); have n3_ := Aside0.mk ((by rw [hg]; exact (below_size (by repeat (first | (with_reducible first | exact HB.out | apply below_alloc | apply pw_below_drewN | apply below_drew1) | exact HB.out))) : w.heap.size ≤ gb172)); clear HB; have HB := n0_; have BK172 := n1_; have GW172 := n2_; have GE172 := n3_; clear n0_ n1_ n2_ n3_; clear hb hbox hg; have hcz21_0 : w20.cell? ⟨gb172, 0, none⟩ = some (.string a0_0) := (blk_cell BK172.out 0).trans rfl; have hcz21_1 : w20.cell? ⟨gb172, 1, none⟩ = some (.int .u32 a0_1) := (blk_cell BK172.out 1).trans rfl; have hcz21_2 : w20.cell? ⟨gb172, 2, none⟩ = some (.int .i64 a0_2) := (blk_cell BK172.out 2).trans rfl; have hcz21_3 : w20.cell? ⟨gb172, 3, none⟩ = some (.int .i64 a0_3) := (blk_cell BK172.out 3).trans rfl; have hcz21_4 : w20.cell? ⟨gb172, 4, none⟩ = some (.int .i64 a0_4) := (blk_cell BK172.out 4).trans rfl; have hfz21_0 := blk_frozen BK172.out 0; have hfz21_1 := blk_frozen BK172.out 1; have hfz21_2 := blk_frozen BK172.out 2; have hfz21_3 := blk_frozen BK172.out 3; have hfz21_4 := blk_frozen BK172.out 4) | ((with_reducible refine gate_callee (f := 44) rfl ?_); refine goesL_ (some 5) rfl rfl Try.func44 (by kernel_rfl) rfl #[.string a0_0] rfl (by (try simp only [List.map_toArray, List.map_cons, List.map_nil]); first | done | rfl | (simp only [List.length_drop, List.length_take]; rfl)) ?_; (with_reducible refine (spec_hasZero.calls k a0_0 false _ A2.out).mono ?_); rintro e w' ⟨rfl, ⟨nd, rfl⟩⟩; refine ⟨_, rfl, ?_⟩))
          go_ret
          exact ⟨by first | rfl | (simp [errW_none, errW_some] <;> rfl) | (simp [*, errW_none, errW_some] <;> rfl), by repeat (first | (with_reducible first | exact HB.out | apply below_alloc | apply pw_below_drewN | apply below_drew1 | refine below_set ?_ GE172.out) | exact HB.out)⟩
      · rw [if_neg c7] at H
        have c7b0 : decide (0 ≤ a0_2) = false := decide_eq_false c7
        clear c7
        obtain rfl := Option.some.inj H
        go_enter Try.func18, Try.ntmps18
        go_wp2_with (first | ((with_reducible refine gate_dst (N := 1) rfl ?_); (try (refine gate_guard (by rfl) ?_; dsimp only)); refine box_event ?hg (N := 1) ?hd (cs := #[.string a0_0, .int .u32 a0_1, .int .i64 a0_2, .int .i64 a0_3, .int .i64 a0_4]) (t := 43) ?hr ?_; (case hd => rfl); (case hg => rfl); (case hr => first | (go_simp; done) | (go_simp; rfl)); intro gb172 hg w22 hbox hb; have n0_ := Aside0.mk (below_step (by repeat (first | (with_reducible first | exact HB.out | apply below_alloc | apply pw_below_drewN | apply below_drew1) | exact HB.out)) hb); have n1_ := Aside0.mk (hbox); have n2_ := Aside0.mk ((by rw [hg]; exact (below_size (by repeat (first | (with_reducible first | exact HB.out | apply below_alloc | apply pw_below_drewN | apply below_drew1) | exact HB.out))) : w.heap.size ≤ gb172)); have n3_ := Aside0.mk ((by rw [hg]; exact (below_size (by repeat (first | (with_reducible first | exact HB.out | apply below_alloc | apply pw_below_drewN | apply below_drew1) | exact HB.out))) : w.heap.size ≤ gb172)); clear HB; have HB := n0_; have BK172 := n1_; have GW172 := n2_; have GE172 := n3_; clear n0_ n1_ n2_ n3_; clear hb hbox hg; have hcz23_0 : w22.cell? ⟨gb172, 0, none⟩ = some (.string a0_0) := (blk_cell BK172.out 0).trans rfl; have hcz23_1 : w22.cell? ⟨gb172, 1, none⟩ = some (.int .u32 a0_1) := (blk_cell BK172.out 1).trans rfl; have hcz23_2 : w22.cell? ⟨gb172, 2, none⟩ = some (.int .i64 a0_2) := (blk_cell BK172.out 2).trans rfl; have hcz23_3 : w22.cell? ⟨gb172, 3, none⟩ = some (.int .i64 a0_3) := (blk_cell BK172.out 3).trans rfl; have hcz23_4 : w22.cell? ⟨gb172, 4, none⟩ = some (.int .i64 a0_4) := (blk_cell BK172.out 4).trans rfl; have hfz23_0 := blk_frozen BK172.out 0; have hfz23_1 := blk_frozen BK172.out 1; have hfz23_2 := blk_frozen BK172.out 2; have hfz23_3 := blk_frozen BK172.out 3; have hfz23_4 := blk_frozen BK172.out 4) | ((with_reducible refine gate_callee (f := 44) rfl ?_); refine goesL_ (some 5) rfl rfl Try.func44 (by kernel_rfl) rfl #[.string a0_0] rfl (by (try simp only [List.map_toArray, List.map_cons, List.map_nil]); first | done | rfl | (simp only [List.length_drop, List.length_take]; rfl)) ?_; (with_reducible refine (spec_hasZero.calls k a0_0 false _ A2.out).mono ?_); rintro e w' ⟨rfl, ⟨nd, rfl⟩⟩; refine ⟨_, rfl, ?_⟩))
        go_ret
        exact ⟨by first | rfl | (simp [errW_none, errW_some] <;> rfl) | (simp [*, errW_none, errW_some] <;> rfl), by repeat (first | (with_reducible first | exact HB.out | apply below_alloc | apply pw_below_drewN | apply below_drew1 | refine below_set ?_ GE172.out) | exact HB.out)⟩
    · rw [if_neg c6] at H
      have c6b0 : decide ((a0_0.size : Int) ≤ 100) = false := decide_eq_false c6
      have c6b1 : decide (a0_0.size ≤ 100) = false := decide_eq_false (by omega)
      clear c6
      obtain rfl := Option.some.inj H
      go_enter Try.func18, Try.ntmps18
      go_wp2_with (first | ((with_reducible refine gate_dst (N := 1) rfl ?_); (try (refine gate_guard (by rfl) ?_; dsimp only)); refine box_event ?hg (N := 1) ?hd (cs := #[.string a0_0, .int .u32 a0_1, .int .i64 a0_2, .int .i64 a0_3, .int .i64 a0_4]) (t := 43) ?hr ?_; (case hd => rfl); (case hg => rfl); (case hr => first | (go_simp; done) | (go_simp; rfl)); intro gb172 hg w24 hbox hb; have n0_ := Aside0.mk (below_step (by repeat (first | (with_reducible first | exact HB.out | apply below_alloc | apply pw_below_drewN | apply below_drew1) | exact HB.out)) hb); have n1_ := Aside0.mk (hbox); have n2_ := Aside0.mk ((by rw [hg]; exact (below_size (by repeat (first | (with_reducible first | exact HB.out | apply below_alloc | apply pw_below_drewN | apply below_drew1) | exact HB.out))) : w.heap.size ≤ gb172)); have n3_ := Aside0.mk ((by rw [hg]; exact (below_size (by repeat (first | (with_reducible first | exact HB.out | apply below_alloc | apply pw_below_drewN | apply below_drew1) | exact HB.out))) : w.heap.size ≤ gb172)); clear HB; have HB := n0_; have BK172 := n1_; have GW172 := n2_; have GE172 := n3_; clear n0_ n1_ n2_ n3_; clear hb hbox hg; have hcz25_0 : w24.cell? ⟨gb172, 0, none⟩ = some (.string a0_0) := (blk_cell BK172.out 0).trans rfl; have hcz25_1 : w24.cell? ⟨gb172, 1, none⟩ = some (.int .u32 a0_1) := (blk_cell BK172.out 1).trans rfl; have hcz25_2 : w24.cell? ⟨gb172, 2, none⟩ = some (.int .i64 a0_2) := (blk_cell BK172.out 2).trans rfl; have hcz25_3 : w24.cell? ⟨gb172, 3, none⟩ = some (.int .i64 a0_3) := (blk_cell BK172.out 3).trans rfl; have hcz25_4 : w24.cell? ⟨gb172, 4, none⟩ = some (.int .i64 a0_4) := (blk_cell BK172.out 4).trans rfl; have hfz25_0 := blk_frozen BK172.out 0; have hfz25_1 := blk_frozen BK172.out 1; have hfz25_2 := blk_frozen BK172.out 2; have hfz25_3 := blk_frozen BK172.out 3; have hfz25_4 := blk_frozen BK172.out 4) | ((with_reducible refine gate_callee (f := 44) rfl ?_); refine goesL_ (some 5) rfl rfl Try.func44 (by kernel_rfl) rfl #[.string a0_0] rfl (by (try simp only [List.map_toArray, List.map_cons, List.map_nil]); first | done | rfl | (simp only [List.length_drop, List.length_take]; rfl)) ?_; (with_reducible refine (spec_hasZero.calls k a0_0 false _ A2.out).mono ?_); rintro e w' ⟨rfl, ⟨nd, rfl⟩⟩; refine ⟨_, rfl, ?_⟩))
      go_ret
      exact ⟨by first | rfl | (simp [errW_none, errW_some] <;> rfl) | (simp [*, errW_none, errW_some] <;> rfl), by repeat (first | (with_reducible first | exact HB.out | apply below_alloc | apply pw_below_drewN | apply below_drew1 | refine below_set ?_ GE172.out) | exact HB.out)⟩

/-! ### spec_ColumnsBody: function 19 -/
def spec_ColumnsBody.l0 : Nat → List (S43) → List (S25) → Int → Option (ByteArray)
  | 0, _, _, _ => none
  | k + 1, x0, x3, x4 => if x4 < (x0.length : Int) then (if 0 ≤ x4 then ((some (([(⟨4, 0, (rd_T43 x0 x4).f0⟩ : S25), (⟨3, x4, (⟨#[]⟩ : ByteArray)⟩ : S25), (⟨2, x4, (⟨#[]⟩ : ByteArray)⟩ : S25), (⟨3, wrap64 (wrap32 ((rd_T43 x0 x4).f1)), (⟨#[]⟩ : ByteArray)⟩ : S25), (⟨2, (rd_T43 x0 x4).f2, (⟨#[]⟩ : ByteArray)⟩ : S25), (⟨3, (rd_T43 x0 x4).f3, (⟨#[]⟩ : ByteArray)⟩ : S25), (⟨2, (rd_T43 x0 x4).f4, (⟨#[]⟩ : ByteArray)⟩ : S25)] : List (S25)) : List (S25))).bind fun y179 => (if x3.length + y179.length < 4398046511104 then (spec_ColumnsBody.l0 k x0 (x3 ++ y179) (wrap64 (x4 + 1))) else (none))) else (none)) else ((spec_Pieces.f k x3).bind fun bt185 => (some bt185.1))
def spec_ColumnsBody.f (k : Nat) (l0 : List (S43)) : Option (ByteArray) := spec_ColumnsBody.l0 k l0 (([(⟨2, (l0.length : Int), (⟨#[]⟩ : ByteArray)⟩ : S25)] : List (S25))) 0
theorem spec_ColumnsBody.mono_l : ∀ k, (∀ y0 y1 y2, LeO (spec_ColumnsBody.l0 k y0 y1 y2) (spec_ColumnsBody.l0 (k + 1) y0 y1 y2))
  | 0 => fun _ _ _ r h => by simp [spec_ColumnsBody.l0] at h
  | k + 1 => by
    have ih0 := spec_ColumnsBody.mono_l k
    · intro y0 y1 y2
      unfold spec_ColumnsBody.l0
      repeat' first
      | (with_reducible exact ih0 _ _ _)
      | (with_reducible exact spec_Pieces.mono _ _)
      | (with_reducible exact LeO.refl _)
      | (with_reducible exact LeO.none _)
      | (with_reducible refine LeO.ite ?_ ?_)
      | (with_reducible refine LeO.bind ?_ (fun _ => ?_))
      | exact ih0 _ _ _
      | exact spec_Pieces.mono _ _
      | exact LeO.none _
      | refine LeO.ite ?_ ?_
      | refine LeO.bind ?_ (fun _ => ?_)
theorem spec_ColumnsBody.mono : ∀ a0 k, LeO (spec_ColumnsBody.f k a0) (spec_ColumnsBody.f (k + 1) a0) := by
  intro a0 k
  have ih0 := spec_ColumnsBody.mono_l k
  unfold spec_ColumnsBody.f
  repeat' first
      | (with_reducible exact ih0 _ _ _)
      | (with_reducible exact spec_Pieces.mono _ _)
      | (with_reducible exact LeO.refl _)
      | (with_reducible exact LeO.none _)
      | (with_reducible refine LeO.ite ?_ ?_)
      | (with_reducible refine LeO.bind ?_ (fun _ => ?_))
      | exact ih0 _ _ _
      | exact spec_Pieces.mono _ _
      | exact LeO.none _
      | refine LeO.ite ?_ ?_
      | refine LeO.bind ?_ (fun _ => ?_)
set_option maxHeartbeats 8000000 in
set_option maxRecDepth 100000 in
theorem spec_ColumnsBody.calls (k : Nat) (A0 : Option Addr) (c0 : Nat) (l0 : List (S43)) (r : ByteArray) (w : World) (hr0 : Kd.C k43 w A0 l0.length l0) (hc0 : l0.length ≤ c0) (h : spec_ColumnsBody.f k l0 = some r) :
    Calls Try.prog 19 #[.slice A0 l0.length c0] w fun e w' => e = .returned (.string r) ∧ Below w.heap.size w w' := by
  have hu25 := Try.underlying25
  have hu43 := Try.underlying43
  have HR0 := Aside0.mk hr0
  have HC0 := Aside0.mk hc0
  clear hr0 hc0
  have HB := Aside0.mk (Below.refl w.heap.size w)
  have H : (spec_ColumnsBody.l0 k l0 (([(⟨2, (l0.length : Int), (⟨#[]⟩ : ByteArray)⟩ : S25)] : List (S25))) 0) = some r := h
  clear h
  obtain ⟨y174, hy174⟩ : ∃ y_ : List (S25), y_ = (([(⟨2, (l0.length : Int), (⟨#[]⟩ : ByteArray)⟩ : S25)] : List (S25))) := ⟨_, rfl⟩
  replace H : (spec_ColumnsBody.l0 k l0 y174 0) = some r := by first | (rw [hy174]; with_reducible exact H) | (have H2_ := (Option.bind_some _ _).symm.trans H; rw [hy174]; with_reducible exact H2_) | (have H2_ := (Option.bind_some _ _).symm.trans H; with_reducible exact H2_) | with_reducible exact H | (rw [hy174]; exact H) | exact H
  have Ny174 := Aside0.mk hy174
  clear hy174
  have H' := Aside0.mk H
  clear H
  go_enter Try.func19, Try.ntmps19
  go_wp2_with (first | ((with_reducible refine gate_dst (N := 11) rfl ?_); refine Kd.R_lit k25 _ 25 ?hg (N := 11) ?hd (xs := ([(⟨2, (l0.length : Int), (⟨#[]⟩ : ByteArray)⟩ : S25)] : List (S25))) (inner := [.int .i64 2, .int .i64 (l0.length : Int), .string (⟨#[]⟩ : ByteArray)]) (ok := fun _ => True) (okp := fun _ => True) ?hr ?hp (fun _ hk => hk) trivial (Below.refl _ _) (Nat.le_refl _) (by simp) ?_; (case hd => rfl); (case hg => rfl); (case hr => first | (go_simp; done) | (go_simp; rfl)); (case hp => exact (Reps.c3 (show Kd.M k25 _ _ _ (⟨2, (l0.length : Int), (⟨#[]⟩ : ByteArray)⟩ : S25) [.int .i64 2, .int .i64 (l0.length : Int), .string (⟨#[]⟩ : ByteArray)] from (k25_mkM _ _ _ (⟨2, (l0.length : Int), (⟨#[]⟩ : ByteArray)⟩ : S25) )) (Reps.none _ _))); intro v175 w2 ho3 hb hg_ hnew_; clear hg_ hnew_; (first | rw [← Ny174.out] at ho3 | (simp only [Int.reduceToNat] at ho3; rw [← Ny174.out] at ho3)); have n0_ := Aside0.mk (Kd.R_lower ho3 (below_size (by repeat (first | (with_reducible first | exact HB.out | apply below_alloc | apply pw_below_drewN | apply below_drew1) | exact HB.out)))); have n1_ := Aside0.mk (below_step (by repeat (first | (with_reducible first | exact HB.out | apply below_alloc | apply pw_below_drewN | apply below_drew1) | exact HB.out)) hb); clear HB; have HO176 := n0_; have HB := n1_; clear n0_ n1_; clear hb ho3))
  go_loopg [3, 4] k (fun kq v3 v4 w' => ∃ (x3_1 : List (S25)) (x4_1 : Int), v4 = .int .i64 x4_1 ∧ Aside0 (spec_ColumnsBody.l0 kq l0 x3_1 x4_1 = some r) ∧ Aside0 (kq ≤ k) ∧ Aside0 (Kd.R k25 25 w' w.heap.size (fun _ => True) v3 x3_1) ∧ Aside0 (Below w.heap.size w w'))
  case atStart => exact ⟨(y174), (0), (by first | rfl | (simp; done) | (simp [*]; done)), H', ⟨Nat.le_refl _⟩, ⟨by (with_reducible repeat (first | apply Kd.R_alloc | apply Kd.R_drewN | apply Kd.R_drew)); exact HO176.out⟩, ⟨by repeat (first | (with_reducible first | exact HB.out | apply below_alloc | apply pw_below_drewN | apply below_drew1) | exact HB.out)⟩⟩
  case round =>
    clear H'
    try clear c1
    try clear p2
    try clear c3
    obtain ⟨x3_1, x4_1, rfl, HA, HK1, HO_3, HB⟩ := hrel
    cases gk with
    | zero => exact absurd HA.out (by simp [spec_ColumnsBody.l0])
    | succ k1 =>
      have H := HA.out
      clear HA
      simp only [spec_ColumnsBody.l0] at H
      by_cases c4 : x4_1 < (l0.length : Int)
      · rw [if_pos c4] at H
        have c4b0 : decide (x4_1 < (l0.length : Int)) = true := decide_eq_true c4
        clear c4
        by_cases c5 : 0 ≤ x4_1
        · rw [if_pos c5] at H
          have c5b0 : decide (0 ≤ x4_1) = true := decide_eq_true c5
          clear c5
          obtain ⟨y179, hy179⟩ : ∃ y_ : List (S25), y_ = (([(⟨4, 0, (rd_T43 l0 x4_1).f0⟩ : S25), (⟨3, x4_1, (⟨#[]⟩ : ByteArray)⟩ : S25), (⟨2, x4_1, (⟨#[]⟩ : ByteArray)⟩ : S25), (⟨3, wrap64 (wrap32 ((rd_T43 l0 x4_1).f1)), (⟨#[]⟩ : ByteArray)⟩ : S25), (⟨2, (rd_T43 l0 x4_1).f2, (⟨#[]⟩ : ByteArray)⟩ : S25), (⟨3, (rd_T43 l0 x4_1).f3, (⟨#[]⟩ : ByteArray)⟩ : S25), (⟨2, (rd_T43 l0 x4_1).f4, (⟨#[]⟩ : ByteArray)⟩ : S25)] : List (S25))) := ⟨_, rfl⟩
          replace H : (if x3_1.length + y179.length < 4398046511104 then (spec_ColumnsBody.l0 k1 l0 (x3_1 ++ y179) (wrap64 (x4_1 + 1))) else (none)) = some r := by first | (rw [hy179]; with_reducible exact H) | (have H2_ := (Option.bind_some _ _).symm.trans H; rw [hy179]; with_reducible exact H2_) | (have H2_ := (Option.bind_some _ _).symm.trans H; with_reducible exact H2_) | with_reducible exact H | (rw [hy179]; exact H) | exact H
          have Ny179 := Aside0.mk hy179
          clear hy179
          by_cases c6 : x3_1.length + y179.length < 4398046511104
          · rw [if_pos c6] at H
            have LMc6 := Aside0.mk c6
            clear c6
            obtain ⟨y182, hy182⟩ : ∃ y_ : List (S25), y_ = (x3_1 ++ y179) := ⟨_, rfl⟩
            replace H : (spec_ColumnsBody.l0 k1 l0 y182 (wrap64 (x4_1 + 1))) = some r := by first | (rw [hy182]; with_reducible exact H) | (have H2_ := (Option.bind_some _ _).symm.trans H; rw [hy182]; with_reducible exact H2_) | (have H2_ := (Option.bind_some _ _).symm.trans H; with_reducible exact H2_) | with_reducible exact H | (rw [hy182]; exact H) | exact H
            have Ny182 := Aside0.mk hy182
            clear hy182
            have H' := Aside0.mk H
            clear H
            have p177 : 0 ≤ (x4_1 : Int) := of_decide_eq_true (by first | (with_reducible assumption) | assumption)
            have q177 : x4_1 < (l0.length : Int) := of_decide_eq_true (by first | (with_reducible assumption) | assumption)
            obtain ⟨ad177, e177, hx177_0, hx177_1, hx177_2, hx177_3, hx177_4⟩ := at_T43 HR0.out x4_1 p177 q177
            cases e177
            replace hx177_0 := (HB.out.cell (World.block_lt_of_cell? w _ hx177_0)).trans hx177_0
            replace hx177_1 := (HB.out.cell (World.block_lt_of_cell? w _ hx177_1)).trans hx177_1
            replace hx177_2 := (HB.out.cell (World.block_lt_of_cell? w _ hx177_2)).trans hx177_2
            replace hx177_3 := (HB.out.cell (World.block_lt_of_cell? w _ hx177_3)).trans hx177_3
            replace hx177_4 := (HB.out.cell (World.block_lt_of_cell? w _ hx177_4)).trans hx177_4
            replace p177 := eq_true p177
            replace q177 := eq_true q177
            go_wp2_with (first | ((with_reducible refine gate_dst (N := 5) rfl ?_); refine box_event ?hg (N := 5) ?hd (cs := #[.string (⟨#[]⟩ : ByteArray), .int .u32 0, .int .i64 0, .int .i64 0, .int .i64 0]) (t := 43) ?hr ?_; (case hd => rfl); (case hg => rfl); (case hr => first | (go_simp; done) | (go_simp; rfl)); intro gb178 hg w7 hbox hb; have n0_ := Aside0.mk (Kd.R_below (by (with_reducible repeat (first | apply Kd.R_alloc | apply Kd.R_drewN | apply Kd.R_drew)); exact HO_3.out) hb); have n1_ := Aside0.mk (below_step (by repeat (first | (with_reducible first | exact HB.out | apply below_alloc | apply pw_below_drewN | apply below_drew1) | exact HB.out)) hb); have n2_ := Aside0.mk (hbox); have n3_ := Aside0.mk ((by rw [hg]; exact (below_size (by repeat (first | (with_reducible first | exact HB.out | apply below_alloc | apply pw_below_drewN | apply below_drew1) | exact HB.out))) : w.heap.size ≤ gb178)); have n4_ := Aside0.mk ((by rw [hg]; exact (below_size (by repeat (first | (with_reducible first | exact HB.out | apply below_alloc | apply pw_below_drewN | apply below_drew1) | exact HB.out))) : w.heap.size ≤ gb178)); clear HO_3; clear HB; have HO_3 := n0_; have HB := n1_; have BK178 := n2_; have GW178 := n3_; have GE178 := n4_; clear n0_ n1_ n2_ n3_ n4_; clear hb hbox hg; have hcz8_0 : w7.cell? ⟨gb178, 0, none⟩ = some (.string (⟨#[]⟩ : ByteArray)) := (blk_cell BK178.out 0).trans rfl; have hcz8_1 : w7.cell? ⟨gb178, 1, none⟩ = some (.int .u32 0) := (blk_cell BK178.out 1).trans rfl; have hcz8_2 : w7.cell? ⟨gb178, 2, none⟩ = some (.int .i64 0) := (blk_cell BK178.out 2).trans rfl; have hcz8_3 : w7.cell? ⟨gb178, 3, none⟩ = some (.int .i64 0) := (blk_cell BK178.out 3).trans rfl; have hcz8_4 : w7.cell? ⟨gb178, 4, none⟩ = some (.int .i64 0) := (blk_cell BK178.out 4).trans rfl; have hfz8_0 := blk_frozen BK178.out 0; have hfz8_1 := blk_frozen BK178.out 1; have hfz8_2 := blk_frozen BK178.out 2; have hfz8_3 := blk_frozen BK178.out 3; have hfz8_4 := blk_frozen BK178.out 4) | ((with_reducible refine gate_dst (N := 44) rfl ?_); refine Kd.R_lit k25 _ 25 ?hg (N := 44) ?hd (xs := ([(⟨4, 0, (rd_T43 l0 x4_1).f0⟩ : S25), (⟨3, x4_1, (⟨#[]⟩ : ByteArray)⟩ : S25), (⟨2, x4_1, (⟨#[]⟩ : ByteArray)⟩ : S25), (⟨3, wrap64 (wrap32 ((rd_T43 l0 x4_1).f1)), (⟨#[]⟩ : ByteArray)⟩ : S25), (⟨2, (rd_T43 l0 x4_1).f2, (⟨#[]⟩ : ByteArray)⟩ : S25), (⟨3, (rd_T43 l0 x4_1).f3, (⟨#[]⟩ : ByteArray)⟩ : S25), (⟨2, (rd_T43 l0 x4_1).f4, (⟨#[]⟩ : ByteArray)⟩ : S25)] : List (S25))) (inner := [.int .i64 4, .int .i64 0, .string ((rd_T43 l0 x4_1).f0), .int .i64 3, .int .i64 x4_1, .string (⟨#[]⟩ : ByteArray), .int .i64 2, .int .i64 x4_1, .string (⟨#[]⟩ : ByteArray), .int .i64 3, .int .i64 (wrap64 (wrap32 ((rd_T43 l0 x4_1).f1))), .string (⟨#[]⟩ : ByteArray), .int .i64 2, .int .i64 ((rd_T43 l0 x4_1).f2), .string (⟨#[]⟩ : ByteArray), .int .i64 3, .int .i64 ((rd_T43 l0 x4_1).f3), .string (⟨#[]⟩ : ByteArray), .int .i64 2, .int .i64 ((rd_T43 l0 x4_1).f4), .string (⟨#[]⟩ : ByteArray)]) (ok := fun _ => True) (okp := fun _ => True) ?hr ?hp (fun _ hk => hk) trivial (Below.refl _ _) (Nat.le_refl _) (by simp) ?_; (case hd => rfl); (case hg => rfl); (case hr => first | (go_simp; done) | (go_simp; rfl)); (case hp => exact (Reps.c3 (show Kd.M k25 _ _ _ (⟨4, 0, (rd_T43 l0 x4_1).f0⟩ : S25) [.int .i64 4, .int .i64 0, .string ((rd_T43 l0 x4_1).f0)] from (k25_mkM _ _ _ (⟨4, 0, (rd_T43 l0 x4_1).f0⟩ : S25) )) (Reps.c3 (show Kd.M k25 _ _ _ (⟨3, x4_1, (⟨#[]⟩ : ByteArray)⟩ : S25) [.int .i64 3, .int .i64 x4_1, .string (⟨#[]⟩ : ByteArray)] from (k25_mkM _ _ _ (⟨3, x4_1, (⟨#[]⟩ : ByteArray)⟩ : S25) )) (Reps.c3 (show Kd.M k25 _ _ _ (⟨2, x4_1, (⟨#[]⟩ : ByteArray)⟩ : S25) [.int .i64 2, .int .i64 x4_1, .string (⟨#[]⟩ : ByteArray)] from (k25_mkM _ _ _ (⟨2, x4_1, (⟨#[]⟩ : ByteArray)⟩ : S25) )) (Reps.c3 (show Kd.M k25 _ _ _ (⟨3, wrap64 (wrap32 ((rd_T43 l0 x4_1).f1)), (⟨#[]⟩ : ByteArray)⟩ : S25) [.int .i64 3, .int .i64 (wrap64 (wrap32 ((rd_T43 l0 x4_1).f1))), .string (⟨#[]⟩ : ByteArray)] from (k25_mkM _ _ _ (⟨3, wrap64 (wrap32 ((rd_T43 l0 x4_1).f1)), (⟨#[]⟩ : ByteArray)⟩ : S25) )) (Reps.c3 (show Kd.M k25 _ _ _ (⟨2, (rd_T43 l0 x4_1).f2, (⟨#[]⟩ : ByteArray)⟩ : S25) [.int .i64 2, .int .i64 ((rd_T43 l0 x4_1).f2), .string (⟨#[]⟩ : ByteArray)] from (k25_mkM _ _ _ (⟨2, (rd_T43 l0 x4_1).f2, (⟨#[]⟩ : ByteArray)⟩ : S25) )) (Reps.c3 (show Kd.M k25 _ _ _ (⟨3, (rd_T43 l0 x4_1).f3, (⟨#[]⟩ : ByteArray)⟩ : S25) [.int .i64 3, .int .i64 ((rd_T43 l0 x4_1).f3), .string (⟨#[]⟩ : ByteArray)] from (k25_mkM _ _ _ (⟨3, (rd_T43 l0 x4_1).f3, (⟨#[]⟩ : ByteArray)⟩ : S25) )) (Reps.c3 (show Kd.M k25 _ _ _ (⟨2, (rd_T43 l0 x4_1).f4, (⟨#[]⟩ : ByteArray)⟩ : S25) [.int .i64 2, .int .i64 ((rd_T43 l0 x4_1).f4), .string (⟨#[]⟩ : ByteArray)] from (k25_mkM _ _ _ (⟨2, (rd_T43 l0 x4_1).f4, (⟨#[]⟩ : ByteArray)⟩ : S25) )) (Reps.none _ _))))))))); intro v180 w9 ho10 hb hg_ hnew_; clear hg_ hnew_; (first | rw [← Ny179.out] at ho10 | (simp only [Int.reduceToNat] at ho10; rw [← Ny179.out] at ho10)); have n0_ := Aside0.mk (Kd.R_elder' (by (with_reducible repeat (first | apply Kd.R_alloc | apply Kd.R_drewN | apply Kd.R_drew)); exact (Kd.R_mono (Kd.R_far (p := ⟨gb178, 4, none⟩) (Kd.R_far (p := ⟨gb178, 3, none⟩) (Kd.R_far (p := ⟨gb178, 2, none⟩) (Kd.R_far (p := ⟨gb178, 1, none⟩) (Kd.R_far (p := ⟨gb178, 0, none⟩) (Kd.R_types HO_3.out BK178.out (by decide)) (fun _ hk => hk.2) (.string ((rd_T43 l0 x4_1).f0))) (fun _ hk => hk.2) (.int .u32 ((rd_T43 l0 x4_1).f1))) (fun _ hk => hk.2) (.int .i64 ((rd_T43 l0 x4_1).f2))) (fun _ hk => hk.2) (.int .i64 ((rd_T43 l0 x4_1).f3))) (fun _ hk => hk.2) (.int .i64 ((rd_T43 l0 x4_1).f4))) (fun _ h_ => h_.1))) (Kd.R_base ho10) hb); have n1_ := Aside0.mk (Kd.R_lower (Kd.R_new' ho10 (Kd.R_lt (by (with_reducible repeat (first | apply Kd.R_alloc | apply Kd.R_drewN | apply Kd.R_drew)); exact (Kd.R_mono (Kd.R_far (p := ⟨gb178, 4, none⟩) (Kd.R_far (p := ⟨gb178, 3, none⟩) (Kd.R_far (p := ⟨gb178, 2, none⟩) (Kd.R_far (p := ⟨gb178, 1, none⟩) (Kd.R_far (p := ⟨gb178, 0, none⟩) (Kd.R_types HO_3.out BK178.out (by decide)) (fun _ hk => hk.2) (.string ((rd_T43 l0 x4_1).f0))) (fun _ hk => hk.2) (.int .u32 ((rd_T43 l0 x4_1).f1))) (fun _ hk => hk.2) (.int .i64 ((rd_T43 l0 x4_1).f2))) (fun _ hk => hk.2) (.int .i64 ((rd_T43 l0 x4_1).f3))) (fun _ hk => hk.2) (.int .i64 ((rd_T43 l0 x4_1).f4))) (fun _ h_ => h_.1))))) (below_size (by repeat (first | (with_reducible first | exact HB.out | apply below_alloc | apply pw_below_drewN | apply below_drew1 | refine below_set ?_ GE178.out) | exact HB.out)))); have n2_ := Aside0.mk (blk_below (g := gb178) (o := .cells #[.string ((rd_T43 l0 x4_1).f0), .int .u32 ((rd_T43 l0 x4_1).f1), .int .i64 ((rd_T43 l0 x4_1).f2), .int .i64 ((rd_T43 l0 x4_1).f3), .int .i64 ((rd_T43 l0 x4_1).f4)] 43 (0, 0)) (by (with_reducible repeat (first | refine blk_drewN ?_ _ | refine blk_drew ?_ | refine blk_alloc ?_ _)); refine blk_put (cs := #[.string ((rd_T43 l0 x4_1).f0), .int .u32 ((rd_T43 l0 x4_1).f1), .int .i64 ((rd_T43 l0 x4_1).f2), .int .i64 ((rd_T43 l0 x4_1).f3), .int .i64 0]) ?_ 4 _ rfl; (with_reducible repeat (first | refine blk_drewN ?_ _ | refine blk_drew ?_ | refine blk_alloc ?_ _)); refine blk_put (cs := #[.string ((rd_T43 l0 x4_1).f0), .int .u32 ((rd_T43 l0 x4_1).f1), .int .i64 ((rd_T43 l0 x4_1).f2), .int .i64 0, .int .i64 0]) ?_ 3 _ rfl; (with_reducible repeat (first | refine blk_drewN ?_ _ | refine blk_drew ?_ | refine blk_alloc ?_ _)); refine blk_put (cs := #[.string ((rd_T43 l0 x4_1).f0), .int .u32 ((rd_T43 l0 x4_1).f1), .int .i64 0, .int .i64 0, .int .i64 0]) ?_ 2 _ rfl; (with_reducible repeat (first | refine blk_drewN ?_ _ | refine blk_drew ?_ | refine blk_alloc ?_ _)); refine blk_put (cs := #[.string ((rd_T43 l0 x4_1).f0), .int .u32 0, .int .i64 0, .int .i64 0, .int .i64 0]) ?_ 1 _ rfl; (with_reducible repeat (first | refine blk_drewN ?_ _ | refine blk_drew ?_ | refine blk_alloc ?_ _)); refine blk_put (cs := #[.string (⟨#[]⟩ : ByteArray), .int .u32 0, .int .i64 0, .int .i64 0, .int .i64 0]) ?_ 0 _ rfl; (with_reducible repeat (first | refine blk_drewN ?_ _ | refine blk_drew ?_ | refine blk_alloc ?_ _)); exact BK178.out) hb); have n3_ := Aside0.mk (below_step (by repeat (first | (with_reducible first | exact HB.out | apply below_alloc | apply pw_below_drewN | apply below_drew1 | refine below_set ?_ GE178.out) | exact HB.out)) hb); clear HO_3; clear BK178; clear HB; have HO_3 := n0_; have HO181 := n1_; have BK178 := n2_; have HB := n3_; clear n0_ n1_ n2_ n3_; clear hb ho10; obtain ⟨Ao12, co12, eo12⟩ := Kd.R_slice HO181.out; subst eo12) | ((with_reducible refine gate_builtin (b := .append) (xs := #[.tmp 22, .tmp 44]) rfl ?_); at_builtin; refine Kd.R_append_rows k25 (w0 := w) w.heap.size rfl (.tmp 22) (.tmp 44) 22 25 (.agg #[(.int .i64 0), (.int .i64 0), (.string ⟨#[]⟩)]) 32 rfl Try.underlying22 info25 rfl (by decide) (by omega) u3 x3_1 y179 _ _ _ (fun k_ => some k_ ≠ (.slice Ao12 y179.length co12 : Value).ownBlock) (fun _ => False) rfl rfl ?aO ?aR (fun _ _ h => h) (fun _ h => h.elim) ?aF ?aB ?aS ?aL ?_; (case aR => repeat (first | exact (Kd.R_reads' HO181.out).2.2 | (with_reducible refine Kd.C_alloc ?_ _) | (with_reducible refine Kd.C_drewN ?_ _) | (with_reducible refine Kd.C_drew ?_))); (case aB => exact (by repeat (first | (with_reducible first | exact HB.out | apply below_alloc | apply pw_below_drewN | apply below_drew1 | refine below_set ?_ GE178.out) | exact HB.out))); (case aF => exact (fun k_ hk => Kd.fresh' (Kd.R_lt (by (with_reducible repeat (first | apply Kd.R_alloc | apply Kd.R_drewN | apply Kd.R_drew)); exact HO181.out)) k_ hk)); (case aO => exact (by (with_reducible repeat (first | apply Kd.R_alloc | apply Kd.R_drewN | apply Kd.R_drew)); exact Kd.R_mono HO_3.out (fun _ hk => hk.2))); (case aS => exact (below_size (by repeat (first | (with_reducible first | exact HB.out | apply below_alloc | apply pw_below_drewN | apply below_drew1 | refine below_set ?_ GE178.out) | exact HB.out)))); (case aL => have := LMc6.out; omega); intro v183 w11 ho hb hg hat; rw [← Ny182.out] at ho; have n0_ := Aside0.mk (blk_grown (g := gb178) (o := .cells #[.string ((rd_T43 l0 x4_1).f0), .int .u32 ((rd_T43 l0 x4_1).f1), .int .i64 ((rd_T43 l0 x4_1).f2), .int .i64 ((rd_T43 l0 x4_1).f3), .int .i64 ((rd_T43 l0 x4_1).f4)] 43 (0, 0)) (by (with_reducible repeat (first | refine blk_drewN ?_ _ | refine blk_drew ?_ | refine blk_alloc ?_ _)); exact BK178.out) hg (Kd.R_ne HO_3.out BK178.out (by decide))); have n1_ := Aside0.mk (Kd.R_after (ok := (fun _ => True)) (by (with_reducible repeat (first | apply Kd.R_alloc | apply Kd.R_drewN | apply Kd.R_drew)); exact HO181.out) hg hat); have n2_ := Aside0.mk (hb); have n3_ := Aside0.mk (ho); clear BK178; clear HO181; clear HB; clear HO_3; have BK178 := n0_; have HO181 := n1_; have HB := n2_; have HO184 := n3_; clear n0_ n1_ n2_ n3_; clear ho hb hg hat))
            go_roundg k1
            case measure => have := HK1.out; omega
            case rel => exact ⟨(y182), (wrap64 (x4_1 + 1)), (by first | rfl | (simp; done) | (simp [*]; done)), H', ⟨by have := HK1.out; omega⟩, ⟨by (with_reducible repeat (first | apply Kd.R_alloc | apply Kd.R_drewN | apply Kd.R_drew)); exact Kd.R_mono HO184.out (fun _ hk => trivial)⟩, ⟨by repeat (first | (with_reducible first | exact HB.out | apply below_alloc | apply pw_below_drewN | apply below_drew1 | refine below_set ?_ GE178.out) | exact HB.out)⟩⟩
          · rw [if_neg c6] at H
            exact absurd H (by simp)
        · rw [if_neg c5] at H
          exact absurd H (by simp)
      · rw [if_neg c4] at H
        have c4b0 : decide (x4_1 < (l0.length : Int)) = false := decide_eq_false c4
        clear c4
        replace H := Option.bind_eq_some_iff.mp H
        obtain ⟨⟨t185, t186⟩, A130, H⟩ := H
        replace H : (some t185) = some r := H
        have A13 := Aside0.mk A130
        clear A130
        obtain rfl := Option.some.inj H
        obtain ⟨Ao14, co14, eo14⟩ := Kd.R_slice HO_3.out
        subst eo14
        go_wp2_with (first | ((with_reducible refine gate_callee (f := 16) rfl ?_); refine goesL_ (some 48) rfl rfl Try.func16 (by kernel_rfl) rfl #[.slice Ao14 x3_1.length co14] rfl (by (try simp only [List.map_toArray, List.map_cons, List.map_nil]); first | done | rfl | (simp only [List.length_drop, List.length_take]; rfl)) ?_; (with_reducible refine (spec_Pieces.calls k1 _ _ x3_1 t185 t186 _ ?side1 ?side2 A13.out).mono ?_); (case side1 => repeat (first | exact (Kd.R_reads' HO_3.out).2.2 | (with_reducible refine Kd.C_alloc ?_ _) | (with_reducible refine Kd.C_drewN ?_ _) | (with_reducible refine Kd.C_drew ?_))); (case side2 => exact (Kd.R_reads' HO_3.out).2.1); rintro e w15 ⟨rfl, hb⟩; refine ⟨_, rfl, ?_⟩; have n0_ := Aside0.mk (Kd.R_below (by (with_reducible repeat (first | apply Kd.R_alloc | apply Kd.R_drewN | apply Kd.R_drew)); exact HO_3.out) hb); have n1_ := Aside0.mk (below_step (by repeat (first | (with_reducible first | exact HB.out | apply below_alloc | apply pw_below_drewN | apply below_drew1) | exact HB.out)) hb); clear HO_3; clear HB; have HO_3 := n0_; have HB := n1_; clear n0_ n1_; (try clear hb); (try clear hb2); (try clear hk); (try clear hi)))
        go_ret
        exact ⟨by first | rfl | (simp [errW_none, errW_some] <;> rfl) | (simp [*, errW_none, errW_some] <;> rfl), by repeat (first | (with_reducible first | exact HB.out | apply below_alloc | apply pw_below_drewN | apply below_drew1) | exact HB.out)⟩

/-! ### impl_columns: function 46 -/
def impl_columns.l0 : Nat → List (S43) → List (S113) → Int → Int → Option ((List (S43)))
  | 0, _, _, _, _ => none
  | k + 1, x3, x6, x7, x8 => if x8 < x7 then (if 0 ≤ x8 then (if x8 < (x6.length : Int) then (if x3.length < 2932031007402 then (impl_columns.l0 k (x3 ++ [(⟨(rd_T113 x6 x8).f0, (rd_T113 x6 x8).f1, (rd_T113 x6 x8).f2, (rd_T113 x6 x8).f3, (rd_T113 x6 x8).f4⟩ : S43)]) x6 x7 (wrap64 (x8 + 1))) else (none)) else (none)) else (none)) else (some x3)
def impl_columns.f (k : Nat) (l0 : List (S113)) : Option ((List (S43))) := impl_columns.l0 k ([] : List (S43)) l0 (l0.length : Int) 0
theorem impl_columns.mono_l : ∀ k, (∀ y0 y1 y2 y3, LeO (impl_columns.l0 k y0 y1 y2 y3) (impl_columns.l0 (k + 1) y0 y1 y2 y3))
  | 0 => fun _ _ _ _ r h => by simp [impl_columns.l0] at h
  | k + 1 => by
    have ih0 := impl_columns.mono_l k
    · intro y0 y1 y2 y3
      unfold impl_columns.l0
      repeat' first
      | (with_reducible exact ih0 _ _ _ _)
      | (with_reducible exact LeO.refl _)
      | (with_reducible exact LeO.none _)
      | (with_reducible refine LeO.ite ?_ ?_)
      | (with_reducible refine LeO.bind ?_ (fun _ => ?_))
      | exact ih0 _ _ _ _
      | exact LeO.none _
      | refine LeO.ite ?_ ?_
      | refine LeO.bind ?_ (fun _ => ?_)
theorem impl_columns.mono : ∀ a0 k, LeO (impl_columns.f k a0) (impl_columns.f (k + 1) a0) := by
  intro a0 k
  have ih0 := impl_columns.mono_l k
  unfold impl_columns.f
  repeat' first
      | (with_reducible exact ih0 _ _ _ _)
      | (with_reducible exact LeO.refl _)
      | (with_reducible exact LeO.none _)
      | (with_reducible refine LeO.ite ?_ ?_)
      | (with_reducible refine LeO.bind ?_ (fun _ => ?_))
      | exact ih0 _ _ _ _
      | exact LeO.none _
      | refine LeO.ite ?_ ?_
      | refine LeO.bind ?_ (fun _ => ?_)
set_option maxHeartbeats 8000000 in
set_option maxRecDepth 100000 in
theorem impl_columns.calls (k : Nat) (A0 : Option Addr) (c0 : Nat) (l0 : List (S113)) (r : List (S43)) (w : World) (hr0 : Kd.C k113 w A0 l0.length l0) (hc0 : l0.length ≤ c0) (h : impl_columns.f k l0 = some r) :
    Calls Try.prog 46 #[.slice A0 l0.length c0] w fun e w' => ∃ v0_ : Value, e = .returned (v0_) ∧ Kd.R k43 43 w' w.heap.size (fun _ => True) v0_ r ∧ Below w.heap.size w w' := by
  have hu113 := Try.underlying113
  have hu43 := Try.underlying43
  have HR0 := Aside0.mk hr0
  have HC0 := Aside0.mk hc0
  clear hr0 hc0
  have HB := Aside0.mk (Below.refl w.heap.size w)
  have H : (impl_columns.l0 k ([] : List (S43)) l0 (l0.length : Int) 0) = some r := h
  clear h
  have H' := Aside0.mk H
  clear H
  go_enter Try.func46, Try.ntmps46
  go_wp2
  go_loopg [3, 8] k (fun kq v3 v8 w' => ∃ (x3_1 : List (S43)) (x8_1 : Int), v8 = .int .i64 x8_1 ∧ Aside0 (impl_columns.l0 kq x3_1 l0 (l0.length : Int) x8_1 = some r) ∧ Aside0 (kq ≤ k) ∧ Aside0 (Kd.R k43 43 w' w.heap.size (fun _ => True) v3 x3_1) ∧ Aside0 (Below w.heap.size w w'))
  case atStart => exact ⟨(([] : List (S43))), (0), (by first | rfl | (simp; done) | (simp [*]; done)), H', ⟨Nat.le_refl _⟩, ⟨by first | exact Kd.R_nil _ _ _ _ _ | exact Kd.N_nil _ _ _ _ _ | exact Kd.V_nil _ _ _ _ _ | exact Kd.Q_nil _ _ _ _ _ | exact Kd.S_nil _ _ _ _ _⟩, ⟨by repeat (first | (with_reducible first | exact HB.out | apply below_alloc | apply pw_below_drewN | apply below_drew1) | exact HB.out)⟩⟩
  case round =>
    clear H'
    obtain ⟨x3_1, x8_1, rfl, HA, HK1, HO_3, HB⟩ := hrel
    cases gk with
    | zero => exact absurd HA.out (by simp [impl_columns.l0])
    | succ k1 =>
      have H := HA.out
      clear HA
      simp only [impl_columns.l0] at H
      by_cases c2 : x8_1 < (l0.length : Int)
      · rw [if_pos c2] at H
        have c2b0 : decide (x8_1 < (l0.length : Int)) = true := decide_eq_true c2
        clear c2
        by_cases c3 : 0 ≤ x8_1
        · rw [if_pos c3] at H
          have c3b0 : decide (0 ≤ x8_1) = true := decide_eq_true c3
          clear c3
          by_cases c4 : x8_1 < (l0.length : Int)
          · rw [if_pos c4] at H
            have c4b0 : decide (x8_1 < (l0.length : Int)) = true := decide_eq_true c4
            clear c4
            by_cases c5 : x3_1.length < 2932031007402
            · rw [if_pos c5] at H
              have LMc5 := Aside0.mk c5
              clear c5
              obtain ⟨y189, hy189⟩ : ∃ y_ : List (S43), y_ = (x3_1 ++ [(⟨(rd_T113 l0 x8_1).f0, (rd_T113 l0 x8_1).f1, (rd_T113 l0 x8_1).f2, (rd_T113 l0 x8_1).f3, (rd_T113 l0 x8_1).f4⟩ : S43)]) := ⟨_, rfl⟩
              replace H : (impl_columns.l0 k1 y189 l0 (l0.length : Int) (wrap64 (x8_1 + 1))) = some r := by first | (rw [hy189]; with_reducible exact H) | (have H2_ := (Option.bind_some _ _).symm.trans H; rw [hy189]; with_reducible exact H2_) | (have H2_ := (Option.bind_some _ _).symm.trans H; with_reducible exact H2_) | with_reducible exact H | (rw [hy189]; exact H) | exact H
              have Ny189 := Aside0.mk hy189
              clear hy189
              have H' := Aside0.mk H
              clear H
              have p187 : 0 ≤ (x8_1 : Int) := of_decide_eq_true (by first | (with_reducible assumption) | assumption)
              have q187 : x8_1 < (l0.length : Int) := of_decide_eq_true (by first | (with_reducible assumption) | assumption)
              obtain ⟨ad187, e187, hx187_0, hx187_1, hx187_2, hx187_3, hx187_4⟩ := at_T113 HR0.out x8_1 p187 q187
              cases e187
              replace hx187_0 := (HB.out.cell (World.block_lt_of_cell? w _ hx187_0)).trans hx187_0
              replace hx187_1 := (HB.out.cell (World.block_lt_of_cell? w _ hx187_1)).trans hx187_1
              replace hx187_2 := (HB.out.cell (World.block_lt_of_cell? w _ hx187_2)).trans hx187_2
              replace hx187_3 := (HB.out.cell (World.block_lt_of_cell? w _ hx187_3)).trans hx187_3
              replace hx187_4 := (HB.out.cell (World.block_lt_of_cell? w _ hx187_4)).trans hx187_4
              replace p187 := eq_true p187
              replace q187 := eq_true q187
              go_wp2_with (first | ((with_reducible refine gate_dst (N := 5) rfl ?_); refine box_event ?hg (N := 5) ?hd (cs := #[.string (⟨#[]⟩ : ByteArray), .int .u32 0, .int .i64 0, .int .i64 0, .int .i64 0]) (t := 113) ?hr ?_; (case hd => rfl); (case hg => rfl); (case hr => first | (go_simp; done) | (go_simp; rfl)); intro gb188 hg w6 hbox hb; have n0_ := Aside0.mk (Kd.R_below (by (with_reducible repeat (first | apply Kd.R_alloc | apply Kd.R_drewN | apply Kd.R_drew)); exact HO_3.out) hb); have n1_ := Aside0.mk (below_step (by repeat (first | (with_reducible first | exact HB.out | apply below_alloc | apply pw_below_drewN | apply below_drew1) | exact HB.out)) hb); have n2_ := Aside0.mk (hbox); have n3_ := Aside0.mk ((by rw [hg]; exact (below_size (by repeat (first | (with_reducible first | exact HB.out | apply below_alloc | apply pw_below_drewN | apply below_drew1) | exact HB.out))) : w.heap.size ≤ gb188)); have n4_ := Aside0.mk ((by rw [hg]; exact (below_size (by repeat (first | (with_reducible first | exact HB.out | apply below_alloc | apply pw_below_drewN | apply below_drew1) | exact HB.out))) : w.heap.size ≤ gb188)); clear HO_3; clear HB; have HO_3 := n0_; have HB := n1_; have BK188 := n2_; have GW188 := n3_; have GE188 := n4_; clear n0_ n1_ n2_ n3_ n4_; clear hb hbox hg; have hcz7_0 : w6.cell? ⟨gb188, 0, none⟩ = some (.string (⟨#[]⟩ : ByteArray)) := (blk_cell BK188.out 0).trans rfl; have hcz7_1 : w6.cell? ⟨gb188, 1, none⟩ = some (.int .u32 0) := (blk_cell BK188.out 1).trans rfl; have hcz7_2 : w6.cell? ⟨gb188, 2, none⟩ = some (.int .i64 0) := (blk_cell BK188.out 2).trans rfl; have hcz7_3 : w6.cell? ⟨gb188, 3, none⟩ = some (.int .i64 0) := (blk_cell BK188.out 3).trans rfl; have hcz7_4 : w6.cell? ⟨gb188, 4, none⟩ = some (.int .i64 0) := (blk_cell BK188.out 4).trans rfl; have hfz7_0 := blk_frozen BK188.out 0; have hfz7_1 := blk_frozen BK188.out 1; have hfz7_2 := blk_frozen BK188.out 2; have hfz7_3 := blk_frozen BK188.out 3; have hfz7_4 := blk_frozen BK188.out 4) | ((with_reducible refine gate_builtin (b := .append) (xs := #[.tmp 12, .tmp 24]) rfl ?_); at_builtin; refine Kd.R_append k43 (w0 := w) w.heap.size rfl (.tmp 12) (.tmp 24) 38 43 (.agg #[(.string ⟨#[]⟩), (.int .u32 0), (.int .i64 0), (.int .i64 0), (.int .i64 0)]) 48 rfl Try.underlying38 info43 rfl (by decide) (by omega) u3 x3_1 (⟨(rd_T113 l0 x8_1).f0, (rd_T113 l0 x8_1).f1, (rd_T113 l0 x8_1).f2, (rd_T113 l0 x8_1).f3, (rd_T113 l0 x8_1).f4⟩ : S43) [.string ((rd_T113 l0 x8_1).f0), .int .u32 ((rd_T113 l0 x8_1).f1), .int .i64 ((rd_T113 l0 x8_1).f2), .int .i64 ((rd_T113 l0 x8_1).f3), .int .i64 ((rd_T113 l0 x8_1).f4)] (fun _ => True) (fun _ => False) rfl (by first | (go_simp; done) | (go_simp; rfl)) ?aP (fun _ hk => hk.elim) ?aF ?aO ?aB ?aS ?aL ?_; (case aP => exact k43_mkM _ _ _ (⟨(rd_T113 l0 x8_1).f0, (rd_T113 l0 x8_1).f1, (rd_T113 l0 x8_1).f2, (rd_T113 l0 x8_1).f3, (rd_T113 l0 x8_1).f4⟩ : S43)); (case aB => exact (by repeat (first | (with_reducible first | exact HB.out | apply below_alloc | apply pw_below_drewN | apply below_drew1 | refine below_set ?_ GE188.out) | exact HB.out))); (case aF => exact (fun _ _ => trivial)); (case aO => exact (by (with_reducible repeat (first | apply Kd.R_alloc | apply Kd.R_drewN | apply Kd.R_drew)); exact Kd.R_mono (Kd.R_far (p := ⟨gb188, 4, none⟩) (Kd.R_far (p := ⟨gb188, 3, none⟩) (Kd.R_far (p := ⟨gb188, 2, none⟩) (Kd.R_far (p := ⟨gb188, 1, none⟩) (Kd.R_far (p := ⟨gb188, 0, none⟩) (Kd.R_types HO_3.out BK188.out (by decide)) (fun _ hk => hk.2) (.string ((rd_T113 l0 x8_1).f0))) (fun _ hk => hk.2) (.int .u32 ((rd_T113 l0 x8_1).f1))) (fun _ hk => hk.2) (.int .i64 ((rd_T113 l0 x8_1).f2))) (fun _ hk => hk.2) (.int .i64 ((rd_T113 l0 x8_1).f3))) (fun _ hk => hk.2) (.int .i64 ((rd_T113 l0 x8_1).f4))) (fun _ hk => trivial))); (case aS => exact (below_size (by repeat (first | (with_reducible first | exact HB.out | apply below_alloc | apply pw_below_drewN | apply below_drew1 | refine below_set ?_ GE188.out) | exact HB.out)))); (case aL => have := LMc5.out; omega); intro v190 w8 ho hb hg hat; rw [← Ny189.out] at ho; have n0_ := Aside0.mk (blk_grown (g := gb188) (o := .cells #[.string ((rd_T113 l0 x8_1).f0), .int .u32 ((rd_T113 l0 x8_1).f1), .int .i64 ((rd_T113 l0 x8_1).f2), .int .i64 ((rd_T113 l0 x8_1).f3), .int .i64 ((rd_T113 l0 x8_1).f4)] 113 (0, 0)) (by (with_reducible repeat (first | refine blk_drewN ?_ _ | refine blk_drew ?_ | refine blk_alloc ?_ _)); refine blk_put (cs := #[.string ((rd_T113 l0 x8_1).f0), .int .u32 ((rd_T113 l0 x8_1).f1), .int .i64 ((rd_T113 l0 x8_1).f2), .int .i64 ((rd_T113 l0 x8_1).f3), .int .i64 0]) ?_ 4 _ rfl; (with_reducible repeat (first | refine blk_drewN ?_ _ | refine blk_drew ?_ | refine blk_alloc ?_ _)); refine blk_put (cs := #[.string ((rd_T113 l0 x8_1).f0), .int .u32 ((rd_T113 l0 x8_1).f1), .int .i64 ((rd_T113 l0 x8_1).f2), .int .i64 0, .int .i64 0]) ?_ 3 _ rfl; (with_reducible repeat (first | refine blk_drewN ?_ _ | refine blk_drew ?_ | refine blk_alloc ?_ _)); refine blk_put (cs := #[.string ((rd_T113 l0 x8_1).f0), .int .u32 ((rd_T113 l0 x8_1).f1), .int .i64 0, .int .i64 0, .int .i64 0]) ?_ 2 _ rfl; (with_reducible repeat (first | refine blk_drewN ?_ _ | refine blk_drew ?_ | refine blk_alloc ?_ _)); refine blk_put (cs := #[.string ((rd_T113 l0 x8_1).f0), .int .u32 0, .int .i64 0, .int .i64 0, .int .i64 0]) ?_ 1 _ rfl; (with_reducible repeat (first | refine blk_drewN ?_ _ | refine blk_drew ?_ | refine blk_alloc ?_ _)); refine blk_put (cs := #[.string (⟨#[]⟩ : ByteArray), .int .u32 0, .int .i64 0, .int .i64 0, .int .i64 0]) ?_ 0 _ rfl; (with_reducible repeat (first | refine blk_drewN ?_ _ | refine blk_drew ?_ | refine blk_alloc ?_ _)); exact BK188.out) hg (Kd.R_ne HO_3.out BK188.out (by decide))); have n1_ := Aside0.mk (hb); have n2_ := Aside0.mk (ho); clear BK188; clear HB; clear HO_3; have BK188 := n0_; have HB := n1_; have HO191 := n2_; clear n0_ n1_ n2_; clear ho hb hg hat))
              go_roundg k1
              case measure => have := HK1.out; omega
              case rel => exact ⟨(y189), (wrap64 (x8_1 + 1)), (by first | rfl | (simp; done) | (simp [*]; done)), H', ⟨by have := HK1.out; omega⟩, ⟨by (with_reducible repeat (first | apply Kd.R_alloc | apply Kd.R_drewN | apply Kd.R_drew)); exact HO191.out⟩, ⟨by repeat (first | (with_reducible first | exact HB.out | apply below_alloc | apply pw_below_drewN | apply below_drew1 | refine below_set ?_ GE188.out) | exact HB.out)⟩⟩
            · rw [if_neg c5] at H
              exact absurd H (by simp)
          · rw [if_neg c4] at H
            exact absurd H (by simp)
        · rw [if_neg c3] at H
          exact absurd H (by simp)
      · rw [if_neg c2] at H
        have c2b0 : decide (x8_1 < (l0.length : Int)) = false := decide_eq_false c2
        clear c2
        obtain rfl := Option.some.inj H
        go_wp2
        go_ret
        exact ⟨_, by first | rfl | (simp [errW_none, errW_some] <;> rfl) | (simp [*, errW_none, errW_some] <;> rfl), by (with_reducible repeat (first | apply Kd.R_alloc | apply Kd.R_drewN | apply Kd.R_drew)); exact HO_3.out, by repeat (first | (with_reducible first | exact HB.out | apply below_alloc | apply pw_below_drewN | apply below_drew1) | exact HB.out)⟩

/-! ### pq_readBuf_oid: function 83 -/
set_option maxHeartbeats 1000000 in
set_option maxRecDepth 100000 in
theorem pq_readBuf_oid.calls (g : Nat) (f : List Int) (w0 w : World) (hI : IsRd w0 w g f) (hB : Below w0.heap.size w0 w) (hn : 4 ≤ f.length) :
    Calls Try.prog 83 #[.pointer (some ⟨g, 0, none⟩)] w fun e w' => e = .returned (.int .u32 (rd f 0 * 16777216 + rd f 1 * 65536 + rd f 2 * 256 + rd f 3)) ∧ IsRd w0 w' g (f.drop 4) ∧ Below w0.heap.size w0 w' ∧ KeepBut w w' g none := by
  obtain ⟨A, c, hb, hg, hc, hr, hby⟩ := hI
  have hb0 := hby.rd 0; have hb1 := hby.rd 1; have hb2 := hby.rd 2; have hb3 := hby.rd 3
  have hw : IntKind.u32.wrap (rd f 0 * 16777216 + rd f 1 * 65536 + rd f 2 * 256 + rd f 3) = rd f 0 * 16777216 + rd f 1 * 65536 + rd f 2 * 256 + rd f 3 := by rw [IntKind.wrap_u32]; omega
  have hcell : w.cell? ⟨g, 0, none⟩ = some (.slice A f.length c) := (blk_cell hb 0).trans rfl
  have hu1 := Try.underlying100
  have h2 : ((4 : Nat) : Int) ≤ (f.length : Int) := by omega
  have h3 : (4 : Int) ≤ (f.length : Int) := by omega
  have hd := Kd.C_drop (c := c) hr hn hc
  have hl : (f.drop 4).length = f.length - 4 := List.length_drop
  have hr2 := Kd.C_below hr hB
  have S0 := Below.refl w.heap.size w
  have Sd := below_drew S0
  have hlt : g < w.heap.size := blk_lt hb
  have fin : ∀ w1 A', Below w.heap.size w w1 → (Kd.int .u8).C w0 A' (f.drop 4).length (f.drop 4) → IsRd w0 (w1.setCell ⟨g, 0, none⟩ (.slice A' (f.length - 4) (c - 4))) g (f.drop 4) := fun w1 A' hb1 h => ⟨A', c - 4, by rw [hl]; simpa using blk_set ((hb1.block g hlt).trans hb) 0 (.slice A' (f.length - 4) (c - 4)), hg, by omega, h, fun x hx => hby x (List.mem_of_mem_drop hx)⟩
  have hk : ∀ w1 u, Below w.heap.size w w1 → KeepBut w (w1.setCell ⟨g, 0, none⟩ u) g none := fun w1 u h => (KeepBut.of_below h g none).set_ 0 u
  have hbel : ∀ w1 u, Below w.heap.size w w1 → Below w0.heap.size w0 (w1.setCell ⟨g, 0, none⟩ u) := fun w1 u h => below_set (below_step hB h) hg
  go_enter Try.func83, Try.ntmps83
  go_wp2_with fail
  go_region_held3 (fun w' => w'.cell? ⟨g, 0, none⟩ = some (.slice A f.length c) ∧ Below w.heap.size w w') (first | exact ⟨hcell, S0⟩ | exact ⟨hcell, Sd⟩ | exact ⟨hcell1, S1⟩)
    (first | (go_at_call 74; refine (binary_bigEndian_Uint32.calls A f.length c f _ (Kd.C_drew hr2) hn hby).mono ?_; rintro e w1 ⟨rfl, S1_⟩; have S1 : Below w.heap.size w w1 := Below.trans Sd S1_; have hcell1 : w1.cell? ⟨g, 0, none⟩ = some (.slice A f.length c) := (S1.cell (p := ⟨g, 0, none⟩) hlt).trans hcell; have hfz := blk_frozen ((S1.block g hlt).trans hb) 0))
  by_cases hcn : c = 4
  · subst hcn
    rw [if_pos rfl] at hd
    have hfl : f.length = 4 := by omega
    have F1 := fin w1 A S1 hd
    rw [Nat.sub_self, hfl] at F1
    rw [hfl] at hcell1
    go_wp2
    go_ret
    exact ⟨by first | rfl | (trace_state; sorry), by simpa [hfl] using F1, hbel _ _ S1, hk _ _ S1⟩
  · rw [if_neg hcn, show (Kd.int .u8).sz = 1 from rfl, Nat.mul_one] at hd
    go_wp2
    go_ret
    exact ⟨by first | rfl | (trace_state; sorry), fin _ _ S1 hd, hbel _ _ S1, hk _ _ S1⟩

-- NOT PRINTED: function 69 (pq_parseStatementRowDescribe)

/-! ### pq_StatementColumns: function 47 -/
def pq_StatementColumns.f (l0 : List Int) : Option ((List (S113))) := none
set_option maxHeartbeats 8000000 in
set_option maxRecDepth 100000 in
theorem pq_StatementColumns.calls (A0 : Option Addr) (c0 : Nat) (l0 : List Int) (r : List (S113)) (w : World) (hr0 : Kd.C (Kd.int .u8) w A0 l0.length l0) (hc0 : l0.length ≤ c0) (h : pq_StatementColumns.f l0 = some r) :
    Calls Try.prog 47 #[.slice A0 l0.length c0] w fun e w' => ∃ v0_ : Value, e = .returned (v0_) ∧ Kd.R k113 113 w' w.heap.size (fun _ => True) v0_ r ∧ Below w.heap.size w w' := by
  have hu113 := Try.underlying113
  have HR0 := Aside0.mk hr0
  have HC0 := Aside0.mk hc0
  clear hr0 hc0
  have HB := Aside0.mk (Below.refl w.heap.size w)
  have H : (none) = some r := h
  clear h
  exact absurd H (by simp)

/-! ### impl_StatementColumns: function 20 -/
def impl_StatementColumns.f (a0 : ByteArray) : Option ((List (S43)) × Bool) := none
set_option maxHeartbeats 8000000 in
set_option maxRecDepth 100000 in
theorem impl_StatementColumns.calls (a0 : ByteArray) (r1 : List (S43)) (r2 : Bool) (w : World) (h : impl_StatementColumns.f a0 = some (r1, r2)) :
    Calls Try.prog 20 #[.string a0] w fun e w' => ∃ v0_ : Value, e = .returned (.tuple #[v0_, .bool r2]) ∧ Kd.R k43 43 w' w.heap.size (fun _ => True) v0_ r1 ∧ Below w.heap.size w w' := by
  have HB := Aside0.mk (Below.refl w.heap.size w)
  have H : (none) = some (r1, r2) := h
  clear h
  exact absurd H (by simp)

-- NOT PRINTED: function 70 (pq_parsePortalRowDescribe)

/-! ### pq_PortalColumns: function 49 -/
def pq_PortalColumns.f (l0 : List Int) : Option ((List (S113))) := none
set_option maxHeartbeats 8000000 in
set_option maxRecDepth 100000 in
theorem pq_PortalColumns.calls (A0 : Option Addr) (c0 : Nat) (l0 : List Int) (r : List (S113)) (w : World) (hr0 : Kd.C (Kd.int .u8) w A0 l0.length l0) (hc0 : l0.length ≤ c0) (h : pq_PortalColumns.f l0 = some r) :
    Calls Try.prog 49 #[.slice A0 l0.length c0] w fun e w' => ∃ v0_ : Value, e = .returned (v0_) ∧ Kd.R k113 113 w' w.heap.size (fun _ => True) v0_ r ∧ Below w.heap.size w w' := by
  have hu123 := Try.underlying123
  have hu113 := Try.underlying113
  have HR0 := Aside0.mk hr0
  have HC0 := Aside0.mk hc0
  clear hr0 hc0
  have HB := Aside0.mk (Below.refl w.heap.size w)
  have H : (none) = some r := h
  clear h
  exact absurd H (by simp)

/-! ### impl_PortalColumns: function 21 -/
def impl_PortalColumns.f (a0 : ByteArray) : Option ((List (S43)) × Bool) := none
set_option maxHeartbeats 8000000 in
set_option maxRecDepth 100000 in
theorem impl_PortalColumns.calls (a0 : ByteArray) (r1 : List (S43)) (r2 : Bool) (w : World) (h : impl_PortalColumns.f a0 = some (r1, r2)) :
    Calls Try.prog 21 #[.string a0] w fun e w' => ∃ v0_ : Value, e = .returned (.tuple #[v0_, .bool r2]) ∧ Kd.R k43 43 w' w.heap.size (fun _ => True) v0_ r1 ∧ Below w.heap.size w w' := by
  have HB := Aside0.mk (Below.refl w.heap.size w)
  have H : (none) = some (r1, r2) := h
  clear h
  exact absurd H (by simp)

-- NOT PRINTED: function 6 (laws_FnColumns)

/-! ### laws_zzFits12: function 50 -/
def laws_zzFits12.f (a0_0 : Int) (a0_1 : ByteArray) : Option (Bool) := if (a0_1.size : Int) > 2147483647 then (some false) else (some true)
set_option maxHeartbeats 8000000 in
set_option maxRecDepth 100000 in
theorem laws_zzFits12.calls (a0_0 : Int) (a0_1 : ByteArray) (r : Bool) (w : World) (h : laws_zzFits12.f a0_0 a0_1 = some r) :
    Calls Try.prog 50 #[.agg #[.int .u8 a0_0, .string a0_1]] w fun e w' => e = .returned (.bool r) ∧ Below w.heap.size w w' := by
  have hu54 := Try.underlying54
  have HB := Aside0.mk (Below.refl w.heap.size w)
  have H : (if (a0_1.size : Int) > 2147483647 then (some false) else (some true)) = some r := h
  clear h
  by_cases c2 : (a0_1.size : Int) > 2147483647
  · rw [if_pos c2] at H
    have c2b0 : decide (2147483647 < (a0_1.size : Int)) = true := decide_eq_true c2
    have c2b1 : decide (2147483647 < a0_1.size) = true := decide_eq_true (by omega)
    clear c2
    obtain rfl := Option.some.inj H
    go_enter Try.func50, Try.ntmps50
    go_wp2_with (first | ((with_reducible refine gate_dst (N := 1) rfl ?_); refine box_event ?hg (N := 1) ?hd (cs := #[.int .u8 a0_0, .string a0_1]) (t := 54) ?hr ?_; (case hd => rfl); (case hg => rfl); (case hr => first | (go_simp; done) | (go_simp; rfl)); intro gb209 hg w3 hbox hb; have n0_ := Aside0.mk (below_step (by repeat (first | (with_reducible first | exact HB.out | apply below_alloc | apply pw_below_drewN | apply below_drew1) | exact HB.out)) hb); have n1_ := Aside0.mk (hbox); have n2_ := Aside0.mk ((by rw [hg]; exact (below_size (by repeat (first | (with_reducible first | exact HB.out | apply below_alloc | apply pw_below_drewN | apply below_drew1) | exact HB.out))) : w.heap.size ≤ gb209)); have n3_ := Aside0.mk ((by rw [hg]; exact (below_size (by repeat (first | (with_reducible first | exact HB.out | apply below_alloc | apply pw_below_drewN | apply below_drew1) | exact HB.out))) : w.heap.size ≤ gb209)); clear HB; have HB := n0_; have BK209 := n1_; have GW209 := n2_; have GE209 := n3_; clear n0_ n1_ n2_ n3_; clear hb hbox hg; have hcz4_0 : w3.cell? ⟨gb209, 0, none⟩ = some (.int .u8 a0_0) := (blk_cell BK209.out 0).trans rfl; have hcz4_1 : w3.cell? ⟨gb209, 1, none⟩ = some (.string a0_1) := (blk_cell BK209.out 1).trans rfl; have hfz4_0 := blk_frozen BK209.out 0; have hfz4_1 := blk_frozen BK209.out 1))
    go_ret
    exact ⟨by first | rfl | (simp [errW_none, errW_some] <;> rfl) | (simp [*, errW_none, errW_some] <;> rfl), by repeat (first | (with_reducible first | exact HB.out | apply below_alloc | apply pw_below_drewN | apply below_drew1 | refine below_set ?_ GE209.out) | exact HB.out)⟩
  · rw [if_neg c2] at H
    have c2b0 : decide (2147483647 < (a0_1.size : Int)) = false := decide_eq_false c2
    have c2b1 : decide (2147483647 < a0_1.size) = false := decide_eq_false (by omega)
    clear c2
    obtain rfl := Option.some.inj H
    go_enter Try.func50, Try.ntmps50
    go_wp2_with (first | ((with_reducible refine gate_dst (N := 1) rfl ?_); refine box_event ?hg (N := 1) ?hd (cs := #[.int .u8 a0_0, .string a0_1]) (t := 54) ?hr ?_; (case hd => rfl); (case hg => rfl); (case hr => first | (go_simp; done) | (go_simp; rfl)); intro gb209 hg w5 hbox hb; have n0_ := Aside0.mk (below_step (by repeat (first | (with_reducible first | exact HB.out | apply below_alloc | apply pw_below_drewN | apply below_drew1) | exact HB.out)) hb); have n1_ := Aside0.mk (hbox); have n2_ := Aside0.mk ((by rw [hg]; exact (below_size (by repeat (first | (with_reducible first | exact HB.out | apply below_alloc | apply pw_below_drewN | apply below_drew1) | exact HB.out))) : w.heap.size ≤ gb209)); have n3_ := Aside0.mk ((by rw [hg]; exact (below_size (by repeat (first | (with_reducible first | exact HB.out | apply below_alloc | apply pw_below_drewN | apply below_drew1) | exact HB.out))) : w.heap.size ≤ gb209)); clear HB; have HB := n0_; have BK209 := n1_; have GW209 := n2_; have GE209 := n3_; clear n0_ n1_ n2_ n3_; clear hb hbox hg; have hcz6_0 : w5.cell? ⟨gb209, 0, none⟩ = some (.int .u8 a0_0) := (blk_cell BK209.out 0).trans rfl; have hcz6_1 : w5.cell? ⟨gb209, 1, none⟩ = some (.string a0_1) := (blk_cell BK209.out 1).trans rfl; have hfz6_0 := blk_frozen BK209.out 0; have hfz6_1 := blk_frozen BK209.out 1))
    go_ret
    exact ⟨by first | rfl | (simp [errW_none, errW_some] <;> rfl) | (simp [*, errW_none, errW_some] <;> rfl), by repeat (first | (with_reducible first | exact HB.out | apply below_alloc | apply pw_below_drewN | apply below_drew1 | refine below_set ?_ GE209.out) | exact HB.out)⟩

/-! ### laws_zzFits11: function 22 -/
def laws_zzFits11.l0 : Nat → List (S54) → Int → Int → Option (Bool)
  | 0, _, _, _ => none
  | k + 1, x8, x9, x10 => if x10 < x9 then (if 0 ≤ x10 then (if x10 < (x8.length : Int) then ((laws_zzFits12.f ((rd_T54 x8 x10).f0) ((rd_T54 x8 x10).f1)).bind fun t212 => (if t212 = true then (laws_zzFits11.l0 k x8 x9 (wrap64 (x10 + 1))) else (some false))) else (none)) else (none)) else (some true)
def laws_zzFits11.f (k : Nat) (l0 : List (S54)) : Option (Bool) := if (l0.length : Int) > 2147483647 then (some false) else (laws_zzFits11.l0 k l0 (l0.length : Int) 0)
theorem laws_zzFits11.mono_l : ∀ k, (∀ y0 y1 y2, LeO (laws_zzFits11.l0 k y0 y1 y2) (laws_zzFits11.l0 (k + 1) y0 y1 y2))
  | 0 => fun _ _ _ r h => by simp [laws_zzFits11.l0] at h
  | k + 1 => by
    have ih0 := laws_zzFits11.mono_l k
    · intro y0 y1 y2
      unfold laws_zzFits11.l0
      repeat' first
      | (with_reducible exact ih0 _ _ _)
      | (with_reducible exact LeO.refl _)
      | (with_reducible exact LeO.none _)
      | (with_reducible refine LeO.ite ?_ ?_)
      | (with_reducible refine LeO.bind ?_ (fun _ => ?_))
      | exact ih0 _ _ _
      | exact LeO.none _
      | refine LeO.ite ?_ ?_
      | refine LeO.bind ?_ (fun _ => ?_)
theorem laws_zzFits11.mono : ∀ a0 k, LeO (laws_zzFits11.f k a0) (laws_zzFits11.f (k + 1) a0) := by
  intro a0 k
  have ih0 := laws_zzFits11.mono_l k
  unfold laws_zzFits11.f
  repeat' first
      | (with_reducible exact ih0 _ _ _)
      | (with_reducible exact LeO.refl _)
      | (with_reducible exact LeO.none _)
      | (with_reducible refine LeO.ite ?_ ?_)
      | (with_reducible refine LeO.bind ?_ (fun _ => ?_))
      | exact ih0 _ _ _
      | exact LeO.none _
      | refine LeO.ite ?_ ?_
      | refine LeO.bind ?_ (fun _ => ?_)
set_option maxHeartbeats 8000000 in
set_option maxRecDepth 100000 in
theorem laws_zzFits11.calls (k : Nat) (A0 : Option Addr) (c0 : Nat) (l0 : List (S54)) (r : Bool) (w : World) (hr0 : Kd.C k54 w A0 l0.length l0) (hc0 : l0.length ≤ c0) (h : laws_zzFits11.f k l0 = some r) :
    Calls Try.prog 22 #[.slice A0 l0.length c0] w fun e w' => e = .returned (.bool r) ∧ Below w.heap.size w w' := by
  have hu54 := Try.underlying54
  have HR0 := Aside0.mk hr0
  have HC0 := Aside0.mk hc0
  clear hr0 hc0
  have HB := Aside0.mk (Below.refl w.heap.size w)
  have H : (if (l0.length : Int) > 2147483647 then (some false) else (laws_zzFits11.l0 k l0 (l0.length : Int) 0)) = some r := h
  clear h
  by_cases c2 : (l0.length : Int) > 2147483647
  · rw [if_pos c2] at H
    have c2b0 : decide (2147483647 < (l0.length : Int)) = true := decide_eq_true c2
    have c2b1 : decide (2147483647 < l0.length) = true := decide_eq_true (by omega)
    clear c2
    obtain rfl := Option.some.inj H
    go_enter Try.func22, Try.ntmps22
    go_wp2
    go_ret
    exact ⟨by first | rfl | (simp [errW_none, errW_some] <;> rfl) | (simp [*, errW_none, errW_some] <;> rfl), by repeat (first | (with_reducible first | exact HB.out | apply below_alloc | apply pw_below_drewN | apply below_drew1) | exact HB.out)⟩
  · rw [if_neg c2] at H
    have c2b0 : decide (2147483647 < (l0.length : Int)) = false := decide_eq_false c2
    have c2b1 : decide (2147483647 < l0.length) = false := decide_eq_false (by omega)
    clear c2
    have H' := Aside0.mk H
    clear H
    go_enter Try.func22, Try.ntmps22
    go_wp2
    go_loopg [10] k (fun kq v10 w' => ∃ (x10_1 : Int), v10 = .int .i64 x10_1 ∧ Aside0 (laws_zzFits11.l0 kq l0 (l0.length : Int) x10_1 = some r) ∧ Aside0 (kq ≤ k) ∧ Aside0 (Below w.heap.size w w'))
    case atStart => exact ⟨(0), (by first | rfl | (simp; done) | (simp [*]; done)), H', ⟨Nat.le_refl _⟩, ⟨by repeat (first | (with_reducible first | exact HB.out | apply below_alloc | apply pw_below_drewN | apply below_drew1) | exact HB.out)⟩⟩
    case round =>
      clear H'
      try clear c2
      try clear c2b0
      try clear c2b1
      try clear p2
      obtain ⟨x10_1, rfl, HA, HK1, HB⟩ := hrel
      cases gk with
      | zero => exact absurd HA.out (by simp [laws_zzFits11.l0])
      | succ k1 =>
        have H := HA.out
        clear HA
        simp only [laws_zzFits11.l0] at H
        by_cases c3 : x10_1 < (l0.length : Int)
        · rw [if_pos c3] at H
          have c3b0 : decide (x10_1 < (l0.length : Int)) = true := decide_eq_true c3
          clear c3
          by_cases c4 : 0 ≤ x10_1
          · rw [if_pos c4] at H
            have c4b0 : decide (0 ≤ x10_1) = true := decide_eq_true c4
            clear c4
            by_cases c5 : x10_1 < (l0.length : Int)
            · rw [if_pos c5] at H
              have c5b0 : decide (x10_1 < (l0.length : Int)) = true := decide_eq_true c5
              clear c5
              replace H := Option.bind_eq_some_iff.mp H
              obtain ⟨t212, A60, H⟩ := H
              replace H : (if t212 = true then (laws_zzFits11.l0 k1 l0 (l0.length : Int) (wrap64 (x10_1 + 1))) else (some false)) = some r := H
              have A6 := Aside0.mk A60
              clear A60
              by_cases c7 : t212 = true
              · subst c7
                have H1 : (laws_zzFits11.l0 k1 l0 (l0.length : Int) (wrap64 (x10_1 + 1))) = some r := by rw [if_pos rfl] at H; exact H
                clear H
                have H := H1
                clear H1
                have H' := Aside0.mk H
                clear H
                have p210 : 0 ≤ (x10_1 : Int) := of_decide_eq_true (by first | (with_reducible assumption) | assumption)
                have q210 : x10_1 < (l0.length : Int) := of_decide_eq_true (by first | (with_reducible assumption) | assumption)
                obtain ⟨ad210, e210, hx210_0, hx210_1⟩ := at_T54 HR0.out x10_1 p210 q210
                cases e210
                replace hx210_0 := (HB.out.cell (World.block_lt_of_cell? w _ hx210_0)).trans hx210_0
                replace hx210_1 := (HB.out.cell (World.block_lt_of_cell? w _ hx210_1)).trans hx210_1
                replace p210 := eq_true p210
                replace q210 := eq_true q210
                go_wp2_with (first | ((with_reducible refine gate_dst (N := 4) rfl ?_); refine box_event ?hg (N := 4) ?hd (cs := #[.int .u8 0, .string (⟨#[]⟩ : ByteArray)]) (t := 54) ?hr ?_; (case hd => rfl); (case hg => rfl); (case hr => first | (go_simp; done) | (go_simp; rfl)); intro gb211 hg w8 hbox hb; have n0_ := Aside0.mk (below_step (by repeat (first | (with_reducible first | exact HB.out | apply below_alloc | apply pw_below_drewN | apply below_drew1) | exact HB.out)) hb); have n1_ := Aside0.mk (hbox); have n2_ := Aside0.mk ((by rw [hg]; exact (below_size (by repeat (first | (with_reducible first | exact HB.out | apply below_alloc | apply pw_below_drewN | apply below_drew1) | exact HB.out))) : w.heap.size ≤ gb211)); have n3_ := Aside0.mk ((by rw [hg]; exact (below_size (by repeat (first | (with_reducible first | exact HB.out | apply below_alloc | apply pw_below_drewN | apply below_drew1) | exact HB.out))) : w.heap.size ≤ gb211)); clear HB; have HB := n0_; have BK211 := n1_; have GW211 := n2_; have GE211 := n3_; clear n0_ n1_ n2_ n3_; clear hb hbox hg; have hcz9_0 : w8.cell? ⟨gb211, 0, none⟩ = some (.int .u8 0) := (blk_cell BK211.out 0).trans rfl; have hcz9_1 : w8.cell? ⟨gb211, 1, none⟩ = some (.string (⟨#[]⟩ : ByteArray)) := (blk_cell BK211.out 1).trans rfl; have hfz9_0 := blk_frozen BK211.out 0; have hfz9_1 := blk_frozen BK211.out 1) | ((with_reducible refine gate_callee (f := 50) rfl ?_); refine goesL_ (some 15) rfl rfl Try.func50 (by kernel_rfl) rfl #[.agg #[.int .u8 ((rd_T54 l0 x10_1).f0), .string ((rd_T54 l0 x10_1).f1)]] rfl (by (try simp only [List.map_toArray, List.map_cons, List.map_nil]); first | done | rfl | (simp only [List.length_drop, List.length_take]; rfl)) ?_; (with_reducible refine (laws_zzFits12.calls ((rd_T54 l0 x10_1).f0) ((rd_T54 l0 x10_1).f1) true _ A6.out).mono ?_); rintro e w10 ⟨rfl, hb⟩; refine ⟨_, rfl, ?_⟩; have n0_ := Aside0.mk (blk_below (g := gb211) (o := .cells #[.int .u8 ((rd_T54 l0 x10_1).f0), .string ((rd_T54 l0 x10_1).f1)] 54 (0, 0)) (by (with_reducible repeat (first | refine blk_drewN ?_ _ | refine blk_drew ?_ | refine blk_alloc ?_ _)); refine blk_put (cs := #[.int .u8 ((rd_T54 l0 x10_1).f0), .string (⟨#[]⟩ : ByteArray)]) ?_ 1 _ rfl; (with_reducible repeat (first | refine blk_drewN ?_ _ | refine blk_drew ?_ | refine blk_alloc ?_ _)); refine blk_put (cs := #[.int .u8 0, .string (⟨#[]⟩ : ByteArray)]) ?_ 0 _ rfl; (with_reducible repeat (first | refine blk_drewN ?_ _ | refine blk_drew ?_ | refine blk_alloc ?_ _)); exact BK211.out) hb); have n1_ := Aside0.mk (below_step (by repeat (first | (with_reducible first | exact HB.out | apply below_alloc | apply pw_below_drewN | apply below_drew1 | refine below_set ?_ GE211.out) | exact HB.out)) hb); clear BK211; clear HB; have BK211 := n0_; have HB := n1_; clear n0_ n1_; (try clear hb); (try clear hb2); (try clear hk); (try clear hi)))
                go_roundg k1
                case measure => have := HK1.out; omega
                case rel => exact ⟨(wrap64 (x10_1 + 1)), (by first | rfl | (simp; done) | (simp [*]; done)), H', ⟨by have := HK1.out; omega⟩, ⟨by repeat (first | (with_reducible first | exact HB.out | apply below_alloc | apply pw_below_drewN | apply below_drew1 | refine below_set ?_ GE211.out) | exact HB.out)⟩⟩
              · replace c7 := Bool.eq_false_iff.mpr c7
                subst c7
                have H1 : (some false) = some r := by rw [if_neg (show ¬ (false = true) by decide)] at H; exact H
                clear H
                have H := H1
                clear H1
                obtain rfl := Option.some.inj H
                have p210 : 0 ≤ (x10_1 : Int) := of_decide_eq_true (by first | (with_reducible assumption) | assumption)
                have q210 : x10_1 < (l0.length : Int) := of_decide_eq_true (by first | (with_reducible assumption) | assumption)
                obtain ⟨ad210, e210, hx210_0, hx210_1⟩ := at_T54 HR0.out x10_1 p210 q210
                cases e210
                replace hx210_0 := (HB.out.cell (World.block_lt_of_cell? w _ hx210_0)).trans hx210_0
                replace hx210_1 := (HB.out.cell (World.block_lt_of_cell? w _ hx210_1)).trans hx210_1
                replace p210 := eq_true p210
                replace q210 := eq_true q210
                go_wp2_with (first | ((with_reducible refine gate_dst (N := 4) rfl ?_); refine box_event ?hg (N := 4) ?hd (cs := #[.int .u8 0, .string (⟨#[]⟩ : ByteArray)]) (t := 54) ?hr ?_; (case hd => rfl); (case hg => rfl); (case hr => first | (go_simp; done) | (go_simp; rfl)); intro gb211 hg w11 hbox hb; have n0_ := Aside0.mk (below_step (by repeat (first | (with_reducible first | exact HB.out | apply below_alloc | apply pw_below_drewN | apply below_drew1) | exact HB.out)) hb); have n1_ := Aside0.mk (hbox); have n2_ := Aside0.mk ((by rw [hg]; exact (below_size (by repeat (first | (with_reducible first | exact HB.out | apply below_alloc | apply pw_below_drewN | apply below_drew1) | exact HB.out))) : w.heap.size ≤ gb211)); have n3_ := Aside0.mk ((by rw [hg]; exact (below_size (by repeat (first | (with_reducible first | exact HB.out | apply below_alloc | apply pw_below_drewN | apply below_drew1) | exact HB.out))) : w.heap.size ≤ gb211)); clear HB; have HB := n0_; have BK211 := n1_; have GW211 := n2_; have GE211 := n3_; clear n0_ n1_ n2_ n3_; clear hb hbox hg; have hcz12_0 : w11.cell? ⟨gb211, 0, none⟩ = some (.int .u8 0) := (blk_cell BK211.out 0).trans rfl; have hcz12_1 : w11.cell? ⟨gb211, 1, none⟩ = some (.string (⟨#[]⟩ : ByteArray)) := (blk_cell BK211.out 1).trans rfl; have hfz12_0 := blk_frozen BK211.out 0; have hfz12_1 := blk_frozen BK211.out 1) | ((with_reducible refine gate_callee (f := 50) rfl ?_); refine goesL_ (some 15) rfl rfl Try.func50 (by kernel_rfl) rfl #[.agg #[.int .u8 ((rd_T54 l0 x10_1).f0), .string ((rd_T54 l0 x10_1).f1)]] rfl (by (try simp only [List.map_toArray, List.map_cons, List.map_nil]); first | done | rfl | (simp only [List.length_drop, List.length_take]; rfl)) ?_; (with_reducible refine (laws_zzFits12.calls ((rd_T54 l0 x10_1).f0) ((rd_T54 l0 x10_1).f1) false _ A6.out).mono ?_); rintro e w13 ⟨rfl, hb⟩; refine ⟨_, rfl, ?_⟩; have n0_ := Aside0.mk (blk_below (g := gb211) (o := .cells #[.int .u8 ((rd_T54 l0 x10_1).f0), .string ((rd_T54 l0 x10_1).f1)] 54 (0, 0)) (by (with_reducible repeat (first | refine blk_drewN ?_ _ | refine blk_drew ?_ | refine blk_alloc ?_ _)); refine blk_put (cs := #[.int .u8 ((rd_T54 l0 x10_1).f0), .string (⟨#[]⟩ : ByteArray)]) ?_ 1 _ rfl; (with_reducible repeat (first | refine blk_drewN ?_ _ | refine blk_drew ?_ | refine blk_alloc ?_ _)); refine blk_put (cs := #[.int .u8 0, .string (⟨#[]⟩ : ByteArray)]) ?_ 0 _ rfl; (with_reducible repeat (first | refine blk_drewN ?_ _ | refine blk_drew ?_ | refine blk_alloc ?_ _)); exact BK211.out) hb); have n1_ := Aside0.mk (below_step (by repeat (first | (with_reducible first | exact HB.out | apply below_alloc | apply pw_below_drewN | apply below_drew1 | refine below_set ?_ GE211.out) | exact HB.out)) hb); clear BK211; clear HB; have BK211 := n0_; have HB := n1_; clear n0_ n1_; (try clear hb); (try clear hb2); (try clear hk); (try clear hi)))
                go_ret
                exact ⟨by first | rfl | (simp [errW_none, errW_some] <;> rfl) | (simp [*, errW_none, errW_some] <;> rfl), by repeat (first | (with_reducible first | exact HB.out | apply below_alloc | apply pw_below_drewN | apply below_drew1 | refine below_set ?_ GE211.out) | exact HB.out)⟩
            · rw [if_neg c5] at H
              exact absurd H (by simp)
          · rw [if_neg c4] at H
            exact absurd H (by simp)
        · rw [if_neg c3] at H
          have c3b0 : decide (x10_1 < (l0.length : Int)) = false := decide_eq_false c3
          clear c3
          obtain rfl := Option.some.inj H
          go_wp2
          go_ret
          exact ⟨by first | rfl | (simp [errW_none, errW_some] <;> rfl) | (simp [*, errW_none, errW_some] <;> rfl), by repeat (first | (with_reducible first | exact HB.out | apply below_alloc | apply pw_below_drewN | apply below_drew1) | exact HB.out)⟩

/-! ### spec_place: function 51 -/
def spec_place.l0 : Nat → ByteArray → Int → Int → Option (Int)
  | 0, _, _, _ => none
  | k + 1, x0, x1, x5 => if x5 < (x0.size : Int) then (if 0 ≤ x5 then (if (bt x0 x5) = x1 then (some x5) else (spec_place.l0 k x0 x1 (wrap64 (x5 + 1)))) else (none)) else (some (-1))
def spec_place.f (k : Nat) (a0 : ByteArray) (a1 : Int) : Option (Int) := spec_place.l0 k a0 a1 0
theorem spec_place.mono_l : ∀ k, (∀ y0 y1 y2, LeO (spec_place.l0 k y0 y1 y2) (spec_place.l0 (k + 1) y0 y1 y2))
  | 0 => fun _ _ _ r h => by simp [spec_place.l0] at h
  | k + 1 => by
    have ih0 := spec_place.mono_l k
    · intro y0 y1 y2
      unfold spec_place.l0
      repeat' first
      | (with_reducible exact ih0 _ _ _)
      | (with_reducible exact LeO.refl _)
      | (with_reducible exact LeO.none _)
      | (with_reducible refine LeO.ite ?_ ?_)
      | (with_reducible refine LeO.bind ?_ (fun _ => ?_))
      | exact ih0 _ _ _
      | exact LeO.none _
      | refine LeO.ite ?_ ?_
      | refine LeO.bind ?_ (fun _ => ?_)
theorem spec_place.mono : ∀ a0 a1 k, LeO (spec_place.f k a0 a1) (spec_place.f (k + 1) a0 a1) := by
  intro a0 a1 k
  have ih0 := spec_place.mono_l k
  unfold spec_place.f
  repeat' first
      | (with_reducible exact ih0 _ _ _)
      | (with_reducible exact LeO.refl _)
      | (with_reducible exact LeO.none _)
      | (with_reducible refine LeO.ite ?_ ?_)
      | (with_reducible refine LeO.bind ?_ (fun _ => ?_))
      | exact ih0 _ _ _
      | exact LeO.none _
      | refine LeO.ite ?_ ?_
      | refine LeO.bind ?_ (fun _ => ?_)
set_option maxHeartbeats 8000000 in
set_option maxRecDepth 100000 in
theorem spec_place.calls (k : Nat) (a0 : ByteArray) (a1 : Int) (r : Int) (w : World) (h : spec_place.f k a0 a1 = some r) :
    Calls Try.prog 51 #[.string a0, .int .u8 a1] w fun e w' => e = .returned (.int .i64 r) ∧ Drawn0 w w' := by
  have H : (spec_place.l0 k a0 a1 0) = some r := h
  clear h
  have H' := Aside0.mk H
  clear H
  go_enter Try.func51, Try.ntmps51
  go_wp2
  go_loopg [5] k (fun kq v5 w' => ∃ (x5_1 : Int), v5 = .int .i64 x5_1 ∧ Aside0 (spec_place.l0 kq a0 a1 x5_1 = some r) ∧ Aside0 (kq ≤ k) ∧ Drawn0 w w')
  case atStart => exact ⟨(0), (by first | rfl | (simp; done) | (simp [*]; done)), H', ⟨Nat.le_refl _⟩, by repeat (first | exact Drawn0.refl _ | apply Drawn0.step)⟩
  case round =>
    clear H'
    try clear p2
    obtain ⟨x5_1, rfl, HA, HK1, ⟨m1, rfl⟩⟩ := hrel
    cases gk with
    | zero => exact absurd HA.out (by simp [spec_place.l0])
    | succ k1 =>
      have H := HA.out
      clear HA
      simp only [spec_place.l0] at H
      by_cases c3 : x5_1 < (a0.size : Int)
      · rw [if_pos c3] at H
        have c3b0 : decide (x5_1 < (a0.size : Int)) = true := decide_eq_true c3
        clear c3
        by_cases c4 : 0 ≤ x5_1
        · rw [if_pos c4] at H
          have c4b0 : decide (0 ≤ x5_1) = true := decide_eq_true c4
          clear c4
          by_cases c6 : (bt a0 x5_1) = a1
          · rw [if_pos c6] at H
            have c6b0 : ((bt a0 x5_1) == a1) = true := beq_iff_eq.mpr c6
            have c6b1 : ((bt a0 x5_1) != a1) = false := bne_eq_false_iff_eq.mpr c6
            clear c6
            obtain rfl := Option.some.inj H
            have p5 : 0 ≤ (x5_1 : Int) := of_decide_eq_true (by first | (with_reducible assumption) | assumption)
            have q5 : x5_1 < (a0.size : Int) := of_decide_eq_true (by first | (with_reducible assumption) | assumption)
            have hx5 := bt_at a0 x5_1
            replace p5 := eq_true p5
            replace q5 := eq_true q5
            go_wp2
            go_ret
            exact ⟨by first | rfl | (simp; done) | (simp [*]; done), by repeat (first | exact Drawn0.refl _ | apply Drawn0.step)⟩
          · rw [if_neg c6] at H
            have c6b0 : ((bt a0 x5_1) == a1) = false := beq_eq_false_iff_ne.mpr c6
            have c6b1 : ((bt a0 x5_1) != a1) = true := bne_iff_ne.mpr c6
            have H' := Aside0.mk H
            clear H
            have p5 : 0 ≤ (x5_1 : Int) := of_decide_eq_true (by first | (with_reducible assumption) | assumption)
            have q5 : x5_1 < (a0.size : Int) := of_decide_eq_true (by first | (with_reducible assumption) | assumption)
            have hx5 := bt_at a0 x5_1
            replace p5 := eq_true p5
            replace q5 := eq_true q5
            go_wp2
            go_roundg k1
            case measure => have := HK1.out; omega
            case rel => exact ⟨(wrap64 (x5_1 + 1)), (by first | rfl | (simp; done) | (simp [*]; done)), H', ⟨by have := HK1.out; omega⟩, by repeat (first | exact Drawn0.refl _ | apply Drawn0.step)⟩
        · rw [if_neg c4] at H
          exact absurd H (by simp)
      · rw [if_neg c3] at H
        have c3b0 : decide (x5_1 < (a0.size : Int)) = false := decide_eq_false c3
        clear c3
        obtain rfl := Option.some.inj H
        go_wp2
        go_ret
        exact ⟨by first | rfl | (simp; done) | (simp [*]; done), by repeat (first | exact Drawn0.refl _ | apply Drawn0.step)⟩

end Go.Proofs.Ythcikkjjegfblab.P
