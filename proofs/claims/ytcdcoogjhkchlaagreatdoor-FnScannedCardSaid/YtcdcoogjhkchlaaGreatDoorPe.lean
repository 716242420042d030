-- Written by the program wip/myprint.py of this session, over the kit's print of the translation. Lean checks it.
import Derived.Test.YtcdcoogjhkchlaaGreatDoorPx0
import Derived.Test.YtcdcoogjhkchlaaGreatDoorPx4
import Derived.Test.YtcdcoogjhkchlaaGreatDoorOne
namespace Go.Proofs.YtcdcoogjhkchlaaGreatDoor.P
open Go.RowKit Go.Proofs.YtcdcoogjhkchlaaGreatDoorW.PrintWords Go.Proofs.YtcdcoogjhkchlaaGreatDoorW.PrintLast Go.Proofs.YtcdcoogjhkchlaaGreatDoorW.PrintMore
attribute [local go_sem] max2_int min2_int max_two min_two max_three min_three max_four min_four   -- for this text's walks alone
set_option linter.unusedVariables false
set_option linter.unusedSimpArgs false
attribute [local go_sem] run_store_flt1

/-! ### spec_Elements: function 4 -/
mutual
def spec_Elements.j0 : Nat → Int → List (S34) → List (S34) → Bool → Bool → Option ((List (S34)) × Bool × Bool)
  | 0, _, _, _, _, _ => none
  | k + 1, x0, x4, x8, x10, x32 => if x32 = true then (some (([] : List (S34)), false, x10)) else (spec_Elements.l0 k x0 x4 x8 0)
def spec_Elements.l0 : Nat → Int → List (S34) → List (S34) → Int → Option ((List (S34)) × Bool × Bool)
  | 0, _, _, _, _ => none
  | k + 1, x0, x4, x8, x11 => if x11 < (x8.length : Int) then (if 0 ≤ x11 then ((spec_one.f k x0 ((rd_T34 x8 x11).f0) ((rd_T34 x8 x11).f1) ((rd_T34 x8 x11).f2) ((rd_T34 x8 x11).f3) ((rd_T34 x8 x11).f4)).bind fun bt111 => (if bt111.2.2.2.2.2.2 = true then (if bt111.2.2.2.2.2.1 = true then (if x4.length < 2932031007402 then (spec_Elements.l0 k x0 (x4 ++ [(⟨bt111.1, bt111.2.1, bt111.2.2.1, bt111.2.2.2.1, bt111.2.2.2.2.1⟩ : S34)]) x8 (wrap64 (x11 + 1))) else (none)) else (some (([] : List (S34)), false, true))) else (some (([] : List (S34)), false, false)))) else (none)) else (some (x4, true, true))
end
def spec_Elements.f (k : Nat) (a0 : Int) (a1 : ByteArray) : Option ((List (S34)) × Bool × Bool) := (spec_Array.f a1 (⟨#[44]⟩ : ByteArray)).bind fun bt102 => (if bt102.2.2.2 = true then (if bt102.2.2.1 = true then (spec_Elements.j0 k a0 ([] : List (S34)) bt102.2.1 bt102.2.2.2 (decide ((bt102.1.length : Int) > 1))) else (spec_Elements.j0 k a0 ([] : List (S34)) bt102.2.1 bt102.2.2.2 true)) else (spec_Elements.j0 k a0 ([] : List (S34)) bt102.2.1 bt102.2.2.2 true))
theorem spec_Elements.mono_l : ∀ k, (∀ y0 y1 y2 y3 y4, LeO (spec_Elements.j0 k y0 y1 y2 y3 y4) (spec_Elements.j0 (k + 1) y0 y1 y2 y3 y4)) ∧ (∀ y0 y1 y2 y3, LeO (spec_Elements.l0 k y0 y1 y2 y3) (spec_Elements.l0 (k + 1) y0 y1 y2 y3))
  | 0 => ⟨fun _ _ _ _ _ r h => by simp [spec_Elements.j0] at h, fun _ _ _ _ r h => by simp [spec_Elements.l0] at h⟩
  | k + 1 => by
    obtain ⟨ih0, ih1⟩ := spec_Elements.mono_l k
    refine ⟨?_, ?_⟩
    · intro y0 y1 y2 y3 y4
      unfold spec_Elements.j0
      repeat' first
      | (with_reducible exact ih0 _ _ _ _ _)
      | (with_reducible exact ih1 _ _ _ _)
      | (with_reducible exact spec_one.mono _ _ _ _ _ _ _)
      | (with_reducible exact LeO.refl _)
      | (with_reducible exact LeO.none _)
      | (with_reducible refine LeO.ite ?_ ?_)
      | (with_reducible refine LeO.bind ?_ (fun _ => ?_))
      | exact ih0 _ _ _ _ _
      | exact ih1 _ _ _ _
      | exact spec_one.mono _ _ _ _ _ _ _
      | exact LeO.none _
      | refine LeO.ite ?_ ?_
      | refine LeO.bind ?_ (fun _ => ?_)
    · intro y0 y1 y2 y3
      unfold spec_Elements.l0
      repeat' first
      | (with_reducible exact ih0 _ _ _ _ _)
      | (with_reducible exact ih1 _ _ _ _)
      | (with_reducible exact spec_one.mono _ _ _ _ _ _ _)
      | (with_reducible exact LeO.refl _)
      | (with_reducible exact LeO.none _)
      | (with_reducible refine LeO.ite ?_ ?_)
      | (with_reducible refine LeO.bind ?_ (fun _ => ?_))
      | exact ih0 _ _ _ _ _
      | exact ih1 _ _ _ _
      | exact spec_one.mono _ _ _ _ _ _ _
      | exact LeO.none _
      | refine LeO.ite ?_ ?_
      | refine LeO.bind ?_ (fun _ => ?_)
theorem spec_Elements.mono : ∀ a0 a1 k, LeO (spec_Elements.f k a0 a1) (spec_Elements.f (k + 1) a0 a1) := by
  intro a0 a1 k
  obtain ⟨ih0, ih1⟩ := spec_Elements.mono_l k
  unfold spec_Elements.f
  repeat' first
      | (with_reducible exact ih0 _ _ _ _ _)
      | (with_reducible exact ih1 _ _ _ _)
      | (with_reducible exact spec_one.mono _ _ _ _ _ _ _)
      | (with_reducible exact LeO.refl _)
      | (with_reducible exact LeO.none _)
      | (with_reducible refine LeO.ite ?_ ?_)
      | (with_reducible refine LeO.bind ?_ (fun _ => ?_))
      | exact ih0 _ _ _ _ _
      | exact ih1 _ _ _ _
      | exact spec_one.mono _ _ _ _ _ _ _
      | exact LeO.none _
      | refine LeO.ite ?_ ?_
      | refine LeO.bind ?_ (fun _ => ?_)
set_option maxHeartbeats 8000000 in
set_option maxRecDepth 100000 in
theorem spec_Elements.calls (k : Nat) (a0 : Int) (a1 : ByteArray) (r1 : List (S34)) (r2 : Bool) (r3 : Bool) (w : World) (h : spec_Elements.f k a0 a1 = some (r1, r2, r3)) :
    Calls Tryz.prog 4 #[.int .i64 a0, .string a1] w fun e w' => ∃ v0_ : Value, e = .returned (.tuple #[v0_, .bool r2, .bool r3]) ∧ Kd.R k34 34 w' w.heap.size (fun _ => True) v0_ r1 ∧ Below w.heap.size w w' := by
  have hu34 := Tryz.underlying34
  have HB := Aside0.mk (Below.refl w.heap.size w)
  have H : ((spec_Array.f a1 (⟨#[44]⟩ : ByteArray)).bind fun bt102 => (if bt102.2.2.2 = true then (if bt102.2.2.1 = true then (spec_Elements.j0 k a0 ([] : List (S34)) bt102.2.1 bt102.2.2.2 (decide ((bt102.1.length : Int) > 1))) else (spec_Elements.j0 k a0 ([] : List (S34)) bt102.2.1 bt102.2.2.2 true)) else (spec_Elements.j0 k a0 ([] : List (S34)) bt102.2.1 bt102.2.2.2 true))) = some (r1, r2, r3) := h
  clear h
  replace H := Option.bind_eq_some_iff.mp H
  obtain ⟨⟨t102, t103, t104, t105⟩, A30, H⟩ := H
  replace H : (if t105 = true then (if t104 = true then (spec_Elements.j0 k a0 ([] : List (S34)) t103 t105 (decide ((t102.length : Int) > 1))) else (spec_Elements.j0 k a0 ([] : List (S34)) t103 t105 true)) else (spec_Elements.j0 k a0 ([] : List (S34)) t103 t105 true)) = some (r1, r2, r3) := H
  have A3 := Aside0.mk A30
  clear A30
  have HC4 := Aside0.mk H
  clear H
  go_enter Tryz.func4, Tryz.ntmps4
  go_upto_region 2 with (first | ((with_reducible refine gate_callee (f := 7) rfl ?_); refine goesL_ (some 17) rfl rfl Tryz.func7 (by kernel_rfl) rfl #[.string a1, .string (⟨#[44]⟩ : ByteArray)] rfl (by (try simp only [List.map_toArray, List.map_cons, List.map_nil]); first | done | rfl | (simp only [List.length_drop, List.length_take]; rfl)) ?_; (with_reducible refine (spec_Array.calls a1 (⟨#[44]⟩ : ByteArray) t102 t103 t104 t105 _ A3.out).mono ?_); rintro e w5 ⟨v106, v108, rfl, ho0, ho1, hb⟩; refine ⟨_, rfl, ?_⟩; have n0_ := Aside0.mk (Kd.R_lower ho0 (below_size (by repeat (first | (with_reducible first | exact HB.out | apply below_alloc | apply pw_below_drewN | apply below_drew1) | exact HB.out)))); have n1_ := Aside0.mk (Kd.R_lower ho1 (below_size (by repeat (first | (with_reducible first | exact HB.out | apply below_alloc | apply pw_below_drewN | apply below_drew1) | exact HB.out)))); have n2_ := Aside0.mk (below_step (by repeat (first | (with_reducible first | exact HB.out | apply below_alloc | apply pw_below_drewN | apply below_drew1) | exact HB.out)) hb); clear HB; have HO107 := n0_; have HO109 := n1_; have HB := n2_; clear n0_ n1_ n2_; (try clear hb); (try clear hb2); (try clear hk); (try clear hi); (try clear ho0); (try clear ho1)))
  (try simp only [Act.put, List.setIfInBounds_toArray, List.set_cons_zero, List.set_cons_succ])
  go_cut [32] (fun v32 wc => ∃ (kq : Nat) (x32_3 : Bool), v32 = .bool x32_3 ∧ Aside0 (spec_Elements.j0 kq a0 ([] : List (S34)) t103 t105 x32_3 = some (r1, r2, r3)) ∧ Aside0 (kq ≤ k) ∧ Aside0 (Kd.R k34 34 wc w.heap.size (fun k_ => some k_ ≠ (v108 : Value).ownBlock) (.slice none 0 0) ([] : List (S34))) ∧ Aside0 (Kd.R k34 34 wc w.heap.size (fun k_ => some k_ ≠ ((.slice none 0 0) : Value).ownBlock) v108 t103) ∧ Aside0 (Below w.heap.size w wc))
  case first =>
    have H := HC4.out
    clear HC4
    by_cases c6 : t105 = true
    · subst c6
      have H1 : (if t104 = true then (spec_Elements.j0 k a0 ([] : List (S34)) t103 true (decide ((t102.length : Int) > 1))) else (spec_Elements.j0 k a0 ([] : List (S34)) t103 true true)) = some (r1, r2, r3) := by rw [if_pos rfl] at H; exact H
      clear H
      have H := H1
      clear H1
      by_cases c7 : t104 = true
      · subst c7
        have H1 : (spec_Elements.j0 k a0 ([] : List (S34)) t103 true (decide ((t102.length : Int) > 1))) = some (r1, r2, r3) := by rw [if_pos rfl] at H; exact H
        clear H
        have H := H1
        clear H1
        have H' := Aside0.mk H
        clear H
        obtain ⟨Ao8, co8, eo8⟩ := Kd.R_slice HO107.out
        subst eo8
        go_wp2
        go_meet
        case rel => exact ⟨_, (decide ((t102.length : Int) > 1)), (by first | rfl | (simp; done) | (simp [*]; done)), H', ⟨by first | omega | exact Nat.le_refl _⟩, ⟨by first | exact Kd.R_nil _ _ _ _ _ | exact Kd.N_nil _ _ _ _ _ | exact Kd.V_nil _ _ _ _ _ | exact Kd.Q_nil _ _ _ _ _ | exact Kd.S_nil _ _ _ _ _⟩, ⟨by (with_reducible repeat (first | apply Kd.R_alloc | apply Kd.R_drewN | apply Kd.R_drew)); exact Kd.R_mono HO109.out (fun _ hk => (by simp [Value.ownBlock]))⟩, ⟨by repeat (first | (with_reducible first | exact HB.out | apply below_alloc | apply pw_below_drewN | apply below_drew1) | exact HB.out)⟩⟩
      · replace c7 := Bool.eq_false_iff.mpr c7
        subst c7
        have H1 : (spec_Elements.j0 k a0 ([] : List (S34)) t103 true true) = some (r1, r2, r3) := by rw [if_neg (show ¬ (false = true) by decide)] at H; exact H
        clear H
        have H := H1
        clear H1
        have H' := Aside0.mk H
        clear H
        go_wp2
        go_meet
        case rel => exact ⟨_, (true), (by first | rfl | (simp; done) | (simp [*]; done)), H', ⟨by first | omega | exact Nat.le_refl _⟩, ⟨by first | exact Kd.R_nil _ _ _ _ _ | exact Kd.N_nil _ _ _ _ _ | exact Kd.V_nil _ _ _ _ _ | exact Kd.Q_nil _ _ _ _ _ | exact Kd.S_nil _ _ _ _ _⟩, ⟨by (with_reducible repeat (first | apply Kd.R_alloc | apply Kd.R_drewN | apply Kd.R_drew)); exact Kd.R_mono HO109.out (fun _ hk => (by simp [Value.ownBlock]))⟩, ⟨by repeat (first | (with_reducible first | exact HB.out | apply below_alloc | apply pw_below_drewN | apply below_drew1) | exact HB.out)⟩⟩
    · replace c6 := Bool.eq_false_iff.mpr c6
      subst c6
      have H1 : (spec_Elements.j0 k a0 ([] : List (S34)) t103 false true) = some (r1, r2, r3) := by rw [if_neg (show ¬ (false = true) by decide)] at H; exact H
      clear H
      have H := H1
      clear H1
      have H' := Aside0.mk H
      clear H
      go_wp2
      go_meet
      case rel => exact ⟨_, (true), (by first | rfl | (simp; done) | (simp [*]; done)), H', ⟨by first | omega | exact Nat.le_refl _⟩, ⟨by first | exact Kd.R_nil _ _ _ _ _ | exact Kd.N_nil _ _ _ _ _ | exact Kd.V_nil _ _ _ _ _ | exact Kd.Q_nil _ _ _ _ _ | exact Kd.S_nil _ _ _ _ _⟩, ⟨by (with_reducible repeat (first | apply Kd.R_alloc | apply Kd.R_drewN | apply Kd.R_drew)); exact Kd.R_mono HO109.out (fun _ hk => (by simp [Value.ownBlock]))⟩, ⟨by repeat (first | (with_reducible first | exact HB.out | apply below_alloc | apply pw_below_drewN | apply below_drew1) | exact HB.out)⟩⟩
  case rest =>
    clear HC4
    try clear p2
    try clear c4
    try clear c6
    try clear c7
    obtain ⟨kq, x32_3, rfl, HA, HJ3, HO_4, HO_8, HB⟩ := hcut
    cases kq with
    | zero => exact absurd HA.out (by simp [spec_Elements.j0])
    | succ kj3 =>
      have H := HA.out
      clear HA
      simp only [spec_Elements.j0] at H
      by_cases c9 : x32_3 = true
      · subst c9
        have H1 : (some (([] : List (S34)), false, t105)) = some (r1, r2, r3) := by rw [if_pos rfl] at H; exact H
        clear H
        have H := H1
        clear H1
        simp only [Option.some.injEq, Prod.mk.injEq] at H
        obtain ⟨rfl, rfl, rfl⟩ := H
        go_wp2
        go_ret3
        exact ⟨_, by first | rfl | (simp [errW_none, errW_some] <;> rfl) | (simp [*, errW_none, errW_some] <;> rfl), by first | exact Kd.R_nil _ _ _ _ _ | exact Kd.N_nil _ _ _ _ _ | exact Kd.V_nil _ _ _ _ _ | exact Kd.Q_nil _ _ _ _ _ | exact Kd.S_nil _ _ _ _ _, by repeat (first | (with_reducible first | exact HB.out | apply below_alloc | apply pw_below_drewN | apply below_drew1) | exact HB.out)⟩
      · replace c9 := Bool.eq_false_iff.mpr c9
        subst c9
        have H1 : (spec_Elements.l0 kj3 a0 ([] : List (S34)) t103 0) = some (r1, r2, r3) := by rw [if_neg (show ¬ (false = true) by decide)] at H; exact H
        clear H
        have H := H1
        clear H1
        have H' := Aside0.mk H
        clear H
        go_wp2
        go_loopg [4, 11] kj3 (fun kq v4 v11 w' => ∃ (x4_2 : List (S34)) (x11_2 : Int), v11 = .int .i64 x11_2 ∧ Aside0 (spec_Elements.l0 kq a0 x4_2 t103 x11_2 = some (r1, r2, r3)) ∧ Aside0 (kq ≤ kj3) ∧ Aside0 (Kd.R k34 34 w' w.heap.size (fun k_ => some k_ ≠ (v108 : Value).ownBlock) v4 x4_2) ∧ Aside0 (Kd.R k34 34 w' w.heap.size (fun k_ => some k_ ≠ (v4 : Value).ownBlock) v108 t103) ∧ Aside0 (Below w.heap.size w w'))
        case atStart => exact ⟨(([] : List (S34))), (0), (by first | rfl | (simp; done) | (simp [*]; done)), H', ⟨Nat.le_refl _⟩, ⟨by (with_reducible repeat (first | apply Kd.R_alloc | apply Kd.R_drewN | apply Kd.R_drew)); exact HO_4.out⟩, ⟨by (with_reducible repeat (first | apply Kd.R_alloc | apply Kd.R_drewN | apply Kd.R_drew)); exact HO_8.out⟩, ⟨by repeat (first | (with_reducible first | exact HB.out | apply below_alloc | apply pw_below_drewN | apply below_drew1) | exact HB.out)⟩⟩
        case round =>
          clear H'
          try clear p2
          try clear c4
          try clear c6
          try clear c7
          try clear c9
          try clear p2
          obtain ⟨x4_2, x11_2, rfl, HA, HK2, HO_4, HO_8, HB⟩ := hrel
          cases gk with
          | zero => exact absurd HA.out (by simp [spec_Elements.l0])
          | succ k2 =>
            have H := HA.out
            clear HA
            simp only [spec_Elements.l0] at H
            by_cases c10 : x11_2 < (t103.length : Int)
            · rw [if_pos c10] at H
              have c10b0 : decide (x11_2 < (t103.length : Int)) = true := decide_eq_true c10
              clear c10
              by_cases c11 : 0 ≤ x11_2
              · rw [if_pos c11] at H
                have c11b0 : decide (0 ≤ x11_2) = true := decide_eq_true c11
                clear c11
                replace H := Option.bind_eq_some_iff.mp H
                obtain ⟨⟨t111, t112, t113, t114, t115, t116, t117⟩, A120, H⟩ := H
                replace H : (if t117 = true then (if t116 = true then (if x4_2.length < 2932031007402 then (spec_Elements.l0 k2 a0 (x4_2 ++ [(⟨t111, t112, t113, t114, t115⟩ : S34)]) t103 (wrap64 (x11_2 + 1))) else (none)) else (some (([] : List (S34)), false, true))) else (some (([] : List (S34)), false, false))) = some (r1, r2, r3) := H
                have A12 := Aside0.mk A120
                clear A120
                by_cases c13 : t117 = true
                · subst c13
                  have H1 : (if t116 = true then (if x4_2.length < 2932031007402 then (spec_Elements.l0 k2 a0 (x4_2 ++ [(⟨t111, t112, t113, t114, t115⟩ : S34)]) t103 (wrap64 (x11_2 + 1))) else (none)) else (some (([] : List (S34)), false, true))) = some (r1, r2, r3) := by rw [if_pos rfl] at H; exact H
                  clear H
                  have H := H1
                  clear H1
                  by_cases c14 : t116 = true
                  · subst c14
                    have H1 : (if x4_2.length < 2932031007402 then (spec_Elements.l0 k2 a0 (x4_2 ++ [(⟨t111, t112, t113, t114, t115⟩ : S34)]) t103 (wrap64 (x11_2 + 1))) else (none)) = some (r1, r2, r3) := by rw [if_pos rfl] at H; exact H
                    clear H
                    have H := H1
                    clear H1
                    by_cases c15 : x4_2.length < 2932031007402
                    · rw [if_pos c15] at H
                      have LMc15 := Aside0.mk c15
                      clear c15
                      obtain ⟨y119, hy119⟩ : ∃ y_ : List (S34), y_ = (x4_2 ++ [(⟨t111, t112, t113, t114, t115⟩ : S34)]) := ⟨_, rfl⟩
                      replace H : (spec_Elements.l0 k2 a0 y119 t103 (wrap64 (x11_2 + 1))) = some (r1, r2, r3) := by first | (rw [hy119]; with_reducible exact H) | (have H2_ := (Option.bind_some _ _).symm.trans H; rw [hy119]; with_reducible exact H2_) | (have H2_ := (Option.bind_some _ _).symm.trans H; with_reducible exact H2_) | with_reducible exact H | (rw [hy119]; exact H) | exact H
                      have Ny119 := Aside0.mk hy119
                      clear hy119
                      have H' := Aside0.mk H
                      clear H
                      obtain ⟨Ao16, co16, eo16⟩ := Kd.R_slice HO_8.out
                      subst eo16
                      have p110 : 0 ≤ (x11_2 : Int) := of_decide_eq_true (by first | (with_reducible assumption) | assumption)
                      have q110 : x11_2 < (t103.length : Int) := of_decide_eq_true (by first | (with_reducible assumption) | assumption)
                      obtain ⟨ad110, e110, hx110_0, hx110_1, hx110_2, hx110_3, hx110_4⟩ := at_T34 (Kd.R_reads' HO_8.out).2.2 x11_2 p110 q110
                      cases e110
                      replace p110 := eq_true p110
                      replace q110 := eq_true q110
                      go_wp2_with (first | ((with_reducible refine gate_callee (f := 8) rfl ?_); refine goesL_ (some 46) rfl rfl Tryz.func8 (by kernel_rfl) rfl #[.int .i64 a0, .agg #[.bool ((rd_T34 t103 x11_2).f0), .string ((rd_T34 t103 x11_2).f1), .int .i64 ((rd_T34 t103 x11_2).f2), .float .f64 ((rd_T34 t103 x11_2).f3), .bool ((rd_T34 t103 x11_2).f4)]] rfl (by (try simp only [List.map_toArray, List.map_cons, List.map_nil]); first | done | rfl | (simp only [List.length_drop, List.length_take]; rfl)) ?_; (with_reducible refine (spec_one.calls k2 a0 ((rd_T34 t103 x11_2).f0) ((rd_T34 t103 x11_2).f1) ((rd_T34 t103 x11_2).f2) ((rd_T34 t103 x11_2).f3) ((rd_T34 t103 x11_2).f4) t111 t112 t113 t114 t115 true true _ A12.out).mono ?_); rintro e w17 ⟨rfl, hb⟩; refine ⟨_, rfl, ?_⟩; have n0_ := Aside0.mk (Kd.R_below (by (with_reducible repeat (first | apply Kd.R_alloc | apply Kd.R_drewN | apply Kd.R_drew)); exact HO_4.out) hb); have n1_ := Aside0.mk (Kd.R_below (by (with_reducible repeat (first | apply Kd.R_alloc | apply Kd.R_drewN | apply Kd.R_drew)); exact HO_8.out) hb); have n2_ := Aside0.mk (below_step (by repeat (first | (with_reducible first | exact HB.out | apply below_alloc | apply pw_below_drewN | apply below_drew1) | exact HB.out)) hb); clear HO_4; clear HO_8; clear HB; have HO_4 := n0_; have HO_8 := n1_; have HB := n2_; clear n0_ n1_ n2_; (try clear hb); (try clear hb2); (try clear hk); (try clear hi)) | ((with_reducible refine gate_dst (N := 12) rfl ?_); (try (refine gate_guard (by rfl) ?_; dsimp only)); refine box_event ?hg (N := 12) ?hd (cs := #[.bool false, .string (⟨#[]⟩ : ByteArray), .int .i64 0, .float .f64 0, .bool false]) (t := 34) ?hr ?_; (case hd => rfl); (case hg => rfl); (case hr => first | (go_simp; done) | (go_simp; rfl) | (go_simp; simp [IntKind.wrap_u8]; done)); intro gb118 hg w18 hbox hb; have n0_ := Aside0.mk (Kd.R_below (Kd.R_elderB (by (with_reducible repeat (first | apply Kd.R_alloc | apply Kd.R_drewN | apply Kd.R_drew)); exact HO_4.out) gb118 (Nat.le_of_eq hg.symm)) hb); have n1_ := Aside0.mk (Kd.R_below (Kd.R_elderB (by (with_reducible repeat (first | apply Kd.R_alloc | apply Kd.R_drewN | apply Kd.R_drew)); exact HO_8.out) gb118 (Nat.le_of_eq hg.symm)) hb); have n2_ := Aside0.mk (below_step (by repeat (first | (with_reducible first | exact HB.out | apply below_alloc | apply pw_below_drewN | apply below_drew1) | exact HB.out)) hb); have n3_ := Aside0.mk (hbox); have n4_ := Aside0.mk ((by rw [hg]; exact (below_size (by repeat (first | (with_reducible first | exact HB.out | apply below_alloc | apply pw_below_drewN | apply below_drew1) | exact HB.out))) : w.heap.size ≤ gb118)); have n5_ := Aside0.mk ((by rw [hg]; exact (below_size (by repeat (first | (with_reducible first | exact HB.out | apply below_alloc | apply pw_below_drewN | apply below_drew1) | exact HB.out))) : w.heap.size ≤ gb118)); clear HO_4; clear HO_8; clear HB; have HO_4 := n0_; have HO_8 := n1_; have HB := n2_; have BK118 := n3_; have GW118 := n4_; have GE118 := n5_; clear n0_ n1_ n2_ n3_ n4_ n5_; clear hb hbox hg; have hcz19_0 : w18.cell? ⟨gb118, 0, none⟩ = some (.bool false) := (blk_cell BK118.out 0).trans rfl; have hcz19_1 : w18.cell? ⟨gb118, 1, none⟩ = some (.string (⟨#[]⟩ : ByteArray)) := (blk_cell BK118.out 1).trans rfl; have hcz19_2 : w18.cell? ⟨gb118, 2, none⟩ = some (.int .i64 0) := (blk_cell BK118.out 2).trans rfl; have hcz19_3 : w18.cell? ⟨gb118, 3, none⟩ = some (.float .f64 0) := (blk_cell BK118.out 3).trans rfl; have hcz19_4 : w18.cell? ⟨gb118, 4, none⟩ = some (.bool false) := (blk_cell BK118.out 4).trans rfl; have hfz19_0 := blk_frozen BK118.out 0; have hfz19_1 := blk_frozen BK118.out 1; have hfz19_2 := blk_frozen BK118.out 2; have hfz19_3 := blk_frozen BK118.out 3; have hfz19_4 := blk_frozen BK118.out 4) | ((with_reducible refine gate_builtin (b := .append) (xs := #[.tmp 54, .tmp 56]) rfl ?_); (try (refine gate_guard (by rfl) ?_; dsimp only)); at_builtin; refine Kd.R_append k34 (w0 := w) w.heap.size rfl (.tmp 54) (.tmp 56) 22 34 (.agg #[(.bool false), (.string ⟨#[]⟩), (.int .i64 0), (.float .f64 0), (.bool false)]) 48 rfl Tryz.underlying22 info34 rfl (by decide) (by omega) u4 x4_2 (⟨t111, t112, t113, t114, t115⟩ : S34) [.bool t111, .string t112, .int .i64 t113, .float .f64 t114, .bool t115] (fun k_ => some k_ ≠ (.slice (some ad110) t103.length co16 : Value).ownBlock ∧ k_ ≠ gb118) (fun _ => False) rfl (by first | (go_simp; done) | (go_simp; rfl)) ?aP (fun _ hk => hk.elim) ?aF ?aO ?aB ?aS ?aL ?_; (case aP => exact k34_mkM _ _ _ (⟨t111, t112, t113, t114, t115⟩ : S34)); (case aB => exact (by repeat (first | (with_reducible first | exact HB.out | apply below_alloc | apply pw_below_drewN | apply below_drew1 | refine below_set ?_ GE118.out) | exact HB.out))); (case aF => exact (fun k_ hk => ⟨Kd.fresh' (Kd.R_lt (by (with_reducible repeat (first | apply Kd.R_alloc | apply Kd.R_drewN | apply Kd.R_drew)); exact (Kd.R_mono (Kd.R_far (p := ⟨gb118, 4, none⟩) (Kd.R_far (p := ⟨gb118, 3, none⟩) (Kd.R_far (p := ⟨gb118, 2, none⟩) (Kd.R_far (p := ⟨gb118, 1, none⟩) (Kd.R_far (p := ⟨gb118, 0, none⟩) (Kd.R_mono HO_8.out (fun k_ hk => (⟨hk, hk.2⟩ : _ ∧ k_ ≠ gb118))) (fun _ hk => hk.2) (.bool t111)) (fun _ hk => hk.2) (.string t112)) (fun _ hk => hk.2) (.int .i64 t113)) (fun _ hk => hk.2) (.float .f64 t114)) (fun _ hk => hk.2) (.bool t115)) (fun _ h_ => h_.1)))) k_ hk, Kd.freshB (g := gb118) (o := .cells #[.bool t111, .string t112, .int .i64 t113, .float .f64 t114, .bool t115] 34 (0, 0)) (by (with_reducible repeat (first | refine blk_drewN ?_ _ | refine blk_drew ?_ | refine blk_alloc ?_ _)); refine blk_put (cs := #[.bool t111, .string t112, .int .i64 t113, .float .f64 t114, .bool false]) ?_ 4 _ rfl; (with_reducible repeat (first | refine blk_drewN ?_ _ | refine blk_drew ?_ | refine blk_alloc ?_ _)); refine blk_put (cs := #[.bool t111, .string t112, .int .i64 t113, .float .f64 0, .bool false]) ?_ 3 _ rfl; (with_reducible repeat (first | refine blk_drewN ?_ _ | refine blk_drew ?_ | refine blk_alloc ?_ _)); refine blk_put (cs := #[.bool t111, .string t112, .int .i64 0, .float .f64 0, .bool false]) ?_ 2 _ rfl; (with_reducible repeat (first | refine blk_drewN ?_ _ | refine blk_drew ?_ | refine blk_alloc ?_ _)); refine blk_put (cs := #[.bool t111, .string (⟨#[]⟩ : ByteArray), .int .i64 0, .float .f64 0, .bool false]) ?_ 1 _ rfl; (with_reducible repeat (first | refine blk_drewN ?_ _ | refine blk_drew ?_ | refine blk_alloc ?_ _)); refine blk_put (cs := #[.bool false, .string (⟨#[]⟩ : ByteArray), .int .i64 0, .float .f64 0, .bool false]) ?_ 0 _ rfl; (with_reducible repeat (first | refine blk_drewN ?_ _ | refine blk_drew ?_ | refine blk_alloc ?_ _)); exact BK118.out) k_ hk⟩)); (case aO => exact (by (with_reducible repeat (first | apply Kd.R_alloc | apply Kd.R_drewN | apply Kd.R_drew)); exact Kd.R_mono (Kd.R_far (p := ⟨gb118, 4, none⟩) (Kd.R_far (p := ⟨gb118, 3, none⟩) (Kd.R_far (p := ⟨gb118, 2, none⟩) (Kd.R_far (p := ⟨gb118, 1, none⟩) (Kd.R_far (p := ⟨gb118, 0, none⟩) (Kd.R_mono HO_4.out (fun k_ hk => (⟨hk, hk.2⟩ : _ ∧ k_ ≠ gb118))) (fun _ hk => hk.2) (.bool t111)) (fun _ hk => hk.2) (.string t112)) (fun _ hk => hk.2) (.int .i64 t113)) (fun _ hk => hk.2) (.float .f64 t114)) (fun _ hk => hk.2) (.bool t115)) (fun _ hk => ⟨hk.1.1, hk.1.2⟩))); (case aS => exact (below_size (by repeat (first | (with_reducible first | exact HB.out | apply below_alloc | apply pw_below_drewN | apply below_drew1 | refine below_set ?_ GE118.out) | exact HB.out)))); (case aL => have := LMc15.out; omega); intro v120 w20 ho hb hg hat; rw [← Ny119.out] at ho; have n0_ := Aside0.mk (Kd.R_after (ok := (fun k_ => k_ ≠ gb118)) (by (with_reducible repeat (first | apply Kd.R_alloc | apply Kd.R_drewN | apply Kd.R_drew)); exact Kd.R_mono (Kd.R_far (p := ⟨gb118, 4, none⟩) (Kd.R_far (p := ⟨gb118, 3, none⟩) (Kd.R_far (p := ⟨gb118, 2, none⟩) (Kd.R_far (p := ⟨gb118, 1, none⟩) (Kd.R_far (p := ⟨gb118, 0, none⟩) (Kd.R_mono HO_8.out (fun k_ hk => (⟨hk, hk.2⟩ : _ ∧ k_ ≠ gb118))) (fun _ hk => hk.2) (.bool t111)) (fun _ hk => hk.2) (.string t112)) (fun _ hk => hk.2) (.int .i64 t113)) (fun _ hk => hk.2) (.float .f64 t114)) (fun _ hk => hk.2) (.bool t115)) (fun _ hk => ⟨hk.1.2, hk.1.1⟩)) hg hat); have n1_ := Aside0.mk (blk_grown (g := gb118) (o := .cells #[.bool t111, .string t112, .int .i64 t113, .float .f64 t114, .bool t115] 34 (0, 0)) (by (with_reducible repeat (first | refine blk_drewN ?_ _ | refine blk_drew ?_ | refine blk_alloc ?_ _)); refine blk_put (cs := #[.bool t111, .string t112, .int .i64 t113, .float .f64 t114, .bool false]) ?_ 4 _ rfl; (with_reducible repeat (first | refine blk_drewN ?_ _ | refine blk_drew ?_ | refine blk_alloc ?_ _)); refine blk_put (cs := #[.bool t111, .string t112, .int .i64 t113, .float .f64 0, .bool false]) ?_ 3 _ rfl; (with_reducible repeat (first | refine blk_drewN ?_ _ | refine blk_drew ?_ | refine blk_alloc ?_ _)); refine blk_put (cs := #[.bool t111, .string t112, .int .i64 0, .float .f64 0, .bool false]) ?_ 2 _ rfl; (with_reducible repeat (first | refine blk_drewN ?_ _ | refine blk_drew ?_ | refine blk_alloc ?_ _)); refine blk_put (cs := #[.bool t111, .string (⟨#[]⟩ : ByteArray), .int .i64 0, .float .f64 0, .bool false]) ?_ 1 _ rfl; (with_reducible repeat (first | refine blk_drewN ?_ _ | refine blk_drew ?_ | refine blk_alloc ?_ _)); refine blk_put (cs := #[.bool false, .string (⟨#[]⟩ : ByteArray), .int .i64 0, .float .f64 0, .bool false]) ?_ 0 _ rfl; (with_reducible repeat (first | refine blk_drewN ?_ _ | refine blk_drew ?_ | refine blk_alloc ?_ _)); exact BK118.out) hg (Kd.R_away HO_4.out (fun _ hk => hk.2))); have n2_ := Aside0.mk (hb); have n3_ := Aside0.mk (ho); clear HO_8; clear BK118; clear HB; clear HO_4; have HO_8 := n0_; have BK118 := n1_; have HB := n2_; have HO121 := n3_; clear n0_ n1_ n2_ n3_; clear ho hb hg hat))
                      go_roundg k2
                      case measure => have := HJ3.out; have := HK2.out; omega
                      case rel => exact ⟨(y119), (wrap64 (x11_2 + 1)), (by first | rfl | (simp; done) | (simp [*]; done)), H', ⟨by have := HJ3.out; have := HK2.out; omega⟩, ⟨by (with_reducible repeat (first | apply Kd.R_alloc | apply Kd.R_drewN | apply Kd.R_drew)); exact Kd.R_mono HO121.out (fun _ hk => hk.1)⟩, ⟨by (with_reducible repeat (first | apply Kd.R_alloc | apply Kd.R_drewN | apply Kd.R_drew)); exact Kd.R_mono HO_8.out (fun _ hk => hk.2)⟩, ⟨by repeat (first | (with_reducible first | exact HB.out | apply below_alloc | apply pw_below_drewN | apply below_drew1 | refine below_set ?_ GE118.out) | exact HB.out)⟩⟩
                    · rw [if_neg c15] at H
                      exact absurd H (by simp)
                  · replace c14 := Bool.eq_false_iff.mpr c14
                    subst c14
                    have H1 : (some (([] : List (S34)), false, true)) = some (r1, r2, r3) := by rw [if_neg (show ¬ (false = true) by decide)] at H; exact H
                    clear H
                    have H := H1
                    clear H1
                    simp only [Option.some.injEq, Prod.mk.injEq] at H
                    obtain ⟨rfl, rfl, rfl⟩ := H
                    obtain ⟨Ao21, co21, eo21⟩ := Kd.R_slice HO_8.out
                    subst eo21
                    have p110 : 0 ≤ (x11_2 : Int) := of_decide_eq_true (by first | (with_reducible assumption) | assumption)
                    have q110 : x11_2 < (t103.length : Int) := of_decide_eq_true (by first | (with_reducible assumption) | assumption)
                    obtain ⟨ad110, e110, hx110_0, hx110_1, hx110_2, hx110_3, hx110_4⟩ := at_T34 (Kd.R_reads' HO_8.out).2.2 x11_2 p110 q110
                    cases e110
                    replace p110 := eq_true p110
                    replace q110 := eq_true q110
                    go_wp2_with (first | ((with_reducible refine gate_callee (f := 8) rfl ?_); refine goesL_ (some 46) rfl rfl Tryz.func8 (by kernel_rfl) rfl #[.int .i64 a0, .agg #[.bool ((rd_T34 t103 x11_2).f0), .string ((rd_T34 t103 x11_2).f1), .int .i64 ((rd_T34 t103 x11_2).f2), .float .f64 ((rd_T34 t103 x11_2).f3), .bool ((rd_T34 t103 x11_2).f4)]] rfl (by (try simp only [List.map_toArray, List.map_cons, List.map_nil]); first | done | rfl | (simp only [List.length_drop, List.length_take]; rfl)) ?_; (with_reducible refine (spec_one.calls k2 a0 ((rd_T34 t103 x11_2).f0) ((rd_T34 t103 x11_2).f1) ((rd_T34 t103 x11_2).f2) ((rd_T34 t103 x11_2).f3) ((rd_T34 t103 x11_2).f4) t111 t112 t113 t114 t115 false true _ A12.out).mono ?_); rintro e w22 ⟨rfl, hb⟩; refine ⟨_, rfl, ?_⟩; have n0_ := Aside0.mk (Kd.R_below (by (with_reducible repeat (first | apply Kd.R_alloc | apply Kd.R_drewN | apply Kd.R_drew)); exact HO_4.out) hb); have n1_ := Aside0.mk (Kd.R_below (by (with_reducible repeat (first | apply Kd.R_alloc | apply Kd.R_drewN | apply Kd.R_drew)); exact HO_8.out) hb); have n2_ := Aside0.mk (below_step (by repeat (first | (with_reducible first | exact HB.out | apply below_alloc | apply pw_below_drewN | apply below_drew1) | exact HB.out)) hb); clear HO_4; clear HO_8; clear HB; have HO_4 := n0_; have HO_8 := n1_; have HB := n2_; clear n0_ n1_ n2_; (try clear hb); (try clear hb2); (try clear hk); (try clear hi)) | ((with_reducible refine gate_dst (N := 12) rfl ?_); (try (refine gate_guard (by rfl) ?_; dsimp only)); refine box_event ?hg (N := 12) ?hd (cs := #[.bool false, .string (⟨#[]⟩ : ByteArray), .int .i64 0, .float .f64 0, .bool false]) (t := 34) ?hr ?_; (case hd => rfl); (case hg => rfl); (case hr => first | (go_simp; done) | (go_simp; rfl) | (go_simp; simp [IntKind.wrap_u8]; done)); intro gb118 hg w23 hbox hb; have n0_ := Aside0.mk (Kd.R_below (Kd.R_elderB (by (with_reducible repeat (first | apply Kd.R_alloc | apply Kd.R_drewN | apply Kd.R_drew)); exact HO_4.out) gb118 (Nat.le_of_eq hg.symm)) hb); have n1_ := Aside0.mk (Kd.R_below (Kd.R_elderB (by (with_reducible repeat (first | apply Kd.R_alloc | apply Kd.R_drewN | apply Kd.R_drew)); exact HO_8.out) gb118 (Nat.le_of_eq hg.symm)) hb); have n2_ := Aside0.mk (below_step (by repeat (first | (with_reducible first | exact HB.out | apply below_alloc | apply pw_below_drewN | apply below_drew1) | exact HB.out)) hb); have n3_ := Aside0.mk (hbox); have n4_ := Aside0.mk ((by rw [hg]; exact (below_size (by repeat (first | (with_reducible first | exact HB.out | apply below_alloc | apply pw_below_drewN | apply below_drew1) | exact HB.out))) : w.heap.size ≤ gb118)); have n5_ := Aside0.mk ((by rw [hg]; exact (below_size (by repeat (first | (with_reducible first | exact HB.out | apply below_alloc | apply pw_below_drewN | apply below_drew1) | exact HB.out))) : w.heap.size ≤ gb118)); clear HO_4; clear HO_8; clear HB; have HO_4 := n0_; have HO_8 := n1_; have HB := n2_; have BK118 := n3_; have GW118 := n4_; have GE118 := n5_; clear n0_ n1_ n2_ n3_ n4_ n5_; clear hb hbox hg; have hcz24_0 : w23.cell? ⟨gb118, 0, none⟩ = some (.bool false) := (blk_cell BK118.out 0).trans rfl; have hcz24_1 : w23.cell? ⟨gb118, 1, none⟩ = some (.string (⟨#[]⟩ : ByteArray)) := (blk_cell BK118.out 1).trans rfl; have hcz24_2 : w23.cell? ⟨gb118, 2, none⟩ = some (.int .i64 0) := (blk_cell BK118.out 2).trans rfl; have hcz24_3 : w23.cell? ⟨gb118, 3, none⟩ = some (.float .f64 0) := (blk_cell BK118.out 3).trans rfl; have hcz24_4 : w23.cell? ⟨gb118, 4, none⟩ = some (.bool false) := (blk_cell BK118.out 4).trans rfl; have hfz24_0 := blk_frozen BK118.out 0; have hfz24_1 := blk_frozen BK118.out 1; have hfz24_2 := blk_frozen BK118.out 2; have hfz24_3 := blk_frozen BK118.out 3; have hfz24_4 := blk_frozen BK118.out 4))
                    go_ret3
                    exact ⟨_, by first | rfl | (simp [errW_none, errW_some] <;> rfl) | (simp [*, errW_none, errW_some] <;> rfl), by first | exact Kd.R_nil _ _ _ _ _ | exact Kd.N_nil _ _ _ _ _ | exact Kd.V_nil _ _ _ _ _ | exact Kd.Q_nil _ _ _ _ _ | exact Kd.S_nil _ _ _ _ _, by repeat (first | (with_reducible first | exact HB.out | apply below_alloc | apply pw_below_drewN | apply below_drew1 | refine below_set ?_ GE118.out) | exact HB.out)⟩
                · replace c13 := Bool.eq_false_iff.mpr c13
                  subst c13
                  have H1 : (some (([] : List (S34)), false, false)) = some (r1, r2, r3) := by rw [if_neg (show ¬ (false = true) by decide)] at H; exact H
                  clear H
                  have H := H1
                  clear H1
                  simp only [Option.some.injEq, Prod.mk.injEq] at H
                  obtain ⟨rfl, rfl, rfl⟩ := H
                  obtain ⟨Ao25, co25, eo25⟩ := Kd.R_slice HO_8.out
                  subst eo25
                  have p110 : 0 ≤ (x11_2 : Int) := of_decide_eq_true (by first | (with_reducible assumption) | assumption)
                  have q110 : x11_2 < (t103.length : Int) := of_decide_eq_true (by first | (with_reducible assumption) | assumption)
                  obtain ⟨ad110, e110, hx110_0, hx110_1, hx110_2, hx110_3, hx110_4⟩ := at_T34 (Kd.R_reads' HO_8.out).2.2 x11_2 p110 q110
                  cases e110
                  replace p110 := eq_true p110
                  replace q110 := eq_true q110
                  go_wp2_with (first | ((with_reducible refine gate_callee (f := 8) rfl ?_); refine goesL_ (some 46) rfl rfl Tryz.func8 (by kernel_rfl) rfl #[.int .i64 a0, .agg #[.bool ((rd_T34 t103 x11_2).f0), .string ((rd_T34 t103 x11_2).f1), .int .i64 ((rd_T34 t103 x11_2).f2), .float .f64 ((rd_T34 t103 x11_2).f3), .bool ((rd_T34 t103 x11_2).f4)]] rfl (by (try simp only [List.map_toArray, List.map_cons, List.map_nil]); first | done | rfl | (simp only [List.length_drop, List.length_take]; rfl)) ?_; (with_reducible refine (spec_one.calls k2 a0 ((rd_T34 t103 x11_2).f0) ((rd_T34 t103 x11_2).f1) ((rd_T34 t103 x11_2).f2) ((rd_T34 t103 x11_2).f3) ((rd_T34 t103 x11_2).f4) t111 t112 t113 t114 t115 t116 false _ A12.out).mono ?_); rintro e w26 ⟨rfl, hb⟩; refine ⟨_, rfl, ?_⟩; have n0_ := Aside0.mk (Kd.R_below (by (with_reducible repeat (first | apply Kd.R_alloc | apply Kd.R_drewN | apply Kd.R_drew)); exact HO_4.out) hb); have n1_ := Aside0.mk (Kd.R_below (by (with_reducible repeat (first | apply Kd.R_alloc | apply Kd.R_drewN | apply Kd.R_drew)); exact HO_8.out) hb); have n2_ := Aside0.mk (below_step (by repeat (first | (with_reducible first | exact HB.out | apply below_alloc | apply pw_below_drewN | apply below_drew1) | exact HB.out)) hb); clear HO_4; clear HO_8; clear HB; have HO_4 := n0_; have HO_8 := n1_; have HB := n2_; clear n0_ n1_ n2_; (try clear hb); (try clear hb2); (try clear hk); (try clear hi)) | ((with_reducible refine gate_dst (N := 12) rfl ?_); (try (refine gate_guard (by rfl) ?_; dsimp only)); refine box_event ?hg (N := 12) ?hd (cs := #[.bool false, .string (⟨#[]⟩ : ByteArray), .int .i64 0, .float .f64 0, .bool false]) (t := 34) ?hr ?_; (case hd => rfl); (case hg => rfl); (case hr => first | (go_simp; done) | (go_simp; rfl) | (go_simp; simp [IntKind.wrap_u8]; done)); intro gb118 hg w27 hbox hb; have n0_ := Aside0.mk (Kd.R_below (Kd.R_elderB (by (with_reducible repeat (first | apply Kd.R_alloc | apply Kd.R_drewN | apply Kd.R_drew)); exact HO_4.out) gb118 (Nat.le_of_eq hg.symm)) hb); have n1_ := Aside0.mk (Kd.R_below (Kd.R_elderB (by (with_reducible repeat (first | apply Kd.R_alloc | apply Kd.R_drewN | apply Kd.R_drew)); exact HO_8.out) gb118 (Nat.le_of_eq hg.symm)) hb); have n2_ := Aside0.mk (below_step (by repeat (first | (with_reducible first | exact HB.out | apply below_alloc | apply pw_below_drewN | apply below_drew1) | exact HB.out)) hb); have n3_ := Aside0.mk (hbox); have n4_ := Aside0.mk ((by rw [hg]; exact (below_size (by repeat (first | (with_reducible first | exact HB.out | apply below_alloc | apply pw_below_drewN | apply below_drew1) | exact HB.out))) : w.heap.size ≤ gb118)); have n5_ := Aside0.mk ((by rw [hg]; exact (below_size (by repeat (first | (with_reducible first | exact HB.out | apply below_alloc | apply pw_below_drewN | apply below_drew1) | exact HB.out))) : w.heap.size ≤ gb118)); clear HO_4; clear HO_8; clear HB; have HO_4 := n0_; have HO_8 := n1_; have HB := n2_; have BK118 := n3_; have GW118 := n4_; have GE118 := n5_; clear n0_ n1_ n2_ n3_ n4_ n5_; clear hb hbox hg; have hcz28_0 : w27.cell? ⟨gb118, 0, none⟩ = some (.bool false) := (blk_cell BK118.out 0).trans rfl; have hcz28_1 : w27.cell? ⟨gb118, 1, none⟩ = some (.string (⟨#[]⟩ : ByteArray)) := (blk_cell BK118.out 1).trans rfl; have hcz28_2 : w27.cell? ⟨gb118, 2, none⟩ = some (.int .i64 0) := (blk_cell BK118.out 2).trans rfl; have hcz28_3 : w27.cell? ⟨gb118, 3, none⟩ = some (.float .f64 0) := (blk_cell BK118.out 3).trans rfl; have hcz28_4 : w27.cell? ⟨gb118, 4, none⟩ = some (.bool false) := (blk_cell BK118.out 4).trans rfl; have hfz28_0 := blk_frozen BK118.out 0; have hfz28_1 := blk_frozen BK118.out 1; have hfz28_2 := blk_frozen BK118.out 2; have hfz28_3 := blk_frozen BK118.out 3; have hfz28_4 := blk_frozen BK118.out 4))
                  go_ret3
                  exact ⟨_, by first | rfl | (simp [errW_none, errW_some] <;> rfl) | (simp [*, errW_none, errW_some] <;> rfl), by first | exact Kd.R_nil _ _ _ _ _ | exact Kd.N_nil _ _ _ _ _ | exact Kd.V_nil _ _ _ _ _ | exact Kd.Q_nil _ _ _ _ _ | exact Kd.S_nil _ _ _ _ _, by repeat (first | (with_reducible first | exact HB.out | apply below_alloc | apply pw_below_drewN | apply below_drew1 | refine below_set ?_ GE118.out) | exact HB.out)⟩
              · rw [if_neg c11] at H
                exact absurd H (by simp)
            · rw [if_neg c10] at H
              have c10b0 : decide (x11_2 < (t103.length : Int)) = false := decide_eq_false c10
              clear c10
              simp only [Option.some.injEq, Prod.mk.injEq] at H
              obtain ⟨rfl, rfl, rfl⟩ := H
              obtain ⟨Ao29, co29, eo29⟩ := Kd.R_slice HO_8.out
              subst eo29
              go_wp2
              go_ret3
              exact ⟨_, by first | rfl | (simp [errW_none, errW_some] <;> rfl) | (simp [*, errW_none, errW_some] <;> rfl), by (with_reducible repeat (first | apply Kd.R_alloc | apply Kd.R_drewN | apply Kd.R_drew)); exact Kd.R_mono HO_4.out (fun _ hk => trivial), by repeat (first | (with_reducible first | exact HB.out | apply below_alloc | apply pw_below_drewN | apply below_drew1) | exact HB.out)⟩

end Go.Proofs.YtcdcoogjhkchlaaGreatDoor.P
