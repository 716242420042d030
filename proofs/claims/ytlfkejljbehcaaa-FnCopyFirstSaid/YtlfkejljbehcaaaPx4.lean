-- Written by the program wip/myprint.py of this session, over the kit's print of the translation. Lean checks it.
import Derived.Test.YtlfkejljbehcaaaPx0
import Derived.Test.YtlfkejljbehcaaaPx3
namespace Go.Proofs.Ytlfkejljbehcaaa.P
open Go.RowKit Go.Proofs.YtlfkejljbehcaaaW.PrintWords Go.Proofs.YtlfkejljbehcaaaW.PrintLast Go.Proofs.YtlfkejljbehcaaaW.PrintMore
attribute [local go_sem] max2_int min2_int max_two min_two max_three min_three max_four min_four   -- for this text's walks alone
set_option linter.unusedVariables false
set_option linter.unusedSimpArgs false

/-! ### spec_CopyFirst: function 16 -/
mutual
def spec_CopyFirst.l0 : Nat → ByteArray → Bool → Int → Int → Option (Bool × Bool)
  | 0, _, _, _, _ => none
  | k + 1, x0, x3, x4, x5 => if x5 < 4 then (if 0 ≤ (wrap64 (x4 + x5)) then (if (wrap64 (x4 + x5)) < (x0.size : Int) then (if (bt x0 (wrap64 (x4 + x5))) ≥ 97 then (spec_CopyFirst.j1 k x0 x3 x4 x5 (bt x0 (wrap64 (x4 + x5))) (decide ((bt x0 (wrap64 (x4 + x5))) ≤ 122))) else (spec_CopyFirst.j1 k x0 x3 x4 x5 (bt x0 (wrap64 (x4 + x5))) false)) else (none)) else (none)) else (some (true, x3))
def spec_CopyFirst.j1 : Nat → ByteArray → Bool → Int → Int → Int → Bool → Option (Bool × Bool)
  | 0, _, _, _, _, _, _ => none
  | k + 1, x0, x3, x4, x5, x6, x33 => if x33 = true then (if 0 ≤ x5 then (if x5 < 4 then (if ((x6 - 32) % 256) = (bt (⟨#[67, 79, 80, 89]⟩ : ByteArray) x5) then (spec_CopyFirst.l0 k x0 x3 x4 (wrap64 (x5 + 1))) else (if ((x6 - 32) % 256) ≥ 65 then (if x3 = true then (if ((x6 - 32) % 256) ≤ 90 then (some (false, true)) else (if ((x6 - 32) % 256) ≥ 32 then (some (false, decide (((x6 - 32) % 256) < 64))) else (some (false, false)))) else (some (false, false))) else (if x3 = true then (if ((x6 - 32) % 256) ≥ 32 then (some (false, decide (((x6 - 32) % 256) < 64))) else (some (false, false))) else (some (false, false))))) else (none)) else (none)) else (if 0 ≤ x5 then (if x5 < 4 then (if x6 = (bt (⟨#[67, 79, 80, 89]⟩ : ByteArray) x5) then (spec_CopyFirst.l0 k x0 x3 x4 (wrap64 (x5 + 1))) else (if x6 ≥ 65 then (if x3 = true then (if x6 ≤ 90 then (some (false, true)) else (if x6 ≥ 32 then (some (false, decide (x6 < 64))) else (some (false, false)))) else (some (false, false))) else (if x3 = true then (if x6 ≥ 32 then (some (false, decide (x6 < 64))) else (some (false, false))) else (some (false, false))))) else (none)) else (none))
end
def spec_CopyFirst.f (k : Nat) (a0 : ByteArray) : Option (Bool × Bool) := (spec_passed.f k a0).bind fun bt189 => (if (wrap64 (bt189.1 + 4)) > (a0.size : Int) then (some (false, bt189.2)) else (spec_CopyFirst.l0 k a0 bt189.2 bt189.1 0))
theorem spec_CopyFirst.mono_l : ∀ k, (∀ y0 y1 y2 y3, LeO (spec_CopyFirst.l0 k y0 y1 y2 y3) (spec_CopyFirst.l0 (k + 1) y0 y1 y2 y3)) ∧ (∀ y0 y1 y2 y3 y4 y5, LeO (spec_CopyFirst.j1 k y0 y1 y2 y3 y4 y5) (spec_CopyFirst.j1 (k + 1) y0 y1 y2 y3 y4 y5))
  | 0 => ⟨fun _ _ _ _ r h => by simp [spec_CopyFirst.l0] at h, fun _ _ _ _ _ _ r h => by simp [spec_CopyFirst.j1] at h⟩
  | k + 1 => by
    obtain ⟨ih0, ih1⟩ := spec_CopyFirst.mono_l k
    refine ⟨?_, ?_⟩
    · intro y0 y1 y2 y3
      unfold spec_CopyFirst.l0
      repeat' first
      | (with_reducible exact ih0 _ _ _ _)
      | (with_reducible exact ih1 _ _ _ _ _ _)
      | (with_reducible exact spec_passed.mono _ _)
      | (with_reducible exact LeO.refl _)
      | (with_reducible exact LeO.none _)
      | (with_reducible refine LeO.ite ?_ ?_)
      | (with_reducible refine LeO.bind ?_ (fun _ => ?_))
      | exact ih0 _ _ _ _
      | exact ih1 _ _ _ _ _ _
      | exact spec_passed.mono _ _
      | exact LeO.none _
      | refine LeO.ite ?_ ?_
      | refine LeO.bind ?_ (fun _ => ?_)
    · intro y0 y1 y2 y3 y4 y5
      unfold spec_CopyFirst.j1
      repeat' first
      | (with_reducible exact ih0 _ _ _ _)
      | (with_reducible exact ih1 _ _ _ _ _ _)
      | (with_reducible exact spec_passed.mono _ _)
      | (with_reducible exact LeO.refl _)
      | (with_reducible exact LeO.none _)
      | (with_reducible refine LeO.ite ?_ ?_)
      | (with_reducible refine LeO.bind ?_ (fun _ => ?_))
      | exact ih0 _ _ _ _
      | exact ih1 _ _ _ _ _ _
      | exact spec_passed.mono _ _
      | exact LeO.none _
      | refine LeO.ite ?_ ?_
      | refine LeO.bind ?_ (fun _ => ?_)
theorem spec_CopyFirst.mono : ∀ a0 k, LeO (spec_CopyFirst.f k a0) (spec_CopyFirst.f (k + 1) a0) := by
  intro a0 k
  obtain ⟨ih0, ih1⟩ := spec_CopyFirst.mono_l k
  unfold spec_CopyFirst.f
  repeat' first
      | (with_reducible exact ih0 _ _ _ _)
      | (with_reducible exact ih1 _ _ _ _ _ _)
      | (with_reducible exact spec_passed.mono _ _)
      | (with_reducible exact LeO.refl _)
      | (with_reducible exact LeO.none _)
      | (with_reducible refine LeO.ite ?_ ?_)
      | (with_reducible refine LeO.bind ?_ (fun _ => ?_))
      | exact ih0 _ _ _ _
      | exact ih1 _ _ _ _ _ _
      | exact spec_passed.mono _ _
      | exact LeO.none _
      | refine LeO.ite ?_ ?_
      | refine LeO.bind ?_ (fun _ => ?_)
set_option maxHeartbeats 8000000 in
set_option maxRecDepth 100000 in
theorem spec_CopyFirst.calls (k : Nat) (a0 : ByteArray) (r1 : Bool) (r2 : Bool) (w : World) (h : spec_CopyFirst.f k a0 = some (r1, r2)) :
    Calls Try.prog 16 #[.string a0] w fun e w' => e = .returned (.tuple #[.bool r1, .bool r2]) ∧ Below w.heap.size w w' := by
  have HB := Aside0.mk (Below.refl w.heap.size w)
  have H : ((spec_passed.f k a0).bind fun bt189 => (if (wrap64 (bt189.1 + 4)) > (a0.size : Int) then (some (false, bt189.2)) else (spec_CopyFirst.l0 k a0 bt189.2 bt189.1 0))) = some (r1, r2) := h
  clear h
  replace H := Option.bind_eq_some_iff.mp H
  obtain ⟨⟨t189, t190⟩, A20, H⟩ := H
  replace H : (if (wrap64 (t189 + 4)) > (a0.size : Int) then (some (false, t190)) else (spec_CopyFirst.l0 k a0 t190 t189 0)) = some (r1, r2) := H
  have A2 := Aside0.mk A20
  clear A20
  by_cases c3 : (wrap64 (t189 + 4)) > (a0.size : Int)
  · rw [if_pos c3] at H
    have c3b0 : decide ((a0.size : Int) < (wrap64 (t189 + 4))) = true := decide_eq_true c3
    clear c3
    simp only [Option.some.injEq, Prod.mk.injEq] at H
    obtain ⟨rfl, rfl⟩ := H
    go_enter Try.func16, Try.ntmps16
    go_wp2_with (first | ((with_reducible refine gate_callee (f := 26) rfl ?_); refine goesL_ (some 10) rfl rfl Try.func26 (by kernel_rfl) rfl #[.string a0] rfl (by (try simp only [List.map_toArray, List.map_cons, List.map_nil]); first | done | rfl | (simp only [List.length_drop, List.length_take]; rfl)) ?_; (with_reducible refine (spec_passed.calls k a0 t189 t190 _ A2.out).mono ?_); rintro e w4 ⟨rfl, hb⟩; refine ⟨_, rfl, ?_⟩; have n0_ := Aside0.mk (below_step (by repeat (first | (with_reducible first | exact HB.out | apply below_alloc | apply pw_below_drewN | apply below_drew1) | exact HB.out)) hb); clear HB; have HB := n0_; clear n0_; (try clear hb); (try clear hb2); (try clear hk); (try clear hi)))
    go_ret2
    exact ⟨by first | rfl | (simp [errW_none, errW_some] <;> rfl) | (simp [*, errW_none, errW_some] <;> rfl), by repeat (first | (with_reducible first | exact HB.out | apply below_alloc | apply pw_below_drewN | apply below_drew1) | exact HB.out)⟩
  · rw [if_neg c3] at H
    have c3b0 : decide ((a0.size : Int) < (wrap64 (t189 + 4))) = false := decide_eq_false c3
    clear c3
    have H' := Aside0.mk H
    clear H
    go_enter Try.func16, Try.ntmps16
    go_wp2_with (first | ((with_reducible refine gate_callee (f := 26) rfl ?_); refine goesL_ (some 10) rfl rfl Try.func26 (by kernel_rfl) rfl #[.string a0] rfl (by (try simp only [List.map_toArray, List.map_cons, List.map_nil]); first | done | rfl | (simp only [List.length_drop, List.length_take]; rfl)) ?_; (with_reducible refine (spec_passed.calls k a0 t189 t190 _ A2.out).mono ?_); rintro e w5 ⟨rfl, hb⟩; refine ⟨_, rfl, ?_⟩; have n0_ := Aside0.mk (below_step (by repeat (first | (with_reducible first | exact HB.out | apply below_alloc | apply pw_below_drewN | apply below_drew1) | exact HB.out)) hb); clear HB; have HB := n0_; clear n0_; (try clear hb); (try clear hb2); (try clear hk); (try clear hi)))
    go_loopg [3, 5] k (fun kq v3 v5 w' => ∃ (x3_1 : Bool) (x5_1 : Int), v3 = .bool x3_1 ∧ v5 = .int .i64 x5_1 ∧ Aside0 (spec_CopyFirst.l0 kq a0 x3_1 t189 x5_1 = some (r1, r2)) ∧ Aside0 (kq ≤ k) ∧ Aside0 (Below w.heap.size w w'))
    case atStart => exact ⟨(t190), (0), (by first | rfl | (simp; done) | (simp [*]; done)), (by first | rfl | (simp; done) | (simp [*]; done)), H', ⟨Nat.le_refl _⟩, ⟨by repeat (first | (with_reducible first | exact HB.out | apply below_alloc | apply pw_below_drewN | apply below_drew1) | exact HB.out)⟩⟩
    case round =>
      clear H'
      try clear c1
      try clear c2
      try clear p2
      try clear c3
      try clear c3b0
      obtain ⟨x3_1, x5_1, rfl, rfl, HA, HK1, HB⟩ := hrel
      cases gk with
      | zero => exact absurd HA.out (by simp [spec_CopyFirst.l0])
      | succ k1 =>
        have H := HA.out
        clear HA
        simp only [spec_CopyFirst.l0] at H
        by_cases c6 : x5_1 < 4
        · rw [if_pos c6] at H
          have c6b0 : decide (x5_1 < 4) = true := decide_eq_true c6
          clear c6
          obtain ⟨ji7, hji7⟩ : ∃ j_ : Int, (wrap64 (t189 + x5_1)) = j_ := ⟨_, rfl⟩
          replace H : (if 0 ≤ (ji7) then (if (ji7) < (a0.size : Int) then (if (bt a0 (ji7)) ≥ 97 then (spec_CopyFirst.j1 k1 a0 x3_1 t189 x5_1 (bt a0 (ji7)) (decide ((bt a0 (ji7)) ≤ 122))) else (spec_CopyFirst.j1 k1 a0 x3_1 t189 x5_1 (bt a0 (ji7)) false)) else (none)) else (none)) = some (r1, r2) := by first | (rw [hji7] at H; exact H) | (simp only [hji7] at H ⊢; exact H)
          have hji7w : (IntKind.i64.wrap (t189 + x5_1)) = ji7 := (i64_w _).trans hji7
          by_cases c8 : 0 ≤ (ji7)
          · rw [if_pos c8] at H
            have c8b0 : decide (0 ≤ (ji7)) = true := decide_eq_true c8
            clear c8
            by_cases c9 : (ji7) < (a0.size : Int)
            · rw [if_pos c9] at H
              have c9b0 : decide ((ji7) < (a0.size : Int)) = true := decide_eq_true c9
              clear c9
              have HC11 := Aside0.mk H
              clear H
              have p10 : 0 ≤ ((ji7) : Int) := of_decide_eq_true (by first | (with_reducible assumption) | assumption)
              have q10 : (ji7) < (a0.size : Int) := of_decide_eq_true (by first | (with_reducible assumption) | assumption)
              have hx10 := bt_at a0 (ji7)
              replace p10 := eq_true p10
              replace q10 := eq_true q10
              go_upto_region 8 with (fail)
              go_cut [33] (fun v33 wc => ∃ (kq : Nat) (x33_10 : Bool), v33 = .bool x33_10 ∧ Aside0 (spec_CopyFirst.j1 kq a0 x3_1 t189 x5_1 (bt a0 (ji7)) x33_10 = some (r1, r2)) ∧ Aside0 (kq ≤ k1) ∧ Aside0 (Below w.heap.size w wc))
              case first =>
                have H := HC11.out
                clear HC11
                by_cases c12 : (bt a0 (ji7)) ≥ 97
                · rw [if_pos c12] at H
                  have c12b0 : decide (97 ≤ (bt a0 (ji7))) = true := decide_eq_true c12
                  clear c12
                  (first | rw [c12b0] | (simp only [i64_w, i32_w]; rw [c12b0]) | skip)
                  have H' := Aside0.mk H
                  clear H
                  go_wp2
                  go_meet
                  case rel => exact ⟨_, (decide ((bt a0 (ji7)) ≤ 122)), (by first | rfl | (simp; done) | (simp only [← hji7] <;> (first | rfl | simp)) | (simp [*]; done)), H', ⟨by have := HK1.out; first | omega | exact Nat.le_refl _⟩, ⟨by repeat (first | (with_reducible first | exact HB.out | apply below_alloc | apply pw_below_drewN | apply below_drew1) | exact HB.out)⟩⟩
                · rw [if_neg c12] at H
                  have c12b0 : decide (97 ≤ (bt a0 (ji7))) = false := decide_eq_false c12
                  clear c12
                  (first | rw [c12b0] | (simp only [i64_w, i32_w]; rw [c12b0]) | skip)
                  have H' := Aside0.mk H
                  clear H
                  go_wp2
                  go_meet
                  case rel => exact ⟨_, (false), (by first | rfl | (simp; done) | (simp [*]; done)), H', ⟨by have := HK1.out; first | omega | exact Nat.le_refl _⟩, ⟨by repeat (first | (with_reducible first | exact HB.out | apply below_alloc | apply pw_below_drewN | apply below_drew1) | exact HB.out)⟩⟩
              case rest =>
                clear HC11
                try clear c1
                try clear p1
                try clear q1
                try clear hx1
                try clear c2
                try clear p2
                try clear c3
                try clear c3b0
                try clear c6
                try clear c6b0
                try clear p6
                try clear c8
                try clear c8b0
                try clear c9
                try clear c9b0
                try clear p10
                try clear q10
                try clear hx10
                try clear c12
                try clear c12b0
                try clear p10
                try clear p2
                try clear q10
                obtain ⟨kq, x33_10, rfl, HA, HJ10, HB⟩ := hcut
                cases kq with
                | zero => exact absurd HA.out (by simp [spec_CopyFirst.j1])
                | succ kj10 =>
                  have H := HA.out
                  clear HA
                  simp only [spec_CopyFirst.j1] at H
                  by_cases c13 : x33_10 = true
                  · subst c13
                    have H1 : (if 0 ≤ x5_1 then (if x5_1 < 4 then (if (((bt a0 (ji7)) - 32) % 256) = (bt (⟨#[67, 79, 80, 89]⟩ : ByteArray) x5_1) then (spec_CopyFirst.l0 kj10 a0 x3_1 t189 (wrap64 (x5_1 + 1))) else (if (((bt a0 (ji7)) - 32) % 256) ≥ 65 then (if x3_1 = true then (if (((bt a0 (ji7)) - 32) % 256) ≤ 90 then (some (false, true)) else (if (((bt a0 (ji7)) - 32) % 256) ≥ 32 then (some (false, decide ((((bt a0 (ji7)) - 32) % 256) < 64))) else (some (false, false)))) else (some (false, false))) else (if x3_1 = true then (if (((bt a0 (ji7)) - 32) % 256) ≥ 32 then (some (false, decide ((((bt a0 (ji7)) - 32) % 256) < 64))) else (some (false, false))) else (some (false, false))))) else (none)) else (none)) = some (r1, r2) := by rw [if_pos rfl] at H; exact H
                    clear H
                    have H := H1
                    clear H1
                    by_cases c14 : 0 ≤ x5_1
                    · rw [if_pos c14] at H
                      have c14b0 : decide (0 ≤ x5_1) = true := decide_eq_true c14
                      clear c14
                      by_cases c15 : x5_1 < 4
                      · rw [if_pos c15] at H
                        have c15b0 : decide (x5_1 < 4) = true := decide_eq_true c15
                        clear c15
                        by_cases c17 : (((bt a0 (ji7)) - 32) % 256) = (bt (⟨#[67, 79, 80, 89]⟩ : ByteArray) x5_1)
                        · rw [if_pos c17] at H
                          have c17b0 : ((((bt a0 (ji7)) - 32) % 256) == (bt (⟨#[67, 79, 80, 89]⟩ : ByteArray) x5_1)) = true := beq_iff_eq.mpr c17
                          have c17b1 : ((((bt a0 (ji7)) - 32) % 256) != (bt (⟨#[67, 79, 80, 89]⟩ : ByteArray) x5_1)) = false := bne_eq_false_iff_eq.mpr c17
                          clear c17
                          have H' := Aside0.mk H
                          clear H
                          have p16 : 0 ≤ (x5_1 : Int) := of_decide_eq_true (by first | (with_reducible assumption) | assumption)
                          have q16 : x5_1 < (4 : Int) := of_decide_eq_true (by first | (with_reducible assumption) | assumption)
                          have hx16 := bt_at (⟨#[67, 79, 80, 89]⟩ : ByteArray) x5_1
                          replace p16 := eq_true p16
                          replace q16 := eq_true q16
                          go_wp2
                          go_roundg kj10
                          case measure => have := HK1.out; have := HJ10.out; omega
                          case rel => exact ⟨(x3_1), (wrap64 (x5_1 + 1)), (by first | rfl | (simp; done) | (simp [*]; done)), (by first | rfl | (simp; done) | (simp [*]; done)), H', ⟨by have := HK1.out; have := HJ10.out; omega⟩, ⟨by repeat (first | (with_reducible first | exact HB.out | apply below_alloc | apply pw_below_drewN | apply below_drew1) | exact HB.out)⟩⟩
                        · rw [if_neg c17] at H
                          have c17b0 : ((((bt a0 (ji7)) - 32) % 256) == (bt (⟨#[67, 79, 80, 89]⟩ : ByteArray) x5_1)) = false := beq_eq_false_iff_ne.mpr c17
                          have c17b1 : ((((bt a0 (ji7)) - 32) % 256) != (bt (⟨#[67, 79, 80, 89]⟩ : ByteArray) x5_1)) = true := bne_iff_ne.mpr c17
                          by_cases c18 : (((bt a0 (ji7)) - 32) % 256) ≥ 65
                          · rw [if_pos c18] at H
                            have c18b0 : decide (65 ≤ (((bt a0 (ji7)) - 32) % 256)) = true := decide_eq_true c18
                            clear c18
                            by_cases c19 : x3_1 = true
                            · subst c19
                              have H1 : (if (((bt a0 (ji7)) - 32) % 256) ≤ 90 then (some (false, true)) else (if (((bt a0 (ji7)) - 32) % 256) ≥ 32 then (some (false, decide ((((bt a0 (ji7)) - 32) % 256) < 64))) else (some (false, false)))) = some (r1, r2) := by rw [if_pos rfl] at H; exact H
                              clear H
                              have H := H1
                              clear H1
                              by_cases c20 : (((bt a0 (ji7)) - 32) % 256) ≤ 90
                              · rw [if_pos c20] at H
                                have c20b0 : decide ((((bt a0 (ji7)) - 32) % 256) ≤ 90) = true := decide_eq_true c20
                                clear c20
                                simp only [Option.some.injEq, Prod.mk.injEq] at H
                                obtain ⟨rfl, rfl⟩ := H
                                have p16 : 0 ≤ (x5_1 : Int) := of_decide_eq_true (by first | (with_reducible assumption) | assumption)
                                have q16 : x5_1 < (4 : Int) := of_decide_eq_true (by first | (with_reducible assumption) | assumption)
                                have hx16 := bt_at (⟨#[67, 79, 80, 89]⟩ : ByteArray) x5_1
                                replace p16 := eq_true p16
                                replace q16 := eq_true q16
                                go_wp2
                                go_ret2
                                exact ⟨by first | rfl | (simp [errW_none, errW_some] <;> rfl) | (simp only [← hji7]; first | rfl | (simp [errW_none, errW_some] <;> rfl)) | (simp [*, errW_none, errW_some] <;> rfl), by repeat (first | (with_reducible first | exact HB.out | apply below_alloc | apply pw_below_drewN | apply below_drew1) | exact HB.out)⟩
                              · rw [if_neg c20] at H
                                have c20b0 : decide ((((bt a0 (ji7)) - 32) % 256) ≤ 90) = false := decide_eq_false c20
                                clear c20
                                by_cases c21 : (((bt a0 (ji7)) - 32) % 256) ≥ 32
                                · rw [if_pos c21] at H
                                  have c21b0 : decide (32 ≤ (((bt a0 (ji7)) - 32) % 256)) = true := decide_eq_true c21
                                  clear c21
                                  simp only [Option.some.injEq, Prod.mk.injEq] at H
                                  obtain ⟨rfl, rfl⟩ := H
                                  have p16 : 0 ≤ (x5_1 : Int) := of_decide_eq_true (by first | (with_reducible assumption) | assumption)
                                  have q16 : x5_1 < (4 : Int) := of_decide_eq_true (by first | (with_reducible assumption) | assumption)
                                  have hx16 := bt_at (⟨#[67, 79, 80, 89]⟩ : ByteArray) x5_1
                                  replace p16 := eq_true p16
                                  replace q16 := eq_true q16
                                  go_wp2
                                  go_ret2
                                  exact ⟨by first | rfl | (simp [errW_none, errW_some] <;> rfl) | (simp only [← hji7]; first | rfl | (simp [errW_none, errW_some] <;> rfl)) | (simp [*, errW_none, errW_some] <;> rfl), by repeat (first | (with_reducible first | exact HB.out | apply below_alloc | apply pw_below_drewN | apply below_drew1) | exact HB.out)⟩
                                · rw [if_neg c21] at H
                                  have c21b0 : decide (32 ≤ (((bt a0 (ji7)) - 32) % 256)) = false := decide_eq_false c21
                                  clear c21
                                  simp only [Option.some.injEq, Prod.mk.injEq] at H
                                  obtain ⟨rfl, rfl⟩ := H
                                  have p16 : 0 ≤ (x5_1 : Int) := of_decide_eq_true (by first | (with_reducible assumption) | assumption)
                                  have q16 : x5_1 < (4 : Int) := of_decide_eq_true (by first | (with_reducible assumption) | assumption)
                                  have hx16 := bt_at (⟨#[67, 79, 80, 89]⟩ : ByteArray) x5_1
                                  replace p16 := eq_true p16
                                  replace q16 := eq_true q16
                                  go_wp2
                                  go_ret2
                                  exact ⟨by first | rfl | (simp [errW_none, errW_some] <;> rfl) | (simp only [← hji7]; first | rfl | (simp [errW_none, errW_some] <;> rfl)) | (simp [*, errW_none, errW_some] <;> rfl), by repeat (first | (with_reducible first | exact HB.out | apply below_alloc | apply pw_below_drewN | apply below_drew1) | exact HB.out)⟩
                            · replace c19 := Bool.eq_false_iff.mpr c19
                              subst c19
                              have H1 : (some (false, false)) = some (r1, r2) := by rw [if_neg (show ¬ (false = true) by decide)] at H; exact H
                              clear H
                              have H := H1
                              clear H1
                              simp only [Option.some.injEq, Prod.mk.injEq] at H
                              obtain ⟨rfl, rfl⟩ := H
                              have p16 : 0 ≤ (x5_1 : Int) := of_decide_eq_true (by first | (with_reducible assumption) | assumption)
                              have q16 : x5_1 < (4 : Int) := of_decide_eq_true (by first | (with_reducible assumption) | assumption)
                              have hx16 := bt_at (⟨#[67, 79, 80, 89]⟩ : ByteArray) x5_1
                              replace p16 := eq_true p16
                              replace q16 := eq_true q16
                              go_wp2
                              go_ret2
                              exact ⟨by first | rfl | (simp [errW_none, errW_some] <;> rfl) | (simp only [← hji7]; first | rfl | (simp [errW_none, errW_some] <;> rfl)) | (simp [*, errW_none, errW_some] <;> rfl), by repeat (first | (with_reducible first | exact HB.out | apply below_alloc | apply pw_below_drewN | apply below_drew1) | exact HB.out)⟩
                          · rw [if_neg c18] at H
                            have c18b0 : decide (65 ≤ (((bt a0 (ji7)) - 32) % 256)) = false := decide_eq_false c18
                            clear c18
                            by_cases c22 : x3_1 = true
                            · subst c22
                              have H1 : (if (((bt a0 (ji7)) - 32) % 256) ≥ 32 then (some (false, decide ((((bt a0 (ji7)) - 32) % 256) < 64))) else (some (false, false))) = some (r1, r2) := by rw [if_pos rfl] at H; exact H
                              clear H
                              have H := H1
                              clear H1
                              by_cases c23 : (((bt a0 (ji7)) - 32) % 256) ≥ 32
                              · rw [if_pos c23] at H
                                have c23b0 : decide (32 ≤ (((bt a0 (ji7)) - 32) % 256)) = true := decide_eq_true c23
                                clear c23
                                simp only [Option.some.injEq, Prod.mk.injEq] at H
                                obtain ⟨rfl, rfl⟩ := H
                                have p16 : 0 ≤ (x5_1 : Int) := of_decide_eq_true (by first | (with_reducible assumption) | assumption)
                                have q16 : x5_1 < (4 : Int) := of_decide_eq_true (by first | (with_reducible assumption) | assumption)
                                have hx16 := bt_at (⟨#[67, 79, 80, 89]⟩ : ByteArray) x5_1
                                replace p16 := eq_true p16
                                replace q16 := eq_true q16
                                go_wp2
                                go_ret2
                                exact ⟨by first | rfl | (simp [errW_none, errW_some] <;> rfl) | (simp only [← hji7]; first | rfl | (simp [errW_none, errW_some] <;> rfl)) | (simp [*, errW_none, errW_some] <;> rfl), by repeat (first | (with_reducible first | exact HB.out | apply below_alloc | apply pw_below_drewN | apply below_drew1) | exact HB.out)⟩
                              · rw [if_neg c23] at H
                                have c23b0 : decide (32 ≤ (((bt a0 (ji7)) - 32) % 256)) = false := decide_eq_false c23
                                clear c23
                                simp only [Option.some.injEq, Prod.mk.injEq] at H
                                obtain ⟨rfl, rfl⟩ := H
                                have p16 : 0 ≤ (x5_1 : Int) := of_decide_eq_true (by first | (with_reducible assumption) | assumption)
                                have q16 : x5_1 < (4 : Int) := of_decide_eq_true (by first | (with_reducible assumption) | assumption)
                                have hx16 := bt_at (⟨#[67, 79, 80, 89]⟩ : ByteArray) x5_1
                                replace p16 := eq_true p16
                                replace q16 := eq_true q16
                                go_wp2
                                go_ret2
                                exact ⟨by first | rfl | (simp [errW_none, errW_some] <;> rfl) | (simp only [← hji7]; first | rfl | (simp [errW_none, errW_some] <;> rfl)) | (simp [*, errW_none, errW_some] <;> rfl), by repeat (first | (with_reducible first | exact HB.out | apply below_alloc | apply pw_below_drewN | apply below_drew1) | exact HB.out)⟩
                            · replace c22 := Bool.eq_false_iff.mpr c22
                              subst c22
                              have H1 : (some (false, false)) = some (r1, r2) := by rw [if_neg (show ¬ (false = true) by decide)] at H; exact H
                              clear H
                              have H := H1
                              clear H1
                              simp only [Option.some.injEq, Prod.mk.injEq] at H
                              obtain ⟨rfl, rfl⟩ := H
                              have p16 : 0 ≤ (x5_1 : Int) := of_decide_eq_true (by first | (with_reducible assumption) | assumption)
                              have q16 : x5_1 < (4 : Int) := of_decide_eq_true (by first | (with_reducible assumption) | assumption)
                              have hx16 := bt_at (⟨#[67, 79, 80, 89]⟩ : ByteArray) x5_1
                              replace p16 := eq_true p16
                              replace q16 := eq_true q16
                              go_wp2
                              go_ret2
                              exact ⟨by first | rfl | (simp [errW_none, errW_some] <;> rfl) | (simp only [← hji7]; first | rfl | (simp [errW_none, errW_some] <;> rfl)) | (simp [*, errW_none, errW_some] <;> rfl), by repeat (first | (with_reducible first | exact HB.out | apply below_alloc | apply pw_below_drewN | apply below_drew1) | exact HB.out)⟩
                      · rw [if_neg c15] at H
                        exact absurd H (by simp)
                    · rw [if_neg c14] at H
                      exact absurd H (by simp)
                  · replace c13 := Bool.eq_false_iff.mpr c13
                    subst c13
                    have H1 : (if 0 ≤ x5_1 then (if x5_1 < 4 then (if (bt a0 (ji7)) = (bt (⟨#[67, 79, 80, 89]⟩ : ByteArray) x5_1) then (spec_CopyFirst.l0 kj10 a0 x3_1 t189 (wrap64 (x5_1 + 1))) else (if (bt a0 (ji7)) ≥ 65 then (if x3_1 = true then (if (bt a0 (ji7)) ≤ 90 then (some (false, true)) else (if (bt a0 (ji7)) ≥ 32 then (some (false, decide ((bt a0 (ji7)) < 64))) else (some (false, false)))) else (some (false, false))) else (if x3_1 = true then (if (bt a0 (ji7)) ≥ 32 then (some (false, decide ((bt a0 (ji7)) < 64))) else (some (false, false))) else (some (false, false))))) else (none)) else (none)) = some (r1, r2) := by rw [if_neg (show ¬ (false = true) by decide)] at H; exact H
                    clear H
                    have H := H1
                    clear H1
                    by_cases c24 : 0 ≤ x5_1
                    · rw [if_pos c24] at H
                      have c24b0 : decide (0 ≤ x5_1) = true := decide_eq_true c24
                      clear c24
                      by_cases c25 : x5_1 < 4
                      · rw [if_pos c25] at H
                        have c25b0 : decide (x5_1 < 4) = true := decide_eq_true c25
                        clear c25
                        by_cases c27 : (bt a0 (ji7)) = (bt (⟨#[67, 79, 80, 89]⟩ : ByteArray) x5_1)
                        · rw [if_pos c27] at H
                          have c27b0 : ((bt a0 (ji7)) == (bt (⟨#[67, 79, 80, 89]⟩ : ByteArray) x5_1)) = true := beq_iff_eq.mpr c27
                          have c27b1 : ((bt a0 (ji7)) != (bt (⟨#[67, 79, 80, 89]⟩ : ByteArray) x5_1)) = false := bne_eq_false_iff_eq.mpr c27
                          clear c27
                          have H' := Aside0.mk H
                          clear H
                          have p26 : 0 ≤ (x5_1 : Int) := of_decide_eq_true (by first | (with_reducible assumption) | assumption)
                          have q26 : x5_1 < (4 : Int) := of_decide_eq_true (by first | (with_reducible assumption) | assumption)
                          have hx26 := bt_at (⟨#[67, 79, 80, 89]⟩ : ByteArray) x5_1
                          replace p26 := eq_true p26
                          replace q26 := eq_true q26
                          go_wp2
                          go_roundg kj10
                          case measure => have := HK1.out; have := HJ10.out; omega
                          case rel => exact ⟨(x3_1), (wrap64 (x5_1 + 1)), (by first | rfl | (simp; done) | (simp [*]; done)), (by first | rfl | (simp; done) | (simp [*]; done)), H', ⟨by have := HK1.out; have := HJ10.out; omega⟩, ⟨by repeat (first | (with_reducible first | exact HB.out | apply below_alloc | apply pw_below_drewN | apply below_drew1) | exact HB.out)⟩⟩
                        · rw [if_neg c27] at H
                          have c27b0 : ((bt a0 (ji7)) == (bt (⟨#[67, 79, 80, 89]⟩ : ByteArray) x5_1)) = false := beq_eq_false_iff_ne.mpr c27
                          have c27b1 : ((bt a0 (ji7)) != (bt (⟨#[67, 79, 80, 89]⟩ : ByteArray) x5_1)) = true := bne_iff_ne.mpr c27
                          by_cases c28 : (bt a0 (ji7)) ≥ 65
                          · rw [if_pos c28] at H
                            have c28b0 : decide (65 ≤ (bt a0 (ji7))) = true := decide_eq_true c28
                            clear c28
                            by_cases c29 : x3_1 = true
                            · subst c29
                              have H1 : (if (bt a0 (ji7)) ≤ 90 then (some (false, true)) else (if (bt a0 (ji7)) ≥ 32 then (some (false, decide ((bt a0 (ji7)) < 64))) else (some (false, false)))) = some (r1, r2) := by rw [if_pos rfl] at H; exact H
                              clear H
                              have H := H1
                              clear H1
                              by_cases c30 : (bt a0 (ji7)) ≤ 90
                              · rw [if_pos c30] at H
                                have c30b0 : decide ((bt a0 (ji7)) ≤ 90) = true := decide_eq_true c30
                                clear c30
                                simp only [Option.some.injEq, Prod.mk.injEq] at H
                                obtain ⟨rfl, rfl⟩ := H
                                have p26 : 0 ≤ (x5_1 : Int) := of_decide_eq_true (by first | (with_reducible assumption) | assumption)
                                have q26 : x5_1 < (4 : Int) := of_decide_eq_true (by first | (with_reducible assumption) | assumption)
                                have hx26 := bt_at (⟨#[67, 79, 80, 89]⟩ : ByteArray) x5_1
                                replace p26 := eq_true p26
                                replace q26 := eq_true q26
                                go_wp2
                                go_ret2
                                exact ⟨by first | rfl | (simp [errW_none, errW_some] <;> rfl) | (simp only [← hji7]; first | rfl | (simp [errW_none, errW_some] <;> rfl)) | (simp [*, errW_none, errW_some] <;> rfl), by repeat (first | (with_reducible first | exact HB.out | apply below_alloc | apply pw_below_drewN | apply below_drew1) | exact HB.out)⟩
                              · rw [if_neg c30] at H
                                have c30b0 : decide ((bt a0 (ji7)) ≤ 90) = false := decide_eq_false c30
                                clear c30
                                by_cases c31 : (bt a0 (ji7)) ≥ 32
                                · rw [if_pos c31] at H
                                  have c31b0 : decide (32 ≤ (bt a0 (ji7))) = true := decide_eq_true c31
                                  clear c31
                                  simp only [Option.some.injEq, Prod.mk.injEq] at H
                                  obtain ⟨rfl, rfl⟩ := H
                                  have p26 : 0 ≤ (x5_1 : Int) := of_decide_eq_true (by first | (with_reducible assumption) | assumption)
                                  have q26 : x5_1 < (4 : Int) := of_decide_eq_true (by first | (with_reducible assumption) | assumption)
                                  have hx26 := bt_at (⟨#[67, 79, 80, 89]⟩ : ByteArray) x5_1
                                  replace p26 := eq_true p26
                                  replace q26 := eq_true q26
                                  go_wp2
                                  go_ret2
                                  exact ⟨by first | rfl | (simp [errW_none, errW_some] <;> rfl) | (simp only [← hji7]; first | rfl | (simp [errW_none, errW_some] <;> rfl)) | (simp [*, errW_none, errW_some] <;> rfl), by repeat (first | (with_reducible first | exact HB.out | apply below_alloc | apply pw_below_drewN | apply below_drew1) | exact HB.out)⟩
                                · rw [if_neg c31] at H
                                  have c31b0 : decide (32 ≤ (bt a0 (ji7))) = false := decide_eq_false c31
                                  clear c31
                                  simp only [Option.some.injEq, Prod.mk.injEq] at H
                                  obtain ⟨rfl, rfl⟩ := H
                                  have p26 : 0 ≤ (x5_1 : Int) := of_decide_eq_true (by first | (with_reducible assumption) | assumption)
                                  have q26 : x5_1 < (4 : Int) := of_decide_eq_true (by first | (with_reducible assumption) | assumption)
                                  have hx26 := bt_at (⟨#[67, 79, 80, 89]⟩ : ByteArray) x5_1
                                  replace p26 := eq_true p26
                                  replace q26 := eq_true q26
                                  go_wp2
                                  go_ret2
                                  exact ⟨by first | rfl | (simp [errW_none, errW_some] <;> rfl) | (simp only [← hji7]; first | rfl | (simp [errW_none, errW_some] <;> rfl)) | (simp [*, errW_none, errW_some] <;> rfl), by repeat (first | (with_reducible first | exact HB.out | apply below_alloc | apply pw_below_drewN | apply below_drew1) | exact HB.out)⟩
                            · replace c29 := Bool.eq_false_iff.mpr c29
                              subst c29
                              have H1 : (some (false, false)) = some (r1, r2) := by rw [if_neg (show ¬ (false = true) by decide)] at H; exact H
                              clear H
                              have H := H1
                              clear H1
                              simp only [Option.some.injEq, Prod.mk.injEq] at H
                              obtain ⟨rfl, rfl⟩ := H
                              have p26 : 0 ≤ (x5_1 : Int) := of_decide_eq_true (by first | (with_reducible assumption) | assumption)
                              have q26 : x5_1 < (4 : Int) := of_decide_eq_true (by first | (with_reducible assumption) | assumption)
                              have hx26 := bt_at (⟨#[67, 79, 80, 89]⟩ : ByteArray) x5_1
                              replace p26 := eq_true p26
                              replace q26 := eq_true q26
                              go_wp2
                              go_ret2
                              exact ⟨by first | rfl | (simp [errW_none, errW_some] <;> rfl) | (simp only [← hji7]; first | rfl | (simp [errW_none, errW_some] <;> rfl)) | (simp [*, errW_none, errW_some] <;> rfl), by repeat (first | (with_reducible first | exact HB.out | apply below_alloc | apply pw_below_drewN | apply below_drew1) | exact HB.out)⟩
                          · rw [if_neg c28] at H
                            have c28b0 : decide (65 ≤ (bt a0 (ji7))) = false := decide_eq_false c28
                            clear c28
                            by_cases c32 : x3_1 = true
                            · subst c32
                              have H1 : (if (bt a0 (ji7)) ≥ 32 then (some (false, decide ((bt a0 (ji7)) < 64))) else (some (false, false))) = some (r1, r2) := by rw [if_pos rfl] at H; exact H
                              clear H
                              have H := H1
                              clear H1
                              by_cases c33 : (bt a0 (ji7)) ≥ 32
                              · rw [if_pos c33] at H
                                have c33b0 : decide (32 ≤ (bt a0 (ji7))) = true := decide_eq_true c33
                                clear c33
                                simp only [Option.some.injEq, Prod.mk.injEq] at H
                                obtain ⟨rfl, rfl⟩ := H
                                have p26 : 0 ≤ (x5_1 : Int) := of_decide_eq_true (by first | (with_reducible assumption) | assumption)
                                have q26 : x5_1 < (4 : Int) := of_decide_eq_true (by first | (with_reducible assumption) | assumption)
                                have hx26 := bt_at (⟨#[67, 79, 80, 89]⟩ : ByteArray) x5_1
                                replace p26 := eq_true p26
                                replace q26 := eq_true q26
                                go_wp2
                                go_ret2
                                exact ⟨by first | rfl | (simp [errW_none, errW_some] <;> rfl) | (simp only [← hji7]; first | rfl | (simp [errW_none, errW_some] <;> rfl)) | (simp [*, errW_none, errW_some] <;> rfl), by repeat (first | (with_reducible first | exact HB.out | apply below_alloc | apply pw_below_drewN | apply below_drew1) | exact HB.out)⟩
                              · rw [if_neg c33] at H
                                have c33b0 : decide (32 ≤ (bt a0 (ji7))) = false := decide_eq_false c33
                                clear c33
                                simp only [Option.some.injEq, Prod.mk.injEq] at H
                                obtain ⟨rfl, rfl⟩ := H
                                have p26 : 0 ≤ (x5_1 : Int) := of_decide_eq_true (by first | (with_reducible assumption) | assumption)
                                have q26 : x5_1 < (4 : Int) := of_decide_eq_true (by first | (with_reducible assumption) | assumption)
                                have hx26 := bt_at (⟨#[67, 79, 80, 89]⟩ : ByteArray) x5_1
                                replace p26 := eq_true p26
                                replace q26 := eq_true q26
                                go_wp2
                                go_ret2
                                exact ⟨by first | rfl | (simp [errW_none, errW_some] <;> rfl) | (simp only [← hji7]; first | rfl | (simp [errW_none, errW_some] <;> rfl)) | (simp [*, errW_none, errW_some] <;> rfl), by repeat (first | (with_reducible first | exact HB.out | apply below_alloc | apply pw_below_drewN | apply below_drew1) | exact HB.out)⟩
                            · replace c32 := Bool.eq_false_iff.mpr c32
                              subst c32
                              have H1 : (some (false, false)) = some (r1, r2) := by rw [if_neg (show ¬ (false = true) by decide)] at H; exact H
                              clear H
                              have H := H1
                              clear H1
                              simp only [Option.some.injEq, Prod.mk.injEq] at H
                              obtain ⟨rfl, rfl⟩ := H
                              have p26 : 0 ≤ (x5_1 : Int) := of_decide_eq_true (by first | (with_reducible assumption) | assumption)
                              have q26 : x5_1 < (4 : Int) := of_decide_eq_true (by first | (with_reducible assumption) | assumption)
                              have hx26 := bt_at (⟨#[67, 79, 80, 89]⟩ : ByteArray) x5_1
                              replace p26 := eq_true p26
                              replace q26 := eq_true q26
                              go_wp2
                              go_ret2
                              exact ⟨by first | rfl | (simp [errW_none, errW_some] <;> rfl) | (simp only [← hji7]; first | rfl | (simp [errW_none, errW_some] <;> rfl)) | (simp [*, errW_none, errW_some] <;> rfl), by repeat (first | (with_reducible first | exact HB.out | apply below_alloc | apply pw_below_drewN | apply below_drew1) | exact HB.out)⟩
                      · rw [if_neg c25] at H
                        exact absurd H (by simp)
                    · rw [if_neg c24] at H
                      exact absurd H (by simp)
            · rw [if_neg c9] at H
              exact absurd H (by simp)
          · rw [if_neg c8] at H
            exact absurd H (by simp)
        · rw [if_neg c6] at H
          have c6b0 : decide (x5_1 < 4) = false := decide_eq_false c6
          clear c6
          simp only [Option.some.injEq, Prod.mk.injEq] at H
          obtain ⟨rfl, rfl⟩ := H
          go_wp2
          go_ret2
          exact ⟨by first | rfl | (simp [errW_none, errW_some] <;> rfl) | (simp [*, errW_none, errW_some] <;> rfl), by repeat (first | (with_reducible first | exact HB.out | apply below_alloc | apply pw_below_drewN | apply below_drew1) | exact HB.out)⟩

end Go.Proofs.Ytlfkejljbehcaaa.P
