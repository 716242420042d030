-- Written by the program wip/myprint.py of this session, over the kit's print of the translation. Lean checks it.
import Derived.Test.YthcikkjjegfblabPx0
import Derived.Test.YthcikkjjegfblabPx2
import Derived.Test.YthcikkjjegfblabPx3
import Derived.Test.YthcikkjjegfblabPx4
namespace Go.Proofs.Ythcikkjjegfblab.P
open Go.RowKit Go.Proofs.YthcikkjjegfblabW.PrintWords Go.Proofs.YthcikkjjegfblabW.PrintLast Go.Proofs.YthcikkjjegfblabW.PrintMore
attribute [local go_sem] max2_int min2_int max_two min_two max_three min_three max_four min_four   -- for this text's walks alone
set_option linter.unusedVariables false
set_option linter.unusedSimpArgs false

/-! ### laws_FnUnframed: function 3 -/
mutual
def laws_FnUnframed.j0 : Nat → ByteArray → List (S25) → Bool → Option (Bool)
  | 0, _, _, _ => none
  | k + 1, x0, x1, x23 => if x23 = true then (some true) else (if (x0.size : Int) > 1000 then (laws_FnUnframed.j1 k x0 x1 true) else (laws_FnUnframed.j1 k x0 x1 (decide ((x1.length : Int) > 30))))
def laws_FnUnframed.j1 : Nat → ByteArray → List (S25) → Bool → Option (Bool)
  | 0, _, _, _ => none
  | k + 1, x0, x1, x31 => if x31 = true then (some true) else (laws_FnUnframed.l0 k x0 x1 0)
def laws_FnUnframed.l0 : Nat → ByteArray → List (S25) → Int → Option (Bool)
  | 0, _, _, _ => none
  | k + 1, x0, x1, x5 => if x5 < (x1.length : Int) then (if 0 ≤ x5 then (if ((rd_T25 x1 x5).f0) < 1 then (some true) else (if ((rd_T25 x1 x5).f0) > 5 then (some true) else (if ((rd_T25 x1 x5).f2).toList = ([] : List UInt8) then (if ((rd_T25 x1 x5).f1) < 0 then (some true) else (if ((rd_T25 x1 x5).f1) > 2000 then (some true) else (if ((rd_T25 x1 x5).f0) = 5 then (laws_FnUnframed.l0 k x0 x1 (wrap64 (x5 + 1))) else (if ((rd_T25 x1 x5).f1) = 0 then (laws_FnUnframed.l0 k x0 x1 (wrap64 (x5 + 1))) else (some true))))) else (some true)))) else (none)) else ((spec_Unframed.f x0 x1).bind fun bt116 => ((impl_Unframed.f k x0 x1).bind fun bt121 => (if bt116.2.2 = true then (if bt121.2.2 = true then (if bt121.2.1.toList = bt116.2.1.toList then ((laws_same7Pieces.f k bt121.1 bt116.1).bind fun t126 => (some t126)) else (some false)) else (some false)) else ((impl_Unframed.f k (⟨#[97]⟩ : ByteArray) (([(⟨1, 0, (⟨#[]⟩ : ByteArray)⟩ : S25)] : List (S25)))).bind fun bt130 => (if bt121.2.2 = true then (some false) else (some bt130.2.2))))))
end
def laws_FnUnframed.f (k : Nat) (a0 : ByteArray) (l1 : List (S25)) : Option (Bool) := if (a0.size : Int) > 2147483647 then (laws_FnUnframed.j0 k a0 l1 true) else ((laws_zzFits7.f k l1).bind fun t113 => (laws_FnUnframed.j0 k a0 l1 (!t113)))
theorem laws_FnUnframed.mono_l : ∀ k, (∀ y0 y1 y2, LeO (laws_FnUnframed.j0 k y0 y1 y2) (laws_FnUnframed.j0 (k + 1) y0 y1 y2)) ∧ (∀ y0 y1 y2, LeO (laws_FnUnframed.j1 k y0 y1 y2) (laws_FnUnframed.j1 (k + 1) y0 y1 y2)) ∧ (∀ y0 y1 y2, LeO (laws_FnUnframed.l0 k y0 y1 y2) (laws_FnUnframed.l0 (k + 1) y0 y1 y2))
  | 0 => ⟨fun _ _ _ r h => by simp [laws_FnUnframed.j0] at h, fun _ _ _ r h => by simp [laws_FnUnframed.j1] at h, fun _ _ _ r h => by simp [laws_FnUnframed.l0] at h⟩
  | k + 1 => by
    obtain ⟨ih0, ih1, ih2⟩ := laws_FnUnframed.mono_l k
    refine ⟨?_, ?_, ?_⟩
    · intro y0 y1 y2
      unfold laws_FnUnframed.j0
      repeat' first
      | (with_reducible exact ih0 _ _ _)
      | (with_reducible exact ih1 _ _ _)
      | (with_reducible exact ih2 _ _ _)
      | (with_reducible exact impl_Unframed.mono _ _ _)
      | (with_reducible exact laws_same7Pieces.mono _ _ _)
      | (with_reducible exact laws_zzFits7.mono _ _)
      | (with_reducible exact LeO.refl _)
      | (with_reducible exact LeO.none _)
      | (with_reducible refine LeO.ite ?_ ?_)
      | (with_reducible refine LeO.bind ?_ (fun _ => ?_))
      | exact ih0 _ _ _
      | exact ih1 _ _ _
      | exact ih2 _ _ _
      | exact impl_Unframed.mono _ _ _
      | exact laws_same7Pieces.mono _ _ _
      | exact laws_zzFits7.mono _ _
      | exact LeO.none _
      | refine LeO.ite ?_ ?_
      | refine LeO.bind ?_ (fun _ => ?_)
    · intro y0 y1 y2
      unfold laws_FnUnframed.j1
      repeat' first
      | (with_reducible exact ih0 _ _ _)
      | (with_reducible exact ih1 _ _ _)
      | (with_reducible exact ih2 _ _ _)
      | (with_reducible exact impl_Unframed.mono _ _ _)
      | (with_reducible exact laws_same7Pieces.mono _ _ _)
      | (with_reducible exact laws_zzFits7.mono _ _)
      | (with_reducible exact LeO.refl _)
      | (with_reducible exact LeO.none _)
      | (with_reducible refine LeO.ite ?_ ?_)
      | (with_reducible refine LeO.bind ?_ (fun _ => ?_))
      | exact ih0 _ _ _
      | exact ih1 _ _ _
      | exact ih2 _ _ _
      | exact impl_Unframed.mono _ _ _
      | exact laws_same7Pieces.mono _ _ _
      | exact laws_zzFits7.mono _ _
      | exact LeO.none _
      | refine LeO.ite ?_ ?_
      | refine LeO.bind ?_ (fun _ => ?_)
    · intro y0 y1 y2
      unfold laws_FnUnframed.l0
      repeat' first
      | (with_reducible exact ih0 _ _ _)
      | (with_reducible exact ih1 _ _ _)
      | (with_reducible exact ih2 _ _ _)
      | (with_reducible exact impl_Unframed.mono _ _ _)
      | (with_reducible exact laws_same7Pieces.mono _ _ _)
      | (with_reducible exact laws_zzFits7.mono _ _)
      | (with_reducible exact LeO.refl _)
      | (with_reducible exact LeO.none _)
      | (with_reducible refine LeO.ite ?_ ?_)
      | (with_reducible refine LeO.bind ?_ (fun _ => ?_))
      | exact ih0 _ _ _
      | exact ih1 _ _ _
      | exact ih2 _ _ _
      | exact impl_Unframed.mono _ _ _
      | exact laws_same7Pieces.mono _ _ _
      | exact laws_zzFits7.mono _ _
      | exact LeO.none _
      | refine LeO.ite ?_ ?_
      | refine LeO.bind ?_ (fun _ => ?_)
theorem laws_FnUnframed.mono : ∀ a0 a1 k, LeO (laws_FnUnframed.f k a0 a1) (laws_FnUnframed.f (k + 1) a0 a1) := by
  intro a0 a1 k
  obtain ⟨ih0, ih1, ih2⟩ := laws_FnUnframed.mono_l k
  unfold laws_FnUnframed.f
  repeat' first
      | (with_reducible exact ih0 _ _ _)
      | (with_reducible exact ih1 _ _ _)
      | (with_reducible exact ih2 _ _ _)
      | (with_reducible exact impl_Unframed.mono _ _ _)
      | (with_reducible exact laws_same7Pieces.mono _ _ _)
      | (with_reducible exact laws_zzFits7.mono _ _)
      | (with_reducible exact LeO.refl _)
      | (with_reducible exact LeO.none _)
      | (with_reducible refine LeO.ite ?_ ?_)
      | (with_reducible refine LeO.bind ?_ (fun _ => ?_))
      | exact ih0 _ _ _
      | exact ih1 _ _ _
      | exact ih2 _ _ _
      | exact impl_Unframed.mono _ _ _
      | exact laws_same7Pieces.mono _ _ _
      | exact laws_zzFits7.mono _ _
      | exact LeO.none _
      | refine LeO.ite ?_ ?_
      | refine LeO.bind ?_ (fun _ => ?_)
set_option maxHeartbeats 8000000 in
set_option maxRecDepth 100000 in
theorem laws_FnUnframed.calls (k : Nat) (a0 : ByteArray) (A1 : Option Addr) (c1 : Nat) (l1 : List (S25)) (r : Bool) (w : World) (hr1 : Kd.C k25 w A1 l1.length l1) (hc1 : l1.length ≤ c1) (h : laws_FnUnframed.f k a0 l1 = some r) :
    Calls Try.prog 3 #[.string a0, .slice A1 l1.length c1] w fun e w' => e = .returned (.bool r) ∧ Below w.heap.size w w' := by
  have hu25 := Try.underlying25
  have HR1 := Aside0.mk hr1
  have HC1 := Aside0.mk hc1
  clear hr1 hc1
  have HB := Aside0.mk (Below.refl w.heap.size w)
  have H : (if (a0.size : Int) > 2147483647 then (laws_FnUnframed.j0 k a0 l1 true) else ((laws_zzFits7.f k l1).bind fun t113 => (laws_FnUnframed.j0 k a0 l1 (!t113)))) = some r := h
  clear h
  have HC3 := Aside0.mk H
  clear H
  go_enter Try.func3, Try.ntmps3
  go_upto_region 1 with (fail)
  go_cut [23] (fun v23 wc => ∃ (kq : Nat) (x23_2 : Bool), v23 = .bool x23_2 ∧ Aside0 (laws_FnUnframed.j0 kq a0 l1 x23_2 = some r) ∧ Aside0 (kq ≤ k) ∧ Aside0 (Below w.heap.size w wc))
  case first =>
    have H := HC3.out
    clear HC3
    by_cases c4 : (a0.size : Int) > 2147483647
    · rw [if_pos c4] at H
      have c4b0 : decide (2147483647 < (a0.size : Int)) = true := decide_eq_true c4
      have c4b1 : decide (2147483647 < a0.size) = true := decide_eq_true (by omega)
      clear c4
      (first | rw [c4b0] | (simp only [i64_w, i32_w]; rw [c4b0]) | skip)
      have H' := Aside0.mk H
      clear H
      go_wp2
      go_meet
      case rel => exact ⟨_, (true), (by first | rfl | (simp; done) | (simp [*]; done)), H', ⟨by first | omega | exact Nat.le_refl _⟩, ⟨by repeat (first | (with_reducible first | exact HB.out | apply below_alloc | apply pw_below_drewN | apply below_drew1) | exact HB.out)⟩⟩
    · rw [if_neg c4] at H
      have c4b0 : decide (2147483647 < (a0.size : Int)) = false := decide_eq_false c4
      have c4b1 : decide (2147483647 < a0.size) = false := decide_eq_false (by omega)
      clear c4
      (first | rw [c4b0] | (simp only [i64_w, i32_w]; rw [c4b0]) | skip)
      replace H := Option.bind_eq_some_iff.mp H
      obtain ⟨t113, A50, H⟩ := H
      replace H : (laws_FnUnframed.j0 k a0 l1 (!t113)) = some r := H
      have A5 := Aside0.mk A50
      clear A50
      have H' := Aside0.mk H
      clear H
      go_wp2_with (first | (go_at_call 9; (with_reducible refine (laws_zzFits7.calls k _ _ l1 t113 _ ?side1 ?side2 A5.out).mono ?_); (case side1 => repeat (first | exact (Kd.C_below HR1.out HB.out) | (with_reducible refine Kd.C_alloc ?_ _) | (with_reducible refine Kd.C_drewN ?_ _) | (with_reducible refine Kd.C_drew ?_))); (case side2 => exact HC1.out); rintro e w6 ⟨rfl, hb⟩; have n0_ := Aside0.mk (below_step (by repeat (first | (with_reducible first | exact HB.out | apply below_alloc | apply pw_below_drewN | apply below_drew1) | exact HB.out)) hb); clear HB; have HB := n0_; clear n0_; (try clear hb); (try clear hb2); (try clear hk); (try clear hi)))
      go_meet
      case rel => exact ⟨_, (!t113), (by first | rfl | (simp; done) | (simp [*]; done)), H', ⟨by first | omega | exact Nat.le_refl _⟩, ⟨by repeat (first | (with_reducible first | exact HB.out | apply below_alloc | apply pw_below_drewN | apply below_drew1) | exact HB.out)⟩⟩
  case rest =>
    clear HC3
    try clear c1
    try clear p2
    try clear c3
    try clear c4
    try clear c4b0
    try clear c4b1
    obtain ⟨kq, x23_2, rfl, HA, HJ2, HB⟩ := hcut
    cases kq with
    | zero => exact absurd HA.out (by simp [laws_FnUnframed.j0])
    | succ kj2 =>
      have H := HA.out
      clear HA
      simp only [laws_FnUnframed.j0] at H
      by_cases c7 : x23_2 = true
      · subst c7
        have H1 : (some true) = some r := by rw [if_pos rfl] at H; exact H
        clear H
        have H := H1
        clear H1
        obtain rfl := Option.some.inj H
        go_wp2
        go_ret
        exact ⟨by first | rfl | (simp [errW_none, errW_some] <;> rfl) | (simp [*, errW_none, errW_some] <;> rfl), by repeat (first | (with_reducible first | exact HB.out | apply below_alloc | apply pw_below_drewN | apply below_drew1) | exact HB.out)⟩
      · replace c7 := Bool.eq_false_iff.mpr c7
        subst c7
        have H1 : (if (a0.size : Int) > 1000 then (laws_FnUnframed.j1 kj2 a0 l1 true) else (laws_FnUnframed.j1 kj2 a0 l1 (decide ((l1.length : Int) > 30)))) = some r := by rw [if_neg (show ¬ (false = true) by decide)] at H; exact H
        clear H
        have H := H1
        clear H1
        have HC8 := Aside0.mk H
        clear H
        go_upto_region 3 with (fail)
        go_cut [31] (fun v31 wc => ∃ (kq : Nat) (x31_7 : Bool), v31 = .bool x31_7 ∧ Aside0 (laws_FnUnframed.j1 kq a0 l1 x31_7 = some r) ∧ Aside0 (kq ≤ kj2) ∧ Aside0 (Below w.heap.size w wc))
        case first =>
          have H := HC8.out
          clear HC8
          by_cases c9 : (a0.size : Int) > 1000
          · rw [if_pos c9] at H
            have c9b0 : decide (1000 < (a0.size : Int)) = true := decide_eq_true c9
            have c9b1 : decide (1000 < a0.size) = true := decide_eq_true (by omega)
            clear c9
            (first | rw [c9b0] | (simp only [i64_w, i32_w]; rw [c9b0]) | skip)
            have H' := Aside0.mk H
            clear H
            go_wp2
            go_meet
            case rel => exact ⟨_, (true), (by first | rfl | (simp; done) | (simp [*]; done)), H', ⟨by have := HJ2.out; first | omega | exact Nat.le_refl _⟩, ⟨by repeat (first | (with_reducible first | exact HB.out | apply below_alloc | apply pw_below_drewN | apply below_drew1) | exact HB.out)⟩⟩
          · rw [if_neg c9] at H
            have c9b0 : decide (1000 < (a0.size : Int)) = false := decide_eq_false c9
            have c9b1 : decide (1000 < a0.size) = false := decide_eq_false (by omega)
            clear c9
            (first | rw [c9b0] | (simp only [i64_w, i32_w]; rw [c9b0]) | skip)
            have H' := Aside0.mk H
            clear H
            go_wp2
            go_meet
            case rel => exact ⟨_, (decide ((l1.length : Int) > 30)), (by first | rfl | (simp; done) | (simp [*]; done)), H', ⟨by have := HJ2.out; first | omega | exact Nat.le_refl _⟩, ⟨by repeat (first | (with_reducible first | exact HB.out | apply below_alloc | apply pw_below_drewN | apply below_drew1) | exact HB.out)⟩⟩
        case rest =>
          clear HC8
          try clear c1
          try clear p2
          try clear c3
          try clear c4
          try clear c4b0
          try clear c4b1
          try clear c7
          try clear c9
          try clear c9b0
          try clear c9b1
          try clear p2
          obtain ⟨kq, x31_7, rfl, HA, HJ7, HB⟩ := hcut
          cases kq with
          | zero => exact absurd HA.out (by simp [laws_FnUnframed.j1])
          | succ kj7 =>
            have H := HA.out
            clear HA
            simp only [laws_FnUnframed.j1] at H
            by_cases c10 : x31_7 = true
            · subst c10
              have H1 : (some true) = some r := by rw [if_pos rfl] at H; exact H
              clear H
              have H := H1
              clear H1
              obtain rfl := Option.some.inj H
              go_wp2
              go_ret
              exact ⟨by first | rfl | (simp [errW_none, errW_some] <;> rfl) | (simp [*, errW_none, errW_some] <;> rfl), by repeat (first | (with_reducible first | exact HB.out | apply below_alloc | apply pw_below_drewN | apply below_drew1) | exact HB.out)⟩
            · replace c10 := Bool.eq_false_iff.mpr c10
              subst c10
              have H1 : (laws_FnUnframed.l0 kj7 a0 l1 0) = some r := by rw [if_neg (show ¬ (false = true) by decide)] at H; exact H
              clear H
              have H := H1
              clear H1
              have H' := Aside0.mk H
              clear H
              go_wp2
              go_loopg [5] kj7 (fun kq v5 w' => ∃ (x5_3 : Int), v5 = .int .i64 x5_3 ∧ Aside0 (laws_FnUnframed.l0 kq a0 l1 x5_3 = some r) ∧ Aside0 (kq ≤ kj7) ∧ Aside0 (Below w.heap.size w w'))
              case atStart => exact ⟨(0), (by first | rfl | (simp; done) | (simp [*]; done)), H', ⟨Nat.le_refl _⟩, ⟨by repeat (first | (with_reducible first | exact HB.out | apply below_alloc | apply pw_below_drewN | apply below_drew1) | exact HB.out)⟩⟩
              case round =>
                clear H'
                try clear c1
                try clear p2
                try clear c3
                try clear c4
                try clear c4b0
                try clear c4b1
                try clear c7
                try clear c9
                try clear c9b0
                try clear c9b1
                try clear c10
                try clear p2
                obtain ⟨x5_3, rfl, HA, HK3, HB⟩ := hrel
                cases gk with
                | zero => exact absurd HA.out (by simp [laws_FnUnframed.l0])
                | succ k3 =>
                  have H := HA.out
                  clear HA
                  simp only [laws_FnUnframed.l0] at H
                  by_cases c11 : x5_3 < (l1.length : Int)
                  · rw [if_pos c11] at H
                    have c11b0 : decide (x5_3 < (l1.length : Int)) = true := decide_eq_true c11
                    clear c11
                    by_cases c12 : 0 ≤ x5_3
                    · rw [if_pos c12] at H
                      have c12b0 : decide (0 ≤ x5_3) = true := decide_eq_true c12
                      clear c12
                      by_cases c13 : ((rd_T25 l1 x5_3).f0) < 1
                      · rw [if_pos c13] at H
                        have c13b0 : decide (((rd_T25 l1 x5_3).f0) < 1) = true := decide_eq_true c13
                        clear c13
                        obtain rfl := Option.some.inj H
                        have p114 : 0 ≤ (x5_3 : Int) := of_decide_eq_true (by first | (with_reducible assumption) | assumption)
                        have q114 : x5_3 < (l1.length : Int) := of_decide_eq_true (by first | (with_reducible assumption) | assumption)
                        obtain ⟨ad114, e114, hx114_0, hx114_1, hx114_2⟩ := at_T25 HR1.out x5_3 p114 q114
                        cases e114
                        replace hx114_0 := (HB.out.cell (World.block_lt_of_cell? w _ hx114_0)).trans hx114_0
                        replace hx114_1 := (HB.out.cell (World.block_lt_of_cell? w _ hx114_1)).trans hx114_1
                        replace hx114_2 := (HB.out.cell (World.block_lt_of_cell? w _ hx114_2)).trans hx114_2
                        replace p114 := eq_true p114
                        replace q114 := eq_true q114
                        go_wp2_with (first | ((with_reducible refine gate_dst (N := 6) rfl ?_); (try (refine gate_guard (by rfl) ?_; dsimp only)); refine box_event ?hg (N := 6) ?hd (cs := #[.int .i64 0, .int .i64 0, .string (⟨#[]⟩ : ByteArray)]) (t := 25) ?hr ?_; (case hd => rfl); (case hg => rfl); (case hr => first | (go_simp; done) | (go_simp; rfl)); intro gb115 hg w14 hbox hb; have n0_ := Aside0.mk (below_step (by repeat (first | (with_reducible first | exact HB.out | apply below_alloc | apply pw_below_drewN | apply below_drew1) | exact HB.out)) hb); have n1_ := Aside0.mk (hbox); have n2_ := Aside0.mk ((by rw [hg]; exact (below_size (by repeat (first | (with_reducible first | exact HB.out | apply below_alloc | apply pw_below_drewN | apply below_drew1) | exact HB.out))) : w.heap.size ≤ gb115)); have n3_ := Aside0.mk ((by rw [hg]; exact (below_size (by repeat (first | (with_reducible first | exact HB.out | apply below_alloc | apply pw_below_drewN | apply below_drew1) | exact HB.out))) : w.heap.size ≤ gb115)); clear HB; have HB := n0_; have BK115 := n1_; have GW115 := n2_; have GE115 := n3_; clear n0_ n1_ n2_ n3_; clear hb hbox hg; have hcz15_0 : w14.cell? ⟨gb115, 0, none⟩ = some (.int .i64 0) := (blk_cell BK115.out 0).trans rfl; have hcz15_1 : w14.cell? ⟨gb115, 1, none⟩ = some (.int .i64 0) := (blk_cell BK115.out 1).trans rfl; have hcz15_2 : w14.cell? ⟨gb115, 2, none⟩ = some (.string (⟨#[]⟩ : ByteArray)) := (blk_cell BK115.out 2).trans rfl; have hfz15_0 := blk_frozen BK115.out 0; have hfz15_1 := blk_frozen BK115.out 1; have hfz15_2 := blk_frozen BK115.out 2))
                        go_ret
                        exact ⟨by first | rfl | (simp [errW_none, errW_some] <;> rfl) | (simp [*, errW_none, errW_some] <;> rfl), by repeat (first | (with_reducible first | exact HB.out | apply below_alloc | apply pw_below_drewN | apply below_drew1 | refine below_set ?_ GE115.out) | exact HB.out)⟩
                      · rw [if_neg c13] at H
                        have c13b0 : decide (((rd_T25 l1 x5_3).f0) < 1) = false := decide_eq_false c13
                        clear c13
                        by_cases c16 : ((rd_T25 l1 x5_3).f0) > 5
                        · rw [if_pos c16] at H
                          have c16b0 : decide (5 < ((rd_T25 l1 x5_3).f0)) = true := decide_eq_true c16
                          clear c16
                          obtain rfl := Option.some.inj H
                          have p114 : 0 ≤ (x5_3 : Int) := of_decide_eq_true (by first | (with_reducible assumption) | assumption)
                          have q114 : x5_3 < (l1.length : Int) := of_decide_eq_true (by first | (with_reducible assumption) | assumption)
                          obtain ⟨ad114, e114, hx114_0, hx114_1, hx114_2⟩ := at_T25 HR1.out x5_3 p114 q114
                          cases e114
                          replace hx114_0 := (HB.out.cell (World.block_lt_of_cell? w _ hx114_0)).trans hx114_0
                          replace hx114_1 := (HB.out.cell (World.block_lt_of_cell? w _ hx114_1)).trans hx114_1
                          replace hx114_2 := (HB.out.cell (World.block_lt_of_cell? w _ hx114_2)).trans hx114_2
                          replace p114 := eq_true p114
                          replace q114 := eq_true q114
                          go_wp2_with (first | ((with_reducible refine gate_dst (N := 6) rfl ?_); (try (refine gate_guard (by rfl) ?_; dsimp only)); refine box_event ?hg (N := 6) ?hd (cs := #[.int .i64 0, .int .i64 0, .string (⟨#[]⟩ : ByteArray)]) (t := 25) ?hr ?_; (case hd => rfl); (case hg => rfl); (case hr => first | (go_simp; done) | (go_simp; rfl)); intro gb115 hg w17 hbox hb; have n0_ := Aside0.mk (below_step (by repeat (first | (with_reducible first | exact HB.out | apply below_alloc | apply pw_below_drewN | apply below_drew1) | exact HB.out)) hb); have n1_ := Aside0.mk (hbox); have n2_ := Aside0.mk ((by rw [hg]; exact (below_size (by repeat (first | (with_reducible first | exact HB.out | apply below_alloc | apply pw_below_drewN | apply below_drew1) | exact HB.out))) : w.heap.size ≤ gb115)); have n3_ := Aside0.mk ((by rw [hg]; exact (below_size (by repeat (first | (with_reducible first | exact HB.out | apply below_alloc | apply pw_below_drewN | apply below_drew1) | exact HB.out))) : w.heap.size ≤ gb115)); clear HB; have HB := n0_; have BK115 := n1_; have GW115 := n2_; have GE115 := n3_; clear n0_ n1_ n2_ n3_; clear hb hbox hg; have hcz18_0 : w17.cell? ⟨gb115, 0, none⟩ = some (.int .i64 0) := (blk_cell BK115.out 0).trans rfl; have hcz18_1 : w17.cell? ⟨gb115, 1, none⟩ = some (.int .i64 0) := (blk_cell BK115.out 1).trans rfl; have hcz18_2 : w17.cell? ⟨gb115, 2, none⟩ = some (.string (⟨#[]⟩ : ByteArray)) := (blk_cell BK115.out 2).trans rfl; have hfz18_0 := blk_frozen BK115.out 0; have hfz18_1 := blk_frozen BK115.out 1; have hfz18_2 := blk_frozen BK115.out 2))
                          go_ret
                          exact ⟨by first | rfl | (simp [errW_none, errW_some] <;> rfl) | (simp [*, errW_none, errW_some] <;> rfl), by repeat (first | (with_reducible first | exact HB.out | apply below_alloc | apply pw_below_drewN | apply below_drew1 | refine below_set ?_ GE115.out) | exact HB.out)⟩
                        · rw [if_neg c16] at H
                          have c16b0 : decide (5 < ((rd_T25 l1 x5_3).f0)) = false := decide_eq_false c16
                          clear c16
                          by_cases c19 : ((rd_T25 l1 x5_3).f2).toList = ([] : List UInt8)
                          · rw [if_pos c19] at H
                            have c19b0 : (((rd_T25 l1 x5_3).f2).toList == ([] : List UInt8)) = true := beq_iff_eq.mpr c19
                            have c19b1 : (((rd_T25 l1 x5_3).f2).toList != ([] : List UInt8)) = false := bne_eq_false_iff_eq.mpr c19
                            clear c19
                            by_cases c20 : ((rd_T25 l1 x5_3).f1) < 0
                            · rw [if_pos c20] at H
                              have c20b0 : decide (((rd_T25 l1 x5_3).f1) < 0) = true := decide_eq_true c20
                              clear c20
                              obtain rfl := Option.some.inj H
                              have p114 : 0 ≤ (x5_3 : Int) := of_decide_eq_true (by first | (with_reducible assumption) | assumption)
                              have q114 : x5_3 < (l1.length : Int) := of_decide_eq_true (by first | (with_reducible assumption) | assumption)
                              obtain ⟨ad114, e114, hx114_0, hx114_1, hx114_2⟩ := at_T25 HR1.out x5_3 p114 q114
                              cases e114
                              replace hx114_0 := (HB.out.cell (World.block_lt_of_cell? w _ hx114_0)).trans hx114_0
                              replace hx114_1 := (HB.out.cell (World.block_lt_of_cell? w _ hx114_1)).trans hx114_1
                              replace hx114_2 := (HB.out.cell (World.block_lt_of_cell? w _ hx114_2)).trans hx114_2
                              replace p114 := eq_true p114
                              replace q114 := eq_true q114
                              go_wp2_with (first | ((with_reducible refine gate_dst (N := 6) rfl ?_); (try (refine gate_guard (by rfl) ?_; dsimp only)); refine box_event ?hg (N := 6) ?hd (cs := #[.int .i64 0, .int .i64 0, .string (⟨#[]⟩ : ByteArray)]) (t := 25) ?hr ?_; (case hd => rfl); (case hg => rfl); (case hr => first | (go_simp; done) | (go_simp; rfl)); intro gb115 hg w21 hbox hb; have n0_ := Aside0.mk (below_step (by repeat (first | (with_reducible first | exact HB.out | apply below_alloc | apply pw_below_drewN | apply below_drew1) | exact HB.out)) hb); have n1_ := Aside0.mk (hbox); have n2_ := Aside0.mk ((by rw [hg]; exact (below_size (by repeat (first | (with_reducible first | exact HB.out | apply below_alloc | apply pw_below_drewN | apply below_drew1) | exact HB.out))) : w.heap.size ≤ gb115)); have n3_ := Aside0.mk ((by rw [hg]; exact (below_size (by repeat (first | (with_reducible first | exact HB.out | apply below_alloc | apply pw_below_drewN | apply below_drew1) | exact HB.out))) : w.heap.size ≤ gb115)); clear HB; have HB := n0_; have BK115 := n1_; have GW115 := n2_; have GE115 := n3_; clear n0_ n1_ n2_ n3_; clear hb hbox hg; have hcz22_0 : w21.cell? ⟨gb115, 0, none⟩ = some (.int .i64 0) := (blk_cell BK115.out 0).trans rfl; have hcz22_1 : w21.cell? ⟨gb115, 1, none⟩ = some (.int .i64 0) := (blk_cell BK115.out 1).trans rfl; have hcz22_2 : w21.cell? ⟨gb115, 2, none⟩ = some (.string (⟨#[]⟩ : ByteArray)) := (blk_cell BK115.out 2).trans rfl; have hfz22_0 := blk_frozen BK115.out 0; have hfz22_1 := blk_frozen BK115.out 1; have hfz22_2 := blk_frozen BK115.out 2))
                              go_ret
                              exact ⟨by first | rfl | (simp [errW_none, errW_some] <;> rfl) | (simp [*, errW_none, errW_some] <;> rfl), by repeat (first | (with_reducible first | exact HB.out | apply below_alloc | apply pw_below_drewN | apply below_drew1 | refine below_set ?_ GE115.out) | exact HB.out)⟩
                            · rw [if_neg c20] at H
                              have c20b0 : decide (((rd_T25 l1 x5_3).f1) < 0) = false := decide_eq_false c20
                              clear c20
                              by_cases c23 : ((rd_T25 l1 x5_3).f1) > 2000
                              · rw [if_pos c23] at H
                                have c23b0 : decide (2000 < ((rd_T25 l1 x5_3).f1)) = true := decide_eq_true c23
                                clear c23
                                obtain rfl := Option.some.inj H
                                have p114 : 0 ≤ (x5_3 : Int) := of_decide_eq_true (by first | (with_reducible assumption) | assumption)
                                have q114 : x5_3 < (l1.length : Int) := of_decide_eq_true (by first | (with_reducible assumption) | assumption)
                                obtain ⟨ad114, e114, hx114_0, hx114_1, hx114_2⟩ := at_T25 HR1.out x5_3 p114 q114
                                cases e114
                                replace hx114_0 := (HB.out.cell (World.block_lt_of_cell? w _ hx114_0)).trans hx114_0
                                replace hx114_1 := (HB.out.cell (World.block_lt_of_cell? w _ hx114_1)).trans hx114_1
                                replace hx114_2 := (HB.out.cell (World.block_lt_of_cell? w _ hx114_2)).trans hx114_2
                                replace p114 := eq_true p114
                                replace q114 := eq_true q114
                                go_wp2_with (first | ((with_reducible refine gate_dst (N := 6) rfl ?_); (try (refine gate_guard (by rfl) ?_; dsimp only)); refine box_event ?hg (N := 6) ?hd (cs := #[.int .i64 0, .int .i64 0, .string (⟨#[]⟩ : ByteArray)]) (t := 25) ?hr ?_; (case hd => rfl); (case hg => rfl); (case hr => first | (go_simp; done) | (go_simp; rfl)); intro gb115 hg w24 hbox hb; have n0_ := Aside0.mk (below_step (by repeat (first | (with_reducible first | exact HB.out | apply below_alloc | apply pw_below_drewN | apply below_drew1) | exact HB.out)) hb); have n1_ := Aside0.mk (hbox); have n2_ := Aside0.mk ((by rw [hg]; exact (below_size (by repeat (first | (with_reducible first | exact HB.out | apply below_alloc | apply pw_below_drewN | apply below_drew1) | exact HB.out))) : w.heap.size ≤ gb115)); have n3_ := Aside0.mk ((by rw [hg]; exact (below_size (by repeat (first | (with_reducible first | exact HB.out | apply below_alloc | apply pw_below_drewN | apply below_drew1) | exact HB.out))) : w.heap.size ≤ gb115)); clear HB; have HB := n0_; have BK115 := n1_; have GW115 := n2_; have GE115 := n3_; clear n0_ n1_ n2_ n3_; clear hb hbox hg; have hcz25_0 : w24.cell? ⟨gb115, 0, none⟩ = some (.int .i64 0) := (blk_cell BK115.out 0).trans rfl; have hcz25_1 : w24.cell? ⟨gb115, 1, none⟩ = some (.int .i64 0) := (blk_cell BK115.out 1).trans rfl; have hcz25_2 : w24.cell? ⟨gb115, 2, none⟩ = some (.string (⟨#[]⟩ : ByteArray)) := (blk_cell BK115.out 2).trans rfl; have hfz25_0 := blk_frozen BK115.out 0; have hfz25_1 := blk_frozen BK115.out 1; have hfz25_2 := blk_frozen BK115.out 2))
                                go_ret
                                exact ⟨by first | rfl | (simp [errW_none, errW_some] <;> rfl) | (simp [*, errW_none, errW_some] <;> rfl), by repeat (first | (with_reducible first | exact HB.out | apply below_alloc | apply pw_below_drewN | apply below_drew1 | refine below_set ?_ GE115.out) | exact HB.out)⟩
                              · rw [if_neg c23] at H
                                have c23b0 : decide (2000 < ((rd_T25 l1 x5_3).f1)) = false := decide_eq_false c23
                                clear c23
                                by_cases c26 : ((rd_T25 l1 x5_3).f0) = 5
                                · rw [if_pos c26] at H
                                  have c26b0 : (((rd_T25 l1 x5_3).f0) == 5) = true := beq_iff_eq.mpr c26
                                  have c26b1 : (((rd_T25 l1 x5_3).f0) != 5) = false := bne_eq_false_iff_eq.mpr c26
                                  clear c26
                                  have H' := Aside0.mk H
                                  clear H
                                  have p114 : 0 ≤ (x5_3 : Int) := of_decide_eq_true (by first | (with_reducible assumption) | assumption)
                                  have q114 : x5_3 < (l1.length : Int) := of_decide_eq_true (by first | (with_reducible assumption) | assumption)
                                  obtain ⟨ad114, e114, hx114_0, hx114_1, hx114_2⟩ := at_T25 HR1.out x5_3 p114 q114
                                  cases e114
                                  replace hx114_0 := (HB.out.cell (World.block_lt_of_cell? w _ hx114_0)).trans hx114_0
                                  replace hx114_1 := (HB.out.cell (World.block_lt_of_cell? w _ hx114_1)).trans hx114_1
                                  replace hx114_2 := (HB.out.cell (World.block_lt_of_cell? w _ hx114_2)).trans hx114_2
                                  replace p114 := eq_true p114
                                  replace q114 := eq_true q114
                                  go_wp2_with (first | ((with_reducible refine gate_dst (N := 6) rfl ?_); (try (refine gate_guard (by rfl) ?_; dsimp only)); refine box_event ?hg (N := 6) ?hd (cs := #[.int .i64 0, .int .i64 0, .string (⟨#[]⟩ : ByteArray)]) (t := 25) ?hr ?_; (case hd => rfl); (case hg => rfl); (case hr => first | (go_simp; done) | (go_simp; rfl)); intro gb115 hg w27 hbox hb; have n0_ := Aside0.mk (below_step (by repeat (first | (with_reducible first | exact HB.out | apply below_alloc | apply pw_below_drewN | apply below_drew1) | exact HB.out)) hb); have n1_ := Aside0.mk (hbox); have n2_ := Aside0.mk ((by rw [hg]; exact (below_size (by repeat (first | (with_reducible first | exact HB.out | apply below_alloc | apply pw_below_drewN | apply below_drew1) | exact HB.out))) : w.heap.size ≤ gb115)); have n3_ := Aside0.mk ((by rw [hg]; exact (below_size (by repeat (first | (with_reducible first | exact HB.out | apply below_alloc | apply pw_below_drewN | apply below_drew1) | exact HB.out))) : w.heap.size ≤ gb115)); clear HB; have HB := n0_; have BK115 := n1_; have GW115 := n2_; have GE115 := n3_; clear n0_ n1_ n2_ n3_; clear hb hbox hg; have hcz28_0 : w27.cell? ⟨gb115, 0, none⟩ = some (.int .i64 0) := (blk_cell BK115.out 0).trans rfl; have hcz28_1 : w27.cell? ⟨gb115, 1, none⟩ = some (.int .i64 0) := (blk_cell BK115.out 1).trans rfl; have hcz28_2 : w27.cell? ⟨gb115, 2, none⟩ = some (.string (⟨#[]⟩ : ByteArray)) := (blk_cell BK115.out 2).trans rfl; have hfz28_0 := blk_frozen BK115.out 0; have hfz28_1 := blk_frozen BK115.out 1; have hfz28_2 := blk_frozen BK115.out 2))
                                  go_roundg k3
                                  case measure => have := HJ2.out; have := HJ7.out; have := HK3.out; omega
                                  case rel => exact ⟨(wrap64 (x5_3 + 1)), (by first | rfl | (simp; done) | (simp [*]; done)), H', ⟨by have := HJ2.out; have := HJ7.out; have := HK3.out; omega⟩, ⟨by repeat (first | (with_reducible first | exact HB.out | apply below_alloc | apply pw_below_drewN | apply below_drew1 | refine below_set ?_ GE115.out) | exact HB.out)⟩⟩
                                · rw [if_neg c26] at H
                                  have c26b0 : (((rd_T25 l1 x5_3).f0) == 5) = false := beq_eq_false_iff_ne.mpr c26
                                  have c26b1 : (((rd_T25 l1 x5_3).f0) != 5) = true := bne_iff_ne.mpr c26
                                  by_cases c29 : ((rd_T25 l1 x5_3).f1) = 0
                                  · rw [if_pos c29] at H
                                    have c29b0 : (((rd_T25 l1 x5_3).f1) == 0) = true := beq_iff_eq.mpr c29
                                    have c29b1 : (((rd_T25 l1 x5_3).f1) != 0) = false := bne_eq_false_iff_eq.mpr c29
                                    clear c29
                                    have H' := Aside0.mk H
                                    clear H
                                    have p114 : 0 ≤ (x5_3 : Int) := of_decide_eq_true (by first | (with_reducible assumption) | assumption)
                                    have q114 : x5_3 < (l1.length : Int) := of_decide_eq_true (by first | (with_reducible assumption) | assumption)
                                    obtain ⟨ad114, e114, hx114_0, hx114_1, hx114_2⟩ := at_T25 HR1.out x5_3 p114 q114
                                    cases e114
                                    replace hx114_0 := (HB.out.cell (World.block_lt_of_cell? w _ hx114_0)).trans hx114_0
                                    replace hx114_1 := (HB.out.cell (World.block_lt_of_cell? w _ hx114_1)).trans hx114_1
                                    replace hx114_2 := (HB.out.cell (World.block_lt_of_cell? w _ hx114_2)).trans hx114_2
                                    replace p114 := eq_true p114
                                    replace q114 := eq_true q114
                                    go_wp2_with (first | ((with_reducible refine gate_dst (N := 6) rfl ?_); (try (refine gate_guard (by rfl) ?_; dsimp only)); refine box_event ?hg (N := 6) ?hd (cs := #[.int .i64 0, .int .i64 0, .string (⟨#[]⟩ : ByteArray)]) (t := 25) ?hr ?_; (case hd => rfl); (case hg => rfl); (case hr => first | (go_simp; done) | (go_simp; rfl)); intro gb115 hg w30 hbox hb; have n0_ := Aside0.mk (below_step (by repeat (first | (with_reducible first | exact HB.out | apply below_alloc | apply pw_below_drewN | apply below_drew1) | exact HB.out)) hb); have n1_ := Aside0.mk (hbox); have n2_ := Aside0.mk ((by rw [hg]; exact (below_size (by repeat (first | (with_reducible first | exact HB.out | apply below_alloc | apply pw_below_drewN | apply below_drew1) | exact HB.out))) : w.heap.size ≤ gb115)); have n3_ := Aside0.mk ((by rw [hg]; exact (below_size (by repeat (first | (with_reducible first | exact HB.out | apply below_alloc | apply pw_below_drewN | apply below_drew1) | exact HB.out))) : w.heap.size ≤ gb115)); clear HB; have HB := n0_; have BK115 := n1_; have GW115 := n2_; have GE115 := n3_; clear n0_ n1_ n2_ n3_; clear hb hbox hg; have hcz31_0 : w30.cell? ⟨gb115, 0, none⟩ = some (.int .i64 0) := (blk_cell BK115.out 0).trans rfl; have hcz31_1 : w30.cell? ⟨gb115, 1, none⟩ = some (.int .i64 0) := (blk_cell BK115.out 1).trans rfl; have hcz31_2 : w30.cell? ⟨gb115, 2, none⟩ = some (.string (⟨#[]⟩ : ByteArray)) := (blk_cell BK115.out 2).trans rfl; have hfz31_0 := blk_frozen BK115.out 0; have hfz31_1 := blk_frozen BK115.out 1; have hfz31_2 := blk_frozen BK115.out 2))
                                    go_roundg k3
                                    case measure => have := HJ2.out; have := HJ7.out; have := HK3.out; omega
                                    case rel => exact ⟨(wrap64 (x5_3 + 1)), (by first | rfl | (simp; done) | (simp [*]; done)), H', ⟨by have := HJ2.out; have := HJ7.out; have := HK3.out; omega⟩, ⟨by repeat (first | (with_reducible first | exact HB.out | apply below_alloc | apply pw_below_drewN | apply below_drew1 | refine below_set ?_ GE115.out) | exact HB.out)⟩⟩
                                  · rw [if_neg c29] at H
                                    have c29b0 : (((rd_T25 l1 x5_3).f1) == 0) = false := beq_eq_false_iff_ne.mpr c29
                                    have c29b1 : (((rd_T25 l1 x5_3).f1) != 0) = true := bne_iff_ne.mpr c29
                                    obtain rfl := Option.some.inj H
                                    have p114 : 0 ≤ (x5_3 : Int) := of_decide_eq_true (by first | (with_reducible assumption) | assumption)
                                    have q114 : x5_3 < (l1.length : Int) := of_decide_eq_true (by first | (with_reducible assumption) | assumption)
                                    obtain ⟨ad114, e114, hx114_0, hx114_1, hx114_2⟩ := at_T25 HR1.out x5_3 p114 q114
                                    cases e114
                                    replace hx114_0 := (HB.out.cell (World.block_lt_of_cell? w _ hx114_0)).trans hx114_0
                                    replace hx114_1 := (HB.out.cell (World.block_lt_of_cell? w _ hx114_1)).trans hx114_1
                                    replace hx114_2 := (HB.out.cell (World.block_lt_of_cell? w _ hx114_2)).trans hx114_2
                                    replace p114 := eq_true p114
                                    replace q114 := eq_true q114
                                    go_wp2_with (first | ((with_reducible refine gate_dst (N := 6) rfl ?_); (try (refine gate_guard (by rfl) ?_; dsimp only)); refine box_event ?hg (N := 6) ?hd (cs := #[.int .i64 0, .int .i64 0, .string (⟨#[]⟩ : ByteArray)]) (t := 25) ?hr ?_; (case hd => rfl); (case hg => rfl); (case hr => first | (go_simp; done) | (go_simp; rfl)); intro gb115 hg w32 hbox hb; have n0_ := Aside0.mk (below_step (by repeat (first | (with_reducible first | exact HB.out | apply below_alloc | apply pw_below_drewN | apply below_drew1) | exact HB.out)) hb); have n1_ := Aside0.mk (hbox); have n2_ := Aside0.mk ((by rw [hg]; exact (below_size (by repeat (first | (with_reducible first | exact HB.out | apply below_alloc | apply pw_below_drewN | apply below_drew1) | exact HB.out))) : w.heap.size ≤ gb115)); have n3_ := Aside0.mk ((by rw [hg]; exact (below_size (by repeat (first | (with_reducible first | exact HB.out | apply below_alloc | apply pw_below_drewN | apply below_drew1) | exact HB.out))) : w.heap.size ≤ gb115)); clear HB; have HB := n0_; have BK115 := n1_; have GW115 := n2_; have GE115 := n3_; clear n0_ n1_ n2_ n3_; clear hb hbox hg; have hcz33_0 : w32.cell? ⟨gb115, 0, none⟩ = some (.int .i64 0) := (blk_cell BK115.out 0).trans rfl; have hcz33_1 : w32.cell? ⟨gb115, 1, none⟩ = some (.int .i64 0) := (blk_cell BK115.out 1).trans rfl; have hcz33_2 : w32.cell? ⟨gb115, 2, none⟩ = some (.string (⟨#[]⟩ : ByteArray)) := (blk_cell BK115.out 2).trans rfl; have hfz33_0 := blk_frozen BK115.out 0; have hfz33_1 := blk_frozen BK115.out 1; have hfz33_2 := blk_frozen BK115.out 2))
                                    go_ret
                                    exact ⟨by first | rfl | (simp [errW_none, errW_some] <;> rfl) | (simp [*, errW_none, errW_some] <;> rfl), by repeat (first | (with_reducible first | exact HB.out | apply below_alloc | apply pw_below_drewN | apply below_drew1 | refine below_set ?_ GE115.out) | exact HB.out)⟩
                          · rw [if_neg c19] at H
                            have c19b0 : (((rd_T25 l1 x5_3).f2).toList == ([] : List UInt8)) = false := beq_eq_false_iff_ne.mpr c19
                            have c19b1 : (((rd_T25 l1 x5_3).f2).toList != ([] : List UInt8)) = true := bne_iff_ne.mpr c19
                            obtain rfl := Option.some.inj H
                            have p114 : 0 ≤ (x5_3 : Int) := of_decide_eq_true (by first | (with_reducible assumption) | assumption)
                            have q114 : x5_3 < (l1.length : Int) := of_decide_eq_true (by first | (with_reducible assumption) | assumption)
                            obtain ⟨ad114, e114, hx114_0, hx114_1, hx114_2⟩ := at_T25 HR1.out x5_3 p114 q114
                            cases e114
                            replace hx114_0 := (HB.out.cell (World.block_lt_of_cell? w _ hx114_0)).trans hx114_0
                            replace hx114_1 := (HB.out.cell (World.block_lt_of_cell? w _ hx114_1)).trans hx114_1
                            replace hx114_2 := (HB.out.cell (World.block_lt_of_cell? w _ hx114_2)).trans hx114_2
                            replace p114 := eq_true p114
                            replace q114 := eq_true q114
                            go_wp2_with (first | ((with_reducible refine gate_dst (N := 6) rfl ?_); (try (refine gate_guard (by rfl) ?_; dsimp only)); refine box_event ?hg (N := 6) ?hd (cs := #[.int .i64 0, .int .i64 0, .string (⟨#[]⟩ : ByteArray)]) (t := 25) ?hr ?_; (case hd => rfl); (case hg => rfl); (case hr => first | (go_simp; done) | (go_simp; rfl)); intro gb115 hg w34 hbox hb; have n0_ := Aside0.mk (below_step (by repeat (first | (with_reducible first | exact HB.out | apply below_alloc | apply pw_below_drewN | apply below_drew1) | exact HB.out)) hb); have n1_ := Aside0.mk (hbox); have n2_ := Aside0.mk ((by rw [hg]; exact (below_size (by repeat (first | (with_reducible first | exact HB.out | apply below_alloc | apply pw_below_drewN | apply below_drew1) | exact HB.out))) : w.heap.size ≤ gb115)); have n3_ := Aside0.mk ((by rw [hg]; exact (below_size (by repeat (first | (with_reducible first | exact HB.out | apply below_alloc | apply pw_below_drewN | apply below_drew1) | exact HB.out))) : w.heap.size ≤ gb115)); clear HB; have HB := n0_; have BK115 := n1_; have GW115 := n2_; have GE115 := n3_; clear n0_ n1_ n2_ n3_; clear hb hbox hg; have hcz35_0 : w34.cell? ⟨gb115, 0, none⟩ = some (.int .i64 0) := (blk_cell BK115.out 0).trans rfl; have hcz35_1 : w34.cell? ⟨gb115, 1, none⟩ = some (.int .i64 0) := (blk_cell BK115.out 1).trans rfl; have hcz35_2 : w34.cell? ⟨gb115, 2, none⟩ = some (.string (⟨#[]⟩ : ByteArray)) := (blk_cell BK115.out 2).trans rfl; have hfz35_0 := blk_frozen BK115.out 0; have hfz35_1 := blk_frozen BK115.out 1; have hfz35_2 := blk_frozen BK115.out 2))
                            go_ret
                            exact ⟨by first | rfl | (simp [errW_none, errW_some] <;> rfl) | (simp [*, errW_none, errW_some] <;> rfl), by repeat (first | (with_reducible first | exact HB.out | apply below_alloc | apply pw_below_drewN | apply below_drew1 | refine below_set ?_ GE115.out) | exact HB.out)⟩
                    · rw [if_neg c12] at H
                      exact absurd H (by simp)
                  · rw [if_neg c11] at H
                    have c11b0 : decide (x5_3 < (l1.length : Int)) = false := decide_eq_false c11
                    clear c11
                    replace H := Option.bind_eq_some_iff.mp H
                    obtain ⟨⟨t116, t117, t118⟩, A360, H⟩ := H
                    replace H : ((impl_Unframed.f k3 a0 l1).bind fun bt121 => (if t118 = true then (if bt121.2.2 = true then (if bt121.2.1.toList = t117.toList then ((laws_same7Pieces.f k3 bt121.1 t116).bind fun t126 => (some t126)) else (some false)) else (some false)) else ((impl_Unframed.f k3 (⟨#[97]⟩ : ByteArray) (([(⟨1, 0, (⟨#[]⟩ : ByteArray)⟩ : S25)] : List (S25)))).bind fun bt130 => (if bt121.2.2 = true then (some false) else (some bt130.2.2))))) = some r := H
                    have A36 := Aside0.mk A360
                    clear A360
                    replace H := Option.bind_eq_some_iff.mp H
                    obtain ⟨⟨t121, t122, t123⟩, A370, H⟩ := H
                    replace H : (if t118 = true then (if t123 = true then (if t122.toList = t117.toList then ((laws_same7Pieces.f k3 t121 t116).bind fun t126 => (some t126)) else (some false)) else (some false)) else ((impl_Unframed.f k3 (⟨#[97]⟩ : ByteArray) (([(⟨1, 0, (⟨#[]⟩ : ByteArray)⟩ : S25)] : List (S25)))).bind fun bt130 => (if t123 = true then (some false) else (some bt130.2.2)))) = some r := H
                    have A37 := Aside0.mk A370
                    clear A370
                    by_cases c38 : t118 = true
                    · subst c38
                      have H1 : (if t123 = true then (if t122.toList = t117.toList then ((laws_same7Pieces.f k3 t121 t116).bind fun t126 => (some t126)) else (some false)) else (some false)) = some r := by rw [if_pos rfl] at H; exact H
                      clear H
                      have H := H1
                      clear H1
                      by_cases c39 : t123 = true
                      · subst c39
                        have H1 : (if t122.toList = t117.toList then ((laws_same7Pieces.f k3 t121 t116).bind fun t126 => (some t126)) else (some false)) = some r := by rw [if_pos rfl] at H; exact H
                        clear H
                        have H := H1
                        clear H1
                        by_cases c40 : t122.toList = t117.toList
                        · rw [if_pos c40] at H
                          have c40b0 : (t122.toList == t117.toList) = true := beq_iff_eq.mpr c40
                          have c40b1 : (t122.toList != t117.toList) = false := bne_eq_false_iff_eq.mpr c40
                          clear c40
                          replace H := Option.bind_eq_some_iff.mp H
                          obtain ⟨t126, A410, H⟩ := H
                          replace H : (some t126) = some r := H
                          have A41 := Aside0.mk A410
                          clear A410
                          obtain rfl := Option.some.inj H
                          go_wp2_with (first | ((with_reducible refine gate_callee (f := 10) rfl ?_); refine goesL_ (some 78) rfl rfl Try.func10 (by kernel_rfl) rfl #[.string a0, .slice A1 l1.length c1] rfl (by (try simp only [List.map_toArray, List.map_cons, List.map_nil]); first | done | rfl | (simp only [List.length_drop, List.length_take]; rfl)) ?_; (with_reducible refine (spec_Unframed.calls a0 _ _ l1 t116 t117 true _ ?side1 ?side2 A36.out).mono ?_); (case side1 => repeat (first | exact (Kd.C_below HR1.out HB.out) | (with_reducible refine Kd.C_alloc ?_ _) | (with_reducible refine Kd.C_drewN ?_ _) | (with_reducible refine Kd.C_drew ?_))); (case side2 => exact HC1.out); rintro e w42 ⟨v119, rfl, ho0, hb⟩; refine ⟨_, rfl, ?_⟩; have n0_ := Aside0.mk (Kd.R_lower ho0 (below_size (by repeat (first | (with_reducible first | exact HB.out | apply below_alloc | apply pw_below_drewN | apply below_drew1) | exact HB.out)))); have n1_ := Aside0.mk (below_step (by repeat (first | (with_reducible first | exact HB.out | apply below_alloc | apply pw_below_drewN | apply below_drew1) | exact HB.out)) hb); clear HB; have HO120 := n0_; have HB := n1_; clear n0_ n1_; (try clear hb); (try clear hb2); (try clear hk); (try clear hi); (try clear ho0)) | ((with_reducible refine gate_callee (f := 11) rfl ?_); refine goesL_ (some 85) rfl rfl Try.func11 (by kernel_rfl) rfl #[.string a0, .slice A1 l1.length c1] rfl (by (try simp only [List.map_toArray, List.map_cons, List.map_nil]); first | done | rfl | (simp only [List.length_drop, List.length_take]; rfl)) ?_; (with_reducible refine (impl_Unframed.calls k3 a0 _ _ l1 t121 t122 true _ ?side1 ?side2 A37.out).mono ?_); (case side1 => repeat (first | exact (Kd.C_below HR1.out HB.out) | (with_reducible refine Kd.C_alloc ?_ _) | (with_reducible refine Kd.C_drewN ?_ _) | (with_reducible refine Kd.C_drew ?_))); (case side2 => exact HC1.out); rintro e w43 ⟨v124, rfl, ho0, hb⟩; refine ⟨_, rfl, ?_⟩; have n0_ := Aside0.mk (Kd.R_elder' (by (with_reducible repeat (first | apply Kd.R_alloc | apply Kd.R_drewN | apply Kd.R_drew)); exact HO120.out) (Kd.R_base ho0) hb); have n1_ := Aside0.mk (Kd.R_lower (Kd.R_new' ho0 (Kd.R_lt (by (with_reducible repeat (first | apply Kd.R_alloc | apply Kd.R_drewN | apply Kd.R_drew)); exact HO120.out))) (below_size (by repeat (first | (with_reducible first | exact HB.out | apply below_alloc | apply pw_below_drewN | apply below_drew1) | exact HB.out)))); have n2_ := Aside0.mk (below_step (by repeat (first | (with_reducible first | exact HB.out | apply below_alloc | apply pw_below_drewN | apply below_drew1) | exact HB.out)) hb); clear HO120; clear HB; have HO120 := n0_; have HO125 := n1_; have HB := n2_; clear n0_ n1_ n2_; (try clear hb); (try clear hb2); (try clear hk); (try clear hi); (try clear ho0); obtain ⟨Ao44, co44, eo44⟩ := Kd.R_slice HO125.out; subst eo44; obtain ⟨Ao45, co45, eo45⟩ := Kd.R_slice HO120.out; subst eo45) | (go_at_call 12; (with_reducible refine (laws_same7Pieces.calls k3 _ _ t121 _ _ t116 t126 _ ?side1 ?side2 ?side3 ?side4 A41.out).mono ?_); (case side1 => repeat (first | exact (Kd.R_reads' HO125.out).2.2 | (with_reducible refine Kd.C_alloc ?_ _) | (with_reducible refine Kd.C_drewN ?_ _) | (with_reducible refine Kd.C_drew ?_))); (case side2 => exact (Kd.R_reads' HO125.out).2.1); (case side3 => repeat (first | exact (Kd.R_reads' HO120.out).2.2 | (with_reducible refine Kd.C_alloc ?_ _) | (with_reducible refine Kd.C_drewN ?_ _) | (with_reducible refine Kd.C_drew ?_))); (case side4 => exact (Kd.R_reads' HO120.out).2.1); rintro e w' ⟨rfl, ⟨nd, rfl⟩⟩))
                          go_ret
                          exact ⟨by first | rfl | (simp [errW_none, errW_some] <;> rfl) | (simp [*, errW_none, errW_some] <;> rfl), by repeat (first | (with_reducible first | exact HB.out | apply below_alloc | apply pw_below_drewN | apply below_drew1) | exact HB.out)⟩
                        · rw [if_neg c40] at H
                          have c40b0 : (t122.toList == t117.toList) = false := beq_eq_false_iff_ne.mpr c40
                          have c40b1 : (t122.toList != t117.toList) = true := bne_iff_ne.mpr c40
                          obtain rfl := Option.some.inj H
                          go_wp2_with (first | ((with_reducible refine gate_callee (f := 10) rfl ?_); refine goesL_ (some 78) rfl rfl Try.func10 (by kernel_rfl) rfl #[.string a0, .slice A1 l1.length c1] rfl (by (try simp only [List.map_toArray, List.map_cons, List.map_nil]); first | done | rfl | (simp only [List.length_drop, List.length_take]; rfl)) ?_; (with_reducible refine (spec_Unframed.calls a0 _ _ l1 t116 t117 true _ ?side1 ?side2 A36.out).mono ?_); (case side1 => repeat (first | exact (Kd.C_below HR1.out HB.out) | (with_reducible refine Kd.C_alloc ?_ _) | (with_reducible refine Kd.C_drewN ?_ _) | (with_reducible refine Kd.C_drew ?_))); (case side2 => exact HC1.out); rintro e w46 ⟨v119, rfl, ho0, hb⟩; refine ⟨_, rfl, ?_⟩; have n0_ := Aside0.mk (Kd.R_lower ho0 (below_size (by repeat (first | (with_reducible first | exact HB.out | apply below_alloc | apply pw_below_drewN | apply below_drew1) | exact HB.out)))); have n1_ := Aside0.mk (below_step (by repeat (first | (with_reducible first | exact HB.out | apply below_alloc | apply pw_below_drewN | apply below_drew1) | exact HB.out)) hb); clear HB; have HO120 := n0_; have HB := n1_; clear n0_ n1_; (try clear hb); (try clear hb2); (try clear hk); (try clear hi); (try clear ho0)) | ((with_reducible refine gate_callee (f := 11) rfl ?_); refine goesL_ (some 85) rfl rfl Try.func11 (by kernel_rfl) rfl #[.string a0, .slice A1 l1.length c1] rfl (by (try simp only [List.map_toArray, List.map_cons, List.map_nil]); first | done | rfl | (simp only [List.length_drop, List.length_take]; rfl)) ?_; (with_reducible refine (impl_Unframed.calls k3 a0 _ _ l1 t121 t122 true _ ?side1 ?side2 A37.out).mono ?_); (case side1 => repeat (first | exact (Kd.C_below HR1.out HB.out) | (with_reducible refine Kd.C_alloc ?_ _) | (with_reducible refine Kd.C_drewN ?_ _) | (with_reducible refine Kd.C_drew ?_))); (case side2 => exact HC1.out); rintro e w47 ⟨v124, rfl, ho0, hb⟩; refine ⟨_, rfl, ?_⟩; have n0_ := Aside0.mk (Kd.R_elder' (by (with_reducible repeat (first | apply Kd.R_alloc | apply Kd.R_drewN | apply Kd.R_drew)); exact HO120.out) (Kd.R_base ho0) hb); have n1_ := Aside0.mk (Kd.R_lower (Kd.R_new' ho0 (Kd.R_lt (by (with_reducible repeat (first | apply Kd.R_alloc | apply Kd.R_drewN | apply Kd.R_drew)); exact HO120.out))) (below_size (by repeat (first | (with_reducible first | exact HB.out | apply below_alloc | apply pw_below_drewN | apply below_drew1) | exact HB.out)))); have n2_ := Aside0.mk (below_step (by repeat (first | (with_reducible first | exact HB.out | apply below_alloc | apply pw_below_drewN | apply below_drew1) | exact HB.out)) hb); clear HO120; clear HB; have HO120 := n0_; have HO125 := n1_; have HB := n2_; clear n0_ n1_ n2_; (try clear hb); (try clear hb2); (try clear hk); (try clear hi); (try clear ho0)))
                          go_ret
                          exact ⟨by first | rfl | (simp [errW_none, errW_some] <;> rfl) | (simp [*, errW_none, errW_some] <;> rfl), by repeat (first | (with_reducible first | exact HB.out | apply below_alloc | apply pw_below_drewN | apply below_drew1) | exact HB.out)⟩
                      · replace c39 := Bool.eq_false_iff.mpr c39
                        subst c39
                        have H1 : (some false) = some r := by rw [if_neg (show ¬ (false = true) by decide)] at H; exact H
                        clear H
                        have H := H1
                        clear H1
                        obtain rfl := Option.some.inj H
                        go_wp2_with (first | ((with_reducible refine gate_callee (f := 10) rfl ?_); refine goesL_ (some 78) rfl rfl Try.func10 (by kernel_rfl) rfl #[.string a0, .slice A1 l1.length c1] rfl (by (try simp only [List.map_toArray, List.map_cons, List.map_nil]); first | done | rfl | (simp only [List.length_drop, List.length_take]; rfl)) ?_; (with_reducible refine (spec_Unframed.calls a0 _ _ l1 t116 t117 true _ ?side1 ?side2 A36.out).mono ?_); (case side1 => repeat (first | exact (Kd.C_below HR1.out HB.out) | (with_reducible refine Kd.C_alloc ?_ _) | (with_reducible refine Kd.C_drewN ?_ _) | (with_reducible refine Kd.C_drew ?_))); (case side2 => exact HC1.out); rintro e w48 ⟨v119, rfl, ho0, hb⟩; refine ⟨_, rfl, ?_⟩; have n0_ := Aside0.mk (Kd.R_lower ho0 (below_size (by repeat (first | (with_reducible first | exact HB.out | apply below_alloc | apply pw_below_drewN | apply below_drew1) | exact HB.out)))); have n1_ := Aside0.mk (below_step (by repeat (first | (with_reducible first | exact HB.out | apply below_alloc | apply pw_below_drewN | apply below_drew1) | exact HB.out)) hb); clear HB; have HO120 := n0_; have HB := n1_; clear n0_ n1_; (try clear hb); (try clear hb2); (try clear hk); (try clear hi); (try clear ho0)) | ((with_reducible refine gate_callee (f := 11) rfl ?_); refine goesL_ (some 85) rfl rfl Try.func11 (by kernel_rfl) rfl #[.string a0, .slice A1 l1.length c1] rfl (by (try simp only [List.map_toArray, List.map_cons, List.map_nil]); first | done | rfl | (simp only [List.length_drop, List.length_take]; rfl)) ?_; (with_reducible refine (impl_Unframed.calls k3 a0 _ _ l1 t121 t122 false _ ?side1 ?side2 A37.out).mono ?_); (case side1 => repeat (first | exact (Kd.C_below HR1.out HB.out) | (with_reducible refine Kd.C_alloc ?_ _) | (with_reducible refine Kd.C_drewN ?_ _) | (with_reducible refine Kd.C_drew ?_))); (case side2 => exact HC1.out); rintro e w49 ⟨v124, rfl, ho0, hb⟩; refine ⟨_, rfl, ?_⟩; have n0_ := Aside0.mk (Kd.R_elder' (by (with_reducible repeat (first | apply Kd.R_alloc | apply Kd.R_drewN | apply Kd.R_drew)); exact HO120.out) (Kd.R_base ho0) hb); have n1_ := Aside0.mk (Kd.R_lower (Kd.R_new' ho0 (Kd.R_lt (by (with_reducible repeat (first | apply Kd.R_alloc | apply Kd.R_drewN | apply Kd.R_drew)); exact HO120.out))) (below_size (by repeat (first | (with_reducible first | exact HB.out | apply below_alloc | apply pw_below_drewN | apply below_drew1) | exact HB.out)))); have n2_ := Aside0.mk (below_step (by repeat (first | (with_reducible first | exact HB.out | apply below_alloc | apply pw_below_drewN | apply below_drew1) | exact HB.out)) hb); clear HO120; clear HB; have HO120 := n0_; have HO125 := n1_; have HB := n2_; clear n0_ n1_ n2_; (try clear hb); (try clear hb2); (try clear hk); (try clear hi); (try clear ho0)))
                        go_ret
                        exact ⟨by first | rfl | (simp [errW_none, errW_some] <;> rfl) | (simp [*, errW_none, errW_some] <;> rfl), by repeat (first | (with_reducible first | exact HB.out | apply below_alloc | apply pw_below_drewN | apply below_drew1) | exact HB.out)⟩
                    · replace c38 := Bool.eq_false_iff.mpr c38
                      subst c38
                      have H1 : ((impl_Unframed.f k3 (⟨#[97]⟩ : ByteArray) (([(⟨1, 0, (⟨#[]⟩ : ByteArray)⟩ : S25)] : List (S25)))).bind fun bt130 => (if t123 = true then (some false) else (some bt130.2.2))) = some r := by rw [if_neg (show ¬ (false = true) by decide)] at H; exact H
                      clear H
                      have H := H1
                      clear H1
                      obtain ⟨y127, hy127⟩ : ∃ y_ : List (S25), y_ = (([(⟨1, 0, (⟨#[]⟩ : ByteArray)⟩ : S25)] : List (S25))) := ⟨_, rfl⟩
                      replace H : ((impl_Unframed.f k3 (⟨#[97]⟩ : ByteArray) y127).bind fun bt130 => (if t123 = true then (some false) else (some bt130.2.2))) = some r := by first | (rw [hy127]; with_reducible exact H) | (have H2_ := (Option.bind_some _ _).symm.trans H; rw [hy127]; with_reducible exact H2_) | (have H2_ := (Option.bind_some _ _).symm.trans H; with_reducible exact H2_) | with_reducible exact H | (rw [hy127]; exact H) | exact H
                      have Ny127 := Aside0.mk hy127
                      clear hy127
                      replace H := Option.bind_eq_some_iff.mp H
                      obtain ⟨⟨t130, t131, t132⟩, A500, H⟩ := H
                      replace H : (if t123 = true then (some false) else (some t132)) = some r := H
                      have A50 := Aside0.mk A500
                      clear A500
                      by_cases c51 : t123 = true
                      · subst c51
                        have H1 : (some false) = some r := by rw [if_pos rfl] at H; exact H
                        clear H
                        have H := H1
                        clear H1
                        obtain rfl := Option.some.inj H
                        go_wp2_with (first | ((with_reducible refine gate_callee (f := 10) rfl ?_); refine goesL_ (some 78) rfl rfl Try.func10 (by kernel_rfl) rfl #[.string a0, .slice A1 l1.length c1] rfl (by (try simp only [List.map_toArray, List.map_cons, List.map_nil]); first | done | rfl | (simp only [List.length_drop, List.length_take]; rfl)) ?_; (with_reducible refine (spec_Unframed.calls a0 _ _ l1 t116 t117 false _ ?side1 ?side2 A36.out).mono ?_); (case side1 => repeat (first | exact (Kd.C_below HR1.out HB.out) | (with_reducible refine Kd.C_alloc ?_ _) | (with_reducible refine Kd.C_drewN ?_ _) | (with_reducible refine Kd.C_drew ?_))); (case side2 => exact HC1.out); rintro e w52 ⟨v119, rfl, ho0, hb⟩; refine ⟨_, rfl, ?_⟩; have n0_ := Aside0.mk (Kd.R_lower ho0 (below_size (by repeat (first | (with_reducible first | exact HB.out | apply below_alloc | apply pw_below_drewN | apply below_drew1) | exact HB.out)))); have n1_ := Aside0.mk (below_step (by repeat (first | (with_reducible first | exact HB.out | apply below_alloc | apply pw_below_drewN | apply below_drew1) | exact HB.out)) hb); clear HB; have HO120 := n0_; have HB := n1_; clear n0_ n1_; (try clear hb); (try clear hb2); (try clear hk); (try clear hi); (try clear ho0)) | ((with_reducible refine gate_callee (f := 11) rfl ?_); refine goesL_ (some 85) rfl rfl Try.func11 (by kernel_rfl) rfl #[.string a0, .slice A1 l1.length c1] rfl (by (try simp only [List.map_toArray, List.map_cons, List.map_nil]); first | done | rfl | (simp only [List.length_drop, List.length_take]; rfl)) ?_; (with_reducible refine (impl_Unframed.calls k3 a0 _ _ l1 t121 t122 true _ ?side1 ?side2 A37.out).mono ?_); (case side1 => repeat (first | exact (Kd.C_below HR1.out HB.out) | (with_reducible refine Kd.C_alloc ?_ _) | (with_reducible refine Kd.C_drewN ?_ _) | (with_reducible refine Kd.C_drew ?_))); (case side2 => exact HC1.out); rintro e w53 ⟨v124, rfl, ho0, hb⟩; refine ⟨_, rfl, ?_⟩; have n0_ := Aside0.mk (Kd.R_elder' (by (with_reducible repeat (first | apply Kd.R_alloc | apply Kd.R_drewN | apply Kd.R_drew)); exact HO120.out) (Kd.R_base ho0) hb); have n1_ := Aside0.mk (Kd.R_lower (Kd.R_new' ho0 (Kd.R_lt (by (with_reducible repeat (first | apply Kd.R_alloc | apply Kd.R_drewN | apply Kd.R_drew)); exact HO120.out))) (below_size (by repeat (first | (with_reducible first | exact HB.out | apply below_alloc | apply pw_below_drewN | apply below_drew1) | exact HB.out)))); have n2_ := Aside0.mk (below_step (by repeat (first | (with_reducible first | exact HB.out | apply below_alloc | apply pw_below_drewN | apply below_drew1) | exact HB.out)) hb); clear HO120; clear HB; have HO120 := n0_; have HO125 := n1_; have HB := n2_; clear n0_ n1_ n2_; (try clear hb); (try clear hb2); (try clear hk); (try clear hi); (try clear ho0)) | ((with_reducible refine gate_dst (N := 93) rfl ?_); (try (refine gate_guard (by rfl) ?_; dsimp only)); refine Kd.R_lit k25 _ 25 ?hg (N := 93) ?hd (xs := ([(⟨1, 0, (⟨#[]⟩ : ByteArray)⟩ : S25)] : List (S25))) (inner := [.int .i64 1, .int .i64 0, .string (⟨#[]⟩ : ByteArray)]) (ok := fun _ => True) (okp := fun _ => True) ?hr ?hp (fun _ hk => hk) trivial (Below.refl _ _) (Nat.le_refl _) (by simp) ?_; (case hd => rfl); (case hg => rfl); (case hr => first | (go_simp; done) | (go_simp; rfl)); (case hp => exact (Reps.c3 (show Kd.M k25 _ _ _ (⟨1, 0, (⟨#[]⟩ : ByteArray)⟩ : S25) [.int .i64 1, .int .i64 0, .string (⟨#[]⟩ : ByteArray)] from (k25_mkM _ _ _ (⟨1, 0, (⟨#[]⟩ : ByteArray)⟩ : S25) )) (Reps.none _ _))); intro v128 w54 ho55 hb hg_ hnew_; clear hg_ hnew_; (first | rw [← Ny127.out] at ho55 | (simp only [Int.reduceToNat] at ho55; rw [← Ny127.out] at ho55)); have n0_ := Aside0.mk (Kd.R_elder' (by (with_reducible repeat (first | apply Kd.R_alloc | apply Kd.R_drewN | apply Kd.R_drew)); exact HO120.out) (Kd.R_base ho55) hb); have n1_ := Aside0.mk (Kd.R_elder' (by (with_reducible repeat (first | apply Kd.R_alloc | apply Kd.R_drewN | apply Kd.R_drew)); exact HO125.out) (Kd.R_base ho55) hb); have n2_ := Aside0.mk (Kd.R_lower (Kd.R_new' (Kd.R_new' ho55 (Kd.R_lt (by (with_reducible repeat (first | apply Kd.R_alloc | apply Kd.R_drewN | apply Kd.R_drew)); exact HO120.out))) (Kd.R_lt (by (with_reducible repeat (first | apply Kd.R_alloc | apply Kd.R_drewN | apply Kd.R_drew)); exact HO125.out))) (below_size (by repeat (first | (with_reducible first | exact HB.out | apply below_alloc | apply pw_below_drewN | apply below_drew1) | exact HB.out)))); have n3_ := Aside0.mk (below_step (by repeat (first | (with_reducible first | exact HB.out | apply below_alloc | apply pw_below_drewN | apply below_drew1) | exact HB.out)) hb); clear HO120; clear HO125; clear HB; have HO120 := n0_; have HO125 := n1_; have HO129 := n2_; have HB := n3_; clear n0_ n1_ n2_ n3_; clear hb ho55; obtain ⟨Ao56, co56, eo56⟩ := Kd.R_slice HO129.out; subst eo56) | ((with_reducible refine gate_callee (f := 11) rfl ?_); refine goesL_ (some 94) rfl rfl Try.func11 (by kernel_rfl) rfl #[.string (⟨#[97]⟩ : ByteArray), .slice Ao56 y127.length co56] rfl (by (try simp only [List.map_toArray, List.map_cons, List.map_nil]); first | done | rfl | (simp only [List.length_drop, List.length_take]; rfl)) ?_; (with_reducible refine (impl_Unframed.calls k3 (⟨#[97]⟩ : ByteArray) _ _ y127 t130 t131 t132 _ ?side1 ?side2 A50.out).mono ?_); (case side1 => repeat (first | exact (Kd.R_reads' HO129.out).2.2 | (with_reducible refine Kd.C_alloc ?_ _) | (with_reducible refine Kd.C_drewN ?_ _) | (with_reducible refine Kd.C_drew ?_))); (case side2 => exact (Kd.R_reads' HO129.out).2.1); rintro e w57 ⟨v133, rfl, ho0, hb⟩; refine ⟨_, rfl, ?_⟩; have n0_ := Aside0.mk (Kd.R_elder' (by (with_reducible repeat (first | apply Kd.R_alloc | apply Kd.R_drewN | apply Kd.R_drew)); exact HO120.out) (Kd.R_base ho0) hb); have n1_ := Aside0.mk (Kd.R_elder' (by (with_reducible repeat (first | apply Kd.R_alloc | apply Kd.R_drewN | apply Kd.R_drew)); exact HO125.out) (Kd.R_base ho0) hb); have n2_ := Aside0.mk (Kd.R_elder' (by (with_reducible repeat (first | apply Kd.R_alloc | apply Kd.R_drewN | apply Kd.R_drew)); exact HO129.out) (Kd.R_base ho0) hb); have n3_ := Aside0.mk (Kd.R_lower (Kd.R_new' (Kd.R_new' (Kd.R_new' ho0 (Kd.R_lt (by (with_reducible repeat (first | apply Kd.R_alloc | apply Kd.R_drewN | apply Kd.R_drew)); exact HO120.out))) (Kd.R_lt (by (with_reducible repeat (first | apply Kd.R_alloc | apply Kd.R_drewN | apply Kd.R_drew)); exact HO125.out))) (Kd.R_lt (by (with_reducible repeat (first | apply Kd.R_alloc | apply Kd.R_drewN | apply Kd.R_drew)); exact HO129.out))) (below_size (by repeat (first | (with_reducible first | exact HB.out | apply below_alloc | apply pw_below_drewN | apply below_drew1) | exact HB.out)))); have n4_ := Aside0.mk (below_step (by repeat (first | (with_reducible first | exact HB.out | apply below_alloc | apply pw_below_drewN | apply below_drew1) | exact HB.out)) hb); clear HO120; clear HO125; clear HO129; clear HB; have HO120 := n0_; have HO125 := n1_; have HO129 := n2_; have HO134 := n3_; have HB := n4_; clear n0_ n1_ n2_ n3_ n4_; (try clear hb); (try clear hb2); (try clear hk); (try clear hi); (try clear ho0)))
                        go_ret
                        exact ⟨by first | rfl | (simp [errW_none, errW_some] <;> rfl) | (simp [*, errW_none, errW_some] <;> rfl), by repeat (first | (with_reducible first | exact HB.out | apply below_alloc | apply pw_below_drewN | apply below_drew1) | exact HB.out)⟩
                      · replace c51 := Bool.eq_false_iff.mpr c51
                        subst c51
                        have H1 : (some t132) = some r := by rw [if_neg (show ¬ (false = true) by decide)] at H; exact H
                        clear H
                        have H := H1
                        clear H1
                        obtain rfl := Option.some.inj H
                        go_wp2_with (first | ((with_reducible refine gate_callee (f := 10) rfl ?_); refine goesL_ (some 78) rfl rfl Try.func10 (by kernel_rfl) rfl #[.string a0, .slice A1 l1.length c1] rfl (by (try simp only [List.map_toArray, List.map_cons, List.map_nil]); first | done | rfl | (simp only [List.length_drop, List.length_take]; rfl)) ?_; (with_reducible refine (spec_Unframed.calls a0 _ _ l1 t116 t117 false _ ?side1 ?side2 A36.out).mono ?_); (case side1 => repeat (first | exact (Kd.C_below HR1.out HB.out) | (with_reducible refine Kd.C_alloc ?_ _) | (with_reducible refine Kd.C_drewN ?_ _) | (with_reducible refine Kd.C_drew ?_))); (case side2 => exact HC1.out); rintro e w58 ⟨v119, rfl, ho0, hb⟩; refine ⟨_, rfl, ?_⟩; have n0_ := Aside0.mk (Kd.R_lower ho0 (below_size (by repeat (first | (with_reducible first | exact HB.out | apply below_alloc | apply pw_below_drewN | apply below_drew1) | exact HB.out)))); have n1_ := Aside0.mk (below_step (by repeat (first | (with_reducible first | exact HB.out | apply below_alloc | apply pw_below_drewN | apply below_drew1) | exact HB.out)) hb); clear HB; have HO120 := n0_; have HB := n1_; clear n0_ n1_; (try clear hb); (try clear hb2); (try clear hk); (try clear hi); (try clear ho0)) | ((with_reducible refine gate_callee (f := 11) rfl ?_); refine goesL_ (some 85) rfl rfl Try.func11 (by kernel_rfl) rfl #[.string a0, .slice A1 l1.length c1] rfl (by (try simp only [List.map_toArray, List.map_cons, List.map_nil]); first | done | rfl | (simp only [List.length_drop, List.length_take]; rfl)) ?_; (with_reducible refine (impl_Unframed.calls k3 a0 _ _ l1 t121 t122 false _ ?side1 ?side2 A37.out).mono ?_); (case side1 => repeat (first | exact (Kd.C_below HR1.out HB.out) | (with_reducible refine Kd.C_alloc ?_ _) | (with_reducible refine Kd.C_drewN ?_ _) | (with_reducible refine Kd.C_drew ?_))); (case side2 => exact HC1.out); rintro e w59 ⟨v124, rfl, ho0, hb⟩; refine ⟨_, rfl, ?_⟩; have n0_ := Aside0.mk (Kd.R_elder' (by (with_reducible repeat (first | apply Kd.R_alloc | apply Kd.R_drewN | apply Kd.R_drew)); exact HO120.out) (Kd.R_base ho0) hb); have n1_ := Aside0.mk (Kd.R_lower (Kd.R_new' ho0 (Kd.R_lt (by (with_reducible repeat (first | apply Kd.R_alloc | apply Kd.R_drewN | apply Kd.R_drew)); exact HO120.out))) (below_size (by repeat (first | (with_reducible first | exact HB.out | apply below_alloc | apply pw_below_drewN | apply below_drew1) | exact HB.out)))); have n2_ := Aside0.mk (below_step (by repeat (first | (with_reducible first | exact HB.out | apply below_alloc | apply pw_below_drewN | apply below_drew1) | exact HB.out)) hb); clear HO120; clear HB; have HO120 := n0_; have HO125 := n1_; have HB := n2_; clear n0_ n1_ n2_; (try clear hb); (try clear hb2); (try clear hk); (try clear hi); (try clear ho0)) | ((with_reducible refine gate_dst (N := 93) rfl ?_); (try (refine gate_guard (by rfl) ?_; dsimp only)); refine Kd.R_lit k25 _ 25 ?hg (N := 93) ?hd (xs := ([(⟨1, 0, (⟨#[]⟩ : ByteArray)⟩ : S25)] : List (S25))) (inner := [.int .i64 1, .int .i64 0, .string (⟨#[]⟩ : ByteArray)]) (ok := fun _ => True) (okp := fun _ => True) ?hr ?hp (fun _ hk => hk) trivial (Below.refl _ _) (Nat.le_refl _) (by simp) ?_; (case hd => rfl); (case hg => rfl); (case hr => first | (go_simp; done) | (go_simp; rfl)); (case hp => exact (Reps.c3 (show Kd.M k25 _ _ _ (⟨1, 0, (⟨#[]⟩ : ByteArray)⟩ : S25) [.int .i64 1, .int .i64 0, .string (⟨#[]⟩ : ByteArray)] from (k25_mkM _ _ _ (⟨1, 0, (⟨#[]⟩ : ByteArray)⟩ : S25) )) (Reps.none _ _))); intro v128 w60 ho61 hb hg_ hnew_; clear hg_ hnew_; (first | rw [← Ny127.out] at ho61 | (simp only [Int.reduceToNat] at ho61; rw [← Ny127.out] at ho61)); have n0_ := Aside0.mk (Kd.R_elder' (by (with_reducible repeat (first | apply Kd.R_alloc | apply Kd.R_drewN | apply Kd.R_drew)); exact HO120.out) (Kd.R_base ho61) hb); have n1_ := Aside0.mk (Kd.R_elder' (by (with_reducible repeat (first | apply Kd.R_alloc | apply Kd.R_drewN | apply Kd.R_drew)); exact HO125.out) (Kd.R_base ho61) hb); have n2_ := Aside0.mk (Kd.R_lower (Kd.R_new' (Kd.R_new' ho61 (Kd.R_lt (by (with_reducible repeat (first | apply Kd.R_alloc | apply Kd.R_drewN | apply Kd.R_drew)); exact HO120.out))) (Kd.R_lt (by (with_reducible repeat (first | apply Kd.R_alloc | apply Kd.R_drewN | apply Kd.R_drew)); exact HO125.out))) (below_size (by repeat (first | (with_reducible first | exact HB.out | apply below_alloc | apply pw_below_drewN | apply below_drew1) | exact HB.out)))); have n3_ := Aside0.mk (below_step (by repeat (first | (with_reducible first | exact HB.out | apply below_alloc | apply pw_below_drewN | apply below_drew1) | exact HB.out)) hb); clear HO120; clear HO125; clear HB; have HO120 := n0_; have HO125 := n1_; have HO129 := n2_; have HB := n3_; clear n0_ n1_ n2_ n3_; clear hb ho61; obtain ⟨Ao62, co62, eo62⟩ := Kd.R_slice HO129.out; subst eo62) | ((with_reducible refine gate_callee (f := 11) rfl ?_); refine goesL_ (some 94) rfl rfl Try.func11 (by kernel_rfl) rfl #[.string (⟨#[97]⟩ : ByteArray), .slice Ao62 y127.length co62] rfl (by (try simp only [List.map_toArray, List.map_cons, List.map_nil]); first | done | rfl | (simp only [List.length_drop, List.length_take]; rfl)) ?_; (with_reducible refine (impl_Unframed.calls k3 (⟨#[97]⟩ : ByteArray) _ _ y127 t130 t131 t132 _ ?side1 ?side2 A50.out).mono ?_); (case side1 => repeat (first | exact (Kd.R_reads' HO129.out).2.2 | (with_reducible refine Kd.C_alloc ?_ _) | (with_reducible refine Kd.C_drewN ?_ _) | (with_reducible refine Kd.C_drew ?_))); (case side2 => exact (Kd.R_reads' HO129.out).2.1); rintro e w63 ⟨v133, rfl, ho0, hb⟩; refine ⟨_, rfl, ?_⟩; have n0_ := Aside0.mk (Kd.R_elder' (by (with_reducible repeat (first | apply Kd.R_alloc | apply Kd.R_drewN | apply Kd.R_drew)); exact HO120.out) (Kd.R_base ho0) hb); have n1_ := Aside0.mk (Kd.R_elder' (by (with_reducible repeat (first | apply Kd.R_alloc | apply Kd.R_drewN | apply Kd.R_drew)); exact HO125.out) (Kd.R_base ho0) hb); have n2_ := Aside0.mk (Kd.R_elder' (by (with_reducible repeat (first | apply Kd.R_alloc | apply Kd.R_drewN | apply Kd.R_drew)); exact HO129.out) (Kd.R_base ho0) hb); have n3_ := Aside0.mk (Kd.R_lower (Kd.R_new' (Kd.R_new' (Kd.R_new' ho0 (Kd.R_lt (by (with_reducible repeat (first | apply Kd.R_alloc | apply Kd.R_drewN | apply Kd.R_drew)); exact HO120.out))) (Kd.R_lt (by (with_reducible repeat (first | apply Kd.R_alloc | apply Kd.R_drewN | apply Kd.R_drew)); exact HO125.out))) (Kd.R_lt (by (with_reducible repeat (first | apply Kd.R_alloc | apply Kd.R_drewN | apply Kd.R_drew)); exact HO129.out))) (below_size (by repeat (first | (with_reducible first | exact HB.out | apply below_alloc | apply pw_below_drewN | apply below_drew1) | exact HB.out)))); have n4_ := Aside0.mk (below_step (by repeat (first | (with_reducible first | exact HB.out | apply below_alloc | apply pw_below_drewN | apply below_drew1) | exact HB.out)) hb); clear HO120; clear HO125; clear HO129; clear HB; have HO120 := n0_; have HO125 := n1_; have HO129 := n2_; have HO134 := n3_; have HB := n4_; clear n0_ n1_ n2_ n3_ n4_; (try clear hb); (try clear hb2); (try clear hk); (try clear hi); (try clear ho0)))
                        go_ret
                        exact ⟨by first | rfl | (simp [errW_none, errW_some] <;> rfl) | (simp [*, errW_none, errW_some] <;> rfl), by repeat (first | (with_reducible first | exact HB.out | apply below_alloc | apply pw_below_drewN | apply below_drew1) | exact HB.out)⟩

/-! ### laws_zzFits6: function 37 -/
def laws_zzFits6.f (k : Nat) (a0_0 : Int) (l0_1 : List (S25)) : Option (Bool) := (laws_zzFits7.f k l0_1).bind fun t136 => (if t136 = true then (some true) else (some false))
theorem laws_zzFits6.mono : ∀ a0 a1 k, LeO (laws_zzFits6.f k a0 a1) (laws_zzFits6.f (k + 1) a0 a1) := by
  intro a0 a1 k
  unfold laws_zzFits6.f
  repeat' first
      | (with_reducible exact laws_zzFits7.mono _ _)
      | (with_reducible exact LeO.refl _)
      | (with_reducible exact LeO.none _)
      | (with_reducible refine LeO.ite ?_ ?_)
      | (with_reducible refine LeO.bind ?_ (fun _ => ?_))
      | exact laws_zzFits7.mono _ _
      | exact LeO.none _
      | refine LeO.ite ?_ ?_
      | refine LeO.bind ?_ (fun _ => ?_)
set_option maxHeartbeats 8000000 in
set_option maxRecDepth 100000 in
theorem laws_zzFits6.calls (k : Nat) (a0_0 : Int) (A0_1 : Option Addr) (c0_1 : Nat) (l0_1 : List (S25)) (r : Bool) (w : World) (hr0_1 : Kd.C k25 w A0_1 l0_1.length l0_1) (hc0_1 : l0_1.length ≤ c0_1) (h : laws_zzFits6.f k a0_0 l0_1 = some r) :
    Calls Try.prog 37 #[.agg #[.int .u8 a0_0, .slice A0_1 l0_1.length c0_1]] w fun e w' => e = .returned (.bool r) ∧ Below w.heap.size w w' := by
  have hu33 := Try.underlying33
  have HR0_1 := Aside0.mk hr0_1
  have HC0_1 := Aside0.mk hc0_1
  clear hr0_1 hc0_1
  have HB := Aside0.mk (Below.refl w.heap.size w)
  have H : ((laws_zzFits7.f k l0_1).bind fun t136 => (if t136 = true then (some true) else (some false))) = some r := h
  clear h
  replace H := Option.bind_eq_some_iff.mp H
  obtain ⟨t136, A20, H⟩ := H
  replace H : (if t136 = true then (some true) else (some false)) = some r := H
  have A2 := Aside0.mk A20
  clear A20
  by_cases c3 : t136 = true
  · subst c3
    have H1 : (some true) = some r := by rw [if_pos rfl] at H; exact H
    clear H
    have H := H1
    clear H1
    obtain rfl := Option.some.inj H
    go_enter Try.func37, Try.ntmps37
    go_wp2_with (first | ((with_reducible refine gate_dst (N := 1) rfl ?_); refine box_event ?hg (N := 1) ?hd (cs := #[.int .u8 a0_0, .slice A0_1 l0_1.length c0_1]) (t := 33) ?hr ?_; (case hd => rfl); (case hg => rfl); (case hr => first | (go_simp; done) | (go_simp; rfl)); intro gb135 hg w4 hbox hb; have n0_ := Aside0.mk (below_step (by repeat (first | (with_reducible first | exact HB.out | apply below_alloc | apply pw_below_drewN | apply below_drew1) | exact HB.out)) hb); have n1_ := Aside0.mk (hbox); have n2_ := Aside0.mk ((by rw [hg]; exact (below_size (by repeat (first | (with_reducible first | exact HB.out | apply below_alloc | apply pw_below_drewN | apply below_drew1) | exact HB.out))) : w.heap.size ≤ gb135)); have n3_ := Aside0.mk ((by rw [hg]; exact (below_size (by repeat (first | (with_reducible first | exact HB.out | apply below_alloc | apply pw_below_drewN | apply below_drew1) | exact HB.out))) : w.heap.size ≤ gb135)); clear HB; have HB := n0_; have BK135 := n1_; have GW135 := n2_; have GE135 := n3_; clear n0_ n1_ n2_ n3_; clear hb hbox hg; have hcz5_0 : w4.cell? ⟨gb135, 0, none⟩ = some (.int .u8 a0_0) := (blk_cell BK135.out 0).trans rfl; have hcz5_1 : w4.cell? ⟨gb135, 1, none⟩ = some (.slice A0_1 l0_1.length c0_1) := (blk_cell BK135.out 1).trans rfl; have hfz5_0 := blk_frozen BK135.out 0; have hfz5_1 := blk_frozen BK135.out 1) | ((with_reducible refine gate_callee (f := 9) rfl ?_); refine goesL_ (some 5) rfl rfl Try.func9 (by kernel_rfl) rfl #[.slice A0_1 l0_1.length c0_1] rfl (by (try simp only [List.map_toArray, List.map_cons, List.map_nil]); first | done | rfl | (simp only [List.length_drop, List.length_take]; rfl)) ?_; (with_reducible refine (laws_zzFits7.calls k _ _ l0_1 true _ ?side1 ?side2 A2.out).mono ?_); (case side1 => repeat (first | exact (Kd.C_below HR0_1.out HB.out) | (with_reducible refine Kd.C_alloc ?_ _) | (with_reducible refine Kd.C_drewN ?_ _) | (with_reducible refine Kd.C_drew ?_))); (case side2 => exact HC0_1.out); rintro e w6 ⟨rfl, hb⟩; refine ⟨_, rfl, ?_⟩; have n0_ := Aside0.mk (blk_below (g := gb135) (o := .cells #[.int .u8 a0_0, .slice A0_1 l0_1.length c0_1] 33 (0, 0)) (by (with_reducible repeat (first | refine blk_drewN ?_ _ | refine blk_drew ?_ | refine blk_alloc ?_ _)); exact BK135.out) hb); have n1_ := Aside0.mk (below_step (by repeat (first | (with_reducible first | exact HB.out | apply below_alloc | apply pw_below_drewN | apply below_drew1 | refine below_set ?_ GE135.out) | exact HB.out)) hb); clear BK135; clear HB; have BK135 := n0_; have HB := n1_; clear n0_ n1_; (try clear hb); (try clear hb2); (try clear hk); (try clear hi)))
    go_ret
    exact ⟨by first | rfl | (simp [errW_none, errW_some] <;> rfl) | (simp [*, errW_none, errW_some] <;> rfl), by repeat (first | (with_reducible first | exact HB.out | apply below_alloc | apply pw_below_drewN | apply below_drew1 | refine below_set ?_ GE135.out) | exact HB.out)⟩
  · replace c3 := Bool.eq_false_iff.mpr c3
    subst c3
    have H1 : (some false) = some r := by rw [if_neg (show ¬ (false = true) by decide)] at H; exact H
    clear H
    have H := H1
    clear H1
    obtain rfl := Option.some.inj H
    go_enter Try.func37, Try.ntmps37
    go_wp2_with (first | ((with_reducible refine gate_dst (N := 1) rfl ?_); refine box_event ?hg (N := 1) ?hd (cs := #[.int .u8 a0_0, .slice A0_1 l0_1.length c0_1]) (t := 33) ?hr ?_; (case hd => rfl); (case hg => rfl); (case hr => first | (go_simp; done) | (go_simp; rfl)); intro gb135 hg w7 hbox hb; have n0_ := Aside0.mk (below_step (by repeat (first | (with_reducible first | exact HB.out | apply below_alloc | apply pw_below_drewN | apply below_drew1) | exact HB.out)) hb); have n1_ := Aside0.mk (hbox); have n2_ := Aside0.mk ((by rw [hg]; exact (below_size (by repeat (first | (with_reducible first | exact HB.out | apply below_alloc | apply pw_below_drewN | apply below_drew1) | exact HB.out))) : w.heap.size ≤ gb135)); have n3_ := Aside0.mk ((by rw [hg]; exact (below_size (by repeat (first | (with_reducible first | exact HB.out | apply below_alloc | apply pw_below_drewN | apply below_drew1) | exact HB.out))) : w.heap.size ≤ gb135)); clear HB; have HB := n0_; have BK135 := n1_; have GW135 := n2_; have GE135 := n3_; clear n0_ n1_ n2_ n3_; clear hb hbox hg; have hcz8_0 : w7.cell? ⟨gb135, 0, none⟩ = some (.int .u8 a0_0) := (blk_cell BK135.out 0).trans rfl; have hcz8_1 : w7.cell? ⟨gb135, 1, none⟩ = some (.slice A0_1 l0_1.length c0_1) := (blk_cell BK135.out 1).trans rfl; have hfz8_0 := blk_frozen BK135.out 0; have hfz8_1 := blk_frozen BK135.out 1) | ((with_reducible refine gate_callee (f := 9) rfl ?_); refine goesL_ (some 5) rfl rfl Try.func9 (by kernel_rfl) rfl #[.slice A0_1 l0_1.length c0_1] rfl (by (try simp only [List.map_toArray, List.map_cons, List.map_nil]); first | done | rfl | (simp only [List.length_drop, List.length_take]; rfl)) ?_; (with_reducible refine (laws_zzFits7.calls k _ _ l0_1 false _ ?side1 ?side2 A2.out).mono ?_); (case side1 => repeat (first | exact (Kd.C_below HR0_1.out HB.out) | (with_reducible refine Kd.C_alloc ?_ _) | (with_reducible refine Kd.C_drewN ?_ _) | (with_reducible refine Kd.C_drew ?_))); (case side2 => exact HC0_1.out); rintro e w9 ⟨rfl, hb⟩; refine ⟨_, rfl, ?_⟩; have n0_ := Aside0.mk (blk_below (g := gb135) (o := .cells #[.int .u8 a0_0, .slice A0_1 l0_1.length c0_1] 33 (0, 0)) (by (with_reducible repeat (first | refine blk_drewN ?_ _ | refine blk_drew ?_ | refine blk_alloc ?_ _)); exact BK135.out) hb); have n1_ := Aside0.mk (below_step (by repeat (first | (with_reducible first | exact HB.out | apply below_alloc | apply pw_below_drewN | apply below_drew1 | refine below_set ?_ GE135.out) | exact HB.out)) hb); clear BK135; clear HB; have BK135 := n0_; have HB := n1_; clear n0_ n1_; (try clear hb); (try clear hb2); (try clear hk); (try clear hi)))
    go_ret
    exact ⟨by first | rfl | (simp [errW_none, errW_some] <;> rfl) | (simp [*, errW_none, errW_some] <;> rfl), by repeat (first | (with_reducible first | exact HB.out | apply below_alloc | apply pw_below_drewN | apply below_drew1 | refine below_set ?_ GE135.out) | exact HB.out)⟩

/-! ### laws_zzFits5: function 13 -/
def laws_zzFits5.l0 : Nat → List (S33) → Int → Int → Option (Bool)
  | 0, _, _, _ => none
  | k + 1, x8, x9, x10 => if x10 < x9 then (if 0 ≤ x10 then (if x10 < (x8.length : Int) then ((laws_zzFits6.f k ((rd_T33 x8 x10).f0) ((rd_T33 x8 x10).f1)).bind fun t139 => (if t139 = true then (laws_zzFits5.l0 k x8 x9 (wrap64 (x10 + 1))) else (some false))) else (none)) else (none)) else (some true)
def laws_zzFits5.f (k : Nat) (l0 : List (S33)) : Option (Bool) := if (l0.length : Int) > 2147483647 then (some false) else (laws_zzFits5.l0 k l0 (l0.length : Int) 0)
theorem laws_zzFits5.mono_l : ∀ k, (∀ y0 y1 y2, LeO (laws_zzFits5.l0 k y0 y1 y2) (laws_zzFits5.l0 (k + 1) y0 y1 y2))
  | 0 => fun _ _ _ r h => by simp [laws_zzFits5.l0] at h
  | k + 1 => by
    have ih0 := laws_zzFits5.mono_l k
    · intro y0 y1 y2
      unfold laws_zzFits5.l0
      repeat' first
      | (with_reducible exact ih0 _ _ _)
      | (with_reducible exact laws_zzFits6.mono _ _ _)
      | (with_reducible exact LeO.refl _)
      | (with_reducible exact LeO.none _)
      | (with_reducible refine LeO.ite ?_ ?_)
      | (with_reducible refine LeO.bind ?_ (fun _ => ?_))
      | exact ih0 _ _ _
      | exact laws_zzFits6.mono _ _ _
      | exact LeO.none _
      | refine LeO.ite ?_ ?_
      | refine LeO.bind ?_ (fun _ => ?_)
theorem laws_zzFits5.mono : ∀ a0 k, LeO (laws_zzFits5.f k a0) (laws_zzFits5.f (k + 1) a0) := by
  intro a0 k
  have ih0 := laws_zzFits5.mono_l k
  unfold laws_zzFits5.f
  repeat' first
      | (with_reducible exact ih0 _ _ _)
      | (with_reducible exact laws_zzFits6.mono _ _ _)
      | (with_reducible exact LeO.refl _)
      | (with_reducible exact LeO.none _)
      | (with_reducible refine LeO.ite ?_ ?_)
      | (with_reducible refine LeO.bind ?_ (fun _ => ?_))
      | exact ih0 _ _ _
      | exact laws_zzFits6.mono _ _ _
      | exact LeO.none _
      | refine LeO.ite ?_ ?_
      | refine LeO.bind ?_ (fun _ => ?_)
set_option maxHeartbeats 8000000 in
set_option maxRecDepth 100000 in
theorem laws_zzFits5.calls (k : Nat) (A0 : Option Addr) (c0 : Nat) (l0 : List (S33)) (r : Bool) (w : World) (hr0 : Kd.C k33 w A0 l0.length l0) (hc0 : l0.length ≤ c0) (h : laws_zzFits5.f k l0 = some r) :
    Calls Try.prog 13 #[.slice A0 l0.length c0] w fun e w' => e = .returned (.bool r) ∧ Below w.heap.size w w' := by
  have hu33 := Try.underlying33
  have HR0 := Aside0.mk hr0
  have HC0 := Aside0.mk hc0
  clear hr0 hc0
  have HB := Aside0.mk (Below.refl w.heap.size w)
  have H : (if (l0.length : Int) > 2147483647 then (some false) else (laws_zzFits5.l0 k l0 (l0.length : Int) 0)) = some r := h
  clear h
  by_cases c2 : (l0.length : Int) > 2147483647
  · rw [if_pos c2] at H
    have c2b0 : decide (2147483647 < (l0.length : Int)) = true := decide_eq_true c2
    have c2b1 : decide (2147483647 < l0.length) = true := decide_eq_true (by omega)
    clear c2
    obtain rfl := Option.some.inj H
    go_enter Try.func13, Try.ntmps13
    go_wp2
    go_ret
    exact ⟨by first | rfl | (simp [errW_none, errW_some] <;> rfl) | (simp [*, errW_none, errW_some] <;> rfl), by repeat (first | (with_reducible first | exact HB.out | apply below_alloc | apply pw_below_drewN | apply below_drew1) | exact HB.out)⟩
  · rw [if_neg c2] at H
    have c2b0 : decide (2147483647 < (l0.length : Int)) = false := decide_eq_false c2
    have c2b1 : decide (2147483647 < l0.length) = false := decide_eq_false (by omega)
    clear c2
    have H' := Aside0.mk H
    clear H
    go_enter Try.func13, Try.ntmps13
    go_wp2
    go_loopg [10] k (fun kq v10 w' => ∃ (x10_1 : Int), v10 = .int .i64 x10_1 ∧ Aside0 (laws_zzFits5.l0 kq l0 (l0.length : Int) x10_1 = some r) ∧ Aside0 (kq ≤ k) ∧ Aside0 (Below w.heap.size w w'))
    case atStart => exact ⟨(0), (by first | rfl | (simp; done) | (simp [*]; done)), H', ⟨Nat.le_refl _⟩, ⟨by repeat (first | (with_reducible first | exact HB.out | apply below_alloc | apply pw_below_drewN | apply below_drew1) | exact HB.out)⟩⟩
    case round =>
      clear H'
      try clear c1
      try clear c2
      try clear c2b0
      try clear c2b1
      try clear p2
      obtain ⟨x10_1, rfl, HA, HK1, HB⟩ := hrel
      cases gk with
      | zero => exact absurd HA.out (by simp [laws_zzFits5.l0])
      | succ k1 =>
        have H := HA.out
        clear HA
        simp only [laws_zzFits5.l0] at H
        by_cases c3 : x10_1 < (l0.length : Int)
        · rw [if_pos c3] at H
          have c3b0 : decide (x10_1 < (l0.length : Int)) = true := decide_eq_true c3
          clear c3
          by_cases c4 : 0 ≤ x10_1
          · rw [if_pos c4] at H
            have c4b0 : decide (0 ≤ x10_1) = true := decide_eq_true c4
            clear c4
            by_cases c5 : x10_1 < (l0.length : Int)
            · rw [if_pos c5] at H
              have c5b0 : decide (x10_1 < (l0.length : Int)) = true := decide_eq_true c5
              clear c5
              replace H := Option.bind_eq_some_iff.mp H
              obtain ⟨t139, A60, H⟩ := H
              replace H : (if t139 = true then (laws_zzFits5.l0 k1 l0 (l0.length : Int) (wrap64 (x10_1 + 1))) else (some false)) = some r := H
              have A6 := Aside0.mk A60
              clear A60
              by_cases c7 : t139 = true
              · subst c7
                have H1 : (laws_zzFits5.l0 k1 l0 (l0.length : Int) (wrap64 (x10_1 + 1))) = some r := by rw [if_pos rfl] at H; exact H
                clear H
                have H := H1
                clear H1
                have H' := Aside0.mk H
                clear H
                have p137 : 0 ≤ (x10_1 : Int) := of_decide_eq_true (by first | (with_reducible assumption) | assumption)
                have q137 : x10_1 < (l0.length : Int) := of_decide_eq_true (by first | (with_reducible assumption) | assumption)
                obtain ⟨ad137, A137_1, c137_1, e137, hx137_0, hx137_1, hl137_1, hi137_1⟩ := at_T33 HR0.out x10_1 p137 q137
                cases e137
                replace hx137_0 := (HB.out.cell (World.block_lt_of_cell? w _ hx137_0)).trans hx137_0
                replace hx137_1 := (HB.out.cell (World.block_lt_of_cell? w _ hx137_1)).trans hx137_1
                have HR137_1 := Aside0.mk hi137_1
                have HC137_1 := Aside0.mk hl137_1
                clear hi137_1 hl137_1
                replace p137 := eq_true p137
                replace q137 := eq_true q137
                go_wp2_with (first | ((with_reducible refine gate_dst (N := 4) rfl ?_); refine box_event ?hg (N := 4) ?hd (cs := #[.int .u8 0, .slice none 0 0]) (t := 33) ?hr ?_; (case hd => rfl); (case hg => rfl); (case hr => first | (go_simp; done) | (go_simp; rfl)); intro gb138 hg w8 hbox hb; have n0_ := Aside0.mk (below_step (by repeat (first | (with_reducible first | exact HB.out | apply below_alloc | apply pw_below_drewN | apply below_drew1) | exact HB.out)) hb); have n1_ := Aside0.mk (hbox); have n2_ := Aside0.mk ((by rw [hg]; exact (below_size (by repeat (first | (with_reducible first | exact HB.out | apply below_alloc | apply pw_below_drewN | apply below_drew1) | exact HB.out))) : w.heap.size ≤ gb138)); have n3_ := Aside0.mk ((by rw [hg]; exact (below_size (by repeat (first | (with_reducible first | exact HB.out | apply below_alloc | apply pw_below_drewN | apply below_drew1) | exact HB.out))) : w.heap.size ≤ gb138)); clear HB; have HB := n0_; have BK138 := n1_; have GW138 := n2_; have GE138 := n3_; clear n0_ n1_ n2_ n3_; clear hb hbox hg; have hcz9_0 : w8.cell? ⟨gb138, 0, none⟩ = some (.int .u8 0) := (blk_cell BK138.out 0).trans rfl; have hcz9_1 : w8.cell? ⟨gb138, 1, none⟩ = some (.slice none 0 0) := (blk_cell BK138.out 1).trans rfl; have hfz9_0 := blk_frozen BK138.out 0; have hfz9_1 := blk_frozen BK138.out 1) | ((with_reducible refine gate_callee (f := 37) rfl ?_); refine goesL_ (some 15) rfl rfl Try.func37 (by kernel_rfl) rfl #[.agg #[.int .u8 ((rd_T33 l0 x10_1).f0), .slice A137_1 ((rd_T33 l0 x10_1).f1).length c137_1]] rfl (by (try simp only [List.map_toArray, List.map_cons, List.map_nil]); first | done | rfl | (simp only [List.length_drop, List.length_take]; rfl)) ?_; (with_reducible refine (laws_zzFits6.calls k1 ((rd_T33 l0 x10_1).f0) _ _ ((rd_T33 l0 x10_1).f1) true _ ?side1 ?side2 A6.out).mono ?_); (case side1 => exact Kd.C_below HR137_1.out (by repeat (first | (with_reducible first | exact HB.out | apply below_alloc | apply pw_below_drewN | apply below_drew1 | refine below_set ?_ GE138.out) | exact HB.out))); (case side2 => exact HC137_1.out); rintro e w10 ⟨rfl, hb⟩; refine ⟨_, rfl, ?_⟩; have n0_ := Aside0.mk (blk_below (g := gb138) (o := .cells #[.int .u8 ((rd_T33 l0 x10_1).f0), .slice A137_1 ((rd_T33 l0 x10_1).f1).length c137_1] 33 (0, 0)) (by (with_reducible repeat (first | refine blk_drewN ?_ _ | refine blk_drew ?_ | refine blk_alloc ?_ _)); refine blk_put (cs := #[.int .u8 ((rd_T33 l0 x10_1).f0), .slice none 0 0]) ?_ 1 _ rfl; (with_reducible repeat (first | refine blk_drewN ?_ _ | refine blk_drew ?_ | refine blk_alloc ?_ _)); refine blk_put (cs := #[.int .u8 0, .slice none 0 0]) ?_ 0 _ rfl; (with_reducible repeat (first | refine blk_drewN ?_ _ | refine blk_drew ?_ | refine blk_alloc ?_ _)); exact BK138.out) hb); have n1_ := Aside0.mk (below_step (by repeat (first | (with_reducible first | exact HB.out | apply below_alloc | apply pw_below_drewN | apply below_drew1 | refine below_set ?_ GE138.out) | exact HB.out)) hb); clear BK138; clear HB; have BK138 := n0_; have HB := n1_; clear n0_ n1_; (try clear hb); (try clear hb2); (try clear hk); (try clear hi)))
                go_roundg k1
                case measure => have := HK1.out; omega
                case rel => exact ⟨(wrap64 (x10_1 + 1)), (by first | rfl | (simp; done) | (simp [*]; done)), H', ⟨by have := HK1.out; omega⟩, ⟨by repeat (first | (with_reducible first | exact HB.out | apply below_alloc | apply pw_below_drewN | apply below_drew1 | refine below_set ?_ GE138.out) | exact HB.out)⟩⟩
              · replace c7 := Bool.eq_false_iff.mpr c7
                subst c7
                have H1 : (some false) = some r := by rw [if_neg (show ¬ (false = true) by decide)] at H; exact H
                clear H
                have H := H1
                clear H1
                obtain rfl := Option.some.inj H
                have p137 : 0 ≤ (x10_1 : Int) := of_decide_eq_true (by first | (with_reducible assumption) | assumption)
                have q137 : x10_1 < (l0.length : Int) := of_decide_eq_true (by first | (with_reducible assumption) | assumption)
                obtain ⟨ad137, A137_1, c137_1, e137, hx137_0, hx137_1, hl137_1, hi137_1⟩ := at_T33 HR0.out x10_1 p137 q137
                cases e137
                replace hx137_0 := (HB.out.cell (World.block_lt_of_cell? w _ hx137_0)).trans hx137_0
                replace hx137_1 := (HB.out.cell (World.block_lt_of_cell? w _ hx137_1)).trans hx137_1
                have HR137_1 := Aside0.mk hi137_1
                have HC137_1 := Aside0.mk hl137_1
                clear hi137_1 hl137_1
                replace p137 := eq_true p137
                replace q137 := eq_true q137
                go_wp2_with (first | ((with_reducible refine gate_dst (N := 4) rfl ?_); refine box_event ?hg (N := 4) ?hd (cs := #[.int .u8 0, .slice none 0 0]) (t := 33) ?hr ?_; (case hd => rfl); (case hg => rfl); (case hr => first | (go_simp; done) | (go_simp; rfl)); intro gb138 hg w11 hbox hb; have n0_ := Aside0.mk (below_step (by repeat (first | (with_reducible first | exact HB.out | apply below_alloc | apply pw_below_drewN | apply below_drew1) | exact HB.out)) hb); have n1_ := Aside0.mk (hbox); have n2_ := Aside0.mk ((by rw [hg]; exact (below_size (by repeat (first | (with_reducible first | exact HB.out | apply below_alloc | apply pw_below_drewN | apply below_drew1) | exact HB.out))) : w.heap.size ≤ gb138)); have n3_ := Aside0.mk ((by rw [hg]; exact (below_size (by repeat (first | (with_reducible first | exact HB.out | apply below_alloc | apply pw_below_drewN | apply below_drew1) | exact HB.out))) : w.heap.size ≤ gb138)); clear HB; have HB := n0_; have BK138 := n1_; have GW138 := n2_; have GE138 := n3_; clear n0_ n1_ n2_ n3_; clear hb hbox hg; have hcz12_0 : w11.cell? ⟨gb138, 0, none⟩ = some (.int .u8 0) := (blk_cell BK138.out 0).trans rfl; have hcz12_1 : w11.cell? ⟨gb138, 1, none⟩ = some (.slice none 0 0) := (blk_cell BK138.out 1).trans rfl; have hfz12_0 := blk_frozen BK138.out 0; have hfz12_1 := blk_frozen BK138.out 1) | ((with_reducible refine gate_callee (f := 37) rfl ?_); refine goesL_ (some 15) rfl rfl Try.func37 (by kernel_rfl) rfl #[.agg #[.int .u8 ((rd_T33 l0 x10_1).f0), .slice A137_1 ((rd_T33 l0 x10_1).f1).length c137_1]] rfl (by (try simp only [List.map_toArray, List.map_cons, List.map_nil]); first | done | rfl | (simp only [List.length_drop, List.length_take]; rfl)) ?_; (with_reducible refine (laws_zzFits6.calls k1 ((rd_T33 l0 x10_1).f0) _ _ ((rd_T33 l0 x10_1).f1) false _ ?side1 ?side2 A6.out).mono ?_); (case side1 => exact Kd.C_below HR137_1.out (by repeat (first | (with_reducible first | exact HB.out | apply below_alloc | apply pw_below_drewN | apply below_drew1 | refine below_set ?_ GE138.out) | exact HB.out))); (case side2 => exact HC137_1.out); rintro e w13 ⟨rfl, hb⟩; refine ⟨_, rfl, ?_⟩; have n0_ := Aside0.mk (blk_below (g := gb138) (o := .cells #[.int .u8 ((rd_T33 l0 x10_1).f0), .slice A137_1 ((rd_T33 l0 x10_1).f1).length c137_1] 33 (0, 0)) (by (with_reducible repeat (first | refine blk_drewN ?_ _ | refine blk_drew ?_ | refine blk_alloc ?_ _)); refine blk_put (cs := #[.int .u8 ((rd_T33 l0 x10_1).f0), .slice none 0 0]) ?_ 1 _ rfl; (with_reducible repeat (first | refine blk_drewN ?_ _ | refine blk_drew ?_ | refine blk_alloc ?_ _)); refine blk_put (cs := #[.int .u8 0, .slice none 0 0]) ?_ 0 _ rfl; (with_reducible repeat (first | refine blk_drewN ?_ _ | refine blk_drew ?_ | refine blk_alloc ?_ _)); exact BK138.out) hb); have n1_ := Aside0.mk (below_step (by repeat (first | (with_reducible first | exact HB.out | apply below_alloc | apply pw_below_drewN | apply below_drew1 | refine below_set ?_ GE138.out) | exact HB.out)) hb); clear BK138; clear HB; have BK138 := n0_; have HB := n1_; clear n0_ n1_; (try clear hb); (try clear hb2); (try clear hk); (try clear hi)))
                go_ret
                exact ⟨by first | rfl | (simp [errW_none, errW_some] <;> rfl) | (simp [*, errW_none, errW_some] <;> rfl), by repeat (first | (with_reducible first | exact HB.out | apply below_alloc | apply pw_below_drewN | apply below_drew1 | refine below_set ?_ GE138.out) | exact HB.out)⟩
            · rw [if_neg c5] at H
              exact absurd H (by simp)
          · rw [if_neg c4] at H
            exact absurd H (by simp)
        · rw [if_neg c3] at H
          have c3b0 : decide (x10_1 < (l0.length : Int)) = false := decide_eq_false c3
          clear c3
          obtain rfl := Option.some.inj H
          go_wp2
          go_ret
          exact ⟨by first | rfl | (simp [errW_none, errW_some] <;> rfl) | (simp [*, errW_none, errW_some] <;> rfl), by repeat (first | (with_reducible first | exact HB.out | apply below_alloc | apply pw_below_drewN | apply below_drew1) | exact HB.out)⟩

/-! ### spec_hasZero: function 44 -/
def spec_hasZero.l0 : Nat → ByteArray → Int → Option (Bool)
  | 0, _, _ => none
  | k + 1, x0, x3 => if x3 < (x0.size : Int) then (if 0 ≤ x3 then (if (bt x0 x3) = 0 then (some true) else (spec_hasZero.l0 k x0 (wrap64 (x3 + 1)))) else (none)) else (some false)
def spec_hasZero.f (k : Nat) (a0 : ByteArray) : Option (Bool) := spec_hasZero.l0 k a0 0
theorem spec_hasZero.mono_l : ∀ k, (∀ y0 y1, LeO (spec_hasZero.l0 k y0 y1) (spec_hasZero.l0 (k + 1) y0 y1))
  | 0 => fun _ _ r h => by simp [spec_hasZero.l0] at h
  | k + 1 => by
    have ih0 := spec_hasZero.mono_l k
    · intro y0 y1
      unfold spec_hasZero.l0
      repeat' first
      | (with_reducible exact ih0 _ _)
      | (with_reducible exact LeO.refl _)
      | (with_reducible exact LeO.none _)
      | (with_reducible refine LeO.ite ?_ ?_)
      | (with_reducible refine LeO.bind ?_ (fun _ => ?_))
      | exact ih0 _ _
      | exact LeO.none _
      | refine LeO.ite ?_ ?_
      | refine LeO.bind ?_ (fun _ => ?_)
theorem spec_hasZero.mono : ∀ a0 k, LeO (spec_hasZero.f k a0) (spec_hasZero.f (k + 1) a0) := by
  intro a0 k
  have ih0 := spec_hasZero.mono_l k
  unfold spec_hasZero.f
  repeat' first
      | (with_reducible exact ih0 _ _)
      | (with_reducible exact LeO.refl _)
      | (with_reducible exact LeO.none _)
      | (with_reducible refine LeO.ite ?_ ?_)
      | (with_reducible refine LeO.bind ?_ (fun _ => ?_))
      | exact ih0 _ _
      | exact LeO.none _
      | refine LeO.ite ?_ ?_
      | refine LeO.bind ?_ (fun _ => ?_)
set_option maxHeartbeats 8000000 in
set_option maxRecDepth 100000 in
theorem spec_hasZero.calls (k : Nat) (a0 : ByteArray) (r : Bool) (w : World) (h : spec_hasZero.f k a0 = some r) :
    Calls Try.prog 44 #[.string a0] w fun e w' => e = .returned (.bool r) ∧ Drawn0 w w' := by
  have H : (spec_hasZero.l0 k a0 0) = some r := h
  clear h
  have H' := Aside0.mk H
  clear H
  go_enter Try.func44, Try.ntmps44
  go_wp2
  go_loopg [3] k (fun kq v3 w' => ∃ (x3_1 : Int), v3 = .int .i64 x3_1 ∧ Aside0 (spec_hasZero.l0 kq a0 x3_1 = some r) ∧ Aside0 (kq ≤ k) ∧ Drawn0 w w')
  case atStart => exact ⟨(0), (by first | rfl | (simp; done) | (simp [*]; done)), H', ⟨Nat.le_refl _⟩, by repeat (first | exact Drawn0.refl _ | apply Drawn0.step)⟩
  case round =>
    clear H'
    obtain ⟨x3_1, rfl, HA, HK1, ⟨m1, rfl⟩⟩ := hrel
    cases gk with
    | zero => exact absurd HA.out (by simp [spec_hasZero.l0])
    | succ k1 =>
      have H := HA.out
      clear HA
      simp only [spec_hasZero.l0] at H
      by_cases c2 : x3_1 < (a0.size : Int)
      · rw [if_pos c2] at H
        have c2b0 : decide (x3_1 < (a0.size : Int)) = true := decide_eq_true c2
        clear c2
        by_cases c3 : 0 ≤ x3_1
        · rw [if_pos c3] at H
          have c3b0 : decide (0 ≤ x3_1) = true := decide_eq_true c3
          clear c3
          by_cases c5 : (bt a0 x3_1) = 0
          · rw [if_pos c5] at H
            have c5b0 : ((bt a0 x3_1) == 0) = true := beq_iff_eq.mpr c5
            have c5b1 : ((bt a0 x3_1) != 0) = false := bne_eq_false_iff_eq.mpr c5
            clear c5
            obtain rfl := Option.some.inj H
            have p4 : 0 ≤ (x3_1 : Int) := of_decide_eq_true (by first | (with_reducible assumption) | assumption)
            have q4 : x3_1 < (a0.size : Int) := of_decide_eq_true (by first | (with_reducible assumption) | assumption)
            have hx4 := bt_at a0 x3_1
            replace p4 := eq_true p4
            replace q4 := eq_true q4
            go_wp2
            go_ret
            exact ⟨by first | rfl | (simp; done) | (simp [*]; done), by repeat (first | exact Drawn0.refl _ | apply Drawn0.step)⟩
          · rw [if_neg c5] at H
            have c5b0 : ((bt a0 x3_1) == 0) = false := beq_eq_false_iff_ne.mpr c5
            have c5b1 : ((bt a0 x3_1) != 0) = true := bne_iff_ne.mpr c5
            have H' := Aside0.mk H
            clear H
            have p4 : 0 ≤ (x3_1 : Int) := of_decide_eq_true (by first | (with_reducible assumption) | assumption)
            have q4 : x3_1 < (a0.size : Int) := of_decide_eq_true (by first | (with_reducible assumption) | assumption)
            have hx4 := bt_at a0 x3_1
            replace p4 := eq_true p4
            replace q4 := eq_true q4
            go_wp2
            go_roundg k1
            case measure => have := HK1.out; omega
            case rel => exact ⟨(wrap64 (x3_1 + 1)), (by first | rfl | (simp; done) | (simp [*]; done)), H', ⟨by have := HK1.out; omega⟩, by repeat (first | exact Drawn0.refl _ | apply Drawn0.step)⟩
        · rw [if_neg c3] at H
          exact absurd H (by simp)
      · rw [if_neg c2] at H
        have c2b0 : decide (x3_1 < (a0.size : Int)) = false := decide_eq_false c2
        clear c2
        obtain rfl := Option.some.inj H
        go_wp2
        go_ret
        exact ⟨by first | rfl | (simp; done) | (simp [*]; done), by repeat (first | exact Drawn0.refl _ | apply Drawn0.step)⟩

end Go.Proofs.Ythcikkjjegfblab.P
