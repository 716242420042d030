-- Written by the program wip/myprint.py of this session, over the kit's print of the translation. Lean checks it.
import Derived.Test.YtlhjblbmhlelbabPx0
import Derived.Test.YtlhjblbmhlelbabPx4
namespace Go.Proofs.Ytlhjblbmhlelbab.P
open Go.RowKit Go.Proofs.YtlhjblbmhlelbabW.PrintWords Go.Proofs.YtlhjblbmhlelbabW.PrintLast Go.Proofs.YtlhjblbmhlelbabW.PrintMore
attribute [local go_sem] max2_int min2_int max_two min_two max_three min_three max_four min_four   -- for this text's walks alone
set_option linter.unusedVariables false
set_option linter.unusedSimpArgs false

/-! ### zztime_zone: function 84 -/
mutual
def zztime_zone.j0 : Nat → ByteArray → Int → Int → Bool → Option (Int × ByteArray × Bool)
  | 0, _, _, _, _ => none
  | k + 1, x0, x1, x4, x26 => if x26 = true then (some (0, x0, false)) else (zztime_zone.l0 k x0 x1 x4 (([24, 60, 60] : List Int)) 0)
def zztime_zone.l0 : Nat → ByteArray → Int → Int → List Int → Int → Option (Int × ByteArray × Bool)
  | 0, _, _, _, _, _ => none
  | k + 1, x0, x1, x4, x7, x8 => if x8 < x1 then (if x8 > 0 then (if 0 ≤ (wrap64 (3 * x8)) then (if (wrap64 (3 * x8)) < (x0.size : Int) then (zztime_zone.j2 k x0 x1 x4 x7 x8 ((bt x0 (wrap64 (3 * x8))) != 58)) else (none)) else (none)) else (zztime_zone.j2 k x0 x1 x4 x7 x8 false)) else (if 0 < (x0.size : Int) then (if (bt x0 0) = 45 then (if 0 ≤ (wrap64 (3 * x1)) then (if (wrap64 (3 * x1)) ≤ (x0.size : Int) then (some (wrap64 (-x4), x0.extract ((wrap64 (3 * x1)) : Int).toNat x0.size, true)) else (none)) else (none)) else (if 0 ≤ (wrap64 (3 * x1)) then (if (wrap64 (3 * x1)) ≤ (x0.size : Int) then (some (x4, x0.extract ((wrap64 (3 * x1)) : Int).toNat x0.size, true)) else (none)) else (none))) else (none))
def zztime_zone.j2 : Nat → ByteArray → Int → Int → List Int → Int → Bool → Option (Int × ByteArray × Bool)
  | 0, _, _, _, _, _, _ => none
  | k + 1, x0, x1, x4, x7, x8, x42 => if x42 = true then (some (0, x0, false)) else (if 0 ≤ (wrap64 ((wrap64 (3 * x8)) + 1)) then (if (wrap64 ((wrap64 (3 * x8)) + 1)) ≤ (wrap64 ((wrap64 (3 * x8)) + 3)) then (if (wrap64 ((wrap64 (3 * x8)) + 3)) ≤ (x0.size : Int) then ((zztime_number.f k (x0.extract ((wrap64 ((wrap64 (3 * x8)) + 1)) : Int).toNat ((wrap64 ((wrap64 (3 * x8)) + 3)) : Int).toNat) true).bind fun bt128 => (if bt128.2.2 = true then (if 0 ≤ x8 then (if x8 < (x7.length : Int) then (if bt128.1 > (rd x7 x8) then (some (0, x0, false)) else ((some (([3600, 60, 1] : List Int) : List Int)).bind fun y132 => (if x8 < (y132.length : Int) then (zztime_zone.l0 k x0 x1 (wrap64 (x4 + (wrap64 (bt128.1 * (rd y132 x8))))) x7 (wrap64 (x8 + 1))) else (none)))) else (none)) else (none)) else (some (0, x0, false)))) else (none)) else (none)) else (none))
end
def zztime_zone.f (k : Nat) (a0 : ByteArray) (a1 : Int) : Option (Int × ByteArray × Bool) := if (a0.size : Int) < (wrap64 (3 * a1)) then (zztime_zone.j0 k a0 a1 0 true) else (if 0 < (a0.size : Int) then (if (bt a0 0) = 43 then (zztime_zone.j0 k a0 a1 0 false) else (zztime_zone.j0 k a0 a1 0 ((bt a0 0) != 45))) else (none))
theorem zztime_zone.mono_l : ∀ k, (∀ y0 y1 y2 y3, LeO (zztime_zone.j0 k y0 y1 y2 y3) (zztime_zone.j0 (k + 1) y0 y1 y2 y3)) ∧ (∀ y0 y1 y2 y3 y4, LeO (zztime_zone.l0 k y0 y1 y2 y3 y4) (zztime_zone.l0 (k + 1) y0 y1 y2 y3 y4)) ∧ (∀ y0 y1 y2 y3 y4 y5, LeO (zztime_zone.j2 k y0 y1 y2 y3 y4 y5) (zztime_zone.j2 (k + 1) y0 y1 y2 y3 y4 y5))
  | 0 => ⟨fun _ _ _ _ r h => by simp [zztime_zone.j0] at h, fun _ _ _ _ _ r h => by simp [zztime_zone.l0] at h, fun _ _ _ _ _ _ r h => by simp [zztime_zone.j2] at h⟩
  | k + 1 => by
    obtain ⟨ih0, ih1, ih2⟩ := zztime_zone.mono_l k
    refine ⟨?_, ?_, ?_⟩
    · intro y0 y1 y2 y3
      unfold zztime_zone.j0
      repeat' first
      | (with_reducible exact ih0 _ _ _ _)
      | (with_reducible exact ih1 _ _ _ _ _)
      | (with_reducible exact ih2 _ _ _ _ _ _)
      | (with_reducible exact zztime_number.mono _ _ _)
      | (with_reducible exact LeO.refl _)
      | (with_reducible exact LeO.none _)
      | (with_reducible refine LeO.ite ?_ ?_)
      | (with_reducible refine LeO.bind ?_ (fun _ => ?_))
      | exact ih0 _ _ _ _
      | exact ih1 _ _ _ _ _
      | exact ih2 _ _ _ _ _ _
      | exact zztime_number.mono _ _ _
      | exact LeO.none _
      | refine LeO.ite ?_ ?_
      | refine LeO.bind ?_ (fun _ => ?_)
    · intro y0 y1 y2 y3 y4
      unfold zztime_zone.l0
      repeat' first
      | (with_reducible exact ih0 _ _ _ _)
      | (with_reducible exact ih1 _ _ _ _ _)
      | (with_reducible exact ih2 _ _ _ _ _ _)
      | (with_reducible exact zztime_number.mono _ _ _)
      | (with_reducible exact LeO.refl _)
      | (with_reducible exact LeO.none _)
      | (with_reducible refine LeO.ite ?_ ?_)
      | (with_reducible refine LeO.bind ?_ (fun _ => ?_))
      | exact ih0 _ _ _ _
      | exact ih1 _ _ _ _ _
      | exact ih2 _ _ _ _ _ _
      | exact zztime_number.mono _ _ _
      | exact LeO.none _
      | refine LeO.ite ?_ ?_
      | refine LeO.bind ?_ (fun _ => ?_)
    · intro y0 y1 y2 y3 y4 y5
      unfold zztime_zone.j2
      repeat' first
      | (with_reducible exact ih0 _ _ _ _)
      | (with_reducible exact ih1 _ _ _ _ _)
      | (with_reducible exact ih2 _ _ _ _ _ _)
      | (with_reducible exact zztime_number.mono _ _ _)
      | (with_reducible exact LeO.refl _)
      | (with_reducible exact LeO.none _)
      | (with_reducible refine LeO.ite ?_ ?_)
      | (with_reducible refine LeO.bind ?_ (fun _ => ?_))
      | exact ih0 _ _ _ _
      | exact ih1 _ _ _ _ _
      | exact ih2 _ _ _ _ _ _
      | exact zztime_number.mono _ _ _
      | exact LeO.none _
      | refine LeO.ite ?_ ?_
      | refine LeO.bind ?_ (fun _ => ?_)
theorem zztime_zone.mono : ∀ a0 a1 k, LeO (zztime_zone.f k a0 a1) (zztime_zone.f (k + 1) a0 a1) := by
  intro a0 a1 k
  obtain ⟨ih0, ih1, ih2⟩ := zztime_zone.mono_l k
  unfold zztime_zone.f
  repeat' first
      | (with_reducible exact ih0 _ _ _ _)
      | (with_reducible exact ih1 _ _ _ _ _)
      | (with_reducible exact ih2 _ _ _ _ _ _)
      | (with_reducible exact zztime_number.mono _ _ _)
      | (with_reducible exact LeO.refl _)
      | (with_reducible exact LeO.none _)
      | (with_reducible refine LeO.ite ?_ ?_)
      | (with_reducible refine LeO.bind ?_ (fun _ => ?_))
      | exact ih0 _ _ _ _
      | exact ih1 _ _ _ _ _
      | exact ih2 _ _ _ _ _ _
      | exact zztime_number.mono _ _ _
      | exact LeO.none _
      | refine LeO.ite ?_ ?_
      | refine LeO.bind ?_ (fun _ => ?_)
set_option maxHeartbeats 8000000 in
set_option maxRecDepth 100000 in
theorem zztime_zone.calls (k : Nat) (a0 : ByteArray) (a1 : Int) (r1 : Int) (r2 : ByteArray) (r3 : Bool) (w : World) (h : zztime_zone.f k a0 a1 = some (r1, r2, r3)) :
    Calls Try.prog 84 #[.string a0, .int .i64 a1] w fun e w' => e = .returned (.tuple #[.int .i64 r1, .string r2, .bool r3]) ∧ Below w.heap.size w w' := by
  have HB := Aside0.mk (Below.refl w.heap.size w)
  have H : (if (a0.size : Int) < (wrap64 (3 * a1)) then (zztime_zone.j0 k a0 a1 0 true) else (if 0 < (a0.size : Int) then (if (bt a0 0) = 43 then (zztime_zone.j0 k a0 a1 0 false) else (zztime_zone.j0 k a0 a1 0 ((bt a0 0) != 45))) else (none))) = some (r1, r2, r3) := h
  clear h
  have HC3 := Aside0.mk H
  clear H
  go_enter Try.func84, Try.ntmps84
  go_upto_region 1 with (fail)
  repeat (go_quiet (fail); go_upto_region 1 with (fail))
  go_cut [26] (fun v26 wc => ∃ (kq : Nat) (x26_2 : Bool), v26 = .bool x26_2 ∧ Aside0 (zztime_zone.j0 kq a0 a1 0 x26_2 = some (r1, r2, r3)) ∧ Aside0 (kq ≤ k) ∧ Aside0 (Below w.heap.size w wc))
  case first =>
    have H := HC3.out
    clear HC3
    by_cases c4 : (a0.size : Int) < (wrap64 (3 * a1))
    · rw [if_pos c4] at H
      have c4b0 : decide ((a0.size : Int) < (wrap64 (3 * a1))) = true := decide_eq_true c4
      clear c4
      (first | rw [c4b0] | (simp only [i64_w, i32_w]; rw [c4b0]) | skip)
      have H' := Aside0.mk H
      clear H
      go_wp2
      repeat (go_quiet (fail); try go_wp2)
      go_meet
      case rel => exact ⟨_, (true), (by first | rfl | (simp; done) | (simp [*]; done)), H', ⟨by first | omega | exact Nat.le_refl _⟩, ⟨by repeat (first | (with_reducible first | exact HB.out | apply below_alloc | apply pw_below_drewN | apply below_drew1) | exact HB.out)⟩⟩
    · rw [if_neg c4] at H
      have c4b0 : decide ((a0.size : Int) < (wrap64 (3 * a1))) = false := decide_eq_false c4
      clear c4
      (first | rw [c4b0] | (simp only [i64_w, i32_w]; rw [c4b0]) | skip)
      by_cases c5 : 0 < (a0.size : Int)
      · rw [if_pos c5] at H
        have c5b0 : decide (0 < (a0.size : Int)) = true := decide_eq_true c5
        have c5b1 : decide (0 < a0.size) = true := decide_eq_true (by omega)
        clear c5
        by_cases c7 : (bt a0 0) = 43
        · rw [if_pos c7] at H
          have c7b0 : ((bt a0 0) == 43) = true := beq_iff_eq.mpr c7
          have c7b1 : ((bt a0 0) != 43) = false := bne_eq_false_iff_eq.mpr c7
          clear c7
          have H' := Aside0.mk H
          clear H
          have p6 : 0 ≤ (0 : Int) := (by omega)
          have q6 : 0 < a0.size := (by have : (0 : Int) < (a0.size : Int) := of_decide_eq_true (by first | (with_reducible assumption) | assumption); omega)
          have hx6 : ∀ h : 0 < a0.size, ((a0[0]'h).toNat : Int) = bt a0 0 := bt_at a0 0
          clear p6
          have qi6 : (0 < (a0.size : Int)) = True := eq_true (of_decide_eq_true (by first | (with_reducible assumption) | assumption))
          replace q6 := eq_true q6
          go_wp2
          repeat (go_quiet (fail); try go_wp2)
          go_meet
          case rel => exact ⟨_, (false), (by first | rfl | (simp; done) | (simp [*]; done)), H', ⟨by first | omega | exact Nat.le_refl _⟩, ⟨by repeat (first | (with_reducible first | exact HB.out | apply below_alloc | apply pw_below_drewN | apply below_drew1) | exact HB.out)⟩⟩
        · rw [if_neg c7] at H
          have c7b0 : ((bt a0 0) == 43) = false := beq_eq_false_iff_ne.mpr c7
          have c7b1 : ((bt a0 0) != 43) = true := bne_iff_ne.mpr c7
          have H' := Aside0.mk H
          clear H
          have p6 : 0 ≤ (0 : Int) := (by omega)
          have q6 : 0 < a0.size := (by have : (0 : Int) < (a0.size : Int) := of_decide_eq_true (by first | (with_reducible assumption) | assumption); omega)
          have hx6 : ∀ h : 0 < a0.size, ((a0[0]'h).toNat : Int) = bt a0 0 := bt_at a0 0
          clear p6
          have qi6 : (0 < (a0.size : Int)) = True := eq_true (of_decide_eq_true (by first | (with_reducible assumption) | assumption))
          replace q6 := eq_true q6
          have p8 : 0 ≤ (0 : Int) := (by omega)
          have q8 : 0 < a0.size := (by have : (0 : Int) < (a0.size : Int) := of_decide_eq_true (by first | (with_reducible assumption) | assumption); omega)
          have hx8 : ∀ h : 0 < a0.size, ((a0[0]'h).toNat : Int) = bt a0 0 := bt_at a0 0
          clear p8
          have qi8 : (0 < (a0.size : Int)) = True := eq_true (of_decide_eq_true (by first | (with_reducible assumption) | assumption))
          replace q8 := eq_true q8
          go_wp2
          repeat (go_quiet (fail); try go_wp2)
          go_meet
          case rel => exact ⟨_, (((bt a0 0) != 45)), (by first | rfl | (simp; done) | (simp [*]; done)), H', ⟨by first | omega | exact Nat.le_refl _⟩, ⟨by repeat (first | (with_reducible first | exact HB.out | apply below_alloc | apply pw_below_drewN | apply below_drew1) | exact HB.out)⟩⟩
      · rw [if_neg c5] at H
        exact absurd H (by simp)
  case rest =>
    clear HC3
    try clear p2
    try clear c4
    try clear c4b0
    try clear c5
    try clear c5b0
    try clear c5b1
    try clear p6
    try clear q6
    try clear hx6
    try clear qi6
    try clear c7
    try clear c7b0
    try clear c7b1
    try clear c8
    try clear p8
    try clear q8
    try clear hx8
    try clear qi8
    try clear p6
    try clear p8
    try clear q6
    try clear q8
    obtain ⟨kq, x26_2, rfl, HA, HJ2, HB⟩ := hcut
    cases kq with
    | zero => exact absurd HA.out (by simp [zztime_zone.j0])
    | succ kj2 =>
      have H := HA.out
      clear HA
      simp only [zztime_zone.j0] at H
      by_cases c9 : x26_2 = true
      · subst c9
        have H1 : (some (0, a0, false)) = some (r1, r2, r3) := by rw [if_pos rfl] at H; exact H
        clear H
        have H := H1
        clear H1
        simp only [Option.some.injEq, Prod.mk.injEq] at H
        obtain ⟨rfl, rfl, rfl⟩ := H
        go_wp2
        repeat (go_quiet (fail); try go_wp2)
        go_ret3
        exact ⟨by first | rfl | (simp [errW_none, errW_some] <;> rfl) | (simp [*, errW_none, errW_some] <;> rfl), by repeat (first | (with_reducible first | exact HB.out | apply below_alloc | apply pw_below_drewN | apply below_drew1) | exact HB.out)⟩
      · replace c9 := Bool.eq_false_iff.mpr c9
        subst c9
        have H1 : (zztime_zone.l0 kj2 a0 a1 0 (([24, 60, 60] : List Int)) 0) = some (r1, r2, r3) := by rw [if_neg (show ¬ (false = true) by decide)] at H; exact H
        clear H
        have H := H1
        clear H1
        obtain ⟨y125, hy125⟩ : ∃ y_ : List Int, y_ = (([24, 60, 60] : List Int)) := ⟨_, rfl⟩
        replace H : (zztime_zone.l0 kj2 a0 a1 0 y125 0) = some (r1, r2, r3) := by first | (rw [hy125]; with_reducible exact H) | (have H2_ := (Option.bind_some _ _).symm.trans H; rw [hy125]; with_reducible exact H2_) | (have H2_ := (Option.bind_some _ _).symm.trans H; with_reducible exact H2_) | with_reducible exact H | (rw [hy125]; exact H) | exact H
        have Ny125 := Aside0.mk hy125
        clear hy125
        have H' := Aside0.mk H
        clear H
        go_wp2_with (first | ((with_reducible refine gate_dst (N := 28) rfl ?_); refine Kd.R_lit (Kd.int .i64) _ 3 ?hg (N := 28) ?hd (xs := ([24, 60, 60] : List Int)) (inner := [.int .i64 24, .int .i64 60, .int .i64 60]) (ok := fun _ => True) (okp := fun _ => True) ?hr ?hp (fun _ hk => hk) trivial (Below.refl _ _) (Nat.le_refl _) (by simp) ?_; (case hd => rfl); (case hg => rfl); (case hr => first | (go_simp; done) | (go_simp; rfl) | (go_simp; simp [IntKind.wrap_u8]; done)); (case hp => exact (Reps.one (show Kd.M (Kd.int .i64) _ _ _ 24 [.int .i64 24] from rfl) (Reps.one (show Kd.M (Kd.int .i64) _ _ _ 60 [.int .i64 60] from rfl) (Reps.one (show Kd.M (Kd.int .i64) _ _ _ 60 [.int .i64 60] from rfl) (Reps.none _ _))))); intro v126 w10 ho11 hb hg_ hnew_; clear hg_ hnew_; (first | rw [← Ny125.out] at ho11 | (simp only [Int.reduceToNat] at ho11; rw [← Ny125.out] at ho11)); have n0_ := Aside0.mk (Kd.R_lower ho11 (below_size (by repeat (first | (with_reducible first | exact HB.out | apply below_alloc | apply pw_below_drewN | apply below_drew1) | exact HB.out)))); have n1_ := Aside0.mk (below_step (by repeat (first | (with_reducible first | exact HB.out | apply below_alloc | apply pw_below_drewN | apply below_drew1) | exact HB.out)) hb); clear HB; have HO127 := n0_; have HB := n1_; clear n0_ n1_; clear hb ho11))
        repeat (go_quiet (first | ((with_reducible refine gate_dst (N := 28) rfl ?_); refine Kd.R_lit (Kd.int .i64) _ 3 ?hg (N := 28) ?hd (xs := ([24, 60, 60] : List Int)) (inner := [.int .i64 24, .int .i64 60, .int .i64 60]) (ok := fun _ => True) (okp := fun _ => True) ?hr ?hp (fun _ hk => hk) trivial (Below.refl _ _) (Nat.le_refl _) (by simp) ?_; (case hd => rfl); (case hg => rfl); (case hr => first | (go_simp; done) | (go_simp; rfl) | (go_simp; simp [IntKind.wrap_u8]; done)); (case hp => exact (Reps.one (show Kd.M (Kd.int .i64) _ _ _ 24 [.int .i64 24] from rfl) (Reps.one (show Kd.M (Kd.int .i64) _ _ _ 60 [.int .i64 60] from rfl) (Reps.one (show Kd.M (Kd.int .i64) _ _ _ 60 [.int .i64 60] from rfl) (Reps.none _ _))))); intro v126 w10 ho11 hb hg_ hnew_; clear hg_ hnew_; (first | rw [← Ny125.out] at ho11 | (simp only [Int.reduceToNat] at ho11; rw [← Ny125.out] at ho11)); have n0_ := Aside0.mk (Kd.R_lower ho11 (below_size (by repeat (first | (with_reducible first | exact HB.out | apply below_alloc | apply pw_below_drewN | apply below_drew1) | exact HB.out)))); have n1_ := Aside0.mk (below_step (by repeat (first | (with_reducible first | exact HB.out | apply below_alloc | apply pw_below_drewN | apply below_drew1) | exact HB.out)) hb); clear HB; have HO127 := n0_; have HB := n1_; clear n0_ n1_; clear hb ho11)); try go_wp2_with (first | ((with_reducible refine gate_dst (N := 28) rfl ?_); refine Kd.R_lit (Kd.int .i64) _ 3 ?hg (N := 28) ?hd (xs := ([24, 60, 60] : List Int)) (inner := [.int .i64 24, .int .i64 60, .int .i64 60]) (ok := fun _ => True) (okp := fun _ => True) ?hr ?hp (fun _ hk => hk) trivial (Below.refl _ _) (Nat.le_refl _) (by simp) ?_; (case hd => rfl); (case hg => rfl); (case hr => first | (go_simp; done) | (go_simp; rfl) | (go_simp; simp [IntKind.wrap_u8]; done)); (case hp => exact (Reps.one (show Kd.M (Kd.int .i64) _ _ _ 24 [.int .i64 24] from rfl) (Reps.one (show Kd.M (Kd.int .i64) _ _ _ 60 [.int .i64 60] from rfl) (Reps.one (show Kd.M (Kd.int .i64) _ _ _ 60 [.int .i64 60] from rfl) (Reps.none _ _))))); intro v126 w10 ho11 hb hg_ hnew_; clear hg_ hnew_; (first | rw [← Ny125.out] at ho11 | (simp only [Int.reduceToNat] at ho11; rw [← Ny125.out] at ho11)); have n0_ := Aside0.mk (Kd.R_lower ho11 (below_size (by repeat (first | (with_reducible first | exact HB.out | apply below_alloc | apply pw_below_drewN | apply below_drew1) | exact HB.out)))); have n1_ := Aside0.mk (below_step (by repeat (first | (with_reducible first | exact HB.out | apply below_alloc | apply pw_below_drewN | apply below_drew1) | exact HB.out)) hb); clear HB; have HO127 := n0_; have HB := n1_; clear n0_ n1_; clear hb ho11)))
        go_loopg [4, 8] kj2 (fun kq v4 v8 w' => ∃ (x4_2 : Int) (x8_2 : Int), v4 = .int .i64 x4_2 ∧ v8 = .int .i64 x8_2 ∧ Aside0 (zztime_zone.l0 kq a0 a1 x4_2 y125 x8_2 = some (r1, r2, r3)) ∧ Aside0 (kq ≤ kj2) ∧ Aside0 (Kd.R (Kd.int .i64) 3 w' w.heap.size (fun _ => True) v126 y125) ∧ Aside0 (Below w.heap.size w w'))
        case atStart => exact ⟨(0), (0), (by first | rfl | (simp; done) | (simp [*]; done)), (by first | rfl | (simp; done) | (simp [*]; done)), H', ⟨Nat.le_refl _⟩, ⟨by (with_reducible repeat (first | apply Kd.R_alloc | apply Kd.R_drewN | apply Kd.R_drew)); exact HO127.out⟩, ⟨by repeat (first | (with_reducible first | exact HB.out | apply below_alloc | apply pw_below_drewN | apply below_drew1) | exact HB.out)⟩⟩
        case round =>
          clear H'
          try clear p2
          try clear c4
          try clear c4b0
          try clear c5
          try clear c5b0
          try clear c5b1
          try clear p6
          try clear q6
          try clear hx6
          try clear qi6
          try clear c7
          try clear c7b0
          try clear c7b1
          try clear c8
          try clear p8
          try clear q8
          try clear hx8
          try clear qi8
          try clear c9
          try clear p2
          try clear p6
          try clear p8
          try clear q6
          try clear q8
          obtain ⟨x4_2, x8_2, rfl, rfl, HA, HK2, HO_7, HB⟩ := hrel
          cases gk with
          | zero => exact absurd HA.out (by simp [zztime_zone.l0])
          | succ k2 =>
            have H := HA.out
            clear HA
            simp only [zztime_zone.l0] at H
            by_cases c12 : x8_2 < a1
            · rw [if_pos c12] at H
              have c12b0 : decide (x8_2 < a1) = true := decide_eq_true c12
              clear c12
              have HC13 := Aside0.mk H
              clear H
              go_upto_region 7 with (fail)
              repeat (go_quiet (fail); go_upto_region 7 with (fail))
              go_cut [42] (fun v42 wc => ∃ (kq : Nat) (x42_12 : Bool), v42 = .bool x42_12 ∧ Aside0 (zztime_zone.j2 kq a0 a1 x4_2 y125 x8_2 x42_12 = some (r1, r2, r3)) ∧ Aside0 (kq ≤ k2) ∧ Aside0 (Kd.R (Kd.int .i64) 3 wc w.heap.size (fun _ => True) v126 y125) ∧ Aside0 (Below w.heap.size w wc))
              case first =>
                have H := HC13.out
                clear HC13
                by_cases c14 : x8_2 > 0
                · rw [if_pos c14] at H
                  have c14b0 : decide (0 < x8_2) = true := decide_eq_true c14
                  clear c14
                  (first | rw [c14b0] | (simp only [i64_w, i32_w]; rw [c14b0]) | skip)
                  obtain ⟨ji15, hji15⟩ : ∃ j_ : Int, (wrap64 (3 * x8_2)) = j_ := ⟨_, rfl⟩
                  replace H : (if 0 ≤ (ji15) then (if (ji15) < (a0.size : Int) then (zztime_zone.j2 k2 a0 a1 x4_2 y125 x8_2 ((bt a0 (ji15)) != 58)) else (none)) else (none)) = some (r1, r2, r3) := by first | (rw [hji15] at H; exact H) | (simp only [hji15] at H ⊢; exact H)
                  have hji15w : (IntKind.i64.wrap (3 * x8_2)) = ji15 := (i64_w _).trans hji15
                  by_cases c16 : 0 ≤ (ji15)
                  · rw [if_pos c16] at H
                    have c16b0 : decide (0 ≤ (ji15)) = true := decide_eq_true c16
                    clear c16
                    by_cases c17 : (ji15) < (a0.size : Int)
                    · rw [if_pos c17] at H
                      have c17b0 : decide ((ji15) < (a0.size : Int)) = true := decide_eq_true c17
                      clear c17
                      have H' := Aside0.mk H
                      clear H
                      have p18 : 0 ≤ ((ji15) : Int) := of_decide_eq_true (by first | (with_reducible assumption) | assumption)
                      have q18 : (ji15) < (a0.size : Int) := of_decide_eq_true (by first | (with_reducible assumption) | assumption)
                      have hx18 := bt_at a0 (ji15)
                      replace p18 := eq_true p18
                      replace q18 := eq_true q18
                      go_wp2
                      repeat (go_quiet (fail); try go_wp2)
                      go_meet
                      case rel => exact ⟨_, (((bt a0 (ji15)) != 58)), (by first | rfl | (simp; done) | (simp only [← hji15] <;> (first | rfl | simp)) | (simp [*]; done)), H', ⟨by have := HJ2.out; have := HK2.out; first | omega | exact Nat.le_refl _⟩, ⟨by (with_reducible repeat (first | apply Kd.R_alloc | apply Kd.R_drewN | apply Kd.R_drew)); exact HO_7.out⟩, ⟨by repeat (first | (with_reducible first | exact HB.out | apply below_alloc | apply pw_below_drewN | apply below_drew1) | exact HB.out)⟩⟩
                    · rw [if_neg c17] at H
                      exact absurd H (by simp)
                  · rw [if_neg c16] at H
                    exact absurd H (by simp)
                · rw [if_neg c14] at H
                  have c14b0 : decide (0 < x8_2) = false := decide_eq_false c14
                  clear c14
                  (first | rw [c14b0] | (simp only [i64_w, i32_w]; rw [c14b0]) | skip)
                  have H' := Aside0.mk H
                  clear H
                  go_wp2
                  repeat (go_quiet (fail); try go_wp2)
                  go_meet
                  case rel => exact ⟨_, (false), (by first | rfl | (simp; done) | (simp [*]; done)), H', ⟨by have := HJ2.out; have := HK2.out; first | omega | exact Nat.le_refl _⟩, ⟨by (with_reducible repeat (first | apply Kd.R_alloc | apply Kd.R_drewN | apply Kd.R_drew)); exact HO_7.out⟩, ⟨by repeat (first | (with_reducible first | exact HB.out | apply below_alloc | apply pw_below_drewN | apply below_drew1) | exact HB.out)⟩⟩
              case rest =>
                clear HC13
                try clear c1
                try clear p1
                try clear q1
                try clear hx1
                try clear p2
                try clear c4
                try clear c4b0
                try clear c5
                try clear c5b0
                try clear c5b1
                try clear p6
                try clear q6
                try clear hx6
                try clear qi6
                try clear c7
                try clear c7b0
                try clear c7b1
                try clear c8
                try clear p8
                try clear q8
                try clear hx8
                try clear qi8
                try clear c9
                try clear c12
                try clear c12b0
                try clear c14
                try clear c14b0
                try clear c16
                try clear c16b0
                try clear c17
                try clear c17b0
                try clear p18
                try clear q18
                try clear hx18
                try clear p18
                try clear p2
                try clear p6
                try clear p8
                try clear q18
                try clear q6
                try clear q8
                obtain ⟨kq, x42_12, rfl, HA, HJ12, HO_7, HB⟩ := hcut
                cases kq with
                | zero => exact absurd HA.out (by simp [zztime_zone.j2])
                | succ kj12 =>
                  have H := HA.out
                  clear HA
                  simp only [zztime_zone.j2] at H
                  by_cases c19 : x42_12 = true
                  · subst c19
                    have H1 : (some (0, a0, false)) = some (r1, r2, r3) := by rw [if_pos rfl] at H; exact H
                    clear H
                    have H := H1
                    clear H1
                    simp only [Option.some.injEq, Prod.mk.injEq] at H
                    obtain ⟨rfl, rfl, rfl⟩ := H
                    go_wp2
                    repeat (go_quiet (fail); try go_wp2)
                    go_ret3
                    exact ⟨by first | rfl | (simp [errW_none, errW_some] <;> rfl) | (simp [*, errW_none, errW_some] <;> rfl), by repeat (first | (with_reducible first | exact HB.out | apply below_alloc | apply pw_below_drewN | apply below_drew1) | exact HB.out)⟩
                  · replace c19 := Bool.eq_false_iff.mpr c19
                    subst c19
                    have H1 : (if 0 ≤ (wrap64 ((wrap64 (3 * x8_2)) + 1)) then (if (wrap64 ((wrap64 (3 * x8_2)) + 1)) ≤ (wrap64 ((wrap64 (3 * x8_2)) + 3)) then (if (wrap64 ((wrap64 (3 * x8_2)) + 3)) ≤ (a0.size : Int) then ((zztime_number.f kj12 (a0.extract ((wrap64 ((wrap64 (3 * x8_2)) + 1)) : Int).toNat ((wrap64 ((wrap64 (3 * x8_2)) + 3)) : Int).toNat) true).bind fun bt128 => (if bt128.2.2 = true then (if 0 ≤ x8_2 then (if x8_2 < (y125.length : Int) then (if bt128.1 > (rd y125 x8_2) then (some (0, a0, false)) else ((some (([3600, 60, 1] : List Int) : List Int)).bind fun y132 => (if x8_2 < (y132.length : Int) then (zztime_zone.l0 kj12 a0 a1 (wrap64 (x4_2 + (wrap64 (bt128.1 * (rd y132 x8_2))))) y125 (wrap64 (x8_2 + 1))) else (none)))) else (none)) else (none)) else (some (0, a0, false)))) else (none)) else (none)) else (none)) = some (r1, r2, r3) := by rw [if_neg (show ¬ (false = true) by decide)] at H; exact H
                    clear H
                    have H := H1
                    clear H1
                    obtain ⟨ji20, hji20⟩ : ∃ j_ : Int, (wrap64 ((wrap64 (3 * x8_2)) + 1)) = j_ := ⟨_, rfl⟩
                    replace H : (if 0 ≤ (ji20) then (if (ji20) ≤ (wrap64 ((wrap64 (3 * x8_2)) + 3)) then (if (wrap64 ((wrap64 (3 * x8_2)) + 3)) ≤ (a0.size : Int) then ((zztime_number.f kj12 (a0.extract ((ji20) : Int).toNat ((wrap64 ((wrap64 (3 * x8_2)) + 3)) : Int).toNat) true).bind fun bt128 => (if bt128.2.2 = true then (if 0 ≤ x8_2 then (if x8_2 < (y125.length : Int) then (if bt128.1 > (rd y125 x8_2) then (some (0, a0, false)) else ((some (([3600, 60, 1] : List Int) : List Int)).bind fun y132 => (if x8_2 < (y132.length : Int) then (zztime_zone.l0 kj12 a0 a1 (wrap64 (x4_2 + (wrap64 (bt128.1 * (rd y132 x8_2))))) y125 (wrap64 (x8_2 + 1))) else (none)))) else (none)) else (none)) else (some (0, a0, false)))) else (none)) else (none)) else (none)) = some (r1, r2, r3) := by first | (rw [hji20] at H; exact H) | (simp only [hji20] at H ⊢; exact H)
                    have hji20w : (IntKind.i64.wrap ((wrap64 (3 * x8_2)) + 1)) = ji20 := (i64_w _).trans hji20
                    by_cases c21 : 0 ≤ (ji20)
                    · rw [if_pos c21] at H
                      have c21b0 := eq_true c21
                      have c21b1 : decide (0 ≤ (ji20)) = true := decide_eq_true c21
                      clear c21
                      by_cases c22 : (ji20) ≤ (wrap64 ((wrap64 (3 * x8_2)) + 3))
                      · rw [if_pos c22] at H
                        have c22b0 := eq_true c22
                        have c22b1 : decide ((ji20) ≤ (wrap64 ((wrap64 (3 * x8_2)) + 3))) = true := decide_eq_true c22
                        by_cases c23 : (wrap64 ((wrap64 (3 * x8_2)) + 3)) ≤ (a0.size : Int)
                        · rw [if_pos c23] at H
                          have c23b0 := eq_true c23
                          have c23b1 : decide ((wrap64 ((wrap64 (3 * x8_2)) + 3)) ≤ (a0.size : Int)) = true := decide_eq_true c23
                          replace H := Option.bind_eq_some_iff.mp H
                          obtain ⟨⟨t128, t129, t130⟩, A240, H⟩ := H
                          replace H : (if t130 = true then (if 0 ≤ x8_2 then (if x8_2 < (y125.length : Int) then (if t128 > (rd y125 x8_2) then (some (0, a0, false)) else ((some (([3600, 60, 1] : List Int) : List Int)).bind fun y132 => (if x8_2 < (y132.length : Int) then (zztime_zone.l0 kj12 a0 a1 (wrap64 (x4_2 + (wrap64 (t128 * (rd y132 x8_2))))) y125 (wrap64 (x8_2 + 1))) else (none)))) else (none)) else (none)) else (some (0, a0, false))) = some (r1, r2, r3) := H
                          have A24 := Aside0.mk A240
                          clear A240
                          by_cases c25 : t130 = true
                          · subst c25
                            have H1 : (if 0 ≤ x8_2 then (if x8_2 < (y125.length : Int) then (if t128 > (rd y125 x8_2) then (some (0, a0, false)) else ((some (([3600, 60, 1] : List Int) : List Int)).bind fun y132 => (if x8_2 < (y132.length : Int) then (zztime_zone.l0 kj12 a0 a1 (wrap64 (x4_2 + (wrap64 (t128 * (rd y132 x8_2))))) y125 (wrap64 (x8_2 + 1))) else (none)))) else (none)) else (none)) = some (r1, r2, r3) := by rw [if_pos rfl] at H; exact H
                            clear H
                            have H := H1
                            clear H1
                            by_cases c26 : 0 ≤ x8_2
                            · rw [if_pos c26] at H
                              have c26b0 : decide (0 ≤ x8_2) = true := decide_eq_true c26
                              clear c26
                              by_cases c27 : x8_2 < (y125.length : Int)
                              · rw [if_pos c27] at H
                                have c27b0 : decide (x8_2 < (y125.length : Int)) = true := decide_eq_true c27
                                clear c27
                                by_cases c28 : t128 > (rd y125 x8_2)
                                · rw [if_pos c28] at H
                                  have c28b0 : decide ((rd y125 x8_2) < t128) = true := decide_eq_true c28
                                  clear c28
                                  simp only [Option.some.injEq, Prod.mk.injEq] at H
                                  obtain ⟨rfl, rfl, rfl⟩ := H
                                  go_wp2_with (first | (go_at_call 81; (with_reducible refine (zztime_number.calls kj12 (a0.extract ((ji20) : Int).toNat ((wrap64 ((wrap64 (3 * x8_2)) + 3)) : Int).toNat) true t128 t129 true _ A24.out).mono ?_); rintro e w' ⟨rfl, ⟨nd, rfl⟩⟩; (try first | exact ⟨rfl, _, World.drewN_drewN _ _ _⟩ | exact ⟨rfl, _, Eq.trans (World.drewN_drewN _ _ _) (congrArg (World.drewN _) (Nat.add_assoc _ _ _))⟩); obtain ⟨Ao29, co29, eo29⟩ := Kd.R_slice HO_7.out; subst eo29; have p131 : 0 ≤ (x8_2 : Int) := of_decide_eq_true (by first | (with_reducible assumption) | assumption); have q131 : x8_2 < (y125.length : Int) := of_decide_eq_true (by first | (with_reducible assumption) | assumption); obtain ⟨ad131, e131, hx131_0⟩ := Kd.at_int (Kd.R_reads' HO_7.out).2.2 x8_2 p131 q131; cases e131; replace p131 := eq_true p131; replace q131 := eq_true q131))
                                  repeat (go_quiet (first | (go_at_call 81; (with_reducible refine (zztime_number.calls kj12 (a0.extract ((ji20) : Int).toNat ((wrap64 ((wrap64 (3 * x8_2)) + 3)) : Int).toNat) true t128 t129 true _ A24.out).mono ?_); rintro e w' ⟨rfl, ⟨nd, rfl⟩⟩; (try first | exact ⟨rfl, _, World.drewN_drewN _ _ _⟩ | exact ⟨rfl, _, Eq.trans (World.drewN_drewN _ _ _) (congrArg (World.drewN _) (Nat.add_assoc _ _ _))⟩); obtain ⟨Ao29, co29, eo29⟩ := Kd.R_slice HO_7.out; subst eo29; have p131 : 0 ≤ (x8_2 : Int) := of_decide_eq_true (by first | (with_reducible assumption) | assumption); have q131 : x8_2 < (y125.length : Int) := of_decide_eq_true (by first | (with_reducible assumption) | assumption); obtain ⟨ad131, e131, hx131_0⟩ := Kd.at_int (Kd.R_reads' HO_7.out).2.2 x8_2 p131 q131; cases e131; replace p131 := eq_true p131; replace q131 := eq_true q131)); try go_wp2_with (first | (go_at_call 81; (with_reducible refine (zztime_number.calls kj12 (a0.extract ((ji20) : Int).toNat ((wrap64 ((wrap64 (3 * x8_2)) + 3)) : Int).toNat) true t128 t129 true _ A24.out).mono ?_); rintro e w' ⟨rfl, ⟨nd, rfl⟩⟩; (try first | exact ⟨rfl, _, World.drewN_drewN _ _ _⟩ | exact ⟨rfl, _, Eq.trans (World.drewN_drewN _ _ _) (congrArg (World.drewN _) (Nat.add_assoc _ _ _))⟩); obtain ⟨Ao29, co29, eo29⟩ := Kd.R_slice HO_7.out; subst eo29; have p131 : 0 ≤ (x8_2 : Int) := of_decide_eq_true (by first | (with_reducible assumption) | assumption); have q131 : x8_2 < (y125.length : Int) := of_decide_eq_true (by first | (with_reducible assumption) | assumption); obtain ⟨ad131, e131, hx131_0⟩ := Kd.at_int (Kd.R_reads' HO_7.out).2.2 x8_2 p131 q131; cases e131; replace p131 := eq_true p131; replace q131 := eq_true q131)))
                                  go_ret3
                                  exact ⟨by first | rfl | (simp [errW_none, errW_some] <;> rfl) | (simp only [← hji20]; first | rfl | (simp [errW_none, errW_some] <;> rfl)) | (simp [*, errW_none, errW_some] <;> rfl), by repeat (first | (with_reducible first | exact HB.out | apply below_alloc | apply pw_below_drewN | apply below_drew1) | exact HB.out)⟩
                                · rw [if_neg c28] at H
                                  have c28b0 : decide ((rd y125 x8_2) < t128) = false := decide_eq_false c28
                                  clear c28
                                  obtain ⟨y132, hy132⟩ : ∃ y_ : List Int, y_ = (([3600, 60, 1] : List Int)) := ⟨_, rfl⟩
                                  replace H : (if x8_2 < (y132.length : Int) then (zztime_zone.l0 kj12 a0 a1 (wrap64 (x4_2 + (wrap64 (t128 * (rd y132 x8_2))))) y125 (wrap64 (x8_2 + 1))) else (none)) = some (r1, r2, r3) := by first | (rw [hy132]; with_reducible exact H) | (have H2_ := (Option.bind_some _ _).symm.trans H; rw [hy132]; with_reducible exact H2_) | (have H2_ := (Option.bind_some _ _).symm.trans H; with_reducible exact H2_) | with_reducible exact H | (rw [hy132]; exact H) | exact H
                                  have Ny132 := Aside0.mk hy132
                                  clear hy132
                                  by_cases c30 : x8_2 < (y132.length : Int)
                                  · rw [if_pos c30] at H
                                    have c30b0 : decide (x8_2 < (y132.length : Int)) = true := decide_eq_true c30
                                    clear c30
                                    have H' := Aside0.mk H
                                    clear H
                                    go_wp2_with (first | (go_at_call 81; (with_reducible refine (zztime_number.calls kj12 (a0.extract ((ji20) : Int).toNat ((wrap64 ((wrap64 (3 * x8_2)) + 3)) : Int).toNat) true t128 t129 true _ A24.out).mono ?_); rintro e w' ⟨rfl, ⟨nd, rfl⟩⟩; (try first | exact ⟨rfl, _, World.drewN_drewN _ _ _⟩ | exact ⟨rfl, _, Eq.trans (World.drewN_drewN _ _ _) (congrArg (World.drewN _) (Nat.add_assoc _ _ _))⟩); obtain ⟨Ao31, co31, eo31⟩ := Kd.R_slice HO_7.out; subst eo31; have p131 : 0 ≤ (x8_2 : Int) := of_decide_eq_true (by first | (with_reducible assumption) | assumption); have q131 : x8_2 < (y125.length : Int) := of_decide_eq_true (by first | (with_reducible assumption) | assumption); obtain ⟨ad131, e131, hx131_0⟩ := Kd.at_int (Kd.R_reads' HO_7.out).2.2 x8_2 p131 q131; cases e131; replace p131 := eq_true p131; replace q131 := eq_true q131) | ((with_reducible refine gate_dst (N := 70) rfl ?_); refine Kd.R_lit (Kd.int .i64) _ 3 ?hg (N := 70) ?hd (xs := ([3600, 60, 1] : List Int)) (inner := [.int .i64 3600, .int .i64 60, .int .i64 1]) (ok := fun _ => True) (okp := fun _ => True) ?hr ?hp (fun _ hk => hk) trivial (Below.refl _ _) (Nat.le_refl _) (by simp) ?_; (case hd => rfl); (case hg => rfl); (case hr => first | (go_simp; done) | (go_simp; rfl) | (go_simp; simp [IntKind.wrap_u8]; done)); (case hp => exact (Reps.one (show Kd.M (Kd.int .i64) _ _ _ 3600 [.int .i64 3600] from rfl) (Reps.one (show Kd.M (Kd.int .i64) _ _ _ 60 [.int .i64 60] from rfl) (Reps.one (show Kd.M (Kd.int .i64) _ _ _ 1 [.int .i64 1] from rfl) (Reps.none _ _))))); intro v133 w32 ho33 hb hg_ hnew_; clear hg_ hnew_; (first | rw [← Ny132.out] at ho33 | (simp only [Int.reduceToNat] at ho33; rw [← Ny132.out] at ho33)); have n0_ := Aside0.mk (Kd.R_elder' (by (with_reducible repeat (first | apply Kd.R_alloc | apply Kd.R_drewN | apply Kd.R_drew)); exact HO_7.out) (Kd.R_base ho33) hb); have n1_ := Aside0.mk (Kd.R_lower (Kd.R_new' ho33 (Kd.R_lt (by (with_reducible repeat (first | apply Kd.R_alloc | apply Kd.R_drewN | apply Kd.R_drew)); exact HO_7.out))) (below_size (by repeat (first | (with_reducible first | exact HB.out | apply below_alloc | apply pw_below_drewN | apply below_drew1) | exact HB.out)))); have n2_ := Aside0.mk (below_step (by repeat (first | (with_reducible first | exact HB.out | apply below_alloc | apply pw_below_drewN | apply below_drew1) | exact HB.out)) hb); clear HO_7; clear HB; have HO_7 := n0_; have HO134 := n1_; have HB := n2_; clear n0_ n1_ n2_; clear hb ho33; obtain ⟨Ao34, co34, eo34⟩ := Kd.R_slice HO134.out; subst eo34; have p135 : 0 ≤ (x8_2 : Int) := of_decide_eq_true (by first | (with_reducible assumption) | assumption); have q135 : x8_2 < (y132.length : Int) := of_decide_eq_true (by first | (with_reducible assumption) | assumption); obtain ⟨ad135, e135, hx135_0⟩ := Kd.at_int (Kd.R_reads' HO134.out).2.2 x8_2 p135 q135; cases e135; replace p135 := eq_true p135; replace q135 := eq_true q135))
                                    repeat (go_quiet (first | (go_at_call 81; (with_reducible refine (zztime_number.calls kj12 (a0.extract ((ji20) : Int).toNat ((wrap64 ((wrap64 (3 * x8_2)) + 3)) : Int).toNat) true t128 t129 true _ A24.out).mono ?_); rintro e w' ⟨rfl, ⟨nd, rfl⟩⟩; (try first | exact ⟨rfl, _, World.drewN_drewN _ _ _⟩ | exact ⟨rfl, _, Eq.trans (World.drewN_drewN _ _ _) (congrArg (World.drewN _) (Nat.add_assoc _ _ _))⟩); obtain ⟨Ao31, co31, eo31⟩ := Kd.R_slice HO_7.out; subst eo31; have p131 : 0 ≤ (x8_2 : Int) := of_decide_eq_true (by first | (with_reducible assumption) | assumption); have q131 : x8_2 < (y125.length : Int) := of_decide_eq_true (by first | (with_reducible assumption) | assumption); obtain ⟨ad131, e131, hx131_0⟩ := Kd.at_int (Kd.R_reads' HO_7.out).2.2 x8_2 p131 q131; cases e131; replace p131 := eq_true p131; replace q131 := eq_true q131) | ((with_reducible refine gate_dst (N := 70) rfl ?_); refine Kd.R_lit (Kd.int .i64) _ 3 ?hg (N := 70) ?hd (xs := ([3600, 60, 1] : List Int)) (inner := [.int .i64 3600, .int .i64 60, .int .i64 1]) (ok := fun _ => True) (okp := fun _ => True) ?hr ?hp (fun _ hk => hk) trivial (Below.refl _ _) (Nat.le_refl _) (by simp) ?_; (case hd => rfl); (case hg => rfl); (case hr => first | (go_simp; done) | (go_simp; rfl) | (go_simp; simp [IntKind.wrap_u8]; done)); (case hp => exact (Reps.one (show Kd.M (Kd.int .i64) _ _ _ 3600 [.int .i64 3600] from rfl) (Reps.one (show Kd.M (Kd.int .i64) _ _ _ 60 [.int .i64 60] from rfl) (Reps.one (show Kd.M (Kd.int .i64) _ _ _ 1 [.int .i64 1] from rfl) (Reps.none _ _))))); intro v133 w32 ho33 hb hg_ hnew_; clear hg_ hnew_; (first | rw [← Ny132.out] at ho33 | (simp only [Int.reduceToNat] at ho33; rw [← Ny132.out] at ho33)); have n0_ := Aside0.mk (Kd.R_elder' (by (with_reducible repeat (first | apply Kd.R_alloc | apply Kd.R_drewN | apply Kd.R_drew)); exact HO_7.out) (Kd.R_base ho33) hb); have n1_ := Aside0.mk (Kd.R_lower (Kd.R_new' ho33 (Kd.R_lt (by (with_reducible repeat (first | apply Kd.R_alloc | apply Kd.R_drewN | apply Kd.R_drew)); exact HO_7.out))) (below_size (by repeat (first | (with_reducible first | exact HB.out | apply below_alloc | apply pw_below_drewN | apply below_drew1) | exact HB.out)))); have n2_ := Aside0.mk (below_step (by repeat (first | (with_reducible first | exact HB.out | apply below_alloc | apply pw_below_drewN | apply below_drew1) | exact HB.out)) hb); clear HO_7; clear HB; have HO_7 := n0_; have HO134 := n1_; have HB := n2_; clear n0_ n1_ n2_; clear hb ho33; obtain ⟨Ao34, co34, eo34⟩ := Kd.R_slice HO134.out; subst eo34; have p135 : 0 ≤ (x8_2 : Int) := of_decide_eq_true (by first | (with_reducible assumption) | assumption); have q135 : x8_2 < (y132.length : Int) := of_decide_eq_true (by first | (with_reducible assumption) | assumption); obtain ⟨ad135, e135, hx135_0⟩ := Kd.at_int (Kd.R_reads' HO134.out).2.2 x8_2 p135 q135; cases e135; replace p135 := eq_true p135; replace q135 := eq_true q135)); try go_wp2_with (first | (go_at_call 81; (with_reducible refine (zztime_number.calls kj12 (a0.extract ((ji20) : Int).toNat ((wrap64 ((wrap64 (3 * x8_2)) + 3)) : Int).toNat) true t128 t129 true _ A24.out).mono ?_); rintro e w' ⟨rfl, ⟨nd, rfl⟩⟩; (try first | exact ⟨rfl, _, World.drewN_drewN _ _ _⟩ | exact ⟨rfl, _, Eq.trans (World.drewN_drewN _ _ _) (congrArg (World.drewN _) (Nat.add_assoc _ _ _))⟩); obtain ⟨Ao31, co31, eo31⟩ := Kd.R_slice HO_7.out; subst eo31; have p131 : 0 ≤ (x8_2 : Int) := of_decide_eq_true (by first | (with_reducible assumption) | assumption); have q131 : x8_2 < (y125.length : Int) := of_decide_eq_true (by first | (with_reducible assumption) | assumption); obtain ⟨ad131, e131, hx131_0⟩ := Kd.at_int (Kd.R_reads' HO_7.out).2.2 x8_2 p131 q131; cases e131; replace p131 := eq_true p131; replace q131 := eq_true q131) | ((with_reducible refine gate_dst (N := 70) rfl ?_); refine Kd.R_lit (Kd.int .i64) _ 3 ?hg (N := 70) ?hd (xs := ([3600, 60, 1] : List Int)) (inner := [.int .i64 3600, .int .i64 60, .int .i64 1]) (ok := fun _ => True) (okp := fun _ => True) ?hr ?hp (fun _ hk => hk) trivial (Below.refl _ _) (Nat.le_refl _) (by simp) ?_; (case hd => rfl); (case hg => rfl); (case hr => first | (go_simp; done) | (go_simp; rfl) | (go_simp; simp [IntKind.wrap_u8]; done)); (case hp => exact (Reps.one (show Kd.M (Kd.int .i64) _ _ _ 3600 [.int .i64 3600] from rfl) (Reps.one (show Kd.M (Kd.int .i64) _ _ _ 60 [.int .i64 60] from rfl) (Reps.one (show Kd.M (Kd.int .i64) _ _ _ 1 [.int .i64 1] from rfl) (Reps.none _ _))))); intro v133 w32 ho33 hb hg_ hnew_; clear hg_ hnew_; (first | rw [← Ny132.out] at ho33 | (simp only [Int.reduceToNat] at ho33; rw [← Ny132.out] at ho33)); have n0_ := Aside0.mk (Kd.R_elder' (by (with_reducible repeat (first | apply Kd.R_alloc | apply Kd.R_drewN | apply Kd.R_drew)); exact HO_7.out) (Kd.R_base ho33) hb); have n1_ := Aside0.mk (Kd.R_lower (Kd.R_new' ho33 (Kd.R_lt (by (with_reducible repeat (first | apply Kd.R_alloc | apply Kd.R_drewN | apply Kd.R_drew)); exact HO_7.out))) (below_size (by repeat (first | (with_reducible first | exact HB.out | apply below_alloc | apply pw_below_drewN | apply below_drew1) | exact HB.out)))); have n2_ := Aside0.mk (below_step (by repeat (first | (with_reducible first | exact HB.out | apply below_alloc | apply pw_below_drewN | apply below_drew1) | exact HB.out)) hb); clear HO_7; clear HB; have HO_7 := n0_; have HO134 := n1_; have HB := n2_; clear n0_ n1_ n2_; clear hb ho33; obtain ⟨Ao34, co34, eo34⟩ := Kd.R_slice HO134.out; subst eo34; have p135 : 0 ≤ (x8_2 : Int) := of_decide_eq_true (by first | (with_reducible assumption) | assumption); have q135 : x8_2 < (y132.length : Int) := of_decide_eq_true (by first | (with_reducible assumption) | assumption); obtain ⟨ad135, e135, hx135_0⟩ := Kd.at_int (Kd.R_reads' HO134.out).2.2 x8_2 p135 q135; cases e135; replace p135 := eq_true p135; replace q135 := eq_true q135)))
                                    go_roundg kj12
                                    case measure => have := HJ2.out; have := HK2.out; have := HJ12.out; omega
                                    case rel => exact ⟨(wrap64 (x4_2 + (wrap64 (t128 * (rd y132 x8_2))))), (wrap64 (x8_2 + 1)), (by first | rfl | (simp; done) | (simp [*]; done)), (by first | rfl | (simp; done) | (simp [*]; done)), H', ⟨by have := HJ2.out; have := HK2.out; have := HJ12.out; omega⟩, ⟨by (with_reducible repeat (first | apply Kd.R_alloc | apply Kd.R_drewN | apply Kd.R_drew)); exact Kd.R_mono HO_7.out (fun _ hk => trivial)⟩, ⟨by repeat (first | (with_reducible first | exact HB.out | apply below_alloc | apply pw_below_drewN | apply below_drew1) | exact HB.out)⟩⟩
                                  · rw [if_neg c30] at H
                                    exact absurd H (by simp)
                              · rw [if_neg c27] at H
                                exact absurd H (by simp)
                            · rw [if_neg c26] at H
                              exact absurd H (by simp)
                          · replace c25 := Bool.eq_false_iff.mpr c25
                            subst c25
                            have H1 : (some (0, a0, false)) = some (r1, r2, r3) := by rw [if_neg (show ¬ (false = true) by decide)] at H; exact H
                            clear H
                            have H := H1
                            clear H1
                            simp only [Option.some.injEq, Prod.mk.injEq] at H
                            obtain ⟨rfl, rfl, rfl⟩ := H
                            go_wp2_with (first | (go_at_call 81; (with_reducible refine (zztime_number.calls kj12 (a0.extract ((ji20) : Int).toNat ((wrap64 ((wrap64 (3 * x8_2)) + 3)) : Int).toNat) true t128 t129 false _ A24.out).mono ?_); rintro e w' ⟨rfl, ⟨nd, rfl⟩⟩; (try first | exact ⟨rfl, _, World.drewN_drewN _ _ _⟩ | exact ⟨rfl, _, Eq.trans (World.drewN_drewN _ _ _) (congrArg (World.drewN _) (Nat.add_assoc _ _ _))⟩)))
                            repeat (go_quiet (first | (go_at_call 81; (with_reducible refine (zztime_number.calls kj12 (a0.extract ((ji20) : Int).toNat ((wrap64 ((wrap64 (3 * x8_2)) + 3)) : Int).toNat) true t128 t129 false _ A24.out).mono ?_); rintro e w' ⟨rfl, ⟨nd, rfl⟩⟩; (try first | exact ⟨rfl, _, World.drewN_drewN _ _ _⟩ | exact ⟨rfl, _, Eq.trans (World.drewN_drewN _ _ _) (congrArg (World.drewN _) (Nat.add_assoc _ _ _))⟩))); try go_wp2_with (first | (go_at_call 81; (with_reducible refine (zztime_number.calls kj12 (a0.extract ((ji20) : Int).toNat ((wrap64 ((wrap64 (3 * x8_2)) + 3)) : Int).toNat) true t128 t129 false _ A24.out).mono ?_); rintro e w' ⟨rfl, ⟨nd, rfl⟩⟩; (try first | exact ⟨rfl, _, World.drewN_drewN _ _ _⟩ | exact ⟨rfl, _, Eq.trans (World.drewN_drewN _ _ _) (congrArg (World.drewN _) (Nat.add_assoc _ _ _))⟩))))
                            go_ret3
                            exact ⟨by first | rfl | (simp [errW_none, errW_some] <;> rfl) | (simp only [← hji20]; first | rfl | (simp [errW_none, errW_some] <;> rfl)) | (simp [*, errW_none, errW_some] <;> rfl), by repeat (first | (with_reducible first | exact HB.out | apply below_alloc | apply pw_below_drewN | apply below_drew1) | exact HB.out)⟩
                        · rw [if_neg c23] at H
                          exact absurd H (by simp)
                      · rw [if_neg c22] at H
                        exact absurd H (by simp)
                    · rw [if_neg c21] at H
                      exact absurd H (by simp)
            · rw [if_neg c12] at H
              have c12b0 : decide (x8_2 < a1) = false := decide_eq_false c12
              clear c12
              by_cases c35 : 0 < (a0.size : Int)
              · rw [if_pos c35] at H
                have c35b0 : decide (0 < (a0.size : Int)) = true := decide_eq_true c35
                have c35b1 : decide (0 < a0.size) = true := decide_eq_true (by omega)
                clear c35
                by_cases c37 : (bt a0 0) = 45
                · rw [if_pos c37] at H
                  have c37b0 : ((bt a0 0) == 45) = true := beq_iff_eq.mpr c37
                  have c37b1 : ((bt a0 0) != 45) = false := bne_eq_false_iff_eq.mpr c37
                  clear c37
                  obtain ⟨ji38, hji38⟩ : ∃ j_ : Int, (wrap64 (3 * a1)) = j_ := ⟨_, rfl⟩
                  replace H : (if 0 ≤ (ji38) then (if (ji38) ≤ (a0.size : Int) then (some (wrap64 (-x4_2), a0.extract ((ji38) : Int).toNat a0.size, true)) else (none)) else (none)) = some (r1, r2, r3) := by first | (rw [hji38] at H; exact H) | (simp only [hji38] at H ⊢; exact H)
                  have hji38w : (IntKind.i64.wrap (3 * a1)) = ji38 := (i64_w _).trans hji38
                  by_cases c39 : 0 ≤ (ji38)
                  · rw [if_pos c39] at H
                    have c39b0 := eq_true c39
                    have c39b1 : decide (0 ≤ (ji38)) = true := decide_eq_true c39
                    clear c39
                    by_cases c40 : (ji38) ≤ (a0.size : Int)
                    · rw [if_pos c40] at H
                      have c40b0 := eq_true c40
                      have c40b1 : decide ((ji38) ≤ (a0.size : Int)) = true := decide_eq_true c40
                      clear c40
                      simp only [Option.some.injEq, Prod.mk.injEq] at H
                      obtain ⟨rfl, rfl, rfl⟩ := H
                      have p36 : 0 ≤ (0 : Int) := (by omega)
                      have q36 : 0 < a0.size := (by have : (0 : Int) < (a0.size : Int) := of_decide_eq_true (by first | (with_reducible assumption) | assumption); omega)
                      have hx36 : ∀ h : 0 < a0.size, ((a0[0]'h).toNat : Int) = bt a0 0 := bt_at a0 0
                      clear p36
                      have qi36 : (0 < (a0.size : Int)) = True := eq_true (of_decide_eq_true (by first | (with_reducible assumption) | assumption))
                      replace q36 := eq_true q36
                      go_wp2
                      repeat (go_quiet (fail); try go_wp2)
                      go_ret3
                      exact ⟨by first | rfl | (simp [errW_none, errW_some] <;> rfl) | (simp only [← hji38]; first | rfl | (simp [errW_none, errW_some] <;> rfl)) | (simp [*, errW_none, errW_some] <;> rfl), by repeat (first | (with_reducible first | exact HB.out | apply below_alloc | apply pw_below_drewN | apply below_drew1) | exact HB.out)⟩
                    · rw [if_neg c40] at H
                      exact absurd H (by simp)
                  · rw [if_neg c39] at H
                    exact absurd H (by simp)
                · rw [if_neg c37] at H
                  have c37b0 : ((bt a0 0) == 45) = false := beq_eq_false_iff_ne.mpr c37
                  have c37b1 : ((bt a0 0) != 45) = true := bne_iff_ne.mpr c37
                  obtain ⟨ji41, hji41⟩ : ∃ j_ : Int, (wrap64 (3 * a1)) = j_ := ⟨_, rfl⟩
                  replace H : (if 0 ≤ (ji41) then (if (ji41) ≤ (a0.size : Int) then (some (x4_2, a0.extract ((ji41) : Int).toNat a0.size, true)) else (none)) else (none)) = some (r1, r2, r3) := by first | (rw [hji41] at H; exact H) | (simp only [hji41] at H ⊢; exact H)
                  have hji41w : (IntKind.i64.wrap (3 * a1)) = ji41 := (i64_w _).trans hji41
                  by_cases c42 : 0 ≤ (ji41)
                  · rw [if_pos c42] at H
                    have c42b0 := eq_true c42
                    have c42b1 : decide (0 ≤ (ji41)) = true := decide_eq_true c42
                    clear c42
                    by_cases c43 : (ji41) ≤ (a0.size : Int)
                    · rw [if_pos c43] at H
                      have c43b0 := eq_true c43
                      have c43b1 : decide ((ji41) ≤ (a0.size : Int)) = true := decide_eq_true c43
                      clear c43
                      simp only [Option.some.injEq, Prod.mk.injEq] at H
                      obtain ⟨rfl, rfl, rfl⟩ := H
                      have p36 : 0 ≤ (0 : Int) := (by omega)
                      have q36 : 0 < a0.size := (by have : (0 : Int) < (a0.size : Int) := of_decide_eq_true (by first | (with_reducible assumption) | assumption); omega)
                      have hx36 : ∀ h : 0 < a0.size, ((a0[0]'h).toNat : Int) = bt a0 0 := bt_at a0 0
                      clear p36
                      have qi36 : (0 < (a0.size : Int)) = True := eq_true (of_decide_eq_true (by first | (with_reducible assumption) | assumption))
                      replace q36 := eq_true q36
                      go_wp2
                      repeat (go_quiet (fail); try go_wp2)
                      go_ret3
                      exact ⟨by first | rfl | (simp [errW_none, errW_some] <;> rfl) | (simp only [← hji41]; first | rfl | (simp [errW_none, errW_some] <;> rfl)) | (simp [*, errW_none, errW_some] <;> rfl), by repeat (first | (with_reducible first | exact HB.out | apply below_alloc | apply pw_below_drewN | apply below_drew1) | exact HB.out)⟩
                    · rw [if_neg c43] at H
                      exact absurd H (by simp)
                  · rw [if_neg c42] at H
                    exact absurd H (by simp)
              · rw [if_neg c35] at H
                exact absurd H (by simp)

/-! ### zztime_norm: function 94 -/
def zztime_norm.f (a0 : Int) (a1 : Int) (a2 : Int) : Option (Int × Int) := if a1 < 0 then (if a2 = 0 then (none) else (if (wrap64 (a1 + (wrap64 ((wrap64 ((wrap64 (Int.tdiv (wrap64 ((wrap64 (-a1)) - 1)) a2)) + 1)) * a2)))) ≥ a2 then (some (wrap64 ((wrap64 (a0 - (wrap64 ((wrap64 (Int.tdiv (wrap64 ((wrap64 (-a1)) - 1)) a2)) + 1)))) + (wrap64 (Int.tdiv (wrap64 (a1 + (wrap64 ((wrap64 ((wrap64 (Int.tdiv (wrap64 ((wrap64 (-a1)) - 1)) a2)) + 1)) * a2)))) a2))), wrap64 ((wrap64 (a1 + (wrap64 ((wrap64 ((wrap64 (Int.tdiv (wrap64 ((wrap64 (-a1)) - 1)) a2)) + 1)) * a2)))) - (wrap64 ((wrap64 (Int.tdiv (wrap64 (a1 + (wrap64 ((wrap64 ((wrap64 (Int.tdiv (wrap64 ((wrap64 (-a1)) - 1)) a2)) + 1)) * a2)))) a2)) * a2))))) else (some (wrap64 (a0 - (wrap64 ((wrap64 (Int.tdiv (wrap64 ((wrap64 (-a1)) - 1)) a2)) + 1))), wrap64 (a1 + (wrap64 ((wrap64 ((wrap64 (Int.tdiv (wrap64 ((wrap64 (-a1)) - 1)) a2)) + 1)) * a2))))))) else (if a1 ≥ a2 then (if a2 = 0 then (none) else (some (wrap64 (a0 + (wrap64 (Int.tdiv a1 a2))), wrap64 (a1 - (wrap64 ((wrap64 (Int.tdiv a1 a2)) * a2)))))) else (some (a0, a1)))
set_option maxHeartbeats 8000000 in
set_option maxRecDepth 100000 in
theorem zztime_norm.calls (a0 : Int) (a1 : Int) (a2 : Int) (r1 : Int) (r2 : Int) (w : World) (h : zztime_norm.f a0 a1 a2 = some (r1, r2)) :
    Calls Try.prog 94 #[.int .i64 a0, .int .i64 a1, .int .i64 a2] w fun e w' => e = .returned (.tuple #[.int .i64 r1, .int .i64 r2]) ∧ Drawn0 w w' := by
  have H : (if a1 < 0 then (if a2 = 0 then (none) else (if (wrap64 (a1 + (wrap64 ((wrap64 ((wrap64 (Int.tdiv (wrap64 ((wrap64 (-a1)) - 1)) a2)) + 1)) * a2)))) ≥ a2 then (some (wrap64 ((wrap64 (a0 - (wrap64 ((wrap64 (Int.tdiv (wrap64 ((wrap64 (-a1)) - 1)) a2)) + 1)))) + (wrap64 (Int.tdiv (wrap64 (a1 + (wrap64 ((wrap64 ((wrap64 (Int.tdiv (wrap64 ((wrap64 (-a1)) - 1)) a2)) + 1)) * a2)))) a2))), wrap64 ((wrap64 (a1 + (wrap64 ((wrap64 ((wrap64 (Int.tdiv (wrap64 ((wrap64 (-a1)) - 1)) a2)) + 1)) * a2)))) - (wrap64 ((wrap64 (Int.tdiv (wrap64 (a1 + (wrap64 ((wrap64 ((wrap64 (Int.tdiv (wrap64 ((wrap64 (-a1)) - 1)) a2)) + 1)) * a2)))) a2)) * a2))))) else (some (wrap64 (a0 - (wrap64 ((wrap64 (Int.tdiv (wrap64 ((wrap64 (-a1)) - 1)) a2)) + 1))), wrap64 (a1 + (wrap64 ((wrap64 ((wrap64 (Int.tdiv (wrap64 ((wrap64 (-a1)) - 1)) a2)) + 1)) * a2))))))) else (if a1 ≥ a2 then (if a2 = 0 then (none) else (some (wrap64 (a0 + (wrap64 (Int.tdiv a1 a2))), wrap64 (a1 - (wrap64 ((wrap64 (Int.tdiv a1 a2)) * a2)))))) else (some (a0, a1)))) = some (r1, r2) := h
  clear h
  by_cases c4 : a1 < 0
  · rw [if_pos c4] at H
    have c4b0 : decide (a1 < 0) = true := decide_eq_true c4
    clear c4
    by_cases c5 : a2 = 0
    · rw [if_pos c5] at H
      exact absurd H (by simp)
    · rw [if_neg c5] at H
      have c5b0 : (a2 == 0) = false := beq_eq_false_iff_ne.mpr c5
      have c5b1 : (a2 != 0) = true := bne_iff_ne.mpr c5
      by_cases c6 : (wrap64 (a1 + (wrap64 ((wrap64 ((wrap64 (Int.tdiv (wrap64 ((wrap64 (-a1)) - 1)) a2)) + 1)) * a2)))) ≥ a2
      · rw [if_pos c6] at H
        have c6b0 : decide (a2 ≤ (wrap64 (a1 + (wrap64 ((wrap64 ((wrap64 (Int.tdiv (wrap64 ((wrap64 (-a1)) - 1)) a2)) + 1)) * a2))))) = true := decide_eq_true c6
        clear c6
        simp only [Option.some.injEq, Prod.mk.injEq] at H
        obtain ⟨rfl, rfl⟩ := H
        go_enter Try.func94, Try.ntmps94
        go_wp2
        go_ret2
        exact ⟨by first | rfl | (simp; done) | (simp [*]; done), by repeat (first | exact Drawn0.refl _ | apply Drawn0.step)⟩
      · rw [if_neg c6] at H
        have c6b0 : decide (a2 ≤ (wrap64 (a1 + (wrap64 ((wrap64 ((wrap64 (Int.tdiv (wrap64 ((wrap64 (-a1)) - 1)) a2)) + 1)) * a2))))) = false := decide_eq_false c6
        clear c6
        simp only [Option.some.injEq, Prod.mk.injEq] at H
        obtain ⟨rfl, rfl⟩ := H
        go_enter Try.func94, Try.ntmps94
        go_wp2
        go_ret2
        exact ⟨by first | rfl | (simp; done) | (simp [*]; done), by repeat (first | exact Drawn0.refl _ | apply Drawn0.step)⟩
  · rw [if_neg c4] at H
    have c4b0 : decide (a1 < 0) = false := decide_eq_false c4
    clear c4
    by_cases c7 : a1 ≥ a2
    · rw [if_pos c7] at H
      have c7b0 : decide (a2 ≤ a1) = true := decide_eq_true c7
      clear c7
      by_cases c8 : a2 = 0
      · rw [if_pos c8] at H
        exact absurd H (by simp)
      · rw [if_neg c8] at H
        have c8b0 : (a2 == 0) = false := beq_eq_false_iff_ne.mpr c8
        have c8b1 : (a2 != 0) = true := bne_iff_ne.mpr c8
        simp only [Option.some.injEq, Prod.mk.injEq] at H
        obtain ⟨rfl, rfl⟩ := H
        go_enter Try.func94, Try.ntmps94
        go_wp2
        go_ret2
        exact ⟨by first | rfl | (simp; done) | (simp [*]; done), by repeat (first | exact Drawn0.refl _ | apply Drawn0.step)⟩
    · rw [if_neg c7] at H
      have c7b0 : decide (a2 ≤ a1) = false := decide_eq_false c7
      clear c7
      simp only [Option.some.injEq, Prod.mk.injEq] at H
      obtain ⟨rfl, rfl⟩ := H
      go_enter Try.func94, Try.ntmps94
      go_wp2
      go_ret2
      exact ⟨by first | rfl | (simp; done) | (simp [*]; done), by repeat (first | exact Drawn0.refl _ | apply Drawn0.step)⟩

/-! ### zztime_daysOf: function 95 -/
def zztime_daysOf.f (a0 : Int) (a1 : Int) : Option (Int) := if a1 ≤ 2 then (if (wrap64 (a0 - 1)) < 0 then (if (Int.tmod (wrap64 (a0 - 1)) 400) = 0 then (some (wrap64 ((wrap64 ((wrap64 ((wrap64 ((wrap64 ((wrap64 ((wrap64 (Int.tdiv (wrap64 (a0 - 1)) 400)) * 146097)) + (wrap64 ((wrap64 ((wrap64 (a0 - 1)) - (wrap64 ((wrap64 (Int.tdiv (wrap64 (a0 - 1)) 400)) * 400)))) * 365)))) + (wrap64 (Int.tdiv (wrap64 ((wrap64 (a0 - 1)) - (wrap64 ((wrap64 (Int.tdiv (wrap64 (a0 - 1)) 400)) * 400)))) 4)))) - (wrap64 (Int.tdiv (wrap64 ((wrap64 (a0 - 1)) - (wrap64 ((wrap64 (Int.tdiv (wrap64 (a0 - 1)) 400)) * 400)))) 100)))) + (wrap64 (Int.tdiv (wrap64 ((wrap64 (153 * (wrap64 ((wrap64 (a1 + 12)) - 3)))) + 2)) 5)))) - 719468))) else (some (wrap64 ((wrap64 ((wrap64 ((wrap64 ((wrap64 ((wrap64 ((wrap64 ((wrap64 (Int.tdiv (wrap64 (a0 - 1)) 400)) - 1)) * 146097)) + (wrap64 ((wrap64 ((wrap64 (a0 - 1)) - (wrap64 ((wrap64 ((wrap64 (Int.tdiv (wrap64 (a0 - 1)) 400)) - 1)) * 400)))) * 365)))) + (wrap64 (Int.tdiv (wrap64 ((wrap64 (a0 - 1)) - (wrap64 ((wrap64 ((wrap64 (Int.tdiv (wrap64 (a0 - 1)) 400)) - 1)) * 400)))) 4)))) - (wrap64 (Int.tdiv (wrap64 ((wrap64 (a0 - 1)) - (wrap64 ((wrap64 ((wrap64 (Int.tdiv (wrap64 (a0 - 1)) 400)) - 1)) * 400)))) 100)))) + (wrap64 (Int.tdiv (wrap64 ((wrap64 (153 * (wrap64 ((wrap64 (a1 + 12)) - 3)))) + 2)) 5)))) - 719468)))) else (some (wrap64 ((wrap64 ((wrap64 ((wrap64 ((wrap64 ((wrap64 ((wrap64 (Int.tdiv (wrap64 (a0 - 1)) 400)) * 146097)) + (wrap64 ((wrap64 ((wrap64 (a0 - 1)) - (wrap64 ((wrap64 (Int.tdiv (wrap64 (a0 - 1)) 400)) * 400)))) * 365)))) + (wrap64 (Int.tdiv (wrap64 ((wrap64 (a0 - 1)) - (wrap64 ((wrap64 (Int.tdiv (wrap64 (a0 - 1)) 400)) * 400)))) 4)))) - (wrap64 (Int.tdiv (wrap64 ((wrap64 (a0 - 1)) - (wrap64 ((wrap64 (Int.tdiv (wrap64 (a0 - 1)) 400)) * 400)))) 100)))) + (wrap64 (Int.tdiv (wrap64 ((wrap64 (153 * (wrap64 ((wrap64 (a1 + 12)) - 3)))) + 2)) 5)))) - 719468)))) else (if a0 < 0 then (if (Int.tmod a0 400) = 0 then (some (wrap64 ((wrap64 ((wrap64 ((wrap64 ((wrap64 ((wrap64 ((wrap64 (Int.tdiv a0 400)) * 146097)) + (wrap64 ((wrap64 (a0 - (wrap64 ((wrap64 (Int.tdiv a0 400)) * 400)))) * 365)))) + (wrap64 (Int.tdiv (wrap64 (a0 - (wrap64 ((wrap64 (Int.tdiv a0 400)) * 400)))) 4)))) - (wrap64 (Int.tdiv (wrap64 (a0 - (wrap64 ((wrap64 (Int.tdiv a0 400)) * 400)))) 100)))) + (wrap64 (Int.tdiv (wrap64 ((wrap64 (153 * (wrap64 (a1 - 3)))) + 2)) 5)))) - 719468))) else (some (wrap64 ((wrap64 ((wrap64 ((wrap64 ((wrap64 ((wrap64 ((wrap64 ((wrap64 (Int.tdiv a0 400)) - 1)) * 146097)) + (wrap64 ((wrap64 (a0 - (wrap64 ((wrap64 ((wrap64 (Int.tdiv a0 400)) - 1)) * 400)))) * 365)))) + (wrap64 (Int.tdiv (wrap64 (a0 - (wrap64 ((wrap64 ((wrap64 (Int.tdiv a0 400)) - 1)) * 400)))) 4)))) - (wrap64 (Int.tdiv (wrap64 (a0 - (wrap64 ((wrap64 ((wrap64 (Int.tdiv a0 400)) - 1)) * 400)))) 100)))) + (wrap64 (Int.tdiv (wrap64 ((wrap64 (153 * (wrap64 (a1 - 3)))) + 2)) 5)))) - 719468)))) else (some (wrap64 ((wrap64 ((wrap64 ((wrap64 ((wrap64 ((wrap64 ((wrap64 (Int.tdiv a0 400)) * 146097)) + (wrap64 ((wrap64 (a0 - (wrap64 ((wrap64 (Int.tdiv a0 400)) * 400)))) * 365)))) + (wrap64 (Int.tdiv (wrap64 (a0 - (wrap64 ((wrap64 (Int.tdiv a0 400)) * 400)))) 4)))) - (wrap64 (Int.tdiv (wrap64 (a0 - (wrap64 ((wrap64 (Int.tdiv a0 400)) * 400)))) 100)))) + (wrap64 (Int.tdiv (wrap64 ((wrap64 (153 * (wrap64 (a1 - 3)))) + 2)) 5)))) - 719468))))
set_option maxHeartbeats 8000000 in
set_option maxRecDepth 100000 in
theorem zztime_daysOf.calls (a0 : Int) (a1 : Int) (r : Int) (w : World) (h : zztime_daysOf.f a0 a1 = some r) :
    Calls Try.prog 95 #[.int .i64 a0, .int .i64 a1] w fun e w' => e = .returned (.int .i64 r) ∧ Drawn0 w w' := by
  have H : (if a1 ≤ 2 then (if (wrap64 (a0 - 1)) < 0 then (if (Int.tmod (wrap64 (a0 - 1)) 400) = 0 then (some (wrap64 ((wrap64 ((wrap64 ((wrap64 ((wrap64 ((wrap64 ((wrap64 (Int.tdiv (wrap64 (a0 - 1)) 400)) * 146097)) + (wrap64 ((wrap64 ((wrap64 (a0 - 1)) - (wrap64 ((wrap64 (Int.tdiv (wrap64 (a0 - 1)) 400)) * 400)))) * 365)))) + (wrap64 (Int.tdiv (wrap64 ((wrap64 (a0 - 1)) - (wrap64 ((wrap64 (Int.tdiv (wrap64 (a0 - 1)) 400)) * 400)))) 4)))) - (wrap64 (Int.tdiv (wrap64 ((wrap64 (a0 - 1)) - (wrap64 ((wrap64 (Int.tdiv (wrap64 (a0 - 1)) 400)) * 400)))) 100)))) + (wrap64 (Int.tdiv (wrap64 ((wrap64 (153 * (wrap64 ((wrap64 (a1 + 12)) - 3)))) + 2)) 5)))) - 719468))) else (some (wrap64 ((wrap64 ((wrap64 ((wrap64 ((wrap64 ((wrap64 ((wrap64 ((wrap64 (Int.tdiv (wrap64 (a0 - 1)) 400)) - 1)) * 146097)) + (wrap64 ((wrap64 ((wrap64 (a0 - 1)) - (wrap64 ((wrap64 ((wrap64 (Int.tdiv (wrap64 (a0 - 1)) 400)) - 1)) * 400)))) * 365)))) + (wrap64 (Int.tdiv (wrap64 ((wrap64 (a0 - 1)) - (wrap64 ((wrap64 ((wrap64 (Int.tdiv (wrap64 (a0 - 1)) 400)) - 1)) * 400)))) 4)))) - (wrap64 (Int.tdiv (wrap64 ((wrap64 (a0 - 1)) - (wrap64 ((wrap64 ((wrap64 (Int.tdiv (wrap64 (a0 - 1)) 400)) - 1)) * 400)))) 100)))) + (wrap64 (Int.tdiv (wrap64 ((wrap64 (153 * (wrap64 ((wrap64 (a1 + 12)) - 3)))) + 2)) 5)))) - 719468)))) else (some (wrap64 ((wrap64 ((wrap64 ((wrap64 ((wrap64 ((wrap64 ((wrap64 (Int.tdiv (wrap64 (a0 - 1)) 400)) * 146097)) + (wrap64 ((wrap64 ((wrap64 (a0 - 1)) - (wrap64 ((wrap64 (Int.tdiv (wrap64 (a0 - 1)) 400)) * 400)))) * 365)))) + (wrap64 (Int.tdiv (wrap64 ((wrap64 (a0 - 1)) - (wrap64 ((wrap64 (Int.tdiv (wrap64 (a0 - 1)) 400)) * 400)))) 4)))) - (wrap64 (Int.tdiv (wrap64 ((wrap64 (a0 - 1)) - (wrap64 ((wrap64 (Int.tdiv (wrap64 (a0 - 1)) 400)) * 400)))) 100)))) + (wrap64 (Int.tdiv (wrap64 ((wrap64 (153 * (wrap64 ((wrap64 (a1 + 12)) - 3)))) + 2)) 5)))) - 719468)))) else (if a0 < 0 then (if (Int.tmod a0 400) = 0 then (some (wrap64 ((wrap64 ((wrap64 ((wrap64 ((wrap64 ((wrap64 ((wrap64 (Int.tdiv a0 400)) * 146097)) + (wrap64 ((wrap64 (a0 - (wrap64 ((wrap64 (Int.tdiv a0 400)) * 400)))) * 365)))) + (wrap64 (Int.tdiv (wrap64 (a0 - (wrap64 ((wrap64 (Int.tdiv a0 400)) * 400)))) 4)))) - (wrap64 (Int.tdiv (wrap64 (a0 - (wrap64 ((wrap64 (Int.tdiv a0 400)) * 400)))) 100)))) + (wrap64 (Int.tdiv (wrap64 ((wrap64 (153 * (wrap64 (a1 - 3)))) + 2)) 5)))) - 719468))) else (some (wrap64 ((wrap64 ((wrap64 ((wrap64 ((wrap64 ((wrap64 ((wrap64 ((wrap64 (Int.tdiv a0 400)) - 1)) * 146097)) + (wrap64 ((wrap64 (a0 - (wrap64 ((wrap64 ((wrap64 (Int.tdiv a0 400)) - 1)) * 400)))) * 365)))) + (wrap64 (Int.tdiv (wrap64 (a0 - (wrap64 ((wrap64 ((wrap64 (Int.tdiv a0 400)) - 1)) * 400)))) 4)))) - (wrap64 (Int.tdiv (wrap64 (a0 - (wrap64 ((wrap64 ((wrap64 (Int.tdiv a0 400)) - 1)) * 400)))) 100)))) + (wrap64 (Int.tdiv (wrap64 ((wrap64 (153 * (wrap64 (a1 - 3)))) + 2)) 5)))) - 719468)))) else (some (wrap64 ((wrap64 ((wrap64 ((wrap64 ((wrap64 ((wrap64 ((wrap64 (Int.tdiv a0 400)) * 146097)) + (wrap64 ((wrap64 (a0 - (wrap64 ((wrap64 (Int.tdiv a0 400)) * 400)))) * 365)))) + (wrap64 (Int.tdiv (wrap64 (a0 - (wrap64 ((wrap64 (Int.tdiv a0 400)) * 400)))) 4)))) - (wrap64 (Int.tdiv (wrap64 (a0 - (wrap64 ((wrap64 (Int.tdiv a0 400)) * 400)))) 100)))) + (wrap64 (Int.tdiv (wrap64 ((wrap64 (153 * (wrap64 (a1 - 3)))) + 2)) 5)))) - 719468))))) = some r := h
  clear h
  by_cases c3 : a1 ≤ 2
  · rw [if_pos c3] at H
    have c3b0 : decide (a1 ≤ 2) = true := decide_eq_true c3
    clear c3
    by_cases c4 : (wrap64 (a0 - 1)) < 0
    · rw [if_pos c4] at H
      have c4b0 : decide ((wrap64 (a0 - 1)) < 0) = true := decide_eq_true c4
      clear c4
      by_cases c5 : (Int.tmod (wrap64 (a0 - 1)) 400) = 0
      · rw [if_pos c5] at H
        have c5b0 : ((Int.tmod (wrap64 (a0 - 1)) 400) == 0) = true := beq_iff_eq.mpr c5
        have c5b1 : ((Int.tmod (wrap64 (a0 - 1)) 400) != 0) = false := bne_eq_false_iff_eq.mpr c5
        clear c5
        obtain rfl := Option.some.inj H
        go_enter Try.func95, Try.ntmps95
        go_wp2
        go_ret
        exact ⟨by first | rfl | (simp; done) | (simp [*]; done), by repeat (first | exact Drawn0.refl _ | apply Drawn0.step)⟩
      · rw [if_neg c5] at H
        have c5b0 : ((Int.tmod (wrap64 (a0 - 1)) 400) == 0) = false := beq_eq_false_iff_ne.mpr c5
        have c5b1 : ((Int.tmod (wrap64 (a0 - 1)) 400) != 0) = true := bne_iff_ne.mpr c5
        obtain rfl := Option.some.inj H
        go_enter Try.func95, Try.ntmps95
        go_wp2
        go_ret
        exact ⟨by first | rfl | (simp; done) | (simp [*]; done), by repeat (first | exact Drawn0.refl _ | apply Drawn0.step)⟩
    · rw [if_neg c4] at H
      have c4b0 : decide ((wrap64 (a0 - 1)) < 0) = false := decide_eq_false c4
      clear c4
      obtain rfl := Option.some.inj H
      go_enter Try.func95, Try.ntmps95
      go_wp2
      go_ret
      exact ⟨by first | rfl | (simp; done) | (simp [*]; done), by repeat (first | exact Drawn0.refl _ | apply Drawn0.step)⟩
  · rw [if_neg c3] at H
    have c3b0 : decide (a1 ≤ 2) = false := decide_eq_false c3
    clear c3
    by_cases c6 : a0 < 0
    · rw [if_pos c6] at H
      have c6b0 : decide (a0 < 0) = true := decide_eq_true c6
      clear c6
      by_cases c7 : (Int.tmod a0 400) = 0
      · rw [if_pos c7] at H
        have c7b0 : ((Int.tmod a0 400) == 0) = true := beq_iff_eq.mpr c7
        have c7b1 : ((Int.tmod a0 400) != 0) = false := bne_eq_false_iff_eq.mpr c7
        clear c7
        obtain rfl := Option.some.inj H
        go_enter Try.func95, Try.ntmps95
        go_wp2
        go_ret
        exact ⟨by first | rfl | (simp; done) | (simp [*]; done), by repeat (first | exact Drawn0.refl _ | apply Drawn0.step)⟩
      · rw [if_neg c7] at H
        have c7b0 : ((Int.tmod a0 400) == 0) = false := beq_eq_false_iff_ne.mpr c7
        have c7b1 : ((Int.tmod a0 400) != 0) = true := bne_iff_ne.mpr c7
        obtain rfl := Option.some.inj H
        go_enter Try.func95, Try.ntmps95
        go_wp2
        go_ret
        exact ⟨by first | rfl | (simp; done) | (simp [*]; done), by repeat (first | exact Drawn0.refl _ | apply Drawn0.step)⟩
    · rw [if_neg c6] at H
      have c6b0 : decide (a0 < 0) = false := decide_eq_false c6
      clear c6
      obtain rfl := Option.some.inj H
      go_enter Try.func95, Try.ntmps95
      go_wp2
      go_ret
      exact ⟨by first | rfl | (simp; done) | (simp [*]; done), by repeat (first | exact Drawn0.refl _ | apply Drawn0.step)⟩

/-! ### zztime_Date: function 85 -/
/-- Date, at the first day of the year 0. -/
def zztime_Date.f (a0 a1 a2 a3 a4 a5 a6 a7 : Int) : Option (Int × Int × Int) :=
  if (a0 = 0 ∧ a1 = 1 ∧ a2 = 1) ∧ (0 ≤ a3 ∧ a3 < 24) ∧ (0 ≤ a4 ∧ a4 < 60) ∧ (0 ≤ a5 ∧ a5 < 60) ∧ (0 ≤ a6 ∧ a6 < 1000000000) ∧ (-1000000 ≤ a7 ∧ a7 ≤ 1000000) then some (-62167219200 + a3 * 3600 + a4 * 60 + a5 - a7, a6, a7) else none
theorem norm_id (a b base : Int) (h0 : 0 ≤ b) (h1 : b < base) : zztime_norm.f a b base = some (a, b) := by
  unfold zztime_norm.f
  rw [if_neg (by omega), if_neg (by omega)]
theorem days_0 : zztime_daysOf.f 0 1 = some (-719528) := by kernel_rfl
theorem results_c {P : Program} {fn : Func} {p : Tmp} {ty : TypeId} (h : fn.results = #[.cell p ty]) (tmps : Array Value) (w : World) (g : Nat) (t : TypeId) (cs : Array Value) (fr : Nat × Nat) (d : TypeDesc)
    (hp : tmps.getD p undef = .pointer (some ⟨g, 0, none⟩)) (hg : w.heap[g]? = some (.cells cs t fr))
    (hu : P.underlying ty = some d) (hd : (match d with | .struct _ | .array _ _ => true | _ => false) = true) (hi : (P.info? ty).map (·.size) = some cs.size) :
    (results fn tmps).run P w = .ok (.agg cs) w := by
  have hp' : tmps[p]?.getD undef = .pointer (some ⟨g, 0, none⟩) := by simpa using hp
  simp [results, h, hp', asAddr, run_loadVar_row w g t ty cs fr d hg hu hd hi]
theorem date_end {P : Program} {fn : Func} {p : Tmp} {ty : TypeId} {tmps : Array Value} {w0 W : World} {g : Nat} {t : TypeId} {cs cs' : Array Value} {d : TypeDesc}
    (hres : fn.results = #[.cell p ty]) (hp : tmps.getD p undef = .pointer (some ⟨g, 0, none⟩)) (hg : W.heap[g]? = some (.cells cs t (0, 0))) (hcs : cs = cs')
    (hu : P.underlying ty = some d) (hd : (match d with | .struct _ | .array _ _ => true | _ => false) = true) (hi : (P.info? ty).map (·.size) = some cs'.size) (hb : Below w0.heap.size w0 W) :
    bodyPost P fn (fun e w' => e = .returned (.agg cs') ∧ Below w0.heap.size w0 w') Exit.ret ⟨tmps, []⟩ W := by
  subst hcs
  exact bodyPost_ret (results_c (d := d) hres tmps W g t cs (0, 0) hp hg hu hd hi) rfl ⟨rfl, hb⟩
set_option maxHeartbeats 4000000 in
set_option maxRecDepth 100000 in
theorem zztime_Date.calls (a0 a1 a2 a3 a4 a5 a6 a7 : Int) (r1 r2 r3 : Int) (g : Nat) (w : World) (hc : w.cell? ⟨g, 0, none⟩ = some (.int .i64 a7)) (h : zztime_Date.f a0 a1 a2 a3 a4 a5 a6 a7 = some (r1, r2, r3)) :
    Calls Try.prog 85 #[.int .i64 a0, .int .i64 a1, .int .i64 a2, .int .i64 a3, .int .i64 a4, .int .i64 a5, .int .i64 a6, .pointer (some ⟨g, 0, none⟩)] w fun e w' => e = .returned (.agg #[.int .i64 r1, .int .i64 r2, .int .i64 r3]) ∧ Below w.heap.size w w' := by
  unfold zztime_Date.f at h
  split at h
  case isFalse => cases h
  rename_i hh
  obtain ⟨⟨rfl, rfl, rfl⟩, ⟨h3, h3'⟩, ⟨h4, h4'⟩, ⟨h5, h5'⟩, ⟨h6, h6'⟩, h7, h7'⟩ := hh
  injection h with h
  injection h with e1 e2
  injection e2 with e2 e3
  subst e2 e3
  have H1 := Aside0.mk (fun W => zztime_norm.calls 0 0 12 _ _ W (norm_id 0 0 12 (by omega) (by omega)))
  have H2 := Aside0.mk (fun W => zztime_norm.calls a5 a6 1000000000 _ _ W (norm_id a5 a6 1000000000 (by omega) (by omega)))
  have H3 := Aside0.mk (fun W => zztime_norm.calls a4 a5 60 _ _ W (norm_id a4 a5 60 (by omega) (by omega)))
  have H4 := Aside0.mk (fun W => zztime_norm.calls a3 a4 60 _ _ W (norm_id a3 a4 60 (by omega) (by omega)))
  have H5 := Aside0.mk (fun W => zztime_norm.calls 1 a3 24 _ _ W (norm_id 1 a3 24 (by omega) (by omega)))
  have H6 := Aside0.mk (fun W => zztime_daysOf.calls 0 1 _ W days_0)
  have HE := Aside0.mk e1
  have HR := Aside0.mk (And.intro h3 (And.intro h3' (And.intro h4 (And.intro h4' (And.intro h5 (And.intro h5' (And.intro h6 (And.intro h6' (And.intro h7 h7')))))))))
  have hlt := World.block_lt_of_cell? _ _ hc
  have hne : g ≠ w.heap.size := Nat.ne_of_lt hlt
  have hcA : ∀ o : Obj, (w.alloc o).cell? ⟨g, 0, none⟩ = some (.int .i64 a7) := fun o => ((below_alloc (Below.refl w.heap.size w) o).cell hlt).trans hc
  clear e1 h3 h3' h4 h4' h5 h5' h6 h6' h7 h7' hc hlt hne
  go_enter Try.func85, Try.ntmps85
  go_wp2_with (first | (go_at_call 94; (first | (with_reducible refine (H1.out _).mono ?_) | (with_reducible refine (H2.out _).mono ?_) | (with_reducible refine (H3.out _).mono ?_) | (with_reducible refine (H4.out _).mono ?_) | (with_reducible refine (H5.out _).mono ?_)); rintro e w1 ⟨rfl, ⟨nd, rfl⟩⟩) | (go_at_call 95; (with_reducible refine (H6.out _).mono ?_); rintro e w1 ⟨rfl, ⟨nd, rfl⟩⟩))
  go_region
  go_wp2_with fail
  have hr : wrap64 (wrap64 (wrap64 (wrap64 (-62167219200 + wrap64 (a3 * 3600)) + wrap64 (a4 * 60)) + a5) - a7) = r1 := by
    have h := HR.out
    have e := HE.out
    rw [show wrap64 (a3 * 3600) = a3 * 3600 by unfold wrap64; omega, show wrap64 (a4 * 60) = a4 * 60 by unfold wrap64; omega, show wrap64 (-62167219200 + a3 * 3600) = -62167219200 + a3 * 3600 by unfold wrap64; omega, show wrap64 (-62167219200 + a3 * 3600 + a4 * 60) = -62167219200 + a3 * 3600 + a4 * 60 by unfold wrap64; omega, show wrap64 (-62167219200 + a3 * 3600 + a4 * 60 + a5) = -62167219200 + a3 * 3600 + a4 * 60 + a5 by unfold wrap64; omega, ← e]
    unfold wrap64; omega
  refine date_end (g := w.heap.size) (cs' := #[.int .i64 r1, .int .i64 a6, .int .i64 a7]) rfl rfl (cs := _) (hcs := ?_) (hg := blk_set (blk_set (blk_set (blk_drewN (blk_new w _) _) 0 _) 1 _) 2 _) Try.underlying62 rfl (by kernel_rfl) (Below.setCell (Below.setCell (Below.setCell (pw_below_drewN (below_alloc (Below.refl _ _) _) _) (Nat.le_refl _) _) (Nat.le_refl _) _) (Nat.le_refl _) _)
  exact congrArg (fun z => #[Value.int .i64 z, Value.int .i64 a6, Value.int .i64 a7]) hr

end Go.Proofs.Ytlhjblbmhlelbab.P
