/- pqtime.Format and what stands above it: walks by hand over the print's. Conditions: named by each theorem. -/
import Derived.Test.YtlhjblbmhlelbabDoorPx0
import Derived.Test.YtlhjblbmhlelbabDoorPx1
import Derived.Test.YtlhjblbmhlelbabDoorPx4
import Derived.Test.YtlhjblbmhlelbabDoorPx5
import Derived.Test.YtlhjblbmhlelbabDoorPx6
import Derived.Test.YtlhjblbmhlelbabDoorPx7
import Derived.Test.YtlhjblbmhlelbabDoorMarkNum
namespace Go.Proofs.YtlhjblbmhlelbabDoor.P
open Go.RowKit Go.Proofs.YtlhjblbmhlelbabDoorW.PrintWords Go.Proofs.YtlhjblbmhlelbabDoorW.PrintLast Go.Proofs.YtlhjblbmhlelbabDoorW.PrintMore
attribute [local go_sem] max2_int min2_int max_two min_two max_three min_three max_four min_four   -- for this text's walks alone
set_option linter.unusedVariables false
set_option linter.unusedSimpArgs false

/-! ### pqtime_Format -/
/-- The seconds of a zone, behind the time's text. -/
def zoneRest (o : Int) : List Int := if Int.tmod o 60 = 0 then [] else 58 :: ((if (if Int.tmod o 60 < 0 then -(Int.tmod o 60) else Int.tmod o 60) < 10 then [48] else []) ++ smallDigits (if Int.tmod o 60 < 0 then -(Int.tmod o 60) else Int.tmod o 60))
theorem tmod60 (x : Int) : -59 ≤ Int.tmod x 60 ∧ Int.tmod x 60 ≤ 59 := by
  rcases Int.le_total 0 x with h | h
  · rw [Int.tmod_eq_emod_of_nonneg h]; omega
  · obtain ⟨y, rfl⟩ : ∃ y, x = -y := ⟨-x, by omega⟩
    rw [Int.neg_tmod, Int.tmod_eq_emod_of_nonneg (by omega)]; omega
theorem zoneRest_eq (o q a : Int) (hq : q = Int.tmod o 60) (ha : a = if q < 0 then -q else q) : zoneRest o = if q = 0 then [] else 58 :: ((if a < 10 then [48] else []) ++ smallDigits a) := by
  subst ha
  subst hq
  rfl
theorem OwnB.cast {e : TypeId} {w : World} {base : Nat} {v : Value} {xs ys : List Int} (h : OwnB e w base v xs) (he : xs = ys) : OwnB e w base v ys := he ▸ h
def pqtime_Format.tail (r : ByteArray) (o : Int) (b : Bool) : List Int := (bytesOf r ++ zoneRest o) ++ (if b = true then [32, 66, 67] else [])
def pqtime_Format.j0 : Nat → Int → Int → Int → Bool → Option (List Int)
  | 0, _, _, _, _ => none
  | k + 1, x0, x1, x2, b => (zztime_Time_Format.f k x0 x1 x2 (⟨#[50, 48, 48, 54, 45, 48, 49, 45, 48, 50, 32, 49, 53, 58, 48, 52, 58, 48, 53, 46, 57, 57, 57, 57, 57, 57, 57, 57, 57, 90, 48, 55, 58, 48, 48]⟩ : ByteArray)).bind fun t => if t.size ≤ 1000 then some (pqtime_Format.tail t x2 b) else none
def pqtime_Format.f (k : Nat) (a0_0 : Int) (a0_1 : Int) (a0_2 : Int) : Option (List Int) := (zztime_Time_Year.f k a0_0 a0_1 a0_2).bind fun t316 => (if t316 ≤ 0 then ((zztime_Time_Year.f k a0_0 a0_1 a0_2).bind fun t317 => ((zztime_Time_AddDate.f k a0_0 a0_1 a0_2 (wrap64 ((wrap64 ((wrap64 (-t317)) * 2)) + 1)) 0 0).bind fun bt318 => (pqtime_Format.j0 k bt318.1 bt318.2.1 bt318.2.2 true))) else (pqtime_Format.j0 k a0_0 a0_1 a0_2 false))
theorem pqtime_Format.mono_l : ∀ k, (∀ y0 y1 y2 y3, LeO (pqtime_Format.j0 k y0 y1 y2 y3) (pqtime_Format.j0 (k + 1) y0 y1 y2 y3))
  | 0 => fun _ _ _ _ r h => by simp [pqtime_Format.j0] at h
  | k + 1 => by
    intro y0 y1 y2 y3
    unfold pqtime_Format.j0
    exact LeO.bind (zztime_Time_Format.mono _ _ _ _ _) (fun _ => LeO.refl _)
theorem pqtime_Format.mono : ∀ a0 a1 a2 k, LeO (pqtime_Format.f k a0 a1 a2) (pqtime_Format.f (k + 1) a0 a1 a2) := by
  intro a0 a1 a2 k
  have ih0 := pqtime_Format.mono_l k
  unfold pqtime_Format.f
  repeat' first
      | (with_reducible exact ih0 _ _ _ _)
      | (with_reducible exact zztime_Time_AddDate.mono _ _ _ _ _ _ _)
      | (with_reducible exact zztime_Time_Format.mono _ _ _ _ _)
      | (with_reducible exact zztime_Time_Year.mono _ _ _ _)
      | (with_reducible exact LeO.refl _)
      | (with_reducible exact LeO.none _)
      | (with_reducible refine LeO.ite ?_ ?_)
      | (with_reducible refine LeO.bind ?_ (fun _ => ?_))
      | exact ih0 _ _ _ _
      | exact zztime_Time_AddDate.mono _ _ _ _ _ _ _
      | exact zztime_Time_Format.mono _ _ _ _ _
      | exact zztime_Time_Year.mono _ _ _ _
      | exact LeO.none _
      | refine LeO.ite ?_ ?_
      | refine LeO.bind ?_ (fun _ => ?_)
def pqtime_Format.T3 : Bool × List (List Nat × List Nat) := (true, [([], []), ([], []), ([1], [1]), ([2], [2]), ([3], [3]), ([4], [4]), ([0, 5, 2], [0, 5]), ([6, 6, 0, 1, 2, 3, 4, 5, 6], [6])])
def pqtime_Format.B3 : List Nat := [0, 0, 2, 6, 14, 30, 63, 127]
theorem pqtime_Format.tab3 : rtab .any (opsOf Tryd.f19 3) = pqtime_Format.T3 := by kernel_rfl
theorem pqtime_Format.bits3 : waitsOk pqtime_Format.T3.2 pqtime_Format.B3 = true := by kernel_rfl
set_option maxHeartbeats 8000000 in
set_option maxRecDepth 100000 in
theorem pqtime_Format.calls (k : Nat) (a0_0 : Int) (a0_1 : Int) (a0_2 : Int) (r : List Int) (w : World) (h : pqtime_Format.f k a0_0 a0_1 a0_2 = some r) :
    Calls Tryd.prog 19 #[.agg #[.int .i64 a0_0, .int .i64 a0_1, .int .i64 a0_2]] w fun e w' => ∃ v0_ : Value, e = .returned (v0_) ∧ OwnB 5 w' w.heap.size v0_ r ∧ r.length ≤ 2000 ∧ Below w.heap.size w w' := by
  have hu36 := Tryd.underlying36
  have HB := Aside0.mk (Below.refl w.heap.size w)
  have H : ((zztime_Time_Year.f k a0_0 a0_1 a0_2).bind fun t316 => (if t316 ≤ 0 then ((zztime_Time_Year.f k a0_0 a0_1 a0_2).bind fun t317 => ((zztime_Time_AddDate.f k a0_0 a0_1 a0_2 (wrap64 ((wrap64 ((wrap64 (-t317)) * 2)) + 1)) 0 0).bind fun bt318 => (pqtime_Format.j0 k bt318.1 bt318.2.1 bt318.2.2 true))) else (pqtime_Format.j0 k a0_0 a0_1 a0_2 false))) = some r := h
  clear h
  replace H := Option.bind_eq_some_iff.mp H
  obtain ⟨t316, A20, H⟩ := H
  replace H : (if t316 ≤ 0 then ((zztime_Time_Year.f k a0_0 a0_1 a0_2).bind fun t317 => ((zztime_Time_AddDate.f k a0_0 a0_1 a0_2 (wrap64 ((wrap64 ((wrap64 (-t317)) * 2)) + 1)) 0 0).bind fun bt318 => (pqtime_Format.j0 k bt318.1 bt318.2.1 bt318.2.2 true))) else (pqtime_Format.j0 k a0_0 a0_1 a0_2 false)) = some r := H
  have A2 := Aside0.mk A20
  clear A20
  have HC3 := Aside0.mk H
  clear H
  go_enter Tryd.func19, Tryd.ntmps19
  go_upto_if 9 with (first | ((with_reducible refine gate_dst (N := 1) rfl ?_); refine box_event ?hg (N := 1) ?hd (cs := #[.int .i64 a0_0, .int .i64 a0_1, .int .i64 a0_2]) (t := 36) ?hr ?_; (case hd => rfl); (case hg => rfl); (case hr => first | (go_simp; done) | (go_simp; rfl) | (go_simp; simp [IntKind.wrap_u8]; done)); intro gb315 hg w4 hbox hb; have n0_ := Aside0.mk (below_step (by repeat (first | (with_reducible first | exact HB.out | apply below_alloc | apply pw_below_drewN | apply below_drew1) | exact HB.out)) hb); have n1_ := Aside0.mk (hbox); have n2_ := Aside0.mk ((by rw [hg]; exact (below_size (by repeat (first | (with_reducible first | exact HB.out | apply below_alloc | apply pw_below_drewN | apply below_drew1) | exact HB.out))) : w.heap.size ≤ gb315)); have n3_ := Aside0.mk ((by rw [hg]; exact (below_size (by repeat (first | (with_reducible first | exact HB.out | apply below_alloc | apply pw_below_drewN | apply below_drew1) | exact HB.out))) : w.heap.size ≤ gb315)); clear HB; have HB := n0_; have BK315 := n1_; have GW315 := n2_; have GE315 := n3_; clear n0_ n1_ n2_ n3_; clear hb hbox hg; have hcz5_0 : w4.cell? ⟨gb315, 0, none⟩ = some (.int .i64 a0_0) := (blk_cell BK315.out 0).trans rfl; have hcz5_1 : w4.cell? ⟨gb315, 1, none⟩ = some (.int .i64 a0_1) := (blk_cell BK315.out 1).trans rfl; have hcz5_2 : w4.cell? ⟨gb315, 2, none⟩ = some (.int .i64 a0_2) := (blk_cell BK315.out 2).trans rfl; have hfz5_0 := blk_frozen BK315.out 0; have hfz5_1 := blk_frozen BK315.out 1; have hfz5_2 := blk_frozen BK315.out 2) | ((with_reducible refine gate_callee (f := 23) rfl ?_); refine goesL_ (some 8) rfl rfl Tryd.func23 (by kernel_rfl) rfl #[.agg #[.int .i64 a0_0, .int .i64 a0_1, .int .i64 a0_2]] rfl (by (try simp only [List.map_toArray, List.map_cons, List.map_nil]); first | done | rfl | (simp only [List.length_drop, List.length_take]; rfl)) ?_; (with_reducible refine (zztime_Time_Year.calls k a0_0 a0_1 a0_2 t316 _ A2.out).mono ?_); rintro e w6 ⟨rfl, hb⟩; refine ⟨_, rfl, ?_⟩; have n0_ := Aside0.mk (blk_below (g := gb315) (o := .cells #[.int .i64 a0_0, .int .i64 a0_1, .int .i64 a0_2] 36 (0, 0)) (by (with_reducible repeat (first | refine blk_drewN ?_ _ | refine blk_drew ?_ | refine blk_alloc ?_ _)); exact BK315.out) hb); have n1_ := Aside0.mk (below_step (by repeat (first | (with_reducible first | exact HB.out | apply below_alloc | apply pw_below_drewN | apply below_drew1 | refine below_set ?_ GE315.out) | exact HB.out)) hb); clear BK315; clear HB; have BK315 := n0_; have HB := n1_; clear n0_ n1_; (try clear hb); (try clear hb2); (try clear hk); (try clear hi)))
  (try simp only [Act.put, List.setIfInBounds_toArray, List.set_cons_zero, List.set_cons_succ])
  go_cut [3] (fun u3 wc => ∃ (kq : Nat) (x316000_2 : Int) (x316001_2 : Int) (x316002_2 : Int) (bq : Bool), u3 = .bool bq ∧ Aside0 (pqtime_Format.j0 kq x316000_2 x316001_2 x316002_2 bq = some r) ∧ Aside0 (kq ≤ k) ∧ Aside0 (wc.heap[gb315]? = some (.cells #[.int .i64 x316000_2, .int .i64 x316001_2, .int .i64 x316002_2] 36 (0, 0))) ∧ Aside0 (Below w.heap.size w wc))
  case first =>
    have H := HC3.out
    clear HC3
    by_cases c7 : t316 ≤ 0
    · rw [if_pos c7] at H
      have c7b0 : decide (t316 ≤ 0) = true := decide_eq_true c7
      clear c7
      (first | rw [c7b0] | (simp only [i64_w, i32_w]; rw [c7b0]) | skip)
      replace H := Option.bind_eq_some_iff.mp H
      obtain ⟨t317, A80, H⟩ := H
      replace H : ((zztime_Time_AddDate.f k a0_0 a0_1 a0_2 (wrap64 ((wrap64 ((wrap64 (-t317)) * 2)) + 1)) 0 0).bind fun bt318 => (pqtime_Format.j0 k bt318.1 bt318.2.1 bt318.2.2 true)) = some r := H
      have A8 := Aside0.mk A80
      clear A80
      replace H := Option.bind_eq_some_iff.mp H
      obtain ⟨⟨t318, t319, t320⟩, A90, H⟩ := H
      replace H : (pqtime_Format.j0 k t318 t319 t320 true) = some r := H
      have A9 := Aside0.mk A90
      clear A90
      have H' := Aside0.mk H
      clear H
      try go_wp2
      have n0_ := Aside0.mk (blk_drew BK315.out)
      have n1_ := Aside0.mk (below_drew1 HB.out)
      clear BK315
      clear HB
      have BK315 := n0_
      have HB := n1_
      clear n0_ n1_
      refine start_ (n := 8) (S := fun w' => w'.cell? ⟨gb315, 0, none⟩ = some (.int .i64 a0_0) ∧ w'.cell? ⟨gb315, 1, none⟩ = some (.int .i64 a0_1) ∧ w'.cell? ⟨gb315, 2, none⟩ = some (.int .i64 a0_2)) (ds := [7]) #[false, false, false, false, false, false, false, false] (by kernel_rfl) rfl rfl ⟨(blk_cell BK315.out 0).trans rfl, (blk_cell BK315.out 1).trans rfl, (blk_cell BK315.out 2).trans rfl⟩ (fun hHeld => ?_); refine with_tabW pqtime_Format.tab3 pqtime_Format.bits3 (fun HT_ HW_ => ?_)
      generalize w6.drew = w10 at BK315 HB hHeld ⊢
      refine take_ (i := 0) (N := some 10) (v := ?_) (a' := ?_) #[true, false, false, false, false, false, false, false] rfl rfl (take_ofW HT_.out HW_.out (by kernel_rfl)) (fun _ _ _ h => h) (Or.inl ⟨by rfl, ?_⟩) hHeld ?_ ?_
      rotate_left
      · rintro w' ⟨s0, s1, s2⟩
        go_simp
        with_reducible rfl
      rotate_left
      · simp only [Act.put, List.setIfInBounds_toArray, List.set_cons_zero, List.set_cons_succ, i64_w, i32_w]
        rfl
      refine take_ (i := 1) (N := some 11) (v := ?_) (a' := ?_) #[true, true, false, false, false, false, false, false] rfl rfl (take_ofW HT_.out HW_.out (by kernel_rfl)) (fun _ _ _ h => h) (Or.inl ⟨by rfl, ?_⟩) hHeld ?_ ?_
      rotate_left
      · rintro w' ⟨s0, s1, s2⟩
        go_simp
        with_reducible rfl
      rotate_left
      · simp only [Act.put, List.setIfInBounds_toArray, List.set_cons_zero, List.set_cons_succ, i64_w, i32_w]
        rfl
      refine one_ (i := 2) (N := some 12) #[true, true, true, false, false, false, false, false] rfl rfl (one_of HT_.out (by kernel_rfl)) (by decide) (fun K hK => ?_)
      refine goes_ Tryd.func23 (by kernel_rfl) rfl #[.agg #[.int .i64 a0_0, .int .i64 a0_1, .int .i64 a0_2]] (by rfl) rfl rfl (by (try simp only [List.map_toArray, List.map_cons, List.map_nil]); first | done | rfl | (simp only [List.length_drop, List.length_take]; rfl)) ?_
      with_reducible refine (zztime_Time_Year.calls k a0_0 a0_1 a0_2 t317 _ A8.out).mono ?_
      rintro e w11 ⟨rfl, hb⟩
      refine ⟨_, rfl, ?_⟩
      have n0_ := Aside0.mk (blk_below (g := gb315) (o := .cells #[.int .i64 a0_0, .int .i64 a0_1, .int .i64 a0_2] 36 (0, 0)) (by (with_reducible repeat (first | refine blk_drewN ?_ _ | refine blk_drew ?_ | refine blk_alloc ?_ _)); exact BK315.out) hb)
      have n1_ := Aside0.mk (below_step (by repeat (first | (with_reducible first | exact HB.out | apply below_alloc | apply pw_below_drewN | apply below_drew1 | refine below_set ?_ GE315.out) | exact HB.out)) hb)
      clear BK315
      clear HB
      have BK315 := n0_
      have HB := n1_
      clear n0_ n1_
      (try clear hb)
      (try clear hb2)
      (try clear hk)
      (try clear hi)
      refine hK.out _ _ ⟨(blk_cell BK315.out 0).trans rfl, (blk_cell BK315.out 1).trans rfl, (blk_cell BK315.out 2).trans rfl⟩ (fun hHeld => ?_)
      clear hK K
      refine norm_ (a' := ?_) ?_ ?_
      rotate_left
      · show Act.put _ (some 12) _ = _
        simp only [Act.put, List.setIfInBounds_toArray, List.set_cons_zero, List.set_cons_succ, i64_w, i32_w]
        rfl
      refine pure_ (i := 3) (N := some 13) (v := ?_) (a' := ?_) #[true, true, true, true, false, false, false, false] rfl rfl (any_of HT_.out (by kernel_rfl)) (fun _ _ _ h => h) (Or.inl ⟨by rfl, ?_⟩) ?_ ?_
      rotate_left
      · intro w'
        go_simp
        with_reducible rfl
      rotate_left
      · simp only [Act.put, List.setIfInBounds_toArray, List.set_cons_zero, List.set_cons_succ, i64_w, i32_w]
        rfl
      refine pure_ (i := 4) (N := some 14) (v := ?_) (a' := ?_) #[true, true, true, true, true, false, false, false] rfl rfl (any_of HT_.out (by kernel_rfl)) (fun _ _ _ h => h) (Or.inl ⟨by rfl, ?_⟩) ?_ ?_
      rotate_left
      · intro w'
        go_simp
        with_reducible rfl
      rotate_left
      · simp only [Act.put, List.setIfInBounds_toArray, List.set_cons_zero, List.set_cons_succ, i64_w, i32_w]
        rfl
      refine pure_ (i := 5) (N := some 15) (v := ?_) (a' := ?_) #[true, true, true, true, true, true, false, false] rfl rfl (any_of HT_.out (by kernel_rfl)) (fun _ _ _ h => h) (Or.inl ⟨by rfl, ?_⟩) ?_ ?_
      rotate_left
      · intro w'
        go_simp
        with_reducible rfl
      rotate_left
      · simp only [Act.put, List.setIfInBounds_toArray, List.set_cons_zero, List.set_cons_succ, i64_w, i32_w]
        rfl
      refine one_ (i := 6) (N := some 16) #[true, true, true, true, true, true, true, false] rfl rfl (one_of HT_.out (by kernel_rfl)) (by decide) (fun K hK => ?_)
      refine goes_ Tryd.func30 (by kernel_rfl) rfl #[.agg #[.int .i64 a0_0, .int .i64 a0_1, .int .i64 a0_2], .int .i64 (wrap64 ((wrap64 ((wrap64 (-t317)) * 2)) + 1)), .int .i64 0, .int .i64 0] (by rfl) rfl rfl (by (try simp only [List.map_toArray, List.map_cons, List.map_nil]); first | done | rfl | (simp only [List.length_drop, List.length_take]; rfl)) ?_
      with_reducible refine (zztime_Time_AddDate.calls k a0_0 a0_1 a0_2 (wrap64 ((wrap64 ((wrap64 (-t317)) * 2)) + 1)) 0 0 t318 t319 t320 _ A9.out).mono ?_
      rintro e w12 ⟨rfl, hb⟩
      refine ⟨_, rfl, ?_⟩
      have n0_ := Aside0.mk (blk_below (g := gb315) (o := .cells #[.int .i64 a0_0, .int .i64 a0_1, .int .i64 a0_2] 36 (0, 0)) (by (with_reducible repeat (first | refine blk_drewN ?_ _ | refine blk_drew ?_ | refine blk_alloc ?_ _)); exact BK315.out) hb)
      have n1_ := Aside0.mk (below_step (by repeat (first | (with_reducible first | exact HB.out | apply below_alloc | apply pw_below_drewN | apply below_drew1 | refine below_set ?_ GE315.out) | exact HB.out)) hb)
      clear BK315
      clear HB
      have BK315 := n0_
      have HB := n1_
      clear n0_ n1_
      (try clear hb)
      (try clear hb2)
      (try clear hk)
      (try clear hi)
      refine hK.out _ _ ⟨(blk_cell BK315.out 0).trans rfl, (blk_cell BK315.out 1).trans rfl, (blk_cell BK315.out 2).trans rfl⟩ (fun hHeld => ?_)
      clear hK K
      refine norm_ (a' := ?_) ?_ ?_
      rotate_left
      · show Act.put _ (some 16) _ = _
        simp only [Act.put, List.setIfInBounds_toArray, List.set_cons_zero, List.set_cons_succ, i64_w, i32_w]
        rfl
      refine last_ (i := 7) (N := none) #[true, true, true, true, true, true, true, true] rfl rfl (one_of HT_.out (by kernel_rfl)) (by decide) (fun K hK => ?_)
      have hs13 : w12.cell? ⟨gb315, 0, none⟩ = some (.int .i64 a0_0) := (blk_cell BK315.out 0).trans rfl
      have hfs13 := blk_frozen BK315.out 0
      have hs14 : w12.cell? ⟨gb315, 1, none⟩ = some (.int .i64 a0_1) := (blk_cell BK315.out 1).trans rfl
      have hfs14 := blk_frozen BK315.out 1
      have hs15 : w12.cell? ⟨gb315, 2, none⟩ = some (.int .i64 a0_2) := (blk_cell BK315.out 2).trans rfl
      have hfs15 := blk_frozen BK315.out 2
      refine skip_ (w1 := ?_) (by rfl) rfl ?_ ?_
      rotate_left
      · go_simp
        rfl
      refine hK.out _ _ ?_
      clear hK K
      refine done_ (done_of HT_.out (by kernel_rfl)) ?_
      try go_wp2
      go_meet
      case rel => exact ⟨_, (t318), (t319), (t320), true, rfl, H', ⟨by first | omega | exact Nat.le_refl _⟩, ⟨by (with_reducible repeat (first | refine blk_drewN ?_ _ | refine blk_drew ?_ | refine blk_alloc ?_ _)); refine blk_put (cs := #[.int .i64 t318, .int .i64 t319, .int .i64 a0_2]) ?_ 2 _ rfl; (with_reducible repeat (first | refine blk_drewN ?_ _ | refine blk_drew ?_ | refine blk_alloc ?_ _)); refine blk_put (cs := #[.int .i64 t318, .int .i64 a0_1, .int .i64 a0_2]) ?_ 1 _ rfl; (with_reducible repeat (first | refine blk_drewN ?_ _ | refine blk_drew ?_ | refine blk_alloc ?_ _)); refine blk_put (cs := #[.int .i64 a0_0, .int .i64 a0_1, .int .i64 a0_2]) ?_ 0 _ rfl; (with_reducible repeat (first | refine blk_drewN ?_ _ | refine blk_drew ?_ | refine blk_alloc ?_ _)); exact BK315.out⟩, ⟨by repeat (first | (with_reducible first | exact HB.out | apply below_alloc | apply pw_below_drewN | apply below_drew1 | refine below_set ?_ GE315.out) | exact HB.out)⟩⟩
    · rw [if_neg c7] at H
      have c7b0 : decide (t316 ≤ 0) = false := decide_eq_false c7
      clear c7
      (first | rw [c7b0] | (simp only [i64_w, i32_w]; rw [c7b0]) | skip)
      have H' := Aside0.mk H
      clear H
      go_wp2
      go_meet
      case rel => exact ⟨_, (a0_0), (a0_1), (a0_2), false, rfl, H', ⟨by first | omega | exact Nat.le_refl _⟩, ⟨by (with_reducible repeat (first | refine blk_drewN ?_ _ | refine blk_drew ?_ | refine blk_alloc ?_ _)); exact BK315.out⟩, ⟨by repeat (first | (with_reducible first | exact HB.out | apply below_alloc | apply pw_below_drewN | apply below_drew1 | refine below_set ?_ GE315.out) | exact HB.out)⟩⟩
  case rest =>
    clear HC3
    try clear c1
    try clear c2
    try clear p2
    try clear c3
    try clear p6
    try clear c7
    try clear c7b0
    try clear hcz5_0
    try clear hcz5_1
    try clear hcz5_2
    try clear hfz5_0
    try clear hfz5_1
    try clear hfz5_2
    obtain ⟨kq, x0, x1, x2, bq, rfl, HA, HJ2, BK315, HB⟩ := hcut
    cases kq with
    | zero => exact absurd HA.out (by simp [pqtime_Format.j0])
    | succ kj2 =>
      have H := HA.out
      clear HA
      simp only [pqtime_Format.j0] at H
      obtain ⟨t321, A160, H⟩ := Option.bind_eq_some_iff.mp H
      replace H : (if t321.size ≤ 1000 then some (pqtime_Format.tail t321 x2 bq) else none) = some r := H
      have A16 := Aside0.mk A160
      clear A160
      by_cases hsz : t321.size ≤ 1000
      case neg => rw [if_neg hsz] at H; exact absurd H (by simp)
      rw [if_pos hsz] at H
      injection H with H
      subst H
      have HSZ := Aside0.mk hsz
      have HBL : Aside0 ((bytesOf t321).length ≤ 1000) := ⟨by rw [bytesOf_length]; exact hsz⟩
      clear hsz
      have hcz0 := (blk_cell BK315.out 0).trans rfl
      have hcz1 := (blk_cell BK315.out 1).trans rfl
      have hcz2 := (blk_cell BK315.out 2).trans rfl
      obtain ⟨q, hq⟩ : ∃ q, Int.tmod x2 60 = q := ⟨_, rfl⟩
      have hq0 : -59 ≤ q := by have := tmod60 x2; omega
      have hq1 : q ≤ 59 := by have := tmod60 x2; omega
      obtain ⟨aq, haq⟩ : ∃ aq, aq = if q < 0 then -q else q := ⟨_, rfl⟩
      have ha0 : 0 ≤ aq := by split at haq <;> omega
      have ha1 : aq < 60 := by split at haq <;> omega
      obtain ⟨tq, htq, hbq⟩ := small_at aq ha0 ha1
      have HTQ := Aside0.mk htq
      have HBQ := Aside0.mk hbq
      have HT2 := Aside0.mk (smallDigits_size hbq)
      clear htq hbq
      have HR := Aside0.mk (zoneRest_eq x2 q aq hq.symm haq)
      have HRL : Aside0 ((zoneRest x2).length ≤ 4) := ⟨by
        rw [HR.out]
        have h2 : (smallDigits aq).length ≤ 2 := by unfold smallDigits; split <;> simp
        split
        · simp
        · split <;> simp <;> omega⟩
      have fin : ∀ (xs : List Int) (v : Value) (W : World), Aside0 (OwnB 5 W w.heap.size v xs) → xs = pqtime_Format.tail t321 x2 bq → OwnB 5 W w.heap.size v (pqtime_Format.tail t321 x2 bq) := fun xs v W h e => e ▸ h.out
      have len : (pqtime_Format.tail t321 x2 bq).length ≤ 2000 := by
        have h1 := HBL.out
        have h2 := HRL.out
        unfold pqtime_Format.tail
        rw [List.length_append, List.length_append]
        split <;> simp <;> omega
      have FIN := Aside0.mk fin
      have LEN := Aside0.mk len
      clear fin len
      by_cases c0 : q = 0
      case' pos => subst c0; have hz0 : ((0 : Int) != 0) = false := rfl; clear haq ha0 ha1
      case' neg =>
        have hz0 : (q == 0) = false := beq_eq_false_iff_ne.2 c0
        have hz1 : (q != 0) = true := bne_iff_ne.2 c0
        by_cases c1 : q < 0
        case' pos =>
          have e1 : aq = -q := by rw [haq, if_pos c1]
          obtain rfl : q = -aq := by omega
          clear haq e1
          have hz2 : decide (-aq < 0) = true := decide_eq_true c1
        case' neg =>
          obtain rfl : aq = q := by rw [haq, if_neg c1]
          clear haq
          have hz2 : decide (aq < 0) = false := decide_eq_false c1
        all_goals by_cases c2 : aq < 10
        all_goals first | (have hz3 : decide (aq < 10) = true := decide_eq_true (by assumption)) | (have hz3 : decide (aq < 10) = false := decide_eq_false (by assumption))
      all_goals cases bq
      all_goals
        go_wp2_with (first | ((with_reducible refine gate_callee (f := 31) rfl ?_); refine goesL_ (some 18) rfl rfl Tryd.func31 (by kernel_rfl) rfl #[.agg #[.int .i64 x0, .int .i64 x1, .int .i64 x2], .string (⟨#[50, 48, 48, 54, 45, 48, 49, 45, 48, 50, 32, 49, 53, 58, 48, 52, 58, 48, 53, 46, 57, 57, 57, 57, 57, 57, 57, 57, 57, 90, 48, 55, 58, 48, 48]⟩ : ByteArray)] rfl (by (try simp only [List.map_toArray, List.map_cons, List.map_nil]); first | done | rfl) ?_; (with_reducible refine (zztime_Time_Format.calls kj2 x0 x1 x2 (⟨#[50, 48, 48, 54, 45, 48, 49, 45, 48, 50, 32, 49, 53, 58, 48, 52, 58, 48, 53, 46, 57, 57, 57, 57, 57, 57, 57, 57, 57, 90, 48, 55, 58, 48, 48]⟩ : ByteArray) t321 _ A16.out).mono ?_); rintro e wf ⟨rfl, hb⟩; refine ⟨_, rfl, ?_⟩; have n0_ := Aside0.mk (blk_below (g := gb315) BK315.out hb); have n1_ := Aside0.mk (below_step HB.out hb); clear BK315 HB; have BK315 := n0_; have HB := n1_; clear n0_ n1_ hb hcz0 hcz1 hcz2) | ((with_reducible refine gate_dst (N := 19) rfl ?_); refine bytes_event (by rfl) 9 34 5 (.tmp 18) rfl Tryd.underlying9 Tryd.underlying34 Tryd.underlying5 t321 rfl ?hm ?_; (case hm => exact (Nat.le_trans HSZ.out (by decide))); intro vb wb ho hb; have HO := Aside0.mk (ho.lower (below_size HB.out)); have n0_ := Aside0.mk (blk_below (g := gb315) BK315.out hb); have n1_ := Aside0.mk (below_step HB.out hb); clear BK315 HB; have BK315 := n0_; have HB := n1_; clear n0_ n1_ ho hb; have hd0 : wb.cell? ⟨gb315, 0, none⟩ = some (.int .i64 x0) := (blk_cell BK315.out 0).trans rfl; have hd1 : wb.cell? ⟨gb315, 1, none⟩ = some (.int .i64 x1) := (blk_cell BK315.out 1).trans rfl; have hd2 : wb.cell? ⟨gb315, 2, none⟩ = some (.int .i64 x2) := (blk_cell BK315.out 2).trans rfl) | (go_at_call 22; (with_reducible refine (zztime_Time_Zone.calls x0 x1 x2 _ _ _ rfl).mono ?_); rintro e wz ⟨rfl, hb⟩; have n0_ := Aside0.mk (HO.out.below hb); have n1_ := Aside0.mk (below_step HB.out hb); clear HO HB; have HO := n0_; have HB := n1_; clear n0_ n1_ hb hd0 hd1 hd2) | ((with_reducible refine gate_dst (N := 35) rfl ?_); refine append_B1 (w0 := w) w.heap.size rfl (.tmp 33) _ 34 5 rfl Tryd.underlying34 info5 _ _ _ _ _ rfl rfl _ (blk_new _ _) (HO.out.below (below_alloc (Below.refl _ _) _)) (below_alloc HB.out _) (below_size (below_alloc HB.out _)) ?aL ?_; (case aL => (have := HBL.out; (try simp only [List.length_append, List.length_cons, List.length_nil]); omega)); intro v35 w35 ho hb hg; have n0_ := Aside0.mk (ho); have n1_ := Aside0.mk hb; clear HO HB; have HO := n0_; have HB := n1_; clear n0_ n1_ ho hb hg) | ((with_reducible refine gate_dst (N := 40) rfl ?_); refine append_B1 (w0 := w) w.heap.size rfl (.tmp 38) _ 34 5 rfl Tryd.underlying34 info5 _ _ _ _ _ rfl rfl _ (blk_new _ _) (HO.out.below (below_alloc (Below.refl _ _) _)) (below_alloc HB.out _) (below_size (below_alloc HB.out _)) ?aL ?_; (case aL => (have := HBL.out; (try simp only [List.length_append, List.length_cons, List.length_nil]); omega)); intro v40 w40 ho hb hg; have n0_ := Aside0.mk (ho); have n1_ := Aside0.mk hb; clear HO HB; have HO := n0_; have HB := n1_; clear n0_ n1_ ho hb hg) | (go_at_call 32; (with_reducible refine (appendInt_B aq tq ha0 ha1 HTQ.out _ _ w _ HO.out HB.out ?side).mono ?_); (case side => (have := HBL.out; have := HT2.out; (try simp only [List.length_append, List.length_cons, List.length_nil]); omega)); rintro e wn ⟨v43, rfl, ho, hb⟩; have hg := True.intro; have n0_ := Aside0.mk (ho); have n1_ := Aside0.mk hb; clear HO HB; have HO := n0_; have HB := n1_; clear n0_ n1_ ho hb hg) | ((with_reducible refine gate_dst (N := 46) rfl ?_); refine append_strB (w0 := w) w.heap.size rfl (.tmp 45) _ 34 9 5 rfl Tryd.underlying34 Tryd.underlying9 info5 _ _ (⟨#[32, 66, 67]⟩ : ByteArray) rfl rfl HO.out HB.out (below_size HB.out) ?aL ?_; (case aL => (have := HSZ.out; have e3 : (⟨#[32, 66, 67]⟩ : ByteArray).size = 3 := rfl; have := HT2.out; (try simp only [e3, bytesOf_length, List.length_append, List.length_cons, List.length_nil]); omega)); intro v46 w46 ho hb hg; have n0_ := Aside0.mk (ho); have n1_ := Aside0.mk hb; clear HO HB; have HO := n0_; have HB := n1_; clear n0_ n1_ ho hb hg))
        go_ret
        refine ⟨_, rfl, FIN.out _ _ _ HO ?_, LEN.out, HB.out⟩
        have h1 := HR.out
        have h2 := HBQ.out
        unfold pqtime_Format.tail
        rw [h1]
        try rw [h2]
        clear FIN LEN HR HBQ h1 h2 HB HO
        have h5 : bytesOf (⟨#[32, 66, 67]⟩ : ByteArray) = [32, 66, 67] := rfl
        first | (simp [c0, c2, h5]; done) | (simp [h5]; done)
/-! ### pq_FormatTimestamp: function 14 -/
def pq_FormatTimestamp.f (k : Nat) (a0_0 : Int) (a0_1 : Int) (a0_2 : Int) : Option (List Int) := (pqtime_Format.f k a0_0 a0_1 a0_2).bind fun t323 => (some t323)
theorem pq_FormatTimestamp.mono : ∀ a0 a1 a2 k, LeO (pq_FormatTimestamp.f k a0 a1 a2) (pq_FormatTimestamp.f (k + 1) a0 a1 a2) := by
  intro a0 a1 a2 k
  unfold pq_FormatTimestamp.f
  repeat' first
      | (with_reducible exact pqtime_Format.mono _ _ _ _)
      | (with_reducible exact LeO.refl _)
      | (with_reducible exact LeO.none _)
      | (with_reducible refine LeO.ite ?_ ?_)
      | (with_reducible refine LeO.bind ?_ (fun _ => ?_))
      | exact pqtime_Format.mono _ _ _ _
      | exact LeO.none _
      | refine LeO.ite ?_ ?_
      | refine LeO.bind ?_ (fun _ => ?_)
set_option maxHeartbeats 8000000 in
set_option maxRecDepth 100000 in
theorem pq_FormatTimestamp.calls (k : Nat) (a0_0 : Int) (a0_1 : Int) (a0_2 : Int) (r : List Int) (w : World) (h : pq_FormatTimestamp.f k a0_0 a0_1 a0_2 = some r) :
    Calls Tryd.prog 14 #[.agg #[.int .i64 a0_0, .int .i64 a0_1, .int .i64 a0_2]] w fun e w' => ∃ v0_ : Value, e = .returned (v0_) ∧ OwnB 5 w' w.heap.size v0_ r ∧ r.length ≤ 2000 ∧ Below w.heap.size w w' := by
  have hu36 := Tryd.underlying36
  have HB := Aside0.mk (Below.refl w.heap.size w)
  have H : ((pqtime_Format.f k a0_0 a0_1 a0_2).bind fun t323 => (some t323)) = some r := h
  clear h
  replace H := Option.bind_eq_some_iff.mp H
  obtain ⟨t323, A20, H⟩ := H
  replace H : (some t323) = some r := H
  have A2 := Aside0.mk A20
  clear A20
  obtain rfl := Option.some.inj H
  go_enter Tryd.func14, Tryd.ntmps14
  go_wp2_with (first | ((with_reducible refine gate_dst (N := 1) rfl ?_); refine box_event ?hg (N := 1) ?hd (cs := #[.int .i64 a0_0, .int .i64 a0_1, .int .i64 a0_2]) (t := 36) ?hr ?_; (case hd => rfl); (case hg => rfl); (case hr => first | (go_simp; done) | (go_simp; rfl) | (go_simp; simp [IntKind.wrap_u8]; done)); intro gb322 hg w3 hbox hb; have n0_ := Aside0.mk (below_step (by repeat (first | (with_reducible first | exact HB.out | apply below_alloc | apply pw_below_drewN | apply below_drew1) | exact HB.out)) hb); have n1_ := Aside0.mk (hbox); have n2_ := Aside0.mk ((by rw [hg]; exact (below_size (by repeat (first | (with_reducible first | exact HB.out | apply below_alloc | apply pw_below_drewN | apply below_drew1) | exact HB.out))) : w.heap.size ≤ gb322)); have n3_ := Aside0.mk ((by rw [hg]; exact (below_size (by repeat (first | (with_reducible first | exact HB.out | apply below_alloc | apply pw_below_drewN | apply below_drew1) | exact HB.out))) : w.heap.size ≤ gb322)); clear HB; have HB := n0_; have BK322 := n1_; have GW322 := n2_; have GE322 := n3_; clear n0_ n1_ n2_ n3_; clear hb hbox hg; have hcz4_0 : w3.cell? ⟨gb322, 0, none⟩ = some (.int .i64 a0_0) := (blk_cell BK322.out 0).trans rfl; have hcz4_1 : w3.cell? ⟨gb322, 1, none⟩ = some (.int .i64 a0_1) := (blk_cell BK322.out 1).trans rfl; have hcz4_2 : w3.cell? ⟨gb322, 2, none⟩ = some (.int .i64 a0_2) := (blk_cell BK322.out 2).trans rfl; have hfz4_0 := blk_frozen BK322.out 0; have hfz4_1 := blk_frozen BK322.out 1; have hfz4_2 := blk_frozen BK322.out 2) | ((with_reducible refine gate_callee (f := 19) rfl ?_); refine goesL_ (some 4) rfl rfl Tryd.func19 (by kernel_rfl) rfl #[.agg #[.int .i64 a0_0, .int .i64 a0_1, .int .i64 a0_2]] rfl (by (try simp only [List.map_toArray, List.map_cons, List.map_nil]); first | done | rfl | (simp only [List.length_drop, List.length_take]; rfl)) ?_; (with_reducible refine (pqtime_Format.calls k a0_0 a0_1 a0_2 t323 _ A2.out).mono ?_); rintro e w5 ⟨v324, rfl, ho0, hL, hb⟩; have HLEN := Aside0.mk hL; clear hL; refine ⟨_, rfl, ?_⟩; have n0_ := Aside0.mk (OwnB.lower ho0 (below_size (by repeat (first | (with_reducible first | exact HB.out | apply below_alloc | apply pw_below_drewN | apply below_drew1 | refine below_set ?_ GE322.out) | exact HB.out)))); have n1_ := Aside0.mk (blk_below (g := gb322) (o := .cells #[.int .i64 a0_0, .int .i64 a0_1, .int .i64 a0_2] 36 (0, 0)) (by (with_reducible repeat (first | refine blk_drewN ?_ _ | refine blk_drew ?_ | refine blk_alloc ?_ _)); exact BK322.out) hb); have n2_ := Aside0.mk (below_step (by repeat (first | (with_reducible first | exact HB.out | apply below_alloc | apply pw_below_drewN | apply below_drew1 | refine below_set ?_ GE322.out) | exact HB.out)) hb); clear BK322; clear HB; have HO325 := n0_; have BK322 := n1_; have HB := n2_; clear n0_ n1_ n2_; (try clear hb); (try clear hb2); (try clear hk); (try clear hi); (try clear ho0)))
  go_ret
  exact ⟨_, rfl, HO325.out, HLEN.out, HB.out⟩

theorem ownB_string {P : Program} {w : World} {base : Nat} {e src dst : TypeId} {v : Value} {xs : List Int} (hs : P.underlying src = some (.slice e)) (he : P.underlying e = some (.int .u8)) (hd : P.underlying dst = some .string)
    (h : OwnB e w base v xs) (hm : xs.length ≤ 2000) : (convert src dst v).run P w = .ok (.string (strOfNums xs)) w := by
  obtain ⟨A, c, rfl, hc⟩ := h.val
  exact Kd.C_string hs he hd (h.c (by omega)).2
/-! ### pq_FormatStamp: function 11 -/
def pq_FormatStamp.f (k : Nat) (a0_0 : Int) (a0_1 : Int) (a0_2 : Int) (a0_3 : Int) (a0_4 : Int) (a0_5 : Int) (a0_6 : Int) (a0_7 : Int) : Option (ByteArray × Bool) := (pq_Stamp_time.f k a0_0 a0_1 a0_2 a0_3 a0_4 a0_5 a0_6 a0_7).bind fun bt327 => (if bt327.2.2.2 = true then ((pq_FormatTimestamp.f k bt327.1 bt327.2.1 bt327.2.2.1).bind fun t332 => (some (strOfNums t332, true))) else (some ((⟨#[]⟩ : ByteArray), false)))
theorem pq_FormatStamp.mono : ∀ a0 a1 a2 a3 a4 a5 a6 a7 k, LeO (pq_FormatStamp.f k a0 a1 a2 a3 a4 a5 a6 a7) (pq_FormatStamp.f (k + 1) a0 a1 a2 a3 a4 a5 a6 a7) := by
  intro a0 a1 a2 a3 a4 a5 a6 a7 k
  unfold pq_FormatStamp.f
  repeat' first
      | (with_reducible exact pq_FormatTimestamp.mono _ _ _ _)
      | (with_reducible exact pq_Stamp_time.mono _ _ _ _ _ _ _ _ _)
      | (with_reducible exact LeO.refl _)
      | (with_reducible exact LeO.none _)
      | (with_reducible refine LeO.ite ?_ ?_)
      | (with_reducible refine LeO.bind ?_ (fun _ => ?_))
      | exact pq_FormatTimestamp.mono _ _ _ _
      | exact pq_Stamp_time.mono _ _ _ _ _ _ _ _ _
      | exact LeO.none _
      | refine LeO.ite ?_ ?_
      | refine LeO.bind ?_ (fun _ => ?_)
set_option maxHeartbeats 8000000 in
set_option maxRecDepth 100000 in
theorem pq_FormatStamp.calls (k : Nat) (a0_0 : Int) (a0_1 : Int) (a0_2 : Int) (a0_3 : Int) (a0_4 : Int) (a0_5 : Int) (a0_6 : Int) (a0_7 : Int) (r1 : ByteArray) (r2 : Bool) (w : World) (h : pq_FormatStamp.f k a0_0 a0_1 a0_2 a0_3 a0_4 a0_5 a0_6 a0_7 = some (r1, r2)) :
    Calls Tryd.prog 11 #[.agg #[.int .i64 a0_0, .int .i64 a0_1, .int .i64 a0_2, .int .i64 a0_3, .int .i64 a0_4, .int .i64 a0_5, .int .i64 a0_6, .int .i64 a0_7]] w fun e w' => e = .returned (.tuple #[.string r1, .bool r2]) ∧ Below w.heap.size w w' := by
  have hu32 := Tryd.underlying32
  have hu36 := Tryd.underlying36
  have HB := Aside0.mk (Below.refl w.heap.size w)
  have H : ((pq_Stamp_time.f k a0_0 a0_1 a0_2 a0_3 a0_4 a0_5 a0_6 a0_7).bind fun bt327 => (if bt327.2.2.2 = true then ((pq_FormatTimestamp.f k bt327.1 bt327.2.1 bt327.2.2.1).bind fun t332 => (some (strOfNums t332, true))) else (some ((⟨#[]⟩ : ByteArray), false)))) = some (r1, r2) := h
  clear h
  replace H := Option.bind_eq_some_iff.mp H
  obtain ⟨⟨t327, t328, t329, t330⟩, A20, H⟩ := H
  replace H : (if t330 = true then ((pq_FormatTimestamp.f k t327 t328 t329).bind fun t332 => (some (strOfNums t332, true))) else (some ((⟨#[]⟩ : ByteArray), false))) = some (r1, r2) := H
  have A2 := Aside0.mk A20
  clear A20
  by_cases c3 : t330 = true
  · subst c3
    have H1 : ((pq_FormatTimestamp.f k t327 t328 t329).bind fun t332 => (some (strOfNums t332, true))) = some (r1, r2) := by rw [if_pos rfl] at H; exact H
    clear H
    have H := H1
    clear H1
    replace H := Option.bind_eq_some_iff.mp H
    obtain ⟨t332, A40, H⟩ := H
    replace H : (some (strOfNums t332, true)) = some (r1, r2) := H
    have A4 := Aside0.mk A40
    clear A40
    simp only [Option.some.injEq, Prod.mk.injEq] at H
    obtain ⟨rfl, rfl⟩ := H
    go_enter Tryd.func11, Tryd.ntmps11
    go_wp2_with (first | ((with_reducible refine gate_dst (N := 1) rfl ?_); refine box_event ?hg (N := 1) ?hd (cs := #[.int .i64 a0_0, .int .i64 a0_1, .int .i64 a0_2, .int .i64 a0_3, .int .i64 a0_4, .int .i64 a0_5, .int .i64 a0_6, .int .i64 a0_7]) (t := 32) ?hr ?_; (case hd => rfl); (case hg => rfl); (case hr => first | (go_simp; done) | (go_simp; rfl) | (go_simp; simp [IntKind.wrap_u8]; done)); intro gb326 hg w5 hbox hb; have n0_ := Aside0.mk (below_step (by repeat (first | (with_reducible first | exact HB.out | apply below_alloc | apply pw_below_drewN | apply below_drew1) | exact HB.out)) hb); have n1_ := Aside0.mk (hbox); have n2_ := Aside0.mk ((by rw [hg]; exact (below_size (by repeat (first | (with_reducible first | exact HB.out | apply below_alloc | apply pw_below_drewN | apply below_drew1) | exact HB.out))) : w.heap.size ≤ gb326)); have n3_ := Aside0.mk ((by rw [hg]; exact (below_size (by repeat (first | (with_reducible first | exact HB.out | apply below_alloc | apply pw_below_drewN | apply below_drew1) | exact HB.out))) : w.heap.size ≤ gb326)); clear HB; have HB := n0_; have BK326 := n1_; have GW326 := n2_; have GE326 := n3_; clear n0_ n1_ n2_ n3_; clear hb hbox hg; have hcz6_0 : w5.cell? ⟨gb326, 0, none⟩ = some (.int .i64 a0_0) := (blk_cell BK326.out 0).trans rfl; have hcz6_1 : w5.cell? ⟨gb326, 1, none⟩ = some (.int .i64 a0_1) := (blk_cell BK326.out 1).trans rfl; have hcz6_2 : w5.cell? ⟨gb326, 2, none⟩ = some (.int .i64 a0_2) := (blk_cell BK326.out 2).trans rfl; have hcz6_3 : w5.cell? ⟨gb326, 3, none⟩ = some (.int .i64 a0_3) := (blk_cell BK326.out 3).trans rfl; have hcz6_4 : w5.cell? ⟨gb326, 4, none⟩ = some (.int .i64 a0_4) := (blk_cell BK326.out 4).trans rfl; have hcz6_5 : w5.cell? ⟨gb326, 5, none⟩ = some (.int .i64 a0_5) := (blk_cell BK326.out 5).trans rfl; have hcz6_6 : w5.cell? ⟨gb326, 6, none⟩ = some (.int .i64 a0_6) := (blk_cell BK326.out 6).trans rfl; have hcz6_7 : w5.cell? ⟨gb326, 7, none⟩ = some (.int .i64 a0_7) := (blk_cell BK326.out 7).trans rfl; have hfz6_0 := blk_frozen BK326.out 0; have hfz6_1 := blk_frozen BK326.out 1; have hfz6_2 := blk_frozen BK326.out 2; have hfz6_3 := blk_frozen BK326.out 3; have hfz6_4 := blk_frozen BK326.out 4; have hfz6_5 := blk_frozen BK326.out 5; have hfz6_6 := blk_frozen BK326.out 6; have hfz6_7 := blk_frozen BK326.out 7) | ((with_reducible refine gate_callee (f := 13) rfl ?_); refine goesL_ (some 8) rfl rfl Tryd.func13 (by kernel_rfl) rfl #[.agg #[.int .i64 a0_0, .int .i64 a0_1, .int .i64 a0_2, .int .i64 a0_3, .int .i64 a0_4, .int .i64 a0_5, .int .i64 a0_6, .int .i64 a0_7]] rfl (by (try simp only [List.map_toArray, List.map_cons, List.map_nil]); first | done | rfl | (simp only [List.length_drop, List.length_take]; rfl)) ?_; (with_reducible refine (pq_Stamp_time.calls k a0_0 a0_1 a0_2 a0_3 a0_4 a0_5 a0_6 a0_7 t327 t328 t329 true _ A2.out).mono ?_); rintro e w7 ⟨rfl, hb⟩; refine ⟨_, rfl, ?_⟩; have n0_ := Aside0.mk (blk_below (g := gb326) (o := .cells #[.int .i64 a0_0, .int .i64 a0_1, .int .i64 a0_2, .int .i64 a0_3, .int .i64 a0_4, .int .i64 a0_5, .int .i64 a0_6, .int .i64 a0_7] 32 (0, 0)) (by (with_reducible repeat (first | refine blk_drewN ?_ _ | refine blk_drew ?_ | refine blk_alloc ?_ _)); exact BK326.out) hb); have n1_ := Aside0.mk (below_step (by repeat (first | (with_reducible first | exact HB.out | apply below_alloc | apply pw_below_drewN | apply below_drew1 | refine below_set ?_ GE326.out) | exact HB.out)) hb); clear BK326; clear HB; have BK326 := n0_; have HB := n1_; clear n0_ n1_; (try clear hb); (try clear hb2); (try clear hk); (try clear hi)) | ((with_reducible refine gate_dst (N := 4) rfl ?_); refine box_event ?hg (N := 4) ?hd (cs := #[.int .i64 0, .int .i64 0, .int .i64 0]) (t := 36) ?hr ?_; (case hd => rfl); (case hg => rfl); (case hr => first | (go_simp; done) | (go_simp; rfl) | (go_simp; simp [IntKind.wrap_u8]; done)); intro gb331 hg w8 hbox hb; have n0_ := Aside0.mk (blk_below (g := gb326) (o := .cells #[.int .i64 a0_0, .int .i64 a0_1, .int .i64 a0_2, .int .i64 a0_3, .int .i64 a0_4, .int .i64 a0_5, .int .i64 a0_6, .int .i64 a0_7] 32 (0, 0)) (by (with_reducible repeat (first | refine blk_drewN ?_ _ | refine blk_drew ?_ | refine blk_alloc ?_ _)); exact BK326.out) hb); have n1_ := Aside0.mk (below_step (by repeat (first | (with_reducible first | exact HB.out | apply below_alloc | apply pw_below_drewN | apply below_drew1 | refine below_set ?_ GE326.out) | exact HB.out)) hb); have n2_ := Aside0.mk (hbox); have n3_ := Aside0.mk ((by rw [hg]; exact (below_size (by repeat (first | (with_reducible first | exact HB.out | apply below_alloc | apply pw_below_drewN | apply below_drew1 | refine below_set ?_ GE326.out) | exact HB.out))) : w.heap.size ≤ gb331)); have n4_ := Aside0.mk ((by rw [hg]; exact (below_size (by repeat (first | (with_reducible first | exact HB.out | apply below_alloc | apply pw_below_drewN | apply below_drew1 | refine below_set ?_ GE326.out) | exact HB.out))) : w.heap.size ≤ gb331)); have n5_ := Aside0.mk ((by rw [hg]; exact Nat.ne_of_lt (blk_lt (g := gb326) (o := .cells #[.int .i64 a0_0, .int .i64 a0_1, .int .i64 a0_2, .int .i64 a0_3, .int .i64 a0_4, .int .i64 a0_5, .int .i64 a0_6, .int .i64 a0_7] 32 (0, 0)) (by (with_reducible repeat (first | refine blk_drewN ?_ _ | refine blk_drew ?_ | refine blk_alloc ?_ _)); exact BK326.out)) : gb326 ≠ gb331)); have n6_ := Aside0.mk ((by rw [hg]; exact Nat.ne_of_gt (blk_lt (g := gb326) (o := .cells #[.int .i64 a0_0, .int .i64 a0_1, .int .i64 a0_2, .int .i64 a0_3, .int .i64 a0_4, .int .i64 a0_5, .int .i64 a0_6, .int .i64 a0_7] 32 (0, 0)) (by (with_reducible repeat (first | refine blk_drewN ?_ _ | refine blk_drew ?_ | refine blk_alloc ?_ _)); exact BK326.out)) : gb331 ≠ gb326)); clear BK326; clear HB; have BK326 := n0_; have HB := n1_; have BK331 := n2_; have GW331 := n3_; have GE331 := n4_; have NB326_331 := n5_; have NB331_326 := n6_; clear n0_ n1_ n2_ n3_ n4_ n5_ n6_; clear hb hbox hg; have hnb9 := NB331_326.out; have hnc9 := NB326_331.out; have hcz10_0 : w8.cell? ⟨gb331, 0, none⟩ = some (.int .i64 0) := (blk_cell BK331.out 0).trans rfl; have hcz10_1 : w8.cell? ⟨gb331, 1, none⟩ = some (.int .i64 0) := (blk_cell BK331.out 1).trans rfl; have hcz10_2 : w8.cell? ⟨gb331, 2, none⟩ = some (.int .i64 0) := (blk_cell BK331.out 2).trans rfl; have hfz10_0 := blk_frozen BK331.out 0; have hfz10_1 := blk_frozen BK331.out 1; have hfz10_2 := blk_frozen BK331.out 2) | ((with_reducible refine gate_callee (f := 14) rfl ?_); refine goesL_ (some 14) rfl rfl Tryd.func14 (by kernel_rfl) rfl #[.agg #[.int .i64 t327, .int .i64 t328, .int .i64 t329]] rfl (by (try simp only [List.map_toArray, List.map_cons, List.map_nil]); first | done | rfl | (simp only [List.length_drop, List.length_take]; rfl)) ?_; (with_reducible refine (pq_FormatTimestamp.calls k t327 t328 t329 t332 _ A4.out).mono ?_); rintro e w11 ⟨v333, rfl, ho0, hL, hb⟩; have HLEN := Aside0.mk hL; clear hL; refine ⟨_, rfl, ?_⟩; have n0_ := Aside0.mk (OwnB.lower ho0 (below_size (by repeat (first | (with_reducible first | exact HB.out | apply below_alloc | apply pw_below_drewN | apply below_drew1 | refine below_set ?_ GE326.out | refine below_set ?_ GE331.out) | exact HB.out)))); have n1_ := Aside0.mk (blk_below (g := gb326) (o := .cells #[.int .i64 a0_0, .int .i64 a0_1, .int .i64 a0_2, .int .i64 a0_3, .int .i64 a0_4, .int .i64 a0_5, .int .i64 a0_6, .int .i64 a0_7] 32 (0, 0)) (by (with_reducible repeat (first | refine blk_drewN ?_ _ | refine blk_drew ?_ | refine blk_alloc ?_ _)); refine blk_far ?_ NB326_331.out _; (with_reducible repeat (first | refine blk_drewN ?_ _ | refine blk_drew ?_ | refine blk_alloc ?_ _)); refine blk_far ?_ NB326_331.out _; (with_reducible repeat (first | refine blk_drewN ?_ _ | refine blk_drew ?_ | refine blk_alloc ?_ _)); refine blk_far ?_ NB326_331.out _; (with_reducible repeat (first | refine blk_drewN ?_ _ | refine blk_drew ?_ | refine blk_alloc ?_ _)); exact BK326.out) hb); have n2_ := Aside0.mk (blk_below (g := gb331) (o := .cells #[.int .i64 t327, .int .i64 t328, .int .i64 t329] 36 (0, 0)) (by (with_reducible repeat (first | refine blk_drewN ?_ _ | refine blk_drew ?_ | refine blk_alloc ?_ _)); refine blk_put (cs := #[.int .i64 t327, .int .i64 t328, .int .i64 0]) ?_ 2 _ rfl; (with_reducible repeat (first | refine blk_drewN ?_ _ | refine blk_drew ?_ | refine blk_alloc ?_ _)); refine blk_put (cs := #[.int .i64 t327, .int .i64 0, .int .i64 0]) ?_ 1 _ rfl; (with_reducible repeat (first | refine blk_drewN ?_ _ | refine blk_drew ?_ | refine blk_alloc ?_ _)); refine blk_put (cs := #[.int .i64 0, .int .i64 0, .int .i64 0]) ?_ 0 _ rfl; (with_reducible repeat (first | refine blk_drewN ?_ _ | refine blk_drew ?_ | refine blk_alloc ?_ _)); exact BK331.out) hb); have n3_ := Aside0.mk (below_step (by repeat (first | (with_reducible first | exact HB.out | apply below_alloc | apply pw_below_drewN | apply below_drew1 | refine below_set ?_ GE326.out | refine below_set ?_ GE331.out) | exact HB.out)) hb); clear BK326; clear BK331; clear HB; have HO334 := n0_; have BK326 := n1_; have BK331 := n2_; have HB := n3_; clear n0_ n1_ n2_ n3_; (try clear hb); (try clear hb2); (try clear hk); (try clear hi); (try clear ho0); have hcv12 := ownB_string (P := Tryd.prog) Tryd.underlying34 Tryd.underlying5 Tryd.underlying9 HO334.out HLEN.out))
    go_ret2
    exact ⟨by first | rfl | (simp [errW_none, errW_some] <;> rfl) | (simp [*, errW_none, errW_some] <;> rfl), by repeat (first | (with_reducible first | exact HB.out | apply below_alloc | apply pw_below_drewN | apply below_drew1 | refine below_set ?_ GE326.out | refine below_set ?_ GE331.out) | exact HB.out)⟩
  · replace c3 := Bool.eq_false_iff.mpr c3
    subst c3
    have H1 : (some ((⟨#[]⟩ : ByteArray), false)) = some (r1, r2) := by rw [if_neg (show ¬ (false = true) by decide)] at H; exact H
    clear H
    have H := H1
    clear H1
    simp only [Option.some.injEq, Prod.mk.injEq] at H
    obtain ⟨rfl, rfl⟩ := H
    go_enter Tryd.func11, Tryd.ntmps11
    go_wp2_with (first | ((with_reducible refine gate_dst (N := 1) rfl ?_); refine box_event ?hg (N := 1) ?hd (cs := #[.int .i64 a0_0, .int .i64 a0_1, .int .i64 a0_2, .int .i64 a0_3, .int .i64 a0_4, .int .i64 a0_5, .int .i64 a0_6, .int .i64 a0_7]) (t := 32) ?hr ?_; (case hd => rfl); (case hg => rfl); (case hr => first | (go_simp; done) | (go_simp; rfl) | (go_simp; simp [IntKind.wrap_u8]; done)); intro gb326 hg w13 hbox hb; have n0_ := Aside0.mk (below_step (by repeat (first | (with_reducible first | exact HB.out | apply below_alloc | apply pw_below_drewN | apply below_drew1) | exact HB.out)) hb); have n1_ := Aside0.mk (hbox); have n2_ := Aside0.mk ((by rw [hg]; exact (below_size (by repeat (first | (with_reducible first | exact HB.out | apply below_alloc | apply pw_below_drewN | apply below_drew1) | exact HB.out))) : w.heap.size ≤ gb326)); have n3_ := Aside0.mk ((by rw [hg]; exact (below_size (by repeat (first | (with_reducible first | exact HB.out | apply below_alloc | apply pw_below_drewN | apply below_drew1) | exact HB.out))) : w.heap.size ≤ gb326)); clear HB; have HB := n0_; have BK326 := n1_; have GW326 := n2_; have GE326 := n3_; clear n0_ n1_ n2_ n3_; clear hb hbox hg; have hcz14_0 : w13.cell? ⟨gb326, 0, none⟩ = some (.int .i64 a0_0) := (blk_cell BK326.out 0).trans rfl; have hcz14_1 : w13.cell? ⟨gb326, 1, none⟩ = some (.int .i64 a0_1) := (blk_cell BK326.out 1).trans rfl; have hcz14_2 : w13.cell? ⟨gb326, 2, none⟩ = some (.int .i64 a0_2) := (blk_cell BK326.out 2).trans rfl; have hcz14_3 : w13.cell? ⟨gb326, 3, none⟩ = some (.int .i64 a0_3) := (blk_cell BK326.out 3).trans rfl; have hcz14_4 : w13.cell? ⟨gb326, 4, none⟩ = some (.int .i64 a0_4) := (blk_cell BK326.out 4).trans rfl; have hcz14_5 : w13.cell? ⟨gb326, 5, none⟩ = some (.int .i64 a0_5) := (blk_cell BK326.out 5).trans rfl; have hcz14_6 : w13.cell? ⟨gb326, 6, none⟩ = some (.int .i64 a0_6) := (blk_cell BK326.out 6).trans rfl; have hcz14_7 : w13.cell? ⟨gb326, 7, none⟩ = some (.int .i64 a0_7) := (blk_cell BK326.out 7).trans rfl; have hfz14_0 := blk_frozen BK326.out 0; have hfz14_1 := blk_frozen BK326.out 1; have hfz14_2 := blk_frozen BK326.out 2; have hfz14_3 := blk_frozen BK326.out 3; have hfz14_4 := blk_frozen BK326.out 4; have hfz14_5 := blk_frozen BK326.out 5; have hfz14_6 := blk_frozen BK326.out 6; have hfz14_7 := blk_frozen BK326.out 7) | ((with_reducible refine gate_callee (f := 13) rfl ?_); refine goesL_ (some 8) rfl rfl Tryd.func13 (by kernel_rfl) rfl #[.agg #[.int .i64 a0_0, .int .i64 a0_1, .int .i64 a0_2, .int .i64 a0_3, .int .i64 a0_4, .int .i64 a0_5, .int .i64 a0_6, .int .i64 a0_7]] rfl (by (try simp only [List.map_toArray, List.map_cons, List.map_nil]); first | done | rfl | (simp only [List.length_drop, List.length_take]; rfl)) ?_; (with_reducible refine (pq_Stamp_time.calls k a0_0 a0_1 a0_2 a0_3 a0_4 a0_5 a0_6 a0_7 t327 t328 t329 false _ A2.out).mono ?_); rintro e w15 ⟨rfl, hb⟩; refine ⟨_, rfl, ?_⟩; have n0_ := Aside0.mk (blk_below (g := gb326) (o := .cells #[.int .i64 a0_0, .int .i64 a0_1, .int .i64 a0_2, .int .i64 a0_3, .int .i64 a0_4, .int .i64 a0_5, .int .i64 a0_6, .int .i64 a0_7] 32 (0, 0)) (by (with_reducible repeat (first | refine blk_drewN ?_ _ | refine blk_drew ?_ | refine blk_alloc ?_ _)); exact BK326.out) hb); have n1_ := Aside0.mk (below_step (by repeat (first | (with_reducible first | exact HB.out | apply below_alloc | apply pw_below_drewN | apply below_drew1 | refine below_set ?_ GE326.out) | exact HB.out)) hb); clear BK326; clear HB; have BK326 := n0_; have HB := n1_; clear n0_ n1_; (try clear hb); (try clear hb2); (try clear hk); (try clear hi)) | ((with_reducible refine gate_dst (N := 4) rfl ?_); refine box_event ?hg (N := 4) ?hd (cs := #[.int .i64 0, .int .i64 0, .int .i64 0]) (t := 36) ?hr ?_; (case hd => rfl); (case hg => rfl); (case hr => first | (go_simp; done) | (go_simp; rfl) | (go_simp; simp [IntKind.wrap_u8]; done)); intro gb331 hg w16 hbox hb; have n0_ := Aside0.mk (blk_below (g := gb326) (o := .cells #[.int .i64 a0_0, .int .i64 a0_1, .int .i64 a0_2, .int .i64 a0_3, .int .i64 a0_4, .int .i64 a0_5, .int .i64 a0_6, .int .i64 a0_7] 32 (0, 0)) (by (with_reducible repeat (first | refine blk_drewN ?_ _ | refine blk_drew ?_ | refine blk_alloc ?_ _)); exact BK326.out) hb); have n1_ := Aside0.mk (below_step (by repeat (first | (with_reducible first | exact HB.out | apply below_alloc | apply pw_below_drewN | apply below_drew1 | refine below_set ?_ GE326.out) | exact HB.out)) hb); have n2_ := Aside0.mk (hbox); have n3_ := Aside0.mk ((by rw [hg]; exact (below_size (by repeat (first | (with_reducible first | exact HB.out | apply below_alloc | apply pw_below_drewN | apply below_drew1 | refine below_set ?_ GE326.out) | exact HB.out))) : w.heap.size ≤ gb331)); have n4_ := Aside0.mk ((by rw [hg]; exact (below_size (by repeat (first | (with_reducible first | exact HB.out | apply below_alloc | apply pw_below_drewN | apply below_drew1 | refine below_set ?_ GE326.out) | exact HB.out))) : w.heap.size ≤ gb331)); have n5_ := Aside0.mk ((by rw [hg]; exact Nat.ne_of_lt (blk_lt (g := gb326) (o := .cells #[.int .i64 a0_0, .int .i64 a0_1, .int .i64 a0_2, .int .i64 a0_3, .int .i64 a0_4, .int .i64 a0_5, .int .i64 a0_6, .int .i64 a0_7] 32 (0, 0)) (by (with_reducible repeat (first | refine blk_drewN ?_ _ | refine blk_drew ?_ | refine blk_alloc ?_ _)); exact BK326.out)) : gb326 ≠ gb331)); have n6_ := Aside0.mk ((by rw [hg]; exact Nat.ne_of_gt (blk_lt (g := gb326) (o := .cells #[.int .i64 a0_0, .int .i64 a0_1, .int .i64 a0_2, .int .i64 a0_3, .int .i64 a0_4, .int .i64 a0_5, .int .i64 a0_6, .int .i64 a0_7] 32 (0, 0)) (by (with_reducible repeat (first | refine blk_drewN ?_ _ | refine blk_drew ?_ | refine blk_alloc ?_ _)); exact BK326.out)) : gb331 ≠ gb326)); clear BK326; clear HB; have BK326 := n0_; have HB := n1_; have BK331 := n2_; have GW331 := n3_; have GE331 := n4_; have NB326_331 := n5_; have NB331_326 := n6_; clear n0_ n1_ n2_ n3_ n4_ n5_ n6_; clear hb hbox hg; have hnb17 := NB331_326.out; have hnc17 := NB326_331.out; have hcz18_0 : w16.cell? ⟨gb331, 0, none⟩ = some (.int .i64 0) := (blk_cell BK331.out 0).trans rfl; have hcz18_1 : w16.cell? ⟨gb331, 1, none⟩ = some (.int .i64 0) := (blk_cell BK331.out 1).trans rfl; have hcz18_2 : w16.cell? ⟨gb331, 2, none⟩ = some (.int .i64 0) := (blk_cell BK331.out 2).trans rfl; have hfz18_0 := blk_frozen BK331.out 0; have hfz18_1 := blk_frozen BK331.out 1; have hfz18_2 := blk_frozen BK331.out 2))
    go_ret2
    exact ⟨by first | rfl | (simp [errW_none, errW_some] <;> rfl) | (simp [*, errW_none, errW_some] <;> rfl), by repeat (first | (with_reducible first | exact HB.out | apply below_alloc | apply pw_below_drewN | apply below_drew1 | refine below_set ?_ GE326.out | refine below_set ?_ GE331.out) | exact HB.out)⟩


end Go.Proofs.YtlhjblbmhlelbabDoor.P
