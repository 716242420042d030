-- Written by the program wip/myprint.py of this session, over the kit's print of the translation. Lean checks it.
import Derived.Test.YtlhjblbmhlelbabDoorPx0
import Derived.Test.YtlhjblbmhlelbabDoorPx1
import Derived.Test.YtlhjblbmhlelbabDoorPx4
namespace Go.Proofs.YtlhjblbmhlelbabDoor.P
open Go.RowKit Go.Proofs.YtlhjblbmhlelbabDoorW.PrintWords Go.Proofs.YtlhjblbmhlelbabDoorW.PrintLast Go.Proofs.YtlhjblbmhlelbabDoorW.PrintMore
attribute [local go_sem] max2_int min2_int max_two min_two max_three min_three max_four min_four   -- for this text's walks alone
set_option linter.unusedVariables false
set_option linter.unusedSimpArgs false

attribute [local go_sem high] eqA32
/-! ### pq_stampOf: function 18 -/
def pq_stampOf.f (k : Nat) (a0_0 : Int) (a0_1 : Int) (a0_2 : Int) : Option (Int × Int × Int × Int × Int × Int × Int × Int) := (zztime_Time_Zone.f a0_0 a0_1 a0_2).bind fun bt159 => ((zztime_Time_Year.f k a0_0 a0_1 a0_2).bind fun t161 => ((zztime_Time_Month.f k a0_0 a0_1 a0_2).bind fun t162 => ((zztime_Time_Day.f k a0_0 a0_1 a0_2).bind fun t163 => ((zztime_Time_Hour.f k a0_0 a0_1 a0_2).bind fun t164 => ((zztime_Time_Minute.f k a0_0 a0_1 a0_2).bind fun t165 => ((zztime_Time_Second.f k a0_0 a0_1 a0_2).bind fun t166 => ((zztime_Time_Nanosecond.f a0_0 a0_1 a0_2).bind fun t167 => (some (t161, t162, t163, t164, t165, t166, t167, bt159.2)))))))))
theorem pq_stampOf.mono : ∀ a0 a1 a2 k, LeO (pq_stampOf.f k a0 a1 a2) (pq_stampOf.f (k + 1) a0 a1 a2) := by
  intro a0 a1 a2 k
  unfold pq_stampOf.f
  repeat' first
      | (with_reducible exact zztime_Time_Day.mono _ _ _ _)
      | (with_reducible exact zztime_Time_Hour.mono _ _ _ _)
      | (with_reducible exact zztime_Time_Minute.mono _ _ _ _)
      | (with_reducible exact zztime_Time_Month.mono _ _ _ _)
      | (with_reducible exact zztime_Time_Second.mono _ _ _ _)
      | (with_reducible exact zztime_Time_Year.mono _ _ _ _)
      | (with_reducible exact LeO.refl _)
      | (with_reducible exact LeO.none _)
      | (with_reducible refine LeO.ite ?_ ?_)
      | (with_reducible refine LeO.bind ?_ (fun _ => ?_))
      | exact zztime_Time_Day.mono _ _ _ _
      | exact zztime_Time_Hour.mono _ _ _ _
      | exact zztime_Time_Minute.mono _ _ _ _
      | exact zztime_Time_Month.mono _ _ _ _
      | exact zztime_Time_Second.mono _ _ _ _
      | exact zztime_Time_Year.mono _ _ _ _
      | exact LeO.none _
      | refine LeO.ite ?_ ?_
      | refine LeO.bind ?_ (fun _ => ?_)
def pq_stampOf.T2 : Bool × List (List Nat × List Nat) := (true, [([], []), ([0], [0]), ([], []), ([2, 1], [2]), ([], []), ([4, 3], [4]), ([], []), ([6, 5], [6]), ([], []), ([8, 7], [8]), ([], []), ([10, 9], [10]), ([], []), ([12, 11], [12]), ([], []), ([1, 3, 5, 7, 9, 11, 13, 14], [1, 3, 5, 7, 9, 11, 13, 14]), ([15, 13, 0, 1, 2, 3, 4, 5, 6, 7, 8, 9, 10, 11, 12, 13, 14, 15], [15])])
def pq_stampOf.B2 : List Nat := [0, 1, 0, 7, 0, 31, 0, 127, 0, 511, 0, 2047, 0, 8191, 0, 32767, 65535]
theorem pq_stampOf.tab2 : rtab .any (opsOf Tryd.f18 2) = pq_stampOf.T2 := by kernel_rfl
theorem pq_stampOf.bits2 : waitsOk pq_stampOf.T2.2 pq_stampOf.B2 = true := by kernel_rfl
set_option maxHeartbeats 8000000 in
set_option maxRecDepth 100000 in
theorem pq_stampOf.calls (k : Nat) (a0_0 : Int) (a0_1 : Int) (a0_2 : Int) (r1 : Int) (r2 : Int) (r3 : Int) (r4 : Int) (r5 : Int) (r6 : Int) (r7 : Int) (r8 : Int) (w : World) (h : pq_stampOf.f k a0_0 a0_1 a0_2 = some (r1, r2, r3, r4, r5, r6, r7, r8)) :
    Calls Tryd.prog 18 #[.agg #[.int .i64 a0_0, .int .i64 a0_1, .int .i64 a0_2]] w fun e w' => e = .returned (.agg #[.int .i64 r1, .int .i64 r2, .int .i64 r3, .int .i64 r4, .int .i64 r5, .int .i64 r6, .int .i64 r7, .int .i64 r8]) ∧ Below w.heap.size w w' := by
  have hu36 := Tryd.underlying36
  have hu32 := Tryd.underlying32
  have HB := Aside0.mk (Below.refl w.heap.size w)
  have H : ((zztime_Time_Zone.f a0_0 a0_1 a0_2).bind fun bt159 => ((zztime_Time_Year.f k a0_0 a0_1 a0_2).bind fun t161 => ((zztime_Time_Month.f k a0_0 a0_1 a0_2).bind fun t162 => ((zztime_Time_Day.f k a0_0 a0_1 a0_2).bind fun t163 => ((zztime_Time_Hour.f k a0_0 a0_1 a0_2).bind fun t164 => ((zztime_Time_Minute.f k a0_0 a0_1 a0_2).bind fun t165 => ((zztime_Time_Second.f k a0_0 a0_1 a0_2).bind fun t166 => ((zztime_Time_Nanosecond.f a0_0 a0_1 a0_2).bind fun t167 => (some (t161, t162, t163, t164, t165, t166, t167, bt159.2)))))))))) = some (r1, r2, r3, r4, r5, r6, r7, r8) := h
  clear h
  replace H := Option.bind_eq_some_iff.mp H
  obtain ⟨⟨t159, t160⟩, A20, H⟩ := H
  replace H : ((zztime_Time_Year.f k a0_0 a0_1 a0_2).bind fun t161 => ((zztime_Time_Month.f k a0_0 a0_1 a0_2).bind fun t162 => ((zztime_Time_Day.f k a0_0 a0_1 a0_2).bind fun t163 => ((zztime_Time_Hour.f k a0_0 a0_1 a0_2).bind fun t164 => ((zztime_Time_Minute.f k a0_0 a0_1 a0_2).bind fun t165 => ((zztime_Time_Second.f k a0_0 a0_1 a0_2).bind fun t166 => ((zztime_Time_Nanosecond.f a0_0 a0_1 a0_2).bind fun t167 => (some (t161, t162, t163, t164, t165, t166, t167, t160))))))))) = some (r1, r2, r3, r4, r5, r6, r7, r8) := H
  have A2 := Aside0.mk A20
  clear A20
  replace H := Option.bind_eq_some_iff.mp H
  obtain ⟨t161, A30, H⟩ := H
  replace H : ((zztime_Time_Month.f k a0_0 a0_1 a0_2).bind fun t162 => ((zztime_Time_Day.f k a0_0 a0_1 a0_2).bind fun t163 => ((zztime_Time_Hour.f k a0_0 a0_1 a0_2).bind fun t164 => ((zztime_Time_Minute.f k a0_0 a0_1 a0_2).bind fun t165 => ((zztime_Time_Second.f k a0_0 a0_1 a0_2).bind fun t166 => ((zztime_Time_Nanosecond.f a0_0 a0_1 a0_2).bind fun t167 => (some (t161, t162, t163, t164, t165, t166, t167, t160)))))))) = some (r1, r2, r3, r4, r5, r6, r7, r8) := H
  have A3 := Aside0.mk A30
  clear A30
  replace H := Option.bind_eq_some_iff.mp H
  obtain ⟨t162, A40, H⟩ := H
  replace H : ((zztime_Time_Day.f k a0_0 a0_1 a0_2).bind fun t163 => ((zztime_Time_Hour.f k a0_0 a0_1 a0_2).bind fun t164 => ((zztime_Time_Minute.f k a0_0 a0_1 a0_2).bind fun t165 => ((zztime_Time_Second.f k a0_0 a0_1 a0_2).bind fun t166 => ((zztime_Time_Nanosecond.f a0_0 a0_1 a0_2).bind fun t167 => (some (t161, t162, t163, t164, t165, t166, t167, t160))))))) = some (r1, r2, r3, r4, r5, r6, r7, r8) := H
  have A4 := Aside0.mk A40
  clear A40
  replace H := Option.bind_eq_some_iff.mp H
  obtain ⟨t163, A50, H⟩ := H
  replace H : ((zztime_Time_Hour.f k a0_0 a0_1 a0_2).bind fun t164 => ((zztime_Time_Minute.f k a0_0 a0_1 a0_2).bind fun t165 => ((zztime_Time_Second.f k a0_0 a0_1 a0_2).bind fun t166 => ((zztime_Time_Nanosecond.f a0_0 a0_1 a0_2).bind fun t167 => (some (t161, t162, t163, t164, t165, t166, t167, t160)))))) = some (r1, r2, r3, r4, r5, r6, r7, r8) := H
  have A5 := Aside0.mk A50
  clear A50
  replace H := Option.bind_eq_some_iff.mp H
  obtain ⟨t164, A60, H⟩ := H
  replace H : ((zztime_Time_Minute.f k a0_0 a0_1 a0_2).bind fun t165 => ((zztime_Time_Second.f k a0_0 a0_1 a0_2).bind fun t166 => ((zztime_Time_Nanosecond.f a0_0 a0_1 a0_2).bind fun t167 => (some (t161, t162, t163, t164, t165, t166, t167, t160))))) = some (r1, r2, r3, r4, r5, r6, r7, r8) := H
  have A6 := Aside0.mk A60
  clear A60
  replace H := Option.bind_eq_some_iff.mp H
  obtain ⟨t165, A70, H⟩ := H
  replace H : ((zztime_Time_Second.f k a0_0 a0_1 a0_2).bind fun t166 => ((zztime_Time_Nanosecond.f a0_0 a0_1 a0_2).bind fun t167 => (some (t161, t162, t163, t164, t165, t166, t167, t160)))) = some (r1, r2, r3, r4, r5, r6, r7, r8) := H
  have A7 := Aside0.mk A70
  clear A70
  replace H := Option.bind_eq_some_iff.mp H
  obtain ⟨t166, A80, H⟩ := H
  replace H : ((zztime_Time_Nanosecond.f a0_0 a0_1 a0_2).bind fun t167 => (some (t161, t162, t163, t164, t165, t166, t167, t160))) = some (r1, r2, r3, r4, r5, r6, r7, r8) := H
  have A8 := Aside0.mk A80
  clear A80
  replace H := Option.bind_eq_some_iff.mp H
  obtain ⟨t167, A90, H⟩ := H
  replace H : (some (t161, t162, t163, t164, t165, t166, t167, t160)) = some (r1, r2, r3, r4, r5, r6, r7, r8) := H
  have A9 := Aside0.mk A90
  clear A90
  simp only [Option.some.injEq, Prod.mk.injEq] at H
  obtain ⟨rfl, rfl, rfl, rfl, rfl, rfl, rfl, rfl⟩ := H
  go_enter Tryd.func18, Tryd.ntmps18
  try go_wp2_with (first | ((with_reducible refine gate_dst (N := 1) rfl ?_); refine box_event ?hg (N := 1) ?hd (cs := #[.int .i64 a0_0, .int .i64 a0_1, .int .i64 a0_2]) (t := 36) ?hr ?_; (case hd => rfl); (case hg => rfl); (case hr => first | (go_simp; done) | (go_simp; rfl) | (go_simp; simp [IntKind.wrap_u8]; done)); intro gb157 hg w10 hbox hb; have n0_ := Aside0.mk (below_step (by repeat (first | (with_reducible first | exact HB.out | apply below_alloc | apply pw_below_drewN | apply below_drew1) | exact HB.out)) hb); have n1_ := Aside0.mk (hbox); have n2_ := Aside0.mk ((by rw [hg]; exact (below_size (by repeat (first | (with_reducible first | exact HB.out | apply below_alloc | apply pw_below_drewN | apply below_drew1) | exact HB.out))) : w.heap.size ≤ gb157)); have n3_ := Aside0.mk ((by rw [hg]; exact (below_size (by repeat (first | (with_reducible first | exact HB.out | apply below_alloc | apply pw_below_drewN | apply below_drew1) | exact HB.out))) : w.heap.size ≤ gb157)); clear HB; have HB := n0_; have BK157 := n1_; have GW157 := n2_; have GE157 := n3_; clear n0_ n1_ n2_ n3_; clear hb hbox hg) | ((with_reducible refine gate_dst (N := 2) rfl ?_); refine box_event ?hg (N := 2) ?hd (cs := #[.int .i64 0, .int .i64 0, .int .i64 0, .int .i64 0, .int .i64 0, .int .i64 0, .int .i64 0, .int .i64 0]) (t := 32) ?hr ?_; (case hd => rfl); (case hg => rfl); (case hr => first | (go_simp; done) | (go_simp; rfl) | (go_simp; simp [IntKind.wrap_u8]; done)); intro gb158 hg w11 hbox hb; have n0_ := Aside0.mk (blk_below (g := gb157) (o := .cells #[.int .i64 a0_0, .int .i64 a0_1, .int .i64 a0_2] 36 (0, 0)) (by (with_reducible repeat (first | refine blk_drewN ?_ _ | refine blk_drew ?_ | refine blk_alloc ?_ _)); exact BK157.out) hb); have n1_ := Aside0.mk (below_step (by repeat (first | (with_reducible first | exact HB.out | apply below_alloc | apply pw_below_drewN | apply below_drew1 | refine below_set ?_ GE157.out) | exact HB.out)) hb); have n2_ := Aside0.mk (hbox); have n3_ := Aside0.mk ((by rw [hg]; exact (below_size (by repeat (first | (with_reducible first | exact HB.out | apply below_alloc | apply pw_below_drewN | apply below_drew1 | refine below_set ?_ GE157.out) | exact HB.out))) : w.heap.size ≤ gb158)); have n4_ := Aside0.mk ((by rw [hg]; exact (below_size (by repeat (first | (with_reducible first | exact HB.out | apply below_alloc | apply pw_below_drewN | apply below_drew1 | refine below_set ?_ GE157.out) | exact HB.out))) : w.heap.size ≤ gb158)); have n5_ := Aside0.mk ((by rw [hg]; exact Nat.ne_of_lt (blk_lt (g := gb157) (o := .cells #[.int .i64 a0_0, .int .i64 a0_1, .int .i64 a0_2] 36 (0, 0)) (by (with_reducible repeat (first | refine blk_drewN ?_ _ | refine blk_drew ?_ | refine blk_alloc ?_ _)); exact BK157.out)) : gb157 ≠ gb158)); have n6_ := Aside0.mk ((by rw [hg]; exact Nat.ne_of_gt (blk_lt (g := gb157) (o := .cells #[.int .i64 a0_0, .int .i64 a0_1, .int .i64 a0_2] 36 (0, 0)) (by (with_reducible repeat (first | refine blk_drewN ?_ _ | refine blk_drew ?_ | refine blk_alloc ?_ _)); exact BK157.out)) : gb158 ≠ gb157)); clear BK157; clear HB; have BK157 := n0_; have HB := n1_; have BK158 := n2_; have GW158 := n3_; have GE158 := n4_; have NB157_158 := n5_; have NB158_157 := n6_; clear n0_ n1_ n2_ n3_ n4_ n5_ n6_; clear hb hbox hg; have hnb12 := NB157_158.out; have hnc12 := NB158_157.out; have hcz13_0 : w11.cell? ⟨gb157, 0, none⟩ = some (.int .i64 a0_0) := (blk_cell BK157.out 0).trans rfl; have hcz13_1 : w11.cell? ⟨gb157, 1, none⟩ = some (.int .i64 a0_1) := (blk_cell BK157.out 1).trans rfl; have hcz13_2 : w11.cell? ⟨gb157, 2, none⟩ = some (.int .i64 a0_2) := (blk_cell BK157.out 2).trans rfl; have hfz13_0 := blk_frozen BK157.out 0; have hfz13_1 := blk_frozen BK157.out 1; have hfz13_2 := blk_frozen BK157.out 2) | ((with_reducible refine gate_callee (f := 22) rfl ?_); refine goesL_ (some 7) rfl rfl Tryd.func22 (by kernel_rfl) rfl #[.agg #[.int .i64 a0_0, .int .i64 a0_1, .int .i64 a0_2]] rfl (by (try simp only [List.map_toArray, List.map_cons, List.map_nil]); first | done | rfl | (simp only [List.length_drop, List.length_take]; rfl)) ?_; (with_reducible refine (zztime_Time_Zone.calls a0_0 a0_1 a0_2 t159 t160 _ A2.out).mono ?_); rintro e w14 ⟨rfl, hb⟩; refine ⟨_, rfl, ?_⟩; have n0_ := Aside0.mk (blk_below (g := gb157) (o := .cells #[.int .i64 a0_0, .int .i64 a0_1, .int .i64 a0_2] 36 (0, 0)) (by (with_reducible repeat (first | refine blk_drewN ?_ _ | refine blk_drew ?_ | refine blk_alloc ?_ _)); exact BK157.out) hb); have n1_ := Aside0.mk (blk_below (g := gb158) (o := .cells #[.int .i64 0, .int .i64 0, .int .i64 0, .int .i64 0, .int .i64 0, .int .i64 0, .int .i64 0, .int .i64 0] 32 (0, 0)) (by (with_reducible repeat (first | refine blk_drewN ?_ _ | refine blk_drew ?_ | refine blk_alloc ?_ _)); exact BK158.out) hb); have n2_ := Aside0.mk (below_step (by repeat (first | (with_reducible first | exact HB.out | apply below_alloc | apply pw_below_drewN | apply below_drew1 | refine below_set ?_ GE157.out | refine below_set ?_ GE158.out) | exact HB.out)) hb); clear BK157; clear BK158; clear HB; have BK157 := n0_; have BK158 := n1_; have HB := n2_; clear n0_ n1_ n2_; (try clear hb); (try clear hb2); (try clear hk); (try clear hi)))
  have n0_ := Aside0.mk (blk_drew BK157.out)
  have n1_ := Aside0.mk (blk_drew BK158.out)
  have n2_ := Aside0.mk (below_drew1 HB.out)
  clear BK157
  clear BK158
  clear HB
  have BK157 := n0_
  have BK158 := n1_
  have HB := n2_
  clear n0_ n1_ n2_
  refine start_ (n := 17) (S := fun w' => w'.cell? ⟨gb157, 0, none⟩ = some (.int .i64 a0_0) ∧ w'.cell? ⟨gb157, 1, none⟩ = some (.int .i64 a0_1) ∧ w'.cell? ⟨gb157, 2, none⟩ = some (.int .i64 a0_2)) (ds := []) #[false, false, false, false, false, false, false, false, false, false, false, false, false, false, false, false, false] (by kernel_rfl) rfl rfl ⟨(blk_cell BK157.out 0).trans rfl, (blk_cell BK157.out 1).trans rfl, (blk_cell BK157.out 2).trans rfl⟩ (fun hHeld => ?_); refine with_tabW pq_stampOf.tab2 pq_stampOf.bits2 (fun HT_ HW_ => ?_)
  generalize w14.drew = w15 at BK157 BK158 HB hHeld ⊢
  refine pure_ (i := 14) (N := some 24) (v := ?_) (a' := ?_) #[false, false, false, false, false, false, false, false, false, false, false, false, false, false, true, false, false] rfl rfl (any_of HT_.out (by kernel_rfl)) (fun _ _ _ h => h) (Or.inl ⟨by rfl, ?_⟩) ?_ ?_
  rotate_left
  · intro w'
    go_simp
    with_reducible rfl
  rotate_left
  · simp only [Act.put, List.setIfInBounds_toArray, List.set_cons_zero, List.set_cons_succ, i64_w, i32_w]
    rfl
  refine take_ (i := 0) (N := some 10) (v := ?_) (a' := ?_) #[true, false, false, false, false, false, false, false, false, false, false, false, false, false, true, false, false] rfl rfl (take_ofW HT_.out HW_.out (by kernel_rfl)) (fun _ _ _ h => h) (Or.inl ⟨by rfl, ?_⟩) hHeld ?_ ?_
  rotate_left
  · rintro w' ⟨s0, s1, s2⟩
    go_simp
    with_reducible rfl
  rotate_left
  · simp only [Act.put, List.setIfInBounds_toArray, List.set_cons_zero, List.set_cons_succ, i64_w, i32_w]
    rfl
  refine take_ (i := 2) (N := some 12) (v := ?_) (a' := ?_) #[true, false, true, false, false, false, false, false, false, false, false, false, false, false, true, false, false] rfl rfl (take_ofW HT_.out HW_.out (by kernel_rfl)) (fun _ _ _ h => h) (Or.inl ⟨by rfl, ?_⟩) hHeld ?_ ?_
  rotate_left
  · rintro w' ⟨s0, s1, s2⟩
    go_simp
    with_reducible rfl
  rotate_left
  · simp only [Act.put, List.setIfInBounds_toArray, List.set_cons_zero, List.set_cons_succ, i64_w, i32_w]
    rfl
  refine take_ (i := 4) (N := some 14) (v := ?_) (a' := ?_) #[true, false, true, false, true, false, false, false, false, false, false, false, false, false, true, false, false] rfl rfl (take_ofW HT_.out HW_.out (by kernel_rfl)) (fun _ _ _ h => h) (Or.inl ⟨by rfl, ?_⟩) hHeld ?_ ?_
  rotate_left
  · rintro w' ⟨s0, s1, s2⟩
    go_simp
    with_reducible rfl
  rotate_left
  · simp only [Act.put, List.setIfInBounds_toArray, List.set_cons_zero, List.set_cons_succ, i64_w, i32_w]
    rfl
  refine take_ (i := 6) (N := some 16) (v := ?_) (a' := ?_) #[true, false, true, false, true, false, true, false, false, false, false, false, false, false, true, false, false] rfl rfl (take_ofW HT_.out HW_.out (by kernel_rfl)) (fun _ _ _ h => h) (Or.inl ⟨by rfl, ?_⟩) hHeld ?_ ?_
  rotate_left
  · rintro w' ⟨s0, s1, s2⟩
    go_simp
    with_reducible rfl
  rotate_left
  · simp only [Act.put, List.setIfInBounds_toArray, List.set_cons_zero, List.set_cons_succ, i64_w, i32_w]
    rfl
  refine take_ (i := 8) (N := some 18) (v := ?_) (a' := ?_) #[true, false, true, false, true, false, true, false, true, false, false, false, false, false, true, false, false] rfl rfl (take_ofW HT_.out HW_.out (by kernel_rfl)) (fun _ _ _ h => h) (Or.inl ⟨by rfl, ?_⟩) hHeld ?_ ?_
  rotate_left
  · rintro w' ⟨s0, s1, s2⟩
    go_simp
    with_reducible rfl
  rotate_left
  · simp only [Act.put, List.setIfInBounds_toArray, List.set_cons_zero, List.set_cons_succ, i64_w, i32_w]
    rfl
  refine take_ (i := 10) (N := some 20) (v := ?_) (a' := ?_) #[true, false, true, false, true, false, true, false, true, false, true, false, false, false, true, false, false] rfl rfl (take_ofW HT_.out HW_.out (by kernel_rfl)) (fun _ _ _ h => h) (Or.inl ⟨by rfl, ?_⟩) hHeld ?_ ?_
  rotate_left
  · rintro w' ⟨s0, s1, s2⟩
    go_simp
    with_reducible rfl
  rotate_left
  · simp only [Act.put, List.setIfInBounds_toArray, List.set_cons_zero, List.set_cons_succ, i64_w, i32_w]
    rfl
  refine take_ (i := 12) (N := some 22) (v := ?_) (a' := ?_) #[true, false, true, false, true, false, true, false, true, false, true, false, true, false, true, false, false] rfl rfl (take_ofW HT_.out HW_.out (by kernel_rfl)) (fun _ _ _ h => h) (Or.inl ⟨by rfl, ?_⟩) hHeld ?_ ?_
  rotate_left
  · rintro w' ⟨s0, s1, s2⟩
    go_simp
    with_reducible rfl
  rotate_left
  · simp only [Act.put, List.setIfInBounds_toArray, List.set_cons_zero, List.set_cons_succ, i64_w, i32_w]
    rfl
  refine one_ (i := 1) (N := some 11) #[true, true, true, false, true, false, true, false, true, false, true, false, true, false, true, false, false] rfl rfl (one_of HT_.out (by kernel_rfl)) (by decide) (fun K hK => ?_)
  refine goes_ Tryd.func23 (by kernel_rfl) rfl #[.agg #[.int .i64 a0_0, .int .i64 a0_1, .int .i64 a0_2]] (by rfl) rfl rfl (by (try simp only [List.map_toArray, List.map_cons, List.map_nil]); first | done | rfl | (simp only [List.length_drop, List.length_take]; rfl)) ?_
  with_reducible refine (zztime_Time_Year.calls k a0_0 a0_1 a0_2 t161 _ A3.out).mono ?_
  rintro e w16 ⟨rfl, hb⟩
  refine ⟨_, rfl, ?_⟩
  have n0_ := Aside0.mk (blk_below (g := gb157) (o := .cells #[.int .i64 a0_0, .int .i64 a0_1, .int .i64 a0_2] 36 (0, 0)) (by (with_reducible repeat (first | refine blk_drewN ?_ _ | refine blk_drew ?_ | refine blk_alloc ?_ _)); exact BK157.out) hb)
  have n1_ := Aside0.mk (blk_below (g := gb158) (o := .cells #[.int .i64 0, .int .i64 0, .int .i64 0, .int .i64 0, .int .i64 0, .int .i64 0, .int .i64 0, .int .i64 0] 32 (0, 0)) (by (with_reducible repeat (first | refine blk_drewN ?_ _ | refine blk_drew ?_ | refine blk_alloc ?_ _)); exact BK158.out) hb)
  have n2_ := Aside0.mk (below_step (by repeat (first | (with_reducible first | exact HB.out | apply below_alloc | apply pw_below_drewN | apply below_drew1 | refine below_set ?_ GE157.out | refine below_set ?_ GE158.out) | exact HB.out)) hb)
  clear BK157
  clear BK158
  clear HB
  have BK157 := n0_
  have BK158 := n1_
  have HB := n2_
  clear n0_ n1_ n2_
  (try clear hb)
  (try clear hb2)
  (try clear hk)
  (try clear hi)
  refine hK.out _ _ ⟨(blk_cell BK157.out 0).trans rfl, (blk_cell BK157.out 1).trans rfl, (blk_cell BK157.out 2).trans rfl⟩ (fun hHeld => ?_)
  clear hK K
  refine norm_ (a' := ?_) ?_ ?_
  rotate_left
  · show Act.put _ (some 11) _ = _
    simp only [Act.put, List.setIfInBounds_toArray, List.set_cons_zero, List.set_cons_succ, i64_w, i32_w]
    rfl
  refine one_ (i := 3) (N := some 13) #[true, true, true, true, true, false, true, false, true, false, true, false, true, false, true, false, false] rfl rfl (one_of HT_.out (by kernel_rfl)) (by decide) (fun K hK => ?_)
  refine goes_ Tryd.func24 (by kernel_rfl) rfl #[.agg #[.int .i64 a0_0, .int .i64 a0_1, .int .i64 a0_2]] (by rfl) rfl rfl (by (try simp only [List.map_toArray, List.map_cons, List.map_nil]); first | done | rfl | (simp only [List.length_drop, List.length_take]; rfl)) ?_
  with_reducible refine (zztime_Time_Month.calls k a0_0 a0_1 a0_2 t162 _ A4.out).mono ?_
  rintro e w17 ⟨rfl, hb⟩
  refine ⟨_, rfl, ?_⟩
  have n0_ := Aside0.mk (blk_below (g := gb157) (o := .cells #[.int .i64 a0_0, .int .i64 a0_1, .int .i64 a0_2] 36 (0, 0)) (by (with_reducible repeat (first | refine blk_drewN ?_ _ | refine blk_drew ?_ | refine blk_alloc ?_ _)); exact BK157.out) hb)
  have n1_ := Aside0.mk (blk_below (g := gb158) (o := .cells #[.int .i64 0, .int .i64 0, .int .i64 0, .int .i64 0, .int .i64 0, .int .i64 0, .int .i64 0, .int .i64 0] 32 (0, 0)) (by (with_reducible repeat (first | refine blk_drewN ?_ _ | refine blk_drew ?_ | refine blk_alloc ?_ _)); exact BK158.out) hb)
  have n2_ := Aside0.mk (below_step (by repeat (first | (with_reducible first | exact HB.out | apply below_alloc | apply pw_below_drewN | apply below_drew1 | refine below_set ?_ GE157.out | refine below_set ?_ GE158.out) | exact HB.out)) hb)
  clear BK157
  clear BK158
  clear HB
  have BK157 := n0_
  have BK158 := n1_
  have HB := n2_
  clear n0_ n1_ n2_
  (try clear hb)
  (try clear hb2)
  (try clear hk)
  (try clear hi)
  refine hK.out _ _ ⟨(blk_cell BK157.out 0).trans rfl, (blk_cell BK157.out 1).trans rfl, (blk_cell BK157.out 2).trans rfl⟩ (fun hHeld => ?_)
  clear hK K
  refine norm_ (a' := ?_) ?_ ?_
  rotate_left
  · show Act.put _ (some 13) _ = _
    simp only [Act.put, List.setIfInBounds_toArray, List.set_cons_zero, List.set_cons_succ, i64_w, i32_w]
    rfl
  refine one_ (i := 5) (N := some 15) #[true, true, true, true, true, true, true, false, true, false, true, false, true, false, true, false, false] rfl rfl (one_of HT_.out (by kernel_rfl)) (by decide) (fun K hK => ?_)
  refine goes_ Tryd.func25 (by kernel_rfl) rfl #[.agg #[.int .i64 a0_0, .int .i64 a0_1, .int .i64 a0_2]] (by rfl) rfl rfl (by (try simp only [List.map_toArray, List.map_cons, List.map_nil]); first | done | rfl | (simp only [List.length_drop, List.length_take]; rfl)) ?_
  with_reducible refine (zztime_Time_Day.calls k a0_0 a0_1 a0_2 t163 _ A5.out).mono ?_
  rintro e w18 ⟨rfl, hb⟩
  refine ⟨_, rfl, ?_⟩
  have n0_ := Aside0.mk (blk_below (g := gb157) (o := .cells #[.int .i64 a0_0, .int .i64 a0_1, .int .i64 a0_2] 36 (0, 0)) (by (with_reducible repeat (first | refine blk_drewN ?_ _ | refine blk_drew ?_ | refine blk_alloc ?_ _)); exact BK157.out) hb)
  have n1_ := Aside0.mk (blk_below (g := gb158) (o := .cells #[.int .i64 0, .int .i64 0, .int .i64 0, .int .i64 0, .int .i64 0, .int .i64 0, .int .i64 0, .int .i64 0] 32 (0, 0)) (by (with_reducible repeat (first | refine blk_drewN ?_ _ | refine blk_drew ?_ | refine blk_alloc ?_ _)); exact BK158.out) hb)
  have n2_ := Aside0.mk (below_step (by repeat (first | (with_reducible first | exact HB.out | apply below_alloc | apply pw_below_drewN | apply below_drew1 | refine below_set ?_ GE157.out | refine below_set ?_ GE158.out) | exact HB.out)) hb)
  clear BK157
  clear BK158
  clear HB
  have BK157 := n0_
  have BK158 := n1_
  have HB := n2_
  clear n0_ n1_ n2_
  (try clear hb)
  (try clear hb2)
  (try clear hk)
  (try clear hi)
  refine hK.out _ _ ⟨(blk_cell BK157.out 0).trans rfl, (blk_cell BK157.out 1).trans rfl, (blk_cell BK157.out 2).trans rfl⟩ (fun hHeld => ?_)
  clear hK K
  refine norm_ (a' := ?_) ?_ ?_
  rotate_left
  · show Act.put _ (some 15) _ = _
    simp only [Act.put, List.setIfInBounds_toArray, List.set_cons_zero, List.set_cons_succ, i64_w, i32_w]
    rfl
  refine one_ (i := 7) (N := some 17) #[true, true, true, true, true, true, true, true, true, false, true, false, true, false, true, false, false] rfl rfl (one_of HT_.out (by kernel_rfl)) (by decide) (fun K hK => ?_)
  refine goes_ Tryd.func26 (by kernel_rfl) rfl #[.agg #[.int .i64 a0_0, .int .i64 a0_1, .int .i64 a0_2]] (by rfl) rfl rfl (by (try simp only [List.map_toArray, List.map_cons, List.map_nil]); first | done | rfl | (simp only [List.length_drop, List.length_take]; rfl)) ?_
  with_reducible refine (zztime_Time_Hour.calls k a0_0 a0_1 a0_2 t164 _ A6.out).mono ?_
  rintro e w19 ⟨rfl, hb⟩
  refine ⟨_, rfl, ?_⟩
  have n0_ := Aside0.mk (blk_below (g := gb157) (o := .cells #[.int .i64 a0_0, .int .i64 a0_1, .int .i64 a0_2] 36 (0, 0)) (by (with_reducible repeat (first | refine blk_drewN ?_ _ | refine blk_drew ?_ | refine blk_alloc ?_ _)); exact BK157.out) hb)
  have n1_ := Aside0.mk (blk_below (g := gb158) (o := .cells #[.int .i64 0, .int .i64 0, .int .i64 0, .int .i64 0, .int .i64 0, .int .i64 0, .int .i64 0, .int .i64 0] 32 (0, 0)) (by (with_reducible repeat (first | refine blk_drewN ?_ _ | refine blk_drew ?_ | refine blk_alloc ?_ _)); exact BK158.out) hb)
  have n2_ := Aside0.mk (below_step (by repeat (first | (with_reducible first | exact HB.out | apply below_alloc | apply pw_below_drewN | apply below_drew1 | refine below_set ?_ GE157.out | refine below_set ?_ GE158.out) | exact HB.out)) hb)
  clear BK157
  clear BK158
  clear HB
  have BK157 := n0_
  have BK158 := n1_
  have HB := n2_
  clear n0_ n1_ n2_
  (try clear hb)
  (try clear hb2)
  (try clear hk)
  (try clear hi)
  refine hK.out _ _ ⟨(blk_cell BK157.out 0).trans rfl, (blk_cell BK157.out 1).trans rfl, (blk_cell BK157.out 2).trans rfl⟩ (fun hHeld => ?_)
  clear hK K
  refine norm_ (a' := ?_) ?_ ?_
  rotate_left
  · show Act.put _ (some 17) _ = _
    simp only [Act.put, List.setIfInBounds_toArray, List.set_cons_zero, List.set_cons_succ, i64_w, i32_w]
    rfl
  refine one_ (i := 9) (N := some 19) #[true, true, true, true, true, true, true, true, true, true, true, false, true, false, true, false, false] rfl rfl (one_of HT_.out (by kernel_rfl)) (by decide) (fun K hK => ?_)
  refine goes_ Tryd.func27 (by kernel_rfl) rfl #[.agg #[.int .i64 a0_0, .int .i64 a0_1, .int .i64 a0_2]] (by rfl) rfl rfl (by (try simp only [List.map_toArray, List.map_cons, List.map_nil]); first | done | rfl | (simp only [List.length_drop, List.length_take]; rfl)) ?_
  with_reducible refine (zztime_Time_Minute.calls k a0_0 a0_1 a0_2 t165 _ A7.out).mono ?_
  rintro e w20 ⟨rfl, hb⟩
  refine ⟨_, rfl, ?_⟩
  have n0_ := Aside0.mk (blk_below (g := gb157) (o := .cells #[.int .i64 a0_0, .int .i64 a0_1, .int .i64 a0_2] 36 (0, 0)) (by (with_reducible repeat (first | refine blk_drewN ?_ _ | refine blk_drew ?_ | refine blk_alloc ?_ _)); exact BK157.out) hb)
  have n1_ := Aside0.mk (blk_below (g := gb158) (o := .cells #[.int .i64 0, .int .i64 0, .int .i64 0, .int .i64 0, .int .i64 0, .int .i64 0, .int .i64 0, .int .i64 0] 32 (0, 0)) (by (with_reducible repeat (first | refine blk_drewN ?_ _ | refine blk_drew ?_ | refine blk_alloc ?_ _)); exact BK158.out) hb)
  have n2_ := Aside0.mk (below_step (by repeat (first | (with_reducible first | exact HB.out | apply below_alloc | apply pw_below_drewN | apply below_drew1 | refine below_set ?_ GE157.out | refine below_set ?_ GE158.out) | exact HB.out)) hb)
  clear BK157
  clear BK158
  clear HB
  have BK157 := n0_
  have BK158 := n1_
  have HB := n2_
  clear n0_ n1_ n2_
  (try clear hb)
  (try clear hb2)
  (try clear hk)
  (try clear hi)
  refine hK.out _ _ ⟨(blk_cell BK157.out 0).trans rfl, (blk_cell BK157.out 1).trans rfl, (blk_cell BK157.out 2).trans rfl⟩ (fun hHeld => ?_)
  clear hK K
  refine norm_ (a' := ?_) ?_ ?_
  rotate_left
  · show Act.put _ (some 19) _ = _
    simp only [Act.put, List.setIfInBounds_toArray, List.set_cons_zero, List.set_cons_succ, i64_w, i32_w]
    rfl
  refine one_ (i := 11) (N := some 21) #[true, true, true, true, true, true, true, true, true, true, true, true, true, false, true, false, false] rfl rfl (one_of HT_.out (by kernel_rfl)) (by decide) (fun K hK => ?_)
  refine goes_ Tryd.func28 (by kernel_rfl) rfl #[.agg #[.int .i64 a0_0, .int .i64 a0_1, .int .i64 a0_2]] (by rfl) rfl rfl (by (try simp only [List.map_toArray, List.map_cons, List.map_nil]); first | done | rfl | (simp only [List.length_drop, List.length_take]; rfl)) ?_
  with_reducible refine (zztime_Time_Second.calls k a0_0 a0_1 a0_2 t166 _ A8.out).mono ?_
  rintro e w21 ⟨rfl, hb⟩
  refine ⟨_, rfl, ?_⟩
  have n0_ := Aside0.mk (blk_below (g := gb157) (o := .cells #[.int .i64 a0_0, .int .i64 a0_1, .int .i64 a0_2] 36 (0, 0)) (by (with_reducible repeat (first | refine blk_drewN ?_ _ | refine blk_drew ?_ | refine blk_alloc ?_ _)); exact BK157.out) hb)
  have n1_ := Aside0.mk (blk_below (g := gb158) (o := .cells #[.int .i64 0, .int .i64 0, .int .i64 0, .int .i64 0, .int .i64 0, .int .i64 0, .int .i64 0, .int .i64 0] 32 (0, 0)) (by (with_reducible repeat (first | refine blk_drewN ?_ _ | refine blk_drew ?_ | refine blk_alloc ?_ _)); exact BK158.out) hb)
  have n2_ := Aside0.mk (below_step (by repeat (first | (with_reducible first | exact HB.out | apply below_alloc | apply pw_below_drewN | apply below_drew1 | refine below_set ?_ GE157.out | refine below_set ?_ GE158.out) | exact HB.out)) hb)
  clear BK157
  clear BK158
  clear HB
  have BK157 := n0_
  have BK158 := n1_
  have HB := n2_
  clear n0_ n1_ n2_
  (try clear hb)
  (try clear hb2)
  (try clear hk)
  (try clear hi)
  refine hK.out _ _ ⟨(blk_cell BK157.out 0).trans rfl, (blk_cell BK157.out 1).trans rfl, (blk_cell BK157.out 2).trans rfl⟩ (fun hHeld => ?_)
  clear hK K
  refine norm_ (a' := ?_) ?_ ?_
  rotate_left
  · show Act.put _ (some 21) _ = _
    simp only [Act.put, List.setIfInBounds_toArray, List.set_cons_zero, List.set_cons_succ, i64_w, i32_w]
    rfl
  refine one_ (i := 13) (N := some 23) #[true, true, true, true, true, true, true, true, true, true, true, true, true, true, true, false, false] rfl rfl (one_of HT_.out (by kernel_rfl)) (by decide) (fun K hK => ?_)
  refine goes_ Tryd.func29 (by kernel_rfl) rfl #[.agg #[.int .i64 a0_0, .int .i64 a0_1, .int .i64 a0_2]] (by rfl) rfl rfl (by (try simp only [List.map_toArray, List.map_cons, List.map_nil]); first | done | rfl | (simp only [List.length_drop, List.length_take]; rfl)) ?_
  with_reducible refine (zztime_Time_Nanosecond.calls a0_0 a0_1 a0_2 t167 _ A9.out).mono ?_
  rintro e w22 ⟨rfl, hb⟩
  refine ⟨_, rfl, ?_⟩
  have n0_ := Aside0.mk (blk_below (g := gb157) (o := .cells #[.int .i64 a0_0, .int .i64 a0_1, .int .i64 a0_2] 36 (0, 0)) (by (with_reducible repeat (first | refine blk_drewN ?_ _ | refine blk_drew ?_ | refine blk_alloc ?_ _)); exact BK157.out) hb)
  have n1_ := Aside0.mk (blk_below (g := gb158) (o := .cells #[.int .i64 0, .int .i64 0, .int .i64 0, .int .i64 0, .int .i64 0, .int .i64 0, .int .i64 0, .int .i64 0] 32 (0, 0)) (by (with_reducible repeat (first | refine blk_drewN ?_ _ | refine blk_drew ?_ | refine blk_alloc ?_ _)); exact BK158.out) hb)
  have n2_ := Aside0.mk (below_step (by repeat (first | (with_reducible first | exact HB.out | apply below_alloc | apply pw_below_drewN | apply below_drew1 | refine below_set ?_ GE157.out | refine below_set ?_ GE158.out) | exact HB.out)) hb)
  clear BK157
  clear BK158
  clear HB
  have BK157 := n0_
  have BK158 := n1_
  have HB := n2_
  clear n0_ n1_ n2_
  (try clear hb)
  (try clear hb2)
  (try clear hk)
  (try clear hi)
  refine hK.out _ _ ⟨(blk_cell BK157.out 0).trans rfl, (blk_cell BK157.out 1).trans rfl, (blk_cell BK157.out 2).trans rfl⟩ (fun hHeld => ?_)
  clear hK K
  refine norm_ (a' := ?_) ?_ ?_
  rotate_left
  · show Act.put _ (some 23) _ = _
    simp only [Act.put, List.setIfInBounds_toArray, List.set_cons_zero, List.set_cons_succ, i64_w, i32_w]
    rfl
  refine pure_ (i := 15) (N := some 25) (v := ?_) (a' := ?_) #[true, true, true, true, true, true, true, true, true, true, true, true, true, true, true, true, false] rfl rfl (any_of HT_.out (by kernel_rfl)) (fun _ _ _ h => h) (Or.inl ⟨by rfl, ?_⟩) ?_ ?_
  rotate_left
  · intro w'
    go_simp
    with_reducible rfl
  rotate_left
  · simp only [Act.put, List.setIfInBounds_toArray, List.set_cons_zero, List.set_cons_succ, i64_w, i32_w]
    rfl
  refine one_ (i := 16) (N := none) #[true, true, true, true, true, true, true, true, true, true, true, true, true, true, true, true, true] rfl rfl (one_of HT_.out (by kernel_rfl)) (by decide) (fun K hK => ?_)
  have hs23 : w22.cell? ⟨gb158, 0, none⟩ = some (.int .i64 0) := (blk_cell BK158.out 0).trans rfl
  have hfs23 := blk_frozen BK158.out 0
  have hns23_0 := NB157_158.out
  have hms23_0 := NB158_157.out
  have hs24 : w22.cell? ⟨gb158, 1, none⟩ = some (.int .i64 0) := (blk_cell BK158.out 1).trans rfl
  have hfs24 := blk_frozen BK158.out 1
  have hns24_0 := NB157_158.out
  have hms24_0 := NB158_157.out
  have hs25 : w22.cell? ⟨gb158, 2, none⟩ = some (.int .i64 0) := (blk_cell BK158.out 2).trans rfl
  have hfs25 := blk_frozen BK158.out 2
  have hns25_0 := NB157_158.out
  have hms25_0 := NB158_157.out
  have hs26 : w22.cell? ⟨gb158, 3, none⟩ = some (.int .i64 0) := (blk_cell BK158.out 3).trans rfl
  have hfs26 := blk_frozen BK158.out 3
  have hns26_0 := NB157_158.out
  have hms26_0 := NB158_157.out
  have hs27 : w22.cell? ⟨gb158, 4, none⟩ = some (.int .i64 0) := (blk_cell BK158.out 4).trans rfl
  have hfs27 := blk_frozen BK158.out 4
  have hns27_0 := NB157_158.out
  have hms27_0 := NB158_157.out
  have hs28 : w22.cell? ⟨gb158, 5, none⟩ = some (.int .i64 0) := (blk_cell BK158.out 5).trans rfl
  have hfs28 := blk_frozen BK158.out 5
  have hns28_0 := NB157_158.out
  have hms28_0 := NB158_157.out
  have hs29 : w22.cell? ⟨gb158, 6, none⟩ = some (.int .i64 0) := (blk_cell BK158.out 6).trans rfl
  have hfs29 := blk_frozen BK158.out 6
  have hns29_0 := NB157_158.out
  have hms29_0 := NB158_157.out
  have hs30 : w22.cell? ⟨gb158, 7, none⟩ = some (.int .i64 0) := (blk_cell BK158.out 7).trans rfl
  have hfs30 := blk_frozen BK158.out 7
  have hns30_0 := NB157_158.out
  have hms30_0 := NB158_157.out
  refine skip_ (w1 := ?_) (by rfl) rfl ?_ ?_
  rotate_left
  · go_simp
    rfl
  refine hK.out _ _ ⟨((cell_far (p := ⟨gb158, _, none⟩) NB157_158.out _).trans (((cell_far (p := ⟨gb158, _, none⟩) NB157_158.out _).trans (((cell_far (p := ⟨gb158, _, none⟩) NB157_158.out _).trans (((cell_far (p := ⟨gb158, _, none⟩) NB157_158.out _).trans (((cell_far (p := ⟨gb158, _, none⟩) NB157_158.out _).trans (((cell_far (p := ⟨gb158, _, none⟩) NB157_158.out _).trans (((cell_far (p := ⟨gb158, _, none⟩) NB157_158.out _).trans (((cell_far (p := ⟨gb158, _, none⟩) NB157_158.out _).trans (hHeld.1)))))))))))))))), ((cell_far (p := ⟨gb158, _, none⟩) NB157_158.out _).trans (((cell_far (p := ⟨gb158, _, none⟩) NB157_158.out _).trans (((cell_far (p := ⟨gb158, _, none⟩) NB157_158.out _).trans (((cell_far (p := ⟨gb158, _, none⟩) NB157_158.out _).trans (((cell_far (p := ⟨gb158, _, none⟩) NB157_158.out _).trans (((cell_far (p := ⟨gb158, _, none⟩) NB157_158.out _).trans (((cell_far (p := ⟨gb158, _, none⟩) NB157_158.out _).trans (((cell_far (p := ⟨gb158, _, none⟩) NB157_158.out _).trans (hHeld.2.1)))))))))))))))), ((cell_far (p := ⟨gb158, _, none⟩) NB157_158.out _).trans (((cell_far (p := ⟨gb158, _, none⟩) NB157_158.out _).trans (((cell_far (p := ⟨gb158, _, none⟩) NB157_158.out _).trans (((cell_far (p := ⟨gb158, _, none⟩) NB157_158.out _).trans (((cell_far (p := ⟨gb158, _, none⟩) NB157_158.out _).trans (((cell_far (p := ⟨gb158, _, none⟩) NB157_158.out _).trans (((cell_far (p := ⟨gb158, _, none⟩) NB157_158.out _).trans (((cell_far (p := ⟨gb158, _, none⟩) NB157_158.out _).trans (hHeld.2.2))))))))))))))))⟩ (fun hHeld => ?_)
  clear hK K
  refine done_ (done_of HT_.out (by kernel_rfl)) ?_
  try go_wp2
  refine bodyPost_ret (results_cell_row rfl _ _ gb158 32 #[.int .i64 t161, .int .i64 t162, .int .i64 t163, .int .i64 t164, .int .i64 t165, .int .i64 t166, .int .i64 t167, .int .i64 t160] (0, 0) _ rfl (by (with_reducible repeat (first | refine blk_drewN ?_ _ | refine blk_drew ?_ | refine blk_alloc ?_ _)); refine blk_put (cs := #[.int .i64 t161, .int .i64 t162, .int .i64 t163, .int .i64 t164, .int .i64 t165, .int .i64 t166, .int .i64 t167, .int .i64 0]) ?_ 7 _ rfl; (with_reducible repeat (first | refine blk_drewN ?_ _ | refine blk_drew ?_ | refine blk_alloc ?_ _)); refine blk_put (cs := #[.int .i64 t161, .int .i64 t162, .int .i64 t163, .int .i64 t164, .int .i64 t165, .int .i64 t166, .int .i64 0, .int .i64 0]) ?_ 6 _ rfl; (with_reducible repeat (first | refine blk_drewN ?_ _ | refine blk_drew ?_ | refine blk_alloc ?_ _)); refine blk_put (cs := #[.int .i64 t161, .int .i64 t162, .int .i64 t163, .int .i64 t164, .int .i64 t165, .int .i64 0, .int .i64 0, .int .i64 0]) ?_ 5 _ rfl; (with_reducible repeat (first | refine blk_drewN ?_ _ | refine blk_drew ?_ | refine blk_alloc ?_ _)); refine blk_put (cs := #[.int .i64 t161, .int .i64 t162, .int .i64 t163, .int .i64 t164, .int .i64 0, .int .i64 0, .int .i64 0, .int .i64 0]) ?_ 4 _ rfl; (with_reducible repeat (first | refine blk_drewN ?_ _ | refine blk_drew ?_ | refine blk_alloc ?_ _)); refine blk_put (cs := #[.int .i64 t161, .int .i64 t162, .int .i64 t163, .int .i64 0, .int .i64 0, .int .i64 0, .int .i64 0, .int .i64 0]) ?_ 3 _ rfl; (with_reducible repeat (first | refine blk_drewN ?_ _ | refine blk_drew ?_ | refine blk_alloc ?_ _)); refine blk_put (cs := #[.int .i64 t161, .int .i64 t162, .int .i64 0, .int .i64 0, .int .i64 0, .int .i64 0, .int .i64 0, .int .i64 0]) ?_ 2 _ rfl; (with_reducible repeat (first | refine blk_drewN ?_ _ | refine blk_drew ?_ | refine blk_alloc ?_ _)); refine blk_put (cs := #[.int .i64 t161, .int .i64 0, .int .i64 0, .int .i64 0, .int .i64 0, .int .i64 0, .int .i64 0, .int .i64 0]) ?_ 1 _ rfl; (with_reducible repeat (first | refine blk_drewN ?_ _ | refine blk_drew ?_ | refine blk_alloc ?_ _)); refine blk_put (cs := #[.int .i64 0, .int .i64 0, .int .i64 0, .int .i64 0, .int .i64 0, .int .i64 0, .int .i64 0, .int .i64 0]) ?_ 0 _ rfl; (with_reducible repeat (first | refine blk_drewN ?_ _ | refine blk_drew ?_ | refine blk_alloc ?_ _)); exact BK158.out) Tryd.underlying32 rfl (by kernel_rfl)) rfl ?_
  exact ⟨by first | rfl | (simp [errW_none, errW_some] <;> rfl) | (simp [*, errW_none, errW_some] <;> rfl), by repeat (first | (with_reducible first | exact HB.out | apply below_alloc | apply pw_below_drewN | apply below_drew1 | refine below_set ?_ GE157.out | refine below_set ?_ GE158.out) | exact HB.out)⟩

/-! ### pq_Stamp_time: function 13 -/
def pq_Stamp_time.f (k : Nat) (a0_0 : Int) (a0_1 : Int) (a0_2 : Int) (a0_3 : Int) (a0_4 : Int) (a0_5 : Int) (a0_6 : Int) (a0_7 : Int) : Option (Int × Int × Int × Bool) := (zztime_Date.f a0_0 a0_1 a0_2 a0_3 a0_4 a0_5 a0_6 a0_7).bind fun bt170 => ((pq_stampOf.f k bt170.1 bt170.2.1 bt170.2.2).bind fun bt174 => (some (bt170.1, bt170.2.1, bt170.2.2, (bt174.1 == a0_0 && (bt174.2.1 == a0_1 && (bt174.2.2.1 == a0_2 && (bt174.2.2.2.1 == a0_3 && (bt174.2.2.2.2.1 == a0_4 && (bt174.2.2.2.2.2.1 == a0_5 && (bt174.2.2.2.2.2.2.1 == a0_6 && (bt174.2.2.2.2.2.2.2 == a0_7)))))))))))
theorem pq_Stamp_time.mono : ∀ a0 a1 a2 a3 a4 a5 a6 a7 k, LeO (pq_Stamp_time.f k a0 a1 a2 a3 a4 a5 a6 a7) (pq_Stamp_time.f (k + 1) a0 a1 a2 a3 a4 a5 a6 a7) := by
  intro a0 a1 a2 a3 a4 a5 a6 a7 k
  unfold pq_Stamp_time.f
  repeat' first
      | (with_reducible exact pq_stampOf.mono _ _ _ _)
      | (with_reducible exact LeO.refl _)
      | (with_reducible exact LeO.none _)
      | (with_reducible refine LeO.ite ?_ ?_)
      | (with_reducible refine LeO.bind ?_ (fun _ => ?_))
      | exact pq_stampOf.mono _ _ _ _
      | exact LeO.none _
      | refine LeO.ite ?_ ?_
      | refine LeO.bind ?_ (fun _ => ?_)
def pq_Stamp_time.T1 : Bool × List (List Nat × List Nat) := (true, [([], []), ([0], [0]), ([], []), ([2], [2]), ([], []), ([4], [4]), ([], []), ([6], [6]), ([], []), ([8], [8]), ([], []), ([10], [10]), ([], []), ([12], [12]), ([], []), ([14], [14]), ([15], [15]), ([1, 3, 5, 7, 9, 11, 13, 16, 16], [1, 3, 5, 7, 9, 11, 13, 16]), ([], []), ([18, 17, 17, 0, 1, 2, 3, 4, 5, 6, 7, 8, 9, 10, 11, 12, 13, 14, 15, 16, 17, 18], [17, 18])])
def pq_Stamp_time.B1 : List Nat := [0, 1, 0, 4, 0, 16, 0, 64, 0, 256, 0, 1024, 0, 4096, 0, 16384, 49152, 131071, 0, 524287]
theorem pq_Stamp_time.tab1 : rtab .any (opsOf Tryd.f13 1) = pq_Stamp_time.T1 := by kernel_rfl
theorem pq_Stamp_time.bits1 : waitsOk pq_Stamp_time.T1.2 pq_Stamp_time.B1 = true := by kernel_rfl
set_option maxHeartbeats 8000000 in
set_option maxRecDepth 100000 in
theorem pq_Stamp_time.calls (k : Nat) (a0_0 : Int) (a0_1 : Int) (a0_2 : Int) (a0_3 : Int) (a0_4 : Int) (a0_5 : Int) (a0_6 : Int) (a0_7 : Int) (r1 : Int) (r2 : Int) (r3 : Int) (r4 : Bool) (w : World) (h : pq_Stamp_time.f k a0_0 a0_1 a0_2 a0_3 a0_4 a0_5 a0_6 a0_7 = some (r1, r2, r3, r4)) :
    Calls Tryd.prog 13 #[.agg #[.int .i64 a0_0, .int .i64 a0_1, .int .i64 a0_2, .int .i64 a0_3, .int .i64 a0_4, .int .i64 a0_5, .int .i64 a0_6, .int .i64 a0_7]] w fun e w' => e = .returned (.tuple #[.agg #[.int .i64 r1, .int .i64 r2, .int .i64 r3], .bool r4]) ∧ Below w.heap.size w w' := by
  have hu32 := Tryd.underlying32
  have hu36 := Tryd.underlying36
  have HB := Aside0.mk (Below.refl w.heap.size w)
  have H : ((zztime_Date.f a0_0 a0_1 a0_2 a0_3 a0_4 a0_5 a0_6 a0_7).bind fun bt170 => ((pq_stampOf.f k bt170.1 bt170.2.1 bt170.2.2).bind fun bt174 => (some (bt170.1, bt170.2.1, bt170.2.2, (bt174.1 == a0_0 && (bt174.2.1 == a0_1 && (bt174.2.2.1 == a0_2 && (bt174.2.2.2.1 == a0_3 && (bt174.2.2.2.2.1 == a0_4 && (bt174.2.2.2.2.2.1 == a0_5 && (bt174.2.2.2.2.2.2.1 == a0_6 && (bt174.2.2.2.2.2.2.2 == a0_7)))))))))))) = some (r1, r2, r3, r4) := h
  clear h
  replace H := Option.bind_eq_some_iff.mp H
  obtain ⟨⟨t170, t171, t172⟩, A20, H⟩ := H
  replace H : ((pq_stampOf.f k t170 t171 t172).bind fun bt174 => (some (t170, t171, t172, (bt174.1 == a0_0 && (bt174.2.1 == a0_1 && (bt174.2.2.1 == a0_2 && (bt174.2.2.2.1 == a0_3 && (bt174.2.2.2.2.1 == a0_4 && (bt174.2.2.2.2.2.1 == a0_5 && (bt174.2.2.2.2.2.2.1 == a0_6 && (bt174.2.2.2.2.2.2.2 == a0_7))))))))))) = some (r1, r2, r3, r4) := H
  have A2 := Aside0.mk A20
  clear A20
  replace H := Option.bind_eq_some_iff.mp H
  obtain ⟨⟨t174, t175, t176, t177, t178, t179, t180, t181⟩, A30, H⟩ := H
  replace H : (some (t170, t171, t172, (t174 == a0_0 && (t175 == a0_1 && (t176 == a0_2 && (t177 == a0_3 && (t178 == a0_4 && (t179 == a0_5 && (t180 == a0_6 && (t181 == a0_7)))))))))) = some (r1, r2, r3, r4) := H
  have A3 := Aside0.mk A30
  clear A30
  simp only [Option.some.injEq, Prod.mk.injEq] at H
  obtain ⟨rfl, rfl, rfl, rfl⟩ := H
  go_enter Tryd.func13, Tryd.ntmps13
  try go_wp2_with (first | ((with_reducible refine gate_dst (N := 1) rfl ?_); refine box_event ?hg (N := 1) ?hd (cs := #[.int .i64 a0_0, .int .i64 a0_1, .int .i64 a0_2, .int .i64 a0_3, .int .i64 a0_4, .int .i64 a0_5, .int .i64 a0_6, .int .i64 a0_7]) (t := 32) ?hr ?_; (case hd => rfl); (case hg => rfl); (case hr => first | (go_simp; done) | (go_simp; rfl) | (go_simp; simp [IntKind.wrap_u8]; done)); intro gb168 hg w4 hbox hb; have n0_ := Aside0.mk (below_step (by repeat (first | (with_reducible first | exact HB.out | apply below_alloc | apply pw_below_drewN | apply below_drew1) | exact HB.out)) hb); have n1_ := Aside0.mk (hbox); have n2_ := Aside0.mk ((by rw [hg]; exact (below_size (by repeat (first | (with_reducible first | exact HB.out | apply below_alloc | apply pw_below_drewN | apply below_drew1) | exact HB.out))) : w.heap.size ≤ gb168)); have n3_ := Aside0.mk ((by rw [hg]; exact (below_size (by repeat (first | (with_reducible first | exact HB.out | apply below_alloc | apply pw_below_drewN | apply below_drew1) | exact HB.out))) : w.heap.size ≤ gb168)); clear HB; have HB := n0_; have BK168 := n1_; have GW168 := n2_; have GE168 := n3_; clear n0_ n1_ n2_ n3_; clear hb hbox hg) | ((with_reducible refine gate_dst (N := 2) rfl ?_); refine box_event ?hg (N := 2) ?hd (cs := #[.int .i64 0, .int .i64 0, .int .i64 0]) (t := 36) ?hr ?_; (case hd => rfl); (case hg => rfl); (case hr => first | (go_simp; done) | (go_simp; rfl) | (go_simp; simp [IntKind.wrap_u8]; done)); intro gb169 hg w5 hbox hb; have n0_ := Aside0.mk (blk_below (g := gb168) (o := .cells #[.int .i64 a0_0, .int .i64 a0_1, .int .i64 a0_2, .int .i64 a0_3, .int .i64 a0_4, .int .i64 a0_5, .int .i64 a0_6, .int .i64 a0_7] 32 (0, 0)) (by (with_reducible repeat (first | refine blk_drewN ?_ _ | refine blk_drew ?_ | refine blk_alloc ?_ _)); exact BK168.out) hb); have n1_ := Aside0.mk (below_step (by repeat (first | (with_reducible first | exact HB.out | apply below_alloc | apply pw_below_drewN | apply below_drew1 | refine below_set ?_ GE168.out) | exact HB.out)) hb); have n2_ := Aside0.mk (hbox); have n3_ := Aside0.mk ((by rw [hg]; exact (below_size (by repeat (first | (with_reducible first | exact HB.out | apply below_alloc | apply pw_below_drewN | apply below_drew1 | refine below_set ?_ GE168.out) | exact HB.out))) : w.heap.size ≤ gb169)); have n4_ := Aside0.mk ((by rw [hg]; exact (below_size (by repeat (first | (with_reducible first | exact HB.out | apply below_alloc | apply pw_below_drewN | apply below_drew1 | refine below_set ?_ GE168.out) | exact HB.out))) : w.heap.size ≤ gb169)); have n5_ := Aside0.mk ((by rw [hg]; exact Nat.ne_of_lt (blk_lt (g := gb168) (o := .cells #[.int .i64 a0_0, .int .i64 a0_1, .int .i64 a0_2, .int .i64 a0_3, .int .i64 a0_4, .int .i64 a0_5, .int .i64 a0_6, .int .i64 a0_7] 32 (0, 0)) (by (with_reducible repeat (first | refine blk_drewN ?_ _ | refine blk_drew ?_ | refine blk_alloc ?_ _)); exact BK168.out)) : gb168 ≠ gb169)); have n6_ := Aside0.mk ((by rw [hg]; exact Nat.ne_of_gt (blk_lt (g := gb168) (o := .cells #[.int .i64 a0_0, .int .i64 a0_1, .int .i64 a0_2, .int .i64 a0_3, .int .i64 a0_4, .int .i64 a0_5, .int .i64 a0_6, .int .i64 a0_7] 32 (0, 0)) (by (with_reducible repeat (first | refine blk_drewN ?_ _ | refine blk_drew ?_ | refine blk_alloc ?_ _)); exact BK168.out)) : gb169 ≠ gb168)); clear BK168; clear HB; have BK168 := n0_; have HB := n1_; have BK169 := n2_; have GW169 := n3_; have GE169 := n4_; have NB168_169 := n5_; have NB169_168 := n6_; clear n0_ n1_ n2_ n3_ n4_ n5_ n6_; clear hb hbox hg))
  have n0_ := Aside0.mk (blk_drew BK168.out)
  have n1_ := Aside0.mk (blk_drew BK169.out)
  have n2_ := Aside0.mk (below_drew1 HB.out)
  clear BK168
  clear BK169
  clear HB
  have BK168 := n0_
  have BK169 := n1_
  have HB := n2_
  clear n0_ n1_ n2_
  refine start_ (n := 20) (S := fun w' => w'.cell? ⟨gb168, 0, none⟩ = some (.int .i64 a0_0) ∧ w'.cell? ⟨gb168, 1, none⟩ = some (.int .i64 a0_1) ∧ w'.cell? ⟨gb168, 2, none⟩ = some (.int .i64 a0_2) ∧ w'.cell? ⟨gb168, 3, none⟩ = some (.int .i64 a0_3) ∧ w'.cell? ⟨gb168, 4, none⟩ = some (.int .i64 a0_4) ∧ w'.cell? ⟨gb168, 5, none⟩ = some (.int .i64 a0_5) ∧ w'.cell? ⟨gb168, 6, none⟩ = some (.int .i64 a0_6) ∧ w'.cell? ⟨gb168, 7, none⟩ = some (.int .i64 a0_7)) (ds := []) #[false, false, false, false, false, false, false, false, false, false, false, false, false, false, false, false, false, false, false, false] (by kernel_rfl) rfl rfl ⟨(blk_cell BK168.out 0).trans rfl, (blk_cell BK168.out 1).trans rfl, (blk_cell BK168.out 2).trans rfl, (blk_cell BK168.out 3).trans rfl, (blk_cell BK168.out 4).trans rfl, (blk_cell BK168.out 5).trans rfl, (blk_cell BK168.out 6).trans rfl, (blk_cell BK168.out 7).trans rfl⟩ (fun hHeld => ?_); refine with_tabW pq_Stamp_time.tab1 pq_Stamp_time.bits1 (fun HT_ HW_ => ?_)
  generalize w5.drew = w6 at BK168 BK169 HB hHeld ⊢
  refine pure_ (i := 0) (N := some 5) (v := ?_) (a' := ?_) #[true, false, false, false, false, false, false, false, false, false, false, false, false, false, false, false, false, false, false, false] rfl rfl (any_of HT_.out (by kernel_rfl)) (fun _ _ _ h => h) (Or.inl ⟨by rfl, ?_⟩) ?_ ?_
  rotate_left
  · intro w'
    go_simp
    with_reducible rfl
  rotate_left
  · simp only [Act.put, List.setIfInBounds_toArray, List.set_cons_zero, List.set_cons_succ, i64_w, i32_w]
    rfl
  refine pure_ (i := 2) (N := some 7) (v := ?_) (a' := ?_) #[true, false, true, false, false, false, false, false, false, false, false, false, false, false, false, false, false, false, false, false] rfl rfl (any_of HT_.out (by kernel_rfl)) (fun _ _ _ h => h) (Or.inl ⟨by rfl, ?_⟩) ?_ ?_
  rotate_left
  · intro w'
    go_simp
    with_reducible rfl
  rotate_left
  · simp only [Act.put, List.setIfInBounds_toArray, List.set_cons_zero, List.set_cons_succ, i64_w, i32_w]
    rfl
  refine pure_ (i := 4) (N := some 9) (v := ?_) (a' := ?_) #[true, false, true, false, true, false, false, false, false, false, false, false, false, false, false, false, false, false, false, false] rfl rfl (any_of HT_.out (by kernel_rfl)) (fun _ _ _ h => h) (Or.inl ⟨by rfl, ?_⟩) ?_ ?_
  rotate_left
  · intro w'
    go_simp
    with_reducible rfl
  rotate_left
  · simp only [Act.put, List.setIfInBounds_toArray, List.set_cons_zero, List.set_cons_succ, i64_w, i32_w]
    rfl
  refine pure_ (i := 6) (N := some 11) (v := ?_) (a' := ?_) #[true, false, true, false, true, false, true, false, false, false, false, false, false, false, false, false, false, false, false, false] rfl rfl (any_of HT_.out (by kernel_rfl)) (fun _ _ _ h => h) (Or.inl ⟨by rfl, ?_⟩) ?_ ?_
  rotate_left
  · intro w'
    go_simp
    with_reducible rfl
  rotate_left
  · simp only [Act.put, List.setIfInBounds_toArray, List.set_cons_zero, List.set_cons_succ, i64_w, i32_w]
    rfl
  refine pure_ (i := 8) (N := some 13) (v := ?_) (a' := ?_) #[true, false, true, false, true, false, true, false, true, false, false, false, false, false, false, false, false, false, false, false] rfl rfl (any_of HT_.out (by kernel_rfl)) (fun _ _ _ h => h) (Or.inl ⟨by rfl, ?_⟩) ?_ ?_
  rotate_left
  · intro w'
    go_simp
    with_reducible rfl
  rotate_left
  · simp only [Act.put, List.setIfInBounds_toArray, List.set_cons_zero, List.set_cons_succ, i64_w, i32_w]
    rfl
  refine pure_ (i := 10) (N := some 15) (v := ?_) (a' := ?_) #[true, false, true, false, true, false, true, false, true, false, true, false, false, false, false, false, false, false, false, false] rfl rfl (any_of HT_.out (by kernel_rfl)) (fun _ _ _ h => h) (Or.inl ⟨by rfl, ?_⟩) ?_ ?_
  rotate_left
  · intro w'
    go_simp
    with_reducible rfl
  rotate_left
  · simp only [Act.put, List.setIfInBounds_toArray, List.set_cons_zero, List.set_cons_succ, i64_w, i32_w]
    rfl
  refine pure_ (i := 12) (N := some 17) (v := ?_) (a' := ?_) #[true, false, true, false, true, false, true, false, true, false, true, false, true, false, false, false, false, false, false, false] rfl rfl (any_of HT_.out (by kernel_rfl)) (fun _ _ _ h => h) (Or.inl ⟨by rfl, ?_⟩) ?_ ?_
  rotate_left
  · intro w'
    go_simp
    with_reducible rfl
  rotate_left
  · simp only [Act.put, List.setIfInBounds_toArray, List.set_cons_zero, List.set_cons_succ, i64_w, i32_w]
    rfl
  refine pure_ (i := 14) (N := some 19) (v := ?_) (a' := ?_) #[true, false, true, false, true, false, true, false, true, false, true, false, true, false, true, false, false, false, false, false] rfl rfl (any_of HT_.out (by kernel_rfl)) (fun _ _ _ h => h) (Or.inl ⟨by rfl, ?_⟩) ?_ ?_
  rotate_left
  · intro w'
    go_simp
    with_reducible rfl
  rotate_left
  · simp only [Act.put, List.setIfInBounds_toArray, List.set_cons_zero, List.set_cons_succ, i64_w, i32_w]
    rfl
  refine take_ (i := 1) (N := some 6) (v := ?_) (a' := ?_) #[true, true, true, false, true, false, true, false, true, false, true, false, true, false, true, false, false, false, false, false] rfl rfl (take_ofW HT_.out HW_.out (by kernel_rfl)) (fun _ _ _ h => h) (Or.inl ⟨by rfl, ?_⟩) hHeld ?_ ?_
  rotate_left
  · rintro w' ⟨s0, s1, s2, s3, s4, s5, s6, s7⟩
    go_simp
    with_reducible rfl
  rotate_left
  · simp only [Act.put, List.setIfInBounds_toArray, List.set_cons_zero, List.set_cons_succ, i64_w, i32_w]
    rfl
  refine take_ (i := 3) (N := some 8) (v := ?_) (a' := ?_) #[true, true, true, true, true, false, true, false, true, false, true, false, true, false, true, false, false, false, false, false] rfl rfl (take_ofW HT_.out HW_.out (by kernel_rfl)) (fun _ _ _ h => h) (Or.inl ⟨by rfl, ?_⟩) hHeld ?_ ?_
  rotate_left
  · rintro w' ⟨s0, s1, s2, s3, s4, s5, s6, s7⟩
    go_simp
    with_reducible rfl
  rotate_left
  · simp only [Act.put, List.setIfInBounds_toArray, List.set_cons_zero, List.set_cons_succ, i64_w, i32_w]
    rfl
  refine take_ (i := 5) (N := some 10) (v := ?_) (a' := ?_) #[true, true, true, true, true, true, true, false, true, false, true, false, true, false, true, false, false, false, false, false] rfl rfl (take_ofW HT_.out HW_.out (by kernel_rfl)) (fun _ _ _ h => h) (Or.inl ⟨by rfl, ?_⟩) hHeld ?_ ?_
  rotate_left
  · rintro w' ⟨s0, s1, s2, s3, s4, s5, s6, s7⟩
    go_simp
    with_reducible rfl
  rotate_left
  · simp only [Act.put, List.setIfInBounds_toArray, List.set_cons_zero, List.set_cons_succ, i64_w, i32_w]
    rfl
  refine take_ (i := 7) (N := some 12) (v := ?_) (a' := ?_) #[true, true, true, true, true, true, true, true, true, false, true, false, true, false, true, false, false, false, false, false] rfl rfl (take_ofW HT_.out HW_.out (by kernel_rfl)) (fun _ _ _ h => h) (Or.inl ⟨by rfl, ?_⟩) hHeld ?_ ?_
  rotate_left
  · rintro w' ⟨s0, s1, s2, s3, s4, s5, s6, s7⟩
    go_simp
    with_reducible rfl
  rotate_left
  · simp only [Act.put, List.setIfInBounds_toArray, List.set_cons_zero, List.set_cons_succ, i64_w, i32_w]
    rfl
  refine take_ (i := 9) (N := some 14) (v := ?_) (a' := ?_) #[true, true, true, true, true, true, true, true, true, true, true, false, true, false, true, false, false, false, false, false] rfl rfl (take_ofW HT_.out HW_.out (by kernel_rfl)) (fun _ _ _ h => h) (Or.inl ⟨by rfl, ?_⟩) hHeld ?_ ?_
  rotate_left
  · rintro w' ⟨s0, s1, s2, s3, s4, s5, s6, s7⟩
    go_simp
    with_reducible rfl
  rotate_left
  · simp only [Act.put, List.setIfInBounds_toArray, List.set_cons_zero, List.set_cons_succ, i64_w, i32_w]
    rfl
  refine take_ (i := 11) (N := some 16) (v := ?_) (a' := ?_) #[true, true, true, true, true, true, true, true, true, true, true, true, true, false, true, false, false, false, false, false] rfl rfl (take_ofW HT_.out HW_.out (by kernel_rfl)) (fun _ _ _ h => h) (Or.inl ⟨by rfl, ?_⟩) hHeld ?_ ?_
  rotate_left
  · rintro w' ⟨s0, s1, s2, s3, s4, s5, s6, s7⟩
    go_simp
    with_reducible rfl
  rotate_left
  · simp only [Act.put, List.setIfInBounds_toArray, List.set_cons_zero, List.set_cons_succ, i64_w, i32_w]
    rfl
  refine take_ (i := 13) (N := some 18) (v := ?_) (a' := ?_) #[true, true, true, true, true, true, true, true, true, true, true, true, true, true, true, false, false, false, false, false] rfl rfl (take_ofW HT_.out HW_.out (by kernel_rfl)) (fun _ _ _ h => h) (Or.inl ⟨by rfl, ?_⟩) hHeld ?_ ?_
  rotate_left
  · rintro w' ⟨s0, s1, s2, s3, s4, s5, s6, s7⟩
    go_simp
    with_reducible rfl
  rotate_left
  · simp only [Act.put, List.setIfInBounds_toArray, List.set_cons_zero, List.set_cons_succ, i64_w, i32_w]
    rfl
  refine take_ (i := 15) (N := some 20) (v := ?_) (a' := ?_) #[true, true, true, true, true, true, true, true, true, true, true, true, true, true, true, true, false, false, false, false] rfl rfl (take_ofW HT_.out HW_.out (by kernel_rfl)) (fun _ _ _ h => h) (Or.inl ⟨by rfl, ?_⟩) hHeld ?_ ?_
  rotate_left
  · rintro w' ⟨s0, s1, s2, s3, s4, s5, s6, s7⟩
    go_simp
    with_reducible rfl
  rotate_left
  · simp only [Act.put, List.setIfInBounds_toArray, List.set_cons_zero, List.set_cons_succ, i64_w, i32_w]
    rfl
  refine join_ (σ := Nat × Nat) 1 #[true, true, true, true, true, true, true, true, true, true, true, true, true, true, true, true, true, true, true, false] (fun s_ => [(22, .agg #[.int .i64 t170, .int .i64 t171, .int .i64 t172]), (4, .pointer (some ⟨s_.1, 0, none⟩)), (21, .pointer (some ⟨s_.2, 0, none⟩))]) (fun s_ w' => (w'.cell? ⟨gb168, 0, none⟩ = some (.int .i64 a0_0) ∧ w'.cell? ⟨gb168, 1, none⟩ = some (.int .i64 a0_1) ∧ w'.cell? ⟨gb168, 2, none⟩ = some (.int .i64 a0_2) ∧ w'.cell? ⟨gb168, 3, none⟩ = some (.int .i64 a0_3) ∧ w'.cell? ⟨gb168, 4, none⟩ = some (.int .i64 a0_4) ∧ w'.cell? ⟨gb168, 5, none⟩ = some (.int .i64 a0_5) ∧ w'.cell? ⟨gb168, 6, none⟩ = some (.int .i64 a0_6) ∧ w'.cell? ⟨gb168, 7, none⟩ = some (.int .i64 a0_7)) ∧ (w'.heap[gb168]? = some (.cells #[.int .i64 a0_0, .int .i64 a0_1, .int .i64 a0_2, .int .i64 a0_3, .int .i64 a0_4, .int .i64 a0_5, .int .i64 a0_6, .int .i64 a0_7] 32 (0, 0))) ∧ (w'.heap[gb169]? = some (.cells #[.int .i64 0, .int .i64 0, .int .i64 0] 36 (0, 0))) ∧ (w'.heap[s_.1]? = some (.cells #[.int .i64 0, .int .i64 0, .int .i64 0] 36 (0, 0))) ∧ (w.heap.size ≤ s_.1) ∧ (w.heap.size ≤ s_.1) ∧ (gb168 ≠ s_.1) ∧ (s_.1 ≠ gb168) ∧ (gb169 ≠ s_.1) ∧ (s_.1 ≠ gb169) ∧ (Below w.heap.size w w')) ?_ ?_
  rotate_left
  · intro hCont
    refine two_ (i := 16) (j := 18) (Ni := some 21) (Nj := some 4) #[true, true, true, true, true, true, true, true, true, true, true, true, true, true, true, true, true, false, false, false] #[true, true, true, true, true, true, true, true, true, true, true, true, true, true, true, true, false, false, true, false] rfl rfl rfl rfl (two_of HT_.out (by kernel_rfl)) (by decide) (by decide) (fun K hK => ?_) (fun K hK => ?_)
    · skip
      refine goes_ Tryd.func17 (by kernel_rfl) rfl #[.string (⟨#[]⟩ : ByteArray), .int .i64 a0_7] (by rfl) rfl rfl (by (try simp only [List.map_toArray, List.map_cons, List.map_nil]); first | done | rfl) ?_
      with_reducible refine (zztime_FixedZone.calls _ a0_7 a0_7 w _ HB.out rfl).mono ?_
      rintro e wz ⟨gL, rfl, hZ, hb0, hb⟩
      refine ⟨_, rfl, ?_⟩
      have n0_ := Aside0.mk (blk_below (g := gb168) (o := .cells #[.int .i64 a0_0, .int .i64 a0_1, .int .i64 a0_2, .int .i64 a0_3, .int .i64 a0_4, .int .i64 a0_5, .int .i64 a0_6, .int .i64 a0_7] 32 (0, 0)) BK168.out hb)
      have n1_ := Aside0.mk (blk_below (g := gb169) (o := .cells #[.int .i64 0, .int .i64 0, .int .i64 0] 36 (0, 0)) BK169.out hb)
      have n3_ := Aside0.mk hZ.1
      have n4_ := Aside0.mk hb0
      clear BK168 BK169 HB
      clear hZ hb0 hb
      have BK168 := n0_
      have BK169 := n1_
      have BKZ := n3_
      have HB := n4_
      clear n0_ n1_ n3_ n4_
      refine hK.out _ _ ⟨(blk_cell BK168.out 0).trans rfl, (blk_cell BK168.out 1).trans rfl, (blk_cell BK168.out 2).trans rfl, (blk_cell BK168.out 3).trans rfl, (blk_cell BK168.out 4).trans rfl, (blk_cell BK168.out 5).trans rfl, (blk_cell BK168.out 6).trans rfl, (blk_cell BK168.out 7).trans rfl⟩ (fun hHeld => ?_)
      clear hK K
      refine norm_ (a' := ?_) ?_ ?_
      rotate_left
      · show Act.put _ (some 21) _ = _
        simp only [Act.put, List.setIfInBounds_toArray, List.set_cons_zero, List.set_cons_succ, i64_w, i32_w]
        rfl
      refine two_ (i := 17) (j := 18) (Ni := some 22) (Nj := some 4) #[true, true, true, true, true, true, true, true, true, true, true, true, true, true, true, true, true, true, false, false] #[true, true, true, true, true, true, true, true, true, true, true, true, true, true, true, true, true, false, true, false] rfl rfl rfl rfl (two_of HT_.out (by kernel_rfl)) (by decide) (by decide) (fun K hK => ?_) (fun K hK => ?_)
      · skip
        refine goes_ Tryd.func16 (by kernel_rfl) rfl #[.int .i64 a0_0, .int .i64 a0_1, .int .i64 a0_2, .int .i64 a0_3, .int .i64 a0_4, .int .i64 a0_5, .int .i64 a0_6, .pointer (some ⟨gL, 0, none⟩)] (by rfl) rfl rfl (by (try simp only [List.map_toArray, List.map_cons, List.map_nil]); first | done | rfl | (simp only [List.length_drop, List.length_take]; rfl)) ?_
        with_reducible refine (zztime_Date.calls a0_0 a0_1 a0_2 a0_3 a0_4 a0_5 a0_6 a0_7 t170 t171 t172 gL _ ((blk_cell BKZ.out 0).trans rfl) A2.out).mono ?_
        rintro e w7 ⟨rfl, hb⟩
        refine ⟨_, rfl, ?_⟩
        have n0_ := Aside0.mk (blk_below (g := gb168) (o := .cells #[.int .i64 a0_0, .int .i64 a0_1, .int .i64 a0_2, .int .i64 a0_3, .int .i64 a0_4, .int .i64 a0_5, .int .i64 a0_6, .int .i64 a0_7] 32 (0, 0)) (by (with_reducible repeat (first | refine blk_drewN ?_ _ | refine blk_drew ?_ | refine blk_alloc ?_ _)); exact BK168.out) hb)
        have n1_ := Aside0.mk (blk_below (g := gb169) (o := .cells #[.int .i64 0, .int .i64 0, .int .i64 0] 36 (0, 0)) (by (with_reducible repeat (first | refine blk_drewN ?_ _ | refine blk_drew ?_ | refine blk_alloc ?_ _)); exact BK169.out) hb)
        have n2_ := Aside0.mk (below_step (by repeat (first | (with_reducible first | exact HB.out | apply below_alloc | apply pw_below_drewN | apply below_drew1 | refine below_set ?_ GE168.out | refine below_set ?_ GE169.out) | exact HB.out)) hb)
        clear BK168
        clear BK169
        clear HB
        have BK168 := n0_
        have BK169 := n1_
        have HB := n2_
        clear n0_ n1_ n2_
        (try clear hb)
        (try clear hb2)
        (try clear hk)
        (try clear hi)
        refine hK.out _ _ ⟨(blk_cell BK168.out 0).trans rfl, (blk_cell BK168.out 1).trans rfl, (blk_cell BK168.out 2).trans rfl, (blk_cell BK168.out 3).trans rfl, (blk_cell BK168.out 4).trans rfl, (blk_cell BK168.out 5).trans rfl, (blk_cell BK168.out 6).trans rfl, (blk_cell BK168.out 7).trans rfl⟩ (fun hHeld => ?_)
        clear hK K
        refine norm_ (a' := ?_) ?_ ?_
        rotate_left
        · show Act.put _ (some 22) _ = _
          simp only [Act.put, List.setIfInBounds_toArray, List.set_cons_zero, List.set_cons_succ, i64_w, i32_w]
          rfl
        refine one_ (i := 18) (N := some 4) #[true, true, true, true, true, true, true, true, true, true, true, true, true, true, true, true, true, true, true, false] rfl rfl (one_of HT_.out (by kernel_rfl)) (by decide) (fun K hK => ?_)
        refine box_step ?hg (N := 4) ?hd (cs := #[.int .i64 0, .int .i64 0, .int .i64 0]) (t := 36) ?hr ?_; (case hd => rfl); (case hg => rfl); (case hr => first | (go_simp; done) | (go_simp; rfl) | (go_simp; simp [IntKind.wrap_u8]; done))
        intro gb173 hg w8 hbox hb
        have n0_ := Aside0.mk (blk_below (g := gb168) (o := .cells #[.int .i64 a0_0, .int .i64 a0_1, .int .i64 a0_2, .int .i64 a0_3, .int .i64 a0_4, .int .i64 a0_5, .int .i64 a0_6, .int .i64 a0_7] 32 (0, 0)) (by (with_reducible repeat (first | refine blk_drewN ?_ _ | refine blk_drew ?_ | refine blk_alloc ?_ _)); exact BK168.out) hb)
        have n1_ := Aside0.mk (blk_below (g := gb169) (o := .cells #[.int .i64 0, .int .i64 0, .int .i64 0] 36 (0, 0)) (by (with_reducible repeat (first | refine blk_drewN ?_ _ | refine blk_drew ?_ | refine blk_alloc ?_ _)); exact BK169.out) hb)
        have n2_ := Aside0.mk (below_step (by repeat (first | (with_reducible first | exact HB.out | apply below_alloc | apply pw_below_drewN | apply below_drew1 | refine below_set ?_ GE168.out | refine below_set ?_ GE169.out) | exact HB.out)) hb)
        have n3_ := Aside0.mk (hbox)
        have n4_ := Aside0.mk ((by rw [hg]; exact (below_size (by repeat (first | (with_reducible first | exact HB.out | apply below_alloc | apply pw_below_drewN | apply below_drew1 | refine below_set ?_ GE168.out | refine below_set ?_ GE169.out) | exact HB.out))) : w.heap.size ≤ gb173))
        have n5_ := Aside0.mk ((by rw [hg]; exact (below_size (by repeat (first | (with_reducible first | exact HB.out | apply below_alloc | apply pw_below_drewN | apply below_drew1 | refine below_set ?_ GE168.out | refine below_set ?_ GE169.out) | exact HB.out))) : w.heap.size ≤ gb173))
        have n6_ := Aside0.mk ((by rw [hg]; exact Nat.ne_of_lt (blk_lt (g := gb168) (o := .cells #[.int .i64 a0_0, .int .i64 a0_1, .int .i64 a0_2, .int .i64 a0_3, .int .i64 a0_4, .int .i64 a0_5, .int .i64 a0_6, .int .i64 a0_7] 32 (0, 0)) (by (with_reducible repeat (first | refine blk_drewN ?_ _ | refine blk_drew ?_ | refine blk_alloc ?_ _)); exact BK168.out)) : gb168 ≠ gb173))
        have n7_ := Aside0.mk ((by rw [hg]; exact Nat.ne_of_gt (blk_lt (g := gb168) (o := .cells #[.int .i64 a0_0, .int .i64 a0_1, .int .i64 a0_2, .int .i64 a0_3, .int .i64 a0_4, .int .i64 a0_5, .int .i64 a0_6, .int .i64 a0_7] 32 (0, 0)) (by (with_reducible repeat (first | refine blk_drewN ?_ _ | refine blk_drew ?_ | refine blk_alloc ?_ _)); exact BK168.out)) : gb173 ≠ gb168))
        have n8_ := Aside0.mk ((by rw [hg]; exact Nat.ne_of_lt (blk_lt (g := gb169) (o := .cells #[.int .i64 0, .int .i64 0, .int .i64 0] 36 (0, 0)) (by (with_reducible repeat (first | refine blk_drewN ?_ _ | refine blk_drew ?_ | refine blk_alloc ?_ _)); exact BK169.out)) : gb169 ≠ gb173))
        have n9_ := Aside0.mk ((by rw [hg]; exact Nat.ne_of_gt (blk_lt (g := gb169) (o := .cells #[.int .i64 0, .int .i64 0, .int .i64 0] 36 (0, 0)) (by (with_reducible repeat (first | refine blk_drewN ?_ _ | refine blk_drew ?_ | refine blk_alloc ?_ _)); exact BK169.out)) : gb173 ≠ gb169))
        clear BK168
        clear BK169
        clear HB
        have BK168 := n0_
        have BK169 := n1_
        have HB := n2_
        have BK173 := n3_
        have GW173 := n4_
        have GE173 := n5_
        have NB168_173 := n6_
        have NB173_168 := n7_
        have NB169_173 := n8_
        have NB173_169 := n9_
        clear n0_ n1_ n2_ n3_ n4_ n5_ n6_ n7_ n8_ n9_
        clear hb hbox hg
        refine hK.out _ _ ⟨(blk_cell BK168.out 0).trans rfl, (blk_cell BK168.out 1).trans rfl, (blk_cell BK168.out 2).trans rfl, (blk_cell BK168.out 3).trans rfl, (blk_cell BK168.out 4).trans rfl, (blk_cell BK168.out 5).trans rfl, (blk_cell BK168.out 6).trans rfl, (blk_cell BK168.out 7).trans rfl⟩ (fun hHeld => ?_)
        clear hK K
        refine norm_ (a' := ?_) ?_ ?_
        rotate_left
        · show Act.put _ (some 4) _ = _
          simp only [Act.put, List.setIfInBounds_toArray, List.set_cons_zero, List.set_cons_succ, i64_w, i32_w]
          rfl
        exact norm_ (by simp only [putAll, Act.put, List.setIfInBounds_toArray, List.set_cons_zero, List.set_cons_succ]) (hCont (gb173, gL) _ ⟨hHeld, (by (with_reducible repeat (first | refine blk_drewN ?_ _ | refine blk_drew ?_ | refine blk_alloc ?_ _)); exact BK168.out), (by (with_reducible repeat (first | refine blk_drewN ?_ _ | refine blk_drew ?_ | refine blk_alloc ?_ _)); exact BK169.out), (by (with_reducible repeat (first | refine blk_drewN ?_ _ | refine blk_drew ?_ | refine blk_alloc ?_ _)); exact BK173.out), GW173.out, GE173.out, NB168_173.out, NB173_168.out, NB169_173.out, NB173_169.out, (by repeat (first | (with_reducible first | exact HB.out | apply below_alloc | apply pw_below_drewN | apply below_drew1 | refine below_set ?_ GE168.out | refine below_set ?_ GE169.out | refine below_set ?_ GE173.out) | exact HB.out))⟩)
      · skip
        refine box_step ?hg (N := 4) ?hd (cs := #[.int .i64 0, .int .i64 0, .int .i64 0]) (t := 36) ?hr ?_; (case hd => rfl); (case hg => rfl); (case hr => first | (go_simp; done) | (go_simp; rfl) | (go_simp; simp [IntKind.wrap_u8]; done))
        intro gb173 hg w7 hbox hb
        have n0_ := Aside0.mk (blk_below (g := gb168) (o := .cells #[.int .i64 a0_0, .int .i64 a0_1, .int .i64 a0_2, .int .i64 a0_3, .int .i64 a0_4, .int .i64 a0_5, .int .i64 a0_6, .int .i64 a0_7] 32 (0, 0)) (by (with_reducible repeat (first | refine blk_drewN ?_ _ | refine blk_drew ?_ | refine blk_alloc ?_ _)); exact BK168.out) hb)
        have n1_ := Aside0.mk (blk_below (g := gb169) (o := .cells #[.int .i64 0, .int .i64 0, .int .i64 0] 36 (0, 0)) (by (with_reducible repeat (first | refine blk_drewN ?_ _ | refine blk_drew ?_ | refine blk_alloc ?_ _)); exact BK169.out) hb)
        have n2_ := Aside0.mk (below_step (by repeat (first | (with_reducible first | exact HB.out | apply below_alloc | apply pw_below_drewN | apply below_drew1 | refine below_set ?_ GE168.out | refine below_set ?_ GE169.out) | exact HB.out)) hb)
        have n3_ := Aside0.mk (hbox)
        have n4_ := Aside0.mk ((by rw [hg]; exact (below_size (by repeat (first | (with_reducible first | exact HB.out | apply below_alloc | apply pw_below_drewN | apply below_drew1 | refine below_set ?_ GE168.out | refine below_set ?_ GE169.out) | exact HB.out))) : w.heap.size ≤ gb173))
        have n5_ := Aside0.mk ((by rw [hg]; exact (below_size (by repeat (first | (with_reducible first | exact HB.out | apply below_alloc | apply pw_below_drewN | apply below_drew1 | refine below_set ?_ GE168.out | refine below_set ?_ GE169.out) | exact HB.out))) : w.heap.size ≤ gb173))
        have n6_ := Aside0.mk ((by rw [hg]; exact Nat.ne_of_lt (blk_lt (g := gb168) (o := .cells #[.int .i64 a0_0, .int .i64 a0_1, .int .i64 a0_2, .int .i64 a0_3, .int .i64 a0_4, .int .i64 a0_5, .int .i64 a0_6, .int .i64 a0_7] 32 (0, 0)) (by (with_reducible repeat (first | refine blk_drewN ?_ _ | refine blk_drew ?_ | refine blk_alloc ?_ _)); exact BK168.out)) : gb168 ≠ gb173))
        have n7_ := Aside0.mk ((by rw [hg]; exact Nat.ne_of_gt (blk_lt (g := gb168) (o := .cells #[.int .i64 a0_0, .int .i64 a0_1, .int .i64 a0_2, .int .i64 a0_3, .int .i64 a0_4, .int .i64 a0_5, .int .i64 a0_6, .int .i64 a0_7] 32 (0, 0)) (by (with_reducible repeat (first | refine blk_drewN ?_ _ | refine blk_drew ?_ | refine blk_alloc ?_ _)); exact BK168.out)) : gb173 ≠ gb168))
        have n8_ := Aside0.mk ((by rw [hg]; exact Nat.ne_of_lt (blk_lt (g := gb169) (o := .cells #[.int .i64 0, .int .i64 0, .int .i64 0] 36 (0, 0)) (by (with_reducible repeat (first | refine blk_drewN ?_ _ | refine blk_drew ?_ | refine blk_alloc ?_ _)); exact BK169.out)) : gb169 ≠ gb173))
        have n9_ := Aside0.mk ((by rw [hg]; exact Nat.ne_of_gt (blk_lt (g := gb169) (o := .cells #[.int .i64 0, .int .i64 0, .int .i64 0] 36 (0, 0)) (by (with_reducible repeat (first | refine blk_drewN ?_ _ | refine blk_drew ?_ | refine blk_alloc ?_ _)); exact BK169.out)) : gb173 ≠ gb169))
        have nz_ := Aside0.mk (blk_below (g := gL) (o := .cells #[.int .i64 a0_7] 50 (0, 0)) BKZ.out hb)
        clear BKZ
        have BKZ := nz_
        clear nz_
        clear BK168
        clear BK169
        clear HB
        have BK168 := n0_
        have BK169 := n1_
        have HB := n2_
        have BK173 := n3_
        have GW173 := n4_
        have GE173 := n5_
        have NB168_173 := n6_
        have NB173_168 := n7_
        have NB169_173 := n8_
        have NB173_169 := n9_
        clear n0_ n1_ n2_ n3_ n4_ n5_ n6_ n7_ n8_ n9_
        clear hb hbox hg
        refine hK.out _ _ ⟨(blk_cell BK168.out 0).trans rfl, (blk_cell BK168.out 1).trans rfl, (blk_cell BK168.out 2).trans rfl, (blk_cell BK168.out 3).trans rfl, (blk_cell BK168.out 4).trans rfl, (blk_cell BK168.out 5).trans rfl, (blk_cell BK168.out 6).trans rfl, (blk_cell BK168.out 7).trans rfl⟩ (fun hHeld => ?_)
        clear hK K
        refine norm_ (a' := ?_) ?_ ?_
        rotate_left
        · show Act.put _ (some 4) _ = _
          simp only [Act.put, List.setIfInBounds_toArray, List.set_cons_zero, List.set_cons_succ, i64_w, i32_w]
          rfl
        refine one_ (i := 17) (N := some 22) #[true, true, true, true, true, true, true, true, true, true, true, true, true, true, true, true, true, true, true, false] rfl rfl (one_of HT_.out (by kernel_rfl)) (by decide) (fun K hK => ?_)
        refine goes_ Tryd.func16 (by kernel_rfl) rfl #[.int .i64 a0_0, .int .i64 a0_1, .int .i64 a0_2, .int .i64 a0_3, .int .i64 a0_4, .int .i64 a0_5, .int .i64 a0_6, .pointer (some ⟨gL, 0, none⟩)] (by rfl) rfl rfl (by (try simp only [List.map_toArray, List.map_cons, List.map_nil]); first | done | rfl | (simp only [List.length_drop, List.length_take]; rfl)) ?_
        with_reducible refine (zztime_Date.calls a0_0 a0_1 a0_2 a0_3 a0_4 a0_5 a0_6 a0_7 t170 t171 t172 gL _ ((blk_cell BKZ.out 0).trans rfl) A2.out).mono ?_
        rintro e w8 ⟨rfl, hb⟩
        refine ⟨_, rfl, ?_⟩
        have n0_ := Aside0.mk (blk_below (g := gb168) (o := .cells #[.int .i64 a0_0, .int .i64 a0_1, .int .i64 a0_2, .int .i64 a0_3, .int .i64 a0_4, .int .i64 a0_5, .int .i64 a0_6, .int .i64 a0_7] 32 (0, 0)) (by (with_reducible repeat (first | refine blk_drewN ?_ _ | refine blk_drew ?_ | refine blk_alloc ?_ _)); exact BK168.out) hb)
        have n1_ := Aside0.mk (blk_below (g := gb169) (o := .cells #[.int .i64 0, .int .i64 0, .int .i64 0] 36 (0, 0)) (by (with_reducible repeat (first | refine blk_drewN ?_ _ | refine blk_drew ?_ | refine blk_alloc ?_ _)); exact BK169.out) hb)
        have n2_ := Aside0.mk (blk_below (g := gb173) (o := .cells #[.int .i64 0, .int .i64 0, .int .i64 0] 36 (0, 0)) (by (with_reducible repeat (first | refine blk_drewN ?_ _ | refine blk_drew ?_ | refine blk_alloc ?_ _)); exact BK173.out) hb)
        have n3_ := Aside0.mk (below_step (by repeat (first | (with_reducible first | exact HB.out | apply below_alloc | apply pw_below_drewN | apply below_drew1 | refine below_set ?_ GE168.out | refine below_set ?_ GE169.out | refine below_set ?_ GE173.out) | exact HB.out)) hb)
        clear BK168
        clear BK169
        clear BK173
        clear HB
        have BK168 := n0_
        have BK169 := n1_
        have BK173 := n2_
        have HB := n3_
        clear n0_ n1_ n2_ n3_
        (try clear hb)
        (try clear hb2)
        (try clear hk)
        (try clear hi)
        refine hK.out _ _ ⟨(blk_cell BK168.out 0).trans rfl, (blk_cell BK168.out 1).trans rfl, (blk_cell BK168.out 2).trans rfl, (blk_cell BK168.out 3).trans rfl, (blk_cell BK168.out 4).trans rfl, (blk_cell BK168.out 5).trans rfl, (blk_cell BK168.out 6).trans rfl, (blk_cell BK168.out 7).trans rfl⟩ (fun hHeld => ?_)
        clear hK K
        refine norm_ (a' := ?_) ?_ ?_
        rotate_left
        · show Act.put _ (some 22) _ = _
          simp only [Act.put, List.setIfInBounds_toArray, List.set_cons_zero, List.set_cons_succ, i64_w, i32_w]
          rfl
        exact norm_ (by simp only [putAll, Act.put, List.setIfInBounds_toArray, List.set_cons_zero, List.set_cons_succ]) (hCont (gb173, gL) _ ⟨hHeld, (by (with_reducible repeat (first | refine blk_drewN ?_ _ | refine blk_drew ?_ | refine blk_alloc ?_ _)); exact BK168.out), (by (with_reducible repeat (first | refine blk_drewN ?_ _ | refine blk_drew ?_ | refine blk_alloc ?_ _)); exact BK169.out), (by (with_reducible repeat (first | refine blk_drewN ?_ _ | refine blk_drew ?_ | refine blk_alloc ?_ _)); exact BK173.out), GW173.out, GE173.out, NB168_173.out, NB173_168.out, NB169_173.out, NB173_169.out, (by repeat (first | (with_reducible first | exact HB.out | apply below_alloc | apply pw_below_drewN | apply below_drew1 | refine below_set ?_ GE168.out | refine below_set ?_ GE169.out | refine below_set ?_ GE173.out) | exact HB.out))⟩)
    · skip
      refine box_step ?hg (N := 4) ?hd (cs := #[.int .i64 0, .int .i64 0, .int .i64 0]) (t := 36) ?hr ?_; (case hd => rfl); (case hg => rfl); (case hr => first | (go_simp; done) | (go_simp; rfl) | (go_simp; simp [IntKind.wrap_u8]; done))
      intro gb173 hg w7 hbox hb
      have n0_ := Aside0.mk (blk_below (g := gb168) (o := .cells #[.int .i64 a0_0, .int .i64 a0_1, .int .i64 a0_2, .int .i64 a0_3, .int .i64 a0_4, .int .i64 a0_5, .int .i64 a0_6, .int .i64 a0_7] 32 (0, 0)) (by (with_reducible repeat (first | refine blk_drewN ?_ _ | refine blk_drew ?_ | refine blk_alloc ?_ _)); exact BK168.out) hb)
      have n1_ := Aside0.mk (blk_below (g := gb169) (o := .cells #[.int .i64 0, .int .i64 0, .int .i64 0] 36 (0, 0)) (by (with_reducible repeat (first | refine blk_drewN ?_ _ | refine blk_drew ?_ | refine blk_alloc ?_ _)); exact BK169.out) hb)
      have n2_ := Aside0.mk (below_step (by repeat (first | (with_reducible first | exact HB.out | apply below_alloc | apply pw_below_drewN | apply below_drew1 | refine below_set ?_ GE168.out | refine below_set ?_ GE169.out) | exact HB.out)) hb)
      have n3_ := Aside0.mk (hbox)
      have n4_ := Aside0.mk ((by rw [hg]; exact (below_size (by repeat (first | (with_reducible first | exact HB.out | apply below_alloc | apply pw_below_drewN | apply below_drew1 | refine below_set ?_ GE168.out | refine below_set ?_ GE169.out) | exact HB.out))) : w.heap.size ≤ gb173))
      have n5_ := Aside0.mk ((by rw [hg]; exact (below_size (by repeat (first | (with_reducible first | exact HB.out | apply below_alloc | apply pw_below_drewN | apply below_drew1 | refine below_set ?_ GE168.out | refine below_set ?_ GE169.out) | exact HB.out))) : w.heap.size ≤ gb173))
      have n6_ := Aside0.mk ((by rw [hg]; exact Nat.ne_of_lt (blk_lt (g := gb168) (o := .cells #[.int .i64 a0_0, .int .i64 a0_1, .int .i64 a0_2, .int .i64 a0_3, .int .i64 a0_4, .int .i64 a0_5, .int .i64 a0_6, .int .i64 a0_7] 32 (0, 0)) (by (with_reducible repeat (first | refine blk_drewN ?_ _ | refine blk_drew ?_ | refine blk_alloc ?_ _)); exact BK168.out)) : gb168 ≠ gb173))
      have n7_ := Aside0.mk ((by rw [hg]; exact Nat.ne_of_gt (blk_lt (g := gb168) (o := .cells #[.int .i64 a0_0, .int .i64 a0_1, .int .i64 a0_2, .int .i64 a0_3, .int .i64 a0_4, .int .i64 a0_5, .int .i64 a0_6, .int .i64 a0_7] 32 (0, 0)) (by (with_reducible repeat (first | refine blk_drewN ?_ _ | refine blk_drew ?_ | refine blk_alloc ?_ _)); exact BK168.out)) : gb173 ≠ gb168))
      have n8_ := Aside0.mk ((by rw [hg]; exact Nat.ne_of_lt (blk_lt (g := gb169) (o := .cells #[.int .i64 0, .int .i64 0, .int .i64 0] 36 (0, 0)) (by (with_reducible repeat (first | refine blk_drewN ?_ _ | refine blk_drew ?_ | refine blk_alloc ?_ _)); exact BK169.out)) : gb169 ≠ gb173))
      have n9_ := Aside0.mk ((by rw [hg]; exact Nat.ne_of_gt (blk_lt (g := gb169) (o := .cells #[.int .i64 0, .int .i64 0, .int .i64 0] 36 (0, 0)) (by (with_reducible repeat (first | refine blk_drewN ?_ _ | refine blk_drew ?_ | refine blk_alloc ?_ _)); exact BK169.out)) : gb173 ≠ gb169))
      clear BK168
      clear BK169
      clear HB
      have BK168 := n0_
      have BK169 := n1_
      have HB := n2_
      have BK173 := n3_
      have GW173 := n4_
      have GE173 := n5_
      have NB168_173 := n6_
      have NB173_168 := n7_
      have NB169_173 := n8_
      have NB173_169 := n9_
      clear n0_ n1_ n2_ n3_ n4_ n5_ n6_ n7_ n8_ n9_
      clear hb hbox hg
      refine hK.out _ _ ⟨(blk_cell BK168.out 0).trans rfl, (blk_cell BK168.out 1).trans rfl, (blk_cell BK168.out 2).trans rfl, (blk_cell BK168.out 3).trans rfl, (blk_cell BK168.out 4).trans rfl, (blk_cell BK168.out 5).trans rfl, (blk_cell BK168.out 6).trans rfl, (blk_cell BK168.out 7).trans rfl⟩ (fun hHeld => ?_)
      clear hK K
      refine norm_ (a' := ?_) ?_ ?_
      rotate_left
      · show Act.put _ (some 4) _ = _
        simp only [Act.put, List.setIfInBounds_toArray, List.set_cons_zero, List.set_cons_succ, i64_w, i32_w]
        rfl
      refine one_ (i := 16) (N := some 21) #[true, true, true, true, true, true, true, true, true, true, true, true, true, true, true, true, true, false, true, false] rfl rfl (one_of HT_.out (by kernel_rfl)) (by decide) (fun K hK => ?_)
      refine goes_ Tryd.func17 (by kernel_rfl) rfl #[.string (⟨#[]⟩ : ByteArray), .int .i64 a0_7] (by rfl) rfl rfl (by (try simp only [List.map_toArray, List.map_cons, List.map_nil]); first | done | rfl) ?_
      with_reducible refine (zztime_FixedZone.calls _ a0_7 a0_7 w _ HB.out rfl).mono ?_
      rintro e wz ⟨gL, rfl, hZ, hb0, hb⟩
      refine ⟨_, rfl, ?_⟩
      have n0_ := Aside0.mk (blk_below (g := gb168) (o := .cells #[.int .i64 a0_0, .int .i64 a0_1, .int .i64 a0_2, .int .i64 a0_3, .int .i64 a0_4, .int .i64 a0_5, .int .i64 a0_6, .int .i64 a0_7] 32 (0, 0)) BK168.out hb)
      have n1_ := Aside0.mk (blk_below (g := gb169) (o := .cells #[.int .i64 0, .int .i64 0, .int .i64 0] 36 (0, 0)) BK169.out hb)
      have n2_ := Aside0.mk (blk_below (g := gb173) (o := .cells #[.int .i64 0, .int .i64 0, .int .i64 0] 36 (0, 0)) BK173.out hb)
      have n3_ := Aside0.mk hZ.1
      have n4_ := Aside0.mk hb0
      clear BK168 BK169 HB BK173
      clear hZ hb0 hb
      have BK168 := n0_
      have BK169 := n1_
      have BK173 := n2_
      have BKZ := n3_
      have HB := n4_
      clear n0_ n1_ n3_ n4_ n2_
      refine hK.out _ _ ⟨(blk_cell BK168.out 0).trans rfl, (blk_cell BK168.out 1).trans rfl, (blk_cell BK168.out 2).trans rfl, (blk_cell BK168.out 3).trans rfl, (blk_cell BK168.out 4).trans rfl, (blk_cell BK168.out 5).trans rfl, (blk_cell BK168.out 6).trans rfl, (blk_cell BK168.out 7).trans rfl⟩ (fun hHeld => ?_)
      clear hK K
      refine norm_ (a' := ?_) ?_ ?_
      rotate_left
      · show Act.put _ (some 21) _ = _
        simp only [Act.put, List.setIfInBounds_toArray, List.set_cons_zero, List.set_cons_succ, i64_w, i32_w]
        rfl
      refine one_ (i := 17) (N := some 22) #[true, true, true, true, true, true, true, true, true, true, true, true, true, true, true, true, true, true, true, false] rfl rfl (one_of HT_.out (by kernel_rfl)) (by decide) (fun K hK => ?_)
      refine goes_ Tryd.func16 (by kernel_rfl) rfl #[.int .i64 a0_0, .int .i64 a0_1, .int .i64 a0_2, .int .i64 a0_3, .int .i64 a0_4, .int .i64 a0_5, .int .i64 a0_6, .pointer (some ⟨gL, 0, none⟩)] (by rfl) rfl rfl (by (try simp only [List.map_toArray, List.map_cons, List.map_nil]); first | done | rfl | (simp only [List.length_drop, List.length_take]; rfl)) ?_
      with_reducible refine (zztime_Date.calls a0_0 a0_1 a0_2 a0_3 a0_4 a0_5 a0_6 a0_7 t170 t171 t172 gL _ ((blk_cell BKZ.out 0).trans rfl) A2.out).mono ?_
      rintro e w8 ⟨rfl, hb⟩
      refine ⟨_, rfl, ?_⟩
      have n0_ := Aside0.mk (blk_below (g := gb168) (o := .cells #[.int .i64 a0_0, .int .i64 a0_1, .int .i64 a0_2, .int .i64 a0_3, .int .i64 a0_4, .int .i64 a0_5, .int .i64 a0_6, .int .i64 a0_7] 32 (0, 0)) (by (with_reducible repeat (first | refine blk_drewN ?_ _ | refine blk_drew ?_ | refine blk_alloc ?_ _)); exact BK168.out) hb)
      have n1_ := Aside0.mk (blk_below (g := gb169) (o := .cells #[.int .i64 0, .int .i64 0, .int .i64 0] 36 (0, 0)) (by (with_reducible repeat (first | refine blk_drewN ?_ _ | refine blk_drew ?_ | refine blk_alloc ?_ _)); exact BK169.out) hb)
      have n2_ := Aside0.mk (blk_below (g := gb173) (o := .cells #[.int .i64 0, .int .i64 0, .int .i64 0] 36 (0, 0)) (by (with_reducible repeat (first | refine blk_drewN ?_ _ | refine blk_drew ?_ | refine blk_alloc ?_ _)); exact BK173.out) hb)
      have n3_ := Aside0.mk (below_step (by repeat (first | (with_reducible first | exact HB.out | apply below_alloc | apply pw_below_drewN | apply below_drew1 | refine below_set ?_ GE168.out | refine below_set ?_ GE169.out | refine below_set ?_ GE173.out) | exact HB.out)) hb)
      clear BK168
      clear BK169
      clear BK173
      clear HB
      have BK168 := n0_
      have BK169 := n1_
      have BK173 := n2_
      have HB := n3_
      clear n0_ n1_ n2_ n3_
      (try clear hb)
      (try clear hb2)
      (try clear hk)
      (try clear hi)
      refine hK.out _ _ ⟨(blk_cell BK168.out 0).trans rfl, (blk_cell BK168.out 1).trans rfl, (blk_cell BK168.out 2).trans rfl, (blk_cell BK168.out 3).trans rfl, (blk_cell BK168.out 4).trans rfl, (blk_cell BK168.out 5).trans rfl, (blk_cell BK168.out 6).trans rfl, (blk_cell BK168.out 7).trans rfl⟩ (fun hHeld => ?_)
      clear hK K
      refine norm_ (a' := ?_) ?_ ?_
      rotate_left
      · show Act.put _ (some 22) _ = _
        simp only [Act.put, List.setIfInBounds_toArray, List.set_cons_zero, List.set_cons_succ, i64_w, i32_w]
        rfl
      exact norm_ (by simp only [putAll, Act.put, List.setIfInBounds_toArray, List.set_cons_zero, List.set_cons_succ]) (hCont (gb173, gL) _ ⟨hHeld, (by (with_reducible repeat (first | refine blk_drewN ?_ _ | refine blk_drew ?_ | refine blk_alloc ?_ _)); exact BK168.out), (by (with_reducible repeat (first | refine blk_drewN ?_ _ | refine blk_drew ?_ | refine blk_alloc ?_ _)); exact BK169.out), (by (with_reducible repeat (first | refine blk_drewN ?_ _ | refine blk_drew ?_ | refine blk_alloc ?_ _)); exact BK173.out), GW173.out, GE173.out, NB168_173.out, NB173_168.out, NB169_173.out, NB173_169.out, (by repeat (first | (with_reducible first | exact HB.out | apply below_alloc | apply pw_below_drewN | apply below_drew1 | refine below_set ?_ GE168.out | refine below_set ?_ GE169.out | refine below_set ?_ GE173.out) | exact HB.out))⟩)
  rintro ⟨gb173, gLL⟩ w9 ⟨hS_, h0_, h1_, h2_, h3_, h4_, h5_, h6_, h7_, h8_, h9_⟩
  have n0_ : Aside0 (w9.heap[gb168]? = some (.cells #[.int .i64 a0_0, .int .i64 a0_1, .int .i64 a0_2, .int .i64 a0_3, .int .i64 a0_4, .int .i64 a0_5, .int .i64 a0_6, .int .i64 a0_7] 32 (0, 0))) := ⟨h0_⟩
  have n1_ : Aside0 (w9.heap[gb169]? = some (.cells #[.int .i64 0, .int .i64 0, .int .i64 0] 36 (0, 0))) := ⟨h1_⟩
  have n2_ : Aside0 (w9.heap[gb173]? = some (.cells #[.int .i64 0, .int .i64 0, .int .i64 0] 36 (0, 0))) := ⟨h2_⟩
  have n3_ : Aside0 (w.heap.size ≤ gb173) := ⟨h3_⟩
  have n4_ : Aside0 (w.heap.size ≤ gb173) := ⟨h4_⟩
  have n5_ : Aside0 (gb168 ≠ gb173) := ⟨h5_⟩
  have n6_ : Aside0 (gb173 ≠ gb168) := ⟨h6_⟩
  have n7_ : Aside0 (gb169 ≠ gb173) := ⟨h7_⟩
  have n8_ : Aside0 (gb173 ≠ gb169) := ⟨h8_⟩
  have n9_ : Aside0 (Below w.heap.size w w9) := ⟨h9_⟩
  clear BK168
  clear BK169
  clear HB
  clear h0_ h1_ h2_ h3_ h4_ h5_ h6_ h7_ h8_ h9_
  have BK168 := n0_
  have BK169 := n1_
  have BK173 := n2_
  have GW173 := n3_
  have GE173 := n4_
  have NB168_173 := n5_
  have NB173_168 := n6_
  have NB169_173 := n7_
  have NB173_169 := n8_
  have HB := n9_
  clear n0_ n1_ n2_ n3_ n4_ n5_ n6_ n7_ n8_ n9_
  have hHeld : w9.cell? ⟨gb168, 0, none⟩ = some (.int .i64 a0_0) ∧ w9.cell? ⟨gb168, 1, none⟩ = some (.int .i64 a0_1) ∧ w9.cell? ⟨gb168, 2, none⟩ = some (.int .i64 a0_2) ∧ w9.cell? ⟨gb168, 3, none⟩ = some (.int .i64 a0_3) ∧ w9.cell? ⟨gb168, 4, none⟩ = some (.int .i64 a0_4) ∧ w9.cell? ⟨gb168, 5, none⟩ = some (.int .i64 a0_5) ∧ w9.cell? ⟨gb168, 6, none⟩ = some (.int .i64 a0_6) ∧ w9.cell? ⟨gb168, 7, none⟩ = some (.int .i64 a0_7) := hS_
  refine norm_ (a' := ?_) ?_ ?_
  rotate_left
  · simp only [putAll, Act.put, List.setIfInBounds_toArray, List.set_cons_zero, List.set_cons_succ]
    rfl
  refine one_ (i := 19) (N := none) #[true, true, true, true, true, true, true, true, true, true, true, true, true, true, true, true, true, true, true, true] rfl rfl (one_of HT_.out (by kernel_rfl)) (by decide) (fun K hK => ?_)
  have hs10 : w9.cell? ⟨gb173, 0, none⟩ = some (.int .i64 0) := (blk_cell BK173.out 0).trans rfl
  have hfs10 := blk_frozen BK173.out 0
  have hns10_0 := NB168_173.out
  have hns10_1 := NB169_173.out
  have hms10_0 := NB173_168.out
  have hms10_1 := NB173_169.out
  have hs11 : w9.cell? ⟨gb173, 1, none⟩ = some (.int .i64 0) := (blk_cell BK173.out 1).trans rfl
  have hfs11 := blk_frozen BK173.out 1
  have hns11_0 := NB168_173.out
  have hns11_1 := NB169_173.out
  have hms11_0 := NB173_168.out
  have hms11_1 := NB173_169.out
  have hs12 : w9.cell? ⟨gb173, 2, none⟩ = some (.int .i64 0) := (blk_cell BK173.out 2).trans rfl
  have hfs12 := blk_frozen BK173.out 2
  have hns12_0 := NB168_173.out
  have hns12_1 := NB169_173.out
  have hms12_0 := NB173_168.out
  have hms12_1 := NB173_169.out
  refine skip_ (w1 := ?_) (by rfl) rfl ?_ ?_
  rotate_left
  · go_simp
    rfl
  refine hK.out _ _ ⟨((cell_far (p := ⟨gb173, _, none⟩) NB168_173.out _).trans (((cell_far (p := ⟨gb173, _, none⟩) NB168_173.out _).trans (((cell_far (p := ⟨gb173, _, none⟩) NB168_173.out _).trans (hHeld.1)))))), ((cell_far (p := ⟨gb173, _, none⟩) NB168_173.out _).trans (((cell_far (p := ⟨gb173, _, none⟩) NB168_173.out _).trans (((cell_far (p := ⟨gb173, _, none⟩) NB168_173.out _).trans (hHeld.2.1)))))), ((cell_far (p := ⟨gb173, _, none⟩) NB168_173.out _).trans (((cell_far (p := ⟨gb173, _, none⟩) NB168_173.out _).trans (((cell_far (p := ⟨gb173, _, none⟩) NB168_173.out _).trans (hHeld.2.2.1)))))), ((cell_far (p := ⟨gb173, _, none⟩) NB168_173.out _).trans (((cell_far (p := ⟨gb173, _, none⟩) NB168_173.out _).trans (((cell_far (p := ⟨gb173, _, none⟩) NB168_173.out _).trans (hHeld.2.2.2.1)))))), ((cell_far (p := ⟨gb173, _, none⟩) NB168_173.out _).trans (((cell_far (p := ⟨gb173, _, none⟩) NB168_173.out _).trans (((cell_far (p := ⟨gb173, _, none⟩) NB168_173.out _).trans (hHeld.2.2.2.2.1)))))), ((cell_far (p := ⟨gb173, _, none⟩) NB168_173.out _).trans (((cell_far (p := ⟨gb173, _, none⟩) NB168_173.out _).trans (((cell_far (p := ⟨gb173, _, none⟩) NB168_173.out _).trans (hHeld.2.2.2.2.2.1)))))), ((cell_far (p := ⟨gb173, _, none⟩) NB168_173.out _).trans (((cell_far (p := ⟨gb173, _, none⟩) NB168_173.out _).trans (((cell_far (p := ⟨gb173, _, none⟩) NB168_173.out _).trans (hHeld.2.2.2.2.2.2.1)))))), ((cell_far (p := ⟨gb173, _, none⟩) NB168_173.out _).trans (((cell_far (p := ⟨gb173, _, none⟩) NB168_173.out _).trans (((cell_far (p := ⟨gb173, _, none⟩) NB168_173.out _).trans (hHeld.2.2.2.2.2.2.2))))))⟩ (fun hHeld => ?_)
  clear hK K
  refine done_ (done_of HT_.out (by kernel_rfl)) ?_
  try go_wp2
  have n0_ : Aside0 ((((w9.setCell ⟨gb173, 0, none⟩ (.int .i64 t170)).setCell ⟨gb173, 1, none⟩ (.int .i64 t171)).setCell ⟨gb173, 2, none⟩ (.int .i64 t172)).heap[gb168]? = some (.cells #[.int .i64 a0_0, .int .i64 a0_1, .int .i64 a0_2, .int .i64 a0_3, .int .i64 a0_4, .int .i64 a0_5, .int .i64 a0_6, .int .i64 a0_7] 32 (0, 0))) := ⟨by (with_reducible repeat (first | refine blk_drewN ?_ _ | refine blk_drew ?_ | refine blk_alloc ?_ _)); refine blk_far ?_ NB168_173.out _; (with_reducible repeat (first | refine blk_drewN ?_ _ | refine blk_drew ?_ | refine blk_alloc ?_ _)); refine blk_far ?_ NB168_173.out _; (with_reducible repeat (first | refine blk_drewN ?_ _ | refine blk_drew ?_ | refine blk_alloc ?_ _)); refine blk_far ?_ NB168_173.out _; (with_reducible repeat (first | refine blk_drewN ?_ _ | refine blk_drew ?_ | refine blk_alloc ?_ _)); exact BK168.out⟩
  have n1_ : Aside0 ((((w9.setCell ⟨gb173, 0, none⟩ (.int .i64 t170)).setCell ⟨gb173, 1, none⟩ (.int .i64 t171)).setCell ⟨gb173, 2, none⟩ (.int .i64 t172)).heap[gb169]? = some (.cells #[.int .i64 0, .int .i64 0, .int .i64 0] 36 (0, 0))) := ⟨by (with_reducible repeat (first | refine blk_drewN ?_ _ | refine blk_drew ?_ | refine blk_alloc ?_ _)); refine blk_far ?_ NB169_173.out _; (with_reducible repeat (first | refine blk_drewN ?_ _ | refine blk_drew ?_ | refine blk_alloc ?_ _)); refine blk_far ?_ NB169_173.out _; (with_reducible repeat (first | refine blk_drewN ?_ _ | refine blk_drew ?_ | refine blk_alloc ?_ _)); refine blk_far ?_ NB169_173.out _; (with_reducible repeat (first | refine blk_drewN ?_ _ | refine blk_drew ?_ | refine blk_alloc ?_ _)); exact BK169.out⟩
  have n2_ : Aside0 ((((w9.setCell ⟨gb173, 0, none⟩ (.int .i64 t170)).setCell ⟨gb173, 1, none⟩ (.int .i64 t171)).setCell ⟨gb173, 2, none⟩ (.int .i64 t172)).heap[gb173]? = some (.cells #[.int .i64 t170, .int .i64 t171, .int .i64 t172] 36 (0, 0))) := ⟨by (with_reducible repeat (first | refine blk_drewN ?_ _ | refine blk_drew ?_ | refine blk_alloc ?_ _)); refine blk_put (cs := #[.int .i64 t170, .int .i64 t171, .int .i64 0]) ?_ 2 _ rfl; (with_reducible repeat (first | refine blk_drewN ?_ _ | refine blk_drew ?_ | refine blk_alloc ?_ _)); refine blk_put (cs := #[.int .i64 t170, .int .i64 0, .int .i64 0]) ?_ 1 _ rfl; (with_reducible repeat (first | refine blk_drewN ?_ _ | refine blk_drew ?_ | refine blk_alloc ?_ _)); refine blk_put (cs := #[.int .i64 0, .int .i64 0, .int .i64 0]) ?_ 0 _ rfl; (with_reducible repeat (first | refine blk_drewN ?_ _ | refine blk_drew ?_ | refine blk_alloc ?_ _)); exact BK173.out⟩
  have n3_ : Aside0 (Below w.heap.size w (((w9.setCell ⟨gb173, 0, none⟩ (.int .i64 t170)).setCell ⟨gb173, 1, none⟩ (.int .i64 t171)).setCell ⟨gb173, 2, none⟩ (.int .i64 t172))) := ⟨by repeat (first | (with_reducible first | exact HB.out | apply below_alloc | apply pw_below_drewN | apply below_drew1 | refine below_set ?_ GE168.out | refine below_set ?_ GE169.out | refine below_set ?_ GE173.out) | exact HB.out)⟩
  (try clear BK168)
  (try clear BK169)
  (try clear BK173)
  (try clear HB)
  generalize (((w9.setCell ⟨gb173, 0, none⟩ (.int .i64 t170)).setCell ⟨gb173, 1, none⟩ (.int .i64 t171)).setCell ⟨gb173, 2, none⟩ (.int .i64 t172)) = w13 at n0_ n1_ n2_ n3_ ⊢
  have BK168 := n0_
  have BK169 := n1_
  have BK173 := n2_
  have HB := n3_
  clear n0_ n1_ n2_ n3_
  have n0_ := Aside0.mk (blk_drew BK168.out)
  have n1_ := Aside0.mk (blk_drew BK169.out)
  have n2_ := Aside0.mk (blk_drew BK173.out)
  have n3_ := Aside0.mk (below_drew1 HB.out)
  clear BK168
  clear BK169
  clear BK173
  clear HB
  have BK168 := n0_
  have BK169 := n1_
  have BK173 := n2_
  have HB := n3_
  clear n0_ n1_ n2_ n3_
  refine start_ (n := 7) (S := fun w' => w'.cell? ⟨gb173, 0, none⟩ = some (.int .i64 t170) ∧ w'.cell? ⟨gb173, 1, none⟩ = some (.int .i64 t171) ∧ w'.cell? ⟨gb173, 2, none⟩ = some (.int .i64 t172) ∧ w'.cell? ⟨gb168, 0, none⟩ = some (.int .i64 a0_0) ∧ w'.cell? ⟨gb168, 1, none⟩ = some (.int .i64 a0_1) ∧ w'.cell? ⟨gb168, 2, none⟩ = some (.int .i64 a0_2) ∧ w'.cell? ⟨gb168, 3, none⟩ = some (.int .i64 a0_3) ∧ w'.cell? ⟨gb168, 4, none⟩ = some (.int .i64 a0_4) ∧ w'.cell? ⟨gb168, 5, none⟩ = some (.int .i64 a0_5) ∧ w'.cell? ⟨gb168, 6, none⟩ = some (.int .i64 a0_6) ∧ w'.cell? ⟨gb168, 7, none⟩ = some (.int .i64 a0_7)) (ds := []) #[false, false, false, false, false, false, false] (by kernel_rfl) rfl rfl ⟨(blk_cell BK173.out 0).trans rfl, (blk_cell BK173.out 1).trans rfl, (blk_cell BK173.out 2).trans rfl, (blk_cell BK168.out 0).trans rfl, (blk_cell BK168.out 1).trans rfl, (blk_cell BK168.out 2).trans rfl, (blk_cell BK168.out 3).trans rfl, (blk_cell BK168.out 4).trans rfl, (blk_cell BK168.out 5).trans rfl, (blk_cell BK168.out 6).trans rfl, (blk_cell BK168.out 7).trans rfl⟩ (fun hHeld => ?_)
  generalize w13.drew = w14 at BK168 BK169 BK173 HB hHeld ⊢
  refine take_ (i := 0) (N := some 23) (v := ?_) (a' := ?_) #[true, false, false, false, false, false, false] rfl rfl (by kernel_rfl) (fun _ _ _ h => h) (Or.inl ⟨by rfl, ?_⟩) hHeld ?_ ?_
  rotate_left
  · rintro w' ⟨s0, s1, s2, s3, s4, s5, s6, s7, s8, s9, s10⟩
    go_simp
    with_reducible rfl
  rotate_left
  · simp only [Act.put, List.setIfInBounds_toArray, List.set_cons_zero, List.set_cons_succ, i64_w, i32_w]
    rfl
  refine take_ (i := 1) (N := some 24) (v := ?_) (a' := ?_) #[true, true, false, false, false, false, false] rfl rfl (by kernel_rfl) (fun _ _ _ h => h) (Or.inl ⟨by rfl, ?_⟩) hHeld ?_ ?_
  rotate_left
  · rintro w' ⟨s0, s1, s2, s3, s4, s5, s6, s7, s8, s9, s10⟩
    go_simp
    with_reducible rfl
  rotate_left
  · simp only [Act.put, List.setIfInBounds_toArray, List.set_cons_zero, List.set_cons_succ, i64_w, i32_w]
    rfl
  refine take_ (i := 3) (N := some 26) (v := ?_) (a' := ?_) #[true, true, false, true, false, false, false] rfl rfl (by kernel_rfl) (fun _ _ _ h => h) (Or.inl ⟨by rfl, ?_⟩) hHeld ?_ ?_
  rotate_left
  · rintro w' ⟨s0, s1, s2, s3, s4, s5, s6, s7, s8, s9, s10⟩
    go_simp
    with_reducible rfl
  rotate_left
  · simp only [Act.put, List.setIfInBounds_toArray, List.set_cons_zero, List.set_cons_succ, i64_w, i32_w]
    rfl
  refine one_ (i := 2) (N := some 25) #[true, true, true, true, false, false, false] rfl rfl (by kernel_rfl) (by decide) (fun K hK => ?_)
  refine goes_ Tryd.func18 (by kernel_rfl) rfl #[.agg #[.int .i64 t170, .int .i64 t171, .int .i64 t172]] (by rfl) rfl rfl (by (try simp only [List.map_toArray, List.map_cons, List.map_nil]); first | done | rfl | (simp only [List.length_drop, List.length_take]; rfl)) ?_
  with_reducible refine (pq_stampOf.calls k t170 t171 t172 t174 t175 t176 t177 t178 t179 t180 t181 _ A3.out).mono ?_
  rintro e w15 ⟨rfl, hb⟩
  refine ⟨_, rfl, ?_⟩
  have n0_ := Aside0.mk (blk_below (g := gb168) (o := .cells #[.int .i64 a0_0, .int .i64 a0_1, .int .i64 a0_2, .int .i64 a0_3, .int .i64 a0_4, .int .i64 a0_5, .int .i64 a0_6, .int .i64 a0_7] 32 (0, 0)) (by (with_reducible repeat (first | refine blk_drewN ?_ _ | refine blk_drew ?_ | refine blk_alloc ?_ _)); exact BK168.out) hb)
  have n1_ := Aside0.mk (blk_below (g := gb169) (o := .cells #[.int .i64 0, .int .i64 0, .int .i64 0] 36 (0, 0)) (by (with_reducible repeat (first | refine blk_drewN ?_ _ | refine blk_drew ?_ | refine blk_alloc ?_ _)); exact BK169.out) hb)
  have n2_ := Aside0.mk (blk_below (g := gb173) (o := .cells #[.int .i64 t170, .int .i64 t171, .int .i64 t172] 36 (0, 0)) (by (with_reducible repeat (first | refine blk_drewN ?_ _ | refine blk_drew ?_ | refine blk_alloc ?_ _)); exact BK173.out) hb)
  have n3_ := Aside0.mk (below_step (by repeat (first | (with_reducible first | exact HB.out | apply below_alloc | apply pw_below_drewN | apply below_drew1 | refine below_set ?_ GE168.out | refine below_set ?_ GE169.out | refine below_set ?_ GE173.out) | exact HB.out)) hb)
  clear BK168
  clear BK169
  clear BK173
  clear HB
  have BK168 := n0_
  have BK169 := n1_
  have BK173 := n2_
  have HB := n3_
  clear n0_ n1_ n2_ n3_
  (try clear hb)
  (try clear hb2)
  (try clear hk)
  (try clear hi)
  refine hK.out _ _ ⟨(blk_cell BK173.out 0).trans rfl, (blk_cell BK173.out 1).trans rfl, (blk_cell BK173.out 2).trans rfl, (blk_cell BK168.out 0).trans rfl, (blk_cell BK168.out 1).trans rfl, (blk_cell BK168.out 2).trans rfl, (blk_cell BK168.out 3).trans rfl, (blk_cell BK168.out 4).trans rfl, (blk_cell BK168.out 5).trans rfl, (blk_cell BK168.out 6).trans rfl, (blk_cell BK168.out 7).trans rfl⟩ (fun hHeld => ?_)
  clear hK K
  refine norm_ (a' := ?_) ?_ ?_
  rotate_left
  · show Act.put _ (some 25) _ = _
    simp only [Act.put, List.setIfInBounds_toArray, List.set_cons_zero, List.set_cons_succ, i64_w, i32_w]
    rfl
  refine pure_ (i := 4) (N := some 27) (v := ?_) (a' := ?_) #[true, true, true, true, true, false, false] rfl rfl (by kernel_rfl) (fun _ _ _ h => h) (Or.inl ⟨by rfl, ?_⟩) ?_ ?_
  rotate_left
  · intro w'
    go_simp
    with_reducible rfl
  rotate_left
  · simp only [Act.put, List.setIfInBounds_toArray, List.set_cons_zero, List.set_cons_succ, i64_w, i32_w]
    rfl
  refine one_ (i := 5) (N := none) #[true, true, true, true, true, true, false] rfl rfl (by kernel_rfl) (by decide) (fun K hK => ?_)
  have hs16 : w15.cell? ⟨gb169, 0, none⟩ = some (.int .i64 0) := (blk_cell BK169.out 0).trans rfl
  have hfs16 := blk_frozen BK169.out 0
  have hns16_0 := NB168_169.out
  have hns16_2 := NB173_169.out
  have hms16_0 := NB169_168.out
  have hms16_2 := NB169_173.out
  have hs17 : w15.cell? ⟨gb169, 1, none⟩ = some (.int .i64 0) := (blk_cell BK169.out 1).trans rfl
  have hfs17 := blk_frozen BK169.out 1
  have hns17_0 := NB168_169.out
  have hns17_2 := NB173_169.out
  have hms17_0 := NB169_168.out
  have hms17_2 := NB169_173.out
  have hs18 : w15.cell? ⟨gb169, 2, none⟩ = some (.int .i64 0) := (blk_cell BK169.out 2).trans rfl
  have hfs18 := blk_frozen BK169.out 2
  have hns18_0 := NB168_169.out
  have hns18_2 := NB173_169.out
  have hms18_0 := NB169_168.out
  have hms18_2 := NB169_173.out
  refine skip_ (w1 := ?_) (by rfl) rfl ?_ ?_
  rotate_left
  · go_simp
    rfl
  refine hK.out _ _ ⟨((cell_far (p := ⟨gb169, _, none⟩) NB173_169.out _).trans (((cell_far (p := ⟨gb169, _, none⟩) NB173_169.out _).trans (((cell_far (p := ⟨gb169, _, none⟩) NB173_169.out _).trans (hHeld.1)))))), ((cell_far (p := ⟨gb169, _, none⟩) NB173_169.out _).trans (((cell_far (p := ⟨gb169, _, none⟩) NB173_169.out _).trans (((cell_far (p := ⟨gb169, _, none⟩) NB173_169.out _).trans (hHeld.2.1)))))), ((cell_far (p := ⟨gb169, _, none⟩) NB173_169.out _).trans (((cell_far (p := ⟨gb169, _, none⟩) NB173_169.out _).trans (((cell_far (p := ⟨gb169, _, none⟩) NB173_169.out _).trans (hHeld.2.2.1)))))), ((cell_far (p := ⟨gb169, _, none⟩) NB168_169.out _).trans (((cell_far (p := ⟨gb169, _, none⟩) NB168_169.out _).trans (((cell_far (p := ⟨gb169, _, none⟩) NB168_169.out _).trans (hHeld.2.2.2.1)))))), ((cell_far (p := ⟨gb169, _, none⟩) NB168_169.out _).trans (((cell_far (p := ⟨gb169, _, none⟩) NB168_169.out _).trans (((cell_far (p := ⟨gb169, _, none⟩) NB168_169.out _).trans (hHeld.2.2.2.2.1)))))), ((cell_far (p := ⟨gb169, _, none⟩) NB168_169.out _).trans (((cell_far (p := ⟨gb169, _, none⟩) NB168_169.out _).trans (((cell_far (p := ⟨gb169, _, none⟩) NB168_169.out _).trans (hHeld.2.2.2.2.2.1)))))), ((cell_far (p := ⟨gb169, _, none⟩) NB168_169.out _).trans (((cell_far (p := ⟨gb169, _, none⟩) NB168_169.out _).trans (((cell_far (p := ⟨gb169, _, none⟩) NB168_169.out _).trans (hHeld.2.2.2.2.2.2.1)))))), ((cell_far (p := ⟨gb169, _, none⟩) NB168_169.out _).trans (((cell_far (p := ⟨gb169, _, none⟩) NB168_169.out _).trans (((cell_far (p := ⟨gb169, _, none⟩) NB168_169.out _).trans (hHeld.2.2.2.2.2.2.2.1)))))), ((cell_far (p := ⟨gb169, _, none⟩) NB168_169.out _).trans (((cell_far (p := ⟨gb169, _, none⟩) NB168_169.out _).trans (((cell_far (p := ⟨gb169, _, none⟩) NB168_169.out _).trans (hHeld.2.2.2.2.2.2.2.2.1)))))), ((cell_far (p := ⟨gb169, _, none⟩) NB168_169.out _).trans (((cell_far (p := ⟨gb169, _, none⟩) NB168_169.out _).trans (((cell_far (p := ⟨gb169, _, none⟩) NB168_169.out _).trans (hHeld.2.2.2.2.2.2.2.2.2.1)))))), ((cell_far (p := ⟨gb169, _, none⟩) NB168_169.out _).trans (((cell_far (p := ⟨gb169, _, none⟩) NB168_169.out _).trans (((cell_far (p := ⟨gb169, _, none⟩) NB168_169.out _).trans (hHeld.2.2.2.2.2.2.2.2.2.2))))))⟩ (fun hHeld => ?_)
  clear hK K
  refine pure_ (i := 6) (N := some 3) (v := ?_) (a' := ?_) #[true, true, true, true, true, true, true] rfl rfl (by kernel_rfl) (fun _ _ _ h => h) (Or.inl ⟨by rfl, ?_⟩) ?_ ?_
  rotate_left
  · intro w'
    go_simp
    with_reducible rfl
  rotate_left
  · simp only [Act.put, List.setIfInBounds_toArray, List.set_cons_zero, List.set_cons_succ, i64_w, i32_w]
    rfl
  refine done_ (by kernel_rfl) ?_
  try go_wp2
  refine bodyPost_ret (results_ct rfl _ _ gb169 36 #[.int .i64 t170, .int .i64 t171, .int .i64 t172] (0, 0) _ rfl (by (with_reducible repeat (first | refine blk_drewN ?_ _ | refine blk_drew ?_ | refine blk_alloc ?_ _)); refine blk_put (cs := #[.int .i64 t170, .int .i64 t171, .int .i64 0]) ?_ 2 _ rfl; (with_reducible repeat (first | refine blk_drewN ?_ _ | refine blk_drew ?_ | refine blk_alloc ?_ _)); refine blk_put (cs := #[.int .i64 t170, .int .i64 0, .int .i64 0]) ?_ 1 _ rfl; (with_reducible repeat (first | refine blk_drewN ?_ _ | refine blk_drew ?_ | refine blk_alloc ?_ _)); refine blk_put (cs := #[.int .i64 0, .int .i64 0, .int .i64 0]) ?_ 0 _ rfl; (with_reducible repeat (first | refine blk_drewN ?_ _ | refine blk_drew ?_ | refine blk_alloc ?_ _)); exact BK169.out) Tryd.underlying36 rfl (by kernel_rfl)) rfl ?_
  exact ⟨by first | rfl | (simp [errW_none, errW_some] <;> rfl) | (simp [*, errW_none, errW_some] <;> rfl), by repeat (first | (with_reducible first | exact HB.out | apply below_alloc | apply pw_below_drewN | apply below_drew1 | refine below_set ?_ GE168.out | refine below_set ?_ GE169.out | refine below_set ?_ GE173.out) | exact HB.out)⟩

end Go.Proofs.YtlhjblbmhlelbabDoor.P
