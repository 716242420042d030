-- Written by the program wip/myprint.py of this session, over the kit's print of the translation. Lean checks it.
import Derived.Test.YtlhjblbmhlelbabPx0
import Derived.Test.YtlhjblbmhlelbabPx7
namespace Go.Proofs.Ytlhjblbmhlelbab.P
open Go.RowKit Go.Proofs.YtlhjblbmhlelbabW.PrintWords Go.Proofs.YtlhjblbmhlelbabW.PrintLast Go.Proofs.YtlhjblbmhlelbabW.PrintMore
attribute [local go_sem] max2_int min2_int max_two min_two max_three min_three max_four min_four   -- for this text's walks alone
set_option linter.unusedVariables false
set_option linter.unusedSimpArgs false

/-! ### pq_stampOf: function 33 -/
def pq_stampOf.f (k : Nat) (a0_0 : Int) (a0_1 : Int) (a0_2 : Int) : Option (Int × Int × Int × Int × Int × Int × Int × Int) := (zztime_Time_Zone.f a0_0 a0_1 a0_2).bind fun bt212 => ((zztime_Time_Year.f k a0_0 a0_1 a0_2).bind fun t214 => ((zztime_Time_Month.f k a0_0 a0_1 a0_2).bind fun t215 => ((zztime_Time_Day.f k a0_0 a0_1 a0_2).bind fun t216 => ((zztime_Time_Hour.f k a0_0 a0_1 a0_2).bind fun t217 => ((zztime_Time_Minute.f k a0_0 a0_1 a0_2).bind fun t218 => ((zztime_Time_Second.f k a0_0 a0_1 a0_2).bind fun t219 => ((zztime_Time_Nanosecond.f a0_0 a0_1 a0_2).bind fun t220 => (some (t214, t215, t216, t217, t218, t219, t220, bt212.2)))))))))
theorem pq_stampOf.mono : ∀ a0 a1 a2 k, LeO (pq_stampOf.f k a0 a1 a2) (pq_stampOf.f (k + 1) a0 a1 a2) := by
  intro a0 a1 a2 k
  unfold pq_stampOf.f
  repeat' first
      | (with_reducible exact zztime_Time_Day.mono _ _ _ _)
      | (with_reducible exact zztime_Time_Hour.mono _ _ _ _)
      | (with_reducible exact zztime_Time_Minute.mono _ _ _ _)
      | (with_reducible exact zztime_Time_Month.mono _ _ _ _)
      | (with_reducible exact zztime_Time_Second.mono _ _ _ _)
      | (with_reducible exact zztime_Time_Year.mono _ _ _ _)
      | (with_reducible exact LeO.refl _)
      | (with_reducible exact LeO.none _)
      | (with_reducible refine LeO.ite ?_ ?_)
      | (with_reducible refine LeO.bind ?_ (fun _ => ?_))
      | exact zztime_Time_Day.mono _ _ _ _
      | exact zztime_Time_Hour.mono _ _ _ _
      | exact zztime_Time_Minute.mono _ _ _ _
      | exact zztime_Time_Month.mono _ _ _ _
      | exact zztime_Time_Second.mono _ _ _ _
      | exact zztime_Time_Year.mono _ _ _ _
      | exact LeO.none _
      | refine LeO.ite ?_ ?_
      | refine LeO.bind ?_ (fun _ => ?_)
def pq_stampOf.T2 : Bool × List (List Nat × List Nat) := (true, [([], []), ([0], [0]), ([], []), ([2, 1], [2]), ([], []), ([4, 3], [4]), ([], []), ([6, 5], [6]), ([], []), ([8, 7], [8]), ([], []), ([10, 9], [10]), ([], []), ([12, 11], [12]), ([], []), ([1, 3, 5, 7, 9, 11, 13, 14], [1, 3, 5, 7, 9, 11, 13, 14]), ([15, 13, 0, 1, 2, 3, 4, 5, 6, 7, 8, 9, 10, 11, 12, 13, 14, 15], [15])])
def pq_stampOf.B2 : List Nat := [0, 1, 0, 7, 0, 31, 0, 127, 0, 511, 0, 2047, 0, 8191, 0, 32767, 65535]
theorem pq_stampOf.tab2 : rtab .any (opsOf Try.f33 2) = pq_stampOf.T2 := by kernel_rfl
theorem pq_stampOf.bits2 : waitsOk pq_stampOf.T2.2 pq_stampOf.B2 = true := by kernel_rfl
set_option maxHeartbeats 8000000 in
set_option maxRecDepth 100000 in
theorem pq_stampOf.calls (k : Nat) (a0_0 : Int) (a0_1 : Int) (a0_2 : Int) (r1 : Int) (r2 : Int) (r3 : Int) (r4 : Int) (r5 : Int) (r6 : Int) (r7 : Int) (r8 : Int) (w : World) (h : pq_stampOf.f k a0_0 a0_1 a0_2 = some (r1, r2, r3, r4, r5, r6, r7, r8)) :
    Calls Try.prog 33 #[.agg #[.int .i64 a0_0, .int .i64 a0_1, .int .i64 a0_2]] w fun e w' => e = .returned (.agg #[.int .i64 r1, .int .i64 r2, .int .i64 r3, .int .i64 r4, .int .i64 r5, .int .i64 r6, .int .i64 r7, .int .i64 r8]) ∧ Below w.heap.size w w' := by
  have hu62 := Try.underlying62
  have hu54 := Try.underlying54
  have HB := Aside0.mk (Below.refl w.heap.size w)
  have H : ((zztime_Time_Zone.f a0_0 a0_1 a0_2).bind fun bt212 => ((zztime_Time_Year.f k a0_0 a0_1 a0_2).bind fun t214 => ((zztime_Time_Month.f k a0_0 a0_1 a0_2).bind fun t215 => ((zztime_Time_Day.f k a0_0 a0_1 a0_2).bind fun t216 => ((zztime_Time_Hour.f k a0_0 a0_1 a0_2).bind fun t217 => ((zztime_Time_Minute.f k a0_0 a0_1 a0_2).bind fun t218 => ((zztime_Time_Second.f k a0_0 a0_1 a0_2).bind fun t219 => ((zztime_Time_Nanosecond.f a0_0 a0_1 a0_2).bind fun t220 => (some (t214, t215, t216, t217, t218, t219, t220, bt212.2)))))))))) = some (r1, r2, r3, r4, r5, r6, r7, r8) := h
  clear h
  replace H := Option.bind_eq_some_iff.mp H
  obtain ⟨⟨t212, t213⟩, A20, H⟩ := H
  replace H : ((zztime_Time_Year.f k a0_0 a0_1 a0_2).bind fun t214 => ((zztime_Time_Month.f k a0_0 a0_1 a0_2).bind fun t215 => ((zztime_Time_Day.f k a0_0 a0_1 a0_2).bind fun t216 => ((zztime_Time_Hour.f k a0_0 a0_1 a0_2).bind fun t217 => ((zztime_Time_Minute.f k a0_0 a0_1 a0_2).bind fun t218 => ((zztime_Time_Second.f k a0_0 a0_1 a0_2).bind fun t219 => ((zztime_Time_Nanosecond.f a0_0 a0_1 a0_2).bind fun t220 => (some (t214, t215, t216, t217, t218, t219, t220, t213))))))))) = some (r1, r2, r3, r4, r5, r6, r7, r8) := H
  have A2 := Aside0.mk A20
  clear A20
  replace H := Option.bind_eq_some_iff.mp H
  obtain ⟨t214, A30, H⟩ := H
  replace H : ((zztime_Time_Month.f k a0_0 a0_1 a0_2).bind fun t215 => ((zztime_Time_Day.f k a0_0 a0_1 a0_2).bind fun t216 => ((zztime_Time_Hour.f k a0_0 a0_1 a0_2).bind fun t217 => ((zztime_Time_Minute.f k a0_0 a0_1 a0_2).bind fun t218 => ((zztime_Time_Second.f k a0_0 a0_1 a0_2).bind fun t219 => ((zztime_Time_Nanosecond.f a0_0 a0_1 a0_2).bind fun t220 => (some (t214, t215, t216, t217, t218, t219, t220, t213)))))))) = some (r1, r2, r3, r4, r5, r6, r7, r8) := H
  have A3 := Aside0.mk A30
  clear A30
  replace H := Option.bind_eq_some_iff.mp H
  obtain ⟨t215, A40, H⟩ := H
  replace H : ((zztime_Time_Day.f k a0_0 a0_1 a0_2).bind fun t216 => ((zztime_Time_Hour.f k a0_0 a0_1 a0_2).bind fun t217 => ((zztime_Time_Minute.f k a0_0 a0_1 a0_2).bind fun t218 => ((zztime_Time_Second.f k a0_0 a0_1 a0_2).bind fun t219 => ((zztime_Time_Nanosecond.f a0_0 a0_1 a0_2).bind fun t220 => (some (t214, t215, t216, t217, t218, t219, t220, t213))))))) = some (r1, r2, r3, r4, r5, r6, r7, r8) := H
  have A4 := Aside0.mk A40
  clear A40
  replace H := Option.bind_eq_some_iff.mp H
  obtain ⟨t216, A50, H⟩ := H
  replace H : ((zztime_Time_Hour.f k a0_0 a0_1 a0_2).bind fun t217 => ((zztime_Time_Minute.f k a0_0 a0_1 a0_2).bind fun t218 => ((zztime_Time_Second.f k a0_0 a0_1 a0_2).bind fun t219 => ((zztime_Time_Nanosecond.f a0_0 a0_1 a0_2).bind fun t220 => (some (t214, t215, t216, t217, t218, t219, t220, t213)))))) = some (r1, r2, r3, r4, r5, r6, r7, r8) := H
  have A5 := Aside0.mk A50
  clear A50
  replace H := Option.bind_eq_some_iff.mp H
  obtain ⟨t217, A60, H⟩ := H
  replace H : ((zztime_Time_Minute.f k a0_0 a0_1 a0_2).bind fun t218 => ((zztime_Time_Second.f k a0_0 a0_1 a0_2).bind fun t219 => ((zztime_Time_Nanosecond.f a0_0 a0_1 a0_2).bind fun t220 => (some (t214, t215, t216, t217, t218, t219, t220, t213))))) = some (r1, r2, r3, r4, r5, r6, r7, r8) := H
  have A6 := Aside0.mk A60
  clear A60
  replace H := Option.bind_eq_some_iff.mp H
  obtain ⟨t218, A70, H⟩ := H
  replace H : ((zztime_Time_Second.f k a0_0 a0_1 a0_2).bind fun t219 => ((zztime_Time_Nanosecond.f a0_0 a0_1 a0_2).bind fun t220 => (some (t214, t215, t216, t217, t218, t219, t220, t213)))) = some (r1, r2, r3, r4, r5, r6, r7, r8) := H
  have A7 := Aside0.mk A70
  clear A70
  replace H := Option.bind_eq_some_iff.mp H
  obtain ⟨t219, A80, H⟩ := H
  replace H : ((zztime_Time_Nanosecond.f a0_0 a0_1 a0_2).bind fun t220 => (some (t214, t215, t216, t217, t218, t219, t220, t213))) = some (r1, r2, r3, r4, r5, r6, r7, r8) := H
  have A8 := Aside0.mk A80
  clear A80
  replace H := Option.bind_eq_some_iff.mp H
  obtain ⟨t220, A90, H⟩ := H
  replace H : (some (t214, t215, t216, t217, t218, t219, t220, t213)) = some (r1, r2, r3, r4, r5, r6, r7, r8) := H
  have A9 := Aside0.mk A90
  clear A90
  simp only [Option.some.injEq, Prod.mk.injEq] at H
  obtain ⟨rfl, rfl, rfl, rfl, rfl, rfl, rfl, rfl⟩ := H
  go_enter Try.func33, Try.ntmps33
  try go_wp2_with (first | ((with_reducible refine gate_dst (N := 1) rfl ?_); refine box_event ?hg (N := 1) ?hd (cs := #[.int .i64 a0_0, .int .i64 a0_1, .int .i64 a0_2]) (t := 62) ?hr ?_; (case hd => rfl); (case hg => rfl); (case hr => first | (go_simp; done) | (go_simp; rfl) | (go_simp; simp [IntKind.wrap_u8]; done)); intro gb210 hg w10 hbox hb; have n0_ := Aside0.mk (below_step (by repeat (first | (with_reducible first | exact HB.out | apply below_alloc | apply pw_below_drewN | apply below_drew1) | exact HB.out)) hb); have n1_ := Aside0.mk (hbox); have n2_ := Aside0.mk ((by rw [hg]; exact (below_size (by repeat (first | (with_reducible first | exact HB.out | apply below_alloc | apply pw_below_drewN | apply below_drew1) | exact HB.out))) : w.heap.size ≤ gb210)); have n3_ := Aside0.mk ((by rw [hg]; exact (below_size (by repeat (first | (with_reducible first | exact HB.out | apply below_alloc | apply pw_below_drewN | apply below_drew1) | exact HB.out))) : w.heap.size ≤ gb210)); clear HB; have HB := n0_; have BK210 := n1_; have GW210 := n2_; have GE210 := n3_; clear n0_ n1_ n2_ n3_; clear hb hbox hg) | ((with_reducible refine gate_dst (N := 2) rfl ?_); refine box_event ?hg (N := 2) ?hd (cs := #[.int .i64 0, .int .i64 0, .int .i64 0, .int .i64 0, .int .i64 0, .int .i64 0, .int .i64 0, .int .i64 0]) (t := 54) ?hr ?_; (case hd => rfl); (case hg => rfl); (case hr => first | (go_simp; done) | (go_simp; rfl) | (go_simp; simp [IntKind.wrap_u8]; done)); intro gb211 hg w11 hbox hb; have n0_ := Aside0.mk (blk_below (g := gb210) (o := .cells #[.int .i64 a0_0, .int .i64 a0_1, .int .i64 a0_2] 62 (0, 0)) (by (with_reducible repeat (first | refine blk_drewN ?_ _ | refine blk_drew ?_ | refine blk_alloc ?_ _)); exact BK210.out) hb); have n1_ := Aside0.mk (below_step (by repeat (first | (with_reducible first | exact HB.out | apply below_alloc | apply pw_below_drewN | apply below_drew1 | refine below_set ?_ GE210.out) | exact HB.out)) hb); have n2_ := Aside0.mk (hbox); have n3_ := Aside0.mk ((by rw [hg]; exact (below_size (by repeat (first | (with_reducible first | exact HB.out | apply below_alloc | apply pw_below_drewN | apply below_drew1 | refine below_set ?_ GE210.out) | exact HB.out))) : w.heap.size ≤ gb211)); have n4_ := Aside0.mk ((by rw [hg]; exact (below_size (by repeat (first | (with_reducible first | exact HB.out | apply below_alloc | apply pw_below_drewN | apply below_drew1 | refine below_set ?_ GE210.out) | exact HB.out))) : w.heap.size ≤ gb211)); have n5_ := Aside0.mk ((by rw [hg]; exact Nat.ne_of_lt (blk_lt (g := gb210) (o := .cells #[.int .i64 a0_0, .int .i64 a0_1, .int .i64 a0_2] 62 (0, 0)) (by (with_reducible repeat (first | refine blk_drewN ?_ _ | refine blk_drew ?_ | refine blk_alloc ?_ _)); exact BK210.out)) : gb210 ≠ gb211)); have n6_ := Aside0.mk ((by rw [hg]; exact Nat.ne_of_gt (blk_lt (g := gb210) (o := .cells #[.int .i64 a0_0, .int .i64 a0_1, .int .i64 a0_2] 62 (0, 0)) (by (with_reducible repeat (first | refine blk_drewN ?_ _ | refine blk_drew ?_ | refine blk_alloc ?_ _)); exact BK210.out)) : gb211 ≠ gb210)); clear BK210; clear HB; have BK210 := n0_; have HB := n1_; have BK211 := n2_; have GW211 := n3_; have GE211 := n4_; have NB210_211 := n5_; have NB211_210 := n6_; clear n0_ n1_ n2_ n3_ n4_ n5_ n6_; clear hb hbox hg; have hnb12 := NB210_211.out; have hnc12 := NB211_210.out; have hcz13_0 : w11.cell? ⟨gb210, 0, none⟩ = some (.int .i64 a0_0) := (blk_cell BK210.out 0).trans rfl; have hcz13_1 : w11.cell? ⟨gb210, 1, none⟩ = some (.int .i64 a0_1) := (blk_cell BK210.out 1).trans rfl; have hcz13_2 : w11.cell? ⟨gb210, 2, none⟩ = some (.int .i64 a0_2) := (blk_cell BK210.out 2).trans rfl; have hfz13_0 := blk_frozen BK210.out 0; have hfz13_1 := blk_frozen BK210.out 1; have hfz13_2 := blk_frozen BK210.out 2) | ((with_reducible refine gate_callee (f := 51) rfl ?_); refine goesL_ (some 7) rfl rfl Try.func51 (by kernel_rfl) rfl #[.agg #[.int .i64 a0_0, .int .i64 a0_1, .int .i64 a0_2]] rfl (by (try simp only [List.map_toArray, List.map_cons, List.map_nil]); first | done | rfl | (simp only [List.length_drop, List.length_take]; rfl)) ?_; (with_reducible refine (zztime_Time_Zone.calls a0_0 a0_1 a0_2 t212 t213 _ A2.out).mono ?_); rintro e w14 ⟨rfl, hb⟩; refine ⟨_, rfl, ?_⟩; have n0_ := Aside0.mk (blk_below (g := gb210) (o := .cells #[.int .i64 a0_0, .int .i64 a0_1, .int .i64 a0_2] 62 (0, 0)) (by (with_reducible repeat (first | refine blk_drewN ?_ _ | refine blk_drew ?_ | refine blk_alloc ?_ _)); exact BK210.out) hb); have n1_ := Aside0.mk (blk_below (g := gb211) (o := .cells #[.int .i64 0, .int .i64 0, .int .i64 0, .int .i64 0, .int .i64 0, .int .i64 0, .int .i64 0, .int .i64 0] 54 (0, 0)) (by (with_reducible repeat (first | refine blk_drewN ?_ _ | refine blk_drew ?_ | refine blk_alloc ?_ _)); exact BK211.out) hb); have n2_ := Aside0.mk (below_step (by repeat (first | (with_reducible first | exact HB.out | apply below_alloc | apply pw_below_drewN | apply below_drew1 | refine below_set ?_ GE210.out | refine below_set ?_ GE211.out) | exact HB.out)) hb); clear BK210; clear BK211; clear HB; have BK210 := n0_; have BK211 := n1_; have HB := n2_; clear n0_ n1_ n2_; (try clear hb); (try clear hb2); (try clear hk); (try clear hi)))
  have n0_ := Aside0.mk (blk_drew BK210.out)
  have n1_ := Aside0.mk (blk_drew BK211.out)
  have n2_ := Aside0.mk (below_drew1 HB.out)
  clear BK210
  clear BK211
  clear HB
  have BK210 := n0_
  have BK211 := n1_
  have HB := n2_
  clear n0_ n1_ n2_
  refine start_ (n := 17) (S := fun w' => w'.cell? ⟨gb210, 0, none⟩ = some (.int .i64 a0_0) ∧ w'.cell? ⟨gb210, 1, none⟩ = some (.int .i64 a0_1) ∧ w'.cell? ⟨gb210, 2, none⟩ = some (.int .i64 a0_2)) (ds := []) #[false, false, false, false, false, false, false, false, false, false, false, false, false, false, false, false, false] (by kernel_rfl) rfl rfl ⟨(blk_cell BK210.out 0).trans rfl, (blk_cell BK210.out 1).trans rfl, (blk_cell BK210.out 2).trans rfl⟩ (fun hHeld => ?_); refine with_tabW pq_stampOf.tab2 pq_stampOf.bits2 (fun HT_ HW_ => ?_)
  generalize w14.drew = w15 at BK210 BK211 HB hHeld ⊢
  refine pure_ (i := 14) (N := some 24) (v := ?_) (a' := ?_) #[false, false, false, false, false, false, false, false, false, false, false, false, false, false, true, false, false] rfl rfl (any_of HT_.out (by kernel_rfl)) (fun _ _ _ h => h) (Or.inl ⟨by rfl, ?_⟩) ?_ ?_
  rotate_left
  · intro w'
    go_simp
    with_reducible rfl
  rotate_left
  · simp only [Act.put, List.setIfInBounds_toArray, List.set_cons_zero, List.set_cons_succ, i64_w, i32_w]
    rfl
  refine take_ (i := 0) (N := some 10) (v := ?_) (a' := ?_) #[true, false, false, false, false, false, false, false, false, false, false, false, false, false, true, false, false] rfl rfl (take_ofW HT_.out HW_.out (by kernel_rfl)) (fun _ _ _ h => h) (Or.inl ⟨by rfl, ?_⟩) hHeld ?_ ?_
  rotate_left
  · rintro w' ⟨s0, s1, s2⟩
    go_simp
    with_reducible rfl
  rotate_left
  · simp only [Act.put, List.setIfInBounds_toArray, List.set_cons_zero, List.set_cons_succ, i64_w, i32_w]
    rfl
  refine take_ (i := 2) (N := some 12) (v := ?_) (a' := ?_) #[true, false, true, false, false, false, false, false, false, false, false, false, false, false, true, false, false] rfl rfl (take_ofW HT_.out HW_.out (by kernel_rfl)) (fun _ _ _ h => h) (Or.inl ⟨by rfl, ?_⟩) hHeld ?_ ?_
  rotate_left
  · rintro w' ⟨s0, s1, s2⟩
    go_simp
    with_reducible rfl
  rotate_left
  · simp only [Act.put, List.setIfInBounds_toArray, List.set_cons_zero, List.set_cons_succ, i64_w, i32_w]
    rfl
  refine take_ (i := 4) (N := some 14) (v := ?_) (a' := ?_) #[true, false, true, false, true, false, false, false, false, false, false, false, false, false, true, false, false] rfl rfl (take_ofW HT_.out HW_.out (by kernel_rfl)) (fun _ _ _ h => h) (Or.inl ⟨by rfl, ?_⟩) hHeld ?_ ?_
  rotate_left
  · rintro w' ⟨s0, s1, s2⟩
    go_simp
    with_reducible rfl
  rotate_left
  · simp only [Act.put, List.setIfInBounds_toArray, List.set_cons_zero, List.set_cons_succ, i64_w, i32_w]
    rfl
  refine take_ (i := 6) (N := some 16) (v := ?_) (a' := ?_) #[true, false, true, false, true, false, true, false, false, false, false, false, false, false, true, false, false] rfl rfl (take_ofW HT_.out HW_.out (by kernel_rfl)) (fun _ _ _ h => h) (Or.inl ⟨by rfl, ?_⟩) hHeld ?_ ?_
  rotate_left
  · rintro w' ⟨s0, s1, s2⟩
    go_simp
    with_reducible rfl
  rotate_left
  · simp only [Act.put, List.setIfInBounds_toArray, List.set_cons_zero, List.set_cons_succ, i64_w, i32_w]
    rfl
  refine take_ (i := 8) (N := some 18) (v := ?_) (a' := ?_) #[true, false, true, false, true, false, true, false, true, false, false, false, false, false, true, false, false] rfl rfl (take_ofW HT_.out HW_.out (by kernel_rfl)) (fun _ _ _ h => h) (Or.inl ⟨by rfl, ?_⟩) hHeld ?_ ?_
  rotate_left
  · rintro w' ⟨s0, s1, s2⟩
    go_simp
    with_reducible rfl
  rotate_left
  · simp only [Act.put, List.setIfInBounds_toArray, List.set_cons_zero, List.set_cons_succ, i64_w, i32_w]
    rfl
  refine take_ (i := 10) (N := some 20) (v := ?_) (a' := ?_) #[true, false, true, false, true, false, true, false, true, false, true, false, false, false, true, false, false] rfl rfl (take_ofW HT_.out HW_.out (by kernel_rfl)) (fun _ _ _ h => h) (Or.inl ⟨by rfl, ?_⟩) hHeld ?_ ?_
  rotate_left
  · rintro w' ⟨s0, s1, s2⟩
    go_simp
    with_reducible rfl
  rotate_left
  · simp only [Act.put, List.setIfInBounds_toArray, List.set_cons_zero, List.set_cons_succ, i64_w, i32_w]
    rfl
  refine take_ (i := 12) (N := some 22) (v := ?_) (a' := ?_) #[true, false, true, false, true, false, true, false, true, false, true, false, true, false, true, false, false] rfl rfl (take_ofW HT_.out HW_.out (by kernel_rfl)) (fun _ _ _ h => h) (Or.inl ⟨by rfl, ?_⟩) hHeld ?_ ?_
  rotate_left
  · rintro w' ⟨s0, s1, s2⟩
    go_simp
    with_reducible rfl
  rotate_left
  · simp only [Act.put, List.setIfInBounds_toArray, List.set_cons_zero, List.set_cons_succ, i64_w, i32_w]
    rfl
  refine one_ (i := 1) (N := some 11) #[true, true, true, false, true, false, true, false, true, false, true, false, true, false, true, false, false] rfl rfl (one_of HT_.out (by kernel_rfl)) (by decide) (fun K hK => ?_)
  refine goes_ Try.func52 (by kernel_rfl) rfl #[.agg #[.int .i64 a0_0, .int .i64 a0_1, .int .i64 a0_2]] (by rfl) rfl rfl (by (try simp only [List.map_toArray, List.map_cons, List.map_nil]); first | done | rfl | (simp only [List.length_drop, List.length_take]; rfl)) ?_
  with_reducible refine (zztime_Time_Year.calls k a0_0 a0_1 a0_2 t214 _ A3.out).mono ?_
  rintro e w16 ⟨rfl, hb⟩
  refine ⟨_, rfl, ?_⟩
  have n0_ := Aside0.mk (blk_below (g := gb210) (o := .cells #[.int .i64 a0_0, .int .i64 a0_1, .int .i64 a0_2] 62 (0, 0)) (by (with_reducible repeat (first | refine blk_drewN ?_ _ | refine blk_drew ?_ | refine blk_alloc ?_ _)); exact BK210.out) hb)
  have n1_ := Aside0.mk (blk_below (g := gb211) (o := .cells #[.int .i64 0, .int .i64 0, .int .i64 0, .int .i64 0, .int .i64 0, .int .i64 0, .int .i64 0, .int .i64 0] 54 (0, 0)) (by (with_reducible repeat (first | refine blk_drewN ?_ _ | refine blk_drew ?_ | refine blk_alloc ?_ _)); exact BK211.out) hb)
  have n2_ := Aside0.mk (below_step (by repeat (first | (with_reducible first | exact HB.out | apply below_alloc | apply pw_below_drewN | apply below_drew1 | refine below_set ?_ GE210.out | refine below_set ?_ GE211.out) | exact HB.out)) hb)
  clear BK210
  clear BK211
  clear HB
  have BK210 := n0_
  have BK211 := n1_
  have HB := n2_
  clear n0_ n1_ n2_
  (try clear hb)
  (try clear hb2)
  (try clear hk)
  (try clear hi)
  refine hK.out _ _ ⟨(blk_cell BK210.out 0).trans rfl, (blk_cell BK210.out 1).trans rfl, (blk_cell BK210.out 2).trans rfl⟩ (fun hHeld => ?_)
  clear hK K
  refine norm_ (a' := ?_) ?_ ?_
  rotate_left
  · show Act.put _ (some 11) _ = _
    simp only [Act.put, List.setIfInBounds_toArray, List.set_cons_zero, List.set_cons_succ, i64_w, i32_w]
    rfl
  refine one_ (i := 3) (N := some 13) #[true, true, true, true, true, false, true, false, true, false, true, false, true, false, true, false, false] rfl rfl (one_of HT_.out (by kernel_rfl)) (by decide) (fun K hK => ?_)
  refine goes_ Try.func53 (by kernel_rfl) rfl #[.agg #[.int .i64 a0_0, .int .i64 a0_1, .int .i64 a0_2]] (by rfl) rfl rfl (by (try simp only [List.map_toArray, List.map_cons, List.map_nil]); first | done | rfl | (simp only [List.length_drop, List.length_take]; rfl)) ?_
  with_reducible refine (zztime_Time_Month.calls k a0_0 a0_1 a0_2 t215 _ A4.out).mono ?_
  rintro e w17 ⟨rfl, hb⟩
  refine ⟨_, rfl, ?_⟩
  have n0_ := Aside0.mk (blk_below (g := gb210) (o := .cells #[.int .i64 a0_0, .int .i64 a0_1, .int .i64 a0_2] 62 (0, 0)) (by (with_reducible repeat (first | refine blk_drewN ?_ _ | refine blk_drew ?_ | refine blk_alloc ?_ _)); exact BK210.out) hb)
  have n1_ := Aside0.mk (blk_below (g := gb211) (o := .cells #[.int .i64 0, .int .i64 0, .int .i64 0, .int .i64 0, .int .i64 0, .int .i64 0, .int .i64 0, .int .i64 0] 54 (0, 0)) (by (with_reducible repeat (first | refine blk_drewN ?_ _ | refine blk_drew ?_ | refine blk_alloc ?_ _)); exact BK211.out) hb)
  have n2_ := Aside0.mk (below_step (by repeat (first | (with_reducible first | exact HB.out | apply below_alloc | apply pw_below_drewN | apply below_drew1 | refine below_set ?_ GE210.out | refine below_set ?_ GE211.out) | exact HB.out)) hb)
  clear BK210
  clear BK211
  clear HB
  have BK210 := n0_
  have BK211 := n1_
  have HB := n2_
  clear n0_ n1_ n2_
  (try clear hb)
  (try clear hb2)
  (try clear hk)
  (try clear hi)
  refine hK.out _ _ ⟨(blk_cell BK210.out 0).trans rfl, (blk_cell BK210.out 1).trans rfl, (blk_cell BK210.out 2).trans rfl⟩ (fun hHeld => ?_)
  clear hK K
  refine norm_ (a' := ?_) ?_ ?_
  rotate_left
  · show Act.put _ (some 13) _ = _
    simp only [Act.put, List.setIfInBounds_toArray, List.set_cons_zero, List.set_cons_succ, i64_w, i32_w]
    rfl
  refine one_ (i := 5) (N := some 15) #[true, true, true, true, true, true, true, false, true, false, true, false, true, false, true, false, false] rfl rfl (one_of HT_.out (by kernel_rfl)) (by decide) (fun K hK => ?_)
  refine goes_ Try.func54 (by kernel_rfl) rfl #[.agg #[.int .i64 a0_0, .int .i64 a0_1, .int .i64 a0_2]] (by rfl) rfl rfl (by (try simp only [List.map_toArray, List.map_cons, List.map_nil]); first | done | rfl | (simp only [List.length_drop, List.length_take]; rfl)) ?_
  with_reducible refine (zztime_Time_Day.calls k a0_0 a0_1 a0_2 t216 _ A5.out).mono ?_
  rintro e w18 ⟨rfl, hb⟩
  refine ⟨_, rfl, ?_⟩
  have n0_ := Aside0.mk (blk_below (g := gb210) (o := .cells #[.int .i64 a0_0, .int .i64 a0_1, .int .i64 a0_2] 62 (0, 0)) (by (with_reducible repeat (first | refine blk_drewN ?_ _ | refine blk_drew ?_ | refine blk_alloc ?_ _)); exact BK210.out) hb)
  have n1_ := Aside0.mk (blk_below (g := gb211) (o := .cells #[.int .i64 0, .int .i64 0, .int .i64 0, .int .i64 0, .int .i64 0, .int .i64 0, .int .i64 0, .int .i64 0] 54 (0, 0)) (by (with_reducible repeat (first | refine blk_drewN ?_ _ | refine blk_drew ?_ | refine blk_alloc ?_ _)); exact BK211.out) hb)
  have n2_ := Aside0.mk (below_step (by repeat (first | (with_reducible first | exact HB.out | apply below_alloc | apply pw_below_drewN | apply below_drew1 | refine below_set ?_ GE210.out | refine below_set ?_ GE211.out) | exact HB.out)) hb)
  clear BK210
  clear BK211
  clear HB
  have BK210 := n0_
  have BK211 := n1_
  have HB := n2_
  clear n0_ n1_ n2_
  (try clear hb)
  (try clear hb2)
  (try clear hk)
  (try clear hi)
  refine hK.out _ _ ⟨(blk_cell BK210.out 0).trans rfl, (blk_cell BK210.out 1).trans rfl, (blk_cell BK210.out 2).trans rfl⟩ (fun hHeld => ?_)
  clear hK K
  refine norm_ (a' := ?_) ?_ ?_
  rotate_left
  · show Act.put _ (some 15) _ = _
    simp only [Act.put, List.setIfInBounds_toArray, List.set_cons_zero, List.set_cons_succ, i64_w, i32_w]
    rfl
  refine one_ (i := 7) (N := some 17) #[true, true, true, true, true, true, true, true, true, false, true, false, true, false, true, false, false] rfl rfl (one_of HT_.out (by kernel_rfl)) (by decide) (fun K hK => ?_)
  refine goes_ Try.func55 (by kernel_rfl) rfl #[.agg #[.int .i64 a0_0, .int .i64 a0_1, .int .i64 a0_2]] (by rfl) rfl rfl (by (try simp only [List.map_toArray, List.map_cons, List.map_nil]); first | done | rfl | (simp only [List.length_drop, List.length_take]; rfl)) ?_
  with_reducible refine (zztime_Time_Hour.calls k a0_0 a0_1 a0_2 t217 _ A6.out).mono ?_
  rintro e w19 ⟨rfl, hb⟩
  refine ⟨_, rfl, ?_⟩
  have n0_ := Aside0.mk (blk_below (g := gb210) (o := .cells #[.int .i64 a0_0, .int .i64 a0_1, .int .i64 a0_2] 62 (0, 0)) (by (with_reducible repeat (first | refine blk_drewN ?_ _ | refine blk_drew ?_ | refine blk_alloc ?_ _)); exact BK210.out) hb)
  have n1_ := Aside0.mk (blk_below (g := gb211) (o := .cells #[.int .i64 0, .int .i64 0, .int .i64 0, .int .i64 0, .int .i64 0, .int .i64 0, .int .i64 0, .int .i64 0] 54 (0, 0)) (by (with_reducible repeat (first | refine blk_drewN ?_ _ | refine blk_drew ?_ | refine blk_alloc ?_ _)); exact BK211.out) hb)
  have n2_ := Aside0.mk (below_step (by repeat (first | (with_reducible first | exact HB.out | apply below_alloc | apply pw_below_drewN | apply below_drew1 | refine below_set ?_ GE210.out | refine below_set ?_ GE211.out) | exact HB.out)) hb)
  clear BK210
  clear BK211
  clear HB
  have BK210 := n0_
  have BK211 := n1_
  have HB := n2_
  clear n0_ n1_ n2_
  (try clear hb)
  (try clear hb2)
  (try clear hk)
  (try clear hi)
  refine hK.out _ _ ⟨(blk_cell BK210.out 0).trans rfl, (blk_cell BK210.out 1).trans rfl, (blk_cell BK210.out 2).trans rfl⟩ (fun hHeld => ?_)
  clear hK K
  refine norm_ (a' := ?_) ?_ ?_
  rotate_left
  · show Act.put _ (some 17) _ = _
    simp only [Act.put, List.setIfInBounds_toArray, List.set_cons_zero, List.set_cons_succ, i64_w, i32_w]
    rfl
  refine one_ (i := 9) (N := some 19) #[true, true, true, true, true, true, true, true, true, true, true, false, true, false, true, false, false] rfl rfl (one_of HT_.out (by kernel_rfl)) (by decide) (fun K hK => ?_)
  refine goes_ Try.func56 (by kernel_rfl) rfl #[.agg #[.int .i64 a0_0, .int .i64 a0_1, .int .i64 a0_2]] (by rfl) rfl rfl (by (try simp only [List.map_toArray, List.map_cons, List.map_nil]); first | done | rfl | (simp only [List.length_drop, List.length_take]; rfl)) ?_
  with_reducible refine (zztime_Time_Minute.calls k a0_0 a0_1 a0_2 t218 _ A7.out).mono ?_
  rintro e w20 ⟨rfl, hb⟩
  refine ⟨_, rfl, ?_⟩
  have n0_ := Aside0.mk (blk_below (g := gb210) (o := .cells #[.int .i64 a0_0, .int .i64 a0_1, .int .i64 a0_2] 62 (0, 0)) (by (with_reducible repeat (first | refine blk_drewN ?_ _ | refine blk_drew ?_ | refine blk_alloc ?_ _)); exact BK210.out) hb)
  have n1_ := Aside0.mk (blk_below (g := gb211) (o := .cells #[.int .i64 0, .int .i64 0, .int .i64 0, .int .i64 0, .int .i64 0, .int .i64 0, .int .i64 0, .int .i64 0] 54 (0, 0)) (by (with_reducible repeat (first | refine blk_drewN ?_ _ | refine blk_drew ?_ | refine blk_alloc ?_ _)); exact BK211.out) hb)
  have n2_ := Aside0.mk (below_step (by repeat (first | (with_reducible first | exact HB.out | apply below_alloc | apply pw_below_drewN | apply below_drew1 | refine below_set ?_ GE210.out | refine below_set ?_ GE211.out) | exact HB.out)) hb)
  clear BK210
  clear BK211
  clear HB
  have BK210 := n0_
  have BK211 := n1_
  have HB := n2_
  clear n0_ n1_ n2_
  (try clear hb)
  (try clear hb2)
  (try clear hk)
  (try clear hi)
  refine hK.out _ _ ⟨(blk_cell BK210.out 0).trans rfl, (blk_cell BK210.out 1).trans rfl, (blk_cell BK210.out 2).trans rfl⟩ (fun hHeld => ?_)
  clear hK K
  refine norm_ (a' := ?_) ?_ ?_
  rotate_left
  · show Act.put _ (some 19) _ = _
    simp only [Act.put, List.setIfInBounds_toArray, List.set_cons_zero, List.set_cons_succ, i64_w, i32_w]
    rfl
  refine one_ (i := 11) (N := some 21) #[true, true, true, true, true, true, true, true, true, true, true, true, true, false, true, false, false] rfl rfl (one_of HT_.out (by kernel_rfl)) (by decide) (fun K hK => ?_)
  refine goes_ Try.func57 (by kernel_rfl) rfl #[.agg #[.int .i64 a0_0, .int .i64 a0_1, .int .i64 a0_2]] (by rfl) rfl rfl (by (try simp only [List.map_toArray, List.map_cons, List.map_nil]); first | done | rfl | (simp only [List.length_drop, List.length_take]; rfl)) ?_
  with_reducible refine (zztime_Time_Second.calls k a0_0 a0_1 a0_2 t219 _ A8.out).mono ?_
  rintro e w21 ⟨rfl, hb⟩
  refine ⟨_, rfl, ?_⟩
  have n0_ := Aside0.mk (blk_below (g := gb210) (o := .cells #[.int .i64 a0_0, .int .i64 a0_1, .int .i64 a0_2] 62 (0, 0)) (by (with_reducible repeat (first | refine blk_drewN ?_ _ | refine blk_drew ?_ | refine blk_alloc ?_ _)); exact BK210.out) hb)
  have n1_ := Aside0.mk (blk_below (g := gb211) (o := .cells #[.int .i64 0, .int .i64 0, .int .i64 0, .int .i64 0, .int .i64 0, .int .i64 0, .int .i64 0, .int .i64 0] 54 (0, 0)) (by (with_reducible repeat (first | refine blk_drewN ?_ _ | refine blk_drew ?_ | refine blk_alloc ?_ _)); exact BK211.out) hb)
  have n2_ := Aside0.mk (below_step (by repeat (first | (with_reducible first | exact HB.out | apply below_alloc | apply pw_below_drewN | apply below_drew1 | refine below_set ?_ GE210.out | refine below_set ?_ GE211.out) | exact HB.out)) hb)
  clear BK210
  clear BK211
  clear HB
  have BK210 := n0_
  have BK211 := n1_
  have HB := n2_
  clear n0_ n1_ n2_
  (try clear hb)
  (try clear hb2)
  (try clear hk)
  (try clear hi)
  refine hK.out _ _ ⟨(blk_cell BK210.out 0).trans rfl, (blk_cell BK210.out 1).trans rfl, (blk_cell BK210.out 2).trans rfl⟩ (fun hHeld => ?_)
  clear hK K
  refine norm_ (a' := ?_) ?_ ?_
  rotate_left
  · show Act.put _ (some 21) _ = _
    simp only [Act.put, List.setIfInBounds_toArray, List.set_cons_zero, List.set_cons_succ, i64_w, i32_w]
    rfl
  refine one_ (i := 13) (N := some 23) #[true, true, true, true, true, true, true, true, true, true, true, true, true, true, true, false, false] rfl rfl (one_of HT_.out (by kernel_rfl)) (by decide) (fun K hK => ?_)
  refine goes_ Try.func58 (by kernel_rfl) rfl #[.agg #[.int .i64 a0_0, .int .i64 a0_1, .int .i64 a0_2]] (by rfl) rfl rfl (by (try simp only [List.map_toArray, List.map_cons, List.map_nil]); first | done | rfl | (simp only [List.length_drop, List.length_take]; rfl)) ?_
  with_reducible refine (zztime_Time_Nanosecond.calls a0_0 a0_1 a0_2 t220 _ A9.out).mono ?_
  rintro e w22 ⟨rfl, hb⟩
  refine ⟨_, rfl, ?_⟩
  have n0_ := Aside0.mk (blk_below (g := gb210) (o := .cells #[.int .i64 a0_0, .int .i64 a0_1, .int .i64 a0_2] 62 (0, 0)) (by (with_reducible repeat (first | refine blk_drewN ?_ _ | refine blk_drew ?_ | refine blk_alloc ?_ _)); exact BK210.out) hb)
  have n1_ := Aside0.mk (blk_below (g := gb211) (o := .cells #[.int .i64 0, .int .i64 0, .int .i64 0, .int .i64 0, .int .i64 0, .int .i64 0, .int .i64 0, .int .i64 0] 54 (0, 0)) (by (with_reducible repeat (first | refine blk_drewN ?_ _ | refine blk_drew ?_ | refine blk_alloc ?_ _)); exact BK211.out) hb)
  have n2_ := Aside0.mk (below_step (by repeat (first | (with_reducible first | exact HB.out | apply below_alloc | apply pw_below_drewN | apply below_drew1 | refine below_set ?_ GE210.out | refine below_set ?_ GE211.out) | exact HB.out)) hb)
  clear BK210
  clear BK211
  clear HB
  have BK210 := n0_
  have BK211 := n1_
  have HB := n2_
  clear n0_ n1_ n2_
  (try clear hb)
  (try clear hb2)
  (try clear hk)
  (try clear hi)
  refine hK.out _ _ ⟨(blk_cell BK210.out 0).trans rfl, (blk_cell BK210.out 1).trans rfl, (blk_cell BK210.out 2).trans rfl⟩ (fun hHeld => ?_)
  clear hK K
  refine norm_ (a' := ?_) ?_ ?_
  rotate_left
  · show Act.put _ (some 23) _ = _
    simp only [Act.put, List.setIfInBounds_toArray, List.set_cons_zero, List.set_cons_succ, i64_w, i32_w]
    rfl
  refine pure_ (i := 15) (N := some 25) (v := ?_) (a' := ?_) #[true, true, true, true, true, true, true, true, true, true, true, true, true, true, true, true, false] rfl rfl (any_of HT_.out (by kernel_rfl)) (fun _ _ _ h => h) (Or.inl ⟨by rfl, ?_⟩) ?_ ?_
  rotate_left
  · intro w'
    go_simp
    with_reducible rfl
  rotate_left
  · simp only [Act.put, List.setIfInBounds_toArray, List.set_cons_zero, List.set_cons_succ, i64_w, i32_w]
    rfl
  refine one_ (i := 16) (N := none) #[true, true, true, true, true, true, true, true, true, true, true, true, true, true, true, true, true] rfl rfl (one_of HT_.out (by kernel_rfl)) (by decide) (fun K hK => ?_)
  have hs23 : w22.cell? ⟨gb211, 0, none⟩ = some (.int .i64 0) := (blk_cell BK211.out 0).trans rfl
  have hfs23 := blk_frozen BK211.out 0
  have hns23_0 := NB210_211.out
  have hms23_0 := NB211_210.out
  have hs24 : w22.cell? ⟨gb211, 1, none⟩ = some (.int .i64 0) := (blk_cell BK211.out 1).trans rfl
  have hfs24 := blk_frozen BK211.out 1
  have hns24_0 := NB210_211.out
  have hms24_0 := NB211_210.out
  have hs25 : w22.cell? ⟨gb211, 2, none⟩ = some (.int .i64 0) := (blk_cell BK211.out 2).trans rfl
  have hfs25 := blk_frozen BK211.out 2
  have hns25_0 := NB210_211.out
  have hms25_0 := NB211_210.out
  have hs26 : w22.cell? ⟨gb211, 3, none⟩ = some (.int .i64 0) := (blk_cell BK211.out 3).trans rfl
  have hfs26 := blk_frozen BK211.out 3
  have hns26_0 := NB210_211.out
  have hms26_0 := NB211_210.out
  have hs27 : w22.cell? ⟨gb211, 4, none⟩ = some (.int .i64 0) := (blk_cell BK211.out 4).trans rfl
  have hfs27 := blk_frozen BK211.out 4
  have hns27_0 := NB210_211.out
  have hms27_0 := NB211_210.out
  have hs28 : w22.cell? ⟨gb211, 5, none⟩ = some (.int .i64 0) := (blk_cell BK211.out 5).trans rfl
  have hfs28 := blk_frozen BK211.out 5
  have hns28_0 := NB210_211.out
  have hms28_0 := NB211_210.out
  have hs29 : w22.cell? ⟨gb211, 6, none⟩ = some (.int .i64 0) := (blk_cell BK211.out 6).trans rfl
  have hfs29 := blk_frozen BK211.out 6
  have hns29_0 := NB210_211.out
  have hms29_0 := NB211_210.out
  have hs30 : w22.cell? ⟨gb211, 7, none⟩ = some (.int .i64 0) := (blk_cell BK211.out 7).trans rfl
  have hfs30 := blk_frozen BK211.out 7
  have hns30_0 := NB210_211.out
  have hms30_0 := NB211_210.out
  refine skip_ (w1 := ?_) (by rfl) rfl ?_ ?_
  rotate_left
  · go_simp
    rfl
  refine hK.out _ _ ⟨((cell_far (p := ⟨gb211, _, none⟩) NB210_211.out _).trans (((cell_far (p := ⟨gb211, _, none⟩) NB210_211.out _).trans (((cell_far (p := ⟨gb211, _, none⟩) NB210_211.out _).trans (((cell_far (p := ⟨gb211, _, none⟩) NB210_211.out _).trans (((cell_far (p := ⟨gb211, _, none⟩) NB210_211.out _).trans (((cell_far (p := ⟨gb211, _, none⟩) NB210_211.out _).trans (((cell_far (p := ⟨gb211, _, none⟩) NB210_211.out _).trans (((cell_far (p := ⟨gb211, _, none⟩) NB210_211.out _).trans (hHeld.1)))))))))))))))), ((cell_far (p := ⟨gb211, _, none⟩) NB210_211.out _).trans (((cell_far (p := ⟨gb211, _, none⟩) NB210_211.out _).trans (((cell_far (p := ⟨gb211, _, none⟩) NB210_211.out _).trans (((cell_far (p := ⟨gb211, _, none⟩) NB210_211.out _).trans (((cell_far (p := ⟨gb211, _, none⟩) NB210_211.out _).trans (((cell_far (p := ⟨gb211, _, none⟩) NB210_211.out _).trans (((cell_far (p := ⟨gb211, _, none⟩) NB210_211.out _).trans (((cell_far (p := ⟨gb211, _, none⟩) NB210_211.out _).trans (hHeld.2.1)))))))))))))))), ((cell_far (p := ⟨gb211, _, none⟩) NB210_211.out _).trans (((cell_far (p := ⟨gb211, _, none⟩) NB210_211.out _).trans (((cell_far (p := ⟨gb211, _, none⟩) NB210_211.out _).trans (((cell_far (p := ⟨gb211, _, none⟩) NB210_211.out _).trans (((cell_far (p := ⟨gb211, _, none⟩) NB210_211.out _).trans (((cell_far (p := ⟨gb211, _, none⟩) NB210_211.out _).trans (((cell_far (p := ⟨gb211, _, none⟩) NB210_211.out _).trans (((cell_far (p := ⟨gb211, _, none⟩) NB210_211.out _).trans (hHeld.2.2))))))))))))))))⟩ (fun hHeld => ?_)
  clear hK K
  refine done_ (done_of HT_.out (by kernel_rfl)) ?_
  try go_wp2
  refine bodyPost_ret (results_cell_row rfl _ _ gb211 54 #[.int .i64 t214, .int .i64 t215, .int .i64 t216, .int .i64 t217, .int .i64 t218, .int .i64 t219, .int .i64 t220, .int .i64 t213] (0, 0) _ rfl (by (with_reducible repeat (first | refine blk_drewN ?_ _ | refine blk_drew ?_ | refine blk_alloc ?_ _)); refine blk_put (cs := #[.int .i64 t214, .int .i64 t215, .int .i64 t216, .int .i64 t217, .int .i64 t218, .int .i64 t219, .int .i64 t220, .int .i64 0]) ?_ 7 _ rfl; (with_reducible repeat (first | refine blk_drewN ?_ _ | refine blk_drew ?_ | refine blk_alloc ?_ _)); refine blk_put (cs := #[.int .i64 t214, .int .i64 t215, .int .i64 t216, .int .i64 t217, .int .i64 t218, .int .i64 t219, .int .i64 0, .int .i64 0]) ?_ 6 _ rfl; (with_reducible repeat (first | refine blk_drewN ?_ _ | refine blk_drew ?_ | refine blk_alloc ?_ _)); refine blk_put (cs := #[.int .i64 t214, .int .i64 t215, .int .i64 t216, .int .i64 t217, .int .i64 t218, .int .i64 0, .int .i64 0, .int .i64 0]) ?_ 5 _ rfl; (with_reducible repeat (first | refine blk_drewN ?_ _ | refine blk_drew ?_ | refine blk_alloc ?_ _)); refine blk_put (cs := #[.int .i64 t214, .int .i64 t215, .int .i64 t216, .int .i64 t217, .int .i64 0, .int .i64 0, .int .i64 0, .int .i64 0]) ?_ 4 _ rfl; (with_reducible repeat (first | refine blk_drewN ?_ _ | refine blk_drew ?_ | refine blk_alloc ?_ _)); refine blk_put (cs := #[.int .i64 t214, .int .i64 t215, .int .i64 t216, .int .i64 0, .int .i64 0, .int .i64 0, .int .i64 0, .int .i64 0]) ?_ 3 _ rfl; (with_reducible repeat (first | refine blk_drewN ?_ _ | refine blk_drew ?_ | refine blk_alloc ?_ _)); refine blk_put (cs := #[.int .i64 t214, .int .i64 t215, .int .i64 0, .int .i64 0, .int .i64 0, .int .i64 0, .int .i64 0, .int .i64 0]) ?_ 2 _ rfl; (with_reducible repeat (first | refine blk_drewN ?_ _ | refine blk_drew ?_ | refine blk_alloc ?_ _)); refine blk_put (cs := #[.int .i64 t214, .int .i64 0, .int .i64 0, .int .i64 0, .int .i64 0, .int .i64 0, .int .i64 0, .int .i64 0]) ?_ 1 _ rfl; (with_reducible repeat (first | refine blk_drewN ?_ _ | refine blk_drew ?_ | refine blk_alloc ?_ _)); refine blk_put (cs := #[.int .i64 0, .int .i64 0, .int .i64 0, .int .i64 0, .int .i64 0, .int .i64 0, .int .i64 0, .int .i64 0]) ?_ 0 _ rfl; (with_reducible repeat (first | refine blk_drewN ?_ _ | refine blk_drew ?_ | refine blk_alloc ?_ _)); exact BK211.out) Try.underlying54 rfl (by kernel_rfl)) rfl ?_
  exact ⟨by first | rfl | (simp [errW_none, errW_some] <;> rfl) | (simp [*, errW_none, errW_some] <;> rfl), by repeat (first | (with_reducible first | exact HB.out | apply below_alloc | apply pw_below_drewN | apply below_drew1 | refine below_set ?_ GE210.out | refine below_set ?_ GE211.out) | exact HB.out)⟩

/-! ### pq_ParseClock: function 26 -/
def pq_ParseClock.f (k : Nat) (a0 : Int) (l1 : List Int) : Option (Int × Int × Int × Int × Int × Int × Int × Int × Option Int) := (pq_parseTime.f k a0 l1).bind fun bt222 => ((pq_stampOf.f k bt222.1 bt222.2.1 bt222.2.2.1).bind fun bt227 => (some (bt227.1, bt227.2.1, bt227.2.2.1, bt227.2.2.2.1, bt227.2.2.2.2.1, bt227.2.2.2.2.2.1, bt227.2.2.2.2.2.2.1, bt227.2.2.2.2.2.2.2, bt222.2.2.2)))
theorem pq_ParseClock.mono : ∀ a0 a1 k, LeO (pq_ParseClock.f k a0 a1) (pq_ParseClock.f (k + 1) a0 a1) := by
  intro a0 a1 k
  unfold pq_ParseClock.f
  repeat' first
      | (with_reducible exact pq_parseTime.mono _ _ _)
      | (with_reducible exact pq_stampOf.mono _ _ _ _)
      | (with_reducible exact LeO.refl _)
      | (with_reducible exact LeO.none _)
      | (with_reducible refine LeO.ite ?_ ?_)
      | (with_reducible refine LeO.bind ?_ (fun _ => ?_))
      | exact pq_parseTime.mono _ _ _
      | exact pq_stampOf.mono _ _ _ _
      | exact LeO.none _
      | refine LeO.ite ?_ ?_
      | refine LeO.bind ?_ (fun _ => ?_)
set_option maxHeartbeats 8000000 in
set_option maxRecDepth 100000 in
theorem pq_ParseClock.calls (k : Nat) (a0 : Int) (A1 : Option Addr) (c1 : Nat) (l1 : List Int) (r1 : Int) (r2 : Int) (r3 : Int) (r4 : Int) (r5 : Int) (r6 : Int) (r7 : Int) (r8 : Int) (r9 : Option Int) (w : World) (hr1 : Kd.C (Kd.int .u8) w A1 l1.length l1) (hc1 : l1.length ≤ c1) (h : pq_ParseClock.f k a0 l1 = some (r1, r2, r3, r4, r5, r6, r7, r8, r9)) :
    Calls Try.prog 26 #[.int .u32 a0, .slice A1 l1.length c1] w fun e w' => e = .returned (.tuple #[.agg #[.int .i64 r1, .int .i64 r2, .int .i64 r3, .int .i64 r4, .int .i64 r5, .int .i64 r6, .int .i64 r7, .int .i64 r8], errW r9]) ∧ Below w.heap.size w w' := by
  have hu54 := Try.underlying54
  have hu62 := Try.underlying62
  have HR1 := Aside0.mk hr1
  have HC1 := Aside0.mk hc1
  clear hr1 hc1
  have HB := Aside0.mk (Below.refl w.heap.size w)
  have H : ((pq_parseTime.f k a0 l1).bind fun bt222 => ((pq_stampOf.f k bt222.1 bt222.2.1 bt222.2.2.1).bind fun bt227 => (some (bt227.1, bt227.2.1, bt227.2.2.1, bt227.2.2.2.1, bt227.2.2.2.2.1, bt227.2.2.2.2.2.1, bt227.2.2.2.2.2.2.1, bt227.2.2.2.2.2.2.2, bt222.2.2.2)))) = some (r1, r2, r3, r4, r5, r6, r7, r8, r9) := h
  clear h
  replace H := Option.bind_eq_some_iff.mp H
  obtain ⟨⟨t222, t223, t224, t225⟩, A30, H⟩ := H
  replace H : ((pq_stampOf.f k t222 t223 t224).bind fun bt227 => (some (bt227.1, bt227.2.1, bt227.2.2.1, bt227.2.2.2.1, bt227.2.2.2.2.1, bt227.2.2.2.2.2.1, bt227.2.2.2.2.2.2.1, bt227.2.2.2.2.2.2.2, t225))) = some (r1, r2, r3, r4, r5, r6, r7, r8, r9) := H
  have A3 := Aside0.mk A30
  clear A30
  replace H := Option.bind_eq_some_iff.mp H
  obtain ⟨⟨t227, t228, t229, t230, t231, t232, t233, t234⟩, A40, H⟩ := H
  replace H : (some (t227, t228, t229, t230, t231, t232, t233, t234, t225)) = some (r1, r2, r3, r4, r5, r6, r7, r8, r9) := H
  have A4 := Aside0.mk A40
  clear A40
  simp only [Option.some.injEq, Prod.mk.injEq] at H
  obtain ⟨rfl, rfl, rfl, rfl, rfl, rfl, rfl, rfl, rfl⟩ := H
  go_enter Try.func26, Try.ntmps26
  go_wp2_with (first | ((with_reducible refine gate_dst (N := 4) rfl ?_); refine box_event ?hg (N := 4) ?hd (cs := #[.int .i64 0, .int .i64 0, .int .i64 0, .int .i64 0, .int .i64 0, .int .i64 0, .int .i64 0, .int .i64 0]) (t := 54) ?hr ?_; (case hd => rfl); (case hg => rfl); (case hr => first | (go_simp; done) | (go_simp; rfl) | (go_simp; simp [IntKind.wrap_u8]; done)); intro gb221 hg w5 hbox hb; have n0_ := Aside0.mk (below_step (by repeat (first | (with_reducible first | exact HB.out | apply below_alloc | apply pw_below_drewN | apply below_drew1) | exact HB.out)) hb); have n1_ := Aside0.mk (hbox); have n2_ := Aside0.mk ((by rw [hg]; exact (below_size (by repeat (first | (with_reducible first | exact HB.out | apply below_alloc | apply pw_below_drewN | apply below_drew1) | exact HB.out))) : w.heap.size ≤ gb221)); have n3_ := Aside0.mk ((by rw [hg]; exact (below_size (by repeat (first | (with_reducible first | exact HB.out | apply below_alloc | apply pw_below_drewN | apply below_drew1) | exact HB.out))) : w.heap.size ≤ gb221)); clear HB; have HB := n0_; have BK221 := n1_; have GW221 := n2_; have GE221 := n3_; clear n0_ n1_ n2_ n3_; clear hb hbox hg) | ((with_reducible refine gate_callee (f := 32) rfl ?_); refine goesL_ (some 11) rfl rfl Try.func32 (by kernel_rfl) rfl #[.int .u32 a0, .slice A1 l1.length c1] rfl (by (try simp only [List.map_toArray, List.map_cons, List.map_nil]); first | done | rfl | (simp only [List.length_drop, List.length_take]; rfl)) ?_; (with_reducible refine (pq_parseTime.calls k a0 _ _ l1 t222 t223 t224 t225 _ ?side1 ?side2 A3.out).mono ?_); (case side1 => repeat (first | exact (Kd.C_below HR1.out HB.out) | (with_reducible refine Kd.C_alloc ?_ _) | (with_reducible refine Kd.C_drewN ?_ _) | (with_reducible refine Kd.C_drew ?_))); (case side2 => exact HC1.out); rintro e w6 ⟨rfl, hb⟩; refine ⟨_, rfl, ?_⟩; have n0_ := Aside0.mk (blk_below (g := gb221) (o := .cells #[.int .i64 0, .int .i64 0, .int .i64 0, .int .i64 0, .int .i64 0, .int .i64 0, .int .i64 0, .int .i64 0] 54 (0, 0)) (by (with_reducible repeat (first | refine blk_drewN ?_ _ | refine blk_drew ?_ | refine blk_alloc ?_ _)); exact BK221.out) hb); have n1_ := Aside0.mk (below_step (by repeat (first | (with_reducible first | exact HB.out | apply below_alloc | apply pw_below_drewN | apply below_drew1 | refine below_set ?_ GE221.out) | exact HB.out)) hb); clear BK221; clear HB; have BK221 := n0_; have HB := n1_; clear n0_ n1_; (try clear hb); (try clear hb2); (try clear hk); (try clear hi); (try simp only [errW_none, errW_some])) | ((with_reducible refine gate_dst (N := 6) rfl ?_); refine box_event ?hg (N := 6) ?hd (cs := #[.int .i64 0, .int .i64 0, .int .i64 0]) (t := 62) ?hr ?_; (case hd => rfl); (case hg => rfl); (case hr => first | (go_simp; done) | (go_simp; rfl) | (go_simp; simp [IntKind.wrap_u8]; done)); intro gb226 hg w7 hbox hb; have n0_ := Aside0.mk (blk_below (g := gb221) (o := .cells #[.int .i64 0, .int .i64 0, .int .i64 0, .int .i64 0, .int .i64 0, .int .i64 0, .int .i64 0, .int .i64 0] 54 (0, 0)) (by (with_reducible repeat (first | refine blk_drewN ?_ _ | refine blk_drew ?_ | refine blk_alloc ?_ _)); exact BK221.out) hb); have n1_ := Aside0.mk (below_step (by repeat (first | (with_reducible first | exact HB.out | apply below_alloc | apply pw_below_drewN | apply below_drew1 | refine below_set ?_ GE221.out) | exact HB.out)) hb); have n2_ := Aside0.mk (hbox); have n3_ := Aside0.mk ((by rw [hg]; exact (below_size (by repeat (first | (with_reducible first | exact HB.out | apply below_alloc | apply pw_below_drewN | apply below_drew1 | refine below_set ?_ GE221.out) | exact HB.out))) : w.heap.size ≤ gb226)); have n4_ := Aside0.mk ((by rw [hg]; exact (below_size (by repeat (first | (with_reducible first | exact HB.out | apply below_alloc | apply pw_below_drewN | apply below_drew1 | refine below_set ?_ GE221.out) | exact HB.out))) : w.heap.size ≤ gb226)); have n5_ := Aside0.mk ((by rw [hg]; exact Nat.ne_of_lt (blk_lt (g := gb221) (o := .cells #[.int .i64 0, .int .i64 0, .int .i64 0, .int .i64 0, .int .i64 0, .int .i64 0, .int .i64 0, .int .i64 0] 54 (0, 0)) (by (with_reducible repeat (first | refine blk_drewN ?_ _ | refine blk_drew ?_ | refine blk_alloc ?_ _)); exact BK221.out)) : gb221 ≠ gb226)); have n6_ := Aside0.mk ((by rw [hg]; exact Nat.ne_of_gt (blk_lt (g := gb221) (o := .cells #[.int .i64 0, .int .i64 0, .int .i64 0, .int .i64 0, .int .i64 0, .int .i64 0, .int .i64 0, .int .i64 0] 54 (0, 0)) (by (with_reducible repeat (first | refine blk_drewN ?_ _ | refine blk_drew ?_ | refine blk_alloc ?_ _)); exact BK221.out)) : gb226 ≠ gb221)); clear BK221; clear HB; have BK221 := n0_; have HB := n1_; have BK226 := n2_; have GW226 := n3_; have GE226 := n4_; have NB221_226 := n5_; have NB226_221 := n6_; clear n0_ n1_ n2_ n3_ n4_ n5_ n6_; clear hb hbox hg; have hnb8 := NB226_221.out; have hnc8 := NB221_226.out; have hcz9_0 : w7.cell? ⟨gb226, 0, none⟩ = some (.int .i64 0) := (blk_cell BK226.out 0).trans rfl; have hcz9_1 : w7.cell? ⟨gb226, 1, none⟩ = some (.int .i64 0) := (blk_cell BK226.out 1).trans rfl; have hcz9_2 : w7.cell? ⟨gb226, 2, none⟩ = some (.int .i64 0) := (blk_cell BK226.out 2).trans rfl; have hfz9_0 := blk_frozen BK226.out 0; have hfz9_1 := blk_frozen BK226.out 1; have hfz9_2 := blk_frozen BK226.out 2) | ((with_reducible refine gate_callee (f := 33) rfl ?_); refine goesL_ (some 15) rfl rfl Try.func33 (by kernel_rfl) rfl #[.agg #[.int .i64 t222, .int .i64 t223, .int .i64 t224]] rfl (by (try simp only [List.map_toArray, List.map_cons, List.map_nil]); first | done | rfl | (simp only [List.length_drop, List.length_take]; rfl)) ?_; (with_reducible refine (pq_stampOf.calls k t222 t223 t224 t227 t228 t229 t230 t231 t232 t233 t234 _ A4.out).mono ?_); rintro e w10 ⟨rfl, hb⟩; refine ⟨_, rfl, ?_⟩; have n0_ := Aside0.mk (blk_below (g := gb221) (o := .cells #[.int .i64 0, .int .i64 0, .int .i64 0, .int .i64 0, .int .i64 0, .int .i64 0, .int .i64 0, .int .i64 0] 54 (0, 0)) (by (with_reducible repeat (first | refine blk_drewN ?_ _ | refine blk_drew ?_ | refine blk_alloc ?_ _)); refine blk_far ?_ NB221_226.out _; (with_reducible repeat (first | refine blk_drewN ?_ _ | refine blk_drew ?_ | refine blk_alloc ?_ _)); refine blk_far ?_ NB221_226.out _; (with_reducible repeat (first | refine blk_drewN ?_ _ | refine blk_drew ?_ | refine blk_alloc ?_ _)); refine blk_far ?_ NB221_226.out _; (with_reducible repeat (first | refine blk_drewN ?_ _ | refine blk_drew ?_ | refine blk_alloc ?_ _)); exact BK221.out) hb); have n1_ := Aside0.mk (blk_below (g := gb226) (o := .cells #[.int .i64 t222, .int .i64 t223, .int .i64 t224] 62 (0, 0)) (by (with_reducible repeat (first | refine blk_drewN ?_ _ | refine blk_drew ?_ | refine blk_alloc ?_ _)); refine blk_put (cs := #[.int .i64 t222, .int .i64 t223, .int .i64 0]) ?_ 2 _ rfl; (with_reducible repeat (first | refine blk_drewN ?_ _ | refine blk_drew ?_ | refine blk_alloc ?_ _)); refine blk_put (cs := #[.int .i64 t222, .int .i64 0, .int .i64 0]) ?_ 1 _ rfl; (with_reducible repeat (first | refine blk_drewN ?_ _ | refine blk_drew ?_ | refine blk_alloc ?_ _)); refine blk_put (cs := #[.int .i64 0, .int .i64 0, .int .i64 0]) ?_ 0 _ rfl; (with_reducible repeat (first | refine blk_drewN ?_ _ | refine blk_drew ?_ | refine blk_alloc ?_ _)); exact BK226.out) hb); have n2_ := Aside0.mk (below_step (by repeat (first | (with_reducible first | exact HB.out | apply below_alloc | apply pw_below_drewN | apply below_drew1 | refine below_set ?_ GE221.out | refine below_set ?_ GE226.out) | exact HB.out)) hb); clear BK221; clear BK226; clear HB; have BK221 := n0_; have BK226 := n1_; have HB := n2_; clear n0_ n1_ n2_; (try clear hb); (try clear hb2); (try clear hk); (try clear hi); have hcz11_0 : w10.cell? ⟨gb221, 0, none⟩ = some (.int .i64 0) := (blk_cell BK221.out 0).trans rfl; have hcz11_1 : w10.cell? ⟨gb221, 1, none⟩ = some (.int .i64 0) := (blk_cell BK221.out 1).trans rfl; have hcz11_2 : w10.cell? ⟨gb221, 2, none⟩ = some (.int .i64 0) := (blk_cell BK221.out 2).trans rfl; have hcz11_3 : w10.cell? ⟨gb221, 3, none⟩ = some (.int .i64 0) := (blk_cell BK221.out 3).trans rfl; have hcz11_4 : w10.cell? ⟨gb221, 4, none⟩ = some (.int .i64 0) := (blk_cell BK221.out 4).trans rfl; have hcz11_5 : w10.cell? ⟨gb221, 5, none⟩ = some (.int .i64 0) := (blk_cell BK221.out 5).trans rfl; have hcz11_6 : w10.cell? ⟨gb221, 6, none⟩ = some (.int .i64 0) := (blk_cell BK221.out 6).trans rfl; have hcz11_7 : w10.cell? ⟨gb221, 7, none⟩ = some (.int .i64 0) := (blk_cell BK221.out 7).trans rfl; have hfz11_0 := blk_frozen BK221.out 0; have hfz11_1 := blk_frozen BK221.out 1; have hfz11_2 := blk_frozen BK221.out 2; have hfz11_3 := blk_frozen BK221.out 3; have hfz11_4 := blk_frozen BK221.out 4; have hfz11_5 := blk_frozen BK221.out 5; have hfz11_6 := blk_frozen BK221.out 6; have hfz11_7 := blk_frozen BK221.out 7))
  refine bodyPost_ret (results_ct rfl _ _ gb221 54 #[.int .i64 t227, .int .i64 t228, .int .i64 t229, .int .i64 t230, .int .i64 t231, .int .i64 t232, .int .i64 t233, .int .i64 t234] (0, 0) _ rfl (by (with_reducible repeat (first | refine blk_drewN ?_ _ | refine blk_drew ?_ | refine blk_alloc ?_ _)); refine blk_put (cs := #[.int .i64 t227, .int .i64 t228, .int .i64 t229, .int .i64 t230, .int .i64 t231, .int .i64 t232, .int .i64 t233, .int .i64 0]) ?_ 7 _ rfl; (with_reducible repeat (first | refine blk_drewN ?_ _ | refine blk_drew ?_ | refine blk_alloc ?_ _)); refine blk_put (cs := #[.int .i64 t227, .int .i64 t228, .int .i64 t229, .int .i64 t230, .int .i64 t231, .int .i64 t232, .int .i64 0, .int .i64 0]) ?_ 6 _ rfl; (with_reducible repeat (first | refine blk_drewN ?_ _ | refine blk_drew ?_ | refine blk_alloc ?_ _)); refine blk_put (cs := #[.int .i64 t227, .int .i64 t228, .int .i64 t229, .int .i64 t230, .int .i64 t231, .int .i64 0, .int .i64 0, .int .i64 0]) ?_ 5 _ rfl; (with_reducible repeat (first | refine blk_drewN ?_ _ | refine blk_drew ?_ | refine blk_alloc ?_ _)); refine blk_put (cs := #[.int .i64 t227, .int .i64 t228, .int .i64 t229, .int .i64 t230, .int .i64 0, .int .i64 0, .int .i64 0, .int .i64 0]) ?_ 4 _ rfl; (with_reducible repeat (first | refine blk_drewN ?_ _ | refine blk_drew ?_ | refine blk_alloc ?_ _)); refine blk_put (cs := #[.int .i64 t227, .int .i64 t228, .int .i64 t229, .int .i64 0, .int .i64 0, .int .i64 0, .int .i64 0, .int .i64 0]) ?_ 3 _ rfl; (with_reducible repeat (first | refine blk_drewN ?_ _ | refine blk_drew ?_ | refine blk_alloc ?_ _)); refine blk_put (cs := #[.int .i64 t227, .int .i64 t228, .int .i64 0, .int .i64 0, .int .i64 0, .int .i64 0, .int .i64 0, .int .i64 0]) ?_ 2 _ rfl; (with_reducible repeat (first | refine blk_drewN ?_ _ | refine blk_drew ?_ | refine blk_alloc ?_ _)); refine blk_put (cs := #[.int .i64 t227, .int .i64 0, .int .i64 0, .int .i64 0, .int .i64 0, .int .i64 0, .int .i64 0, .int .i64 0]) ?_ 1 _ rfl; (with_reducible repeat (first | refine blk_drewN ?_ _ | refine blk_drew ?_ | refine blk_alloc ?_ _)); refine blk_put (cs := #[.int .i64 0, .int .i64 0, .int .i64 0, .int .i64 0, .int .i64 0, .int .i64 0, .int .i64 0, .int .i64 0]) ?_ 0 _ rfl; (with_reducible repeat (first | refine blk_drewN ?_ _ | refine blk_drew ?_ | refine blk_alloc ?_ _)); exact BK221.out) Try.underlying54 rfl (by kernel_rfl)) rfl ?_
  exact ⟨by first | rfl | (simp [errW_none, errW_some] <;> rfl) | (simp [*, errW_none, errW_some] <;> rfl), by repeat (first | (with_reducible first | exact HB.out | apply below_alloc | apply pw_below_drewN | apply below_drew1 | refine below_set ?_ GE221.out | refine below_set ?_ GE226.out) | exact HB.out)⟩

/-! ### impl_ClockRead: function 15 -/
def impl_ClockRead.f (k : Nat) (a0 : ByteArray) (a1 : Bool) : Option (Int × Int × Int × Int × Int × Int × Int × Int × Bool) :=
  (pq_ParseClock.f k (if a1 = true then 1266 else 1083) (bytesOf a0)).bind fun r => if a0.size ≤ 1000000 ∧ r.2.2.2.2.2.2.2.2 = none then some (r.1, r.2.1, r.2.2.1, r.2.2.2.1, r.2.2.2.2.1, r.2.2.2.2.2.1, r.2.2.2.2.2.2.1, r.2.2.2.2.2.2.2.1, true) else none
theorem impl_ClockRead.mono : ∀ a0 a1 k, LeO (impl_ClockRead.f k a0 a1) (impl_ClockRead.f (k + 1) a0 a1) := by
  intro a0 a1 k
  unfold impl_ClockRead.f
  exact LeO.bind (pq_ParseClock.mono _ _ _) (fun _ => LeO.refl _)
theorem clock_results {P : Program} {fn : Func} {p u : Tmp} {ty : TypeId} (h : fn.results = #[.cell p ty, .tmp u]) (tmps : Array Value) (w : World) (g : Nat) (t : TypeId) (cs : Array Value) (fr : Nat × Nat) (d : TypeDesc)
    (hp : tmps.getD p undef = .pointer (some ⟨g, 0, none⟩)) (hg : w.heap[g]? = some (.cells cs t fr))
    (hu : P.underlying ty = some d) (hd : (match d with | .struct _ | .array _ _ => true | _ => false) = true) (hi : (P.info? ty).map (·.size) = some cs.size) :
    (results fn tmps).run P w = .ok (.tuple #[.agg cs, tmps.getD u undef]) w := by
  have hp' : tmps[p]?.getD undef = .pointer (some ⟨g, 0, none⟩) := by simpa using hp
  simp [results, h, hp', asAddr, run_loadVar_row w g t ty cs fr d hg hu hd hi]
theorem store_event {P : Program} {ops : Array Oper} {rest : List Oper} {o : Oper} {a : Act} {w : World} {Q : Exit → Act → World → Prop} (ty : TypeId) (x y : Operand) (g : Nat) (cells : Array Value) (t : TypeId) (old : Array Value)
    (hgd : o.guard = none) (ho : o.op = .store ty x y) (hd : o.dst = none) (hx : a.eval x = .pointer (some ⟨g, 0, none⟩)) (hy : a.eval y = .agg cells)
    (hg : w.heap[g]? = some (.cells old t (0, 0))) (hi : (P.info? ty).map (·.size) = some cells.size)
    (hold : old.size = cells.size) (h1 : cells.all (·.oneCell') = true)
    (h : ∀ w1, w1.heap[g]? = some (.cells cells t (0, 0)) → (∀ k, k ≠ g → w1.heap[k]? = w.heap[k]?) → (∀ B w0, Below B w0 w → B ≤ g → Below B w0 w1) → wpList P ops Q rest a w1) : wpList P ops Q (o :: rest) a w :=
  wpList_store_row hgd ty x y ho g cells hx hy t old hg hi hold h1 (by rw [hd]; exact h _ (setRow_heap w g old cells t (0, 0) hg) (fun k hk => setRow_other w g k cells hk) (fun B w0 hb hB => hb.trans ⟨rfl, rfl, rfl, by simp [World.setRow], fun k hk => setRow_other w g k cells (by omega)⟩))
set_option maxHeartbeats 4000000 in
set_option maxRecDepth 100000 in
theorem impl_ClockRead.yes (k : Nat) (a0 : ByteArray) (r1 r2 r3 r4 r5 r6 r7 r8 : Int) (w : World) (hs : a0.size ≤ 1000000) (h : pq_ParseClock.f k 1266 (bytesOf a0) = some (r1, r2, r3, r4, r5, r6, r7, r8, none)) :
    Calls Try.prog 15 #[.string a0, .bool true] w fun e w' => e = .returned (.tuple #[.agg #[.int .i64 r1, .int .i64 r2, .int .i64 r3, .int .i64 r4, .int .i64 r5, .int .i64 r6, .int .i64 r7, .int .i64 r8], .bool true]) ∧ Below w.heap.size w w' := by
  have hu47 := Try.underlying47
  have kb := fun W => print_bytes (P := Try.prog) 9 57 5 Try.underlying9 Try.underlying57 Try.underlying5 a0 W
  have hc : ∀ W : World, Calls Try.prog 26 #[.int .u32 1266, .slice (some ⟨W.heap.size, 0, none⟩) a0.size (grownCap W a0.size 0 5)] (Lib.bytesWorld W 5 a0) fun e w' => e = .returned (.tuple #[.agg #[.int .i64 r1, .int .i64 r2, .int .i64 r3, .int .i64 r4, .int .i64 r5, .int .i64 r6, .int .i64 r7, .int .i64 r8], .nilIface]) ∧ Below W.heap.size W w' := fun W => by
    have hC : Kd.C (Kd.int .u8) (Lib.bytesWorld W 5 a0) (some ⟨W.heap.size, 0, none⟩) (bytesOf a0).length (bytesOf a0) := by rw [bytesOf_length]; exact Kd.C_of_reads (d := (0 : Int)) (h1 := fun _ => rfl) (bytes_reads W 5 a0 (by omega))
    have hg : (bytesOf a0).length ≤ grownCap W a0.size 0 5 := by rw [bytesOf_length]; exact grownCap_ge _ _ _ _
    have h2 := pq_ParseClock.calls k 1266 (some ⟨W.heap.size, 0, none⟩) (grownCap W a0.size 0 5) (bytesOf a0) r1 r2 r3 r4 r5 r6 r7 r8 none (Lib.bytesWorld W 5 a0) hC hg h
    rw [bytesOf_length] at h2
    refine h2.mono ?_
    rintro e w' ⟨rfl, hb⟩
    exact ⟨rfl, below_step (bytes_below (Below.refl W.heap.size W) (Nat.le_refl _) 5 a0) hb⟩
  have HC := Aside0.mk hc
  clear hc h hs
  go_enter Try.func15, Try.ntmps15
  go_wp2_with (first | ((with_reducible refine gate_dst (N := 4) rfl ?_); refine box_event ?hg (N := 4) ?hd (cs := #[.int .i64 0, .int .i64 0, .int .i64 0, .int .i64 0, .int .i64 0, .int .i64 0, .int .i64 0, .int .i64 0]) (t := 34) ?hr ?_; (case hd => rfl); (case hg => rfl); (case hr => first | (go_simp; done) | (go_simp; rfl) | (go_simp; simp [IntKind.wrap_u8]; done)); intro g4 hg4 w4 hbox4 hb4; have HB4 := Aside0.mk hb4; have HK4 := Aside0.mk hbox4; have HG4 := Aside0.mk hg4; clear hb4 hbox4 hg4) | ((with_reducible refine gate_dst (N := 7) rfl ?_); refine box_event ?hg (N := 7) ?hd (cs := #[.int .i64 0, .int .i64 0, .int .i64 0, .int .i64 0, .int .i64 0, .int .i64 0, .int .i64 0, .int .i64 0]) (t := 54) ?hr ?_; (case hd => rfl); (case hg => rfl); (case hr => first | (go_simp; done) | (go_simp; rfl) | (go_simp; simp [IntKind.wrap_u8]; done)); intro g7 hg7 w7 hbox7 hb7; have HB7 := Aside0.mk hb7; have HK7 := Aside0.mk hbox7; have HG7 := Aside0.mk hg7; clear hb7 hbox7 hg7) | (go_at_call 26; (with_reducible refine (HC.out w4).mono ?_); rintro e w5 ⟨rfl, hb5⟩; have HB5 := Aside0.mk hb5; clear hb5) | (refine store_event 54 (.tmp 7) (.tmp 15) g7 #[.int .i64 r1, .int .i64 r2, .int .i64 r3, .int .i64 r4, .int .i64 r5, .int .i64 r6, .int .i64 r7, .int .i64 r8] 54 #[.int .i64 0, .int .i64 0, .int .i64 0, .int .i64 0, .int .i64 0, .int .i64 0, .int .i64 0, .int .i64 0] ?h1 ?h2 ?h3 ?h4 ?h5 HK7.out ?h6 ?h7 ?h8 ?_; (case h2 => rfl); (case h1 => rfl); (case h3 => rfl); (case h4 => rfl); (case h5 => rfl); (case h6 => kernel_rfl); (case h7 => rfl); (case h8 => simp [Value.oneCell']); intro w8 hk8 ho8 hb8; have HK8 := Aside0.mk hk8; have HO8 := Aside0.mk ho8; have HB8 := Aside0.mk hb8; clear hk8 ho8 hb8) | ((with_reducible refine gate_dst (N := 20) rfl ?_); refine wpList_load_row ?h1 54 (.tmp 7) ?h2 g7 ?h3 54 #[.int .i64 r1, .int .i64 r2, .int .i64 r3, .int .i64 r4, .int .i64 r5, .int .i64 r6, .int .i64 r7, .int .i64 r8] (0, 0) _ HK8.out Try.underlying54 rfl ?h4 ?_; (case h1 => rfl); (case h2 => rfl); (case h3 => rfl); (case h4 => kernel_rfl)) | (refine store_event 34 (.tmp 4) (.tmp 20) g4 #[.int .i64 r1, .int .i64 r2, .int .i64 r3, .int .i64 r4, .int .i64 r5, .int .i64 r6, .int .i64 r7, .int .i64 r8] 34 #[.int .i64 0, .int .i64 0, .int .i64 0, .int .i64 0, .int .i64 0, .int .i64 0, .int .i64 0, .int .i64 0] ?h1 ?h2 ?h3 ?h4 ?h5 ?hk ?h6 ?h7 ?h8 ?_; (case h2 => rfl); (case h1 => rfl); (case h3 => rfl); (case h4 => rfl); (case h5 => rfl); (case hk => exact (HO8.out g4 (by have e1 := HG7.out; have e2 := blk_lt (blk_below HK4.out HB5.out); omega)).trans (blk_below (blk_below HK4.out HB5.out) HB7.out)); (case h6 => kernel_rfl); (case h7 => rfl); (case h8 => simp [Value.oneCell']); intro w9 hk9 ho9 hb9; have HK9 := Aside0.mk hk9; have HB9 := Aside0.mk hb9; clear hk9 ho9 hb9))
  exact bodyPost_ret (clock_results (d := _) rfl _ _ g4 34 _ (0, 0) rfl HK9.out Try.underlying34 rfl (by kernel_rfl)) rfl ⟨rfl, HB9.out _ _ (HB8.out _ _ (below_step (below_step HB4.out HB5.out) HB7.out) (by have e1 := HG7.out; have e3 := HG4.out; have e2 := blk_lt (blk_below HK4.out HB5.out); omega)) (by have e3 := HG4.out; omega)⟩
set_option maxHeartbeats 4000000 in
set_option maxRecDepth 100000 in
theorem impl_ClockRead.no (k : Nat) (a0 : ByteArray) (r1 r2 r3 r4 r5 r6 r7 r8 : Int) (w : World) (hs : a0.size ≤ 1000000) (h : pq_ParseClock.f k 1083 (bytesOf a0) = some (r1, r2, r3, r4, r5, r6, r7, r8, none)) :
    Calls Try.prog 15 #[.string a0, .bool false] w fun e w' => e = .returned (.tuple #[.agg #[.int .i64 r1, .int .i64 r2, .int .i64 r3, .int .i64 r4, .int .i64 r5, .int .i64 r6, .int .i64 r7, .int .i64 r8], .bool true]) ∧ Below w.heap.size w w' := by
  have hu47 := Try.underlying47
  have kb := fun W => print_bytes (P := Try.prog) 9 57 5 Try.underlying9 Try.underlying57 Try.underlying5 a0 W
  have hc : ∀ W : World, Calls Try.prog 26 #[.int .u32 1083, .slice (some ⟨W.heap.size, 0, none⟩) a0.size (grownCap W a0.size 0 5)] (Lib.bytesWorld W 5 a0) fun e w' => e = .returned (.tuple #[.agg #[.int .i64 r1, .int .i64 r2, .int .i64 r3, .int .i64 r4, .int .i64 r5, .int .i64 r6, .int .i64 r7, .int .i64 r8], .nilIface]) ∧ Below W.heap.size W w' := fun W => by
    have hC : Kd.C (Kd.int .u8) (Lib.bytesWorld W 5 a0) (some ⟨W.heap.size, 0, none⟩) (bytesOf a0).length (bytesOf a0) := by rw [bytesOf_length]; exact Kd.C_of_reads (d := (0 : Int)) (h1 := fun _ => rfl) (bytes_reads W 5 a0 (by omega))
    have hg : (bytesOf a0).length ≤ grownCap W a0.size 0 5 := by rw [bytesOf_length]; exact grownCap_ge _ _ _ _
    have h2 := pq_ParseClock.calls k 1083 (some ⟨W.heap.size, 0, none⟩) (grownCap W a0.size 0 5) (bytesOf a0) r1 r2 r3 r4 r5 r6 r7 r8 none (Lib.bytesWorld W 5 a0) hC hg h
    rw [bytesOf_length] at h2
    refine h2.mono ?_
    rintro e w' ⟨rfl, hb⟩
    exact ⟨rfl, below_step (bytes_below (Below.refl W.heap.size W) (Nat.le_refl _) 5 a0) hb⟩
  have HC := Aside0.mk hc
  clear hc h hs
  go_enter Try.func15, Try.ntmps15
  go_wp2_with (first | ((with_reducible refine gate_dst (N := 4) rfl ?_); refine box_event ?hg (N := 4) ?hd (cs := #[.int .i64 0, .int .i64 0, .int .i64 0, .int .i64 0, .int .i64 0, .int .i64 0, .int .i64 0, .int .i64 0]) (t := 34) ?hr ?_; (case hd => rfl); (case hg => rfl); (case hr => first | (go_simp; done) | (go_simp; rfl) | (go_simp; simp [IntKind.wrap_u8]; done)); intro g4 hg4 w4 hbox4 hb4; have HB4 := Aside0.mk hb4; have HK4 := Aside0.mk hbox4; have HG4 := Aside0.mk hg4; clear hb4 hbox4 hg4) | ((with_reducible refine gate_dst (N := 7) rfl ?_); refine box_event ?hg (N := 7) ?hd (cs := #[.int .i64 0, .int .i64 0, .int .i64 0, .int .i64 0, .int .i64 0, .int .i64 0, .int .i64 0, .int .i64 0]) (t := 54) ?hr ?_; (case hd => rfl); (case hg => rfl); (case hr => first | (go_simp; done) | (go_simp; rfl) | (go_simp; simp [IntKind.wrap_u8]; done)); intro g7 hg7 w7 hbox7 hb7; have HB7 := Aside0.mk hb7; have HK7 := Aside0.mk hbox7; have HG7 := Aside0.mk hg7; clear hb7 hbox7 hg7) | (go_at_call 26; (with_reducible refine (HC.out w4).mono ?_); rintro e w5 ⟨rfl, hb5⟩; have HB5 := Aside0.mk hb5; clear hb5) | (refine store_event 54 (.tmp 7) (.tmp 15) g7 #[.int .i64 r1, .int .i64 r2, .int .i64 r3, .int .i64 r4, .int .i64 r5, .int .i64 r6, .int .i64 r7, .int .i64 r8] 54 #[.int .i64 0, .int .i64 0, .int .i64 0, .int .i64 0, .int .i64 0, .int .i64 0, .int .i64 0, .int .i64 0] ?h1 ?h2 ?h3 ?h4 ?h5 HK7.out ?h6 ?h7 ?h8 ?_; (case h2 => rfl); (case h1 => rfl); (case h3 => rfl); (case h4 => rfl); (case h5 => rfl); (case h6 => kernel_rfl); (case h7 => rfl); (case h8 => simp [Value.oneCell']); intro w8 hk8 ho8 hb8; have HK8 := Aside0.mk hk8; have HO8 := Aside0.mk ho8; have HB8 := Aside0.mk hb8; clear hk8 ho8 hb8) | ((with_reducible refine gate_dst (N := 20) rfl ?_); refine wpList_load_row ?h1 54 (.tmp 7) ?h2 g7 ?h3 54 #[.int .i64 r1, .int .i64 r2, .int .i64 r3, .int .i64 r4, .int .i64 r5, .int .i64 r6, .int .i64 r7, .int .i64 r8] (0, 0) _ HK8.out Try.underlying54 rfl ?h4 ?_; (case h1 => rfl); (case h2 => rfl); (case h3 => rfl); (case h4 => kernel_rfl)) | (refine store_event 34 (.tmp 4) (.tmp 20) g4 #[.int .i64 r1, .int .i64 r2, .int .i64 r3, .int .i64 r4, .int .i64 r5, .int .i64 r6, .int .i64 r7, .int .i64 r8] 34 #[.int .i64 0, .int .i64 0, .int .i64 0, .int .i64 0, .int .i64 0, .int .i64 0, .int .i64 0, .int .i64 0] ?h1 ?h2 ?h3 ?h4 ?h5 ?hk ?h6 ?h7 ?h8 ?_; (case h2 => rfl); (case h1 => rfl); (case h3 => rfl); (case h4 => rfl); (case h5 => rfl); (case hk => exact (HO8.out g4 (by have e1 := HG7.out; have e2 := blk_lt (blk_below HK4.out HB5.out); omega)).trans (blk_below (blk_below HK4.out HB5.out) HB7.out)); (case h6 => kernel_rfl); (case h7 => rfl); (case h8 => simp [Value.oneCell']); intro w9 hk9 ho9 hb9; have HK9 := Aside0.mk hk9; have HB9 := Aside0.mk hb9; clear hk9 ho9 hb9))
  exact bodyPost_ret (clock_results (d := _) rfl _ _ g4 34 _ (0, 0) rfl HK9.out Try.underlying34 rfl (by kernel_rfl)) rfl ⟨rfl, HB9.out _ _ (HB8.out _ _ (below_step (below_step HB4.out HB5.out) HB7.out) (by have e1 := HG7.out; have e3 := HG4.out; have e2 := blk_lt (blk_below HK4.out HB5.out); omega)) (by have e3 := HG4.out; omega)⟩
theorem impl_ClockRead.calls (k : Nat) (a0 : ByteArray) (a1 : Bool) (r1 r2 r3 r4 r5 r6 r7 r8 : Int) (r9 : Bool) (w : World) (h : impl_ClockRead.f k a0 a1 = some (r1, r2, r3, r4, r5, r6, r7, r8, r9)) :
    Calls Try.prog 15 #[.string a0, .bool a1] w fun e w' => e = .returned (.tuple #[.agg #[.int .i64 r1, .int .i64 r2, .int .i64 r3, .int .i64 r4, .int .i64 r5, .int .i64 r6, .int .i64 r7, .int .i64 r8], .bool r9]) ∧ Below w.heap.size w w' := by
  unfold impl_ClockRead.f at h
  obtain ⟨⟨q1, q2, q3, q4, q5, q6, q7, q8, q9⟩, hP, h2⟩ := Option.bind_eq_some_iff.mp h
  split at h2
  case isFalse => cases h2
  rename_i hh
  obtain ⟨hs, hn⟩ := hh
  have hn : q9 = none := hn
  subst hn
  injection h2 with h2
  simp only [Prod.mk.injEq] at h2
  obtain ⟨rfl, rfl, rfl, rfl, rfl, rfl, rfl, rfl, rfl⟩ := h2
  cases a1 with
  | true => exact impl_ClockRead.yes k a0 _ _ _ _ _ _ _ _ w hs hP
  | false => exact impl_ClockRead.no k a0 _ _ _ _ _ _ _ _ w hs hP

end Go.Proofs.Ytlhjblbmhlelbab.P
