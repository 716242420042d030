-- Written by the program wip/myprint.py of this session, over the kit's print of the translation. Lean checks it.
import Derived.Test.YtlhjblbmhlelbabDoorPx0
import Derived.Test.YtlhjblbmhlelbabDoorPx4
namespace Go.Proofs.YtlhjblbmhlelbabDoor.P
open Go.RowKit Go.Proofs.YtlhjblbmhlelbabDoorW.PrintWords Go.Proofs.YtlhjblbmhlelbabDoorW.PrintLast Go.Proofs.YtlhjblbmhlelbabDoorW.PrintMore
attribute [local go_sem] max2_int min2_int max_two min_two max_three min_three max_four min_four   -- for this text's walks alone
set_option linter.unusedVariables false
set_option linter.unusedSimpArgs false

/-! ### zztime_Time_AddDate: function 30 -/
def zztime_Time_AddDate.f (k : Nat) (a0_0 : Int) (a0_1 : Int) (a0_2 : Int) (a1 : Int) (a2 : Int) (a3 : Int) : Option (Int × Int × Int) := (zztime_Time_date.f k a0_0 a0_1 a0_2).bind fun bt184 => ((zztime_Date.f (wrap64 (bt184.1 + a1)) (wrap64 (bt184.2.1 + a2)) (wrap64 (bt184.2.2.1 + a3)) 0 0 bt184.2.2.2 a0_1 a0_2).bind fun bt188 => (some (bt188.1, bt188.2.1, bt188.2.2)))
theorem zztime_Time_AddDate.mono : ∀ a0 a1 a2 a3 a4 a5 k, LeO (zztime_Time_AddDate.f k a0 a1 a2 a3 a4 a5) (zztime_Time_AddDate.f (k + 1) a0 a1 a2 a3 a4 a5) := by
  intro a0 a1 a2 a3 a4 a5 k
  unfold zztime_Time_AddDate.f
  repeat' first
      | (with_reducible exact zztime_Time_date.mono _ _ _ _)
      | (with_reducible exact LeO.refl _)
      | (with_reducible exact LeO.none _)
      | (with_reducible refine LeO.ite ?_ ?_)
      | (with_reducible refine LeO.bind ?_ (fun _ => ?_))
      | exact zztime_Time_date.mono _ _ _ _
      | exact LeO.none _
      | refine LeO.ite ?_ ?_
      | refine LeO.bind ?_ (fun _ => ?_)
set_option maxHeartbeats 8000000 in
set_option maxRecDepth 100000 in
theorem zztime_Time_AddDate.calls (k : Nat) (a0_0 : Int) (a0_1 : Int) (a0_2 : Int) (a1 : Int) (a2 : Int) (a3 : Int) (r1 : Int) (r2 : Int) (r3 : Int) (w : World) (h : zztime_Time_AddDate.f k a0_0 a0_1 a0_2 a1 a2 a3 = some (r1, r2, r3)) :
    Calls Tryd.prog 30 #[.agg #[.int .i64 a0_0, .int .i64 a0_1, .int .i64 a0_2], .int .i64 a1, .int .i64 a2, .int .i64 a3] w fun e w' => e = .returned (.agg #[.int .i64 r1, .int .i64 r2, .int .i64 r3]) ∧ Below w.heap.size w w' := by
  have hu36 := Tryd.underlying36
  have HB := Aside0.mk (Below.refl w.heap.size w)
  have H : ((zztime_Time_date.f k a0_0 a0_1 a0_2).bind fun bt184 => ((zztime_Date.f (wrap64 (bt184.1 + a1)) (wrap64 (bt184.2.1 + a2)) (wrap64 (bt184.2.2.1 + a3)) 0 0 bt184.2.2.2 a0_1 a0_2).bind fun bt188 => (some (bt188.1, bt188.2.1, bt188.2.2)))) = some (r1, r2, r3) := h
  clear h
  replace H := Option.bind_eq_some_iff.mp H
  obtain ⟨⟨t184, t185, t186, t187⟩, A50, H⟩ := H
  replace H : ((zztime_Date.f (wrap64 (t184 + a1)) (wrap64 (t185 + a2)) (wrap64 (t186 + a3)) 0 0 t187 a0_1 a0_2).bind fun bt188 => (some (bt188.1, bt188.2.1, bt188.2.2))) = some (r1, r2, r3) := H
  have A5 := Aside0.mk A50
  clear A50
  replace H := Option.bind_eq_some_iff.mp H
  obtain ⟨⟨t188, t189, t190⟩, A60, H⟩ := H
  replace H : (some (t188, t189, t190)) = some (r1, r2, r3) := H
  have A6 := Aside0.mk A60
  clear A60
  simp only [Option.some.injEq, Prod.mk.injEq] at H
  obtain ⟨rfl, rfl, rfl⟩ := H
  go_enter Tryd.func30, Tryd.ntmps30
  go_wp2_with (first | ((with_reducible refine gate_dst (N := 4) rfl ?_); refine box_event ?hg (N := 4) ?hd (cs := #[.int .i64 a0_0, .int .i64 a0_1, .int .i64 a0_2]) (t := 36) ?hr ?_; (case hd => rfl); (case hg => rfl); (case hr => first | (go_simp; done) | (go_simp; rfl) | (go_simp; simp [IntKind.wrap_u8]; done)); intro gb182 hg w7 hbox hb; have n0_ := Aside0.mk (below_step (by repeat (first | (with_reducible first | exact HB.out | apply below_alloc | apply pw_below_drewN | apply below_drew1) | exact HB.out)) hb); have n1_ := Aside0.mk (hbox); have n2_ := Aside0.mk ((by rw [hg]; exact (below_size (by repeat (first | (with_reducible first | exact HB.out | apply below_alloc | apply pw_below_drewN | apply below_drew1) | exact HB.out))) : w.heap.size ≤ gb182)); have n3_ := Aside0.mk ((by rw [hg]; exact (below_size (by repeat (first | (with_reducible first | exact HB.out | apply below_alloc | apply pw_below_drewN | apply below_drew1) | exact HB.out))) : w.heap.size ≤ gb182)); clear HB; have HB := n0_; have BK182 := n1_; have GW182 := n2_; have GE182 := n3_; clear n0_ n1_ n2_ n3_; clear hb hbox hg) | ((with_reducible refine gate_dst (N := 8) rfl ?_); refine box_event ?hg (N := 8) ?hd (cs := #[.int .i64 0, .int .i64 0, .int .i64 0]) (t := 36) ?hr ?_; (case hd => rfl); (case hg => rfl); (case hr => first | (go_simp; done) | (go_simp; rfl) | (go_simp; simp [IntKind.wrap_u8]; done)); intro gb183 hg w8 hbox hb; have n0_ := Aside0.mk (blk_below (g := gb182) (o := .cells #[.int .i64 a0_0, .int .i64 a0_1, .int .i64 a0_2] 36 (0, 0)) (by (with_reducible repeat (first | refine blk_drewN ?_ _ | refine blk_drew ?_ | refine blk_alloc ?_ _)); exact BK182.out) hb); have n1_ := Aside0.mk (below_step (by repeat (first | (with_reducible first | exact HB.out | apply below_alloc | apply pw_below_drewN | apply below_drew1 | refine below_set ?_ GE182.out) | exact HB.out)) hb); have n2_ := Aside0.mk (hbox); have n3_ := Aside0.mk ((by rw [hg]; exact (below_size (by repeat (first | (with_reducible first | exact HB.out | apply below_alloc | apply pw_below_drewN | apply below_drew1 | refine below_set ?_ GE182.out) | exact HB.out))) : w.heap.size ≤ gb183)); have n4_ := Aside0.mk ((by rw [hg]; exact (below_size (by repeat (first | (with_reducible first | exact HB.out | apply below_alloc | apply pw_below_drewN | apply below_drew1 | refine below_set ?_ GE182.out) | exact HB.out))) : w.heap.size ≤ gb183)); have n5_ := Aside0.mk ((by rw [hg]; exact Nat.ne_of_lt (blk_lt (g := gb182) (o := .cells #[.int .i64 a0_0, .int .i64 a0_1, .int .i64 a0_2] 36 (0, 0)) (by (with_reducible repeat (first | refine blk_drewN ?_ _ | refine blk_drew ?_ | refine blk_alloc ?_ _)); exact BK182.out)) : gb182 ≠ gb183)); have n6_ := Aside0.mk ((by rw [hg]; exact Nat.ne_of_gt (blk_lt (g := gb182) (o := .cells #[.int .i64 a0_0, .int .i64 a0_1, .int .i64 a0_2] 36 (0, 0)) (by (with_reducible repeat (first | refine blk_drewN ?_ _ | refine blk_drew ?_ | refine blk_alloc ?_ _)); exact BK182.out)) : gb183 ≠ gb182)); clear BK182; clear HB; have BK182 := n0_; have HB := n1_; have BK183 := n2_; have GW183 := n3_; have GE183 := n4_; have NB182_183 := n5_; have NB183_182 := n6_; clear n0_ n1_ n2_ n3_ n4_ n5_ n6_; clear hb hbox hg; have hnb9 := NB182_183.out; have hnc9 := NB183_182.out; have hcz10_0 : w8.cell? ⟨gb182, 0, none⟩ = some (.int .i64 a0_0) := (blk_cell BK182.out 0).trans rfl; have hcz10_1 : w8.cell? ⟨gb182, 1, none⟩ = some (.int .i64 a0_1) := (blk_cell BK182.out 1).trans rfl; have hcz10_2 : w8.cell? ⟨gb182, 2, none⟩ = some (.int .i64 a0_2) := (blk_cell BK182.out 2).trans rfl; have hfz10_0 := blk_frozen BK182.out 0; have hfz10_1 := blk_frozen BK182.out 1; have hfz10_2 := blk_frozen BK182.out 2) | ((with_reducible refine gate_callee (f := 33) rfl ?_); refine goesL_ (some 15) rfl rfl Tryd.func33 (by kernel_rfl) rfl #[.agg #[.int .i64 a0_0, .int .i64 a0_1, .int .i64 a0_2]] rfl (by (try simp only [List.map_toArray, List.map_cons, List.map_nil]); first | done | rfl | (simp only [List.length_drop, List.length_take]; rfl)) ?_; (with_reducible refine (zztime_Time_date.calls k a0_0 a0_1 a0_2 t184 t185 t186 t187 _ A5.out).mono ?_); rintro e w11 ⟨rfl, hb⟩; refine ⟨_, rfl, ?_⟩; have n0_ := Aside0.mk (blk_below (g := gb182) (o := .cells #[.int .i64 a0_0, .int .i64 a0_1, .int .i64 a0_2] 36 (0, 0)) (by (with_reducible repeat (first | refine blk_drewN ?_ _ | refine blk_drew ?_ | refine blk_alloc ?_ _)); exact BK182.out) hb); have n1_ := Aside0.mk (blk_below (g := gb183) (o := .cells #[.int .i64 0, .int .i64 0, .int .i64 0] 36 (0, 0)) (by (with_reducible repeat (first | refine blk_drewN ?_ _ | refine blk_drew ?_ | refine blk_alloc ?_ _)); exact BK183.out) hb); have n2_ := Aside0.mk (below_step (by repeat (first | (with_reducible first | exact HB.out | apply below_alloc | apply pw_below_drewN | apply below_drew1 | refine below_set ?_ GE182.out | refine below_set ?_ GE183.out) | exact HB.out)) hb); clear BK182; clear BK183; clear HB; have BK182 := n0_; have BK183 := n1_; have HB := n2_; clear n0_ n1_ n2_; (try clear hb); (try clear hb2); (try clear hk); (try clear hi); have hcz12_0 : w11.cell? ⟨gb182, 0, none⟩ = some (.int .i64 a0_0) := (blk_cell BK182.out 0).trans rfl; have hcz12_1 : w11.cell? ⟨gb182, 1, none⟩ = some (.int .i64 a0_1) := (blk_cell BK182.out 1).trans rfl; have hcz12_2 : w11.cell? ⟨gb182, 2, none⟩ = some (.int .i64 a0_2) := (blk_cell BK182.out 2).trans rfl; have hfz12_0 := blk_frozen BK182.out 0; have hfz12_1 := blk_frozen BK182.out 1; have hfz12_2 := blk_frozen BK182.out 2) | (go_at_call 16; (refine (zztime_Date.calls (wrap64 (t184 + a1)) (wrap64 (t185 + a2)) (wrap64 (t186 + a3)) 0 0 t187 a0_1 a0_2 t188 t189 t190 _ _ ((blk_cell (blk_new _ _) 0).trans rfl) A6.out).mono ?_); rintro e w13 ⟨rfl, hb⟩; have hb := below_step (below_alloc (Below.refl _ _) _) hb; have n0_ := Aside0.mk (blk_below (g := gb182) (o := .cells #[.int .i64 a0_0, .int .i64 a0_1, .int .i64 a0_2] 36 (0, 0)) (by (with_reducible repeat (first | refine blk_drewN ?_ _ | refine blk_drew ?_ | refine blk_alloc ?_ _)); exact BK182.out) hb); have n1_ := Aside0.mk (blk_below (g := gb183) (o := .cells #[.int .i64 0, .int .i64 0, .int .i64 0] 36 (0, 0)) (by (with_reducible repeat (first | refine blk_drewN ?_ _ | refine blk_drew ?_ | refine blk_alloc ?_ _)); exact BK183.out) hb); have n2_ := Aside0.mk (below_step (by repeat (first | (with_reducible first | exact HB.out | apply below_alloc | apply pw_below_drewN | apply below_drew1 | refine below_set ?_ GE182.out | refine below_set ?_ GE183.out) | exact HB.out)) hb); clear BK182; clear BK183; clear HB; have BK182 := n0_; have BK183 := n1_; have HB := n2_; clear n0_ n1_ n2_; (try clear hb); (try clear hb2); (try clear hk); (try clear hi); have hcz14_0 : w13.cell? ⟨gb183, 0, none⟩ = some (.int .i64 0) := (blk_cell BK183.out 0).trans rfl; have hcz14_1 : w13.cell? ⟨gb183, 1, none⟩ = some (.int .i64 0) := (blk_cell BK183.out 1).trans rfl; have hcz14_2 : w13.cell? ⟨gb183, 2, none⟩ = some (.int .i64 0) := (blk_cell BK183.out 2).trans rfl; have hfz14_0 := blk_frozen BK183.out 0; have hfz14_1 := blk_frozen BK183.out 1; have hfz14_2 := blk_frozen BK183.out 2))
  refine bodyPost_ret (results_cell_row rfl _ _ gb183 36 #[.int .i64 t188, .int .i64 t189, .int .i64 t190] (0, 0) _ rfl (by (with_reducible repeat (first | refine blk_drewN ?_ _ | refine blk_drew ?_ | refine blk_alloc ?_ _)); refine blk_put (cs := #[.int .i64 t188, .int .i64 t189, .int .i64 0]) ?_ 2 _ rfl; (with_reducible repeat (first | refine blk_drewN ?_ _ | refine blk_drew ?_ | refine blk_alloc ?_ _)); refine blk_put (cs := #[.int .i64 t188, .int .i64 0, .int .i64 0]) ?_ 1 _ rfl; (with_reducible repeat (first | refine blk_drewN ?_ _ | refine blk_drew ?_ | refine blk_alloc ?_ _)); refine blk_put (cs := #[.int .i64 0, .int .i64 0, .int .i64 0]) ?_ 0 _ rfl; (with_reducible repeat (first | refine blk_drewN ?_ _ | refine blk_drew ?_ | refine blk_alloc ?_ _)); exact BK183.out) Tryd.underlying36 rfl (by kernel_rfl)) rfl ?_
  exact ⟨by first | rfl | (simp [errW_none, errW_some] <;> rfl) | (simp [*, errW_none, errW_some] <;> rfl), by repeat (first | (with_reducible first | exact HB.out | apply below_alloc | apply pw_below_drewN | apply below_drew1 | refine below_set ?_ GE182.out | refine below_set ?_ GE183.out) | exact HB.out)⟩

/-! ### zztime_padded: function 34 -/
mutual
def zztime_padded.l0 : Nat → List Int → Int → Int → List Int → Option (List Int)
  | 0, _, _, _, _ => none
  | k + 1, x0, x1, x2, x7 => if x1 > 0 then (if x7.length < 140737488355328 then (zztime_padded.l0 k x0 (wrap64 (Int.tdiv x1 10)) x2 (x7 ++ [(wrap64 (48 + (Int.tmod x1 10))) % 256])) else (none)) else (if (x7.length : Int) < x2 then (if x7.length < 140737488355328 then (zztime_padded.l0 k x0 (wrap64 (Int.tdiv x1 10)) x2 (x7 ++ [(wrap64 (48 + (Int.tmod x1 10))) % 256])) else (none)) else (zztime_padded.l1 k x0 x7 (wrap64 ((x7.length : Int) - 1))))
def zztime_padded.l1 : Nat → List Int → List Int → Int → Option (List Int)
  | 0, _, _, _ => none
  | k + 1, x0, x7, x8 => if x8 ≥ 0 then (if 0 ≤ x8 then (if x8 < (x7.length : Int) then (if x0.length < 140737488355328 then (zztime_padded.l1 k (x0 ++ [rd x7 x8]) x7 (wrap64 (x8 - 1))) else (none)) else (none)) else (none)) else (some x0)
end
def zztime_padded.f (k : Nat) (l0 : List Int) (a1 : Int) (a2 : Int) : Option (List Int) := zztime_padded.l0 k l0 a1 a2 ([] : List Int)
theorem zztime_padded.mono_l : ∀ k, (∀ y0 y1 y2 y3, LeO (zztime_padded.l0 k y0 y1 y2 y3) (zztime_padded.l0 (k + 1) y0 y1 y2 y3)) ∧ (∀ y0 y1 y2, LeO (zztime_padded.l1 k y0 y1 y2) (zztime_padded.l1 (k + 1) y0 y1 y2))
  | 0 => ⟨fun _ _ _ _ r h => by simp [zztime_padded.l0] at h, fun _ _ _ r h => by simp [zztime_padded.l1] at h⟩
  | k + 1 => by
    obtain ⟨ih0, ih1⟩ := zztime_padded.mono_l k
    refine ⟨?_, ?_⟩
    · intro y0 y1 y2 y3
      unfold zztime_padded.l0
      repeat' first
      | (with_reducible exact ih0 _ _ _ _)
      | (with_reducible exact ih1 _ _ _)
      | (with_reducible exact LeO.refl _)
      | (with_reducible exact LeO.none _)
      | (with_reducible refine LeO.ite ?_ ?_)
      | (with_reducible refine LeO.bind ?_ (fun _ => ?_))
      | exact ih0 _ _ _ _
      | exact ih1 _ _ _
      | exact LeO.none _
      | refine LeO.ite ?_ ?_
      | refine LeO.bind ?_ (fun _ => ?_)
    · intro y0 y1 y2
      unfold zztime_padded.l1
      repeat' first
      | (with_reducible exact ih0 _ _ _ _)
      | (with_reducible exact ih1 _ _ _)
      | (with_reducible exact LeO.refl _)
      | (with_reducible exact LeO.none _)
      | (with_reducible refine LeO.ite ?_ ?_)
      | (with_reducible refine LeO.bind ?_ (fun _ => ?_))
      | exact ih0 _ _ _ _
      | exact ih1 _ _ _
      | exact LeO.none _
      | refine LeO.ite ?_ ?_
      | refine LeO.bind ?_ (fun _ => ?_)
theorem zztime_padded.mono : ∀ a0 a1 a2 k, LeO (zztime_padded.f k a0 a1 a2) (zztime_padded.f (k + 1) a0 a1 a2) := by
  intro a0 a1 a2 k
  obtain ⟨ih0, ih1⟩ := zztime_padded.mono_l k
  unfold zztime_padded.f
  repeat' first
      | (with_reducible exact ih0 _ _ _ _)
      | (with_reducible exact ih1 _ _ _)
      | (with_reducible exact LeO.refl _)
      | (with_reducible exact LeO.none _)
      | (with_reducible refine LeO.ite ?_ ?_)
      | (with_reducible refine LeO.bind ?_ (fun _ => ?_))
      | exact ih0 _ _ _ _
      | exact ih1 _ _ _
      | exact LeO.none _
      | refine LeO.ite ?_ ?_
      | refine LeO.bind ?_ (fun _ => ?_)
set_option maxHeartbeats 8000000 in
set_option maxRecDepth 100000 in
theorem zztime_padded.calls (k : Nat) (P0_ : Nat → Prop) (u9000_ : Value) (l0 : List Int) (a1 : Int) (a2 : Int) (r : List Int) (w0 w : World) (hB : Below w0.heap.size w0 w) (ho0 : Kd.R (Kd.int .u8) 5 w w0.heap.size P0_ u9000_ l0) (h : zztime_padded.f k l0 a1 a2 = some r) :
    Calls Tryd.prog 34 #[u9000_, .int .i64 a1, .int .i64 a2] w fun e w' => ∃ v0_ : Value, e = .returned (v0_) ∧ Kd.R (Kd.int .u8) 5 w' w0.heap.size (fun k_ => (P0_ k_ ∨ w.heap.size ≤ k_)) v0_ r ∧ Below w0.heap.size w0 w' ∧ Kept w w' (fun k_ => P0_ k_) := by
  have HO0 := Aside0.mk (show Kd.R (Kd.int .u8) 5 w w0.heap.size (fun k_ => (P0_ k_ ∨ w.heap.size ≤ k_)) u9000_ l0 from Kd.R_mono ho0 (fun k_ hk => (.inl hk)))
  have HK := Aside0.mk (Kept.refl w (fun k_ => P0_ k_))
  have HW0 := Aside0.mk hB.size
  have HB := Aside0.mk hB
  clear hB
  have H : (zztime_padded.l0 k l0 a1 a2 ([] : List Int)) = some r := h
  clear h
  have H' := Aside0.mk H
  clear H
  go_enter Tryd.func34, Tryd.ntmps34
  go_wp2
  go_loopg [1, 7] k (fun kq v1 v7 w' => ∃ (x1_1 : Int) (x7_1 : List Int), v1 = .int .i64 x1_1 ∧ Aside0 (zztime_padded.l0 kq l0 x1_1 a2 x7_1 = some r) ∧ Aside0 (kq ≤ k) ∧ Aside0 (Kd.R (Kd.int .u8) 5 w' w0.heap.size (fun k_ => (P0_ k_ ∨ w.heap.size ≤ k_) ∧ some k_ ≠ (v7 : Value).ownBlock) u9000_ l0) ∧ Aside0 (Kd.R (Kd.int .u8) 5 w' w0.heap.size (fun k_ => (P0_ k_ ∨ w.heap.size ≤ k_) ∧ some k_ ≠ (u9000_ : Value).ownBlock) v7 x7_1) ∧ Aside0 (Kept w w' (fun k_ => P0_ k_)) ∧ Aside0 (Below w0.heap.size w0 w'))
  case atStart => exact ⟨(a1), (([] : List Int)), (by first | rfl | (simp; done) | (simp [*]; done)), H', ⟨Nat.le_refl _⟩, ⟨by (with_reducible repeat (first | apply Kd.R_alloc | apply Kd.R_drewN | apply Kd.R_drew)); exact Kd.R_mono HO0.out (fun _ hk => ⟨hk, (by simp [Value.ownBlock])⟩)⟩, ⟨by first | exact Kd.R_nil _ _ _ _ _ | exact Kd.N_nil _ _ _ _ _ | exact Kd.V_nil _ _ _ _ _ | exact Kd.Q_nil _ _ _ _ _ | exact Kd.S_nil _ _ _ _ _⟩, ⟨by repeat (first | (with_reducible first | exact HK.out | apply Kept.alloc | apply Kept.drewN | apply Kept.drew) | exact HK.out)⟩, ⟨by repeat (first | (with_reducible first | exact HB.out | apply below_alloc | apply pw_below_drewN | apply below_drew1) | exact HB.out)⟩⟩
  case round =>
    clear H'
    try clear p2
    try clear c3
    obtain ⟨x1_1, x7_1, rfl, HA, HK1, HO_0, HO_7, HK, HB⟩ := hrel
    cases gk with
    | zero => exact absurd HA.out (by simp [zztime_padded.l0])
    | succ k1 =>
      have H := HA.out
      clear HA
      simp only [zztime_padded.l0] at H
      by_cases c4 : x1_1 > 0
      · rw [if_pos c4] at H
        have c4b0 : decide (0 < x1_1) = true := decide_eq_true c4
        clear c4
        by_cases c5 : x7_1.length < 140737488355328
        · rw [if_pos c5] at H
          have LMc5 := Aside0.mk c5
          clear c5
          obtain ⟨y191, hy191⟩ : ∃ y_ : List Int, y_ = (x7_1 ++ [(wrap64 (48 + (Int.tmod x1_1 10))) % 256]) := ⟨_, rfl⟩
          replace H : (zztime_padded.l0 k1 l0 (wrap64 (Int.tdiv x1_1 10)) a2 y191) = some r := by first | (rw [hy191]; with_reducible exact H) | (have H2_ := (Option.bind_some _ _).symm.trans H; rw [hy191]; with_reducible exact H2_) | (have H2_ := (Option.bind_some _ _).symm.trans H; with_reducible exact H2_) | with_reducible exact H | (rw [hy191]; exact H) | exact H
          have Ny191 := Aside0.mk hy191
          clear hy191
          have H' := Aside0.mk H
          clear H
          go_wp2_with (first | ((with_reducible refine gate_builtin (b := .append) (xs := #[.tmp 17, .tmp 22]) rfl ?_); (try (refine gate_guard (by rfl) ?_; dsimp only)); at_builtin; refine Kd.R_append (Kd.int .u8) (w0 := w0) w0.heap.size rfl (.tmp 17) (.tmp 22) 34 5 (.int .u8 0) 1 rfl Tryd.underlying34 info5 rfl (by decide) (by omega) u7 x7_1 ((wrap64 (48 + (Int.tmod x1_1 10))) % 256) [.int .u8 ((wrap64 (48 + (Int.tmod x1_1 10))) % 256)] (fun k_ => (P0_ k_ ∨ w.heap.size ≤ k_) ∧ some k_ ≠ (u9000_ : Value).ownBlock) (fun _ => False) rfl rfl ?aP (fun _ hk => hk.elim) ?aF ?aO ?aB ?aS ?aL ?_; (case aP => exact rfl); (case aB => exact (by repeat (first | (with_reducible first | exact HB.out | apply below_alloc | apply pw_below_drewN | apply below_drew1) | exact HB.out))); (case aF => exact (fun k_ hk => ⟨(.inr (Nat.le_trans (by first | exact HK.out.1 | exact (show Kept w _ (fun k_ => P0_ k_) from by repeat (first | (with_reducible first | exact HK.out | apply Kept.alloc | apply Kept.drewN | apply Kept.drew) | exact HK.out)).1) hk)), Kd.fresh' (Kd.R_lt (by (with_reducible repeat (first | apply Kd.R_alloc | apply Kd.R_drewN | apply Kd.R_drew)); exact HO_0.out)) k_ hk⟩)); (case aO => exact (by (with_reducible repeat (first | apply Kd.R_alloc | apply Kd.R_drewN | apply Kd.R_drew)); exact HO_7.out)); (case aS => exact (below_size (by repeat (first | (with_reducible first | exact HB.out | apply below_alloc | apply pw_below_drewN | apply below_drew1) | exact HB.out)))); (case aL => have := LMc5.out; omega); intro v192 w6 ho hb hg hat; rw [← Ny191.out] at ho; have n0_ := Aside0.mk (Kd.R_after (ok := (fun k_ => (P0_ k_ ∨ w.heap.size ≤ k_))) (by (with_reducible repeat (first | apply Kd.R_alloc | apply Kd.R_drewN | apply Kd.R_drew)); exact HO_0.out) hg hat); have n1_ := Aside0.mk (hb); have n2_ := Aside0.mk (Kept.of_grown (S := (fun k_ => P0_ k_)) hg (by repeat (first | (with_reducible first | exact HK.out | apply Kept.alloc | apply Kept.drewN | apply Kept.drew) | exact HK.out)) (fun k_ e_ => (HO_7.out.1 k_ e_).1)); have n3_ := Aside0.mk (ho); clear HO_0; clear HB; clear HK; clear HO_7; have HO_0 := n0_; have HB := n1_; have HK := n2_; have HO193 := n3_; clear n0_ n1_ n2_ n3_; clear ho hb hg hat))
          go_roundg k1
          case measure => have := HK1.out; omega
          case rel => exact ⟨(wrap64 (Int.tdiv x1_1 10)), (y191), (by first | rfl | (simp; done) | (simp [*]; done)), H', ⟨by have := HK1.out; omega⟩, ⟨by (with_reducible repeat (first | apply Kd.R_alloc | apply Kd.R_drewN | apply Kd.R_drew)); exact HO_0.out⟩, ⟨by (with_reducible repeat (first | apply Kd.R_alloc | apply Kd.R_drewN | apply Kd.R_drew)); exact HO193.out⟩, ⟨by repeat (first | (with_reducible first | exact HK.out | apply Kept.alloc | apply Kept.drewN | apply Kept.drew) | exact HK.out)⟩, ⟨by repeat (first | (with_reducible first | exact HB.out | apply below_alloc | apply pw_below_drewN | apply below_drew1) | exact HB.out)⟩⟩
        · rw [if_neg c5] at H
          exact absurd H (by simp)
      · rw [if_neg c4] at H
        have c4b0 : decide (0 < x1_1) = false := decide_eq_false c4
        clear c4
        by_cases c7 : (x7_1.length : Int) < a2
        · rw [if_pos c7] at H
          have c7b0 : decide ((x7_1.length : Int) < a2) = true := decide_eq_true c7
          clear c7
          by_cases c8 : x7_1.length < 140737488355328
          · rw [if_pos c8] at H
            have LMc8 := Aside0.mk c8
            clear c8
            obtain ⟨y194, hy194⟩ : ∃ y_ : List Int, y_ = (x7_1 ++ [(wrap64 (48 + (Int.tmod x1_1 10))) % 256]) := ⟨_, rfl⟩
            replace H : (zztime_padded.l0 k1 l0 (wrap64 (Int.tdiv x1_1 10)) a2 y194) = some r := by first | (rw [hy194]; with_reducible exact H) | (have H2_ := (Option.bind_some _ _).symm.trans H; rw [hy194]; with_reducible exact H2_) | (have H2_ := (Option.bind_some _ _).symm.trans H; with_reducible exact H2_) | with_reducible exact H | (rw [hy194]; exact H) | exact H
            have Ny194 := Aside0.mk hy194
            clear hy194
            have H' := Aside0.mk H
            clear H
            obtain ⟨Ao9, co9, eo9⟩ := Kd.R_slice HO_7.out
            subst eo9
            go_wp2_with (first | ((with_reducible refine gate_builtin (b := .append) (xs := #[.tmp 17, .tmp 22]) rfl ?_); (try (refine gate_guard (by rfl) ?_; dsimp only)); at_builtin; refine Kd.R_append (Kd.int .u8) (w0 := w0) w0.heap.size rfl (.tmp 17) (.tmp 22) 34 5 (.int .u8 0) 1 rfl Tryd.underlying34 info5 rfl (by decide) (by omega) (.slice Ao9 x7_1.length co9) x7_1 ((wrap64 (48 + (Int.tmod x1_1 10))) % 256) [.int .u8 ((wrap64 (48 + (Int.tmod x1_1 10))) % 256)] (fun k_ => (P0_ k_ ∨ w.heap.size ≤ k_) ∧ some k_ ≠ (u9000_ : Value).ownBlock) (fun _ => False) rfl rfl ?aP (fun _ hk => hk.elim) ?aF ?aO ?aB ?aS ?aL ?_; (case aP => exact rfl); (case aB => exact (by repeat (first | (with_reducible first | exact HB.out | apply below_alloc | apply pw_below_drewN | apply below_drew1) | exact HB.out))); (case aF => exact (fun k_ hk => ⟨(.inr (Nat.le_trans (by first | exact HK.out.1 | exact (show Kept w _ (fun k_ => P0_ k_) from by repeat (first | (with_reducible first | exact HK.out | apply Kept.alloc | apply Kept.drewN | apply Kept.drew) | exact HK.out)).1) hk)), Kd.fresh' (Kd.R_lt (by (with_reducible repeat (first | apply Kd.R_alloc | apply Kd.R_drewN | apply Kd.R_drew)); exact HO_0.out)) k_ hk⟩)); (case aO => exact (by (with_reducible repeat (first | apply Kd.R_alloc | apply Kd.R_drewN | apply Kd.R_drew)); exact HO_7.out)); (case aS => exact (below_size (by repeat (first | (with_reducible first | exact HB.out | apply below_alloc | apply pw_below_drewN | apply below_drew1) | exact HB.out)))); (case aL => have := LMc8.out; omega); intro v195 w10 ho hb hg hat; rw [← Ny194.out] at ho; have n0_ := Aside0.mk (Kd.R_after (ok := (fun k_ => (P0_ k_ ∨ w.heap.size ≤ k_))) (by (with_reducible repeat (first | apply Kd.R_alloc | apply Kd.R_drewN | apply Kd.R_drew)); exact HO_0.out) hg hat); have n1_ := Aside0.mk (hb); have n2_ := Aside0.mk (Kept.of_grown (S := (fun k_ => P0_ k_)) hg (by repeat (first | (with_reducible first | exact HK.out | apply Kept.alloc | apply Kept.drewN | apply Kept.drew) | exact HK.out)) (fun k_ e_ => (HO_7.out.1 k_ e_).1)); have n3_ := Aside0.mk (ho); clear HO_0; clear HB; clear HK; clear HO_7; have HO_0 := n0_; have HB := n1_; have HK := n2_; have HO196 := n3_; clear n0_ n1_ n2_ n3_; clear ho hb hg hat))
            go_roundg k1
            case measure => have := HK1.out; omega
            case rel => exact ⟨(wrap64 (Int.tdiv x1_1 10)), (y194), (by first | rfl | (simp; done) | (simp [*]; done)), H', ⟨by have := HK1.out; omega⟩, ⟨by (with_reducible repeat (first | apply Kd.R_alloc | apply Kd.R_drewN | apply Kd.R_drew)); exact HO_0.out⟩, ⟨by (with_reducible repeat (first | apply Kd.R_alloc | apply Kd.R_drewN | apply Kd.R_drew)); exact HO196.out⟩, ⟨by repeat (first | (with_reducible first | exact HK.out | apply Kept.alloc | apply Kept.drewN | apply Kept.drew) | exact HK.out)⟩, ⟨by repeat (first | (with_reducible first | exact HB.out | apply below_alloc | apply pw_below_drewN | apply below_drew1) | exact HB.out)⟩⟩
          · rw [if_neg c8] at H
            exact absurd H (by simp)
        · rw [if_neg c7] at H
          have c7b0 : decide ((x7_1.length : Int) < a2) = false := decide_eq_false c7
          clear c7
          have H' := Aside0.mk H
          clear H
          obtain ⟨Ao11, co11, eo11⟩ := Kd.R_slice HO_7.out
          subst eo11
          go_wp2
          go_loopg [0, 8] k1 (fun kq v0 v8 w' => ∃ (x0_2 : List Int) (x8_2 : Int), v8 = .int .i64 x8_2 ∧ Aside0 (zztime_padded.l1 kq x0_2 x7_1 x8_2 = some r) ∧ Aside0 (kq ≤ k1) ∧ Aside0 (Kd.R (Kd.int .u8) 5 w' w0.heap.size (fun k_ => (P0_ k_ ∨ w.heap.size ≤ k_) ∧ some k_ ≠ ((.slice Ao11 x7_1.length co11) : Value).ownBlock) v0 x0_2) ∧ Aside0 (Kd.R (Kd.int .u8) 5 w' w0.heap.size (fun k_ => (P0_ k_ ∨ w.heap.size ≤ k_) ∧ some k_ ≠ (v0 : Value).ownBlock) (.slice Ao11 x7_1.length co11) x7_1) ∧ Aside0 (Kept w w' (fun k_ => P0_ k_)) ∧ Aside0 (Below w0.heap.size w0 w'))
          case atStart => exact ⟨(l0), (wrap64 ((x7_1.length : Int) - 1)), (by first | rfl | (simp; done) | (simp [*]; done)), H', ⟨Nat.le_refl _⟩, ⟨by (with_reducible repeat (first | apply Kd.R_alloc | apply Kd.R_drewN | apply Kd.R_drew)); exact HO_0.out⟩, ⟨by (with_reducible repeat (first | apply Kd.R_alloc | apply Kd.R_drewN | apply Kd.R_drew)); exact HO_7.out⟩, ⟨by repeat (first | (with_reducible first | exact HK.out | apply Kept.alloc | apply Kept.drewN | apply Kept.drew) | exact HK.out)⟩, ⟨by repeat (first | (with_reducible first | exact HB.out | apply below_alloc | apply pw_below_drewN | apply below_drew1) | exact HB.out)⟩⟩
          case round =>
            clear H'
            try clear p2
            try clear c3
            try clear c4
            try clear c4b0
            try clear c5
            try clear p6
            try clear c7
            try clear c7b0
            try clear c8
            try clear p2
            obtain ⟨x0_2, x8_2, rfl, HA, HK2, HO_0, HO_7, HK, HB⟩ := hrel
            cases gk with
            | zero => exact absurd HA.out (by simp [zztime_padded.l1])
            | succ k2 =>
              have H := HA.out
              clear HA
              simp only [zztime_padded.l1] at H
              by_cases c12 : x8_2 ≥ 0
              · rw [if_pos c12] at H
                have c12b0 : decide (0 ≤ x8_2) = true := decide_eq_true c12
                clear c12
                by_cases c13 : 0 ≤ x8_2
                · rw [if_pos c13] at H
                  have c13b0 : decide (0 ≤ x8_2) = true := decide_eq_true c13
                  clear c13
                  by_cases c14 : x8_2 < (x7_1.length : Int)
                  · rw [if_pos c14] at H
                    have c14b0 : decide (x8_2 < (x7_1.length : Int)) = true := decide_eq_true c14
                    clear c14
                    by_cases c15 : x0_2.length < 140737488355328
                    · rw [if_pos c15] at H
                      have LMc15 := Aside0.mk c15
                      clear c15
                      obtain ⟨y198, hy198⟩ : ∃ y_ : List Int, y_ = (x0_2 ++ [rd x7_1 x8_2]) := ⟨_, rfl⟩
                      replace H : (zztime_padded.l1 k2 y198 x7_1 (wrap64 (x8_2 - 1))) = some r := by first | (rw [hy198]; with_reducible exact H) | (have H2_ := (Option.bind_some _ _).symm.trans H; rw [hy198]; with_reducible exact H2_) | (have H2_ := (Option.bind_some _ _).symm.trans H; with_reducible exact H2_) | with_reducible exact H | (rw [hy198]; exact H) | exact H
                      have Ny198 := Aside0.mk hy198
                      clear hy198
                      have H' := Aside0.mk H
                      clear H
                      have p197 : 0 ≤ (x8_2 : Int) := of_decide_eq_true (by first | (with_reducible assumption) | assumption)
                      have q197 : x8_2 < (x7_1.length : Int) := of_decide_eq_true (by first | (with_reducible assumption) | assumption)
                      obtain ⟨ad197, e197, hx197_0⟩ := Kd.at_int (Kd.R_reads' HO_7.out).2.2 x8_2 p197 q197
                      cases e197
                      replace p197 := eq_true p197
                      replace q197 := eq_true q197
                      go_wp2_with (first | ((with_reducible refine gate_builtin (b := .append) (xs := #[.tmp 33, .tmp 38]) rfl ?_); (try (refine gate_guard (by rfl) ?_; dsimp only)); at_builtin; refine Kd.R_append (Kd.int .u8) (w0 := w0) w0.heap.size rfl (.tmp 33) (.tmp 38) 34 5 (.int .u8 0) 1 rfl Tryd.underlying34 info5 rfl (by decide) (by omega) u0 x0_2 (rd x7_1 x8_2) [.int .u8 (rd x7_1 x8_2)] (fun k_ => (P0_ k_ ∨ w.heap.size ≤ k_) ∧ some k_ ≠ (.slice (some ad197) x7_1.length co11 : Value).ownBlock) (fun _ => False) rfl rfl ?aP (fun _ hk => hk.elim) ?aF ?aO ?aB ?aS ?aL ?_; (case aP => exact rfl); (case aB => exact (by repeat (first | (with_reducible first | exact HB.out | apply below_alloc | apply pw_below_drewN | apply below_drew1) | exact HB.out))); (case aF => exact (fun k_ hk => ⟨(.inr (Nat.le_trans (by first | exact HK.out.1 | exact (show Kept w _ (fun k_ => P0_ k_) from by repeat (first | (with_reducible first | exact HK.out | apply Kept.alloc | apply Kept.drewN | apply Kept.drew) | exact HK.out)).1) hk)), Kd.fresh' (Kd.R_lt (by (with_reducible repeat (first | apply Kd.R_alloc | apply Kd.R_drewN | apply Kd.R_drew)); exact HO_7.out)) k_ hk⟩)); (case aO => exact (by (with_reducible repeat (first | apply Kd.R_alloc | apply Kd.R_drewN | apply Kd.R_drew)); exact HO_0.out)); (case aS => exact (below_size (by repeat (first | (with_reducible first | exact HB.out | apply below_alloc | apply pw_below_drewN | apply below_drew1) | exact HB.out)))); (case aL => have := LMc15.out; omega); intro v199 w16 ho hb hg hat; rw [← Ny198.out] at ho; have n0_ := Aside0.mk (Kd.R_after (ok := (fun k_ => (P0_ k_ ∨ w.heap.size ≤ k_))) (by (with_reducible repeat (first | apply Kd.R_alloc | apply Kd.R_drewN | apply Kd.R_drew)); exact HO_7.out) hg hat); have n1_ := Aside0.mk (hb); have n2_ := Aside0.mk (Kept.of_grown (S := (fun k_ => P0_ k_)) hg (by repeat (first | (with_reducible first | exact HK.out | apply Kept.alloc | apply Kept.drewN | apply Kept.drew) | exact HK.out)) (fun k_ e_ => (HO_0.out.1 k_ e_).1)); have n3_ := Aside0.mk (ho); clear HO_7; clear HB; clear HK; clear HO_0; have HO_7 := n0_; have HB := n1_; have HK := n2_; have HO200 := n3_; clear n0_ n1_ n2_ n3_; clear ho hb hg hat))
                      go_roundg k2
                      case measure => have := HK1.out; have := HK2.out; omega
                      case rel => exact ⟨(y198), (wrap64 (x8_2 - 1)), (by first | rfl | (simp; done) | (simp [*]; done)), H', ⟨by have := HK1.out; have := HK2.out; omega⟩, ⟨by (with_reducible repeat (first | apply Kd.R_alloc | apply Kd.R_drewN | apply Kd.R_drew)); exact HO200.out⟩, ⟨by (with_reducible repeat (first | apply Kd.R_alloc | apply Kd.R_drewN | apply Kd.R_drew)); exact HO_7.out⟩, ⟨by repeat (first | (with_reducible first | exact HK.out | apply Kept.alloc | apply Kept.drewN | apply Kept.drew) | exact HK.out)⟩, ⟨by repeat (first | (with_reducible first | exact HB.out | apply below_alloc | apply pw_below_drewN | apply below_drew1) | exact HB.out)⟩⟩
                    · rw [if_neg c15] at H
                      exact absurd H (by simp)
                  · rw [if_neg c14] at H
                    exact absurd H (by simp)
                · rw [if_neg c13] at H
                  exact absurd H (by simp)
              · rw [if_neg c12] at H
                have c12b0 : decide (0 ≤ x8_2) = false := decide_eq_false c12
                clear c12
                obtain rfl := Option.some.inj H
                go_wp2
                go_ret
                exact ⟨_, by first | rfl | (simp [errW_none, errW_some] <;> rfl) | (simp [*, errW_none, errW_some] <;> rfl), by (with_reducible repeat (first | apply Kd.R_alloc | apply Kd.R_drewN | apply Kd.R_drew)); exact Kd.R_mono HO_0.out (fun _ hk => hk.1), by repeat (first | (with_reducible first | exact HB.out | apply below_alloc | apply pw_below_drewN | apply below_drew1) | exact HB.out), by repeat (first | (with_reducible first | exact HK.out | apply Kept.alloc | apply Kept.drewN | apply Kept.drew) | exact HK.out)⟩

/-! ### zztime_Time_Format: function 31 -/
mutual
def zztime_Time_Format.j1 : Nat → List Int → Int → Int → Int → Option (ByteArray)
  | 0, _, _, _, _ => none
  | k + 1, x9, x202000, x202001, x202002 => if x202002 = 0 then (if x9.length < 140737488355328 then (some (strOfNums (x9 ++ [90]))) else (none)) else (if (wrap64 (Int.tdiv x202002 60)) < 0 then (if x9.length < 140737488355328 then ((zztime_padded.f k (x9 ++ [45]) (wrap64 (Int.tdiv (wrap64 (-(wrap64 (Int.tdiv x202002 60)))) 60)) 2).bind fun t255 => (if t255.length < 140737488355328 then ((zztime_padded.f k (t255 ++ [58]) (Int.tmod (wrap64 (-(wrap64 (Int.tdiv x202002 60)))) 60) 2).bind fun t261 => (some (strOfNums t261))) else (none))) else (none)) else (if x9.length < 140737488355328 then ((zztime_padded.f k (x9 ++ [43]) (wrap64 (Int.tdiv (wrap64 (Int.tdiv x202002 60)) 60)) 2).bind fun t267 => (if t267.length < 140737488355328 then ((zztime_padded.f k (t267 ++ [58]) (Int.tmod (wrap64 (Int.tdiv x202002 60)) 60) 2).bind fun t273 => (some (strOfNums t273))) else (none))) else (none)))
def zztime_Time_Format.l0 : Nat → List Int → Int → Int → Int → Option (ByteArray)
  | 0, _, _, _, _ => none
  | k + 1, x9, x202000, x202001, x202002 => if 0 ≤ (wrap64 ((x9.length : Int) - 1)) then (if (wrap64 ((x9.length : Int) - 1)) < (x9.length : Int) then (if (rd x9 (wrap64 ((x9.length : Int) - 1))) = 48 then (if (wrap64 ((x9.length : Int) - 1)) ≤ (x9.length : Int) then (zztime_Time_Format.l0 k (x9.take ((wrap64 ((x9.length : Int) - 1)) : Int).toNat) x202000 x202001 x202002) else (none)) else (zztime_Time_Format.j1 k x9 x202000 x202001 x202002)) else (none)) else (none)
end
def zztime_Time_Format.f (k : Nat) (a0_0 : Int) (a0_1 : Int) (a0_2 : Int) (a1 : ByteArray) : Option (ByteArray) := (zztime_Time_date.f k a0_0 a0_1 a0_2).bind fun bt202 => ((zztime_padded.f k ([] : List Int) bt202.1 4).bind fun t206 => (if t206.length < 140737488355328 then ((zztime_padded.f k (t206 ++ [45]) bt202.2.1 2).bind fun t212 => (if t212.length < 140737488355328 then ((zztime_padded.f k (t212 ++ [45]) bt202.2.2.1 2).bind fun t218 => (if t218.length < 140737488355328 then ((zztime_padded.f k (t218 ++ [32]) (wrap64 (Int.tdiv bt202.2.2.2 3600)) 2).bind fun t224 => (if t224.length < 140737488355328 then ((zztime_padded.f k (t224 ++ [58]) (Int.tmod (wrap64 (Int.tdiv bt202.2.2.2 60)) 60) 2).bind fun t230 => (if t230.length < 140737488355328 then ((zztime_padded.f k (t230 ++ [58]) (Int.tmod bt202.2.2.2 60) 2).bind fun t236 => (if a0_1 > 0 then (if t236.length < 140737488355328 then ((zztime_padded.f k (t236 ++ [46]) a0_1 9).bind fun t242 => (zztime_Time_Format.l0 k t242 a0_0 a0_1 a0_2)) else (none)) else (zztime_Time_Format.j1 k t236 a0_0 a0_1 a0_2))) else (none))) else (none))) else (none))) else (none))) else (none)))
theorem zztime_Time_Format.mono_l : ∀ k, (∀ y0 y1 y2 y3, LeO (zztime_Time_Format.j1 k y0 y1 y2 y3) (zztime_Time_Format.j1 (k + 1) y0 y1 y2 y3)) ∧ (∀ y0 y1 y2 y3, LeO (zztime_Time_Format.l0 k y0 y1 y2 y3) (zztime_Time_Format.l0 (k + 1) y0 y1 y2 y3))
  | 0 => ⟨fun _ _ _ _ r h => by simp [zztime_Time_Format.j1] at h, fun _ _ _ _ r h => by simp [zztime_Time_Format.l0] at h⟩
  | k + 1 => by
    obtain ⟨ih0, ih1⟩ := zztime_Time_Format.mono_l k
    refine ⟨?_, ?_⟩
    · intro y0 y1 y2 y3
      unfold zztime_Time_Format.j1
      repeat' first
      | (with_reducible exact ih0 _ _ _ _)
      | (with_reducible exact ih1 _ _ _ _)
      | (with_reducible exact zztime_Time_date.mono _ _ _ _)
      | (with_reducible exact zztime_padded.mono _ _ _ _)
      | (with_reducible exact LeO.refl _)
      | (with_reducible exact LeO.none _)
      | (with_reducible refine LeO.ite ?_ ?_)
      | (with_reducible refine LeO.bind ?_ (fun _ => ?_))
      | exact ih0 _ _ _ _
      | exact ih1 _ _ _ _
      | exact zztime_Time_date.mono _ _ _ _
      | exact zztime_padded.mono _ _ _ _
      | exact LeO.none _
      | refine LeO.ite ?_ ?_
      | refine LeO.bind ?_ (fun _ => ?_)
    · intro y0 y1 y2 y3
      unfold zztime_Time_Format.l0
      repeat' first
      | (with_reducible exact ih0 _ _ _ _)
      | (with_reducible exact ih1 _ _ _ _)
      | (with_reducible exact zztime_Time_date.mono _ _ _ _)
      | (with_reducible exact zztime_padded.mono _ _ _ _)
      | (with_reducible exact LeO.refl _)
      | (with_reducible exact LeO.none _)
      | (with_reducible refine LeO.ite ?_ ?_)
      | (with_reducible refine LeO.bind ?_ (fun _ => ?_))
      | exact ih0 _ _ _ _
      | exact ih1 _ _ _ _
      | exact zztime_Time_date.mono _ _ _ _
      | exact zztime_padded.mono _ _ _ _
      | exact LeO.none _
      | refine LeO.ite ?_ ?_
      | refine LeO.bind ?_ (fun _ => ?_)
theorem zztime_Time_Format.mono : ∀ a0 a1 a2 a3 k, LeO (zztime_Time_Format.f k a0 a1 a2 a3) (zztime_Time_Format.f (k + 1) a0 a1 a2 a3) := by
  intro a0 a1 a2 a3 k
  obtain ⟨ih0, ih1⟩ := zztime_Time_Format.mono_l k
  unfold zztime_Time_Format.f
  repeat' first
      | (with_reducible exact ih0 _ _ _ _)
      | (with_reducible exact ih1 _ _ _ _)
      | (with_reducible exact zztime_Time_date.mono _ _ _ _)
      | (with_reducible exact zztime_padded.mono _ _ _ _)
      | (with_reducible exact LeO.refl _)
      | (with_reducible exact LeO.none _)
      | (with_reducible refine LeO.ite ?_ ?_)
      | (with_reducible refine LeO.bind ?_ (fun _ => ?_))
      | exact ih0 _ _ _ _
      | exact ih1 _ _ _ _
      | exact zztime_Time_date.mono _ _ _ _
      | exact zztime_padded.mono _ _ _ _
      | exact LeO.none _
      | refine LeO.ite ?_ ?_
      | refine LeO.bind ?_ (fun _ => ?_)
set_option maxHeartbeats 8000000 in
set_option maxRecDepth 100000 in
theorem zztime_Time_Format.calls (k : Nat) (a0_0 : Int) (a0_1 : Int) (a0_2 : Int) (a1 : ByteArray) (r : ByteArray) (w : World) (h : zztime_Time_Format.f k a0_0 a0_1 a0_2 a1 = some r) :
    Calls Tryd.prog 31 #[.agg #[.int .i64 a0_0, .int .i64 a0_1, .int .i64 a0_2], .string a1] w fun e w' => e = .returned (.string r) ∧ Below w.heap.size w w' := by
  have hu36 := Tryd.underlying36
  have HB := Aside0.mk (Below.refl w.heap.size w)
  have H : ((zztime_Time_date.f k a0_0 a0_1 a0_2).bind fun bt202 => ((zztime_padded.f k ([] : List Int) bt202.1 4).bind fun t206 => (if t206.length < 140737488355328 then ((zztime_padded.f k (t206 ++ [45]) bt202.2.1 2).bind fun t212 => (if t212.length < 140737488355328 then ((zztime_padded.f k (t212 ++ [45]) bt202.2.2.1 2).bind fun t218 => (if t218.length < 140737488355328 then ((zztime_padded.f k (t218 ++ [32]) (wrap64 (Int.tdiv bt202.2.2.2 3600)) 2).bind fun t224 => (if t224.length < 140737488355328 then ((zztime_padded.f k (t224 ++ [58]) (Int.tmod (wrap64 (Int.tdiv bt202.2.2.2 60)) 60) 2).bind fun t230 => (if t230.length < 140737488355328 then ((zztime_padded.f k (t230 ++ [58]) (Int.tmod bt202.2.2.2 60) 2).bind fun t236 => (if a0_1 > 0 then (if t236.length < 140737488355328 then ((zztime_padded.f k (t236 ++ [46]) a0_1 9).bind fun t242 => (zztime_Time_Format.l0 k t242 a0_0 a0_1 a0_2)) else (none)) else (zztime_Time_Format.j1 k t236 a0_0 a0_1 a0_2))) else (none))) else (none))) else (none))) else (none))) else (none)))) = some r := h
  clear h
  replace H := Option.bind_eq_some_iff.mp H
  obtain ⟨⟨t202, t203, t204, t205⟩, A30, H⟩ := H
  replace H : ((zztime_padded.f k ([] : List Int) t202 4).bind fun t206 => (if t206.length < 140737488355328 then ((zztime_padded.f k (t206 ++ [45]) t203 2).bind fun t212 => (if t212.length < 140737488355328 then ((zztime_padded.f k (t212 ++ [45]) t204 2).bind fun t218 => (if t218.length < 140737488355328 then ((zztime_padded.f k (t218 ++ [32]) (wrap64 (Int.tdiv t205 3600)) 2).bind fun t224 => (if t224.length < 140737488355328 then ((zztime_padded.f k (t224 ++ [58]) (Int.tmod (wrap64 (Int.tdiv t205 60)) 60) 2).bind fun t230 => (if t230.length < 140737488355328 then ((zztime_padded.f k (t230 ++ [58]) (Int.tmod t205 60) 2).bind fun t236 => (if a0_1 > 0 then (if t236.length < 140737488355328 then ((zztime_padded.f k (t236 ++ [46]) a0_1 9).bind fun t242 => (zztime_Time_Format.l0 k t242 a0_0 a0_1 a0_2)) else (none)) else (zztime_Time_Format.j1 k t236 a0_0 a0_1 a0_2))) else (none))) else (none))) else (none))) else (none))) else (none))) = some r := H
  have A3 := Aside0.mk A30
  clear A30
  replace H := Option.bind_eq_some_iff.mp H
  obtain ⟨t206, A40, H⟩ := H
  replace H : (if t206.length < 140737488355328 then ((zztime_padded.f k (t206 ++ [45]) t203 2).bind fun t212 => (if t212.length < 140737488355328 then ((zztime_padded.f k (t212 ++ [45]) t204 2).bind fun t218 => (if t218.length < 140737488355328 then ((zztime_padded.f k (t218 ++ [32]) (wrap64 (Int.tdiv t205 3600)) 2).bind fun t224 => (if t224.length < 140737488355328 then ((zztime_padded.f k (t224 ++ [58]) (Int.tmod (wrap64 (Int.tdiv t205 60)) 60) 2).bind fun t230 => (if t230.length < 140737488355328 then ((zztime_padded.f k (t230 ++ [58]) (Int.tmod t205 60) 2).bind fun t236 => (if a0_1 > 0 then (if t236.length < 140737488355328 then ((zztime_padded.f k (t236 ++ [46]) a0_1 9).bind fun t242 => (zztime_Time_Format.l0 k t242 a0_0 a0_1 a0_2)) else (none)) else (zztime_Time_Format.j1 k t236 a0_0 a0_1 a0_2))) else (none))) else (none))) else (none))) else (none))) else (none)) = some r := H
  have A4 := Aside0.mk A40
  clear A40
  by_cases c5 : t206.length < 140737488355328
  · rw [if_pos c5] at H
    have LMc5 := Aside0.mk c5
    clear c5
    obtain ⟨y209, hy209⟩ : ∃ y_ : List Int, y_ = (t206 ++ [45]) := ⟨_, rfl⟩
    replace H : ((zztime_padded.f k y209 t203 2).bind fun t212 => (if t212.length < 140737488355328 then ((zztime_padded.f k (t212 ++ [45]) t204 2).bind fun t218 => (if t218.length < 140737488355328 then ((zztime_padded.f k (t218 ++ [32]) (wrap64 (Int.tdiv t205 3600)) 2).bind fun t224 => (if t224.length < 140737488355328 then ((zztime_padded.f k (t224 ++ [58]) (Int.tmod (wrap64 (Int.tdiv t205 60)) 60) 2).bind fun t230 => (if t230.length < 140737488355328 then ((zztime_padded.f k (t230 ++ [58]) (Int.tmod t205 60) 2).bind fun t236 => (if a0_1 > 0 then (if t236.length < 140737488355328 then ((zztime_padded.f k (t236 ++ [46]) a0_1 9).bind fun t242 => (zztime_Time_Format.l0 k t242 a0_0 a0_1 a0_2)) else (none)) else (zztime_Time_Format.j1 k t236 a0_0 a0_1 a0_2))) else (none))) else (none))) else (none))) else (none))) = some r := by first | (rw [hy209]; with_reducible exact H) | (have H2_ := (Option.bind_some _ _).symm.trans H; rw [hy209]; with_reducible exact H2_) | (have H2_ := (Option.bind_some _ _).symm.trans H; with_reducible exact H2_) | with_reducible exact H | (rw [hy209]; exact H) | exact H
    have Ny209 := Aside0.mk hy209
    clear hy209
    replace H := Option.bind_eq_some_iff.mp H
    obtain ⟨t212, A60, H⟩ := H
    replace H : (if t212.length < 140737488355328 then ((zztime_padded.f k (t212 ++ [45]) t204 2).bind fun t218 => (if t218.length < 140737488355328 then ((zztime_padded.f k (t218 ++ [32]) (wrap64 (Int.tdiv t205 3600)) 2).bind fun t224 => (if t224.length < 140737488355328 then ((zztime_padded.f k (t224 ++ [58]) (Int.tmod (wrap64 (Int.tdiv t205 60)) 60) 2).bind fun t230 => (if t230.length < 140737488355328 then ((zztime_padded.f k (t230 ++ [58]) (Int.tmod t205 60) 2).bind fun t236 => (if a0_1 > 0 then (if t236.length < 140737488355328 then ((zztime_padded.f k (t236 ++ [46]) a0_1 9).bind fun t242 => (zztime_Time_Format.l0 k t242 a0_0 a0_1 a0_2)) else (none)) else (zztime_Time_Format.j1 k t236 a0_0 a0_1 a0_2))) else (none))) else (none))) else (none))) else (none)) = some r := H
    have A6 := Aside0.mk A60
    clear A60
    by_cases c7 : t212.length < 140737488355328
    · rw [if_pos c7] at H
      have LMc7 := Aside0.mk c7
      clear c7
      obtain ⟨y215, hy215⟩ : ∃ y_ : List Int, y_ = (t212 ++ [45]) := ⟨_, rfl⟩
      replace H : ((zztime_padded.f k y215 t204 2).bind fun t218 => (if t218.length < 140737488355328 then ((zztime_padded.f k (t218 ++ [32]) (wrap64 (Int.tdiv t205 3600)) 2).bind fun t224 => (if t224.length < 140737488355328 then ((zztime_padded.f k (t224 ++ [58]) (Int.tmod (wrap64 (Int.tdiv t205 60)) 60) 2).bind fun t230 => (if t230.length < 140737488355328 then ((zztime_padded.f k (t230 ++ [58]) (Int.tmod t205 60) 2).bind fun t236 => (if a0_1 > 0 then (if t236.length < 140737488355328 then ((zztime_padded.f k (t236 ++ [46]) a0_1 9).bind fun t242 => (zztime_Time_Format.l0 k t242 a0_0 a0_1 a0_2)) else (none)) else (zztime_Time_Format.j1 k t236 a0_0 a0_1 a0_2))) else (none))) else (none))) else (none))) = some r := by first | (rw [hy215]; with_reducible exact H) | (have H2_ := (Option.bind_some _ _).symm.trans H; rw [hy215]; with_reducible exact H2_) | (have H2_ := (Option.bind_some _ _).symm.trans H; with_reducible exact H2_) | with_reducible exact H | (rw [hy215]; exact H) | exact H
      have Ny215 := Aside0.mk hy215
      clear hy215
      replace H := Option.bind_eq_some_iff.mp H
      obtain ⟨t218, A80, H⟩ := H
      replace H : (if t218.length < 140737488355328 then ((zztime_padded.f k (t218 ++ [32]) (wrap64 (Int.tdiv t205 3600)) 2).bind fun t224 => (if t224.length < 140737488355328 then ((zztime_padded.f k (t224 ++ [58]) (Int.tmod (wrap64 (Int.tdiv t205 60)) 60) 2).bind fun t230 => (if t230.length < 140737488355328 then ((zztime_padded.f k (t230 ++ [58]) (Int.tmod t205 60) 2).bind fun t236 => (if a0_1 > 0 then (if t236.length < 140737488355328 then ((zztime_padded.f k (t236 ++ [46]) a0_1 9).bind fun t242 => (zztime_Time_Format.l0 k t242 a0_0 a0_1 a0_2)) else (none)) else (zztime_Time_Format.j1 k t236 a0_0 a0_1 a0_2))) else (none))) else (none))) else (none)) = some r := H
      have A8 := Aside0.mk A80
      clear A80
      by_cases c9 : t218.length < 140737488355328
      · rw [if_pos c9] at H
        have LMc9 := Aside0.mk c9
        clear c9
        obtain ⟨y221, hy221⟩ : ∃ y_ : List Int, y_ = (t218 ++ [32]) := ⟨_, rfl⟩
        replace H : ((zztime_padded.f k y221 (wrap64 (Int.tdiv t205 3600)) 2).bind fun t224 => (if t224.length < 140737488355328 then ((zztime_padded.f k (t224 ++ [58]) (Int.tmod (wrap64 (Int.tdiv t205 60)) 60) 2).bind fun t230 => (if t230.length < 140737488355328 then ((zztime_padded.f k (t230 ++ [58]) (Int.tmod t205 60) 2).bind fun t236 => (if a0_1 > 0 then (if t236.length < 140737488355328 then ((zztime_padded.f k (t236 ++ [46]) a0_1 9).bind fun t242 => (zztime_Time_Format.l0 k t242 a0_0 a0_1 a0_2)) else (none)) else (zztime_Time_Format.j1 k t236 a0_0 a0_1 a0_2))) else (none))) else (none))) = some r := by first | (rw [hy221]; with_reducible exact H) | (have H2_ := (Option.bind_some _ _).symm.trans H; rw [hy221]; with_reducible exact H2_) | (have H2_ := (Option.bind_some _ _).symm.trans H; with_reducible exact H2_) | with_reducible exact H | (rw [hy221]; exact H) | exact H
        have Ny221 := Aside0.mk hy221
        clear hy221
        replace H := Option.bind_eq_some_iff.mp H
        obtain ⟨t224, A100, H⟩ := H
        replace H : (if t224.length < 140737488355328 then ((zztime_padded.f k (t224 ++ [58]) (Int.tmod (wrap64 (Int.tdiv t205 60)) 60) 2).bind fun t230 => (if t230.length < 140737488355328 then ((zztime_padded.f k (t230 ++ [58]) (Int.tmod t205 60) 2).bind fun t236 => (if a0_1 > 0 then (if t236.length < 140737488355328 then ((zztime_padded.f k (t236 ++ [46]) a0_1 9).bind fun t242 => (zztime_Time_Format.l0 k t242 a0_0 a0_1 a0_2)) else (none)) else (zztime_Time_Format.j1 k t236 a0_0 a0_1 a0_2))) else (none))) else (none)) = some r := H
        have A10 := Aside0.mk A100
        clear A100
        by_cases c11 : t224.length < 140737488355328
        · rw [if_pos c11] at H
          have LMc11 := Aside0.mk c11
          clear c11
          obtain ⟨y227, hy227⟩ : ∃ y_ : List Int, y_ = (t224 ++ [58]) := ⟨_, rfl⟩
          replace H : ((zztime_padded.f k y227 (Int.tmod (wrap64 (Int.tdiv t205 60)) 60) 2).bind fun t230 => (if t230.length < 140737488355328 then ((zztime_padded.f k (t230 ++ [58]) (Int.tmod t205 60) 2).bind fun t236 => (if a0_1 > 0 then (if t236.length < 140737488355328 then ((zztime_padded.f k (t236 ++ [46]) a0_1 9).bind fun t242 => (zztime_Time_Format.l0 k t242 a0_0 a0_1 a0_2)) else (none)) else (zztime_Time_Format.j1 k t236 a0_0 a0_1 a0_2))) else (none))) = some r := by first | (rw [hy227]; with_reducible exact H) | (have H2_ := (Option.bind_some _ _).symm.trans H; rw [hy227]; with_reducible exact H2_) | (have H2_ := (Option.bind_some _ _).symm.trans H; with_reducible exact H2_) | with_reducible exact H | (rw [hy227]; exact H) | exact H
          have Ny227 := Aside0.mk hy227
          clear hy227
          replace H := Option.bind_eq_some_iff.mp H
          obtain ⟨t230, A120, H⟩ := H
          replace H : (if t230.length < 140737488355328 then ((zztime_padded.f k (t230 ++ [58]) (Int.tmod t205 60) 2).bind fun t236 => (if a0_1 > 0 then (if t236.length < 140737488355328 then ((zztime_padded.f k (t236 ++ [46]) a0_1 9).bind fun t242 => (zztime_Time_Format.l0 k t242 a0_0 a0_1 a0_2)) else (none)) else (zztime_Time_Format.j1 k t236 a0_0 a0_1 a0_2))) else (none)) = some r := H
          have A12 := Aside0.mk A120
          clear A120
          by_cases c13 : t230.length < 140737488355328
          · rw [if_pos c13] at H
            have LMc13 := Aside0.mk c13
            clear c13
            obtain ⟨y233, hy233⟩ : ∃ y_ : List Int, y_ = (t230 ++ [58]) := ⟨_, rfl⟩
            replace H : ((zztime_padded.f k y233 (Int.tmod t205 60) 2).bind fun t236 => (if a0_1 > 0 then (if t236.length < 140737488355328 then ((zztime_padded.f k (t236 ++ [46]) a0_1 9).bind fun t242 => (zztime_Time_Format.l0 k t242 a0_0 a0_1 a0_2)) else (none)) else (zztime_Time_Format.j1 k t236 a0_0 a0_1 a0_2))) = some r := by first | (rw [hy233]; with_reducible exact H) | (have H2_ := (Option.bind_some _ _).symm.trans H; rw [hy233]; with_reducible exact H2_) | (have H2_ := (Option.bind_some _ _).symm.trans H; with_reducible exact H2_) | with_reducible exact H | (rw [hy233]; exact H) | exact H
            have Ny233 := Aside0.mk hy233
            clear hy233
            replace H := Option.bind_eq_some_iff.mp H
            obtain ⟨t236, A140, H⟩ := H
            replace H : (if a0_1 > 0 then (if t236.length < 140737488355328 then ((zztime_padded.f k (t236 ++ [46]) a0_1 9).bind fun t242 => (zztime_Time_Format.l0 k t242 a0_0 a0_1 a0_2)) else (none)) else (zztime_Time_Format.j1 k t236 a0_0 a0_1 a0_2)) = some r := H
            have A14 := Aside0.mk A140
            clear A140
            have HC15 := Aside0.mk H
            clear H
            go_enter Tryd.func31, Tryd.ntmps31
            go_upto_if 51 with (first | ((with_reducible refine gate_dst (N := 2) rfl ?_); refine box_event ?hg (N := 2) ?hd (cs := #[.int .i64 a0_0, .int .i64 a0_1, .int .i64 a0_2]) (t := 36) ?hr ?_; (case hd => rfl); (case hg => rfl); (case hr => first | (go_simp; done) | (go_simp; rfl) | (go_simp; simp [IntKind.wrap_u8]; done)); intro gb201 hg w16 hbox hb; have n0_ := Aside0.mk (below_step (by repeat (first | (with_reducible first | exact HB.out | apply below_alloc | apply pw_below_drewN | apply below_drew1) | exact HB.out)) hb); have n1_ := Aside0.mk (hbox); have n2_ := Aside0.mk ((by rw [hg]; exact (below_size (by repeat (first | (with_reducible first | exact HB.out | apply below_alloc | apply pw_below_drewN | apply below_drew1) | exact HB.out))) : w.heap.size ≤ gb201)); have n3_ := Aside0.mk ((by rw [hg]; exact (below_size (by repeat (first | (with_reducible first | exact HB.out | apply below_alloc | apply pw_below_drewN | apply below_drew1) | exact HB.out))) : w.heap.size ≤ gb201)); clear HB; have HB := n0_; have BK201 := n1_; have GW201 := n2_; have GE201 := n3_; clear n0_ n1_ n2_ n3_; clear hb hbox hg; have hcz17_0 : w16.cell? ⟨gb201, 0, none⟩ = some (.int .i64 a0_0) := (blk_cell BK201.out 0).trans rfl; have hcz17_1 : w16.cell? ⟨gb201, 1, none⟩ = some (.int .i64 a0_1) := (blk_cell BK201.out 1).trans rfl; have hcz17_2 : w16.cell? ⟨gb201, 2, none⟩ = some (.int .i64 a0_2) := (blk_cell BK201.out 2).trans rfl; have hfz17_0 := blk_frozen BK201.out 0; have hfz17_1 := blk_frozen BK201.out 1; have hfz17_2 := blk_frozen BK201.out 2) | ((with_reducible refine gate_callee (f := 33) rfl ?_); refine goesL_ (some 13) rfl rfl Tryd.func33 (by kernel_rfl) rfl #[.agg #[.int .i64 a0_0, .int .i64 a0_1, .int .i64 a0_2]] rfl (by (try simp only [List.map_toArray, List.map_cons, List.map_nil]); first | done | rfl | (simp only [List.length_drop, List.length_take]; rfl)) ?_; (with_reducible refine (zztime_Time_date.calls k a0_0 a0_1 a0_2 t202 t203 t204 t205 _ A3.out).mono ?_); rintro e w18 ⟨rfl, hb⟩; refine ⟨_, rfl, ?_⟩; have n0_ := Aside0.mk (blk_below (g := gb201) (o := .cells #[.int .i64 a0_0, .int .i64 a0_1, .int .i64 a0_2] 36 (0, 0)) (by (with_reducible repeat (first | refine blk_drewN ?_ _ | refine blk_drew ?_ | refine blk_alloc ?_ _)); exact BK201.out) hb); have n1_ := Aside0.mk (below_step (by repeat (first | (with_reducible first | exact HB.out | apply below_alloc | apply pw_below_drewN | apply below_drew1 | refine below_set ?_ GE201.out) | exact HB.out)) hb); clear BK201; clear HB; have BK201 := n0_; have HB := n1_; clear n0_ n1_; (try clear hb); (try clear hb2); (try clear hk); (try clear hi)) | ((with_reducible refine gate_callee (f := 34) rfl ?_); refine goesL_ (some 19) rfl rfl Tryd.func34 (by kernel_rfl) rfl #[.slice none 0 0, .int .i64 t202, .int .i64 4] rfl (by (try simp only [List.map_toArray, List.map_cons, List.map_nil]); first | done | rfl | (simp only [List.length_drop, List.length_take]; rfl)) ?_; (refine (zztime_padded.calls k (fun k_ => some k_ = (.slice none 0 0 : Value).ownBlock) (.slice none 0 0) ([] : List Int) t202 4 t206 w _ ?side1 ?side2 A4.out).mono ?_); (case side1 => repeat (first | (with_reducible first | exact HB.out | apply below_alloc | apply pw_below_drewN | apply below_drew1 | refine below_set ?_ GE201.out) | exact HB.out)); (case side2 => exact Kd.R_nil _ _ _ _ _); rintro e w19 ⟨v207, rfl, ho0, hb, hkp⟩; refine ⟨_, rfl, ?_⟩; have n0_ := Aside0.mk (blk_kept (by (with_reducible repeat (first | refine blk_drewN ?_ _ | refine blk_drew ?_ | refine blk_alloc ?_ _)); exact BK201.out) hkp (fun hs_ => (fun e_ => by simp [Value.ownBlock] at e_) hs_)); have n1_ := Aside0.mk (Kd.R_mono (ok' := fun k_ => True) ho0 (fun k_ hk_ => trivial)); have n2_ := Aside0.mk (hb); clear BK201; clear HB; have BK201 := n0_; have HO208 := n1_; have HB := n2_; clear n0_ n1_ n2_; (try clear hb); (try clear hkp); (try clear ho0)) | ((with_reducible refine gate_builtin (b := .append) (xs := #[.tmp 19, .tmp 20]) rfl ?_); at_builtin; refine Kd.R_append (Kd.int .u8) (w0 := w) w.heap.size rfl (.tmp 19) (.tmp 20) 34 5 (.int .u8 0) 1 rfl Tryd.underlying34 info5 rfl (by decide) (by omega) v207 t206 45 [.int .u8 45] (fun _ => True) (fun _ => False) rfl rfl ?aP (fun _ hk => hk.elim) ?aF ?aO ?aB ?aS ?aL ?_; (case aP => exact rfl); (case aB => exact (by repeat (first | (with_reducible first | exact HB.out | apply below_alloc | apply pw_below_drewN | apply below_drew1 | refine below_set ?_ GE201.out) | exact HB.out))); (case aF => exact (fun _ _ => trivial)); (case aO => exact (by (with_reducible repeat (first | apply Kd.R_alloc | apply Kd.R_drewN | apply Kd.R_drew)); exact HO208.out)); (case aS => exact (below_size (by repeat (first | (with_reducible first | exact HB.out | apply below_alloc | apply pw_below_drewN | apply below_drew1 | refine below_set ?_ GE201.out) | exact HB.out)))); (case aL => have := LMc5.out; omega); intro v210 w20 ho hb hg hat; rw [← Ny209.out] at ho; have n0_ := Aside0.mk (blk_grown (g := gb201) (o := .cells #[.int .i64 a0_0, .int .i64 a0_1, .int .i64 a0_2] 36 (0, 0)) (by (with_reducible repeat (first | refine blk_drewN ?_ _ | refine blk_drew ?_ | refine blk_alloc ?_ _)); exact BK201.out) hg (Kd.R_ne HO208.out BK201.out (by decide))); have n1_ := Aside0.mk (hb); have n2_ := Aside0.mk (ho); clear BK201; clear HB; clear HO208; have BK201 := n0_; have HB := n1_; have HO211 := n2_; clear n0_ n1_ n2_; clear ho hb hg hat; obtain ⟨Ao21, co21, eo21⟩ := Kd.R_slice HO211.out; subst eo21) | ((with_reducible refine gate_callee (f := 34) rfl ?_); refine goesL_ (some 24) rfl rfl Tryd.func34 (by kernel_rfl) rfl #[.slice Ao21 y209.length co21, .int .i64 t203, .int .i64 2] rfl (by (try simp only [List.map_toArray, List.map_cons, List.map_nil]); first | done | rfl | (simp only [List.length_drop, List.length_take]; rfl)) ?_; (with_reducible refine (zztime_padded.calls k (fun k_ => some k_ = (.slice Ao21 y209.length co21 : Value).ownBlock) (.slice Ao21 y209.length co21) y209 t203 2 t212 w _ ?side1 ?side2 A6.out).mono ?_); (case side1 => repeat (first | (with_reducible first | exact HB.out | apply below_alloc | apply pw_below_drewN | apply below_drew1 | refine below_set ?_ GE201.out) | exact HB.out)); (case side2 => exact Kd.R_tight rfl HO211.out); rintro e w22 ⟨v213, rfl, ho0, hb, hkp⟩; refine ⟨_, rfl, ?_⟩; have n0_ := Aside0.mk (blk_kept (by (with_reducible repeat (first | refine blk_drewN ?_ _ | refine blk_drew ?_ | refine blk_alloc ?_ _)); exact BK201.out) hkp (fun hs_ => (fun e_ => (Kd.R_ne HO211.out BK201.out (by decide)) e_) hs_)); have n1_ := Aside0.mk (Kd.R_mono (ok' := fun k_ => True) ho0 (fun k_ hk_ => trivial)); have n2_ := Aside0.mk (hb); clear BK201; clear HB; clear HO211; have BK201 := n0_; have HO214 := n1_; have HB := n2_; clear n0_ n1_ n2_; (try clear hb); (try clear hkp); (try clear ho0)) | ((with_reducible refine gate_builtin (b := .append) (xs := #[.tmp 24, .tmp 25]) rfl ?_); at_builtin; refine Kd.R_append (Kd.int .u8) (w0 := w) w.heap.size rfl (.tmp 24) (.tmp 25) 34 5 (.int .u8 0) 1 rfl Tryd.underlying34 info5 rfl (by decide) (by omega) v213 t212 45 [.int .u8 45] (fun _ => True) (fun _ => False) rfl rfl ?aP (fun _ hk => hk.elim) ?aF ?aO ?aB ?aS ?aL ?_; (case aP => exact rfl); (case aB => exact (by repeat (first | (with_reducible first | exact HB.out | apply below_alloc | apply pw_below_drewN | apply below_drew1 | refine below_set ?_ GE201.out) | exact HB.out))); (case aF => exact (fun _ _ => trivial)); (case aO => exact (by (with_reducible repeat (first | apply Kd.R_alloc | apply Kd.R_drewN | apply Kd.R_drew)); exact HO214.out)); (case aS => exact (below_size (by repeat (first | (with_reducible first | exact HB.out | apply below_alloc | apply pw_below_drewN | apply below_drew1 | refine below_set ?_ GE201.out) | exact HB.out)))); (case aL => have := LMc7.out; omega); intro v216 w23 ho hb hg hat; rw [← Ny215.out] at ho; have n0_ := Aside0.mk (blk_grown (g := gb201) (o := .cells #[.int .i64 a0_0, .int .i64 a0_1, .int .i64 a0_2] 36 (0, 0)) (by (with_reducible repeat (first | refine blk_drewN ?_ _ | refine blk_drew ?_ | refine blk_alloc ?_ _)); exact BK201.out) hg (Kd.R_ne HO214.out BK201.out (by decide))); have n1_ := Aside0.mk (hb); have n2_ := Aside0.mk (ho); clear BK201; clear HB; clear HO214; have BK201 := n0_; have HB := n1_; have HO217 := n2_; clear n0_ n1_ n2_; clear ho hb hg hat; obtain ⟨Ao24, co24, eo24⟩ := Kd.R_slice HO217.out; subst eo24) | ((with_reducible refine gate_callee (f := 34) rfl ?_); refine goesL_ (some 29) rfl rfl Tryd.func34 (by kernel_rfl) rfl #[.slice Ao24 y215.length co24, .int .i64 t204, .int .i64 2] rfl (by (try simp only [List.map_toArray, List.map_cons, List.map_nil]); first | done | rfl | (simp only [List.length_drop, List.length_take]; rfl)) ?_; (with_reducible refine (zztime_padded.calls k (fun k_ => some k_ = (.slice Ao24 y215.length co24 : Value).ownBlock) (.slice Ao24 y215.length co24) y215 t204 2 t218 w _ ?side1 ?side2 A8.out).mono ?_); (case side1 => repeat (first | (with_reducible first | exact HB.out | apply below_alloc | apply pw_below_drewN | apply below_drew1 | refine below_set ?_ GE201.out) | exact HB.out)); (case side2 => exact Kd.R_tight rfl HO217.out); rintro e w25 ⟨v219, rfl, ho0, hb, hkp⟩; refine ⟨_, rfl, ?_⟩; have n0_ := Aside0.mk (blk_kept (by (with_reducible repeat (first | refine blk_drewN ?_ _ | refine blk_drew ?_ | refine blk_alloc ?_ _)); exact BK201.out) hkp (fun hs_ => (fun e_ => (Kd.R_ne HO217.out BK201.out (by decide)) e_) hs_)); have n1_ := Aside0.mk (Kd.R_mono (ok' := fun k_ => True) ho0 (fun k_ hk_ => trivial)); have n2_ := Aside0.mk (hb); clear BK201; clear HB; clear HO217; have BK201 := n0_; have HO220 := n1_; have HB := n2_; clear n0_ n1_ n2_; (try clear hb); (try clear hkp); (try clear ho0)) | ((with_reducible refine gate_builtin (b := .append) (xs := #[.tmp 29, .tmp 30]) rfl ?_); at_builtin; refine Kd.R_append (Kd.int .u8) (w0 := w) w.heap.size rfl (.tmp 29) (.tmp 30) 34 5 (.int .u8 0) 1 rfl Tryd.underlying34 info5 rfl (by decide) (by omega) v219 t218 32 [.int .u8 32] (fun _ => True) (fun _ => False) rfl rfl ?aP (fun _ hk => hk.elim) ?aF ?aO ?aB ?aS ?aL ?_; (case aP => exact rfl); (case aB => exact (by repeat (first | (with_reducible first | exact HB.out | apply below_alloc | apply pw_below_drewN | apply below_drew1 | refine below_set ?_ GE201.out) | exact HB.out))); (case aF => exact (fun _ _ => trivial)); (case aO => exact (by (with_reducible repeat (first | apply Kd.R_alloc | apply Kd.R_drewN | apply Kd.R_drew)); exact HO220.out)); (case aS => exact (below_size (by repeat (first | (with_reducible first | exact HB.out | apply below_alloc | apply pw_below_drewN | apply below_drew1 | refine below_set ?_ GE201.out) | exact HB.out)))); (case aL => have := LMc9.out; omega); intro v222 w26 ho hb hg hat; rw [← Ny221.out] at ho; have n0_ := Aside0.mk (blk_grown (g := gb201) (o := .cells #[.int .i64 a0_0, .int .i64 a0_1, .int .i64 a0_2] 36 (0, 0)) (by (with_reducible repeat (first | refine blk_drewN ?_ _ | refine blk_drew ?_ | refine blk_alloc ?_ _)); exact BK201.out) hg (Kd.R_ne HO220.out BK201.out (by decide))); have n1_ := Aside0.mk (hb); have n2_ := Aside0.mk (ho); clear BK201; clear HB; clear HO220; have BK201 := n0_; have HB := n1_; have HO223 := n2_; clear n0_ n1_ n2_; clear ho hb hg hat; obtain ⟨Ao27, co27, eo27⟩ := Kd.R_slice HO223.out; subst eo27) | ((with_reducible refine gate_callee (f := 34) rfl ?_); refine goesL_ (some 35) rfl rfl Tryd.func34 (by kernel_rfl) rfl #[.slice Ao27 y221.length co27, .int .i64 (wrap64 (Int.tdiv t205 3600)), .int .i64 2] rfl (by (try simp only [List.map_toArray, List.map_cons, List.map_nil]); first | done | rfl | (simp only [List.length_drop, List.length_take]; rfl)) ?_; (with_reducible refine (zztime_padded.calls k (fun k_ => some k_ = (.slice Ao27 y221.length co27 : Value).ownBlock) (.slice Ao27 y221.length co27) y221 (wrap64 (Int.tdiv t205 3600)) 2 t224 w _ ?side1 ?side2 A10.out).mono ?_); (case side1 => repeat (first | (with_reducible first | exact HB.out | apply below_alloc | apply pw_below_drewN | apply below_drew1 | refine below_set ?_ GE201.out) | exact HB.out)); (case side2 => exact Kd.R_tight rfl HO223.out); rintro e w28 ⟨v225, rfl, ho0, hb, hkp⟩; refine ⟨_, rfl, ?_⟩; have n0_ := Aside0.mk (blk_kept (by (with_reducible repeat (first | refine blk_drewN ?_ _ | refine blk_drew ?_ | refine blk_alloc ?_ _)); exact BK201.out) hkp (fun hs_ => (fun e_ => (Kd.R_ne HO223.out BK201.out (by decide)) e_) hs_)); have n1_ := Aside0.mk (Kd.R_mono (ok' := fun k_ => True) ho0 (fun k_ hk_ => trivial)); have n2_ := Aside0.mk (hb); clear BK201; clear HB; clear HO223; have BK201 := n0_; have HO226 := n1_; have HB := n2_; clear n0_ n1_ n2_; (try clear hb); (try clear hkp); (try clear ho0)) | ((with_reducible refine gate_builtin (b := .append) (xs := #[.tmp 35, .tmp 36]) rfl ?_); at_builtin; refine Kd.R_append (Kd.int .u8) (w0 := w) w.heap.size rfl (.tmp 35) (.tmp 36) 34 5 (.int .u8 0) 1 rfl Tryd.underlying34 info5 rfl (by decide) (by omega) v225 t224 58 [.int .u8 58] (fun _ => True) (fun _ => False) rfl rfl ?aP (fun _ hk => hk.elim) ?aF ?aO ?aB ?aS ?aL ?_; (case aP => exact rfl); (case aB => exact (by repeat (first | (with_reducible first | exact HB.out | apply below_alloc | apply pw_below_drewN | apply below_drew1 | refine below_set ?_ GE201.out) | exact HB.out))); (case aF => exact (fun _ _ => trivial)); (case aO => exact (by (with_reducible repeat (first | apply Kd.R_alloc | apply Kd.R_drewN | apply Kd.R_drew)); exact HO226.out)); (case aS => exact (below_size (by repeat (first | (with_reducible first | exact HB.out | apply below_alloc | apply pw_below_drewN | apply below_drew1 | refine below_set ?_ GE201.out) | exact HB.out)))); (case aL => have := LMc11.out; omega); intro v228 w29 ho hb hg hat; rw [← Ny227.out] at ho; have n0_ := Aside0.mk (blk_grown (g := gb201) (o := .cells #[.int .i64 a0_0, .int .i64 a0_1, .int .i64 a0_2] 36 (0, 0)) (by (with_reducible repeat (first | refine blk_drewN ?_ _ | refine blk_drew ?_ | refine blk_alloc ?_ _)); exact BK201.out) hg (Kd.R_ne HO226.out BK201.out (by decide))); have n1_ := Aside0.mk (hb); have n2_ := Aside0.mk (ho); clear BK201; clear HB; clear HO226; have BK201 := n0_; have HB := n1_; have HO229 := n2_; clear n0_ n1_ n2_; clear ho hb hg hat; obtain ⟨Ao30, co30, eo30⟩ := Kd.R_slice HO229.out; subst eo30) | ((with_reducible refine gate_callee (f := 34) rfl ?_); refine goesL_ (some 42) rfl rfl Tryd.func34 (by kernel_rfl) rfl #[.slice Ao30 y227.length co30, .int .i64 (Int.tmod (wrap64 (Int.tdiv t205 60)) 60), .int .i64 2] rfl (by (try simp only [List.map_toArray, List.map_cons, List.map_nil]); first | done | rfl | (simp only [List.length_drop, List.length_take]; rfl)) ?_; (with_reducible refine (zztime_padded.calls k (fun k_ => some k_ = (.slice Ao30 y227.length co30 : Value).ownBlock) (.slice Ao30 y227.length co30) y227 (Int.tmod (wrap64 (Int.tdiv t205 60)) 60) 2 t230 w _ ?side1 ?side2 A12.out).mono ?_); (case side1 => repeat (first | (with_reducible first | exact HB.out | apply below_alloc | apply pw_below_drewN | apply below_drew1 | refine below_set ?_ GE201.out) | exact HB.out)); (case side2 => exact Kd.R_tight rfl HO229.out); rintro e w31 ⟨v231, rfl, ho0, hb, hkp⟩; refine ⟨_, rfl, ?_⟩; have n0_ := Aside0.mk (blk_kept (by (with_reducible repeat (first | refine blk_drewN ?_ _ | refine blk_drew ?_ | refine blk_alloc ?_ _)); exact BK201.out) hkp (fun hs_ => (fun e_ => (Kd.R_ne HO229.out BK201.out (by decide)) e_) hs_)); have n1_ := Aside0.mk (Kd.R_mono (ok' := fun k_ => True) ho0 (fun k_ hk_ => trivial)); have n2_ := Aside0.mk (hb); clear BK201; clear HB; clear HO229; have BK201 := n0_; have HO232 := n1_; have HB := n2_; clear n0_ n1_ n2_; (try clear hb); (try clear hkp); (try clear ho0)) | ((with_reducible refine gate_builtin (b := .append) (xs := #[.tmp 42, .tmp 43]) rfl ?_); at_builtin; refine Kd.R_append (Kd.int .u8) (w0 := w) w.heap.size rfl (.tmp 42) (.tmp 43) 34 5 (.int .u8 0) 1 rfl Tryd.underlying34 info5 rfl (by decide) (by omega) v231 t230 58 [.int .u8 58] (fun _ => True) (fun _ => False) rfl rfl ?aP (fun _ hk => hk.elim) ?aF ?aO ?aB ?aS ?aL ?_; (case aP => exact rfl); (case aB => exact (by repeat (first | (with_reducible first | exact HB.out | apply below_alloc | apply pw_below_drewN | apply below_drew1 | refine below_set ?_ GE201.out) | exact HB.out))); (case aF => exact (fun _ _ => trivial)); (case aO => exact (by (with_reducible repeat (first | apply Kd.R_alloc | apply Kd.R_drewN | apply Kd.R_drew)); exact HO232.out)); (case aS => exact (below_size (by repeat (first | (with_reducible first | exact HB.out | apply below_alloc | apply pw_below_drewN | apply below_drew1 | refine below_set ?_ GE201.out) | exact HB.out)))); (case aL => have := LMc13.out; omega); intro v234 w32 ho hb hg hat; rw [← Ny233.out] at ho; have n0_ := Aside0.mk (blk_grown (g := gb201) (o := .cells #[.int .i64 a0_0, .int .i64 a0_1, .int .i64 a0_2] 36 (0, 0)) (by (with_reducible repeat (first | refine blk_drewN ?_ _ | refine blk_drew ?_ | refine blk_alloc ?_ _)); exact BK201.out) hg (Kd.R_ne HO232.out BK201.out (by decide))); have n1_ := Aside0.mk (hb); have n2_ := Aside0.mk (ho); clear BK201; clear HB; clear HO232; have BK201 := n0_; have HB := n1_; have HO235 := n2_; clear n0_ n1_ n2_; clear ho hb hg hat; obtain ⟨Ao33, co33, eo33⟩ := Kd.R_slice HO235.out; subst eo33) | ((with_reducible refine gate_callee (f := 34) rfl ?_); refine goesL_ (some 48) rfl rfl Tryd.func34 (by kernel_rfl) rfl #[.slice Ao33 y233.length co33, .int .i64 (Int.tmod t205 60), .int .i64 2] rfl (by (try simp only [List.map_toArray, List.map_cons, List.map_nil]); first | done | rfl | (simp only [List.length_drop, List.length_take]; rfl)) ?_; (with_reducible refine (zztime_padded.calls k (fun k_ => some k_ = (.slice Ao33 y233.length co33 : Value).ownBlock) (.slice Ao33 y233.length co33) y233 (Int.tmod t205 60) 2 t236 w _ ?side1 ?side2 A14.out).mono ?_); (case side1 => repeat (first | (with_reducible first | exact HB.out | apply below_alloc | apply pw_below_drewN | apply below_drew1 | refine below_set ?_ GE201.out) | exact HB.out)); (case side2 => exact Kd.R_tight rfl HO235.out); rintro e w34 ⟨v237, rfl, ho0, hb, hkp⟩; refine ⟨_, rfl, ?_⟩; have n0_ := Aside0.mk (blk_kept (by (with_reducible repeat (first | refine blk_drewN ?_ _ | refine blk_drew ?_ | refine blk_alloc ?_ _)); exact BK201.out) hkp (fun hs_ => (fun e_ => (Kd.R_ne HO235.out BK201.out (by decide)) e_) hs_)); have n1_ := Aside0.mk (Kd.R_mono (ok' := fun k_ => True) ho0 (fun k_ hk_ => trivial)); have n2_ := Aside0.mk (hb); clear BK201; clear HB; clear HO235; have BK201 := n0_; have HO238 := n1_; have HB := n2_; clear n0_ n1_ n2_; (try clear hb); (try clear hkp); (try clear ho0); have hcz35_0 : w34.cell? ⟨gb201, 0, none⟩ = some (.int .i64 a0_0) := (blk_cell BK201.out 0).trans rfl; have hcz35_1 : w34.cell? ⟨gb201, 1, none⟩ = some (.int .i64 a0_1) := (blk_cell BK201.out 1).trans rfl; have hcz35_2 : w34.cell? ⟨gb201, 2, none⟩ = some (.int .i64 a0_2) := (blk_cell BK201.out 2).trans rfl; have hfz35_0 := blk_frozen BK201.out 0; have hfz35_1 := blk_frozen BK201.out 1; have hfz35_2 := blk_frozen BK201.out 2))
            (try simp only [Act.put, List.setIfInBounds_toArray, List.set_cons_zero, List.set_cons_succ])
            go_cut [9] (fun v9 wc => ∃ (kq : Nat) (x9_14 : List Int), Aside0 (zztime_Time_Format.j1 kq x9_14 a0_0 a0_1 a0_2 = some r) ∧ Aside0 (kq ≤ k) ∧ Aside0 (Kd.R (Kd.int .u8) 5 wc w.heap.size (fun _ => True) v9 x9_14) ∧ Aside0 (wc.heap[gb201]? = some (.cells #[.int .i64 a0_0, .int .i64 a0_1, .int .i64 a0_2] 36 (0, 0))) ∧ Aside0 (Below w.heap.size w wc))
            case first =>
              have H := HC15.out
              clear HC15
              by_cases c36 : a0_1 > 0
              · rw [if_pos c36] at H
                have c36b0 : decide (0 < a0_1) = true := decide_eq_true c36
                clear c36
                (first | rw [c36b0] | (simp only [i64_w, i32_w]; rw [c36b0]) | skip)
                by_cases c37 : t236.length < 140737488355328
                · rw [if_pos c37] at H
                  have LMc37 := Aside0.mk c37
                  clear c37
                  obtain ⟨y239, hy239⟩ : ∃ y_ : List Int, y_ = (t236 ++ [46]) := ⟨_, rfl⟩
                  replace H : ((zztime_padded.f k y239 a0_1 9).bind fun t242 => (zztime_Time_Format.l0 k t242 a0_0 a0_1 a0_2)) = some r := by first | (rw [hy239]; with_reducible exact H) | (have H2_ := (Option.bind_some _ _).symm.trans H; rw [hy239]; with_reducible exact H2_) | (have H2_ := (Option.bind_some _ _).symm.trans H; with_reducible exact H2_) | with_reducible exact H | (rw [hy239]; exact H) | exact H
                  have Ny239 := Aside0.mk hy239
                  clear hy239
                  replace H := Option.bind_eq_some_iff.mp H
                  obtain ⟨t242, A380, H⟩ := H
                  replace H : (zztime_Time_Format.l0 k t242 a0_0 a0_1 a0_2) = some r := H
                  have A38 := Aside0.mk A380
                  clear A380
                  have H' := Aside0.mk H
                  clear H
                  try go_wp2
                  have n0_ := Aside0.mk (Kd.R_drew HO238.out)
                  have n1_ := Aside0.mk (blk_drew BK201.out)
                  have n2_ := Aside0.mk (below_drew1 HB.out)
                  clear HO238
                  clear BK201
                  clear HB
                  have HO238 := n0_
                  have BK201 := n1_
                  have HB := n2_
                  clear n0_ n1_ n2_
                  refine start_ (n := 7) (S := fun w' => w'.cell? ⟨gb201, 0, none⟩ = some (.int .i64 a0_0) ∧ w'.cell? ⟨gb201, 1, none⟩ = some (.int .i64 a0_1) ∧ w'.cell? ⟨gb201, 2, none⟩ = some (.int .i64 a0_2)) (ds := []) #[false, false, false, false, false, false, false] (by kernel_rfl) rfl rfl ⟨(blk_cell BK201.out 0).trans rfl, (blk_cell BK201.out 1).trans rfl, (blk_cell BK201.out 2).trans rfl⟩ (fun hHeld => ?_)
                  generalize w34.drew = w39 at HO238 BK201 HB hHeld ⊢
                  refine pure_ (i := 0) (N := some 52) (v := ?_) (a' := ?_) #[true, false, false, false, false, false, false] rfl rfl (by kernel_rfl) (fun _ _ _ h => h) (Or.inl ⟨by rfl, ?_⟩) ?_ ?_
                  rotate_left
                  · intro w'
                    go_simp
                    with_reducible rfl
                  rotate_left
                  · simp only [Act.put, List.setIfInBounds_toArray, List.set_cons_zero, List.set_cons_succ, i64_w, i32_w]
                    rfl
                  refine pure_ (i := 3) (N := some 55) (v := ?_) (a' := ?_) #[true, false, false, true, false, false, false] rfl rfl (by kernel_rfl) (fun _ _ _ h => h) (Or.inl ⟨by rfl, ?_⟩) ?_ ?_
                  rotate_left
                  · intro w'
                    go_simp
                    with_reducible rfl
                  rotate_left
                  · simp only [Act.put, List.setIfInBounds_toArray, List.set_cons_zero, List.set_cons_succ, i64_w, i32_w]
                    rfl
                  refine take_ (i := 4) (N := some 56) (v := ?_) (a' := ?_) #[true, false, false, true, true, false, false] rfl rfl (by kernel_rfl) (fun _ _ _ h => h) (Or.inl ⟨by rfl, ?_⟩) hHeld ?_ ?_
                  rotate_left
                  · rintro w' ⟨s0, s1, s2⟩
                    go_simp
                    with_reducible rfl
                  rotate_left
                  · simp only [Act.put, List.setIfInBounds_toArray, List.set_cons_zero, List.set_cons_succ, i64_w, i32_w]
                    rfl
                  refine one_ (i := 1) (N := some 53) #[true, true, false, true, true, false, false] rfl rfl (by kernel_rfl) (by decide) (fun K hK => ?_)
                  refine value_ (w1 := ?_) (v := ?_) (by rfl) rfl ?_ ?_
                  rotate_left 2
                  · go_simp
                    constructor
                    · rfl
                    · rfl
                  refine hK.out _ _ ⟨(blk_cell (blk_alloc BK201.out _) 0).trans rfl, (blk_cell (blk_alloc BK201.out _) 1).trans rfl, (blk_cell (blk_alloc BK201.out _) 2).trans rfl⟩ (fun hHeld => ?_)
                  clear hK K
                  refine norm_ (a' := ?_) ?_ ?_
                  rotate_left
                  · show Act.put _ (some 53) _ = _
                    simp only [Act.put, List.setIfInBounds_toArray, List.set_cons_zero, List.set_cons_succ, i64_w, i32_w]
                    rfl
                  refine one_ (i := 2) (N := some 54) #[true, true, true, true, true, false, false] rfl rfl (by kernel_rfl) (by decide) (fun K hK => ?_)
                  refine Kd.R_append_step (Kd.int .u8) (w0 := w) w.heap.size (by rfl) (.tmp 52) (.tmp 53) 34 5 (.int .u8 0) 1 rfl Tryd.underlying34 info5 rfl (by decide) (by omega) v237 t236 46 [.int .u8 46] (fun _ => True) (fun _ => False) rfl rfl ?aP (fun _ hk => hk.elim) ?aF ?aO ?aB ?aS ?aL ?_
                  (case aP => exact rfl)
                  (case aB => exact (by repeat (first | (with_reducible first | exact HB.out | apply below_alloc | apply pw_below_drewN | apply below_drew1 | refine below_set ?_ GE201.out) | exact HB.out)))
                  (case aF => exact (fun _ _ => trivial))
                  (case aO => exact (by (with_reducible repeat (first | apply Kd.R_alloc | apply Kd.R_drewN | apply Kd.R_drew)); exact HO238.out))
                  (case aS => exact (below_size (by repeat (first | (with_reducible first | exact HB.out | apply below_alloc | apply pw_below_drewN | apply below_drew1 | refine below_set ?_ GE201.out) | exact HB.out))))
                  (case aL => have := LMc37.out; omega)
                  intro v240 w40 ho hb hg hat
                  rw [← Ny239.out] at ho
                  have n0_ := Aside0.mk (blk_grown (g := gb201) (o := .cells #[.int .i64 a0_0, .int .i64 a0_1, .int .i64 a0_2] 36 (0, 0)) (by (with_reducible repeat (first | refine blk_drewN ?_ _ | refine blk_drew ?_ | refine blk_alloc ?_ _)); exact BK201.out) hg (Kd.R_ne HO238.out BK201.out (by decide)))
                  have n1_ := Aside0.mk (hb)
                  have n2_ := Aside0.mk (ho)
                  clear BK201
                  clear HB
                  clear HO238
                  have BK201 := n0_
                  have HB := n1_
                  have HO241 := n2_
                  clear n0_ n1_ n2_
                  clear ho hb hg hat
                  obtain ⟨Ao41, co41, eo41⟩ := Kd.R_slice HO241.out
                  (first | subst eo41 | (injection eo41 with f1_ f2_ f3_; have f4_ := f1_.symm; have f5_ := f3_.symm; clear f1_ f2_ f3_; subst f4_; subst f5_))
                  refine hK.out _ _ ⟨(blk_cell BK201.out 0).trans rfl, (blk_cell BK201.out 1).trans rfl, (blk_cell BK201.out 2).trans rfl⟩ (fun hHeld => ?_)
                  clear hK K
                  refine norm_ (a' := ?_) ?_ ?_
                  rotate_left
                  · show Act.put _ (some 54) _ = _
                    simp only [Act.put, List.setIfInBounds_toArray, List.set_cons_zero, List.set_cons_succ, i64_w, i32_w]
                    rfl
                  refine one_ (i := 5) (N := some 57) #[true, true, true, true, true, true, false] rfl rfl (by kernel_rfl) (by decide) (fun K hK => ?_)
                  refine goes_ Tryd.func34 (by kernel_rfl) rfl #[.slice Ao41 y239.length co41, .int .i64 a0_1, .int .i64 9] (by rfl) rfl rfl (by (try simp only [List.map_toArray, List.map_cons, List.map_nil]); first | done | rfl | (simp only [List.length_drop, List.length_take]; rfl)) ?_
                  with_reducible refine (zztime_padded.calls k (fun k_ => some k_ = (.slice Ao41 y239.length co41 : Value).ownBlock) (.slice Ao41 y239.length co41) y239 a0_1 9 t242 w _ ?side1 ?side2 A38.out).mono ?_
                  (case side1 => repeat (first | (with_reducible first | exact HB.out | apply below_alloc | apply pw_below_drewN | apply below_drew1 | refine below_set ?_ GE201.out) | exact HB.out))
                  (case side2 => exact Kd.R_tight rfl HO241.out)
                  rintro e w42 ⟨v243, rfl, ho0, hb, hkp⟩
                  refine ⟨_, rfl, ?_⟩
                  have n0_ := Aside0.mk (blk_kept (by (with_reducible repeat (first | refine blk_drewN ?_ _ | refine blk_drew ?_ | refine blk_alloc ?_ _)); exact BK201.out) hkp (fun hs_ => (fun e_ => (Kd.R_ne HO241.out BK201.out (by decide)) e_) hs_))
                  have n1_ := Aside0.mk (Kd.R_mono (ok' := fun k_ => True) ho0 (fun k_ hk_ => trivial))
                  have n2_ := Aside0.mk (hb)
                  clear BK201
                  clear HB
                  clear HO241
                  have BK201 := n0_
                  have HO244 := n1_
                  have HB := n2_
                  clear n0_ n1_ n2_
                  (try clear hb)
                  (try clear hkp)
                  (try clear ho0)
                  refine hK.out _ _ ⟨(blk_cell BK201.out 0).trans rfl, (blk_cell BK201.out 1).trans rfl, (blk_cell BK201.out 2).trans rfl⟩ (fun hHeld => ?_)
                  clear hK K
                  refine norm_ (a' := ?_) ?_ ?_
                  rotate_left
                  · show Act.put _ (some 57) _ = _
                    simp only [Act.put, List.setIfInBounds_toArray, List.set_cons_zero, List.set_cons_succ, i64_w, i32_w]
                    rfl
                  refine pure_ (i := 6) (N := some 9) (v := ?_) (a' := ?_) #[true, true, true, true, true, true, true] rfl rfl (by kernel_rfl) (fun _ _ _ h => h) (Or.inl ⟨by rfl, ?_⟩) ?_ ?_
                  rotate_left
                  · intro w'
                    go_simp
                    with_reducible rfl
                  rotate_left
                  · simp only [Act.put, List.setIfInBounds_toArray, List.set_cons_zero, List.set_cons_succ, i64_w, i32_w]
                    rfl
                  refine done_ (by kernel_rfl) ?_
                  try go_wp2
                  go_loopg [9] k (fun kq v9 w' => ∃ (x9_1 : List Int), Aside0 (zztime_Time_Format.l0 kq x9_1 a0_0 a0_1 a0_2 = some r) ∧ Aside0 (kq ≤ k) ∧ Aside0 (Kd.R (Kd.int .u8) 5 w' w.heap.size (fun _ => True) v9 x9_1) ∧ Aside0 (w'.heap[gb201]? = some (.cells #[.int .i64 a0_0, .int .i64 a0_1, .int .i64 a0_2] 36 (0, 0))) ∧ Aside0 (Below w.heap.size w w'))
                  case atStart => exact ⟨(t242), H', ⟨Nat.le_refl _⟩, ⟨by (with_reducible repeat (first | apply Kd.R_alloc | apply Kd.R_drewN | apply Kd.R_drew)); exact HO244.out⟩, ⟨by (with_reducible repeat (first | refine blk_drewN ?_ _ | refine blk_drew ?_ | refine blk_alloc ?_ _)); exact BK201.out⟩, ⟨by repeat (first | (with_reducible first | exact HB.out | apply below_alloc | apply pw_below_drewN | apply below_drew1 | refine below_set ?_ GE201.out) | exact HB.out)⟩⟩
                  case round =>
                    clear H'
                    try clear c1
                    try clear p2
                    try clear c3
                    try clear c5
                    try clear p6
                    try clear c7
                    try clear c9
                    try clear c11
                    try clear c13
                    try clear c31
                    try clear c33
                    try clear c34
                    try clear c36
                    try clear c36b0
                    try clear c37
                    try clear hcz17_0
                    try clear hcz17_1
                    try clear hcz17_2
                    try clear hcz35_0
                    try clear hcz35_1
                    try clear hcz35_2
                    try clear hfz17_0
                    try clear hfz17_1
                    try clear hfz17_2
                    try clear hfz35_0
                    try clear hfz35_1
                    try clear hfz35_2
                    obtain ⟨x9_1, HA, HK1, HO_9, BK201, HB⟩ := hrel
                    cases gk with
                    | zero => exact absurd HA.out (by simp [zztime_Time_Format.l0])
                    | succ k1 =>
                      have H := HA.out
                      clear HA
                      simp only [zztime_Time_Format.l0] at H
                      obtain ⟨ji43, hji43⟩ : ∃ j_ : Int, (wrap64 ((x9_1.length : Int) - 1)) = j_ := ⟨_, rfl⟩
                      replace H : (if 0 ≤ (ji43) then (if (ji43) < (x9_1.length : Int) then (if (rd x9_1 (ji43)) = 48 then (if (ji43) ≤ (x9_1.length : Int) then (zztime_Time_Format.l0 k1 (x9_1.take ((ji43) : Int).toNat) a0_0 a0_1 a0_2) else (none)) else (zztime_Time_Format.j1 k1 x9_1 a0_0 a0_1 a0_2)) else (none)) else (none)) = some r := by first | (rw [hji43] at H; exact H) | (simp only [hji43] at H ⊢; exact H)
                      have hji43w : (IntKind.i64.wrap ((x9_1.length : Int) - 1)) = ji43 := (i64_w _).trans hji43
                      by_cases c44 : 0 ≤ (ji43)
                      · rw [if_pos c44] at H
                        have c44b0 : decide (0 ≤ (ji43)) = true := decide_eq_true c44
                        clear c44
                        by_cases c45 : (ji43) < (x9_1.length : Int)
                        · rw [if_pos c45] at H
                          have c45b0 : decide ((ji43) < (x9_1.length : Int)) = true := decide_eq_true c45
                          clear c45
                          by_cases c46 : (rd x9_1 (ji43)) = 48
                          · rw [if_pos c46] at H
                            have c46b0 : ((rd x9_1 (ji43)) == 48) = true := beq_iff_eq.mpr c46
                            have c46b1 : ((rd x9_1 (ji43)) != 48) = false := bne_eq_false_iff_eq.mpr c46
                            clear c46
                            by_cases c47 : (ji43) ≤ (x9_1.length : Int)
                            · rw [if_pos c47] at H
                              have c47b0 := eq_true c47
                              have c47b1 : decide ((ji43) ≤ (x9_1.length : Int)) = true := decide_eq_true c47
                              clear c47
                              obtain ⟨y246, hy246⟩ : ∃ y_ : List Int, y_ = (x9_1.take ((ji43) : Int).toNat) := ⟨_, rfl⟩
                              replace H : (zztime_Time_Format.l0 k1 y246 a0_0 a0_1 a0_2) = some r := by first | (rw [hy246]; with_reducible exact H) | (have H2_ := (Option.bind_some _ _).symm.trans H; rw [hy246]; with_reducible exact H2_) | (have H2_ := (Option.bind_some _ _).symm.trans H; with_reducible exact H2_) | with_reducible exact H | (rw [hy246]; exact H) | exact H
                              have Ny246 := Aside0.mk hy246
                              clear hy246
                              have H' := Aside0.mk H
                              clear H
                              obtain ⟨Ao48, co48, eo48⟩ := Kd.R_slice HO_9.out
                              subst eo48
                              have p245 : 0 ≤ ((ji43) : Int) := of_decide_eq_true (by first | (with_reducible assumption) | assumption)
                              have q245 : (ji43) < (x9_1.length : Int) := of_decide_eq_true (by first | (with_reducible assumption) | assumption)
                              obtain ⟨ad245, e245, hx245_0⟩ := Kd.at_int (Kd.R_reads' HO_9.out).2.2 (ji43) p245 q245
                              cases e245
                              replace p245 := eq_true p245
                              replace q245 := eq_true q245
                              have q49 : ((ji43) : Int) ≤ ((x9_1.length : Int) : Int) := of_decide_eq_true (by first | (with_reducible assumption) | assumption)
                              obtain ⟨i049, hi049, _, hsz49, _⟩ := info_parts info5
                              have hcut49 := cut_to (P := Tryd.prog) 34 5 .i64 Tryd.underlying34 hi049 (some ad245) x9_1.length co48 (ji43) (of_decide_eq_true (by first | (with_reducible assumption) | assumption)) q49 (Kd.R_reads' HO_9.out).2.1
                              have hr49 := Kd.R_take (m := ((ji43) : Int).toNat) HO_9.out (by omega)
                              have hy49 : y246.length = ((ji43) : Int).toNat := (by rw [Ny246.out, List.length_take]; omega)
                              rw [← Ny246.out] at hr49
                              rw [← hy49] at hr49 hcut49
                              clear hy49 hi049 hsz49 HO_9
                              have HO248 := Aside0.mk hr49
                              clear hr49
                              replace q49 := eq_true q49
                              go_wp2
                              go_roundg k1
                              case measure => have := HK1.out; omega
                              case rel => exact ⟨(y246), H', ⟨by have := HK1.out; omega⟩, ⟨by (with_reducible repeat (first | apply Kd.R_alloc | apply Kd.R_drewN | apply Kd.R_drew)); exact HO248.out⟩, ⟨by (with_reducible repeat (first | refine blk_drewN ?_ _ | refine blk_drew ?_ | refine blk_alloc ?_ _)); exact BK201.out⟩, ⟨by repeat (first | (with_reducible first | exact HB.out | apply below_alloc | apply pw_below_drewN | apply below_drew1 | refine below_set ?_ GE201.out) | exact HB.out)⟩⟩
                            · rw [if_neg c47] at H
                              exact absurd H (by simp)
                          · rw [if_neg c46] at H
                            have c46b0 : ((rd x9_1 (ji43)) == 48) = false := beq_eq_false_iff_ne.mpr c46
                            have c46b1 : ((rd x9_1 (ji43)) != 48) = true := bne_iff_ne.mpr c46
                            have H' := Aside0.mk H
                            clear H
                            obtain ⟨Ao50, co50, eo50⟩ := Kd.R_slice HO_9.out
                            subst eo50
                            have p245 : 0 ≤ ((ji43) : Int) := of_decide_eq_true (by first | (with_reducible assumption) | assumption)
                            have q245 : (ji43) < (x9_1.length : Int) := of_decide_eq_true (by first | (with_reducible assumption) | assumption)
                            obtain ⟨ad245, e245, hx245_0⟩ := Kd.at_int (Kd.R_reads' HO_9.out).2.2 (ji43) p245 q245
                            cases e245
                            replace p245 := eq_true p245
                            replace q245 := eq_true q245
                            go_wp2
                            go_meet
                            case rel => exact ⟨_, (x9_1), H', ⟨by have := HK1.out; first | omega | exact Nat.le_refl _⟩, ⟨by (with_reducible repeat (first | apply Kd.R_alloc | apply Kd.R_drewN | apply Kd.R_drew)); exact HO_9.out⟩, ⟨by (with_reducible repeat (first | refine blk_drewN ?_ _ | refine blk_drew ?_ | refine blk_alloc ?_ _)); exact BK201.out⟩, ⟨by repeat (first | (with_reducible first | exact HB.out | apply below_alloc | apply pw_below_drewN | apply below_drew1 | refine below_set ?_ GE201.out) | exact HB.out)⟩⟩
                        · rw [if_neg c45] at H
                          exact absurd H (by simp)
                      · rw [if_neg c44] at H
                        exact absurd H (by simp)
                · rw [if_neg c37] at H
                  exact absurd H (by simp)
              · rw [if_neg c36] at H
                have c36b0 : decide (0 < a0_1) = false := decide_eq_false c36
                clear c36
                (first | rw [c36b0] | (simp only [i64_w, i32_w]; rw [c36b0]) | skip)
                have H' := Aside0.mk H
                clear H
                go_wp2
                go_meet
                case rel => exact ⟨_, (t236), H', ⟨by first | omega | exact Nat.le_refl _⟩, ⟨by (with_reducible repeat (first | apply Kd.R_alloc | apply Kd.R_drewN | apply Kd.R_drew)); exact HO238.out⟩, ⟨by (with_reducible repeat (first | refine blk_drewN ?_ _ | refine blk_drew ?_ | refine blk_alloc ?_ _)); exact BK201.out⟩, ⟨by repeat (first | (with_reducible first | exact HB.out | apply below_alloc | apply pw_below_drewN | apply below_drew1 | refine below_set ?_ GE201.out) | exact HB.out)⟩⟩
            case rest =>
              clear HC15
              try clear c1
              try clear p2
              try clear q2
              try clear hx2
              try clear c3
              try clear c4
              try clear q4
              try clear c5
              try clear p6
              try clear c7
              try clear c9
              try clear c11
              try clear c13
              try clear p24
              try clear q24
              try clear hx24
              try clear c31
              try clear c33
              try clear c34
              try clear c36
              try clear c36b0
              try clear c37
              try clear c44
              try clear c44b0
              try clear c45
              try clear c45b0
              try clear c46
              try clear c46b0
              try clear c46b1
              try clear c47
              try clear c47b0
              try clear c47b1
              try clear q49
              try clear hcz17_0
              try clear hcz17_1
              try clear hcz17_2
              try clear hcz35_0
              try clear hcz35_1
              try clear hcz35_2
              try clear hfz17_0
              try clear hfz17_1
              try clear hfz17_2
              try clear hfz35_0
              try clear hfz35_1
              try clear hfz35_2
              try clear hx245_0
              try clear p2
              try clear p245
              try clear p6
              try clear q245
              try clear q49
              obtain ⟨kq, x9_14, HA, HJ14, HO_9, BK201, HB⟩ := hcut
              cases kq with
              | zero => exact absurd HA.out (by simp [zztime_Time_Format.j1])
              | succ kj14 =>
                have H := HA.out
                clear HA
                simp only [zztime_Time_Format.j1] at H
                by_cases c51 : a0_2 = 0
                · rw [if_pos c51] at H
                  have c51b0 : (a0_2 == 0) = true := beq_iff_eq.mpr c51
                  have c51b1 : (a0_2 != 0) = false := bne_eq_false_iff_eq.mpr c51
                  clear c51
                  by_cases c52 : x9_14.length < 140737488355328
                  · rw [if_pos c52] at H
                    have LMc52 := Aside0.mk c52
                    clear c52
                    obtain ⟨y249, hy249⟩ : ∃ y_ : List Int, y_ = (x9_14 ++ [90]) := ⟨_, rfl⟩
                    replace H : (some (strOfNums y249)) = some r := by first | (rw [hy249]; with_reducible exact H) | (have H2_ := (Option.bind_some _ _).symm.trans H; rw [hy249]; with_reducible exact H2_) | (have H2_ := (Option.bind_some _ _).symm.trans H; with_reducible exact H2_) | with_reducible exact H | (rw [hy249]; exact H) | exact H
                    have Ny249 := Aside0.mk hy249
                    clear hy249
                    obtain rfl := Option.some.inj H
                    have hcz53_0 : wc.cell? ⟨gb201, 0, none⟩ = some (.int .i64 a0_0) := (blk_cell BK201.out 0).trans rfl
                    have hcz53_1 : wc.cell? ⟨gb201, 1, none⟩ = some (.int .i64 a0_1) := (blk_cell BK201.out 1).trans rfl
                    have hcz53_2 : wc.cell? ⟨gb201, 2, none⟩ = some (.int .i64 a0_2) := (blk_cell BK201.out 2).trans rfl
                    have hfz53_0 := blk_frozen BK201.out 0
                    have hfz53_1 := blk_frozen BK201.out 1
                    have hfz53_2 := blk_frozen BK201.out 2
                    go_wp2_with (first | ((with_reducible refine gate_builtin (b := .append) (xs := #[.tmp 73, .tmp 74]) rfl ?_); at_builtin; refine Kd.R_append (Kd.int .u8) (w0 := w) w.heap.size rfl (.tmp 73) (.tmp 74) 34 5 (.int .u8 0) 1 rfl Tryd.underlying34 info5 rfl (by decide) (by omega) u9 x9_14 90 [.int .u8 90] (fun _ => True) (fun _ => False) rfl rfl ?aP (fun _ hk => hk.elim) ?aF ?aO ?aB ?aS ?aL ?_; (case aP => exact rfl); (case aB => exact (by repeat (first | (with_reducible first | exact HB.out | apply below_alloc | apply pw_below_drewN | apply below_drew1 | refine below_set ?_ GE201.out) | exact HB.out))); (case aF => exact (fun _ _ => trivial)); (case aO => exact (by (with_reducible repeat (first | apply Kd.R_alloc | apply Kd.R_drewN | apply Kd.R_drew)); exact HO_9.out)); (case aS => exact (below_size (by repeat (first | (with_reducible first | exact HB.out | apply below_alloc | apply pw_below_drewN | apply below_drew1 | refine below_set ?_ GE201.out) | exact HB.out)))); (case aL => have := LMc52.out; omega); intro v250 w54 ho hb hg hat; rw [← Ny249.out] at ho; have n0_ := Aside0.mk (blk_grown (g := gb201) (o := .cells #[.int .i64 a0_0, .int .i64 a0_1, .int .i64 a0_2] 36 (0, 0)) (by (with_reducible repeat (first | refine blk_drewN ?_ _ | refine blk_drew ?_ | refine blk_alloc ?_ _)); exact BK201.out) hg (Kd.R_ne HO_9.out BK201.out (by decide))); have n1_ := Aside0.mk (hb); have n2_ := Aside0.mk (ho); clear BK201; clear HB; clear HO_9; have BK201 := n0_; have HB := n1_; have HO251 := n2_; clear n0_ n1_ n2_; clear ho hb hg hat; have hcv55 := own_string (P := Tryd.prog) Tryd.underlying34 Tryd.underlying5 Tryd.underlying9 (Kd.own_of_R HO251.out)))
                    go_ret
                    exact ⟨by first | rfl | (simp [errW_none, errW_some] <;> rfl) | (simp [*, errW_none, errW_some] <;> rfl), by repeat (first | (with_reducible first | exact HB.out | apply below_alloc | apply pw_below_drewN | apply below_drew1 | refine below_set ?_ GE201.out) | exact HB.out)⟩
                  · rw [if_neg c52] at H
                    exact absurd H (by simp)
                · rw [if_neg c51] at H
                  have c51b0 : (a0_2 == 0) = false := beq_eq_false_iff_ne.mpr c51
                  have c51b1 : (a0_2 != 0) = true := bne_iff_ne.mpr c51
                  by_cases c56 : (wrap64 (Int.tdiv a0_2 60)) < 0
                  · rw [if_pos c56] at H
                    have c56b0 : decide ((wrap64 (Int.tdiv a0_2 60)) < 0) = true := decide_eq_true c56
                    clear c56
                    by_cases c57 : x9_14.length < 140737488355328
                    · rw [if_pos c57] at H
                      have LMc57 := Aside0.mk c57
                      clear c57
                      obtain ⟨y252, hy252⟩ : ∃ y_ : List Int, y_ = (x9_14 ++ [45]) := ⟨_, rfl⟩
                      replace H : ((zztime_padded.f kj14 y252 (wrap64 (Int.tdiv (wrap64 (-(wrap64 (Int.tdiv a0_2 60)))) 60)) 2).bind fun t255 => (if t255.length < 140737488355328 then ((zztime_padded.f kj14 (t255 ++ [58]) (Int.tmod (wrap64 (-(wrap64 (Int.tdiv a0_2 60)))) 60) 2).bind fun t261 => (some (strOfNums t261))) else (none))) = some r := by first | (rw [hy252]; with_reducible exact H) | (have H2_ := (Option.bind_some _ _).symm.trans H; rw [hy252]; with_reducible exact H2_) | (have H2_ := (Option.bind_some _ _).symm.trans H; with_reducible exact H2_) | with_reducible exact H | (rw [hy252]; exact H) | exact H
                      have Ny252 := Aside0.mk hy252
                      clear hy252
                      replace H := Option.bind_eq_some_iff.mp H
                      obtain ⟨t255, A580, H⟩ := H
                      replace H : (if t255.length < 140737488355328 then ((zztime_padded.f kj14 (t255 ++ [58]) (Int.tmod (wrap64 (-(wrap64 (Int.tdiv a0_2 60)))) 60) 2).bind fun t261 => (some (strOfNums t261))) else (none)) = some r := H
                      have A58 := Aside0.mk A580
                      clear A580
                      by_cases c59 : t255.length < 140737488355328
                      · rw [if_pos c59] at H
                        have LMc59 := Aside0.mk c59
                        clear c59
                        obtain ⟨y258, hy258⟩ : ∃ y_ : List Int, y_ = (t255 ++ [58]) := ⟨_, rfl⟩
                        replace H : ((zztime_padded.f kj14 y258 (Int.tmod (wrap64 (-(wrap64 (Int.tdiv a0_2 60)))) 60) 2).bind fun t261 => (some (strOfNums t261))) = some r := by first | (rw [hy258]; with_reducible exact H) | (have H2_ := (Option.bind_some _ _).symm.trans H; rw [hy258]; with_reducible exact H2_) | (have H2_ := (Option.bind_some _ _).symm.trans H; with_reducible exact H2_) | with_reducible exact H | (rw [hy258]; exact H) | exact H
                        have Ny258 := Aside0.mk hy258
                        clear hy258
                        replace H := Option.bind_eq_some_iff.mp H
                        obtain ⟨t261, A600, H⟩ := H
                        replace H : (some (strOfNums t261)) = some r := H
                        have A60 := Aside0.mk A600
                        clear A600
                        obtain rfl := Option.some.inj H
                        have hcz61_0 : wc.cell? ⟨gb201, 0, none⟩ = some (.int .i64 a0_0) := (blk_cell BK201.out 0).trans rfl
                        have hcz61_1 : wc.cell? ⟨gb201, 1, none⟩ = some (.int .i64 a0_1) := (blk_cell BK201.out 1).trans rfl
                        have hcz61_2 : wc.cell? ⟨gb201, 2, none⟩ = some (.int .i64 a0_2) := (blk_cell BK201.out 2).trans rfl
                        have hfz61_0 := blk_frozen BK201.out 0
                        have hfz61_1 := blk_frozen BK201.out 1
                        have hfz61_2 := blk_frozen BK201.out 2
                        go_wp2_with (first | ((with_reducible refine gate_builtin (b := .append) (xs := #[.tmp 82, .tmp 83]) rfl ?_); at_builtin; refine Kd.R_append (Kd.int .u8) (w0 := w) w.heap.size rfl (.tmp 82) (.tmp 83) 34 5 (.int .u8 0) 1 rfl Tryd.underlying34 info5 rfl (by decide) (by omega) u9 x9_14 45 [.int .u8 45] (fun _ => True) (fun _ => False) rfl rfl ?aP (fun _ hk => hk.elim) ?aF ?aO ?aB ?aS ?aL ?_; (case aP => exact rfl); (case aB => exact (by repeat (first | (with_reducible first | exact HB.out | apply below_alloc | apply pw_below_drewN | apply below_drew1 | refine below_set ?_ GE201.out) | exact HB.out))); (case aF => exact (fun _ _ => trivial)); (case aO => exact (by (with_reducible repeat (first | apply Kd.R_alloc | apply Kd.R_drewN | apply Kd.R_drew)); exact HO_9.out)); (case aS => exact (below_size (by repeat (first | (with_reducible first | exact HB.out | apply below_alloc | apply pw_below_drewN | apply below_drew1 | refine below_set ?_ GE201.out) | exact HB.out)))); (case aL => have := LMc57.out; omega); intro v253 w62 ho hb hg hat; rw [← Ny252.out] at ho; have n0_ := Aside0.mk (blk_grown (g := gb201) (o := .cells #[.int .i64 a0_0, .int .i64 a0_1, .int .i64 a0_2] 36 (0, 0)) (by (with_reducible repeat (first | refine blk_drewN ?_ _ | refine blk_drew ?_ | refine blk_alloc ?_ _)); exact BK201.out) hg (Kd.R_ne HO_9.out BK201.out (by decide))); have n1_ := Aside0.mk (hb); have n2_ := Aside0.mk (ho); clear BK201; clear HB; clear HO_9; have BK201 := n0_; have HB := n1_; have HO254 := n2_; clear n0_ n1_ n2_; clear ho hb hg hat; obtain ⟨Ao63, co63, eo63⟩ := Kd.R_slice HO254.out; subst eo63) | ((with_reducible refine gate_callee (f := 34) rfl ?_); refine goesL_ (some 93) rfl rfl Tryd.func34 (by kernel_rfl) rfl #[.slice Ao63 y252.length co63, .int .i64 (wrap64 (Int.tdiv (wrap64 (-(wrap64 (Int.tdiv a0_2 60)))) 60)), .int .i64 2] rfl (by (try simp only [List.map_toArray, List.map_cons, List.map_nil]); first | done | rfl | (simp only [List.length_drop, List.length_take]; rfl)) ?_; (with_reducible refine (zztime_padded.calls kj14 (fun k_ => some k_ = (.slice Ao63 y252.length co63 : Value).ownBlock) (.slice Ao63 y252.length co63) y252 (wrap64 (Int.tdiv (wrap64 (-(wrap64 (Int.tdiv a0_2 60)))) 60)) 2 t255 w _ ?side1 ?side2 A58.out).mono ?_); (case side1 => repeat (first | (with_reducible first | exact HB.out | apply below_alloc | apply pw_below_drewN | apply below_drew1 | refine below_set ?_ GE201.out) | exact HB.out)); (case side2 => exact Kd.R_tight rfl HO254.out); rintro e w64 ⟨v256, rfl, ho0, hb, hkp⟩; refine ⟨_, rfl, ?_⟩; have n0_ := Aside0.mk (blk_kept (by (with_reducible repeat (first | refine blk_drewN ?_ _ | refine blk_drew ?_ | refine blk_alloc ?_ _)); exact BK201.out) hkp (fun hs_ => (fun e_ => (Kd.R_ne HO254.out BK201.out (by decide)) e_) hs_)); have n1_ := Aside0.mk (Kd.R_mono (ok' := fun k_ => True) ho0 (fun k_ hk_ => trivial)); have n2_ := Aside0.mk (hb); clear BK201; clear HB; clear HO254; have BK201 := n0_; have HO257 := n1_; have HB := n2_; clear n0_ n1_ n2_; (try clear hb); (try clear hkp); (try clear ho0)) | ((with_reducible refine gate_builtin (b := .append) (xs := #[.tmp 93, .tmp 94]) rfl ?_); at_builtin; refine Kd.R_append (Kd.int .u8) (w0 := w) w.heap.size rfl (.tmp 93) (.tmp 94) 34 5 (.int .u8 0) 1 rfl Tryd.underlying34 info5 rfl (by decide) (by omega) v256 t255 58 [.int .u8 58] (fun _ => True) (fun _ => False) rfl rfl ?aP (fun _ hk => hk.elim) ?aF ?aO ?aB ?aS ?aL ?_; (case aP => exact rfl); (case aB => exact (by repeat (first | (with_reducible first | exact HB.out | apply below_alloc | apply pw_below_drewN | apply below_drew1 | refine below_set ?_ GE201.out) | exact HB.out))); (case aF => exact (fun _ _ => trivial)); (case aO => exact (by (with_reducible repeat (first | apply Kd.R_alloc | apply Kd.R_drewN | apply Kd.R_drew)); exact HO257.out)); (case aS => exact (below_size (by repeat (first | (with_reducible first | exact HB.out | apply below_alloc | apply pw_below_drewN | apply below_drew1 | refine below_set ?_ GE201.out) | exact HB.out)))); (case aL => have := LMc59.out; omega); intro v259 w65 ho hb hg hat; rw [← Ny258.out] at ho; have n0_ := Aside0.mk (blk_grown (g := gb201) (o := .cells #[.int .i64 a0_0, .int .i64 a0_1, .int .i64 a0_2] 36 (0, 0)) (by (with_reducible repeat (first | refine blk_drewN ?_ _ | refine blk_drew ?_ | refine blk_alloc ?_ _)); exact BK201.out) hg (Kd.R_ne HO257.out BK201.out (by decide))); have n1_ := Aside0.mk (hb); have n2_ := Aside0.mk (ho); clear BK201; clear HB; clear HO257; have BK201 := n0_; have HB := n1_; have HO260 := n2_; clear n0_ n1_ n2_; clear ho hb hg hat; obtain ⟨Ao66, co66, eo66⟩ := Kd.R_slice HO260.out; subst eo66) | ((with_reducible refine gate_callee (f := 34) rfl ?_); refine goesL_ (some 99) rfl rfl Tryd.func34 (by kernel_rfl) rfl #[.slice Ao66 y258.length co66, .int .i64 (Int.tmod (wrap64 (-(wrap64 (Int.tdiv a0_2 60)))) 60), .int .i64 2] rfl (by (try simp only [List.map_toArray, List.map_cons, List.map_nil]); first | done | rfl | (simp only [List.length_drop, List.length_take]; rfl)) ?_; (with_reducible refine (zztime_padded.calls kj14 (fun k_ => some k_ = (.slice Ao66 y258.length co66 : Value).ownBlock) (.slice Ao66 y258.length co66) y258 (Int.tmod (wrap64 (-(wrap64 (Int.tdiv a0_2 60)))) 60) 2 t261 w _ ?side1 ?side2 A60.out).mono ?_); (case side1 => repeat (first | (with_reducible first | exact HB.out | apply below_alloc | apply pw_below_drewN | apply below_drew1 | refine below_set ?_ GE201.out) | exact HB.out)); (case side2 => exact Kd.R_tight rfl HO260.out); rintro e w67 ⟨v262, rfl, ho0, hb, hkp⟩; refine ⟨_, rfl, ?_⟩; have n0_ := Aside0.mk (blk_kept (by (with_reducible repeat (first | refine blk_drewN ?_ _ | refine blk_drew ?_ | refine blk_alloc ?_ _)); exact BK201.out) hkp (fun hs_ => (fun e_ => (Kd.R_ne HO260.out BK201.out (by decide)) e_) hs_)); have n1_ := Aside0.mk (Kd.R_mono (ok' := fun k_ => True) ho0 (fun k_ hk_ => trivial)); have n2_ := Aside0.mk (hb); clear BK201; clear HB; clear HO260; have BK201 := n0_; have HO263 := n1_; have HB := n2_; clear n0_ n1_ n2_; (try clear hb); (try clear hkp); (try clear ho0); have hcv68 := own_string (P := Tryd.prog) Tryd.underlying34 Tryd.underlying5 Tryd.underlying9 (Kd.own_of_R HO263.out)))
                        go_ret
                        exact ⟨by first | rfl | (simp [errW_none, errW_some] <;> rfl) | (simp [*, errW_none, errW_some] <;> rfl), by repeat (first | (with_reducible first | exact HB.out | apply below_alloc | apply pw_below_drewN | apply below_drew1 | refine below_set ?_ GE201.out) | exact HB.out)⟩
                      · rw [if_neg c59] at H
                        exact absurd H (by simp)
                    · rw [if_neg c57] at H
                      exact absurd H (by simp)
                  · rw [if_neg c56] at H
                    have c56b0 : decide ((wrap64 (Int.tdiv a0_2 60)) < 0) = false := decide_eq_false c56
                    clear c56
                    by_cases c69 : x9_14.length < 140737488355328
                    · rw [if_pos c69] at H
                      have LMc69 := Aside0.mk c69
                      clear c69
                      obtain ⟨y264, hy264⟩ : ∃ y_ : List Int, y_ = (x9_14 ++ [43]) := ⟨_, rfl⟩
                      replace H : ((zztime_padded.f kj14 y264 (wrap64 (Int.tdiv (wrap64 (Int.tdiv a0_2 60)) 60)) 2).bind fun t267 => (if t267.length < 140737488355328 then ((zztime_padded.f kj14 (t267 ++ [58]) (Int.tmod (wrap64 (Int.tdiv a0_2 60)) 60) 2).bind fun t273 => (some (strOfNums t273))) else (none))) = some r := by first | (rw [hy264]; with_reducible exact H) | (have H2_ := (Option.bind_some _ _).symm.trans H; rw [hy264]; with_reducible exact H2_) | (have H2_ := (Option.bind_some _ _).symm.trans H; with_reducible exact H2_) | with_reducible exact H | (rw [hy264]; exact H) | exact H
                      have Ny264 := Aside0.mk hy264
                      clear hy264
                      replace H := Option.bind_eq_some_iff.mp H
                      obtain ⟨t267, A700, H⟩ := H
                      replace H : (if t267.length < 140737488355328 then ((zztime_padded.f kj14 (t267 ++ [58]) (Int.tmod (wrap64 (Int.tdiv a0_2 60)) 60) 2).bind fun t273 => (some (strOfNums t273))) else (none)) = some r := H
                      have A70 := Aside0.mk A700
                      clear A700
                      by_cases c71 : t267.length < 140737488355328
                      · rw [if_pos c71] at H
                        have LMc71 := Aside0.mk c71
                        clear c71
                        obtain ⟨y270, hy270⟩ : ∃ y_ : List Int, y_ = (t267 ++ [58]) := ⟨_, rfl⟩
                        replace H : ((zztime_padded.f kj14 y270 (Int.tmod (wrap64 (Int.tdiv a0_2 60)) 60) 2).bind fun t273 => (some (strOfNums t273))) = some r := by first | (rw [hy270]; with_reducible exact H) | (have H2_ := (Option.bind_some _ _).symm.trans H; rw [hy270]; with_reducible exact H2_) | (have H2_ := (Option.bind_some _ _).symm.trans H; with_reducible exact H2_) | with_reducible exact H | (rw [hy270]; exact H) | exact H
                        have Ny270 := Aside0.mk hy270
                        clear hy270
                        replace H := Option.bind_eq_some_iff.mp H
                        obtain ⟨t273, A720, H⟩ := H
                        replace H : (some (strOfNums t273)) = some r := H
                        have A72 := Aside0.mk A720
                        clear A720
                        obtain rfl := Option.some.inj H
                        have hcz73_0 : wc.cell? ⟨gb201, 0, none⟩ = some (.int .i64 a0_0) := (blk_cell BK201.out 0).trans rfl
                        have hcz73_1 : wc.cell? ⟨gb201, 1, none⟩ = some (.int .i64 a0_1) := (blk_cell BK201.out 1).trans rfl
                        have hcz73_2 : wc.cell? ⟨gb201, 2, none⟩ = some (.int .i64 a0_2) := (blk_cell BK201.out 2).trans rfl
                        have hfz73_0 := blk_frozen BK201.out 0
                        have hfz73_1 := blk_frozen BK201.out 1
                        have hfz73_2 := blk_frozen BK201.out 2
                        go_wp2_with (first | ((with_reducible refine gate_builtin (b := .append) (xs := #[.tmp 87, .tmp 88]) rfl ?_); at_builtin; refine Kd.R_append (Kd.int .u8) (w0 := w) w.heap.size rfl (.tmp 87) (.tmp 88) 34 5 (.int .u8 0) 1 rfl Tryd.underlying34 info5 rfl (by decide) (by omega) u9 x9_14 43 [.int .u8 43] (fun _ => True) (fun _ => False) rfl rfl ?aP (fun _ hk => hk.elim) ?aF ?aO ?aB ?aS ?aL ?_; (case aP => exact rfl); (case aB => exact (by repeat (first | (with_reducible first | exact HB.out | apply below_alloc | apply pw_below_drewN | apply below_drew1 | refine below_set ?_ GE201.out) | exact HB.out))); (case aF => exact (fun _ _ => trivial)); (case aO => exact (by (with_reducible repeat (first | apply Kd.R_alloc | apply Kd.R_drewN | apply Kd.R_drew)); exact HO_9.out)); (case aS => exact (below_size (by repeat (first | (with_reducible first | exact HB.out | apply below_alloc | apply pw_below_drewN | apply below_drew1 | refine below_set ?_ GE201.out) | exact HB.out)))); (case aL => have := LMc69.out; omega); intro v265 w74 ho hb hg hat; rw [← Ny264.out] at ho; have n0_ := Aside0.mk (blk_grown (g := gb201) (o := .cells #[.int .i64 a0_0, .int .i64 a0_1, .int .i64 a0_2] 36 (0, 0)) (by (with_reducible repeat (first | refine blk_drewN ?_ _ | refine blk_drew ?_ | refine blk_alloc ?_ _)); exact BK201.out) hg (Kd.R_ne HO_9.out BK201.out (by decide))); have n1_ := Aside0.mk (hb); have n2_ := Aside0.mk (ho); clear BK201; clear HB; clear HO_9; have BK201 := n0_; have HB := n1_; have HO266 := n2_; clear n0_ n1_ n2_; clear ho hb hg hat; obtain ⟨Ao75, co75, eo75⟩ := Kd.R_slice HO266.out; subst eo75) | ((with_reducible refine gate_callee (f := 34) rfl ?_); refine goesL_ (some 93) rfl rfl Tryd.func34 (by kernel_rfl) rfl #[.slice Ao75 y264.length co75, .int .i64 (wrap64 (Int.tdiv (wrap64 (Int.tdiv a0_2 60)) 60)), .int .i64 2] rfl (by (try simp only [List.map_toArray, List.map_cons, List.map_nil]); first | done | rfl | (simp only [List.length_drop, List.length_take]; rfl)) ?_; (with_reducible refine (zztime_padded.calls kj14 (fun k_ => some k_ = (.slice Ao75 y264.length co75 : Value).ownBlock) (.slice Ao75 y264.length co75) y264 (wrap64 (Int.tdiv (wrap64 (Int.tdiv a0_2 60)) 60)) 2 t267 w _ ?side1 ?side2 A70.out).mono ?_); (case side1 => repeat (first | (with_reducible first | exact HB.out | apply below_alloc | apply pw_below_drewN | apply below_drew1 | refine below_set ?_ GE201.out) | exact HB.out)); (case side2 => exact Kd.R_tight rfl HO266.out); rintro e w76 ⟨v268, rfl, ho0, hb, hkp⟩; refine ⟨_, rfl, ?_⟩; have n0_ := Aside0.mk (blk_kept (by (with_reducible repeat (first | refine blk_drewN ?_ _ | refine blk_drew ?_ | refine blk_alloc ?_ _)); exact BK201.out) hkp (fun hs_ => (fun e_ => (Kd.R_ne HO266.out BK201.out (by decide)) e_) hs_)); have n1_ := Aside0.mk (Kd.R_mono (ok' := fun k_ => True) ho0 (fun k_ hk_ => trivial)); have n2_ := Aside0.mk (hb); clear BK201; clear HB; clear HO266; have BK201 := n0_; have HO269 := n1_; have HB := n2_; clear n0_ n1_ n2_; (try clear hb); (try clear hkp); (try clear ho0)) | ((with_reducible refine gate_builtin (b := .append) (xs := #[.tmp 93, .tmp 94]) rfl ?_); at_builtin; refine Kd.R_append (Kd.int .u8) (w0 := w) w.heap.size rfl (.tmp 93) (.tmp 94) 34 5 (.int .u8 0) 1 rfl Tryd.underlying34 info5 rfl (by decide) (by omega) v268 t267 58 [.int .u8 58] (fun _ => True) (fun _ => False) rfl rfl ?aP (fun _ hk => hk.elim) ?aF ?aO ?aB ?aS ?aL ?_; (case aP => exact rfl); (case aB => exact (by repeat (first | (with_reducible first | exact HB.out | apply below_alloc | apply pw_below_drewN | apply below_drew1 | refine below_set ?_ GE201.out) | exact HB.out))); (case aF => exact (fun _ _ => trivial)); (case aO => exact (by (with_reducible repeat (first | apply Kd.R_alloc | apply Kd.R_drewN | apply Kd.R_drew)); exact HO269.out)); (case aS => exact (below_size (by repeat (first | (with_reducible first | exact HB.out | apply below_alloc | apply pw_below_drewN | apply below_drew1 | refine below_set ?_ GE201.out) | exact HB.out)))); (case aL => have := LMc71.out; omega); intro v271 w77 ho hb hg hat; rw [← Ny270.out] at ho; have n0_ := Aside0.mk (blk_grown (g := gb201) (o := .cells #[.int .i64 a0_0, .int .i64 a0_1, .int .i64 a0_2] 36 (0, 0)) (by (with_reducible repeat (first | refine blk_drewN ?_ _ | refine blk_drew ?_ | refine blk_alloc ?_ _)); exact BK201.out) hg (Kd.R_ne HO269.out BK201.out (by decide))); have n1_ := Aside0.mk (hb); have n2_ := Aside0.mk (ho); clear BK201; clear HB; clear HO269; have BK201 := n0_; have HB := n1_; have HO272 := n2_; clear n0_ n1_ n2_; clear ho hb hg hat; obtain ⟨Ao78, co78, eo78⟩ := Kd.R_slice HO272.out; subst eo78) | ((with_reducible refine gate_callee (f := 34) rfl ?_); refine goesL_ (some 99) rfl rfl Tryd.func34 (by kernel_rfl) rfl #[.slice Ao78 y270.length co78, .int .i64 (Int.tmod (wrap64 (Int.tdiv a0_2 60)) 60), .int .i64 2] rfl (by (try simp only [List.map_toArray, List.map_cons, List.map_nil]); first | done | rfl | (simp only [List.length_drop, List.length_take]; rfl)) ?_; (with_reducible refine (zztime_padded.calls kj14 (fun k_ => some k_ = (.slice Ao78 y270.length co78 : Value).ownBlock) (.slice Ao78 y270.length co78) y270 (Int.tmod (wrap64 (Int.tdiv a0_2 60)) 60) 2 t273 w _ ?side1 ?side2 A72.out).mono ?_); (case side1 => repeat (first | (with_reducible first | exact HB.out | apply below_alloc | apply pw_below_drewN | apply below_drew1 | refine below_set ?_ GE201.out) | exact HB.out)); (case side2 => exact Kd.R_tight rfl HO272.out); rintro e w79 ⟨v274, rfl, ho0, hb, hkp⟩; refine ⟨_, rfl, ?_⟩; have n0_ := Aside0.mk (blk_kept (by (with_reducible repeat (first | refine blk_drewN ?_ _ | refine blk_drew ?_ | refine blk_alloc ?_ _)); exact BK201.out) hkp (fun hs_ => (fun e_ => (Kd.R_ne HO272.out BK201.out (by decide)) e_) hs_)); have n1_ := Aside0.mk (Kd.R_mono (ok' := fun k_ => True) ho0 (fun k_ hk_ => trivial)); have n2_ := Aside0.mk (hb); clear BK201; clear HB; clear HO272; have BK201 := n0_; have HO275 := n1_; have HB := n2_; clear n0_ n1_ n2_; (try clear hb); (try clear hkp); (try clear ho0); have hcv80 := own_string (P := Tryd.prog) Tryd.underlying34 Tryd.underlying5 Tryd.underlying9 (Kd.own_of_R HO275.out)))
                        go_ret
                        exact ⟨by first | rfl | (simp [errW_none, errW_some] <;> rfl) | (simp [*, errW_none, errW_some] <;> rfl), by repeat (first | (with_reducible first | exact HB.out | apply below_alloc | apply pw_below_drewN | apply below_drew1 | refine below_set ?_ GE201.out) | exact HB.out)⟩
                      · rw [if_neg c71] at H
                        exact absurd H (by simp)
                    · rw [if_neg c69] at H
                      exact absurd H (by simp)
          · rw [if_neg c13] at H
            exact absurd H (by simp)
        · rw [if_neg c11] at H
          exact absurd H (by simp)
      · rw [if_neg c9] at H
        exact absurd H (by simp)
    · rw [if_neg c7] at H
      exact absurd H (by simp)
  · rw [if_neg c5] at H
    exact absurd H (by simp)

end Go.Proofs.YtlhjblbmhlelbabDoor.P
