-- Written by the program wip/myprint.py of this session, over the kit's print of the translation. Lean checks it.
import Derived.Test.YtlhjblbmhlelbabDoorPx0
import Derived.Test.YtlhjblbmhlelbabDoorFmt
import Derived.Test.YtlhjblbmhlelbabDoorPx2
import Derived.Test.YtlhjblbmhlelbabDoorPx4
import Derived.Test.YtlhjblbmhlelbabDoorPx5
import Derived.Test.YtlhjblbmhlelbabDoorPx6
namespace Go.Proofs.YtlhjblbmhlelbabDoor.P
open Go.RowKit Go.Proofs.YtlhjblbmhlelbabDoorW.PrintWords Go.Proofs.YtlhjblbmhlelbabDoorW.PrintLast Go.Proofs.YtlhjblbmhlelbabDoorW.PrintMore
attribute [local go_sem] max2_int min2_int max_two min_two max_three min_three max_four min_four   -- for this text's walks alone
set_option linter.unusedVariables false
set_option linter.unusedSimpArgs false

/-! ### impl_StampWritten: function 7 -/
def impl_StampWritten.f (k : Nat) (a0_0 : Int) (a0_1 : Int) (a0_2 : Int) (a0_3 : Int) (a0_4 : Int) (a0_5 : Int) (a0_6 : Int) (a0_7 : Int) : Option (ByteArray × Bool) := (pq_FormatStamp.f k a0_0 a0_1 a0_2 a0_3 a0_4 a0_5 a0_6 a0_7).bind fun bt336 => (some (bt336.1, bt336.2))
theorem impl_StampWritten.mono : ∀ a0 a1 a2 a3 a4 a5 a6 a7 k, LeO (impl_StampWritten.f k a0 a1 a2 a3 a4 a5 a6 a7) (impl_StampWritten.f (k + 1) a0 a1 a2 a3 a4 a5 a6 a7) := by
  intro a0 a1 a2 a3 a4 a5 a6 a7 k
  unfold impl_StampWritten.f
  repeat' first
      | (with_reducible exact pq_FormatStamp.mono _ _ _ _ _ _ _ _ _)
      | (with_reducible exact LeO.refl _)
      | (with_reducible exact LeO.none _)
      | (with_reducible refine LeO.ite ?_ ?_)
      | (with_reducible refine LeO.bind ?_ (fun _ => ?_))
      | exact pq_FormatStamp.mono _ _ _ _ _ _ _ _ _
      | exact LeO.none _
      | refine LeO.ite ?_ ?_
      | refine LeO.bind ?_ (fun _ => ?_)
set_option maxHeartbeats 8000000 in
set_option maxRecDepth 100000 in
theorem impl_StampWritten.calls (k : Nat) (a0_0 : Int) (a0_1 : Int) (a0_2 : Int) (a0_3 : Int) (a0_4 : Int) (a0_5 : Int) (a0_6 : Int) (a0_7 : Int) (r1 : ByteArray) (r2 : Bool) (w : World) (h : impl_StampWritten.f k a0_0 a0_1 a0_2 a0_3 a0_4 a0_5 a0_6 a0_7 = some (r1, r2)) :
    Calls Tryd.prog 7 #[.agg #[.int .i64 a0_0, .int .i64 a0_1, .int .i64 a0_2, .int .i64 a0_3, .int .i64 a0_4, .int .i64 a0_5, .int .i64 a0_6, .int .i64 a0_7]] w fun e w' => e = .returned (.tuple #[.string r1, .bool r2]) ∧ Below w.heap.size w w' := by
  have hu23 := Tryd.underlying23
  have HB := Aside0.mk (Below.refl w.heap.size w)
  have H : ((pq_FormatStamp.f k a0_0 a0_1 a0_2 a0_3 a0_4 a0_5 a0_6 a0_7).bind fun bt336 => (some (bt336.1, bt336.2))) = some (r1, r2) := h
  clear h
  replace H := Option.bind_eq_some_iff.mp H
  obtain ⟨⟨t336, t337⟩, A20, H⟩ := H
  replace H : (some (t336, t337)) = some (r1, r2) := H
  have A2 := Aside0.mk A20
  clear A20
  simp only [Option.some.injEq, Prod.mk.injEq] at H
  obtain ⟨rfl, rfl⟩ := H
  go_enter Tryd.func7, Tryd.ntmps7
  go_wp2_with (first | ((with_reducible refine gate_dst (N := 1) rfl ?_); refine box_event ?hg (N := 1) ?hd (cs := #[.int .i64 a0_0, .int .i64 a0_1, .int .i64 a0_2, .int .i64 a0_3, .int .i64 a0_4, .int .i64 a0_5, .int .i64 a0_6, .int .i64 a0_7]) (t := 23) ?hr ?_; (case hd => rfl); (case hg => rfl); (case hr => first | (go_simp; done) | (go_simp; rfl) | (go_simp; simp [IntKind.wrap_u8]; done)); intro gb335 hg w3 hbox hb; have n0_ := Aside0.mk (below_step (by repeat (first | (with_reducible first | exact HB.out | apply below_alloc | apply pw_below_drewN | apply below_drew1) | exact HB.out)) hb); have n1_ := Aside0.mk (hbox); have n2_ := Aside0.mk ((by rw [hg]; exact (below_size (by repeat (first | (with_reducible first | exact HB.out | apply below_alloc | apply pw_below_drewN | apply below_drew1) | exact HB.out))) : w.heap.size ≤ gb335)); have n3_ := Aside0.mk ((by rw [hg]; exact (below_size (by repeat (first | (with_reducible first | exact HB.out | apply below_alloc | apply pw_below_drewN | apply below_drew1) | exact HB.out))) : w.heap.size ≤ gb335)); clear HB; have HB := n0_; have BK335 := n1_; have GW335 := n2_; have GE335 := n3_; clear n0_ n1_ n2_ n3_; clear hb hbox hg; have hcz4_0 : w3.cell? ⟨gb335, 0, none⟩ = some (.int .i64 a0_0) := (blk_cell BK335.out 0).trans rfl; have hcz4_1 : w3.cell? ⟨gb335, 1, none⟩ = some (.int .i64 a0_1) := (blk_cell BK335.out 1).trans rfl; have hcz4_2 : w3.cell? ⟨gb335, 2, none⟩ = some (.int .i64 a0_2) := (blk_cell BK335.out 2).trans rfl; have hcz4_3 : w3.cell? ⟨gb335, 3, none⟩ = some (.int .i64 a0_3) := (blk_cell BK335.out 3).trans rfl; have hcz4_4 : w3.cell? ⟨gb335, 4, none⟩ = some (.int .i64 a0_4) := (blk_cell BK335.out 4).trans rfl; have hcz4_5 : w3.cell? ⟨gb335, 5, none⟩ = some (.int .i64 a0_5) := (blk_cell BK335.out 5).trans rfl; have hcz4_6 : w3.cell? ⟨gb335, 6, none⟩ = some (.int .i64 a0_6) := (blk_cell BK335.out 6).trans rfl; have hcz4_7 : w3.cell? ⟨gb335, 7, none⟩ = some (.int .i64 a0_7) := (blk_cell BK335.out 7).trans rfl; have hfz4_0 := blk_frozen BK335.out 0; have hfz4_1 := blk_frozen BK335.out 1; have hfz4_2 := blk_frozen BK335.out 2; have hfz4_3 := blk_frozen BK335.out 3; have hfz4_4 := blk_frozen BK335.out 4; have hfz4_5 := blk_frozen BK335.out 5; have hfz4_6 := blk_frozen BK335.out 6; have hfz4_7 := blk_frozen BK335.out 7) | ((with_reducible refine gate_callee (f := 11) rfl ?_); refine goesL_ (some 5) rfl rfl Tryd.func11 (by kernel_rfl) rfl #[.agg #[.int .i64 a0_0, .int .i64 a0_1, .int .i64 a0_2, .int .i64 a0_3, .int .i64 a0_4, .int .i64 a0_5, .int .i64 a0_6, .int .i64 a0_7]] rfl (by (try simp only [List.map_toArray, List.map_cons, List.map_nil]); first | done | rfl | (simp only [List.length_drop, List.length_take]; rfl)) ?_; (with_reducible refine (pq_FormatStamp.calls k a0_0 a0_1 a0_2 a0_3 a0_4 a0_5 a0_6 a0_7 t336 t337 _ A2.out).mono ?_); rintro e w5 ⟨rfl, hb⟩; refine ⟨_, rfl, ?_⟩; have n0_ := Aside0.mk (blk_below (g := gb335) (o := .cells #[.int .i64 a0_0, .int .i64 a0_1, .int .i64 a0_2, .int .i64 a0_3, .int .i64 a0_4, .int .i64 a0_5, .int .i64 a0_6, .int .i64 a0_7] 23 (0, 0)) (by (with_reducible repeat (first | refine blk_drewN ?_ _ | refine blk_drew ?_ | refine blk_alloc ?_ _)); exact BK335.out) hb); have n1_ := Aside0.mk (below_step (by repeat (first | (with_reducible first | exact HB.out | apply below_alloc | apply pw_below_drewN | apply below_drew1 | refine below_set ?_ GE335.out) | exact HB.out)) hb); clear BK335; clear HB; have BK335 := n0_; have HB := n1_; clear n0_ n1_; (try clear hb); (try clear hb2); (try clear hk); (try clear hi)))
  go_ret2
  exact ⟨by first | rfl | (simp [errW_none, errW_some] <;> rfl) | (simp [*, errW_none, errW_some] <;> rfl), by repeat (first | (with_reducible first | exact HB.out | apply below_alloc | apply pw_below_drewN | apply below_drew1 | refine below_set ?_ GE335.out) | exact HB.out)⟩

/-! ### spec_TimeText: function 8 -/
def spec_TimeText.l0 : Nat → Int → ByteArray → ByteArray → Int → Option (ByteArray)
  | 0, _, _, _, _ => none
  | k + 1, x1, x5, x6, x7 => if x7 > x1 then (if 0 ≤ (wrap64 (x7 - 1)) then (if (wrap64 (x7 - 1)) < (x6.size : Int) then (if (bt x6 (wrap64 (x7 - 1))) = 48 then (spec_TimeText.l0 k x1 x5 x6 (wrap64 (x7 - 1))) else (if x7 > 0 then (if 0 ≤ x7 then (if x7 ≤ (x6.size : Int) then (if 1 + (x6.extract 0 (x7 : Int).toNat).size ≤ 9223372036854775807 then (if x5.size + ((⟨#[46]⟩ : ByteArray) ++ (x6.extract 0 (x7 : Int).toNat)).size ≤ 9223372036854775807 then (some (x5 ++ ((⟨#[46]⟩ : ByteArray) ++ (x6.extract 0 (x7 : Int).toNat)))) else (none)) else (none)) else (none)) else (none)) else (some x5))) else (none)) else (none)) else (if x7 > 0 then (if 0 ≤ x7 then (if x7 ≤ (x6.size : Int) then (if 1 + (x6.extract 0 (x7 : Int).toNat).size ≤ 9223372036854775807 then (if x5.size + ((⟨#[46]⟩ : ByteArray) ++ (x6.extract 0 (x7 : Int).toNat)).size ≤ 9223372036854775807 then (some (x5 ++ ((⟨#[46]⟩ : ByteArray) ++ (x6.extract 0 (x7 : Int).toNat)))) else (none)) else (none)) else (none)) else (none)) else (some x5))
def spec_TimeText.f (k : Nat) (a0_0 : Int) (a0_1 : Int) (a0_2 : Int) (a0_3 : Int) (a0_4 : Int) (a0_5 : Int) (a0_6 : Int) (a0_7 : Int) (a1 : Int) : Option (ByteArray) := (spec_padded.f k a0_3 2).bind fun t339 => (if t339.size + 1 ≤ 9223372036854775807 then ((spec_padded.f k a0_4 2).bind fun t340 => (if (t339 ++ (⟨#[58]⟩ : ByteArray)).size + t340.size ≤ 9223372036854775807 then (if ((t339 ++ (⟨#[58]⟩ : ByteArray)) ++ t340).size + 1 ≤ 9223372036854775807 then ((spec_padded.f k a0_5 2).bind fun t341 => (if (((t339 ++ (⟨#[58]⟩ : ByteArray)) ++ t340) ++ (⟨#[58]⟩ : ByteArray)).size + t341.size ≤ 9223372036854775807 then ((spec_padded.f k a0_6 9).bind fun t342 => (spec_TimeText.l0 k a1 ((((t339 ++ (⟨#[58]⟩ : ByteArray)) ++ t340) ++ (⟨#[58]⟩ : ByteArray)) ++ t341) t342 9)) else (none))) else (none)) else (none))) else (none))
theorem spec_TimeText.mono_l : ∀ k, (∀ y0 y1 y2 y3, LeO (spec_TimeText.l0 k y0 y1 y2 y3) (spec_TimeText.l0 (k + 1) y0 y1 y2 y3))
  | 0 => fun _ _ _ _ r h => by simp [spec_TimeText.l0] at h
  | k + 1 => by
    have ih0 := spec_TimeText.mono_l k
    · intro y0 y1 y2 y3
      unfold spec_TimeText.l0
      repeat' first
      | (with_reducible exact ih0 _ _ _ _)
      | (with_reducible exact spec_padded.mono _ _ _)
      | (with_reducible exact LeO.refl _)
      | (with_reducible exact LeO.none _)
      | (with_reducible refine LeO.ite ?_ ?_)
      | (with_reducible refine LeO.bind ?_ (fun _ => ?_))
      | exact ih0 _ _ _ _
      | exact spec_padded.mono _ _ _
      | exact LeO.none _
      | refine LeO.ite ?_ ?_
      | refine LeO.bind ?_ (fun _ => ?_)
theorem spec_TimeText.mono : ∀ a0 a1 a2 a3 a4 a5 a6 a7 a8 k, LeO (spec_TimeText.f k a0 a1 a2 a3 a4 a5 a6 a7 a8) (spec_TimeText.f (k + 1) a0 a1 a2 a3 a4 a5 a6 a7 a8) := by
  intro a0 a1 a2 a3 a4 a5 a6 a7 a8 k
  have ih0 := spec_TimeText.mono_l k
  unfold spec_TimeText.f
  repeat' first
      | (with_reducible exact ih0 _ _ _ _)
      | (with_reducible exact spec_padded.mono _ _ _)
      | (with_reducible exact LeO.refl _)
      | (with_reducible exact LeO.none _)
      | (with_reducible refine LeO.ite ?_ ?_)
      | (with_reducible refine LeO.bind ?_ (fun _ => ?_))
      | exact ih0 _ _ _ _
      | exact spec_padded.mono _ _ _
      | exact LeO.none _
      | refine LeO.ite ?_ ?_
      | refine LeO.bind ?_ (fun _ => ?_)
def spec_TimeText.T1 : Bool × List (List Nat × List Nat) := (true, [([], []), ([0], [0]), ([1], [1]), ([2], [2]), ([], []), ([4], [4]), ([5, 2], [5]), ([3, 6], [3, 6]), ([7], [7]), ([], []), ([9], [9]), ([10, 6], [10]), ([8, 11], [8, 11]), ([12, 11, 0, 1, 2, 3, 4, 5, 6, 7, 8, 9, 10, 11, 12], [12])])
def spec_TimeText.B1 : List Nat := [0, 1, 3, 7, 0, 16, 55, 127, 255, 0, 512, 1655, 4095, 8191]
theorem spec_TimeText.tab1 : rtab .any (opsOf Tryd.f8 1) = spec_TimeText.T1 := by kernel_rfl
theorem spec_TimeText.bits1 : waitsOk spec_TimeText.T1.2 spec_TimeText.B1 = true := by kernel_rfl
set_option maxHeartbeats 8000000 in
set_option maxRecDepth 100000 in
theorem spec_TimeText.calls (k : Nat) (a0_0 : Int) (a0_1 : Int) (a0_2 : Int) (a0_3 : Int) (a0_4 : Int) (a0_5 : Int) (a0_6 : Int) (a0_7 : Int) (a1 : Int) (r : ByteArray) (w : World) (h : spec_TimeText.f k a0_0 a0_1 a0_2 a0_3 a0_4 a0_5 a0_6 a0_7 a1 = some r) :
    Calls Tryd.prog 8 #[.agg #[.int .i64 a0_0, .int .i64 a0_1, .int .i64 a0_2, .int .i64 a0_3, .int .i64 a0_4, .int .i64 a0_5, .int .i64 a0_6, .int .i64 a0_7], .int .i64 a1] w fun e w' => e = .returned (.string r) ∧ Below w.heap.size w w' := by
  have hu23 := Tryd.underlying23
  have HB := Aside0.mk (Below.refl w.heap.size w)
  have H : ((spec_padded.f k a0_3 2).bind fun t339 => (if t339.size + 1 ≤ 9223372036854775807 then ((spec_padded.f k a0_4 2).bind fun t340 => (if (t339 ++ (⟨#[58]⟩ : ByteArray)).size + t340.size ≤ 9223372036854775807 then (if ((t339 ++ (⟨#[58]⟩ : ByteArray)) ++ t340).size + 1 ≤ 9223372036854775807 then ((spec_padded.f k a0_5 2).bind fun t341 => (if (((t339 ++ (⟨#[58]⟩ : ByteArray)) ++ t340) ++ (⟨#[58]⟩ : ByteArray)).size + t341.size ≤ 9223372036854775807 then ((spec_padded.f k a0_6 9).bind fun t342 => (spec_TimeText.l0 k a1 ((((t339 ++ (⟨#[58]⟩ : ByteArray)) ++ t340) ++ (⟨#[58]⟩ : ByteArray)) ++ t341) t342 9)) else (none))) else (none)) else (none))) else (none))) = some r := h
  clear h
  replace H := Option.bind_eq_some_iff.mp H
  obtain ⟨t339, A30, H⟩ := H
  replace H : (if t339.size + 1 ≤ 9223372036854775807 then ((spec_padded.f k a0_4 2).bind fun t340 => (if (t339 ++ (⟨#[58]⟩ : ByteArray)).size + t340.size ≤ 9223372036854775807 then (if ((t339 ++ (⟨#[58]⟩ : ByteArray)) ++ t340).size + 1 ≤ 9223372036854775807 then ((spec_padded.f k a0_5 2).bind fun t341 => (if (((t339 ++ (⟨#[58]⟩ : ByteArray)) ++ t340) ++ (⟨#[58]⟩ : ByteArray)).size + t341.size ≤ 9223372036854775807 then ((spec_padded.f k a0_6 9).bind fun t342 => (spec_TimeText.l0 k a1 ((((t339 ++ (⟨#[58]⟩ : ByteArray)) ++ t340) ++ (⟨#[58]⟩ : ByteArray)) ++ t341) t342 9)) else (none))) else (none)) else (none))) else (none)) = some r := H
  have A3 := Aside0.mk A30
  clear A30
  by_cases c4 : t339.size + 1 ≤ 9223372036854775807
  · rw [if_pos c4] at H
    have c4b0 := eq_true c4
    have c4b1 : decide (t339.size + 1 ≤ 9223372036854775807) = true := decide_eq_true c4
    try have c4b2 : (9223372036854775807 < t339.size + 1) = False := eq_false (Nat.not_lt.2 c4)
    replace H := Option.bind_eq_some_iff.mp H
    obtain ⟨t340, A50, H⟩ := H
    replace H : (if (t339 ++ (⟨#[58]⟩ : ByteArray)).size + t340.size ≤ 9223372036854775807 then (if ((t339 ++ (⟨#[58]⟩ : ByteArray)) ++ t340).size + 1 ≤ 9223372036854775807 then ((spec_padded.f k a0_5 2).bind fun t341 => (if (((t339 ++ (⟨#[58]⟩ : ByteArray)) ++ t340) ++ (⟨#[58]⟩ : ByteArray)).size + t341.size ≤ 9223372036854775807 then ((spec_padded.f k a0_6 9).bind fun t342 => (spec_TimeText.l0 k a1 ((((t339 ++ (⟨#[58]⟩ : ByteArray)) ++ t340) ++ (⟨#[58]⟩ : ByteArray)) ++ t341) t342 9)) else (none))) else (none)) else (none)) = some r := H
    have A5 := Aside0.mk A50
    clear A50
    by_cases c6 : (t339 ++ (⟨#[58]⟩ : ByteArray)).size + t340.size ≤ 9223372036854775807
    · rw [if_pos c6] at H
      have c6b0 := eq_true c6
      have c6b1 : decide ((t339 ++ (⟨#[58]⟩ : ByteArray)).size + t340.size ≤ 9223372036854775807) = true := decide_eq_true c6
      try have c6b2 : (9223372036854775807 < (t339 ++ (⟨#[58]⟩ : ByteArray)).size + t340.size) = False := eq_false (Nat.not_lt.2 c6)
      try have c6b3 : (9223372036854775807 < t339.size + 1 + t340.size) = False := eq_false (by have h_ := c6; simp only [ByteArray.size_append, show (⟨#[58]⟩ : ByteArray).size = 1 from rfl] at h_; omega)
      by_cases c7 : ((t339 ++ (⟨#[58]⟩ : ByteArray)) ++ t340).size + 1 ≤ 9223372036854775807
      · rw [if_pos c7] at H
        have c7b0 := eq_true c7
        have c7b1 : decide (((t339 ++ (⟨#[58]⟩ : ByteArray)) ++ t340).size + 1 ≤ 9223372036854775807) = true := decide_eq_true c7
        try have c7b2 : (9223372036854775807 < ((t339 ++ (⟨#[58]⟩ : ByteArray)) ++ t340).size + 1) = False := eq_false (Nat.not_lt.2 c7)
        try have c7b3 : (9223372036854775807 < t339.size + 1 + t340.size + 1) = False := eq_false (by have h_ := c7; simp only [ByteArray.size_append, show (⟨#[58]⟩ : ByteArray).size = 1 from rfl] at h_; omega)
        replace H := Option.bind_eq_some_iff.mp H
        obtain ⟨t341, A80, H⟩ := H
        replace H : (if (((t339 ++ (⟨#[58]⟩ : ByteArray)) ++ t340) ++ (⟨#[58]⟩ : ByteArray)).size + t341.size ≤ 9223372036854775807 then ((spec_padded.f k a0_6 9).bind fun t342 => (spec_TimeText.l0 k a1 ((((t339 ++ (⟨#[58]⟩ : ByteArray)) ++ t340) ++ (⟨#[58]⟩ : ByteArray)) ++ t341) t342 9)) else (none)) = some r := H
        have A8 := Aside0.mk A80
        clear A80
        by_cases c9 : (((t339 ++ (⟨#[58]⟩ : ByteArray)) ++ t340) ++ (⟨#[58]⟩ : ByteArray)).size + t341.size ≤ 9223372036854775807
        · rw [if_pos c9] at H
          have c9b0 := eq_true c9
          have c9b1 : decide ((((t339 ++ (⟨#[58]⟩ : ByteArray)) ++ t340) ++ (⟨#[58]⟩ : ByteArray)).size + t341.size ≤ 9223372036854775807) = true := decide_eq_true c9
          try have c9b2 : (9223372036854775807 < (((t339 ++ (⟨#[58]⟩ : ByteArray)) ++ t340) ++ (⟨#[58]⟩ : ByteArray)).size + t341.size) = False := eq_false (Nat.not_lt.2 c9)
          try have c9b3 : (9223372036854775807 < t339.size + 1 + t340.size + 1 + t341.size) = False := eq_false (by have h_ := c9; simp only [ByteArray.size_append, show (⟨#[58]⟩ : ByteArray).size = 1 from rfl] at h_; omega)
          replace H := Option.bind_eq_some_iff.mp H
          obtain ⟨t342, A100, H⟩ := H
          replace H : (spec_TimeText.l0 k a1 ((((t339 ++ (⟨#[58]⟩ : ByteArray)) ++ t340) ++ (⟨#[58]⟩ : ByteArray)) ++ t341) t342 9) = some r := H
          have A10 := Aside0.mk A100
          clear A100
          have H' := Aside0.mk H
          clear H
          go_enter Tryd.func8, Tryd.ntmps8
          try go_wp2_with (first | ((with_reducible refine gate_dst (N := 2) rfl ?_); refine box_event ?hg (N := 2) ?hd (cs := #[.int .i64 a0_0, .int .i64 a0_1, .int .i64 a0_2, .int .i64 a0_3, .int .i64 a0_4, .int .i64 a0_5, .int .i64 a0_6, .int .i64 a0_7]) (t := 23) ?hr ?_; (case hd => rfl); (case hg => rfl); (case hr => first | (go_simp; done) | (go_simp; rfl) | (go_simp; simp [IntKind.wrap_u8]; done)); intro gb338 hg w11 hbox hb; have n0_ := Aside0.mk (below_step (by repeat (first | (with_reducible first | exact HB.out | apply below_alloc | apply pw_below_drewN | apply below_drew1) | exact HB.out)) hb); have n1_ := Aside0.mk (hbox); have n2_ := Aside0.mk ((by rw [hg]; exact (below_size (by repeat (first | (with_reducible first | exact HB.out | apply below_alloc | apply pw_below_drewN | apply below_drew1) | exact HB.out))) : w.heap.size ≤ gb338)); have n3_ := Aside0.mk ((by rw [hg]; exact (below_size (by repeat (first | (with_reducible first | exact HB.out | apply below_alloc | apply pw_below_drewN | apply below_drew1) | exact HB.out))) : w.heap.size ≤ gb338)); clear HB; have HB := n0_; have BK338 := n1_; have GW338 := n2_; have GE338 := n3_; clear n0_ n1_ n2_ n3_; clear hb hbox hg))
          have n0_ := Aside0.mk (blk_drew BK338.out)
          have n1_ := Aside0.mk (below_drew1 HB.out)
          clear BK338
          clear HB
          have BK338 := n0_
          have HB := n1_
          clear n0_ n1_
          refine start_ (n := 14) (S := fun w' => w'.cell? ⟨gb338, 0, none⟩ = some (.int .i64 a0_0) ∧ w'.cell? ⟨gb338, 1, none⟩ = some (.int .i64 a0_1) ∧ w'.cell? ⟨gb338, 2, none⟩ = some (.int .i64 a0_2) ∧ w'.cell? ⟨gb338, 3, none⟩ = some (.int .i64 a0_3) ∧ w'.cell? ⟨gb338, 4, none⟩ = some (.int .i64 a0_4) ∧ w'.cell? ⟨gb338, 5, none⟩ = some (.int .i64 a0_5) ∧ w'.cell? ⟨gb338, 6, none⟩ = some (.int .i64 a0_6) ∧ w'.cell? ⟨gb338, 7, none⟩ = some (.int .i64 a0_7)) (ds := []) #[false, false, false, false, false, false, false, false, false, false, false, false, false, false] (by kernel_rfl) rfl rfl ⟨(blk_cell BK338.out 0).trans rfl, (blk_cell BK338.out 1).trans rfl, (blk_cell BK338.out 2).trans rfl, (blk_cell BK338.out 3).trans rfl, (blk_cell BK338.out 4).trans rfl, (blk_cell BK338.out 5).trans rfl, (blk_cell BK338.out 6).trans rfl, (blk_cell BK338.out 7).trans rfl⟩ (fun hHeld => ?_); refine with_tabW spec_TimeText.tab1 spec_TimeText.bits1 (fun HT_ HW_ => ?_)
          generalize w11.drew = w12 at BK338 HB hHeld ⊢
          refine pure_ (i := 0) (N := some 8) (v := ?_) (a' := ?_) #[true, false, false, false, false, false, false, false, false, false, false, false, false, false] rfl rfl (any_of HT_.out (by kernel_rfl)) (fun _ _ _ h => h) (Or.inl ⟨by rfl, ?_⟩) ?_ ?_
          rotate_left
          · intro w'
            go_simp
            with_reducible rfl
          rotate_left
          · simp only [Act.put, List.setIfInBounds_toArray, List.set_cons_zero, List.set_cons_succ, i64_w, i32_w]
            rfl
          refine pure_ (i := 4) (N := some 12) (v := ?_) (a' := ?_) #[true, false, false, false, true, false, false, false, false, false, false, false, false, false] rfl rfl (any_of HT_.out (by kernel_rfl)) (fun _ _ _ h => h) (Or.inl ⟨by rfl, ?_⟩) ?_ ?_
          rotate_left
          · intro w'
            go_simp
            with_reducible rfl
          rotate_left
          · simp only [Act.put, List.setIfInBounds_toArray, List.set_cons_zero, List.set_cons_succ, i64_w, i32_w]
            rfl
          refine pure_ (i := 9) (N := some 17) (v := ?_) (a' := ?_) #[true, false, false, false, true, false, false, false, false, true, false, false, false, false] rfl rfl (any_of HT_.out (by kernel_rfl)) (fun _ _ _ h => h) (Or.inl ⟨by rfl, ?_⟩) ?_ ?_
          rotate_left
          · intro w'
            go_simp
            with_reducible rfl
          rotate_left
          · simp only [Act.put, List.setIfInBounds_toArray, List.set_cons_zero, List.set_cons_succ, i64_w, i32_w]
            rfl
          refine take_ (i := 1) (N := some 9) (v := ?_) (a' := ?_) #[true, true, false, false, true, false, false, false, false, true, false, false, false, false] rfl rfl (take_ofW HT_.out HW_.out (by kernel_rfl)) (fun _ _ _ h => h) (Or.inl ⟨by rfl, ?_⟩) hHeld ?_ ?_
          rotate_left
          · rintro w' ⟨s0, s1, s2, s3, s4, s5, s6, s7⟩
            go_simp
            with_reducible rfl
          rotate_left
          · simp only [Act.put, List.setIfInBounds_toArray, List.set_cons_zero, List.set_cons_succ, i64_w, i32_w]
            rfl
          refine take_ (i := 5) (N := some 13) (v := ?_) (a' := ?_) #[true, true, false, false, true, true, false, false, false, true, false, false, false, false] rfl rfl (take_ofW HT_.out HW_.out (by kernel_rfl)) (fun _ _ _ h => h) (Or.inl ⟨by rfl, ?_⟩) hHeld ?_ ?_
          rotate_left
          · rintro w' ⟨s0, s1, s2, s3, s4, s5, s6, s7⟩
            go_simp
            with_reducible rfl
          rotate_left
          · simp only [Act.put, List.setIfInBounds_toArray, List.set_cons_zero, List.set_cons_succ, i64_w, i32_w]
            rfl
          refine take_ (i := 10) (N := some 18) (v := ?_) (a' := ?_) #[true, true, false, false, true, true, false, false, false, true, true, false, false, false] rfl rfl (take_ofW HT_.out HW_.out (by kernel_rfl)) (fun _ _ _ h => h) (Or.inl ⟨by rfl, ?_⟩) hHeld ?_ ?_
          rotate_left
          · rintro w' ⟨s0, s1, s2, s3, s4, s5, s6, s7⟩
            go_simp
            with_reducible rfl
          rotate_left
          · simp only [Act.put, List.setIfInBounds_toArray, List.set_cons_zero, List.set_cons_succ, i64_w, i32_w]
            rfl
          refine one_ (i := 2) (N := some 10) #[true, true, true, false, true, true, false, false, false, true, true, false, false, false] rfl rfl (one_of HT_.out (by kernel_rfl)) (by decide) (fun K hK => ?_)
          refine goes_ Tryd.func10 (by kernel_rfl) rfl #[.int .i64 a0_3, .int .i64 2] (by rfl) rfl rfl (by (try simp only [List.map_toArray, List.map_cons, List.map_nil]); first | done | rfl | (simp only [List.length_drop, List.length_take]; rfl)) ?_
          with_reducible refine (spec_padded.calls k a0_3 2 t339 _ A3.out).mono ?_
          rintro e w13 ⟨rfl, hb⟩
          refine ⟨_, rfl, ?_⟩
          have n0_ := Aside0.mk (blk_below (g := gb338) (o := .cells #[.int .i64 a0_0, .int .i64 a0_1, .int .i64 a0_2, .int .i64 a0_3, .int .i64 a0_4, .int .i64 a0_5, .int .i64 a0_6, .int .i64 a0_7] 23 (0, 0)) (by (with_reducible repeat (first | refine blk_drewN ?_ _ | refine blk_drew ?_ | refine blk_alloc ?_ _)); exact BK338.out) hb)
          have n1_ := Aside0.mk (below_step (by repeat (first | (with_reducible first | exact HB.out | apply below_alloc | apply pw_below_drewN | apply below_drew1 | refine below_set ?_ GE338.out) | exact HB.out)) hb)
          clear BK338
          clear HB
          have BK338 := n0_
          have HB := n1_
          clear n0_ n1_
          (try clear hb)
          (try clear hb2)
          (try clear hk)
          (try clear hi)
          refine hK.out _ _ ⟨(blk_cell BK338.out 0).trans rfl, (blk_cell BK338.out 1).trans rfl, (blk_cell BK338.out 2).trans rfl, (blk_cell BK338.out 3).trans rfl, (blk_cell BK338.out 4).trans rfl, (blk_cell BK338.out 5).trans rfl, (blk_cell BK338.out 6).trans rfl, (blk_cell BK338.out 7).trans rfl⟩ (fun hHeld => ?_)
          clear hK K
          refine norm_ (a' := ?_) ?_ ?_
          rotate_left
          · show Act.put _ (some 10) _ = _
            simp only [Act.put, List.setIfInBounds_toArray, List.set_cons_zero, List.set_cons_succ, i64_w, i32_w]
            rfl
          refine pure_ (i := 3) (N := some 11) (v := ?_) (a' := ?_) #[true, true, true, true, true, true, false, false, false, true, true, false, false, false] rfl rfl (any_of HT_.out (by kernel_rfl)) (fun _ _ _ h => h) (Or.inl ⟨by rfl, ?_⟩) ?_ ?_
          rotate_left
          · intro w'
            go_simp
            with_reducible rfl
          rotate_left
          · simp only [Act.put, List.setIfInBounds_toArray, List.set_cons_zero, List.set_cons_succ, i64_w, i32_w]
            rfl
          refine one_ (i := 6) (N := some 14) #[true, true, true, true, true, true, true, false, false, true, true, false, false, false] rfl rfl (one_of HT_.out (by kernel_rfl)) (by decide) (fun K hK => ?_)
          refine goes_ Tryd.func10 (by kernel_rfl) rfl #[.int .i64 a0_4, .int .i64 2] (by rfl) rfl rfl (by (try simp only [List.map_toArray, List.map_cons, List.map_nil]); first | done | rfl | (simp only [List.length_drop, List.length_take]; rfl)) ?_
          with_reducible refine (spec_padded.calls k a0_4 2 t340 _ A5.out).mono ?_
          rintro e w14 ⟨rfl, hb⟩
          refine ⟨_, rfl, ?_⟩
          have n0_ := Aside0.mk (blk_below (g := gb338) (o := .cells #[.int .i64 a0_0, .int .i64 a0_1, .int .i64 a0_2, .int .i64 a0_3, .int .i64 a0_4, .int .i64 a0_5, .int .i64 a0_6, .int .i64 a0_7] 23 (0, 0)) (by (with_reducible repeat (first | refine blk_drewN ?_ _ | refine blk_drew ?_ | refine blk_alloc ?_ _)); exact BK338.out) hb)
          have n1_ := Aside0.mk (below_step (by repeat (first | (with_reducible first | exact HB.out | apply below_alloc | apply pw_below_drewN | apply below_drew1 | refine below_set ?_ GE338.out) | exact HB.out)) hb)
          clear BK338
          clear HB
          have BK338 := n0_
          have HB := n1_
          clear n0_ n1_
          (try clear hb)
          (try clear hb2)
          (try clear hk)
          (try clear hi)
          refine hK.out _ _ ⟨(blk_cell BK338.out 0).trans rfl, (blk_cell BK338.out 1).trans rfl, (blk_cell BK338.out 2).trans rfl, (blk_cell BK338.out 3).trans rfl, (blk_cell BK338.out 4).trans rfl, (blk_cell BK338.out 5).trans rfl, (blk_cell BK338.out 6).trans rfl, (blk_cell BK338.out 7).trans rfl⟩ (fun hHeld => ?_)
          clear hK K
          refine norm_ (a' := ?_) ?_ ?_
          rotate_left
          · show Act.put _ (some 14) _ = _
            simp only [Act.put, List.setIfInBounds_toArray, List.set_cons_zero, List.set_cons_succ, i64_w, i32_w]
            rfl
          refine pure_ (i := 7) (N := some 15) (v := ?_) (a' := ?_) #[true, true, true, true, true, true, true, true, false, true, true, false, false, false] rfl rfl (any_of HT_.out (by kernel_rfl)) (fun _ _ _ h => h) (Or.inl ⟨by rfl, ?_⟩) ?_ ?_
          rotate_left
          · intro w'
            go_simp
            with_reducible rfl
          rotate_left
          · simp only [Act.put, List.setIfInBounds_toArray, List.set_cons_zero, List.set_cons_succ, i64_w, i32_w]
            rfl
          refine pure_ (i := 8) (N := some 16) (v := ?_) (a' := ?_) #[true, true, true, true, true, true, true, true, true, true, true, false, false, false] rfl rfl (any_of HT_.out (by kernel_rfl)) (fun _ _ _ h => h) (Or.inl ⟨by rfl, ?_⟩) ?_ ?_
          rotate_left
          · intro w'
            go_simp
            with_reducible rfl
          rotate_left
          · simp only [Act.put, List.setIfInBounds_toArray, List.set_cons_zero, List.set_cons_succ, i64_w, i32_w]
            rfl
          refine one_ (i := 11) (N := some 19) #[true, true, true, true, true, true, true, true, true, true, true, true, false, false] rfl rfl (one_of HT_.out (by kernel_rfl)) (by decide) (fun K hK => ?_)
          refine goes_ Tryd.func10 (by kernel_rfl) rfl #[.int .i64 a0_5, .int .i64 2] (by rfl) rfl rfl (by (try simp only [List.map_toArray, List.map_cons, List.map_nil]); first | done | rfl | (simp only [List.length_drop, List.length_take]; rfl)) ?_
          with_reducible refine (spec_padded.calls k a0_5 2 t341 _ A8.out).mono ?_
          rintro e w15 ⟨rfl, hb⟩
          refine ⟨_, rfl, ?_⟩
          have n0_ := Aside0.mk (blk_below (g := gb338) (o := .cells #[.int .i64 a0_0, .int .i64 a0_1, .int .i64 a0_2, .int .i64 a0_3, .int .i64 a0_4, .int .i64 a0_5, .int .i64 a0_6, .int .i64 a0_7] 23 (0, 0)) (by (with_reducible repeat (first | refine blk_drewN ?_ _ | refine blk_drew ?_ | refine blk_alloc ?_ _)); exact BK338.out) hb)
          have n1_ := Aside0.mk (below_step (by repeat (first | (with_reducible first | exact HB.out | apply below_alloc | apply pw_below_drewN | apply below_drew1 | refine below_set ?_ GE338.out) | exact HB.out)) hb)
          clear BK338
          clear HB
          have BK338 := n0_
          have HB := n1_
          clear n0_ n1_
          (try clear hb)
          (try clear hb2)
          (try clear hk)
          (try clear hi)
          refine hK.out _ _ ⟨(blk_cell BK338.out 0).trans rfl, (blk_cell BK338.out 1).trans rfl, (blk_cell BK338.out 2).trans rfl, (blk_cell BK338.out 3).trans rfl, (blk_cell BK338.out 4).trans rfl, (blk_cell BK338.out 5).trans rfl, (blk_cell BK338.out 6).trans rfl, (blk_cell BK338.out 7).trans rfl⟩ (fun hHeld => ?_)
          clear hK K
          refine norm_ (a' := ?_) ?_ ?_
          rotate_left
          · show Act.put _ (some 19) _ = _
            simp only [Act.put, List.setIfInBounds_toArray, List.set_cons_zero, List.set_cons_succ, i64_w, i32_w]
            rfl
          refine pure_ (i := 12) (N := some 20) (v := ?_) (a' := ?_) #[true, true, true, true, true, true, true, true, true, true, true, true, true, false] rfl rfl (any_of HT_.out (by kernel_rfl)) (fun _ _ _ h => h) (Or.inl ⟨by rfl, ?_⟩) ?_ ?_
          rotate_left
          · intro w'
            go_simp
            with_reducible rfl
          rotate_left
          · simp only [Act.put, List.setIfInBounds_toArray, List.set_cons_zero, List.set_cons_succ, i64_w, i32_w]
            rfl
          refine pure_ (i := 13) (N := some 5) (v := ?_) (a' := ?_) #[true, true, true, true, true, true, true, true, true, true, true, true, true, true] rfl rfl (any_of HT_.out (by kernel_rfl)) (fun _ _ _ h => h) (Or.inl ⟨by rfl, ?_⟩) ?_ ?_
          rotate_left
          · intro w'
            go_simp
            with_reducible rfl
          rotate_left
          · simp only [Act.put, List.setIfInBounds_toArray, List.set_cons_zero, List.set_cons_succ, i64_w, i32_w]
            rfl
          refine done_ (done_of HT_.out (by kernel_rfl)) ?_
          have hcz16_0 : w15.cell? ⟨gb338, 0, none⟩ = some (.int .i64 a0_0) := (blk_cell BK338.out 0).trans rfl
          have hcz16_1 : w15.cell? ⟨gb338, 1, none⟩ = some (.int .i64 a0_1) := (blk_cell BK338.out 1).trans rfl
          have hcz16_2 : w15.cell? ⟨gb338, 2, none⟩ = some (.int .i64 a0_2) := (blk_cell BK338.out 2).trans rfl
          have hcz16_3 : w15.cell? ⟨gb338, 3, none⟩ = some (.int .i64 a0_3) := (blk_cell BK338.out 3).trans rfl
          have hcz16_4 : w15.cell? ⟨gb338, 4, none⟩ = some (.int .i64 a0_4) := (blk_cell BK338.out 4).trans rfl
          have hcz16_5 : w15.cell? ⟨gb338, 5, none⟩ = some (.int .i64 a0_5) := (blk_cell BK338.out 5).trans rfl
          have hcz16_6 : w15.cell? ⟨gb338, 6, none⟩ = some (.int .i64 a0_6) := (blk_cell BK338.out 6).trans rfl
          have hcz16_7 : w15.cell? ⟨gb338, 7, none⟩ = some (.int .i64 a0_7) := (blk_cell BK338.out 7).trans rfl
          have hfz16_0 := blk_frozen BK338.out 0
          have hfz16_1 := blk_frozen BK338.out 1
          have hfz16_2 := blk_frozen BK338.out 2
          have hfz16_3 := blk_frozen BK338.out 3
          have hfz16_4 := blk_frozen BK338.out 4
          have hfz16_5 := blk_frozen BK338.out 5
          have hfz16_6 := blk_frozen BK338.out 6
          have hfz16_7 := blk_frozen BK338.out 7
          try go_wp2_with (first | ((with_reducible refine gate_callee (f := 10) rfl ?_); refine goesL_ (some 23) rfl rfl Tryd.func10 (by kernel_rfl) rfl #[.int .i64 a0_6, .int .i64 9] rfl (by (try simp only [List.map_toArray, List.map_cons, List.map_nil]); first | done | rfl | (simp only [List.length_drop, List.length_take]; rfl)) ?_; (with_reducible refine (spec_padded.calls k a0_6 9 t342 _ A10.out).mono ?_); rintro e w17 ⟨rfl, hb⟩; refine ⟨_, rfl, ?_⟩; have n0_ := Aside0.mk (blk_below (g := gb338) (o := .cells #[.int .i64 a0_0, .int .i64 a0_1, .int .i64 a0_2, .int .i64 a0_3, .int .i64 a0_4, .int .i64 a0_5, .int .i64 a0_6, .int .i64 a0_7] 23 (0, 0)) (by (with_reducible repeat (first | refine blk_drewN ?_ _ | refine blk_drew ?_ | refine blk_alloc ?_ _)); exact BK338.out) hb); have n1_ := Aside0.mk (below_step (by repeat (first | (with_reducible first | exact HB.out | apply below_alloc | apply pw_below_drewN | apply below_drew1 | refine below_set ?_ GE338.out) | exact HB.out)) hb); clear BK338; clear HB; have BK338 := n0_; have HB := n1_; clear n0_ n1_; (try clear hb); (try clear hb2); (try clear hk); (try clear hi)))
          go_loopg [7] k (fun kq v7 w' => ∃ (x7_1 : Int), v7 = .int .i64 x7_1 ∧ Aside0 (spec_TimeText.l0 kq a1 ((((t339 ++ (⟨#[58]⟩ : ByteArray)) ++ t340) ++ (⟨#[58]⟩ : ByteArray)) ++ t341) t342 x7_1 = some r) ∧ Aside0 (kq ≤ k) ∧ Aside0 (w'.heap[gb338]? = some (.cells #[.int .i64 a0_0, .int .i64 a0_1, .int .i64 a0_2, .int .i64 a0_3, .int .i64 a0_4, .int .i64 a0_5, .int .i64 a0_6, .int .i64 a0_7] 23 (0, 0))) ∧ Aside0 (Below w.heap.size w w'))
          case atStart => exact ⟨(9), (by first | rfl | (simp; done) | (simp [*]; done)), H', ⟨Nat.le_refl _⟩, ⟨by (with_reducible repeat (first | refine blk_drewN ?_ _ | refine blk_drew ?_ | refine blk_alloc ?_ _)); exact BK338.out⟩, ⟨by repeat (first | (with_reducible first | exact HB.out | apply below_alloc | apply pw_below_drewN | apply below_drew1 | refine below_set ?_ GE338.out) | exact HB.out)⟩⟩
          case round =>
            clear H'
            try clear c1
            try clear p2
            try clear c4
            try clear c4b0
            try clear c4b1
            try clear c4b2
            try clear c6
            try clear c6b0
            try clear c6b1
            try clear c6b2
            try clear c7
            try clear c7b0
            try clear c7b1
            try clear c7b2
            try clear c8
            try clear c9
            try clear c9b0
            try clear c9b1
            try clear c9b2
            try clear c10
            try clear hcz16_0
            try clear hcz16_1
            try clear hcz16_2
            try clear hcz16_3
            try clear hcz16_4
            try clear hcz16_5
            try clear hcz16_6
            try clear hcz16_7
            try clear hfz16_0
            try clear hfz16_1
            try clear hfz16_2
            try clear hfz16_3
            try clear hfz16_4
            try clear hfz16_5
            try clear hfz16_6
            try clear hfz16_7
            obtain ⟨x7_1, rfl, HA, HK1, BK338, HB⟩ := hrel
            cases gk with
            | zero => exact absurd HA.out (by simp [spec_TimeText.l0])
            | succ k1 =>
              have H := HA.out
              clear HA
              simp only [spec_TimeText.l0] at H
              by_cases c18 : x7_1 > a1
              · rw [if_pos c18] at H
                have c18b0 : decide (a1 < x7_1) = true := decide_eq_true c18
                clear c18
                obtain ⟨ji19, hji19⟩ : ∃ j_ : Int, (wrap64 (x7_1 - 1)) = j_ := ⟨_, rfl⟩
                replace H : (if 0 ≤ (ji19) then (if (ji19) < (t342.size : Int) then (if (bt t342 (ji19)) = 48 then (spec_TimeText.l0 k1 a1 ((((t339 ++ (⟨#[58]⟩ : ByteArray)) ++ t340) ++ (⟨#[58]⟩ : ByteArray)) ++ t341) t342 ji19) else (if x7_1 > 0 then (if 0 ≤ x7_1 then (if x7_1 ≤ (t342.size : Int) then (if 1 + (t342.extract 0 (x7_1 : Int).toNat).size ≤ 9223372036854775807 then (if ((((t339 ++ (⟨#[58]⟩ : ByteArray)) ++ t340) ++ (⟨#[58]⟩ : ByteArray)) ++ t341).size + ((⟨#[46]⟩ : ByteArray) ++ (t342.extract 0 (x7_1 : Int).toNat)).size ≤ 9223372036854775807 then (some (((((t339 ++ (⟨#[58]⟩ : ByteArray)) ++ t340) ++ (⟨#[58]⟩ : ByteArray)) ++ t341) ++ ((⟨#[46]⟩ : ByteArray) ++ (t342.extract 0 (x7_1 : Int).toNat)))) else (none)) else (none)) else (none)) else (none)) else (some ((((t339 ++ (⟨#[58]⟩ : ByteArray)) ++ t340) ++ (⟨#[58]⟩ : ByteArray)) ++ t341)))) else (none)) else (none)) = some r := by first | (rw [hji19] at H; exact H) | (simp only [hji19] at H ⊢; exact H)
                have hji19w : (IntKind.i64.wrap (x7_1 - 1)) = ji19 := (i64_w _).trans hji19
                by_cases c20 : 0 ≤ (ji19)
                · rw [if_pos c20] at H
                  have c20b0 : decide (0 ≤ (ji19)) = true := decide_eq_true c20
                  clear c20
                  by_cases c21 : (ji19) < (t342.size : Int)
                  · rw [if_pos c21] at H
                    have c21b0 : decide ((ji19) < (t342.size : Int)) = true := decide_eq_true c21
                    clear c21
                    by_cases c23 : (bt t342 (ji19)) = 48
                    · rw [if_pos c23] at H
                      have c23b0 : ((bt t342 (ji19)) == 48) = true := beq_iff_eq.mpr c23
                      have c23b1 : ((bt t342 (ji19)) != 48) = false := bne_eq_false_iff_eq.mpr c23
                      clear c23
                      have H' := Aside0.mk H
                      clear H
                      have p22 : 0 ≤ ((ji19) : Int) := of_decide_eq_true (by first | (with_reducible assumption) | assumption)
                      have q22 : (ji19) < (t342.size : Int) := of_decide_eq_true (by first | (with_reducible assumption) | assumption)
                      have hx22 := bt_at t342 (ji19)
                      replace p22 := eq_true p22
                      replace q22 := eq_true q22
                      go_wp2
                      go_roundg k1
                      case measure => have := HK1.out; omega
                      case rel => exact ⟨(ji19), (by first | rfl | (simp; done) | (simp only [← hji19] <;> (first | rfl | simp)) | (simp [*]; done)), H', ⟨by have := HK1.out; omega⟩, ⟨by (with_reducible repeat (first | refine blk_drewN ?_ _ | refine blk_drew ?_ | refine blk_alloc ?_ _)); exact BK338.out⟩, ⟨by repeat (first | (with_reducible first | exact HB.out | apply below_alloc | apply pw_below_drewN | apply below_drew1 | refine below_set ?_ GE338.out) | exact HB.out)⟩⟩
                    · rw [if_neg c23] at H
                      have c23b0 : ((bt t342 (ji19)) == 48) = false := beq_eq_false_iff_ne.mpr c23
                      have c23b1 : ((bt t342 (ji19)) != 48) = true := bne_iff_ne.mpr c23
                      by_cases c24 : x7_1 > 0
                      · rw [if_pos c24] at H
                        have c24b0 : decide (0 < x7_1) = true := decide_eq_true c24
                        clear c24
                        by_cases c25 : 0 ≤ x7_1
                        · rw [if_pos c25] at H
                          have c25b0 := eq_true c25
                          have c25b1 : decide (0 ≤ x7_1) = true := decide_eq_true c25
                          clear c25
                          by_cases c26 : x7_1 ≤ (t342.size : Int)
                          · rw [if_pos c26] at H
                            have c26b0 := eq_true c26
                            have c26b1 : decide (x7_1 ≤ (t342.size : Int)) = true := decide_eq_true c26
                            clear c26
                            by_cases c27 : 1 + (t342.extract 0 (x7_1 : Int).toNat).size ≤ 9223372036854775807
                            · rw [if_pos c27] at H
                              have c27b0 := eq_true c27
                              have c27b1 : decide (1 + (t342.extract 0 (x7_1 : Int).toNat).size ≤ 9223372036854775807) = true := decide_eq_true c27
                              try have c27b2 : (9223372036854775807 < 1 + (t342.extract 0 (x7_1 : Int).toNat).size) = False := eq_false (Nat.not_lt.2 c27)
                              have c27b4 : (9223372036854775807 < 1 + x7_1.toNat) = False := eq_false (by have h_ := c27; have h2_ := of_decide_eq_true c26b1; have h3_ := of_decide_eq_true c25b1; simp only [ByteArray.size_extract] at h_; omega)
                              by_cases c28 : ((((t339 ++ (⟨#[58]⟩ : ByteArray)) ++ t340) ++ (⟨#[58]⟩ : ByteArray)) ++ t341).size + ((⟨#[46]⟩ : ByteArray) ++ (t342.extract 0 (x7_1 : Int).toNat)).size ≤ 9223372036854775807
                              · rw [if_pos c28] at H
                                have c28b0 := eq_true c28
                                have c28b1 : decide (((((t339 ++ (⟨#[58]⟩ : ByteArray)) ++ t340) ++ (⟨#[58]⟩ : ByteArray)) ++ t341).size + ((⟨#[46]⟩ : ByteArray) ++ (t342.extract 0 (x7_1 : Int).toNat)).size ≤ 9223372036854775807) = true := decide_eq_true c28
                                try have c28b2 : (9223372036854775807 < ((((t339 ++ (⟨#[58]⟩ : ByteArray)) ++ t340) ++ (⟨#[58]⟩ : ByteArray)) ++ t341).size + ((⟨#[46]⟩ : ByteArray) ++ (t342.extract 0 (x7_1 : Int).toNat)).size) = False := eq_false (Nat.not_lt.2 c28)
                                try have c28b3 : (9223372036854775807 < t339.size + 1 + t340.size + 1 + t341.size + (1 + (t342.extract 0 (x7_1 : Int).toNat).size)) = False := eq_false (by have h_ := c28; simp only [ByteArray.size_append, show (⟨#[46]⟩ : ByteArray).size = 1 from rfl, show (⟨#[58]⟩ : ByteArray).size = 1 from rfl] at h_; omega)
                                obtain rfl := Option.some.inj H
                                have p22 : 0 ≤ ((ji19) : Int) := of_decide_eq_true (by first | (with_reducible assumption) | assumption)
                                have q22 : (ji19) < (t342.size : Int) := of_decide_eq_true (by first | (with_reducible assumption) | assumption)
                                have hx22 := bt_at t342 (ji19)
                                replace p22 := eq_true p22
                                replace q22 := eq_true q22
                                go_wp2
                                go_ret
                                exact ⟨by first | rfl | (simp [errW_none, errW_some] <;> rfl) | (simp only [← hji19]; first | rfl | (simp [errW_none, errW_some] <;> rfl)) | (simp [*, errW_none, errW_some] <;> rfl), by repeat (first | (with_reducible first | exact HB.out | apply below_alloc | apply pw_below_drewN | apply below_drew1 | refine below_set ?_ GE338.out) | exact HB.out)⟩
                              · rw [if_neg c28] at H
                                exact absurd H (by simp)
                            · rw [if_neg c27] at H
                              exact absurd H (by simp)
                          · rw [if_neg c26] at H
                            exact absurd H (by simp)
                        · rw [if_neg c25] at H
                          exact absurd H (by simp)
                      · rw [if_neg c24] at H
                        have c24b0 : decide (0 < x7_1) = false := decide_eq_false c24
                        clear c24
                        obtain rfl := Option.some.inj H
                        have p22 : 0 ≤ ((ji19) : Int) := of_decide_eq_true (by first | (with_reducible assumption) | assumption)
                        have q22 : (ji19) < (t342.size : Int) := of_decide_eq_true (by first | (with_reducible assumption) | assumption)
                        have hx22 := bt_at t342 (ji19)
                        replace p22 := eq_true p22
                        replace q22 := eq_true q22
                        go_wp2
                        go_ret
                        exact ⟨by first | rfl | (simp [errW_none, errW_some] <;> rfl) | (simp only [← hji19]; first | rfl | (simp [errW_none, errW_some] <;> rfl)) | (simp [*, errW_none, errW_some] <;> rfl), by repeat (first | (with_reducible first | exact HB.out | apply below_alloc | apply pw_below_drewN | apply below_drew1 | refine below_set ?_ GE338.out) | exact HB.out)⟩
                  · rw [if_neg c21] at H
                    exact absurd H (by simp)
                · rw [if_neg c20] at H
                  exact absurd H (by simp)
              · rw [if_neg c18] at H
                have c18b0 : decide (a1 < x7_1) = false := decide_eq_false c18
                clear c18
                by_cases c29 : x7_1 > 0
                · rw [if_pos c29] at H
                  have c29b0 : decide (0 < x7_1) = true := decide_eq_true c29
                  clear c29
                  by_cases c30 : 0 ≤ x7_1
                  · rw [if_pos c30] at H
                    have c30b0 := eq_true c30
                    have c30b1 : decide (0 ≤ x7_1) = true := decide_eq_true c30
                    clear c30
                    by_cases c31 : x7_1 ≤ (t342.size : Int)
                    · rw [if_pos c31] at H
                      have c31b0 := eq_true c31
                      have c31b1 : decide (x7_1 ≤ (t342.size : Int)) = true := decide_eq_true c31
                      clear c31
                      by_cases c32 : 1 + (t342.extract 0 (x7_1 : Int).toNat).size ≤ 9223372036854775807
                      · rw [if_pos c32] at H
                        have c32b0 := eq_true c32
                        have c32b1 : decide (1 + (t342.extract 0 (x7_1 : Int).toNat).size ≤ 9223372036854775807) = true := decide_eq_true c32
                        try have c32b2 : (9223372036854775807 < 1 + (t342.extract 0 (x7_1 : Int).toNat).size) = False := eq_false (Nat.not_lt.2 c32)
                        have c32b4 : (9223372036854775807 < 1 + x7_1.toNat) = False := eq_false (by have h_ := c32; have h2_ := of_decide_eq_true c31b1; have h3_ := of_decide_eq_true c30b1; simp only [ByteArray.size_extract] at h_; omega)
                        by_cases c33 : ((((t339 ++ (⟨#[58]⟩ : ByteArray)) ++ t340) ++ (⟨#[58]⟩ : ByteArray)) ++ t341).size + ((⟨#[46]⟩ : ByteArray) ++ (t342.extract 0 (x7_1 : Int).toNat)).size ≤ 9223372036854775807
                        · rw [if_pos c33] at H
                          have c33b0 := eq_true c33
                          have c33b1 : decide (((((t339 ++ (⟨#[58]⟩ : ByteArray)) ++ t340) ++ (⟨#[58]⟩ : ByteArray)) ++ t341).size + ((⟨#[46]⟩ : ByteArray) ++ (t342.extract 0 (x7_1 : Int).toNat)).size ≤ 9223372036854775807) = true := decide_eq_true c33
                          try have c33b2 : (9223372036854775807 < ((((t339 ++ (⟨#[58]⟩ : ByteArray)) ++ t340) ++ (⟨#[58]⟩ : ByteArray)) ++ t341).size + ((⟨#[46]⟩ : ByteArray) ++ (t342.extract 0 (x7_1 : Int).toNat)).size) = False := eq_false (Nat.not_lt.2 c33)
                          try have c33b3 : (9223372036854775807 < t339.size + 1 + t340.size + 1 + t341.size + (1 + (t342.extract 0 (x7_1 : Int).toNat).size)) = False := eq_false (by have h_ := c33; simp only [ByteArray.size_append, show (⟨#[46]⟩ : ByteArray).size = 1 from rfl, show (⟨#[58]⟩ : ByteArray).size = 1 from rfl] at h_; omega)
                          obtain rfl := Option.some.inj H
                          go_wp2
                          go_ret
                          exact ⟨by first | rfl | (simp [errW_none, errW_some] <;> rfl) | (simp [*, errW_none, errW_some] <;> rfl), by repeat (first | (with_reducible first | exact HB.out | apply below_alloc | apply pw_below_drewN | apply below_drew1 | refine below_set ?_ GE338.out) | exact HB.out)⟩
                        · rw [if_neg c33] at H
                          exact absurd H (by simp)
                      · rw [if_neg c32] at H
                        exact absurd H (by simp)
                    · rw [if_neg c31] at H
                      exact absurd H (by simp)
                  · rw [if_neg c30] at H
                    exact absurd H (by simp)
                · rw [if_neg c29] at H
                  have c29b0 : decide (0 < x7_1) = false := decide_eq_false c29
                  clear c29
                  obtain rfl := Option.some.inj H
                  go_wp2
                  go_ret
                  exact ⟨by first | rfl | (simp [errW_none, errW_some] <;> rfl) | (simp [*, errW_none, errW_some] <;> rfl), by repeat (first | (with_reducible first | exact HB.out | apply below_alloc | apply pw_below_drewN | apply below_drew1 | refine below_set ?_ GE338.out) | exact HB.out)⟩
        · rw [if_neg c9] at H
          exact absurd H (by simp)
      · rw [if_neg c7] at H
        exact absurd H (by simp)
    · rw [if_neg c6] at H
      exact absurd H (by simp)
  · rw [if_neg c4] at H
    exact absurd H (by simp)

end Go.Proofs.YtlhjblbmhlelbabDoor.P
