-- Written by the program wip/myprint.py of this session, over the kit's print of the translation. Lean checks it.
import Derived.Test.YthcikkjjegfblabPx0
import Derived.Test.YthcikkjjegfblabPx1
namespace Go.Proofs.Ythcikkjjegfblab.P
open Go.RowKit Go.Proofs.YthcikkjjegfblabW.PrintWords Go.Proofs.YthcikkjjegfblabW.PrintLast Go.Proofs.YthcikkjjegfblabW.PrintMore
attribute [local go_sem] max2_int min2_int max_two min_two max_three min_three max_four min_four   -- for this text's walks alone
set_option linter.unusedVariables false
set_option linter.unusedSimpArgs false

/-! ### spec_PieceBytes: function 42 -/
mutual
def spec_PieceBytes.j0 : Nat → Int → Bool → Int → Int → ByteArray → Option (ByteArray × Bool)
  | 0, _, _, _, _, _ => none
  | k + 1, x4, x8, x108000, x108001, x108002 => if x8 = true then (some (strOfNums (([(x4) % 256] : List Int)), true)) else (if x108000 = 2 then (if x108001 ≥ 0 then (if x108001 < 65536 then (spec_PieceBytes.j1 k x4 (x108002.toList == ([] : List UInt8)) x108000 x108001 x108002) else (spec_PieceBytes.j1 k x4 false x108000 x108001 x108002)) else (spec_PieceBytes.j1 k x4 false x108000 x108001 x108002)) else (spec_PieceBytes.j1 k x4 false x108000 x108001 x108002))
def spec_PieceBytes.j1 : Nat → Int → Bool → Int → Int → ByteArray → Option (ByteArray × Bool)
  | 0, _, _, _, _, _ => none
  | k + 1, x4, x31, x108000, x108001, x108002 => if x31 = true then (some (strOfNums (([(x4 / 256) % 256, (x4) % 256] : List Int)), true)) else (if x108000 = 3 then (if x108001 ≥ (-2147483648) then (if x108001 < 2147483648 then (spec_PieceBytes.j2 k x4 (x108002.toList == ([] : List UInt8)) x108000 x108001 x108002) else (spec_PieceBytes.j2 k x4 false x108000 x108001 x108002)) else (spec_PieceBytes.j2 k x4 false x108000 x108001 x108002)) else (spec_PieceBytes.j2 k x4 false x108000 x108001 x108002))
def spec_PieceBytes.j2 : Nat → Int → Bool → Int → Int → ByteArray → Option (ByteArray × Bool)
  | 0, _, _, _, _, _ => none
  | k + 1, x4, x57, x108000, x108001, x108002 => if x57 = true then (some (strOfNums (([(x4 / 16777216) % 256, (x4 / 65536) % 256, (x4 / 256) % 256, (x4) % 256] : List Int)), true)) else (if x108000 = 4 then (if x108001 = 0 then ((spec_hasZero.f k x108002).bind fun t117 => (spec_PieceBytes.j3 k (!t117) x108000 x108001 x108002)) else (spec_PieceBytes.j3 k false x108000 x108001 x108002)) else (spec_PieceBytes.j3 k false x108000 x108001 x108002))
def spec_PieceBytes.j3 : Nat → Bool → Int → Int → ByteArray → Option (ByteArray × Bool)
  | 0, _, _, _, _ => none
  | k + 1, x89, x108000, x108001, x108002 => if x89 = true then (if x108002.size + 1 ≤ 9223372036854775807 then (some (x108002 ++ (⟨#[0]⟩ : ByteArray), true)) else (none)) else (if x108000 = 5 then (if x108001 = 0 then (some (x108002, true)) else (some ((⟨#[]⟩ : ByteArray), false))) else (some ((⟨#[]⟩ : ByteArray), false)))
end
def spec_PieceBytes.f (k : Nat) (a0_0 : Int) (a0_1 : Int) (a0_2 : ByteArray) : Option (ByteArray × Bool) := if a0_0 = 1 then (if a0_1 ≥ 0 then (if a0_1 < 256 then (spec_PieceBytes.j0 k (IntKind.u64.wrap (a0_1)) (a0_2.toList == ([] : List UInt8)) a0_0 a0_1 a0_2) else (spec_PieceBytes.j0 k (IntKind.u64.wrap (a0_1)) false a0_0 a0_1 a0_2)) else (spec_PieceBytes.j0 k (IntKind.u64.wrap (a0_1)) false a0_0 a0_1 a0_2)) else (spec_PieceBytes.j0 k (IntKind.u64.wrap (a0_1)) false a0_0 a0_1 a0_2)
theorem spec_PieceBytes.mono_l : ∀ k, (∀ y0 y1 y2 y3 y4, LeO (spec_PieceBytes.j0 k y0 y1 y2 y3 y4) (spec_PieceBytes.j0 (k + 1) y0 y1 y2 y3 y4)) ∧ (∀ y0 y1 y2 y3 y4, LeO (spec_PieceBytes.j1 k y0 y1 y2 y3 y4) (spec_PieceBytes.j1 (k + 1) y0 y1 y2 y3 y4)) ∧ (∀ y0 y1 y2 y3 y4, LeO (spec_PieceBytes.j2 k y0 y1 y2 y3 y4) (spec_PieceBytes.j2 (k + 1) y0 y1 y2 y3 y4)) ∧ (∀ y0 y1 y2 y3, LeO (spec_PieceBytes.j3 k y0 y1 y2 y3) (spec_PieceBytes.j3 (k + 1) y0 y1 y2 y3))
  | 0 => ⟨fun _ _ _ _ _ r h => by simp [spec_PieceBytes.j0] at h, fun _ _ _ _ _ r h => by simp [spec_PieceBytes.j1] at h, fun _ _ _ _ _ r h => by simp [spec_PieceBytes.j2] at h, fun _ _ _ _ r h => by simp [spec_PieceBytes.j3] at h⟩
  | k + 1 => by
    obtain ⟨ih0, ih1, ih2, ih3⟩ := spec_PieceBytes.mono_l k
    refine ⟨?_, ?_, ?_, ?_⟩
    · intro y0 y1 y2 y3 y4
      unfold spec_PieceBytes.j0
      repeat' first
      | (with_reducible exact ih0 _ _ _ _ _)
      | (with_reducible exact ih1 _ _ _ _ _)
      | (with_reducible exact ih2 _ _ _ _ _)
      | (with_reducible exact ih3 _ _ _ _)
      | (with_reducible exact spec_hasZero.mono _ _)
      | (with_reducible exact LeO.refl _)
      | (with_reducible exact LeO.none _)
      | (with_reducible refine LeO.ite ?_ ?_)
      | (with_reducible refine LeO.bind ?_ (fun _ => ?_))
      | exact ih0 _ _ _ _ _
      | exact ih1 _ _ _ _ _
      | exact ih2 _ _ _ _ _
      | exact ih3 _ _ _ _
      | exact spec_hasZero.mono _ _
      | exact LeO.none _
      | refine LeO.ite ?_ ?_
      | refine LeO.bind ?_ (fun _ => ?_)
    · intro y0 y1 y2 y3 y4
      unfold spec_PieceBytes.j1
      repeat' first
      | (with_reducible exact ih0 _ _ _ _ _)
      | (with_reducible exact ih1 _ _ _ _ _)
      | (with_reducible exact ih2 _ _ _ _ _)
      | (with_reducible exact ih3 _ _ _ _)
      | (with_reducible exact spec_hasZero.mono _ _)
      | (with_reducible exact LeO.refl _)
      | (with_reducible exact LeO.none _)
      | (with_reducible refine LeO.ite ?_ ?_)
      | (with_reducible refine LeO.bind ?_ (fun _ => ?_))
      | exact ih0 _ _ _ _ _
      | exact ih1 _ _ _ _ _
      | exact ih2 _ _ _ _ _
      | exact ih3 _ _ _ _
      | exact spec_hasZero.mono _ _
      | exact LeO.none _
      | refine LeO.ite ?_ ?_
      | refine LeO.bind ?_ (fun _ => ?_)
    · intro y0 y1 y2 y3 y4
      unfold spec_PieceBytes.j2
      repeat' first
      | (with_reducible exact ih0 _ _ _ _ _)
      | (with_reducible exact ih1 _ _ _ _ _)
      | (with_reducible exact ih2 _ _ _ _ _)
      | (with_reducible exact ih3 _ _ _ _)
      | (with_reducible exact spec_hasZero.mono _ _)
      | (with_reducible exact LeO.refl _)
      | (with_reducible exact LeO.none _)
      | (with_reducible refine LeO.ite ?_ ?_)
      | (with_reducible refine LeO.bind ?_ (fun _ => ?_))
      | exact ih0 _ _ _ _ _
      | exact ih1 _ _ _ _ _
      | exact ih2 _ _ _ _ _
      | exact ih3 _ _ _ _
      | exact spec_hasZero.mono _ _
      | exact LeO.none _
      | refine LeO.ite ?_ ?_
      | refine LeO.bind ?_ (fun _ => ?_)
    · intro y0 y1 y2 y3
      unfold spec_PieceBytes.j3
      repeat' first
      | (with_reducible exact ih0 _ _ _ _ _)
      | (with_reducible exact ih1 _ _ _ _ _)
      | (with_reducible exact ih2 _ _ _ _ _)
      | (with_reducible exact ih3 _ _ _ _)
      | (with_reducible exact spec_hasZero.mono _ _)
      | (with_reducible exact LeO.refl _)
      | (with_reducible exact LeO.none _)
      | (with_reducible refine LeO.ite ?_ ?_)
      | (with_reducible refine LeO.bind ?_ (fun _ => ?_))
      | exact ih0 _ _ _ _ _
      | exact ih1 _ _ _ _ _
      | exact ih2 _ _ _ _ _
      | exact ih3 _ _ _ _
      | exact spec_hasZero.mono _ _
      | exact LeO.none _
      | refine LeO.ite ?_ ?_
      | refine LeO.bind ?_ (fun _ => ?_)
theorem spec_PieceBytes.mono : ∀ a0 a1 a2 k, LeO (spec_PieceBytes.f k a0 a1 a2) (spec_PieceBytes.f (k + 1) a0 a1 a2) := by
  intro a0 a1 a2 k
  obtain ⟨ih0, ih1, ih2, ih3⟩ := spec_PieceBytes.mono_l k
  unfold spec_PieceBytes.f
  repeat' first
      | (with_reducible exact ih0 _ _ _ _ _)
      | (with_reducible exact ih1 _ _ _ _ _)
      | (with_reducible exact ih2 _ _ _ _ _)
      | (with_reducible exact ih3 _ _ _ _)
      | (with_reducible exact spec_hasZero.mono _ _)
      | (with_reducible exact LeO.refl _)
      | (with_reducible exact LeO.none _)
      | (with_reducible refine LeO.ite ?_ ?_)
      | (with_reducible refine LeO.bind ?_ (fun _ => ?_))
      | exact ih0 _ _ _ _ _
      | exact ih1 _ _ _ _ _
      | exact ih2 _ _ _ _ _
      | exact ih3 _ _ _ _
      | exact spec_hasZero.mono _ _
      | exact LeO.none _
      | refine LeO.ite ?_ ?_
      | refine LeO.bind ?_ (fun _ => ?_)
set_option maxHeartbeats 8000000 in
set_option maxRecDepth 100000 in
theorem spec_PieceBytes.calls (k : Nat) (a0_0 : Int) (a0_1 : Int) (a0_2 : ByteArray) (r1 : ByteArray) (r2 : Bool) (w : World) (h : spec_PieceBytes.f k a0_0 a0_1 a0_2 = some (r1, r2)) :
    Calls Try.prog 42 #[.agg #[.int .i64 a0_0, .int .i64 a0_1, .string a0_2]] w fun e w' => e = .returned (.tuple #[.string r1, .bool r2]) ∧ Below w.heap.size w w' := by
  have hu25 := Try.underlying25
  have HB := Aside0.mk (Below.refl w.heap.size w)
  have H : (if a0_0 = 1 then (if a0_1 ≥ 0 then (if a0_1 < 256 then (spec_PieceBytes.j0 k (IntKind.u64.wrap (a0_1)) (a0_2.toList == ([] : List UInt8)) a0_0 a0_1 a0_2) else (spec_PieceBytes.j0 k (IntKind.u64.wrap (a0_1)) false a0_0 a0_1 a0_2)) else (spec_PieceBytes.j0 k (IntKind.u64.wrap (a0_1)) false a0_0 a0_1 a0_2)) else (spec_PieceBytes.j0 k (IntKind.u64.wrap (a0_1)) false a0_0 a0_1 a0_2)) = some (r1, r2) := h
  clear h
  have HC2 := Aside0.mk H
  clear H
  go_enter Try.func42, Try.ntmps42
  go_upto_region 2 with (first | ((with_reducible refine gate_dst (N := 1) rfl ?_); refine box_event ?hg (N := 1) ?hd (cs := #[.int .i64 a0_0, .int .i64 a0_1, .string a0_2]) (t := 25) ?hr ?_; (case hd => rfl); (case hg => rfl); (case hr => first | (go_simp; done) | (go_simp; rfl)); intro gb107 hg w3 hbox hb; have n0_ := Aside0.mk (below_step (by repeat (first | (with_reducible first | exact HB.out | apply below_alloc | apply pw_below_drewN | apply below_drew1) | exact HB.out)) hb); have n1_ := Aside0.mk (hbox); have n2_ := Aside0.mk ((by rw [hg]; exact (below_size (by repeat (first | (with_reducible first | exact HB.out | apply below_alloc | apply pw_below_drewN | apply below_drew1) | exact HB.out))) : w.heap.size ≤ gb107)); have n3_ := Aside0.mk ((by rw [hg]; exact (below_size (by repeat (first | (with_reducible first | exact HB.out | apply below_alloc | apply pw_below_drewN | apply below_drew1) | exact HB.out))) : w.heap.size ≤ gb107)); clear HB; have HB := n0_; have BK107 := n1_; have GW107 := n2_; have GE107 := n3_; clear n0_ n1_ n2_ n3_; clear hb hbox hg; have hcz4_0 : w3.cell? ⟨gb107, 0, none⟩ = some (.int .i64 a0_0) := (blk_cell BK107.out 0).trans rfl; have hcz4_1 : w3.cell? ⟨gb107, 1, none⟩ = some (.int .i64 a0_1) := (blk_cell BK107.out 1).trans rfl; have hcz4_2 : w3.cell? ⟨gb107, 2, none⟩ = some (.string a0_2) := (blk_cell BK107.out 2).trans rfl; have hfz4_0 := blk_frozen BK107.out 0; have hfz4_1 := blk_frozen BK107.out 1; have hfz4_2 := blk_frozen BK107.out 2))
  (try simp only [Act.put, List.setIfInBounds_toArray, List.set_cons_zero, List.set_cons_succ])
  go_cut [8] (fun v8 wc => ∃ (kq : Nat) (x8_1 : Bool), v8 = .bool x8_1 ∧ Aside0 (spec_PieceBytes.j0 kq (IntKind.u64.wrap (a0_1)) x8_1 a0_0 a0_1 a0_2 = some (r1, r2)) ∧ Aside0 (kq ≤ k) ∧ Aside0 (wc.heap[gb107]? = some (.cells #[.int .i64 a0_0, .int .i64 a0_1, .string a0_2] 25 (0, 0))) ∧ Aside0 (Below w.heap.size w wc))
  case first =>
    have H := HC2.out
    clear HC2
    by_cases c5 : a0_0 = 1
    · rw [if_pos c5] at H
      have c5b0 : (a0_0 == 1) = true := beq_iff_eq.mpr c5
      have c5b1 : (a0_0 != 1) = false := bne_eq_false_iff_eq.mpr c5
      clear c5
      (first | rw [c5b0] | (simp only [i64_w, i32_w]; rw [c5b0]) | skip)
      by_cases c6 : a0_1 ≥ 0
      · rw [if_pos c6] at H
        have c6b0 : decide (0 ≤ a0_1) = true := decide_eq_true c6
        clear c6
        by_cases c7 : a0_1 < 256
        · rw [if_pos c7] at H
          have c7b0 : decide (a0_1 < 256) = true := decide_eq_true c7
          clear c7
          have H' := Aside0.mk H
          clear H
          have hcz8_0 : w3.cell? ⟨gb107, 0, none⟩ = some (.int .i64 a0_0) := (blk_cell BK107.out 0).trans rfl
          have hcz8_1 : w3.cell? ⟨gb107, 1, none⟩ = some (.int .i64 a0_1) := (blk_cell BK107.out 1).trans rfl
          have hcz8_2 : w3.cell? ⟨gb107, 2, none⟩ = some (.string a0_2) := (blk_cell BK107.out 2).trans rfl
          have hfz8_0 := blk_frozen BK107.out 0
          have hfz8_1 := blk_frozen BK107.out 1
          have hfz8_2 := blk_frozen BK107.out 2
          go_wp2
          go_meet
          case rel => exact ⟨_, ((a0_2.toList == ([] : List UInt8))), (by first | rfl | (simp; done) | (simp [*]; done)), H', ⟨by first | omega | exact Nat.le_refl _⟩, ⟨by (with_reducible repeat (first | refine blk_drewN ?_ _ | refine blk_drew ?_ | refine blk_alloc ?_ _)); exact BK107.out⟩, ⟨by repeat (first | (with_reducible first | exact HB.out | apply below_alloc | apply pw_below_drewN | apply below_drew1 | refine below_set ?_ GE107.out) | exact HB.out)⟩⟩
        · rw [if_neg c7] at H
          have c7b0 : decide (a0_1 < 256) = false := decide_eq_false c7
          clear c7
          have H' := Aside0.mk H
          clear H
          have hcz9_0 : w3.cell? ⟨gb107, 0, none⟩ = some (.int .i64 a0_0) := (blk_cell BK107.out 0).trans rfl
          have hcz9_1 : w3.cell? ⟨gb107, 1, none⟩ = some (.int .i64 a0_1) := (blk_cell BK107.out 1).trans rfl
          have hcz9_2 : w3.cell? ⟨gb107, 2, none⟩ = some (.string a0_2) := (blk_cell BK107.out 2).trans rfl
          have hfz9_0 := blk_frozen BK107.out 0
          have hfz9_1 := blk_frozen BK107.out 1
          have hfz9_2 := blk_frozen BK107.out 2
          go_wp2
          go_meet
          case rel => exact ⟨_, (false), (by first | rfl | (simp; done) | (simp [*]; done)), H', ⟨by first | omega | exact Nat.le_refl _⟩, ⟨by (with_reducible repeat (first | refine blk_drewN ?_ _ | refine blk_drew ?_ | refine blk_alloc ?_ _)); exact BK107.out⟩, ⟨by repeat (first | (with_reducible first | exact HB.out | apply below_alloc | apply pw_below_drewN | apply below_drew1 | refine below_set ?_ GE107.out) | exact HB.out)⟩⟩
      · rw [if_neg c6] at H
        have c6b0 : decide (0 ≤ a0_1) = false := decide_eq_false c6
        clear c6
        have H' := Aside0.mk H
        clear H
        have hcz10_0 : w3.cell? ⟨gb107, 0, none⟩ = some (.int .i64 a0_0) := (blk_cell BK107.out 0).trans rfl
        have hcz10_1 : w3.cell? ⟨gb107, 1, none⟩ = some (.int .i64 a0_1) := (blk_cell BK107.out 1).trans rfl
        have hcz10_2 : w3.cell? ⟨gb107, 2, none⟩ = some (.string a0_2) := (blk_cell BK107.out 2).trans rfl
        have hfz10_0 := blk_frozen BK107.out 0
        have hfz10_1 := blk_frozen BK107.out 1
        have hfz10_2 := blk_frozen BK107.out 2
        go_wp2
        go_meet
        case rel => exact ⟨_, (false), (by first | rfl | (simp; done) | (simp [*]; done)), H', ⟨by first | omega | exact Nat.le_refl _⟩, ⟨by (with_reducible repeat (first | refine blk_drewN ?_ _ | refine blk_drew ?_ | refine blk_alloc ?_ _)); exact BK107.out⟩, ⟨by repeat (first | (with_reducible first | exact HB.out | apply below_alloc | apply pw_below_drewN | apply below_drew1 | refine below_set ?_ GE107.out) | exact HB.out)⟩⟩
    · rw [if_neg c5] at H
      have c5b0 : (a0_0 == 1) = false := beq_eq_false_iff_ne.mpr c5
      have c5b1 : (a0_0 != 1) = true := bne_iff_ne.mpr c5
      (first | rw [c5b0] | (simp only [i64_w, i32_w]; rw [c5b0]) | skip)
      have H' := Aside0.mk H
      clear H
      have hcz11_0 : w3.cell? ⟨gb107, 0, none⟩ = some (.int .i64 a0_0) := (blk_cell BK107.out 0).trans rfl
      have hcz11_1 : w3.cell? ⟨gb107, 1, none⟩ = some (.int .i64 a0_1) := (blk_cell BK107.out 1).trans rfl
      have hcz11_2 : w3.cell? ⟨gb107, 2, none⟩ = some (.string a0_2) := (blk_cell BK107.out 2).trans rfl
      have hfz11_0 := blk_frozen BK107.out 0
      have hfz11_1 := blk_frozen BK107.out 1
      have hfz11_2 := blk_frozen BK107.out 2
      go_wp2
      go_meet
      case rel => exact ⟨_, (false), (by first | rfl | (simp; done) | (simp [*]; done)), H', ⟨by first | omega | exact Nat.le_refl _⟩, ⟨by (with_reducible repeat (first | refine blk_drewN ?_ _ | refine blk_drew ?_ | refine blk_alloc ?_ _)); exact BK107.out⟩, ⟨by repeat (first | (with_reducible first | exact HB.out | apply below_alloc | apply pw_below_drewN | apply below_drew1 | refine below_set ?_ GE107.out) | exact HB.out)⟩⟩
  case rest =>
    clear HC2
    try clear p2
    try clear c4
    try clear c5
    try clear c5b0
    try clear c5b1
    try clear c6
    try clear c6b0
    try clear c7
    try clear c7b0
    try clear hcz10_0
    try clear hcz10_1
    try clear hcz10_2
    try clear hcz11_0
    try clear hcz11_1
    try clear hcz11_2
    try clear hcz4_0
    try clear hcz4_1
    try clear hcz4_2
    try clear hcz8_0
    try clear hcz8_1
    try clear hcz8_2
    try clear hcz9_0
    try clear hcz9_1
    try clear hcz9_2
    try clear hfz10_0
    try clear hfz10_1
    try clear hfz10_2
    try clear hfz11_0
    try clear hfz11_1
    try clear hfz11_2
    try clear hfz4_0
    try clear hfz4_1
    try clear hfz4_2
    try clear hfz8_0
    try clear hfz8_1
    try clear hfz8_2
    try clear hfz9_0
    try clear hfz9_1
    try clear hfz9_2
    obtain ⟨kq, x8_1, rfl, HA, HJ1, BK107, HB⟩ := hcut
    cases kq with
    | zero => exact absurd HA.out (by simp [spec_PieceBytes.j0])
    | succ kj1 =>
      have H := HA.out
      clear HA
      simp only [spec_PieceBytes.j0] at H
      by_cases c12 : x8_1 = true
      · subst c12
        have H1 : (some (strOfNums (([((IntKind.u64.wrap (a0_1))) % 256] : List Int)), true)) = some (r1, r2) := by rw [if_pos rfl] at H; exact H
        clear H
        have H := H1
        clear H1
        obtain ⟨y108, hy108⟩ : ∃ y_ : List Int, y_ = (([((IntKind.u64.wrap (a0_1))) % 256] : List Int)) := ⟨_, rfl⟩
        replace H : (some (strOfNums y108, true)) = some (r1, r2) := by first | (rw [hy108]; with_reducible exact H) | (have H2_ := (Option.bind_some _ _).symm.trans H; rw [hy108]; with_reducible exact H2_) | (have H2_ := (Option.bind_some _ _).symm.trans H; with_reducible exact H2_) | with_reducible exact H | (rw [hy108]; exact H) | exact H
        have Ny108 := Aside0.mk hy108
        clear hy108
        simp only [Option.some.injEq, Prod.mk.injEq] at H
        obtain ⟨rfl, rfl⟩ := H
        go_wp2_with (first | ((with_reducible refine gate_dst (N := 29) rfl ?_); refine Kd.R_lit (Kd.int .u8) _ 5 ?hg (N := 29) ?hd (xs := ([((IntKind.u64.wrap (a0_1))) % 256] : List Int)) (inner := [.int .u8 (((IntKind.u64.wrap (a0_1))) % 256)]) (ok := fun _ => True) (okp := fun _ => True) ?hr ?hp (fun _ hk => hk) trivial (Below.refl _ _) (Nat.le_refl _) (by simp) ?_; (case hd => rfl); (case hg => rfl); (case hr => first | (go_simp; done) | (go_simp; rfl)); (case hp => exact (Reps.one (show Kd.M (Kd.int .u8) _ _ _ (((IntKind.u64.wrap (a0_1))) % 256) [.int .u8 (((IntKind.u64.wrap (a0_1))) % 256)] from rfl) (Reps.none _ _))); intro v109 w13 ho14 hb hg_ hnew_; clear hg_ hnew_; (first | rw [← Ny108.out] at ho14 | (simp only [Int.reduceToNat] at ho14; rw [← Ny108.out] at ho14)); have n0_ := Aside0.mk (Kd.R_lower ho14 (below_size (by repeat (first | (with_reducible first | exact HB.out | apply below_alloc | apply pw_below_drewN | apply below_drew1 | refine below_set ?_ GE107.out) | exact HB.out)))); have n1_ := Aside0.mk (blk_below (g := gb107) (o := .cells #[.int .i64 a0_0, .int .i64 a0_1, .string a0_2] 25 (0, 0)) (by (with_reducible repeat (first | refine blk_drewN ?_ _ | refine blk_drew ?_ | refine blk_alloc ?_ _)); exact BK107.out) hb); have n2_ := Aside0.mk (below_step (by repeat (first | (with_reducible first | exact HB.out | apply below_alloc | apply pw_below_drewN | apply below_drew1 | refine below_set ?_ GE107.out) | exact HB.out)) hb); clear BK107; clear HB; have HO110 := n0_; have BK107 := n1_; have HB := n2_; clear n0_ n1_ n2_; clear hb ho14; have hcv15 := own_string (P := Try.prog) Try.underlying58 Try.underlying5 Try.underlying9 (Kd.own_of_R HO110.out)))
        go_ret2
        exact ⟨by first | rfl | (simp [errW_none, errW_some] <;> rfl) | (simp [*, errW_none, errW_some] <;> rfl), by repeat (first | (with_reducible first | exact HB.out | apply below_alloc | apply pw_below_drewN | apply below_drew1 | refine below_set ?_ GE107.out) | exact HB.out)⟩
      · replace c12 := Bool.eq_false_iff.mpr c12
        subst c12
        have H1 : (if a0_0 = 2 then (if a0_1 ≥ 0 then (if a0_1 < 65536 then (spec_PieceBytes.j1 kj1 (IntKind.u64.wrap (a0_1)) (a0_2.toList == ([] : List UInt8)) a0_0 a0_1 a0_2) else (spec_PieceBytes.j1 kj1 (IntKind.u64.wrap (a0_1)) false a0_0 a0_1 a0_2)) else (spec_PieceBytes.j1 kj1 (IntKind.u64.wrap (a0_1)) false a0_0 a0_1 a0_2)) else (spec_PieceBytes.j1 kj1 (IntKind.u64.wrap (a0_1)) false a0_0 a0_1 a0_2)) = some (r1, r2) := by rw [if_neg (show ¬ (false = true) by decide)] at H; exact H
        clear H
        have H := H1
        clear H1
        have HC16 := Aside0.mk H
        clear H
        go_upto_region 4 with (fail)
        go_cut [31] (fun v31 wc => ∃ (kq : Nat) (x31_15 : Bool), v31 = .bool x31_15 ∧ Aside0 (spec_PieceBytes.j1 kq (IntKind.u64.wrap (a0_1)) x31_15 a0_0 a0_1 a0_2 = some (r1, r2)) ∧ Aside0 (kq ≤ kj1) ∧ Aside0 (wc.heap[gb107]? = some (.cells #[.int .i64 a0_0, .int .i64 a0_1, .string a0_2] 25 (0, 0))) ∧ Aside0 (Below w.heap.size w wc))
        case first =>
          have H := HC16.out
          clear HC16
          by_cases c17 : a0_0 = 2
          · rw [if_pos c17] at H
            have c17b0 : (a0_0 == 2) = true := beq_iff_eq.mpr c17
            have c17b1 : (a0_0 != 2) = false := bne_eq_false_iff_eq.mpr c17
            clear c17
            (first | rw [c17b0] | (simp only [i64_w, i32_w]; rw [c17b0]) | skip)
            by_cases c18 : a0_1 ≥ 0
            · rw [if_pos c18] at H
              have c18b0 : decide (0 ≤ a0_1) = true := decide_eq_true c18
              clear c18
              by_cases c19 : a0_1 < 65536
              · rw [if_pos c19] at H
                have c19b0 : decide (a0_1 < 65536) = true := decide_eq_true c19
                clear c19
                have H' := Aside0.mk H
                clear H
                have hcz20_0 : wc.cell? ⟨gb107, 0, none⟩ = some (.int .i64 a0_0) := (blk_cell BK107.out 0).trans rfl
                have hcz20_1 : wc.cell? ⟨gb107, 1, none⟩ = some (.int .i64 a0_1) := (blk_cell BK107.out 1).trans rfl
                have hcz20_2 : wc.cell? ⟨gb107, 2, none⟩ = some (.string a0_2) := (blk_cell BK107.out 2).trans rfl
                have hfz20_0 := blk_frozen BK107.out 0
                have hfz20_1 := blk_frozen BK107.out 1
                have hfz20_2 := blk_frozen BK107.out 2
                go_wp2
                go_meet
                case rel => exact ⟨_, ((a0_2.toList == ([] : List UInt8))), (by first | rfl | (simp; done) | (simp [*]; done)), H', ⟨by have := HJ1.out; first | omega | exact Nat.le_refl _⟩, ⟨by (with_reducible repeat (first | refine blk_drewN ?_ _ | refine blk_drew ?_ | refine blk_alloc ?_ _)); exact BK107.out⟩, ⟨by repeat (first | (with_reducible first | exact HB.out | apply below_alloc | apply pw_below_drewN | apply below_drew1 | refine below_set ?_ GE107.out) | exact HB.out)⟩⟩
              · rw [if_neg c19] at H
                have c19b0 : decide (a0_1 < 65536) = false := decide_eq_false c19
                clear c19
                have H' := Aside0.mk H
                clear H
                have hcz21_0 : wc.cell? ⟨gb107, 0, none⟩ = some (.int .i64 a0_0) := (blk_cell BK107.out 0).trans rfl
                have hcz21_1 : wc.cell? ⟨gb107, 1, none⟩ = some (.int .i64 a0_1) := (blk_cell BK107.out 1).trans rfl
                have hcz21_2 : wc.cell? ⟨gb107, 2, none⟩ = some (.string a0_2) := (blk_cell BK107.out 2).trans rfl
                have hfz21_0 := blk_frozen BK107.out 0
                have hfz21_1 := blk_frozen BK107.out 1
                have hfz21_2 := blk_frozen BK107.out 2
                go_wp2
                go_meet
                case rel => exact ⟨_, (false), (by first | rfl | (simp; done) | (simp [*]; done)), H', ⟨by have := HJ1.out; first | omega | exact Nat.le_refl _⟩, ⟨by (with_reducible repeat (first | refine blk_drewN ?_ _ | refine blk_drew ?_ | refine blk_alloc ?_ _)); exact BK107.out⟩, ⟨by repeat (first | (with_reducible first | exact HB.out | apply below_alloc | apply pw_below_drewN | apply below_drew1 | refine below_set ?_ GE107.out) | exact HB.out)⟩⟩
            · rw [if_neg c18] at H
              have c18b0 : decide (0 ≤ a0_1) = false := decide_eq_false c18
              clear c18
              have H' := Aside0.mk H
              clear H
              have hcz22_0 : wc.cell? ⟨gb107, 0, none⟩ = some (.int .i64 a0_0) := (blk_cell BK107.out 0).trans rfl
              have hcz22_1 : wc.cell? ⟨gb107, 1, none⟩ = some (.int .i64 a0_1) := (blk_cell BK107.out 1).trans rfl
              have hcz22_2 : wc.cell? ⟨gb107, 2, none⟩ = some (.string a0_2) := (blk_cell BK107.out 2).trans rfl
              have hfz22_0 := blk_frozen BK107.out 0
              have hfz22_1 := blk_frozen BK107.out 1
              have hfz22_2 := blk_frozen BK107.out 2
              go_wp2
              go_meet
              case rel => exact ⟨_, (false), (by first | rfl | (simp; done) | (simp [*]; done)), H', ⟨by have := HJ1.out; first | omega | exact Nat.le_refl _⟩, ⟨by (with_reducible repeat (first | refine blk_drewN ?_ _ | refine blk_drew ?_ | refine blk_alloc ?_ _)); exact BK107.out⟩, ⟨by repeat (first | (with_reducible first | exact HB.out | apply below_alloc | apply pw_below_drewN | apply below_drew1 | refine below_set ?_ GE107.out) | exact HB.out)⟩⟩
          · rw [if_neg c17] at H
            have c17b0 : (a0_0 == 2) = false := beq_eq_false_iff_ne.mpr c17
            have c17b1 : (a0_0 != 2) = true := bne_iff_ne.mpr c17
            (first | rw [c17b0] | (simp only [i64_w, i32_w]; rw [c17b0]) | skip)
            have H' := Aside0.mk H
            clear H
            have hcz23_0 : wc.cell? ⟨gb107, 0, none⟩ = some (.int .i64 a0_0) := (blk_cell BK107.out 0).trans rfl
            have hcz23_1 : wc.cell? ⟨gb107, 1, none⟩ = some (.int .i64 a0_1) := (blk_cell BK107.out 1).trans rfl
            have hcz23_2 : wc.cell? ⟨gb107, 2, none⟩ = some (.string a0_2) := (blk_cell BK107.out 2).trans rfl
            have hfz23_0 := blk_frozen BK107.out 0
            have hfz23_1 := blk_frozen BK107.out 1
            have hfz23_2 := blk_frozen BK107.out 2
            go_wp2
            go_meet
            case rel => exact ⟨_, (false), (by first | rfl | (simp; done) | (simp [*]; done)), H', ⟨by have := HJ1.out; first | omega | exact Nat.le_refl _⟩, ⟨by (with_reducible repeat (first | refine blk_drewN ?_ _ | refine blk_drew ?_ | refine blk_alloc ?_ _)); exact BK107.out⟩, ⟨by repeat (first | (with_reducible first | exact HB.out | apply below_alloc | apply pw_below_drewN | apply below_drew1 | refine below_set ?_ GE107.out) | exact HB.out)⟩⟩
        case rest =>
          clear HC16
          try clear c1
          try clear hcv1
          try clear p2
          try clear c4
          try clear c5
          try clear c5b0
          try clear c5b1
          try clear c6
          try clear c6b0
          try clear c7
          try clear c7b0
          try clear c12
          try clear hcv15
          try clear c17
          try clear c17b0
          try clear c17b1
          try clear c18
          try clear c18b0
          try clear c19
          try clear c19b0
          try clear hcz10_0
          try clear hcz10_1
          try clear hcz10_2
          try clear hcz11_0
          try clear hcz11_1
          try clear hcz11_2
          try clear hcz20_0
          try clear hcz20_1
          try clear hcz20_2
          try clear hcz21_0
          try clear hcz21_1
          try clear hcz21_2
          try clear hcz22_0
          try clear hcz22_1
          try clear hcz22_2
          try clear hcz23_0
          try clear hcz23_1
          try clear hcz23_2
          try clear hcz4_0
          try clear hcz4_1
          try clear hcz4_2
          try clear hcz8_0
          try clear hcz8_1
          try clear hcz8_2
          try clear hcz9_0
          try clear hcz9_1
          try clear hcz9_2
          try clear hfz10_0
          try clear hfz10_1
          try clear hfz10_2
          try clear hfz11_0
          try clear hfz11_1
          try clear hfz11_2
          try clear hfz20_0
          try clear hfz20_1
          try clear hfz20_2
          try clear hfz21_0
          try clear hfz21_1
          try clear hfz21_2
          try clear hfz22_0
          try clear hfz22_1
          try clear hfz22_2
          try clear hfz23_0
          try clear hfz23_1
          try clear hfz23_2
          try clear hfz4_0
          try clear hfz4_1
          try clear hfz4_2
          try clear hfz8_0
          try clear hfz8_1
          try clear hfz8_2
          try clear hfz9_0
          try clear hfz9_1
          try clear hfz9_2
          try clear p2
          obtain ⟨kq, x31_15, rfl, HA, HJ15, BK107, HB⟩ := hcut
          cases kq with
          | zero => exact absurd HA.out (by simp [spec_PieceBytes.j1])
          | succ kj15 =>
            have H := HA.out
            clear HA
            simp only [spec_PieceBytes.j1] at H
            by_cases c24 : x31_15 = true
            · subst c24
              have H1 : (some (strOfNums (([((IntKind.u64.wrap (a0_1)) / 256) % 256, ((IntKind.u64.wrap (a0_1))) % 256] : List Int)), true)) = some (r1, r2) := by rw [if_pos rfl] at H; exact H
              clear H
              have H := H1
              clear H1
              obtain ⟨y111, hy111⟩ : ∃ y_ : List Int, y_ = (([((IntKind.u64.wrap (a0_1)) / 256) % 256, ((IntKind.u64.wrap (a0_1))) % 256] : List Int)) := ⟨_, rfl⟩
              replace H : (some (strOfNums y111, true)) = some (r1, r2) := by first | (rw [hy111]; with_reducible exact H) | (have H2_ := (Option.bind_some _ _).symm.trans H; rw [hy111]; with_reducible exact H2_) | (have H2_ := (Option.bind_some _ _).symm.trans H; with_reducible exact H2_) | with_reducible exact H | (rw [hy111]; exact H) | exact H
              have Ny111 := Aside0.mk hy111
              clear hy111
              simp only [Option.some.injEq, Prod.mk.injEq] at H
              obtain ⟨rfl, rfl⟩ := H
              go_wp2_with (first | ((with_reducible refine gate_dst (N := 55) rfl ?_); refine Kd.R_lit (Kd.int .u8) _ 5 ?hg (N := 55) ?hd (xs := ([((IntKind.u64.wrap (a0_1)) / 256) % 256, ((IntKind.u64.wrap (a0_1))) % 256] : List Int)) (inner := [.int .u8 (((IntKind.u64.wrap (a0_1)) / 256) % 256), .int .u8 (((IntKind.u64.wrap (a0_1))) % 256)]) (ok := fun _ => True) (okp := fun _ => True) ?hr ?hp (fun _ hk => hk) trivial (Below.refl _ _) (Nat.le_refl _) (by simp) ?_; (case hd => rfl); (case hg => rfl); (case hr => first | (go_simp; done) | (go_simp; rfl)); (case hp => exact (Reps.one (show Kd.M (Kd.int .u8) _ _ _ (((IntKind.u64.wrap (a0_1)) / 256) % 256) [.int .u8 (((IntKind.u64.wrap (a0_1)) / 256) % 256)] from rfl) (Reps.one (show Kd.M (Kd.int .u8) _ _ _ (((IntKind.u64.wrap (a0_1))) % 256) [.int .u8 (((IntKind.u64.wrap (a0_1))) % 256)] from rfl) (Reps.none _ _)))); intro v112 w25 ho26 hb hg_ hnew_; clear hg_ hnew_; (first | rw [← Ny111.out] at ho26 | (simp only [Int.reduceToNat] at ho26; rw [← Ny111.out] at ho26)); have n0_ := Aside0.mk (Kd.R_lower ho26 (below_size (by repeat (first | (with_reducible first | exact HB.out | apply below_alloc | apply pw_below_drewN | apply below_drew1 | refine below_set ?_ GE107.out) | exact HB.out)))); have n1_ := Aside0.mk (blk_below (g := gb107) (o := .cells #[.int .i64 a0_0, .int .i64 a0_1, .string a0_2] 25 (0, 0)) (by (with_reducible repeat (first | refine blk_drewN ?_ _ | refine blk_drew ?_ | refine blk_alloc ?_ _)); exact BK107.out) hb); have n2_ := Aside0.mk (below_step (by repeat (first | (with_reducible first | exact HB.out | apply below_alloc | apply pw_below_drewN | apply below_drew1 | refine below_set ?_ GE107.out) | exact HB.out)) hb); clear BK107; clear HB; have HO113 := n0_; have BK107 := n1_; have HB := n2_; clear n0_ n1_ n2_; clear hb ho26; have hcv27 := own_string (P := Try.prog) Try.underlying58 Try.underlying5 Try.underlying9 (Kd.own_of_R HO113.out)))
              go_ret2
              exact ⟨by first | rfl | (simp [errW_none, errW_some] <;> rfl) | (simp [*, errW_none, errW_some] <;> rfl), by repeat (first | (with_reducible first | exact HB.out | apply below_alloc | apply pw_below_drewN | apply below_drew1 | refine below_set ?_ GE107.out) | exact HB.out)⟩
            · replace c24 := Bool.eq_false_iff.mpr c24
              subst c24
              have H1 : (if a0_0 = 3 then (if a0_1 ≥ (-2147483648) then (if a0_1 < 2147483648 then (spec_PieceBytes.j2 kj15 (IntKind.u64.wrap (a0_1)) (a0_2.toList == ([] : List UInt8)) a0_0 a0_1 a0_2) else (spec_PieceBytes.j2 kj15 (IntKind.u64.wrap (a0_1)) false a0_0 a0_1 a0_2)) else (spec_PieceBytes.j2 kj15 (IntKind.u64.wrap (a0_1)) false a0_0 a0_1 a0_2)) else (spec_PieceBytes.j2 kj15 (IntKind.u64.wrap (a0_1)) false a0_0 a0_1 a0_2)) = some (r1, r2) := by rw [if_neg (show ¬ (false = true) by decide)] at H; exact H
              clear H
              have H := H1
              clear H1
              have HC28 := Aside0.mk H
              clear H
              go_upto_region 6 with (fail)
              go_cut [57] (fun v57 wc => ∃ (kq : Nat) (x57_27 : Bool), v57 = .bool x57_27 ∧ Aside0 (spec_PieceBytes.j2 kq (IntKind.u64.wrap (a0_1)) x57_27 a0_0 a0_1 a0_2 = some (r1, r2)) ∧ Aside0 (kq ≤ kj15) ∧ Aside0 (wc.heap[gb107]? = some (.cells #[.int .i64 a0_0, .int .i64 a0_1, .string a0_2] 25 (0, 0))) ∧ Aside0 (Below w.heap.size w wc))
              case first =>
                have H := HC28.out
                clear HC28
                by_cases c29 : a0_0 = 3
                · rw [if_pos c29] at H
                  have c29b0 : (a0_0 == 3) = true := beq_iff_eq.mpr c29
                  have c29b1 : (a0_0 != 3) = false := bne_eq_false_iff_eq.mpr c29
                  clear c29
                  (first | rw [c29b0] | (simp only [i64_w, i32_w]; rw [c29b0]) | skip)
                  by_cases c30 : a0_1 ≥ (-2147483648)
                  · rw [if_pos c30] at H
                    have c30b0 : decide ((-2147483648) ≤ a0_1) = true := decide_eq_true c30
                    clear c30
                    by_cases c31 : a0_1 < 2147483648
                    · rw [if_pos c31] at H
                      have c31b0 : decide (a0_1 < 2147483648) = true := decide_eq_true c31
                      clear c31
                      have H' := Aside0.mk H
                      clear H
                      have hcz32_0 : wc.cell? ⟨gb107, 0, none⟩ = some (.int .i64 a0_0) := (blk_cell BK107.out 0).trans rfl
                      have hcz32_1 : wc.cell? ⟨gb107, 1, none⟩ = some (.int .i64 a0_1) := (blk_cell BK107.out 1).trans rfl
                      have hcz32_2 : wc.cell? ⟨gb107, 2, none⟩ = some (.string a0_2) := (blk_cell BK107.out 2).trans rfl
                      have hfz32_0 := blk_frozen BK107.out 0
                      have hfz32_1 := blk_frozen BK107.out 1
                      have hfz32_2 := blk_frozen BK107.out 2
                      go_wp2
                      go_meet
                      case rel => exact ⟨_, ((a0_2.toList == ([] : List UInt8))), (by first | rfl | (simp; done) | (simp [*]; done)), H', ⟨by have := HJ1.out; have := HJ15.out; first | omega | exact Nat.le_refl _⟩, ⟨by (with_reducible repeat (first | refine blk_drewN ?_ _ | refine blk_drew ?_ | refine blk_alloc ?_ _)); exact BK107.out⟩, ⟨by repeat (first | (with_reducible first | exact HB.out | apply below_alloc | apply pw_below_drewN | apply below_drew1 | refine below_set ?_ GE107.out) | exact HB.out)⟩⟩
                    · rw [if_neg c31] at H
                      have c31b0 : decide (a0_1 < 2147483648) = false := decide_eq_false c31
                      clear c31
                      have H' := Aside0.mk H
                      clear H
                      have hcz33_0 : wc.cell? ⟨gb107, 0, none⟩ = some (.int .i64 a0_0) := (blk_cell BK107.out 0).trans rfl
                      have hcz33_1 : wc.cell? ⟨gb107, 1, none⟩ = some (.int .i64 a0_1) := (blk_cell BK107.out 1).trans rfl
                      have hcz33_2 : wc.cell? ⟨gb107, 2, none⟩ = some (.string a0_2) := (blk_cell BK107.out 2).trans rfl
                      have hfz33_0 := blk_frozen BK107.out 0
                      have hfz33_1 := blk_frozen BK107.out 1
                      have hfz33_2 := blk_frozen BK107.out 2
                      go_wp2
                      go_meet
                      case rel => exact ⟨_, (false), (by first | rfl | (simp; done) | (simp [*]; done)), H', ⟨by have := HJ1.out; have := HJ15.out; first | omega | exact Nat.le_refl _⟩, ⟨by (with_reducible repeat (first | refine blk_drewN ?_ _ | refine blk_drew ?_ | refine blk_alloc ?_ _)); exact BK107.out⟩, ⟨by repeat (first | (with_reducible first | exact HB.out | apply below_alloc | apply pw_below_drewN | apply below_drew1 | refine below_set ?_ GE107.out) | exact HB.out)⟩⟩
                  · rw [if_neg c30] at H
                    have c30b0 : decide ((-2147483648) ≤ a0_1) = false := decide_eq_false c30
                    clear c30
                    have H' := Aside0.mk H
                    clear H
                    have hcz34_0 : wc.cell? ⟨gb107, 0, none⟩ = some (.int .i64 a0_0) := (blk_cell BK107.out 0).trans rfl
                    have hcz34_1 : wc.cell? ⟨gb107, 1, none⟩ = some (.int .i64 a0_1) := (blk_cell BK107.out 1).trans rfl
                    have hcz34_2 : wc.cell? ⟨gb107, 2, none⟩ = some (.string a0_2) := (blk_cell BK107.out 2).trans rfl
                    have hfz34_0 := blk_frozen BK107.out 0
                    have hfz34_1 := blk_frozen BK107.out 1
                    have hfz34_2 := blk_frozen BK107.out 2
                    go_wp2
                    go_meet
                    case rel => exact ⟨_, (false), (by first | rfl | (simp; done) | (simp [*]; done)), H', ⟨by have := HJ1.out; have := HJ15.out; first | omega | exact Nat.le_refl _⟩, ⟨by (with_reducible repeat (first | refine blk_drewN ?_ _ | refine blk_drew ?_ | refine blk_alloc ?_ _)); exact BK107.out⟩, ⟨by repeat (first | (with_reducible first | exact HB.out | apply below_alloc | apply pw_below_drewN | apply below_drew1 | refine below_set ?_ GE107.out) | exact HB.out)⟩⟩
                · rw [if_neg c29] at H
                  have c29b0 : (a0_0 == 3) = false := beq_eq_false_iff_ne.mpr c29
                  have c29b1 : (a0_0 != 3) = true := bne_iff_ne.mpr c29
                  (first | rw [c29b0] | (simp only [i64_w, i32_w]; rw [c29b0]) | skip)
                  have H' := Aside0.mk H
                  clear H
                  have hcz35_0 : wc.cell? ⟨gb107, 0, none⟩ = some (.int .i64 a0_0) := (blk_cell BK107.out 0).trans rfl
                  have hcz35_1 : wc.cell? ⟨gb107, 1, none⟩ = some (.int .i64 a0_1) := (blk_cell BK107.out 1).trans rfl
                  have hcz35_2 : wc.cell? ⟨gb107, 2, none⟩ = some (.string a0_2) := (blk_cell BK107.out 2).trans rfl
                  have hfz35_0 := blk_frozen BK107.out 0
                  have hfz35_1 := blk_frozen BK107.out 1
                  have hfz35_2 := blk_frozen BK107.out 2
                  go_wp2
                  go_meet
                  case rel => exact ⟨_, (false), (by first | rfl | (simp; done) | (simp [*]; done)), H', ⟨by have := HJ1.out; have := HJ15.out; first | omega | exact Nat.le_refl _⟩, ⟨by (with_reducible repeat (first | refine blk_drewN ?_ _ | refine blk_drew ?_ | refine blk_alloc ?_ _)); exact BK107.out⟩, ⟨by repeat (first | (with_reducible first | exact HB.out | apply below_alloc | apply pw_below_drewN | apply below_drew1 | refine below_set ?_ GE107.out) | exact HB.out)⟩⟩
              case rest =>
                clear HC28
                try clear c1
                try clear hcv1
                try clear c2
                try clear p2
                try clear hcv2
                try clear c3
                try clear c4
                try clear c5
                try clear c5b0
                try clear c5b1
                try clear c6
                try clear c6b0
                try clear c7
                try clear c7b0
                try clear c12
                try clear hcv15
                try clear c17
                try clear c17b0
                try clear c17b1
                try clear c18
                try clear c18b0
                try clear c19
                try clear c19b0
                try clear c24
                try clear hcv27
                try clear c29
                try clear c29b0
                try clear c29b1
                try clear c30
                try clear c30b0
                try clear c31
                try clear c31b0
                try clear hcz10_0
                try clear hcz10_1
                try clear hcz10_2
                try clear hcz11_0
                try clear hcz11_1
                try clear hcz11_2
                try clear hcz20_0
                try clear hcz20_1
                try clear hcz20_2
                try clear hcz21_0
                try clear hcz21_1
                try clear hcz21_2
                try clear hcz22_0
                try clear hcz22_1
                try clear hcz22_2
                try clear hcz23_0
                try clear hcz23_1
                try clear hcz23_2
                try clear hcz32_0
                try clear hcz32_1
                try clear hcz32_2
                try clear hcz33_0
                try clear hcz33_1
                try clear hcz33_2
                try clear hcz34_0
                try clear hcz34_1
                try clear hcz34_2
                try clear hcz35_0
                try clear hcz35_1
                try clear hcz35_2
                try clear hcz4_0
                try clear hcz4_1
                try clear hcz4_2
                try clear hcz8_0
                try clear hcz8_1
                try clear hcz8_2
                try clear hcz9_0
                try clear hcz9_1
                try clear hcz9_2
                try clear hfz10_0
                try clear hfz10_1
                try clear hfz10_2
                try clear hfz11_0
                try clear hfz11_1
                try clear hfz11_2
                try clear hfz20_0
                try clear hfz20_1
                try clear hfz20_2
                try clear hfz21_0
                try clear hfz21_1
                try clear hfz21_2
                try clear hfz22_0
                try clear hfz22_1
                try clear hfz22_2
                try clear hfz23_0
                try clear hfz23_1
                try clear hfz23_2
                try clear hfz32_0
                try clear hfz32_1
                try clear hfz32_2
                try clear hfz33_0
                try clear hfz33_1
                try clear hfz33_2
                try clear hfz34_0
                try clear hfz34_1
                try clear hfz34_2
                try clear hfz35_0
                try clear hfz35_1
                try clear hfz35_2
                try clear hfz4_0
                try clear hfz4_1
                try clear hfz4_2
                try clear hfz8_0
                try clear hfz8_1
                try clear hfz8_2
                try clear hfz9_0
                try clear hfz9_1
                try clear hfz9_2
                try clear p2
                obtain ⟨kq, x57_27, rfl, HA, HJ27, BK107, HB⟩ := hcut
                cases kq with
                | zero => exact absurd HA.out (by simp [spec_PieceBytes.j2])
                | succ kj27 =>
                  have H := HA.out
                  clear HA
                  simp only [spec_PieceBytes.j2] at H
                  by_cases c36 : x57_27 = true
                  · subst c36
                    have H1 : (some (strOfNums (([((IntKind.u64.wrap (a0_1)) / 16777216) % 256, ((IntKind.u64.wrap (a0_1)) / 65536) % 256, ((IntKind.u64.wrap (a0_1)) / 256) % 256, ((IntKind.u64.wrap (a0_1))) % 256] : List Int)), true)) = some (r1, r2) := by rw [if_pos rfl] at H; exact H
                    clear H
                    have H := H1
                    clear H1
                    obtain ⟨y114, hy114⟩ : ∃ y_ : List Int, y_ = (([((IntKind.u64.wrap (a0_1)) / 16777216) % 256, ((IntKind.u64.wrap (a0_1)) / 65536) % 256, ((IntKind.u64.wrap (a0_1)) / 256) % 256, ((IntKind.u64.wrap (a0_1))) % 256] : List Int)) := ⟨_, rfl⟩
                    replace H : (some (strOfNums y114, true)) = some (r1, r2) := by first | (rw [hy114]; with_reducible exact H) | (have H2_ := (Option.bind_some _ _).symm.trans H; rw [hy114]; with_reducible exact H2_) | (have H2_ := (Option.bind_some _ _).symm.trans H; with_reducible exact H2_) | with_reducible exact H | (rw [hy114]; exact H) | exact H
                    have Ny114 := Aside0.mk hy114
                    clear hy114
                    simp only [Option.some.injEq, Prod.mk.injEq] at H
                    obtain ⟨rfl, rfl⟩ := H
                    go_wp2_with (first | ((with_reducible refine gate_dst (N := 87) rfl ?_); refine Kd.R_lit (Kd.int .u8) _ 5 ?hg (N := 87) ?hd (xs := ([((IntKind.u64.wrap (a0_1)) / 16777216) % 256, ((IntKind.u64.wrap (a0_1)) / 65536) % 256, ((IntKind.u64.wrap (a0_1)) / 256) % 256, ((IntKind.u64.wrap (a0_1))) % 256] : List Int)) (inner := [.int .u8 (((IntKind.u64.wrap (a0_1)) / 16777216) % 256), .int .u8 (((IntKind.u64.wrap (a0_1)) / 65536) % 256), .int .u8 (((IntKind.u64.wrap (a0_1)) / 256) % 256), .int .u8 (((IntKind.u64.wrap (a0_1))) % 256)]) (ok := fun _ => True) (okp := fun _ => True) ?hr ?hp (fun _ hk => hk) trivial (Below.refl _ _) (Nat.le_refl _) (by simp) ?_; (case hd => rfl); (case hg => rfl); (case hr => first | (go_simp; done) | (go_simp; rfl)); (case hp => exact (Reps.one (show Kd.M (Kd.int .u8) _ _ _ (((IntKind.u64.wrap (a0_1)) / 16777216) % 256) [.int .u8 (((IntKind.u64.wrap (a0_1)) / 16777216) % 256)] from rfl) (Reps.one (show Kd.M (Kd.int .u8) _ _ _ (((IntKind.u64.wrap (a0_1)) / 65536) % 256) [.int .u8 (((IntKind.u64.wrap (a0_1)) / 65536) % 256)] from rfl) (Reps.one (show Kd.M (Kd.int .u8) _ _ _ (((IntKind.u64.wrap (a0_1)) / 256) % 256) [.int .u8 (((IntKind.u64.wrap (a0_1)) / 256) % 256)] from rfl) (Reps.one (show Kd.M (Kd.int .u8) _ _ _ (((IntKind.u64.wrap (a0_1))) % 256) [.int .u8 (((IntKind.u64.wrap (a0_1))) % 256)] from rfl) (Reps.none _ _)))))); intro v115 w37 ho38 hb hg_ hnew_; clear hg_ hnew_; (first | rw [← Ny114.out] at ho38 | (simp only [Int.reduceToNat] at ho38; rw [← Ny114.out] at ho38)); have n0_ := Aside0.mk (Kd.R_lower ho38 (below_size (by repeat (first | (with_reducible first | exact HB.out | apply below_alloc | apply pw_below_drewN | apply below_drew1 | refine below_set ?_ GE107.out) | exact HB.out)))); have n1_ := Aside0.mk (blk_below (g := gb107) (o := .cells #[.int .i64 a0_0, .int .i64 a0_1, .string a0_2] 25 (0, 0)) (by (with_reducible repeat (first | refine blk_drewN ?_ _ | refine blk_drew ?_ | refine blk_alloc ?_ _)); exact BK107.out) hb); have n2_ := Aside0.mk (below_step (by repeat (first | (with_reducible first | exact HB.out | apply below_alloc | apply pw_below_drewN | apply below_drew1 | refine below_set ?_ GE107.out) | exact HB.out)) hb); clear BK107; clear HB; have HO116 := n0_; have BK107 := n1_; have HB := n2_; clear n0_ n1_ n2_; clear hb ho38; have hcv39 := own_string (P := Try.prog) Try.underlying58 Try.underlying5 Try.underlying9 (Kd.own_of_R HO116.out)))
                    go_ret2
                    exact ⟨by first | rfl | (simp [errW_none, errW_some] <;> rfl) | (simp [*, errW_none, errW_some] <;> rfl), by repeat (first | (with_reducible first | exact HB.out | apply below_alloc | apply pw_below_drewN | apply below_drew1 | refine below_set ?_ GE107.out) | exact HB.out)⟩
                  · replace c36 := Bool.eq_false_iff.mpr c36
                    subst c36
                    have H1 : (if a0_0 = 4 then (if a0_1 = 0 then ((spec_hasZero.f kj27 a0_2).bind fun t117 => (spec_PieceBytes.j3 kj27 (!t117) a0_0 a0_1 a0_2)) else (spec_PieceBytes.j3 kj27 false a0_0 a0_1 a0_2)) else (spec_PieceBytes.j3 kj27 false a0_0 a0_1 a0_2)) = some (r1, r2) := by rw [if_neg (show ¬ (false = true) by decide)] at H; exact H
                    clear H
                    have H := H1
                    clear H1
                    have HC40 := Aside0.mk H
                    clear H
                    go_upto_region 8 with (fail)
                    go_cut [89] (fun v89 wc => ∃ (kq : Nat) (x89_39 : Bool), v89 = .bool x89_39 ∧ Aside0 (spec_PieceBytes.j3 kq x89_39 a0_0 a0_1 a0_2 = some (r1, r2)) ∧ Aside0 (kq ≤ kj27) ∧ Aside0 (wc.heap[gb107]? = some (.cells #[.int .i64 a0_0, .int .i64 a0_1, .string a0_2] 25 (0, 0))) ∧ Aside0 (Below w.heap.size w wc))
                    case first =>
                      have H := HC40.out
                      clear HC40
                      by_cases c41 : a0_0 = 4
                      · rw [if_pos c41] at H
                        have c41b0 : (a0_0 == 4) = true := beq_iff_eq.mpr c41
                        have c41b1 : (a0_0 != 4) = false := bne_eq_false_iff_eq.mpr c41
                        clear c41
                        (first | rw [c41b0] | (simp only [i64_w, i32_w]; rw [c41b0]) | skip)
                        by_cases c42 : a0_1 = 0
                        · rw [if_pos c42] at H
                          have c42b0 : (a0_1 == 0) = true := beq_iff_eq.mpr c42
                          have c42b1 : (a0_1 != 0) = false := bne_eq_false_iff_eq.mpr c42
                          clear c42
                          replace H := Option.bind_eq_some_iff.mp H
                          obtain ⟨t117, A430, H⟩ := H
                          replace H : (spec_PieceBytes.j3 kj27 (!t117) a0_0 a0_1 a0_2) = some (r1, r2) := H
                          have A43 := Aside0.mk A430
                          clear A430
                          have H' := Aside0.mk H
                          clear H
                          have hcz44_0 : wc.cell? ⟨gb107, 0, none⟩ = some (.int .i64 a0_0) := (blk_cell BK107.out 0).trans rfl
                          have hcz44_1 : wc.cell? ⟨gb107, 1, none⟩ = some (.int .i64 a0_1) := (blk_cell BK107.out 1).trans rfl
                          have hcz44_2 : wc.cell? ⟨gb107, 2, none⟩ = some (.string a0_2) := (blk_cell BK107.out 2).trans rfl
                          have hfz44_0 := blk_frozen BK107.out 0
                          have hfz44_1 := blk_frozen BK107.out 1
                          have hfz44_2 := blk_frozen BK107.out 2
                          go_wp2_with (first | (go_at_call 44; (with_reducible refine (spec_hasZero.calls kj27 a0_2 t117 _ A43.out).mono ?_); rintro e w' ⟨rfl, ⟨nd, rfl⟩⟩))
                          go_meet
                          case rel => exact ⟨_, (!t117), (by first | rfl | (simp; done) | (simp [*]; done)), H', ⟨by have := HJ1.out; have := HJ15.out; have := HJ27.out; first | omega | exact Nat.le_refl _⟩, ⟨by (with_reducible repeat (first | refine blk_drewN ?_ _ | refine blk_drew ?_ | refine blk_alloc ?_ _)); exact BK107.out⟩, ⟨by repeat (first | (with_reducible first | exact HB.out | apply below_alloc | apply pw_below_drewN | apply below_drew1 | refine below_set ?_ GE107.out) | exact HB.out)⟩⟩
                        · rw [if_neg c42] at H
                          have c42b0 : (a0_1 == 0) = false := beq_eq_false_iff_ne.mpr c42
                          have c42b1 : (a0_1 != 0) = true := bne_iff_ne.mpr c42
                          have H' := Aside0.mk H
                          clear H
                          have hcz45_0 : wc.cell? ⟨gb107, 0, none⟩ = some (.int .i64 a0_0) := (blk_cell BK107.out 0).trans rfl
                          have hcz45_1 : wc.cell? ⟨gb107, 1, none⟩ = some (.int .i64 a0_1) := (blk_cell BK107.out 1).trans rfl
                          have hcz45_2 : wc.cell? ⟨gb107, 2, none⟩ = some (.string a0_2) := (blk_cell BK107.out 2).trans rfl
                          have hfz45_0 := blk_frozen BK107.out 0
                          have hfz45_1 := blk_frozen BK107.out 1
                          have hfz45_2 := blk_frozen BK107.out 2
                          go_wp2
                          go_meet
                          case rel => exact ⟨_, (false), (by first | rfl | (simp; done) | (simp [*]; done)), H', ⟨by have := HJ1.out; have := HJ15.out; have := HJ27.out; first | omega | exact Nat.le_refl _⟩, ⟨by (with_reducible repeat (first | refine blk_drewN ?_ _ | refine blk_drew ?_ | refine blk_alloc ?_ _)); exact BK107.out⟩, ⟨by repeat (first | (with_reducible first | exact HB.out | apply below_alloc | apply pw_below_drewN | apply below_drew1 | refine below_set ?_ GE107.out) | exact HB.out)⟩⟩
                      · rw [if_neg c41] at H
                        have c41b0 : (a0_0 == 4) = false := beq_eq_false_iff_ne.mpr c41
                        have c41b1 : (a0_0 != 4) = true := bne_iff_ne.mpr c41
                        (first | rw [c41b0] | (simp only [i64_w, i32_w]; rw [c41b0]) | skip)
                        have H' := Aside0.mk H
                        clear H
                        have hcz46_0 : wc.cell? ⟨gb107, 0, none⟩ = some (.int .i64 a0_0) := (blk_cell BK107.out 0).trans rfl
                        have hcz46_1 : wc.cell? ⟨gb107, 1, none⟩ = some (.int .i64 a0_1) := (blk_cell BK107.out 1).trans rfl
                        have hcz46_2 : wc.cell? ⟨gb107, 2, none⟩ = some (.string a0_2) := (blk_cell BK107.out 2).trans rfl
                        have hfz46_0 := blk_frozen BK107.out 0
                        have hfz46_1 := blk_frozen BK107.out 1
                        have hfz46_2 := blk_frozen BK107.out 2
                        go_wp2
                        go_meet
                        case rel => exact ⟨_, (false), (by first | rfl | (simp; done) | (simp [*]; done)), H', ⟨by have := HJ1.out; have := HJ15.out; have := HJ27.out; first | omega | exact Nat.le_refl _⟩, ⟨by (with_reducible repeat (first | refine blk_drewN ?_ _ | refine blk_drew ?_ | refine blk_alloc ?_ _)); exact BK107.out⟩, ⟨by repeat (first | (with_reducible first | exact HB.out | apply below_alloc | apply pw_below_drewN | apply below_drew1 | refine below_set ?_ GE107.out) | exact HB.out)⟩⟩
                    case rest =>
                      clear HC40
                      try clear c1
                      try clear hcv1
                      try clear c2
                      try clear p2
                      try clear hcv2
                      try clear c3
                      try clear hcv3
                      try clear c4
                      try clear c5
                      try clear c5b0
                      try clear c5b1
                      try clear c6
                      try clear c6b0
                      try clear c7
                      try clear c7b0
                      try clear c12
                      try clear hcv15
                      try clear c17
                      try clear c17b0
                      try clear c17b1
                      try clear c18
                      try clear c18b0
                      try clear c19
                      try clear c19b0
                      try clear c24
                      try clear hcv27
                      try clear c29
                      try clear c29b0
                      try clear c29b1
                      try clear c30
                      try clear c30b0
                      try clear c31
                      try clear c31b0
                      try clear c36
                      try clear hcv39
                      try clear c41
                      try clear c41b0
                      try clear c41b1
                      try clear c42
                      try clear c42b0
                      try clear c42b1
                      try clear hcz10_0
                      try clear hcz10_1
                      try clear hcz10_2
                      try clear hcz11_0
                      try clear hcz11_1
                      try clear hcz11_2
                      try clear hcz20_0
                      try clear hcz20_1
                      try clear hcz20_2
                      try clear hcz21_0
                      try clear hcz21_1
                      try clear hcz21_2
                      try clear hcz22_0
                      try clear hcz22_1
                      try clear hcz22_2
                      try clear hcz23_0
                      try clear hcz23_1
                      try clear hcz23_2
                      try clear hcz32_0
                      try clear hcz32_1
                      try clear hcz32_2
                      try clear hcz33_0
                      try clear hcz33_1
                      try clear hcz33_2
                      try clear hcz34_0
                      try clear hcz34_1
                      try clear hcz34_2
                      try clear hcz35_0
                      try clear hcz35_1
                      try clear hcz35_2
                      try clear hcz44_0
                      try clear hcz44_1
                      try clear hcz44_2
                      try clear hcz45_0
                      try clear hcz45_1
                      try clear hcz45_2
                      try clear hcz46_0
                      try clear hcz46_1
                      try clear hcz46_2
                      try clear hcz4_0
                      try clear hcz4_1
                      try clear hcz4_2
                      try clear hcz8_0
                      try clear hcz8_1
                      try clear hcz8_2
                      try clear hcz9_0
                      try clear hcz9_1
                      try clear hcz9_2
                      try clear hfz10_0
                      try clear hfz10_1
                      try clear hfz10_2
                      try clear hfz11_0
                      try clear hfz11_1
                      try clear hfz11_2
                      try clear hfz20_0
                      try clear hfz20_1
                      try clear hfz20_2
                      try clear hfz21_0
                      try clear hfz21_1
                      try clear hfz21_2
                      try clear hfz22_0
                      try clear hfz22_1
                      try clear hfz22_2
                      try clear hfz23_0
                      try clear hfz23_1
                      try clear hfz23_2
                      try clear hfz32_0
                      try clear hfz32_1
                      try clear hfz32_2
                      try clear hfz33_0
                      try clear hfz33_1
                      try clear hfz33_2
                      try clear hfz34_0
                      try clear hfz34_1
                      try clear hfz34_2
                      try clear hfz35_0
                      try clear hfz35_1
                      try clear hfz35_2
                      try clear hfz44_0
                      try clear hfz44_1
                      try clear hfz44_2
                      try clear hfz45_0
                      try clear hfz45_1
                      try clear hfz45_2
                      try clear hfz46_0
                      try clear hfz46_1
                      try clear hfz46_2
                      try clear hfz4_0
                      try clear hfz4_1
                      try clear hfz4_2
                      try clear hfz8_0
                      try clear hfz8_1
                      try clear hfz8_2
                      try clear hfz9_0
                      try clear hfz9_1
                      try clear hfz9_2
                      try clear p2
                      obtain ⟨kq, x89_39, rfl, HA, HJ39, BK107, HB⟩ := hcut
                      cases kq with
                      | zero => exact absurd HA.out (by simp [spec_PieceBytes.j3])
                      | succ kj39 =>
                        have H := HA.out
                        clear HA
                        simp only [spec_PieceBytes.j3] at H
                        by_cases c47 : x89_39 = true
                        · subst c47
                          have H1 : (if a0_2.size + 1 ≤ 9223372036854775807 then (some (a0_2 ++ (⟨#[0]⟩ : ByteArray), true)) else (none)) = some (r1, r2) := by rw [if_pos rfl] at H; exact H
                          clear H
                          have H := H1
                          clear H1
                          by_cases c48 : a0_2.size + 1 ≤ 9223372036854775807
                          · rw [if_pos c48] at H
                            have c48b0 := eq_true c48
                            have c48b1 : decide (a0_2.size + 1 ≤ 9223372036854775807) = true := decide_eq_true c48
                            try have c48b2 : (9223372036854775807 < a0_2.size + 1) = False := eq_false (Nat.not_lt.2 c48)
                            simp only [Option.some.injEq, Prod.mk.injEq] at H
                            obtain ⟨rfl, rfl⟩ := H
                            have hcz49_0 : wc.cell? ⟨gb107, 0, none⟩ = some (.int .i64 a0_0) := (blk_cell BK107.out 0).trans rfl
                            have hcz49_1 : wc.cell? ⟨gb107, 1, none⟩ = some (.int .i64 a0_1) := (blk_cell BK107.out 1).trans rfl
                            have hcz49_2 : wc.cell? ⟨gb107, 2, none⟩ = some (.string a0_2) := (blk_cell BK107.out 2).trans rfl
                            have hfz49_0 := blk_frozen BK107.out 0
                            have hfz49_1 := blk_frozen BK107.out 1
                            have hfz49_2 := blk_frozen BK107.out 2
                            go_wp2
                            go_ret2
                            exact ⟨by first | rfl | (simp [errW_none, errW_some] <;> rfl) | (simp [*, errW_none, errW_some] <;> rfl), by repeat (first | (with_reducible first | exact HB.out | apply below_alloc | apply pw_below_drewN | apply below_drew1 | refine below_set ?_ GE107.out) | exact HB.out)⟩
                          · rw [if_neg c48] at H
                            exact absurd H (by simp)
                        · replace c47 := Bool.eq_false_iff.mpr c47
                          subst c47
                          have H1 : (if a0_0 = 5 then (if a0_1 = 0 then (some (a0_2, true)) else (some ((⟨#[]⟩ : ByteArray), false))) else (some ((⟨#[]⟩ : ByteArray), false))) = some (r1, r2) := by rw [if_neg (show ¬ (false = true) by decide)] at H; exact H
                          clear H
                          have H := H1
                          clear H1
                          by_cases c50 : a0_0 = 5
                          · rw [if_pos c50] at H
                            have c50b0 : (a0_0 == 5) = true := beq_iff_eq.mpr c50
                            have c50b1 : (a0_0 != 5) = false := bne_eq_false_iff_eq.mpr c50
                            clear c50
                            by_cases c51 : a0_1 = 0
                            · rw [if_pos c51] at H
                              have c51b0 : (a0_1 == 0) = true := beq_iff_eq.mpr c51
                              have c51b1 : (a0_1 != 0) = false := bne_eq_false_iff_eq.mpr c51
                              clear c51
                              simp only [Option.some.injEq, Prod.mk.injEq] at H
                              obtain ⟨rfl, rfl⟩ := H
                              have hcz52_0 : wc.cell? ⟨gb107, 0, none⟩ = some (.int .i64 a0_0) := (blk_cell BK107.out 0).trans rfl
                              have hcz52_1 : wc.cell? ⟨gb107, 1, none⟩ = some (.int .i64 a0_1) := (blk_cell BK107.out 1).trans rfl
                              have hcz52_2 : wc.cell? ⟨gb107, 2, none⟩ = some (.string a0_2) := (blk_cell BK107.out 2).trans rfl
                              have hfz52_0 := blk_frozen BK107.out 0
                              have hfz52_1 := blk_frozen BK107.out 1
                              have hfz52_2 := blk_frozen BK107.out 2
                              go_wp2
                              go_ret2
                              exact ⟨by first | rfl | (simp [errW_none, errW_some] <;> rfl) | (simp [*, errW_none, errW_some] <;> rfl), by repeat (first | (with_reducible first | exact HB.out | apply below_alloc | apply pw_below_drewN | apply below_drew1 | refine below_set ?_ GE107.out) | exact HB.out)⟩
                            · rw [if_neg c51] at H
                              have c51b0 : (a0_1 == 0) = false := beq_eq_false_iff_ne.mpr c51
                              have c51b1 : (a0_1 != 0) = true := bne_iff_ne.mpr c51
                              simp only [Option.some.injEq, Prod.mk.injEq] at H
                              obtain ⟨rfl, rfl⟩ := H
                              have hcz53_0 : wc.cell? ⟨gb107, 0, none⟩ = some (.int .i64 a0_0) := (blk_cell BK107.out 0).trans rfl
                              have hcz53_1 : wc.cell? ⟨gb107, 1, none⟩ = some (.int .i64 a0_1) := (blk_cell BK107.out 1).trans rfl
                              have hcz53_2 : wc.cell? ⟨gb107, 2, none⟩ = some (.string a0_2) := (blk_cell BK107.out 2).trans rfl
                              have hfz53_0 := blk_frozen BK107.out 0
                              have hfz53_1 := blk_frozen BK107.out 1
                              have hfz53_2 := blk_frozen BK107.out 2
                              go_wp2
                              go_ret2
                              exact ⟨by first | rfl | (simp [errW_none, errW_some] <;> rfl) | (simp [*, errW_none, errW_some] <;> rfl), by repeat (first | (with_reducible first | exact HB.out | apply below_alloc | apply pw_below_drewN | apply below_drew1 | refine below_set ?_ GE107.out) | exact HB.out)⟩
                          · rw [if_neg c50] at H
                            have c50b0 : (a0_0 == 5) = false := beq_eq_false_iff_ne.mpr c50
                            have c50b1 : (a0_0 != 5) = true := bne_iff_ne.mpr c50
                            simp only [Option.some.injEq, Prod.mk.injEq] at H
                            obtain ⟨rfl, rfl⟩ := H
                            have hcz54_0 : wc.cell? ⟨gb107, 0, none⟩ = some (.int .i64 a0_0) := (blk_cell BK107.out 0).trans rfl
                            have hcz54_1 : wc.cell? ⟨gb107, 1, none⟩ = some (.int .i64 a0_1) := (blk_cell BK107.out 1).trans rfl
                            have hcz54_2 : wc.cell? ⟨gb107, 2, none⟩ = some (.string a0_2) := (blk_cell BK107.out 2).trans rfl
                            have hfz54_0 := blk_frozen BK107.out 0
                            have hfz54_1 := blk_frozen BK107.out 1
                            have hfz54_2 := blk_frozen BK107.out 2
                            go_wp2
                            go_ret2
                            exact ⟨by first | rfl | (simp [errW_none, errW_some] <;> rfl) | (simp [*, errW_none, errW_some] <;> rfl), by repeat (first | (with_reducible first | exact HB.out | apply below_alloc | apply pw_below_drewN | apply below_drew1 | refine below_set ?_ GE107.out) | exact HB.out)⟩

end Go.Proofs.Ythcikkjjegfblab.P
