-- Written by the program wip/myprint.py of this session, over the kit's print of the translation. Lean checks it.
import Derived.Test.YthcikkjjegfblabLibMsg
import Derived.Test.YthcikkjjegfblabPx0
import Derived.Test.YthcikkjjegfblabPx2
namespace Go.Proofs.Ythcikkjjegfblab.P
open Go.RowKit Go.Proofs.YthcikkjjegfblabW.PrintWords Go.Proofs.YthcikkjjegfblabW.PrintLast Go.Proofs.YthcikkjjegfblabW.PrintMore
attribute [local go_sem] max2_int min2_int max_two min_two max_three min_three max_four min_four   -- for this text's walks alone
set_option linter.unusedVariables false
set_option linter.unusedSimpArgs false

/-! ### spec_Pieces: function 16 -/
def spec_Pieces.l0 : Nat → List (S25) → ByteArray → Int → Option (ByteArray × Bool)
  | 0, _, _, _ => none
  | k + 1, x0, x4, x5 => if x5 < (x0.length : Int) then (if 0 ≤ x5 then ((spec_PieceBytes.f k ((rd_T25 x0 x5).f0) ((rd_T25 x0 x5).f1) ((rd_T25 x0 x5).f2)).bind fun bt119 => (if bt119.2 = true then (if (wrap64 ((x4.size : Int) + (bt119.1.size : Int))) > 20000 then (some ((⟨#[]⟩ : ByteArray), false)) else (if x4.size + bt119.1.size ≤ 9223372036854775807 then (spec_Pieces.l0 k x0 (x4 ++ bt119.1) (wrap64 (x5 + 1))) else (none))) else (some ((⟨#[]⟩ : ByteArray), false)))) else (none)) else (some (x4, true))
def spec_Pieces.f (k : Nat) (l0 : List (S25)) : Option (ByteArray × Bool) := spec_Pieces.l0 k l0 (⟨#[]⟩ : ByteArray) 0
theorem spec_Pieces.mono_l : ∀ k, (∀ y0 y1 y2, LeO (spec_Pieces.l0 k y0 y1 y2) (spec_Pieces.l0 (k + 1) y0 y1 y2))
  | 0 => fun _ _ _ r h => by simp [spec_Pieces.l0] at h
  | k + 1 => by
    have ih0 := spec_Pieces.mono_l k
    · intro y0 y1 y2
      unfold spec_Pieces.l0
      repeat' first
      | (with_reducible exact ih0 _ _ _)
      | (with_reducible exact spec_PieceBytes.mono _ _ _ _)
      | (with_reducible exact LeO.refl _)
      | (with_reducible exact LeO.none _)
      | (with_reducible refine LeO.ite ?_ ?_)
      | (with_reducible refine LeO.bind ?_ (fun _ => ?_))
      | exact ih0 _ _ _
      | exact spec_PieceBytes.mono _ _ _ _
      | exact LeO.none _
      | refine LeO.ite ?_ ?_
      | refine LeO.bind ?_ (fun _ => ?_)
theorem spec_Pieces.mono : ∀ a0 k, LeO (spec_Pieces.f k a0) (spec_Pieces.f (k + 1) a0) := by
  intro a0 k
  have ih0 := spec_Pieces.mono_l k
  unfold spec_Pieces.f
  repeat' first
      | (with_reducible exact ih0 _ _ _)
      | (with_reducible exact spec_PieceBytes.mono _ _ _ _)
      | (with_reducible exact LeO.refl _)
      | (with_reducible exact LeO.none _)
      | (with_reducible refine LeO.ite ?_ ?_)
      | (with_reducible refine LeO.bind ?_ (fun _ => ?_))
      | exact ih0 _ _ _
      | exact spec_PieceBytes.mono _ _ _ _
      | exact LeO.none _
      | refine LeO.ite ?_ ?_
      | refine LeO.bind ?_ (fun _ => ?_)
set_option maxHeartbeats 8000000 in
set_option maxRecDepth 100000 in
theorem spec_Pieces.calls (k : Nat) (A0 : Option Addr) (c0 : Nat) (l0 : List (S25)) (r1 : ByteArray) (r2 : Bool) (w : World) (hr0 : Kd.C k25 w A0 l0.length l0) (hc0 : l0.length ≤ c0) (h : spec_Pieces.f k l0 = some (r1, r2)) :
    Calls Try.prog 16 #[.slice A0 l0.length c0] w fun e w' => e = .returned (.tuple #[.string r1, .bool r2]) ∧ Below w.heap.size w w' := by
  have hu25 := Try.underlying25
  have HR0 := Aside0.mk hr0
  have HC0 := Aside0.mk hc0
  clear hr0 hc0
  have HB := Aside0.mk (Below.refl w.heap.size w)
  have H : (spec_Pieces.l0 k l0 (⟨#[]⟩ : ByteArray) 0) = some (r1, r2) := h
  clear h
  have H' := Aside0.mk H
  clear H
  go_enter Try.func16, Try.ntmps16
  go_wp2
  go_loopg [4, 5] k (fun kq v4 v5 w' => ∃ (x4_1 : ByteArray) (x5_1 : Int), v4 = .string x4_1 ∧ v5 = .int .i64 x5_1 ∧ Aside0 (spec_Pieces.l0 kq l0 x4_1 x5_1 = some (r1, r2)) ∧ Aside0 (kq ≤ k) ∧ Aside0 (Below w.heap.size w w'))
  case atStart => exact ⟨((⟨#[]⟩ : ByteArray)), (0), (by first | rfl | (simp; done) | (simp [*]; done)), (by first | rfl | (simp; done) | (simp [*]; done)), H', ⟨Nat.le_refl _⟩, ⟨by repeat (first | (with_reducible first | exact HB.out | apply below_alloc | apply pw_below_drewN | apply below_drew1) | exact HB.out)⟩⟩
  case round =>
    clear H'
    try clear c1
    obtain ⟨x4_1, x5_1, rfl, rfl, HA, HK1, HB⟩ := hrel
    cases gk with
    | zero => exact absurd HA.out (by simp [spec_Pieces.l0])
    | succ k1 =>
      have H := HA.out
      clear HA
      simp only [spec_Pieces.l0] at H
      by_cases c2 : x5_1 < (l0.length : Int)
      · rw [if_pos c2] at H
        have c2b0 : decide (x5_1 < (l0.length : Int)) = true := decide_eq_true c2
        clear c2
        by_cases c3 : 0 ≤ x5_1
        · rw [if_pos c3] at H
          have c3b0 : decide (0 ≤ x5_1) = true := decide_eq_true c3
          clear c3
          replace H := Option.bind_eq_some_iff.mp H
          obtain ⟨⟨t119, t120⟩, A40, H⟩ := H
          replace H : (if t120 = true then (if (wrap64 ((x4_1.size : Int) + (t119.size : Int))) > 20000 then (some ((⟨#[]⟩ : ByteArray), false)) else (if x4_1.size + t119.size ≤ 9223372036854775807 then (spec_Pieces.l0 k1 l0 (x4_1 ++ t119) (wrap64 (x5_1 + 1))) else (none))) else (some ((⟨#[]⟩ : ByteArray), false))) = some (r1, r2) := H
          have A4 := Aside0.mk A40
          clear A40
          by_cases c5 : t120 = true
          · subst c5
            have H1 : (if (wrap64 ((x4_1.size : Int) + (t119.size : Int))) > 20000 then (some ((⟨#[]⟩ : ByteArray), false)) else (if x4_1.size + t119.size ≤ 9223372036854775807 then (spec_Pieces.l0 k1 l0 (x4_1 ++ t119) (wrap64 (x5_1 + 1))) else (none))) = some (r1, r2) := by rw [if_pos rfl] at H; exact H
            clear H
            have H := H1
            clear H1
            by_cases c6 : (wrap64 ((x4_1.size : Int) + (t119.size : Int))) > 20000
            · rw [if_pos c6] at H
              have c6b0 : decide (20000 < (wrap64 ((x4_1.size : Int) + (t119.size : Int)))) = true := decide_eq_true c6
              clear c6
              simp only [Option.some.injEq, Prod.mk.injEq] at H
              obtain ⟨rfl, rfl⟩ := H
              have p118 : 0 ≤ (x5_1 : Int) := of_decide_eq_true (by first | (with_reducible assumption) | assumption)
              have q118 : x5_1 < (l0.length : Int) := of_decide_eq_true (by first | (with_reducible assumption) | assumption)
              obtain ⟨ad118, e118, hx118_0, hx118_1, hx118_2⟩ := at_T25 HR0.out x5_1 p118 q118
              cases e118
              replace hx118_0 := (HB.out.cell (World.block_lt_of_cell? w _ hx118_0)).trans hx118_0
              replace hx118_1 := (HB.out.cell (World.block_lt_of_cell? w _ hx118_1)).trans hx118_1
              replace hx118_2 := (HB.out.cell (World.block_lt_of_cell? w _ hx118_2)).trans hx118_2
              replace p118 := eq_true p118
              replace q118 := eq_true q118
              go_wp2_with (first | ((with_reducible refine gate_callee (f := 42) rfl ?_); refine goesL_ (some 19) rfl rfl Try.func42 (by kernel_rfl) rfl #[.agg #[.int .i64 ((rd_T25 l0 x5_1).f0), .int .i64 ((rd_T25 l0 x5_1).f1), .string ((rd_T25 l0 x5_1).f2)]] rfl (by (try simp only [List.map_toArray, List.map_cons, List.map_nil]); first | done | rfl | (simp only [List.length_drop, List.length_take]; rfl)) ?_; (with_reducible refine (spec_PieceBytes.calls k1 ((rd_T25 l0 x5_1).f0) ((rd_T25 l0 x5_1).f1) ((rd_T25 l0 x5_1).f2) t119 true _ A4.out).mono ?_); rintro e w7 ⟨rfl, hb⟩; refine ⟨_, rfl, ?_⟩; have n0_ := Aside0.mk (below_step (by repeat (first | (with_reducible first | exact HB.out | apply below_alloc | apply pw_below_drewN | apply below_drew1) | exact HB.out)) hb); clear HB; have HB := n0_; clear n0_; (try clear hb); (try clear hb2); (try clear hk); (try clear hi)))
              go_ret2
              exact ⟨by first | rfl | (simp [errW_none, errW_some] <;> rfl) | (simp [*, errW_none, errW_some] <;> rfl), by repeat (first | (with_reducible first | exact HB.out | apply below_alloc | apply pw_below_drewN | apply below_drew1) | exact HB.out)⟩
            · rw [if_neg c6] at H
              have c6b0 : decide (20000 < (wrap64 ((x4_1.size : Int) + (t119.size : Int)))) = false := decide_eq_false c6
              clear c6
              by_cases c8 : x4_1.size + t119.size ≤ 9223372036854775807
              · rw [if_pos c8] at H
                have c8b0 := eq_true c8
                have c8b1 : decide (x4_1.size + t119.size ≤ 9223372036854775807) = true := decide_eq_true c8
                try have c8b2 : (9223372036854775807 < x4_1.size + t119.size) = False := eq_false (Nat.not_lt.2 c8)
                try rw [show wrap64 ((x4_1.size : Int) + (t119.size : Int)) = (x4_1.size : Int) + (t119.size : Int) from by unfold wrap64; omega] at c6b0
                have H' := Aside0.mk H
                clear H
                have p118 : 0 ≤ (x5_1 : Int) := of_decide_eq_true (by first | (with_reducible assumption) | assumption)
                have q118 : x5_1 < (l0.length : Int) := of_decide_eq_true (by first | (with_reducible assumption) | assumption)
                obtain ⟨ad118, e118, hx118_0, hx118_1, hx118_2⟩ := at_T25 HR0.out x5_1 p118 q118
                cases e118
                replace hx118_0 := (HB.out.cell (World.block_lt_of_cell? w _ hx118_0)).trans hx118_0
                replace hx118_1 := (HB.out.cell (World.block_lt_of_cell? w _ hx118_1)).trans hx118_1
                replace hx118_2 := (HB.out.cell (World.block_lt_of_cell? w _ hx118_2)).trans hx118_2
                replace p118 := eq_true p118
                replace q118 := eq_true q118
                go_wp2_with (first | ((with_reducible refine gate_callee (f := 42) rfl ?_); refine goesL_ (some 19) rfl rfl Try.func42 (by kernel_rfl) rfl #[.agg #[.int .i64 ((rd_T25 l0 x5_1).f0), .int .i64 ((rd_T25 l0 x5_1).f1), .string ((rd_T25 l0 x5_1).f2)]] rfl (by (try simp only [List.map_toArray, List.map_cons, List.map_nil]); first | done | rfl | (simp only [List.length_drop, List.length_take]; rfl)) ?_; (with_reducible refine (spec_PieceBytes.calls k1 ((rd_T25 l0 x5_1).f0) ((rd_T25 l0 x5_1).f1) ((rd_T25 l0 x5_1).f2) t119 true _ A4.out).mono ?_); rintro e w9 ⟨rfl, hb⟩; refine ⟨_, rfl, ?_⟩; have n0_ := Aside0.mk (below_step (by repeat (first | (with_reducible first | exact HB.out | apply below_alloc | apply pw_below_drewN | apply below_drew1) | exact HB.out)) hb); clear HB; have HB := n0_; clear n0_; (try clear hb); (try clear hb2); (try clear hk); (try clear hi)))
                go_roundg k1
                case measure => have := HK1.out; omega
                case rel => exact ⟨(x4_1 ++ t119), (wrap64 (x5_1 + 1)), (by first | rfl | (simp; done) | (simp [*]; done)), (by first | rfl | (simp; done) | (simp [*]; done)), H', ⟨by have := HK1.out; omega⟩, ⟨by repeat (first | (with_reducible first | exact HB.out | apply below_alloc | apply pw_below_drewN | apply below_drew1) | exact HB.out)⟩⟩
              · rw [if_neg c8] at H
                exact absurd H (by simp)
          · replace c5 := Bool.eq_false_iff.mpr c5
            subst c5
            have H1 : (some ((⟨#[]⟩ : ByteArray), false)) = some (r1, r2) := by rw [if_neg (show ¬ (false = true) by decide)] at H; exact H
            clear H
            have H := H1
            clear H1
            simp only [Option.some.injEq, Prod.mk.injEq] at H
            obtain ⟨rfl, rfl⟩ := H
            have p118 : 0 ≤ (x5_1 : Int) := of_decide_eq_true (by first | (with_reducible assumption) | assumption)
            have q118 : x5_1 < (l0.length : Int) := of_decide_eq_true (by first | (with_reducible assumption) | assumption)
            obtain ⟨ad118, e118, hx118_0, hx118_1, hx118_2⟩ := at_T25 HR0.out x5_1 p118 q118
            cases e118
            replace hx118_0 := (HB.out.cell (World.block_lt_of_cell? w _ hx118_0)).trans hx118_0
            replace hx118_1 := (HB.out.cell (World.block_lt_of_cell? w _ hx118_1)).trans hx118_1
            replace hx118_2 := (HB.out.cell (World.block_lt_of_cell? w _ hx118_2)).trans hx118_2
            replace p118 := eq_true p118
            replace q118 := eq_true q118
            go_wp2_with (first | ((with_reducible refine gate_callee (f := 42) rfl ?_); refine goesL_ (some 19) rfl rfl Try.func42 (by kernel_rfl) rfl #[.agg #[.int .i64 ((rd_T25 l0 x5_1).f0), .int .i64 ((rd_T25 l0 x5_1).f1), .string ((rd_T25 l0 x5_1).f2)]] rfl (by (try simp only [List.map_toArray, List.map_cons, List.map_nil]); first | done | rfl | (simp only [List.length_drop, List.length_take]; rfl)) ?_; (with_reducible refine (spec_PieceBytes.calls k1 ((rd_T25 l0 x5_1).f0) ((rd_T25 l0 x5_1).f1) ((rd_T25 l0 x5_1).f2) t119 false _ A4.out).mono ?_); rintro e w10 ⟨rfl, hb⟩; refine ⟨_, rfl, ?_⟩; have n0_ := Aside0.mk (below_step (by repeat (first | (with_reducible first | exact HB.out | apply below_alloc | apply pw_below_drewN | apply below_drew1) | exact HB.out)) hb); clear HB; have HB := n0_; clear n0_; (try clear hb); (try clear hb2); (try clear hk); (try clear hi)))
            go_ret2
            exact ⟨by first | rfl | (simp [errW_none, errW_some] <;> rfl) | (simp [*, errW_none, errW_some] <;> rfl), by repeat (first | (with_reducible first | exact HB.out | apply below_alloc | apply pw_below_drewN | apply below_drew1) | exact HB.out)⟩
        · rw [if_neg c3] at H
          exact absurd H (by simp)
      · rw [if_neg c2] at H
        have c2b0 : decide (x5_1 < (l0.length : Int)) = false := decide_eq_false c2
        clear c2
        simp only [Option.some.injEq, Prod.mk.injEq] at H
        obtain ⟨rfl, rfl⟩ := H
        go_wp2
        go_ret2
        exact ⟨by first | rfl | (simp [errW_none, errW_some] <;> rfl) | (simp [*, errW_none, errW_some] <;> rfl), by repeat (first | (with_reducible first | exact HB.out | apply below_alloc | apply pw_below_drewN | apply below_drew1) | exact HB.out)⟩

/-! ### spec_ColumnsBody: function 19 -/
def spec_ColumnsBody.l0 : Nat → List (S43) → List (S25) → Int → Option (ByteArray)
  | 0, _, _, _ => none
  | k + 1, x0, x3, x4 => if x4 < (x0.length : Int) then (if 0 ≤ x4 then ((some (([(⟨4, 0, (rd_T43 x0 x4).f0⟩ : S25), (⟨3, x4, (⟨#[]⟩ : ByteArray)⟩ : S25), (⟨2, x4, (⟨#[]⟩ : ByteArray)⟩ : S25), (⟨3, wrap64 (wrap32 ((rd_T43 x0 x4).f1)), (⟨#[]⟩ : ByteArray)⟩ : S25), (⟨2, (rd_T43 x0 x4).f2, (⟨#[]⟩ : ByteArray)⟩ : S25), (⟨3, (rd_T43 x0 x4).f3, (⟨#[]⟩ : ByteArray)⟩ : S25), (⟨2, (rd_T43 x0 x4).f4, (⟨#[]⟩ : ByteArray)⟩ : S25)] : List (S25)) : List (S25))).bind fun y126 => (if x3.length + y126.length < 4398046511104 then (spec_ColumnsBody.l0 k x0 (x3 ++ y126) (wrap64 (x4 + 1))) else (none))) else (none)) else ((spec_Pieces.f k x3).bind fun bt132 => (some bt132.1))
def spec_ColumnsBody.f (k : Nat) (l0 : List (S43)) : Option (ByteArray) := spec_ColumnsBody.l0 k l0 (([(⟨2, (l0.length : Int), (⟨#[]⟩ : ByteArray)⟩ : S25)] : List (S25))) 0
theorem spec_ColumnsBody.mono_l : ∀ k, (∀ y0 y1 y2, LeO (spec_ColumnsBody.l0 k y0 y1 y2) (spec_ColumnsBody.l0 (k + 1) y0 y1 y2))
  | 0 => fun _ _ _ r h => by simp [spec_ColumnsBody.l0] at h
  | k + 1 => by
    have ih0 := spec_ColumnsBody.mono_l k
    · intro y0 y1 y2
      unfold spec_ColumnsBody.l0
      repeat' first
      | (with_reducible exact ih0 _ _ _)
      | (with_reducible exact spec_Pieces.mono _ _)
      | (with_reducible exact LeO.refl _)
      | (with_reducible exact LeO.none _)
      | (with_reducible refine LeO.ite ?_ ?_)
      | (with_reducible refine LeO.bind ?_ (fun _ => ?_))
      | exact ih0 _ _ _
      | exact spec_Pieces.mono _ _
      | exact LeO.none _
      | refine LeO.ite ?_ ?_
      | refine LeO.bind ?_ (fun _ => ?_)
theorem spec_ColumnsBody.mono : ∀ a0 k, LeO (spec_ColumnsBody.f k a0) (spec_ColumnsBody.f (k + 1) a0) := by
  intro a0 k
  have ih0 := spec_ColumnsBody.mono_l k
  unfold spec_ColumnsBody.f
  repeat' first
      | (with_reducible exact ih0 _ _ _)
      | (with_reducible exact spec_Pieces.mono _ _)
      | (with_reducible exact LeO.refl _)
      | (with_reducible exact LeO.none _)
      | (with_reducible refine LeO.ite ?_ ?_)
      | (with_reducible refine LeO.bind ?_ (fun _ => ?_))
      | exact ih0 _ _ _
      | exact spec_Pieces.mono _ _
      | exact LeO.none _
      | refine LeO.ite ?_ ?_
      | refine LeO.bind ?_ (fun _ => ?_)
set_option maxHeartbeats 8000000 in
set_option maxRecDepth 100000 in
theorem spec_ColumnsBody.calls (k : Nat) (A0 : Option Addr) (c0 : Nat) (l0 : List (S43)) (r : ByteArray) (w : World) (hr0 : Kd.C k43 w A0 l0.length l0) (hc0 : l0.length ≤ c0) (h : spec_ColumnsBody.f k l0 = some r) :
    Calls Try.prog 19 #[.slice A0 l0.length c0] w fun e w' => e = .returned (.string r) ∧ Below w.heap.size w w' := by
  have hu25 := Try.underlying25
  have hu43 := Try.underlying43
  have HR0 := Aside0.mk hr0
  have HC0 := Aside0.mk hc0
  clear hr0 hc0
  have HB := Aside0.mk (Below.refl w.heap.size w)
  have H : (spec_ColumnsBody.l0 k l0 (([(⟨2, (l0.length : Int), (⟨#[]⟩ : ByteArray)⟩ : S25)] : List (S25))) 0) = some r := h
  clear h
  obtain ⟨y121, hy121⟩ : ∃ y_ : List (S25), y_ = (([(⟨2, (l0.length : Int), (⟨#[]⟩ : ByteArray)⟩ : S25)] : List (S25))) := ⟨_, rfl⟩
  replace H : (spec_ColumnsBody.l0 k l0 y121 0) = some r := by first | (rw [hy121]; with_reducible exact H) | (have H2_ := (Option.bind_some _ _).symm.trans H; rw [hy121]; with_reducible exact H2_) | (have H2_ := (Option.bind_some _ _).symm.trans H; with_reducible exact H2_) | with_reducible exact H | (rw [hy121]; exact H) | exact H
  have Ny121 := Aside0.mk hy121
  clear hy121
  have H' := Aside0.mk H
  clear H
  go_enter Try.func19, Try.ntmps19
  go_wp2_with (first | ((with_reducible refine gate_dst (N := 11) rfl ?_); refine Kd.R_lit k25 _ 25 ?hg (N := 11) ?hd (xs := ([(⟨2, (l0.length : Int), (⟨#[]⟩ : ByteArray)⟩ : S25)] : List (S25))) (inner := [.int .i64 2, .int .i64 (l0.length : Int), .string (⟨#[]⟩ : ByteArray)]) (ok := fun _ => True) (okp := fun _ => True) ?hr ?hp (fun _ hk => hk) trivial (Below.refl _ _) (Nat.le_refl _) (by simp) ?_; (case hd => rfl); (case hg => rfl); (case hr => first | (go_simp; done) | (go_simp; rfl)); (case hp => exact (Reps.c3 (show Kd.M k25 _ _ _ (⟨2, (l0.length : Int), (⟨#[]⟩ : ByteArray)⟩ : S25) [.int .i64 2, .int .i64 (l0.length : Int), .string (⟨#[]⟩ : ByteArray)] from (k25_mkM _ _ _ (⟨2, (l0.length : Int), (⟨#[]⟩ : ByteArray)⟩ : S25) )) (Reps.none _ _))); intro v122 w2 ho3 hb hg_ hnew_; clear hg_ hnew_; (first | rw [← Ny121.out] at ho3 | (simp only [Int.reduceToNat] at ho3; rw [← Ny121.out] at ho3)); have n0_ := Aside0.mk (Kd.R_lower ho3 (below_size (by repeat (first | (with_reducible first | exact HB.out | apply below_alloc | apply pw_below_drewN | apply below_drew1) | exact HB.out)))); have n1_ := Aside0.mk (below_step (by repeat (first | (with_reducible first | exact HB.out | apply below_alloc | apply pw_below_drewN | apply below_drew1) | exact HB.out)) hb); clear HB; have HO123 := n0_; have HB := n1_; clear n0_ n1_; clear hb ho3))
  go_loopg [3, 4] k (fun kq v3 v4 w' => ∃ (x3_1 : List (S25)) (x4_1 : Int), v4 = .int .i64 x4_1 ∧ Aside0 (spec_ColumnsBody.l0 kq l0 x3_1 x4_1 = some r) ∧ Aside0 (kq ≤ k) ∧ Aside0 (Kd.R k25 25 w' w.heap.size (fun _ => True) v3 x3_1) ∧ Aside0 (Below w.heap.size w w'))
  case atStart => exact ⟨(y121), (0), (by first | rfl | (simp; done) | (simp [*]; done)), H', ⟨Nat.le_refl _⟩, ⟨by (with_reducible repeat (first | apply Kd.R_alloc | apply Kd.R_drewN | apply Kd.R_drew)); exact HO123.out⟩, ⟨by repeat (first | (with_reducible first | exact HB.out | apply below_alloc | apply pw_below_drewN | apply below_drew1) | exact HB.out)⟩⟩
  case round =>
    clear H'
    try clear c1
    try clear p2
    try clear c3
    obtain ⟨x3_1, x4_1, rfl, HA, HK1, HO_3, HB⟩ := hrel
    cases gk with
    | zero => exact absurd HA.out (by simp [spec_ColumnsBody.l0])
    | succ k1 =>
      have H := HA.out
      clear HA
      simp only [spec_ColumnsBody.l0] at H
      by_cases c4 : x4_1 < (l0.length : Int)
      · rw [if_pos c4] at H
        have c4b0 : decide (x4_1 < (l0.length : Int)) = true := decide_eq_true c4
        clear c4
        by_cases c5 : 0 ≤ x4_1
        · rw [if_pos c5] at H
          have c5b0 : decide (0 ≤ x4_1) = true := decide_eq_true c5
          clear c5
          obtain ⟨y126, hy126⟩ : ∃ y_ : List (S25), y_ = (([(⟨4, 0, (rd_T43 l0 x4_1).f0⟩ : S25), (⟨3, x4_1, (⟨#[]⟩ : ByteArray)⟩ : S25), (⟨2, x4_1, (⟨#[]⟩ : ByteArray)⟩ : S25), (⟨3, wrap64 (wrap32 ((rd_T43 l0 x4_1).f1)), (⟨#[]⟩ : ByteArray)⟩ : S25), (⟨2, (rd_T43 l0 x4_1).f2, (⟨#[]⟩ : ByteArray)⟩ : S25), (⟨3, (rd_T43 l0 x4_1).f3, (⟨#[]⟩ : ByteArray)⟩ : S25), (⟨2, (rd_T43 l0 x4_1).f4, (⟨#[]⟩ : ByteArray)⟩ : S25)] : List (S25))) := ⟨_, rfl⟩
          replace H : (if x3_1.length + y126.length < 4398046511104 then (spec_ColumnsBody.l0 k1 l0 (x3_1 ++ y126) (wrap64 (x4_1 + 1))) else (none)) = some r := by first | (rw [hy126]; with_reducible exact H) | (have H2_ := (Option.bind_some _ _).symm.trans H; rw [hy126]; with_reducible exact H2_) | (have H2_ := (Option.bind_some _ _).symm.trans H; with_reducible exact H2_) | with_reducible exact H | (rw [hy126]; exact H) | exact H
          have Ny126 := Aside0.mk hy126
          clear hy126
          by_cases c6 : x3_1.length + y126.length < 4398046511104
          · rw [if_pos c6] at H
            have LMc6 := Aside0.mk c6
            clear c6
            obtain ⟨y129, hy129⟩ : ∃ y_ : List (S25), y_ = (x3_1 ++ y126) := ⟨_, rfl⟩
            replace H : (spec_ColumnsBody.l0 k1 l0 y129 (wrap64 (x4_1 + 1))) = some r := by first | (rw [hy129]; with_reducible exact H) | (have H2_ := (Option.bind_some _ _).symm.trans H; rw [hy129]; with_reducible exact H2_) | (have H2_ := (Option.bind_some _ _).symm.trans H; with_reducible exact H2_) | with_reducible exact H | (rw [hy129]; exact H) | exact H
            have Ny129 := Aside0.mk hy129
            clear hy129
            have H' := Aside0.mk H
            clear H
            have p124 : 0 ≤ (x4_1 : Int) := of_decide_eq_true (by first | (with_reducible assumption) | assumption)
            have q124 : x4_1 < (l0.length : Int) := of_decide_eq_true (by first | (with_reducible assumption) | assumption)
            obtain ⟨ad124, e124, hx124_0, hx124_1, hx124_2, hx124_3, hx124_4⟩ := at_T43 HR0.out x4_1 p124 q124
            cases e124
            replace hx124_0 := (HB.out.cell (World.block_lt_of_cell? w _ hx124_0)).trans hx124_0
            replace hx124_1 := (HB.out.cell (World.block_lt_of_cell? w _ hx124_1)).trans hx124_1
            replace hx124_2 := (HB.out.cell (World.block_lt_of_cell? w _ hx124_2)).trans hx124_2
            replace hx124_3 := (HB.out.cell (World.block_lt_of_cell? w _ hx124_3)).trans hx124_3
            replace hx124_4 := (HB.out.cell (World.block_lt_of_cell? w _ hx124_4)).trans hx124_4
            replace p124 := eq_true p124
            replace q124 := eq_true q124
            go_wp2_with (first | ((with_reducible refine gate_dst (N := 5) rfl ?_); refine box_event ?hg (N := 5) ?hd (cs := #[.string (⟨#[]⟩ : ByteArray), .int .u32 0, .int .i64 0, .int .i64 0, .int .i64 0]) (t := 43) ?hr ?_; (case hd => rfl); (case hg => rfl); (case hr => first | (go_simp; done) | (go_simp; rfl)); intro gb125 hg w7 hbox hb; have n0_ := Aside0.mk (Kd.R_below (by (with_reducible repeat (first | apply Kd.R_alloc | apply Kd.R_drewN | apply Kd.R_drew)); exact HO_3.out) hb); have n1_ := Aside0.mk (below_step (by repeat (first | (with_reducible first | exact HB.out | apply below_alloc | apply pw_below_drewN | apply below_drew1) | exact HB.out)) hb); have n2_ := Aside0.mk (hbox); have n3_ := Aside0.mk ((by rw [hg]; exact (below_size (by repeat (first | (with_reducible first | exact HB.out | apply below_alloc | apply pw_below_drewN | apply below_drew1) | exact HB.out))) : w.heap.size ≤ gb125)); have n4_ := Aside0.mk ((by rw [hg]; exact (below_size (by repeat (first | (with_reducible first | exact HB.out | apply below_alloc | apply pw_below_drewN | apply below_drew1) | exact HB.out))) : w.heap.size ≤ gb125)); clear HO_3; clear HB; have HO_3 := n0_; have HB := n1_; have BK125 := n2_; have GW125 := n3_; have GE125 := n4_; clear n0_ n1_ n2_ n3_ n4_; clear hb hbox hg; have hcz8_0 : w7.cell? ⟨gb125, 0, none⟩ = some (.string (⟨#[]⟩ : ByteArray)) := (blk_cell BK125.out 0).trans rfl; have hcz8_1 : w7.cell? ⟨gb125, 1, none⟩ = some (.int .u32 0) := (blk_cell BK125.out 1).trans rfl; have hcz8_2 : w7.cell? ⟨gb125, 2, none⟩ = some (.int .i64 0) := (blk_cell BK125.out 2).trans rfl; have hcz8_3 : w7.cell? ⟨gb125, 3, none⟩ = some (.int .i64 0) := (blk_cell BK125.out 3).trans rfl; have hcz8_4 : w7.cell? ⟨gb125, 4, none⟩ = some (.int .i64 0) := (blk_cell BK125.out 4).trans rfl; have hfz8_0 := blk_frozen BK125.out 0; have hfz8_1 := blk_frozen BK125.out 1; have hfz8_2 := blk_frozen BK125.out 2; have hfz8_3 := blk_frozen BK125.out 3; have hfz8_4 := blk_frozen BK125.out 4) | ((with_reducible refine gate_dst (N := 44) rfl ?_); refine Kd.R_lit k25 _ 25 ?hg (N := 44) ?hd (xs := ([(⟨4, 0, (rd_T43 l0 x4_1).f0⟩ : S25), (⟨3, x4_1, (⟨#[]⟩ : ByteArray)⟩ : S25), (⟨2, x4_1, (⟨#[]⟩ : ByteArray)⟩ : S25), (⟨3, wrap64 (wrap32 ((rd_T43 l0 x4_1).f1)), (⟨#[]⟩ : ByteArray)⟩ : S25), (⟨2, (rd_T43 l0 x4_1).f2, (⟨#[]⟩ : ByteArray)⟩ : S25), (⟨3, (rd_T43 l0 x4_1).f3, (⟨#[]⟩ : ByteArray)⟩ : S25), (⟨2, (rd_T43 l0 x4_1).f4, (⟨#[]⟩ : ByteArray)⟩ : S25)] : List (S25))) (inner := [.int .i64 4, .int .i64 0, .string ((rd_T43 l0 x4_1).f0), .int .i64 3, .int .i64 x4_1, .string (⟨#[]⟩ : ByteArray), .int .i64 2, .int .i64 x4_1, .string (⟨#[]⟩ : ByteArray), .int .i64 3, .int .i64 (wrap64 (wrap32 ((rd_T43 l0 x4_1).f1))), .string (⟨#[]⟩ : ByteArray), .int .i64 2, .int .i64 ((rd_T43 l0 x4_1).f2), .string (⟨#[]⟩ : ByteArray), .int .i64 3, .int .i64 ((rd_T43 l0 x4_1).f3), .string (⟨#[]⟩ : ByteArray), .int .i64 2, .int .i64 ((rd_T43 l0 x4_1).f4), .string (⟨#[]⟩ : ByteArray)]) (ok := fun _ => True) (okp := fun _ => True) ?hr ?hp (fun _ hk => hk) trivial (Below.refl _ _) (Nat.le_refl _) (by simp) ?_; (case hd => rfl); (case hg => rfl); (case hr => first | (go_simp; done) | (go_simp; rfl)); (case hp => exact (Reps.c3 (show Kd.M k25 _ _ _ (⟨4, 0, (rd_T43 l0 x4_1).f0⟩ : S25) [.int .i64 4, .int .i64 0, .string ((rd_T43 l0 x4_1).f0)] from (k25_mkM _ _ _ (⟨4, 0, (rd_T43 l0 x4_1).f0⟩ : S25) )) (Reps.c3 (show Kd.M k25 _ _ _ (⟨3, x4_1, (⟨#[]⟩ : ByteArray)⟩ : S25) [.int .i64 3, .int .i64 x4_1, .string (⟨#[]⟩ : ByteArray)] from (k25_mkM _ _ _ (⟨3, x4_1, (⟨#[]⟩ : ByteArray)⟩ : S25) )) (Reps.c3 (show Kd.M k25 _ _ _ (⟨2, x4_1, (⟨#[]⟩ : ByteArray)⟩ : S25) [.int .i64 2, .int .i64 x4_1, .string (⟨#[]⟩ : ByteArray)] from (k25_mkM _ _ _ (⟨2, x4_1, (⟨#[]⟩ : ByteArray)⟩ : S25) )) (Reps.c3 (show Kd.M k25 _ _ _ (⟨3, wrap64 (wrap32 ((rd_T43 l0 x4_1).f1)), (⟨#[]⟩ : ByteArray)⟩ : S25) [.int .i64 3, .int .i64 (wrap64 (wrap32 ((rd_T43 l0 x4_1).f1))), .string (⟨#[]⟩ : ByteArray)] from (k25_mkM _ _ _ (⟨3, wrap64 (wrap32 ((rd_T43 l0 x4_1).f1)), (⟨#[]⟩ : ByteArray)⟩ : S25) )) (Reps.c3 (show Kd.M k25 _ _ _ (⟨2, (rd_T43 l0 x4_1).f2, (⟨#[]⟩ : ByteArray)⟩ : S25) [.int .i64 2, .int .i64 ((rd_T43 l0 x4_1).f2), .string (⟨#[]⟩ : ByteArray)] from (k25_mkM _ _ _ (⟨2, (rd_T43 l0 x4_1).f2, (⟨#[]⟩ : ByteArray)⟩ : S25) )) (Reps.c3 (show Kd.M k25 _ _ _ (⟨3, (rd_T43 l0 x4_1).f3, (⟨#[]⟩ : ByteArray)⟩ : S25) [.int .i64 3, .int .i64 ((rd_T43 l0 x4_1).f3), .string (⟨#[]⟩ : ByteArray)] from (k25_mkM _ _ _ (⟨3, (rd_T43 l0 x4_1).f3, (⟨#[]⟩ : ByteArray)⟩ : S25) )) (Reps.c3 (show Kd.M k25 _ _ _ (⟨2, (rd_T43 l0 x4_1).f4, (⟨#[]⟩ : ByteArray)⟩ : S25) [.int .i64 2, .int .i64 ((rd_T43 l0 x4_1).f4), .string (⟨#[]⟩ : ByteArray)] from (k25_mkM _ _ _ (⟨2, (rd_T43 l0 x4_1).f4, (⟨#[]⟩ : ByteArray)⟩ : S25) )) (Reps.none _ _))))))))); intro v127 w9 ho10 hb hg_ hnew_; clear hg_ hnew_; (first | rw [← Ny126.out] at ho10 | (simp only [Int.reduceToNat] at ho10; rw [← Ny126.out] at ho10)); have n0_ := Aside0.mk (Kd.R_elder' (by (with_reducible repeat (first | apply Kd.R_alloc | apply Kd.R_drewN | apply Kd.R_drew)); exact (Kd.R_mono (Kd.R_far (p := ⟨gb125, 4, none⟩) (Kd.R_far (p := ⟨gb125, 3, none⟩) (Kd.R_far (p := ⟨gb125, 2, none⟩) (Kd.R_far (p := ⟨gb125, 1, none⟩) (Kd.R_far (p := ⟨gb125, 0, none⟩) (Kd.R_types HO_3.out BK125.out (by decide)) (fun _ hk => hk.2) (.string ((rd_T43 l0 x4_1).f0))) (fun _ hk => hk.2) (.int .u32 ((rd_T43 l0 x4_1).f1))) (fun _ hk => hk.2) (.int .i64 ((rd_T43 l0 x4_1).f2))) (fun _ hk => hk.2) (.int .i64 ((rd_T43 l0 x4_1).f3))) (fun _ hk => hk.2) (.int .i64 ((rd_T43 l0 x4_1).f4))) (fun _ h_ => h_.1))) (Kd.R_base ho10) hb); have n1_ := Aside0.mk (Kd.R_lower (Kd.R_new' ho10 (Kd.R_lt (by (with_reducible repeat (first | apply Kd.R_alloc | apply Kd.R_drewN | apply Kd.R_drew)); exact (Kd.R_mono (Kd.R_far (p := ⟨gb125, 4, none⟩) (Kd.R_far (p := ⟨gb125, 3, none⟩) (Kd.R_far (p := ⟨gb125, 2, none⟩) (Kd.R_far (p := ⟨gb125, 1, none⟩) (Kd.R_far (p := ⟨gb125, 0, none⟩) (Kd.R_types HO_3.out BK125.out (by decide)) (fun _ hk => hk.2) (.string ((rd_T43 l0 x4_1).f0))) (fun _ hk => hk.2) (.int .u32 ((rd_T43 l0 x4_1).f1))) (fun _ hk => hk.2) (.int .i64 ((rd_T43 l0 x4_1).f2))) (fun _ hk => hk.2) (.int .i64 ((rd_T43 l0 x4_1).f3))) (fun _ hk => hk.2) (.int .i64 ((rd_T43 l0 x4_1).f4))) (fun _ h_ => h_.1))))) (below_size (by repeat (first | (with_reducible first | exact HB.out | apply below_alloc | apply pw_below_drewN | apply below_drew1 | refine below_set ?_ GE125.out) | exact HB.out)))); have n2_ := Aside0.mk (blk_below (g := gb125) (o := .cells #[.string ((rd_T43 l0 x4_1).f0), .int .u32 ((rd_T43 l0 x4_1).f1), .int .i64 ((rd_T43 l0 x4_1).f2), .int .i64 ((rd_T43 l0 x4_1).f3), .int .i64 ((rd_T43 l0 x4_1).f4)] 43 (0, 0)) (by (with_reducible repeat (first | refine blk_drewN ?_ _ | refine blk_drew ?_ | refine blk_alloc ?_ _)); refine blk_put (cs := #[.string ((rd_T43 l0 x4_1).f0), .int .u32 ((rd_T43 l0 x4_1).f1), .int .i64 ((rd_T43 l0 x4_1).f2), .int .i64 ((rd_T43 l0 x4_1).f3), .int .i64 0]) ?_ 4 _ rfl; (with_reducible repeat (first | refine blk_drewN ?_ _ | refine blk_drew ?_ | refine blk_alloc ?_ _)); refine blk_put (cs := #[.string ((rd_T43 l0 x4_1).f0), .int .u32 ((rd_T43 l0 x4_1).f1), .int .i64 ((rd_T43 l0 x4_1).f2), .int .i64 0, .int .i64 0]) ?_ 3 _ rfl; (with_reducible repeat (first | refine blk_drewN ?_ _ | refine blk_drew ?_ | refine blk_alloc ?_ _)); refine blk_put (cs := #[.string ((rd_T43 l0 x4_1).f0), .int .u32 ((rd_T43 l0 x4_1).f1), .int .i64 0, .int .i64 0, .int .i64 0]) ?_ 2 _ rfl; (with_reducible repeat (first | refine blk_drewN ?_ _ | refine blk_drew ?_ | refine blk_alloc ?_ _)); refine blk_put (cs := #[.string ((rd_T43 l0 x4_1).f0), .int .u32 0, .int .i64 0, .int .i64 0, .int .i64 0]) ?_ 1 _ rfl; (with_reducible repeat (first | refine blk_drewN ?_ _ | refine blk_drew ?_ | refine blk_alloc ?_ _)); refine blk_put (cs := #[.string (⟨#[]⟩ : ByteArray), .int .u32 0, .int .i64 0, .int .i64 0, .int .i64 0]) ?_ 0 _ rfl; (with_reducible repeat (first | refine blk_drewN ?_ _ | refine blk_drew ?_ | refine blk_alloc ?_ _)); exact BK125.out) hb); have n3_ := Aside0.mk (below_step (by repeat (first | (with_reducible first | exact HB.out | apply below_alloc | apply pw_below_drewN | apply below_drew1 | refine below_set ?_ GE125.out) | exact HB.out)) hb); clear HO_3; clear BK125; clear HB; have HO_3 := n0_; have HO128 := n1_; have BK125 := n2_; have HB := n3_; clear n0_ n1_ n2_ n3_; clear hb ho10; obtain ⟨Ao12, co12, eo12⟩ := Kd.R_slice HO128.out; subst eo12) | ((with_reducible refine gate_builtin (b := .append) (xs := #[.tmp 22, .tmp 44]) rfl ?_); at_builtin; refine Kd.R_append_rows k25 (w0 := w) w.heap.size rfl (.tmp 22) (.tmp 44) 22 25 (.agg #[(.int .i64 0), (.int .i64 0), (.string ⟨#[]⟩)]) 32 rfl Try.underlying22 info25 rfl (by decide) (by omega) u3 x3_1 y126 _ _ _ (fun k_ => some k_ ≠ (.slice Ao12 y126.length co12 : Value).ownBlock) (fun _ => False) rfl rfl ?aO ?aR (fun _ _ h => h) (fun _ h => h.elim) ?aF ?aB ?aS ?aL ?_; (case aR => repeat (first | exact (Kd.R_reads' HO128.out).2.2 | (with_reducible refine Kd.C_alloc ?_ _) | (with_reducible refine Kd.C_drewN ?_ _) | (with_reducible refine Kd.C_drew ?_))); (case aB => exact (by repeat (first | (with_reducible first | exact HB.out | apply below_alloc | apply pw_below_drewN | apply below_drew1 | refine below_set ?_ GE125.out) | exact HB.out))); (case aF => exact (fun k_ hk => Kd.fresh' (Kd.R_lt (by (with_reducible repeat (first | apply Kd.R_alloc | apply Kd.R_drewN | apply Kd.R_drew)); exact HO128.out)) k_ hk)); (case aO => exact (by (with_reducible repeat (first | apply Kd.R_alloc | apply Kd.R_drewN | apply Kd.R_drew)); exact Kd.R_mono HO_3.out (fun _ hk => hk.2))); (case aS => exact (below_size (by repeat (first | (with_reducible first | exact HB.out | apply below_alloc | apply pw_below_drewN | apply below_drew1 | refine below_set ?_ GE125.out) | exact HB.out)))); (case aL => have := LMc6.out; omega); intro v130 w11 ho hb hg hat; rw [← Ny129.out] at ho; have n0_ := Aside0.mk (blk_grown (g := gb125) (o := .cells #[.string ((rd_T43 l0 x4_1).f0), .int .u32 ((rd_T43 l0 x4_1).f1), .int .i64 ((rd_T43 l0 x4_1).f2), .int .i64 ((rd_T43 l0 x4_1).f3), .int .i64 ((rd_T43 l0 x4_1).f4)] 43 (0, 0)) (by (with_reducible repeat (first | refine blk_drewN ?_ _ | refine blk_drew ?_ | refine blk_alloc ?_ _)); exact BK125.out) hg (Kd.R_ne HO_3.out BK125.out (by decide))); have n1_ := Aside0.mk (Kd.R_after (ok := (fun _ => True)) (by (with_reducible repeat (first | apply Kd.R_alloc | apply Kd.R_drewN | apply Kd.R_drew)); exact HO128.out) hg hat); have n2_ := Aside0.mk (hb); have n3_ := Aside0.mk (ho); clear BK125; clear HO128; clear HB; clear HO_3; have BK125 := n0_; have HO128 := n1_; have HB := n2_; have HO131 := n3_; clear n0_ n1_ n2_ n3_; clear ho hb hg hat))
            go_roundg k1
            case measure => have := HK1.out; omega
            case rel => exact ⟨(y129), (wrap64 (x4_1 + 1)), (by first | rfl | (simp; done) | (simp [*]; done)), H', ⟨by have := HK1.out; omega⟩, ⟨by (with_reducible repeat (first | apply Kd.R_alloc | apply Kd.R_drewN | apply Kd.R_drew)); exact Kd.R_mono HO131.out (fun _ hk => trivial)⟩, ⟨by repeat (first | (with_reducible first | exact HB.out | apply below_alloc | apply pw_below_drewN | apply below_drew1 | refine below_set ?_ GE125.out) | exact HB.out)⟩⟩
          · rw [if_neg c6] at H
            exact absurd H (by simp)
        · rw [if_neg c5] at H
          exact absurd H (by simp)
      · rw [if_neg c4] at H
        have c4b0 : decide (x4_1 < (l0.length : Int)) = false := decide_eq_false c4
        clear c4
        replace H := Option.bind_eq_some_iff.mp H
        obtain ⟨⟨t132, t133⟩, A130, H⟩ := H
        replace H : (some t132) = some r := H
        have A13 := Aside0.mk A130
        clear A130
        obtain rfl := Option.some.inj H
        obtain ⟨Ao14, co14, eo14⟩ := Kd.R_slice HO_3.out
        subst eo14
        go_wp2_with (first | ((with_reducible refine gate_callee (f := 16) rfl ?_); refine goesL_ (some 48) rfl rfl Try.func16 (by kernel_rfl) rfl #[.slice Ao14 x3_1.length co14] rfl (by (try simp only [List.map_toArray, List.map_cons, List.map_nil]); first | done | rfl | (simp only [List.length_drop, List.length_take]; rfl)) ?_; (with_reducible refine (spec_Pieces.calls k1 _ _ x3_1 t132 t133 _ ?side1 ?side2 A13.out).mono ?_); (case side1 => repeat (first | exact (Kd.R_reads' HO_3.out).2.2 | (with_reducible refine Kd.C_alloc ?_ _) | (with_reducible refine Kd.C_drewN ?_ _) | (with_reducible refine Kd.C_drew ?_))); (case side2 => exact (Kd.R_reads' HO_3.out).2.1); rintro e w15 ⟨rfl, hb⟩; refine ⟨_, rfl, ?_⟩; have n0_ := Aside0.mk (Kd.R_below (by (with_reducible repeat (first | apply Kd.R_alloc | apply Kd.R_drewN | apply Kd.R_drew)); exact HO_3.out) hb); have n1_ := Aside0.mk (below_step (by repeat (first | (with_reducible first | exact HB.out | apply below_alloc | apply pw_below_drewN | apply below_drew1) | exact HB.out)) hb); clear HO_3; clear HB; have HO_3 := n0_; have HB := n1_; clear n0_ n1_; (try clear hb); (try clear hb2); (try clear hk); (try clear hi)))
        go_ret
        exact ⟨by first | rfl | (simp [errW_none, errW_some] <;> rfl) | (simp [*, errW_none, errW_some] <;> rfl), by repeat (first | (with_reducible first | exact HB.out | apply below_alloc | apply pw_below_drewN | apply below_drew1) | exact HB.out)⟩

/-! ### impl_columns: function 46 -/
def impl_columns.l0 : Nat → List (S43) → List (S113) → Int → Int → Option ((List (S43)))
  | 0, _, _, _, _ => none
  | k + 1, x3, x6, x7, x8 => if x8 < x7 then (if 0 ≤ x8 then (if x8 < (x6.length : Int) then (if x3.length < 2932031007402 then (impl_columns.l0 k (x3 ++ [(⟨(rd_T113 x6 x8).f0, (rd_T113 x6 x8).f1, (rd_T113 x6 x8).f2, (rd_T113 x6 x8).f3, (rd_T113 x6 x8).f4⟩ : S43)]) x6 x7 (wrap64 (x8 + 1))) else (none)) else (none)) else (none)) else (some x3)
def impl_columns.f (k : Nat) (l0 : List (S113)) : Option ((List (S43))) := impl_columns.l0 k ([] : List (S43)) l0 (l0.length : Int) 0
theorem impl_columns.mono_l : ∀ k, (∀ y0 y1 y2 y3, LeO (impl_columns.l0 k y0 y1 y2 y3) (impl_columns.l0 (k + 1) y0 y1 y2 y3))
  | 0 => fun _ _ _ _ r h => by simp [impl_columns.l0] at h
  | k + 1 => by
    have ih0 := impl_columns.mono_l k
    · intro y0 y1 y2 y3
      unfold impl_columns.l0
      repeat' first
      | (with_reducible exact ih0 _ _ _ _)
      | (with_reducible exact LeO.refl _)
      | (with_reducible exact LeO.none _)
      | (with_reducible refine LeO.ite ?_ ?_)
      | (with_reducible refine LeO.bind ?_ (fun _ => ?_))
      | exact ih0 _ _ _ _
      | exact LeO.none _
      | refine LeO.ite ?_ ?_
      | refine LeO.bind ?_ (fun _ => ?_)
theorem impl_columns.mono : ∀ a0 k, LeO (impl_columns.f k a0) (impl_columns.f (k + 1) a0) := by
  intro a0 k
  have ih0 := impl_columns.mono_l k
  unfold impl_columns.f
  repeat' first
      | (with_reducible exact ih0 _ _ _ _)
      | (with_reducible exact LeO.refl _)
      | (with_reducible exact LeO.none _)
      | (with_reducible refine LeO.ite ?_ ?_)
      | (with_reducible refine LeO.bind ?_ (fun _ => ?_))
      | exact ih0 _ _ _ _
      | exact LeO.none _
      | refine LeO.ite ?_ ?_
      | refine LeO.bind ?_ (fun _ => ?_)
set_option maxHeartbeats 8000000 in
set_option maxRecDepth 100000 in
theorem impl_columns.calls (k : Nat) (A0 : Option Addr) (c0 : Nat) (l0 : List (S113)) (r : List (S43)) (w : World) (hr0 : Kd.C k113 w A0 l0.length l0) (hc0 : l0.length ≤ c0) (h : impl_columns.f k l0 = some r) :
    Calls Try.prog 46 #[.slice A0 l0.length c0] w fun e w' => ∃ v0_ : Value, e = .returned (v0_) ∧ Kd.R k43 43 w' w.heap.size (fun _ => True) v0_ r ∧ Below w.heap.size w w' := by
  have hu113 := Try.underlying113
  have hu43 := Try.underlying43
  have HR0 := Aside0.mk hr0
  have HC0 := Aside0.mk hc0
  clear hr0 hc0
  have HB := Aside0.mk (Below.refl w.heap.size w)
  have H : (impl_columns.l0 k ([] : List (S43)) l0 (l0.length : Int) 0) = some r := h
  clear h
  have H' := Aside0.mk H
  clear H
  go_enter Try.func46, Try.ntmps46
  go_wp2
  go_loopg [3, 8] k (fun kq v3 v8 w' => ∃ (x3_1 : List (S43)) (x8_1 : Int), v8 = .int .i64 x8_1 ∧ Aside0 (impl_columns.l0 kq x3_1 l0 (l0.length : Int) x8_1 = some r) ∧ Aside0 (kq ≤ k) ∧ Aside0 (Kd.R k43 43 w' w.heap.size (fun _ => True) v3 x3_1) ∧ Aside0 (Below w.heap.size w w'))
  case atStart => exact ⟨(([] : List (S43))), (0), (by first | rfl | (simp; done) | (simp [*]; done)), H', ⟨Nat.le_refl _⟩, ⟨by first | exact Kd.R_nil _ _ _ _ _ | exact Kd.N_nil _ _ _ _ _ | exact Kd.V_nil _ _ _ _ _ | exact Kd.Q_nil _ _ _ _ _ | exact Kd.S_nil _ _ _ _ _⟩, ⟨by repeat (first | (with_reducible first | exact HB.out | apply below_alloc | apply pw_below_drewN | apply below_drew1) | exact HB.out)⟩⟩
  case round =>
    clear H'
    obtain ⟨x3_1, x8_1, rfl, HA, HK1, HO_3, HB⟩ := hrel
    cases gk with
    | zero => exact absurd HA.out (by simp [impl_columns.l0])
    | succ k1 =>
      have H := HA.out
      clear HA
      simp only [impl_columns.l0] at H
      by_cases c2 : x8_1 < (l0.length : Int)
      · rw [if_pos c2] at H
        have c2b0 : decide (x8_1 < (l0.length : Int)) = true := decide_eq_true c2
        clear c2
        by_cases c3 : 0 ≤ x8_1
        · rw [if_pos c3] at H
          have c3b0 : decide (0 ≤ x8_1) = true := decide_eq_true c3
          clear c3
          by_cases c4 : x8_1 < (l0.length : Int)
          · rw [if_pos c4] at H
            have c4b0 : decide (x8_1 < (l0.length : Int)) = true := decide_eq_true c4
            clear c4
            by_cases c5 : x3_1.length < 2932031007402
            · rw [if_pos c5] at H
              have LMc5 := Aside0.mk c5
              clear c5
              obtain ⟨y136, hy136⟩ : ∃ y_ : List (S43), y_ = (x3_1 ++ [(⟨(rd_T113 l0 x8_1).f0, (rd_T113 l0 x8_1).f1, (rd_T113 l0 x8_1).f2, (rd_T113 l0 x8_1).f3, (rd_T113 l0 x8_1).f4⟩ : S43)]) := ⟨_, rfl⟩
              replace H : (impl_columns.l0 k1 y136 l0 (l0.length : Int) (wrap64 (x8_1 + 1))) = some r := by first | (rw [hy136]; with_reducible exact H) | (have H2_ := (Option.bind_some _ _).symm.trans H; rw [hy136]; with_reducible exact H2_) | (have H2_ := (Option.bind_some _ _).symm.trans H; with_reducible exact H2_) | with_reducible exact H | (rw [hy136]; exact H) | exact H
              have Ny136 := Aside0.mk hy136
              clear hy136
              have H' := Aside0.mk H
              clear H
              have p134 : 0 ≤ (x8_1 : Int) := of_decide_eq_true (by first | (with_reducible assumption) | assumption)
              have q134 : x8_1 < (l0.length : Int) := of_decide_eq_true (by first | (with_reducible assumption) | assumption)
              obtain ⟨ad134, e134, hx134_0, hx134_1, hx134_2, hx134_3, hx134_4⟩ := at_T113 HR0.out x8_1 p134 q134
              cases e134
              replace hx134_0 := (HB.out.cell (World.block_lt_of_cell? w _ hx134_0)).trans hx134_0
              replace hx134_1 := (HB.out.cell (World.block_lt_of_cell? w _ hx134_1)).trans hx134_1
              replace hx134_2 := (HB.out.cell (World.block_lt_of_cell? w _ hx134_2)).trans hx134_2
              replace hx134_3 := (HB.out.cell (World.block_lt_of_cell? w _ hx134_3)).trans hx134_3
              replace hx134_4 := (HB.out.cell (World.block_lt_of_cell? w _ hx134_4)).trans hx134_4
              replace p134 := eq_true p134
              replace q134 := eq_true q134
              go_wp2_with (first | ((with_reducible refine gate_dst (N := 5) rfl ?_); refine box_event ?hg (N := 5) ?hd (cs := #[.string (⟨#[]⟩ : ByteArray), .int .u32 0, .int .i64 0, .int .i64 0, .int .i64 0]) (t := 113) ?hr ?_; (case hd => rfl); (case hg => rfl); (case hr => first | (go_simp; done) | (go_simp; rfl)); intro gb135 hg w6 hbox hb; have n0_ := Aside0.mk (Kd.R_below (by (with_reducible repeat (first | apply Kd.R_alloc | apply Kd.R_drewN | apply Kd.R_drew)); exact HO_3.out) hb); have n1_ := Aside0.mk (below_step (by repeat (first | (with_reducible first | exact HB.out | apply below_alloc | apply pw_below_drewN | apply below_drew1) | exact HB.out)) hb); have n2_ := Aside0.mk (hbox); have n3_ := Aside0.mk ((by rw [hg]; exact (below_size (by repeat (first | (with_reducible first | exact HB.out | apply below_alloc | apply pw_below_drewN | apply below_drew1) | exact HB.out))) : w.heap.size ≤ gb135)); have n4_ := Aside0.mk ((by rw [hg]; exact (below_size (by repeat (first | (with_reducible first | exact HB.out | apply below_alloc | apply pw_below_drewN | apply below_drew1) | exact HB.out))) : w.heap.size ≤ gb135)); clear HO_3; clear HB; have HO_3 := n0_; have HB := n1_; have BK135 := n2_; have GW135 := n3_; have GE135 := n4_; clear n0_ n1_ n2_ n3_ n4_; clear hb hbox hg; have hcz7_0 : w6.cell? ⟨gb135, 0, none⟩ = some (.string (⟨#[]⟩ : ByteArray)) := (blk_cell BK135.out 0).trans rfl; have hcz7_1 : w6.cell? ⟨gb135, 1, none⟩ = some (.int .u32 0) := (blk_cell BK135.out 1).trans rfl; have hcz7_2 : w6.cell? ⟨gb135, 2, none⟩ = some (.int .i64 0) := (blk_cell BK135.out 2).trans rfl; have hcz7_3 : w6.cell? ⟨gb135, 3, none⟩ = some (.int .i64 0) := (blk_cell BK135.out 3).trans rfl; have hcz7_4 : w6.cell? ⟨gb135, 4, none⟩ = some (.int .i64 0) := (blk_cell BK135.out 4).trans rfl; have hfz7_0 := blk_frozen BK135.out 0; have hfz7_1 := blk_frozen BK135.out 1; have hfz7_2 := blk_frozen BK135.out 2; have hfz7_3 := blk_frozen BK135.out 3; have hfz7_4 := blk_frozen BK135.out 4) | ((with_reducible refine gate_builtin (b := .append) (xs := #[.tmp 12, .tmp 24]) rfl ?_); at_builtin; refine Kd.R_append k43 (w0 := w) w.heap.size rfl (.tmp 12) (.tmp 24) 38 43 (.agg #[(.string ⟨#[]⟩), (.int .u32 0), (.int .i64 0), (.int .i64 0), (.int .i64 0)]) 48 rfl Try.underlying38 info43 rfl (by decide) (by omega) u3 x3_1 (⟨(rd_T113 l0 x8_1).f0, (rd_T113 l0 x8_1).f1, (rd_T113 l0 x8_1).f2, (rd_T113 l0 x8_1).f3, (rd_T113 l0 x8_1).f4⟩ : S43) [.string ((rd_T113 l0 x8_1).f0), .int .u32 ((rd_T113 l0 x8_1).f1), .int .i64 ((rd_T113 l0 x8_1).f2), .int .i64 ((rd_T113 l0 x8_1).f3), .int .i64 ((rd_T113 l0 x8_1).f4)] (fun _ => True) (fun _ => False) rfl (by first | (go_simp; done) | (go_simp; rfl)) ?aP (fun _ hk => hk.elim) ?aF ?aO ?aB ?aS ?aL ?_; (case aP => exact k43_mkM _ _ _ (⟨(rd_T113 l0 x8_1).f0, (rd_T113 l0 x8_1).f1, (rd_T113 l0 x8_1).f2, (rd_T113 l0 x8_1).f3, (rd_T113 l0 x8_1).f4⟩ : S43)); (case aB => exact (by repeat (first | (with_reducible first | exact HB.out | apply below_alloc | apply pw_below_drewN | apply below_drew1 | refine below_set ?_ GE135.out) | exact HB.out))); (case aF => exact (fun _ _ => trivial)); (case aO => exact (by (with_reducible repeat (first | apply Kd.R_alloc | apply Kd.R_drewN | apply Kd.R_drew)); exact Kd.R_mono (Kd.R_far (p := ⟨gb135, 4, none⟩) (Kd.R_far (p := ⟨gb135, 3, none⟩) (Kd.R_far (p := ⟨gb135, 2, none⟩) (Kd.R_far (p := ⟨gb135, 1, none⟩) (Kd.R_far (p := ⟨gb135, 0, none⟩) (Kd.R_types HO_3.out BK135.out (by decide)) (fun _ hk => hk.2) (.string ((rd_T113 l0 x8_1).f0))) (fun _ hk => hk.2) (.int .u32 ((rd_T113 l0 x8_1).f1))) (fun _ hk => hk.2) (.int .i64 ((rd_T113 l0 x8_1).f2))) (fun _ hk => hk.2) (.int .i64 ((rd_T113 l0 x8_1).f3))) (fun _ hk => hk.2) (.int .i64 ((rd_T113 l0 x8_1).f4))) (fun _ hk => trivial))); (case aS => exact (below_size (by repeat (first | (with_reducible first | exact HB.out | apply below_alloc | apply pw_below_drewN | apply below_drew1 | refine below_set ?_ GE135.out) | exact HB.out)))); (case aL => have := LMc5.out; omega); intro v137 w8 ho hb hg hat; rw [← Ny136.out] at ho; have n0_ := Aside0.mk (blk_grown (g := gb135) (o := .cells #[.string ((rd_T113 l0 x8_1).f0), .int .u32 ((rd_T113 l0 x8_1).f1), .int .i64 ((rd_T113 l0 x8_1).f2), .int .i64 ((rd_T113 l0 x8_1).f3), .int .i64 ((rd_T113 l0 x8_1).f4)] 113 (0, 0)) (by (with_reducible repeat (first | refine blk_drewN ?_ _ | refine blk_drew ?_ | refine blk_alloc ?_ _)); refine blk_put (cs := #[.string ((rd_T113 l0 x8_1).f0), .int .u32 ((rd_T113 l0 x8_1).f1), .int .i64 ((rd_T113 l0 x8_1).f2), .int .i64 ((rd_T113 l0 x8_1).f3), .int .i64 0]) ?_ 4 _ rfl; (with_reducible repeat (first | refine blk_drewN ?_ _ | refine blk_drew ?_ | refine blk_alloc ?_ _)); refine blk_put (cs := #[.string ((rd_T113 l0 x8_1).f0), .int .u32 ((rd_T113 l0 x8_1).f1), .int .i64 ((rd_T113 l0 x8_1).f2), .int .i64 0, .int .i64 0]) ?_ 3 _ rfl; (with_reducible repeat (first | refine blk_drewN ?_ _ | refine blk_drew ?_ | refine blk_alloc ?_ _)); refine blk_put (cs := #[.string ((rd_T113 l0 x8_1).f0), .int .u32 ((rd_T113 l0 x8_1).f1), .int .i64 0, .int .i64 0, .int .i64 0]) ?_ 2 _ rfl; (with_reducible repeat (first | refine blk_drewN ?_ _ | refine blk_drew ?_ | refine blk_alloc ?_ _)); refine blk_put (cs := #[.string ((rd_T113 l0 x8_1).f0), .int .u32 0, .int .i64 0, .int .i64 0, .int .i64 0]) ?_ 1 _ rfl; (with_reducible repeat (first | refine blk_drewN ?_ _ | refine blk_drew ?_ | refine blk_alloc ?_ _)); refine blk_put (cs := #[.string (⟨#[]⟩ : ByteArray), .int .u32 0, .int .i64 0, .int .i64 0, .int .i64 0]) ?_ 0 _ rfl; (with_reducible repeat (first | refine blk_drewN ?_ _ | refine blk_drew ?_ | refine blk_alloc ?_ _)); exact BK135.out) hg (Kd.R_ne HO_3.out BK135.out (by decide))); have n1_ := Aside0.mk (hb); have n2_ := Aside0.mk (ho); clear BK135; clear HB; clear HO_3; have BK135 := n0_; have HB := n1_; have HO138 := n2_; clear n0_ n1_ n2_; clear ho hb hg hat))
              go_roundg k1
              case measure => have := HK1.out; omega
              case rel => exact ⟨(y136), (wrap64 (x8_1 + 1)), (by first | rfl | (simp; done) | (simp [*]; done)), H', ⟨by have := HK1.out; omega⟩, ⟨by (with_reducible repeat (first | apply Kd.R_alloc | apply Kd.R_drewN | apply Kd.R_drew)); exact HO138.out⟩, ⟨by repeat (first | (with_reducible first | exact HB.out | apply below_alloc | apply pw_below_drewN | apply below_drew1 | refine below_set ?_ GE135.out) | exact HB.out)⟩⟩
            · rw [if_neg c5] at H
              exact absurd H (by simp)
          · rw [if_neg c4] at H
            exact absurd H (by simp)
        · rw [if_neg c3] at H
          exact absurd H (by simp)
      · rw [if_neg c2] at H
        have c2b0 : decide (x8_1 < (l0.length : Int)) = false := decide_eq_false c2
        clear c2
        obtain rfl := Option.some.inj H
        go_wp2
        go_ret
        exact ⟨_, by first | rfl | (simp [errW_none, errW_some] <;> rfl) | (simp [*, errW_none, errW_some] <;> rfl), by (with_reducible repeat (first | apply Kd.R_alloc | apply Kd.R_drewN | apply Kd.R_drew)); exact HO_3.out, by repeat (first | (with_reducible first | exact HB.out | apply below_alloc | apply pw_below_drewN | apply below_drew1) | exact HB.out)⟩

/-! ### binary_bigEndian_Uint16: function 73 -/
set_option maxHeartbeats 1000000 in
set_option maxRecDepth 100000 in
theorem binary_bigEndian_Uint16.calls (A : Option Addr) (n c : Nat) (f : List Int) (w : World) (hr : (Kd.int .u8).C w A n f) (hn : 2 ≤ n) (hf : Bytes f) :
    Calls Try.prog 73 #[.agg #[], .slice A n c] w fun e w' => e = .returned (.int .u16 (rd f 0 * 256 + rd f 1)) ∧ Below w.heap.size w w' := by
  have hr' := fun o q => Kd.C_drewN (Kd.C_alloc hr o) q
  have hA : ∃ ad, A = some ad := by obtain ⟨ad, e, _⟩ := rd_cell hr (by omega); exact ⟨ad, e⟩
  obtain ⟨ad, rfl⟩ := hA
  have hc : ∀ o q i, i < n → ((w.alloc o).drewN q).cell? (ad.add i) = some (.int .u8 (rd f i)) := by
    intro o q i hi
    obtain ⟨ad', e, hc⟩ := rd_cell (hr' o q) (by omega)
    injection e with e
    subst e
    exact hc i hi
  have c0 : ∀ o q, ((w.alloc o).drewN q).cell? ad = some (.int .u8 (rd f 0)) := fun o q => by simpa [Addr.add] using hc o q 0 (by omega)
  have c1 : ∀ o q, ((w.alloc o).drewN q).cell? ⟨ad.block, ad.off + 1, none⟩ = some (.int .u8 (rd f 1)) := fun o q => by simpa [Addr.add] using hc o q 1 (by omega)
  have c00 : ∀ o, (w.alloc o).cell? ad = some (.int .u8 (rd f 0)) := fun o => c0 o 0
  have c10 : ∀ o, (w.alloc o).cell? ⟨ad.block, ad.off + 1, none⟩ = some (.int .u8 (rd f 1)) := fun o => c1 o 0
  have h1 : (1 : Int) < (n : Int) := by omega
  have h0 : (0 : Int) < (n : Int) := by omega
  go_enter Try.func73, Try.ntmps73
  go_wp2
  go_quiet (fail)
  go_wp2
  go_ret
  exact ⟨by rw [or16 _ _ (hf.rd 0).1 (hf.rd 0).2 (hf.rd 1).1 (hf.rd 1).2]; rfl, pw_below_drewN (below_alloc (Below.refl _ _) _) _⟩

/-! ### pq_readBuf_int16: function 58 -/
set_option maxHeartbeats 1000000 in
set_option maxRecDepth 100000 in
theorem pq_readBuf_int16.calls {tt : TypeId} (g : Nat) (f : List Int) (w0 w : World) (hI : IsRdT tt w0 w g f) (hB : Below w0.heap.size w0 w) (hn : 2 ≤ f.length) :
    Calls Try.prog 58 #[.pointer (some ⟨g, 0, none⟩)] w fun e w' => e = .returned (.int .i64 (rd f 0 * 256 + rd f 1)) ∧ IsRdT tt w0 w' g (f.drop 2) ∧ Below w0.heap.size w0 w' ∧ KeepBut w w' g none := by
  obtain ⟨A, c, hb, hg, hc, hr, hby⟩ := hI
  have hb0 := hby.rd 0; have hb1 := hby.rd 1; have hb2 := hby.rd 2; have hb3 := hby.rd 3
  have hw : IntKind.i64.wrap (rd f 0 * 256 + rd f 1) = rd f 0 * 256 + rd f 1 := by rw [IntKind.wrap_i64]; omega
  have hcell : w.cell? ⟨g, 0, none⟩ = some (.slice A f.length c) := (blk_cell hb 0).trans rfl
  have hu1 := Try.underlying100
  have h2 : ((2 : Nat) : Int) ≤ (f.length : Int) := by omega
  have h3 : (2 : Int) ≤ (f.length : Int) := by omega
  have hd := Kd.C_drop (c := c) hr hn hc
  have hl : (f.drop 2).length = f.length - 2 := List.length_drop
  have hr2 := Kd.C_below hr hB
  have S0 := Below.refl w.heap.size w
  have Sd := below_drew S0
  have hlt : g < w.heap.size := blk_lt hb
  have fin : ∀ w1 A', Below w.heap.size w w1 → (Kd.int .u8).C w0 A' (f.drop 2).length (f.drop 2) → IsRdT tt w0 (w1.setCell ⟨g, 0, none⟩ (.slice A' (f.length - 2) (c - 2))) g (f.drop 2) := fun w1 A' hb1 h => ⟨A', c - 2, by rw [hl]; simpa using blk_set ((hb1.block g hlt).trans hb) 0 (.slice A' (f.length - 2) (c - 2)), hg, by omega, h, fun x hx => hby x (List.mem_of_mem_drop hx)⟩
  have hk : ∀ w1 u, Below w.heap.size w w1 → KeepBut w (w1.setCell ⟨g, 0, none⟩ u) g none := fun w1 u h => (KeepBut.of_below h g none).set_ 0 u
  have hbel : ∀ w1 u, Below w.heap.size w w1 → Below w0.heap.size w0 (w1.setCell ⟨g, 0, none⟩ u) := fun w1 u h => below_set (below_step hB h) hg
  go_enter Try.func58, Try.ntmps58
  go_wp2_with fail
  go_region_held3 (fun w' => w'.cell? ⟨g, 0, none⟩ = some (.slice A f.length c) ∧ Below w.heap.size w w') (first | exact ⟨hcell, S0⟩ | exact ⟨hcell, Sd⟩ | exact ⟨hcell1, S1⟩)
    (first | (go_at_call 73; refine (binary_bigEndian_Uint16.calls A f.length c f _ (Kd.C_drew hr2) hn hby).mono ?_; rintro e w1 ⟨rfl, S1_⟩; have S1 : Below w.heap.size w w1 := Below.trans Sd S1_; have hcell1 : w1.cell? ⟨g, 0, none⟩ = some (.slice A f.length c) := (S1.cell (p := ⟨g, 0, none⟩) hlt).trans hcell; have hfz := blk_frozen ((S1.block g hlt).trans hb) 0))
  by_cases hcn : c = 2
  · subst hcn
    rw [if_pos rfl] at hd
    have hfl : f.length = 2 := by omega
    have F1 := fin w1 A S1 hd
    rw [Nat.sub_self, hfl] at F1
    rw [hfl] at hcell1
    go_wp2
    go_ret
    exact ⟨rfl, by simpa [hfl] using F1, hbel _ _ S1, hk _ _ S1⟩
  · rw [if_neg hcn, show (Kd.int .u8).sz = 1 from rfl, Nat.mul_one] at hd
    go_wp2
    go_ret
    exact ⟨rfl, fin _ _ S1 hd, hbel _ _ S1, hk _ _ S1⟩

/-! ### binary_bigEndian_Uint32: function 74 -/
set_option maxHeartbeats 1000000 in
set_option maxRecDepth 100000 in
theorem binary_bigEndian_Uint32.calls (A : Option Addr) (n c : Nat) (f : List Int) (w : World) (hr : (Kd.int .u8).C w A n f) (hn : 4 ≤ n) (hf : Bytes f) :
    Calls Try.prog 74 #[.agg #[], .slice A n c] w fun e w' => e = .returned (.int .u32 (rd f 0 * 16777216 + rd f 1 * 65536 + rd f 2 * 256 + rd f 3)) ∧ Below w.heap.size w w' := by
  have hr' := fun o q => Kd.C_drewN (Kd.C_alloc hr o) q
  have hA : ∃ ad, A = some ad := by obtain ⟨ad, e, _⟩ := rd_cell hr (by omega); exact ⟨ad, e⟩
  obtain ⟨ad, rfl⟩ := hA
  have hc : ∀ o q i, i < n → ((w.alloc o).drewN q).cell? (ad.add i) = some (.int .u8 (rd f i)) := by
    intro o q i hi
    obtain ⟨ad', e, hc⟩ := rd_cell (hr' o q) (by omega)
    injection e with e
    subst e
    exact hc i hi
  have c0 : ∀ o q, ((w.alloc o).drewN q).cell? ad = some (.int .u8 (rd f 0)) := fun o q => by simpa [Addr.add] using hc o q 0 (by omega)
  have c1 : ∀ o q, ((w.alloc o).drewN q).cell? ⟨ad.block, ad.off + 1, none⟩ = some (.int .u8 (rd f 1)) := fun o q => by simpa [Addr.add] using hc o q 1 (by omega)
  have c2 : ∀ o q, ((w.alloc o).drewN q).cell? ⟨ad.block, ad.off + 2, none⟩ = some (.int .u8 (rd f 2)) := fun o q => by simpa [Addr.add] using hc o q 2 (by omega)
  have c3 : ∀ o q, ((w.alloc o).drewN q).cell? ⟨ad.block, ad.off + 3, none⟩ = some (.int .u8 (rd f 3)) := fun o q => by simpa [Addr.add] using hc o q 3 (by omega)
  have c30 : ∀ o, (w.alloc o).cell? ⟨ad.block, ad.off + 3, none⟩ = some (.int .u8 (rd f 3)) := fun o => c3 o 0
  have h0 : (0 : Int) < (n : Int) := by omega
  have h1 : (1 : Int) < (n : Int) := by omega
  have h2 : (2 : Int) < (n : Int) := by omega
  have h3 : (3 : Int) < (n : Int) := by omega
  go_enter Try.func74, Try.ntmps74
  go_wp2
  go_quiet (fail)
  go_wp2
  go_ret
  exact ⟨by rw [or32 _ _ _ _ (hf.rd 0).1 (hf.rd 0).2 (hf.rd 1).1 (hf.rd 1).2 (hf.rd 2).1 (hf.rd 2).2 (hf.rd 3).1 (hf.rd 3).2]; rfl, pw_below_drewN (below_alloc (Below.refl _ _) _) _⟩

/-! ### pq_readBuf_int32: function 59 -/
set_option maxHeartbeats 1000000 in
set_option maxRecDepth 100000 in
theorem pq_readBuf_int32.calls {tt : TypeId} (g : Nat) (f : List Int) (w0 w : World) (hI : IsRdT tt w0 w g f) (hB : Below w0.heap.size w0 w) (hn : 4 ≤ f.length) :
    Calls Try.prog 59 #[.pointer (some ⟨g, 0, none⟩)] w fun e w' => e = .returned (.int .i64 (IntKind.i32.wrap (rd f 0 * 16777216 + rd f 1 * 65536 + rd f 2 * 256 + rd f 3))) ∧ IsRdT tt w0 w' g (f.drop 4) ∧ Below w0.heap.size w0 w' ∧ KeepBut w w' g none := by
  obtain ⟨A, c, hb, hg, hc, hr, hby⟩ := hI
  have hb0 := hby.rd 0; have hb1 := hby.rd 1; have hb2 := hby.rd 2; have hb3 := hby.rd 3
  have hw : IntKind.i64.wrap (IntKind.i32.wrap (rd f 0 * 16777216 + rd f 1 * 65536 + rd f 2 * 256 + rd f 3)) = IntKind.i32.wrap (rd f 0 * 16777216 + rd f 1 * 65536 + rd f 2 * 256 + rd f 3) := by rw [IntKind.wrap_i64, IntKind.wrap_i32]; omega
  have hcell : w.cell? ⟨g, 0, none⟩ = some (.slice A f.length c) := (blk_cell hb 0).trans rfl
  have hu1 := Try.underlying100
  have h2 : ((4 : Nat) : Int) ≤ (f.length : Int) := by omega
  have h3 : (4 : Int) ≤ (f.length : Int) := by omega
  have hd := Kd.C_drop (c := c) hr hn hc
  have hl : (f.drop 4).length = f.length - 4 := List.length_drop
  have hr2 := Kd.C_below hr hB
  have S0 := Below.refl w.heap.size w
  have Sd := below_drew S0
  have hlt : g < w.heap.size := blk_lt hb
  have fin : ∀ w1 A', Below w.heap.size w w1 → (Kd.int .u8).C w0 A' (f.drop 4).length (f.drop 4) → IsRdT tt w0 (w1.setCell ⟨g, 0, none⟩ (.slice A' (f.length - 4) (c - 4))) g (f.drop 4) := fun w1 A' hb1 h => ⟨A', c - 4, by rw [hl]; simpa using blk_set ((hb1.block g hlt).trans hb) 0 (.slice A' (f.length - 4) (c - 4)), hg, by omega, h, fun x hx => hby x (List.mem_of_mem_drop hx)⟩
  have hk : ∀ w1 u, Below w.heap.size w w1 → KeepBut w (w1.setCell ⟨g, 0, none⟩ u) g none := fun w1 u h => (KeepBut.of_below h g none).set_ 0 u
  have hbel : ∀ w1 u, Below w.heap.size w w1 → Below w0.heap.size w0 (w1.setCell ⟨g, 0, none⟩ u) := fun w1 u h => below_set (below_step hB h) hg
  go_enter Try.func59, Try.ntmps59
  go_wp2_with fail
  go_region_held3 (fun w' => w'.cell? ⟨g, 0, none⟩ = some (.slice A f.length c) ∧ Below w.heap.size w w') (first | exact ⟨hcell, S0⟩ | exact ⟨hcell, Sd⟩ | exact ⟨hcell1, S1⟩)
    (first | (go_at_call 74; refine (binary_bigEndian_Uint32.calls A f.length c f _ (Kd.C_drew hr2) hn hby).mono ?_; rintro e w1 ⟨rfl, S1_⟩; have S1 : Below w.heap.size w w1 := Below.trans Sd S1_; have hcell1 : w1.cell? ⟨g, 0, none⟩ = some (.slice A f.length c) := (S1.cell (p := ⟨g, 0, none⟩) hlt).trans hcell; have hfz := blk_frozen ((S1.block g hlt).trans hb) 0))
  by_cases hcn : c = 4
  · subst hcn
    rw [if_pos rfl] at hd
    have hfl : f.length = 4 := by omega
    have F1 := fin w1 A S1 hd
    rw [Nat.sub_self, hfl] at F1
    rw [hfl] at hcell1
    go_wp2
    go_ret
    exact ⟨by first | rfl | (show Ending.returned (.int .i64 (IntKind.i64.wrap (IntKind.i32.wrap (rd f 0 * 16777216 + rd f 1 * 65536 + rd f 2 * 256 + rd f 3)))) = _; rw [hw]) | (trace_state; sorry), by simpa [hfl] using F1, hbel _ _ S1, hk _ _ S1⟩
  · rw [if_neg hcn, show (Kd.int .u8).sz = 1 from rfl, Nat.mul_one] at hd
    go_wp2
    go_ret
    exact ⟨by first | rfl | (show Ending.returned (.int .i64 (IntKind.i64.wrap (IntKind.i32.wrap (rd f 0 * 16777216 + rd f 1 * 65536 + rd f 2 * 256 + rd f 3)))) = _; rw [hw]) | (trace_state; sorry), fin _ _ S1 hd, hbel _ _ S1, hk _ _ S1⟩

/-! ### pq_zzIndex: function 75 -/
def pq_zzIndex.l0 : Nat → ByteArray → ByteArray → Int → Option (Int)
  | 0, _, _, _ => none
  | k + 1, x0, x1, x5 => if (wrap64 (x5 + (x1.size : Int))) ≤ (x0.size : Int) then (if 0 ≤ x5 then (if x5 ≤ (wrap64 (x5 + (x1.size : Int))) then (if (x0.extract (x5 : Int).toNat ((wrap64 (x5 + (x1.size : Int))) : Int).toNat).toList = x1.toList then (some x5) else (pq_zzIndex.l0 k x0 x1 (wrap64 (x5 + 1)))) else (none)) else (none)) else (some (-1))
def pq_zzIndex.f (k : Nat) (a0 : ByteArray) (a1 : ByteArray) : Option (Int) := pq_zzIndex.l0 k a0 a1 0
theorem pq_zzIndex.mono_l : ∀ k, (∀ y0 y1 y2, LeO (pq_zzIndex.l0 k y0 y1 y2) (pq_zzIndex.l0 (k + 1) y0 y1 y2))
  | 0 => fun _ _ _ r h => by simp [pq_zzIndex.l0] at h
  | k + 1 => by
    have ih0 := pq_zzIndex.mono_l k
    · intro y0 y1 y2
      unfold pq_zzIndex.l0
      repeat' first
      | (with_reducible exact ih0 _ _ _)
      | (with_reducible exact LeO.refl _)
      | (with_reducible exact LeO.none _)
      | (with_reducible refine LeO.ite ?_ ?_)
      | (with_reducible refine LeO.bind ?_ (fun _ => ?_))
      | exact ih0 _ _ _
      | exact LeO.none _
      | refine LeO.ite ?_ ?_
      | refine LeO.bind ?_ (fun _ => ?_)
theorem pq_zzIndex.mono : ∀ a0 a1 k, LeO (pq_zzIndex.f k a0 a1) (pq_zzIndex.f (k + 1) a0 a1) := by
  intro a0 a1 k
  have ih0 := pq_zzIndex.mono_l k
  unfold pq_zzIndex.f
  repeat' first
      | (with_reducible exact ih0 _ _ _)
      | (with_reducible exact LeO.refl _)
      | (with_reducible exact LeO.none _)
      | (with_reducible refine LeO.ite ?_ ?_)
      | (with_reducible refine LeO.bind ?_ (fun _ => ?_))
      | exact ih0 _ _ _
      | exact LeO.none _
      | refine LeO.ite ?_ ?_
      | refine LeO.bind ?_ (fun _ => ?_)
set_option maxHeartbeats 8000000 in
set_option maxRecDepth 100000 in
theorem pq_zzIndex.calls (k : Nat) (a0 : ByteArray) (a1 : ByteArray) (r : Int) (w : World) (h : pq_zzIndex.f k a0 a1 = some r) :
    Calls Try.prog 75 #[.string a0, .string a1] w fun e w' => e = .returned (.int .i64 r) ∧ Drawn0 w w' := by
  have H : (pq_zzIndex.l0 k a0 a1 0) = some r := h
  clear h
  have H' := Aside0.mk H
  clear H
  go_enter Try.func75, Try.ntmps75
  go_wp2
  go_loopg [5] k (fun kq v5 w' => ∃ (x5_1 : Int), v5 = .int .i64 x5_1 ∧ Aside0 (pq_zzIndex.l0 kq a0 a1 x5_1 = some r) ∧ Aside0 (kq ≤ k) ∧ Drawn0 w w')
  case atStart => exact ⟨(0), (by first | rfl | (simp; done) | (simp [*]; done)), H', ⟨Nat.le_refl _⟩, by repeat (first | exact Drawn0.refl _ | apply Drawn0.step)⟩
  case round =>
    clear H'
    try clear p2
    obtain ⟨x5_1, rfl, HA, HK1, ⟨m1, rfl⟩⟩ := hrel
    cases gk with
    | zero => exact absurd HA.out (by simp [pq_zzIndex.l0])
    | succ k1 =>
      have H := HA.out
      clear HA
      simp only [pq_zzIndex.l0] at H
      by_cases c3 : (wrap64 (x5_1 + (a1.size : Int))) ≤ (a0.size : Int)
      · rw [if_pos c3] at H
        have c3b0 : decide ((wrap64 (x5_1 + (a1.size : Int))) ≤ (a0.size : Int)) = true := decide_eq_true c3
        clear c3
        by_cases c4 : 0 ≤ x5_1
        · rw [if_pos c4] at H
          have c4b0 := eq_true c4
          have c4b1 : decide (0 ≤ x5_1) = true := decide_eq_true c4
          clear c4
          by_cases c5 : x5_1 ≤ (wrap64 (x5_1 + (a1.size : Int)))
          · rw [if_pos c5] at H
            have c5b0 := eq_true c5
            have c5b1 : decide (x5_1 ≤ (wrap64 (x5_1 + (a1.size : Int)))) = true := decide_eq_true c5
            have c6b0 := eq_true (of_decide_eq_true (by first | (with_reducible assumption) | assumption) : (wrap64 (x5_1 + (a1.size : Int))) ≤ (a0.size : Int))
            by_cases c7 : (a0.extract (x5_1 : Int).toNat ((wrap64 (x5_1 + (a1.size : Int))) : Int).toNat).toList = a1.toList
            · rw [if_pos c7] at H
              have c7b0 : ((a0.extract (x5_1 : Int).toNat ((wrap64 (x5_1 + (a1.size : Int))) : Int).toNat).toList == a1.toList) = true := beq_iff_eq.mpr c7
              have c7b1 : ((a0.extract (x5_1 : Int).toNat ((wrap64 (x5_1 + (a1.size : Int))) : Int).toNat).toList != a1.toList) = false := bne_eq_false_iff_eq.mpr c7
              clear c7
              obtain rfl := Option.some.inj H
              go_wp2
              go_ret
              exact ⟨by first | rfl | (simp; done) | (simp [*]; done), by repeat (first | exact Drawn0.refl _ | apply Drawn0.step)⟩
            · rw [if_neg c7] at H
              have c7b0 : ((a0.extract (x5_1 : Int).toNat ((wrap64 (x5_1 + (a1.size : Int))) : Int).toNat).toList == a1.toList) = false := beq_eq_false_iff_ne.mpr c7
              have c7b1 : ((a0.extract (x5_1 : Int).toNat ((wrap64 (x5_1 + (a1.size : Int))) : Int).toNat).toList != a1.toList) = true := bne_iff_ne.mpr c7
              have H' := Aside0.mk H
              clear H
              go_wp2
              go_roundg k1
              case measure => have := HK1.out; omega
              case rel => exact ⟨(wrap64 (x5_1 + 1)), (by first | rfl | (simp; done) | (simp [*]; done)), H', ⟨by have := HK1.out; omega⟩, by repeat (first | exact Drawn0.refl _ | apply Drawn0.step)⟩
          · rw [if_neg c5] at H
            exact absurd H (by simp)
        · rw [if_neg c4] at H
          exact absurd H (by simp)
      · rw [if_neg c3] at H
        have c3b0 : decide ((wrap64 (x5_1 + (a1.size : Int))) ≤ (a0.size : Int)) = false := decide_eq_false c3
        clear c3
        obtain rfl := Option.some.inj H
        go_wp2
        go_ret
        exact ⟨by first | rfl | (simp; done) | (simp [*]; done), by repeat (first | exact Drawn0.refl _ | apply Drawn0.step)⟩

/-! ### errors_New: function 76 -/
def errors_New.f (a0 : ByteArray) : Option (Option Int) := none
set_option maxHeartbeats 8000000 in
set_option maxRecDepth 100000 in
theorem errors_New.calls (a0 : ByteArray) (r : Option Int) (w : World) (h : errors_New.f a0 = some r) :
    Calls Try.prog 76 #[.string a0] w fun e w' => e = .returned (errW r) ∧ Below w.heap.size w w' := by
  have hu146 := Try.underlying146
  have hu97 := Try.underlying97
  have HB := Aside0.mk (Below.refl w.heap.size w)
  have H : (none) = some r := h
  clear h
  exact absurd H (by simp)

/-! ### pq_readBuf_string: function 60 -/
set_option maxHeartbeats 1000000 in
set_option maxRecDepth 100000 in
theorem pq_readBuf_string.calls {tt : TypeId} (g : Nat) (f : List Int) (k i : Nat) (w0 w : World) (hI : IsRdT tt w0 w g f) (hB : Below w0.heap.size w0 w) (hz : pq_zzIndex.f k (strOfNums f) (⟨#[0]⟩ : ByteArray) = some (i : Int)) (hn : i < f.length) :
    Calls Try.prog 60 #[.pointer (some ⟨g, 0, none⟩)] w fun e w' => e = .returned (.string (strOfNums (f.take i))) ∧ IsRdT tt w0 w' g (f.drop (i + 1)) ∧ Below w0.heap.size w0 w' ∧ KeepBut w w' g none := by
  obtain ⟨A, c, hb, hg, hc, hr, hby⟩ := hI
  have hcell : w.cell? ⟨g, 0, none⟩ = some (.slice A f.length c) := (blk_cell hb 0).trans rfl
  have hu1 := Try.underlying100
  have hmax := Kd.C_max hr
  have h2 : (i : Int) ≤ (f.length : Int) := by omega
  have h3 : (i : Int) + 1 ≤ (f.length : Int) := by omega
  have h4 : (i : Int) ≤ (c : Int) := by omega
  have h5 : ((i : Int) < 0) = False := eq_false (by omega)
  have h6 : ((i : Int) + 1).toNat = i + 1 := by omega
  have hw : wrap64 ((i : Int) + 1) = (i : Int) + 1 := by simp only [wrap64, IntKind.wrap_i64]; omega
  have hd := Kd.C_drop (c := c) (m := i + 1) hr (by omega) hc
  have htk := Kd.C_take (m := i) hr (by omega)
  rw [List.length_take, Nat.min_eq_left (by omega)] at htk
  have hl : (f.drop (i + 1)).length = f.length - (i + 1) := List.length_drop
  have hr2 := Kd.C_below hr hB
  have hlt : g < w.heap.size := blk_lt hb
  have fin : ∀ w1 A', Below w.heap.size w w1 → (Kd.int .u8).C w0 A' (f.drop (i + 1)).length (f.drop (i + 1)) → IsRdT tt w0 (w1.setCell ⟨g, 0, none⟩ (.slice A' (f.length - (i + 1)) (c - (i + 1)))) g (f.drop (i + 1)) := fun w1 A' hb1 h => ⟨A', c - (i + 1), by rw [hl]; simpa using blk_set ((hb1.block g hlt).trans hb) 0 (.slice A' (f.length - (i + 1)) (c - (i + 1))), hg, by omega, h, fun x hx => hby x (List.mem_of_mem_drop hx)⟩
  have hk : ∀ w1 u, Below w.heap.size w w1 → KeepBut w (w1.setCell ⟨g, 0, none⟩ u) g none := fun w1 u h => (KeepBut.of_below h g none).set_ 0 u
  have hbel : ∀ w1 u, Below w.heap.size w w1 → Below w0.heap.size w0 (w1.setCell ⟨g, 0, none⟩ u) := fun w1 u h => below_set (below_step hB h) hg
  have hcv := fun c_ : Nat => Kd.C_string (P := Try.prog) (c := c_) Try.underlying100 Try.underlying5 Try.underlying9 hr2
  go_enter Try.func60, Try.ntmps60
  go_wp2_with fail
  refine (pq_zzIndex.calls k _ _ _ _ hz).mono ?_
  rintro e w1 ⟨rfl, hdr⟩
  have S1 : Below w.heap.size w w1 := hdr.below
  have hcell1 : w1.cell? ⟨g, 0, none⟩ = some (.slice A f.length c) := (S1.cell (p := ⟨g, 0, none⟩) hlt).trans hcell
  have hfz := blk_frozen ((S1.block g hlt).trans hb) 0
  have hcv2 := fun (c_ : Nat) (u : Value) => Kd.C_string (P := Try.prog) (c := c_) Try.underlying100 Try.underlying5 Try.underlying9 (Kd.C_below htk (hbel w1 u S1))
  clear hcv
  by_cases hcn : c = i + 1
  · subst hcn
    rw [if_pos rfl] at hd
    have hfl : f.length = i + 1 := by omega
    have F1 := fin w1 A S1 hd
    rw [Nat.sub_self, hfl, Nat.sub_self] at F1
    rw [hfl] at hcell1
    go_wp2
    go_ret
    exact ⟨rfl, by simpa [hfl] using F1, hbel _ _ S1, hk _ _ S1⟩
  · rw [if_neg hcn, show (Kd.int .u8).sz = 1 from rfl, Nat.mul_one] at hd
    go_wp2
    go_ret
    exact ⟨rfl, fin _ _ S1 hd, hbel _ _ S1, hk _ _ S1⟩

/-! ### pq_readBuf_next: function 61 -/
set_option maxHeartbeats 1000000 in
set_option maxRecDepth 100000 in
theorem pq_readBuf_next.calls {tt : TypeId} (g : Nat) (f : List Int) (n : Nat) (w0 w : World) (hI : IsRdT tt w0 w g f) (hB : Below w0.heap.size w0 w) (hn : n ≤ f.length) :
    Calls Try.prog 61 #[.pointer (some ⟨g, 0, none⟩), .int .i64 (n : Int)] w fun e w' => ∃ A c, e = .returned (.slice A n c) ∧ n ≤ c ∧ Kd.C (Kd.int .u8) w0 A n (f.take n) ∧ IsRdT tt w0 w' g (f.drop n) ∧ Below w0.heap.size w0 w' ∧ KeepBut w w' g none := by
  obtain ⟨A, c, hb, hg, hc, hr, hby⟩ := hI
  have hcell : w.cell? ⟨g, 0, none⟩ = some (.slice A f.length c) := (blk_cell hb 0).trans rfl
  have hu1 := Try.underlying100
  have h1 : (0 : Int) ≤ (n : Int) := by omega
  have h2 : (n : Int) ≤ (c : Int) := by omega
  have h3 : (n : Int) ≤ (f.length : Int) := by omega
  have h4 : ((n : Int)).toNat = n := by omega
  have hfz := blk_frozen hb 0
  have hd := Kd.C_drop (c := c) hr hn hc
  have ht := Kd.C_take hr hn
  rw [List.length_take, Nat.min_eq_left hn] at ht
  have hl : (f.drop n).length = f.length - n := List.length_drop
  have fin : ∀ A', (Kd.int .u8).C w0 A' (f.drop n).length (f.drop n) → IsRdT tt w0 (w.setCell ⟨g, 0, none⟩ (.slice A' (f.length - n) (c - n))) g (f.drop n) := fun A' h => ⟨A', c - n, by rw [hl]; simpa using blk_set hb 0 (.slice A' (f.length - n) (c - n)), hg, by omega, h, fun x hx => hby x (List.mem_of_mem_drop hx)⟩
  have hk : ∀ u, KeepBut w (w.setCell ⟨g, 0, none⟩ u) g none := fun u => (KeepBut.refl w g none).set_ 0 u
  have hbel : ∀ u, Below w0.heap.size w0 (w.setCell ⟨g, 0, none⟩ u) := fun u => below_set hB hg
  by_cases hcn : c = n
  · subst hcn
    rw [if_pos rfl] at hd
    go_enter Try.func61, Try.ntmps61
    go_wp2
    go_ret
    exact ⟨_, _, rfl, by omega, ht, by have h := fin A hd; rw [Nat.sub_self, show f.length - c = 0 by omega] at h; first | exact h | simpa [show f.length - c = 0 by omega] using h, hbel _, hk _⟩
  · rw [if_neg hcn] at hd
    go_enter Try.func61, Try.ntmps61
    go_wp2
    go_ret
    exact ⟨_, _, rfl, by omega, ht, fin _ (by rw [show (Kd.int .u8).sz = 1 from rfl, Nat.mul_one] at hd; exact hd), hbel _, hk _⟩

/-! ### pq_readBuf_oid: function 83 -/
set_option maxHeartbeats 1000000 in
set_option maxRecDepth 100000 in
theorem pq_readBuf_oid.calls {tt : TypeId} (g : Nat) (f : List Int) (w0 w : World) (hI : IsRdT tt w0 w g f) (hB : Below w0.heap.size w0 w) (hn : 4 ≤ f.length) :
    Calls Try.prog 83 #[.pointer (some ⟨g, 0, none⟩)] w fun e w' => e = .returned (.int .u32 (rd f 0 * 16777216 + rd f 1 * 65536 + rd f 2 * 256 + rd f 3)) ∧ IsRdT tt w0 w' g (f.drop 4) ∧ Below w0.heap.size w0 w' ∧ KeepBut w w' g none := by
  obtain ⟨A, c, hb, hg, hc, hr, hby⟩ := hI
  have hb0 := hby.rd 0; have hb1 := hby.rd 1; have hb2 := hby.rd 2; have hb3 := hby.rd 3
  have hw : IntKind.u32.wrap (rd f 0 * 16777216 + rd f 1 * 65536 + rd f 2 * 256 + rd f 3) = rd f 0 * 16777216 + rd f 1 * 65536 + rd f 2 * 256 + rd f 3 := by rw [IntKind.wrap_u32]; omega
  have hcell : w.cell? ⟨g, 0, none⟩ = some (.slice A f.length c) := (blk_cell hb 0).trans rfl
  have hu1 := Try.underlying100
  have h2 : ((4 : Nat) : Int) ≤ (f.length : Int) := by omega
  have h3 : (4 : Int) ≤ (f.length : Int) := by omega
  have hd := Kd.C_drop (c := c) hr hn hc
  have hl : (f.drop 4).length = f.length - 4 := List.length_drop
  have hr2 := Kd.C_below hr hB
  have S0 := Below.refl w.heap.size w
  have Sd := below_drew S0
  have hlt : g < w.heap.size := blk_lt hb
  have fin : ∀ w1 A', Below w.heap.size w w1 → (Kd.int .u8).C w0 A' (f.drop 4).length (f.drop 4) → IsRdT tt w0 (w1.setCell ⟨g, 0, none⟩ (.slice A' (f.length - 4) (c - 4))) g (f.drop 4) := fun w1 A' hb1 h => ⟨A', c - 4, by rw [hl]; simpa using blk_set ((hb1.block g hlt).trans hb) 0 (.slice A' (f.length - 4) (c - 4)), hg, by omega, h, fun x hx => hby x (List.mem_of_mem_drop hx)⟩
  have hk : ∀ w1 u, Below w.heap.size w w1 → KeepBut w (w1.setCell ⟨g, 0, none⟩ u) g none := fun w1 u h => (KeepBut.of_below h g none).set_ 0 u
  have hbel : ∀ w1 u, Below w.heap.size w w1 → Below w0.heap.size w0 (w1.setCell ⟨g, 0, none⟩ u) := fun w1 u h => below_set (below_step hB h) hg
  go_enter Try.func83, Try.ntmps83
  go_wp2_with fail
  go_region_held3 (fun w' => w'.cell? ⟨g, 0, none⟩ = some (.slice A f.length c) ∧ Below w.heap.size w w') (first | exact ⟨hcell, S0⟩ | exact ⟨hcell, Sd⟩ | exact ⟨hcell1, S1⟩)
    (first | (go_at_call 74; refine (binary_bigEndian_Uint32.calls A f.length c f _ (Kd.C_drew hr2) hn hby).mono ?_; rintro e w1 ⟨rfl, S1_⟩; have S1 : Below w.heap.size w w1 := Below.trans Sd S1_; have hcell1 : w1.cell? ⟨g, 0, none⟩ = some (.slice A f.length c) := (S1.cell (p := ⟨g, 0, none⟩) hlt).trans hcell; have hfz := blk_frozen ((S1.block g hlt).trans hb) 0))
  by_cases hcn : c = 4
  · subst hcn
    rw [if_pos rfl] at hd
    have hfl : f.length = 4 := by omega
    have F1 := fin w1 A S1 hd
    rw [Nat.sub_self, hfl] at F1
    rw [hfl] at hcell1
    go_wp2
    go_ret
    exact ⟨by first | rfl | (trace_state; sorry), by simpa [hfl] using F1, hbel _ _ S1, hk _ _ S1⟩
  · rw [if_neg hcn, show (Kd.int .u8).sz = 1 from rfl, Nat.mul_one] at hd
    go_wp2
    go_ret
    exact ⟨by first | rfl | (trace_state; sorry), fin _ _ S1 hd, hbel _ _ S1, hk _ _ S1⟩

end Go.Proofs.Ythcikkjjegfblab.P
