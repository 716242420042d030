-- Written by the program wip/myprint.py of this session, over the kit's print of the translation. Lean checks it.
import Derived.Test.YthcikkjjegfblabPx0
import Derived.Test.YthcikkjjegfblabPx6
namespace Go.Proofs.Ythcikkjjegfblab.P
open Go.RowKit Go.Proofs.YthcikkjjegfblabW.PrintWords Go.Proofs.YthcikkjjegfblabW.PrintLast Go.Proofs.YthcikkjjegfblabW.PrintMore
attribute [local go_sem] max2_int min2_int max_two min_two max_three min_three max_four min_four   -- for this text's walks alone
set_option linter.unusedVariables false
set_option linter.unusedSimpArgs false

/-! ### spec_Pieces: function 16 -/
def spec_Pieces.l0 : Nat → List (S25) → ByteArray → Int → Option (ByteArray × Bool)
  | 0, _, _, _ => none
  | k + 1, x0, x4, x5 => if x5 < (x0.length : Int) then (if 0 ≤ x5 then ((spec_PieceBytes.f k ((rd_T25 x0 x5).f0) ((rd_T25 x0 x5).f1) ((rd_T25 x0 x5).f2)).bind fun bt152 => (if bt152.2 = true then (if (wrap64 ((x4.size : Int) + (bt152.1.size : Int))) > 20000 then (some ((⟨#[]⟩ : ByteArray), false)) else (if x4.size + bt152.1.size ≤ 9223372036854775807 then (spec_Pieces.l0 k x0 (x4 ++ bt152.1) (wrap64 (x5 + 1))) else (none))) else (some ((⟨#[]⟩ : ByteArray), false)))) else (none)) else (some (x4, true))
def spec_Pieces.f (k : Nat) (l0 : List (S25)) : Option (ByteArray × Bool) := spec_Pieces.l0 k l0 (⟨#[]⟩ : ByteArray) 0
theorem spec_Pieces.mono_l : ∀ k, (∀ y0 y1 y2, LeO (spec_Pieces.l0 k y0 y1 y2) (spec_Pieces.l0 (k + 1) y0 y1 y2))
  | 0 => fun _ _ _ r h => by simp [spec_Pieces.l0] at h
  | k + 1 => by
    have ih0 := spec_Pieces.mono_l k
    · intro y0 y1 y2
      unfold spec_Pieces.l0
      repeat' first
      | (with_reducible exact ih0 _ _ _)
      | (with_reducible exact spec_PieceBytes.mono _ _ _ _)
      | (with_reducible exact LeO.refl _)
      | (with_reducible exact LeO.none _)
      | (with_reducible refine LeO.ite ?_ ?_)
      | (with_reducible refine LeO.bind ?_ (fun _ => ?_))
      | exact ih0 _ _ _
      | exact spec_PieceBytes.mono _ _ _ _
      | exact LeO.none _
      | refine LeO.ite ?_ ?_
      | refine LeO.bind ?_ (fun _ => ?_)
theorem spec_Pieces.mono : ∀ a0 k, LeO (spec_Pieces.f k a0) (spec_Pieces.f (k + 1) a0) := by
  intro a0 k
  have ih0 := spec_Pieces.mono_l k
  unfold spec_Pieces.f
  repeat' first
      | (with_reducible exact ih0 _ _ _)
      | (with_reducible exact spec_PieceBytes.mono _ _ _ _)
      | (with_reducible exact LeO.refl _)
      | (with_reducible exact LeO.none _)
      | (with_reducible refine LeO.ite ?_ ?_)
      | (with_reducible refine LeO.bind ?_ (fun _ => ?_))
      | exact ih0 _ _ _
      | exact spec_PieceBytes.mono _ _ _ _
      | exact LeO.none _
      | refine LeO.ite ?_ ?_
      | refine LeO.bind ?_ (fun _ => ?_)
set_option maxHeartbeats 8000000 in
set_option maxRecDepth 100000 in
theorem spec_Pieces.calls (k : Nat) (A0 : Option Addr) (c0 : Nat) (l0 : List (S25)) (r1 : ByteArray) (r2 : Bool) (w : World) (hr0 : Kd.C k25 w A0 l0.length l0) (hc0 : l0.length ≤ c0) (h : spec_Pieces.f k l0 = some (r1, r2)) :
    Calls Try.prog 16 #[.slice A0 l0.length c0] w fun e w' => e = .returned (.tuple #[.string r1, .bool r2]) ∧ Below w.heap.size w w' := by
  have hu25 := Try.underlying25
  have HR0 := Aside0.mk hr0
  have HC0 := Aside0.mk hc0
  clear hr0 hc0
  have HB := Aside0.mk (Below.refl w.heap.size w)
  have H : (spec_Pieces.l0 k l0 (⟨#[]⟩ : ByteArray) 0) = some (r1, r2) := h
  clear h
  have H' := Aside0.mk H
  clear H
  go_enter Try.func16, Try.ntmps16
  go_wp2
  go_loopg [4, 5] k (fun kq v4 v5 w' => ∃ (x4_1 : ByteArray) (x5_1 : Int), v4 = .string x4_1 ∧ v5 = .int .i64 x5_1 ∧ Aside0 (spec_Pieces.l0 kq l0 x4_1 x5_1 = some (r1, r2)) ∧ Aside0 (kq ≤ k) ∧ Aside0 (Below w.heap.size w w'))
  case atStart => exact ⟨((⟨#[]⟩ : ByteArray)), (0), (by first | rfl | (simp; done) | (simp [*]; done)), (by first | rfl | (simp; done) | (simp [*]; done)), H', ⟨Nat.le_refl _⟩, ⟨by repeat (first | (with_reducible first | exact HB.out | apply below_alloc | apply pw_below_drewN | apply below_drew1) | exact HB.out)⟩⟩
  case round =>
    clear H'
    try clear c1
    obtain ⟨x4_1, x5_1, rfl, rfl, HA, HK1, HB⟩ := hrel
    cases gk with
    | zero => exact absurd HA.out (by simp [spec_Pieces.l0])
    | succ k1 =>
      have H := HA.out
      clear HA
      simp only [spec_Pieces.l0] at H
      by_cases c2 : x5_1 < (l0.length : Int)
      · rw [if_pos c2] at H
        have c2b0 : decide (x5_1 < (l0.length : Int)) = true := decide_eq_true c2
        clear c2
        by_cases c3 : 0 ≤ x5_1
        · rw [if_pos c3] at H
          have c3b0 : decide (0 ≤ x5_1) = true := decide_eq_true c3
          clear c3
          replace H := Option.bind_eq_some_iff.mp H
          obtain ⟨⟨t152, t153⟩, A40, H⟩ := H
          replace H : (if t153 = true then (if (wrap64 ((x4_1.size : Int) + (t152.size : Int))) > 20000 then (some ((⟨#[]⟩ : ByteArray), false)) else (if x4_1.size + t152.size ≤ 9223372036854775807 then (spec_Pieces.l0 k1 l0 (x4_1 ++ t152) (wrap64 (x5_1 + 1))) else (none))) else (some ((⟨#[]⟩ : ByteArray), false))) = some (r1, r2) := H
          have A4 := Aside0.mk A40
          clear A40
          by_cases c5 : t153 = true
          · subst c5
            have H1 : (if (wrap64 ((x4_1.size : Int) + (t152.size : Int))) > 20000 then (some ((⟨#[]⟩ : ByteArray), false)) else (if x4_1.size + t152.size ≤ 9223372036854775807 then (spec_Pieces.l0 k1 l0 (x4_1 ++ t152) (wrap64 (x5_1 + 1))) else (none))) = some (r1, r2) := by rw [if_pos rfl] at H; exact H
            clear H
            have H := H1
            clear H1
            by_cases c6 : (wrap64 ((x4_1.size : Int) + (t152.size : Int))) > 20000
            · rw [if_pos c6] at H
              have c6b0 : decide (20000 < (wrap64 ((x4_1.size : Int) + (t152.size : Int)))) = true := decide_eq_true c6
              clear c6
              simp only [Option.some.injEq, Prod.mk.injEq] at H
              obtain ⟨rfl, rfl⟩ := H
              have p151 : 0 ≤ (x5_1 : Int) := of_decide_eq_true (by first | (with_reducible assumption) | assumption)
              have q151 : x5_1 < (l0.length : Int) := of_decide_eq_true (by first | (with_reducible assumption) | assumption)
              obtain ⟨ad151, e151, hx151_0, hx151_1, hx151_2⟩ := at_T25 HR0.out x5_1 p151 q151
              cases e151
              replace hx151_0 := (HB.out.cell (World.block_lt_of_cell? w _ hx151_0)).trans hx151_0
              replace hx151_1 := (HB.out.cell (World.block_lt_of_cell? w _ hx151_1)).trans hx151_1
              replace hx151_2 := (HB.out.cell (World.block_lt_of_cell? w _ hx151_2)).trans hx151_2
              replace p151 := eq_true p151
              replace q151 := eq_true q151
              go_wp2_with (first | ((with_reducible refine gate_callee (f := 42) rfl ?_); refine goesL_ (some 19) rfl rfl Try.func42 (by kernel_rfl) rfl #[.agg #[.int .i64 ((rd_T25 l0 x5_1).f0), .int .i64 ((rd_T25 l0 x5_1).f1), .string ((rd_T25 l0 x5_1).f2)]] rfl (by (try simp only [List.map_toArray, List.map_cons, List.map_nil]); first | done | rfl | (simp only [List.length_drop, List.length_take]; rfl)) ?_; (with_reducible refine (spec_PieceBytes.calls k1 ((rd_T25 l0 x5_1).f0) ((rd_T25 l0 x5_1).f1) ((rd_T25 l0 x5_1).f2) t152 true _ A4.out).mono ?_); rintro e w7 ⟨rfl, hb⟩; refine ⟨_, rfl, ?_⟩; have n0_ := Aside0.mk (below_step (by repeat (first | (with_reducible first | exact HB.out | apply below_alloc | apply pw_below_drewN | apply below_drew1) | exact HB.out)) hb); clear HB; have HB := n0_; clear n0_; (try clear hb); (try clear hb2); (try clear hk); (try clear hi)))
              go_ret2
              exact ⟨by first | rfl | (simp [errW_none, errW_some] <;> rfl) | (simp [*, errW_none, errW_some] <;> rfl), by repeat (first | (with_reducible first | exact HB.out | apply below_alloc | apply pw_below_drewN | apply below_drew1) | exact HB.out)⟩
            · rw [if_neg c6] at H
              have c6b0 : decide (20000 < (wrap64 ((x4_1.size : Int) + (t152.size : Int)))) = false := decide_eq_false c6
              clear c6
              by_cases c8 : x4_1.size + t152.size ≤ 9223372036854775807
              · rw [if_pos c8] at H
                have c8b0 := eq_true c8
                have c8b1 : decide (x4_1.size + t152.size ≤ 9223372036854775807) = true := decide_eq_true c8
                try have c8b2 : (9223372036854775807 < x4_1.size + t152.size) = False := eq_false (Nat.not_lt.2 c8)
                try rw [show wrap64 ((x4_1.size : Int) + (t152.size : Int)) = (x4_1.size : Int) + (t152.size : Int) from by unfold wrap64; omega] at c6b0
                have H' := Aside0.mk H
                clear H
                have p151 : 0 ≤ (x5_1 : Int) := of_decide_eq_true (by first | (with_reducible assumption) | assumption)
                have q151 : x5_1 < (l0.length : Int) := of_decide_eq_true (by first | (with_reducible assumption) | assumption)
                obtain ⟨ad151, e151, hx151_0, hx151_1, hx151_2⟩ := at_T25 HR0.out x5_1 p151 q151
                cases e151
                replace hx151_0 := (HB.out.cell (World.block_lt_of_cell? w _ hx151_0)).trans hx151_0
                replace hx151_1 := (HB.out.cell (World.block_lt_of_cell? w _ hx151_1)).trans hx151_1
                replace hx151_2 := (HB.out.cell (World.block_lt_of_cell? w _ hx151_2)).trans hx151_2
                replace p151 := eq_true p151
                replace q151 := eq_true q151
                go_wp2_with (first | ((with_reducible refine gate_callee (f := 42) rfl ?_); refine goesL_ (some 19) rfl rfl Try.func42 (by kernel_rfl) rfl #[.agg #[.int .i64 ((rd_T25 l0 x5_1).f0), .int .i64 ((rd_T25 l0 x5_1).f1), .string ((rd_T25 l0 x5_1).f2)]] rfl (by (try simp only [List.map_toArray, List.map_cons, List.map_nil]); first | done | rfl | (simp only [List.length_drop, List.length_take]; rfl)) ?_; (with_reducible refine (spec_PieceBytes.calls k1 ((rd_T25 l0 x5_1).f0) ((rd_T25 l0 x5_1).f1) ((rd_T25 l0 x5_1).f2) t152 true _ A4.out).mono ?_); rintro e w9 ⟨rfl, hb⟩; refine ⟨_, rfl, ?_⟩; have n0_ := Aside0.mk (below_step (by repeat (first | (with_reducible first | exact HB.out | apply below_alloc | apply pw_below_drewN | apply below_drew1) | exact HB.out)) hb); clear HB; have HB := n0_; clear n0_; (try clear hb); (try clear hb2); (try clear hk); (try clear hi)))
                go_roundg k1
                case measure => have := HK1.out; omega
                case rel => exact ⟨(x4_1 ++ t152), (wrap64 (x5_1 + 1)), (by first | rfl | (simp; done) | (simp [*]; done)), (by first | rfl | (simp; done) | (simp [*]; done)), H', ⟨by have := HK1.out; omega⟩, ⟨by repeat (first | (with_reducible first | exact HB.out | apply below_alloc | apply pw_below_drewN | apply below_drew1) | exact HB.out)⟩⟩
              · rw [if_neg c8] at H
                exact absurd H (by simp)
          · replace c5 := Bool.eq_false_iff.mpr c5
            subst c5
            have H1 : (some ((⟨#[]⟩ : ByteArray), false)) = some (r1, r2) := by rw [if_neg (show ¬ (false = true) by decide)] at H; exact H
            clear H
            have H := H1
            clear H1
            simp only [Option.some.injEq, Prod.mk.injEq] at H
            obtain ⟨rfl, rfl⟩ := H
            have p151 : 0 ≤ (x5_1 : Int) := of_decide_eq_true (by first | (with_reducible assumption) | assumption)
            have q151 : x5_1 < (l0.length : Int) := of_decide_eq_true (by first | (with_reducible assumption) | assumption)
            obtain ⟨ad151, e151, hx151_0, hx151_1, hx151_2⟩ := at_T25 HR0.out x5_1 p151 q151
            cases e151
            replace hx151_0 := (HB.out.cell (World.block_lt_of_cell? w _ hx151_0)).trans hx151_0
            replace hx151_1 := (HB.out.cell (World.block_lt_of_cell? w _ hx151_1)).trans hx151_1
            replace hx151_2 := (HB.out.cell (World.block_lt_of_cell? w _ hx151_2)).trans hx151_2
            replace p151 := eq_true p151
            replace q151 := eq_true q151
            go_wp2_with (first | ((with_reducible refine gate_callee (f := 42) rfl ?_); refine goesL_ (some 19) rfl rfl Try.func42 (by kernel_rfl) rfl #[.agg #[.int .i64 ((rd_T25 l0 x5_1).f0), .int .i64 ((rd_T25 l0 x5_1).f1), .string ((rd_T25 l0 x5_1).f2)]] rfl (by (try simp only [List.map_toArray, List.map_cons, List.map_nil]); first | done | rfl | (simp only [List.length_drop, List.length_take]; rfl)) ?_; (with_reducible refine (spec_PieceBytes.calls k1 ((rd_T25 l0 x5_1).f0) ((rd_T25 l0 x5_1).f1) ((rd_T25 l0 x5_1).f2) t152 false _ A4.out).mono ?_); rintro e w10 ⟨rfl, hb⟩; refine ⟨_, rfl, ?_⟩; have n0_ := Aside0.mk (below_step (by repeat (first | (with_reducible first | exact HB.out | apply below_alloc | apply pw_below_drewN | apply below_drew1) | exact HB.out)) hb); clear HB; have HB := n0_; clear n0_; (try clear hb); (try clear hb2); (try clear hk); (try clear hi)))
            go_ret2
            exact ⟨by first | rfl | (simp [errW_none, errW_some] <;> rfl) | (simp [*, errW_none, errW_some] <;> rfl), by repeat (first | (with_reducible first | exact HB.out | apply below_alloc | apply pw_below_drewN | apply below_drew1) | exact HB.out)⟩
        · rw [if_neg c3] at H
          exact absurd H (by simp)
      · rw [if_neg c2] at H
        have c2b0 : decide (x5_1 < (l0.length : Int)) = false := decide_eq_false c2
        clear c2
        simp only [Option.some.injEq, Prod.mk.injEq] at H
        obtain ⟨rfl, rfl⟩ := H
        go_wp2
        go_ret2
        exact ⟨by first | rfl | (simp [errW_none, errW_some] <;> rfl) | (simp [*, errW_none, errW_some] <;> rfl), by repeat (first | (with_reducible first | exact HB.out | apply below_alloc | apply pw_below_drewN | apply below_drew1) | exact HB.out)⟩

/-! ### spec_Framed: function 14 -/
def spec_Framed.l0 : Nat → List (S33) → ByteArray → Int → Option (ByteArray × Bool)
  | 0, _, _, _ => none
  | k + 1, x0, x4, x5 => if x5 < (x0.length : Int) then (if 0 ≤ x5 then ((spec_Pieces.f k ((rd_T33 x0 x5).f1)).bind fun bt155 => (if bt155.2 = true then (if ((rd_T33 x0 x5).f0) = 0 then (some ((⟨#[]⟩ : ByteArray), false)) else ((some (([(rd_T33 x0 x5).f0, ((wrap64 ((bt155.1.size : Int) + 4)) / 16777216) % 256, ((wrap64 ((bt155.1.size : Int) + 4)) / 65536) % 256, ((wrap64 ((bt155.1.size : Int) + 4)) / 256) % 256, (wrap64 ((bt155.1.size : Int) + 4)) % 256] : List Int) : List Int)).bind fun y159 => (if (strOfNums y159).size + bt155.1.size ≤ 9223372036854775807 then (if x4.size + ((strOfNums y159) ++ bt155.1).size ≤ 9223372036854775807 then (spec_Framed.l0 k x0 (x4 ++ ((strOfNums y159) ++ bt155.1)) (wrap64 (x5 + 1))) else (none)) else (none)))) else (some ((⟨#[]⟩ : ByteArray), false)))) else (none)) else (some (x4, true))
def spec_Framed.f (k : Nat) (l0 : List (S33)) : Option (ByteArray × Bool) := spec_Framed.l0 k l0 (⟨#[]⟩ : ByteArray) 0
theorem spec_Framed.mono_l : ∀ k, (∀ y0 y1 y2, LeO (spec_Framed.l0 k y0 y1 y2) (spec_Framed.l0 (k + 1) y0 y1 y2))
  | 0 => fun _ _ _ r h => by simp [spec_Framed.l0] at h
  | k + 1 => by
    have ih0 := spec_Framed.mono_l k
    · intro y0 y1 y2
      unfold spec_Framed.l0
      repeat' first
      | (with_reducible exact ih0 _ _ _)
      | (with_reducible exact spec_Pieces.mono _ _)
      | (with_reducible exact LeO.refl _)
      | (with_reducible exact LeO.none _)
      | (with_reducible refine LeO.ite ?_ ?_)
      | (with_reducible refine LeO.bind ?_ (fun _ => ?_))
      | exact ih0 _ _ _
      | exact spec_Pieces.mono _ _
      | exact LeO.none _
      | refine LeO.ite ?_ ?_
      | refine LeO.bind ?_ (fun _ => ?_)
theorem spec_Framed.mono : ∀ a0 k, LeO (spec_Framed.f k a0) (spec_Framed.f (k + 1) a0) := by
  intro a0 k
  have ih0 := spec_Framed.mono_l k
  unfold spec_Framed.f
  repeat' first
      | (with_reducible exact ih0 _ _ _)
      | (with_reducible exact spec_Pieces.mono _ _)
      | (with_reducible exact LeO.refl _)
      | (with_reducible exact LeO.none _)
      | (with_reducible refine LeO.ite ?_ ?_)
      | (with_reducible refine LeO.bind ?_ (fun _ => ?_))
      | exact ih0 _ _ _
      | exact spec_Pieces.mono _ _
      | exact LeO.none _
      | refine LeO.ite ?_ ?_
      | refine LeO.bind ?_ (fun _ => ?_)
set_option maxHeartbeats 8000000 in
set_option maxRecDepth 100000 in
theorem spec_Framed.calls (k : Nat) (A0 : Option Addr) (c0 : Nat) (l0 : List (S33)) (r1 : ByteArray) (r2 : Bool) (w : World) (hr0 : Kd.C k33 w A0 l0.length l0) (hc0 : l0.length ≤ c0) (h : spec_Framed.f k l0 = some (r1, r2)) :
    Calls Try.prog 14 #[.slice A0 l0.length c0] w fun e w' => e = .returned (.tuple #[.string r1, .bool r2]) ∧ Below w.heap.size w w' := by
  have HR0 := Aside0.mk hr0
  have HC0 := Aside0.mk hc0
  clear hr0 hc0
  have HB := Aside0.mk (Below.refl w.heap.size w)
  have H : (spec_Framed.l0 k l0 (⟨#[]⟩ : ByteArray) 0) = some (r1, r2) := h
  clear h
  have H' := Aside0.mk H
  clear H
  go_enter Try.func14, Try.ntmps14
  go_wp2
  go_loopg [4, 5] k (fun kq v4 v5 w' => ∃ (x4_1 : ByteArray) (x5_1 : Int), v4 = .string x4_1 ∧ v5 = .int .i64 x5_1 ∧ Aside0 (spec_Framed.l0 kq l0 x4_1 x5_1 = some (r1, r2)) ∧ Aside0 (kq ≤ k) ∧ Aside0 (Below w.heap.size w w'))
  case atStart => exact ⟨((⟨#[]⟩ : ByteArray)), (0), (by first | rfl | (simp; done) | (simp [*]; done)), (by first | rfl | (simp; done) | (simp [*]; done)), H', ⟨Nat.le_refl _⟩, ⟨by repeat (first | (with_reducible first | exact HB.out | apply below_alloc | apply pw_below_drewN | apply below_drew1) | exact HB.out)⟩⟩
  case round =>
    clear H'
    try clear c1
    obtain ⟨x4_1, x5_1, rfl, rfl, HA, HK1, HB⟩ := hrel
    cases gk with
    | zero => exact absurd HA.out (by simp [spec_Framed.l0])
    | succ k1 =>
      have H := HA.out
      clear HA
      simp only [spec_Framed.l0] at H
      by_cases c2 : x5_1 < (l0.length : Int)
      · rw [if_pos c2] at H
        have c2b0 : decide (x5_1 < (l0.length : Int)) = true := decide_eq_true c2
        clear c2
        by_cases c3 : 0 ≤ x5_1
        · rw [if_pos c3] at H
          have c3b0 : decide (0 ≤ x5_1) = true := decide_eq_true c3
          clear c3
          replace H := Option.bind_eq_some_iff.mp H
          obtain ⟨⟨t155, t156⟩, A40, H⟩ := H
          replace H : (if t156 = true then (if ((rd_T33 l0 x5_1).f0) = 0 then (some ((⟨#[]⟩ : ByteArray), false)) else ((some (([(rd_T33 l0 x5_1).f0, ((wrap64 ((t155.size : Int) + 4)) / 16777216) % 256, ((wrap64 ((t155.size : Int) + 4)) / 65536) % 256, ((wrap64 ((t155.size : Int) + 4)) / 256) % 256, (wrap64 ((t155.size : Int) + 4)) % 256] : List Int) : List Int)).bind fun y159 => (if (strOfNums y159).size + t155.size ≤ 9223372036854775807 then (if x4_1.size + ((strOfNums y159) ++ t155).size ≤ 9223372036854775807 then (spec_Framed.l0 k1 l0 (x4_1 ++ ((strOfNums y159) ++ t155)) (wrap64 (x5_1 + 1))) else (none)) else (none)))) else (some ((⟨#[]⟩ : ByteArray), false))) = some (r1, r2) := H
          have A4 := Aside0.mk A40
          clear A40
          by_cases c5 : t156 = true
          · subst c5
            have H1 : (if ((rd_T33 l0 x5_1).f0) = 0 then (some ((⟨#[]⟩ : ByteArray), false)) else ((some (([(rd_T33 l0 x5_1).f0, ((wrap64 ((t155.size : Int) + 4)) / 16777216) % 256, ((wrap64 ((t155.size : Int) + 4)) / 65536) % 256, ((wrap64 ((t155.size : Int) + 4)) / 256) % 256, (wrap64 ((t155.size : Int) + 4)) % 256] : List Int) : List Int)).bind fun y159 => (if (strOfNums y159).size + t155.size ≤ 9223372036854775807 then (if x4_1.size + ((strOfNums y159) ++ t155).size ≤ 9223372036854775807 then (spec_Framed.l0 k1 l0 (x4_1 ++ ((strOfNums y159) ++ t155)) (wrap64 (x5_1 + 1))) else (none)) else (none)))) = some (r1, r2) := by rw [if_pos rfl] at H; exact H
            clear H
            have H := H1
            clear H1
            by_cases c6 : ((rd_T33 l0 x5_1).f0) = 0
            · rw [if_pos c6] at H
              have c6b0 : (((rd_T33 l0 x5_1).f0) == 0) = true := beq_iff_eq.mpr c6
              have c6b1 : (((rd_T33 l0 x5_1).f0) != 0) = false := bne_eq_false_iff_eq.mpr c6
              clear c6
              simp only [Option.some.injEq, Prod.mk.injEq] at H
              obtain ⟨rfl, rfl⟩ := H
              have p154 : 0 ≤ (x5_1 : Int) := of_decide_eq_true (by first | (with_reducible assumption) | assumption)
              have q154 : x5_1 < (l0.length : Int) := of_decide_eq_true (by first | (with_reducible assumption) | assumption)
              obtain ⟨ad154, A154_1, c154_1, e154, hx154_0, hx154_1, hl154_1, hi154_1⟩ := at_T33 HR0.out x5_1 p154 q154
              cases e154
              replace hx154_0 := (HB.out.cell (World.block_lt_of_cell? w _ hx154_0)).trans hx154_0
              replace hx154_1 := (HB.out.cell (World.block_lt_of_cell? w _ hx154_1)).trans hx154_1
              have HR154_1 := Aside0.mk hi154_1
              have HC154_1 := Aside0.mk hl154_1
              clear hi154_1 hl154_1
              replace p154 := eq_true p154
              replace q154 := eq_true q154
              go_wp2_with (first | ((with_reducible refine gate_callee (f := 16) rfl ?_); refine goesL_ (some 21) rfl rfl Try.func16 (by kernel_rfl) rfl #[.slice A154_1 ((rd_T33 l0 x5_1).f1).length c154_1] rfl (by (try simp only [List.map_toArray, List.map_cons, List.map_nil]); first | done | rfl | (simp only [List.length_drop, List.length_take]; rfl)) ?_; (with_reducible refine (spec_Pieces.calls k1 _ _ ((rd_T33 l0 x5_1).f1) t155 true _ ?side1 ?side2 A4.out).mono ?_); (case side1 => repeat (first | exact (Kd.C_below HR154_1.out HB.out) | (with_reducible refine Kd.C_alloc ?_ _) | (with_reducible refine Kd.C_drewN ?_ _) | (with_reducible refine Kd.C_drew ?_))); (case side2 => exact HC154_1.out); rintro e w7 ⟨rfl, hb⟩; refine ⟨_, rfl, ?_⟩; have n0_ := Aside0.mk (below_step (by repeat (first | (with_reducible first | exact HB.out | apply below_alloc | apply pw_below_drewN | apply below_drew1) | exact HB.out)) hb); clear HB; have HB := n0_; clear n0_; (try clear hb); (try clear hb2); (try clear hk); (try clear hi); have p157 : 0 ≤ (x5_1 : Int) := of_decide_eq_true (by first | (with_reducible assumption) | assumption); have q157 : x5_1 < (l0.length : Int) := of_decide_eq_true (by first | (with_reducible assumption) | assumption); obtain ⟨ad157, A157_1, c157_1, e157, hx157_0, hx157_1, hl157_1, hi157_1⟩ := at_T33 HR0.out x5_1 p157 q157; obtain rfl : ad154 = ad157 := (by injection e157); replace hx157_0 := (HB.out.cell (World.block_lt_of_cell? w _ hx157_0)).trans hx157_0; replace hx157_1 := (HB.out.cell (World.block_lt_of_cell? w _ hx157_1)).trans hx157_1; have HR157_1 := Aside0.mk hi157_1; have HC157_1 := Aside0.mk hl157_1; clear hi157_1 hl157_1; replace p157 := eq_true p157; replace q157 := eq_true q157))
              go_ret2
              exact ⟨by first | rfl | (simp [errW_none, errW_some] <;> rfl) | (simp [*, errW_none, errW_some] <;> rfl), by repeat (first | (with_reducible first | exact HB.out | apply below_alloc | apply pw_below_drewN | apply below_drew1) | exact HB.out)⟩
            · rw [if_neg c6] at H
              have c6b0 : (((rd_T33 l0 x5_1).f0) == 0) = false := beq_eq_false_iff_ne.mpr c6
              have c6b1 : (((rd_T33 l0 x5_1).f0) != 0) = true := bne_iff_ne.mpr c6
              obtain ⟨y159, hy159⟩ : ∃ y_ : List Int, y_ = (([(rd_T33 l0 x5_1).f0, ((wrap64 ((t155.size : Int) + 4)) / 16777216) % 256, ((wrap64 ((t155.size : Int) + 4)) / 65536) % 256, ((wrap64 ((t155.size : Int) + 4)) / 256) % 256, (wrap64 ((t155.size : Int) + 4)) % 256] : List Int)) := ⟨_, rfl⟩
              replace H : (if (strOfNums y159).size + t155.size ≤ 9223372036854775807 then (if x4_1.size + ((strOfNums y159) ++ t155).size ≤ 9223372036854775807 then (spec_Framed.l0 k1 l0 (x4_1 ++ ((strOfNums y159) ++ t155)) (wrap64 (x5_1 + 1))) else (none)) else (none)) = some (r1, r2) := by first | (rw [hy159]; with_reducible exact H) | (have H2_ := (Option.bind_some _ _).symm.trans H; rw [hy159]; with_reducible exact H2_) | (have H2_ := (Option.bind_some _ _).symm.trans H; with_reducible exact H2_) | with_reducible exact H | (rw [hy159]; exact H) | exact H
              have Ny159 := Aside0.mk hy159
              clear hy159
              by_cases c8 : (strOfNums y159).size + t155.size ≤ 9223372036854775807
              · rw [if_pos c8] at H
                have c8b0 := eq_true c8
                have c8b1 : decide ((strOfNums y159).size + t155.size ≤ 9223372036854775807) = true := decide_eq_true c8
                try have c8b2 : (9223372036854775807 < (strOfNums y159).size + t155.size) = False := eq_false (Nat.not_lt.2 c8)
                by_cases c9 : x4_1.size + ((strOfNums y159) ++ t155).size ≤ 9223372036854775807
                · rw [if_pos c9] at H
                  have c9b0 := eq_true c9
                  have c9b1 : decide (x4_1.size + ((strOfNums y159) ++ t155).size ≤ 9223372036854775807) = true := decide_eq_true c9
                  try have c9b2 : (9223372036854775807 < x4_1.size + ((strOfNums y159) ++ t155).size) = False := eq_false (Nat.not_lt.2 c9)
                  try have c9b3 : (9223372036854775807 < x4_1.size + ((strOfNums y159).size + t155.size)) = False := eq_false (by have h_ := c9; simp only [ByteArray.size_append] at h_; omega)
                  have H' := Aside0.mk H
                  clear H
                  have p154 : 0 ≤ (x5_1 : Int) := of_decide_eq_true (by first | (with_reducible assumption) | assumption)
                  have q154 : x5_1 < (l0.length : Int) := of_decide_eq_true (by first | (with_reducible assumption) | assumption)
                  obtain ⟨ad154, A154_1, c154_1, e154, hx154_0, hx154_1, hl154_1, hi154_1⟩ := at_T33 HR0.out x5_1 p154 q154
                  cases e154
                  replace hx154_0 := (HB.out.cell (World.block_lt_of_cell? w _ hx154_0)).trans hx154_0
                  replace hx154_1 := (HB.out.cell (World.block_lt_of_cell? w _ hx154_1)).trans hx154_1
                  have HR154_1 := Aside0.mk hi154_1
                  have HC154_1 := Aside0.mk hl154_1
                  clear hi154_1 hl154_1
                  replace p154 := eq_true p154
                  replace q154 := eq_true q154
                  go_wp2_with (first | ((with_reducible refine gate_callee (f := 16) rfl ?_); refine goesL_ (some 21) rfl rfl Try.func16 (by kernel_rfl) rfl #[.slice A154_1 ((rd_T33 l0 x5_1).f1).length c154_1] rfl (by (try simp only [List.map_toArray, List.map_cons, List.map_nil]); first | done | rfl | (simp only [List.length_drop, List.length_take]; rfl)) ?_; (with_reducible refine (spec_Pieces.calls k1 _ _ ((rd_T33 l0 x5_1).f1) t155 true _ ?side1 ?side2 A4.out).mono ?_); (case side1 => repeat (first | exact (Kd.C_below HR154_1.out HB.out) | (with_reducible refine Kd.C_alloc ?_ _) | (with_reducible refine Kd.C_drewN ?_ _) | (with_reducible refine Kd.C_drew ?_))); (case side2 => exact HC154_1.out); rintro e w10 ⟨rfl, hb⟩; refine ⟨_, rfl, ?_⟩; have n0_ := Aside0.mk (below_step (by repeat (first | (with_reducible first | exact HB.out | apply below_alloc | apply pw_below_drewN | apply below_drew1) | exact HB.out)) hb); clear HB; have HB := n0_; clear n0_; (try clear hb); (try clear hb2); (try clear hk); (try clear hi); have p157 : 0 ≤ (x5_1 : Int) := of_decide_eq_true (by first | (with_reducible assumption) | assumption); have q157 : x5_1 < (l0.length : Int) := of_decide_eq_true (by first | (with_reducible assumption) | assumption); obtain ⟨ad157, A157_1, c157_1, e157, hx157_0, hx157_1, hl157_1, hi157_1⟩ := at_T33 HR0.out x5_1 p157 q157; obtain rfl : ad154 = ad157 := (by injection e157); replace hx157_0 := (HB.out.cell (World.block_lt_of_cell? w _ hx157_0)).trans hx157_0; replace hx157_1 := (HB.out.cell (World.block_lt_of_cell? w _ hx157_1)).trans hx157_1; have HR157_1 := Aside0.mk hi157_1; have HC157_1 := Aside0.mk hl157_1; clear hi157_1 hl157_1; replace p157 := eq_true p157; replace q157 := eq_true q157; have p158 : 0 ≤ (x5_1 : Int) := of_decide_eq_true (by first | (with_reducible assumption) | assumption); have q158 : x5_1 < (l0.length : Int) := of_decide_eq_true (by first | (with_reducible assumption) | assumption); obtain ⟨ad158, A158_1, c158_1, e158, hx158_0, hx158_1, hl158_1, hi158_1⟩ := at_T33 HR0.out x5_1 p158 q158; obtain rfl : ad154 = ad158 := (by injection e158); replace hx158_0 := (HB.out.cell (World.block_lt_of_cell? w _ hx158_0)).trans hx158_0; replace hx158_1 := (HB.out.cell (World.block_lt_of_cell? w _ hx158_1)).trans hx158_1; have HR158_1 := Aside0.mk hi158_1; have HC158_1 := Aside0.mk hl158_1; clear hi158_1 hl158_1; replace p158 := eq_true p158; replace q158 := eq_true q158; have ea_ := Option.some.inj (hx157_1.symm.trans hx158_1); injection ea_ with ea_ en_ ec_; subst ea_; subst ec_; clear en_) | ((with_reducible refine gate_dst (N := 54) rfl ?_); refine Kd.R_lit (Kd.int .u8) _ 5 ?hg (N := 54) ?hd (xs := ([(rd_T33 l0 x5_1).f0, ((wrap64 ((t155.size : Int) + 4)) / 16777216) % 256, ((wrap64 ((t155.size : Int) + 4)) / 65536) % 256, ((wrap64 ((t155.size : Int) + 4)) / 256) % 256, (wrap64 ((t155.size : Int) + 4)) % 256] : List Int)) (inner := [.int .u8 ((rd_T33 l0 x5_1).f0), .int .u8 (((wrap64 ((t155.size : Int) + 4)) / 16777216) % 256), .int .u8 (((wrap64 ((t155.size : Int) + 4)) / 65536) % 256), .int .u8 (((wrap64 ((t155.size : Int) + 4)) / 256) % 256), .int .u8 ((wrap64 ((t155.size : Int) + 4)) % 256)]) (ok := fun _ => True) (okp := fun _ => True) ?hr ?hp (fun _ hk => hk) trivial (Below.refl _ _) (Nat.le_refl _) (by simp) ?_; (case hd => rfl); (case hg => rfl); (case hr => first | (go_simp; done) | (go_simp; rfl)); (case hp => exact (Reps.one (show Kd.M (Kd.int .u8) _ _ _ ((rd_T33 l0 x5_1).f0) [.int .u8 ((rd_T33 l0 x5_1).f0)] from rfl) (Reps.one (show Kd.M (Kd.int .u8) _ _ _ (((wrap64 ((t155.size : Int) + 4)) / 16777216) % 256) [.int .u8 (((wrap64 ((t155.size : Int) + 4)) / 16777216) % 256)] from rfl) (Reps.one (show Kd.M (Kd.int .u8) _ _ _ (((wrap64 ((t155.size : Int) + 4)) / 65536) % 256) [.int .u8 (((wrap64 ((t155.size : Int) + 4)) / 65536) % 256)] from rfl) (Reps.one (show Kd.M (Kd.int .u8) _ _ _ (((wrap64 ((t155.size : Int) + 4)) / 256) % 256) [.int .u8 (((wrap64 ((t155.size : Int) + 4)) / 256) % 256)] from rfl) (Reps.one (show Kd.M (Kd.int .u8) _ _ _ ((wrap64 ((t155.size : Int) + 4)) % 256) [.int .u8 ((wrap64 ((t155.size : Int) + 4)) % 256)] from rfl) (Reps.none _ _))))))); intro v160 w11 ho12 hb hg_ hnew_; clear hg_ hnew_; (first | rw [← Ny159.out] at ho12 | (simp only [Int.reduceToNat] at ho12; rw [← Ny159.out] at ho12)); have n0_ := Aside0.mk (Kd.R_lower ho12 (below_size (by repeat (first | (with_reducible first | exact HB.out | apply below_alloc | apply pw_below_drewN | apply below_drew1) | exact HB.out)))); have n1_ := Aside0.mk (below_step (by repeat (first | (with_reducible first | exact HB.out | apply below_alloc | apply pw_below_drewN | apply below_drew1) | exact HB.out)) hb); clear HB; have HO161 := n0_; have HB := n1_; clear n0_ n1_; clear hb ho12; have hcv13 := own_string (P := Try.prog) Try.underlying58 Try.underlying5 Try.underlying9 (Kd.own_of_R HO161.out)))
                  go_roundg k1
                  case measure => have := HK1.out; omega
                  case rel => exact ⟨(x4_1 ++ ((strOfNums y159) ++ t155)), (wrap64 (x5_1 + 1)), (by first | rfl | (simp; done) | (simp [*]; done)), (by first | rfl | (simp; done) | (simp [*]; done)), H', ⟨by have := HK1.out; omega⟩, ⟨by repeat (first | (with_reducible first | exact HB.out | apply below_alloc | apply pw_below_drewN | apply below_drew1) | exact HB.out)⟩⟩
                · rw [if_neg c9] at H
                  exact absurd H (by simp)
              · rw [if_neg c8] at H
                exact absurd H (by simp)
          · replace c5 := Bool.eq_false_iff.mpr c5
            subst c5
            have H1 : (some ((⟨#[]⟩ : ByteArray), false)) = some (r1, r2) := by rw [if_neg (show ¬ (false = true) by decide)] at H; exact H
            clear H
            have H := H1
            clear H1
            simp only [Option.some.injEq, Prod.mk.injEq] at H
            obtain ⟨rfl, rfl⟩ := H
            have p154 : 0 ≤ (x5_1 : Int) := of_decide_eq_true (by first | (with_reducible assumption) | assumption)
            have q154 : x5_1 < (l0.length : Int) := of_decide_eq_true (by first | (with_reducible assumption) | assumption)
            obtain ⟨ad154, A154_1, c154_1, e154, hx154_0, hx154_1, hl154_1, hi154_1⟩ := at_T33 HR0.out x5_1 p154 q154
            cases e154
            replace hx154_0 := (HB.out.cell (World.block_lt_of_cell? w _ hx154_0)).trans hx154_0
            replace hx154_1 := (HB.out.cell (World.block_lt_of_cell? w _ hx154_1)).trans hx154_1
            have HR154_1 := Aside0.mk hi154_1
            have HC154_1 := Aside0.mk hl154_1
            clear hi154_1 hl154_1
            replace p154 := eq_true p154
            replace q154 := eq_true q154
            go_wp2_with (first | ((with_reducible refine gate_callee (f := 16) rfl ?_); refine goesL_ (some 21) rfl rfl Try.func16 (by kernel_rfl) rfl #[.slice A154_1 ((rd_T33 l0 x5_1).f1).length c154_1] rfl (by (try simp only [List.map_toArray, List.map_cons, List.map_nil]); first | done | rfl | (simp only [List.length_drop, List.length_take]; rfl)) ?_; (with_reducible refine (spec_Pieces.calls k1 _ _ ((rd_T33 l0 x5_1).f1) t155 false _ ?side1 ?side2 A4.out).mono ?_); (case side1 => repeat (first | exact (Kd.C_below HR154_1.out HB.out) | (with_reducible refine Kd.C_alloc ?_ _) | (with_reducible refine Kd.C_drewN ?_ _) | (with_reducible refine Kd.C_drew ?_))); (case side2 => exact HC154_1.out); rintro e w14 ⟨rfl, hb⟩; refine ⟨_, rfl, ?_⟩; have n0_ := Aside0.mk (below_step (by repeat (first | (with_reducible first | exact HB.out | apply below_alloc | apply pw_below_drewN | apply below_drew1) | exact HB.out)) hb); clear HB; have HB := n0_; clear n0_; (try clear hb); (try clear hb2); (try clear hk); (try clear hi)))
            go_ret2
            exact ⟨by first | rfl | (simp [errW_none, errW_some] <;> rfl) | (simp [*, errW_none, errW_some] <;> rfl), by repeat (first | (with_reducible first | exact HB.out | apply below_alloc | apply pw_below_drewN | apply below_drew1) | exact HB.out)⟩
        · rw [if_neg c3] at H
          exact absurd H (by simp)
      · rw [if_neg c2] at H
        have c2b0 : decide (x5_1 < (l0.length : Int)) = false := decide_eq_false c2
        clear c2
        simp only [Option.some.injEq, Prod.mk.injEq] at H
        obtain ⟨rfl, rfl⟩ := H
        go_wp2
        go_ret2
        exact ⟨by first | rfl | (simp [errW_none, errW_some] <;> rfl) | (simp [*, errW_none, errW_some] <;> rfl), by repeat (first | (with_reducible first | exact HB.out | apply below_alloc | apply pw_below_drewN | apply below_drew1) | exact HB.out)⟩

/-! ### pq_NewWriter: function 38 -/
/-- A writer at block g of W, whose bytes are f and whose last length stands at p; both blocks lie from base on. -/
def IsWr (base : Nat) (W : World) (g : Nat) (f : List Int) (p : Int) : Prop := ∃ v, W.heap[g]? = some (.cells #[v, .int .i64 p] 106 (0, 0)) ∧ base ≤ g ∧ W.ownsRow base 5 1 v f.length (nums .u8 f)
theorem IsWr.below {base : Nat} {W W1 : World} {g : Nat} {f : List Int} {p : Int} (h : IsWr base W g f p) (hw : Below W.heap.size W W1) : IsWr base W1 g f p := by
  obtain ⟨v, hb, hg, ho⟩ := h
  exact ⟨v, (hw.block g (blk_lt hb)).trans hb, hg, pw_own_below ho hw⟩
theorem IsWr.put {base : Nat} {w0 W1 : World} {g : Nat} {f : List Int} {p : Int} {v v1 : Value} (hb : W1.heap[g]? = some (.cells #[v, .int .i64 p] 106 (0, 0))) (hg : base ≤ g) (ho : W1.ownsRow base 5 1 v1 f.length (nums .u8 f)) (hB : Below base w0 W1) : IsWr base (W1.setCell ⟨g, 0, none⟩ v1) g f p ∧ Below base w0 (W1.setCell ⟨g, 0, none⟩ v1) :=
  ⟨⟨v1, by simpa using blk_set hb 0 v1, hg, own_setCell ho (own_ne ho hb (by decide)) v1⟩, hB.setCell hg _⟩
/-- A length put into bytes at place q: it counts itself and what is behind it. -/
def lenSet (f : List Int) (q : Nat) : List Int := (((f.set q (((f.length - q : Nat) : Int) / 16777216 % 256)).set (q + 1) (((f.length - q : Nat) : Int) / 65536 % 256)).set (q + 2) (((f.length - q : Nat) : Int) / 256 % 256)).set (q + 3) (((f.length - q : Nat) : Int) % 256)
theorem lenSet_length (f : List Int) (q : Nat) : (lenSet f q).length = f.length := by simp [lenSet]
set_option maxHeartbeats 1000000 in
set_option maxRecDepth 100000 in
theorem pq_NewWriter.calls (c : Int) (w0 w : World) (hB : Below w0.heap.size w0 w) :
    Calls Try.prog 38 #[.int .u8 c] w fun e w' => ∃ g, e = .returned (.pointer (some ⟨g, 0, none⟩)) ∧ IsWr w0.heap.size w' g [c, 0, 0, 0, 0] 1 ∧ Below w0.heap.size w0 w' := by
  have HL := own_lit w w0.heap.size 5 .u8 [c, 0, 0, 0, 0] hB.size (by simp)
  have hlt := hB.size
  go_enter Try.func38, Try.ntmps38
  go_wp2_with fail
  go_ret
  refine ⟨_, rfl, ⟨_, (by simpa using heap_alloc_new (w.alloc (.cells #[.int .u8 c, .int .u8 0, .int .u8 0, .int .u8 0, .int .u8 0] 5)) _), by omega, ?_⟩, ?_⟩
  · exact pw_own_below HL (below_alloc (Below.refl _ _) _)
  · exact (hB.alloc hlt _).alloc (by simp; omega) _

/-! ### binary_bigEndian_PutUint32: function 77 -/
set_option maxHeartbeats 1000000 in
set_option maxRecDepth 100000 in
theorem binary_bigEndian_PutUint32.calls (b o n c : Nat) (cs : Array Value) (x : Int) (w : World) (hb : w.heap[b]? = some (.cells cs 5 (0, 0))) (hn : 4 ≤ n) (ho : o + 4 ≤ cs.size) (h0 : 0 ≤ x) (h1 : x < 4294967296) :
    Calls Try.prog 77 #[.agg #[], .slice (some ⟨b, o, none⟩) n c, .int .u32 x] w fun e w' => e = .returned (.tuple #[]) ∧ w' = (((((w.alloc (.cells #[] 133)).setCell ⟨b, o, none⟩ (.int .u8 (x / 16777216 % 256))).setCell ⟨b, o + 1, none⟩ (.int .u8 (x / 65536 % 256))).setCell ⟨b, o + 2, none⟩ (.int .u8 (x / 256 % 256))).setCell ⟨b, o + 3, none⟩ (.int .u8 (x % 256))) := by
  have Ba : (w.alloc (.cells #[] 133)).heap[b]? = some (.cells cs 5 (0, 0)) := blk_alloc hb _
  have hlast : (3 : Int) < (n : Int) := by omega
  have g0 : (0 : Int) < (n : Int) := by omega
  have g1 : (1 : Int) < (n : Int) := by omega
  have g2 : (2 : Int) < (n : Int) := by omega
  have g3 : (3 : Int) < (n : Int) := by omega
  obtain ⟨u0, hu0⟩ : ∃ u, cs[o + 0]? = some u := ⟨_, Array.getElem?_eq_getElem (by omega)⟩
  have c0 := (blk_cell Ba (o + 0)).trans hu0
  have f0 := blk_frozen Ba (o + 0)
  obtain ⟨u1, hu1⟩ : ∃ u, cs[o + 1]? = some u := ⟨_, Array.getElem?_eq_getElem (by omega)⟩
  have c1 := (blk_cell Ba (o + 1)).trans hu1
  have f1 := blk_frozen Ba (o + 1)
  obtain ⟨u2, hu2⟩ : ∃ u, cs[o + 2]? = some u := ⟨_, Array.getElem?_eq_getElem (by omega)⟩
  have c2 := (blk_cell Ba (o + 2)).trans hu2
  have f2 := blk_frozen Ba (o + 2)
  obtain ⟨u3, hu3⟩ : ∃ u, cs[o + 3]? = some u := ⟨_, Array.getElem?_eq_getElem (by omega)⟩
  have c3 := (blk_cell Ba (o + 3)).trans hu3
  have f3 := blk_frozen Ba (o + 3)
  simp only [Nat.add_zero] at c0 f0
  clear Ba hu0 hu1 hu2 hu3
  have e0 : IntKind.u8.wrap (x / 16777216) = x / 16777216 % 256 := by rw [IntKind.wrap_u8]
  have e1 : IntKind.u8.wrap (x / 65536) = x / 65536 % 256 := by rw [IntKind.wrap_u8]
  have e2 : IntKind.u8.wrap (x / 256) = x / 256 % 256 := by rw [IntKind.wrap_u8]
  have e3 : IntKind.u8.wrap x = x % 256 := by rw [IntKind.wrap_u8]
  go_enter Try.func77, Try.ntmps77
  go_wp2_with fail
  go_end0
  exact ⟨rfl, rfl⟩

/-! ### pq_writeBuf_next: function 62 -/
set_option maxHeartbeats 1000000 in
set_option maxRecDepth 100000 in
theorem pq_writeBuf_next.calls (g : Nat) (f : List Int) (q : Nat) (c : Int) (w0 w : World) (hI : IsWr w0.heap.size w g f (q : Int)) (hB : Below w0.heap.size w0 w) (hq4 : q + 4 ≤ f.length) (hl : f.length ≤ 4294967295) :
    Calls Try.prog 62 #[.pointer (some ⟨g, 0, none⟩), .int .u8 c] w fun e w' => e = .returned (.tuple #[]) ∧ IsWr w0.heap.size w' g (lenSet f q ++ [c, 0, 0, 0, 0]) ((f.length : Int) + 1) ∧ Below w0.heap.size w0 w' ∧ ∀ (k : Nat) (cs : Array Value) (t : TypeId), w.heap[k]? = some (.cells cs t (0, 0)) → t ≠ 5 → k ≠ g → w'.heap[k]? = some (.cells cs t (0, 0)) := by
  obtain ⟨v, hb, hg, ho⟩ := hI
  have hbs := hB.size
  have hvg : some g ≠ v.ownBlock := own_ne ho hb (by decide)
  obtain ⟨b, cap, rfl, hbb, hbl⟩ := ho.form (by omega)
  have hbg : g ≠ b := fun e => hvg (by rw [e]; rfl)
  have hlt := blk_lt hb
  have c0 : w.cell? ⟨g, 0, none⟩ = some (.slice (some ⟨b, 0, none⟩) f.length cap) := (blk_cell hb 0).trans rfl
  have c1 : w.cell? ⟨g, 1, none⟩ = some (.int .i64 (q : Int)) := (blk_cell hb 1).trans rfl
  have hcur : ∃ cur, w.heap[b]? = some (.cells cur 5 (0, 0)) ∧ f.length ≤ cap ∧ cap ≤ cur.size := by
    rcases ho.2 with ⟨h, _⟩ | ⟨b', cap', cur, h, _, hh, h1, h2, h3, h4⟩
    · cases h
    · injection h with h _ h6
      injection h with h
      injection h with h
      subst h h6
      exact ⟨cur, hh, h1, by omega⟩
  obtain ⟨cur, hcur, hfc, hcc⟩ := hcur
  have hcapq : ¬ cap = q := by omega
  have hcut1 : (0 : Int) ≤ (q : Int) := by omega
  have hcut2 : (q : Int) ≤ (f.length : Int) := by omega
  have hlen : (f.length : Int) - (q : Int) = ((f.length - q : Nat) : Int) := by omega
  have hgt : ((((f.length - q : Nat) : Int)) > 4294967295) = False := eq_false (by omega)
  have hgt2 : (4294967295 < (((f.length - q : Nat) : Int))) = False := eq_false (by omega)
  have hwr : IntKind.u32.wrap (((f.length - q : Nat) : Int)) = ((f.length - q : Nat) : Int) := by rw [IntKind.wrap_u32]; omega
  have hcall := fun nq : Nat => binary_bigEndian_PutUint32.calls b q (f.length - q) (cap - q) cur ((f.length - q : Nat) : Int) (w.drewN nq) hcur (by omega) (by omega) (by omega) (by omega)
  have hst0 := fun nq : Nat => (show (w.drewN nq).ownsRow w0.heap.size 5 1 (.slice (some ⟨b, 0, none⟩) f.length cap) f.length (nums .u8 f) from ho).alloc (.cells #[] 133)
  have hst1 := fun nq : Nat => (own_store (hst0 nq) ((q + 0 : Nat) : Int) (((f.length - q : Nat) : Int) / 16777216 % 256)).1
  have hst2 := fun nq : Nat => (own_store (hst1 nq) ((q + 1 : Nat) : Int) (((f.length - q : Nat) : Int) / 65536 % 256)).1
  have hst3 := fun nq : Nat => (own_store (hst2 nq) ((q + 2 : Nat) : Int) (((f.length - q : Nat) : Int) / 256 % 256)).1
  have hst4 := fun nq : Nat => (own_store (hst3 nq) ((q + 3 : Nat) : Int) (((f.length - q : Nat) : Int) % 256)).1
  simp only [Int.toNat_natCast, Nat.add_zero] at hst4
  have HX0 : ∀ (nq : Nat) (W : World), W = ((((((w.drewN nq).alloc (.cells #[] 133)).setCell ⟨b, q, none⟩ (.int .u8 (((f.length - q : Nat) : Int) / 16777216 % 256))).setCell ⟨b, q + 1, none⟩ (.int .u8 (((f.length - q : Nat) : Int) / 65536 % 256))).setCell ⟨b, q + 2, none⟩ (.int .u8 (((f.length - q : Nat) : Int) / 256 % 256))).setCell ⟨b, q + 3, none⟩ (.int .u8 (((f.length - q : Nat) : Int) % 256))) → W.ownsRow w0.heap.size 5 1 (.slice (some ⟨b, 0, none⟩) f.length cap) f.length (nums .u8 (lenSet f q)) := fun nq W h => by rw [h]; exact hst4 nq
  have BX0 : ∀ (nq : Nat) (W : World), W = ((((((w.drewN nq).alloc (.cells #[] 133)).setCell ⟨b, q, none⟩ (.int .u8 (((f.length - q : Nat) : Int) / 16777216 % 256))).setCell ⟨b, q + 1, none⟩ (.int .u8 (((f.length - q : Nat) : Int) / 65536 % 256))).setCell ⟨b, q + 2, none⟩ (.int .u8 (((f.length - q : Nat) : Int) / 256 % 256))).setCell ⟨b, q + 3, none⟩ (.int .u8 (((f.length - q : Nat) : Int) % 256))) → Below w0.heap.size w0 W := fun nq W h => by
    rw [h]
    exact ((((((pw_below_drewN hB nq).alloc hbs _).setCell (p := ⟨b, q, none⟩) hbb _).setCell (p := ⟨b, q + 1, none⟩) hbb _).setCell (p := ⟨b, q + 2, none⟩) hbb _).setCell (p := ⟨b, q + 3, none⟩) hbb _)
  have hbX0 : ∀ (nq : Nat) (W : World), W = ((((((w.drewN nq).alloc (.cells #[] 133)).setCell ⟨b, q, none⟩ (.int .u8 (((f.length - q : Nat) : Int) / 16777216 % 256))).setCell ⟨b, q + 1, none⟩ (.int .u8 (((f.length - q : Nat) : Int) / 65536 % 256))).setCell ⟨b, q + 2, none⟩ (.int .u8 (((f.length - q : Nat) : Int) / 256 % 256))).setCell ⟨b, q + 3, none⟩ (.int .u8 (((f.length - q : Nat) : Int) % 256))) → W.heap[g]? = some (.cells #[.slice (some ⟨b, 0, none⟩) f.length cap, .int .i64 (q : Int)] 106 (0, 0)) := fun nq W h => by
    rw [h]
    exact blk_far (blk_far (blk_far (blk_far (blk_alloc (show (w.drewN nq).heap[g]? = _ from hb) _) hbg _) hbg _) hbg _) hbg _
  have hkX0 : ∀ (nq : Nat) (W : World), W = ((((((w.drewN nq).alloc (.cells #[] 133)).setCell ⟨b, q, none⟩ (.int .u8 (((f.length - q : Nat) : Int) / 16777216 % 256))).setCell ⟨b, q + 1, none⟩ (.int .u8 (((f.length - q : Nat) : Int) / 65536 % 256))).setCell ⟨b, q + 2, none⟩ (.int .u8 (((f.length - q : Nat) : Int) / 256 % 256))).setCell ⟨b, q + 3, none⟩ (.int .u8 (((f.length - q : Nat) : Int) % 256))) → ∀ (k : Nat) (cs : Array Value) (t : TypeId), w.heap[k]? = some (.cells cs t (0, 0)) → t ≠ 5 → W.heap[k]? = some (.cells cs t (0, 0)) := fun nq W h k cs t hk ht => by
    rw [h]
    have hkb : k ≠ b := blk_ne hk hcur ht
    exact blk_far (blk_far (blk_far (blk_far (blk_alloc (show (w.drewN nq).heap[k]? = _ from hk) _) hkb _) hkb _) hkb _) hkb _
  clear hst0 hst1 hst2 hst3 hst4
  go_enter Try.func62, Try.ntmps62
  go_wp2_with fail
  go_quiet (fail)
  go_wp2_with fail
  refine (hcall _).mono ?_
  rintro e w' ⟨rfl, hw'⟩
  have HX := HX0 _ _ hw'
  have BX := BX0 _ _ hw'
  have hbX := hbX0 _ _ hw'
  have hkX := hkX0 _ _ hw'
  have cX : w'.cell? ⟨g, 0, none⟩ = some (.slice (some ⟨b, 0, none⟩) f.length cap) := (blk_cell hbX 0).trans rfl
  clear hcall hw' HX0 BX0 hbX0 hkX0
  have cX1 : w'.cell? ⟨g, 1, none⟩ = some (.int .i64 (q : Int)) := (blk_cell hbX 1).trans rfl
  have fX := blk_frozen hbX 1
  have hw1 : IntKind.i64.wrap ((f.length : Int) + 1) = (f.length : Int) + 1 := by rw [IntKind.wrap_i64]; omega
  have hbY : (w'.setCell ⟨g, 1, none⟩ (.int .i64 ((f.length : Int) + 1))).heap[g]? = some (.cells #[.slice (some ⟨b, 0, none⟩) f.length cap, .int .i64 ((f.length : Int) + 1)] 106 (0, 0)) := by simpa using blk_set hbX 1 (.int .i64 ((f.length : Int) + 1))
  have HY : (w'.setCell ⟨g, 1, none⟩ (.int .i64 ((f.length : Int) + 1))).ownsRow w0.heap.size 5 1 (.slice (some ⟨b, 0, none⟩) f.length cap) (lenSet f q).length (nums .u8 (lenSet f q)) := by rw [lenSet_length]; exact own_setCell HX (own_ne HX hbX (by decide)) _
  have BY : Below w0.heap.size w0 (w'.setCell ⟨g, 1, none⟩ (.int .i64 ((f.length : Int) + 1))) := BX.setCell hg _
  have cY : (w'.setCell ⟨g, 1, none⟩ (.int .i64 ((f.length : Int) + 1))).cell? ⟨g, 0, none⟩ = some (.slice (some ⟨b, 0, none⟩) f.length cap) := (blk_cell hbY 0).trans rfl
  have HL := own_lit (w'.setCell ⟨g, 1, none⟩ (.int .i64 ((f.length : Int) + 1))) w0.heap.size 5 .u8 [c, 0, 0, 0, 0] BY.size (by simp)
  obtain ⟨A2, c2, e2, hr2⟩ := own_reads HL
  injection e2 with e2 _ e3
  subst e2 e3
  have HYa := HY.alloc (.cells #[.int .u8 c, .int .u8 0, .int .u8 0, .int .u8 0, .int .u8 0] 5)
  have BYa := BY.alloc BY.size (.cells #[.int .u8 c, .int .u8 0, .int .u8 0, .int .u8 0, .int .u8 0] 5)
  have hvg2 : some g ≠ (Value.slice (some ⟨b, 0, none⟩) f.length cap).ownBlock := own_ne HY hbY (by decide)
  rw [lenSet_length] at HYa
  go_wp2_with (first | (at_builtin; refine print_append_row (w0 := w0) (W := (w'.setCell ⟨g, 1, none⟩ (.int .i64 ((f.length : Int) + 1))).alloc (.cells #[.int .u8 c, .int .u8 0, .int .u8 0, .int .u8 0, .int .u8 0] 5)) w0.heap.size rfl (.tmp 37) (.tmp 39) 58 5 .u8 1 rfl Try.underlying58 info5 (by decide) (.slice (some ⟨b, 0, none⟩) f.length cap) (lenSet f q) [c, 0, 0, 0, 0] (some ⟨(w'.setCell ⟨g, 1, none⟩ (.int .i64 ((f.length : Int) + 1))).heap.size, 0, none⟩) 5 5 rfl (by first | rfl | (go_simp; done) | (go_simp; rfl)) (by rw [lenSet_length]; exact HYa) hr2 BYa BYa.size (by rw [lenSet_length]; omega) ?_; intro v1 w1 ho1 hB1 hg1 hat1; obtain ⟨A3, c3, rfl⟩ := own_slice ho1; have B1 := blk_grown (blk_alloc hbY _) hg1 hvg2; have c1_ := (blk_cell B1 0).trans (rfl : _ = some (Value.slice (some ⟨b, 0, none⟩) f.length cap)); have f1 := blk_frozen B1 0))
  go_end0
  have hfin := IsWr.put B1 hg ho1 hB1
  have hsl : (lenSet f q ++ [c, 0, 0, 0, 0]).length = (lenSet f q).length + 5 := by simp
  rw [hsl] at hfin
  refine ⟨rfl, hfin.1, hfin.2, fun k cs t hk ht hkg => ?_⟩
  have hkb : k ≠ b := blk_ne hk hcur ht
  exact blk_far (blk_grown (blk_alloc (blk_far (hkX k cs t hk ht) hkg _) _) hg1 (fun e => hkb (by injection e))) hkg _

/-! ### pq_Writer_Next: function 39 -/
set_option maxHeartbeats 1000000 in
set_option maxRecDepth 100000 in
theorem pq_Writer_Next.calls (g : Nat) (f : List Int) (q : Nat) (c : Int) (w0 w : World) (hI : IsWr w0.heap.size w g f (q : Int)) (hB : Below w0.heap.size w0 w) (hq4 : q + 4 ≤ f.length) (hl : f.length ≤ 4294967295) :
    Calls Try.prog 39 #[.pointer (some ⟨g, 0, none⟩), .int .u8 c] w fun e w' => e = .returned (.tuple #[]) ∧ IsWr w0.heap.size w' g (lenSet f q ++ [c, 0, 0, 0, 0]) ((f.length : Int) + 1) ∧ Below w0.heap.size w0 w' ∧ ∀ (k : Nat) (cs : Array Value) (t : TypeId), w.heap[k]? = some (.cells cs t (0, 0)) → t ≠ 5 → k ≠ g → w'.heap[k]? = some (.cells cs t (0, 0)) := by
  have hc := pq_writeBuf_next.calls g f q c w0 w hI hB hq4 hl
  go_enter Try.func39, Try.ntmps39
  go_wp2_with fail
  refine hc.mono ?_
  rintro e w' ⟨rfl, h1, h2, h3⟩
  go_wp2_with fail
  go_end0
  exact ⟨rfl, h1, h2, h3⟩

/-! ### pq_writeBuf_byte: function 78 -/
set_option maxHeartbeats 1000000 in
set_option maxRecDepth 100000 in
theorem pq_writeBuf_byte.calls (g : Nat) (f : List Int) (p : Int) (c : Int) (w0 w : World) (hI : IsWr w0.heap.size w g f p) (hB : Below w0.heap.size w0 w) (hl : f.length + 1 ≤ 140737488355328) :
    Calls Try.prog 78 #[.pointer (some ⟨g, 0, none⟩), .int .u8 c] w fun e w' => e = .returned (.tuple #[]) ∧ IsWr w0.heap.size w' g (f ++ [c]) p ∧ Below w0.heap.size w0 w' := by
  obtain ⟨v, hb, hg, ho⟩ := hI
  have hlt := blk_lt hb
  have hbs := hB.size
  have hvg : some g ≠ v.ownBlock := own_ne ho hb (by decide)
  have c0 : w.cell? ⟨g, 0, none⟩ = some v := (blk_cell hb 0).trans rfl
  have f0 := blk_frozen hb 0
  go_enter Try.func78, Try.ntmps78
  go_wp2_with (first | (at_builtin; refine print_append_num (w0 := w0) (W := w) w0.heap.size rfl (.tmp 8) (.tmp 10) 58 5 .u8 1 rfl Try.underlying58 info5 (by decide) v f c rfl rfl ho hB hbs (by omega) ?_; intro v1 w1 ho1 hB1 hg1 hat1; obtain ⟨A3, c3, rfl⟩ := own_slice ho1; have B1 := blk_grown hb hg1 hvg; have c1 := (blk_cell B1 0).trans (rfl : _ = some v); have f1 := blk_frozen B1 0))
  go_end0
  exact ⟨rfl, by simpa [bytesOf_length] using IsWr.put B1 hg ho1 hB1⟩

/-! ### pq_Writer_Byte: function 63 -/
set_option maxHeartbeats 1000000 in
set_option maxRecDepth 100000 in
theorem pq_Writer_Byte.calls (g : Nat) (f : List Int) (p : Int) (c : Int) (w0 w : World) (hI : IsWr w0.heap.size w g f (p : Int)) (hB : Below w0.heap.size w0 w) (hl : f.length + 1 ≤ 140737488355328) :
    Calls Try.prog 63 #[.pointer (some ⟨g, 0, none⟩), .int .u8 c] w fun e w' => e = .returned (.tuple #[]) ∧ IsWr w0.heap.size w' g (f ++ [c]) p ∧ Below w0.heap.size w0 w' := by
  have hc := pq_writeBuf_byte.calls g f p c w0 w hI hB hl
  go_enter Try.func63, Try.ntmps63
  go_wp2_with fail
  refine hc.mono ?_
  rintro e w' ⟨rfl, h1, h2⟩
  go_wp2_with fail
  go_end0
  exact ⟨rfl, h1, h2⟩

/-! ### binary_bigEndian_PutUint16: function 86 -/
set_option maxHeartbeats 1000000 in
set_option maxRecDepth 100000 in
theorem binary_bigEndian_PutUint16.calls (b o n c : Nat) (cs : Array Value) (x : Int) (w : World) (hb : w.heap[b]? = some (.cells cs 5 (0, 0))) (hn : 2 ≤ n) (ho : o + 2 ≤ cs.size) (h0 : 0 ≤ x) (h1 : x < 65536) :
    Calls Try.prog 86 #[.agg #[], .slice (some ⟨b, o, none⟩) n c, .int .u16 x] w fun e w' => e = .returned (.tuple #[]) ∧ w' = (((w.alloc (.cells #[] 133)).setCell ⟨b, o, none⟩ (.int .u8 (x / 256 % 256))).setCell ⟨b, o + 1, none⟩ (.int .u8 (x % 256))) := by
  have Ba : (w.alloc (.cells #[] 133)).heap[b]? = some (.cells cs 5 (0, 0)) := blk_alloc hb _
  have hlast : (1 : Int) < (n : Int) := by omega
  have g0 : (0 : Int) < (n : Int) := by omega
  have g1 : (1 : Int) < (n : Int) := by omega
  obtain ⟨u0, hu0⟩ : ∃ u, cs[o + 0]? = some u := ⟨_, Array.getElem?_eq_getElem (by omega)⟩
  have c0 := (blk_cell Ba (o + 0)).trans hu0
  have f0 := blk_frozen Ba (o + 0)
  obtain ⟨u1, hu1⟩ : ∃ u, cs[o + 1]? = some u := ⟨_, Array.getElem?_eq_getElem (by omega)⟩
  have c1 := (blk_cell Ba (o + 1)).trans hu1
  have f1 := blk_frozen Ba (o + 1)
  simp only [Nat.add_zero] at c0 f0
  clear Ba hu0 hu1
  have e0 : IntKind.u8.wrap (x / 256) = x / 256 % 256 := by rw [IntKind.wrap_u8]
  have e1 : IntKind.u8.wrap x = x % 256 := by rw [IntKind.wrap_u8]
  go_enter Try.func86, Try.ntmps86
  go_wp2_with fail
  go_end0
  exact ⟨rfl, rfl⟩

/-! ### pq_writeBuf_int16: function 79 -/
set_option maxHeartbeats 1000000 in
set_option maxRecDepth 100000 in
theorem pq_writeBuf_int16.calls (g : Nat) (f : List Int) (p : Int) (x : Int) (w0 w : World) (hI : IsWr w0.heap.size w g f p) (hB : Below w0.heap.size w0 w) (hl : f.length + 2 ≤ 140737488355328) :
    Calls Try.prog 79 #[.pointer (some ⟨g, 0, none⟩), .int .i64 x] w fun e w' => e = .returned (.tuple #[]) ∧ IsWr w0.heap.size w' g (f ++ [(IntKind.u16.wrap x / 256 % 256), (IntKind.u16.wrap x % 256)]) p ∧ Below w0.heap.size w0 w' := by
  obtain ⟨v, hb, hg, ho⟩ := hI
  have hlt := blk_lt hb
  have hbs := hB.size
  have hvg : some g ≠ v.ownBlock := own_ne ho hb (by decide)
  have c0 : w.cell? ⟨g, 0, none⟩ = some v := (blk_cell hb 0).trans rfl
  have f0 := blk_frozen hb 0
  have hmk : ∀ W : World, (Instr.makeSlice 58 (.int .i64 (2 : Int)) (.int .i64 (2 : Int))).run Try.prog W = .ok (.slice (some ⟨W.heap.size, 0, none⟩) 2 2) (W.alloc (.cells (madeCells #[.int .u8 0] 2) 5)) := print_make 58 5 .u8 1 Try.underlying58 info5 (by decide) 2 (by decide)
  have hm0 := (own_made w w0.heap.size 5 .u8 2 hbs (by decide)).alloc (.cells #[] 133)
  have hm1 := (own_store hm0 0 (IntKind.u16.wrap x / 256 % 256)).1
  have hm2 := (own_store hm1 1 (IntKind.u16.wrap x % 256)).1
  have hx0 : 0 ≤ IntKind.u16.wrap x := by rw [IntKind.wrap_u16]; omega
  have hx1 : IntKind.u16.wrap x < 65536 := by rw [IntKind.wrap_u16]; omega
  obtain ⟨WX, hWX⟩ : ∃ WX, WX = ((((w.alloc (.cells (madeCells #[.int .u8 0] 2) 5)).alloc (.cells #[] 133)).setCell ⟨w.heap.size, 0, none⟩ (.int .u8 (IntKind.u16.wrap x / 256 % 256))).setCell ⟨w.heap.size, 1, none⟩ (.int .u8 (IntKind.u16.wrap x % 256))) := ⟨_, rfl⟩
  have HX : WX.ownsRow w0.heap.size 5 1 (.slice (some ⟨w.heap.size, 0, none⟩) 2 2) 2 (nums .u8 [(IntKind.u16.wrap x / 256 % 256), (IntKind.u16.wrap x % 256)]) := by rw [hWX]; simpa using hm2
  have BX : Below w.heap.size w WX := by
    rw [hWX]
    refine (((below_alloc (below_alloc (Below.refl _ _) _) _).setCell (Nat.le_refl _) _).setCell (Nat.le_refl _) _)
  have hbX := (BX.block g hlt).trans hb
  have cX : WX.cell? ⟨g, 0, none⟩ = some v := (blk_cell hbX 0).trans rfl
  have fX := blk_frozen hbX 0
  have hoX := pw_own_below ho BX
  have hBX := Below.trans hB (BX.mono hbs)
  obtain ⟨A2, c2, e2, hr2⟩ := own_reads HX
  injection e2 with e2 _ e3
  subst e2 e3
  have hcall := binary_bigEndian_PutUint16.calls w.heap.size 0 2 2 (madeCells #[.int .u8 0] 2) (IntKind.u16.wrap x) (w.alloc (.cells (madeCells #[.int .u8 0] 2) 5)) (heap_alloc_new w _) (by omega) (by simp [madeCells]) hx0 hx1
  go_enter Try.func79, Try.ntmps79
  go_wp2_with fail
  refine hcall.mono ?_
  rintro e w' ⟨rfl, hw'⟩
  have hw2 : w' = WX := by rw [hw', hWX]
  subst hw2
  clear hcall hw' hWX hmk hm0 hm1 hm2
  go_wp2_with (first | (at_builtin; refine print_append_row (w0 := w0) (W := w') w0.heap.size rfl (.tmp 15) (.tmp 16) 58 5 .u8 1 rfl Try.underlying58 info5 (by decide) v f [(IntKind.u16.wrap x / 256 % 256), (IntKind.u16.wrap x % 256)] (some ⟨w.heap.size, 0, none⟩) 2 2 rfl rfl hoX hr2 hBX hBX.size (by omega) ?_; intro v1 w1 ho1 hB1 hg1 hat1; obtain ⟨A3, c3, rfl⟩ := own_slice ho1; have B1 := blk_grown hbX hg1 hvg; have c1 := (blk_cell B1 0).trans (rfl : _ = some v); have f1 := blk_frozen B1 0))
  go_end0
  exact ⟨rfl, by simpa [bytesOf_length] using IsWr.put B1 hg ho1 hB1⟩

/-! ### pq_Writer_Int16: function 64 -/
set_option maxHeartbeats 1000000 in
set_option maxRecDepth 100000 in
theorem pq_Writer_Int16.calls (g : Nat) (f : List Int) (p : Int) (x : Int) (w0 w : World) (hI : IsWr w0.heap.size w g f (p : Int)) (hB : Below w0.heap.size w0 w) (hl : f.length + 2 ≤ 140737488355328) :
    Calls Try.prog 64 #[.pointer (some ⟨g, 0, none⟩), .int .i64 x] w fun e w' => e = .returned (.tuple #[]) ∧ IsWr w0.heap.size w' g (f ++ [IntKind.u16.wrap x / 256 % 256, IntKind.u16.wrap x % 256]) p ∧ Below w0.heap.size w0 w' := by
  have hc := pq_writeBuf_int16.calls g f p x w0 w hI hB hl
  go_enter Try.func64, Try.ntmps64
  go_wp2_with fail
  refine hc.mono ?_
  rintro e w' ⟨rfl, h1, h2⟩
  go_wp2_with fail
  go_end0
  exact ⟨rfl, h1, h2⟩

/-! ### pq_writeBuf_int32: function 80 -/
set_option maxHeartbeats 1000000 in
set_option maxRecDepth 100000 in
theorem pq_writeBuf_int32.calls (g : Nat) (f : List Int) (p : Int) (x : Int) (w0 w : World) (hI : IsWr w0.heap.size w g f p) (hB : Below w0.heap.size w0 w) (hl : f.length + 4 ≤ 140737488355328) :
    Calls Try.prog 80 #[.pointer (some ⟨g, 0, none⟩), .int .i64 x] w fun e w' => e = .returned (.tuple #[]) ∧ IsWr w0.heap.size w' g (f ++ [(IntKind.u32.wrap x / 16777216 % 256), (IntKind.u32.wrap x / 65536 % 256), (IntKind.u32.wrap x / 256 % 256), (IntKind.u32.wrap x % 256)]) p ∧ Below w0.heap.size w0 w' := by
  obtain ⟨v, hb, hg, ho⟩ := hI
  have hlt := blk_lt hb
  have hbs := hB.size
  have hvg : some g ≠ v.ownBlock := own_ne ho hb (by decide)
  have c0 : w.cell? ⟨g, 0, none⟩ = some v := (blk_cell hb 0).trans rfl
  have f0 := blk_frozen hb 0
  have hmk : ∀ W : World, (Instr.makeSlice 58 (.int .i64 (4 : Int)) (.int .i64 (4 : Int))).run Try.prog W = .ok (.slice (some ⟨W.heap.size, 0, none⟩) 4 4) (W.alloc (.cells (madeCells #[.int .u8 0] 4) 5)) := print_make 58 5 .u8 1 Try.underlying58 info5 (by decide) 4 (by decide)
  have hm0 := (own_made w w0.heap.size 5 .u8 4 hbs (by decide)).alloc (.cells #[] 133)
  have hm1 := (own_store hm0 0 (IntKind.u32.wrap x / 16777216 % 256)).1
  have hm2 := (own_store hm1 1 (IntKind.u32.wrap x / 65536 % 256)).1
  have hm3 := (own_store hm2 2 (IntKind.u32.wrap x / 256 % 256)).1
  have hm4 := (own_store hm3 3 (IntKind.u32.wrap x % 256)).1
  have hx0 : 0 ≤ IntKind.u32.wrap x := by rw [IntKind.wrap_u32]; omega
  have hx1 : IntKind.u32.wrap x < 4294967296 := by rw [IntKind.wrap_u32]; omega
  obtain ⟨WX, hWX⟩ : ∃ WX, WX = ((((((w.alloc (.cells (madeCells #[.int .u8 0] 4) 5)).alloc (.cells #[] 133)).setCell ⟨w.heap.size, 0, none⟩ (.int .u8 (IntKind.u32.wrap x / 16777216 % 256))).setCell ⟨w.heap.size, 1, none⟩ (.int .u8 (IntKind.u32.wrap x / 65536 % 256))).setCell ⟨w.heap.size, 2, none⟩ (.int .u8 (IntKind.u32.wrap x / 256 % 256))).setCell ⟨w.heap.size, 3, none⟩ (.int .u8 (IntKind.u32.wrap x % 256))) := ⟨_, rfl⟩
  have HX : WX.ownsRow w0.heap.size 5 1 (.slice (some ⟨w.heap.size, 0, none⟩) 4 4) 4 (nums .u8 [(IntKind.u32.wrap x / 16777216 % 256), (IntKind.u32.wrap x / 65536 % 256), (IntKind.u32.wrap x / 256 % 256), (IntKind.u32.wrap x % 256)]) := by rw [hWX]; simpa using hm4
  have BX : Below w.heap.size w WX := by
    rw [hWX]
    refine (((((below_alloc (below_alloc (Below.refl _ _) _) _).setCell (Nat.le_refl _) _).setCell (Nat.le_refl _) _).setCell (Nat.le_refl _) _).setCell (Nat.le_refl _) _)
  have hbX := (BX.block g hlt).trans hb
  have cX : WX.cell? ⟨g, 0, none⟩ = some v := (blk_cell hbX 0).trans rfl
  have fX := blk_frozen hbX 0
  have hoX := pw_own_below ho BX
  have hBX := Below.trans hB (BX.mono hbs)
  obtain ⟨A2, c2, e2, hr2⟩ := own_reads HX
  injection e2 with e2 _ e3
  subst e2 e3
  have hcall := binary_bigEndian_PutUint32.calls w.heap.size 0 4 4 (madeCells #[.int .u8 0] 4) (IntKind.u32.wrap x) (w.alloc (.cells (madeCells #[.int .u8 0] 4) 5)) (heap_alloc_new w _) (by omega) (by simp [madeCells]) hx0 hx1
  go_enter Try.func80, Try.ntmps80
  go_wp2_with fail
  refine hcall.mono ?_
  rintro e w' ⟨rfl, hw'⟩
  have hw2 : w' = WX := by rw [hw', hWX]
  subst hw2
  clear hcall hw' hWX hmk hm0 hm1 hm2 hm3 hm4
  go_wp2_with (first | (at_builtin; refine print_append_row (w0 := w0) (W := w') w0.heap.size rfl (.tmp 15) (.tmp 16) 58 5 .u8 1 rfl Try.underlying58 info5 (by decide) v f [(IntKind.u32.wrap x / 16777216 % 256), (IntKind.u32.wrap x / 65536 % 256), (IntKind.u32.wrap x / 256 % 256), (IntKind.u32.wrap x % 256)] (some ⟨w.heap.size, 0, none⟩) 4 4 rfl rfl hoX hr2 hBX hBX.size (by omega) ?_; intro v1 w1 ho1 hB1 hg1 hat1; obtain ⟨A3, c3, rfl⟩ := own_slice ho1; have B1 := blk_grown hbX hg1 hvg; have c1 := (blk_cell B1 0).trans (rfl : _ = some v); have f1 := blk_frozen B1 0))
  go_end0
  exact ⟨rfl, by simpa [bytesOf_length] using IsWr.put B1 hg ho1 hB1⟩

/-! ### pq_Writer_Int32: function 65 -/
set_option maxHeartbeats 1000000 in
set_option maxRecDepth 100000 in
theorem pq_Writer_Int32.calls (g : Nat) (f : List Int) (p : Int) (x : Int) (w0 w : World) (hI : IsWr w0.heap.size w g f (p : Int)) (hB : Below w0.heap.size w0 w) (hl : f.length + 4 ≤ 140737488355328) :
    Calls Try.prog 65 #[.pointer (some ⟨g, 0, none⟩), .int .i64 x] w fun e w' => e = .returned (.tuple #[]) ∧ IsWr w0.heap.size w' g (f ++ [IntKind.u32.wrap x / 16777216 % 256, IntKind.u32.wrap x / 65536 % 256, IntKind.u32.wrap x / 256 % 256, IntKind.u32.wrap x % 256]) p ∧ Below w0.heap.size w0 w' := by
  have hc := pq_writeBuf_int32.calls g f p x w0 w hI hB hl
  go_enter Try.func65, Try.ntmps65
  go_wp2_with fail
  refine hc.mono ?_
  rintro e w' ⟨rfl, h1, h2⟩
  go_wp2_with fail
  go_end0
  exact ⟨rfl, h1, h2⟩

/-! ### pq_writeBuf_string: function 81 -/
set_option maxHeartbeats 1000000 in
set_option maxRecDepth 100000 in
theorem pq_writeBuf_string.calls (g : Nat) (f : List Int) (p : Int) (s : ByteArray) (w0 w : World) (hI : IsWr w0.heap.size w g f p) (hB : Below w0.heap.size w0 w) (hl : f.length + (s.size + 1) ≤ 140737488355328) :
    Calls Try.prog 81 #[.pointer (some ⟨g, 0, none⟩), .string s] w fun e w' => e = .returned (.tuple #[]) ∧ IsWr w0.heap.size w' g (f ++ (bytesOf s ++ [0])) p ∧ Below w0.heap.size w0 w' := by
  obtain ⟨v, hb, hg, ho⟩ := hI
  have hlt := blk_lt hb
  have hbs := hB.size
  have hvg : some g ≠ v.ownBlock := own_ne ho hb (by decide)
  have c0 : w.cell? ⟨g, 0, none⟩ = some v := (blk_cell hb 0).trans rfl
  have f0 := blk_frozen hb 0
  go_enter Try.func81, Try.ntmps81
  go_wp2_with (first | (at_builtin; refine print_append_str (w0 := w0) (W := w) w0.heap.size rfl (.tmp 8) (.tmp 9) 58 9 5 rfl Try.underlying58 Try.underlying9 info5 v f s rfl rfl ho hB hbs (by omega) ?_; intro v0 wq ho0 hB0 hg0; have B0 := blk_grown hb hg0 hvg; have hvg0 : some g ≠ v0.ownBlock := own_ne ho0 B0 (by decide); have hl0 := bytesOf_length s) | (at_builtin; refine print_append_num (w0 := w0) (W := wq) w0.heap.size rfl (.tmp 10) (.tmp 11) 58 5 .u8 1 rfl Try.underlying58 info5 (by decide) v0 (f ++ bytesOf s) 0 rfl rfl ho0 hB0 hB0.size (by rw [List.length_append]; omega) ?_; intro v1 w1 ho1 hB1 hg1 hat1; rw [List.append_assoc] at ho1; obtain ⟨A3, c3, rfl⟩ := own_slice ho1; have B1 := blk_grown B0 hg1 hvg0; have c1 := (blk_cell B1 0).trans (rfl : _ = some v); have f1 := blk_frozen B1 0))
  go_end0
  exact ⟨rfl, by simpa [bytesOf_length] using IsWr.put B1 hg ho1 hB1⟩

/-! ### pq_Writer_Text: function 66 -/
set_option maxHeartbeats 1000000 in
set_option maxRecDepth 100000 in
theorem pq_Writer_Text.calls (g : Nat) (f : List Int) (p : Int) (s : ByteArray) (w0 w : World) (hI : IsWr w0.heap.size w g f (p : Int)) (hB : Below w0.heap.size w0 w) (hl : f.length + (s.size + 1) ≤ 140737488355328) :
    Calls Try.prog 66 #[.pointer (some ⟨g, 0, none⟩), .string s] w fun e w' => e = .returned (.tuple #[]) ∧ IsWr w0.heap.size w' g (f ++ (bytesOf s ++ [0])) p ∧ Below w0.heap.size w0 w' := by
  have hc := pq_writeBuf_string.calls g f p s w0 w hI hB hl
  go_enter Try.func66, Try.ntmps66
  go_wp2_with fail
  refine hc.mono ?_
  rintro e w' ⟨rfl, h1, h2⟩
  go_wp2_with fail
  go_end0
  exact ⟨rfl, h1, h2⟩

/-! ### pq_writeBuf_bytes: function 82 -/
set_option maxHeartbeats 1000000 in
set_option maxRecDepth 100000 in
theorem pq_writeBuf_bytes.calls (g : Nat) (f : List Int) (p : Int) (A1 : Option Addr) (c1 : Nat) (l1 : List Int) (w0 w : World) (hI : IsWr w0.heap.size w g f p) (hB : Below w0.heap.size w0 w) (hr : ReadsInt w .u8 A1 l1.length l1) (hl : f.length + l1.length ≤ 140737488355328) :
    Calls Try.prog 82 #[.pointer (some ⟨g, 0, none⟩), .slice A1 l1.length c1] w fun e w' => e = .returned (.tuple #[]) ∧ IsWr w0.heap.size w' g (f ++ l1) p ∧ Below w0.heap.size w0 w' := by
  obtain ⟨v, hb, hg, ho⟩ := hI
  have hlt := blk_lt hb
  have hbs := hB.size
  have hvg : some g ≠ v.ownBlock := own_ne ho hb (by decide)
  have c0 : w.cell? ⟨g, 0, none⟩ = some v := (blk_cell hb 0).trans rfl
  have f0 := blk_frozen hb 0
  go_enter Try.func82, Try.ntmps82
  go_wp2_with (first | (at_builtin; refine print_append_row (w0 := w0) (W := w) w0.heap.size rfl (.tmp 8) (.tmp 9) 58 5 .u8 1 rfl Try.underlying58 info5 (by decide) v f l1 A1 l1.length c1 rfl rfl ho hr hB hbs (by omega) ?_; intro v1 w1 ho1 hB1 hg1 hat1; obtain ⟨A3, c3, rfl⟩ := own_slice ho1; have B1 := blk_grown hb hg1 hvg; have c1 := (blk_cell B1 0).trans (rfl : _ = some v); have f1 := blk_frozen B1 0))
  go_end0
  exact ⟨rfl, by simpa [bytesOf_length] using IsWr.put B1 hg ho1 hB1⟩

/-! ### pq_Writer_Bytes: function 67 -/
set_option maxHeartbeats 1000000 in
set_option maxRecDepth 100000 in
theorem pq_Writer_Bytes.calls (g : Nat) (f : List Int) (p : Int) (A1 : Option Addr) (c1 : Nat) (l1 : List Int) (w0 w : World) (hI : IsWr w0.heap.size w g f (p : Int)) (hB : Below w0.heap.size w0 w) (hr : ReadsInt w .u8 A1 l1.length l1) (hl : f.length + l1.length ≤ 140737488355328) :
    Calls Try.prog 67 #[.pointer (some ⟨g, 0, none⟩), .slice A1 l1.length c1] w fun e w' => e = .returned (.tuple #[]) ∧ IsWr w0.heap.size w' g (f ++ l1) p ∧ Below w0.heap.size w0 w' := by
  have hc := pq_writeBuf_bytes.calls g f p A1 c1 l1 w0 w hI hB hr hl
  go_enter Try.func67, Try.ntmps67
  go_wp2_with fail
  refine hc.mono ?_
  rintro e w' ⟨rfl, h1, h2⟩
  go_wp2_with fail
  go_end0
  exact ⟨rfl, h1, h2⟩

/-! ### impl_put: function 40 -/
/-- A piece's bytes, as the package writes them; none of what is no piece. -/
def putBytes (x : S25) : Option (List Int) :=
  if x.f0 = 1 then some [x.f1 % 256] else if x.f0 = 2 then some [IntKind.u16.wrap x.f1 / 256 % 256, IntKind.u16.wrap x.f1 % 256] else if x.f0 = 3 then some [IntKind.u32.wrap x.f1 / 16777216 % 256, IntKind.u32.wrap x.f1 / 65536 % 256, IntKind.u32.wrap x.f1 / 256 % 256, IntKind.u32.wrap x.f1 % 256]
  else if x.f0 = 4 then some (bytesOf x.f2 ++ [0]) else if x.f0 = 5 then some (bytesOf x.f2) else none
def PutPost (w0 : World) (g : Nat) (f : List Int) (p : Int) (x : S25) (e : Ending) (w' : World) : Prop := match putBytes x with
  | some ys => e = .returned (.bool true) ∧ IsWr w0.heap.size w' g (f ++ ys) p ∧ Below w0.heap.size w0 w'
  | none => e = .returned (.bool false) ∧ Below w0.heap.size w0 w'
set_option maxHeartbeats 1000000 in
set_option maxRecDepth 100000 in
theorem impl_put.calls (g : Nat) (f : List Int) (p : Int) (x : S25) (w0 w : World) (hI : IsWr w0.heap.size w g f p) (hB : Below w0.heap.size w0 w) (hl : f.length ≤ 4294967296) (hs : x.f2.size ≤ 70368744177664) :
    Calls Try.prog 40 #[.pointer (some ⟨g, 0, none⟩), .agg #[.int .i64 x.f0, .int .i64 x.f1, .string x.f2]] w (PutPost w0 g f p x) := by
  have hu := Try.underlying25
  have hB1 := hB.alloc hB.size (.cells #[.int .i64 x.f0, .int .i64 x.f1, .string x.f2] 25)
  have hI1 := hI.below (below_alloc (Below.refl _ _) (.cells #[.int .i64 x.f0, .int .i64 x.f1, .string x.f2] 25))
  unfold PutPost putBytes
  by_cases h1 : x.f0 = 1
  · rw [if_pos h1]
    have hi1 : (x.f0 == 1) = true := beq_iff_eq.mpr h1
    have hcv : IntKind.u8.wrap x.f1 = x.f1 % 256 := by rw [IntKind.wrap_u8]
    have h1' := Aside0.mk h1
    clear h1
    go_enter Try.func40, Try.ntmps40
    go_wp2_with fail
    refine (pq_Writer_Byte.calls g f p _ w0 _ hI1 hB1 (by omega)).mono ?_
    rintro e w2 ⟨rfl, h1, h2⟩
    go_wp2_with fail
    go_ret
    exact ⟨rfl, h1, h2⟩
  rw [if_neg h1]
  have hi1 : (x.f0 == 1) = false := beq_eq_false_iff_ne.mpr h1
  by_cases h2 : x.f0 = 2
  · rw [if_pos h2]
    have hi2 : (x.f0 == 2) = true := beq_iff_eq.mpr h2
    have h2' := Aside0.mk h2
    clear h2
    go_enter Try.func40, Try.ntmps40
    go_wp2_with fail
    refine (pq_Writer_Int16.calls g f p _ w0 _ hI1 hB1 (by omega)).mono ?_
    rintro e w2 ⟨rfl, h1, h2⟩
    go_wp2_with fail
    go_ret
    exact ⟨rfl, h1, h2⟩
  rw [if_neg h2]
  have hi2 : (x.f0 == 2) = false := beq_eq_false_iff_ne.mpr h2
  by_cases h3 : x.f0 = 3
  · rw [if_pos h3]
    have hi3 : (x.f0 == 3) = true := beq_iff_eq.mpr h3
    have h3' := Aside0.mk h3
    clear h3
    go_enter Try.func40, Try.ntmps40
    go_wp2_with fail
    refine (pq_Writer_Int32.calls g f p _ w0 _ hI1 hB1 (by omega)).mono ?_
    rintro e w2 ⟨rfl, h1, h2⟩
    go_wp2_with fail
    go_ret
    exact ⟨rfl, h1, h2⟩
  rw [if_neg h3]
  have hi3 : (x.f0 == 3) = false := beq_eq_false_iff_ne.mpr h3
  by_cases h4 : x.f0 = 4
  · rw [if_pos h4]
    have hi4 : (x.f0 == 4) = true := beq_iff_eq.mpr h4
    have h4' := Aside0.mk h4
    clear h4
    go_enter Try.func40, Try.ntmps40
    go_wp2_with fail
    refine (pq_Writer_Text.calls g f p _ w0 _ hI1 hB1 (by omega)).mono ?_
    rintro e w2 ⟨rfl, h1, h2⟩
    go_wp2_with fail
    go_ret
    exact ⟨rfl, h1, h2⟩
  rw [if_neg h4]
  have hi4 : (x.f0 == 4) = false := beq_eq_false_iff_ne.mpr h4
  by_cases h5 : x.f0 = 5
  · rw [if_pos h5]
    have hi5 : (x.f0 == 5) = true := beq_iff_eq.mpr h5
    have kb := fun W => print_bytes (P := Try.prog) 9 58 5 Try.underlying9 Try.underlying58 Try.underlying5 x.f2 W
    have h5' := Aside0.mk h5
    clear h5
    go_enter Try.func40, Try.ntmps40
    go_wp2_with fail
    have hR := bytes_reads (w.alloc (.cells #[.int .i64 x.f0, .int .i64 x.f1, .string x.f2] 25)) 5 x.f2 (by omega)
    rw [← bytesOf_length] at hR
    have hc := pq_Writer_Bytes.calls g f p _ (grownCap (w.alloc (.cells #[.int .i64 x.f0, .int .i64 x.f1, .string x.f2] 25)) x.f2.size 0 5) (bytesOf x.f2) w0 _ (hI1.below (bytes_below (Below.refl _ _) (Nat.le_refl _) 5 x.f2)) (bytes_below hB1 hB1.size 5 x.f2) hR (by rw [bytesOf_length]; omega)
    rw [bytesOf_length, show (w.alloc (.cells #[.int .i64 x.f0, .int .i64 x.f1, .string x.f2] 25)).heap.size = w.heap.size + 1 from by simp] at hc
    refine hc.mono ?_
    rintro e w2 ⟨rfl, h1, h2⟩
    go_wp2_with fail
    go_ret
    exact ⟨rfl, h1, h2⟩
  rw [if_neg h5]
  have hi5 : (x.f0 == 5) = false := beq_eq_false_iff_ne.mpr h5
  go_enter Try.func40, Try.ntmps40
  go_wp2_with fail
  go_ret
  exact ⟨rfl, hB1⟩

/-! ### pq_writeBuf_wrap: function 68 -/
set_option maxHeartbeats 1000000 in
set_option maxRecDepth 100000 in
theorem pq_writeBuf_wrap.calls (g : Nat) (f : List Int) (q : Nat) (w0 w : World) (hI : IsWr w0.heap.size w g f (q : Int)) (hB : Below w0.heap.size w0 w) (hq4 : q + 4 ≤ f.length) (hl : f.length ≤ 4294967295) :
    Calls Try.prog 68 #[.pointer (some ⟨g, 0, none⟩)] w fun e w' => ∃ v, e = .returned v ∧ w'.ownsRow w0.heap.size 5 1 v f.length (nums .u8 (lenSet f q)) ∧ Below w0.heap.size w0 w' := by
  obtain ⟨v, hb, hg, ho⟩ := hI
  have hbs := hB.size
  have hvg : some g ≠ v.ownBlock := own_ne ho hb (by decide)
  obtain ⟨b, cap, rfl, hbb, hbl⟩ := ho.form (by omega)
  have hbg : g ≠ b := fun e => hvg (by rw [e]; rfl)
  have hlt := blk_lt hb
  have c0 : w.cell? ⟨g, 0, none⟩ = some (.slice (some ⟨b, 0, none⟩) f.length cap) := (blk_cell hb 0).trans rfl
  have c1 : w.cell? ⟨g, 1, none⟩ = some (.int .i64 (q : Int)) := (blk_cell hb 1).trans rfl
  have hcur : ∃ cur, w.heap[b]? = some (.cells cur 5 (0, 0)) ∧ f.length ≤ cap ∧ cap ≤ cur.size := by
    rcases ho.2 with ⟨h, _⟩ | ⟨b', cap', cur, h, _, hh, h1, h2, h3, h4⟩
    · cases h
    · injection h with h _ h6
      injection h with h
      injection h with h
      subst h h6
      exact ⟨cur, hh, h1, by omega⟩
  obtain ⟨cur, hcur, hfc, hcc⟩ := hcur
  have hcapq : ¬ cap = q := by omega
  have hcut1 : (0 : Int) ≤ (q : Int) := by omega
  have hcut2 : (q : Int) ≤ (f.length : Int) := by omega
  have hlen : (f.length : Int) - (q : Int) = ((f.length - q : Nat) : Int) := by omega
  have hgt : ((((f.length - q : Nat) : Int)) > 4294967295) = False := eq_false (by omega)
  have hgt2 : (4294967295 < (((f.length - q : Nat) : Int))) = False := eq_false (by omega)
  have hwr : IntKind.u32.wrap (((f.length - q : Nat) : Int)) = ((f.length - q : Nat) : Int) := by rw [IntKind.wrap_u32]; omega
  have hcall := fun nq : Nat => binary_bigEndian_PutUint32.calls b q (f.length - q) (cap - q) cur ((f.length - q : Nat) : Int) (w.drewN nq) hcur (by omega) (by omega) (by omega) (by omega)
  have hst0 := fun nq : Nat => (show (w.drewN nq).ownsRow w0.heap.size 5 1 (.slice (some ⟨b, 0, none⟩) f.length cap) f.length (nums .u8 f) from ho).alloc (.cells #[] 133)
  have hst1 := fun nq : Nat => (own_store (hst0 nq) ((q + 0 : Nat) : Int) (((f.length - q : Nat) : Int) / 16777216 % 256)).1
  have hst2 := fun nq : Nat => (own_store (hst1 nq) ((q + 1 : Nat) : Int) (((f.length - q : Nat) : Int) / 65536 % 256)).1
  have hst3 := fun nq : Nat => (own_store (hst2 nq) ((q + 2 : Nat) : Int) (((f.length - q : Nat) : Int) / 256 % 256)).1
  have hst4 := fun nq : Nat => (own_store (hst3 nq) ((q + 3 : Nat) : Int) (((f.length - q : Nat) : Int) % 256)).1
  simp only [Int.toNat_natCast, Nat.add_zero] at hst4
  have HX0 : ∀ (nq : Nat) (W : World), W = ((((((w.drewN nq).alloc (.cells #[] 133)).setCell ⟨b, q, none⟩ (.int .u8 (((f.length - q : Nat) : Int) / 16777216 % 256))).setCell ⟨b, q + 1, none⟩ (.int .u8 (((f.length - q : Nat) : Int) / 65536 % 256))).setCell ⟨b, q + 2, none⟩ (.int .u8 (((f.length - q : Nat) : Int) / 256 % 256))).setCell ⟨b, q + 3, none⟩ (.int .u8 (((f.length - q : Nat) : Int) % 256))) → W.ownsRow w0.heap.size 5 1 (.slice (some ⟨b, 0, none⟩) f.length cap) f.length (nums .u8 (lenSet f q)) := fun nq W h => by rw [h]; exact hst4 nq
  have BX0 : ∀ (nq : Nat) (W : World), W = ((((((w.drewN nq).alloc (.cells #[] 133)).setCell ⟨b, q, none⟩ (.int .u8 (((f.length - q : Nat) : Int) / 16777216 % 256))).setCell ⟨b, q + 1, none⟩ (.int .u8 (((f.length - q : Nat) : Int) / 65536 % 256))).setCell ⟨b, q + 2, none⟩ (.int .u8 (((f.length - q : Nat) : Int) / 256 % 256))).setCell ⟨b, q + 3, none⟩ (.int .u8 (((f.length - q : Nat) : Int) % 256))) → Below w0.heap.size w0 W := fun nq W h => by
    rw [h]
    exact ((((((pw_below_drewN hB nq).alloc hbs _).setCell (p := ⟨b, q, none⟩) hbb _).setCell (p := ⟨b, q + 1, none⟩) hbb _).setCell (p := ⟨b, q + 2, none⟩) hbb _).setCell (p := ⟨b, q + 3, none⟩) hbb _)
  have hbX0 : ∀ (nq : Nat) (W : World), W = ((((((w.drewN nq).alloc (.cells #[] 133)).setCell ⟨b, q, none⟩ (.int .u8 (((f.length - q : Nat) : Int) / 16777216 % 256))).setCell ⟨b, q + 1, none⟩ (.int .u8 (((f.length - q : Nat) : Int) / 65536 % 256))).setCell ⟨b, q + 2, none⟩ (.int .u8 (((f.length - q : Nat) : Int) / 256 % 256))).setCell ⟨b, q + 3, none⟩ (.int .u8 (((f.length - q : Nat) : Int) % 256))) → W.heap[g]? = some (.cells #[.slice (some ⟨b, 0, none⟩) f.length cap, .int .i64 (q : Int)] 106 (0, 0)) := fun nq W h => by
    rw [h]
    exact blk_far (blk_far (blk_far (blk_far (blk_alloc (show (w.drewN nq).heap[g]? = _ from hb) _) hbg _) hbg _) hbg _) hbg _
  have hkX0 : ∀ (nq : Nat) (W : World), W = ((((((w.drewN nq).alloc (.cells #[] 133)).setCell ⟨b, q, none⟩ (.int .u8 (((f.length - q : Nat) : Int) / 16777216 % 256))).setCell ⟨b, q + 1, none⟩ (.int .u8 (((f.length - q : Nat) : Int) / 65536 % 256))).setCell ⟨b, q + 2, none⟩ (.int .u8 (((f.length - q : Nat) : Int) / 256 % 256))).setCell ⟨b, q + 3, none⟩ (.int .u8 (((f.length - q : Nat) : Int) % 256))) → ∀ (k : Nat) (cs : Array Value) (t : TypeId), w.heap[k]? = some (.cells cs t (0, 0)) → t ≠ 5 → W.heap[k]? = some (.cells cs t (0, 0)) := fun nq W h k cs t hk ht => by
    rw [h]
    have hkb : k ≠ b := blk_ne hk hcur ht
    exact blk_far (blk_far (blk_far (blk_far (blk_alloc (show (w.drewN nq).heap[k]? = _ from hk) _) hkb _) hkb _) hkb _) hkb _
  clear hst0 hst1 hst2 hst3 hst4
  go_enter Try.func68, Try.ntmps68
  go_wp2_with fail
  go_quiet (fail)
  go_wp2_with fail
  refine (hcall _).mono ?_
  rintro e w' ⟨rfl, hw'⟩
  have HX := HX0 _ _ hw'
  have BX := BX0 _ _ hw'
  have hbX := hbX0 _ _ hw'
  have hkX := hkX0 _ _ hw'
  have cX : w'.cell? ⟨g, 0, none⟩ = some (.slice (some ⟨b, 0, none⟩) f.length cap) := (blk_cell hbX 0).trans rfl
  clear hcall hw' HX0 BX0 hbX0 hkX0
  go_wp2_with fail
  go_ret
  exact ⟨_, rfl, HX, BX⟩

/-! ### pq_Writer_Wrapped: function 41 -/
set_option maxHeartbeats 1000000 in
set_option maxRecDepth 100000 in
theorem pq_Writer_Wrapped.calls (g : Nat) (f : List Int) (q : Nat) (w0 w : World) (hI : IsWr w0.heap.size w g f (q : Int)) (hB : Below w0.heap.size w0 w) (hq4 : q + 4 ≤ f.length) (hl : f.length ≤ 4294967295) :
    Calls Try.prog 41 #[.pointer (some ⟨g, 0, none⟩)] w fun e w' => ∃ v, e = .returned v ∧ w'.ownsRow w0.heap.size 5 1 v f.length (nums .u8 (lenSet f q)) ∧ Below w0.heap.size w0 w' := by
  have hc := pq_writeBuf_wrap.calls g f q w0 w hI hB hq4 hl
  go_enter Try.func41, Try.ntmps41
  go_wp2_with fail
  refine hc.mono ?_
  rintro e w' ⟨v, rfl, h1, h2⟩
  go_wp2_with fail
  go_ret
  exact ⟨v, rfl, h1, h2⟩

end Go.Proofs.Ythcikkjjegfblab.P
