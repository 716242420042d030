-- Written by the program wip/myprint.py of this session, over the kit's print of the translation. Lean checks it.
import Derived.Test.YtlfkejljbehcaabPx0
import Derived.Test.YtlfkejljbehcaabPx1
import Derived.Test.YtlfkejljbehcaabPx2
namespace Go.Proofs.Ytlfkejljbehcaab.P
open Go.RowKit Go.Proofs.YtlfkejljbehcaabW.PrintWords Go.Proofs.YtlfkejljbehcaabW.PrintLast Go.Proofs.YtlfkejljbehcaabW.PrintMore
attribute [local go_sem] max2_int min2_int max_two min_two max_three min_three max_four min_four   -- for this text's walks alone
set_option linter.unusedVariables false
set_option linter.unusedSimpArgs false

/-! ### spec_Read: function 9 -/
mutual
def spec_Read.j1 : Nat → ByteArray → Option (ByteArray × Bool)
  | 0, _ => none
  | k + 1, x0 => if (x0.size : Int) = 0 then (spec_Read.j2 k x0 true) else (if 0 < (x0.size : Int) then (spec_Read.j2 k x0 ((bt x0 0) != 69)) else (none))
def spec_Read.j2 : Nat → ByteArray → Bool → Option (ByteArray × Bool)
  | 0, _, _ => none
  | k + 1, x0, x25 => if x25 = true then ((spec_Unquoted.f k x0 39).bind fun bt113 => (some (bt113.1, bt113.2))) else (if 1 ≤ (x0.size : Int) then ((spec_Unquoted.f k (x0.extract 1 x0.size) 39).bind fun bt115 => (spec_Read.l1 k bt115.1 bt115.2 (⟨#[]⟩ : ByteArray) 0)) else (none))
def spec_Read.l1 : Nat → ByteArray → Bool → ByteArray → Int → Option (ByteArray × Bool)
  | 0, _, _, _, _ => none
  | k + 1, x4, x5, x6, x7 => if x7 < (x4.size : Int) then (spec_Read.j4 k x4 x5 x6 x7 x5) else (spec_Read.j4 k x4 x5 x6 x7 false)
def spec_Read.j4 : Nat → ByteArray → Bool → ByteArray → Int → Bool → Option (ByteArray × Bool)
  | 0, _, _, _, _, _ => none
  | k + 1, x4, x5, x6, x7, x42 => if x42 = true then (if 0 ≤ x7 then (if x7 < (x4.size : Int) then (if (bt x4 x7) = 92 then (if (wrap64 (x7 + 1)) ≥ (x4.size : Int) then (some ((⟨#[]⟩ : ByteArray), false)) else (if 0 ≤ (wrap64 (x7 + 1)) then (if (wrap64 (x7 + 1)) < (x4.size : Int) then (if (bt x4 (wrap64 (x7 + 1))) = 92 then (if (wrap64 (x7 + 1)) ≤ (wrap64 ((wrap64 (x7 + 1)) + 1)) then (if (wrap64 ((wrap64 (x7 + 1)) + 1)) ≤ (x4.size : Int) then (if x6.size + (x4.extract ((wrap64 (x7 + 1)) : Int).toNat ((wrap64 ((wrap64 (x7 + 1)) + 1)) : Int).toNat).size ≤ 9223372036854775807 then (spec_Read.l1 k x4 x5 (x6 ++ (x4.extract ((wrap64 (x7 + 1)) : Int).toNat ((wrap64 ((wrap64 (x7 + 1)) + 1)) : Int).toNat)) (wrap64 ((wrap64 (x7 + 1)) + 1))) else (none)) else (none)) else (none)) else (some ((⟨#[]⟩ : ByteArray), false))) else (none)) else (none))) else (if x7 ≤ (wrap64 (x7 + 1)) then (if (wrap64 (x7 + 1)) ≤ (x4.size : Int) then (if x6.size + (x4.extract (x7 : Int).toNat ((wrap64 (x7 + 1)) : Int).toNat).size ≤ 9223372036854775807 then (spec_Read.l1 k x4 x5 (x6 ++ (x4.extract (x7 : Int).toNat ((wrap64 (x7 + 1)) : Int).toNat)) (wrap64 (x7 + 1))) else (none)) else (none)) else (none))) else (none)) else (none)) else (some (x6, x5))
def spec_Read.l0 : Nat → ByteArray → Option (ByteArray × Bool)
  | 0, _ => none
  | k + 1, x0 => if (x0.size : Int) > 0 then (if 0 < (x0.size : Int) then (if (bt x0 0) = 32 then (if 1 ≤ (x0.size : Int) then (spec_Read.l0 k (x0.extract 1 x0.size)) else (none)) else (spec_Read.j1 k x0)) else (none)) else (spec_Read.j1 k x0)
end
def spec_Read.f (k : Nat) (a0 : ByteArray) : Option (ByteArray × Bool) := spec_Read.l0 k a0
theorem spec_Read.mono_l : ∀ k, (∀ y0, LeO (spec_Read.j1 k y0) (spec_Read.j1 (k + 1) y0)) ∧ (∀ y0 y1, LeO (spec_Read.j2 k y0 y1) (spec_Read.j2 (k + 1) y0 y1)) ∧ (∀ y0 y1 y2 y3, LeO (spec_Read.l1 k y0 y1 y2 y3) (spec_Read.l1 (k + 1) y0 y1 y2 y3)) ∧ (∀ y0 y1 y2 y3 y4, LeO (spec_Read.j4 k y0 y1 y2 y3 y4) (spec_Read.j4 (k + 1) y0 y1 y2 y3 y4)) ∧ (∀ y0, LeO (spec_Read.l0 k y0) (spec_Read.l0 (k + 1) y0))
  | 0 => ⟨fun _ r h => by simp [spec_Read.j1] at h, fun _ _ r h => by simp [spec_Read.j2] at h, fun _ _ _ _ r h => by simp [spec_Read.l1] at h, fun _ _ _ _ _ r h => by simp [spec_Read.j4] at h, fun _ r h => by simp [spec_Read.l0] at h⟩
  | k + 1 => by
    obtain ⟨ih0, ih1, ih2, ih3, ih4⟩ := spec_Read.mono_l k
    refine ⟨?_, ?_, ?_, ?_, ?_⟩
    · intro y0
      unfold spec_Read.j1
      repeat' first
      | (with_reducible exact ih0 _)
      | (with_reducible exact ih1 _ _)
      | (with_reducible exact ih2 _ _ _ _)
      | (with_reducible exact ih3 _ _ _ _ _)
      | (with_reducible exact ih4 _)
      | (with_reducible exact spec_Unquoted.mono _ _ _)
      | (with_reducible exact LeO.refl _)
      | (with_reducible exact LeO.none _)
      | (with_reducible refine LeO.ite ?_ ?_)
      | (with_reducible refine LeO.bind ?_ (fun _ => ?_))
      | exact ih0 _
      | exact ih1 _ _
      | exact ih2 _ _ _ _
      | exact ih3 _ _ _ _ _
      | exact ih4 _
      | exact spec_Unquoted.mono _ _ _
      | exact LeO.none _
      | refine LeO.ite ?_ ?_
      | refine LeO.bind ?_ (fun _ => ?_)
    · intro y0 y1
      unfold spec_Read.j2
      repeat' first
      | (with_reducible exact ih0 _)
      | (with_reducible exact ih1 _ _)
      | (with_reducible exact ih2 _ _ _ _)
      | (with_reducible exact ih3 _ _ _ _ _)
      | (with_reducible exact ih4 _)
      | (with_reducible exact spec_Unquoted.mono _ _ _)
      | (with_reducible exact LeO.refl _)
      | (with_reducible exact LeO.none _)
      | (with_reducible refine LeO.ite ?_ ?_)
      | (with_reducible refine LeO.bind ?_ (fun _ => ?_))
      | exact ih0 _
      | exact ih1 _ _
      | exact ih2 _ _ _ _
      | exact ih3 _ _ _ _ _
      | exact ih4 _
      | exact spec_Unquoted.mono _ _ _
      | exact LeO.none _
      | refine LeO.ite ?_ ?_
      | refine LeO.bind ?_ (fun _ => ?_)
    · intro y0 y1 y2 y3
      unfold spec_Read.l1
      repeat' first
      | (with_reducible exact ih0 _)
      | (with_reducible exact ih1 _ _)
      | (with_reducible exact ih2 _ _ _ _)
      | (with_reducible exact ih3 _ _ _ _ _)
      | (with_reducible exact ih4 _)
      | (with_reducible exact spec_Unquoted.mono _ _ _)
      | (with_reducible exact LeO.refl _)
      | (with_reducible exact LeO.none _)
      | (with_reducible refine LeO.ite ?_ ?_)
      | (with_reducible refine LeO.bind ?_ (fun _ => ?_))
      | exact ih0 _
      | exact ih1 _ _
      | exact ih2 _ _ _ _
      | exact ih3 _ _ _ _ _
      | exact ih4 _
      | exact spec_Unquoted.mono _ _ _
      | exact LeO.none _
      | refine LeO.ite ?_ ?_
      | refine LeO.bind ?_ (fun _ => ?_)
    · intro y0 y1 y2 y3 y4
      unfold spec_Read.j4
      repeat' first
      | (with_reducible exact ih0 _)
      | (with_reducible exact ih1 _ _)
      | (with_reducible exact ih2 _ _ _ _)
      | (with_reducible exact ih3 _ _ _ _ _)
      | (with_reducible exact ih4 _)
      | (with_reducible exact spec_Unquoted.mono _ _ _)
      | (with_reducible exact LeO.refl _)
      | (with_reducible exact LeO.none _)
      | (with_reducible refine LeO.ite ?_ ?_)
      | (with_reducible refine LeO.bind ?_ (fun _ => ?_))
      | exact ih0 _
      | exact ih1 _ _
      | exact ih2 _ _ _ _
      | exact ih3 _ _ _ _ _
      | exact ih4 _
      | exact spec_Unquoted.mono _ _ _
      | exact LeO.none _
      | refine LeO.ite ?_ ?_
      | refine LeO.bind ?_ (fun _ => ?_)
    · intro y0
      unfold spec_Read.l0
      repeat' first
      | (with_reducible exact ih0 _)
      | (with_reducible exact ih1 _ _)
      | (with_reducible exact ih2 _ _ _ _)
      | (with_reducible exact ih3 _ _ _ _ _)
      | (with_reducible exact ih4 _)
      | (with_reducible exact spec_Unquoted.mono _ _ _)
      | (with_reducible exact LeO.refl _)
      | (with_reducible exact LeO.none _)
      | (with_reducible refine LeO.ite ?_ ?_)
      | (with_reducible refine LeO.bind ?_ (fun _ => ?_))
      | exact ih0 _
      | exact ih1 _ _
      | exact ih2 _ _ _ _
      | exact ih3 _ _ _ _ _
      | exact ih4 _
      | exact spec_Unquoted.mono _ _ _
      | exact LeO.none _
      | refine LeO.ite ?_ ?_
      | refine LeO.bind ?_ (fun _ => ?_)
theorem spec_Read.mono : ∀ a0 k, LeO (spec_Read.f k a0) (spec_Read.f (k + 1) a0) := by
  intro a0 k
  obtain ⟨ih0, ih1, ih2, ih3, ih4⟩ := spec_Read.mono_l k
  unfold spec_Read.f
  repeat' first
      | (with_reducible exact ih0 _)
      | (with_reducible exact ih1 _ _)
      | (with_reducible exact ih2 _ _ _ _)
      | (with_reducible exact ih3 _ _ _ _ _)
      | (with_reducible exact ih4 _)
      | (with_reducible exact spec_Unquoted.mono _ _ _)
      | (with_reducible exact LeO.refl _)
      | (with_reducible exact LeO.none _)
      | (with_reducible refine LeO.ite ?_ ?_)
      | (with_reducible refine LeO.bind ?_ (fun _ => ?_))
      | exact ih0 _
      | exact ih1 _ _
      | exact ih2 _ _ _ _
      | exact ih3 _ _ _ _ _
      | exact ih4 _
      | exact spec_Unquoted.mono _ _ _
      | exact LeO.none _
      | refine LeO.ite ?_ ?_
      | refine LeO.bind ?_ (fun _ => ?_)
set_option maxHeartbeats 8000000 in
set_option maxRecDepth 100000 in
theorem spec_Read.calls (k : Nat) (a0 : ByteArray) (r1 : ByteArray) (r2 : Bool) (w : World) (h : spec_Read.f k a0 = some (r1, r2)) :
    Calls Try.prog 9 #[.string a0] w fun e w' => e = .returned (.tuple #[.string r1, .bool r2]) ∧ Drawn0 w w' := by
  have H : (spec_Read.l0 k a0) = some (r1, r2) := h
  clear h
  have HC2 := Aside0.mk H
  clear H
  go_enter Try.func9, Try.ntmps9
  go_upto_block 0 with (fail)
  go_cut [0] (fun v0 wc => ∃ (kq : Nat) (x0_1 : ByteArray), v0 = .string x0_1 ∧ Aside0 (spec_Read.j1 kq x0_1 = some (r1, r2)) ∧ Aside0 (kq ≤ k) ∧ Drawn0 w wc)
  case first =>
    have H := HC2.out
    clear HC2
    have H' := Aside0.mk H
    clear H
    go_wp2
    go_loopg [0] k (fun kq v0 w' => ∃ (x0_1 : ByteArray), v0 = .string x0_1 ∧ Aside0 (spec_Read.l0 kq x0_1 = some (r1, r2)) ∧ Aside0 (kq ≤ k) ∧ Drawn0 w w')
    case atStart => exact ⟨(a0), (by first | rfl | (simp; done) | (simp [*]; done)), H', ⟨Nat.le_refl _⟩, by repeat (first | exact Drawn0.refl _ | apply Drawn0.step)⟩
    case round =>
      clear H'
      try clear p2
      obtain ⟨x0_1, rfl, HA, HK1, ⟨m1, rfl⟩⟩ := hrel
      cases gk with
      | zero => exact absurd HA.out (by simp [spec_Read.l0])
      | succ k1 =>
        have H := HA.out
        clear HA
        simp only [spec_Read.l0] at H
        by_cases c3 : (x0_1.size : Int) > 0
        · rw [if_pos c3] at H
          have c3b0 : decide (0 < (x0_1.size : Int)) = true := decide_eq_true c3
          have c3b1 : decide (0 < x0_1.size) = true := decide_eq_true (by omega)
          clear c3
          (first | rw [c3b0] | (simp only [i64_w, i32_w]; rw [c3b0]) | skip)
          by_cases c4 : 0 < (x0_1.size : Int)
          · rw [if_pos c4] at H
            have c4b0 : decide (0 < (x0_1.size : Int)) = true := decide_eq_true c4
            have c4b1 : decide (0 < x0_1.size) = true := decide_eq_true (by omega)
            clear c4
            by_cases c6 : (bt x0_1 0) = 32
            · rw [if_pos c6] at H
              have c6b0 : ((bt x0_1 0) == 32) = true := beq_iff_eq.mpr c6
              have c6b1 : ((bt x0_1 0) != 32) = false := bne_eq_false_iff_eq.mpr c6
              clear c6
              by_cases c7 : 1 ≤ (x0_1.size : Int)
              · rw [if_pos c7] at H
                have c7b0 := eq_true c7
                have c7b1 : decide (1 ≤ (x0_1.size : Int)) = true := decide_eq_true c7
                clear c7
                have H' := Aside0.mk H
                clear H
                have p5 : 0 ≤ (0 : Int) := (by omega)
                have q5 : 0 < x0_1.size := (by have : (0 : Int) < (x0_1.size : Int) := of_decide_eq_true (by first | (with_reducible assumption) | assumption); omega)
                have hx5 : ∀ h : 0 < x0_1.size, ((x0_1[0]'h).toNat : Int) = bt x0_1 0 := bt_at x0_1 0
                clear p5
                have qi5 : (0 < (x0_1.size : Int)) = True := eq_true (of_decide_eq_true (by first | (with_reducible assumption) | assumption))
                replace q5 := eq_true q5
                go_wp2
                go_roundg k1
                case measure => have := HK1.out; omega
                case rel => exact ⟨(x0_1.extract 1 x0_1.size), (by first | rfl | (simp; done) | (simp [*]; done)), H', ⟨by have := HK1.out; omega⟩, by repeat (first | exact Drawn0.refl _ | apply Drawn0.step)⟩
              · rw [if_neg c7] at H
                exact absurd H (by simp)
            · rw [if_neg c6] at H
              have c6b0 : ((bt x0_1 0) == 32) = false := beq_eq_false_iff_ne.mpr c6
              have c6b1 : ((bt x0_1 0) != 32) = true := bne_iff_ne.mpr c6
              have H' := Aside0.mk H
              clear H
              have p5 : 0 ≤ (0 : Int) := (by omega)
              have q5 : 0 < x0_1.size := (by have : (0 : Int) < (x0_1.size : Int) := of_decide_eq_true (by first | (with_reducible assumption) | assumption); omega)
              have hx5 : ∀ h : 0 < x0_1.size, ((x0_1[0]'h).toNat : Int) = bt x0_1 0 := bt_at x0_1 0
              clear p5
              have qi5 : (0 < (x0_1.size : Int)) = True := eq_true (of_decide_eq_true (by first | (with_reducible assumption) | assumption))
              replace q5 := eq_true q5
              go_wp2
              go_meet
              case rel => exact ⟨_, (x0_1), (by first | rfl | (simp; done) | (simp [*]; done)), H', ⟨by have := HK1.out; first | omega | exact Nat.le_refl _⟩, by repeat (first | exact Drawn0.refl _ | apply Drawn0.step)⟩
          · rw [if_neg c4] at H
            exact absurd H (by simp)
        · rw [if_neg c3] at H
          have c3b0 : decide (0 < (x0_1.size : Int)) = false := decide_eq_false c3
          have c3b1 : decide (0 < x0_1.size) = false := decide_eq_false (by omega)
          clear c3
          (first | rw [c3b0] | (simp only [i64_w, i32_w]; rw [c3b0]) | skip)
          have H' := Aside0.mk H
          clear H
          go_wp2
          go_meet
          case rel => exact ⟨_, (x0_1), (by first | rfl | (simp; done) | (simp [*]; done)), H', ⟨by have := HK1.out; first | omega | exact Nat.le_refl _⟩, by repeat (first | exact Drawn0.refl _ | apply Drawn0.step)⟩
  case rest =>
    clear HC2
    try clear p2
    try clear c3
    try clear c3b0
    try clear c3b1
    try clear c4
    try clear c4b0
    try clear c4b1
    try clear p5
    try clear q5
    try clear hx5
    try clear qi5
    try clear c6
    try clear c6b0
    try clear c6b1
    try clear c7
    try clear c7b0
    try clear c7b1
    try clear p2
    try clear p5
    try clear q5
    obtain ⟨kq, x0_1, rfl, HA, HJ1, ⟨mc1, rfl⟩⟩ := hcut
    cases kq with
    | zero => exact absurd HA.out (by simp [spec_Read.j1])
    | succ kj1 =>
      have H := HA.out
      clear HA
      simp only [spec_Read.j1] at H
      have HC8 := Aside0.mk H
      clear H
      go_upto_region 3 with (fail)
      go_cut [25] (fun v25 wc => ∃ (kq : Nat) (x25_7 : Bool), v25 = .bool x25_7 ∧ Aside0 (spec_Read.j2 kq x0_1 x25_7 = some (r1, r2)) ∧ Aside0 (kq ≤ kj1) ∧ Drawn0 w wc)
      case first =>
        have H := HC8.out
        clear HC8
        by_cases c9 : (x0_1.size : Int) = 0
        · rw [if_pos c9] at H
          have c9b0 : ((x0_1.size : Int) == 0) = true := beq_iff_eq.mpr c9
          have c9b1 : ((x0_1.size : Int) != 0) = false := bne_eq_false_iff_eq.mpr c9
          clear c9
          (first | rw [c9b0] | (simp only [i64_w, i32_w]; rw [c9b0]) | skip)
          have H' := Aside0.mk H
          clear H
          go_wp2
          go_meet
          case rel => exact ⟨_, (true), (by first | rfl | (simp; done) | (simp [*]; done)), H', ⟨by have := HJ1.out; first | omega | exact Nat.le_refl _⟩, by repeat (first | exact Drawn0.refl _ | apply Drawn0.step)⟩
        · rw [if_neg c9] at H
          have c9b0 : ((x0_1.size : Int) == 0) = false := beq_eq_false_iff_ne.mpr c9
          have c9b1 : ((x0_1.size : Int) != 0) = true := bne_iff_ne.mpr c9
          (first | rw [c9b0] | (simp only [i64_w, i32_w]; rw [c9b0]) | skip)
          by_cases c10 : 0 < (x0_1.size : Int)
          · rw [if_pos c10] at H
            have c10b0 : decide (0 < (x0_1.size : Int)) = true := decide_eq_true c10
            have c10b1 : decide (0 < x0_1.size) = true := decide_eq_true (by omega)
            clear c10
            have H' := Aside0.mk H
            clear H
            have p11 : 0 ≤ (0 : Int) := (by omega)
            have q11 : 0 < x0_1.size := (by have : (0 : Int) < (x0_1.size : Int) := of_decide_eq_true (by first | (with_reducible assumption) | assumption); omega)
            have hx11 : ∀ h : 0 < x0_1.size, ((x0_1[0]'h).toNat : Int) = bt x0_1 0 := bt_at x0_1 0
            clear p11
            have qi11 : (0 < (x0_1.size : Int)) = True := eq_true (of_decide_eq_true (by first | (with_reducible assumption) | assumption))
            replace q11 := eq_true q11
            go_wp2
            go_meet
            case rel => exact ⟨_, (((bt x0_1 0) != 69)), (by first | rfl | (simp; done) | (simp [*]; done)), H', ⟨by have := HJ1.out; first | omega | exact Nat.le_refl _⟩, by repeat (first | exact Drawn0.refl _ | apply Drawn0.step)⟩
          · rw [if_neg c10] at H
            exact absurd H (by simp)
      case rest =>
        clear HC8
        try clear c1
        try clear p1
        try clear q1
        try clear hx1
        try clear qi1
        try clear p2
        try clear c3
        try clear c3b0
        try clear c3b1
        try clear c4
        try clear c4b0
        try clear c4b1
        try clear p5
        try clear q5
        try clear hx5
        try clear qi5
        try clear c6
        try clear c6b0
        try clear c6b1
        try clear c7
        try clear c7b0
        try clear c7b1
        try clear c9
        try clear c9b0
        try clear c9b1
        try clear c10
        try clear c10b0
        try clear c10b1
        try clear p11
        try clear q11
        try clear hx11
        try clear qi11
        try clear p11
        try clear p2
        try clear p5
        try clear q11
        try clear q5
        obtain ⟨kq, x25_7, rfl, HA, HJ7, ⟨mc7, rfl⟩⟩ := hcut
        cases kq with
        | zero => exact absurd HA.out (by simp [spec_Read.j2])
        | succ kj7 =>
          have H := HA.out
          clear HA
          simp only [spec_Read.j2] at H
          by_cases c12 : x25_7 = true
          · subst c12
            have H1 : ((spec_Unquoted.f kj7 x0_1 39).bind fun bt113 => (some (bt113.1, bt113.2))) = some (r1, r2) := by rw [if_pos rfl] at H; exact H
            clear H
            have H := H1
            clear H1
            replace H := Option.bind_eq_some_iff.mp H
            obtain ⟨⟨t113, t114⟩, A130, H⟩ := H
            replace H : (some (t113, t114)) = some (r1, r2) := H
            have A13 := Aside0.mk A130
            clear A130
            simp only [Option.some.injEq, Prod.mk.injEq] at H
            obtain ⟨rfl, rfl⟩ := H
            go_wp2_with (first | ((with_reducible refine gate_callee (f := 13) rfl ?_); refine goesL_ (some 27) rfl rfl Try.func13 (by kernel_rfl) rfl #[.string x0_1, .int .u8 39] rfl (by (try simp only [List.map_toArray, List.map_cons, List.map_nil]); first | done | rfl | (simp only [List.length_drop, List.length_take]; rfl)) ?_; (with_reducible refine (spec_Unquoted.calls kj7 x0_1 39 t113 t114 _ A13.out).mono ?_); rintro e w' ⟨rfl, ⟨nd, rfl⟩⟩; refine ⟨_, rfl, ?_⟩))
            go_ret2
            exact ⟨by first | rfl | (simp; done) | (simp [*]; done), by repeat (first | exact Drawn0.refl _ | apply Drawn0.step)⟩
          · replace c12 := Bool.eq_false_iff.mpr c12
            subst c12
            have H1 : (if 1 ≤ (x0_1.size : Int) then ((spec_Unquoted.f kj7 (x0_1.extract 1 x0_1.size) 39).bind fun bt115 => (spec_Read.l1 kj7 bt115.1 bt115.2 (⟨#[]⟩ : ByteArray) 0)) else (none)) = some (r1, r2) := by rw [if_neg (show ¬ (false = true) by decide)] at H; exact H
            clear H
            have H := H1
            clear H1
            by_cases c14 : 1 ≤ (x0_1.size : Int)
            · rw [if_pos c14] at H
              have c14b0 := eq_true c14
              have c14b1 : decide (1 ≤ (x0_1.size : Int)) = true := decide_eq_true c14
              clear c14
              replace H := Option.bind_eq_some_iff.mp H
              obtain ⟨⟨t115, t116⟩, A150, H⟩ := H
              replace H : (spec_Read.l1 kj7 t115 t116 (⟨#[]⟩ : ByteArray) 0) = some (r1, r2) := H
              have A15 := Aside0.mk A150
              clear A150
              have H' := Aside0.mk H
              clear H
              go_wp2_with (first | ((with_reducible refine gate_callee (f := 13) rfl ?_); refine goesL_ (some 33) rfl rfl Try.func13 (by kernel_rfl) rfl #[.string (x0_1.extract 1 x0_1.size), .int .u8 39] rfl (by (try simp only [List.map_toArray, List.map_cons, List.map_nil]); first | done | rfl | (simp only [List.length_drop, List.length_take]; rfl)) ?_; (with_reducible refine (spec_Unquoted.calls kj7 (x0_1.extract 1 x0_1.size) 39 t115 t116 _ A15.out).mono ?_); rintro e w' ⟨rfl, ⟨nd, rfl⟩⟩; refine ⟨_, rfl, ?_⟩))
              go_loopg [6, 7] kj7 (fun kq v6 v7 w' => ∃ (x6_3 : ByteArray) (x7_3 : Int), v6 = .string x6_3 ∧ v7 = .int .i64 x7_3 ∧ Aside0 (spec_Read.l1 kq t115 t116 x6_3 x7_3 = some (r1, r2)) ∧ Aside0 (kq ≤ kj7) ∧ Drawn0 w w')
              case atStart => exact ⟨((⟨#[]⟩ : ByteArray)), (0), (by first | rfl | (simp; done) | (simp [*]; done)), (by first | rfl | (simp; done) | (simp [*]; done)), H', ⟨Nat.le_refl _⟩, by repeat (first | exact Drawn0.refl _ | apply Drawn0.step)⟩
              case round =>
                clear H'
                try clear c1
                try clear p1
                try clear q1
                try clear hx1
                try clear qi1
                try clear p2
                try clear c3
                try clear c3b0
                try clear c3b1
                try clear c4
                try clear c4b0
                try clear c4b1
                try clear p5
                try clear q5
                try clear hx5
                try clear qi5
                try clear c6
                try clear c6b0
                try clear c6b1
                try clear c7
                try clear c7b0
                try clear c7b1
                try clear c9
                try clear c9b0
                try clear c9b1
                try clear c10
                try clear c10b0
                try clear c10b1
                try clear p11
                try clear q11
                try clear hx11
                try clear qi11
                try clear c12
                try clear c13
                try clear c14
                try clear c14b0
                try clear c14b1
                try clear p1
                try clear p11
                try clear p2
                try clear p5
                try clear q1
                try clear q11
                try clear q5
                obtain ⟨x6_3, x7_3, rfl, rfl, HA, HK3, ⟨m3, rfl⟩⟩ := hrel
                cases gk with
                | zero => exact absurd HA.out (by simp [spec_Read.l1])
                | succ k3 =>
                  have H := HA.out
                  clear HA
                  simp only [spec_Read.l1] at H
                  have HC16 := Aside0.mk H
                  clear H
                  go_upto_region 8 with (fail)
                  go_cut [42] (fun v42 wc => ∃ (kq : Nat) (x42_15 : Bool), v42 = .bool x42_15 ∧ Aside0 (spec_Read.j4 kq t115 t116 x6_3 x7_3 x42_15 = some (r1, r2)) ∧ Aside0 (kq ≤ k3) ∧ Drawn0 w wc)
                  case first =>
                    have H := HC16.out
                    clear HC16
                    by_cases c17 : x7_3 < (t115.size : Int)
                    · rw [if_pos c17] at H
                      have c17b0 : decide (x7_3 < (t115.size : Int)) = true := decide_eq_true c17
                      clear c17
                      (first | rw [c17b0] | (simp only [i64_w, i32_w]; rw [c17b0]) | skip)
                      have H' := Aside0.mk H
                      clear H
                      go_wp2
                      go_meet
                      case rel => exact ⟨_, (t116), (by first | rfl | (simp; done) | (simp [*]; done)), H', ⟨by have := HJ1.out; have := HJ7.out; have := HK3.out; first | omega | exact Nat.le_refl _⟩, by repeat (first | exact Drawn0.refl _ | apply Drawn0.step)⟩
                    · rw [if_neg c17] at H
                      have c17b0 : decide (x7_3 < (t115.size : Int)) = false := decide_eq_false c17
                      clear c17
                      (first | rw [c17b0] | (simp only [i64_w, i32_w]; rw [c17b0]) | skip)
                      have H' := Aside0.mk H
                      clear H
                      go_wp2
                      go_meet
                      case rel => exact ⟨_, (false), (by first | rfl | (simp; done) | (simp [*]; done)), H', ⟨by have := HJ1.out; have := HJ7.out; have := HK3.out; first | omega | exact Nat.le_refl _⟩, by repeat (first | exact Drawn0.refl _ | apply Drawn0.step)⟩
                  case rest =>
                    clear HC16
                    try clear c1
                    try clear p1
                    try clear q1
                    try clear hx1
                    try clear qi1
                    try clear p2
                    try clear c3
                    try clear c3b0
                    try clear c3b1
                    try clear c4
                    try clear c4b0
                    try clear c4b1
                    try clear p5
                    try clear q5
                    try clear hx5
                    try clear qi5
                    try clear c6
                    try clear c6b0
                    try clear c6b1
                    try clear c7
                    try clear c7b0
                    try clear c7b1
                    try clear c9
                    try clear c9b0
                    try clear c9b1
                    try clear c10
                    try clear c10b0
                    try clear c10b1
                    try clear p11
                    try clear q11
                    try clear hx11
                    try clear qi11
                    try clear c12
                    try clear c13
                    try clear c14
                    try clear c14b0
                    try clear c14b1
                    try clear c17
                    try clear c17b0
                    try clear p1
                    try clear p11
                    try clear p2
                    try clear p5
                    try clear q1
                    try clear q11
                    try clear q5
                    obtain ⟨kq, x42_15, rfl, HA, HJ15, ⟨mc15, rfl⟩⟩ := hcut
                    cases kq with
                    | zero => exact absurd HA.out (by simp [spec_Read.j4])
                    | succ kj15 =>
                      have H := HA.out
                      clear HA
                      simp only [spec_Read.j4] at H
                      by_cases c18 : x42_15 = true
                      · subst c18
                        have H1 : (if 0 ≤ x7_3 then (if x7_3 < (t115.size : Int) then (if (bt t115 x7_3) = 92 then (if (wrap64 (x7_3 + 1)) ≥ (t115.size : Int) then (some ((⟨#[]⟩ : ByteArray), false)) else (if 0 ≤ (wrap64 (x7_3 + 1)) then (if (wrap64 (x7_3 + 1)) < (t115.size : Int) then (if (bt t115 (wrap64 (x7_3 + 1))) = 92 then (if (wrap64 (x7_3 + 1)) ≤ (wrap64 ((wrap64 (x7_3 + 1)) + 1)) then (if (wrap64 ((wrap64 (x7_3 + 1)) + 1)) ≤ (t115.size : Int) then (if x6_3.size + (t115.extract ((wrap64 (x7_3 + 1)) : Int).toNat ((wrap64 ((wrap64 (x7_3 + 1)) + 1)) : Int).toNat).size ≤ 9223372036854775807 then (spec_Read.l1 kj15 t115 t116 (x6_3 ++ (t115.extract ((wrap64 (x7_3 + 1)) : Int).toNat ((wrap64 ((wrap64 (x7_3 + 1)) + 1)) : Int).toNat)) (wrap64 ((wrap64 (x7_3 + 1)) + 1))) else (none)) else (none)) else (none)) else (some ((⟨#[]⟩ : ByteArray), false))) else (none)) else (none))) else (if x7_3 ≤ (wrap64 (x7_3 + 1)) then (if (wrap64 (x7_3 + 1)) ≤ (t115.size : Int) then (if x6_3.size + (t115.extract (x7_3 : Int).toNat ((wrap64 (x7_3 + 1)) : Int).toNat).size ≤ 9223372036854775807 then (spec_Read.l1 kj15 t115 t116 (x6_3 ++ (t115.extract (x7_3 : Int).toNat ((wrap64 (x7_3 + 1)) : Int).toNat)) (wrap64 (x7_3 + 1))) else (none)) else (none)) else (none))) else (none)) else (none)) = some (r1, r2) := by rw [if_pos rfl] at H; exact H
                        clear H
                        have H := H1
                        clear H1
                        by_cases c19 : 0 ≤ x7_3
                        · rw [if_pos c19] at H
                          have c19b0 : decide (0 ≤ x7_3) = true := decide_eq_true c19
                          clear c19
                          by_cases c20 : x7_3 < (t115.size : Int)
                          · rw [if_pos c20] at H
                            have c20b0 : decide (x7_3 < (t115.size : Int)) = true := decide_eq_true c20
                            clear c20
                            by_cases c22 : (bt t115 x7_3) = 92
                            · rw [if_pos c22] at H
                              have c22b0 : ((bt t115 x7_3) == 92) = true := beq_iff_eq.mpr c22
                              have c22b1 : ((bt t115 x7_3) != 92) = false := bne_eq_false_iff_eq.mpr c22
                              clear c22
                              by_cases c23 : (wrap64 (x7_3 + 1)) ≥ (t115.size : Int)
                              · rw [if_pos c23] at H
                                have c23b0 : decide ((t115.size : Int) ≤ (wrap64 (x7_3 + 1))) = true := decide_eq_true c23
                                clear c23
                                simp only [Option.some.injEq, Prod.mk.injEq] at H
                                obtain ⟨rfl, rfl⟩ := H
                                have p21 : 0 ≤ (x7_3 : Int) := of_decide_eq_true (by first | (with_reducible assumption) | assumption)
                                have q21 : x7_3 < (t115.size : Int) := of_decide_eq_true (by first | (with_reducible assumption) | assumption)
                                have hx21 := bt_at t115 x7_3
                                replace p21 := eq_true p21
                                replace q21 := eq_true q21
                                go_wp2
                                go_ret2
                                exact ⟨by first | rfl | (simp; done) | (simp [*]; done), by repeat (first | exact Drawn0.refl _ | apply Drawn0.step)⟩
                              · rw [if_neg c23] at H
                                have c23b0 : decide ((t115.size : Int) ≤ (wrap64 (x7_3 + 1))) = false := decide_eq_false c23
                                clear c23
                                obtain ⟨ji24, hji24⟩ : ∃ j_ : Int, (wrap64 (x7_3 + 1)) = j_ := ⟨_, rfl⟩
                                replace H : (if 0 ≤ (ji24) then (if (ji24) < (t115.size : Int) then (if (bt t115 (ji24)) = 92 then (if (ji24) ≤ (wrap64 ((ji24) + 1)) then (if (wrap64 ((ji24) + 1)) ≤ (t115.size : Int) then (if x6_3.size + (t115.extract ((ji24) : Int).toNat ((wrap64 ((ji24) + 1)) : Int).toNat).size ≤ 9223372036854775807 then (spec_Read.l1 kj15 t115 t116 (x6_3 ++ (t115.extract ((ji24) : Int).toNat ((wrap64 ((ji24) + 1)) : Int).toNat)) (wrap64 ((ji24) + 1))) else (none)) else (none)) else (none)) else (some ((⟨#[]⟩ : ByteArray), false))) else (none)) else (none)) = some (r1, r2) := by first | (rw [hji24] at H; exact H) | (simp only [hji24] at H ⊢; exact H)
                                (try rw [hji24] at c23b0)
                                have hji24w : (IntKind.i64.wrap (x7_3 + 1)) = ji24 := (i64_w _).trans hji24
                                by_cases c25 : 0 ≤ (ji24)
                                · rw [if_pos c25] at H
                                  have c25b0 : decide (0 ≤ (ji24)) = true := decide_eq_true c25
                                  clear c25
                                  by_cases c26 : (ji24) < (t115.size : Int)
                                  · rw [if_pos c26] at H
                                    have c26b0 : decide ((ji24) < (t115.size : Int)) = true := decide_eq_true c26
                                    clear c26
                                    by_cases c28 : (bt t115 (ji24)) = 92
                                    · rw [if_pos c28] at H
                                      have c28b0 : ((bt t115 (ji24)) == 92) = true := beq_iff_eq.mpr c28
                                      have c28b1 : ((bt t115 (ji24)) != 92) = false := bne_eq_false_iff_eq.mpr c28
                                      clear c28
                                      have c29b0 := eq_true (of_decide_eq_true (by first | (with_reducible assumption) | assumption) : 0 ≤ (ji24))
                                      by_cases c30 : (ji24) ≤ (wrap64 ((ji24) + 1))
                                      · rw [if_pos c30] at H
                                        have c30b0 := eq_true c30
                                        have c30b1 : decide ((ji24) ≤ (wrap64 ((ji24) + 1))) = true := decide_eq_true c30
                                        by_cases c31 : (wrap64 ((ji24) + 1)) ≤ (t115.size : Int)
                                        · rw [if_pos c31] at H
                                          have c31b0 := eq_true c31
                                          have c31b1 : decide ((wrap64 ((ji24) + 1)) ≤ (t115.size : Int)) = true := decide_eq_true c31
                                          by_cases c32 : x6_3.size + (t115.extract ((ji24) : Int).toNat ((wrap64 ((ji24) + 1)) : Int).toNat).size ≤ 9223372036854775807
                                          · rw [if_pos c32] at H
                                            have c32b0 := eq_true c32
                                            have c32b1 : decide (x6_3.size + (t115.extract ((ji24) : Int).toNat ((wrap64 ((ji24) + 1)) : Int).toNat).size ≤ 9223372036854775807) = true := decide_eq_true c32
                                            try have c32b2 : (9223372036854775807 < x6_3.size + (t115.extract ((ji24) : Int).toNat ((wrap64 ((ji24) + 1)) : Int).toNat).size) = False := eq_false (Nat.not_lt.2 c32)
                                            have H' := Aside0.mk H
                                            clear H
                                            have p21 : 0 ≤ (x7_3 : Int) := of_decide_eq_true (by first | (with_reducible assumption) | assumption)
                                            have q21 : x7_3 < (t115.size : Int) := of_decide_eq_true (by first | (with_reducible assumption) | assumption)
                                            have hx21 := bt_at t115 x7_3
                                            replace p21 := eq_true p21
                                            replace q21 := eq_true q21
                                            have p27 : 0 ≤ ((ji24) : Int) := of_decide_eq_true (by first | (with_reducible assumption) | assumption)
                                            have q27 : (ji24) < (t115.size : Int) := of_decide_eq_true (by first | (with_reducible assumption) | assumption)
                                            have hx27 := bt_at t115 (ji24)
                                            replace p27 := eq_true p27
                                            replace q27 := eq_true q27
                                            go_wp2
                                            go_roundg kj15
                                            case measure => have := HJ1.out; have := HJ7.out; have := HK3.out; have := HJ15.out; omega
                                            case rel => exact ⟨(x6_3 ++ (t115.extract ((ji24) : Int).toNat ((wrap64 ((ji24) + 1)) : Int).toNat)), (wrap64 ((ji24) + 1)), (by first | rfl | (simp; done) | (simp only [← hji24] <;> (first | rfl | simp)) | (simp [*]; done)), (by first | rfl | (simp; done) | (simp only [← hji24] <;> (first | rfl | simp)) | (simp [*]; done)), H', ⟨by have := HJ1.out; have := HJ7.out; have := HK3.out; have := HJ15.out; omega⟩, by repeat (first | exact Drawn0.refl _ | apply Drawn0.step)⟩
                                          · rw [if_neg c32] at H
                                            exact absurd H (by simp)
                                        · rw [if_neg c31] at H
                                          exact absurd H (by simp)
                                      · rw [if_neg c30] at H
                                        exact absurd H (by simp)
                                    · rw [if_neg c28] at H
                                      have c28b0 : ((bt t115 (ji24)) == 92) = false := beq_eq_false_iff_ne.mpr c28
                                      have c28b1 : ((bt t115 (ji24)) != 92) = true := bne_iff_ne.mpr c28
                                      simp only [Option.some.injEq, Prod.mk.injEq] at H
                                      obtain ⟨rfl, rfl⟩ := H
                                      have p21 : 0 ≤ (x7_3 : Int) := of_decide_eq_true (by first | (with_reducible assumption) | assumption)
                                      have q21 : x7_3 < (t115.size : Int) := of_decide_eq_true (by first | (with_reducible assumption) | assumption)
                                      have hx21 := bt_at t115 x7_3
                                      replace p21 := eq_true p21
                                      replace q21 := eq_true q21
                                      have p27 : 0 ≤ ((ji24) : Int) := of_decide_eq_true (by first | (with_reducible assumption) | assumption)
                                      have q27 : (ji24) < (t115.size : Int) := of_decide_eq_true (by first | (with_reducible assumption) | assumption)
                                      have hx27 := bt_at t115 (ji24)
                                      replace p27 := eq_true p27
                                      replace q27 := eq_true q27
                                      go_wp2
                                      go_ret2
                                      exact ⟨by first | rfl | (simp; done) | (simp only [← hji24] <;> (first | rfl | simp)) | (simp [*]; done), by repeat (first | exact Drawn0.refl _ | apply Drawn0.step)⟩
                                  · rw [if_neg c26] at H
                                    exact absurd H (by simp)
                                · rw [if_neg c25] at H
                                  exact absurd H (by simp)
                            · rw [if_neg c22] at H
                              have c22b0 : ((bt t115 x7_3) == 92) = false := beq_eq_false_iff_ne.mpr c22
                              have c22b1 : ((bt t115 x7_3) != 92) = true := bne_iff_ne.mpr c22
                              have c33b0 := eq_true (of_decide_eq_true (by first | (with_reducible assumption) | assumption) : 0 ≤ x7_3)
                              by_cases c34 : x7_3 ≤ (wrap64 (x7_3 + 1))
                              · rw [if_pos c34] at H
                                have c34b0 := eq_true c34
                                have c34b1 : decide (x7_3 ≤ (wrap64 (x7_3 + 1))) = true := decide_eq_true c34
                                by_cases c35 : (wrap64 (x7_3 + 1)) ≤ (t115.size : Int)
                                · rw [if_pos c35] at H
                                  have c35b0 := eq_true c35
                                  have c35b1 : decide ((wrap64 (x7_3 + 1)) ≤ (t115.size : Int)) = true := decide_eq_true c35
                                  by_cases c36 : x6_3.size + (t115.extract (x7_3 : Int).toNat ((wrap64 (x7_3 + 1)) : Int).toNat).size ≤ 9223372036854775807
                                  · rw [if_pos c36] at H
                                    have c36b0 := eq_true c36
                                    have c36b1 : decide (x6_3.size + (t115.extract (x7_3 : Int).toNat ((wrap64 (x7_3 + 1)) : Int).toNat).size ≤ 9223372036854775807) = true := decide_eq_true c36
                                    try have c36b2 : (9223372036854775807 < x6_3.size + (t115.extract (x7_3 : Int).toNat ((wrap64 (x7_3 + 1)) : Int).toNat).size) = False := eq_false (Nat.not_lt.2 c36)
                                    have H' := Aside0.mk H
                                    clear H
                                    have p21 : 0 ≤ (x7_3 : Int) := of_decide_eq_true (by first | (with_reducible assumption) | assumption)
                                    have q21 : x7_3 < (t115.size : Int) := of_decide_eq_true (by first | (with_reducible assumption) | assumption)
                                    have hx21 := bt_at t115 x7_3
                                    replace p21 := eq_true p21
                                    replace q21 := eq_true q21
                                    go_wp2
                                    go_roundg kj15
                                    case measure => have := HJ1.out; have := HJ7.out; have := HK3.out; have := HJ15.out; omega
                                    case rel => exact ⟨(x6_3 ++ (t115.extract (x7_3 : Int).toNat ((wrap64 (x7_3 + 1)) : Int).toNat)), (wrap64 (x7_3 + 1)), (by first | rfl | (simp; done) | (simp [*]; done)), (by first | rfl | (simp; done) | (simp [*]; done)), H', ⟨by have := HJ1.out; have := HJ7.out; have := HK3.out; have := HJ15.out; omega⟩, by repeat (first | exact Drawn0.refl _ | apply Drawn0.step)⟩
                                  · rw [if_neg c36] at H
                                    exact absurd H (by simp)
                                · rw [if_neg c35] at H
                                  exact absurd H (by simp)
                              · rw [if_neg c34] at H
                                exact absurd H (by simp)
                          · rw [if_neg c20] at H
                            exact absurd H (by simp)
                        · rw [if_neg c19] at H
                          exact absurd H (by simp)
                      · replace c18 := Bool.eq_false_iff.mpr c18
                        subst c18
                        have H1 : (some (x6_3, t116)) = some (r1, r2) := by rw [if_neg (show ¬ (false = true) by decide)] at H; exact H
                        clear H
                        have H := H1
                        clear H1
                        simp only [Option.some.injEq, Prod.mk.injEq] at H
                        obtain ⟨rfl, rfl⟩ := H
                        go_wp2
                        go_ret2
                        exact ⟨by first | rfl | (simp; done) | (simp [*]; done), by repeat (first | exact Drawn0.refl _ | apply Drawn0.step)⟩
            · rw [if_neg c14] at H
              exact absurd H (by simp)

/-! ### laws_FnLiteralBack: function 4 -/
def laws_FnLiteralBack.f (k : Nat) (a0 : ByteArray) : Option (Bool) := if (a0.size : Int) > 2147483647 then (some true) else ((laws_text9.f k a0).bind fun t117 => (if t117 = true then ((impl_Literal.f k a0).bind fun t118 => ((spec_Read.f k t118).bind fun bt119 => (if bt119.2 = true then (some (bt119.1.toList == a0.toList)) else (some false)))) else (some true)))
theorem laws_FnLiteralBack.mono : ∀ a0 k, LeO (laws_FnLiteralBack.f k a0) (laws_FnLiteralBack.f (k + 1) a0) := by
  intro a0 k
  unfold laws_FnLiteralBack.f
  repeat' first
      | (with_reducible exact impl_Literal.mono _ _)
      | (with_reducible exact laws_text9.mono _ _)
      | (with_reducible exact spec_Read.mono _ _)
      | (with_reducible exact LeO.refl _)
      | (with_reducible exact LeO.none _)
      | (with_reducible refine LeO.ite ?_ ?_)
      | (with_reducible refine LeO.bind ?_ (fun _ => ?_))
      | exact impl_Literal.mono _ _
      | exact laws_text9.mono _ _
      | exact spec_Read.mono _ _
      | exact LeO.none _
      | refine LeO.ite ?_ ?_
      | refine LeO.bind ?_ (fun _ => ?_)
set_option maxHeartbeats 8000000 in
set_option maxRecDepth 100000 in
theorem laws_FnLiteralBack.calls (k : Nat) (a0 : ByteArray) (r : Bool) (w : World) (h : laws_FnLiteralBack.f k a0 = some r) :
    Calls Try.prog 4 #[.string a0] w fun e w' => e = .returned (.bool r) ∧ Drawn0 w w' := by
  have H : (if (a0.size : Int) > 2147483647 then (some true) else ((laws_text9.f k a0).bind fun t117 => (if t117 = true then ((impl_Literal.f k a0).bind fun t118 => ((spec_Read.f k t118).bind fun bt119 => (if bt119.2 = true then (some (bt119.1.toList == a0.toList)) else (some false)))) else (some true)))) = some r := h
  clear h
  by_cases c2 : (a0.size : Int) > 2147483647
  · rw [if_pos c2] at H
    have c2b0 : decide (2147483647 < (a0.size : Int)) = true := decide_eq_true c2
    have c2b1 : decide (2147483647 < a0.size) = true := decide_eq_true (by omega)
    clear c2
    obtain rfl := Option.some.inj H
    go_enter Try.func4, Try.ntmps4
    go_wp2
    go_ret
    exact ⟨by first | rfl | (simp; done) | (simp [*]; done), by repeat (first | exact Drawn0.refl _ | apply Drawn0.step)⟩
  · rw [if_neg c2] at H
    have c2b0 : decide (2147483647 < (a0.size : Int)) = false := decide_eq_false c2
    have c2b1 : decide (2147483647 < a0.size) = false := decide_eq_false (by omega)
    clear c2
    replace H := Option.bind_eq_some_iff.mp H
    obtain ⟨t117, A30, H⟩ := H
    replace H : (if t117 = true then ((impl_Literal.f k a0).bind fun t118 => ((spec_Read.f k t118).bind fun bt119 => (if bt119.2 = true then (some (bt119.1.toList == a0.toList)) else (some false)))) else (some true)) = some r := H
    have A3 := Aside0.mk A30
    clear A30
    by_cases c4 : t117 = true
    · subst c4
      have H1 : ((impl_Literal.f k a0).bind fun t118 => ((spec_Read.f k t118).bind fun bt119 => (if bt119.2 = true then (some (bt119.1.toList == a0.toList)) else (some false)))) = some r := by rw [if_pos rfl] at H; exact H
      clear H
      have H := H1
      clear H1
      replace H := Option.bind_eq_some_iff.mp H
      obtain ⟨t118, A50, H⟩ := H
      replace H : ((spec_Read.f k t118).bind fun bt119 => (if bt119.2 = true then (some (bt119.1.toList == a0.toList)) else (some false))) = some r := H
      have A5 := Aside0.mk A50
      clear A50
      replace H := Option.bind_eq_some_iff.mp H
      obtain ⟨⟨t119, t120⟩, A60, H⟩ := H
      replace H : (if t120 = true then (some (t119.toList == a0.toList)) else (some false)) = some r := H
      have A6 := Aside0.mk A60
      clear A60
      by_cases c7 : t120 = true
      · subst c7
        have H1 : (some (t119.toList == a0.toList)) = some r := by rw [if_pos rfl] at H; exact H
        clear H
        have H := H1
        clear H1
        obtain rfl := Option.some.inj H
        go_enter Try.func4, Try.ntmps4
        go_wp2_with (first | ((with_reducible refine gate_callee (f := 6) rfl ?_); refine goesL_ (some 9) rfl rfl Try.func6 (by kernel_rfl) rfl #[.string a0] rfl (by (try simp only [List.map_toArray, List.map_cons, List.map_nil]); first | done | rfl | (simp only [List.length_drop, List.length_take]; rfl)) ?_; (with_reducible refine (laws_text9.calls k a0 true _ A3.out).mono ?_); rintro e w' ⟨rfl, ⟨nd, rfl⟩⟩; refine ⟨_, rfl, ?_⟩) | ((with_reducible refine gate_callee (f := 7) rfl ?_); refine goesL_ (some 13) rfl rfl Try.func7 (by kernel_rfl) rfl #[.string a0] rfl (by (try simp only [List.map_toArray, List.map_cons, List.map_nil]); first | done | rfl | (simp only [List.length_drop, List.length_take]; rfl)) ?_; (with_reducible refine (impl_Literal.calls k a0 t118 _ A5.out).mono ?_); rintro e w' ⟨rfl, ⟨nd, rfl⟩⟩; refine ⟨_, rfl, ?_⟩) | ((with_reducible refine gate_callee (f := 9) rfl ?_); refine goesL_ (some 14) rfl rfl Try.func9 (by kernel_rfl) rfl #[.string t118] rfl (by (try simp only [List.map_toArray, List.map_cons, List.map_nil]); first | done | rfl | (simp only [List.length_drop, List.length_take]; rfl)) ?_; (with_reducible refine (spec_Read.calls k t118 t119 true _ A6.out).mono ?_); rintro e w' ⟨rfl, ⟨nd, rfl⟩⟩; refine ⟨_, rfl, ?_⟩))
        go_ret
        exact ⟨by first | rfl | (simp; done) | (simp [*]; done), by repeat (first | exact Drawn0.refl _ | apply Drawn0.step)⟩
      · replace c7 := Bool.eq_false_iff.mpr c7
        subst c7
        have H1 : (some false) = some r := by rw [if_neg (show ¬ (false = true) by decide)] at H; exact H
        clear H
        have H := H1
        clear H1
        obtain rfl := Option.some.inj H
        go_enter Try.func4, Try.ntmps4
        go_wp2_with (first | ((with_reducible refine gate_callee (f := 6) rfl ?_); refine goesL_ (some 9) rfl rfl Try.func6 (by kernel_rfl) rfl #[.string a0] rfl (by (try simp only [List.map_toArray, List.map_cons, List.map_nil]); first | done | rfl | (simp only [List.length_drop, List.length_take]; rfl)) ?_; (with_reducible refine (laws_text9.calls k a0 true _ A3.out).mono ?_); rintro e w' ⟨rfl, ⟨nd, rfl⟩⟩; refine ⟨_, rfl, ?_⟩) | ((with_reducible refine gate_callee (f := 7) rfl ?_); refine goesL_ (some 13) rfl rfl Try.func7 (by kernel_rfl) rfl #[.string a0] rfl (by (try simp only [List.map_toArray, List.map_cons, List.map_nil]); first | done | rfl | (simp only [List.length_drop, List.length_take]; rfl)) ?_; (with_reducible refine (impl_Literal.calls k a0 t118 _ A5.out).mono ?_); rintro e w' ⟨rfl, ⟨nd, rfl⟩⟩; refine ⟨_, rfl, ?_⟩) | ((with_reducible refine gate_callee (f := 9) rfl ?_); refine goesL_ (some 14) rfl rfl Try.func9 (by kernel_rfl) rfl #[.string t118] rfl (by (try simp only [List.map_toArray, List.map_cons, List.map_nil]); first | done | rfl | (simp only [List.length_drop, List.length_take]; rfl)) ?_; (with_reducible refine (spec_Read.calls k t118 t119 false _ A6.out).mono ?_); rintro e w' ⟨rfl, ⟨nd, rfl⟩⟩; refine ⟨_, rfl, ?_⟩))
        go_ret
        exact ⟨by first | rfl | (simp; done) | (simp [*]; done), by repeat (first | exact Drawn0.refl _ | apply Drawn0.step)⟩
    · replace c4 := Bool.eq_false_iff.mpr c4
      subst c4
      have H1 : (some true) = some r := by rw [if_neg (show ¬ (false = true) by decide)] at H; exact H
      clear H
      have H := H1
      clear H1
      obtain rfl := Option.some.inj H
      go_enter Try.func4, Try.ntmps4
      go_wp2_with (first | ((with_reducible refine gate_callee (f := 6) rfl ?_); refine goesL_ (some 9) rfl rfl Try.func6 (by kernel_rfl) rfl #[.string a0] rfl (by (try simp only [List.map_toArray, List.map_cons, List.map_nil]); first | done | rfl | (simp only [List.length_drop, List.length_take]; rfl)) ?_; (with_reducible refine (laws_text9.calls k a0 false _ A3.out).mono ?_); rintro e w' ⟨rfl, ⟨nd, rfl⟩⟩; refine ⟨_, rfl, ?_⟩))
      go_ret
      exact ⟨by first | rfl | (simp; done) | (simp [*]; done), by repeat (first | exact Drawn0.refl _ | apply Drawn0.step)⟩

/-- THE ONE PURE STATEMENT of laws_FnLiteralBack: yours. -/
def laws_FnLiteralBack.Pure : Prop := ∀ (a0 : ByteArray), a0.size ≤ 140737488351232 → ∃ k, laws_FnLiteralBack.f k a0 = some true
theorem laws_FnLiteralBack.walk (P : laws_FnLiteralBack.Pure) (a0 : ByteArray) (w : World) (w0 : a0.size ≤ 140737488351232) :
    Calls Try.prog 4 #[.string a0] w fun e w' => e = .returned (.bool true) ∧ Below w.heap.size w w' := by
  obtain ⟨k, h⟩ := P a0 w0
  refine (laws_FnLiteralBack.calls k a0 true w h).mono ?_
  rintro e w' ⟨rfl, hd⟩
  exact ⟨rfl, hd.below⟩

end Go.Proofs.Ytlfkejljbehcaab.P
