-- Written by the program wip/myprint.py of this session, over the kit's print of the translation. Lean checks it.
import Derived.Test.YtlfkejljbehcaabPx0
namespace Go.Proofs.Ytlfkejljbehcaab.P
open Go.RowKit Go.Proofs.YtlfkejljbehcaabW.PrintWords Go.Proofs.YtlfkejljbehcaabW.PrintLast Go.Proofs.YtlfkejljbehcaabW.PrintMore
attribute [local go_sem] max2_int min2_int max_two min_two max_three min_three max_four min_four   -- for this text's walks alone
set_option linter.unusedVariables false
set_option linter.unusedSimpArgs false

/-! ### laws_text9: function 6 -/
def laws_text9.l0 : Nat → ByteArray → Int → Option (Bool)
  | 0, _, _ => none
  | k + 1, x0, x3 => if x3 < (x0.size : Int) then (if 0 ≤ x3 then (if (bt x0 x3) = 0 then (some false) else (laws_text9.l0 k x0 (wrap64 (x3 + 1)))) else (none)) else (some true)
def laws_text9.f (k : Nat) (a0 : ByteArray) : Option (Bool) := if (a0.size : Int) > 1000 then (some false) else (laws_text9.l0 k a0 0)
theorem laws_text9.mono_l : ∀ k, (∀ y0 y1, LeO (laws_text9.l0 k y0 y1) (laws_text9.l0 (k + 1) y0 y1))
  | 0 => fun _ _ r h => by simp [laws_text9.l0] at h
  | k + 1 => by
    have ih0 := laws_text9.mono_l k
    · intro y0 y1
      unfold laws_text9.l0
      repeat' first
      | (with_reducible exact ih0 _ _)
      | (with_reducible exact LeO.refl _)
      | (with_reducible exact LeO.none _)
      | (with_reducible refine LeO.ite ?_ ?_)
      | (with_reducible refine LeO.bind ?_ (fun _ => ?_))
      | exact ih0 _ _
      | exact LeO.none _
      | refine LeO.ite ?_ ?_
      | refine LeO.bind ?_ (fun _ => ?_)
theorem laws_text9.mono : ∀ a0 k, LeO (laws_text9.f k a0) (laws_text9.f (k + 1) a0) := by
  intro a0 k
  have ih0 := laws_text9.mono_l k
  unfold laws_text9.f
  repeat' first
      | (with_reducible exact ih0 _ _)
      | (with_reducible exact LeO.refl _)
      | (with_reducible exact LeO.none _)
      | (with_reducible refine LeO.ite ?_ ?_)
      | (with_reducible refine LeO.bind ?_ (fun _ => ?_))
      | exact ih0 _ _
      | exact LeO.none _
      | refine LeO.ite ?_ ?_
      | refine LeO.bind ?_ (fun _ => ?_)
set_option maxHeartbeats 8000000 in
set_option maxRecDepth 100000 in
theorem laws_text9.calls (k : Nat) (a0 : ByteArray) (r : Bool) (w : World) (h : laws_text9.f k a0 = some r) :
    Calls Try.prog 6 #[.string a0] w fun e w' => e = .returned (.bool r) ∧ Drawn0 w w' := by
  have H : (if (a0.size : Int) > 1000 then (some false) else (laws_text9.l0 k a0 0)) = some r := h
  clear h
  by_cases c2 : (a0.size : Int) > 1000
  · rw [if_pos c2] at H
    have c2b0 : decide (1000 < (a0.size : Int)) = true := decide_eq_true c2
    have c2b1 : decide (1000 < a0.size) = true := decide_eq_true (by omega)
    clear c2
    obtain rfl := Option.some.inj H
    go_enter Try.func6, Try.ntmps6
    go_wp2
    go_ret
    exact ⟨by first | rfl | (simp; done) | (simp [*]; done), by repeat (first | exact Drawn0.refl _ | apply Drawn0.step)⟩
  · rw [if_neg c2] at H
    have c2b0 : decide (1000 < (a0.size : Int)) = false := decide_eq_false c2
    have c2b1 : decide (1000 < a0.size) = false := decide_eq_false (by omega)
    clear c2
    have H' := Aside0.mk H
    clear H
    go_enter Try.func6, Try.ntmps6
    go_wp2
    go_loopg [3] k (fun kq v3 w' => ∃ (x3_1 : Int), v3 = .int .i64 x3_1 ∧ Aside0 (laws_text9.l0 kq a0 x3_1 = some r) ∧ Aside0 (kq ≤ k) ∧ Drawn0 w w')
    case atStart => exact ⟨(0), (by first | rfl | (simp; done) | (simp [*]; done)), H', ⟨Nat.le_refl _⟩, by repeat (first | exact Drawn0.refl _ | apply Drawn0.step)⟩
    case round =>
      clear H'
      try clear c2
      try clear c2b0
      try clear c2b1
      try clear p2
      obtain ⟨x3_1, rfl, HA, HK1, ⟨m1, rfl⟩⟩ := hrel
      cases gk with
      | zero => exact absurd HA.out (by simp [laws_text9.l0])
      | succ k1 =>
        have H := HA.out
        clear HA
        simp only [laws_text9.l0] at H
        by_cases c3 : x3_1 < (a0.size : Int)
        · rw [if_pos c3] at H
          have c3b0 : decide (x3_1 < (a0.size : Int)) = true := decide_eq_true c3
          clear c3
          by_cases c4 : 0 ≤ x3_1
          · rw [if_pos c4] at H
            have c4b0 : decide (0 ≤ x3_1) = true := decide_eq_true c4
            clear c4
            by_cases c6 : (bt a0 x3_1) = 0
            · rw [if_pos c6] at H
              have c6b0 : ((bt a0 x3_1) == 0) = true := beq_iff_eq.mpr c6
              have c6b1 : ((bt a0 x3_1) != 0) = false := bne_eq_false_iff_eq.mpr c6
              clear c6
              obtain rfl := Option.some.inj H
              have p5 : 0 ≤ (x3_1 : Int) := of_decide_eq_true (by first | (with_reducible assumption) | assumption)
              have q5 : x3_1 < (a0.size : Int) := of_decide_eq_true (by first | (with_reducible assumption) | assumption)
              have hx5 := bt_at a0 x3_1
              replace p5 := eq_true p5
              replace q5 := eq_true q5
              go_wp2
              go_ret
              exact ⟨by first | rfl | (simp; done) | (simp [*]; done), by repeat (first | exact Drawn0.refl _ | apply Drawn0.step)⟩
            · rw [if_neg c6] at H
              have c6b0 : ((bt a0 x3_1) == 0) = false := beq_eq_false_iff_ne.mpr c6
              have c6b1 : ((bt a0 x3_1) != 0) = true := bne_iff_ne.mpr c6
              have H' := Aside0.mk H
              clear H
              have p5 : 0 ≤ (x3_1 : Int) := of_decide_eq_true (by first | (with_reducible assumption) | assumption)
              have q5 : x3_1 < (a0.size : Int) := of_decide_eq_true (by first | (with_reducible assumption) | assumption)
              have hx5 := bt_at a0 x3_1
              replace p5 := eq_true p5
              replace q5 := eq_true q5
              go_wp2
              go_roundg k1
              case measure => have := HK1.out; omega
              case rel => exact ⟨(wrap64 (x3_1 + 1)), (by first | rfl | (simp; done) | (simp [*]; done)), H', ⟨by have := HK1.out; omega⟩, by repeat (first | exact Drawn0.refl _ | apply Drawn0.step)⟩
          · rw [if_neg c4] at H
            exact absurd H (by simp)
        · rw [if_neg c3] at H
          have c3b0 : decide (x3_1 < (a0.size : Int)) = false := decide_eq_false c3
          clear c3
          obtain rfl := Option.some.inj H
          go_wp2
          go_ret
          exact ⟨by first | rfl | (simp; done) | (simp [*]; done), by repeat (first | exact Drawn0.refl _ | apply Drawn0.step)⟩

/-! ### pq_zzIndex: function 16 -/
def pq_zzIndex.l0 : Nat → ByteArray → ByteArray → Int → Option (Int)
  | 0, _, _, _ => none
  | k + 1, x0, x1, x5 => if (wrap64 (x5 + (x1.size : Int))) ≤ (x0.size : Int) then (if 0 ≤ x5 then (if x5 ≤ (wrap64 (x5 + (x1.size : Int))) then (if (x0.extract (x5 : Int).toNat ((wrap64 (x5 + (x1.size : Int))) : Int).toNat).toList = x1.toList then (some x5) else (pq_zzIndex.l0 k x0 x1 (wrap64 (x5 + 1)))) else (none)) else (none)) else (some (-1))
def pq_zzIndex.f (k : Nat) (a0 : ByteArray) (a1 : ByteArray) : Option (Int) := pq_zzIndex.l0 k a0 a1 0
theorem pq_zzIndex.mono_l : ∀ k, (∀ y0 y1 y2, LeO (pq_zzIndex.l0 k y0 y1 y2) (pq_zzIndex.l0 (k + 1) y0 y1 y2))
  | 0 => fun _ _ _ r h => by simp [pq_zzIndex.l0] at h
  | k + 1 => by
    have ih0 := pq_zzIndex.mono_l k
    · intro y0 y1 y2
      unfold pq_zzIndex.l0
      repeat' first
      | (with_reducible exact ih0 _ _ _)
      | (with_reducible exact LeO.refl _)
      | (with_reducible exact LeO.none _)
      | (with_reducible refine LeO.ite ?_ ?_)
      | (with_reducible refine LeO.bind ?_ (fun _ => ?_))
      | exact ih0 _ _ _
      | exact LeO.none _
      | refine LeO.ite ?_ ?_
      | refine LeO.bind ?_ (fun _ => ?_)
theorem pq_zzIndex.mono : ∀ a0 a1 k, LeO (pq_zzIndex.f k a0 a1) (pq_zzIndex.f (k + 1) a0 a1) := by
  intro a0 a1 k
  have ih0 := pq_zzIndex.mono_l k
  unfold pq_zzIndex.f
  repeat' first
      | (with_reducible exact ih0 _ _ _)
      | (with_reducible exact LeO.refl _)
      | (with_reducible exact LeO.none _)
      | (with_reducible refine LeO.ite ?_ ?_)
      | (with_reducible refine LeO.bind ?_ (fun _ => ?_))
      | exact ih0 _ _ _
      | exact LeO.none _
      | refine LeO.ite ?_ ?_
      | refine LeO.bind ?_ (fun _ => ?_)
set_option maxHeartbeats 8000000 in
set_option maxRecDepth 100000 in
theorem pq_zzIndex.calls (k : Nat) (a0 : ByteArray) (a1 : ByteArray) (r : Int) (w : World) (h : pq_zzIndex.f k a0 a1 = some r) :
    Calls Try.prog 16 #[.string a0, .string a1] w fun e w' => e = .returned (.int .i64 r) ∧ Drawn0 w w' := by
  have H : (pq_zzIndex.l0 k a0 a1 0) = some r := h
  clear h
  have H' := Aside0.mk H
  clear H
  go_enter Try.func16, Try.ntmps16
  go_wp2
  go_loopg [5] k (fun kq v5 w' => ∃ (x5_1 : Int), v5 = .int .i64 x5_1 ∧ Aside0 (pq_zzIndex.l0 kq a0 a1 x5_1 = some r) ∧ Aside0 (kq ≤ k) ∧ Drawn0 w w')
  case atStart => exact ⟨(0), (by first | rfl | (simp; done) | (simp [*]; done)), H', ⟨Nat.le_refl _⟩, by repeat (first | exact Drawn0.refl _ | apply Drawn0.step)⟩
  case round =>
    clear H'
    try clear c1
    try clear p2
    obtain ⟨x5_1, rfl, HA, HK1, ⟨m1, rfl⟩⟩ := hrel
    cases gk with
    | zero => exact absurd HA.out (by simp [pq_zzIndex.l0])
    | succ k1 =>
      have H := HA.out
      clear HA
      simp only [pq_zzIndex.l0] at H
      by_cases c3 : (wrap64 (x5_1 + (a1.size : Int))) ≤ (a0.size : Int)
      · rw [if_pos c3] at H
        have c3b0 : decide ((wrap64 (x5_1 + (a1.size : Int))) ≤ (a0.size : Int)) = true := decide_eq_true c3
        clear c3
        by_cases c4 : 0 ≤ x5_1
        · rw [if_pos c4] at H
          have c4b0 := eq_true c4
          have c4b1 : decide (0 ≤ x5_1) = true := decide_eq_true c4
          clear c4
          by_cases c5 : x5_1 ≤ (wrap64 (x5_1 + (a1.size : Int)))
          · rw [if_pos c5] at H
            have c5b0 := eq_true c5
            have c5b1 : decide (x5_1 ≤ (wrap64 (x5_1 + (a1.size : Int)))) = true := decide_eq_true c5
            have c6b0 := eq_true (of_decide_eq_true (by first | (with_reducible assumption) | assumption) : (wrap64 (x5_1 + (a1.size : Int))) ≤ (a0.size : Int))
            by_cases c7 : (a0.extract (x5_1 : Int).toNat ((wrap64 (x5_1 + (a1.size : Int))) : Int).toNat).toList = a1.toList
            · rw [if_pos c7] at H
              have c7b0 : ((a0.extract (x5_1 : Int).toNat ((wrap64 (x5_1 + (a1.size : Int))) : Int).toNat).toList == a1.toList) = true := beq_iff_eq.mpr c7
              have c7b1 : ((a0.extract (x5_1 : Int).toNat ((wrap64 (x5_1 + (a1.size : Int))) : Int).toNat).toList != a1.toList) = false := bne_eq_false_iff_eq.mpr c7
              clear c7
              obtain rfl := Option.some.inj H
              go_wp2
              go_ret
              exact ⟨by first | rfl | (simp; done) | (simp [*]; done), by repeat (first | exact Drawn0.refl _ | apply Drawn0.step)⟩
            · rw [if_neg c7] at H
              have c7b0 : ((a0.extract (x5_1 : Int).toNat ((wrap64 (x5_1 + (a1.size : Int))) : Int).toNat).toList == a1.toList) = false := beq_eq_false_iff_ne.mpr c7
              have c7b1 : ((a0.extract (x5_1 : Int).toNat ((wrap64 (x5_1 + (a1.size : Int))) : Int).toNat).toList != a1.toList) = true := bne_iff_ne.mpr c7
              have H' := Aside0.mk H
              clear H
              go_wp2
              go_roundg k1
              case measure => have := HK1.out; omega
              case rel => exact ⟨(wrap64 (x5_1 + 1)), (by first | rfl | (simp; done) | (simp [*]; done)), H', ⟨by have := HK1.out; omega⟩, by repeat (first | exact Drawn0.refl _ | apply Drawn0.step)⟩
          · rw [if_neg c5] at H
            exact absurd H (by simp)
        · rw [if_neg c4] at H
          exact absurd H (by simp)
      · rw [if_neg c3] at H
        have c3b0 : decide ((wrap64 (x5_1 + (a1.size : Int))) ≤ (a0.size : Int)) = false := decide_eq_false c3
        clear c3
        obtain rfl := Option.some.inj H
        go_wp2
        go_ret
        exact ⟨by first | rfl | (simp; done) | (simp [*]; done), by repeat (first | exact Drawn0.refl _ | apply Drawn0.step)⟩

/-! ### pq_zzReplace: function 14 -/
def pq_zzReplace.l0 : Nat → ByteArray → ByteArray → ByteArray → ByteArray → Option (ByteArray)
  | 0, _, _, _, _ => none
  | k + 1, x0, x1, x2, x7 => (pq_zzIndex.f k x0 x1).bind fun t101 => (if t101 < 0 then (if x7.size + x0.size ≤ 9223372036854775807 then (some (x7 ++ x0)) else (none)) else (if 0 ≤ t101 then (if t101 ≤ (x0.size : Int) then (if (x0.extract 0 (t101 : Int).toNat).size + x2.size ≤ 9223372036854775807 then (if x7.size + ((x0.extract 0 (t101 : Int).toNat) ++ x2).size ≤ 9223372036854775807 then (if 0 ≤ (wrap64 (t101 + (x1.size : Int))) then (if (wrap64 (t101 + (x1.size : Int))) ≤ (x0.size : Int) then (pq_zzReplace.l0 k (x0.extract ((wrap64 (t101 + (x1.size : Int))) : Int).toNat x0.size) x1 x2 (x7 ++ ((x0.extract 0 (t101 : Int).toNat) ++ x2))) else (none)) else (none)) else (none)) else (none)) else (none)) else (none)))
def pq_zzReplace.f (k : Nat) (a0 : ByteArray) (a1 : ByteArray) (a2 : ByteArray) : Option (ByteArray) := pq_zzReplace.l0 k a0 a1 a2 (⟨#[]⟩ : ByteArray)
theorem pq_zzReplace.mono_l : ∀ k, (∀ y0 y1 y2 y3, LeO (pq_zzReplace.l0 k y0 y1 y2 y3) (pq_zzReplace.l0 (k + 1) y0 y1 y2 y3))
  | 0 => fun _ _ _ _ r h => by simp [pq_zzReplace.l0] at h
  | k + 1 => by
    have ih0 := pq_zzReplace.mono_l k
    · intro y0 y1 y2 y3
      unfold pq_zzReplace.l0
      repeat' first
      | (with_reducible exact ih0 _ _ _ _)
      | (with_reducible exact pq_zzIndex.mono _ _ _)
      | (with_reducible exact LeO.refl _)
      | (with_reducible exact LeO.none _)
      | (with_reducible refine LeO.ite ?_ ?_)
      | (with_reducible refine LeO.bind ?_ (fun _ => ?_))
      | exact ih0 _ _ _ _
      | exact pq_zzIndex.mono _ _ _
      | exact LeO.none _
      | refine LeO.ite ?_ ?_
      | refine LeO.bind ?_ (fun _ => ?_)
theorem pq_zzReplace.mono : ∀ a0 a1 a2 k, LeO (pq_zzReplace.f k a0 a1 a2) (pq_zzReplace.f (k + 1) a0 a1 a2) := by
  intro a0 a1 a2 k
  have ih0 := pq_zzReplace.mono_l k
  unfold pq_zzReplace.f
  repeat' first
      | (with_reducible exact ih0 _ _ _ _)
      | (with_reducible exact pq_zzIndex.mono _ _ _)
      | (with_reducible exact LeO.refl _)
      | (with_reducible exact LeO.none _)
      | (with_reducible refine LeO.ite ?_ ?_)
      | (with_reducible refine LeO.bind ?_ (fun _ => ?_))
      | exact ih0 _ _ _ _
      | exact pq_zzIndex.mono _ _ _
      | exact LeO.none _
      | refine LeO.ite ?_ ?_
      | refine LeO.bind ?_ (fun _ => ?_)
set_option maxHeartbeats 8000000 in
set_option maxRecDepth 100000 in
theorem pq_zzReplace.calls (k : Nat) (a0 : ByteArray) (a1 : ByteArray) (a2 : ByteArray) (r : ByteArray) (w : World) (h : pq_zzReplace.f k a0 a1 a2 = some r) :
    Calls Try.prog 14 #[.string a0, .string a1, .string a2] w fun e w' => e = .returned (.string r) ∧ Drawn0 w w' := by
  have H : (pq_zzReplace.l0 k a0 a1 a2 (⟨#[]⟩ : ByteArray)) = some r := h
  clear h
  have H' := Aside0.mk H
  clear H
  go_enter Try.func14, Try.ntmps14
  go_wp2
  go_loopg [0, 7] k (fun kq v0 v7 w' => ∃ (x0_1 : ByteArray) (x7_1 : ByteArray), v0 = .string x0_1 ∧ v7 = .string x7_1 ∧ Aside0 (pq_zzReplace.l0 kq x0_1 a1 a2 x7_1 = some r) ∧ Aside0 (kq ≤ k) ∧ Drawn0 w w')
  case atStart => exact ⟨(a0), ((⟨#[]⟩ : ByteArray)), (by first | rfl | (simp; done) | (simp [*]; done)), (by first | rfl | (simp; done) | (simp [*]; done)), H', ⟨Nat.le_refl _⟩, by repeat (first | exact Drawn0.refl _ | apply Drawn0.step)⟩
  case round =>
    clear H'
    try clear c1
    try clear p2
    obtain ⟨x0_1, x7_1, rfl, rfl, HA, HK1, ⟨m1, rfl⟩⟩ := hrel
    cases gk with
    | zero => exact absurd HA.out (by simp [pq_zzReplace.l0])
    | succ k1 =>
      have H := HA.out
      clear HA
      simp only [pq_zzReplace.l0] at H
      replace H := Option.bind_eq_some_iff.mp H
      obtain ⟨t101, A40, H⟩ := H
      replace H : (if t101 < 0 then (if x7_1.size + x0_1.size ≤ 9223372036854775807 then (some (x7_1 ++ x0_1)) else (none)) else (if 0 ≤ t101 then (if t101 ≤ (x0_1.size : Int) then (if (x0_1.extract 0 (t101 : Int).toNat).size + a2.size ≤ 9223372036854775807 then (if x7_1.size + ((x0_1.extract 0 (t101 : Int).toNat) ++ a2).size ≤ 9223372036854775807 then (if 0 ≤ (wrap64 (t101 + (a1.size : Int))) then (if (wrap64 (t101 + (a1.size : Int))) ≤ (x0_1.size : Int) then (pq_zzReplace.l0 k1 (x0_1.extract ((wrap64 (t101 + (a1.size : Int))) : Int).toNat x0_1.size) a1 a2 (x7_1 ++ ((x0_1.extract 0 (t101 : Int).toNat) ++ a2))) else (none)) else (none)) else (none)) else (none)) else (none)) else (none))) = some r := H
      have A4 := Aside0.mk A40
      clear A40
      by_cases c5 : t101 < 0
      · rw [if_pos c5] at H
        have c5b0 : decide (t101 < 0) = true := decide_eq_true c5
        clear c5
        by_cases c6 : x7_1.size + x0_1.size ≤ 9223372036854775807
        · rw [if_pos c6] at H
          have c6b0 := eq_true c6
          have c6b1 : decide (x7_1.size + x0_1.size ≤ 9223372036854775807) = true := decide_eq_true c6
          try have c6b2 : (9223372036854775807 < x7_1.size + x0_1.size) = False := eq_false (Nat.not_lt.2 c6)
          obtain rfl := Option.some.inj H
          go_wp2_with (first | ((with_reducible refine gate_callee (f := 16) rfl ?_); refine goesL_ (some 11) rfl rfl Try.func16 (by kernel_rfl) rfl #[.string x0_1, .string a1] rfl (by (try simp only [List.map_toArray, List.map_cons, List.map_nil]); first | done | rfl | (simp only [List.length_drop, List.length_take]; rfl)) ?_; (with_reducible refine (pq_zzIndex.calls k1 x0_1 a1 t101 _ A4.out).mono ?_); rintro e w' ⟨rfl, ⟨nd, rfl⟩⟩; refine ⟨_, rfl, ?_⟩))
          go_ret
          exact ⟨by first | rfl | (simp; done) | (simp [*]; done), by repeat (first | exact Drawn0.refl _ | apply Drawn0.step)⟩
        · rw [if_neg c6] at H
          exact absurd H (by simp)
      · rw [if_neg c5] at H
        have c5b0 : decide (t101 < 0) = false := decide_eq_false c5
        clear c5
        by_cases c7 : 0 ≤ t101
        · rw [if_pos c7] at H
          have c7b0 := eq_true c7
          have c7b1 : decide (0 ≤ t101) = true := decide_eq_true c7
          clear c7
          by_cases c8 : t101 ≤ (x0_1.size : Int)
          · rw [if_pos c8] at H
            have c8b0 := eq_true c8
            have c8b1 : decide (t101 ≤ (x0_1.size : Int)) = true := decide_eq_true c8
            clear c8
            by_cases c9 : (x0_1.extract 0 (t101 : Int).toNat).size + a2.size ≤ 9223372036854775807
            · rw [if_pos c9] at H
              have c9b0 := eq_true c9
              have c9b1 : decide ((x0_1.extract 0 (t101 : Int).toNat).size + a2.size ≤ 9223372036854775807) = true := decide_eq_true c9
              try have c9b2 : (9223372036854775807 < (x0_1.extract 0 (t101 : Int).toNat).size + a2.size) = False := eq_false (Nat.not_lt.2 c9)
              by_cases c10 : x7_1.size + ((x0_1.extract 0 (t101 : Int).toNat) ++ a2).size ≤ 9223372036854775807
              · rw [if_pos c10] at H
                have c10b0 := eq_true c10
                have c10b1 : decide (x7_1.size + ((x0_1.extract 0 (t101 : Int).toNat) ++ a2).size ≤ 9223372036854775807) = true := decide_eq_true c10
                try have c10b2 : (9223372036854775807 < x7_1.size + ((x0_1.extract 0 (t101 : Int).toNat) ++ a2).size) = False := eq_false (Nat.not_lt.2 c10)
                try have c10b3 : (9223372036854775807 < x7_1.size + ((x0_1.extract 0 (t101 : Int).toNat).size + a2.size)) = False := eq_false (by have h_ := c10; simp only [ByteArray.size_append] at h_; omega)
                obtain ⟨ji11, hji11⟩ : ∃ j_ : Int, (wrap64 (t101 + (a1.size : Int))) = j_ := ⟨_, rfl⟩
                replace H : (if 0 ≤ (ji11) then (if (ji11) ≤ (x0_1.size : Int) then (pq_zzReplace.l0 k1 (x0_1.extract ((ji11) : Int).toNat x0_1.size) a1 a2 (x7_1 ++ ((x0_1.extract 0 (t101 : Int).toNat) ++ a2))) else (none)) else (none)) = some r := by first | (rw [hji11] at H; exact H) | (simp only [hji11] at H ⊢; exact H)
                (try rw [hji11] at A4)
                have hji11w : (IntKind.i64.wrap (t101 + (a1.size : Int))) = ji11 := (i64_w _).trans hji11
                by_cases c12 : 0 ≤ (ji11)
                · rw [if_pos c12] at H
                  have c12b0 := eq_true c12
                  have c12b1 : decide (0 ≤ (ji11)) = true := decide_eq_true c12
                  clear c12
                  by_cases c13 : (ji11) ≤ (x0_1.size : Int)
                  · rw [if_pos c13] at H
                    have c13b0 := eq_true c13
                    have c13b1 : decide ((ji11) ≤ (x0_1.size : Int)) = true := decide_eq_true c13
                    clear c13
                    have H' := Aside0.mk H
                    clear H
                    go_wp2_with (first | ((with_reducible refine gate_callee (f := 16) rfl ?_); refine goesL_ (some 11) rfl rfl Try.func16 (by kernel_rfl) rfl #[.string x0_1, .string a1] rfl (by (try simp only [List.map_toArray, List.map_cons, List.map_nil]); first | done | rfl | (simp only [List.length_drop, List.length_take]; rfl)) ?_; (with_reducible refine (pq_zzIndex.calls k1 x0_1 a1 t101 _ A4.out).mono ?_); rintro e w' ⟨rfl, ⟨nd, rfl⟩⟩; refine ⟨_, rfl, ?_⟩))
                    go_roundg k1
                    case measure => have := HK1.out; omega
                    case rel => exact ⟨(x0_1.extract ((ji11) : Int).toNat x0_1.size), (x7_1 ++ ((x0_1.extract 0 (t101 : Int).toNat) ++ a2)), (by first | rfl | (simp; done) | (simp only [← hji11] <;> (first | rfl | simp)) | (simp [*]; done)), (by first | rfl | (simp; done) | (simp [*]; done)), H', ⟨by have := HK1.out; omega⟩, by repeat (first | exact Drawn0.refl _ | apply Drawn0.step)⟩
                  · rw [if_neg c13] at H
                    exact absurd H (by simp)
                · rw [if_neg c12] at H
                  exact absurd H (by simp)
              · rw [if_neg c10] at H
                exact absurd H (by simp)
            · rw [if_neg c9] at H
              exact absurd H (by simp)
          · rw [if_neg c8] at H
            exact absurd H (by simp)
        · rw [if_neg c7] at H
          exact absurd H (by simp)

/-! ### pq_zzContains: function 15 -/
def pq_zzContains.f (k : Nat) (a0 : ByteArray) (a1 : ByteArray) : Option (Bool) := (pq_zzIndex.f k a0 a1).bind fun t102 => (some (decide (t102 ≥ 0)))
theorem pq_zzContains.mono : ∀ a0 a1 k, LeO (pq_zzContains.f k a0 a1) (pq_zzContains.f (k + 1) a0 a1) := by
  intro a0 a1 k
  unfold pq_zzContains.f
  repeat' first
      | (with_reducible exact pq_zzIndex.mono _ _ _)
      | (with_reducible exact LeO.refl _)
      | (with_reducible exact LeO.none _)
      | (with_reducible refine LeO.ite ?_ ?_)
      | (with_reducible refine LeO.bind ?_ (fun _ => ?_))
      | exact pq_zzIndex.mono _ _ _
      | exact LeO.none _
      | refine LeO.ite ?_ ?_
      | refine LeO.bind ?_ (fun _ => ?_)
set_option maxHeartbeats 8000000 in
set_option maxRecDepth 100000 in
theorem pq_zzContains.calls (k : Nat) (a0 : ByteArray) (a1 : ByteArray) (r : Bool) (w : World) (h : pq_zzContains.f k a0 a1 = some r) :
    Calls Try.prog 15 #[.string a0, .string a1] w fun e w' => e = .returned (.bool r) ∧ Drawn0 w w' := by
  have H : ((pq_zzIndex.f k a0 a1).bind fun t102 => (some (decide (t102 ≥ 0)))) = some r := h
  clear h
  replace H := Option.bind_eq_some_iff.mp H
  obtain ⟨t102, A30, H⟩ := H
  replace H : (some (decide (t102 ≥ 0))) = some r := H
  have A3 := Aside0.mk A30
  clear A30
  obtain rfl := Option.some.inj H
  go_enter Try.func15, Try.ntmps15
  go_wp2_with (first | ((with_reducible refine gate_callee (f := 16) rfl ?_); refine goesL_ (some 7) rfl rfl Try.func16 (by kernel_rfl) rfl #[.string a0, .string a1] rfl (by (try simp only [List.map_toArray, List.map_cons, List.map_nil]); first | done | rfl | (simp only [List.length_drop, List.length_take]; rfl)) ?_; (with_reducible refine (pq_zzIndex.calls k a0 a1 t102 _ A3.out).mono ?_); rintro e w' ⟨rfl, ⟨nd, rfl⟩⟩; refine ⟨_, rfl, ?_⟩))
  go_ret
  exact ⟨by first | rfl | (simp; done) | (simp [*]; done), by repeat (first | exact Drawn0.refl _ | apply Drawn0.step)⟩

/-! ### pq_QuoteLiteral: function 11 -/
def pq_QuoteLiteral.f (k : Nat) (a0 : ByteArray) : Option (ByteArray) := (pq_zzReplace.f k a0 (⟨#[39]⟩ : ByteArray) (⟨#[39, 39]⟩ : ByteArray)).bind fun t103 => ((pq_zzContains.f k t103 (⟨#[92]⟩ : ByteArray)).bind fun t104 => (if t104 = true then ((pq_zzReplace.f k t103 (⟨#[92]⟩ : ByteArray) (⟨#[92, 92]⟩ : ByteArray)).bind fun t105 => (if 3 + t105.size ≤ 9223372036854775807 then (if ((⟨#[32, 69, 39]⟩ : ByteArray) ++ t105).size + 1 ≤ 9223372036854775807 then (some (((⟨#[32, 69, 39]⟩ : ByteArray) ++ t105) ++ (⟨#[39]⟩ : ByteArray))) else (none)) else (none))) else (if 1 + t103.size ≤ 9223372036854775807 then (if ((⟨#[39]⟩ : ByteArray) ++ t103).size + 1 ≤ 9223372036854775807 then (some (((⟨#[39]⟩ : ByteArray) ++ t103) ++ (⟨#[39]⟩ : ByteArray))) else (none)) else (none))))
theorem pq_QuoteLiteral.mono : ∀ a0 k, LeO (pq_QuoteLiteral.f k a0) (pq_QuoteLiteral.f (k + 1) a0) := by
  intro a0 k
  unfold pq_QuoteLiteral.f
  repeat' first
      | (with_reducible exact pq_zzContains.mono _ _ _)
      | (with_reducible exact pq_zzReplace.mono _ _ _ _)
      | (with_reducible exact LeO.refl _)
      | (with_reducible exact LeO.none _)
      | (with_reducible refine LeO.ite ?_ ?_)
      | (with_reducible refine LeO.bind ?_ (fun _ => ?_))
      | exact pq_zzContains.mono _ _ _
      | exact pq_zzReplace.mono _ _ _ _
      | exact LeO.none _
      | refine LeO.ite ?_ ?_
      | refine LeO.bind ?_ (fun _ => ?_)
set_option maxHeartbeats 8000000 in
set_option maxRecDepth 100000 in
theorem pq_QuoteLiteral.calls (k : Nat) (a0 : ByteArray) (r : ByteArray) (w : World) (h : pq_QuoteLiteral.f k a0 = some r) :
    Calls Try.prog 11 #[.string a0] w fun e w' => e = .returned (.string r) ∧ Drawn0 w w' := by
  have H : ((pq_zzReplace.f k a0 (⟨#[39]⟩ : ByteArray) (⟨#[39, 39]⟩ : ByteArray)).bind fun t103 => ((pq_zzContains.f k t103 (⟨#[92]⟩ : ByteArray)).bind fun t104 => (if t104 = true then ((pq_zzReplace.f k t103 (⟨#[92]⟩ : ByteArray) (⟨#[92, 92]⟩ : ByteArray)).bind fun t105 => (if 3 + t105.size ≤ 9223372036854775807 then (if ((⟨#[32, 69, 39]⟩ : ByteArray) ++ t105).size + 1 ≤ 9223372036854775807 then (some (((⟨#[32, 69, 39]⟩ : ByteArray) ++ t105) ++ (⟨#[39]⟩ : ByteArray))) else (none)) else (none))) else (if 1 + t103.size ≤ 9223372036854775807 then (if ((⟨#[39]⟩ : ByteArray) ++ t103).size + 1 ≤ 9223372036854775807 then (some (((⟨#[39]⟩ : ByteArray) ++ t103) ++ (⟨#[39]⟩ : ByteArray))) else (none)) else (none))))) = some r := h
  clear h
  replace H := Option.bind_eq_some_iff.mp H
  obtain ⟨t103, A20, H⟩ := H
  replace H : ((pq_zzContains.f k t103 (⟨#[92]⟩ : ByteArray)).bind fun t104 => (if t104 = true then ((pq_zzReplace.f k t103 (⟨#[92]⟩ : ByteArray) (⟨#[92, 92]⟩ : ByteArray)).bind fun t105 => (if 3 + t105.size ≤ 9223372036854775807 then (if ((⟨#[32, 69, 39]⟩ : ByteArray) ++ t105).size + 1 ≤ 9223372036854775807 then (some (((⟨#[32, 69, 39]⟩ : ByteArray) ++ t105) ++ (⟨#[39]⟩ : ByteArray))) else (none)) else (none))) else (if 1 + t103.size ≤ 9223372036854775807 then (if ((⟨#[39]⟩ : ByteArray) ++ t103).size + 1 ≤ 9223372036854775807 then (some (((⟨#[39]⟩ : ByteArray) ++ t103) ++ (⟨#[39]⟩ : ByteArray))) else (none)) else (none)))) = some r := H
  have A2 := Aside0.mk A20
  clear A20
  replace H := Option.bind_eq_some_iff.mp H
  obtain ⟨t104, A30, H⟩ := H
  replace H : (if t104 = true then ((pq_zzReplace.f k t103 (⟨#[92]⟩ : ByteArray) (⟨#[92, 92]⟩ : ByteArray)).bind fun t105 => (if 3 + t105.size ≤ 9223372036854775807 then (if ((⟨#[32, 69, 39]⟩ : ByteArray) ++ t105).size + 1 ≤ 9223372036854775807 then (some (((⟨#[32, 69, 39]⟩ : ByteArray) ++ t105) ++ (⟨#[39]⟩ : ByteArray))) else (none)) else (none))) else (if 1 + t103.size ≤ 9223372036854775807 then (if ((⟨#[39]⟩ : ByteArray) ++ t103).size + 1 ≤ 9223372036854775807 then (some (((⟨#[39]⟩ : ByteArray) ++ t103) ++ (⟨#[39]⟩ : ByteArray))) else (none)) else (none))) = some r := H
  have A3 := Aside0.mk A30
  clear A30
  by_cases c4 : t104 = true
  · subst c4
    have H1 : ((pq_zzReplace.f k t103 (⟨#[92]⟩ : ByteArray) (⟨#[92, 92]⟩ : ByteArray)).bind fun t105 => (if 3 + t105.size ≤ 9223372036854775807 then (if ((⟨#[32, 69, 39]⟩ : ByteArray) ++ t105).size + 1 ≤ 9223372036854775807 then (some (((⟨#[32, 69, 39]⟩ : ByteArray) ++ t105) ++ (⟨#[39]⟩ : ByteArray))) else (none)) else (none))) = some r := by rw [if_pos rfl] at H; exact H
    clear H
    have H := H1
    clear H1
    replace H := Option.bind_eq_some_iff.mp H
    obtain ⟨t105, A50, H⟩ := H
    replace H : (if 3 + t105.size ≤ 9223372036854775807 then (if ((⟨#[32, 69, 39]⟩ : ByteArray) ++ t105).size + 1 ≤ 9223372036854775807 then (some (((⟨#[32, 69, 39]⟩ : ByteArray) ++ t105) ++ (⟨#[39]⟩ : ByteArray))) else (none)) else (none)) = some r := H
    have A5 := Aside0.mk A50
    clear A50
    by_cases c6 : 3 + t105.size ≤ 9223372036854775807
    · rw [if_pos c6] at H
      have c6b0 := eq_true c6
      have c6b1 : decide (3 + t105.size ≤ 9223372036854775807) = true := decide_eq_true c6
      try have c6b2 : (9223372036854775807 < 3 + t105.size) = False := eq_false (Nat.not_lt.2 c6)
      by_cases c7 : ((⟨#[32, 69, 39]⟩ : ByteArray) ++ t105).size + 1 ≤ 9223372036854775807
      · rw [if_pos c7] at H
        have c7b0 := eq_true c7
        have c7b1 : decide (((⟨#[32, 69, 39]⟩ : ByteArray) ++ t105).size + 1 ≤ 9223372036854775807) = true := decide_eq_true c7
        try have c7b2 : (9223372036854775807 < ((⟨#[32, 69, 39]⟩ : ByteArray) ++ t105).size + 1) = False := eq_false (Nat.not_lt.2 c7)
        try have c7b3 : (9223372036854775807 < 3 + t105.size + 1) = False := eq_false (by have h_ := c7; simp only [ByteArray.size_append, show (⟨#[32, 69, 39]⟩ : ByteArray).size = 3 from rfl] at h_; omega)
        obtain rfl := Option.some.inj H
        go_enter Try.func11, Try.ntmps11
        go_wp2_with (first | ((with_reducible refine gate_callee (f := 14) rfl ?_); refine goesL_ (some 4) rfl rfl Try.func14 (by kernel_rfl) rfl #[.string a0, .string (⟨#[39]⟩ : ByteArray), .string (⟨#[39, 39]⟩ : ByteArray)] rfl (by (try simp only [List.map_toArray, List.map_cons, List.map_nil]); first | done | rfl | (simp only [List.length_drop, List.length_take]; rfl)) ?_; (with_reducible refine (pq_zzReplace.calls k a0 (⟨#[39]⟩ : ByteArray) (⟨#[39, 39]⟩ : ByteArray) t103 _ A2.out).mono ?_); rintro e w' ⟨rfl, ⟨nd, rfl⟩⟩; refine ⟨_, rfl, ?_⟩) | ((with_reducible refine gate_callee (f := 15) rfl ?_); refine goesL_ (some 6) rfl rfl Try.func15 (by kernel_rfl) rfl #[.string t103, .string (⟨#[92]⟩ : ByteArray)] rfl (by (try simp only [List.map_toArray, List.map_cons, List.map_nil]); first | done | rfl | (simp only [List.length_drop, List.length_take]; rfl)) ?_; (with_reducible refine (pq_zzContains.calls k t103 (⟨#[92]⟩ : ByteArray) true _ A3.out).mono ?_); rintro e w' ⟨rfl, ⟨nd, rfl⟩⟩; refine ⟨_, rfl, ?_⟩) | ((with_reducible refine gate_callee (f := 14) rfl ?_); refine goesL_ (some 8) rfl rfl Try.func14 (by kernel_rfl) rfl #[.string t103, .string (⟨#[92]⟩ : ByteArray), .string (⟨#[92, 92]⟩ : ByteArray)] rfl (by (try simp only [List.map_toArray, List.map_cons, List.map_nil]); first | done | rfl | (simp only [List.length_drop, List.length_take]; rfl)) ?_; (with_reducible refine (pq_zzReplace.calls k t103 (⟨#[92]⟩ : ByteArray) (⟨#[92, 92]⟩ : ByteArray) t105 _ A5.out).mono ?_); rintro e w' ⟨rfl, ⟨nd, rfl⟩⟩; refine ⟨_, rfl, ?_⟩))
        go_ret
        exact ⟨by first | rfl | (simp; done) | (simp [*]; done), by repeat (first | exact Drawn0.refl _ | apply Drawn0.step)⟩
      · rw [if_neg c7] at H
        exact absurd H (by simp)
    · rw [if_neg c6] at H
      exact absurd H (by simp)
  · replace c4 := Bool.eq_false_iff.mpr c4
    subst c4
    have H1 : (if 1 + t103.size ≤ 9223372036854775807 then (if ((⟨#[39]⟩ : ByteArray) ++ t103).size + 1 ≤ 9223372036854775807 then (some (((⟨#[39]⟩ : ByteArray) ++ t103) ++ (⟨#[39]⟩ : ByteArray))) else (none)) else (none)) = some r := by rw [if_neg (show ¬ (false = true) by decide)] at H; exact H
    clear H
    have H := H1
    clear H1
    by_cases c8 : 1 + t103.size ≤ 9223372036854775807
    · rw [if_pos c8] at H
      have c8b0 := eq_true c8
      have c8b1 : decide (1 + t103.size ≤ 9223372036854775807) = true := decide_eq_true c8
      try have c8b2 : (9223372036854775807 < 1 + t103.size) = False := eq_false (Nat.not_lt.2 c8)
      by_cases c9 : ((⟨#[39]⟩ : ByteArray) ++ t103).size + 1 ≤ 9223372036854775807
      · rw [if_pos c9] at H
        have c9b0 := eq_true c9
        have c9b1 : decide (((⟨#[39]⟩ : ByteArray) ++ t103).size + 1 ≤ 9223372036854775807) = true := decide_eq_true c9
        try have c9b2 : (9223372036854775807 < ((⟨#[39]⟩ : ByteArray) ++ t103).size + 1) = False := eq_false (Nat.not_lt.2 c9)
        try have c9b3 : (9223372036854775807 < 1 + t103.size + 1) = False := eq_false (by have h_ := c9; simp only [ByteArray.size_append, show (⟨#[39]⟩ : ByteArray).size = 1 from rfl] at h_; omega)
        obtain rfl := Option.some.inj H
        go_enter Try.func11, Try.ntmps11
        go_wp2_with (first | ((with_reducible refine gate_callee (f := 14) rfl ?_); refine goesL_ (some 4) rfl rfl Try.func14 (by kernel_rfl) rfl #[.string a0, .string (⟨#[39]⟩ : ByteArray), .string (⟨#[39, 39]⟩ : ByteArray)] rfl (by (try simp only [List.map_toArray, List.map_cons, List.map_nil]); first | done | rfl | (simp only [List.length_drop, List.length_take]; rfl)) ?_; (with_reducible refine (pq_zzReplace.calls k a0 (⟨#[39]⟩ : ByteArray) (⟨#[39, 39]⟩ : ByteArray) t103 _ A2.out).mono ?_); rintro e w' ⟨rfl, ⟨nd, rfl⟩⟩; refine ⟨_, rfl, ?_⟩) | ((with_reducible refine gate_callee (f := 15) rfl ?_); refine goesL_ (some 6) rfl rfl Try.func15 (by kernel_rfl) rfl #[.string t103, .string (⟨#[92]⟩ : ByteArray)] rfl (by (try simp only [List.map_toArray, List.map_cons, List.map_nil]); first | done | rfl | (simp only [List.length_drop, List.length_take]; rfl)) ?_; (with_reducible refine (pq_zzContains.calls k t103 (⟨#[92]⟩ : ByteArray) false _ A3.out).mono ?_); rintro e w' ⟨rfl, ⟨nd, rfl⟩⟩; refine ⟨_, rfl, ?_⟩))
        go_ret
        exact ⟨by first | rfl | (simp; done) | (simp [*]; done), by repeat (first | exact Drawn0.refl _ | apply Drawn0.step)⟩
      · rw [if_neg c9] at H
        exact absurd H (by simp)
    · rw [if_neg c8] at H
      exact absurd H (by simp)

/-! ### impl_Literal: function 7 -/
def impl_Literal.f (k : Nat) (a0 : ByteArray) : Option (ByteArray) := (pq_QuoteLiteral.f k a0).bind fun t106 => (some t106)
theorem impl_Literal.mono : ∀ a0 k, LeO (impl_Literal.f k a0) (impl_Literal.f (k + 1) a0) := by
  intro a0 k
  unfold impl_Literal.f
  repeat' first
      | (with_reducible exact pq_QuoteLiteral.mono _ _)
      | (with_reducible exact LeO.refl _)
      | (with_reducible exact LeO.none _)
      | (with_reducible refine LeO.ite ?_ ?_)
      | (with_reducible refine LeO.bind ?_ (fun _ => ?_))
      | exact pq_QuoteLiteral.mono _ _
      | exact LeO.none _
      | refine LeO.ite ?_ ?_
      | refine LeO.bind ?_ (fun _ => ?_)
set_option maxHeartbeats 8000000 in
set_option maxRecDepth 100000 in
theorem impl_Literal.calls (k : Nat) (a0 : ByteArray) (r : ByteArray) (w : World) (h : impl_Literal.f k a0 = some r) :
    Calls Try.prog 7 #[.string a0] w fun e w' => e = .returned (.string r) ∧ Drawn0 w w' := by
  have H : ((pq_QuoteLiteral.f k a0).bind fun t106 => (some t106)) = some r := h
  clear h
  replace H := Option.bind_eq_some_iff.mp H
  obtain ⟨t106, A20, H⟩ := H
  replace H : (some t106) = some r := H
  have A2 := Aside0.mk A20
  clear A20
  obtain rfl := Option.some.inj H
  go_enter Try.func7, Try.ntmps7
  go_wp2_with (first | ((with_reducible refine gate_callee (f := 11) rfl ?_); refine goesL_ (some 4) rfl rfl Try.func11 (by kernel_rfl) rfl #[.string a0] rfl (by (try simp only [List.map_toArray, List.map_cons, List.map_nil]); first | done | rfl | (simp only [List.length_drop, List.length_take]; rfl)) ?_; (with_reducible refine (pq_QuoteLiteral.calls k a0 t106 _ A2.out).mono ?_); rintro e w' ⟨rfl, ⟨nd, rfl⟩⟩; refine ⟨_, rfl, ?_⟩))
  go_ret
  exact ⟨by first | rfl | (simp; done) | (simp [*]; done), by repeat (first | exact Drawn0.refl _ | apply Drawn0.step)⟩

/-! ### spec_HasByte: function 10 -/
def spec_HasByte.l0 : Nat → ByteArray → Int → Int → Option (Bool)
  | 0, _, _, _ => none
  | k + 1, x0, x1, x5 => if x5 < (x0.size : Int) then (if 0 ≤ x5 then (if (bt x0 x5) = x1 then (some true) else (spec_HasByte.l0 k x0 x1 (wrap64 (x5 + 1)))) else (none)) else (some false)
def spec_HasByte.f (k : Nat) (a0 : ByteArray) (a1 : Int) : Option (Bool) := spec_HasByte.l0 k a0 a1 0
theorem spec_HasByte.mono_l : ∀ k, (∀ y0 y1 y2, LeO (spec_HasByte.l0 k y0 y1 y2) (spec_HasByte.l0 (k + 1) y0 y1 y2))
  | 0 => fun _ _ _ r h => by simp [spec_HasByte.l0] at h
  | k + 1 => by
    have ih0 := spec_HasByte.mono_l k
    · intro y0 y1 y2
      unfold spec_HasByte.l0
      repeat' first
      | (with_reducible exact ih0 _ _ _)
      | (with_reducible exact LeO.refl _)
      | (with_reducible exact LeO.none _)
      | (with_reducible refine LeO.ite ?_ ?_)
      | (with_reducible refine LeO.bind ?_ (fun _ => ?_))
      | exact ih0 _ _ _
      | exact LeO.none _
      | refine LeO.ite ?_ ?_
      | refine LeO.bind ?_ (fun _ => ?_)
theorem spec_HasByte.mono : ∀ a0 a1 k, LeO (spec_HasByte.f k a0 a1) (spec_HasByte.f (k + 1) a0 a1) := by
  intro a0 a1 k
  have ih0 := spec_HasByte.mono_l k
  unfold spec_HasByte.f
  repeat' first
      | (with_reducible exact ih0 _ _ _)
      | (with_reducible exact LeO.refl _)
      | (with_reducible exact LeO.none _)
      | (with_reducible refine LeO.ite ?_ ?_)
      | (with_reducible refine LeO.bind ?_ (fun _ => ?_))
      | exact ih0 _ _ _
      | exact LeO.none _
      | refine LeO.ite ?_ ?_
      | refine LeO.bind ?_ (fun _ => ?_)
set_option maxHeartbeats 8000000 in
set_option maxRecDepth 100000 in
theorem spec_HasByte.calls (k : Nat) (a0 : ByteArray) (a1 : Int) (r : Bool) (w : World) (h : spec_HasByte.f k a0 a1 = some r) :
    Calls Try.prog 10 #[.string a0, .int .u8 a1] w fun e w' => e = .returned (.bool r) ∧ Drawn0 w w' := by
  have H : (spec_HasByte.l0 k a0 a1 0) = some r := h
  clear h
  have H' := Aside0.mk H
  clear H
  go_enter Try.func10, Try.ntmps10
  go_wp2
  go_loopg [5] k (fun kq v5 w' => ∃ (x5_1 : Int), v5 = .int .i64 x5_1 ∧ Aside0 (spec_HasByte.l0 kq a0 a1 x5_1 = some r) ∧ Aside0 (kq ≤ k) ∧ Drawn0 w w')
  case atStart => exact ⟨(0), (by first | rfl | (simp; done) | (simp [*]; done)), H', ⟨Nat.le_refl _⟩, by repeat (first | exact Drawn0.refl _ | apply Drawn0.step)⟩
  case round =>
    clear H'
    try clear c1
    try clear p2
    obtain ⟨x5_1, rfl, HA, HK1, ⟨m1, rfl⟩⟩ := hrel
    cases gk with
    | zero => exact absurd HA.out (by simp [spec_HasByte.l0])
    | succ k1 =>
      have H := HA.out
      clear HA
      simp only [spec_HasByte.l0] at H
      by_cases c3 : x5_1 < (a0.size : Int)
      · rw [if_pos c3] at H
        have c3b0 : decide (x5_1 < (a0.size : Int)) = true := decide_eq_true c3
        clear c3
        by_cases c4 : 0 ≤ x5_1
        · rw [if_pos c4] at H
          have c4b0 : decide (0 ≤ x5_1) = true := decide_eq_true c4
          clear c4
          by_cases c6 : (bt a0 x5_1) = a1
          · rw [if_pos c6] at H
            have c6b0 : ((bt a0 x5_1) == a1) = true := beq_iff_eq.mpr c6
            have c6b1 : ((bt a0 x5_1) != a1) = false := bne_eq_false_iff_eq.mpr c6
            clear c6
            obtain rfl := Option.some.inj H
            have p5 : 0 ≤ (x5_1 : Int) := of_decide_eq_true (by first | (with_reducible assumption) | assumption)
            have q5 : x5_1 < (a0.size : Int) := of_decide_eq_true (by first | (with_reducible assumption) | assumption)
            have hx5 := bt_at a0 x5_1
            replace p5 := eq_true p5
            replace q5 := eq_true q5
            go_wp2
            go_ret
            exact ⟨by first | rfl | (simp; done) | (simp [*]; done), by repeat (first | exact Drawn0.refl _ | apply Drawn0.step)⟩
          · rw [if_neg c6] at H
            have c6b0 : ((bt a0 x5_1) == a1) = false := beq_eq_false_iff_ne.mpr c6
            have c6b1 : ((bt a0 x5_1) != a1) = true := bne_iff_ne.mpr c6
            have H' := Aside0.mk H
            clear H
            have p5 : 0 ≤ (x5_1 : Int) := of_decide_eq_true (by first | (with_reducible assumption) | assumption)
            have q5 : x5_1 < (a0.size : Int) := of_decide_eq_true (by first | (with_reducible assumption) | assumption)
            have hx5 := bt_at a0 x5_1
            replace p5 := eq_true p5
            replace q5 := eq_true q5
            go_wp2
            go_roundg k1
            case measure => have := HK1.out; omega
            case rel => exact ⟨(wrap64 (x5_1 + 1)), (by first | rfl | (simp; done) | (simp [*]; done)), H', ⟨by have := HK1.out; omega⟩, by repeat (first | exact Drawn0.refl _ | apply Drawn0.step)⟩
        · rw [if_neg c4] at H
          exact absurd H (by simp)
      · rw [if_neg c3] at H
        have c3b0 : decide (x5_1 < (a0.size : Int)) = false := decide_eq_false c3
        clear c3
        obtain rfl := Option.some.inj H
        go_wp2
        go_ret
        exact ⟨by first | rfl | (simp; done) | (simp [*]; done), by repeat (first | exact Drawn0.refl _ | apply Drawn0.step)⟩

/-! ### spec_doubled: function 12 -/
def spec_doubled.l0 : Nat → ByteArray → Int → ByteArray → Int → Option (ByteArray)
  | 0, _, _, _, _ => none
  | k + 1, x0, x1, x5, x6 => if x6 < (x0.size : Int) then (if 0 ≤ x6 then (if x6 ≤ (wrap64 (x6 + 1)) then (if (wrap64 (x6 + 1)) ≤ (x0.size : Int) then (if x5.size + (x0.extract (x6 : Int).toNat ((wrap64 (x6 + 1)) : Int).toNat).size ≤ 9223372036854775807 then (if (bt x0 x6) = x1 then (if (x5 ++ (x0.extract (x6 : Int).toNat ((wrap64 (x6 + 1)) : Int).toNat)).size + (x0.extract (x6 : Int).toNat ((wrap64 (x6 + 1)) : Int).toNat).size ≤ 9223372036854775807 then (spec_doubled.l0 k x0 x1 ((x5 ++ (x0.extract (x6 : Int).toNat ((wrap64 (x6 + 1)) : Int).toNat)) ++ (x0.extract (x6 : Int).toNat ((wrap64 (x6 + 1)) : Int).toNat)) (wrap64 (x6 + 1))) else (none)) else (spec_doubled.l0 k x0 x1 (x5 ++ (x0.extract (x6 : Int).toNat ((wrap64 (x6 + 1)) : Int).toNat)) (wrap64 (x6 + 1)))) else (none)) else (none)) else (none)) else (none)) else (some x5)
def spec_doubled.f (k : Nat) (a0 : ByteArray) (a1 : Int) : Option (ByteArray) := spec_doubled.l0 k a0 a1 (⟨#[]⟩ : ByteArray) 0
theorem spec_doubled.mono_l : ∀ k, (∀ y0 y1 y2 y3, LeO (spec_doubled.l0 k y0 y1 y2 y3) (spec_doubled.l0 (k + 1) y0 y1 y2 y3))
  | 0 => fun _ _ _ _ r h => by simp [spec_doubled.l0] at h
  | k + 1 => by
    have ih0 := spec_doubled.mono_l k
    · intro y0 y1 y2 y3
      unfold spec_doubled.l0
      repeat' first
      | (with_reducible exact ih0 _ _ _ _)
      | (with_reducible exact LeO.refl _)
      | (with_reducible exact LeO.none _)
      | (with_reducible refine LeO.ite ?_ ?_)
      | (with_reducible refine LeO.bind ?_ (fun _ => ?_))
      | exact ih0 _ _ _ _
      | exact LeO.none _
      | refine LeO.ite ?_ ?_
      | refine LeO.bind ?_ (fun _ => ?_)
theorem spec_doubled.mono : ∀ a0 a1 k, LeO (spec_doubled.f k a0 a1) (spec_doubled.f (k + 1) a0 a1) := by
  intro a0 a1 k
  have ih0 := spec_doubled.mono_l k
  unfold spec_doubled.f
  repeat' first
      | (with_reducible exact ih0 _ _ _ _)
      | (with_reducible exact LeO.refl _)
      | (with_reducible exact LeO.none _)
      | (with_reducible refine LeO.ite ?_ ?_)
      | (with_reducible refine LeO.bind ?_ (fun _ => ?_))
      | exact ih0 _ _ _ _
      | exact LeO.none _
      | refine LeO.ite ?_ ?_
      | refine LeO.bind ?_ (fun _ => ?_)
set_option maxHeartbeats 8000000 in
set_option maxRecDepth 100000 in
theorem spec_doubled.calls (k : Nat) (a0 : ByteArray) (a1 : Int) (r : ByteArray) (w : World) (h : spec_doubled.f k a0 a1 = some r) :
    Calls Try.prog 12 #[.string a0, .int .u8 a1] w fun e w' => e = .returned (.string r) ∧ Drawn0 w w' := by
  have H : (spec_doubled.l0 k a0 a1 (⟨#[]⟩ : ByteArray) 0) = some r := h
  clear h
  have H' := Aside0.mk H
  clear H
  go_enter Try.func12, Try.ntmps12
  go_wp2
  go_loopg [5, 6] k (fun kq v5 v6 w' => ∃ (x5_1 : ByteArray) (x6_1 : Int), v5 = .string x5_1 ∧ v6 = .int .i64 x6_1 ∧ Aside0 (spec_doubled.l0 kq a0 a1 x5_1 x6_1 = some r) ∧ Aside0 (kq ≤ k) ∧ Drawn0 w w')
  case atStart => exact ⟨((⟨#[]⟩ : ByteArray)), (0), (by first | rfl | (simp; done) | (simp [*]; done)), (by first | rfl | (simp; done) | (simp [*]; done)), H', ⟨Nat.le_refl _⟩, by repeat (first | exact Drawn0.refl _ | apply Drawn0.step)⟩
  case round =>
    clear H'
    try clear c1
    try clear p2
    obtain ⟨x5_1, x6_1, rfl, rfl, HA, HK1, ⟨m1, rfl⟩⟩ := hrel
    cases gk with
    | zero => exact absurd HA.out (by simp [spec_doubled.l0])
    | succ k1 =>
      have H := HA.out
      clear HA
      simp only [spec_doubled.l0] at H
      by_cases c3 : x6_1 < (a0.size : Int)
      · rw [if_pos c3] at H
        have c3b0 : decide (x6_1 < (a0.size : Int)) = true := decide_eq_true c3
        clear c3
        by_cases c4 : 0 ≤ x6_1
        · rw [if_pos c4] at H
          have c4b0 := eq_true c4
          have c4b1 : decide (0 ≤ x6_1) = true := decide_eq_true c4
          clear c4
          by_cases c5 : x6_1 ≤ (wrap64 (x6_1 + 1))
          · rw [if_pos c5] at H
            have c5b0 := eq_true c5
            have c5b1 : decide (x6_1 ≤ (wrap64 (x6_1 + 1))) = true := decide_eq_true c5
            by_cases c6 : (wrap64 (x6_1 + 1)) ≤ (a0.size : Int)
            · rw [if_pos c6] at H
              have c6b0 := eq_true c6
              have c6b1 : decide ((wrap64 (x6_1 + 1)) ≤ (a0.size : Int)) = true := decide_eq_true c6
              by_cases c7 : x5_1.size + (a0.extract (x6_1 : Int).toNat ((wrap64 (x6_1 + 1)) : Int).toNat).size ≤ 9223372036854775807
              · rw [if_pos c7] at H
                have c7b0 := eq_true c7
                have c7b1 : decide (x5_1.size + (a0.extract (x6_1 : Int).toNat ((wrap64 (x6_1 + 1)) : Int).toNat).size ≤ 9223372036854775807) = true := decide_eq_true c7
                try have c7b2 : (9223372036854775807 < x5_1.size + (a0.extract (x6_1 : Int).toNat ((wrap64 (x6_1 + 1)) : Int).toNat).size) = False := eq_false (Nat.not_lt.2 c7)
                by_cases c9 : (bt a0 x6_1) = a1
                · rw [if_pos c9] at H
                  have c9b0 : ((bt a0 x6_1) == a1) = true := beq_iff_eq.mpr c9
                  have c9b1 : ((bt a0 x6_1) != a1) = false := bne_eq_false_iff_eq.mpr c9
                  clear c9
                  have c10b0 := eq_true (of_decide_eq_true (by first | (with_reducible assumption) | assumption) : 0 ≤ x6_1)
                  have c11b0 := eq_true (of_decide_eq_true (by first | (with_reducible assumption) | assumption) : x6_1 ≤ (wrap64 (x6_1 + 1)))
                  have c12b0 := eq_true (of_decide_eq_true (by first | (with_reducible assumption) | assumption) : (wrap64 (x6_1 + 1)) ≤ (a0.size : Int))
                  by_cases c13 : (x5_1 ++ (a0.extract (x6_1 : Int).toNat ((wrap64 (x6_1 + 1)) : Int).toNat)).size + (a0.extract (x6_1 : Int).toNat ((wrap64 (x6_1 + 1)) : Int).toNat).size ≤ 9223372036854775807
                  · rw [if_pos c13] at H
                    have c13b0 := eq_true c13
                    have c13b1 : decide ((x5_1 ++ (a0.extract (x6_1 : Int).toNat ((wrap64 (x6_1 + 1)) : Int).toNat)).size + (a0.extract (x6_1 : Int).toNat ((wrap64 (x6_1 + 1)) : Int).toNat).size ≤ 9223372036854775807) = true := decide_eq_true c13
                    try have c13b2 : (9223372036854775807 < (x5_1 ++ (a0.extract (x6_1 : Int).toNat ((wrap64 (x6_1 + 1)) : Int).toNat)).size + (a0.extract (x6_1 : Int).toNat ((wrap64 (x6_1 + 1)) : Int).toNat).size) = False := eq_false (Nat.not_lt.2 c13)
                    try have c13b3 : (9223372036854775807 < x5_1.size + (a0.extract (x6_1 : Int).toNat ((wrap64 (x6_1 + 1)) : Int).toNat).size + (a0.extract (x6_1 : Int).toNat ((wrap64 (x6_1 + 1)) : Int).toNat).size) = False := eq_false (by have h_ := c13; simp only [ByteArray.size_append] at h_; omega)
                    have H' := Aside0.mk H
                    clear H
                    have p8 : 0 ≤ (x6_1 : Int) := of_decide_eq_true (by first | (with_reducible assumption) | assumption)
                    have q8 : x6_1 < (a0.size : Int) := of_decide_eq_true (by first | (with_reducible assumption) | assumption)
                    have hx8 := bt_at a0 x6_1
                    replace p8 := eq_true p8
                    replace q8 := eq_true q8
                    go_wp2
                    go_roundg k1
                    case measure => have := HK1.out; omega
                    case rel => exact ⟨((x5_1 ++ (a0.extract (x6_1 : Int).toNat ((wrap64 (x6_1 + 1)) : Int).toNat)) ++ (a0.extract (x6_1 : Int).toNat ((wrap64 (x6_1 + 1)) : Int).toNat)), (wrap64 (x6_1 + 1)), (by first | rfl | (simp; done) | (simp [*]; done)), (by first | rfl | (simp; done) | (simp [*]; done)), H', ⟨by have := HK1.out; omega⟩, by repeat (first | exact Drawn0.refl _ | apply Drawn0.step)⟩
                  · rw [if_neg c13] at H
                    exact absurd H (by simp)
                · rw [if_neg c9] at H
                  have c9b0 : ((bt a0 x6_1) == a1) = false := beq_eq_false_iff_ne.mpr c9
                  have c9b1 : ((bt a0 x6_1) != a1) = true := bne_iff_ne.mpr c9
                  have H' := Aside0.mk H
                  clear H
                  have p8 : 0 ≤ (x6_1 : Int) := of_decide_eq_true (by first | (with_reducible assumption) | assumption)
                  have q8 : x6_1 < (a0.size : Int) := of_decide_eq_true (by first | (with_reducible assumption) | assumption)
                  have hx8 := bt_at a0 x6_1
                  replace p8 := eq_true p8
                  replace q8 := eq_true q8
                  go_wp2
                  go_roundg k1
                  case measure => have := HK1.out; omega
                  case rel => exact ⟨(x5_1 ++ (a0.extract (x6_1 : Int).toNat ((wrap64 (x6_1 + 1)) : Int).toNat)), (wrap64 (x6_1 + 1)), (by first | rfl | (simp; done) | (simp [*]; done)), (by first | rfl | (simp; done) | (simp [*]; done)), H', ⟨by have := HK1.out; omega⟩, by repeat (first | exact Drawn0.refl _ | apply Drawn0.step)⟩
              · rw [if_neg c7] at H
                exact absurd H (by simp)
            · rw [if_neg c6] at H
              exact absurd H (by simp)
          · rw [if_neg c5] at H
            exact absurd H (by simp)
        · rw [if_neg c4] at H
          exact absurd H (by simp)
      · rw [if_neg c3] at H
        have c3b0 : decide (x6_1 < (a0.size : Int)) = false := decide_eq_false c3
        clear c3
        obtain rfl := Option.some.inj H
        go_wp2
        go_ret
        exact ⟨by first | rfl | (simp; done) | (simp [*]; done), by repeat (first | exact Drawn0.refl _ | apply Drawn0.step)⟩

/-! ### spec_LiteralText: function 8 -/
def spec_LiteralText.f (k : Nat) (a0 : ByteArray) : Option (ByteArray) := (spec_doubled.f k a0 39).bind fun t107 => (if 1 + t107.size ≤ 9223372036854775807 then (if ((⟨#[39]⟩ : ByteArray) ++ t107).size + 1 ≤ 9223372036854775807 then ((spec_HasByte.f k a0 92).bind fun t108 => (if t108 = true then ((spec_doubled.f k (((⟨#[39]⟩ : ByteArray) ++ t107) ++ (⟨#[39]⟩ : ByteArray)) 92).bind fun t109 => (if 2 + t109.size ≤ 9223372036854775807 then (some ((⟨#[32, 69]⟩ : ByteArray) ++ t109)) else (none))) else (some (((⟨#[39]⟩ : ByteArray) ++ t107) ++ (⟨#[39]⟩ : ByteArray))))) else (none)) else (none))
theorem spec_LiteralText.mono : ∀ a0 k, LeO (spec_LiteralText.f k a0) (spec_LiteralText.f (k + 1) a0) := by
  intro a0 k
  unfold spec_LiteralText.f
  repeat' first
      | (with_reducible exact spec_HasByte.mono _ _ _)
      | (with_reducible exact spec_doubled.mono _ _ _)
      | (with_reducible exact LeO.refl _)
      | (with_reducible exact LeO.none _)
      | (with_reducible refine LeO.ite ?_ ?_)
      | (with_reducible refine LeO.bind ?_ (fun _ => ?_))
      | exact spec_HasByte.mono _ _ _
      | exact spec_doubled.mono _ _ _
      | exact LeO.none _
      | refine LeO.ite ?_ ?_
      | refine LeO.bind ?_ (fun _ => ?_)
set_option maxHeartbeats 8000000 in
set_option maxRecDepth 100000 in
theorem spec_LiteralText.calls (k : Nat) (a0 : ByteArray) (r : ByteArray) (w : World) (h : spec_LiteralText.f k a0 = some r) :
    Calls Try.prog 8 #[.string a0] w fun e w' => e = .returned (.string r) ∧ Drawn0 w w' := by
  have H : ((spec_doubled.f k a0 39).bind fun t107 => (if 1 + t107.size ≤ 9223372036854775807 then (if ((⟨#[39]⟩ : ByteArray) ++ t107).size + 1 ≤ 9223372036854775807 then ((spec_HasByte.f k a0 92).bind fun t108 => (if t108 = true then ((spec_doubled.f k (((⟨#[39]⟩ : ByteArray) ++ t107) ++ (⟨#[39]⟩ : ByteArray)) 92).bind fun t109 => (if 2 + t109.size ≤ 9223372036854775807 then (some ((⟨#[32, 69]⟩ : ByteArray) ++ t109)) else (none))) else (some (((⟨#[39]⟩ : ByteArray) ++ t107) ++ (⟨#[39]⟩ : ByteArray))))) else (none)) else (none))) = some r := h
  clear h
  replace H := Option.bind_eq_some_iff.mp H
  obtain ⟨t107, A20, H⟩ := H
  replace H : (if 1 + t107.size ≤ 9223372036854775807 then (if ((⟨#[39]⟩ : ByteArray) ++ t107).size + 1 ≤ 9223372036854775807 then ((spec_HasByte.f k a0 92).bind fun t108 => (if t108 = true then ((spec_doubled.f k (((⟨#[39]⟩ : ByteArray) ++ t107) ++ (⟨#[39]⟩ : ByteArray)) 92).bind fun t109 => (if 2 + t109.size ≤ 9223372036854775807 then (some ((⟨#[32, 69]⟩ : ByteArray) ++ t109)) else (none))) else (some (((⟨#[39]⟩ : ByteArray) ++ t107) ++ (⟨#[39]⟩ : ByteArray))))) else (none)) else (none)) = some r := H
  have A2 := Aside0.mk A20
  clear A20
  by_cases c3 : 1 + t107.size ≤ 9223372036854775807
  · rw [if_pos c3] at H
    have c3b0 := eq_true c3
    have c3b1 : decide (1 + t107.size ≤ 9223372036854775807) = true := decide_eq_true c3
    try have c3b2 : (9223372036854775807 < 1 + t107.size) = False := eq_false (Nat.not_lt.2 c3)
    by_cases c4 : ((⟨#[39]⟩ : ByteArray) ++ t107).size + 1 ≤ 9223372036854775807
    · rw [if_pos c4] at H
      have c4b0 := eq_true c4
      have c4b1 : decide (((⟨#[39]⟩ : ByteArray) ++ t107).size + 1 ≤ 9223372036854775807) = true := decide_eq_true c4
      try have c4b2 : (9223372036854775807 < ((⟨#[39]⟩ : ByteArray) ++ t107).size + 1) = False := eq_false (Nat.not_lt.2 c4)
      try have c4b3 : (9223372036854775807 < 1 + t107.size + 1) = False := eq_false (by have h_ := c4; simp only [ByteArray.size_append, show (⟨#[39]⟩ : ByteArray).size = 1 from rfl] at h_; omega)
      replace H := Option.bind_eq_some_iff.mp H
      obtain ⟨t108, A50, H⟩ := H
      replace H : (if t108 = true then ((spec_doubled.f k (((⟨#[39]⟩ : ByteArray) ++ t107) ++ (⟨#[39]⟩ : ByteArray)) 92).bind fun t109 => (if 2 + t109.size ≤ 9223372036854775807 then (some ((⟨#[32, 69]⟩ : ByteArray) ++ t109)) else (none))) else (some (((⟨#[39]⟩ : ByteArray) ++ t107) ++ (⟨#[39]⟩ : ByteArray)))) = some r := H
      have A5 := Aside0.mk A50
      clear A50
      by_cases c6 : t108 = true
      · subst c6
        have H1 : ((spec_doubled.f k (((⟨#[39]⟩ : ByteArray) ++ t107) ++ (⟨#[39]⟩ : ByteArray)) 92).bind fun t109 => (if 2 + t109.size ≤ 9223372036854775807 then (some ((⟨#[32, 69]⟩ : ByteArray) ++ t109)) else (none))) = some r := by rw [if_pos rfl] at H; exact H
        clear H
        have H := H1
        clear H1
        replace H := Option.bind_eq_some_iff.mp H
        obtain ⟨t109, A70, H⟩ := H
        replace H : (if 2 + t109.size ≤ 9223372036854775807 then (some ((⟨#[32, 69]⟩ : ByteArray) ++ t109)) else (none)) = some r := H
        have A7 := Aside0.mk A70
        clear A70
        by_cases c8 : 2 + t109.size ≤ 9223372036854775807
        · rw [if_pos c8] at H
          have c8b0 := eq_true c8
          have c8b1 : decide (2 + t109.size ≤ 9223372036854775807) = true := decide_eq_true c8
          try have c8b2 : (9223372036854775807 < 2 + t109.size) = False := eq_false (Nat.not_lt.2 c8)
          obtain rfl := Option.some.inj H
          go_enter Try.func8, Try.ntmps8
          go_wp2_with (first | ((with_reducible refine gate_callee (f := 12) rfl ?_); refine goesL_ (some 5) rfl rfl Try.func12 (by kernel_rfl) rfl #[.string a0, .int .u8 39] rfl (by (try simp only [List.map_toArray, List.map_cons, List.map_nil]); first | done | rfl | (simp only [List.length_drop, List.length_take]; rfl)) ?_; (with_reducible refine (spec_doubled.calls k a0 39 t107 _ A2.out).mono ?_); rintro e w' ⟨rfl, ⟨nd, rfl⟩⟩; refine ⟨_, rfl, ?_⟩) | ((with_reducible refine gate_callee (f := 10) rfl ?_); refine goesL_ (some 9) rfl rfl Try.func10 (by kernel_rfl) rfl #[.string a0, .int .u8 92] rfl (by (try simp only [List.map_toArray, List.map_cons, List.map_nil]); first | done | rfl | (simp only [List.length_drop, List.length_take]; rfl)) ?_; (with_reducible refine (spec_HasByte.calls k a0 92 true _ A5.out).mono ?_); rintro e w' ⟨rfl, ⟨nd, rfl⟩⟩; refine ⟨_, rfl, ?_⟩) | ((with_reducible refine gate_callee (f := 12) rfl ?_); refine goesL_ (some 11) rfl rfl Try.func12 (by kernel_rfl) rfl #[.string (((⟨#[39]⟩ : ByteArray) ++ t107) ++ (⟨#[39]⟩ : ByteArray)), .int .u8 92] rfl (by (try simp only [List.map_toArray, List.map_cons, List.map_nil]); first | done | rfl | (simp only [List.length_drop, List.length_take]; rfl)) ?_; (with_reducible refine (spec_doubled.calls k (((⟨#[39]⟩ : ByteArray) ++ t107) ++ (⟨#[39]⟩ : ByteArray)) 92 t109 _ A7.out).mono ?_); rintro e w' ⟨rfl, ⟨nd, rfl⟩⟩; refine ⟨_, rfl, ?_⟩))
          go_ret
          exact ⟨by first | rfl | (simp; done) | (simp [*]; done), by repeat (first | exact Drawn0.refl _ | apply Drawn0.step)⟩
        · rw [if_neg c8] at H
          exact absurd H (by simp)
      · replace c6 := Bool.eq_false_iff.mpr c6
        subst c6
        have H1 : (some (((⟨#[39]⟩ : ByteArray) ++ t107) ++ (⟨#[39]⟩ : ByteArray))) = some r := by rw [if_neg (show ¬ (false = true) by decide)] at H; exact H
        clear H
        have H := H1
        clear H1
        obtain rfl := Option.some.inj H
        go_enter Try.func8, Try.ntmps8
        go_wp2_with (first | ((with_reducible refine gate_callee (f := 12) rfl ?_); refine goesL_ (some 5) rfl rfl Try.func12 (by kernel_rfl) rfl #[.string a0, .int .u8 39] rfl (by (try simp only [List.map_toArray, List.map_cons, List.map_nil]); first | done | rfl | (simp only [List.length_drop, List.length_take]; rfl)) ?_; (with_reducible refine (spec_doubled.calls k a0 39 t107 _ A2.out).mono ?_); rintro e w' ⟨rfl, ⟨nd, rfl⟩⟩; refine ⟨_, rfl, ?_⟩) | ((with_reducible refine gate_callee (f := 10) rfl ?_); refine goesL_ (some 9) rfl rfl Try.func10 (by kernel_rfl) rfl #[.string a0, .int .u8 92] rfl (by (try simp only [List.map_toArray, List.map_cons, List.map_nil]); first | done | rfl | (simp only [List.length_drop, List.length_take]; rfl)) ?_; (with_reducible refine (spec_HasByte.calls k a0 92 false _ A5.out).mono ?_); rintro e w' ⟨rfl, ⟨nd, rfl⟩⟩; refine ⟨_, rfl, ?_⟩))
        go_ret
        exact ⟨by first | rfl | (simp; done) | (simp [*]; done), by repeat (first | exact Drawn0.refl _ | apply Drawn0.step)⟩
    · rw [if_neg c4] at H
      exact absurd H (by simp)
  · rw [if_neg c3] at H
    exact absurd H (by simp)

end Go.Proofs.Ytlfkejljbehcaab.P
