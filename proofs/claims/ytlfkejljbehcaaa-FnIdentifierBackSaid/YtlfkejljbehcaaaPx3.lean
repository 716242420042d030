-- Written by the program wip/myprint.py of this session, over the kit's print of the translation. Lean checks it.
import Derived.Test.YtlfkejljbehcaaaPx0
import Derived.Test.YtlfkejljbehcaaaPx2
namespace Go.Proofs.Ytlfkejljbehcaaa.P
open Go.RowKit Go.Proofs.YtlfkejljbehcaaaW.PrintWords Go.Proofs.YtlfkejljbehcaaaW.PrintLast Go.Proofs.YtlfkejljbehcaaaW.PrintMore
attribute [local go_sem] max2_int min2_int max_two min_two max_three min_three max_four min_four   -- for this text's walks alone
set_option linter.unusedVariables false
set_option linter.unusedSimpArgs false

/-! ### pq_zzIndexRune: function 34 -/
def pq_zzIndexRune.l0 : Nat → ByteArray → Int → Nat → Option (Int)
  | 0, _, _, _ => none
  | k + 1, s, r, pos => if pos < s.size then (if ((Utf8.decode s pos).1 : Int) = r then some (pos : Int) else pq_zzIndexRune.l0 k s r (pos + (Utf8.decode s pos).2)) else some (-1)
def pq_zzIndexRune.f (k : Nat) (a0 : ByteArray) (a1 : Int) : Option (Int) := if 0 ≤ a1 then (if a1 < 128 then (pq_zzIndexRune.l0 k a0 a1 0) else (none)) else (none)
theorem pq_zzIndexRune.mono_l : ∀ k, ∀ y0 y1 y2, LeO (pq_zzIndexRune.l0 k y0 y1 y2) (pq_zzIndexRune.l0 (k + 1) y0 y1 y2)
  | 0 => fun _ _ _ r h => by simp [pq_zzIndexRune.l0] at h
  | k + 1 => fun y0 y1 y2 => by
    have ih := pq_zzIndexRune.mono_l k
    unfold pq_zzIndexRune.l0
    exact LeO.ite (LeO.ite (LeO.refl _) (ih _ _ _)) (LeO.refl _)
theorem pq_zzIndexRune.mono : ∀ a0 a1 k, LeO (pq_zzIndexRune.f k a0 a1) (pq_zzIndexRune.f (k + 1) a0 a1) := by
  intro a0 a1 k
  unfold pq_zzIndexRune.f
  exact LeO.ite (LeO.ite (pq_zzIndexRune.mono_l _ _ _ _) (LeO.refl _)) (LeO.refl _)
set_option maxHeartbeats 1000000 in
set_option maxRecDepth 100000 in
theorem pq_zzIndexRune.calls (k : Nat) (a0 : ByteArray) (a1 : Int) (r : Int) (w : World) (h : pq_zzIndexRune.f k a0 a1 = some r) :
    Calls Try.prog 34 #[.string a0, .int .i32 a1] w fun e w' => e = .returned (.int .i64 r) ∧ Below w.heap.size w w' := by
  have H : (if 0 ≤ a1 then (if a1 < 128 then (pq_zzIndexRune.l0 k a0 a1 0) else (none)) else (none)) = some r := h
  clear h
  by_cases c1 : 0 ≤ a1
  · rw [if_pos c1] at H
    by_cases c2 : a1 < 128
    · rw [if_pos c2] at H
      have H' := Aside0.mk H
      clear H
      have d1 : (a1 != 65533) = true := bne_iff_ne.mpr (by omega)
      have d2 : decide (a1 < 0) = false := decide_eq_false (by omega)
      have d3 : decide (1114111 < a1) = false := decide_eq_false (by omega)
      have d4 : decide (55296 ≤ a1) = false := decide_eq_false (by omega)
      go_enter Try.func34, Try.ntmps34
      go_wp2
      go_loopg [] k (fun kq w' => ∃ pos : Nat, w' = w.iter a0 pos ∧ Aside0 (pq_zzIndexRune.l0 kq a0 a1 pos = some r) ∧ Aside0 (kq ≤ k))
      case atStart => exact ⟨0, rfl, H', ⟨Nat.le_refl _⟩⟩
      case round =>
        clear H' d1 d2 d3 d4
        obtain ⟨pos, rfl, HA, HK1⟩ := hrel
        cases gk with
        | zero => exact absurd HA.out (by simp [pq_zzIndexRune.l0])
        | succ k1 =>
          have H := HA.out
          clear HA
          simp only [pq_zzIndexRune.l0] at H
          by_cases hp : pos < a0.size
          · rw [if_pos hp] at H
            have hnx := fun ty => run_next_any (P := Try.prog) w a0 pos ty hp
            by_cases hc : ((Utf8.decode a0 pos).1 : Int) = a1
            · rw [if_pos hc] at H
              obtain rfl := Option.some.inj H
              have hcb : (((Utf8.decode a0 pos).1 : Int) == a1) = true := beq_iff_eq.mpr hc
              clear hc H
              go_wp2
              go_ret
              exact ⟨by first | rfl | (simp; done), (Below.refl _ _).alloc (Nat.le_refl _) _⟩
            · rw [if_neg hc] at H
              have H' := Aside0.mk H
              have hcb : (((Utf8.decode a0 pos).1 : Int) == a1) = false := beq_eq_false_iff_ne.mpr hc
              clear hc H
              go_wp2
              go_roundg k1
              case measure => have := HK1.out; omega
              case rel => exact ⟨_, rfl, H', ⟨by have := HK1.out; omega⟩⟩
          · rw [if_neg hp] at H
            obtain rfl := Option.some.inj H
            have hnx := fun ty => run_next_end (P := Try.prog) w a0 pos ty hp
            clear H
            go_wp2
            go_ret
            exact ⟨by first | rfl | (simp; done), (Below.refl _ _).alloc (Nat.le_refl _) _⟩
    · rw [if_neg c2] at H
      exact absurd H (by simp)
  · rw [if_neg c1] at H
    exact absurd H (by simp)

/-! ### pq_zzIndex: function 37 -/
def pq_zzIndex.l0 : Nat → ByteArray → ByteArray → Int → Option (Int)
  | 0, _, _, _ => none
  | k + 1, x0, x1, x5 => if (wrap64 (x5 + (x1.size : Int))) ≤ (x0.size : Int) then (if 0 ≤ x5 then (if x5 ≤ (wrap64 (x5 + (x1.size : Int))) then (if (x0.extract (x5 : Int).toNat ((wrap64 (x5 + (x1.size : Int))) : Int).toNat).toList = x1.toList then (some x5) else (pq_zzIndex.l0 k x0 x1 (wrap64 (x5 + 1)))) else (none)) else (none)) else (some (-1))
def pq_zzIndex.f (k : Nat) (a0 : ByteArray) (a1 : ByteArray) : Option (Int) := pq_zzIndex.l0 k a0 a1 0
theorem pq_zzIndex.mono_l : ∀ k, (∀ y0 y1 y2, LeO (pq_zzIndex.l0 k y0 y1 y2) (pq_zzIndex.l0 (k + 1) y0 y1 y2))
  | 0 => fun _ _ _ r h => by simp [pq_zzIndex.l0] at h
  | k + 1 => by
    have ih0 := pq_zzIndex.mono_l k
    · intro y0 y1 y2
      unfold pq_zzIndex.l0
      repeat' first
      | (with_reducible exact ih0 _ _ _)
      | (with_reducible exact LeO.refl _)
      | (with_reducible exact LeO.none _)
      | (with_reducible refine LeO.ite ?_ ?_)
      | (with_reducible refine LeO.bind ?_ (fun _ => ?_))
      | exact ih0 _ _ _
      | exact LeO.none _
      | refine LeO.ite ?_ ?_
      | refine LeO.bind ?_ (fun _ => ?_)
theorem pq_zzIndex.mono : ∀ a0 a1 k, LeO (pq_zzIndex.f k a0 a1) (pq_zzIndex.f (k + 1) a0 a1) := by
  intro a0 a1 k
  have ih0 := pq_zzIndex.mono_l k
  unfold pq_zzIndex.f
  repeat' first
      | (with_reducible exact ih0 _ _ _)
      | (with_reducible exact LeO.refl _)
      | (with_reducible exact LeO.none _)
      | (with_reducible refine LeO.ite ?_ ?_)
      | (with_reducible refine LeO.bind ?_ (fun _ => ?_))
      | exact ih0 _ _ _
      | exact LeO.none _
      | refine LeO.ite ?_ ?_
      | refine LeO.bind ?_ (fun _ => ?_)
set_option maxHeartbeats 8000000 in
set_option maxRecDepth 100000 in
theorem pq_zzIndex.calls (k : Nat) (a0 : ByteArray) (a1 : ByteArray) (r : Int) (w : World) (h : pq_zzIndex.f k a0 a1 = some r) :
    Calls Try.prog 37 #[.string a0, .string a1] w fun e w' => e = .returned (.int .i64 r) ∧ Drawn0 w w' := by
  have H : (pq_zzIndex.l0 k a0 a1 0) = some r := h
  clear h
  have H' := Aside0.mk H
  clear H
  go_enter Try.func37, Try.ntmps37
  go_wp2
  go_loopg [5] k (fun kq v5 w' => ∃ (x5_1 : Int), v5 = .int .i64 x5_1 ∧ Aside0 (pq_zzIndex.l0 kq a0 a1 x5_1 = some r) ∧ Aside0 (kq ≤ k) ∧ Drawn0 w w')
  case atStart => exact ⟨(0), (by first | rfl | (simp; done) | (simp [*]; done)), H', ⟨Nat.le_refl _⟩, by repeat (first | exact Drawn0.refl _ | apply Drawn0.step)⟩
  case round =>
    clear H'
    try clear p2
    obtain ⟨x5_1, rfl, HA, HK1, ⟨m1, rfl⟩⟩ := hrel
    cases gk with
    | zero => exact absurd HA.out (by simp [pq_zzIndex.l0])
    | succ k1 =>
      have H := HA.out
      clear HA
      simp only [pq_zzIndex.l0] at H
      by_cases c3 : (wrap64 (x5_1 + (a1.size : Int))) ≤ (a0.size : Int)
      · rw [if_pos c3] at H
        have c3b0 : decide ((wrap64 (x5_1 + (a1.size : Int))) ≤ (a0.size : Int)) = true := decide_eq_true c3
        clear c3
        by_cases c4 : 0 ≤ x5_1
        · rw [if_pos c4] at H
          have c4b0 := eq_true c4
          have c4b1 : decide (0 ≤ x5_1) = true := decide_eq_true c4
          clear c4
          by_cases c5 : x5_1 ≤ (wrap64 (x5_1 + (a1.size : Int)))
          · rw [if_pos c5] at H
            have c5b0 := eq_true c5
            have c5b1 : decide (x5_1 ≤ (wrap64 (x5_1 + (a1.size : Int)))) = true := decide_eq_true c5
            have c6b0 := eq_true (of_decide_eq_true (by first | (with_reducible assumption) | assumption) : (wrap64 (x5_1 + (a1.size : Int))) ≤ (a0.size : Int))
            by_cases c7 : (a0.extract (x5_1 : Int).toNat ((wrap64 (x5_1 + (a1.size : Int))) : Int).toNat).toList = a1.toList
            · rw [if_pos c7] at H
              have c7b0 : ((a0.extract (x5_1 : Int).toNat ((wrap64 (x5_1 + (a1.size : Int))) : Int).toNat).toList == a1.toList) = true := beq_iff_eq.mpr c7
              have c7b1 : ((a0.extract (x5_1 : Int).toNat ((wrap64 (x5_1 + (a1.size : Int))) : Int).toNat).toList != a1.toList) = false := bne_eq_false_iff_eq.mpr c7
              clear c7
              obtain rfl := Option.some.inj H
              go_wp2
              go_ret
              exact ⟨by first | rfl | (simp; done) | (simp [*]; done), by repeat (first | exact Drawn0.refl _ | apply Drawn0.step)⟩
            · rw [if_neg c7] at H
              have c7b0 : ((a0.extract (x5_1 : Int).toNat ((wrap64 (x5_1 + (a1.size : Int))) : Int).toNat).toList == a1.toList) = false := beq_eq_false_iff_ne.mpr c7
              have c7b1 : ((a0.extract (x5_1 : Int).toNat ((wrap64 (x5_1 + (a1.size : Int))) : Int).toNat).toList != a1.toList) = true := bne_iff_ne.mpr c7
              have H' := Aside0.mk H
              clear H
              go_wp2
              go_roundg k1
              case measure => have := HK1.out; omega
              case rel => exact ⟨(wrap64 (x5_1 + 1)), (by first | rfl | (simp; done) | (simp [*]; done)), H', ⟨by have := HK1.out; omega⟩, by repeat (first | exact Drawn0.refl _ | apply Drawn0.step)⟩
          · rw [if_neg c5] at H
            exact absurd H (by simp)
        · rw [if_neg c4] at H
          exact absurd H (by simp)
      · rw [if_neg c3] at H
        have c3b0 : decide ((wrap64 (x5_1 + (a1.size : Int))) ≤ (a0.size : Int)) = false := decide_eq_false c3
        clear c3
        obtain rfl := Option.some.inj H
        go_wp2
        go_ret
        exact ⟨by first | rfl | (simp; done) | (simp [*]; done), by repeat (first | exact Drawn0.refl _ | apply Drawn0.step)⟩

/-! ### pq_zzReplace: function 35 -/
def pq_zzReplace.l0 : Nat → ByteArray → ByteArray → ByteArray → ByteArray → Option (ByteArray)
  | 0, _, _, _, _ => none
  | k + 1, x0, x1, x2, x7 => (pq_zzIndex.f k x0 x1).bind fun t178 => (if t178 < 0 then (if x7.size + x0.size ≤ 9223372036854775807 then (some (x7 ++ x0)) else (none)) else (if 0 ≤ t178 then (if t178 ≤ (x0.size : Int) then (if (x0.extract 0 (t178 : Int).toNat).size + x2.size ≤ 9223372036854775807 then (if x7.size + ((x0.extract 0 (t178 : Int).toNat) ++ x2).size ≤ 9223372036854775807 then (if 0 ≤ (wrap64 (t178 + (x1.size : Int))) then (if (wrap64 (t178 + (x1.size : Int))) ≤ (x0.size : Int) then (pq_zzReplace.l0 k (x0.extract ((wrap64 (t178 + (x1.size : Int))) : Int).toNat x0.size) x1 x2 (x7 ++ ((x0.extract 0 (t178 : Int).toNat) ++ x2))) else (none)) else (none)) else (none)) else (none)) else (none)) else (none)))
def pq_zzReplace.f (k : Nat) (a0 : ByteArray) (a1 : ByteArray) (a2 : ByteArray) : Option (ByteArray) := pq_zzReplace.l0 k a0 a1 a2 (⟨#[]⟩ : ByteArray)
theorem pq_zzReplace.mono_l : ∀ k, (∀ y0 y1 y2 y3, LeO (pq_zzReplace.l0 k y0 y1 y2 y3) (pq_zzReplace.l0 (k + 1) y0 y1 y2 y3))
  | 0 => fun _ _ _ _ r h => by simp [pq_zzReplace.l0] at h
  | k + 1 => by
    have ih0 := pq_zzReplace.mono_l k
    · intro y0 y1 y2 y3
      unfold pq_zzReplace.l0
      repeat' first
      | (with_reducible exact ih0 _ _ _ _)
      | (with_reducible exact pq_zzIndex.mono _ _ _)
      | (with_reducible exact LeO.refl _)
      | (with_reducible exact LeO.none _)
      | (with_reducible refine LeO.ite ?_ ?_)
      | (with_reducible refine LeO.bind ?_ (fun _ => ?_))
      | exact ih0 _ _ _ _
      | exact pq_zzIndex.mono _ _ _
      | exact LeO.none _
      | refine LeO.ite ?_ ?_
      | refine LeO.bind ?_ (fun _ => ?_)
theorem pq_zzReplace.mono : ∀ a0 a1 a2 k, LeO (pq_zzReplace.f k a0 a1 a2) (pq_zzReplace.f (k + 1) a0 a1 a2) := by
  intro a0 a1 a2 k
  have ih0 := pq_zzReplace.mono_l k
  unfold pq_zzReplace.f
  repeat' first
      | (with_reducible exact ih0 _ _ _ _)
      | (with_reducible exact pq_zzIndex.mono _ _ _)
      | (with_reducible exact LeO.refl _)
      | (with_reducible exact LeO.none _)
      | (with_reducible refine LeO.ite ?_ ?_)
      | (with_reducible refine LeO.bind ?_ (fun _ => ?_))
      | exact ih0 _ _ _ _
      | exact pq_zzIndex.mono _ _ _
      | exact LeO.none _
      | refine LeO.ite ?_ ?_
      | refine LeO.bind ?_ (fun _ => ?_)
set_option maxHeartbeats 8000000 in
set_option maxRecDepth 100000 in
theorem pq_zzReplace.calls (k : Nat) (a0 : ByteArray) (a1 : ByteArray) (a2 : ByteArray) (r : ByteArray) (w : World) (h : pq_zzReplace.f k a0 a1 a2 = some r) :
    Calls Try.prog 35 #[.string a0, .string a1, .string a2] w fun e w' => e = .returned (.string r) ∧ Drawn0 w w' := by
  have H : (pq_zzReplace.l0 k a0 a1 a2 (⟨#[]⟩ : ByteArray)) = some r := h
  clear h
  have H' := Aside0.mk H
  clear H
  go_enter Try.func35, Try.ntmps35
  go_wp2
  go_loopg [0, 7] k (fun kq v0 v7 w' => ∃ (x0_1 : ByteArray) (x7_1 : ByteArray), v0 = .string x0_1 ∧ v7 = .string x7_1 ∧ Aside0 (pq_zzReplace.l0 kq x0_1 a1 a2 x7_1 = some r) ∧ Aside0 (kq ≤ k) ∧ Drawn0 w w')
  case atStart => exact ⟨(a0), ((⟨#[]⟩ : ByteArray)), (by first | rfl | (simp; done) | (simp [*]; done)), (by first | rfl | (simp; done) | (simp [*]; done)), H', ⟨Nat.le_refl _⟩, by repeat (first | exact Drawn0.refl _ | apply Drawn0.step)⟩
  case round =>
    clear H'
    try clear p2
    try clear c3
    obtain ⟨x0_1, x7_1, rfl, rfl, HA, HK1, ⟨m1, rfl⟩⟩ := hrel
    cases gk with
    | zero => exact absurd HA.out (by simp [pq_zzReplace.l0])
    | succ k1 =>
      have H := HA.out
      clear HA
      simp only [pq_zzReplace.l0] at H
      replace H := Option.bind_eq_some_iff.mp H
      obtain ⟨t178, A40, H⟩ := H
      replace H : (if t178 < 0 then (if x7_1.size + x0_1.size ≤ 9223372036854775807 then (some (x7_1 ++ x0_1)) else (none)) else (if 0 ≤ t178 then (if t178 ≤ (x0_1.size : Int) then (if (x0_1.extract 0 (t178 : Int).toNat).size + a2.size ≤ 9223372036854775807 then (if x7_1.size + ((x0_1.extract 0 (t178 : Int).toNat) ++ a2).size ≤ 9223372036854775807 then (if 0 ≤ (wrap64 (t178 + (a1.size : Int))) then (if (wrap64 (t178 + (a1.size : Int))) ≤ (x0_1.size : Int) then (pq_zzReplace.l0 k1 (x0_1.extract ((wrap64 (t178 + (a1.size : Int))) : Int).toNat x0_1.size) a1 a2 (x7_1 ++ ((x0_1.extract 0 (t178 : Int).toNat) ++ a2))) else (none)) else (none)) else (none)) else (none)) else (none)) else (none))) = some r := H
      have A4 := Aside0.mk A40
      clear A40
      by_cases c5 : t178 < 0
      · rw [if_pos c5] at H
        have c5b0 : decide (t178 < 0) = true := decide_eq_true c5
        clear c5
        by_cases c6 : x7_1.size + x0_1.size ≤ 9223372036854775807
        · rw [if_pos c6] at H
          have c6b0 := eq_true c6
          have c6b1 : decide (x7_1.size + x0_1.size ≤ 9223372036854775807) = true := decide_eq_true c6
          try have c6b2 : (9223372036854775807 < x7_1.size + x0_1.size) = False := eq_false (Nat.not_lt.2 c6)
          obtain rfl := Option.some.inj H
          go_wp2_with (first | ((with_reducible refine gate_callee (f := 37) rfl ?_); refine goesL_ (some 11) rfl rfl Try.func37 (by kernel_rfl) rfl #[.string x0_1, .string a1] rfl (by (try simp only [List.map_toArray, List.map_cons, List.map_nil]); first | done | rfl | (simp only [List.length_drop, List.length_take]; rfl)) ?_; (with_reducible refine (pq_zzIndex.calls k1 x0_1 a1 t178 _ A4.out).mono ?_); rintro e w' ⟨rfl, ⟨nd, rfl⟩⟩; refine ⟨_, rfl, ?_⟩))
          go_ret
          exact ⟨by first | rfl | (simp; done) | (simp [*]; done), by repeat (first | exact Drawn0.refl _ | apply Drawn0.step)⟩
        · rw [if_neg c6] at H
          exact absurd H (by simp)
      · rw [if_neg c5] at H
        have c5b0 : decide (t178 < 0) = false := decide_eq_false c5
        clear c5
        by_cases c7 : 0 ≤ t178
        · rw [if_pos c7] at H
          have c7b0 := eq_true c7
          have c7b1 : decide (0 ≤ t178) = true := decide_eq_true c7
          clear c7
          by_cases c8 : t178 ≤ (x0_1.size : Int)
          · rw [if_pos c8] at H
            have c8b0 := eq_true c8
            have c8b1 : decide (t178 ≤ (x0_1.size : Int)) = true := decide_eq_true c8
            clear c8
            by_cases c9 : (x0_1.extract 0 (t178 : Int).toNat).size + a2.size ≤ 9223372036854775807
            · rw [if_pos c9] at H
              have c9b0 := eq_true c9
              have c9b1 : decide ((x0_1.extract 0 (t178 : Int).toNat).size + a2.size ≤ 9223372036854775807) = true := decide_eq_true c9
              try have c9b2 : (9223372036854775807 < (x0_1.extract 0 (t178 : Int).toNat).size + a2.size) = False := eq_false (Nat.not_lt.2 c9)
              by_cases c10 : x7_1.size + ((x0_1.extract 0 (t178 : Int).toNat) ++ a2).size ≤ 9223372036854775807
              · rw [if_pos c10] at H
                have c10b0 := eq_true c10
                have c10b1 : decide (x7_1.size + ((x0_1.extract 0 (t178 : Int).toNat) ++ a2).size ≤ 9223372036854775807) = true := decide_eq_true c10
                try have c10b2 : (9223372036854775807 < x7_1.size + ((x0_1.extract 0 (t178 : Int).toNat) ++ a2).size) = False := eq_false (Nat.not_lt.2 c10)
                try have c10b3 : (9223372036854775807 < x7_1.size + ((x0_1.extract 0 (t178 : Int).toNat).size + a2.size)) = False := eq_false (by have h_ := c10; simp only [ByteArray.size_append] at h_; omega)
                obtain ⟨ji11, hji11⟩ : ∃ j_ : Int, (wrap64 (t178 + (a1.size : Int))) = j_ := ⟨_, rfl⟩
                replace H : (if 0 ≤ (ji11) then (if (ji11) ≤ (x0_1.size : Int) then (pq_zzReplace.l0 k1 (x0_1.extract ((ji11) : Int).toNat x0_1.size) a1 a2 (x7_1 ++ ((x0_1.extract 0 (t178 : Int).toNat) ++ a2))) else (none)) else (none)) = some r := by first | (rw [hji11] at H; exact H) | (simp only [hji11] at H ⊢; exact H)
                (try rw [hji11] at A4)
                have hji11w : (IntKind.i64.wrap (t178 + (a1.size : Int))) = ji11 := (i64_w _).trans hji11
                by_cases c12 : 0 ≤ (ji11)
                · rw [if_pos c12] at H
                  have c12b0 := eq_true c12
                  have c12b1 : decide (0 ≤ (ji11)) = true := decide_eq_true c12
                  clear c12
                  by_cases c13 : (ji11) ≤ (x0_1.size : Int)
                  · rw [if_pos c13] at H
                    have c13b0 := eq_true c13
                    have c13b1 : decide ((ji11) ≤ (x0_1.size : Int)) = true := decide_eq_true c13
                    clear c13
                    have H' := Aside0.mk H
                    clear H
                    go_wp2_with (first | ((with_reducible refine gate_callee (f := 37) rfl ?_); refine goesL_ (some 11) rfl rfl Try.func37 (by kernel_rfl) rfl #[.string x0_1, .string a1] rfl (by (try simp only [List.map_toArray, List.map_cons, List.map_nil]); first | done | rfl | (simp only [List.length_drop, List.length_take]; rfl)) ?_; (with_reducible refine (pq_zzIndex.calls k1 x0_1 a1 t178 _ A4.out).mono ?_); rintro e w' ⟨rfl, ⟨nd, rfl⟩⟩; refine ⟨_, rfl, ?_⟩))
                    go_roundg k1
                    case measure => have := HK1.out; omega
                    case rel => exact ⟨(x0_1.extract ((ji11) : Int).toNat x0_1.size), (x7_1 ++ ((x0_1.extract 0 (t178 : Int).toNat) ++ a2)), (by first | rfl | (simp; done) | (simp only [← hji11] <;> (first | rfl | simp)) | (simp [*]; done)), (by first | rfl | (simp; done) | (simp [*]; done)), H', ⟨by have := HK1.out; omega⟩, by repeat (first | exact Drawn0.refl _ | apply Drawn0.step)⟩
                  · rw [if_neg c13] at H
                    exact absurd H (by simp)
                · rw [if_neg c12] at H
                  exact absurd H (by simp)
              · rw [if_neg c10] at H
                exact absurd H (by simp)
            · rw [if_neg c9] at H
              exact absurd H (by simp)
          · rw [if_neg c8] at H
            exact absurd H (by simp)
        · rw [if_neg c7] at H
          exact absurd H (by simp)

/-! ### pq_QuoteIdentifier: function 28 -/
def pq_QuoteIdentifier.f (k : Nat) (a0 : ByteArray) : Option (ByteArray) := (pq_zzIndexRune.f k a0 0).bind fun t179 => (if t179 > (-1) then (if 0 ≤ t179 then (if t179 ≤ (a0.size : Int) then ((pq_zzReplace.f k (a0.extract 0 (t179 : Int).toNat) (⟨#[34]⟩ : ByteArray) (⟨#[34, 34]⟩ : ByteArray)).bind fun t180 => (if 1 + t180.size ≤ 9223372036854775807 then (if ((⟨#[34]⟩ : ByteArray) ++ t180).size + 1 ≤ 9223372036854775807 then (some (((⟨#[34]⟩ : ByteArray) ++ t180) ++ (⟨#[34]⟩ : ByteArray))) else (none)) else (none))) else (none)) else (none)) else ((pq_zzReplace.f k a0 (⟨#[34]⟩ : ByteArray) (⟨#[34, 34]⟩ : ByteArray)).bind fun t181 => (if 1 + t181.size ≤ 9223372036854775807 then (if ((⟨#[34]⟩ : ByteArray) ++ t181).size + 1 ≤ 9223372036854775807 then (some (((⟨#[34]⟩ : ByteArray) ++ t181) ++ (⟨#[34]⟩ : ByteArray))) else (none)) else (none))))
theorem pq_QuoteIdentifier.mono : ∀ a0 k, LeO (pq_QuoteIdentifier.f k a0) (pq_QuoteIdentifier.f (k + 1) a0) := by
  intro a0 k
  unfold pq_QuoteIdentifier.f
  repeat' first
      | (with_reducible exact pq_zzIndexRune.mono _ _ _)
      | (with_reducible exact pq_zzReplace.mono _ _ _ _)
      | (with_reducible exact LeO.refl _)
      | (with_reducible exact LeO.none _)
      | (with_reducible refine LeO.ite ?_ ?_)
      | (with_reducible refine LeO.bind ?_ (fun _ => ?_))
      | exact pq_zzIndexRune.mono _ _ _
      | exact pq_zzReplace.mono _ _ _ _
      | exact LeO.none _
      | refine LeO.ite ?_ ?_
      | refine LeO.bind ?_ (fun _ => ?_)
set_option maxHeartbeats 8000000 in
set_option maxRecDepth 100000 in
theorem pq_QuoteIdentifier.calls (k : Nat) (a0 : ByteArray) (r : ByteArray) (w : World) (h : pq_QuoteIdentifier.f k a0 = some r) :
    Calls Try.prog 28 #[.string a0] w fun e w' => e = .returned (.string r) ∧ Below w.heap.size w w' := by
  have HB := Aside0.mk (Below.refl w.heap.size w)
  have H : ((pq_zzIndexRune.f k a0 0).bind fun t179 => (if t179 > (-1) then (if 0 ≤ t179 then (if t179 ≤ (a0.size : Int) then ((pq_zzReplace.f k (a0.extract 0 (t179 : Int).toNat) (⟨#[34]⟩ : ByteArray) (⟨#[34, 34]⟩ : ByteArray)).bind fun t180 => (if 1 + t180.size ≤ 9223372036854775807 then (if ((⟨#[34]⟩ : ByteArray) ++ t180).size + 1 ≤ 9223372036854775807 then (some (((⟨#[34]⟩ : ByteArray) ++ t180) ++ (⟨#[34]⟩ : ByteArray))) else (none)) else (none))) else (none)) else (none)) else ((pq_zzReplace.f k a0 (⟨#[34]⟩ : ByteArray) (⟨#[34, 34]⟩ : ByteArray)).bind fun t181 => (if 1 + t181.size ≤ 9223372036854775807 then (if ((⟨#[34]⟩ : ByteArray) ++ t181).size + 1 ≤ 9223372036854775807 then (some (((⟨#[34]⟩ : ByteArray) ++ t181) ++ (⟨#[34]⟩ : ByteArray))) else (none)) else (none))))) = some r := h
  clear h
  replace H := Option.bind_eq_some_iff.mp H
  obtain ⟨t179, A20, H⟩ := H
  replace H : (if t179 > (-1) then (if 0 ≤ t179 then (if t179 ≤ (a0.size : Int) then ((pq_zzReplace.f k (a0.extract 0 (t179 : Int).toNat) (⟨#[34]⟩ : ByteArray) (⟨#[34, 34]⟩ : ByteArray)).bind fun t180 => (if 1 + t180.size ≤ 9223372036854775807 then (if ((⟨#[34]⟩ : ByteArray) ++ t180).size + 1 ≤ 9223372036854775807 then (some (((⟨#[34]⟩ : ByteArray) ++ t180) ++ (⟨#[34]⟩ : ByteArray))) else (none)) else (none))) else (none)) else (none)) else ((pq_zzReplace.f k a0 (⟨#[34]⟩ : ByteArray) (⟨#[34, 34]⟩ : ByteArray)).bind fun t181 => (if 1 + t181.size ≤ 9223372036854775807 then (if ((⟨#[34]⟩ : ByteArray) ++ t181).size + 1 ≤ 9223372036854775807 then (some (((⟨#[34]⟩ : ByteArray) ++ t181) ++ (⟨#[34]⟩ : ByteArray))) else (none)) else (none)))) = some r := H
  have A2 := Aside0.mk A20
  clear A20
  by_cases c3 : t179 > (-1)
  · rw [if_pos c3] at H
    have c3b0 : decide ((-1) < t179) = true := decide_eq_true c3
    clear c3
    by_cases c4 : 0 ≤ t179
    · rw [if_pos c4] at H
      have c4b0 := eq_true c4
      have c4b1 : decide (0 ≤ t179) = true := decide_eq_true c4
      clear c4
      by_cases c5 : t179 ≤ (a0.size : Int)
      · rw [if_pos c5] at H
        have c5b0 := eq_true c5
        have c5b1 : decide (t179 ≤ (a0.size : Int)) = true := decide_eq_true c5
        clear c5
        replace H := Option.bind_eq_some_iff.mp H
        obtain ⟨t180, A60, H⟩ := H
        replace H : (if 1 + t180.size ≤ 9223372036854775807 then (if ((⟨#[34]⟩ : ByteArray) ++ t180).size + 1 ≤ 9223372036854775807 then (some (((⟨#[34]⟩ : ByteArray) ++ t180) ++ (⟨#[34]⟩ : ByteArray))) else (none)) else (none)) = some r := H
        have A6 := Aside0.mk A60
        clear A60
        by_cases c7 : 1 + t180.size ≤ 9223372036854775807
        · rw [if_pos c7] at H
          have c7b0 := eq_true c7
          have c7b1 : decide (1 + t180.size ≤ 9223372036854775807) = true := decide_eq_true c7
          try have c7b2 : (9223372036854775807 < 1 + t180.size) = False := eq_false (Nat.not_lt.2 c7)
          by_cases c8 : ((⟨#[34]⟩ : ByteArray) ++ t180).size + 1 ≤ 9223372036854775807
          · rw [if_pos c8] at H
            have c8b0 := eq_true c8
            have c8b1 : decide (((⟨#[34]⟩ : ByteArray) ++ t180).size + 1 ≤ 9223372036854775807) = true := decide_eq_true c8
            try have c8b2 : (9223372036854775807 < ((⟨#[34]⟩ : ByteArray) ++ t180).size + 1) = False := eq_false (Nat.not_lt.2 c8)
            try have c8b3 : (9223372036854775807 < 1 + t180.size + 1) = False := eq_false (by have h_ := c8; simp only [ByteArray.size_append, show (⟨#[34]⟩ : ByteArray).size = 1 from rfl] at h_; omega)
            obtain rfl := Option.some.inj H
            go_enter Try.func28, Try.ntmps28
            go_wp2_with (first | ((with_reducible refine gate_callee (f := 34) rfl ?_); refine goesL_ (some 5) rfl rfl Try.func34 (by kernel_rfl) rfl #[.string a0, .int .i32 0] rfl (by (try simp only [List.map_toArray, List.map_cons, List.map_nil]); first | done | rfl | (simp only [List.length_drop, List.length_take]; rfl)) ?_; (with_reducible refine (pq_zzIndexRune.calls k a0 0 t179 _ A2.out).mono ?_); rintro e w9 ⟨rfl, hb⟩; refine ⟨_, rfl, ?_⟩; have n0_ := Aside0.mk (below_step (by repeat (first | (with_reducible first | exact HB.out | apply below_alloc | apply pw_below_drewN | apply below_drew1) | exact HB.out)) hb); clear HB; have HB := n0_; clear n0_; (try clear hb); (try clear hb2); (try clear hk); (try clear hi)) | ((with_reducible refine gate_callee (f := 35) rfl ?_); refine goesL_ (some 12) rfl rfl Try.func35 (by kernel_rfl) rfl #[.string (a0.extract 0 (t179 : Int).toNat), .string (⟨#[34]⟩ : ByteArray), .string (⟨#[34, 34]⟩ : ByteArray)] rfl (by (try simp only [List.map_toArray, List.map_cons, List.map_nil]); first | done | rfl | (simp only [List.length_drop, List.length_take]; rfl)) ?_; (with_reducible refine (pq_zzReplace.calls k (a0.extract 0 (t179 : Int).toNat) (⟨#[34]⟩ : ByteArray) (⟨#[34, 34]⟩ : ByteArray) t180 _ A6.out).mono ?_); rintro e w' ⟨rfl, ⟨nd, rfl⟩⟩; refine ⟨_, rfl, ?_⟩))
            go_ret
            exact ⟨by first | rfl | (simp [errW_none, errW_some] <;> rfl) | (simp [*, errW_none, errW_some] <;> rfl), by repeat (first | (with_reducible first | exact HB.out | apply below_alloc | apply pw_below_drewN | apply below_drew1) | exact HB.out)⟩
          · rw [if_neg c8] at H
            exact absurd H (by simp)
        · rw [if_neg c7] at H
          exact absurd H (by simp)
      · rw [if_neg c5] at H
        exact absurd H (by simp)
    · rw [if_neg c4] at H
      exact absurd H (by simp)
  · rw [if_neg c3] at H
    have c3b0 : decide ((-1) < t179) = false := decide_eq_false c3
    clear c3
    replace H := Option.bind_eq_some_iff.mp H
    obtain ⟨t181, A100, H⟩ := H
    replace H : (if 1 + t181.size ≤ 9223372036854775807 then (if ((⟨#[34]⟩ : ByteArray) ++ t181).size + 1 ≤ 9223372036854775807 then (some (((⟨#[34]⟩ : ByteArray) ++ t181) ++ (⟨#[34]⟩ : ByteArray))) else (none)) else (none)) = some r := H
    have A10 := Aside0.mk A100
    clear A100
    by_cases c11 : 1 + t181.size ≤ 9223372036854775807
    · rw [if_pos c11] at H
      have c11b0 := eq_true c11
      have c11b1 : decide (1 + t181.size ≤ 9223372036854775807) = true := decide_eq_true c11
      try have c11b2 : (9223372036854775807 < 1 + t181.size) = False := eq_false (Nat.not_lt.2 c11)
      by_cases c12 : ((⟨#[34]⟩ : ByteArray) ++ t181).size + 1 ≤ 9223372036854775807
      · rw [if_pos c12] at H
        have c12b0 := eq_true c12
        have c12b1 : decide (((⟨#[34]⟩ : ByteArray) ++ t181).size + 1 ≤ 9223372036854775807) = true := decide_eq_true c12
        try have c12b2 : (9223372036854775807 < ((⟨#[34]⟩ : ByteArray) ++ t181).size + 1) = False := eq_false (Nat.not_lt.2 c12)
        try have c12b3 : (9223372036854775807 < 1 + t181.size + 1) = False := eq_false (by have h_ := c12; simp only [ByteArray.size_append, show (⟨#[34]⟩ : ByteArray).size = 1 from rfl] at h_; omega)
        obtain rfl := Option.some.inj H
        go_enter Try.func28, Try.ntmps28
        go_wp2_with (first | ((with_reducible refine gate_callee (f := 34) rfl ?_); refine goesL_ (some 5) rfl rfl Try.func34 (by kernel_rfl) rfl #[.string a0, .int .i32 0] rfl (by (try simp only [List.map_toArray, List.map_cons, List.map_nil]); first | done | rfl | (simp only [List.length_drop, List.length_take]; rfl)) ?_; (with_reducible refine (pq_zzIndexRune.calls k a0 0 t179 _ A2.out).mono ?_); rintro e w13 ⟨rfl, hb⟩; refine ⟨_, rfl, ?_⟩; have n0_ := Aside0.mk (below_step (by repeat (first | (with_reducible first | exact HB.out | apply below_alloc | apply pw_below_drewN | apply below_drew1) | exact HB.out)) hb); clear HB; have HB := n0_; clear n0_; (try clear hb); (try clear hb2); (try clear hk); (try clear hi)) | ((with_reducible refine gate_callee (f := 35) rfl ?_); refine goesL_ (some 12) rfl rfl Try.func35 (by kernel_rfl) rfl #[.string a0, .string (⟨#[34]⟩ : ByteArray), .string (⟨#[34, 34]⟩ : ByteArray)] rfl (by (try simp only [List.map_toArray, List.map_cons, List.map_nil]); first | done | rfl | (simp only [List.length_drop, List.length_take]; rfl)) ?_; (with_reducible refine (pq_zzReplace.calls k a0 (⟨#[34]⟩ : ByteArray) (⟨#[34, 34]⟩ : ByteArray) t181 _ A10.out).mono ?_); rintro e w' ⟨rfl, ⟨nd, rfl⟩⟩; refine ⟨_, rfl, ?_⟩))
        go_ret
        exact ⟨by first | rfl | (simp [errW_none, errW_some] <;> rfl) | (simp [*, errW_none, errW_some] <;> rfl), by repeat (first | (with_reducible first | exact HB.out | apply below_alloc | apply pw_below_drewN | apply below_drew1) | exact HB.out)⟩
      · rw [if_neg c12] at H
        exact absurd H (by simp)
    · rw [if_neg c11] at H
      exact absurd H (by simp)

/-! ### impl_Identifier: function 19 -/
def impl_Identifier.f (k : Nat) (a0 : ByteArray) : Option (ByteArray) := (pq_QuoteIdentifier.f k a0).bind fun t182 => (some t182)
theorem impl_Identifier.mono : ∀ a0 k, LeO (impl_Identifier.f k a0) (impl_Identifier.f (k + 1) a0) := by
  intro a0 k
  unfold impl_Identifier.f
  repeat' first
      | (with_reducible exact pq_QuoteIdentifier.mono _ _)
      | (with_reducible exact LeO.refl _)
      | (with_reducible exact LeO.none _)
      | (with_reducible refine LeO.ite ?_ ?_)
      | (with_reducible refine LeO.bind ?_ (fun _ => ?_))
      | exact pq_QuoteIdentifier.mono _ _
      | exact LeO.none _
      | refine LeO.ite ?_ ?_
      | refine LeO.bind ?_ (fun _ => ?_)
set_option maxHeartbeats 8000000 in
set_option maxRecDepth 100000 in
theorem impl_Identifier.calls (k : Nat) (a0 : ByteArray) (r : ByteArray) (w : World) (h : impl_Identifier.f k a0 = some r) :
    Calls Try.prog 19 #[.string a0] w fun e w' => e = .returned (.string r) ∧ Below w.heap.size w w' := by
  have HB := Aside0.mk (Below.refl w.heap.size w)
  have H : ((pq_QuoteIdentifier.f k a0).bind fun t182 => (some t182)) = some r := h
  clear h
  replace H := Option.bind_eq_some_iff.mp H
  obtain ⟨t182, A20, H⟩ := H
  replace H : (some t182) = some r := H
  have A2 := Aside0.mk A20
  clear A20
  obtain rfl := Option.some.inj H
  go_enter Try.func19, Try.ntmps19
  go_wp2_with (first | ((with_reducible refine gate_callee (f := 28) rfl ?_); refine goesL_ (some 4) rfl rfl Try.func28 (by kernel_rfl) rfl #[.string a0] rfl (by (try simp only [List.map_toArray, List.map_cons, List.map_nil]); first | done | rfl | (simp only [List.length_drop, List.length_take]; rfl)) ?_; (with_reducible refine (pq_QuoteIdentifier.calls k a0 t182 _ A2.out).mono ?_); rintro e w3 ⟨rfl, hb⟩; refine ⟨_, rfl, ?_⟩; have n0_ := Aside0.mk (below_step (by repeat (first | (with_reducible first | exact HB.out | apply below_alloc | apply pw_below_drewN | apply below_drew1) | exact HB.out)) hb); clear HB; have HB := n0_; clear n0_; (try clear hb); (try clear hb2); (try clear hk); (try clear hi)))
  go_ret
  exact ⟨by first | rfl | (simp [errW_none, errW_some] <;> rfl) | (simp [*, errW_none, errW_some] <;> rfl), by repeat (first | (with_reducible first | exact HB.out | apply below_alloc | apply pw_below_drewN | apply below_drew1) | exact HB.out)⟩

/-! ### spec_doubled: function 29 -/
def spec_doubled.l0 : Nat → ByteArray → Int → ByteArray → Int → Option (ByteArray)
  | 0, _, _, _, _ => none
  | k + 1, x0, x1, x5, x6 => if x6 < (x0.size : Int) then (if 0 ≤ x6 then (if x6 ≤ (wrap64 (x6 + 1)) then (if (wrap64 (x6 + 1)) ≤ (x0.size : Int) then (if x5.size + (x0.extract (x6 : Int).toNat ((wrap64 (x6 + 1)) : Int).toNat).size ≤ 9223372036854775807 then (if (bt x0 x6) = x1 then (if (x5 ++ (x0.extract (x6 : Int).toNat ((wrap64 (x6 + 1)) : Int).toNat)).size + (x0.extract (x6 : Int).toNat ((wrap64 (x6 + 1)) : Int).toNat).size ≤ 9223372036854775807 then (spec_doubled.l0 k x0 x1 ((x5 ++ (x0.extract (x6 : Int).toNat ((wrap64 (x6 + 1)) : Int).toNat)) ++ (x0.extract (x6 : Int).toNat ((wrap64 (x6 + 1)) : Int).toNat)) (wrap64 (x6 + 1))) else (none)) else (spec_doubled.l0 k x0 x1 (x5 ++ (x0.extract (x6 : Int).toNat ((wrap64 (x6 + 1)) : Int).toNat)) (wrap64 (x6 + 1)))) else (none)) else (none)) else (none)) else (none)) else (some x5)
def spec_doubled.f (k : Nat) (a0 : ByteArray) (a1 : Int) : Option (ByteArray) := spec_doubled.l0 k a0 a1 (⟨#[]⟩ : ByteArray) 0
theorem spec_doubled.mono_l : ∀ k, (∀ y0 y1 y2 y3, LeO (spec_doubled.l0 k y0 y1 y2 y3) (spec_doubled.l0 (k + 1) y0 y1 y2 y3))
  | 0 => fun _ _ _ _ r h => by simp [spec_doubled.l0] at h
  | k + 1 => by
    have ih0 := spec_doubled.mono_l k
    · intro y0 y1 y2 y3
      unfold spec_doubled.l0
      repeat' first
      | (with_reducible exact ih0 _ _ _ _)
      | (with_reducible exact LeO.refl _)
      | (with_reducible exact LeO.none _)
      | (with_reducible refine LeO.ite ?_ ?_)
      | (with_reducible refine LeO.bind ?_ (fun _ => ?_))
      | exact ih0 _ _ _ _
      | exact LeO.none _
      | refine LeO.ite ?_ ?_
      | refine LeO.bind ?_ (fun _ => ?_)
theorem spec_doubled.mono : ∀ a0 a1 k, LeO (spec_doubled.f k a0 a1) (spec_doubled.f (k + 1) a0 a1) := by
  intro a0 a1 k
  have ih0 := spec_doubled.mono_l k
  unfold spec_doubled.f
  repeat' first
      | (with_reducible exact ih0 _ _ _ _)
      | (with_reducible exact LeO.refl _)
      | (with_reducible exact LeO.none _)
      | (with_reducible refine LeO.ite ?_ ?_)
      | (with_reducible refine LeO.bind ?_ (fun _ => ?_))
      | exact ih0 _ _ _ _
      | exact LeO.none _
      | refine LeO.ite ?_ ?_
      | refine LeO.bind ?_ (fun _ => ?_)
set_option maxHeartbeats 8000000 in
set_option maxRecDepth 100000 in
theorem spec_doubled.calls (k : Nat) (a0 : ByteArray) (a1 : Int) (r : ByteArray) (w : World) (h : spec_doubled.f k a0 a1 = some r) :
    Calls Try.prog 29 #[.string a0, .int .u8 a1] w fun e w' => e = .returned (.string r) ∧ Drawn0 w w' := by
  have H : (spec_doubled.l0 k a0 a1 (⟨#[]⟩ : ByteArray) 0) = some r := h
  clear h
  have H' := Aside0.mk H
  clear H
  go_enter Try.func29, Try.ntmps29
  go_wp2
  go_loopg [5, 6] k (fun kq v5 v6 w' => ∃ (x5_1 : ByteArray) (x6_1 : Int), v5 = .string x5_1 ∧ v6 = .int .i64 x6_1 ∧ Aside0 (spec_doubled.l0 kq a0 a1 x5_1 x6_1 = some r) ∧ Aside0 (kq ≤ k) ∧ Drawn0 w w')
  case atStart => exact ⟨((⟨#[]⟩ : ByteArray)), (0), (by first | rfl | (simp; done) | (simp [*]; done)), (by first | rfl | (simp; done) | (simp [*]; done)), H', ⟨Nat.le_refl _⟩, by repeat (first | exact Drawn0.refl _ | apply Drawn0.step)⟩
  case round =>
    clear H'
    try clear c2
    try clear p2
    obtain ⟨x5_1, x6_1, rfl, rfl, HA, HK1, ⟨m1, rfl⟩⟩ := hrel
    cases gk with
    | zero => exact absurd HA.out (by simp [spec_doubled.l0])
    | succ k1 =>
      have H := HA.out
      clear HA
      simp only [spec_doubled.l0] at H
      by_cases c3 : x6_1 < (a0.size : Int)
      · rw [if_pos c3] at H
        have c3b0 : decide (x6_1 < (a0.size : Int)) = true := decide_eq_true c3
        clear c3
        by_cases c4 : 0 ≤ x6_1
        · rw [if_pos c4] at H
          have c4b0 := eq_true c4
          have c4b1 : decide (0 ≤ x6_1) = true := decide_eq_true c4
          clear c4
          by_cases c5 : x6_1 ≤ (wrap64 (x6_1 + 1))
          · rw [if_pos c5] at H
            have c5b0 := eq_true c5
            have c5b1 : decide (x6_1 ≤ (wrap64 (x6_1 + 1))) = true := decide_eq_true c5
            by_cases c6 : (wrap64 (x6_1 + 1)) ≤ (a0.size : Int)
            · rw [if_pos c6] at H
              have c6b0 := eq_true c6
              have c6b1 : decide ((wrap64 (x6_1 + 1)) ≤ (a0.size : Int)) = true := decide_eq_true c6
              by_cases c7 : x5_1.size + (a0.extract (x6_1 : Int).toNat ((wrap64 (x6_1 + 1)) : Int).toNat).size ≤ 9223372036854775807
              · rw [if_pos c7] at H
                have c7b0 := eq_true c7
                have c7b1 : decide (x5_1.size + (a0.extract (x6_1 : Int).toNat ((wrap64 (x6_1 + 1)) : Int).toNat).size ≤ 9223372036854775807) = true := decide_eq_true c7
                try have c7b2 : (9223372036854775807 < x5_1.size + (a0.extract (x6_1 : Int).toNat ((wrap64 (x6_1 + 1)) : Int).toNat).size) = False := eq_false (Nat.not_lt.2 c7)
                by_cases c9 : (bt a0 x6_1) = a1
                · rw [if_pos c9] at H
                  have c9b0 : ((bt a0 x6_1) == a1) = true := beq_iff_eq.mpr c9
                  have c9b1 : ((bt a0 x6_1) != a1) = false := bne_eq_false_iff_eq.mpr c9
                  clear c9
                  have c10b0 := eq_true (of_decide_eq_true (by first | (with_reducible assumption) | assumption) : 0 ≤ x6_1)
                  have c11b0 := eq_true (of_decide_eq_true (by first | (with_reducible assumption) | assumption) : x6_1 ≤ (wrap64 (x6_1 + 1)))
                  have c12b0 := eq_true (of_decide_eq_true (by first | (with_reducible assumption) | assumption) : (wrap64 (x6_1 + 1)) ≤ (a0.size : Int))
                  by_cases c13 : (x5_1 ++ (a0.extract (x6_1 : Int).toNat ((wrap64 (x6_1 + 1)) : Int).toNat)).size + (a0.extract (x6_1 : Int).toNat ((wrap64 (x6_1 + 1)) : Int).toNat).size ≤ 9223372036854775807
                  · rw [if_pos c13] at H
                    have c13b0 := eq_true c13
                    have c13b1 : decide ((x5_1 ++ (a0.extract (x6_1 : Int).toNat ((wrap64 (x6_1 + 1)) : Int).toNat)).size + (a0.extract (x6_1 : Int).toNat ((wrap64 (x6_1 + 1)) : Int).toNat).size ≤ 9223372036854775807) = true := decide_eq_true c13
                    try have c13b2 : (9223372036854775807 < (x5_1 ++ (a0.extract (x6_1 : Int).toNat ((wrap64 (x6_1 + 1)) : Int).toNat)).size + (a0.extract (x6_1 : Int).toNat ((wrap64 (x6_1 + 1)) : Int).toNat).size) = False := eq_false (Nat.not_lt.2 c13)
                    try have c13b3 : (9223372036854775807 < x5_1.size + (a0.extract (x6_1 : Int).toNat ((wrap64 (x6_1 + 1)) : Int).toNat).size + (a0.extract (x6_1 : Int).toNat ((wrap64 (x6_1 + 1)) : Int).toNat).size) = False := eq_false (by have h_ := c13; simp only [ByteArray.size_append] at h_; omega)
                    have H' := Aside0.mk H
                    clear H
                    have p8 : 0 ≤ (x6_1 : Int) := of_decide_eq_true (by first | (with_reducible assumption) | assumption)
                    have q8 : x6_1 < (a0.size : Int) := of_decide_eq_true (by first | (with_reducible assumption) | assumption)
                    have hx8 := bt_at a0 x6_1
                    replace p8 := eq_true p8
                    replace q8 := eq_true q8
                    go_wp2
                    go_roundg k1
                    case measure => have := HK1.out; omega
                    case rel => exact ⟨((x5_1 ++ (a0.extract (x6_1 : Int).toNat ((wrap64 (x6_1 + 1)) : Int).toNat)) ++ (a0.extract (x6_1 : Int).toNat ((wrap64 (x6_1 + 1)) : Int).toNat)), (wrap64 (x6_1 + 1)), (by first | rfl | (simp; done) | (simp [*]; done)), (by first | rfl | (simp; done) | (simp [*]; done)), H', ⟨by have := HK1.out; omega⟩, by repeat (first | exact Drawn0.refl _ | apply Drawn0.step)⟩
                  · rw [if_neg c13] at H
                    exact absurd H (by simp)
                · rw [if_neg c9] at H
                  have c9b0 : ((bt a0 x6_1) == a1) = false := beq_eq_false_iff_ne.mpr c9
                  have c9b1 : ((bt a0 x6_1) != a1) = true := bne_iff_ne.mpr c9
                  have H' := Aside0.mk H
                  clear H
                  have p8 : 0 ≤ (x6_1 : Int) := of_decide_eq_true (by first | (with_reducible assumption) | assumption)
                  have q8 : x6_1 < (a0.size : Int) := of_decide_eq_true (by first | (with_reducible assumption) | assumption)
                  have hx8 := bt_at a0 x6_1
                  replace p8 := eq_true p8
                  replace q8 := eq_true q8
                  go_wp2
                  go_roundg k1
                  case measure => have := HK1.out; omega
                  case rel => exact ⟨(x5_1 ++ (a0.extract (x6_1 : Int).toNat ((wrap64 (x6_1 + 1)) : Int).toNat)), (wrap64 (x6_1 + 1)), (by first | rfl | (simp; done) | (simp [*]; done)), (by first | rfl | (simp; done) | (simp [*]; done)), H', ⟨by have := HK1.out; omega⟩, by repeat (first | exact Drawn0.refl _ | apply Drawn0.step)⟩
              · rw [if_neg c7] at H
                exact absurd H (by simp)
            · rw [if_neg c6] at H
              exact absurd H (by simp)
          · rw [if_neg c5] at H
            exact absurd H (by simp)
        · rw [if_neg c4] at H
          exact absurd H (by simp)
      · rw [if_neg c3] at H
        have c3b0 : decide (x6_1 < (a0.size : Int)) = false := decide_eq_false c3
        clear c3
        obtain rfl := Option.some.inj H
        go_wp2
        go_ret
        exact ⟨by first | rfl | (simp; done) | (simp [*]; done), by repeat (first | exact Drawn0.refl _ | apply Drawn0.step)⟩

/-! ### spec_Identifier: function 20 -/
def spec_Identifier.l0 : Nat → ByteArray → Int → Option (ByteArray)
  | 0, _, _ => none
  | k + 1, x0, x3 => if x3 < (x0.size : Int) then (if 0 ≤ x3 then (if (bt x0 x3) = 0 then (if x3 ≤ (x0.size : Int) then (spec_Identifier.l0 k (x0.extract 0 (x3 : Int).toNat) (wrap64 (x3 + 1))) else (none)) else (spec_Identifier.l0 k x0 (wrap64 (x3 + 1)))) else (none)) else ((spec_doubled.f k x0 34).bind fun t183 => (if 1 + t183.size ≤ 9223372036854775807 then (if ((⟨#[34]⟩ : ByteArray) ++ t183).size + 1 ≤ 9223372036854775807 then (some (((⟨#[34]⟩ : ByteArray) ++ t183) ++ (⟨#[34]⟩ : ByteArray))) else (none)) else (none)))
def spec_Identifier.f (k : Nat) (a0 : ByteArray) : Option (ByteArray) := spec_Identifier.l0 k a0 0
theorem spec_Identifier.mono_l : ∀ k, (∀ y0 y1, LeO (spec_Identifier.l0 k y0 y1) (spec_Identifier.l0 (k + 1) y0 y1))
  | 0 => fun _ _ r h => by simp [spec_Identifier.l0] at h
  | k + 1 => by
    have ih0 := spec_Identifier.mono_l k
    · intro y0 y1
      unfold spec_Identifier.l0
      repeat' first
      | (with_reducible exact ih0 _ _)
      | (with_reducible exact spec_doubled.mono _ _ _)
      | (with_reducible exact LeO.refl _)
      | (with_reducible exact LeO.none _)
      | (with_reducible refine LeO.ite ?_ ?_)
      | (with_reducible refine LeO.bind ?_ (fun _ => ?_))
      | exact ih0 _ _
      | exact spec_doubled.mono _ _ _
      | exact LeO.none _
      | refine LeO.ite ?_ ?_
      | refine LeO.bind ?_ (fun _ => ?_)
theorem spec_Identifier.mono : ∀ a0 k, LeO (spec_Identifier.f k a0) (spec_Identifier.f (k + 1) a0) := by
  intro a0 k
  have ih0 := spec_Identifier.mono_l k
  unfold spec_Identifier.f
  repeat' first
      | (with_reducible exact ih0 _ _)
      | (with_reducible exact spec_doubled.mono _ _ _)
      | (with_reducible exact LeO.refl _)
      | (with_reducible exact LeO.none _)
      | (with_reducible refine LeO.ite ?_ ?_)
      | (with_reducible refine LeO.bind ?_ (fun _ => ?_))
      | exact ih0 _ _
      | exact spec_doubled.mono _ _ _
      | exact LeO.none _
      | refine LeO.ite ?_ ?_
      | refine LeO.bind ?_ (fun _ => ?_)
set_option maxHeartbeats 8000000 in
set_option maxRecDepth 100000 in
theorem spec_Identifier.calls (k : Nat) (a0 : ByteArray) (r : ByteArray) (w : World) (h : spec_Identifier.f k a0 = some r) :
    Calls Try.prog 20 #[.string a0] w fun e w' => e = .returned (.string r) ∧ Drawn0 w w' := by
  have H : (spec_Identifier.l0 k a0 0) = some r := h
  clear h
  have H' := Aside0.mk H
  clear H
  go_enter Try.func20, Try.ntmps20
  go_wp2
  go_loopg [0, 3] k (fun kq v0 v3 w' => ∃ (x0_1 : ByteArray) (x3_1 : Int), v0 = .string x0_1 ∧ v3 = .int .i64 x3_1 ∧ Aside0 (spec_Identifier.l0 kq x0_1 x3_1 = some r) ∧ Aside0 (kq ≤ k) ∧ Drawn0 w w')
  case atStart => exact ⟨(a0), (0), (by first | rfl | (simp; done) | (simp [*]; done)), (by first | rfl | (simp; done) | (simp [*]; done)), H', ⟨Nat.le_refl _⟩, by repeat (first | exact Drawn0.refl _ | apply Drawn0.step)⟩
  case round =>
    clear H'
    obtain ⟨x0_1, x3_1, rfl, rfl, HA, HK1, ⟨m1, rfl⟩⟩ := hrel
    cases gk with
    | zero => exact absurd HA.out (by simp [spec_Identifier.l0])
    | succ k1 =>
      have H := HA.out
      clear HA
      simp only [spec_Identifier.l0] at H
      by_cases c2 : x3_1 < (x0_1.size : Int)
      · rw [if_pos c2] at H
        have c2b0 : decide (x3_1 < (x0_1.size : Int)) = true := decide_eq_true c2
        clear c2
        by_cases c3 : 0 ≤ x3_1
        · rw [if_pos c3] at H
          have c3b0 : decide (0 ≤ x3_1) = true := decide_eq_true c3
          clear c3
          by_cases c5 : (bt x0_1 x3_1) = 0
          · rw [if_pos c5] at H
            have c5b0 : ((bt x0_1 x3_1) == 0) = true := beq_iff_eq.mpr c5
            have c5b1 : ((bt x0_1 x3_1) != 0) = false := bne_eq_false_iff_eq.mpr c5
            clear c5
            have c6b0 := eq_true (of_decide_eq_true (by first | (with_reducible assumption) | assumption) : 0 ≤ x3_1)
            by_cases c7 : x3_1 ≤ (x0_1.size : Int)
            · rw [if_pos c7] at H
              have c7b0 := eq_true c7
              have c7b1 : decide (x3_1 ≤ (x0_1.size : Int)) = true := decide_eq_true c7
              clear c7
              have H' := Aside0.mk H
              clear H
              have p4 : 0 ≤ (x3_1 : Int) := of_decide_eq_true (by first | (with_reducible assumption) | assumption)
              have q4 : x3_1 < (x0_1.size : Int) := of_decide_eq_true (by first | (with_reducible assumption) | assumption)
              have hx4 := bt_at x0_1 x3_1
              replace p4 := eq_true p4
              replace q4 := eq_true q4
              go_wp2
              go_roundg k1
              case measure => have := HK1.out; omega
              case rel => exact ⟨(x0_1.extract 0 (x3_1 : Int).toNat), (wrap64 (x3_1 + 1)), (by first | rfl | (simp; done) | (simp [*]; done)), (by first | rfl | (simp; done) | (simp [*]; done)), H', ⟨by have := HK1.out; omega⟩, by repeat (first | exact Drawn0.refl _ | apply Drawn0.step)⟩
            · rw [if_neg c7] at H
              exact absurd H (by simp)
          · rw [if_neg c5] at H
            have c5b0 : ((bt x0_1 x3_1) == 0) = false := beq_eq_false_iff_ne.mpr c5
            have c5b1 : ((bt x0_1 x3_1) != 0) = true := bne_iff_ne.mpr c5
            have H' := Aside0.mk H
            clear H
            have p4 : 0 ≤ (x3_1 : Int) := of_decide_eq_true (by first | (with_reducible assumption) | assumption)
            have q4 : x3_1 < (x0_1.size : Int) := of_decide_eq_true (by first | (with_reducible assumption) | assumption)
            have hx4 := bt_at x0_1 x3_1
            replace p4 := eq_true p4
            replace q4 := eq_true q4
            go_wp2
            go_roundg k1
            case measure => have := HK1.out; omega
            case rel => exact ⟨(x0_1), (wrap64 (x3_1 + 1)), (by first | rfl | (simp; done) | (simp [*]; done)), (by first | rfl | (simp; done) | (simp [*]; done)), H', ⟨by have := HK1.out; omega⟩, by repeat (first | exact Drawn0.refl _ | apply Drawn0.step)⟩
        · rw [if_neg c3] at H
          exact absurd H (by simp)
      · rw [if_neg c2] at H
        have c2b0 : decide (x3_1 < (x0_1.size : Int)) = false := decide_eq_false c2
        clear c2
        replace H := Option.bind_eq_some_iff.mp H
        obtain ⟨t183, A80, H⟩ := H
        replace H : (if 1 + t183.size ≤ 9223372036854775807 then (if ((⟨#[34]⟩ : ByteArray) ++ t183).size + 1 ≤ 9223372036854775807 then (some (((⟨#[34]⟩ : ByteArray) ++ t183) ++ (⟨#[34]⟩ : ByteArray))) else (none)) else (none)) = some r := H
        have A8 := Aside0.mk A80
        clear A80
        by_cases c9 : 1 + t183.size ≤ 9223372036854775807
        · rw [if_pos c9] at H
          have c9b0 := eq_true c9
          have c9b1 : decide (1 + t183.size ≤ 9223372036854775807) = true := decide_eq_true c9
          try have c9b2 : (9223372036854775807 < 1 + t183.size) = False := eq_false (Nat.not_lt.2 c9)
          by_cases c10 : ((⟨#[34]⟩ : ByteArray) ++ t183).size + 1 ≤ 9223372036854775807
          · rw [if_pos c10] at H
            have c10b0 := eq_true c10
            have c10b1 : decide (((⟨#[34]⟩ : ByteArray) ++ t183).size + 1 ≤ 9223372036854775807) = true := decide_eq_true c10
            try have c10b2 : (9223372036854775807 < ((⟨#[34]⟩ : ByteArray) ++ t183).size + 1) = False := eq_false (Nat.not_lt.2 c10)
            try have c10b3 : (9223372036854775807 < 1 + t183.size + 1) = False := eq_false (by have h_ := c10; simp only [ByteArray.size_append, show (⟨#[34]⟩ : ByteArray).size = 1 from rfl] at h_; omega)
            obtain rfl := Option.some.inj H
            go_wp2_with (first | ((with_reducible refine gate_callee (f := 29) rfl ?_); refine goesL_ (some 18) rfl rfl Try.func29 (by kernel_rfl) rfl #[.string x0_1, .int .u8 34] rfl (by (try simp only [List.map_toArray, List.map_cons, List.map_nil]); first | done | rfl | (simp only [List.length_drop, List.length_take]; rfl)) ?_; (with_reducible refine (spec_doubled.calls k1 x0_1 34 t183 _ A8.out).mono ?_); rintro e w' ⟨rfl, ⟨nd, rfl⟩⟩; refine ⟨_, rfl, ?_⟩))
            go_ret
            exact ⟨by first | rfl | (simp; done) | (simp [*]; done), by repeat (first | exact Drawn0.refl _ | apply Drawn0.step)⟩
          · rw [if_neg c10] at H
            exact absurd H (by simp)
        · rw [if_neg c9] at H
          exact absurd H (by simp)

/-! ### laws_FnIdentifier: function 7 -/
def laws_FnIdentifier.f (k : Nat) (a0 : ByteArray) : Option (Bool) := if (a0.size : Int) > 2147483647 then (some true) else (if (a0.size : Int) > 1000 then (some true) else ((spec_UTF8.f k a0).bind fun t184 => (if t184 = true then ((impl_Identifier.f k a0).bind fun t185 => ((spec_Identifier.f k a0).bind fun t186 => (some (t185.toList == t186.toList)))) else (some true))))
theorem laws_FnIdentifier.mono : ∀ a0 k, LeO (laws_FnIdentifier.f k a0) (laws_FnIdentifier.f (k + 1) a0) := by
  intro a0 k
  unfold laws_FnIdentifier.f
  repeat' first
      | (with_reducible exact impl_Identifier.mono _ _)
      | (with_reducible exact spec_Identifier.mono _ _)
      | (with_reducible exact spec_UTF8.mono _ _)
      | (with_reducible exact LeO.refl _)
      | (with_reducible exact LeO.none _)
      | (with_reducible refine LeO.ite ?_ ?_)
      | (with_reducible refine LeO.bind ?_ (fun _ => ?_))
      | exact impl_Identifier.mono _ _
      | exact spec_Identifier.mono _ _
      | exact spec_UTF8.mono _ _
      | exact LeO.none _
      | refine LeO.ite ?_ ?_
      | refine LeO.bind ?_ (fun _ => ?_)
set_option maxHeartbeats 8000000 in
set_option maxRecDepth 100000 in
theorem laws_FnIdentifier.calls (k : Nat) (a0 : ByteArray) (r : Bool) (w : World) (h : laws_FnIdentifier.f k a0 = some r) :
    Calls Try.prog 7 #[.string a0] w fun e w' => e = .returned (.bool r) ∧ Below w.heap.size w w' := by
  have HB := Aside0.mk (Below.refl w.heap.size w)
  have H : (if (a0.size : Int) > 2147483647 then (some true) else (if (a0.size : Int) > 1000 then (some true) else ((spec_UTF8.f k a0).bind fun t184 => (if t184 = true then ((impl_Identifier.f k a0).bind fun t185 => ((spec_Identifier.f k a0).bind fun t186 => (some (t185.toList == t186.toList)))) else (some true))))) = some r := h
  clear h
  by_cases c2 : (a0.size : Int) > 2147483647
  · rw [if_pos c2] at H
    have c2b0 : decide (2147483647 < (a0.size : Int)) = true := decide_eq_true c2
    have c2b1 : decide (2147483647 < a0.size) = true := decide_eq_true (by omega)
    clear c2
    obtain rfl := Option.some.inj H
    go_enter Try.func7, Try.ntmps7
    go_wp2
    go_ret
    exact ⟨by first | rfl | (simp [errW_none, errW_some] <;> rfl) | (simp [*, errW_none, errW_some] <;> rfl), by repeat (first | (with_reducible first | exact HB.out | apply below_alloc | apply pw_below_drewN | apply below_drew1) | exact HB.out)⟩
  · rw [if_neg c2] at H
    have c2b0 : decide (2147483647 < (a0.size : Int)) = false := decide_eq_false c2
    have c2b1 : decide (2147483647 < a0.size) = false := decide_eq_false (by omega)
    clear c2
    by_cases c3 : (a0.size : Int) > 1000
    · rw [if_pos c3] at H
      have c3b0 : decide (1000 < (a0.size : Int)) = true := decide_eq_true c3
      have c3b1 : decide (1000 < a0.size) = true := decide_eq_true (by omega)
      clear c3
      obtain rfl := Option.some.inj H
      go_enter Try.func7, Try.ntmps7
      go_wp2
      go_ret
      exact ⟨by first | rfl | (simp [errW_none, errW_some] <;> rfl) | (simp [*, errW_none, errW_some] <;> rfl), by repeat (first | (with_reducible first | exact HB.out | apply below_alloc | apply pw_below_drewN | apply below_drew1) | exact HB.out)⟩
    · rw [if_neg c3] at H
      have c3b0 : decide (1000 < (a0.size : Int)) = false := decide_eq_false c3
      have c3b1 : decide (1000 < a0.size) = false := decide_eq_false (by omega)
      clear c3
      replace H := Option.bind_eq_some_iff.mp H
      obtain ⟨t184, A40, H⟩ := H
      replace H : (if t184 = true then ((impl_Identifier.f k a0).bind fun t185 => ((spec_Identifier.f k a0).bind fun t186 => (some (t185.toList == t186.toList)))) else (some true)) = some r := H
      have A4 := Aside0.mk A40
      clear A40
      by_cases c5 : t184 = true
      · subst c5
        have H1 : ((impl_Identifier.f k a0).bind fun t185 => ((spec_Identifier.f k a0).bind fun t186 => (some (t185.toList == t186.toList)))) = some r := by rw [if_pos rfl] at H; exact H
        clear H
        have H := H1
        clear H1
        replace H := Option.bind_eq_some_iff.mp H
        obtain ⟨t185, A60, H⟩ := H
        replace H : ((spec_Identifier.f k a0).bind fun t186 => (some (t185.toList == t186.toList))) = some r := H
        have A6 := Aside0.mk A60
        clear A60
        replace H := Option.bind_eq_some_iff.mp H
        obtain ⟨t186, A70, H⟩ := H
        replace H : (some (t185.toList == t186.toList)) = some r := H
        have A7 := Aside0.mk A70
        clear A70
        obtain rfl := Option.some.inj H
        go_enter Try.func7, Try.ntmps7
        go_wp2_with (first | (go_at_call 18; (with_reducible refine (spec_UTF8.calls k a0 true _ A4.out).mono ?_); rintro e w8 ⟨rfl, hb⟩; have n0_ := Aside0.mk (below_step (by repeat (first | (with_reducible first | exact HB.out | apply below_alloc | apply pw_below_drewN | apply below_drew1) | exact HB.out)) hb); clear HB; have HB := n0_; clear n0_; (try clear hb); (try clear hb2); (try clear hk); (try clear hi)) | (go_at_call 19; (with_reducible refine (impl_Identifier.calls k a0 t185 _ A6.out).mono ?_); rintro e w9 ⟨rfl, hb⟩; have n0_ := Aside0.mk (below_step (by repeat (first | (with_reducible first | exact HB.out | apply below_alloc | apply pw_below_drewN | apply below_drew1) | exact HB.out)) hb); clear HB; have HB := n0_; clear n0_; (try clear hb); (try clear hb2); (try clear hk); (try clear hi)) | (go_at_call 20; (with_reducible refine (spec_Identifier.calls k a0 t186 _ A7.out).mono ?_); rintro e w' ⟨rfl, ⟨nd, rfl⟩⟩))
        go_ret
        exact ⟨by first | rfl | (simp [errW_none, errW_some] <;> rfl) | (simp [*, errW_none, errW_some] <;> rfl), by repeat (first | (with_reducible first | exact HB.out | apply below_alloc | apply pw_below_drewN | apply below_drew1) | exact HB.out)⟩
      · replace c5 := Bool.eq_false_iff.mpr c5
        subst c5
        have H1 : (some true) = some r := by rw [if_neg (show ¬ (false = true) by decide)] at H; exact H
        clear H
        have H := H1
        clear H1
        obtain rfl := Option.some.inj H
        go_enter Try.func7, Try.ntmps7
        go_wp2_with (first | (go_at_call 18; (with_reducible refine (spec_UTF8.calls k a0 false _ A4.out).mono ?_); rintro e w10 ⟨rfl, hb⟩; have n0_ := Aside0.mk (below_step (by repeat (first | (with_reducible first | exact HB.out | apply below_alloc | apply pw_below_drewN | apply below_drew1) | exact HB.out)) hb); clear HB; have HB := n0_; clear n0_; (try clear hb); (try clear hb2); (try clear hk); (try clear hi)))
        go_ret
        exact ⟨by first | rfl | (simp [errW_none, errW_some] <;> rfl) | (simp [*, errW_none, errW_some] <;> rfl), by repeat (first | (with_reducible first | exact HB.out | apply below_alloc | apply pw_below_drewN | apply below_drew1) | exact HB.out)⟩

/-- THE ONE PURE STATEMENT of laws_FnIdentifier: yours. -/
def laws_FnIdentifier.Pure : Prop := ∀ (a0 : ByteArray), a0.size ≤ 140737488351232 → ∃ k, laws_FnIdentifier.f k a0 = some true
theorem laws_FnIdentifier.walk (P : laws_FnIdentifier.Pure) (a0 : ByteArray) (w : World) (w0 : a0.size ≤ 140737488351232) :
    Calls Try.prog 7 #[.string a0] w fun e w' => e = .returned (.bool true) ∧ Below w.heap.size w w' := by
  obtain ⟨k, h⟩ := P a0 w0
  refine (laws_FnIdentifier.calls k a0 true w h).mono ?_
  rintro e w' ⟨rfl, hd⟩
  exact ⟨rfl, hd⟩

end Go.Proofs.Ytlfkejljbehcaaa.P
