-- Written by the program wip/myprint.py of this session, over the kit's print of the translation. Lean checks it.
import Derived.Test.YthcikkjjegfblacDoorPx0
import Derived.Test.YthcikkjjegfblacDoorPx1
namespace Go.Proofs.YthcikkjjegfblacDoor.P
open Go.RowKit Go.Proofs.YthcikkjjegfblacDoorW.PrintWords Go.Proofs.YthcikkjjegfblacDoorW.PrintLast Go.Proofs.YthcikkjjegfblacDoorW.PrintMore
attribute [local go_sem] max2_int min2_int max_two min_two max_three min_three max_four min_four   -- for this text's walks alone
set_option linter.unusedVariables false
set_option linter.unusedSimpArgs false

/-! ### internal_strconv_ParseUint: function 60 -/
def internal_strconv_ParseUint.l0 : Nat → List Int → Int → Option (Int × Option Int)
  | 0, _, _ => none
  | k + 1, l, n => match l with
    | [] => some (n, none)
    | c :: t => if 48 ≤ c then (if c ≤ 55 then (if n * 8 + (c - 48) ≤ 255 then internal_strconv_ParseUint.l0 k t (n * 8 + (c - 48)) else none) else none) else none
def internal_strconv_ParseUint.f (k : Nat) (a0 : ByteArray) (a1 : Int) (a2 : Int) : Option (Int × Option Int) := if a0.size ≤ 9223372036854775807 then (if 0 < a0.size then (if a1 = 8 then (if a2 = 8 then internal_strconv_ParseUint.l0 k (bytesOf a0) 0 else none) else none) else none) else none
theorem internal_strconv_ParseUint.mono_l : ∀ k, ∀ y0 y1, LeO (internal_strconv_ParseUint.l0 k y0 y1) (internal_strconv_ParseUint.l0 (k + 1) y0 y1)
  | 0 => fun _ _ r h => by simp [internal_strconv_ParseUint.l0] at h
  | k + 1 => fun y0 y1 => by
    have ih := internal_strconv_ParseUint.mono_l k
    cases y0 with
    | nil => exact LeO.refl _
    | cons c t =>
      unfold internal_strconv_ParseUint.l0
      exact LeO.ite (LeO.ite (LeO.ite (ih _ _) (LeO.refl _)) (LeO.refl _)) (LeO.refl _)
theorem internal_strconv_ParseUint.mono : ∀ a0 a1 a2 k, LeO (internal_strconv_ParseUint.f k a0 a1 a2) (internal_strconv_ParseUint.f (k + 1) a0 a1 a2) := by
  intro a0 a1 a2 k
  unfold internal_strconv_ParseUint.f
  exact LeO.ite (LeO.ite (LeO.ite (LeO.ite (internal_strconv_ParseUint.mono_l _ _ _) (LeO.refl _)) (LeO.refl _)) (LeO.refl _)) (LeO.refl _)
set_option maxHeartbeats 1000000 in
set_option maxRecDepth 100000 in
theorem internal_strconv_ParseUint.calls (k : Nat) (a0 : ByteArray) (a1 : Int) (a2 : Int) (r1 : Int) (r2 : Option Int) (w : World) (h : internal_strconv_ParseUint.f k a0 a1 a2 = some (r1, r2)) :
    Calls Tryd.prog 60 #[.string a0, .int .i64 a1, .int .i64 a2] w fun e w' => e = .returned (.tuple #[.int .u64 r1, errW r2]) ∧ Below w.heap.size w w' := by
  have H : (if a0.size ≤ 9223372036854775807 then (if 0 < a0.size then (if a1 = 8 then (if a2 = 8 then internal_strconv_ParseUint.l0 k (bytesOf a0) 0 else none) else none) else none) else none) = some (r1, r2) := h
  clear h
  by_cases c1 : a0.size ≤ 9223372036854775807
  · rw [if_pos c1] at H
    by_cases c2 : 0 < a0.size
    · rw [if_pos c2] at H
      by_cases c3 : a1 = 8
      · rw [if_pos c3] at H
        by_cases c4 : a2 = 8
        · rw [if_pos c4] at H
          subst c3 c4
          have H' := Aside0.mk H
          have HS := Aside0.mk c1
          have HZ := Aside0.mk c2
          clear H
          have d0 : a0.toList.isEmpty = false := by
            rw [ByteArray.toList_eq]
            cases e : a0.data.toList with
            | nil => have := data_length a0; rw [e] at this; simp at this; omega
            | cons _ _ => rfl
          have d1 : (a0.toList == ([] : List UInt8)) = false := by
            cases e : a0.toList with
            | nil => rw [e] at d0; cases d0
            | cons _ _ => rfl
          clear c1 c2
          have kb := fun W => print_bytes (P := Tryd.prog) 9 54 5 Tryd.underlying9 Tryd.underlying54 Tryd.underlying5 a0 W
          go_enter Tryd.func60, Tryd.ntmps60
          go_wp2
          go_loopg [12, 13, 101] k (fun kq v12 v13 v101 w' => ∃ (j : Nat) (x : Int), v12 = .bool false ∧ v13 = .int .u64 x ∧ v101 = .int .i64 j ∧ Aside0 (j ≤ a0.size ∧ 0 ≤ x ∧ x ≤ 255) ∧ Aside0 (internal_strconv_ParseUint.l0 kq ((bytesOf a0).drop j) x = some (r1, r2)) ∧ Aside0 (kq ≤ k) ∧ Drawn0 (Lib.bytesWorld w 5 a0) w')
          case atStart => exact ⟨0, 0, rfl, rfl, rfl, ⟨by omega⟩, H', ⟨Nat.le_refl _⟩, Drawn0.refl _⟩
          case round =>
            clear H' d0 d1
            obtain ⟨j, x, rfl, rfl, rfl, HJ, HA, HK1, ⟨m1, rfl⟩⟩ := hrel
            have hx0 : 0 ≤ x := HJ.out.2.1
            have hx1 : x ≤ 255 := HJ.out.2.2
            cases gk with
            | zero => exact absurd HA.out (by simp [internal_strconv_ParseUint.l0])
            | succ k1 =>
              have H := HA.out
              clear HA
              by_cases hj : j < a0.size
              · have hl : j < a0.data.toList.length := by rw [data_length]; exact hj
                have hd : (bytesOf a0).drop j = ((a0.data.toList.getD j 0).toNat : Int) :: (bytesOf a0).drop (j + 1) := by
                  rw [List.drop_eq_getElem_cons (by rw [bytesOf_length]; exact hj)]
                  congr 1
                  simp [bytesOf, List.getD_eq_getElem?_getD, List.getElem?_eq_getElem hl]
                rw [hd] at H
                have hcell := Lib.bytesWorld_cell w 5 a0 j hj
                generalize ((a0.data.toList.getD j 0).toNat : Int) = c at H hcell
                clear hd hl
                simp only [internal_strconv_ParseUint.l0] at H
                by_cases e1 : 48 ≤ c
                · rw [if_pos e1] at H
                  by_cases e2 : c ≤ 55
                  · rw [if_pos e2] at H
                    by_cases e3 : x * 8 + (c - 48) ≤ 255
                    · rw [if_pos e3] at H
                      have H' := Aside0.mk H
                      clear H
                      have hjj : (j : Int) < 9223372036854775807 := by have := HS.out; omega
                      have q1 : (c == 95) = false := beq_eq_false_iff_ne.mpr (by omega)
                      have q2 : decide (48 ≤ c) = true := decide_eq_true e1
                      have q3 : decide (c ≤ 57) = true := decide_eq_true (by omega)
                      have q4 : decide (8 ≤ c - 48) = false := decide_eq_false (by omega)
                      have q5 : decide (2305843009213693952 ≤ x) = false := decide_eq_false (by omega)
                      have q6 : decide (x * 8 + (c - 48) < x * 8) = false := decide_eq_false (by omega)
                      have q7 : decide (255 < x * 8 + (c - 48)) = false := decide_eq_false (by omega)
                      have e3' := Aside0.mk e3
                      clear e3
                      go_wp2
                      go_roundg k1
                      case measure => have := HK1.out; omega
                      case rel => exact ⟨j + 1, x * 8 + (c - 48), rfl, by first | rfl | (congr 1; omega), by go_num, ⟨by have := e3'.out; omega⟩, H', ⟨by have := HK1.out; omega⟩, by repeat (first | exact Drawn0.refl _ | apply Drawn0.step)⟩
                    · rw [if_neg e3] at H
                      exact absurd H (by simp)
                  · rw [if_neg e2] at H
                    exact absurd H (by simp)
                · rw [if_neg e1] at H
                  exact absurd H (by simp)
              · have hd : (bytesOf a0).drop j = [] := List.drop_eq_nil_of_le (by rw [bytesOf_length]; omega)
                rw [hd] at H
                simp only [internal_strconv_ParseUint.l0, Option.some.injEq, Prod.mk.injEq] at H
                obtain ⟨rfl, rfl⟩ := H
                clear hd
                go_wp2
                go_ret2
                exact ⟨by first | rfl | (simp [errW_none]; done), by repeat (first | exact bytes_below (Below.refl w.heap.size w) (Nat.le_refl _) _ _ | apply pw_below_drewN | apply below_drew1)⟩
        · rw [if_neg c4] at H
          exact absurd H (by simp)
      · rw [if_neg c3] at H
        exact absurd H (by simp)
    · rw [if_neg c2] at H
      exact absurd H (by simp)
  · rw [if_neg c1] at H
    exact absurd H (by simp)

/-! ### strconv_ParseUint: function 48 -/
def strconv_ParseUint.f (k : Nat) (a0 : ByteArray) (a1 : Int) (a2 : Int) : Option (Int × Option Int) := (internal_strconv_ParseUint.f k a0 a1 a2).bind fun bt139 => (if bt139.2.isNone = true then (some (bt139.1, none)) else ((strconv_toError.f (⟨#[80, 97, 114, 115, 101, 85, 105, 110, 116]⟩ : ByteArray) a0 a1 a2 (some (bt139.2.getD 0))).bind fun t142 => (some (bt139.1, t142))))
theorem strconv_ParseUint.mono : ∀ a0 a1 a2 k, LeO (strconv_ParseUint.f k a0 a1 a2) (strconv_ParseUint.f (k + 1) a0 a1 a2) := by
  intro a0 a1 a2 k
  unfold strconv_ParseUint.f
  repeat' first
      | (with_reducible exact internal_strconv_ParseUint.mono _ _ _ _)
      | (with_reducible exact LeO.refl _)
      | (with_reducible exact LeO.none _)
      | (with_reducible refine LeO.ite ?_ ?_)
      | (with_reducible refine LeO.bind ?_ (fun _ => ?_))
      | exact internal_strconv_ParseUint.mono _ _ _ _
      | exact LeO.none _
      | refine LeO.ite ?_ ?_
      | refine LeO.bind ?_ (fun _ => ?_)
set_option maxHeartbeats 8000000 in
set_option maxRecDepth 100000 in
theorem strconv_ParseUint.calls (k : Nat) (a0 : ByteArray) (a1 : Int) (a2 : Int) (r1 : Int) (r2 : Option Int) (w : World) (h : strconv_ParseUint.f k a0 a1 a2 = some (r1, r2)) :
    Calls Tryd.prog 48 #[.string a0, .int .i64 a1, .int .i64 a2] w fun e w' => e = .returned (.tuple #[.int .u64 r1, errW r2]) ∧ Below w.heap.size w w' := by
  have hu51 := Tryd.underlying51
  have hu109 := Tryd.underlying109
  have HB := Aside0.mk (Below.refl w.heap.size w)
  have H : ((internal_strconv_ParseUint.f k a0 a1 a2).bind fun bt139 => (if bt139.2.isNone = true then (some (bt139.1, none)) else ((strconv_toError.f (⟨#[80, 97, 114, 115, 101, 85, 105, 110, 116]⟩ : ByteArray) a0 a1 a2 (some (bt139.2.getD 0))).bind fun t142 => (some (bt139.1, t142))))) = some (r1, r2) := h
  clear h
  replace H := Option.bind_eq_some_iff.mp H
  obtain ⟨⟨t139, t140⟩, A40, H⟩ := H
  replace H : (if t140.isNone = true then (some (t139, none)) else ((strconv_toError.f (⟨#[80, 97, 114, 115, 101, 85, 105, 110, 116]⟩ : ByteArray) a0 a1 a2 (some (t140.getD 0))).bind fun t142 => (some (t139, t142)))) = some (r1, r2) := H
  have A4 := Aside0.mk A40
  clear A40
  rcases t140 with _ | q141
  · have H1 : (some (t139, none)) = some (r1, r2) := by rw [if_pos (show (none : Option Int).isNone = true by rfl)] at H; exact H
    clear H
    have H := H1
    clear H1
    try simp only [errW_none, errW_some]
    simp only [Option.some.injEq, Prod.mk.injEq] at H
    obtain ⟨rfl, rfl⟩ := H
    go_enter Tryd.func48, Tryd.ntmps48
    go_wp2_with (first | ((with_reducible refine gate_callee (f := 60) rfl ?_); refine goesL_ (some 14) rfl rfl Tryd.func60 (by kernel_rfl) rfl #[.string a0, .int .i64 a1, .int .i64 a2] rfl (by (try simp only [List.map_toArray, List.map_cons, List.map_nil]); first | done | rfl | (simp only [List.length_drop, List.length_take]; rfl)) ?_; (with_reducible refine (internal_strconv_ParseUint.calls k a0 a1 a2 t139 none _ A4.out).mono ?_); rintro e w5 ⟨rfl, hb⟩; refine ⟨_, rfl, ?_⟩; have n0_ := Aside0.mk (below_step (by repeat (first | (with_reducible first | exact HB.out | apply below_alloc | apply pw_below_drewN | apply below_drew1) | exact HB.out)) hb); clear HB; have HB := n0_; clear n0_; (try clear hb); (try clear hb2); (try clear hk); (try clear hi); (try simp only [errW_none, errW_some])))
    go_ret2
    exact ⟨by first | rfl | (simp [errW_none, errW_some] <;> rfl) | (simp [*, errW_none, errW_some] <;> rfl), by repeat (first | (with_reducible first | exact HB.out | apply below_alloc | apply pw_below_drewN | apply below_drew1) | exact HB.out)⟩
  · have H1 : ((strconv_toError.f (⟨#[80, 97, 114, 115, 101, 85, 105, 110, 116]⟩ : ByteArray) a0 a1 a2 (some q141)).bind fun t142 => (some (t139, t142))) = some (r1, r2) := by rw [if_neg (show ¬ (some q141).isNone = true by simp)] at H; exact H
    clear H
    have H := H1
    clear H1
    try simp only [errW_none, errW_some]
    replace H := Option.bind_eq_some_iff.mp H
    obtain ⟨t142, A60, H⟩ := H
    replace H : (some (t139, t142)) = some (r1, r2) := H
    have A6 := Aside0.mk A60
    clear A60
    simp only [Option.some.injEq, Prod.mk.injEq] at H
    obtain ⟨rfl, rfl⟩ := H
    go_enter Tryd.func48, Tryd.ntmps48
    go_wp2_with (first | ((with_reducible refine gate_callee (f := 60) rfl ?_); refine goesL_ (some 14) rfl rfl Tryd.func60 (by kernel_rfl) rfl #[.string a0, .int .i64 a1, .int .i64 a2] rfl (by (try simp only [List.map_toArray, List.map_cons, List.map_nil]); first | done | rfl | (simp only [List.length_drop, List.length_take]; rfl)) ?_; (with_reducible refine (internal_strconv_ParseUint.calls k a0 a1 a2 t139 (some q141) _ A4.out).mono ?_); rintro e w7 ⟨rfl, hb⟩; refine ⟨_, rfl, ?_⟩; have n0_ := Aside0.mk (below_step (by repeat (first | (with_reducible first | exact HB.out | apply below_alloc | apply pw_below_drewN | apply below_drew1) | exact HB.out)) hb); clear HB; have HB := n0_; clear n0_; (try clear hb); (try clear hb2); (try clear hk); (try clear hi); (try simp only [errW_none, errW_some]); have CA6 := fun W => strconv_toError.calls (⟨#[80, 97, 114, 115, 101, 85, 105, 110, 116]⟩ : ByteArray) a0 a1 a2 (some q141) t142 W A6.out; try simp only [errW_none, errW_some] at CA6) | (go_at_call 59; (with_reducible refine (CA6 _).mono ?_); rintro e w' ⟨rfl, ⟨nd, rfl⟩⟩; (try simp only [errW_none, errW_some])))
    go_ret2
    exact ⟨by first | rfl | (simp [errW_none, errW_some] <;> rfl) | (simp [*, errW_none, errW_some] <;> rfl), by repeat (first | (with_reducible first | exact HB.out | apply below_alloc | apply pw_below_drewN | apply below_drew1) | exact HB.out)⟩

/-! ### pq_zzIndex: function 49 -/
def pq_zzIndex.l0 : Nat → ByteArray → ByteArray → Int → Option (Int)
  | 0, _, _, _ => none
  | k + 1, x0, x1, x5 => if (wrap64 (x5 + (x1.size : Int))) ≤ (x0.size : Int) then (if 0 ≤ x5 then (if x5 ≤ (wrap64 (x5 + (x1.size : Int))) then (if (x0.extract (x5 : Int).toNat ((wrap64 (x5 + (x1.size : Int))) : Int).toNat).toList = x1.toList then (some x5) else (pq_zzIndex.l0 k x0 x1 (wrap64 (x5 + 1)))) else (none)) else (none)) else (some (-1))
def pq_zzIndex.f (k : Nat) (a0 : ByteArray) (a1 : ByteArray) : Option (Int) := pq_zzIndex.l0 k a0 a1 0
theorem pq_zzIndex.mono_l : ∀ k, (∀ y0 y1 y2, LeO (pq_zzIndex.l0 k y0 y1 y2) (pq_zzIndex.l0 (k + 1) y0 y1 y2))
  | 0 => fun _ _ _ r h => by simp [pq_zzIndex.l0] at h
  | k + 1 => by
    have ih0 := pq_zzIndex.mono_l k
    · intro y0 y1 y2
      unfold pq_zzIndex.l0
      repeat' first
      | (with_reducible exact ih0 _ _ _)
      | (with_reducible exact LeO.refl _)
      | (with_reducible exact LeO.none _)
      | (with_reducible refine LeO.ite ?_ ?_)
      | (with_reducible refine LeO.bind ?_ (fun _ => ?_))
      | exact ih0 _ _ _
      | exact LeO.none _
      | refine LeO.ite ?_ ?_
      | refine LeO.bind ?_ (fun _ => ?_)
theorem pq_zzIndex.mono : ∀ a0 a1 k, LeO (pq_zzIndex.f k a0 a1) (pq_zzIndex.f (k + 1) a0 a1) := by
  intro a0 a1 k
  have ih0 := pq_zzIndex.mono_l k
  unfold pq_zzIndex.f
  repeat' first
      | (with_reducible exact ih0 _ _ _)
      | (with_reducible exact LeO.refl _)
      | (with_reducible exact LeO.none _)
      | (with_reducible refine LeO.ite ?_ ?_)
      | (with_reducible refine LeO.bind ?_ (fun _ => ?_))
      | exact ih0 _ _ _
      | exact LeO.none _
      | refine LeO.ite ?_ ?_
      | refine LeO.bind ?_ (fun _ => ?_)
set_option maxHeartbeats 8000000 in
set_option maxRecDepth 100000 in
theorem pq_zzIndex.calls (k : Nat) (a0 : ByteArray) (a1 : ByteArray) (r : Int) (w : World) (h : pq_zzIndex.f k a0 a1 = some r) :
    Calls Tryd.prog 49 #[.string a0, .string a1] w fun e w' => e = .returned (.int .i64 r) ∧ Drawn0 w w' := by
  have H : (pq_zzIndex.l0 k a0 a1 0) = some r := h
  clear h
  have H' := Aside0.mk H
  clear H
  go_enter Tryd.func49, Tryd.ntmps49
  go_wp2
  go_loopg [5] k (fun kq v5 w' => ∃ (x5_1 : Int), v5 = .int .i64 x5_1 ∧ Aside0 (pq_zzIndex.l0 kq a0 a1 x5_1 = some r) ∧ Aside0 (kq ≤ k) ∧ Drawn0 w w')
  case atStart => exact ⟨(0), (by first | rfl | (simp; done) | (simp [*]; done)), H', ⟨Nat.le_refl _⟩, by repeat (first | exact Drawn0.refl _ | apply Drawn0.step)⟩
  case round =>
    clear H'
    try clear p2
    obtain ⟨x5_1, rfl, HA, HK1, ⟨m1, rfl⟩⟩ := hrel
    cases gk with
    | zero => exact absurd HA.out (by simp [pq_zzIndex.l0])
    | succ k1 =>
      have H := HA.out
      clear HA
      simp only [pq_zzIndex.l0] at H
      by_cases c3 : (wrap64 (x5_1 + (a1.size : Int))) ≤ (a0.size : Int)
      · rw [if_pos c3] at H
        have c3b0 : decide ((wrap64 (x5_1 + (a1.size : Int))) ≤ (a0.size : Int)) = true := decide_eq_true c3
        clear c3
        by_cases c4 : 0 ≤ x5_1
        · rw [if_pos c4] at H
          have c4b0 := eq_true c4
          have c4b1 : decide (0 ≤ x5_1) = true := decide_eq_true c4
          clear c4
          by_cases c5 : x5_1 ≤ (wrap64 (x5_1 + (a1.size : Int)))
          · rw [if_pos c5] at H
            have c5b0 := eq_true c5
            have c5b1 : decide (x5_1 ≤ (wrap64 (x5_1 + (a1.size : Int)))) = true := decide_eq_true c5
            have c6b0 := eq_true (of_decide_eq_true (by first | (with_reducible assumption) | assumption) : (wrap64 (x5_1 + (a1.size : Int))) ≤ (a0.size : Int))
            by_cases c7 : (a0.extract (x5_1 : Int).toNat ((wrap64 (x5_1 + (a1.size : Int))) : Int).toNat).toList = a1.toList
            · rw [if_pos c7] at H
              have c7b0 : ((a0.extract (x5_1 : Int).toNat ((wrap64 (x5_1 + (a1.size : Int))) : Int).toNat).toList == a1.toList) = true := beq_iff_eq.mpr c7
              have c7b1 : ((a0.extract (x5_1 : Int).toNat ((wrap64 (x5_1 + (a1.size : Int))) : Int).toNat).toList != a1.toList) = false := bne_eq_false_iff_eq.mpr c7
              clear c7
              obtain rfl := Option.some.inj H
              go_wp2
              go_ret
              exact ⟨by first | rfl | (simp; done) | (simp [*]; done), by repeat (first | exact Drawn0.refl _ | apply Drawn0.step)⟩
            · rw [if_neg c7] at H
              have c7b0 : ((a0.extract (x5_1 : Int).toNat ((wrap64 (x5_1 + (a1.size : Int))) : Int).toNat).toList == a1.toList) = false := beq_eq_false_iff_ne.mpr c7
              have c7b1 : ((a0.extract (x5_1 : Int).toNat ((wrap64 (x5_1 + (a1.size : Int))) : Int).toNat).toList != a1.toList) = true := bne_iff_ne.mpr c7
              have H' := Aside0.mk H
              clear H
              go_wp2
              go_roundg k1
              case measure => have := HK1.out; omega
              case rel => exact ⟨(wrap64 (x5_1 + 1)), (by first | rfl | (simp; done) | (simp [*]; done)), H', ⟨by have := HK1.out; omega⟩, by repeat (first | exact Drawn0.refl _ | apply Drawn0.step)⟩
          · rw [if_neg c5] at H
            exact absurd H (by simp)
        · rw [if_neg c4] at H
          exact absurd H (by simp)
      · rw [if_neg c3] at H
        have c3b0 : decide ((wrap64 (x5_1 + (a1.size : Int))) ≤ (a0.size : Int)) = false := decide_eq_false c3
        clear c3
        obtain rfl := Option.some.inj H
        go_wp2
        go_ret
        exact ⟨by first | rfl | (simp; done) | (simp [*]; done), by repeat (first | exact Drawn0.refl _ | apply Drawn0.step)⟩

end Go.Proofs.YthcikkjjegfblacDoor.P
