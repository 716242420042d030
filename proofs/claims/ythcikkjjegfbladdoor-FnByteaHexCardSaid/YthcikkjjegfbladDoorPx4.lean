-- Written by the program wip/myprint.py of this session, over the kit's print of the translation. Lean checks it.
import Derived.Test.YthcikkjjegfbladDoorPx0
import Derived.Test.YthcikkjjegfbladDoorPx3
namespace Go.Proofs.YthcikkjjegfbladDoor.P
open Go.RowKit Go.Proofs.YthcikkjjegfbladDoorW.PrintWords Go.Proofs.YthcikkjjegfbladDoorW.PrintLast Go.Proofs.YthcikkjjegfbladDoorW.PrintMore
attribute [local go_sem] max2_int min2_int max_two min_two max_three min_three max_four min_four   -- for this text's walks alone
set_option linter.unusedVariables false
set_option linter.unusedSimpArgs false

/-! ### strconv_ParseUint: function 16 -/
def strconv_ParseUint.f (k : Nat) (a0 : ByteArray) (a1 : Int) (a2 : Int) : Option (Int × Option Int) := (internal_strconv_ParseUint.f k a0 a1 a2).bind fun bt139 => (if bt139.2.isNone = true then (some (bt139.1, none)) else ((strconv_toError.f (⟨#[80, 97, 114, 115, 101, 85, 105, 110, 116]⟩ : ByteArray) a0 a1 a2 (some (bt139.2.getD 0))).bind fun t142 => (some (bt139.1, t142))))
theorem strconv_ParseUint.mono : ∀ a0 a1 a2 k, LeO (strconv_ParseUint.f k a0 a1 a2) (strconv_ParseUint.f (k + 1) a0 a1 a2) := by
  intro a0 a1 a2 k
  unfold strconv_ParseUint.f
  repeat' first
      | (with_reducible exact internal_strconv_ParseUint.mono _ _ _ _)
      | (with_reducible exact LeO.refl _)
      | (with_reducible exact LeO.none _)
      | (with_reducible refine LeO.ite ?_ ?_)
      | (with_reducible refine LeO.bind ?_ (fun _ => ?_))
      | exact internal_strconv_ParseUint.mono _ _ _ _
      | exact LeO.none _
      | refine LeO.ite ?_ ?_
      | refine LeO.bind ?_ (fun _ => ?_)
set_option maxHeartbeats 8000000 in
set_option maxRecDepth 100000 in
theorem strconv_ParseUint.calls (k : Nat) (a0 : ByteArray) (a1 : Int) (a2 : Int) (r1 : Int) (r2 : Option Int) (w : World) (h : strconv_ParseUint.f k a0 a1 a2 = some (r1, r2)) :
    Calls Tryd.prog 16 #[.string a0, .int .i64 a1, .int .i64 a2] w fun e w' => e = .returned (.tuple #[.int .u64 r1, errW r2]) ∧ Below w.heap.size w w' := by
  have hu32 := Tryd.underlying32
  have hu50 := Tryd.underlying50
  have HB := Aside0.mk (Below.refl w.heap.size w)
  have H : ((internal_strconv_ParseUint.f k a0 a1 a2).bind fun bt139 => (if bt139.2.isNone = true then (some (bt139.1, none)) else ((strconv_toError.f (⟨#[80, 97, 114, 115, 101, 85, 105, 110, 116]⟩ : ByteArray) a0 a1 a2 (some (bt139.2.getD 0))).bind fun t142 => (some (bt139.1, t142))))) = some (r1, r2) := h
  clear h
  replace H := Option.bind_eq_some_iff.mp H
  obtain ⟨⟨t139, t140⟩, A40, H⟩ := H
  replace H : (if t140.isNone = true then (some (t139, none)) else ((strconv_toError.f (⟨#[80, 97, 114, 115, 101, 85, 105, 110, 116]⟩ : ByteArray) a0 a1 a2 (some (t140.getD 0))).bind fun t142 => (some (t139, t142)))) = some (r1, r2) := H
  have A4 := Aside0.mk A40
  clear A40
  rcases t140 with _ | q141
  · have H1 : (some (t139, none)) = some (r1, r2) := by rw [if_pos (show (none : Option Int).isNone = true by rfl)] at H; exact H
    clear H
    have H := H1
    clear H1
    try simp only [errW_none, errW_some]
    simp only [Option.some.injEq, Prod.mk.injEq] at H
    obtain ⟨rfl, rfl⟩ := H
    go_enter Tryd.func16, Tryd.ntmps16
    go_wp2_with (first | ((with_reducible refine gate_callee (f := 20) rfl ?_); refine goesL_ (some 14) rfl rfl Tryd.func20 (by kernel_rfl) rfl #[.string a0, .int .i64 a1, .int .i64 a2] rfl (by (try simp only [List.map_toArray, List.map_cons, List.map_nil]); first | done | rfl | (simp only [List.length_drop, List.length_take]; rfl)) ?_; (with_reducible refine (internal_strconv_ParseUint.calls k a0 a1 a2 t139 none _ A4.out).mono ?_); rintro e w5 ⟨rfl, hb⟩; refine ⟨_, rfl, ?_⟩; have n0_ := Aside0.mk (below_step (by repeat (first | (with_reducible first | exact HB.out | apply below_alloc | apply pw_below_drewN | apply below_drew1) | exact HB.out)) hb); clear HB; have HB := n0_; clear n0_; (try clear hb); (try clear hb2); (try clear hk); (try clear hi); (try simp only [errW_none, errW_some])))
    go_ret2
    exact ⟨by first | rfl | (simp [errW_none, errW_some] <;> rfl) | (simp [*, errW_none, errW_some] <;> rfl), by repeat (first | (with_reducible first | exact HB.out | apply below_alloc | apply pw_below_drewN | apply below_drew1) | exact HB.out)⟩
  · have H1 : ((strconv_toError.f (⟨#[80, 97, 114, 115, 101, 85, 105, 110, 116]⟩ : ByteArray) a0 a1 a2 (some q141)).bind fun t142 => (some (t139, t142))) = some (r1, r2) := by rw [if_neg (show ¬ (some q141).isNone = true by simp)] at H; exact H
    clear H
    have H := H1
    clear H1
    try simp only [errW_none, errW_some]
    replace H := Option.bind_eq_some_iff.mp H
    obtain ⟨t142, A60, H⟩ := H
    replace H : (some (t139, t142)) = some (r1, r2) := H
    have A6 := Aside0.mk A60
    clear A60
    simp only [Option.some.injEq, Prod.mk.injEq] at H
    obtain ⟨rfl, rfl⟩ := H
    go_enter Tryd.func16, Tryd.ntmps16
    go_wp2_with (first | ((with_reducible refine gate_callee (f := 20) rfl ?_); refine goesL_ (some 14) rfl rfl Tryd.func20 (by kernel_rfl) rfl #[.string a0, .int .i64 a1, .int .i64 a2] rfl (by (try simp only [List.map_toArray, List.map_cons, List.map_nil]); first | done | rfl | (simp only [List.length_drop, List.length_take]; rfl)) ?_; (with_reducible refine (internal_strconv_ParseUint.calls k a0 a1 a2 t139 (some q141) _ A4.out).mono ?_); rintro e w7 ⟨rfl, hb⟩; refine ⟨_, rfl, ?_⟩; have n0_ := Aside0.mk (below_step (by repeat (first | (with_reducible first | exact HB.out | apply below_alloc | apply pw_below_drewN | apply below_drew1) | exact HB.out)) hb); clear HB; have HB := n0_; clear n0_; (try clear hb); (try clear hb2); (try clear hk); (try clear hi); (try simp only [errW_none, errW_some]); have CA6 := fun W => strconv_toError.calls (⟨#[80, 97, 114, 115, 101, 85, 105, 110, 116]⟩ : ByteArray) a0 a1 a2 (some q141) t142 W A6.out; try simp only [errW_none, errW_some] at CA6) | (go_at_call 21; (with_reducible refine (CA6 _).mono ?_); rintro e w' ⟨rfl, ⟨nd, rfl⟩⟩; (try simp only [errW_none, errW_some])))
    go_ret2
    exact ⟨by first | rfl | (simp [errW_none, errW_some] <;> rfl) | (simp [*, errW_none, errW_some] <;> rfl), by repeat (first | (with_reducible first | exact HB.out | apply below_alloc | apply pw_below_drewN | apply below_drew1) | exact HB.out)⟩

/-! ### pq_zzIndex: function 17 -/
def pq_zzIndex.l0 : Nat → ByteArray → ByteArray → Int → Option (Int)
  | 0, _, _, _ => none
  | k + 1, x0, x1, x5 => if (wrap64 (x5 + (x1.size : Int))) ≤ (x0.size : Int) then (if 0 ≤ x5 then (if x5 ≤ (wrap64 (x5 + (x1.size : Int))) then (if (x0.extract (x5 : Int).toNat ((wrap64 (x5 + (x1.size : Int))) : Int).toNat).toList = x1.toList then (some x5) else (pq_zzIndex.l0 k x0 x1 (wrap64 (x5 + 1)))) else (none)) else (none)) else (some (-1))
def pq_zzIndex.f (k : Nat) (a0 : ByteArray) (a1 : ByteArray) : Option (Int) := pq_zzIndex.l0 k a0 a1 0
theorem pq_zzIndex.mono_l : ∀ k, (∀ y0 y1 y2, LeO (pq_zzIndex.l0 k y0 y1 y2) (pq_zzIndex.l0 (k + 1) y0 y1 y2))
  | 0 => fun _ _ _ r h => by simp [pq_zzIndex.l0] at h
  | k + 1 => by
    have ih0 := pq_zzIndex.mono_l k
    · intro y0 y1 y2
      unfold pq_zzIndex.l0
      repeat' first
      | (with_reducible exact ih0 _ _ _)
      | (with_reducible exact LeO.refl _)
      | (with_reducible exact LeO.none _)
      | (with_reducible refine LeO.ite ?_ ?_)
      | (with_reducible refine LeO.bind ?_ (fun _ => ?_))
      | exact ih0 _ _ _
      | exact LeO.none _
      | refine LeO.ite ?_ ?_
      | refine LeO.bind ?_ (fun _ => ?_)
theorem pq_zzIndex.mono : ∀ a0 a1 k, LeO (pq_zzIndex.f k a0 a1) (pq_zzIndex.f (k + 1) a0 a1) := by
  intro a0 a1 k
  have ih0 := pq_zzIndex.mono_l k
  unfold pq_zzIndex.f
  repeat' first
      | (with_reducible exact ih0 _ _ _)
      | (with_reducible exact LeO.refl _)
      | (with_reducible exact LeO.none _)
      | (with_reducible refine LeO.ite ?_ ?_)
      | (with_reducible refine LeO.bind ?_ (fun _ => ?_))
      | exact ih0 _ _ _
      | exact LeO.none _
      | refine LeO.ite ?_ ?_
      | refine LeO.bind ?_ (fun _ => ?_)
set_option maxHeartbeats 8000000 in
set_option maxRecDepth 100000 in
theorem pq_zzIndex.calls (k : Nat) (a0 : ByteArray) (a1 : ByteArray) (r : Int) (w : World) (h : pq_zzIndex.f k a0 a1 = some r) :
    Calls Tryd.prog 17 #[.string a0, .string a1] w fun e w' => e = .returned (.int .i64 r) ∧ Drawn0 w w' := by
  have H : (pq_zzIndex.l0 k a0 a1 0) = some r := h
  clear h
  have H' := Aside0.mk H
  clear H
  go_enter Tryd.func17, Tryd.ntmps17
  go_wp2
  go_loopg [5] k (fun kq v5 w' => ∃ (x5_1 : Int), v5 = .int .i64 x5_1 ∧ Aside0 (pq_zzIndex.l0 kq a0 a1 x5_1 = some r) ∧ Aside0 (kq ≤ k) ∧ Drawn0 w w')
  case atStart => exact ⟨(0), (by first | rfl | (simp; done) | (simp [*]; done)), H', ⟨Nat.le_refl _⟩, by repeat (first | exact Drawn0.refl _ | apply Drawn0.step)⟩
  case round =>
    clear H'
    try clear c1
    try clear p2
    obtain ⟨x5_1, rfl, HA, HK1, ⟨m1, rfl⟩⟩ := hrel
    cases gk with
    | zero => exact absurd HA.out (by simp [pq_zzIndex.l0])
    | succ k1 =>
      have H := HA.out
      clear HA
      simp only [pq_zzIndex.l0] at H
      by_cases c3 : (wrap64 (x5_1 + (a1.size : Int))) ≤ (a0.size : Int)
      · rw [if_pos c3] at H
        have c3b0 : decide ((wrap64 (x5_1 + (a1.size : Int))) ≤ (a0.size : Int)) = true := decide_eq_true c3
        clear c3
        by_cases c4 : 0 ≤ x5_1
        · rw [if_pos c4] at H
          have c4b0 := eq_true c4
          have c4b1 : decide (0 ≤ x5_1) = true := decide_eq_true c4
          clear c4
          by_cases c5 : x5_1 ≤ (wrap64 (x5_1 + (a1.size : Int)))
          · rw [if_pos c5] at H
            have c5b0 := eq_true c5
            have c5b1 : decide (x5_1 ≤ (wrap64 (x5_1 + (a1.size : Int)))) = true := decide_eq_true c5
            have c6b0 := eq_true (of_decide_eq_true (by first | (with_reducible assumption) | assumption) : (wrap64 (x5_1 + (a1.size : Int))) ≤ (a0.size : Int))
            by_cases c7 : (a0.extract (x5_1 : Int).toNat ((wrap64 (x5_1 + (a1.size : Int))) : Int).toNat).toList = a1.toList
            · rw [if_pos c7] at H
              have c7b0 : ((a0.extract (x5_1 : Int).toNat ((wrap64 (x5_1 + (a1.size : Int))) : Int).toNat).toList == a1.toList) = true := beq_iff_eq.mpr c7
              have c7b1 : ((a0.extract (x5_1 : Int).toNat ((wrap64 (x5_1 + (a1.size : Int))) : Int).toNat).toList != a1.toList) = false := bne_eq_false_iff_eq.mpr c7
              clear c7
              obtain rfl := Option.some.inj H
              go_wp2
              go_ret
              exact ⟨by first | rfl | (simp; done) | (simp [*]; done), by repeat (first | exact Drawn0.refl _ | apply Drawn0.step)⟩
            · rw [if_neg c7] at H
              have c7b0 : ((a0.extract (x5_1 : Int).toNat ((wrap64 (x5_1 + (a1.size : Int))) : Int).toNat).toList == a1.toList) = false := beq_eq_false_iff_ne.mpr c7
              have c7b1 : ((a0.extract (x5_1 : Int).toNat ((wrap64 (x5_1 + (a1.size : Int))) : Int).toNat).toList != a1.toList) = true := bne_iff_ne.mpr c7
              have H' := Aside0.mk H
              clear H
              go_wp2
              go_roundg k1
              case measure => have := HK1.out; omega
              case rel => exact ⟨(wrap64 (x5_1 + 1)), (by first | rfl | (simp; done) | (simp [*]; done)), H', ⟨by have := HK1.out; omega⟩, by repeat (first | exact Drawn0.refl _ | apply Drawn0.step)⟩
          · rw [if_neg c5] at H
            exact absurd H (by simp)
        · rw [if_neg c4] at H
          exact absurd H (by simp)
      · rw [if_neg c3] at H
        have c3b0 : decide ((wrap64 (x5_1 + (a1.size : Int))) ≤ (a0.size : Int)) = false := decide_eq_false c3
        clear c3
        obtain rfl := Option.some.inj H
        go_wp2
        go_ret
        exact ⟨by first | rfl | (simp; done) | (simp [*]; done), by repeat (first | exact Drawn0.refl _ | apply Drawn0.step)⟩

end Go.Proofs.YthcikkjjegfbladDoor.P
