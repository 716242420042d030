-- Written by the program wip/myprint.py of this session, over the kit's print of the translation. Lean checks it.
import Derived.Test.YthcikkjjegfbladDoorPx0
import Derived.Test.YthcikkjjegfbladDoorPx1
import Derived.Test.YthcikkjjegfbladDoorPx5
namespace Go.Proofs.YthcikkjjegfbladDoor.P
open Go.RowKit Go.Proofs.YthcikkjjegfbladDoorW.PrintWords Go.Proofs.YthcikkjjegfbladDoorW.PrintLast Go.Proofs.YthcikkjjegfbladDoorW.PrintMore
attribute [local go_sem] max2_int min2_int max_two min_two max_three min_three max_four min_four   -- for this text's walks alone
set_option linter.unusedVariables false
set_option linter.unusedSimpArgs false

/-! ### laws_FnByteaRefused: function 3 -/
def laws_FnByteaRefused.j0 : Nat → ByteArray → Bool → Option (Bool)
  | 0, _, _ => none
  | k + 1, x0, x28 => if x28 = true then (some true) else ((spec_Hex.f k x0 false).bind fun t210 => (none))
def laws_FnByteaRefused.f (k : Nat) (a0 : ByteArray) (a1 : Int) (a2 : Int) : Option (Bool) := if (a0.size : Int) > 2147483647 then (some true) else (if (a0.size : Int) = 0 then (laws_FnByteaRefused.j0 k a0 true) else (if (a0.size : Int) > 200 then (laws_FnByteaRefused.j0 k a0 true) else ((spec_IsHex.f a2).bind fun t209 => (laws_FnByteaRefused.j0 k a0 t209))))
theorem laws_FnByteaRefused.mono_l : ∀ k, (∀ y0 y1, LeO (laws_FnByteaRefused.j0 k y0 y1) (laws_FnByteaRefused.j0 (k + 1) y0 y1))
  | 0 => fun _ _ r h => by simp [laws_FnByteaRefused.j0] at h
  | k + 1 => by
    have ih0 := laws_FnByteaRefused.mono_l k
    · intro y0 y1
      unfold laws_FnByteaRefused.j0
      repeat' first
      | (with_reducible exact ih0 _ _)
      | (with_reducible exact spec_Hex.mono _ _ _)
      | (with_reducible exact LeO.refl _)
      | (with_reducible exact LeO.none _)
      | (with_reducible refine LeO.ite ?_ ?_)
      | (with_reducible refine LeO.bind ?_ (fun _ => ?_))
      | exact ih0 _ _
      | exact spec_Hex.mono _ _ _
      | exact LeO.none _
      | refine LeO.ite ?_ ?_
      | refine LeO.bind ?_ (fun _ => ?_)
theorem laws_FnByteaRefused.mono : ∀ a0 a1 a2 k, LeO (laws_FnByteaRefused.f k a0 a1 a2) (laws_FnByteaRefused.f (k + 1) a0 a1 a2) := by
  intro a0 a1 a2 k
  have ih0 := laws_FnByteaRefused.mono_l k
  unfold laws_FnByteaRefused.f
  repeat' first
      | (with_reducible exact ih0 _ _)
      | (with_reducible exact spec_Hex.mono _ _ _)
      | (with_reducible exact LeO.refl _)
      | (with_reducible exact LeO.none _)
      | (with_reducible refine LeO.ite ?_ ?_)
      | (with_reducible refine LeO.bind ?_ (fun _ => ?_))
      | exact ih0 _ _
      | exact spec_Hex.mono _ _ _
      | exact LeO.none _
      | refine LeO.ite ?_ ?_
      | refine LeO.bind ?_ (fun _ => ?_)
set_option maxHeartbeats 8000000 in
set_option maxRecDepth 100000 in
theorem laws_FnByteaRefused.calls (k : Nat) (a0 : ByteArray) (a1 : Int) (a2 : Int) (r : Bool) (w : World) (h : laws_FnByteaRefused.f k a0 a1 a2 = some r) :
    Calls Tryd.prog 3 #[.string a0, .int .u8 a1, .int .u8 a2] w fun e w' => e = .returned (.bool r) ∧ Below w.heap.size w w' := by
  have HB := Aside0.mk (Below.refl w.heap.size w)
  have H : (if (a0.size : Int) > 2147483647 then (some true) else (if (a0.size : Int) = 0 then (laws_FnByteaRefused.j0 k a0 true) else (if (a0.size : Int) > 200 then (laws_FnByteaRefused.j0 k a0 true) else ((spec_IsHex.f a2).bind fun t209 => (laws_FnByteaRefused.j0 k a0 t209))))) = some r := h
  clear h
  by_cases c4 : (a0.size : Int) > 2147483647
  · rw [if_pos c4] at H
    have c4b0 : decide (2147483647 < (a0.size : Int)) = true := decide_eq_true c4
    have c4b1 : decide (2147483647 < a0.size) = true := decide_eq_true (by omega)
    clear c4
    obtain rfl := Option.some.inj H
    go_enter Tryd.func3, Tryd.ntmps3
    go_wp2
    go_ret
    exact ⟨by first | rfl | (simp [errW_none, errW_some] <;> rfl) | (simp [*, errW_none, errW_some] <;> rfl), by repeat (first | (with_reducible first | exact HB.out | apply below_alloc | apply pw_below_drewN | apply below_drew1) | exact HB.out)⟩
  · rw [if_neg c4] at H
    have c4b0 : decide (2147483647 < (a0.size : Int)) = false := decide_eq_false c4
    have c4b1 : decide (2147483647 < a0.size) = false := decide_eq_false (by omega)
    clear c4
    have HC5 := Aside0.mk H
    clear H
    go_enter Tryd.func3, Tryd.ntmps3
    go_upto_region 3 with (fail)
    go_cut [28] (fun v28 wc => ∃ (kq : Nat) (x28_4 : Bool), v28 = .bool x28_4 ∧ Aside0 (laws_FnByteaRefused.j0 kq a0 x28_4 = some r) ∧ Aside0 (kq ≤ k) ∧ Aside0 (Below w.heap.size w wc))
    case first =>
      have H := HC5.out
      clear HC5
      by_cases c6 : (a0.size : Int) = 0
      · rw [if_pos c6] at H
        have c6b0 : ((a0.size : Int) == 0) = true := beq_iff_eq.mpr c6
        have c6b1 : ((a0.size : Int) != 0) = false := bne_eq_false_iff_eq.mpr c6
        clear c6
        (first | rw [c6b0] | (simp only [i64_w, i32_w]; rw [c6b0]) | skip)
        have H' := Aside0.mk H
        clear H
        go_wp2
        go_meet
        case rel => exact ⟨_, (true), (by first | rfl | (simp; done) | (simp [*]; done)), H', ⟨by first | omega | exact Nat.le_refl _⟩, ⟨by repeat (first | (with_reducible first | exact HB.out | apply below_alloc | apply pw_below_drewN | apply below_drew1) | exact HB.out)⟩⟩
      · rw [if_neg c6] at H
        have c6b0 : ((a0.size : Int) == 0) = false := beq_eq_false_iff_ne.mpr c6
        have c6b1 : ((a0.size : Int) != 0) = true := bne_iff_ne.mpr c6
        (first | rw [c6b0] | (simp only [i64_w, i32_w]; rw [c6b0]) | skip)
        by_cases c7 : (a0.size : Int) > 200
        · rw [if_pos c7] at H
          have c7b0 : decide (200 < (a0.size : Int)) = true := decide_eq_true c7
          have c7b1 : decide (200 < a0.size) = true := decide_eq_true (by omega)
          clear c7
          have H' := Aside0.mk H
          clear H
          go_wp2
          go_meet
          case rel => exact ⟨_, (true), (by first | rfl | (simp; done) | (simp [*]; done)), H', ⟨by first | omega | exact Nat.le_refl _⟩, ⟨by repeat (first | (with_reducible first | exact HB.out | apply below_alloc | apply pw_below_drewN | apply below_drew1) | exact HB.out)⟩⟩
        · rw [if_neg c7] at H
          have c7b0 : decide (200 < (a0.size : Int)) = false := decide_eq_false c7
          have c7b1 : decide (200 < a0.size) = false := decide_eq_false (by omega)
          clear c7
          replace H := Option.bind_eq_some_iff.mp H
          obtain ⟨t209, A80, H⟩ := H
          replace H : (laws_FnByteaRefused.j0 k a0 t209) = some r := H
          have A8 := Aside0.mk A80
          clear A80
          have H' := Aside0.mk H
          clear H
          go_wp2_with (first | (go_at_call 5; (with_reducible refine (spec_IsHex.calls a2 t209 _ A8.out).mono ?_); rintro e w' ⟨rfl, ⟨nd, rfl⟩⟩))
          go_meet
          case rel => exact ⟨_, (t209), (by first | rfl | (simp; done) | (simp [*]; done)), H', ⟨by first | omega | exact Nat.le_refl _⟩, ⟨by repeat (first | (with_reducible first | exact HB.out | apply below_alloc | apply pw_below_drewN | apply below_drew1) | exact HB.out)⟩⟩
    case rest =>
      clear HC5
      try clear p2
      try clear c3
      try clear c4
      try clear c4b0
      try clear c4b1
      try clear c6
      try clear c6b0
      try clear c6b1
      try clear c7
      try clear c7b0
      try clear c7b1
      obtain ⟨kq, x28_4, rfl, HA, HJ4, HB⟩ := hcut
      cases kq with
      | zero => exact absurd HA.out (by simp [laws_FnByteaRefused.j0])
      | succ kj4 =>
        have H := HA.out
        clear HA
        simp only [laws_FnByteaRefused.j0] at H
        by_cases c9 : x28_4 = true
        · subst c9
          have H1 : (some true) = some r := by rw [if_pos rfl] at H; exact H
          clear H
          have H := H1
          clear H1
          obtain rfl := Option.some.inj H
          go_wp2
          go_ret
          exact ⟨by first | rfl | (simp [errW_none, errW_some] <;> rfl) | (simp [*, errW_none, errW_some] <;> rfl), by repeat (first | (with_reducible first | exact HB.out | apply below_alloc | apply pw_below_drewN | apply below_drew1) | exact HB.out)⟩
        · replace c9 := Bool.eq_false_iff.mpr c9
          subst c9
          have H1 : ((spec_Hex.f kj4 a0 false).bind fun t210 => (none)) = some r := by rw [if_neg (show ¬ (false = true) by decide)] at H; exact H
          clear H
          have H := H1
          clear H1
          replace H := Option.bind_eq_some_iff.mp H
          obtain ⟨t210, A100, H⟩ := H
          replace H : (none) = some r := H
          have A10 := Aside0.mk A100
          clear A100
          exact absurd H (by simp)

/-- THE ONE PURE STATEMENT of laws_FnByteaRefused: yours. -/
def laws_FnByteaRefused.Pure : Prop := ∀ (a0 : ByteArray) (a1 : Int) (a2 : Int), a0.size ≤ 140737488351232 → (Lit.int .u8 a1).wf = true → (Lit.int .u8 a2).wf = true → ∃ k, laws_FnByteaRefused.f k a0 a1 a2 = some true
theorem laws_FnByteaRefused.walk (P : laws_FnByteaRefused.Pure) (a0 : ByteArray) (a1 : Int) (a2 : Int) (w : World) (w0 : a0.size ≤ 140737488351232) (w1 : (Lit.int .u8 a1).wf = true) (w2 : (Lit.int .u8 a2).wf = true) :
    Calls Tryd.prog 3 #[.string a0, .int .u8 a1, .int .u8 a2] w fun e w' => e = .returned (.bool true) ∧ Below w.heap.size w w' := by
  obtain ⟨k, h⟩ := P a0 a1 a2 w0 w1 w2
  refine (laws_FnByteaRefused.calls k a0 a1 a2 true w h).mono ?_
  rintro e w' ⟨rfl, hd⟩
  exact ⟨rfl, hd⟩

/-! ### hex_EncodedLen: function 18 -/
def hex_EncodedLen.f (a0 : Int) : Option (Int) := some (wrap64 (a0 * 2))
set_option maxHeartbeats 8000000 in
set_option maxRecDepth 100000 in
theorem hex_EncodedLen.calls (a0 : Int) (r : Int) (w : World) (h : hex_EncodedLen.f a0 = some r) :
    Calls Tryd.prog 18 #[.int .i64 a0] w fun e w' => e = .returned (.int .i64 r) ∧ Drawn0 w w' := by
  have H : (some (wrap64 (a0 * 2))) = some r := h
  clear h
  obtain rfl := Option.some.inj H
  go_enter Tryd.func18, Tryd.ntmps18
  go_wp2
  go_ret
  exact ⟨by first | rfl | (simp; done) | (simp [*]; done), by repeat (first | exact Drawn0.refl _ | apply Drawn0.step)⟩

/-! ### hex_Encode: function 19 -/
def hex_Encode.l0 : Nat → List Int → List Int → Int → List Int → Int → Int → Option (Int × List Int)
  | 0, _, _, _, _, _, _ => none
  | k + 1, x0, x1, x5, x8, x9, x10 => if x10 < x9 then (if 0 ≤ x10 then (if x10 < (x8.length : Int) then (if 0 ≤ ((rd x8 x10) / 16) then (if ((rd x8 x10) / 16) < 16 then (if 0 ≤ x5 then (if x5 < (x0.length : Int) then (if 0 ≤ (Go.bits .and .u8 (rd x8 x10) 15) then (if (Go.bits .and .u8 (rd x8 x10) 15) < 16 then (if 0 ≤ (wrap64 (x5 + 1)) then (if (wrap64 (x5 + 1)) < (x0.length : Int) then (hex_Encode.l0 k ((x0.set (x5 : Int).toNat (bt (⟨#[48, 49, 50, 51, 52, 53, 54, 55, 56, 57, 97, 98, 99, 100, 101, 102]⟩ : ByteArray) ((rd x8 x10) / 16))).set ((wrap64 (x5 + 1)) : Int).toNat (bt (⟨#[48, 49, 50, 51, 52, 53, 54, 55, 56, 57, 97, 98, 99, 100, 101, 102]⟩ : ByteArray) (Go.bits .and .u8 (rd x8 x10) 15))) x1 (wrap64 (x5 + 2)) x8 x9 (wrap64 (x10 + 1))) else (none)) else (none)) else (none)) else (none)) else (none)) else (none)) else (none)) else (none)) else (none)) else (none)) else (some (wrap64 ((x1.length : Int) * 2), x0))
def hex_Encode.f (k : Nat) (l0 : List Int) (l1 : List Int) : Option (Int × List Int) := hex_Encode.l0 k l0 l1 0 l1 (l1.length : Int) 0
theorem hex_Encode.mono_l : ∀ k, (∀ y0 y1 y2 y3 y4 y5, LeO (hex_Encode.l0 k y0 y1 y2 y3 y4 y5) (hex_Encode.l0 (k + 1) y0 y1 y2 y3 y4 y5))
  | 0 => fun _ _ _ _ _ _ r h => by simp [hex_Encode.l0] at h
  | k + 1 => by
    have ih0 := hex_Encode.mono_l k
    · intro y0 y1 y2 y3 y4 y5
      unfold hex_Encode.l0
      repeat' first
      | (with_reducible exact ih0 _ _ _ _ _ _)
      | (with_reducible exact LeO.refl _)
      | (with_reducible exact LeO.none _)
      | (with_reducible refine LeO.ite ?_ ?_)
      | (with_reducible refine LeO.bind ?_ (fun _ => ?_))
      | exact ih0 _ _ _ _ _ _
      | exact LeO.none _
      | refine LeO.ite ?_ ?_
      | refine LeO.bind ?_ (fun _ => ?_)
theorem hex_Encode.mono : ∀ a0 a1 k, LeO (hex_Encode.f k a0 a1) (hex_Encode.f (k + 1) a0 a1) := by
  intro a0 a1 k
  have ih0 := hex_Encode.mono_l k
  unfold hex_Encode.f
  repeat' first
      | (with_reducible exact ih0 _ _ _ _ _ _)
      | (with_reducible exact LeO.refl _)
      | (with_reducible exact LeO.none _)
      | (with_reducible refine LeO.ite ?_ ?_)
      | (with_reducible refine LeO.bind ?_ (fun _ => ?_))
      | exact ih0 _ _ _ _ _ _
      | exact LeO.none _
      | refine LeO.ite ?_ ?_
      | refine LeO.bind ?_ (fun _ => ?_)
set_option maxHeartbeats 8000000 in
set_option maxRecDepth 100000 in
theorem hex_Encode.calls (k : Nat) (P0_ : Nat → Prop) (u9000_ : Value) (l0 : List Int) (A1 : Option Addr) (c1 : Nat) (l1 : List Int) (r1 : Int) (r2 : List Int) (w0 w : World) (hB : Below w0.heap.size w0 w) (ho0 : Kd.R (Kd.int .u8) 5 w w0.heap.size P0_ u9000_ l0) (hr1 : ∀ W_, Kept w W_ (fun k_ => P0_ k_) → Kd.C (Kd.int .u8) W_ A1 l1.length l1) (hc1 : l1.length ≤ c1) (h : hex_Encode.f k l0 l1 = some (r1, r2)) :
    Calls Tryd.prog 19 #[u9000_, .slice A1 l1.length c1] w fun e w' => e = .returned (.int .i64 r1) ∧ Kd.R (Kd.int .u8) 5 w' w0.heap.size (fun k_ => (P0_ k_ ∨ w.heap.size ≤ k_)) u9000_ r2 ∧ Below w0.heap.size w0 w' ∧ Kept w w' (fun k_ => P0_ k_) := by
  have HO0 := Aside0.mk (show Kd.R (Kd.int .u8) 5 w w0.heap.size (fun k_ => (P0_ k_ ∨ w.heap.size ≤ k_)) u9000_ l0 from Kd.R_mono ho0 (fun k_ hk => (.inl hk)))
  have HR1 := Aside0.mk hr1
  have HC1 := Aside0.mk hc1
  clear hr1 hc1
  have HK := Aside0.mk (Kept.refl w (fun k_ => P0_ k_))
  have HW0 := Aside0.mk hB.size
  have HB := Aside0.mk hB
  clear hB
  have H : (hex_Encode.l0 k l0 l1 0 l1 (l1.length : Int) 0) = some (r1, r2) := h
  clear h
  have H' := Aside0.mk H
  clear H
  go_enter Tryd.func19, Tryd.ntmps19
  go_wp2
  go_loopg [5, 10] k (fun kq v5 v10 w' => ∃ (x0_1 : List Int) (x5_1 : Int) (x10_1 : Int), v5 = .int .i64 x5_1 ∧ v10 = .int .i64 x10_1 ∧ Aside0 (hex_Encode.l0 kq x0_1 l1 x5_1 l1 (l1.length : Int) x10_1 = some (r1, r2)) ∧ Aside0 (kq ≤ k) ∧ Aside0 (Kd.R (Kd.int .u8) 5 w' w0.heap.size (fun k_ => (P0_ k_ ∨ w.heap.size ≤ k_)) u9000_ x0_1) ∧ Aside0 (Kept w w' (fun k_ => P0_ k_)) ∧ Aside0 (Below w0.heap.size w0 w'))
  case atStart => exact ⟨(l0), (0), (0), (by first | rfl | (simp; done) | (simp [*]; done)), (by first | rfl | (simp; done) | (simp [*]; done)), H', ⟨Nat.le_refl _⟩, ⟨by (with_reducible repeat (first | apply Kd.R_alloc | apply Kd.R_drewN | apply Kd.R_drew)); exact HO0.out⟩, ⟨by repeat (first | (with_reducible first | exact HK.out | apply Kept.alloc | apply Kept.drewN | apply Kept.drew) | exact HK.out)⟩, ⟨by repeat (first | (with_reducible first | exact HB.out | apply below_alloc | apply pw_below_drewN | apply below_drew1) | exact HB.out)⟩⟩
  case round =>
    clear H'
    try clear c1
    try clear p2
    obtain ⟨x0_1, x5_1, x10_1, rfl, rfl, HA, HK1, HO_0, HK, HB⟩ := hrel
    cases gk with
    | zero => exact absurd HA.out (by simp [hex_Encode.l0])
    | succ k1 =>
      have H := HA.out
      clear HA
      simp only [hex_Encode.l0] at H
      by_cases c3 : x10_1 < (l1.length : Int)
      · rw [if_pos c3] at H
        have c3b0 : decide (x10_1 < (l1.length : Int)) = true := decide_eq_true c3
        clear c3
        by_cases c4 : 0 ≤ x10_1
        · rw [if_pos c4] at H
          have c4b0 : decide (0 ≤ x10_1) = true := decide_eq_true c4
          clear c4
          by_cases c5 : x10_1 < (l1.length : Int)
          · rw [if_pos c5] at H
            have c5b0 : decide (x10_1 < (l1.length : Int)) = true := decide_eq_true c5
            clear c5
            obtain ⟨ji6, hji6⟩ : ∃ j_ : Int, ((rd l1 x10_1) / 16) = j_ := ⟨_, rfl⟩
            replace H : (if 0 ≤ (ji6) then (if (ji6) < 16 then (if 0 ≤ x5_1 then (if x5_1 < (x0_1.length : Int) then (if 0 ≤ (Go.bits .and .u8 (rd l1 x10_1) 15) then (if (Go.bits .and .u8 (rd l1 x10_1) 15) < 16 then (if 0 ≤ (wrap64 (x5_1 + 1)) then (if (wrap64 (x5_1 + 1)) < (x0_1.length : Int) then (hex_Encode.l0 k1 ((x0_1.set (x5_1 : Int).toNat (bt (⟨#[48, 49, 50, 51, 52, 53, 54, 55, 56, 57, 97, 98, 99, 100, 101, 102]⟩ : ByteArray) (ji6))).set ((wrap64 (x5_1 + 1)) : Int).toNat (bt (⟨#[48, 49, 50, 51, 52, 53, 54, 55, 56, 57, 97, 98, 99, 100, 101, 102]⟩ : ByteArray) (Go.bits .and .u8 (rd l1 x10_1) 15))) l1 (wrap64 (x5_1 + 2)) l1 (l1.length : Int) (wrap64 (x10_1 + 1))) else (none)) else (none)) else (none)) else (none)) else (none)) else (none)) else (none)) else (none)) = some (r1, r2) := by first | (rw [hji6] at H; exact H) | (simp only [hji6] at H ⊢; exact H)
            by_cases c7 : 0 ≤ (ji6)
            · rw [if_pos c7] at H
              have c7b0 : decide (0 ≤ (ji6)) = true := decide_eq_true c7
              clear c7
              by_cases c8 : (ji6) < 16
              · rw [if_pos c8] at H
                have c8b0 : decide ((ji6) < 16) = true := decide_eq_true c8
                clear c8
                by_cases c10 : 0 ≤ x5_1
                · rw [if_pos c10] at H
                  have c10b0 : decide (0 ≤ x5_1) = true := decide_eq_true c10
                  clear c10
                  by_cases c11 : x5_1 < (x0_1.length : Int)
                  · rw [if_pos c11] at H
                    have c11b0 : decide (x5_1 < (x0_1.length : Int)) = true := decide_eq_true c11
                    clear c11
                    obtain ⟨y212, hy212⟩ : ∃ y_ : List Int, y_ = (x0_1.set (x5_1 : Int).toNat (bt (⟨#[48, 49, 50, 51, 52, 53, 54, 55, 56, 57, 97, 98, 99, 100, 101, 102]⟩ : ByteArray) (ji6))) := ⟨_, rfl⟩
                    replace H : (if 0 ≤ (Go.bits .and .u8 (rd l1 x10_1) 15) then (if (Go.bits .and .u8 (rd l1 x10_1) 15) < 16 then (if 0 ≤ (wrap64 (x5_1 + 1)) then (if (wrap64 (x5_1 + 1)) < (x0_1.length : Int) then (hex_Encode.l0 k1 (y212.set ((wrap64 (x5_1 + 1)) : Int).toNat (bt (⟨#[48, 49, 50, 51, 52, 53, 54, 55, 56, 57, 97, 98, 99, 100, 101, 102]⟩ : ByteArray) (Go.bits .and .u8 (rd l1 x10_1) 15))) l1 (wrap64 (x5_1 + 2)) l1 (l1.length : Int) (wrap64 (x10_1 + 1))) else (none)) else (none)) else (none)) else (none)) = some (r1, r2) := by first | (rw [hy212]; with_reducible exact H) | (have H2_ := (Option.bind_some _ _).symm.trans H; rw [hy212]; with_reducible exact H2_) | (have H2_ := (Option.bind_some _ _).symm.trans H; with_reducible exact H2_) | with_reducible exact H | (rw [hy212]; exact H) | exact H
                    have Ny212 := Aside0.mk hy212
                    clear hy212
                    by_cases c13 : 0 ≤ (Go.bits .and .u8 (rd l1 x10_1) 15)
                    · rw [if_pos c13] at H
                      have c13b0 : decide (0 ≤ (Go.bits .and .u8 (rd l1 x10_1) 15)) = true := decide_eq_true c13
                      clear c13
                      by_cases c14 : (Go.bits .and .u8 (rd l1 x10_1) 15) < 16
                      · rw [if_pos c14] at H
                        have c14b0 : decide ((Go.bits .and .u8 (rd l1 x10_1) 15) < 16) = true := decide_eq_true c14
                        clear c14
                        obtain ⟨ji16, hji16⟩ : ∃ j_ : Int, (wrap64 (x5_1 + 1)) = j_ := ⟨_, rfl⟩
                        replace H : (if 0 ≤ (ji16) then (if (ji16) < (x0_1.length : Int) then (hex_Encode.l0 k1 (y212.set ((ji16) : Int).toNat (bt (⟨#[48, 49, 50, 51, 52, 53, 54, 55, 56, 57, 97, 98, 99, 100, 101, 102]⟩ : ByteArray) (Go.bits .and .u8 (rd l1 x10_1) 15))) l1 (wrap64 (x5_1 + 2)) l1 (l1.length : Int) (wrap64 (x10_1 + 1))) else (none)) else (none)) = some (r1, r2) := by first | (rw [hji16] at H; exact H) | (simp only [hji16] at H ⊢; exact H)
                        have hji16w : (IntKind.i64.wrap (x5_1 + 1)) = ji16 := (i64_w _).trans hji16
                        by_cases c17 : 0 ≤ (ji16)
                        · rw [if_pos c17] at H
                          have c17b0 : decide (0 ≤ (ji16)) = true := decide_eq_true c17
                          clear c17
                          by_cases c18 : (ji16) < (x0_1.length : Int)
                          · rw [if_pos c18] at H
                            have c18b0 : decide ((ji16) < (x0_1.length : Int)) = true := decide_eq_true c18
                            clear c18
                            obtain ⟨y213, hy213⟩ : ∃ y_ : List Int, y_ = (y212.set ((ji16) : Int).toNat (bt (⟨#[48, 49, 50, 51, 52, 53, 54, 55, 56, 57, 97, 98, 99, 100, 101, 102]⟩ : ByteArray) (Go.bits .and .u8 (rd l1 x10_1) 15))) := ⟨_, rfl⟩
                            replace H : (hex_Encode.l0 k1 y213 l1 (wrap64 (x5_1 + 2)) l1 (l1.length : Int) (wrap64 (x10_1 + 1))) = some (r1, r2) := by first | (rw [hy213]; with_reducible exact H) | (have H2_ := (Option.bind_some _ _).symm.trans H; rw [hy213]; with_reducible exact H2_) | (have H2_ := (Option.bind_some _ _).symm.trans H; with_reducible exact H2_) | with_reducible exact H | (rw [hy213]; exact H) | exact H
                            have Ny213 := Aside0.mk hy213
                            clear hy213
                            have H' := Aside0.mk H
                            clear H
                            have p211 : 0 ≤ (x10_1 : Int) := of_decide_eq_true (by first | (with_reducible assumption) | assumption)
                            have q211 : x10_1 < (l1.length : Int) := of_decide_eq_true (by first | (with_reducible assumption) | assumption)
                            obtain ⟨ad211, e211, hx211_0⟩ := Kd.at_int (Kd.C_kept_now HR1.out HK.out) x10_1 p211 q211
                            cases e211
                            replace p211 := eq_true p211
                            replace q211 := eq_true q211
                            have p9 : 0 ≤ ((ji6) : Int) := of_decide_eq_true (by first | (with_reducible assumption) | assumption)
                            have q9 : (ji6) < (16 : Int) := of_decide_eq_true (by first | (with_reducible assumption) | assumption)
                            have hx9 := bt_at (⟨#[48, 49, 50, 51, 52, 53, 54, 55, 56, 57, 97, 98, 99, 100, 101, 102]⟩ : ByteArray) (ji6)
                            replace p9 := eq_true p9
                            replace q9 := eq_true q9
                            have p12 : 0 ≤ (x5_1 : Int) := of_decide_eq_true (by first | (with_reducible assumption) | assumption)
                            have q12 : (x5_1 : Int) < ((x0_1.length : Int) : Int) := of_decide_eq_true (by first | (with_reducible assumption) | assumption)
                            obtain ⟨go12, co12, eo12, gb12, gl12, cl12, HG12⟩ := Kd.R_form HO_0.out (by omega)
                            (first | cases eo12 | (injection eo12 with ea_ en_ ec_; (first | subst ea_ | (injection ea_ with ea_; subst ea_)); subst ec_; clear en_))
                            have GB12 := Aside0.mk gb12
                            have GG12 := Aside0.mk HG12
                            clear gb12 gl12 HG12
                            have HMgo12 := Aside0.mk (show (P0_ go12 ∨ w.heap.size ≤ go12) from (HO_0.out.1 _ rfl))
                            obtain ⟨hx12_0, hf12_0⟩ := Kd.R_celln 0 HO_0.out (x5_1 : Int) p12 q12
                            replace p12 := eq_true p12
                            replace q12 := eq_true q12
                            have HP20 := Kd.R_putg HO_0.out (x5_1 : Int) (bt (⟨#[48, 49, 50, 51, 52, 53, 54, 55, 56, 57, 97, 98, 99, 100, 101, 102]⟩ : ByteArray) (ji6))
                            go_wp2_with (first | ((with_reducible refine gate_store (t := 5) (p := 19) rfl ?_); refine store_event (t := 5) (p := 19) (v := ?vo_w21) (w1 := (wr.setCell ⟨go12, (x5_1 : Int).toNat, none⟩ (.int .u8 (bt (⟨#[48, 49, 50, 51, 52, 53, 54, 55, 56, 57, 97, 98, 99, 100, 101, 102]⟩ : ByteArray) (ji6))))) ?hg ?ho ?hn ?hr ?_; (case ho => rfl); (case hg => rfl); (case hn => rfl); (case hr => first | (go_simp; done) | (go_simp; rfl) | (go_simp; simp [IntKind.wrap_u8]; done)); intro w21 hw; have hg : wr.grownBy w21 (some go12) := (by rw [hw]; exact HP20.2); have hp_ : Kd.R (Kd.int .u8) 5 w21 w0.heap.size (fun k_ => (P0_ k_ ∨ w.heap.size ≤ k_)) (.slice (some ⟨go12, 0, none⟩) x0_1.length co12) y212 := (by rw [hw, Ny212.out]; exact HP20.1); clear HP20; have n0_ := Aside0.mk (hp_); have n1_ := Aside0.mk ((by rw [hw]; exact below_set (HB.out) GB12.out : Below w0.heap.size w0 w21)); have n2_ := Aside0.mk (Kept.of_grown (S := (fun k_ => P0_ k_)) hg (by repeat (first | (with_reducible first | exact HK.out | apply Kept.alloc | apply Kept.drewN | apply Kept.drew) | exact HK.out)) (fun k_ e_ => (HO_0.out.1 k_ e_))); clear HO_0; clear HB; clear HK; have HO_0 := n0_; have HB := n1_; have HK := n2_; clear n0_ n1_ n2_; clear hg hw hp_; have p15 : 0 ≤ ((Go.bits .and .u8 (rd l1 x10_1) 15) : Int) := of_decide_eq_true (by first | (with_reducible assumption) | assumption); have q15 : (Go.bits .and .u8 (rd l1 x10_1) 15) < (16 : Int) := of_decide_eq_true (by first | (with_reducible assumption) | assumption); have hx15 := bt_at (⟨#[48, 49, 50, 51, 52, 53, 54, 55, 56, 57, 97, 98, 99, 100, 101, 102]⟩ : ByteArray) (Go.bits .and .u8 (rd l1 x10_1) 15); replace p15 := eq_true p15; replace q15 := eq_true q15; have p19 : 0 ≤ ((ji16) : Int) := of_decide_eq_true (by first | (with_reducible assumption) | assumption); have q19 : ((ji16) : Int) < ((x0_1.length : Int) : Int) := of_decide_eq_true (by first | (with_reducible assumption) | assumption); obtain ⟨hx19_0, hf19_0⟩ := Kd.R_celln 0 HO_0.out ((ji16) : Int) p19 q19; replace p19 := eq_true p19; replace q19 := eq_true q19; obtain ⟨hy22_, hz22_⟩ := Kd.R_celln 0 HO_0.out ((ji16) : Int) (of_decide_eq_true (by first | (with_reducible assumption) | assumption)) (of_decide_eq_true (by first | (with_reducible assumption) | assumption)); have HP22 := Kd.R_putg HO_0.out ((ji16) : Int) (bt (⟨#[48, 49, 50, 51, 52, 53, 54, 55, 56, 57, 97, 98, 99, 100, 101, 102]⟩ : ByteArray) (Go.bits .and .u8 (rd l1 x10_1) 15))) | ((with_reducible refine gate_store (t := 5) (p := 26) rfl ?_); refine store_event (t := 5) (p := 26) (v := ?vo_w23) (w1 := (w21.setCell ⟨go12, ((ji16) : Int).toNat, none⟩ (.int .u8 (bt (⟨#[48, 49, 50, 51, 52, 53, 54, 55, 56, 57, 97, 98, 99, 100, 101, 102]⟩ : ByteArray) (Go.bits .and .u8 (rd l1 x10_1) 15))))) ?hg ?ho ?hn ?hr ?_; (case ho => rfl); (case hg => rfl); (case hn => rfl); (case hr => first | (go_simp; done) | (go_simp; rfl) | (go_simp; simp [IntKind.wrap_u8]; done)); intro w23 hw; have hg : w21.grownBy w23 (some go12) := (by rw [hw]; exact HP22.2); have hp_ : Kd.R (Kd.int .u8) 5 w23 w0.heap.size (fun k_ => (P0_ k_ ∨ w.heap.size ≤ k_)) (.slice (some ⟨go12, 0, none⟩) x0_1.length co12) y213 := (by rw [hw, Ny213.out]; exact HP22.1); clear HP22; have n0_ := Aside0.mk (hp_); have n1_ := Aside0.mk ((by rw [hw]; exact below_set (HB.out) GB12.out : Below w0.heap.size w0 w23)); have n2_ := Aside0.mk (Kept.of_grown (S := (fun k_ => P0_ k_)) hg (by repeat (first | (with_reducible first | exact HK.out | apply Kept.alloc | apply Kept.drewN | apply Kept.drew) | exact HK.out)) (fun k_ e_ => (HO_0.out.1 k_ e_))); clear HO_0; clear HB; clear HK; have HO_0 := n0_; have HB := n1_; have HK := n2_; clear n0_ n1_ n2_; clear hg hw hp_))
                            go_roundg k1
                            case measure => have := HK1.out; omega
                            case rel => exact ⟨(y213), (wrap64 (x5_1 + 2)), (wrap64 (x10_1 + 1)), (by first | rfl | (simp; done) | (simp [*]; done)), (by first | rfl | (simp; done) | (simp [*]; done)), H', ⟨by have := HK1.out; omega⟩, ⟨by (with_reducible repeat (first | apply Kd.R_alloc | apply Kd.R_drewN | apply Kd.R_drew)); exact HO_0.out⟩, ⟨by repeat (first | (with_reducible first | exact HK.out | apply Kept.alloc | apply Kept.drewN | apply Kept.drew) | exact HK.out)⟩, ⟨by repeat (first | (with_reducible first | exact HB.out | apply below_alloc | apply pw_below_drewN | apply below_drew1) | exact HB.out)⟩⟩
                          · rw [if_neg c18] at H
                            exact absurd H (by simp)
                        · rw [if_neg c17] at H
                          exact absurd H (by simp)
                      · rw [if_neg c14] at H
                        exact absurd H (by simp)
                    · rw [if_neg c13] at H
                      exact absurd H (by simp)
                  · rw [if_neg c11] at H
                    exact absurd H (by simp)
                · rw [if_neg c10] at H
                  exact absurd H (by simp)
              · rw [if_neg c8] at H
                exact absurd H (by simp)
            · rw [if_neg c7] at H
              exact absurd H (by simp)
          · rw [if_neg c5] at H
            exact absurd H (by simp)
        · rw [if_neg c4] at H
          exact absurd H (by simp)
      · rw [if_neg c3] at H
        have c3b0 : decide (x10_1 < (l1.length : Int)) = false := decide_eq_false c3
        clear c3
        simp only [Option.some.injEq, Prod.mk.injEq] at H
        obtain ⟨rfl, rfl⟩ := H
        go_wp2
        go_ret
        exact ⟨by first | rfl | (simp [errW_none, errW_some] <;> rfl) | (simp [*, errW_none, errW_some] <;> rfl), by (with_reducible repeat (first | apply Kd.R_alloc | apply Kd.R_drewN | apply Kd.R_drew)); exact HO_0.out, by repeat (first | (with_reducible first | exact HB.out | apply below_alloc | apply pw_below_drewN | apply below_drew1) | exact HB.out), by repeat (first | (with_reducible first | exact HK.out | apply Kept.alloc | apply Kept.drewN | apply Kept.drew) | exact HK.out)⟩

/-! ### pq_encodeBytea: function 12 -/
def pq_encodeBytea.f (l0 : List Int) : Option (List Int) := (hex_EncodedLen.f (l0.length : Int)).bind fun t214 => (if 0 ≤ (wrap64 (2 + t214)) then (if (wrap64 (2 + t214) : Int).toNat ≤ 281474976710656 then ((some (List.replicate (wrap64 (2 + t214) : Int).toNat 0 : List Int)).bind fun y215 => (if 0 < (y215.length : Int) then (if 1 < (y215.length : Int) then (if 2 ≤ (y215.length : Int) then (none) else (none)) else (none)) else (none))) else (none)) else (none))
set_option maxHeartbeats 8000000 in
set_option maxRecDepth 100000 in
theorem pq_encodeBytea.calls (A0 : Option Addr) (c0 : Nat) (l0 : List Int) (r : List Int) (w : World) (hr0 : Kd.C (Kd.int .u8) w A0 l0.length l0) (hc0 : l0.length ≤ c0) (h : pq_encodeBytea.f l0 = some r) :
    Calls Tryd.prog 12 #[.slice A0 l0.length c0] w fun e w' => ∃ v0_ : Value, e = .returned (v0_) ∧ Kd.R (Kd.int .u8) 5 w' w.heap.size (fun _ => True) v0_ r ∧ Below w.heap.size w w' := by
  have HR0 := Aside0.mk hr0
  have HC0 := Aside0.mk hc0
  clear hr0 hc0
  have HB := Aside0.mk (Below.refl w.heap.size w)
  have H : ((hex_EncodedLen.f (l0.length : Int)).bind fun t214 => (if 0 ≤ (wrap64 (2 + t214)) then (if (wrap64 (2 + t214) : Int).toNat ≤ 281474976710656 then ((some (List.replicate (wrap64 (2 + t214) : Int).toNat 0 : List Int)).bind fun y215 => (if 0 < (y215.length : Int) then (if 1 < (y215.length : Int) then (if 2 ≤ (y215.length : Int) then (none) else (none)) else (none)) else (none))) else (none)) else (none))) = some r := h
  clear h
  replace H := Option.bind_eq_some_iff.mp H
  obtain ⟨t214, A20, H⟩ := H
  replace H : (if 0 ≤ (wrap64 (2 + t214)) then (if (wrap64 (2 + t214) : Int).toNat ≤ 281474976710656 then ((some (List.replicate (wrap64 (2 + t214) : Int).toNat 0 : List Int)).bind fun y215 => (if 0 < (y215.length : Int) then (if 1 < (y215.length : Int) then (if 2 ≤ (y215.length : Int) then (none) else (none)) else (none)) else (none))) else (none)) else (none)) = some r := H
  have A2 := Aside0.mk A20
  clear A20
  obtain ⟨ji3, hji3⟩ : ∃ j_ : Int, (wrap64 (2 + t214)) = j_ := ⟨_, rfl⟩
  replace H : (if 0 ≤ (ji3) then (if (ji3 : Int).toNat ≤ 281474976710656 then ((some (List.replicate (ji3 : Int).toNat 0 : List Int)).bind fun y215 => (if 0 < (y215.length : Int) then (if 1 < (y215.length : Int) then (if 2 ≤ (y215.length : Int) then (none) else (none)) else (none)) else (none))) else (none)) else (none)) = some r := by first | (rw [hji3] at H; exact H) | (simp only [hji3] at H ⊢; exact H)
  (try rw [hji3] at A2)
  have hji3w : (IntKind.i64.wrap (2 + t214)) = ji3 := (i64_w _).trans hji3
  by_cases c4 : 0 ≤ (ji3)
  · rw [if_pos c4] at H
    have c4b0 := eq_true c4
    have c4b1 : decide (0 ≤ (ji3)) = true := decide_eq_true c4
    clear c4
    by_cases c5 : (ji3 : Int).toNat ≤ 281474976710656
    · rw [if_pos c5] at H
      have c5b0 := eq_true c5
      have c5b1 : decide ((ji3 : Int).toNat ≤ 281474976710656) = true := decide_eq_true c5
      clear c5
      obtain ⟨y215, hy215⟩ : ∃ y_ : List Int, y_ = (List.replicate (ji3 : Int).toNat 0) := ⟨_, rfl⟩
      replace H : (if 0 < (y215.length : Int) then (if 1 < (y215.length : Int) then (if 2 ≤ (y215.length : Int) then (none) else (none)) else (none)) else (none)) = some r := by first | (rw [hy215]; with_reducible exact H) | (have H2_ := (Option.bind_some _ _).symm.trans H; rw [hy215]; with_reducible exact H2_) | (have H2_ := (Option.bind_some _ _).symm.trans H; with_reducible exact H2_) | with_reducible exact H | (rw [hy215]; exact H) | exact H
      have Ny215 := Aside0.mk hy215
      clear hy215
      by_cases c6 : 0 < (y215.length : Int)
      · rw [if_pos c6] at H
        have c6b0 : decide (0 < (y215.length : Int)) = true := decide_eq_true c6
        have c6b1 : decide (0 < y215.length) = true := decide_eq_true (by omega)
        clear c6
        obtain ⟨y218, hy218⟩ : ∃ y_ : List Int, y_ = (y215.set (0 : Int).toNat 92) := ⟨_, rfl⟩
        replace H : (if 1 < (y215.length : Int) then (if 2 ≤ (y215.length : Int) then (none) else (none)) else (none)) = some r := by first | (rw [hy218]; with_reducible exact H) | (have H2_ := (Option.bind_some _ _).symm.trans H; rw [hy218]; with_reducible exact H2_) | (have H2_ := (Option.bind_some _ _).symm.trans H; with_reducible exact H2_) | with_reducible exact H | (rw [hy218]; exact H) | exact H
        have Ny218 := Aside0.mk hy218
        clear hy218
        by_cases c8 : 1 < (y215.length : Int)
        · rw [if_pos c8] at H
          have c8b0 : decide (1 < (y215.length : Int)) = true := decide_eq_true c8
          have c8b1 : decide (1 < y215.length) = true := decide_eq_true (by omega)
          clear c8
          obtain ⟨y219, hy219⟩ : ∃ y_ : List Int, y_ = (y218.set (1 : Int).toNat 120) := ⟨_, rfl⟩
          replace H : (if 2 ≤ (y215.length : Int) then (none) else (none)) = some r := by first | (rw [hy219]; with_reducible exact H) | (have H2_ := (Option.bind_some _ _).symm.trans H; rw [hy219]; with_reducible exact H2_) | (have H2_ := (Option.bind_some _ _).symm.trans H; with_reducible exact H2_) | with_reducible exact H | (rw [hy219]; exact H) | exact H
          have Ny219 := Aside0.mk hy219
          clear hy219
          by_cases c10 : 2 ≤ (y215.length : Int)
          · rw [if_pos c10] at H
            have c10b0 := eq_true c10
            have c10b1 : decide (2 ≤ (y215.length : Int)) = true := decide_eq_true c10
            clear c10
            obtain ⟨y220, hy220⟩ : ∃ y_ : List Int, y_ = (y219.drop 2) := ⟨_, rfl⟩
            replace H : (none) = some r := by first | (rw [hy220]; with_reducible exact H) | (have H2_ := (Option.bind_some _ _).symm.trans H; rw [hy220]; with_reducible exact H2_) | (have H2_ := (Option.bind_some _ _).symm.trans H; with_reducible exact H2_) | with_reducible exact H | (rw [hy220]; exact H) | exact H
            have Ny220 := Aside0.mk hy220
            clear hy220
            exact absurd H (by simp)
          · rw [if_neg c10] at H
            exact absurd H (by simp)
        · rw [if_neg c8] at H
          exact absurd H (by simp)
      · rw [if_neg c6] at H
        exact absurd H (by simp)
    · rw [if_neg c5] at H
      exact absurd H (by simp)
  · rw [if_neg c4] at H
    exact absurd H (by simp)

/-! ### pq_EncodeBytea: function 10 -/
def pq_EncodeBytea.f (l0 : List Int) : Option (List Int) := (pq_encodeBytea.f l0).bind fun t224 => (some t224)
set_option maxHeartbeats 8000000 in
set_option maxRecDepth 100000 in
theorem pq_EncodeBytea.calls (A0 : Option Addr) (c0 : Nat) (l0 : List Int) (r : List Int) (w : World) (hr0 : Kd.C (Kd.int .u8) w A0 l0.length l0) (hc0 : l0.length ≤ c0) (h : pq_EncodeBytea.f l0 = some r) :
    Calls Tryd.prog 10 #[.slice A0 l0.length c0] w fun e w' => ∃ v0_ : Value, e = .returned (v0_) ∧ Kd.R (Kd.int .u8) 5 w' w.heap.size (fun _ => True) v0_ r ∧ Below w.heap.size w w' := by
  have HR0 := Aside0.mk hr0
  have HC0 := Aside0.mk hc0
  clear hr0 hc0
  have HB := Aside0.mk (Below.refl w.heap.size w)
  have H : ((pq_encodeBytea.f l0).bind fun t224 => (some t224)) = some r := h
  clear h
  replace H := Option.bind_eq_some_iff.mp H
  obtain ⟨t224, A20, H⟩ := H
  replace H : (some t224) = some r := H
  have A2 := Aside0.mk A20
  clear A20
  obtain rfl := Option.some.inj H
  go_enter Tryd.func10, Tryd.ntmps10
  go_wp2_with (first | ((with_reducible refine gate_callee (f := 12) rfl ?_); refine goesL_ (some 4) rfl rfl Tryd.func12 (by kernel_rfl) rfl #[.slice A0 l0.length c0] rfl (by (try simp only [List.map_toArray, List.map_cons, List.map_nil]); first | done | rfl | (simp only [List.length_drop, List.length_take]; rfl)) ?_; (with_reducible refine (pq_encodeBytea.calls _ _ l0 t224 _ ?side1 ?side2 A2.out).mono ?_); (case side1 => repeat (first | exact HR0.out | (with_reducible refine Kd.C_alloc ?_ _) | (with_reducible refine Kd.C_drewN ?_ _) | (with_reducible refine Kd.C_drew ?_))); (case side2 => exact HC0.out); rintro e w3 ⟨v225, rfl, ho0, hb⟩; refine ⟨_, rfl, ?_⟩; have n0_ := Aside0.mk (Kd.R_lower ho0 (below_size (by repeat (first | (with_reducible first | exact HB.out | apply below_alloc | apply pw_below_drewN | apply below_drew1) | exact HB.out)))); have n1_ := Aside0.mk (below_step (by repeat (first | (with_reducible first | exact HB.out | apply below_alloc | apply pw_below_drewN | apply below_drew1) | exact HB.out)) hb); clear HB; have HO226 := n0_; have HB := n1_; clear n0_ n1_; (try clear hb); (try clear hb2); (try clear hk); (try clear hi); (try clear ho0)))
  go_ret
  exact ⟨_, by first | rfl | (simp [errW_none, errW_some] <;> rfl) | (simp [*, errW_none, errW_some] <;> rfl), by (with_reducible repeat (first | apply Kd.R_alloc | apply Kd.R_drewN | apply Kd.R_drew)); exact HO226.out, by repeat (first | (with_reducible first | exact HB.out | apply below_alloc | apply pw_below_drewN | apply below_drew1) | exact HB.out)⟩

/-! ### impl_ByteaWritten: function 8 -/
def impl_ByteaWritten.f (a0 : ByteArray) : Option (ByteArray) := none
set_option maxHeartbeats 8000000 in
set_option maxRecDepth 100000 in
theorem impl_ByteaWritten.calls (a0 : ByteArray) (r : ByteArray) (w : World) (h : impl_ByteaWritten.f a0 = some r) :
    Calls Tryd.prog 8 #[.string a0] w fun e w' => e = .returned (.string r) ∧ Below w.heap.size w w' := by
  have HB := Aside0.mk (Below.refl w.heap.size w)
  have H : (none) = some r := h
  clear h
  exact absurd H (by simp)

/-! ### laws_FnByteaHex: function 4 -/
def laws_FnByteaHex.f (k : Nat) (a0 : ByteArray) (a1 : Bool) : Option (Bool) := if (a0.size : Int) > 2147483647 then (some true) else (if (a0.size : Int) > 500 then (some true) else ((spec_Hex.f k a0 a1).bind fun t227 => ((impl_ByteaRead.f k t227).bind fun bt228 => (if t227.size + 1 ≤ 9223372036854775807 then ((impl_ByteaRead.f k (t227 ++ (⟨#[48]⟩ : ByteArray))).bind fun bt230 => (if bt228.2 = true then (if bt228.1.toList = a0.toList then (if bt230.2 = true then (some false) else ((impl_ByteaWritten.f a0).bind fun t232 => ((spec_Hex.f k a0 false).bind fun t233 => (some (t232.toList == t233.toList))))) else (some false)) else (some false))) else (none)))))
theorem laws_FnByteaHex.mono : ∀ a0 a1 k, LeO (laws_FnByteaHex.f k a0 a1) (laws_FnByteaHex.f (k + 1) a0 a1) := by
  intro a0 a1 k
  unfold laws_FnByteaHex.f
  repeat' first
      | (with_reducible exact impl_ByteaRead.mono _ _)
      | (with_reducible exact spec_Hex.mono _ _ _)
      | (with_reducible exact LeO.refl _)
      | (with_reducible exact LeO.none _)
      | (with_reducible refine LeO.ite ?_ ?_)
      | (with_reducible refine LeO.bind ?_ (fun _ => ?_))
      | exact impl_ByteaRead.mono _ _
      | exact spec_Hex.mono _ _ _
      | exact LeO.none _
      | refine LeO.ite ?_ ?_
      | refine LeO.bind ?_ (fun _ => ?_)
set_option maxHeartbeats 8000000 in
set_option maxRecDepth 100000 in
theorem laws_FnByteaHex.calls (k : Nat) (a0 : ByteArray) (a1 : Bool) (r : Bool) (w : World) (h : laws_FnByteaHex.f k a0 a1 = some r) :
    Calls Tryd.prog 4 #[.string a0, .bool a1] w fun e w' => e = .returned (.bool r) ∧ Below w.heap.size w w' := by
  have HB := Aside0.mk (Below.refl w.heap.size w)
  have H : (if (a0.size : Int) > 2147483647 then (some true) else (if (a0.size : Int) > 500 then (some true) else ((spec_Hex.f k a0 a1).bind fun t227 => ((impl_ByteaRead.f k t227).bind fun bt228 => (if t227.size + 1 ≤ 9223372036854775807 then ((impl_ByteaRead.f k (t227 ++ (⟨#[48]⟩ : ByteArray))).bind fun bt230 => (if bt228.2 = true then (if bt228.1.toList = a0.toList then (if bt230.2 = true then (some false) else ((impl_ByteaWritten.f a0).bind fun t232 => ((spec_Hex.f k a0 false).bind fun t233 => (some (t232.toList == t233.toList))))) else (some false)) else (some false))) else (none)))))) = some r := h
  clear h
  by_cases c3 : (a0.size : Int) > 2147483647
  · rw [if_pos c3] at H
    have c3b0 : decide (2147483647 < (a0.size : Int)) = true := decide_eq_true c3
    have c3b1 : decide (2147483647 < a0.size) = true := decide_eq_true (by omega)
    clear c3
    obtain rfl := Option.some.inj H
    go_enter Tryd.func4, Tryd.ntmps4
    go_wp2
    go_ret
    exact ⟨by first | rfl | (simp [errW_none, errW_some] <;> rfl) | (simp [*, errW_none, errW_some] <;> rfl), by repeat (first | (with_reducible first | exact HB.out | apply below_alloc | apply pw_below_drewN | apply below_drew1) | exact HB.out)⟩
  · rw [if_neg c3] at H
    have c3b0 : decide (2147483647 < (a0.size : Int)) = false := decide_eq_false c3
    have c3b1 : decide (2147483647 < a0.size) = false := decide_eq_false (by omega)
    clear c3
    by_cases c4 : (a0.size : Int) > 500
    · rw [if_pos c4] at H
      have c4b0 : decide (500 < (a0.size : Int)) = true := decide_eq_true c4
      have c4b1 : decide (500 < a0.size) = true := decide_eq_true (by omega)
      clear c4
      obtain rfl := Option.some.inj H
      go_enter Tryd.func4, Tryd.ntmps4
      go_wp2
      go_ret
      exact ⟨by first | rfl | (simp [errW_none, errW_some] <;> rfl) | (simp [*, errW_none, errW_some] <;> rfl), by repeat (first | (with_reducible first | exact HB.out | apply below_alloc | apply pw_below_drewN | apply below_drew1) | exact HB.out)⟩
    · rw [if_neg c4] at H
      have c4b0 : decide (500 < (a0.size : Int)) = false := decide_eq_false c4
      have c4b1 : decide (500 < a0.size) = false := decide_eq_false (by omega)
      clear c4
      replace H := Option.bind_eq_some_iff.mp H
      obtain ⟨t227, A50, H⟩ := H
      replace H : ((impl_ByteaRead.f k t227).bind fun bt228 => (if t227.size + 1 ≤ 9223372036854775807 then ((impl_ByteaRead.f k (t227 ++ (⟨#[48]⟩ : ByteArray))).bind fun bt230 => (if bt228.2 = true then (if bt228.1.toList = a0.toList then (if bt230.2 = true then (some false) else ((impl_ByteaWritten.f a0).bind fun t232 => ((spec_Hex.f k a0 false).bind fun t233 => (some (t232.toList == t233.toList))))) else (some false)) else (some false))) else (none))) = some r := H
      have A5 := Aside0.mk A50
      clear A50
      replace H := Option.bind_eq_some_iff.mp H
      obtain ⟨⟨t228, t229⟩, A60, H⟩ := H
      replace H : (if t227.size + 1 ≤ 9223372036854775807 then ((impl_ByteaRead.f k (t227 ++ (⟨#[48]⟩ : ByteArray))).bind fun bt230 => (if t229 = true then (if t228.toList = a0.toList then (if bt230.2 = true then (some false) else ((impl_ByteaWritten.f a0).bind fun t232 => ((spec_Hex.f k a0 false).bind fun t233 => (some (t232.toList == t233.toList))))) else (some false)) else (some false))) else (none)) = some r := H
      have A6 := Aside0.mk A60
      clear A60
      by_cases c7 : t227.size + 1 ≤ 9223372036854775807
      · rw [if_pos c7] at H
        have c7b0 := eq_true c7
        have c7b1 : decide (t227.size + 1 ≤ 9223372036854775807) = true := decide_eq_true c7
        try have c7b2 : (9223372036854775807 < t227.size + 1) = False := eq_false (Nat.not_lt.2 c7)
        replace H := Option.bind_eq_some_iff.mp H
        obtain ⟨⟨t230, t231⟩, A80, H⟩ := H
        replace H : (if t229 = true then (if t228.toList = a0.toList then (if t231 = true then (some false) else ((impl_ByteaWritten.f a0).bind fun t232 => ((spec_Hex.f k a0 false).bind fun t233 => (some (t232.toList == t233.toList))))) else (some false)) else (some false)) = some r := H
        have A8 := Aside0.mk A80
        clear A80
        by_cases c9 : t229 = true
        · subst c9
          have H1 : (if t228.toList = a0.toList then (if t231 = true then (some false) else ((impl_ByteaWritten.f a0).bind fun t232 => ((spec_Hex.f k a0 false).bind fun t233 => (some (t232.toList == t233.toList))))) else (some false)) = some r := by rw [if_pos rfl] at H; exact H
          clear H
          have H := H1
          clear H1
          by_cases c10 : t228.toList = a0.toList
          · rw [if_pos c10] at H
            have c10b0 : (t228.toList == a0.toList) = true := beq_iff_eq.mpr c10
            have c10b1 : (t228.toList != a0.toList) = false := bne_eq_false_iff_eq.mpr c10
            clear c10
            by_cases c11 : t231 = true
            · subst c11
              have H1 : (some false) = some r := by rw [if_pos rfl] at H; exact H
              clear H
              have H := H1
              clear H1
              obtain rfl := Option.some.inj H
              go_enter Tryd.func4, Tryd.ntmps4
              go_wp2_with (first | ((with_reducible refine gate_callee (f := 6) rfl ?_); refine goesL_ (some 18) rfl rfl Tryd.func6 (by kernel_rfl) rfl #[.string a0, .bool a1] rfl (by (try simp only [List.map_toArray, List.map_cons, List.map_nil]); first | done | rfl | (simp only [List.length_drop, List.length_take]; rfl)) ?_; (with_reducible refine (spec_Hex.calls k a0 a1 t227 _ A5.out).mono ?_); rintro e w12 ⟨rfl, hb⟩; refine ⟨_, rfl, ?_⟩; have n0_ := Aside0.mk (below_step (by repeat (first | (with_reducible first | exact HB.out | apply below_alloc | apply pw_below_drewN | apply below_drew1) | exact HB.out)) hb); clear HB; have HB := n0_; clear n0_; (try clear hb); (try clear hb2); (try clear hk); (try clear hi)) | ((with_reducible refine gate_callee (f := 7) rfl ?_); refine goesL_ (some 21) rfl rfl Tryd.func7 (by kernel_rfl) rfl #[.string t227] rfl (by (try simp only [List.map_toArray, List.map_cons, List.map_nil]); first | done | rfl | (simp only [List.length_drop, List.length_take]; rfl)) ?_; (with_reducible refine (impl_ByteaRead.calls k t227 t228 true _ A6.out).mono ?_); rintro e w13 ⟨rfl, hb⟩; refine ⟨_, rfl, ?_⟩; have n0_ := Aside0.mk (below_step (by repeat (first | (with_reducible first | exact HB.out | apply below_alloc | apply pw_below_drewN | apply below_drew1) | exact HB.out)) hb); clear HB; have HB := n0_; clear n0_; (try clear hb); (try clear hb2); (try clear hk); (try clear hi)) | ((with_reducible refine gate_callee (f := 7) rfl ?_); refine goesL_ (some 27) rfl rfl Tryd.func7 (by kernel_rfl) rfl #[.string (t227 ++ (⟨#[48]⟩ : ByteArray))] rfl (by (try simp only [List.map_toArray, List.map_cons, List.map_nil]); first | done | rfl | (simp only [List.length_drop, List.length_take]; rfl)) ?_; (with_reducible refine (impl_ByteaRead.calls k (t227 ++ (⟨#[48]⟩ : ByteArray)) t230 true _ A8.out).mono ?_); rintro e w14 ⟨rfl, hb⟩; refine ⟨_, rfl, ?_⟩; have n0_ := Aside0.mk (below_step (by repeat (first | (with_reducible first | exact HB.out | apply below_alloc | apply pw_below_drewN | apply below_drew1) | exact HB.out)) hb); clear HB; have HB := n0_; clear n0_; (try clear hb); (try clear hb2); (try clear hk); (try clear hi)))
              go_ret
              exact ⟨by first | rfl | (simp [errW_none, errW_some] <;> rfl) | (simp [*, errW_none, errW_some] <;> rfl), by repeat (first | (with_reducible first | exact HB.out | apply below_alloc | apply pw_below_drewN | apply below_drew1) | exact HB.out)⟩
            · replace c11 := Bool.eq_false_iff.mpr c11
              subst c11
              have H1 : ((impl_ByteaWritten.f a0).bind fun t232 => ((spec_Hex.f k a0 false).bind fun t233 => (some (t232.toList == t233.toList)))) = some r := by rw [if_neg (show ¬ (false = true) by decide)] at H; exact H
              clear H
              have H := H1
              clear H1
              replace H := Option.bind_eq_some_iff.mp H
              obtain ⟨t232, A150, H⟩ := H
              replace H : ((spec_Hex.f k a0 false).bind fun t233 => (some (t232.toList == t233.toList))) = some r := H
              have A15 := Aside0.mk A150
              clear A150
              replace H := Option.bind_eq_some_iff.mp H
              obtain ⟨t233, A160, H⟩ := H
              replace H : (some (t232.toList == t233.toList)) = some r := H
              have A16 := Aside0.mk A160
              clear A160
              obtain rfl := Option.some.inj H
              go_enter Tryd.func4, Tryd.ntmps4
              go_wp2_with (first | ((with_reducible refine gate_callee (f := 6) rfl ?_); refine goesL_ (some 18) rfl rfl Tryd.func6 (by kernel_rfl) rfl #[.string a0, .bool a1] rfl (by (try simp only [List.map_toArray, List.map_cons, List.map_nil]); first | done | rfl | (simp only [List.length_drop, List.length_take]; rfl)) ?_; (with_reducible refine (spec_Hex.calls k a0 a1 t227 _ A5.out).mono ?_); rintro e w17 ⟨rfl, hb⟩; refine ⟨_, rfl, ?_⟩; have n0_ := Aside0.mk (below_step (by repeat (first | (with_reducible first | exact HB.out | apply below_alloc | apply pw_below_drewN | apply below_drew1) | exact HB.out)) hb); clear HB; have HB := n0_; clear n0_; (try clear hb); (try clear hb2); (try clear hk); (try clear hi)) | ((with_reducible refine gate_callee (f := 7) rfl ?_); refine goesL_ (some 21) rfl rfl Tryd.func7 (by kernel_rfl) rfl #[.string t227] rfl (by (try simp only [List.map_toArray, List.map_cons, List.map_nil]); first | done | rfl | (simp only [List.length_drop, List.length_take]; rfl)) ?_; (with_reducible refine (impl_ByteaRead.calls k t227 t228 true _ A6.out).mono ?_); rintro e w18 ⟨rfl, hb⟩; refine ⟨_, rfl, ?_⟩; have n0_ := Aside0.mk (below_step (by repeat (first | (with_reducible first | exact HB.out | apply below_alloc | apply pw_below_drewN | apply below_drew1) | exact HB.out)) hb); clear HB; have HB := n0_; clear n0_; (try clear hb); (try clear hb2); (try clear hk); (try clear hi)) | ((with_reducible refine gate_callee (f := 7) rfl ?_); refine goesL_ (some 27) rfl rfl Tryd.func7 (by kernel_rfl) rfl #[.string (t227 ++ (⟨#[48]⟩ : ByteArray))] rfl (by (try simp only [List.map_toArray, List.map_cons, List.map_nil]); first | done | rfl | (simp only [List.length_drop, List.length_take]; rfl)) ?_; (with_reducible refine (impl_ByteaRead.calls k (t227 ++ (⟨#[48]⟩ : ByteArray)) t230 false _ A8.out).mono ?_); rintro e w19 ⟨rfl, hb⟩; refine ⟨_, rfl, ?_⟩; have n0_ := Aside0.mk (below_step (by repeat (first | (with_reducible first | exact HB.out | apply below_alloc | apply pw_below_drewN | apply below_drew1) | exact HB.out)) hb); clear HB; have HB := n0_; clear n0_; (try clear hb); (try clear hb2); (try clear hk); (try clear hi)) | (go_at_call 8; (with_reducible refine (impl_ByteaWritten.calls a0 t232 _ A15.out).mono ?_); rintro e w20 ⟨rfl, hb⟩; have n0_ := Aside0.mk (below_step (by repeat (first | (with_reducible first | exact HB.out | apply below_alloc | apply pw_below_drewN | apply below_drew1) | exact HB.out)) hb); clear HB; have HB := n0_; clear n0_; (try clear hb); (try clear hb2); (try clear hk); (try clear hi)) | (go_at_call 6; (with_reducible refine (spec_Hex.calls k a0 false t233 _ A16.out).mono ?_); rintro e w21 ⟨rfl, hb⟩; have n0_ := Aside0.mk (below_step (by repeat (first | (with_reducible first | exact HB.out | apply below_alloc | apply pw_below_drewN | apply below_drew1) | exact HB.out)) hb); clear HB; have HB := n0_; clear n0_; (try clear hb); (try clear hb2); (try clear hk); (try clear hi)))
              go_ret
              exact ⟨by first | rfl | (simp [errW_none, errW_some] <;> rfl) | (simp [*, errW_none, errW_some] <;> rfl), by repeat (first | (with_reducible first | exact HB.out | apply below_alloc | apply pw_below_drewN | apply below_drew1) | exact HB.out)⟩
          · rw [if_neg c10] at H
            have c10b0 : (t228.toList == a0.toList) = false := beq_eq_false_iff_ne.mpr c10
            have c10b1 : (t228.toList != a0.toList) = true := bne_iff_ne.mpr c10
            obtain rfl := Option.some.inj H
            go_enter Tryd.func4, Tryd.ntmps4
            go_wp2_with (first | ((with_reducible refine gate_callee (f := 6) rfl ?_); refine goesL_ (some 18) rfl rfl Tryd.func6 (by kernel_rfl) rfl #[.string a0, .bool a1] rfl (by (try simp only [List.map_toArray, List.map_cons, List.map_nil]); first | done | rfl | (simp only [List.length_drop, List.length_take]; rfl)) ?_; (with_reducible refine (spec_Hex.calls k a0 a1 t227 _ A5.out).mono ?_); rintro e w22 ⟨rfl, hb⟩; refine ⟨_, rfl, ?_⟩; have n0_ := Aside0.mk (below_step (by repeat (first | (with_reducible first | exact HB.out | apply below_alloc | apply pw_below_drewN | apply below_drew1) | exact HB.out)) hb); clear HB; have HB := n0_; clear n0_; (try clear hb); (try clear hb2); (try clear hk); (try clear hi)) | ((with_reducible refine gate_callee (f := 7) rfl ?_); refine goesL_ (some 21) rfl rfl Tryd.func7 (by kernel_rfl) rfl #[.string t227] rfl (by (try simp only [List.map_toArray, List.map_cons, List.map_nil]); first | done | rfl | (simp only [List.length_drop, List.length_take]; rfl)) ?_; (with_reducible refine (impl_ByteaRead.calls k t227 t228 true _ A6.out).mono ?_); rintro e w23 ⟨rfl, hb⟩; refine ⟨_, rfl, ?_⟩; have n0_ := Aside0.mk (below_step (by repeat (first | (with_reducible first | exact HB.out | apply below_alloc | apply pw_below_drewN | apply below_drew1) | exact HB.out)) hb); clear HB; have HB := n0_; clear n0_; (try clear hb); (try clear hb2); (try clear hk); (try clear hi)) | ((with_reducible refine gate_callee (f := 7) rfl ?_); refine goesL_ (some 27) rfl rfl Tryd.func7 (by kernel_rfl) rfl #[.string (t227 ++ (⟨#[48]⟩ : ByteArray))] rfl (by (try simp only [List.map_toArray, List.map_cons, List.map_nil]); first | done | rfl | (simp only [List.length_drop, List.length_take]; rfl)) ?_; (with_reducible refine (impl_ByteaRead.calls k (t227 ++ (⟨#[48]⟩ : ByteArray)) t230 t231 _ A8.out).mono ?_); rintro e w24 ⟨rfl, hb⟩; refine ⟨_, rfl, ?_⟩; have n0_ := Aside0.mk (below_step (by repeat (first | (with_reducible first | exact HB.out | apply below_alloc | apply pw_below_drewN | apply below_drew1) | exact HB.out)) hb); clear HB; have HB := n0_; clear n0_; (try clear hb); (try clear hb2); (try clear hk); (try clear hi)))
            go_ret
            exact ⟨by first | rfl | (simp [errW_none, errW_some] <;> rfl) | (simp [*, errW_none, errW_some] <;> rfl), by repeat (first | (with_reducible first | exact HB.out | apply below_alloc | apply pw_below_drewN | apply below_drew1) | exact HB.out)⟩
        · replace c9 := Bool.eq_false_iff.mpr c9
          subst c9
          have H1 : (some false) = some r := by rw [if_neg (show ¬ (false = true) by decide)] at H; exact H
          clear H
          have H := H1
          clear H1
          obtain rfl := Option.some.inj H
          go_enter Tryd.func4, Tryd.ntmps4
          go_wp2_with (first | ((with_reducible refine gate_callee (f := 6) rfl ?_); refine goesL_ (some 18) rfl rfl Tryd.func6 (by kernel_rfl) rfl #[.string a0, .bool a1] rfl (by (try simp only [List.map_toArray, List.map_cons, List.map_nil]); first | done | rfl | (simp only [List.length_drop, List.length_take]; rfl)) ?_; (with_reducible refine (spec_Hex.calls k a0 a1 t227 _ A5.out).mono ?_); rintro e w25 ⟨rfl, hb⟩; refine ⟨_, rfl, ?_⟩; have n0_ := Aside0.mk (below_step (by repeat (first | (with_reducible first | exact HB.out | apply below_alloc | apply pw_below_drewN | apply below_drew1) | exact HB.out)) hb); clear HB; have HB := n0_; clear n0_; (try clear hb); (try clear hb2); (try clear hk); (try clear hi)) | ((with_reducible refine gate_callee (f := 7) rfl ?_); refine goesL_ (some 21) rfl rfl Tryd.func7 (by kernel_rfl) rfl #[.string t227] rfl (by (try simp only [List.map_toArray, List.map_cons, List.map_nil]); first | done | rfl | (simp only [List.length_drop, List.length_take]; rfl)) ?_; (with_reducible refine (impl_ByteaRead.calls k t227 t228 false _ A6.out).mono ?_); rintro e w26 ⟨rfl, hb⟩; refine ⟨_, rfl, ?_⟩; have n0_ := Aside0.mk (below_step (by repeat (first | (with_reducible first | exact HB.out | apply below_alloc | apply pw_below_drewN | apply below_drew1) | exact HB.out)) hb); clear HB; have HB := n0_; clear n0_; (try clear hb); (try clear hb2); (try clear hk); (try clear hi)) | ((with_reducible refine gate_callee (f := 7) rfl ?_); refine goesL_ (some 27) rfl rfl Tryd.func7 (by kernel_rfl) rfl #[.string (t227 ++ (⟨#[48]⟩ : ByteArray))] rfl (by (try simp only [List.map_toArray, List.map_cons, List.map_nil]); first | done | rfl | (simp only [List.length_drop, List.length_take]; rfl)) ?_; (with_reducible refine (impl_ByteaRead.calls k (t227 ++ (⟨#[48]⟩ : ByteArray)) t230 t231 _ A8.out).mono ?_); rintro e w27 ⟨rfl, hb⟩; refine ⟨_, rfl, ?_⟩; have n0_ := Aside0.mk (below_step (by repeat (first | (with_reducible first | exact HB.out | apply below_alloc | apply pw_below_drewN | apply below_drew1) | exact HB.out)) hb); clear HB; have HB := n0_; clear n0_; (try clear hb); (try clear hb2); (try clear hk); (try clear hi)))
          go_ret
          exact ⟨by first | rfl | (simp [errW_none, errW_some] <;> rfl) | (simp [*, errW_none, errW_some] <;> rfl), by repeat (first | (with_reducible first | exact HB.out | apply below_alloc | apply pw_below_drewN | apply below_drew1) | exact HB.out)⟩
      · rw [if_neg c7] at H
        exact absurd H (by simp)

/-- THE ONE PURE STATEMENT of laws_FnByteaHex: yours. -/
def laws_FnByteaHex.Pure : Prop := ∀ (a0 : ByteArray) (a1 : Bool), a0.size ≤ 140737488351232 → ∃ k, laws_FnByteaHex.f k a0 a1 = some true
theorem laws_FnByteaHex.walk (P : laws_FnByteaHex.Pure) (a0 : ByteArray) (a1 : Bool) (w : World) (w0 : a0.size ≤ 140737488351232) :
    Calls Tryd.prog 4 #[.string a0, .bool a1] w fun e w' => e = .returned (.bool true) ∧ Below w.heap.size w w' := by
  obtain ⟨k, h⟩ := P a0 a1 w0
  refine (laws_FnByteaHex.calls k a0 a1 true w h).mono ?_
  rintro e w' ⟨rfl, hd⟩
  exact ⟨rfl, hd⟩

end Go.Proofs.YthcikkjjegfbladDoor.P
