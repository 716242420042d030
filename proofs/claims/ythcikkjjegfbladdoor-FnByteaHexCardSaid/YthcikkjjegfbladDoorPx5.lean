-- Written by the program wip/myprint.py of this session, over the kit's print of the translation. Lean checks it.
import Derived.Test.YthcikkjjegfbladDoorPx0
import Derived.Test.YthcikkjjegfbladDoorPx1
import Derived.Test.YthcikkjjegfbladDoorPx4
namespace Go.Proofs.YthcikkjjegfbladDoor.P
open Go.RowKit Go.Proofs.YthcikkjjegfbladDoorW.PrintWords Go.Proofs.YthcikkjjegfbladDoorW.PrintLast Go.Proofs.YthcikkjjegfbladDoorW.PrintMore
attribute [local go_sem] max2_int min2_int max_two min_two max_three min_three max_four min_four   -- for this text's walks alone
set_option linter.unusedVariables false
set_option linter.unusedSimpArgs false

/-! ### pq_parseBytea: function 11 -/
mutual
def pq_parseBytea.j0 : Nat → List Int → List Int → Bool → Option (List Int × Option Int)
  | 0, _, _, _ => none
  | k + 1, x0, x2, x17 => if x17 = true then (if 2 ≤ (x0.length : Int) then ((some (x0.drop 2 : List Int)).bind fun y148 => ((hex_DecodedLen.f (y148.length : Int)).bind fun t153 => (if 0 ≤ t153 then (if (t153 : Int).toNat ≤ 281474976710656 then ((some (List.replicate (t153 : Int).toNat 0 : List Int)).bind fun y154 => ((hex_Decode.f y154 y148).bind fun bt157 => (if bt157.2.isNone = true then (some (y154, none)) else (some (([] : List Int), some (bt157.2.getD 0)))))) else (none)) else (none)))) else (none)) else (pq_parseBytea.l0 k x0 x2)
def pq_parseBytea.l0 : Nat → List Int → List Int → Option (List Int × Option Int)
  | 0, _, _ => none
  | k + 1, x0, x2 => if (x0.length : Int) > 0 then (if 0 < (x0.length : Int) then (if (rd x0 0) = 92 then (if (x0.length : Int) ≥ 2 then (if 1 < (x0.length : Int) then (pq_parseBytea.j2 k x0 x2 ((rd x0 1) == 92)) else (none)) else (pq_parseBytea.j2 k x0 x2 false)) else ((pq_zzIndex.f k (strOfNums x0) (⟨#[92]⟩ : ByteArray)).bind fun t188 => (if t188 = (-1) then (if x2.length + x0.length < 140737488355328 then (some ((x2 ++ x0), none)) else (none)) else (if 0 ≤ t188 then (if t188 ≤ (x0.length : Int) then ((some (x0.take (t188 : Int).toNat : List Int)).bind fun y192 => (if x2.length + y192.length < 140737488355328 then (pq_parseBytea.l0 k (x0.drop (t188 : Int).toNat) (x2 ++ y192)) else (none))) else (none)) else (none))))) else (none)) else (some (x2, none))
def pq_parseBytea.j2 : Nat → List Int → List Int → Bool → Option (List Int × Option Int)
  | 0, _, _, _ => none
  | k + 1, x0, x2, x49 => if x49 = true then (if x2.length < 140737488355328 then (if 2 ≤ (x0.length : Int) then (pq_parseBytea.l0 k (x0.drop 2) (x2 ++ [92])) else (none)) else (none)) else (if (x0.length : Int) < 4 then ((errors_New.f (⟨#[105, 110, 118, 97, 108, 105, 100, 32, 98, 121, 116, 101, 97, 32, 115, 101, 113, 117, 101, 110, 99, 101, 32, 37, 118]⟩ : ByteArray)).bind fun t170 => (some (([] : List Int), t170))) else (if 1 ≤ 4 then (if 4 ≤ (x0.length : Int) then ((strconv_ParseUint.f k (strOfNums ((x0.take 4).drop 1)) 8 8).bind fun bt176 => (if bt176.2.isNone = true then (if x2.length < 140737488355328 then (pq_parseBytea.l0 k (x0.drop 4) (x2 ++ [(bt176.1) % 256])) else (none)) else ((errors_New.f (⟨#[99, 111, 117, 108, 100, 32, 110, 111, 116, 32, 112, 97, 114, 115, 101, 32, 98, 121, 116, 101, 97, 32, 118, 97, 108, 117, 101, 58, 32, 37, 119]⟩ : ByteArray)).bind fun t187 => (some (([] : List Int), t187))))) else (none)) else (none)))
end
def pq_parseBytea.f (k : Nat) (l0 : List Int) : Option (List Int × Option Int) := if (l0.length : Int) ≥ 2 then (if 2 ≤ (l0.length : Int) then (pq_parseBytea.j0 k l0 ([] : List Int) ((strOfNums (l0.take 2)).toList == ([92, 120] : List UInt8))) else (none)) else (pq_parseBytea.j0 k l0 ([] : List Int) false)
theorem pq_parseBytea.mono_l : ∀ k, (∀ y0 y1 y2, LeO (pq_parseBytea.j0 k y0 y1 y2) (pq_parseBytea.j0 (k + 1) y0 y1 y2)) ∧ (∀ y0 y1, LeO (pq_parseBytea.l0 k y0 y1) (pq_parseBytea.l0 (k + 1) y0 y1)) ∧ (∀ y0 y1 y2, LeO (pq_parseBytea.j2 k y0 y1 y2) (pq_parseBytea.j2 (k + 1) y0 y1 y2))
  | 0 => ⟨fun _ _ _ r h => by simp [pq_parseBytea.j0] at h, fun _ _ r h => by simp [pq_parseBytea.l0] at h, fun _ _ _ r h => by simp [pq_parseBytea.j2] at h⟩
  | k + 1 => by
    obtain ⟨ih0, ih1, ih2⟩ := pq_parseBytea.mono_l k
    refine ⟨?_, ?_, ?_⟩
    · intro y0 y1 y2
      unfold pq_parseBytea.j0
      repeat' first
      | (with_reducible exact ih0 _ _ _)
      | (with_reducible exact ih1 _ _)
      | (with_reducible exact ih2 _ _ _)
      | (with_reducible exact pq_zzIndex.mono _ _ _)
      | (with_reducible exact strconv_ParseUint.mono _ _ _ _)
      | (with_reducible exact LeO.refl _)
      | (with_reducible exact LeO.none _)
      | (with_reducible refine LeO.ite ?_ ?_)
      | (with_reducible refine LeO.bind ?_ (fun _ => ?_))
      | exact ih0 _ _ _
      | exact ih1 _ _
      | exact ih2 _ _ _
      | exact pq_zzIndex.mono _ _ _
      | exact strconv_ParseUint.mono _ _ _ _
      | exact LeO.none _
      | refine LeO.ite ?_ ?_
      | refine LeO.bind ?_ (fun _ => ?_)
    · intro y0 y1
      unfold pq_parseBytea.l0
      repeat' first
      | (with_reducible exact ih0 _ _ _)
      | (with_reducible exact ih1 _ _)
      | (with_reducible exact ih2 _ _ _)
      | (with_reducible exact pq_zzIndex.mono _ _ _)
      | (with_reducible exact strconv_ParseUint.mono _ _ _ _)
      | (with_reducible exact LeO.refl _)
      | (with_reducible exact LeO.none _)
      | (with_reducible refine LeO.ite ?_ ?_)
      | (with_reducible refine LeO.bind ?_ (fun _ => ?_))
      | exact ih0 _ _ _
      | exact ih1 _ _
      | exact ih2 _ _ _
      | exact pq_zzIndex.mono _ _ _
      | exact strconv_ParseUint.mono _ _ _ _
      | exact LeO.none _
      | refine LeO.ite ?_ ?_
      | refine LeO.bind ?_ (fun _ => ?_)
    · intro y0 y1 y2
      unfold pq_parseBytea.j2
      repeat' first
      | (with_reducible exact ih0 _ _ _)
      | (with_reducible exact ih1 _ _)
      | (with_reducible exact ih2 _ _ _)
      | (with_reducible exact pq_zzIndex.mono _ _ _)
      | (with_reducible exact strconv_ParseUint.mono _ _ _ _)
      | (with_reducible exact LeO.refl _)
      | (with_reducible exact LeO.none _)
      | (with_reducible refine LeO.ite ?_ ?_)
      | (with_reducible refine LeO.bind ?_ (fun _ => ?_))
      | exact ih0 _ _ _
      | exact ih1 _ _
      | exact ih2 _ _ _
      | exact pq_zzIndex.mono _ _ _
      | exact strconv_ParseUint.mono _ _ _ _
      | exact LeO.none _
      | refine LeO.ite ?_ ?_
      | refine LeO.bind ?_ (fun _ => ?_)
theorem pq_parseBytea.mono : ∀ a0 k, LeO (pq_parseBytea.f k a0) (pq_parseBytea.f (k + 1) a0) := by
  intro a0 k
  obtain ⟨ih0, ih1, ih2⟩ := pq_parseBytea.mono_l k
  unfold pq_parseBytea.f
  repeat' first
      | (with_reducible exact ih0 _ _ _)
      | (with_reducible exact ih1 _ _)
      | (with_reducible exact ih2 _ _ _)
      | (with_reducible exact pq_zzIndex.mono _ _ _)
      | (with_reducible exact strconv_ParseUint.mono _ _ _ _)
      | (with_reducible exact LeO.refl _)
      | (with_reducible exact LeO.none _)
      | (with_reducible refine LeO.ite ?_ ?_)
      | (with_reducible refine LeO.bind ?_ (fun _ => ?_))
      | exact ih0 _ _ _
      | exact ih1 _ _
      | exact ih2 _ _ _
      | exact pq_zzIndex.mono _ _ _
      | exact strconv_ParseUint.mono _ _ _ _
      | exact LeO.none _
      | refine LeO.ite ?_ ?_
      | refine LeO.bind ?_ (fun _ => ?_)
set_option maxHeartbeats 8000000 in
set_option maxRecDepth 100000 in
theorem pq_parseBytea.calls (k : Nat) (P0_ : Nat → Prop) (A0 : Option Addr) (c0 : Nat) (l0 : List Int) (r1 : List Int) (r2 : Option Int) (w : World) (hs0 : Kd.V (Kd.int .u8) 5 w w.heap.size (fun k_ => P0_ k_) (.slice A0 l0.length c0) l0) (h : pq_parseBytea.f k l0 = some (r1, r2)) :
    Calls Tryd.prog 11 #[.slice A0 l0.length c0] w fun e w' => ∃ v0_ : Value, e = .returned (.tuple #[v0_, errW r2]) ∧ Kd.R (Kd.int .u8) 5 w' w.heap.size (fun k_ => (w.heap.size ≤ k_)) v0_ r1 ∧ Below w.heap.size w w' := by
  have hu32 := Tryd.underlying32
  have hu50 := Tryd.underlying50
  have HO0 := Aside0.mk (show Kd.V (Kd.int .u8) 5 w w.heap.size (fun k_ => (P0_ k_ ∨ w.heap.size ≤ k_)) (.slice A0 l0.length c0) l0 from Kd.V_mono hs0 (fun k_ hk => .inl hk))
  have HB := Aside0.mk (Below.refl w.heap.size w)
  have H : (if (l0.length : Int) ≥ 2 then (if 2 ≤ (l0.length : Int) then (pq_parseBytea.j0 k l0 ([] : List Int) ((strOfNums (l0.take 2)).toList == ([92, 120] : List UInt8))) else (none)) else (pq_parseBytea.j0 k l0 ([] : List Int) false)) = some (r1, r2) := h
  clear h
  have HC2 := Aside0.mk H
  clear H
  go_enter Tryd.func11, Tryd.ntmps11
  go_upto_region 1 with (fail)
  go_cut [17] (fun v17 wc => ∃ (kq : Nat) (x17_1 : Bool), v17 = .bool x17_1 ∧ Aside0 (pq_parseBytea.j0 kq l0 ([] : List Int) x17_1 = some (r1, r2)) ∧ Aside0 (kq ≤ k) ∧ Aside0 (Kd.V (Kd.int .u8) 5 wc w.heap.size (fun k_ => (P0_ k_ ∨ w.heap.size ≤ k_) ∧ some k_ ≠ ((.slice none 0 0) : Value).ownBlock) (.slice A0 l0.length c0) l0) ∧ Aside0 (Kd.R (Kd.int .u8) 5 wc w.heap.size (fun k_ => (w.heap.size ≤ k_)) (.slice none 0 0) ([] : List Int)) ∧ Aside0 (Below w.heap.size w wc))
  case first =>
    have H := HC2.out
    clear HC2
    by_cases c3 : (l0.length : Int) ≥ 2
    · rw [if_pos c3] at H
      have c3b0 : decide (2 ≤ (l0.length : Int)) = true := decide_eq_true c3
      have c3b1 : decide (2 ≤ l0.length) = true := decide_eq_true (by omega)
      clear c3
      (first | rw [c3b0] | (simp only [i64_w, i32_w]; rw [c3b0]) | skip)
      by_cases c4 : 2 ≤ (l0.length : Int)
      · rw [if_pos c4] at H
        have c4b0 := eq_true c4
        have c4b1 : decide (2 ≤ (l0.length : Int)) = true := decide_eq_true c4
        clear c4
        obtain ⟨y143, hy143⟩ : ∃ y_ : List Int, y_ = (l0.take 2) := ⟨_, rfl⟩
        replace H : (pq_parseBytea.j0 k l0 ([] : List Int) ((strOfNums y143).toList == ([92, 120] : List UInt8))) = some (r1, r2) := by first | (rw [hy143]; with_reducible exact H) | (have H2_ := (Option.bind_some _ _).symm.trans H; rw [hy143]; with_reducible exact H2_) | (have H2_ := (Option.bind_some _ _).symm.trans H; with_reducible exact H2_) | with_reducible exact H | (rw [hy143]; exact H) | exact H
        have Ny143 := Aside0.mk hy143
        clear hy143
        have H' := Aside0.mk H
        clear H
        have q5 : (2 : Int) ≤ ((l0.length : Int) : Int) := of_decide_eq_true (by first | (with_reducible assumption) | assumption)
        obtain ⟨i05, hi05, _, hsz5, _⟩ := info_parts info5
        have hroom5 : l0.length ≤ c0 := (Kd.V_reads' HO0.out).2.1
        have hC5 : Kd.F (Kd.int .u8) _ _ A0 l0.length l0 := (Kd.V_at (base := w.heap.size) HO0.out).2.2
        have hcut5 := cut_to (P := Tryd.prog) 23 5 .i64 Tryd.underlying23 hi05 A0 l0.length c0 2 (by omega) q5 hroom5
        have hr5 := Kd.F_take (m := 2) hC5 (by omega)
        have hy5 : y143.length = (2 : Int).toNat := (by rw [Ny143.out, List.length_take]; omega)
        rw [← Ny143.out] at hr5
        rw [← hy5] at hcut5
        have HO147 := Aside0.mk (show Kd.V (Kd.int .u8) 5 _ w.heap.size _ (.slice A0 y143.length c0) y143 from Kd.V_mk (by omega) hr5)
        have HC147 := Aside0.mk (show y143.length ≤ c0 from by omega)
        clear hr5 hC5 hroom5 hi05 hsz5
        have KY5 := Aside0.mk hy5
        clear hy5
        replace q5 := eq_true q5
        have hcv6 := fun c_ : Nat => Kd.C_string (P := Tryd.prog) (c := c_) Tryd.underlying23 Tryd.underlying5 Tryd.underlying9 (Kd.V_reads' HO147.out).2.2
        go_wp2
        go_meet
        case rel => exact ⟨_, (((strOfNums y143).toList == ([92, 120] : List UInt8))), (by first | rfl | (simp; done) | (simp [*]; done)), H', ⟨by first | omega | exact Nat.le_refl _⟩, ⟨by (with_reducible repeat (first | apply Kd.V_alloc | apply Kd.V_drewN | apply Kd.V_drew)); exact Kd.V_mono HO0.out (fun _ hk => ⟨hk, (by simp [Value.ownBlock])⟩)⟩, ⟨by first | exact Kd.R_nil _ _ _ _ _ | exact Kd.N_nil _ _ _ _ _ | exact Kd.V_nil _ _ _ _ _ | exact Kd.Q_nil _ _ _ _ _ | exact Kd.S_nil _ _ _ _ _⟩, ⟨by repeat (first | (with_reducible first | exact HB.out | apply below_alloc | apply pw_below_drewN | apply below_drew1) | exact HB.out)⟩⟩
      · rw [if_neg c4] at H
        exact absurd H (by simp)
    · rw [if_neg c3] at H
      have c3b0 : decide (2 ≤ (l0.length : Int)) = false := decide_eq_false c3
      have c3b1 : decide (2 ≤ l0.length) = false := decide_eq_false (by omega)
      clear c3
      (first | rw [c3b0] | (simp only [i64_w, i32_w]; rw [c3b0]) | skip)
      have H' := Aside0.mk H
      clear H
      go_wp2
      go_meet
      case rel => exact ⟨_, (false), (by first | rfl | (simp; done) | (simp [*]; done)), H', ⟨by first | omega | exact Nat.le_refl _⟩, ⟨by (with_reducible repeat (first | apply Kd.V_alloc | apply Kd.V_drewN | apply Kd.V_drew)); exact Kd.V_mono HO0.out (fun _ hk => ⟨hk, (by simp [Value.ownBlock])⟩)⟩, ⟨by first | exact Kd.R_nil _ _ _ _ _ | exact Kd.N_nil _ _ _ _ _ | exact Kd.V_nil _ _ _ _ _ | exact Kd.Q_nil _ _ _ _ _ | exact Kd.S_nil _ _ _ _ _⟩, ⟨by repeat (first | (with_reducible first | exact HB.out | apply below_alloc | apply pw_below_drewN | apply below_drew1) | exact HB.out)⟩⟩
  case rest =>
    clear HC2
    try clear c1
    try clear p2
    try clear c3
    try clear c3b0
    try clear c3b1
    try clear c4
    try clear c4b0
    try clear c4b1
    try clear q5
    try clear hcv6
    try clear q5
    obtain ⟨kq, x17_1, rfl, HA, HJ1, HO_0, HO_2, HB⟩ := hcut
    cases kq with
    | zero => exact absurd HA.out (by simp [pq_parseBytea.j0])
    | succ kj1 =>
      have H := HA.out
      clear HA
      simp only [pq_parseBytea.j0] at H
      by_cases c7 : x17_1 = true
      · subst c7
        have H1 : (if 2 ≤ (l0.length : Int) then ((some (l0.drop 2 : List Int)).bind fun y148 => ((hex_DecodedLen.f (y148.length : Int)).bind fun t153 => (if 0 ≤ t153 then (if (t153 : Int).toNat ≤ 281474976710656 then ((some (List.replicate (t153 : Int).toNat 0 : List Int)).bind fun y154 => ((hex_Decode.f y154 y148).bind fun bt157 => (if bt157.2.isNone = true then (some (y154, none)) else (some (([] : List Int), some (bt157.2.getD 0)))))) else (none)) else (none)))) else (none)) = some (r1, r2) := by rw [if_pos rfl] at H; exact H
        clear H
        have H := H1
        clear H1
        by_cases c8 : 2 ≤ (l0.length : Int)
        · rw [if_pos c8] at H
          have c8b0 := eq_true c8
          have c8b1 : decide (2 ≤ (l0.length : Int)) = true := decide_eq_true c8
          clear c8
          obtain ⟨y148, hy148⟩ : ∃ y_ : List Int, y_ = (l0.drop 2) := ⟨_, rfl⟩
          replace H : ((hex_DecodedLen.f (y148.length : Int)).bind fun t153 => (if 0 ≤ t153 then (if (t153 : Int).toNat ≤ 281474976710656 then ((some (List.replicate (t153 : Int).toNat 0 : List Int)).bind fun y154 => ((hex_Decode.f y154 y148).bind fun bt157 => (if bt157.2.isNone = true then (some (y154, none)) else (some (([] : List Int), some (bt157.2.getD 0)))))) else (none)) else (none))) = some (r1, r2) := by first | (rw [hy148]; with_reducible exact H) | (have H2_ := (Option.bind_some _ _).symm.trans H; rw [hy148]; with_reducible exact H2_) | (have H2_ := (Option.bind_some _ _).symm.trans H; with_reducible exact H2_) | with_reducible exact H | (rw [hy148]; exact H) | exact H
          have Ny148 := Aside0.mk hy148
          clear hy148
          replace H := Option.bind_eq_some_iff.mp H
          obtain ⟨t153, A90, H⟩ := H
          replace H : (if 0 ≤ t153 then (if (t153 : Int).toNat ≤ 281474976710656 then ((some (List.replicate (t153 : Int).toNat 0 : List Int)).bind fun y154 => ((hex_Decode.f y154 y148).bind fun bt157 => (if bt157.2.isNone = true then (some (y154, none)) else (some (([] : List Int), some (bt157.2.getD 0)))))) else (none)) else (none)) = some (r1, r2) := H
          have A9 := Aside0.mk A90
          clear A90
          by_cases c10 : 0 ≤ t153
          · rw [if_pos c10] at H
            have c10b0 := eq_true c10
            have c10b1 : decide (0 ≤ t153) = true := decide_eq_true c10
            clear c10
            by_cases c11 : (t153 : Int).toNat ≤ 281474976710656
            · rw [if_pos c11] at H
              have c11b0 := eq_true c11
              have c11b1 : decide ((t153 : Int).toNat ≤ 281474976710656) = true := decide_eq_true c11
              clear c11
              obtain ⟨y154, hy154⟩ : ∃ y_ : List Int, y_ = (List.replicate (t153 : Int).toNat 0) := ⟨_, rfl⟩
              replace H : ((hex_Decode.f y154 y148).bind fun bt157 => (if bt157.2.isNone = true then (some (y154, none)) else (some (([] : List Int), some (bt157.2.getD 0))))) = some (r1, r2) := by first | (rw [hy154]; with_reducible exact H) | (have H2_ := (Option.bind_some _ _).symm.trans H; rw [hy154]; with_reducible exact H2_) | (have H2_ := (Option.bind_some _ _).symm.trans H; with_reducible exact H2_) | with_reducible exact H | (rw [hy154]; exact H) | exact H
              have Ny154 := Aside0.mk hy154
              clear hy154
              replace H := Option.bind_eq_some_iff.mp H
              obtain ⟨⟨t157, t158⟩, A120, H⟩ := H
              replace H : (if t158.isNone = true then (some (y154, none)) else (some (([] : List Int), some (t158.getD 0)))) = some (r1, r2) := H
              have A12 := Aside0.mk A120
              clear A120
              rcases t158 with _ | q159
              · have H1 : (some (y154, none)) = some (r1, r2) := by rw [if_pos (show (none : Option Int).isNone = true by rfl)] at H; exact H
                clear H
                have H := H1
                clear H1
                try simp only [errW_none, errW_some]
                simp only [Option.some.injEq, Prod.mk.injEq] at H
                obtain ⟨rfl, rfl⟩ := H
                have q13 : (2 : Int) ≤ ((l0.length : Int) : Int) := of_decide_eq_true (by first | (with_reducible assumption) | assumption)
                obtain ⟨i013, hi013, _, hsz13, _⟩ := info_parts info5
                have hroom13 : l0.length ≤ c0 := (Kd.V_reads' HO_0.out).2.1
                have hC13 : Kd.F (Kd.int .u8) _ _ A0 l0.length l0 := (Kd.V_at (base := w.heap.size) HO_0.out).2.2
                have hcut13 := cut_from (P := Tryd.prog) 23 5 .i64 Tryd.underlying23 hi013 1 hsz13 A0 l0.length c0 2 (by omega) q13
                have hr13 := Kd.F_cut (m := (2 : Int).toNat) (c := c0) hC13 (by omega) hroom13
                obtain ⟨A13, hA13⟩ : ∃ A1, A1 = (if c0 = (2 : Int).toNat then A0 else (A0 : Option Addr).map (·.add ((2 : Int).toNat * 1))) := ⟨_, rfl⟩
                obtain ⟨c13, hc13⟩ : ∃ c1, c1 = c0 - (2 : Int).toNat := ⟨_, rfl⟩
                have hy13 : y148.length = l0.length - (2 : Int).toNat := (by rw [Ny148.out, List.length_drop] <;> omega)
                rw [show (l0).drop (2 : Int).toNat = y148 from Ny148.out.symm] at hr13
                replace hr13 : Kd.F (Kd.int .u8) _ _ A13 y148.length y148 := (by rw [hA13]; exact hr13)
                rw [← hy13, ← hA13, ← hc13] at hcut13
                have HO152 := Aside0.mk (show Kd.V (Kd.int .u8) 5 _ w.heap.size _ (.slice A13 y148.length c13) y148 from Kd.V_mk (by rw [hy13, hc13]; exact Nat.sub_le_sub_right hroom13 _) hr13)
                have HC152 := Aside0.mk (show y148.length ≤ c13 from by rw [hy13, hc13]; exact Nat.sub_le_sub_right hroom13 _)
                clear hr13 hC13 hroom13 hi013 hsz13 hc13
                have KY13 := Aside0.mk hy13
                have KA13 := Aside0.mk hA13
                clear hy13 hA13
                replace q13 := eq_true q13
                go_wp2_with (first | ((with_reducible refine gate_callee (f := 13) rfl ?_); refine goesL_ (some 22) rfl rfl Tryd.func13 (by kernel_rfl) rfl #[.int .i64 (y148.length : Int)] rfl (by (try simp only [List.map_toArray, List.map_cons, List.map_nil]); first | done | rfl | (simp only [List.length_drop, List.length_take]; rfl)) ?_; (with_reducible refine (hex_DecodedLen.calls (y148.length : Int) t153 _ A9.out).mono ?_); rintro e w' ⟨rfl, ⟨nd, rfl⟩⟩; refine ⟨_, rfl, ?_⟩) | ((with_reducible refine gate_dst (N := 23) rfl ?_); refine Kd.R_make (Kd.int .u8) _ 5 rfl (N := 23) rfl 23 _ _ rfl t153 rfl rfl Tryd.underlying23 (.int .u8 0) 1 info5 rfl (by decide) (by omega) 0 (ok := fun _ => True) (okp := fun _ => True) rfl (fun _ hk => hk) trivial (of_decide_eq_true (by first | (with_reducible assumption) | assumption)) (Nat.le_trans (Nat.mul_le_mul_right _ (of_decide_eq_true (by first | (with_reducible assumption) | assumption) : t153.toNat ≤ 281474976710656)) (by omega)) (Below.refl _ _) (Nat.le_refl _) ?_; intro v155 w14 ho15 hb hg_ hnew_; clear hg_ hnew_; (first | rw [← Ny154.out] at ho15 | (simp only [Int.reduceToNat] at ho15; rw [← Ny154.out] at ho15)); have n0_ := Aside0.mk (Kd.V_elder' (by (with_reducible repeat (first | apply Kd.V_alloc | apply Kd.V_drewN | apply Kd.V_drew)); exact HO_0.out) (Kd.R_base ho15) hb); have n1_ := Aside0.mk (Kd.R_elder' (by (with_reducible repeat (first | apply Kd.R_alloc | apply Kd.R_drewN | apply Kd.R_drew)); exact HO_2.out) (Kd.R_base ho15) hb); have n2_ := Aside0.mk (Kd.V_elder' (by (with_reducible repeat (first | apply Kd.V_alloc | apply Kd.V_drewN | apply Kd.V_drew)); exact HO152.out) (Kd.R_base ho15) hb); have n3_ := Aside0.mk (Kd.R_lower (Kd.R_new' (Kd.R_newM (M := fun k_ => (w.heap.size ≤ k_)) ho15 (below_size (by repeat (first | (with_reducible first | exact HB.out | apply below_alloc | apply pw_below_drewN | apply below_drew1) | exact HB.out))) (fun k_ h_ => h_)) (Kd.R_lt (by (with_reducible repeat (first | apply Kd.R_alloc | apply Kd.R_drewN | apply Kd.R_drew)); exact HO_2.out))) (below_size (by repeat (first | (with_reducible first | exact HB.out | apply below_alloc | apply pw_below_drewN | apply below_drew1) | exact HB.out)))); have n4_ := Aside0.mk (below_step (by repeat (first | (with_reducible first | exact HB.out | apply below_alloc | apply pw_below_drewN | apply below_drew1) | exact HB.out)) hb); clear HO_0; clear HO_2; clear HO152; clear HB; have HO_0 := n0_; have HO_2 := n1_; have HO152 := n2_; have HO156 := n3_; have HB := n4_; clear n0_ n1_ n2_ n3_ n4_; clear hb ho15; obtain ⟨Ao16, co16, eo16⟩ := Kd.R_slice HO156.out; subst eo16) | ((with_reducible refine gate_callee (f := 14) rfl ?_); refine goesL_ (some 27) rfl rfl Tryd.func14 (by kernel_rfl) rfl #[.slice Ao16 y154.length co16, .slice A13 y148.length c13] rfl (by (try simp only [List.map_toArray, List.map_cons, List.map_nil]); first | done | rfl | (simp only [List.length_drop, List.length_take]; rfl)) ?_; (with_reducible refine (hex_Decode.calls _ _ y154 _ _ y148 t157 none _ ?side1 ?side2 ?side3 ?side4 A12.out).mono ?_); (case side1 => repeat (first | exact (Kd.R_reads' HO156.out).2.2 | (with_reducible refine Kd.C_alloc ?_ _) | (with_reducible refine Kd.C_drewN ?_ _) | (with_reducible refine Kd.C_drew ?_))); (case side2 => exact (Kd.R_reads' HO156.out).2.1); (case side3 => repeat (first | exact (Kd.V_reads' HO152.out).2.2 | (with_reducible refine Kd.C_alloc ?_ _) | (with_reducible refine Kd.C_drewN ?_ _) | (with_reducible refine Kd.C_drew ?_))); (case side4 => exact (Kd.V_reads' HO152.out).2.1); rintro e w17 ⟨rfl, hb⟩; refine ⟨_, rfl, ?_⟩; have n0_ := Aside0.mk (Kd.V_below (by (with_reducible repeat (first | apply Kd.V_alloc | apply Kd.V_drewN | apply Kd.V_drew)); exact HO_0.out) hb); have n1_ := Aside0.mk (Kd.R_below (by (with_reducible repeat (first | apply Kd.R_alloc | apply Kd.R_drewN | apply Kd.R_drew)); exact HO_2.out) hb); have n2_ := Aside0.mk (Kd.V_below (by (with_reducible repeat (first | apply Kd.V_alloc | apply Kd.V_drewN | apply Kd.V_drew)); exact HO152.out) hb); have n3_ := Aside0.mk (Kd.R_below (by (with_reducible repeat (first | apply Kd.R_alloc | apply Kd.R_drewN | apply Kd.R_drew)); exact HO156.out) hb); have n4_ := Aside0.mk (below_step (by repeat (first | (with_reducible first | exact HB.out | apply below_alloc | apply pw_below_drewN | apply below_drew1) | exact HB.out)) hb); clear HO_0; clear HO_2; clear HO152; clear HO156; clear HB; have HO_0 := n0_; have HO_2 := n1_; have HO152 := n2_; have HO156 := n3_; have HB := n4_; clear n0_ n1_ n2_ n3_ n4_; (try clear hb); (try clear hb2); (try clear hk); (try clear hi); (try simp only [errW_none, errW_some])))
                go_ret2
                exact ⟨_, by first | rfl | (simp [errW_none, errW_some] <;> rfl) | (simp [*, errW_none, errW_some] <;> rfl), by (with_reducible repeat (first | apply Kd.R_alloc | apply Kd.R_drewN | apply Kd.R_drew)); exact Kd.R_mono HO156.out (fun _ hk => hk.1.1), by repeat (first | (with_reducible first | exact HB.out | apply below_alloc | apply pw_below_drewN | apply below_drew1) | exact HB.out)⟩
              · have H1 : (some (([] : List Int), some q159)) = some (r1, r2) := by rw [if_neg (show ¬ (some q159).isNone = true by simp)] at H; exact H
                clear H
                have H := H1
                clear H1
                try simp only [errW_none, errW_some]
                simp only [Option.some.injEq, Prod.mk.injEq] at H
                obtain ⟨rfl, rfl⟩ := H
                have q18 : (2 : Int) ≤ ((l0.length : Int) : Int) := of_decide_eq_true (by first | (with_reducible assumption) | assumption)
                obtain ⟨i018, hi018, _, hsz18, _⟩ := info_parts info5
                have hroom18 : l0.length ≤ c0 := (Kd.V_reads' HO_0.out).2.1
                have hC18 : Kd.F (Kd.int .u8) _ _ A0 l0.length l0 := (Kd.V_at (base := w.heap.size) HO_0.out).2.2
                have hcut18 := cut_from (P := Tryd.prog) 23 5 .i64 Tryd.underlying23 hi018 1 hsz18 A0 l0.length c0 2 (by omega) q18
                have hr18 := Kd.F_cut (m := (2 : Int).toNat) (c := c0) hC18 (by omega) hroom18
                obtain ⟨A18, hA18⟩ : ∃ A1, A1 = (if c0 = (2 : Int).toNat then A0 else (A0 : Option Addr).map (·.add ((2 : Int).toNat * 1))) := ⟨_, rfl⟩
                obtain ⟨c18, hc18⟩ : ∃ c1, c1 = c0 - (2 : Int).toNat := ⟨_, rfl⟩
                have hy18 : y148.length = l0.length - (2 : Int).toNat := (by rw [Ny148.out, List.length_drop] <;> omega)
                rw [show (l0).drop (2 : Int).toNat = y148 from Ny148.out.symm] at hr18
                replace hr18 : Kd.F (Kd.int .u8) _ _ A18 y148.length y148 := (by rw [hA18]; exact hr18)
                rw [← hy18, ← hA18, ← hc18] at hcut18
                have HO152 := Aside0.mk (show Kd.V (Kd.int .u8) 5 _ w.heap.size _ (.slice A18 y148.length c18) y148 from Kd.V_mk (by rw [hy18, hc18]; exact Nat.sub_le_sub_right hroom18 _) hr18)
                have HC152 := Aside0.mk (show y148.length ≤ c18 from by rw [hy18, hc18]; exact Nat.sub_le_sub_right hroom18 _)
                clear hr18 hC18 hroom18 hi018 hsz18 hc18
                have KY18 := Aside0.mk hy18
                have KA18 := Aside0.mk hA18
                clear hy18 hA18
                replace q18 := eq_true q18
                go_wp2_with (first | ((with_reducible refine gate_callee (f := 13) rfl ?_); refine goesL_ (some 22) rfl rfl Tryd.func13 (by kernel_rfl) rfl #[.int .i64 (y148.length : Int)] rfl (by (try simp only [List.map_toArray, List.map_cons, List.map_nil]); first | done | rfl | (simp only [List.length_drop, List.length_take]; rfl)) ?_; (with_reducible refine (hex_DecodedLen.calls (y148.length : Int) t153 _ A9.out).mono ?_); rintro e w' ⟨rfl, ⟨nd, rfl⟩⟩; refine ⟨_, rfl, ?_⟩) | ((with_reducible refine gate_dst (N := 23) rfl ?_); refine Kd.R_make (Kd.int .u8) _ 5 rfl (N := 23) rfl 23 _ _ rfl t153 rfl rfl Tryd.underlying23 (.int .u8 0) 1 info5 rfl (by decide) (by omega) 0 (ok := fun _ => True) (okp := fun _ => True) rfl (fun _ hk => hk) trivial (of_decide_eq_true (by first | (with_reducible assumption) | assumption)) (Nat.le_trans (Nat.mul_le_mul_right _ (of_decide_eq_true (by first | (with_reducible assumption) | assumption) : t153.toNat ≤ 281474976710656)) (by omega)) (Below.refl _ _) (Nat.le_refl _) ?_; intro v155 w19 ho20 hb hg_ hnew_; clear hg_ hnew_; (first | rw [← Ny154.out] at ho20 | (simp only [Int.reduceToNat] at ho20; rw [← Ny154.out] at ho20)); have n0_ := Aside0.mk (Kd.V_elder' (by (with_reducible repeat (first | apply Kd.V_alloc | apply Kd.V_drewN | apply Kd.V_drew)); exact HO_0.out) (Kd.R_base ho20) hb); have n1_ := Aside0.mk (Kd.R_elder' (by (with_reducible repeat (first | apply Kd.R_alloc | apply Kd.R_drewN | apply Kd.R_drew)); exact HO_2.out) (Kd.R_base ho20) hb); have n2_ := Aside0.mk (Kd.V_elder' (by (with_reducible repeat (first | apply Kd.V_alloc | apply Kd.V_drewN | apply Kd.V_drew)); exact HO152.out) (Kd.R_base ho20) hb); have n3_ := Aside0.mk (Kd.R_lower (Kd.R_new' (Kd.R_newM (M := fun k_ => (w.heap.size ≤ k_)) ho20 (below_size (by repeat (first | (with_reducible first | exact HB.out | apply below_alloc | apply pw_below_drewN | apply below_drew1) | exact HB.out))) (fun k_ h_ => h_)) (Kd.R_lt (by (with_reducible repeat (first | apply Kd.R_alloc | apply Kd.R_drewN | apply Kd.R_drew)); exact HO_2.out))) (below_size (by repeat (first | (with_reducible first | exact HB.out | apply below_alloc | apply pw_below_drewN | apply below_drew1) | exact HB.out)))); have n4_ := Aside0.mk (below_step (by repeat (first | (with_reducible first | exact HB.out | apply below_alloc | apply pw_below_drewN | apply below_drew1) | exact HB.out)) hb); clear HO_0; clear HO_2; clear HO152; clear HB; have HO_0 := n0_; have HO_2 := n1_; have HO152 := n2_; have HO156 := n3_; have HB := n4_; clear n0_ n1_ n2_ n3_ n4_; clear hb ho20; obtain ⟨Ao21, co21, eo21⟩ := Kd.R_slice HO156.out; subst eo21) | ((with_reducible refine gate_callee (f := 14) rfl ?_); refine goesL_ (some 27) rfl rfl Tryd.func14 (by kernel_rfl) rfl #[.slice Ao21 y154.length co21, .slice A18 y148.length c18] rfl (by (try simp only [List.map_toArray, List.map_cons, List.map_nil]); first | done | rfl | (simp only [List.length_drop, List.length_take]; rfl)) ?_; (with_reducible refine (hex_Decode.calls _ _ y154 _ _ y148 t157 (some q159) _ ?side1 ?side2 ?side3 ?side4 A12.out).mono ?_); (case side1 => repeat (first | exact (Kd.R_reads' HO156.out).2.2 | (with_reducible refine Kd.C_alloc ?_ _) | (with_reducible refine Kd.C_drewN ?_ _) | (with_reducible refine Kd.C_drew ?_))); (case side2 => exact (Kd.R_reads' HO156.out).2.1); (case side3 => repeat (first | exact (Kd.V_reads' HO152.out).2.2 | (with_reducible refine Kd.C_alloc ?_ _) | (with_reducible refine Kd.C_drewN ?_ _) | (with_reducible refine Kd.C_drew ?_))); (case side4 => exact (Kd.V_reads' HO152.out).2.1); rintro e w22 ⟨rfl, hb⟩; refine ⟨_, rfl, ?_⟩; have n0_ := Aside0.mk (Kd.V_below (by (with_reducible repeat (first | apply Kd.V_alloc | apply Kd.V_drewN | apply Kd.V_drew)); exact HO_0.out) hb); have n1_ := Aside0.mk (Kd.R_below (by (with_reducible repeat (first | apply Kd.R_alloc | apply Kd.R_drewN | apply Kd.R_drew)); exact HO_2.out) hb); have n2_ := Aside0.mk (Kd.V_below (by (with_reducible repeat (first | apply Kd.V_alloc | apply Kd.V_drewN | apply Kd.V_drew)); exact HO152.out) hb); have n3_ := Aside0.mk (Kd.R_below (by (with_reducible repeat (first | apply Kd.R_alloc | apply Kd.R_drewN | apply Kd.R_drew)); exact HO156.out) hb); have n4_ := Aside0.mk (below_step (by repeat (first | (with_reducible first | exact HB.out | apply below_alloc | apply pw_below_drewN | apply below_drew1) | exact HB.out)) hb); clear HO_0; clear HO_2; clear HO152; clear HO156; clear HB; have HO_0 := n0_; have HO_2 := n1_; have HO152 := n2_; have HO156 := n3_; have HB := n4_; clear n0_ n1_ n2_ n3_ n4_; (try clear hb); (try clear hb2); (try clear hk); (try clear hi); (try simp only [errW_none, errW_some])))
                go_ret2
                exact ⟨_, by first | rfl | (simp [errW_none, errW_some] <;> rfl) | (simp [*, errW_none, errW_some] <;> rfl), by first | exact Kd.R_nil _ _ _ _ _ | exact Kd.N_nil _ _ _ _ _ | exact Kd.V_nil _ _ _ _ _ | exact Kd.Q_nil _ _ _ _ _ | exact Kd.S_nil _ _ _ _ _, by repeat (first | (with_reducible first | exact HB.out | apply below_alloc | apply pw_below_drewN | apply below_drew1) | exact HB.out)⟩
            · rw [if_neg c11] at H
              exact absurd H (by simp)
          · rw [if_neg c10] at H
            exact absurd H (by simp)
        · rw [if_neg c8] at H
          exact absurd H (by simp)
      · replace c7 := Bool.eq_false_iff.mpr c7
        subst c7
        have H1 : (pq_parseBytea.l0 kj1 l0 ([] : List Int)) = some (r1, r2) := by rw [if_neg (show ¬ (false = true) by decide)] at H; exact H
        clear H
        have H := H1
        clear H1
        have H' := Aside0.mk H
        clear H
        go_wp2
        go_loopg [0, 2] kj1 (fun kq v0 v2 w' => ∃ (x0_2 : List Int) (x2_2 : List Int), Aside0 (pq_parseBytea.l0 kq x0_2 x2_2 = some (r1, r2)) ∧ Aside0 (kq ≤ kj1) ∧ Aside0 (Kd.V (Kd.int .u8) 5 w' w.heap.size (fun k_ => (P0_ k_ ∨ w.heap.size ≤ k_) ∧ some k_ ≠ (v2 : Value).ownBlock) v0 x0_2) ∧ Aside0 (Kd.R (Kd.int .u8) 5 w' w.heap.size (fun k_ => (w.heap.size ≤ k_)) v2 x2_2) ∧ Aside0 (Below w.heap.size w w'))
        case atStart => exact ⟨(l0), (([] : List Int)), H', ⟨Nat.le_refl _⟩, ⟨by (with_reducible repeat (first | apply Kd.V_alloc | apply Kd.V_drewN | apply Kd.V_drew)); exact HO_0.out⟩, ⟨by (with_reducible repeat (first | apply Kd.R_alloc | apply Kd.R_drewN | apply Kd.R_drew)); exact HO_2.out⟩, ⟨by repeat (first | (with_reducible first | exact HB.out | apply below_alloc | apply pw_below_drewN | apply below_drew1) | exact HB.out)⟩⟩
        case round =>
          clear H'
          try clear c1
          try clear q1
          try clear p2
          try clear c3
          try clear c3b0
          try clear c3b1
          try clear c4
          try clear c4b0
          try clear c4b1
          try clear q5
          try clear hcv6
          try clear c7
          try clear c8
          try clear c8b0
          try clear c8b1
          try clear c10
          try clear c10b0
          try clear c10b1
          try clear c11
          try clear c11b0
          try clear c11b1
          try clear c13
          try clear q13
          try clear c14
          try clear q15
          try clear c18
          try clear q18
          try clear p2
          try clear q13
          try clear q159
          try clear q18
          try clear q5
          obtain ⟨x0_2, x2_2, HA, HK2, HO_0, HO_2, HB⟩ := hrel
          cases gk with
          | zero => exact absurd HA.out (by simp [pq_parseBytea.l0])
          | succ k2 =>
            have H := HA.out
            clear HA
            simp only [pq_parseBytea.l0] at H
            by_cases c23 : (x0_2.length : Int) > 0
            · rw [if_pos c23] at H
              have c23b0 : decide (0 < (x0_2.length : Int)) = true := decide_eq_true c23
              have c23b1 : decide (0 < x0_2.length) = true := decide_eq_true (by omega)
              clear c23
              by_cases c24 : 0 < (x0_2.length : Int)
              · rw [if_pos c24] at H
                have c24b0 : decide (0 < (x0_2.length : Int)) = true := decide_eq_true c24
                have c24b1 : decide (0 < x0_2.length) = true := decide_eq_true (by omega)
                clear c24
                by_cases c25 : (rd x0_2 0) = 92
                · rw [if_pos c25] at H
                  have c25b0 : ((rd x0_2 0) == 92) = true := beq_iff_eq.mpr c25
                  have c25b1 : ((rd x0_2 0) != 92) = false := bne_eq_false_iff_eq.mpr c25
                  clear c25
                  have HC26 := Aside0.mk H
                  clear H
                  obtain ⟨Ao27, co27, eo27⟩ := Kd.V_slice HO_0.out
                  subst eo27
                  have p160 : 0 ≤ (0 : Int) := (by omega)
                  have q160 : 0 < (x0_2.length : Int) := of_decide_eq_true (by first | (with_reducible assumption) | assumption)
                  obtain ⟨ad160, e160, hx160_0⟩ := Kd.at_int (Kd.V_reads' HO_0.out).2.2 0 p160 q160
                  cases e160
                  have qi160 : (0 < x0_2.length) = True := eq_true (by omega)
                  (try rw [show ((0 : Int)).toNat = 0 from rfl] at hx160_0)
                  (try rw [Addr.add_zero'] at hx160_0)
                  replace p160 := eq_true p160
                  replace q160 := eq_true q160
                  go_upto_region 10 with (fail)
                  go_cut [49] (fun v49 wc => ∃ (kq : Nat) (x49_25 : Bool), v49 = .bool x49_25 ∧ Aside0 (pq_parseBytea.j2 kq x0_2 x2_2 x49_25 = some (r1, r2)) ∧ Aside0 (kq ≤ k2) ∧ Aside0 (Kd.V (Kd.int .u8) 5 wc w.heap.size (fun k_ => (P0_ k_ ∨ w.heap.size ≤ k_) ∧ some k_ ≠ (u2 : Value).ownBlock) (.slice (some ad160) x0_2.length co27) x0_2) ∧ Aside0 (Kd.R (Kd.int .u8) 5 wc w.heap.size (fun k_ => (w.heap.size ≤ k_)) u2 x2_2) ∧ Aside0 (Below w.heap.size w wc))
                  case first =>
                    have H := HC26.out
                    clear HC26
                    by_cases c28 : (x0_2.length : Int) ≥ 2
                    · rw [if_pos c28] at H
                      have c28b0 : decide (2 ≤ (x0_2.length : Int)) = true := decide_eq_true c28
                      have c28b1 : decide (2 ≤ x0_2.length) = true := decide_eq_true (by omega)
                      clear c28
                      (first | rw [c28b0] | (simp only [i64_w, i32_w]; rw [c28b0]) | skip)
                      by_cases c29 : 1 < (x0_2.length : Int)
                      · rw [if_pos c29] at H
                        have c29b0 : decide (1 < (x0_2.length : Int)) = true := decide_eq_true c29
                        have c29b1 : decide (1 < x0_2.length) = true := decide_eq_true (by omega)
                        clear c29
                        have H' := Aside0.mk H
                        clear H
                        have p161 : 0 ≤ (1 : Int) := (by omega)
                        have q161 : 1 < (x0_2.length : Int) := of_decide_eq_true (by first | (with_reducible assumption) | assumption)
                        obtain ⟨ad161, e161, hx161_0⟩ := Kd.at_int (Kd.V_reads' HO_0.out).2.2 1 p161 q161
                        obtain rfl : ad160 = ad161 := (by injection e161)
                        (try simp only [show (1 : Int).toNat = 1 from rfl, Nat.reduceMul, Nat.reduceEqDiff, Go.Addr.add, ↓reduceIte] at hx161_0)
                        have qi161 : (1 < x0_2.length) = True := eq_true (by omega)
                        (try rw [show ((1 : Int)).toNat = 1 from rfl] at hx161_0)
                        replace p161 := eq_true p161
                        replace q161 := eq_true q161
                        go_wp2
                        go_meet
                        case rel => exact ⟨_, (((rd x0_2 1) == 92)), (by first | rfl | (simp; done) | (simp [*]; done)), H', ⟨by have := HJ1.out; have := HK2.out; first | omega | exact Nat.le_refl _⟩, ⟨by (with_reducible repeat (first | apply Kd.V_alloc | apply Kd.V_drewN | apply Kd.V_drew)); exact HO_0.out⟩, ⟨by (with_reducible repeat (first | apply Kd.R_alloc | apply Kd.R_drewN | apply Kd.R_drew)); exact HO_2.out⟩, ⟨by repeat (first | (with_reducible first | exact HB.out | apply below_alloc | apply pw_below_drewN | apply below_drew1) | exact HB.out)⟩⟩
                      · rw [if_neg c29] at H
                        exact absurd H (by simp)
                    · rw [if_neg c28] at H
                      have c28b0 : decide (2 ≤ (x0_2.length : Int)) = false := decide_eq_false c28
                      have c28b1 : decide (2 ≤ x0_2.length) = false := decide_eq_false (by omega)
                      clear c28
                      (first | rw [c28b0] | (simp only [i64_w, i32_w]; rw [c28b0]) | skip)
                      have H' := Aside0.mk H
                      clear H
                      go_wp2
                      go_meet
                      case rel => exact ⟨_, (false), (by first | rfl | (simp; done) | (simp [*]; done)), H', ⟨by have := HJ1.out; have := HK2.out; first | omega | exact Nat.le_refl _⟩, ⟨by (with_reducible repeat (first | apply Kd.V_alloc | apply Kd.V_drewN | apply Kd.V_drew)); exact HO_0.out⟩, ⟨by (with_reducible repeat (first | apply Kd.R_alloc | apply Kd.R_drewN | apply Kd.R_drew)); exact HO_2.out⟩, ⟨by repeat (first | (with_reducible first | exact HB.out | apply below_alloc | apply pw_below_drewN | apply below_drew1) | exact HB.out)⟩⟩
                  case rest =>
                    clear HC26
                    try clear c1
                    try clear p1
                    try clear q1
                    try clear hx1
                    try clear qi1
                    try clear c2
                    try clear p2
                    try clear c3
                    try clear c3b0
                    try clear c3b1
                    try clear c4
                    try clear c4b0
                    try clear c4b1
                    try clear q5
                    try clear hcv6
                    try clear c7
                    try clear c8
                    try clear c8b0
                    try clear c8b1
                    try clear c10
                    try clear c10b0
                    try clear c10b1
                    try clear c11
                    try clear c11b0
                    try clear c11b1
                    try clear c13
                    try clear q13
                    try clear c14
                    try clear q15
                    try clear p16
                    try clear q16
                    try clear hx16
                    try clear qi16
                    try clear c18
                    try clear q18
                    try clear c23
                    try clear c23b0
                    try clear c23b1
                    try clear c24
                    try clear c24b0
                    try clear c24b1
                    try clear c25
                    try clear c25b0
                    try clear c25b1
                    try clear c28
                    try clear c28b0
                    try clear c28b1
                    try clear c29
                    try clear c29b0
                    try clear c29b1
                    try clear hx160_0
                    try clear hx161_0
                    try clear p160
                    try clear p161
                    try clear p2
                    try clear q1
                    try clear q13
                    try clear q15
                    try clear q159
                    try clear q160
                    try clear q161
                    try clear q18
                    try clear q5
                    obtain ⟨kq, x49_25, rfl, HA, HJ25, HO_0, HO_2, HB⟩ := hcut
                    cases kq with
                    | zero => exact absurd HA.out (by simp [pq_parseBytea.j2])
                    | succ kj25 =>
                      have H := HA.out
                      clear HA
                      simp only [pq_parseBytea.j2] at H
                      by_cases c30 : x49_25 = true
                      · subst c30
                        have H1 : (if x2_2.length < 140737488355328 then (if 2 ≤ (x0_2.length : Int) then (pq_parseBytea.l0 kj25 (x0_2.drop 2) (x2_2 ++ [92])) else (none)) else (none)) = some (r1, r2) := by rw [if_pos rfl] at H; exact H
                        clear H
                        have H := H1
                        clear H1
                        by_cases c31 : x2_2.length < 140737488355328
                        · rw [if_pos c31] at H
                          have LMc31 := Aside0.mk c31
                          clear c31
                          obtain ⟨y162, hy162⟩ : ∃ y_ : List Int, y_ = (x2_2 ++ [92]) := ⟨_, rfl⟩
                          replace H : (if 2 ≤ (x0_2.length : Int) then (pq_parseBytea.l0 kj25 (x0_2.drop 2) y162) else (none)) = some (r1, r2) := by first | (rw [hy162]; with_reducible exact H) | (have H2_ := (Option.bind_some _ _).symm.trans H; rw [hy162]; with_reducible exact H2_) | (have H2_ := (Option.bind_some _ _).symm.trans H; with_reducible exact H2_) | with_reducible exact H | (rw [hy162]; exact H) | exact H
                          have Ny162 := Aside0.mk hy162
                          clear hy162
                          by_cases c32 : 2 ≤ (x0_2.length : Int)
                          · rw [if_pos c32] at H
                            have c32b0 := eq_true c32
                            have c32b1 : decide (2 ≤ (x0_2.length : Int)) = true := decide_eq_true c32
                            clear c32
                            obtain ⟨y165, hy165⟩ : ∃ y_ : List Int, y_ = (x0_2.drop 2) := ⟨_, rfl⟩
                            replace H : (pq_parseBytea.l0 kj25 y165 y162) = some (r1, r2) := by first | (rw [hy165]; with_reducible exact H) | (have H2_ := (Option.bind_some _ _).symm.trans H; rw [hy165]; with_reducible exact H2_) | (have H2_ := (Option.bind_some _ _).symm.trans H; with_reducible exact H2_) | with_reducible exact H | (rw [hy165]; exact H) | exact H
                            have Ny165 := Aside0.mk hy165
                            clear hy165
                            have H' := Aside0.mk H
                            clear H
                            go_wp2_with (first | ((with_reducible refine gate_builtin (b := .append) (xs := #[.tmp 50, .tmp 51]) rfl ?_); at_builtin; refine Kd.R_append (Kd.int .u8) (w0 := w) w.heap.size rfl (.tmp 50) (.tmp 51) 23 5 (.int .u8 0) 1 rfl Tryd.underlying23 info5 rfl (by decide) (by omega) u2 x2_2 92 [.int .u8 92] (fun k_ => (w.heap.size ≤ k_)) (fun _ => False) rfl rfl ?aP (fun _ hk => hk.elim) ?aF ?aO ?aB ?aS ?aL ?_; (case aP => exact rfl); (case aB => exact (by repeat (first | (with_reducible first | exact HB.out | apply below_alloc | apply pw_below_drewN | apply below_drew1) | exact HB.out))); (case aF => exact (fun k_ hk => (Nat.le_trans (below_size (by repeat (first | (with_reducible first | exact HB.out | apply below_alloc | apply pw_below_drewN | apply below_drew1) | exact HB.out))) hk))); (case aO => exact (by (with_reducible repeat (first | apply Kd.R_alloc | apply Kd.R_drewN | apply Kd.R_drew)); exact HO_2.out)); (case aS => exact (below_size (by repeat (first | (with_reducible first | exact HB.out | apply below_alloc | apply pw_below_drewN | apply below_drew1) | exact HB.out)))); (case aL => have := LMc31.out; omega); intro v163 w33 ho hb hg hat; rw [← Ny162.out] at ho; have n0_ := Aside0.mk (Kd.V_afterv (ok := (fun k_ => (P0_ k_ ∨ w.heap.size ≤ k_))) (by (with_reducible repeat (first | apply Kd.V_alloc | apply Kd.V_drewN | apply Kd.V_drew)); exact HO_0.out) hg hat); have n1_ := Aside0.mk (hb); have n2_ := Aside0.mk (ho); clear HO_0; clear HB; clear HO_2; have HO_0 := n0_; have HB := n1_; have HO164 := n2_; clear n0_ n1_ n2_; clear ho hb hg hat; have q34 : (2 : Int) ≤ ((x0_2.length : Int) : Int) := of_decide_eq_true (by first | (with_reducible assumption) | assumption); obtain ⟨i034, hi034, _, hsz34, _⟩ := info_parts info5; have hroom34 : x0_2.length ≤ co27 := (Kd.V_reads' HO_0.out).2.1; have hC34 : Kd.F (Kd.int .u8) _ _ (some ad160) x0_2.length x0_2 := (Kd.V_at (base := w.heap.size) HO_0.out).2.2; have hcut34 := cut_from (P := Tryd.prog) 23 5 .i64 Tryd.underlying23 hi034 1 hsz34 (some ad160) x0_2.length co27 2 (by omega) q34; have hr34 := Kd.F_cut (m := (2 : Int).toNat) (c := co27) hC34 (by omega) hroom34; obtain ⟨A34, hA34⟩ : ∃ A1, A1 = (if co27 = (2 : Int).toNat then (some ad160) else ((some ad160) : Option Addr).map (·.add ((2 : Int).toNat * 1))) := ⟨_, rfl⟩; obtain ⟨c34, hc34⟩ : ∃ c1, c1 = co27 - (2 : Int).toNat := ⟨_, rfl⟩; have hy34 : y165.length = x0_2.length - (2 : Int).toNat := (by rw [Ny165.out, List.length_drop] <;> omega); rw [show (x0_2).drop (2 : Int).toNat = y165 from Ny165.out.symm] at hr34; replace hr34 : Kd.F (Kd.int .u8) _ _ A34 y165.length y165 := (by rw [hA34]; exact hr34); rw [← hy34, ← hA34, ← hc34] at hcut34; have HO169 := Aside0.mk (show Kd.V (Kd.int .u8) 5 _ w.heap.size _ (.slice A34 y165.length c34) y165 from Kd.V_mk (by rw [hy34, hc34]; exact Nat.sub_le_sub_right hroom34 _) hr34); have HC169 := Aside0.mk (show y165.length ≤ c34 from by rw [hy34, hc34]; exact Nat.sub_le_sub_right hroom34 _); clear hr34 hC34 hroom34 hi034 hsz34 hc34; have KY34 := Aside0.mk hy34; have KA34 := Aside0.mk hA34; clear hy34 hA34; replace q34 := eq_true q34))
                            go_roundg kj25
                            case measure => have := HJ1.out; have := HK2.out; have := HJ25.out; omega
                            case rel => exact ⟨(y165), (y162), H', ⟨by have := HJ1.out; have := HK2.out; have := HJ25.out; omega⟩, ⟨by (with_reducible repeat (first | apply Kd.V_alloc | apply Kd.V_drewN | apply Kd.V_drew)); exact HO169.out⟩, ⟨by (with_reducible repeat (first | apply Kd.R_alloc | apply Kd.R_drewN | apply Kd.R_drew)); exact HO164.out⟩, ⟨by repeat (first | (with_reducible first | exact HB.out | apply below_alloc | apply pw_below_drewN | apply below_drew1) | exact HB.out)⟩⟩
                          · rw [if_neg c32] at H
                            exact absurd H (by simp)
                        · rw [if_neg c31] at H
                          exact absurd H (by simp)
                      · replace c30 := Bool.eq_false_iff.mpr c30
                        subst c30
                        have H1 : (if (x0_2.length : Int) < 4 then ((errors_New.f (⟨#[105, 110, 118, 97, 108, 105, 100, 32, 98, 121, 116, 101, 97, 32, 115, 101, 113, 117, 101, 110, 99, 101, 32, 37, 118]⟩ : ByteArray)).bind fun t170 => (some (([] : List Int), t170))) else (if 1 ≤ 4 then (if 4 ≤ (x0_2.length : Int) then ((strconv_ParseUint.f kj25 (strOfNums ((x0_2.take 4).drop 1)) 8 8).bind fun bt176 => (if bt176.2.isNone = true then (if x2_2.length < 140737488355328 then (pq_parseBytea.l0 kj25 (x0_2.drop 4) (x2_2 ++ [(bt176.1) % 256])) else (none)) else ((errors_New.f (⟨#[99, 111, 117, 108, 100, 32, 110, 111, 116, 32, 112, 97, 114, 115, 101, 32, 98, 121, 116, 101, 97, 32, 118, 97, 108, 117, 101, 58, 32, 37, 119]⟩ : ByteArray)).bind fun t187 => (some (([] : List Int), t187))))) else (none)) else (none))) = some (r1, r2) := by rw [if_neg (show ¬ (false = true) by decide)] at H; exact H
                        clear H
                        have H := H1
                        clear H1
                        by_cases c35 : (x0_2.length : Int) < 4
                        · rw [if_pos c35] at H
                          have c35b0 : decide ((x0_2.length : Int) < 4) = true := decide_eq_true c35
                          have c35b1 : decide (x0_2.length < 4) = true := decide_eq_true (by omega)
                          clear c35
                          replace H := Option.bind_eq_some_iff.mp H
                          obtain ⟨t170, A360, H⟩ := H
                          replace H : (some (([] : List Int), t170)) = some (r1, r2) := H
                          have A36 := Aside0.mk A360
                          clear A360
                          simp only [Option.some.injEq, Prod.mk.injEq] at H
                          obtain ⟨rfl, rfl⟩ := H
                          go_wp2_with (first | ((with_reducible refine gate_callee (f := 15) rfl ?_); refine goesL_ (some 58) rfl rfl Tryd.func15 (by kernel_rfl) rfl #[.string (⟨#[105, 110, 118, 97, 108, 105, 100, 32, 98, 121, 116, 101, 97, 32, 115, 101, 113, 117, 101, 110, 99, 101, 32, 37, 118]⟩ : ByteArray)] rfl (by (try simp only [List.map_toArray, List.map_cons, List.map_nil]); first | done | rfl | (simp only [List.length_drop, List.length_take]; rfl)) ?_; (with_reducible refine (errors_New.calls (⟨#[105, 110, 118, 97, 108, 105, 100, 32, 98, 121, 116, 101, 97, 32, 115, 101, 113, 117, 101, 110, 99, 101, 32, 37, 118]⟩ : ByteArray) t170 _ A36.out).mono ?_); rintro e w37 ⟨rfl, hb⟩; refine ⟨_, rfl, ?_⟩; have n0_ := Aside0.mk (Kd.V_below (by (with_reducible repeat (first | apply Kd.V_alloc | apply Kd.V_drewN | apply Kd.V_drew)); exact HO_0.out) hb); have n1_ := Aside0.mk (Kd.R_below (by (with_reducible repeat (first | apply Kd.R_alloc | apply Kd.R_drewN | apply Kd.R_drew)); exact HO_2.out) hb); have n2_ := Aside0.mk (below_step (by repeat (first | (with_reducible first | exact HB.out | apply below_alloc | apply pw_below_drewN | apply below_drew1) | exact HB.out)) hb); clear HO_0; clear HO_2; clear HB; have HO_0 := n0_; have HO_2 := n1_; have HB := n2_; clear n0_ n1_ n2_; (try clear hb); (try clear hb2); (try clear hk); (try clear hi); (try simp only [errW_none, errW_some])))
                          go_ret2
                          exact ⟨_, by first | rfl | (simp [errW_none, errW_some] <;> rfl) | (simp [*, errW_none, errW_some] <;> rfl), by first | exact Kd.R_nil _ _ _ _ _ | exact Kd.N_nil _ _ _ _ _ | exact Kd.V_nil _ _ _ _ _ | exact Kd.Q_nil _ _ _ _ _ | exact Kd.S_nil _ _ _ _ _, by repeat (first | (with_reducible first | exact HB.out | apply below_alloc | apply pw_below_drewN | apply below_drew1) | exact HB.out)⟩
                        · rw [if_neg c35] at H
                          have c35b0 : decide ((x0_2.length : Int) < 4) = false := decide_eq_false c35
                          have c35b1 : decide (x0_2.length < 4) = false := decide_eq_false (by omega)
                          clear c35
                          by_cases c38 : 1 ≤ 4
                          · rw [if_pos c38] at H
                            have c38b0 := eq_true c38
                            have c38b1 : decide (1 ≤ 4) = true := decide_eq_true c38
                            clear c38
                            by_cases c39 : 4 ≤ (x0_2.length : Int)
                            · rw [if_pos c39] at H
                              have c39b0 := eq_true c39
                              have c39b1 : decide (4 ≤ (x0_2.length : Int)) = true := decide_eq_true c39
                              clear c39
                              obtain ⟨y171, hy171⟩ : ∃ y_ : List Int, y_ = ((x0_2.take 4).drop 1) := ⟨_, rfl⟩
                              replace H : ((strconv_ParseUint.f kj25 (strOfNums y171) 8 8).bind fun bt176 => (if bt176.2.isNone = true then (if x2_2.length < 140737488355328 then (pq_parseBytea.l0 kj25 (x0_2.drop 4) (x2_2 ++ [(bt176.1) % 256])) else (none)) else ((errors_New.f (⟨#[99, 111, 117, 108, 100, 32, 110, 111, 116, 32, 112, 97, 114, 115, 101, 32, 98, 121, 116, 101, 97, 32, 118, 97, 108, 117, 101, 58, 32, 37, 119]⟩ : ByteArray)).bind fun t187 => (some (([] : List Int), t187))))) = some (r1, r2) := by first | (rw [hy171]; with_reducible exact H) | (have H2_ := (Option.bind_some _ _).symm.trans H; rw [hy171]; with_reducible exact H2_) | (have H2_ := (Option.bind_some _ _).symm.trans H; with_reducible exact H2_) | with_reducible exact H | (rw [hy171]; exact H) | exact H
                              have Ny171 := Aside0.mk hy171
                              clear hy171
                              replace H := Option.bind_eq_some_iff.mp H
                              obtain ⟨⟨t176, t177⟩, A400, H⟩ := H
                              replace H : (if t177.isNone = true then (if x2_2.length < 140737488355328 then (pq_parseBytea.l0 kj25 (x0_2.drop 4) (x2_2 ++ [(t176) % 256])) else (none)) else ((errors_New.f (⟨#[99, 111, 117, 108, 100, 32, 110, 111, 116, 32, 112, 97, 114, 115, 101, 32, 98, 121, 116, 101, 97, 32, 118, 97, 108, 117, 101, 58, 32, 37, 119]⟩ : ByteArray)).bind fun t187 => (some (([] : List Int), t187)))) = some (r1, r2) := H
                              have A40 := Aside0.mk A400
                              clear A400
                              rcases t177 with _ | q178
                              · have H1 : (if x2_2.length < 140737488355328 then (pq_parseBytea.l0 kj25 (x0_2.drop 4) (x2_2 ++ [(t176) % 256])) else (none)) = some (r1, r2) := by rw [if_pos (show (none : Option Int).isNone = true by rfl)] at H; exact H
                                clear H
                                have H := H1
                                clear H1
                                try simp only [errW_none, errW_some]
                                by_cases c41 : x2_2.length < 140737488355328
                                · rw [if_pos c41] at H
                                  have LMc41 := Aside0.mk c41
                                  clear c41
                                  obtain ⟨y179, hy179⟩ : ∃ y_ : List Int, y_ = (x2_2 ++ [(t176) % 256]) := ⟨_, rfl⟩
                                  replace H : (pq_parseBytea.l0 kj25 (x0_2.drop 4) y179) = some (r1, r2) := by first | (rw [hy179]; with_reducible exact H) | (have H2_ := (Option.bind_some _ _).symm.trans H; rw [hy179]; with_reducible exact H2_) | (have H2_ := (Option.bind_some _ _).symm.trans H; with_reducible exact H2_) | with_reducible exact H | (rw [hy179]; exact H) | exact H
                                  have Ny179 := Aside0.mk hy179
                                  clear hy179
                                  have c42b0 := eq_true (of_decide_eq_true (by first | (with_reducible assumption) | assumption) : 4 ≤ (x0_2.length : Int))
                                  obtain ⟨y182, hy182⟩ : ∃ y_ : List Int, y_ = (x0_2.drop 4) := ⟨_, rfl⟩
                                  replace H : (pq_parseBytea.l0 kj25 y182 y179) = some (r1, r2) := by first | (rw [hy182]; with_reducible exact H) | (have H2_ := (Option.bind_some _ _).symm.trans H; rw [hy182]; with_reducible exact H2_) | (have H2_ := (Option.bind_some _ _).symm.trans H; with_reducible exact H2_) | with_reducible exact H | (rw [hy182]; exact H) | exact H
                                  have Ny182 := Aside0.mk hy182
                                  clear hy182
                                  have H' := Aside0.mk H
                                  clear H
                                  have q43 : (4 : Int) ≤ ((x0_2.length : Int) : Int) := of_decide_eq_true (by first | (with_reducible assumption) | assumption)
                                  obtain ⟨i043, hi043, _, hsz43, _⟩ := info_parts info5
                                  have hroom43 : x0_2.length ≤ co27 := (Kd.V_reads' HO_0.out).2.1
                                  have hC43 : Kd.F (Kd.int .u8) _ _ (some ad160) x0_2.length x0_2 := (Kd.V_at (base := w.heap.size) HO_0.out).2.2
                                  have ql43 : (1 : Int) ≤ (4 : Int) := (by omega)
                                  have hcut43 := cut_mid (P := Tryd.prog) 23 5 .i64 .i64 Tryd.underlying23 hi043 1 hsz43 (some ad160) x0_2.length co27 1 4 (by omega) ql43 q43 hroom43
                                  have hr43 := Kd.F_mid (lo := (1 : Int).toNat) (hi := (4 : Int).toNat) (c := co27) hC43 (by omega) (by omega) hroom43
                                  obtain ⟨A43, hA43⟩ : ∃ A1, A1 = (if co27 = (1 : Int).toNat then (some ad160) else ((some ad160) : Option Addr).map (·.add ((1 : Int).toNat * 1))) := ⟨_, rfl⟩
                                  obtain ⟨c43, hc43⟩ : ∃ c1, c1 = co27 - (1 : Int).toNat := ⟨_, rfl⟩
                                  have hy43 : y171.length = (4 : Int).toNat - (1 : Int).toNat := (by rw [Ny171.out, List.length_drop, List.length_take] <;> omega)
                                  rw [show ((x0_2).take (4 : Int).toNat).drop (1 : Int).toNat = y171 from Ny171.out.symm] at hr43
                                  replace hr43 : Kd.F (Kd.int .u8) _ _ A43 y171.length y171 := (by rw [hA43]; exact hr43)
                                  rw [← hy43, ← hA43, ← hc43] at hcut43
                                  have HO175 := Aside0.mk (show Kd.V (Kd.int .u8) 5 _ w.heap.size _ (.slice A43 y171.length c43) y171 from Kd.V_mk (by rw [hy43, hc43]; exact Nat.sub_le_sub_right (Nat.le_trans (by omega) hroom43) _) hr43)
                                  have HC175 := Aside0.mk (show y171.length ≤ c43 from by rw [hy43, hc43]; exact Nat.sub_le_sub_right (Nat.le_trans (by omega) hroom43) _)
                                  clear hr43 hC43 hroom43 hi043 hsz43 hc43
                                  have KY43 := Aside0.mk hy43
                                  have KA43 := Aside0.mk hA43
                                  clear hy43 hA43
                                  replace q43 := eq_true q43
                                  have hcv44 := fun c_ : Nat => Kd.C_string (P := Tryd.prog) (c := c_) Tryd.underlying23 Tryd.underlying5 Tryd.underlying9 (Kd.V_reads' HO175.out).2.2
                                  go_wp2_with (first | ((with_reducible refine gate_callee (f := 16) rfl ?_); refine goesL_ (some 63) rfl rfl Tryd.func16 (by kernel_rfl) rfl #[.string (strOfNums y171), .int .i64 8, .int .i64 8] rfl (by (try simp only [List.map_toArray, List.map_cons, List.map_nil]); first | done | rfl | (simp only [List.length_drop, List.length_take]; rfl)) ?_; (with_reducible refine (strconv_ParseUint.calls kj25 (strOfNums y171) 8 8 t176 none _ A40.out).mono ?_); rintro e w45 ⟨rfl, hb⟩; refine ⟨_, rfl, ?_⟩; have n0_ := Aside0.mk (Kd.V_below (by (with_reducible repeat (first | apply Kd.V_alloc | apply Kd.V_drewN | apply Kd.V_drew)); exact HO_0.out) hb); have n1_ := Aside0.mk (Kd.R_below (by (with_reducible repeat (first | apply Kd.R_alloc | apply Kd.R_drewN | apply Kd.R_drew)); exact HO_2.out) hb); have n2_ := Aside0.mk (Kd.V_below (by (with_reducible repeat (first | apply Kd.V_alloc | apply Kd.V_drewN | apply Kd.V_drew)); exact HO175.out) hb); have n3_ := Aside0.mk (below_step (by repeat (first | (with_reducible first | exact HB.out | apply below_alloc | apply pw_below_drewN | apply below_drew1) | exact HB.out)) hb); clear HO_0; clear HO_2; clear HO175; clear HB; have HO_0 := n0_; have HO_2 := n1_; have HO175 := n2_; have HB := n3_; clear n0_ n1_ n2_ n3_; (try clear hb); (try clear hb2); (try clear hk); (try clear hi); (try simp only [errW_none, errW_some])) | ((with_reducible refine gate_builtin (b := .append) (xs := #[.tmp 69, .tmp 72]) rfl ?_); at_builtin; refine Kd.R_append (Kd.int .u8) (w0 := w) w.heap.size rfl (.tmp 69) (.tmp 72) 23 5 (.int .u8 0) 1 rfl Tryd.underlying23 info5 rfl (by decide) (by omega) u2 x2_2 ((t176) % 256) [.int .u8 ((t176) % 256)] (fun k_ => (w.heap.size ≤ k_)) (fun _ => False) rfl rfl ?aP (fun _ hk => hk.elim) ?aF ?aO ?aB ?aS ?aL ?_; (case aP => exact rfl); (case aB => exact (by repeat (first | (with_reducible first | exact HB.out | apply below_alloc | apply pw_below_drewN | apply below_drew1) | exact HB.out))); (case aF => exact (fun k_ hk => (Nat.le_trans (below_size (by repeat (first | (with_reducible first | exact HB.out | apply below_alloc | apply pw_below_drewN | apply below_drew1) | exact HB.out))) hk))); (case aO => exact (by (with_reducible repeat (first | apply Kd.R_alloc | apply Kd.R_drewN | apply Kd.R_drew)); exact HO_2.out)); (case aS => exact (below_size (by repeat (first | (with_reducible first | exact HB.out | apply below_alloc | apply pw_below_drewN | apply below_drew1) | exact HB.out)))); (case aL => have := LMc41.out; omega); intro v180 w46 ho hb hg hat; rw [← Ny179.out] at ho; have n0_ := Aside0.mk (Kd.V_afterv (ok := (fun k_ => (P0_ k_ ∨ w.heap.size ≤ k_))) (by (with_reducible repeat (first | apply Kd.V_alloc | apply Kd.V_drewN | apply Kd.V_drew)); exact HO_0.out) hg hat); have n1_ := Aside0.mk (Kd.V_afterv (ok := (fun k_ => (P0_ k_ ∨ w.heap.size ≤ k_))) (by (with_reducible repeat (first | apply Kd.V_alloc | apply Kd.V_drewN | apply Kd.V_drew)); exact HO175.out) hg hat); have n2_ := Aside0.mk (hb); have n3_ := Aside0.mk (ho); clear HO_0; clear HO175; clear HB; clear HO_2; have HO_0 := n0_; have HO175 := n1_; have HB := n2_; have HO181 := n3_; clear n0_ n1_ n2_ n3_; clear ho hb hg hat; have q47 : (4 : Int) ≤ ((x0_2.length : Int) : Int) := of_decide_eq_true (by first | (with_reducible assumption) | assumption); obtain ⟨i047, hi047, _, hsz47, _⟩ := info_parts info5; have hroom47 : x0_2.length ≤ co27 := (Kd.V_reads' HO_0.out).2.1; have hC47 : Kd.F (Kd.int .u8) _ _ (some ad160) x0_2.length x0_2 := (Kd.V_at (base := w.heap.size) HO_0.out).2.2; have hcut47 := cut_from (P := Tryd.prog) 23 5 .i64 Tryd.underlying23 hi047 1 hsz47 (some ad160) x0_2.length co27 4 (by omega) q47; have hr47 := Kd.F_cut (m := (4 : Int).toNat) (c := co27) hC47 (by omega) hroom47; obtain ⟨A47, hA47⟩ : ∃ A1, A1 = (if co27 = (4 : Int).toNat then (some ad160) else ((some ad160) : Option Addr).map (·.add ((4 : Int).toNat * 1))) := ⟨_, rfl⟩; obtain ⟨c47, hc47⟩ : ∃ c1, c1 = co27 - (4 : Int).toNat := ⟨_, rfl⟩; have hy47 : y182.length = x0_2.length - (4 : Int).toNat := (by rw [Ny182.out, List.length_drop] <;> omega); rw [show (x0_2).drop (4 : Int).toNat = y182 from Ny182.out.symm] at hr47; replace hr47 : Kd.F (Kd.int .u8) _ _ A47 y182.length y182 := (by rw [hA47]; exact hr47); rw [← hy47, ← hA47, ← hc47] at hcut47; have HO186 := Aside0.mk (show Kd.V (Kd.int .u8) 5 _ w.heap.size _ (.slice A47 y182.length c47) y182 from Kd.V_mk (by rw [hy47, hc47]; exact Nat.sub_le_sub_right hroom47 _) hr47); have HC186 := Aside0.mk (show y182.length ≤ c47 from by rw [hy47, hc47]; exact Nat.sub_le_sub_right hroom47 _); clear hr47 hC47 hroom47 hi047 hsz47 hc47; have KY47 := Aside0.mk hy47; have KA47 := Aside0.mk hA47; clear hy47 hA47; replace q47 := eq_true q47))
                                  go_roundg kj25
                                  case measure => have := HJ1.out; have := HK2.out; have := HJ25.out; omega
                                  case rel => exact ⟨(y182), (y179), H', ⟨by have := HJ1.out; have := HK2.out; have := HJ25.out; omega⟩, ⟨by (with_reducible repeat (first | apply Kd.V_alloc | apply Kd.V_drewN | apply Kd.V_drew)); exact HO186.out⟩, ⟨by (with_reducible repeat (first | apply Kd.R_alloc | apply Kd.R_drewN | apply Kd.R_drew)); exact HO181.out⟩, ⟨by repeat (first | (with_reducible first | exact HB.out | apply below_alloc | apply pw_below_drewN | apply below_drew1) | exact HB.out)⟩⟩
                                · rw [if_neg c41] at H
                                  exact absurd H (by simp)
                              · have H1 : ((errors_New.f (⟨#[99, 111, 117, 108, 100, 32, 110, 111, 116, 32, 112, 97, 114, 115, 101, 32, 98, 121, 116, 101, 97, 32, 118, 97, 108, 117, 101, 58, 32, 37, 119]⟩ : ByteArray)).bind fun t187 => (some (([] : List Int), t187))) = some (r1, r2) := by rw [if_neg (show ¬ (some q178).isNone = true by simp)] at H; exact H
                                clear H
                                have H := H1
                                clear H1
                                try simp only [errW_none, errW_some]
                                replace H := Option.bind_eq_some_iff.mp H
                                obtain ⟨t187, A480, H⟩ := H
                                replace H : (some (([] : List Int), t187)) = some (r1, r2) := H
                                have A48 := Aside0.mk A480
                                clear A480
                                simp only [Option.some.injEq, Prod.mk.injEq] at H
                                obtain ⟨rfl, rfl⟩ := H
                                have q49 : (4 : Int) ≤ ((x0_2.length : Int) : Int) := of_decide_eq_true (by first | (with_reducible assumption) | assumption)
                                obtain ⟨i049, hi049, _, hsz49, _⟩ := info_parts info5
                                have hroom49 : x0_2.length ≤ co27 := (Kd.V_reads' HO_0.out).2.1
                                have hC49 : Kd.F (Kd.int .u8) _ _ (some ad160) x0_2.length x0_2 := (Kd.V_at (base := w.heap.size) HO_0.out).2.2
                                have ql49 : (1 : Int) ≤ (4 : Int) := (by omega)
                                have hcut49 := cut_mid (P := Tryd.prog) 23 5 .i64 .i64 Tryd.underlying23 hi049 1 hsz49 (some ad160) x0_2.length co27 1 4 (by omega) ql49 q49 hroom49
                                have hr49 := Kd.F_mid (lo := (1 : Int).toNat) (hi := (4 : Int).toNat) (c := co27) hC49 (by omega) (by omega) hroom49
                                obtain ⟨A49, hA49⟩ : ∃ A1, A1 = (if co27 = (1 : Int).toNat then (some ad160) else ((some ad160) : Option Addr).map (·.add ((1 : Int).toNat * 1))) := ⟨_, rfl⟩
                                obtain ⟨c49, hc49⟩ : ∃ c1, c1 = co27 - (1 : Int).toNat := ⟨_, rfl⟩
                                have hy49 : y171.length = (4 : Int).toNat - (1 : Int).toNat := (by rw [Ny171.out, List.length_drop, List.length_take] <;> omega)
                                rw [show ((x0_2).take (4 : Int).toNat).drop (1 : Int).toNat = y171 from Ny171.out.symm] at hr49
                                replace hr49 : Kd.F (Kd.int .u8) _ _ A49 y171.length y171 := (by rw [hA49]; exact hr49)
                                rw [← hy49, ← hA49, ← hc49] at hcut49
                                have HO175 := Aside0.mk (show Kd.V (Kd.int .u8) 5 _ w.heap.size _ (.slice A49 y171.length c49) y171 from Kd.V_mk (by rw [hy49, hc49]; exact Nat.sub_le_sub_right (Nat.le_trans (by omega) hroom49) _) hr49)
                                have HC175 := Aside0.mk (show y171.length ≤ c49 from by rw [hy49, hc49]; exact Nat.sub_le_sub_right (Nat.le_trans (by omega) hroom49) _)
                                clear hr49 hC49 hroom49 hi049 hsz49 hc49
                                have KY49 := Aside0.mk hy49
                                have KA49 := Aside0.mk hA49
                                clear hy49 hA49
                                replace q49 := eq_true q49
                                have hcv50 := fun c_ : Nat => Kd.C_string (P := Tryd.prog) (c := c_) Tryd.underlying23 Tryd.underlying5 Tryd.underlying9 (Kd.V_reads' HO175.out).2.2
                                go_wp2_with (first | ((with_reducible refine gate_callee (f := 16) rfl ?_); refine goesL_ (some 63) rfl rfl Tryd.func16 (by kernel_rfl) rfl #[.string (strOfNums y171), .int .i64 8, .int .i64 8] rfl (by (try simp only [List.map_toArray, List.map_cons, List.map_nil]); first | done | rfl | (simp only [List.length_drop, List.length_take]; rfl)) ?_; (with_reducible refine (strconv_ParseUint.calls kj25 (strOfNums y171) 8 8 t176 (some q178) _ A40.out).mono ?_); rintro e w51 ⟨rfl, hb⟩; refine ⟨_, rfl, ?_⟩; have n0_ := Aside0.mk (Kd.V_below (by (with_reducible repeat (first | apply Kd.V_alloc | apply Kd.V_drewN | apply Kd.V_drew)); exact HO_0.out) hb); have n1_ := Aside0.mk (Kd.R_below (by (with_reducible repeat (first | apply Kd.R_alloc | apply Kd.R_drewN | apply Kd.R_drew)); exact HO_2.out) hb); have n2_ := Aside0.mk (Kd.V_below (by (with_reducible repeat (first | apply Kd.V_alloc | apply Kd.V_drewN | apply Kd.V_drew)); exact HO175.out) hb); have n3_ := Aside0.mk (below_step (by repeat (first | (with_reducible first | exact HB.out | apply below_alloc | apply pw_below_drewN | apply below_drew1) | exact HB.out)) hb); clear HO_0; clear HO_2; clear HO175; clear HB; have HO_0 := n0_; have HO_2 := n1_; have HO175 := n2_; have HB := n3_; clear n0_ n1_ n2_ n3_; (try clear hb); (try clear hb2); (try clear hk); (try clear hi); (try simp only [errW_none, errW_some])) | ((with_reducible refine gate_callee (f := 15) rfl ?_); refine goesL_ (some 68) rfl rfl Tryd.func15 (by kernel_rfl) rfl #[.string (⟨#[99, 111, 117, 108, 100, 32, 110, 111, 116, 32, 112, 97, 114, 115, 101, 32, 98, 121, 116, 101, 97, 32, 118, 97, 108, 117, 101, 58, 32, 37, 119]⟩ : ByteArray)] rfl (by (try simp only [List.map_toArray, List.map_cons, List.map_nil]); first | done | rfl | (simp only [List.length_drop, List.length_take]; rfl)) ?_; (with_reducible refine (errors_New.calls (⟨#[99, 111, 117, 108, 100, 32, 110, 111, 116, 32, 112, 97, 114, 115, 101, 32, 98, 121, 116, 101, 97, 32, 118, 97, 108, 117, 101, 58, 32, 37, 119]⟩ : ByteArray) t187 _ A48.out).mono ?_); rintro e w52 ⟨rfl, hb⟩; refine ⟨_, rfl, ?_⟩; have n0_ := Aside0.mk (Kd.V_below (by (with_reducible repeat (first | apply Kd.V_alloc | apply Kd.V_drewN | apply Kd.V_drew)); exact HO_0.out) hb); have n1_ := Aside0.mk (Kd.R_below (by (with_reducible repeat (first | apply Kd.R_alloc | apply Kd.R_drewN | apply Kd.R_drew)); exact HO_2.out) hb); have n2_ := Aside0.mk (Kd.V_below (by (with_reducible repeat (first | apply Kd.V_alloc | apply Kd.V_drewN | apply Kd.V_drew)); exact HO175.out) hb); have n3_ := Aside0.mk (below_step (by repeat (first | (with_reducible first | exact HB.out | apply below_alloc | apply pw_below_drewN | apply below_drew1) | exact HB.out)) hb); clear HO_0; clear HO_2; clear HO175; clear HB; have HO_0 := n0_; have HO_2 := n1_; have HO175 := n2_; have HB := n3_; clear n0_ n1_ n2_ n3_; (try clear hb); (try clear hb2); (try clear hk); (try clear hi); (try simp only [errW_none, errW_some])))
                                go_ret2
                                exact ⟨_, by first | rfl | (simp [errW_none, errW_some] <;> rfl) | (simp [*, errW_none, errW_some] <;> rfl), by first | exact Kd.R_nil _ _ _ _ _ | exact Kd.N_nil _ _ _ _ _ | exact Kd.V_nil _ _ _ _ _ | exact Kd.Q_nil _ _ _ _ _ | exact Kd.S_nil _ _ _ _ _, by repeat (first | (with_reducible first | exact HB.out | apply below_alloc | apply pw_below_drewN | apply below_drew1) | exact HB.out)⟩
                            · rw [if_neg c39] at H
                              exact absurd H (by simp)
                          · rw [if_neg c38] at H
                            exact absurd H (by simp)
                · rw [if_neg c25] at H
                  have c25b0 : ((rd x0_2 0) == 92) = false := beq_eq_false_iff_ne.mpr c25
                  have c25b1 : ((rd x0_2 0) != 92) = true := bne_iff_ne.mpr c25
                  replace H := Option.bind_eq_some_iff.mp H
                  obtain ⟨t188, A530, H⟩ := H
                  replace H : (if t188 = (-1) then (if x2_2.length + x0_2.length < 140737488355328 then (some ((x2_2 ++ x0_2), none)) else (none)) else (if 0 ≤ t188 then (if t188 ≤ (x0_2.length : Int) then ((some (x0_2.take (t188 : Int).toNat : List Int)).bind fun y192 => (if x2_2.length + y192.length < 140737488355328 then (pq_parseBytea.l0 k2 (x0_2.drop (t188 : Int).toNat) (x2_2 ++ y192)) else (none))) else (none)) else (none))) = some (r1, r2) := H
                  have A53 := Aside0.mk A530
                  clear A530
                  by_cases c54 : t188 = (-1)
                  · rw [if_pos c54] at H
                    have c54b0 : (t188 == (-1)) = true := beq_iff_eq.mpr c54
                    have c54b1 : (t188 != (-1)) = false := bne_eq_false_iff_eq.mpr c54
                    clear c54
                    by_cases c55 : x2_2.length + x0_2.length < 140737488355328
                    · rw [if_pos c55] at H
                      have LMc55 := Aside0.mk c55
                      clear c55
                      obtain ⟨y189, hy189⟩ : ∃ y_ : List Int, y_ = (x2_2 ++ x0_2) := ⟨_, rfl⟩
                      replace H : (some (y189, none)) = some (r1, r2) := by first | (rw [hy189]; with_reducible exact H) | (have H2_ := (Option.bind_some _ _).symm.trans H; rw [hy189]; with_reducible exact H2_) | (have H2_ := (Option.bind_some _ _).symm.trans H; with_reducible exact H2_) | with_reducible exact H | (rw [hy189]; exact H) | exact H
                      have Ny189 := Aside0.mk hy189
                      clear hy189
                      simp only [Option.some.injEq, Prod.mk.injEq] at H
                      obtain ⟨rfl, rfl⟩ := H
                      obtain ⟨Ao56, co56, eo56⟩ := Kd.V_slice HO_0.out
                      subst eo56
                      have p160 : 0 ≤ (0 : Int) := (by omega)
                      have q160 : 0 < (x0_2.length : Int) := of_decide_eq_true (by first | (with_reducible assumption) | assumption)
                      obtain ⟨ad160, e160, hx160_0⟩ := Kd.at_int (Kd.V_reads' HO_0.out).2.2 0 p160 q160
                      cases e160
                      have qi160 : (0 < x0_2.length) = True := eq_true (by omega)
                      (try rw [show ((0 : Int)).toNat = 0 from rfl] at hx160_0)
                      (try rw [Addr.add_zero'] at hx160_0)
                      replace p160 := eq_true p160
                      replace q160 := eq_true q160
                      have hcv57 := fun c_ : Nat => Kd.C_string (P := Tryd.prog) (c := c_) Tryd.underlying23 Tryd.underlying5 Tryd.underlying9 (Kd.V_reads' HO_0.out).2.2
                      go_wp2_with (first | ((with_reducible refine gate_callee (f := 17) rfl ?_); refine goesL_ (some 78) rfl rfl Tryd.func17 (by kernel_rfl) rfl #[.string (strOfNums x0_2), .string (⟨#[92]⟩ : ByteArray)] rfl (by (try simp only [List.map_toArray, List.map_cons, List.map_nil]); first | done | rfl | (simp only [List.length_drop, List.length_take]; rfl)) ?_; (with_reducible refine (pq_zzIndex.calls k2 (strOfNums x0_2) (⟨#[92]⟩ : ByteArray) t188 _ A53.out).mono ?_); rintro e w' ⟨rfl, ⟨nd, rfl⟩⟩; refine ⟨_, rfl, ?_⟩) | ((with_reducible refine gate_builtin (b := .append) (xs := #[.tmp 81, .tmp 82]) rfl ?_); at_builtin; refine Kd.R_append_rows (Kd.int .u8) (w0 := w) w.heap.size rfl (.tmp 81) (.tmp 82) 23 5 (.int .u8 0) 1 rfl Tryd.underlying23 info5 rfl (by decide) (by omega) u2 x2_2 x0_2 _ _ _ (fun k_ => (w.heap.size ≤ k_)) (fun _ => False) rfl rfl ?aO ?aR (fun _ _ h => h) (fun _ h => h.elim) ?aF ?aB ?aS ?aL ?_; (case aR => repeat (first | exact (Kd.V_reads' HO_0.out).2.2 | (with_reducible refine Kd.C_alloc ?_ _) | (with_reducible refine Kd.C_drewN ?_ _) | (with_reducible refine Kd.C_drew ?_))); (case aB => exact (by repeat (first | (with_reducible first | exact HB.out | apply below_alloc | apply pw_below_drewN | apply below_drew1) | exact HB.out))); (case aF => exact (fun k_ hk => (Nat.le_trans (below_size (by repeat (first | (with_reducible first | exact HB.out | apply below_alloc | apply pw_below_drewN | apply below_drew1) | exact HB.out))) hk))); (case aO => exact (by (with_reducible repeat (first | apply Kd.R_alloc | apply Kd.R_drewN | apply Kd.R_drew)); exact HO_2.out)); (case aS => exact (below_size (by repeat (first | (with_reducible first | exact HB.out | apply below_alloc | apply pw_below_drewN | apply below_drew1) | exact HB.out)))); (case aL => have := LMc55.out; omega); intro v190 w58 ho hb hg hat; rw [← Ny189.out] at ho; have n0_ := Aside0.mk (Kd.V_afterv (ok := (fun k_ => (P0_ k_ ∨ w.heap.size ≤ k_))) (by (with_reducible repeat (first | apply Kd.V_alloc | apply Kd.V_drewN | apply Kd.V_drew)); exact HO_0.out) hg hat); have n1_ := Aside0.mk (hb); have n2_ := Aside0.mk (ho); clear HO_0; clear HB; clear HO_2; have HO_0 := n0_; have HB := n1_; have HO191 := n2_; clear n0_ n1_ n2_; clear ho hb hg hat))
                      go_ret2
                      exact ⟨_, by first | rfl | (simp [errW_none, errW_some] <;> rfl) | (simp [*, errW_none, errW_some] <;> rfl), by (with_reducible repeat (first | apply Kd.R_alloc | apply Kd.R_drewN | apply Kd.R_drew)); exact HO191.out, by repeat (first | (with_reducible first | exact HB.out | apply below_alloc | apply pw_below_drewN | apply below_drew1) | exact HB.out)⟩
                    · rw [if_neg c55] at H
                      exact absurd H (by simp)
                  · rw [if_neg c54] at H
                    have c54b0 : (t188 == (-1)) = false := beq_eq_false_iff_ne.mpr c54
                    have c54b1 : (t188 != (-1)) = true := bne_iff_ne.mpr c54
                    by_cases c59 : 0 ≤ t188
                    · rw [if_pos c59] at H
                      have c59b0 := eq_true c59
                      have c59b1 : decide (0 ≤ t188) = true := decide_eq_true c59
                      clear c59
                      by_cases c60 : t188 ≤ (x0_2.length : Int)
                      · rw [if_pos c60] at H
                        have c60b0 := eq_true c60
                        have c60b1 : decide (t188 ≤ (x0_2.length : Int)) = true := decide_eq_true c60
                        clear c60
                        obtain ⟨y192, hy192⟩ : ∃ y_ : List Int, y_ = (x0_2.take (t188 : Int).toNat) := ⟨_, rfl⟩
                        replace H : (if x2_2.length + y192.length < 140737488355328 then (pq_parseBytea.l0 k2 (x0_2.drop (t188 : Int).toNat) (x2_2 ++ y192)) else (none)) = some (r1, r2) := by first | (rw [hy192]; with_reducible exact H) | (have H2_ := (Option.bind_some _ _).symm.trans H; rw [hy192]; with_reducible exact H2_) | (have H2_ := (Option.bind_some _ _).symm.trans H; with_reducible exact H2_) | with_reducible exact H | (rw [hy192]; exact H) | exact H
                        have Ny192 := Aside0.mk hy192
                        clear hy192
                        by_cases c61 : x2_2.length + y192.length < 140737488355328
                        · rw [if_pos c61] at H
                          have LMc61 := Aside0.mk c61
                          clear c61
                          obtain ⟨y197, hy197⟩ : ∃ y_ : List Int, y_ = (x2_2 ++ y192) := ⟨_, rfl⟩
                          replace H : (pq_parseBytea.l0 k2 (x0_2.drop (t188 : Int).toNat) y197) = some (r1, r2) := by first | (rw [hy197]; with_reducible exact H) | (have H2_ := (Option.bind_some _ _).symm.trans H; rw [hy197]; with_reducible exact H2_) | (have H2_ := (Option.bind_some _ _).symm.trans H; with_reducible exact H2_) | with_reducible exact H | (rw [hy197]; exact H) | exact H
                          have Ny197 := Aside0.mk hy197
                          clear hy197
                          have c62b0 := eq_true (of_decide_eq_true (by first | (with_reducible assumption) | assumption) : 0 ≤ t188)
                          have c63b0 := eq_true (of_decide_eq_true (by first | (with_reducible assumption) | assumption) : t188 ≤ (x0_2.length : Int))
                          obtain ⟨y200, hy200⟩ : ∃ y_ : List Int, y_ = (x0_2.drop (t188 : Int).toNat) := ⟨_, rfl⟩
                          replace H : (pq_parseBytea.l0 k2 y200 y197) = some (r1, r2) := by first | (rw [hy200]; with_reducible exact H) | (have H2_ := (Option.bind_some _ _).symm.trans H; rw [hy200]; with_reducible exact H2_) | (have H2_ := (Option.bind_some _ _).symm.trans H; with_reducible exact H2_) | with_reducible exact H | (rw [hy200]; exact H) | exact H
                          have Ny200 := Aside0.mk hy200
                          clear hy200
                          have H' := Aside0.mk H
                          clear H
                          obtain ⟨Ao64, co64, eo64⟩ := Kd.V_slice HO_0.out
                          subst eo64
                          have p160 : 0 ≤ (0 : Int) := (by omega)
                          have q160 : 0 < (x0_2.length : Int) := of_decide_eq_true (by first | (with_reducible assumption) | assumption)
                          obtain ⟨ad160, e160, hx160_0⟩ := Kd.at_int (Kd.V_reads' HO_0.out).2.2 0 p160 q160
                          cases e160
                          have qi160 : (0 < x0_2.length) = True := eq_true (by omega)
                          (try rw [show ((0 : Int)).toNat = 0 from rfl] at hx160_0)
                          (try rw [Addr.add_zero'] at hx160_0)
                          replace p160 := eq_true p160
                          replace q160 := eq_true q160
                          have hcv65 := fun c_ : Nat => Kd.C_string (P := Tryd.prog) (c := c_) Tryd.underlying23 Tryd.underlying5 Tryd.underlying9 (Kd.V_reads' HO_0.out).2.2
                          go_wp2_with (first | ((with_reducible refine gate_callee (f := 17) rfl ?_); refine goesL_ (some 78) rfl rfl Tryd.func17 (by kernel_rfl) rfl #[.string (strOfNums x0_2), .string (⟨#[92]⟩ : ByteArray)] rfl (by (try simp only [List.map_toArray, List.map_cons, List.map_nil]); first | done | rfl | (simp only [List.length_drop, List.length_take]; rfl)) ?_; (with_reducible refine (pq_zzIndex.calls k2 (strOfNums x0_2) (⟨#[92]⟩ : ByteArray) t188 _ A53.out).mono ?_); rintro e w' ⟨rfl, ⟨nd, rfl⟩⟩; refine ⟨_, rfl, ?_⟩; have q66 : (t188 : Int) ≤ ((x0_2.length : Int) : Int) := of_decide_eq_true (by first | (with_reducible assumption) | assumption); obtain ⟨i066, hi066, _, hsz66, _⟩ := info_parts info5; have hroom66 : x0_2.length ≤ co64 := (Kd.V_reads' HO_0.out).2.1; have hC66 : Kd.F (Kd.int .u8) _ _ (some ad160) x0_2.length x0_2 := (Kd.V_at (base := w.heap.size) HO_0.out).2.2; have hcut66 := cut_to (P := Tryd.prog) 23 5 .i64 Tryd.underlying23 hi066 (some ad160) x0_2.length co64 t188 (of_decide_eq_true (by first | (with_reducible assumption) | assumption)) q66 hroom66; have hr66 := Kd.F_take (m := (t188 : Int).toNat) hC66 (by omega); have hy66 : y192.length = (t188 : Int).toNat := (by rw [Ny192.out, List.length_take]; omega); rw [← Ny192.out] at hr66; rw [← hy66] at hcut66; have HO196 := Aside0.mk (show Kd.V (Kd.int .u8) 5 _ w.heap.size _ (.slice (some ad160) y192.length co64) y192 from Kd.V_mk (by omega) hr66); have HC196 := Aside0.mk (show y192.length ≤ co64 from by omega); clear hr66 hC66 hroom66 hi066 hsz66; have KY66 := Aside0.mk hy66; clear hy66; replace q66 := eq_true q66) | ((with_reducible refine gate_builtin (b := .append) (xs := #[.tmp 84, .tmp 87]) rfl ?_); at_builtin; refine Kd.R_append_rows (Kd.int .u8) (w0 := w) w.heap.size rfl (.tmp 84) (.tmp 87) 23 5 (.int .u8 0) 1 rfl Tryd.underlying23 info5 rfl (by decide) (by omega) u2 x2_2 y192 _ _ _ (fun k_ => (w.heap.size ≤ k_)) (fun _ => False) rfl rfl ?aO ?aR (fun _ _ h => h) (fun _ h => h.elim) ?aF ?aB ?aS ?aL ?_; (case aR => repeat (first | exact (Kd.V_reads' HO196.out).2.2 | (with_reducible refine Kd.C_alloc ?_ _) | (with_reducible refine Kd.C_drewN ?_ _) | (with_reducible refine Kd.C_drew ?_))); (case aB => exact (by repeat (first | (with_reducible first | exact HB.out | apply below_alloc | apply pw_below_drewN | apply below_drew1) | exact HB.out))); (case aF => exact (fun k_ hk => (Nat.le_trans (below_size (by repeat (first | (with_reducible first | exact HB.out | apply below_alloc | apply pw_below_drewN | apply below_drew1) | exact HB.out))) hk))); (case aO => exact (by (with_reducible repeat (first | apply Kd.R_alloc | apply Kd.R_drewN | apply Kd.R_drew)); exact HO_2.out)); (case aS => exact (below_size (by repeat (first | (with_reducible first | exact HB.out | apply below_alloc | apply pw_below_drewN | apply below_drew1) | exact HB.out)))); (case aL => have := LMc61.out; omega); intro v198 w67 ho hb hg hat; rw [← Ny197.out] at ho; have n0_ := Aside0.mk (Kd.V_afterv (ok := (fun k_ => (P0_ k_ ∨ w.heap.size ≤ k_))) (by (with_reducible repeat (first | apply Kd.V_alloc | apply Kd.V_drewN | apply Kd.V_drew)); exact HO_0.out) hg hat); have n1_ := Aside0.mk (Kd.V_afterv (ok := (fun k_ => (P0_ k_ ∨ w.heap.size ≤ k_))) (by (with_reducible repeat (first | apply Kd.V_alloc | apply Kd.V_drewN | apply Kd.V_drew)); exact HO196.out) hg hat); have n2_ := Aside0.mk (hb); have n3_ := Aside0.mk (ho); clear HO_0; clear HO196; clear HB; clear HO_2; have HO_0 := n0_; have HO196 := n1_; have HB := n2_; have HO199 := n3_; clear n0_ n1_ n2_ n3_; clear ho hb hg hat; have q68 : (t188 : Int) ≤ ((x0_2.length : Int) : Int) := of_decide_eq_true (by first | (with_reducible assumption) | assumption); obtain ⟨i068, hi068, _, hsz68, _⟩ := info_parts info5; have hroom68 : x0_2.length ≤ co64 := (Kd.V_reads' HO_0.out).2.1; have hC68 : Kd.F (Kd.int .u8) _ _ (some ad160) x0_2.length x0_2 := (Kd.V_at (base := w.heap.size) HO_0.out).2.2; have q068 : (0 : Int) ≤ (t188 : Int) := of_decide_eq_true (by first | (with_reducible assumption) | assumption); have hcut68 := cut_from (P := Tryd.prog) 23 5 .i64 Tryd.underlying23 hi068 1 hsz68 (some ad160) x0_2.length co64 t188 q068 q68; have hr68 := Kd.F_cut (m := (t188 : Int).toNat) (c := co64) hC68 (by omega) hroom68; obtain ⟨A68, hA68⟩ : ∃ A1, A1 = (if co64 = (t188 : Int).toNat then (some ad160) else ((some ad160) : Option Addr).map (·.add ((t188 : Int).toNat * 1))) := ⟨_, rfl⟩; obtain ⟨c68, hc68⟩ : ∃ c1, c1 = co64 - (t188 : Int).toNat := ⟨_, rfl⟩; have hy68 : y200.length = x0_2.length - (t188 : Int).toNat := (by rw [Ny200.out, List.length_drop] <;> omega); rw [show (x0_2).drop (t188 : Int).toNat = y200 from Ny200.out.symm] at hr68; replace hr68 : Kd.F (Kd.int .u8) _ _ A68 y200.length y200 := (by rw [hA68]; exact hr68); rw [← hy68, ← hA68, ← hc68] at hcut68; have HO204 := Aside0.mk (show Kd.V (Kd.int .u8) 5 _ w.heap.size _ (.slice A68 y200.length c68) y200 from Kd.V_mk (by rw [hy68, hc68]; exact Nat.sub_le_sub_right hroom68 _) hr68); have HC204 := Aside0.mk (show y200.length ≤ c68 from by rw [hy68, hc68]; exact Nat.sub_le_sub_right hroom68 _); clear hr68 hC68 hroom68 hi068 hsz68 hc68; have KY68 := Aside0.mk hy68; have KA68 := Aside0.mk hA68; clear hy68 hA68; replace q68 := eq_true q68))
                          go_roundg k2
                          case measure => have := HJ1.out; have := HK2.out; omega
                          case rel => exact ⟨(y200), (y197), H', ⟨by have := HJ1.out; have := HK2.out; omega⟩, ⟨by (with_reducible repeat (first | apply Kd.V_alloc | apply Kd.V_drewN | apply Kd.V_drew)); exact HO204.out⟩, ⟨by (with_reducible repeat (first | apply Kd.R_alloc | apply Kd.R_drewN | apply Kd.R_drew)); exact HO199.out⟩, ⟨by repeat (first | (with_reducible first | exact HB.out | apply below_alloc | apply pw_below_drewN | apply below_drew1) | exact HB.out)⟩⟩
                        · rw [if_neg c61] at H
                          exact absurd H (by simp)
                      · rw [if_neg c60] at H
                        exact absurd H (by simp)
                    · rw [if_neg c59] at H
                      exact absurd H (by simp)
              · rw [if_neg c24] at H
                exact absurd H (by simp)
            · rw [if_neg c23] at H
              have c23b0 : decide (0 < (x0_2.length : Int)) = false := decide_eq_false c23
              have c23b1 : decide (0 < x0_2.length) = false := decide_eq_false (by omega)
              clear c23
              simp only [Option.some.injEq, Prod.mk.injEq] at H
              obtain ⟨rfl, rfl⟩ := H
              obtain ⟨Ao69, co69, eo69⟩ := Kd.V_slice HO_0.out
              subst eo69
              go_wp2
              go_ret2
              exact ⟨_, by first | rfl | (simp [errW_none, errW_some] <;> rfl) | (simp [*, errW_none, errW_some] <;> rfl), by (with_reducible repeat (first | apply Kd.R_alloc | apply Kd.R_drewN | apply Kd.R_drew)); exact HO_2.out, by repeat (first | (with_reducible first | exact HB.out | apply below_alloc | apply pw_below_drewN | apply below_drew1) | exact HB.out)⟩

/-! ### pq_ParseBytea: function 9 -/
def pq_ParseBytea.f (k : Nat) (l0 : List Int) : Option (List Int × Option Int) := (pq_parseBytea.f k l0).bind fun bt205 => (some (bt205.1, bt205.2))
theorem pq_ParseBytea.mono : ∀ a0 k, LeO (pq_ParseBytea.f k a0) (pq_ParseBytea.f (k + 1) a0) := by
  intro a0 k
  unfold pq_ParseBytea.f
  repeat' first
      | (with_reducible exact pq_parseBytea.mono _ _)
      | (with_reducible exact LeO.refl _)
      | (with_reducible exact LeO.none _)
      | (with_reducible refine LeO.ite ?_ ?_)
      | (with_reducible refine LeO.bind ?_ (fun _ => ?_))
      | exact pq_parseBytea.mono _ _
      | exact LeO.none _
      | refine LeO.ite ?_ ?_
      | refine LeO.bind ?_ (fun _ => ?_)
set_option maxHeartbeats 8000000 in
set_option maxRecDepth 100000 in
theorem pq_ParseBytea.calls (k : Nat) (A0 : Option Addr) (c0 : Nat) (l0 : List Int) (r1 : List Int) (r2 : Option Int) (w : World) (hr0 : Kd.C (Kd.int .u8) w A0 l0.length l0) (hc0 : l0.length ≤ c0) (h : pq_ParseBytea.f k l0 = some (r1, r2)) :
    Calls Tryd.prog 9 #[.slice A0 l0.length c0] w fun e w' => ∃ v0_ : Value, e = .returned (.tuple #[v0_, errW r2]) ∧ Kd.R (Kd.int .u8) 5 w' w.heap.size (fun _ => True) v0_ r1 ∧ Below w.heap.size w w' := by
  have HR0 := Aside0.mk hr0
  have HC0 := Aside0.mk hc0
  clear hr0 hc0
  have HB := Aside0.mk (Below.refl w.heap.size w)
  have H : ((pq_parseBytea.f k l0).bind fun bt205 => (some (bt205.1, bt205.2))) = some (r1, r2) := h
  clear h
  replace H := Option.bind_eq_some_iff.mp H
  obtain ⟨⟨t205, t208⟩, A20, H⟩ := H
  replace H : (some (t205, t208)) = some (r1, r2) := H
  have A2 := Aside0.mk A20
  clear A20
  simp only [Option.some.injEq, Prod.mk.injEq] at H
  obtain ⟨rfl, rfl⟩ := H
  go_enter Tryd.func9, Tryd.ntmps9
  go_wp2_with (first | ((with_reducible refine gate_callee (f := 11) rfl ?_); refine goesL_ (some 5) rfl rfl Tryd.func11 (by kernel_rfl) rfl #[.slice A0 l0.length c0] rfl (by (try simp only [List.map_toArray, List.map_cons, List.map_nil]); first | done | rfl | (simp only [List.length_drop, List.length_take]; rfl)) ?_; (with_reducible refine (pq_parseBytea.calls k (fun k_ => k_ < w.heap.size) _ _ l0 t205 t208 _ ?side1 A2.out).mono ?_); (case side1 => exact Kd.V_mk HC0.out (Kd.F_below (Kd.C_F (Kd.heap_int .u8) HR0.out) (by repeat (first | (with_reducible first | exact HB.out | apply below_alloc | apply pw_below_drewN | apply below_drew1) | exact HB.out)))); rintro e w3 ⟨v206, rfl, ho0, hb⟩; refine ⟨_, rfl, ?_⟩; have n0_ := Aside0.mk (Kd.R_lower (Kd.R_mono (ok' := fun k_ => True) ho0 (fun _ hk_ => trivial)) (below_size (by repeat (first | (with_reducible first | exact HB.out | apply below_alloc | apply pw_below_drewN | apply below_drew1) | exact HB.out)))); have n1_ := Aside0.mk (below_step (by repeat (first | (with_reducible first | exact HB.out | apply below_alloc | apply pw_below_drewN | apply below_drew1) | exact HB.out)) hb); clear HB; have HO207 := n0_; have HB := n1_; clear n0_ n1_; (try clear hb); (try clear hb2); (try clear hk); (try clear hi); (try clear ho0); (try simp only [errW_none, errW_some])))
  go_ret2
  exact ⟨_, by first | rfl | (simp [errW_none, errW_some] <;> rfl) | (simp [*, errW_none, errW_some] <;> rfl), by (with_reducible repeat (first | apply Kd.R_alloc | apply Kd.R_drewN | apply Kd.R_drew)); exact HO207.out, by repeat (first | (with_reducible first | exact HB.out | apply below_alloc | apply pw_below_drewN | apply below_drew1) | exact HB.out)⟩

/-! ### impl_ByteaRead: function 7 -/
def impl_ByteaRead.f (k : Nat) (a0 : ByteArray) : Option (ByteArray × Bool) := if a0.size ≤ 9223372036854775807 then ((pq_ParseBytea.f k (bytesOf a0)).bind fun t => some (strOfNums t.1, t.2.isNone)) else none
theorem impl_ByteaRead.mono : ∀ a0 k, LeO (impl_ByteaRead.f k a0) (impl_ByteaRead.f (k + 1) a0) := by
  intro a0 k
  unfold impl_ByteaRead.f
  exact LeO.ite (LeO.bind (pq_ParseBytea.mono _ _) (fun _ => LeO.refl _)) (LeO.none _)
set_option maxHeartbeats 1000000 in
set_option maxRecDepth 100000 in
theorem impl_ByteaRead.calls (k : Nat) (a0 : ByteArray) (r1 : ByteArray) (r2 : Bool) (w : World) (h : impl_ByteaRead.f k a0 = some (r1, r2)) :
    Calls Tryd.prog 7 #[.string a0] w fun e w' => e = .returned (.tuple #[.string r1, .bool r2]) ∧ Below w.heap.size w w' := by
  have H : (if a0.size ≤ 9223372036854775807 then ((pq_ParseBytea.f k (bytesOf a0)).bind fun t => some (strOfNums t.1, t.2.isNone)) else none) = some (r1, r2) := h
  clear h
  by_cases hs : a0.size ≤ 9223372036854775807
  · rw [if_pos hs] at H
    obtain ⟨⟨t1, t2⟩, A0, H⟩ := Option.bind_eq_some_iff.mp H
    simp only [Option.some.injEq, Prod.mk.injEq] at H
    obtain ⟨rfl, rfl⟩ := H
    have A1 := Aside0.mk A0
    clear A0
    have HS := Aside0.mk hs
    clear hs
    have hu := Tryd.underlying32
    have kb := fun W => print_bytes (P := Tryd.prog) 9 23 5 Tryd.underlying9 Tryd.underlying23 Tryd.underlying5 a0 W
    go_enter Tryd.func7, Tryd.ntmps7
    go_wp2_with fail
    have hc := pq_ParseBytea.calls k (some ⟨w.heap.size, 0, none⟩) (grownCap w a0.size 0 5) (bytesOf a0) t1 t2 (Lib.bytesWorld w 5 a0) (by rw [bytesOf_length]; exact Kd.C_of_reads (d := (0 : Int)) (h1 := fun _ => rfl) (bytes_reads w 5 a0 HS.out)) (by rw [bytesOf_length]; exact grownCap_ge _ _ _ _) A1.out
    rw [bytesOf_length] at hc
    refine hc.mono ?_
    rintro e w1 ⟨v0, rfl, hR, hB⟩
    have HB := Aside0.mk (Below.trans (bytes_below (Below.refl w.heap.size w) (Nat.le_refl _) 5 a0) (hB.mono (by rw [Lib.bytesWorld_size]; omega)))
    have HR := Aside0.mk hR
    clear hR hB hc
    cases t2 with
    | none =>
      simp only [errW_none]
      have hcv := fun nq : Nat => own_string (P := Tryd.prog) Tryd.underlying23 Tryd.underlying5 Tryd.underlying9 (Kd.own_of_R (show Kd.R (Kd.int .u8) 5 (w1.drewN nq) _ _ v0 t1 from by apply Kd.R_drewN; exact HR.out))
      go_wp2
      go_quiet (fail)
      go_wp2
      go_ret2
      exact ⟨by first | rfl | (simp; done), by repeat (first | exact HB.out | apply pw_below_drewN | apply below_drew1)⟩
    | some q =>
      simp only [errW_some]
      have hcv := fun nq : Nat => own_string (P := Tryd.prog) Tryd.underlying23 Tryd.underlying5 Tryd.underlying9 (Kd.own_of_R (show Kd.R (Kd.int .u8) 5 (w1.drewN nq) _ _ v0 t1 from by apply Kd.R_drewN; exact HR.out))
      go_wp2
      go_quiet (fail)
      go_wp2
      go_ret2
      exact ⟨by first | rfl | (simp; done), by repeat (first | exact HB.out | apply pw_below_drewN | apply below_drew1)⟩
  · rw [if_neg hs] at H
    exact absurd H (by simp)

end Go.Proofs.YthcikkjjegfbladDoor.P
