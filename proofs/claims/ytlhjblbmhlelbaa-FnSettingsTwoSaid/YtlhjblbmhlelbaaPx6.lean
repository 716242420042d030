-- Written by the program wip/myprint.py of this session, over the kit's print of the translation. Lean checks it.
import Derived.Test.YtlhjblbmhlelbaaStrOrd
import Derived.Test.YtlhjblbmhlelbaaPx0
import Derived.Test.YtlhjblbmhlelbaaPx2
namespace Go.Proofs.Ytlhjblbmhlelbaa.P
open Go.RowKit Go.Proofs.YtlhjblbmhlelbaaW.PrintWords Go.Proofs.YtlhjblbmhlelbaaW.PrintLast Go.Proofs.YtlhjblbmhlelbaaW.PrintMore
attribute [local go_sem] max2_int min2_int max_two min_two max_three min_three max_four min_four   -- for this text's walks alone
set_option linter.unusedVariables false
set_option linter.unusedSimpArgs false

/-! ### laws_FnSettingsTwo: function 4 -/
mutual
def laws_FnSettingsTwo.j0 : Nat → ByteArray → ByteArray → Bool → Option (Bool)
  | 0, _, _, _ => none
  | k + 1, x0, x1, x20 => if x20 = true then (some true) else ((laws_text9.f k x0).bind fun t155 => (if t155 = true then ((laws_text9.f k x1).bind fun t156 => (if t156 = true then ((laws_ascii9.f k x0).bind fun t157 => (if t157 = true then ((laws_ascii9.f k x1).bind fun t158 => (laws_FnSettingsTwo.j1 k (!t158))) else (laws_FnSettingsTwo.j1 k true))) else (laws_FnSettingsTwo.j1 k true))) else (laws_FnSettingsTwo.j1 k true)))
def laws_FnSettingsTwo.j1 : Nat → Bool → Option (Bool)
  | 0, _ => none
  | k + 1, x38 => if x38 = true then (some true) else (none)
end
def laws_FnSettingsTwo.f (k : Nat) (a0 : ByteArray) (a1 : ByteArray) : Option (Bool) := if (a0.size : Int) > 2147483647 then (laws_FnSettingsTwo.j0 k a0 a1 true) else (laws_FnSettingsTwo.j0 k a0 a1 (decide ((a1.size : Int) > 2147483647)))
theorem laws_FnSettingsTwo.mono_l : ∀ k, (∀ y0 y1 y2, LeO (laws_FnSettingsTwo.j0 k y0 y1 y2) (laws_FnSettingsTwo.j0 (k + 1) y0 y1 y2)) ∧ (∀ y0, LeO (laws_FnSettingsTwo.j1 k y0) (laws_FnSettingsTwo.j1 (k + 1) y0))
  | 0 => ⟨fun _ _ _ r h => by simp [laws_FnSettingsTwo.j0] at h, fun _ r h => by simp [laws_FnSettingsTwo.j1] at h⟩
  | k + 1 => by
    obtain ⟨ih0, ih1⟩ := laws_FnSettingsTwo.mono_l k
    refine ⟨?_, ?_⟩
    · intro y0 y1 y2
      unfold laws_FnSettingsTwo.j0
      repeat' first
      | (with_reducible exact ih0 _ _ _)
      | (with_reducible exact ih1 _)
      | (with_reducible exact laws_ascii9.mono _ _)
      | (with_reducible exact laws_text9.mono _ _)
      | (with_reducible exact LeO.refl _)
      | (with_reducible exact LeO.none _)
      | (with_reducible refine LeO.ite ?_ ?_)
      | (with_reducible refine LeO.bind ?_ (fun _ => ?_))
      | exact ih0 _ _ _
      | exact ih1 _
      | exact laws_ascii9.mono _ _
      | exact laws_text9.mono _ _
      | exact LeO.none _
      | refine LeO.ite ?_ ?_
      | refine LeO.bind ?_ (fun _ => ?_)
    · intro y0
      unfold laws_FnSettingsTwo.j1
      repeat' first
      | (with_reducible exact ih0 _ _ _)
      | (with_reducible exact ih1 _)
      | (with_reducible exact laws_ascii9.mono _ _)
      | (with_reducible exact laws_text9.mono _ _)
      | (with_reducible exact LeO.refl _)
      | (with_reducible exact LeO.none _)
      | (with_reducible refine LeO.ite ?_ ?_)
      | (with_reducible refine LeO.bind ?_ (fun _ => ?_))
      | exact ih0 _ _ _
      | exact ih1 _
      | exact laws_ascii9.mono _ _
      | exact laws_text9.mono _ _
      | exact LeO.none _
      | refine LeO.ite ?_ ?_
      | refine LeO.bind ?_ (fun _ => ?_)
theorem laws_FnSettingsTwo.mono : ∀ a0 a1 k, LeO (laws_FnSettingsTwo.f k a0 a1) (laws_FnSettingsTwo.f (k + 1) a0 a1) := by
  intro a0 a1 k
  obtain ⟨ih0, ih1⟩ := laws_FnSettingsTwo.mono_l k
  unfold laws_FnSettingsTwo.f
  repeat' first
      | (with_reducible exact ih0 _ _ _)
      | (with_reducible exact ih1 _)
      | (with_reducible exact laws_ascii9.mono _ _)
      | (with_reducible exact laws_text9.mono _ _)
      | (with_reducible exact LeO.refl _)
      | (with_reducible exact LeO.none _)
      | (with_reducible refine LeO.ite ?_ ?_)
      | (with_reducible refine LeO.bind ?_ (fun _ => ?_))
      | exact ih0 _ _ _
      | exact ih1 _
      | exact laws_ascii9.mono _ _
      | exact laws_text9.mono _ _
      | exact LeO.none _
      | refine LeO.ite ?_ ?_
      | refine LeO.bind ?_ (fun _ => ?_)
set_option maxHeartbeats 8000000 in
set_option maxRecDepth 100000 in
theorem laws_FnSettingsTwo.calls (k : Nat) (a0 : ByteArray) (a1 : ByteArray) (r : Bool) (w : World) (h : laws_FnSettingsTwo.f k a0 a1 = some r) :
    Calls Try.prog 4 #[.string a0, .string a1] w fun e w' => e = .returned (.bool r) ∧ Below w.heap.size w w' := by
  have HB := Aside0.mk (Below.refl w.heap.size w)
  have H : (if (a0.size : Int) > 2147483647 then (laws_FnSettingsTwo.j0 k a0 a1 true) else (laws_FnSettingsTwo.j0 k a0 a1 (decide ((a1.size : Int) > 2147483647)))) = some r := h
  clear h
  have HC3 := Aside0.mk H
  clear H
  go_enter Try.func4, Try.ntmps4
  go_upto_region 1 with (fail)
  go_cut [20] (fun v20 wc => ∃ (kq : Nat) (x20_2 : Bool), v20 = .bool x20_2 ∧ Aside0 (laws_FnSettingsTwo.j0 kq a0 a1 x20_2 = some r) ∧ Aside0 (kq ≤ k) ∧ Aside0 (Below w.heap.size w wc))
  case first =>
    have H := HC3.out
    clear HC3
    by_cases c4 : (a0.size : Int) > 2147483647
    · rw [if_pos c4] at H
      have c4b0 : decide (2147483647 < (a0.size : Int)) = true := decide_eq_true c4
      have c4b1 : decide (2147483647 < a0.size) = true := decide_eq_true (by omega)
      clear c4
      (first | rw [c4b0] | (simp only [i64_w, i32_w]; rw [c4b0]) | skip)
      have H' := Aside0.mk H
      clear H
      go_wp2
      go_meet
      case rel => exact ⟨_, (true), (by first | rfl | (simp; done) | (simp [*]; done)), H', ⟨by first | omega | exact Nat.le_refl _⟩, ⟨by repeat (first | (with_reducible first | exact HB.out | apply below_alloc | apply pw_below_drewN | apply below_drew1) | exact HB.out)⟩⟩
    · rw [if_neg c4] at H
      have c4b0 : decide (2147483647 < (a0.size : Int)) = false := decide_eq_false c4
      have c4b1 : decide (2147483647 < a0.size) = false := decide_eq_false (by omega)
      clear c4
      (first | rw [c4b0] | (simp only [i64_w, i32_w]; rw [c4b0]) | skip)
      have H' := Aside0.mk H
      clear H
      go_wp2
      go_meet
      case rel => exact ⟨_, (decide ((a1.size : Int) > 2147483647)), (by first | rfl | (simp; done) | (simp [*]; done)), H', ⟨by first | omega | exact Nat.le_refl _⟩, ⟨by repeat (first | (with_reducible first | exact HB.out | apply below_alloc | apply pw_below_drewN | apply below_drew1) | exact HB.out)⟩⟩
  case rest =>
    clear HC3
    try clear p2
    try clear c4
    try clear c4b0
    try clear c4b1
    obtain ⟨kq, x20_2, rfl, HA, HJ2, HB⟩ := hcut
    cases kq with
    | zero => exact absurd HA.out (by simp [laws_FnSettingsTwo.j0])
    | succ kj2 =>
      have H := HA.out
      clear HA
      simp only [laws_FnSettingsTwo.j0] at H
      by_cases c5 : x20_2 = true
      · subst c5
        have H1 : (some true) = some r := by rw [if_pos rfl] at H; exact H
        clear H
        have H := H1
        clear H1
        obtain rfl := Option.some.inj H
        go_wp2
        go_ret
        exact ⟨by first | rfl | (simp [errW_none, errW_some] <;> rfl) | (simp [*, errW_none, errW_some] <;> rfl), by repeat (first | (with_reducible first | exact HB.out | apply below_alloc | apply pw_below_drewN | apply below_drew1) | exact HB.out)⟩
      · replace c5 := Bool.eq_false_iff.mpr c5
        subst c5
        have H1 : ((laws_text9.f kj2 a0).bind fun t155 => (if t155 = true then ((laws_text9.f kj2 a1).bind fun t156 => (if t156 = true then ((laws_ascii9.f kj2 a0).bind fun t157 => (if t157 = true then ((laws_ascii9.f kj2 a1).bind fun t158 => (laws_FnSettingsTwo.j1 kj2 (!t158))) else (laws_FnSettingsTwo.j1 kj2 true))) else (laws_FnSettingsTwo.j1 kj2 true))) else (laws_FnSettingsTwo.j1 kj2 true))) = some r := by rw [if_neg (show ¬ (false = true) by decide)] at H; exact H
        clear H
        have H := H1
        clear H1
        have HC6 := Aside0.mk H
        clear H
        go_upto_region 3 with (fail)
        go_cut [38] (fun v38 wc => ∃ (kq : Nat) (x38_5 : Bool), v38 = .bool x38_5 ∧ Aside0 (laws_FnSettingsTwo.j1 kq x38_5 = some r) ∧ Aside0 (kq ≤ kj2) ∧ Aside0 (Below w.heap.size w wc))
        case first =>
          have H := HC6.out
          clear HC6
          replace H := Option.bind_eq_some_iff.mp H
          obtain ⟨t155, A70, H⟩ := H
          replace H : (if t155 = true then ((laws_text9.f kj2 a1).bind fun t156 => (if t156 = true then ((laws_ascii9.f kj2 a0).bind fun t157 => (if t157 = true then ((laws_ascii9.f kj2 a1).bind fun t158 => (laws_FnSettingsTwo.j1 kj2 (!t158))) else (laws_FnSettingsTwo.j1 kj2 true))) else (laws_FnSettingsTwo.j1 kj2 true))) else (laws_FnSettingsTwo.j1 kj2 true)) = some r := H
          have A7 := Aside0.mk A70
          clear A70
          by_cases c8 : t155 = true
          · subst c8
            have H1 : ((laws_text9.f kj2 a1).bind fun t156 => (if t156 = true then ((laws_ascii9.f kj2 a0).bind fun t157 => (if t157 = true then ((laws_ascii9.f kj2 a1).bind fun t158 => (laws_FnSettingsTwo.j1 kj2 (!t158))) else (laws_FnSettingsTwo.j1 kj2 true))) else (laws_FnSettingsTwo.j1 kj2 true))) = some r := by rw [if_pos rfl] at H; exact H
            clear H
            have H := H1
            clear H1
            replace H := Option.bind_eq_some_iff.mp H
            obtain ⟨t156, A90, H⟩ := H
            replace H : (if t156 = true then ((laws_ascii9.f kj2 a0).bind fun t157 => (if t157 = true then ((laws_ascii9.f kj2 a1).bind fun t158 => (laws_FnSettingsTwo.j1 kj2 (!t158))) else (laws_FnSettingsTwo.j1 kj2 true))) else (laws_FnSettingsTwo.j1 kj2 true)) = some r := H
            have A9 := Aside0.mk A90
            clear A90
            by_cases c10 : t156 = true
            · subst c10
              have H1 : ((laws_ascii9.f kj2 a0).bind fun t157 => (if t157 = true then ((laws_ascii9.f kj2 a1).bind fun t158 => (laws_FnSettingsTwo.j1 kj2 (!t158))) else (laws_FnSettingsTwo.j1 kj2 true))) = some r := by rw [if_pos rfl] at H; exact H
              clear H
              have H := H1
              clear H1
              replace H := Option.bind_eq_some_iff.mp H
              obtain ⟨t157, A110, H⟩ := H
              replace H : (if t157 = true then ((laws_ascii9.f kj2 a1).bind fun t158 => (laws_FnSettingsTwo.j1 kj2 (!t158))) else (laws_FnSettingsTwo.j1 kj2 true)) = some r := H
              have A11 := Aside0.mk A110
              clear A110
              by_cases c12 : t157 = true
              · subst c12
                have H1 : ((laws_ascii9.f kj2 a1).bind fun t158 => (laws_FnSettingsTwo.j1 kj2 (!t158))) = some r := by rw [if_pos rfl] at H; exact H
                clear H
                have H := H1
                clear H1
                replace H := Option.bind_eq_some_iff.mp H
                obtain ⟨t158, A130, H⟩ := H
                replace H : (laws_FnSettingsTwo.j1 kj2 (!t158)) = some r := H
                have A13 := Aside0.mk A130
                clear A130
                have H' := Aside0.mk H
                clear H
                go_wp2_with (first | ((with_reducible refine gate_callee (f := 6) rfl ?_); refine goesL_ (some 22) rfl rfl Try.func6 (by kernel_rfl) rfl #[.string a0] rfl (by (try simp only [List.map_toArray, List.map_cons, List.map_nil]); first | done | rfl | (simp only [List.length_drop, List.length_take]; rfl)) ?_; (with_reducible refine (laws_text9.calls kj2 a0 true _ A7.out).mono ?_); rintro e w' ⟨rfl, ⟨nd, rfl⟩⟩; refine ⟨_, rfl, ?_⟩) | (go_at_call 6; (with_reducible refine (laws_text9.calls kj2 a1 true _ A9.out).mono ?_); rintro e w' ⟨rfl, ⟨nd, rfl⟩⟩) | (go_at_call 7; (with_reducible refine (laws_ascii9.calls kj2 a0 true _ A11.out).mono ?_); rintro e w' ⟨rfl, ⟨nd, rfl⟩⟩) | (go_at_call 7; (with_reducible refine (laws_ascii9.calls kj2 a1 t158 _ A13.out).mono ?_); rintro e w' ⟨rfl, ⟨nd, rfl⟩⟩))
                go_meet
                case rel => exact ⟨_, (!t158), (by first | rfl | (simp; done) | (simp [*]; done)), H', ⟨by have := HJ2.out; first | omega | exact Nat.le_refl _⟩, ⟨by repeat (first | (with_reducible first | exact HB.out | apply below_alloc | apply pw_below_drewN | apply below_drew1) | exact HB.out)⟩⟩
              · replace c12 := Bool.eq_false_iff.mpr c12
                subst c12
                have H1 : (laws_FnSettingsTwo.j1 kj2 true) = some r := by rw [if_neg (show ¬ (false = true) by decide)] at H; exact H
                clear H
                have H := H1
                clear H1
                have H' := Aside0.mk H
                clear H
                go_wp2_with (first | ((with_reducible refine gate_callee (f := 6) rfl ?_); refine goesL_ (some 22) rfl rfl Try.func6 (by kernel_rfl) rfl #[.string a0] rfl (by (try simp only [List.map_toArray, List.map_cons, List.map_nil]); first | done | rfl | (simp only [List.length_drop, List.length_take]; rfl)) ?_; (with_reducible refine (laws_text9.calls kj2 a0 true _ A7.out).mono ?_); rintro e w' ⟨rfl, ⟨nd, rfl⟩⟩; refine ⟨_, rfl, ?_⟩) | (go_at_call 6; (with_reducible refine (laws_text9.calls kj2 a1 true _ A9.out).mono ?_); rintro e w' ⟨rfl, ⟨nd, rfl⟩⟩) | (go_at_call 7; (with_reducible refine (laws_ascii9.calls kj2 a0 false _ A11.out).mono ?_); rintro e w' ⟨rfl, ⟨nd, rfl⟩⟩))
                go_meet
                case rel => exact ⟨_, (true), (by first | rfl | (simp; done) | (simp [*]; done)), H', ⟨by have := HJ2.out; first | omega | exact Nat.le_refl _⟩, ⟨by repeat (first | (with_reducible first | exact HB.out | apply below_alloc | apply pw_below_drewN | apply below_drew1) | exact HB.out)⟩⟩
            · replace c10 := Bool.eq_false_iff.mpr c10
              subst c10
              have H1 : (laws_FnSettingsTwo.j1 kj2 true) = some r := by rw [if_neg (show ¬ (false = true) by decide)] at H; exact H
              clear H
              have H := H1
              clear H1
              have H' := Aside0.mk H
              clear H
              go_wp2_with (first | ((with_reducible refine gate_callee (f := 6) rfl ?_); refine goesL_ (some 22) rfl rfl Try.func6 (by kernel_rfl) rfl #[.string a0] rfl (by (try simp only [List.map_toArray, List.map_cons, List.map_nil]); first | done | rfl | (simp only [List.length_drop, List.length_take]; rfl)) ?_; (with_reducible refine (laws_text9.calls kj2 a0 true _ A7.out).mono ?_); rintro e w' ⟨rfl, ⟨nd, rfl⟩⟩; refine ⟨_, rfl, ?_⟩) | (go_at_call 6; (with_reducible refine (laws_text9.calls kj2 a1 false _ A9.out).mono ?_); rintro e w' ⟨rfl, ⟨nd, rfl⟩⟩))
              go_meet
              case rel => exact ⟨_, (true), (by first | rfl | (simp; done) | (simp [*]; done)), H', ⟨by have := HJ2.out; first | omega | exact Nat.le_refl _⟩, ⟨by repeat (first | (with_reducible first | exact HB.out | apply below_alloc | apply pw_below_drewN | apply below_drew1) | exact HB.out)⟩⟩
          · replace c8 := Bool.eq_false_iff.mpr c8
            subst c8
            have H1 : (laws_FnSettingsTwo.j1 kj2 true) = some r := by rw [if_neg (show ¬ (false = true) by decide)] at H; exact H
            clear H
            have H := H1
            clear H1
            have H' := Aside0.mk H
            clear H
            go_wp2_with (first | ((with_reducible refine gate_callee (f := 6) rfl ?_); refine goesL_ (some 22) rfl rfl Try.func6 (by kernel_rfl) rfl #[.string a0] rfl (by (try simp only [List.map_toArray, List.map_cons, List.map_nil]); first | done | rfl | (simp only [List.length_drop, List.length_take]; rfl)) ?_; (with_reducible refine (laws_text9.calls kj2 a0 false _ A7.out).mono ?_); rintro e w' ⟨rfl, ⟨nd, rfl⟩⟩; refine ⟨_, rfl, ?_⟩))
            go_meet
            case rel => exact ⟨_, (true), (by first | rfl | (simp; done) | (simp [*]; done)), H', ⟨by have := HJ2.out; first | omega | exact Nat.le_refl _⟩, ⟨by repeat (first | (with_reducible first | exact HB.out | apply below_alloc | apply pw_below_drewN | apply below_drew1) | exact HB.out)⟩⟩
        case rest =>
          clear HC6
          try clear c1
          try clear p2
          try clear c4
          try clear c4b0
          try clear c4b1
          try clear c5
          try clear c6
          try clear c8
          try clear c10
          try clear c12
          try clear p2
          obtain ⟨kq, x38_5, rfl, HA, HJ5, HB⟩ := hcut
          cases kq with
          | zero => exact absurd HA.out (by simp [laws_FnSettingsTwo.j1])
          | succ kj5 =>
            have H := HA.out
            clear HA
            simp only [laws_FnSettingsTwo.j1] at H
            by_cases c14 : x38_5 = true
            · subst c14
              have H1 : (some true) = some r := by rw [if_pos rfl] at H; exact H
              clear H
              have H := H1
              clear H1
              obtain rfl := Option.some.inj H
              go_wp2
              go_ret
              exact ⟨by first | rfl | (simp [errW_none, errW_some] <;> rfl) | (simp [*, errW_none, errW_some] <;> rfl), by repeat (first | (with_reducible first | exact HB.out | apply below_alloc | apply pw_below_drewN | apply below_drew1) | exact HB.out)⟩
            · replace c14 := Bool.eq_false_iff.mpr c14
              subst c14
              have H1 : (none) = some r := by rw [if_neg (show ¬ (false = true) by decide)] at H; exact H
              clear H
              have H := H1
              clear H1
              exact absurd H (by simp)

/-- THE ONE PURE STATEMENT of laws_FnSettingsTwo: yours. -/
def laws_FnSettingsTwo.Pure : Prop := ∀ (a0 : ByteArray) (a1 : ByteArray), a0.size ≤ 140737488351232 → a1.size ≤ 140737488351232 → ∃ k, laws_FnSettingsTwo.f k a0 a1 = some true
theorem laws_FnSettingsTwo.walk (P : laws_FnSettingsTwo.Pure) (a0 : ByteArray) (a1 : ByteArray) (w : World) (w0 : a0.size ≤ 140737488351232) (w1 : a1.size ≤ 140737488351232) :
    Calls Try.prog 4 #[.string a0, .string a1] w fun e w' => e = .returned (.bool true) ∧ Below w.heap.size w w' := by
  obtain ⟨k, h⟩ := P a0 a1 w0 w1
  refine (laws_FnSettingsTwo.calls k a0 a1 true w h).mono ?_
  rintro e w' ⟨rfl, hd⟩
  exact ⟨rfl, hd⟩

/-! ### laws_zzFits17: function 23 -/
def laws_zzFits17.f (a0_0 : ByteArray) (a0_1 : ByteArray) : Option (Bool) := if (a0_0.size : Int) > 2147483647 then (some false) else (if (a0_1.size : Int) > 2147483647 then (some false) else (some true))
set_option maxHeartbeats 8000000 in
set_option maxRecDepth 100000 in
theorem laws_zzFits17.calls (a0_0 : ByteArray) (a0_1 : ByteArray) (r : Bool) (w : World) (h : laws_zzFits17.f a0_0 a0_1 = some r) :
    Calls Try.prog 23 #[.agg #[.string a0_0, .string a0_1]] w fun e w' => e = .returned (.bool r) ∧ Below w.heap.size w w' := by
  have hu34 := Try.underlying34
  have HB := Aside0.mk (Below.refl w.heap.size w)
  have H : (if (a0_0.size : Int) > 2147483647 then (some false) else (if (a0_1.size : Int) > 2147483647 then (some false) else (some true))) = some r := h
  clear h
  by_cases c2 : (a0_0.size : Int) > 2147483647
  · rw [if_pos c2] at H
    have c2b0 : decide (2147483647 < (a0_0.size : Int)) = true := decide_eq_true c2
    have c2b1 : decide (2147483647 < a0_0.size) = true := decide_eq_true (by omega)
    clear c2
    obtain rfl := Option.some.inj H
    go_enter Try.func23, Try.ntmps23
    go_wp2_with (first | ((with_reducible refine gate_dst (N := 1) rfl ?_); refine box_event ?hg (N := 1) ?hd (cs := #[.string a0_0, .string a0_1]) (t := 34) ?hr ?_; (case hd => rfl); (case hg => rfl); (case hr => first | (go_simp; done) | (go_simp; rfl) | (go_simp; simp [IntKind.wrap_u8]; done)); intro gb159 hg w3 hbox hb; have n0_ := Aside0.mk (below_step (by repeat (first | (with_reducible first | exact HB.out | apply below_alloc | apply pw_below_drewN | apply below_drew1) | exact HB.out)) hb); have n1_ := Aside0.mk (hbox); have n2_ := Aside0.mk ((by rw [hg]; exact (below_size (by repeat (first | (with_reducible first | exact HB.out | apply below_alloc | apply pw_below_drewN | apply below_drew1) | exact HB.out))) : w.heap.size ≤ gb159)); have n3_ := Aside0.mk ((by rw [hg]; exact (below_size (by repeat (first | (with_reducible first | exact HB.out | apply below_alloc | apply pw_below_drewN | apply below_drew1) | exact HB.out))) : w.heap.size ≤ gb159)); clear HB; have HB := n0_; have BK159 := n1_; have GW159 := n2_; have GE159 := n3_; clear n0_ n1_ n2_ n3_; clear hb hbox hg; have hcz4_0 : w3.cell? ⟨gb159, 0, none⟩ = some (.string a0_0) := (blk_cell BK159.out 0).trans rfl; have hcz4_1 : w3.cell? ⟨gb159, 1, none⟩ = some (.string a0_1) := (blk_cell BK159.out 1).trans rfl; have hfz4_0 := blk_frozen BK159.out 0; have hfz4_1 := blk_frozen BK159.out 1))
    go_ret
    exact ⟨by first | rfl | (simp [errW_none, errW_some] <;> rfl) | (simp [*, errW_none, errW_some] <;> rfl), by repeat (first | (with_reducible first | exact HB.out | apply below_alloc | apply pw_below_drewN | apply below_drew1 | refine below_set ?_ GE159.out) | exact HB.out)⟩
  · rw [if_neg c2] at H
    have c2b0 : decide (2147483647 < (a0_0.size : Int)) = false := decide_eq_false c2
    have c2b1 : decide (2147483647 < a0_0.size) = false := decide_eq_false (by omega)
    clear c2
    by_cases c5 : (a0_1.size : Int) > 2147483647
    · rw [if_pos c5] at H
      have c5b0 : decide (2147483647 < (a0_1.size : Int)) = true := decide_eq_true c5
      have c5b1 : decide (2147483647 < a0_1.size) = true := decide_eq_true (by omega)
      clear c5
      obtain rfl := Option.some.inj H
      go_enter Try.func23, Try.ntmps23
      go_wp2_with (first | ((with_reducible refine gate_dst (N := 1) rfl ?_); refine box_event ?hg (N := 1) ?hd (cs := #[.string a0_0, .string a0_1]) (t := 34) ?hr ?_; (case hd => rfl); (case hg => rfl); (case hr => first | (go_simp; done) | (go_simp; rfl) | (go_simp; simp [IntKind.wrap_u8]; done)); intro gb159 hg w6 hbox hb; have n0_ := Aside0.mk (below_step (by repeat (first | (with_reducible first | exact HB.out | apply below_alloc | apply pw_below_drewN | apply below_drew1) | exact HB.out)) hb); have n1_ := Aside0.mk (hbox); have n2_ := Aside0.mk ((by rw [hg]; exact (below_size (by repeat (first | (with_reducible first | exact HB.out | apply below_alloc | apply pw_below_drewN | apply below_drew1) | exact HB.out))) : w.heap.size ≤ gb159)); have n3_ := Aside0.mk ((by rw [hg]; exact (below_size (by repeat (first | (with_reducible first | exact HB.out | apply below_alloc | apply pw_below_drewN | apply below_drew1) | exact HB.out))) : w.heap.size ≤ gb159)); clear HB; have HB := n0_; have BK159 := n1_; have GW159 := n2_; have GE159 := n3_; clear n0_ n1_ n2_ n3_; clear hb hbox hg; have hcz7_0 : w6.cell? ⟨gb159, 0, none⟩ = some (.string a0_0) := (blk_cell BK159.out 0).trans rfl; have hcz7_1 : w6.cell? ⟨gb159, 1, none⟩ = some (.string a0_1) := (blk_cell BK159.out 1).trans rfl; have hfz7_0 := blk_frozen BK159.out 0; have hfz7_1 := blk_frozen BK159.out 1))
      go_ret
      exact ⟨by first | rfl | (simp [errW_none, errW_some] <;> rfl) | (simp [*, errW_none, errW_some] <;> rfl), by repeat (first | (with_reducible first | exact HB.out | apply below_alloc | apply pw_below_drewN | apply below_drew1 | refine below_set ?_ GE159.out) | exact HB.out)⟩
    · rw [if_neg c5] at H
      have c5b0 : decide (2147483647 < (a0_1.size : Int)) = false := decide_eq_false c5
      have c5b1 : decide (2147483647 < a0_1.size) = false := decide_eq_false (by omega)
      clear c5
      obtain rfl := Option.some.inj H
      go_enter Try.func23, Try.ntmps23
      go_wp2_with (first | ((with_reducible refine gate_dst (N := 1) rfl ?_); refine box_event ?hg (N := 1) ?hd (cs := #[.string a0_0, .string a0_1]) (t := 34) ?hr ?_; (case hd => rfl); (case hg => rfl); (case hr => first | (go_simp; done) | (go_simp; rfl) | (go_simp; simp [IntKind.wrap_u8]; done)); intro gb159 hg w8 hbox hb; have n0_ := Aside0.mk (below_step (by repeat (first | (with_reducible first | exact HB.out | apply below_alloc | apply pw_below_drewN | apply below_drew1) | exact HB.out)) hb); have n1_ := Aside0.mk (hbox); have n2_ := Aside0.mk ((by rw [hg]; exact (below_size (by repeat (first | (with_reducible first | exact HB.out | apply below_alloc | apply pw_below_drewN | apply below_drew1) | exact HB.out))) : w.heap.size ≤ gb159)); have n3_ := Aside0.mk ((by rw [hg]; exact (below_size (by repeat (first | (with_reducible first | exact HB.out | apply below_alloc | apply pw_below_drewN | apply below_drew1) | exact HB.out))) : w.heap.size ≤ gb159)); clear HB; have HB := n0_; have BK159 := n1_; have GW159 := n2_; have GE159 := n3_; clear n0_ n1_ n2_ n3_; clear hb hbox hg; have hcz9_0 : w8.cell? ⟨gb159, 0, none⟩ = some (.string a0_0) := (blk_cell BK159.out 0).trans rfl; have hcz9_1 : w8.cell? ⟨gb159, 1, none⟩ = some (.string a0_1) := (blk_cell BK159.out 1).trans rfl; have hfz9_0 := blk_frozen BK159.out 0; have hfz9_1 := blk_frozen BK159.out 1))
      go_ret
      exact ⟨by first | rfl | (simp [errW_none, errW_some] <;> rfl) | (simp [*, errW_none, errW_some] <;> rfl), by repeat (first | (with_reducible first | exact HB.out | apply below_alloc | apply pw_below_drewN | apply below_drew1 | refine below_set ?_ GE159.out) | exact HB.out)⟩

/-! ### laws_zzFits16: function 13 -/
def laws_zzFits16.l0 : Nat → List (S34) → Int → Int → Option (Bool)
  | 0, _, _, _ => none
  | k + 1, x8, x9, x10 => if x10 < x9 then (if 0 ≤ x10 then (if x10 < (x8.length : Int) then ((laws_zzFits17.f ((rd_T34 x8 x10).f0) ((rd_T34 x8 x10).f1)).bind fun t162 => (if t162 = true then (laws_zzFits16.l0 k x8 x9 (wrap64 (x10 + 1))) else (some false))) else (none)) else (none)) else (some true)
def laws_zzFits16.f (k : Nat) (l0 : List (S34)) : Option (Bool) := if (l0.length : Int) > 2147483647 then (some false) else (laws_zzFits16.l0 k l0 (l0.length : Int) 0)
theorem laws_zzFits16.mono_l : ∀ k, (∀ y0 y1 y2, LeO (laws_zzFits16.l0 k y0 y1 y2) (laws_zzFits16.l0 (k + 1) y0 y1 y2))
  | 0 => fun _ _ _ r h => by simp [laws_zzFits16.l0] at h
  | k + 1 => by
    have ih0 := laws_zzFits16.mono_l k
    · intro y0 y1 y2
      unfold laws_zzFits16.l0
      repeat' first
      | (with_reducible exact ih0 _ _ _)
      | (with_reducible exact LeO.refl _)
      | (with_reducible exact LeO.none _)
      | (with_reducible refine LeO.ite ?_ ?_)
      | (with_reducible refine LeO.bind ?_ (fun _ => ?_))
      | exact ih0 _ _ _
      | exact LeO.none _
      | refine LeO.ite ?_ ?_
      | refine LeO.bind ?_ (fun _ => ?_)
theorem laws_zzFits16.mono : ∀ a0 k, LeO (laws_zzFits16.f k a0) (laws_zzFits16.f (k + 1) a0) := by
  intro a0 k
  have ih0 := laws_zzFits16.mono_l k
  unfold laws_zzFits16.f
  repeat' first
      | (with_reducible exact ih0 _ _ _)
      | (with_reducible exact LeO.refl _)
      | (with_reducible exact LeO.none _)
      | (with_reducible refine LeO.ite ?_ ?_)
      | (with_reducible refine LeO.bind ?_ (fun _ => ?_))
      | exact ih0 _ _ _
      | exact LeO.none _
      | refine LeO.ite ?_ ?_
      | refine LeO.bind ?_ (fun _ => ?_)
set_option maxHeartbeats 8000000 in
set_option maxRecDepth 100000 in
theorem laws_zzFits16.calls (k : Nat) (A0 : Option Addr) (c0 : Nat) (l0 : List (S34)) (r : Bool) (w : World) (hr0 : Kd.C k34 w A0 l0.length l0) (hc0 : l0.length ≤ c0) (h : laws_zzFits16.f k l0 = some r) :
    Calls Try.prog 13 #[.slice A0 l0.length c0] w fun e w' => e = .returned (.bool r) ∧ Below w.heap.size w w' := by
  have hu34 := Try.underlying34
  have HR0 := Aside0.mk hr0
  have HC0 := Aside0.mk hc0
  clear hr0 hc0
  have HB := Aside0.mk (Below.refl w.heap.size w)
  have H : (if (l0.length : Int) > 2147483647 then (some false) else (laws_zzFits16.l0 k l0 (l0.length : Int) 0)) = some r := h
  clear h
  by_cases c2 : (l0.length : Int) > 2147483647
  · rw [if_pos c2] at H
    have c2b0 : decide (2147483647 < (l0.length : Int)) = true := decide_eq_true c2
    have c2b1 : decide (2147483647 < l0.length) = true := decide_eq_true (by omega)
    clear c2
    obtain rfl := Option.some.inj H
    go_enter Try.func13, Try.ntmps13
    go_wp2
    go_ret
    exact ⟨by first | rfl | (simp [errW_none, errW_some] <;> rfl) | (simp [*, errW_none, errW_some] <;> rfl), by repeat (first | (with_reducible first | exact HB.out | apply below_alloc | apply pw_below_drewN | apply below_drew1) | exact HB.out)⟩
  · rw [if_neg c2] at H
    have c2b0 : decide (2147483647 < (l0.length : Int)) = false := decide_eq_false c2
    have c2b1 : decide (2147483647 < l0.length) = false := decide_eq_false (by omega)
    clear c2
    have H' := Aside0.mk H
    clear H
    go_enter Try.func13, Try.ntmps13
    go_wp2
    go_loopg [10] k (fun kq v10 w' => ∃ (x10_1 : Int), v10 = .int .i64 x10_1 ∧ Aside0 (laws_zzFits16.l0 kq l0 (l0.length : Int) x10_1 = some r) ∧ Aside0 (kq ≤ k) ∧ Aside0 (Below w.heap.size w w'))
    case atStart => exact ⟨(0), (by first | rfl | (simp; done) | (simp [*]; done)), H', ⟨Nat.le_refl _⟩, ⟨by repeat (first | (with_reducible first | exact HB.out | apply below_alloc | apply pw_below_drewN | apply below_drew1) | exact HB.out)⟩⟩
    case round =>
      clear H'
      try clear c1
      try clear c2
      try clear c2b0
      try clear c2b1
      try clear p2
      obtain ⟨x10_1, rfl, HA, HK1, HB⟩ := hrel
      cases gk with
      | zero => exact absurd HA.out (by simp [laws_zzFits16.l0])
      | succ k1 =>
        have H := HA.out
        clear HA
        simp only [laws_zzFits16.l0] at H
        by_cases c3 : x10_1 < (l0.length : Int)
        · rw [if_pos c3] at H
          have c3b0 : decide (x10_1 < (l0.length : Int)) = true := decide_eq_true c3
          clear c3
          by_cases c4 : 0 ≤ x10_1
          · rw [if_pos c4] at H
            have c4b0 : decide (0 ≤ x10_1) = true := decide_eq_true c4
            clear c4
            by_cases c5 : x10_1 < (l0.length : Int)
            · rw [if_pos c5] at H
              have c5b0 : decide (x10_1 < (l0.length : Int)) = true := decide_eq_true c5
              clear c5
              replace H := Option.bind_eq_some_iff.mp H
              obtain ⟨t162, A60, H⟩ := H
              replace H : (if t162 = true then (laws_zzFits16.l0 k1 l0 (l0.length : Int) (wrap64 (x10_1 + 1))) else (some false)) = some r := H
              have A6 := Aside0.mk A60
              clear A60
              by_cases c7 : t162 = true
              · subst c7
                have H1 : (laws_zzFits16.l0 k1 l0 (l0.length : Int) (wrap64 (x10_1 + 1))) = some r := by rw [if_pos rfl] at H; exact H
                clear H
                have H := H1
                clear H1
                have H' := Aside0.mk H
                clear H
                have p160 : 0 ≤ (x10_1 : Int) := of_decide_eq_true (by first | (with_reducible assumption) | assumption)
                have q160 : x10_1 < (l0.length : Int) := of_decide_eq_true (by first | (with_reducible assumption) | assumption)
                obtain ⟨ad160, e160, hx160_0, hx160_1⟩ := at_T34 HR0.out x10_1 p160 q160
                cases e160
                replace hx160_0 := (HB.out.cell (World.block_lt_of_cell? w _ hx160_0)).trans hx160_0
                replace hx160_1 := (HB.out.cell (World.block_lt_of_cell? w _ hx160_1)).trans hx160_1
                replace p160 := eq_true p160
                replace q160 := eq_true q160
                go_wp2_with (first | ((with_reducible refine gate_dst (N := 4) rfl ?_); refine box_event ?hg (N := 4) ?hd (cs := #[.string (⟨#[]⟩ : ByteArray), .string (⟨#[]⟩ : ByteArray)]) (t := 34) ?hr ?_; (case hd => rfl); (case hg => rfl); (case hr => first | (go_simp; done) | (go_simp; rfl) | (go_simp; simp [IntKind.wrap_u8]; done)); intro gb161 hg w8 hbox hb; have n0_ := Aside0.mk (below_step (by repeat (first | (with_reducible first | exact HB.out | apply below_alloc | apply pw_below_drewN | apply below_drew1) | exact HB.out)) hb); have n1_ := Aside0.mk (hbox); have n2_ := Aside0.mk ((by rw [hg]; exact (below_size (by repeat (first | (with_reducible first | exact HB.out | apply below_alloc | apply pw_below_drewN | apply below_drew1) | exact HB.out))) : w.heap.size ≤ gb161)); have n3_ := Aside0.mk ((by rw [hg]; exact (below_size (by repeat (first | (with_reducible first | exact HB.out | apply below_alloc | apply pw_below_drewN | apply below_drew1) | exact HB.out))) : w.heap.size ≤ gb161)); clear HB; have HB := n0_; have BK161 := n1_; have GW161 := n2_; have GE161 := n3_; clear n0_ n1_ n2_ n3_; clear hb hbox hg; have hcz9_0 : w8.cell? ⟨gb161, 0, none⟩ = some (.string (⟨#[]⟩ : ByteArray)) := (blk_cell BK161.out 0).trans rfl; have hcz9_1 : w8.cell? ⟨gb161, 1, none⟩ = some (.string (⟨#[]⟩ : ByteArray)) := (blk_cell BK161.out 1).trans rfl; have hfz9_0 := blk_frozen BK161.out 0; have hfz9_1 := blk_frozen BK161.out 1) | ((with_reducible refine gate_callee (f := 23) rfl ?_); refine goesL_ (some 15) rfl rfl Try.func23 (by kernel_rfl) rfl #[.agg #[.string ((rd_T34 l0 x10_1).f0), .string ((rd_T34 l0 x10_1).f1)]] rfl (by (try simp only [List.map_toArray, List.map_cons, List.map_nil]); first | done | rfl | (simp only [List.length_drop, List.length_take]; rfl)) ?_; (with_reducible refine (laws_zzFits17.calls ((rd_T34 l0 x10_1).f0) ((rd_T34 l0 x10_1).f1) true _ A6.out).mono ?_); rintro e w10 ⟨rfl, hb⟩; refine ⟨_, rfl, ?_⟩; have n0_ := Aside0.mk (blk_below (g := gb161) (o := .cells #[.string ((rd_T34 l0 x10_1).f0), .string ((rd_T34 l0 x10_1).f1)] 34 (0, 0)) (by (with_reducible repeat (first | refine blk_drewN ?_ _ | refine blk_drew ?_ | refine blk_alloc ?_ _)); refine blk_put (cs := #[.string ((rd_T34 l0 x10_1).f0), .string (⟨#[]⟩ : ByteArray)]) ?_ 1 _ rfl; (with_reducible repeat (first | refine blk_drewN ?_ _ | refine blk_drew ?_ | refine blk_alloc ?_ _)); refine blk_put (cs := #[.string (⟨#[]⟩ : ByteArray), .string (⟨#[]⟩ : ByteArray)]) ?_ 0 _ rfl; (with_reducible repeat (first | refine blk_drewN ?_ _ | refine blk_drew ?_ | refine blk_alloc ?_ _)); exact BK161.out) hb); have n1_ := Aside0.mk (below_step (by repeat (first | (with_reducible first | exact HB.out | apply below_alloc | apply pw_below_drewN | apply below_drew1 | refine below_set ?_ GE161.out) | exact HB.out)) hb); clear BK161; clear HB; have BK161 := n0_; have HB := n1_; clear n0_ n1_; (try clear hb); (try clear hb2); (try clear hk); (try clear hi)))
                go_roundg k1
                case measure => have := HK1.out; omega
                case rel => exact ⟨(wrap64 (x10_1 + 1)), (by first | rfl | (simp; done) | (simp [*]; done)), H', ⟨by have := HK1.out; omega⟩, ⟨by repeat (first | (with_reducible first | exact HB.out | apply below_alloc | apply pw_below_drewN | apply below_drew1 | refine below_set ?_ GE161.out) | exact HB.out)⟩⟩
              · replace c7 := Bool.eq_false_iff.mpr c7
                subst c7
                have H1 : (some false) = some r := by rw [if_neg (show ¬ (false = true) by decide)] at H; exact H
                clear H
                have H := H1
                clear H1
                obtain rfl := Option.some.inj H
                have p160 : 0 ≤ (x10_1 : Int) := of_decide_eq_true (by first | (with_reducible assumption) | assumption)
                have q160 : x10_1 < (l0.length : Int) := of_decide_eq_true (by first | (with_reducible assumption) | assumption)
                obtain ⟨ad160, e160, hx160_0, hx160_1⟩ := at_T34 HR0.out x10_1 p160 q160
                cases e160
                replace hx160_0 := (HB.out.cell (World.block_lt_of_cell? w _ hx160_0)).trans hx160_0
                replace hx160_1 := (HB.out.cell (World.block_lt_of_cell? w _ hx160_1)).trans hx160_1
                replace p160 := eq_true p160
                replace q160 := eq_true q160
                go_wp2_with (first | ((with_reducible refine gate_dst (N := 4) rfl ?_); refine box_event ?hg (N := 4) ?hd (cs := #[.string (⟨#[]⟩ : ByteArray), .string (⟨#[]⟩ : ByteArray)]) (t := 34) ?hr ?_; (case hd => rfl); (case hg => rfl); (case hr => first | (go_simp; done) | (go_simp; rfl) | (go_simp; simp [IntKind.wrap_u8]; done)); intro gb161 hg w11 hbox hb; have n0_ := Aside0.mk (below_step (by repeat (first | (with_reducible first | exact HB.out | apply below_alloc | apply pw_below_drewN | apply below_drew1) | exact HB.out)) hb); have n1_ := Aside0.mk (hbox); have n2_ := Aside0.mk ((by rw [hg]; exact (below_size (by repeat (first | (with_reducible first | exact HB.out | apply below_alloc | apply pw_below_drewN | apply below_drew1) | exact HB.out))) : w.heap.size ≤ gb161)); have n3_ := Aside0.mk ((by rw [hg]; exact (below_size (by repeat (first | (with_reducible first | exact HB.out | apply below_alloc | apply pw_below_drewN | apply below_drew1) | exact HB.out))) : w.heap.size ≤ gb161)); clear HB; have HB := n0_; have BK161 := n1_; have GW161 := n2_; have GE161 := n3_; clear n0_ n1_ n2_ n3_; clear hb hbox hg; have hcz12_0 : w11.cell? ⟨gb161, 0, none⟩ = some (.string (⟨#[]⟩ : ByteArray)) := (blk_cell BK161.out 0).trans rfl; have hcz12_1 : w11.cell? ⟨gb161, 1, none⟩ = some (.string (⟨#[]⟩ : ByteArray)) := (blk_cell BK161.out 1).trans rfl; have hfz12_0 := blk_frozen BK161.out 0; have hfz12_1 := blk_frozen BK161.out 1) | ((with_reducible refine gate_callee (f := 23) rfl ?_); refine goesL_ (some 15) rfl rfl Try.func23 (by kernel_rfl) rfl #[.agg #[.string ((rd_T34 l0 x10_1).f0), .string ((rd_T34 l0 x10_1).f1)]] rfl (by (try simp only [List.map_toArray, List.map_cons, List.map_nil]); first | done | rfl | (simp only [List.length_drop, List.length_take]; rfl)) ?_; (with_reducible refine (laws_zzFits17.calls ((rd_T34 l0 x10_1).f0) ((rd_T34 l0 x10_1).f1) false _ A6.out).mono ?_); rintro e w13 ⟨rfl, hb⟩; refine ⟨_, rfl, ?_⟩; have n0_ := Aside0.mk (blk_below (g := gb161) (o := .cells #[.string ((rd_T34 l0 x10_1).f0), .string ((rd_T34 l0 x10_1).f1)] 34 (0, 0)) (by (with_reducible repeat (first | refine blk_drewN ?_ _ | refine blk_drew ?_ | refine blk_alloc ?_ _)); refine blk_put (cs := #[.string ((rd_T34 l0 x10_1).f0), .string (⟨#[]⟩ : ByteArray)]) ?_ 1 _ rfl; (with_reducible repeat (first | refine blk_drewN ?_ _ | refine blk_drew ?_ | refine blk_alloc ?_ _)); refine blk_put (cs := #[.string (⟨#[]⟩ : ByteArray), .string (⟨#[]⟩ : ByteArray)]) ?_ 0 _ rfl; (with_reducible repeat (first | refine blk_drewN ?_ _ | refine blk_drew ?_ | refine blk_alloc ?_ _)); exact BK161.out) hb); have n1_ := Aside0.mk (below_step (by repeat (first | (with_reducible first | exact HB.out | apply below_alloc | apply pw_below_drewN | apply below_drew1 | refine below_set ?_ GE161.out) | exact HB.out)) hb); clear BK161; clear HB; have BK161 := n0_; have HB := n1_; clear n0_ n1_; (try clear hb); (try clear hb2); (try clear hk); (try clear hi)))
                go_ret
                exact ⟨by first | rfl | (simp [errW_none, errW_some] <;> rfl) | (simp [*, errW_none, errW_some] <;> rfl), by repeat (first | (with_reducible first | exact HB.out | apply below_alloc | apply pw_below_drewN | apply below_drew1 | refine below_set ?_ GE161.out) | exact HB.out)⟩
            · rw [if_neg c5] at H
              exact absurd H (by simp)
          · rw [if_neg c4] at H
            exact absurd H (by simp)
        · rw [if_neg c3] at H
          have c3b0 : decide (x10_1 < (l0.length : Int)) = false := decide_eq_false c3
          clear c3
          obtain rfl := Option.some.inj H
          go_wp2
          go_ret
          exact ⟨by first | rfl | (simp [errW_none, errW_some] <;> rfl) | (simp [*, errW_none, errW_some] <;> rfl), by repeat (first | (with_reducible first | exact HB.out | apply below_alloc | apply pw_below_drewN | apply below_drew1) | exact HB.out)⟩

/-! ### spec_IsKey: function 24 -/
def spec_IsKey.l0 : Nat → ByteArray → Int → Option (Bool)
  | 0, _, _ => none
  | k + 1, x0, x3 => if x3 < (x0.size : Int) then (if 0 ≤ x3 then (if (bt x0 x3) = 95 then (spec_IsKey.l0 k x0 (wrap64 (x3 + 1))) else (if (bt x0 x3) < 97 then (some false) else (if (bt x0 x3) > 122 then (some false) else (spec_IsKey.l0 k x0 (wrap64 (x3 + 1)))))) else (none)) else (some (x0.toList != ([] : List UInt8)))
def spec_IsKey.f (k : Nat) (a0 : ByteArray) : Option (Bool) := spec_IsKey.l0 k a0 0
theorem spec_IsKey.mono_l : ∀ k, (∀ y0 y1, LeO (spec_IsKey.l0 k y0 y1) (spec_IsKey.l0 (k + 1) y0 y1))
  | 0 => fun _ _ r h => by simp [spec_IsKey.l0] at h
  | k + 1 => by
    have ih0 := spec_IsKey.mono_l k
    · intro y0 y1
      unfold spec_IsKey.l0
      repeat' first
      | (with_reducible exact ih0 _ _)
      | (with_reducible exact LeO.refl _)
      | (with_reducible exact LeO.none _)
      | (with_reducible refine LeO.ite ?_ ?_)
      | (with_reducible refine LeO.bind ?_ (fun _ => ?_))
      | exact ih0 _ _
      | exact LeO.none _
      | refine LeO.ite ?_ ?_
      | refine LeO.bind ?_ (fun _ => ?_)
theorem spec_IsKey.mono : ∀ a0 k, LeO (spec_IsKey.f k a0) (spec_IsKey.f (k + 1) a0) := by
  intro a0 k
  have ih0 := spec_IsKey.mono_l k
  unfold spec_IsKey.f
  repeat' first
      | (with_reducible exact ih0 _ _)
      | (with_reducible exact LeO.refl _)
      | (with_reducible exact LeO.none _)
      | (with_reducible refine LeO.ite ?_ ?_)
      | (with_reducible refine LeO.bind ?_ (fun _ => ?_))
      | exact ih0 _ _
      | exact LeO.none _
      | refine LeO.ite ?_ ?_
      | refine LeO.bind ?_ (fun _ => ?_)
set_option maxHeartbeats 8000000 in
set_option maxRecDepth 100000 in
theorem spec_IsKey.calls (k : Nat) (a0 : ByteArray) (r : Bool) (w : World) (h : spec_IsKey.f k a0 = some r) :
    Calls Try.prog 24 #[.string a0] w fun e w' => e = .returned (.bool r) ∧ Drawn0 w w' := by
  have H : (spec_IsKey.l0 k a0 0) = some r := h
  clear h
  have H' := Aside0.mk H
  clear H
  go_enter Try.func24, Try.ntmps24
  go_wp2
  go_loopg [3] k (fun kq v3 w' => ∃ (x3_1 : Int), v3 = .int .i64 x3_1 ∧ Aside0 (spec_IsKey.l0 kq a0 x3_1 = some r) ∧ Aside0 (kq ≤ k) ∧ Drawn0 w w')
  case atStart => exact ⟨(0), (by first | rfl | (simp; done) | (simp [*]; done)), H', ⟨Nat.le_refl _⟩, by repeat (first | exact Drawn0.refl _ | apply Drawn0.step)⟩
  case round =>
    clear H'
    obtain ⟨x3_1, rfl, HA, HK1, ⟨m1, rfl⟩⟩ := hrel
    cases gk with
    | zero => exact absurd HA.out (by simp [spec_IsKey.l0])
    | succ k1 =>
      have H := HA.out
      clear HA
      simp only [spec_IsKey.l0] at H
      by_cases c2 : x3_1 < (a0.size : Int)
      · rw [if_pos c2] at H
        have c2b0 : decide (x3_1 < (a0.size : Int)) = true := decide_eq_true c2
        clear c2
        by_cases c3 : 0 ≤ x3_1
        · rw [if_pos c3] at H
          have c3b0 : decide (0 ≤ x3_1) = true := decide_eq_true c3
          clear c3
          by_cases c5 : (bt a0 x3_1) = 95
          · rw [if_pos c5] at H
            have c5b0 : ((bt a0 x3_1) == 95) = true := beq_iff_eq.mpr c5
            have c5b1 : ((bt a0 x3_1) != 95) = false := bne_eq_false_iff_eq.mpr c5
            clear c5
            have H' := Aside0.mk H
            clear H
            have p4 : 0 ≤ (x3_1 : Int) := of_decide_eq_true (by first | (with_reducible assumption) | assumption)
            have q4 : x3_1 < (a0.size : Int) := of_decide_eq_true (by first | (with_reducible assumption) | assumption)
            have hx4 := bt_at a0 x3_1
            replace p4 := eq_true p4
            replace q4 := eq_true q4
            go_wp2
            go_roundg k1
            case measure => have := HK1.out; omega
            case rel => exact ⟨(wrap64 (x3_1 + 1)), (by first | rfl | (simp; done) | (simp [*]; done)), H', ⟨by have := HK1.out; omega⟩, by repeat (first | exact Drawn0.refl _ | apply Drawn0.step)⟩
          · rw [if_neg c5] at H
            have c5b0 : ((bt a0 x3_1) == 95) = false := beq_eq_false_iff_ne.mpr c5
            have c5b1 : ((bt a0 x3_1) != 95) = true := bne_iff_ne.mpr c5
            by_cases c7 : (bt a0 x3_1) < 97
            · rw [if_pos c7] at H
              have c7b0 : decide ((bt a0 x3_1) < 97) = true := decide_eq_true c7
              clear c7
              obtain rfl := Option.some.inj H
              have p4 : 0 ≤ (x3_1 : Int) := of_decide_eq_true (by first | (with_reducible assumption) | assumption)
              have q4 : x3_1 < (a0.size : Int) := of_decide_eq_true (by first | (with_reducible assumption) | assumption)
              have hx4 := bt_at a0 x3_1
              replace p4 := eq_true p4
              replace q4 := eq_true q4
              have p6 : 0 ≤ (x3_1 : Int) := of_decide_eq_true (by first | (with_reducible assumption) | assumption)
              have q6 : x3_1 < (a0.size : Int) := of_decide_eq_true (by first | (with_reducible assumption) | assumption)
              have hx6 := bt_at a0 x3_1
              replace p6 := eq_true p6
              replace q6 := eq_true q6
              go_wp2
              go_ret
              exact ⟨by first | rfl | exact isEmpty_ne _ | (simp; done) | (simp [*]; done), by repeat (first | exact Drawn0.refl _ | apply Drawn0.step)⟩
            · rw [if_neg c7] at H
              have c7b0 : decide ((bt a0 x3_1) < 97) = false := decide_eq_false c7
              clear c7
              by_cases c9 : (bt a0 x3_1) > 122
              · rw [if_pos c9] at H
                have c9b0 : decide (122 < (bt a0 x3_1)) = true := decide_eq_true c9
                clear c9
                obtain rfl := Option.some.inj H
                have p4 : 0 ≤ (x3_1 : Int) := of_decide_eq_true (by first | (with_reducible assumption) | assumption)
                have q4 : x3_1 < (a0.size : Int) := of_decide_eq_true (by first | (with_reducible assumption) | assumption)
                have hx4 := bt_at a0 x3_1
                replace p4 := eq_true p4
                replace q4 := eq_true q4
                have p6 : 0 ≤ (x3_1 : Int) := of_decide_eq_true (by first | (with_reducible assumption) | assumption)
                have q6 : x3_1 < (a0.size : Int) := of_decide_eq_true (by first | (with_reducible assumption) | assumption)
                have hx6 := bt_at a0 x3_1
                replace p6 := eq_true p6
                replace q6 := eq_true q6
                have p8 : 0 ≤ (x3_1 : Int) := of_decide_eq_true (by first | (with_reducible assumption) | assumption)
                have q8 : x3_1 < (a0.size : Int) := of_decide_eq_true (by first | (with_reducible assumption) | assumption)
                have hx8 := bt_at a0 x3_1
                replace p8 := eq_true p8
                replace q8 := eq_true q8
                go_wp2
                go_ret
                exact ⟨by first | rfl | exact isEmpty_ne _ | (simp; done) | (simp [*]; done), by repeat (first | exact Drawn0.refl _ | apply Drawn0.step)⟩
              · rw [if_neg c9] at H
                have c9b0 : decide (122 < (bt a0 x3_1)) = false := decide_eq_false c9
                clear c9
                have H' := Aside0.mk H
                clear H
                have p4 : 0 ≤ (x3_1 : Int) := of_decide_eq_true (by first | (with_reducible assumption) | assumption)
                have q4 : x3_1 < (a0.size : Int) := of_decide_eq_true (by first | (with_reducible assumption) | assumption)
                have hx4 := bt_at a0 x3_1
                replace p4 := eq_true p4
                replace q4 := eq_true q4
                have p6 : 0 ≤ (x3_1 : Int) := of_decide_eq_true (by first | (with_reducible assumption) | assumption)
                have q6 : x3_1 < (a0.size : Int) := of_decide_eq_true (by first | (with_reducible assumption) | assumption)
                have hx6 := bt_at a0 x3_1
                replace p6 := eq_true p6
                replace q6 := eq_true q6
                have p8 : 0 ≤ (x3_1 : Int) := of_decide_eq_true (by first | (with_reducible assumption) | assumption)
                have q8 : x3_1 < (a0.size : Int) := of_decide_eq_true (by first | (with_reducible assumption) | assumption)
                have hx8 := bt_at a0 x3_1
                replace p8 := eq_true p8
                replace q8 := eq_true q8
                go_wp2
                go_roundg k1
                case measure => have := HK1.out; omega
                case rel => exact ⟨(wrap64 (x3_1 + 1)), (by first | rfl | (simp; done) | (simp [*]; done)), H', ⟨by have := HK1.out; omega⟩, by repeat (first | exact Drawn0.refl _ | apply Drawn0.step)⟩
        · rw [if_neg c3] at H
          exact absurd H (by simp)
      · rw [if_neg c2] at H
        have c2b0 : decide (x3_1 < (a0.size : Int)) = false := decide_eq_false c2
        clear c2
        obtain rfl := Option.some.inj H
        go_wp2
        go_ret
        exact ⟨by first | rfl | exact isEmpty_ne _ | (simp; done) | (simp [*]; done), by repeat (first | exact Drawn0.refl _ | apply Drawn0.step)⟩

/-! ### laws_settings9: function 14 -/
def laws_settings9.l0 : Nat → List (S34) → Int → Int → Option (Bool)
  | 0, _, _, _ => none
  | k + 1, x0, x3, x4 => if x4 < (x0.length : Int) then (if 0 ≤ x4 then ((spec_IsKey.f k ((rd_T34 x0 x4).f0)).bind fun t166 => (if t166 = true then ((laws_text9.f k ((rd_T34 x0 x4).f1)).bind fun t168 => (if t168 = true then ((laws_ascii9.f k ((rd_T34 x0 x4).f1)).bind fun t170 => (if t170 = true then (laws_settings9.l0 k x0 (wrap64 (x3 + (wrap64 ((((rd_T34 x0 x4).f0).size : Int) + (((rd_T34 x0 x4).f1).size : Int))))) (wrap64 (x4 + 1))) else (some false))) else (some false))) else (some false))) else (none)) else (if (x0.length : Int) ≤ 12 then (some (decide (x3 ≤ 400))) else (some false))
def laws_settings9.f (k : Nat) (l0 : List (S34)) : Option (Bool) := laws_settings9.l0 k l0 0 0
theorem laws_settings9.mono_l : ∀ k, (∀ y0 y1 y2, LeO (laws_settings9.l0 k y0 y1 y2) (laws_settings9.l0 (k + 1) y0 y1 y2))
  | 0 => fun _ _ _ r h => by simp [laws_settings9.l0] at h
  | k + 1 => by
    have ih0 := laws_settings9.mono_l k
    · intro y0 y1 y2
      unfold laws_settings9.l0
      repeat' first
      | (with_reducible exact ih0 _ _ _)
      | (with_reducible exact laws_ascii9.mono _ _)
      | (with_reducible exact laws_text9.mono _ _)
      | (with_reducible exact spec_IsKey.mono _ _)
      | (with_reducible exact LeO.refl _)
      | (with_reducible exact LeO.none _)
      | (with_reducible refine LeO.ite ?_ ?_)
      | (with_reducible refine LeO.bind ?_ (fun _ => ?_))
      | exact ih0 _ _ _
      | exact laws_ascii9.mono _ _
      | exact laws_text9.mono _ _
      | exact spec_IsKey.mono _ _
      | exact LeO.none _
      | refine LeO.ite ?_ ?_
      | refine LeO.bind ?_ (fun _ => ?_)
theorem laws_settings9.mono : ∀ a0 k, LeO (laws_settings9.f k a0) (laws_settings9.f (k + 1) a0) := by
  intro a0 k
  have ih0 := laws_settings9.mono_l k
  unfold laws_settings9.f
  repeat' first
      | (with_reducible exact ih0 _ _ _)
      | (with_reducible exact laws_ascii9.mono _ _)
      | (with_reducible exact laws_text9.mono _ _)
      | (with_reducible exact spec_IsKey.mono _ _)
      | (with_reducible exact LeO.refl _)
      | (with_reducible exact LeO.none _)
      | (with_reducible refine LeO.ite ?_ ?_)
      | (with_reducible refine LeO.bind ?_ (fun _ => ?_))
      | exact ih0 _ _ _
      | exact laws_ascii9.mono _ _
      | exact laws_text9.mono _ _
      | exact spec_IsKey.mono _ _
      | exact LeO.none _
      | refine LeO.ite ?_ ?_
      | refine LeO.bind ?_ (fun _ => ?_)
set_option maxHeartbeats 8000000 in
set_option maxRecDepth 100000 in
theorem laws_settings9.calls (k : Nat) (A0 : Option Addr) (c0 : Nat) (l0 : List (S34)) (r : Bool) (w : World) (hr0 : Kd.C k34 w A0 l0.length l0) (hc0 : l0.length ≤ c0) (h : laws_settings9.f k l0 = some r) :
    Calls Try.prog 14 #[.slice A0 l0.length c0] w fun e w' => e = .returned (.bool r) ∧ Drawn0 w w' := by
  have HR0 := Aside0.mk hr0
  have HC0 := Aside0.mk hc0
  clear hr0 hc0
  have H : (laws_settings9.l0 k l0 0 0) = some r := h
  clear h
  have H' := Aside0.mk H
  clear H
  go_enter Try.func14, Try.ntmps14
  go_wp2
  repeat (go_quiet (fail); try go_wp2)
  go_loopg [3, 4] k (fun kq v3 v4 w' => ∃ (x3_1 : Int) (x4_1 : Int), v3 = .int .i64 x3_1 ∧ v4 = .int .i64 x4_1 ∧ Aside0 (laws_settings9.l0 kq l0 x3_1 x4_1 = some r) ∧ Aside0 (kq ≤ k) ∧ Drawn0 w w')
  case atStart => exact ⟨(0), (0), (by first | rfl | (simp; done) | (simp [*]; done)), (by first | rfl | (simp; done) | (simp [*]; done)), H', ⟨Nat.le_refl _⟩, by repeat (first | exact Drawn0.refl _ | apply Drawn0.step)⟩
  case round =>
    clear H'
    try clear c1
    obtain ⟨x3_1, x4_1, rfl, rfl, HA, HK1, ⟨m1, rfl⟩⟩ := hrel
    cases gk with
    | zero => exact absurd HA.out (by simp [laws_settings9.l0])
    | succ k1 =>
      have H := HA.out
      clear HA
      simp only [laws_settings9.l0] at H
      by_cases c2 : x4_1 < (l0.length : Int)
      · rw [if_pos c2] at H
        have c2b0 : decide (x4_1 < (l0.length : Int)) = true := decide_eq_true c2
        clear c2
        by_cases c3 : 0 ≤ x4_1
        · rw [if_pos c3] at H
          have c3b0 : decide (0 ≤ x4_1) = true := decide_eq_true c3
          clear c3
          replace H := Option.bind_eq_some_iff.mp H
          obtain ⟨t166, A40, H⟩ := H
          replace H : (if t166 = true then ((laws_text9.f k1 ((rd_T34 l0 x4_1).f1)).bind fun t168 => (if t168 = true then ((laws_ascii9.f k1 ((rd_T34 l0 x4_1).f1)).bind fun t170 => (if t170 = true then (laws_settings9.l0 k1 l0 (wrap64 (x3_1 + (wrap64 ((((rd_T34 l0 x4_1).f0).size : Int) + (((rd_T34 l0 x4_1).f1).size : Int))))) (wrap64 (x4_1 + 1))) else (some false))) else (some false))) else (some false)) = some r := H
          have A4 := Aside0.mk A40
          clear A40
          by_cases c5 : t166 = true
          · subst c5
            have H1 : ((laws_text9.f k1 ((rd_T34 l0 x4_1).f1)).bind fun t168 => (if t168 = true then ((laws_ascii9.f k1 ((rd_T34 l0 x4_1).f1)).bind fun t170 => (if t170 = true then (laws_settings9.l0 k1 l0 (wrap64 (x3_1 + (wrap64 ((((rd_T34 l0 x4_1).f0).size : Int) + (((rd_T34 l0 x4_1).f1).size : Int))))) (wrap64 (x4_1 + 1))) else (some false))) else (some false))) = some r := by rw [if_pos rfl] at H; exact H
            clear H
            have H := H1
            clear H1
            replace H := Option.bind_eq_some_iff.mp H
            obtain ⟨t168, A60, H⟩ := H
            replace H : (if t168 = true then ((laws_ascii9.f k1 ((rd_T34 l0 x4_1).f1)).bind fun t170 => (if t170 = true then (laws_settings9.l0 k1 l0 (wrap64 (x3_1 + (wrap64 ((((rd_T34 l0 x4_1).f0).size : Int) + (((rd_T34 l0 x4_1).f1).size : Int))))) (wrap64 (x4_1 + 1))) else (some false))) else (some false)) = some r := H
            have A6 := Aside0.mk A60
            clear A60
            by_cases c7 : t168 = true
            · subst c7
              have H1 : ((laws_ascii9.f k1 ((rd_T34 l0 x4_1).f1)).bind fun t170 => (if t170 = true then (laws_settings9.l0 k1 l0 (wrap64 (x3_1 + (wrap64 ((((rd_T34 l0 x4_1).f0).size : Int) + (((rd_T34 l0 x4_1).f1).size : Int))))) (wrap64 (x4_1 + 1))) else (some false))) = some r := by rw [if_pos rfl] at H; exact H
              clear H
              have H := H1
              clear H1
              replace H := Option.bind_eq_some_iff.mp H
              obtain ⟨t170, A80, H⟩ := H
              replace H : (if t170 = true then (laws_settings9.l0 k1 l0 (wrap64 (x3_1 + (wrap64 ((((rd_T34 l0 x4_1).f0).size : Int) + (((rd_T34 l0 x4_1).f1).size : Int))))) (wrap64 (x4_1 + 1))) else (some false)) = some r := H
              have A8 := Aside0.mk A80
              clear A80
              by_cases c9 : t170 = true
              · subst c9
                have H1 : (laws_settings9.l0 k1 l0 (wrap64 (x3_1 + (wrap64 ((((rd_T34 l0 x4_1).f0).size : Int) + (((rd_T34 l0 x4_1).f1).size : Int))))) (wrap64 (x4_1 + 1))) = some r := by rw [if_pos rfl] at H; exact H
                clear H
                have H := H1
                clear H1
                have H' := Aside0.mk H
                clear H
                have p163 : 0 ≤ (x4_1 : Int) := of_decide_eq_true (by first | (with_reducible assumption) | assumption)
                have q163 : x4_1 < (l0.length : Int) := of_decide_eq_true (by first | (with_reducible assumption) | assumption)
                obtain ⟨ad163, e163, hx163_0, hx163_1⟩ := at_T34 HR0.out x4_1 p163 q163
                cases e163
                replace p163 := eq_true p163
                replace q163 := eq_true q163
                have p164 : 0 ≤ (x4_1 : Int) := of_decide_eq_true (by first | (with_reducible assumption) | assumption)
                have q164 : x4_1 < (l0.length : Int) := of_decide_eq_true (by first | (with_reducible assumption) | assumption)
                obtain ⟨ad164, e164, hx164_0, hx164_1⟩ := at_T34 HR0.out x4_1 p164 q164
                obtain rfl : ad163 = ad164 := (by injection e164)
                replace p164 := eq_true p164
                replace q164 := eq_true q164
                have p165 : 0 ≤ (x4_1 : Int) := of_decide_eq_true (by first | (with_reducible assumption) | assumption)
                have q165 : x4_1 < (l0.length : Int) := of_decide_eq_true (by first | (with_reducible assumption) | assumption)
                obtain ⟨ad165, e165, hx165_0, hx165_1⟩ := at_T34 HR0.out x4_1 p165 q165
                obtain rfl : ad163 = ad165 := (by injection e165)
                replace p165 := eq_true p165
                replace q165 := eq_true q165
                go_wp2_with (first | (go_at_call 24; (with_reducible refine (spec_IsKey.calls k1 ((rd_T34 l0 x4_1).f0) true _ A4.out).mono ?_); rintro e w' ⟨rfl, ⟨nd, rfl⟩⟩; (try first | exact ⟨rfl, _, World.drewN_drewN _ _ _⟩ | exact ⟨rfl, _, Eq.trans (World.drewN_drewN _ _ _) (congrArg (World.drewN _) (Nat.add_assoc _ _ _))⟩); have p167 : 0 ≤ (x4_1 : Int) := of_decide_eq_true (by first | (with_reducible assumption) | assumption); have q167 : x4_1 < (l0.length : Int) := of_decide_eq_true (by first | (with_reducible assumption) | assumption); obtain ⟨ad167, e167, hx167_0, hx167_1⟩ := at_T34 HR0.out x4_1 p167 q167; obtain rfl : ad163 = ad167 := (by injection e167); replace p167 := eq_true p167; replace q167 := eq_true q167) | (go_at_call 6; (with_reducible refine (laws_text9.calls k1 ((rd_T34 l0 x4_1).f1) true _ A6.out).mono ?_); rintro e w' ⟨rfl, ⟨nd, rfl⟩⟩; (try first | exact ⟨rfl, _, World.drewN_drewN _ _ _⟩ | exact ⟨rfl, _, Eq.trans (World.drewN_drewN _ _ _) (congrArg (World.drewN _) (Nat.add_assoc _ _ _))⟩); have p169 : 0 ≤ (x4_1 : Int) := of_decide_eq_true (by first | (with_reducible assumption) | assumption); have q169 : x4_1 < (l0.length : Int) := of_decide_eq_true (by first | (with_reducible assumption) | assumption); obtain ⟨ad169, e169, hx169_0, hx169_1⟩ := at_T34 HR0.out x4_1 p169 q169; obtain rfl : ad163 = ad169 := (by injection e169); replace p169 := eq_true p169; replace q169 := eq_true q169) | (go_at_call 7; (with_reducible refine (laws_ascii9.calls k1 ((rd_T34 l0 x4_1).f1) true _ A8.out).mono ?_); rintro e w' ⟨rfl, ⟨nd, rfl⟩⟩; (try first | exact ⟨rfl, _, World.drewN_drewN _ _ _⟩ | exact ⟨rfl, _, Eq.trans (World.drewN_drewN _ _ _) (congrArg (World.drewN _) (Nat.add_assoc _ _ _))⟩)))
                repeat (go_quiet (first | (go_at_call 24; (with_reducible refine (spec_IsKey.calls k1 ((rd_T34 l0 x4_1).f0) true _ A4.out).mono ?_); rintro e w' ⟨rfl, ⟨nd, rfl⟩⟩; (try first | exact ⟨rfl, _, World.drewN_drewN _ _ _⟩ | exact ⟨rfl, _, Eq.trans (World.drewN_drewN _ _ _) (congrArg (World.drewN _) (Nat.add_assoc _ _ _))⟩); have p167 : 0 ≤ (x4_1 : Int) := of_decide_eq_true (by first | (with_reducible assumption) | assumption); have q167 : x4_1 < (l0.length : Int) := of_decide_eq_true (by first | (with_reducible assumption) | assumption); obtain ⟨ad167, e167, hx167_0, hx167_1⟩ := at_T34 HR0.out x4_1 p167 q167; obtain rfl : ad163 = ad167 := (by injection e167); replace p167 := eq_true p167; replace q167 := eq_true q167) | (go_at_call 6; (with_reducible refine (laws_text9.calls k1 ((rd_T34 l0 x4_1).f1) true _ A6.out).mono ?_); rintro e w' ⟨rfl, ⟨nd, rfl⟩⟩; (try first | exact ⟨rfl, _, World.drewN_drewN _ _ _⟩ | exact ⟨rfl, _, Eq.trans (World.drewN_drewN _ _ _) (congrArg (World.drewN _) (Nat.add_assoc _ _ _))⟩); have p169 : 0 ≤ (x4_1 : Int) := of_decide_eq_true (by first | (with_reducible assumption) | assumption); have q169 : x4_1 < (l0.length : Int) := of_decide_eq_true (by first | (with_reducible assumption) | assumption); obtain ⟨ad169, e169, hx169_0, hx169_1⟩ := at_T34 HR0.out x4_1 p169 q169; obtain rfl : ad163 = ad169 := (by injection e169); replace p169 := eq_true p169; replace q169 := eq_true q169) | (go_at_call 7; (with_reducible refine (laws_ascii9.calls k1 ((rd_T34 l0 x4_1).f1) true _ A8.out).mono ?_); rintro e w' ⟨rfl, ⟨nd, rfl⟩⟩; (try first | exact ⟨rfl, _, World.drewN_drewN _ _ _⟩ | exact ⟨rfl, _, Eq.trans (World.drewN_drewN _ _ _) (congrArg (World.drewN _) (Nat.add_assoc _ _ _))⟩))); try go_wp2_with (first | (go_at_call 24; (with_reducible refine (spec_IsKey.calls k1 ((rd_T34 l0 x4_1).f0) true _ A4.out).mono ?_); rintro e w' ⟨rfl, ⟨nd, rfl⟩⟩; (try first | exact ⟨rfl, _, World.drewN_drewN _ _ _⟩ | exact ⟨rfl, _, Eq.trans (World.drewN_drewN _ _ _) (congrArg (World.drewN _) (Nat.add_assoc _ _ _))⟩); have p167 : 0 ≤ (x4_1 : Int) := of_decide_eq_true (by first | (with_reducible assumption) | assumption); have q167 : x4_1 < (l0.length : Int) := of_decide_eq_true (by first | (with_reducible assumption) | assumption); obtain ⟨ad167, e167, hx167_0, hx167_1⟩ := at_T34 HR0.out x4_1 p167 q167; obtain rfl : ad163 = ad167 := (by injection e167); replace p167 := eq_true p167; replace q167 := eq_true q167) | (go_at_call 6; (with_reducible refine (laws_text9.calls k1 ((rd_T34 l0 x4_1).f1) true _ A6.out).mono ?_); rintro e w' ⟨rfl, ⟨nd, rfl⟩⟩; (try first | exact ⟨rfl, _, World.drewN_drewN _ _ _⟩ | exact ⟨rfl, _, Eq.trans (World.drewN_drewN _ _ _) (congrArg (World.drewN _) (Nat.add_assoc _ _ _))⟩); have p169 : 0 ≤ (x4_1 : Int) := of_decide_eq_true (by first | (with_reducible assumption) | assumption); have q169 : x4_1 < (l0.length : Int) := of_decide_eq_true (by first | (with_reducible assumption) | assumption); obtain ⟨ad169, e169, hx169_0, hx169_1⟩ := at_T34 HR0.out x4_1 p169 q169; obtain rfl : ad163 = ad169 := (by injection e169); replace p169 := eq_true p169; replace q169 := eq_true q169) | (go_at_call 7; (with_reducible refine (laws_ascii9.calls k1 ((rd_T34 l0 x4_1).f1) true _ A8.out).mono ?_); rintro e w' ⟨rfl, ⟨nd, rfl⟩⟩; (try first | exact ⟨rfl, _, World.drewN_drewN _ _ _⟩ | exact ⟨rfl, _, Eq.trans (World.drewN_drewN _ _ _) (congrArg (World.drewN _) (Nat.add_assoc _ _ _))⟩))))
                go_roundg k1
                case measure => have := HK1.out; omega
                case rel => exact ⟨(wrap64 (x3_1 + (wrap64 ((((rd_T34 l0 x4_1).f0).size : Int) + (((rd_T34 l0 x4_1).f1).size : Int))))), (wrap64 (x4_1 + 1)), (by first | rfl | (simp; done) | (simp [*]; done)), (by first | rfl | (simp; done) | (simp [*]; done)), H', ⟨by have := HK1.out; omega⟩, by repeat (first | exact Drawn0.refl _ | apply Drawn0.step)⟩
              · replace c9 := Bool.eq_false_iff.mpr c9
                subst c9
                have H1 : (some false) = some r := by rw [if_neg (show ¬ (false = true) by decide)] at H; exact H
                clear H
                have H := H1
                clear H1
                obtain rfl := Option.some.inj H
                have p163 : 0 ≤ (x4_1 : Int) := of_decide_eq_true (by first | (with_reducible assumption) | assumption)
                have q163 : x4_1 < (l0.length : Int) := of_decide_eq_true (by first | (with_reducible assumption) | assumption)
                obtain ⟨ad163, e163, hx163_0, hx163_1⟩ := at_T34 HR0.out x4_1 p163 q163
                cases e163
                replace p163 := eq_true p163
                replace q163 := eq_true q163
                have p164 : 0 ≤ (x4_1 : Int) := of_decide_eq_true (by first | (with_reducible assumption) | assumption)
                have q164 : x4_1 < (l0.length : Int) := of_decide_eq_true (by first | (with_reducible assumption) | assumption)
                obtain ⟨ad164, e164, hx164_0, hx164_1⟩ := at_T34 HR0.out x4_1 p164 q164
                obtain rfl : ad163 = ad164 := (by injection e164)
                replace p164 := eq_true p164
                replace q164 := eq_true q164
                have p165 : 0 ≤ (x4_1 : Int) := of_decide_eq_true (by first | (with_reducible assumption) | assumption)
                have q165 : x4_1 < (l0.length : Int) := of_decide_eq_true (by first | (with_reducible assumption) | assumption)
                obtain ⟨ad165, e165, hx165_0, hx165_1⟩ := at_T34 HR0.out x4_1 p165 q165
                obtain rfl : ad163 = ad165 := (by injection e165)
                replace p165 := eq_true p165
                replace q165 := eq_true q165
                go_wp2_with (first | (go_at_call 24; (with_reducible refine (spec_IsKey.calls k1 ((rd_T34 l0 x4_1).f0) true _ A4.out).mono ?_); rintro e w' ⟨rfl, ⟨nd, rfl⟩⟩; (try first | exact ⟨rfl, _, World.drewN_drewN _ _ _⟩ | exact ⟨rfl, _, Eq.trans (World.drewN_drewN _ _ _) (congrArg (World.drewN _) (Nat.add_assoc _ _ _))⟩); have p167 : 0 ≤ (x4_1 : Int) := of_decide_eq_true (by first | (with_reducible assumption) | assumption); have q167 : x4_1 < (l0.length : Int) := of_decide_eq_true (by first | (with_reducible assumption) | assumption); obtain ⟨ad167, e167, hx167_0, hx167_1⟩ := at_T34 HR0.out x4_1 p167 q167; obtain rfl : ad163 = ad167 := (by injection e167); replace p167 := eq_true p167; replace q167 := eq_true q167) | (go_at_call 6; (with_reducible refine (laws_text9.calls k1 ((rd_T34 l0 x4_1).f1) true _ A6.out).mono ?_); rintro e w' ⟨rfl, ⟨nd, rfl⟩⟩; (try first | exact ⟨rfl, _, World.drewN_drewN _ _ _⟩ | exact ⟨rfl, _, Eq.trans (World.drewN_drewN _ _ _) (congrArg (World.drewN _) (Nat.add_assoc _ _ _))⟩); have p169 : 0 ≤ (x4_1 : Int) := of_decide_eq_true (by first | (with_reducible assumption) | assumption); have q169 : x4_1 < (l0.length : Int) := of_decide_eq_true (by first | (with_reducible assumption) | assumption); obtain ⟨ad169, e169, hx169_0, hx169_1⟩ := at_T34 HR0.out x4_1 p169 q169; obtain rfl : ad163 = ad169 := (by injection e169); replace p169 := eq_true p169; replace q169 := eq_true q169) | (go_at_call 7; (with_reducible refine (laws_ascii9.calls k1 ((rd_T34 l0 x4_1).f1) false _ A8.out).mono ?_); rintro e w' ⟨rfl, ⟨nd, rfl⟩⟩; (try first | exact ⟨rfl, _, World.drewN_drewN _ _ _⟩ | exact ⟨rfl, _, Eq.trans (World.drewN_drewN _ _ _) (congrArg (World.drewN _) (Nat.add_assoc _ _ _))⟩)))
                repeat (go_quiet (first | (go_at_call 24; (with_reducible refine (spec_IsKey.calls k1 ((rd_T34 l0 x4_1).f0) true _ A4.out).mono ?_); rintro e w' ⟨rfl, ⟨nd, rfl⟩⟩; (try first | exact ⟨rfl, _, World.drewN_drewN _ _ _⟩ | exact ⟨rfl, _, Eq.trans (World.drewN_drewN _ _ _) (congrArg (World.drewN _) (Nat.add_assoc _ _ _))⟩); have p167 : 0 ≤ (x4_1 : Int) := of_decide_eq_true (by first | (with_reducible assumption) | assumption); have q167 : x4_1 < (l0.length : Int) := of_decide_eq_true (by first | (with_reducible assumption) | assumption); obtain ⟨ad167, e167, hx167_0, hx167_1⟩ := at_T34 HR0.out x4_1 p167 q167; obtain rfl : ad163 = ad167 := (by injection e167); replace p167 := eq_true p167; replace q167 := eq_true q167) | (go_at_call 6; (with_reducible refine (laws_text9.calls k1 ((rd_T34 l0 x4_1).f1) true _ A6.out).mono ?_); rintro e w' ⟨rfl, ⟨nd, rfl⟩⟩; (try first | exact ⟨rfl, _, World.drewN_drewN _ _ _⟩ | exact ⟨rfl, _, Eq.trans (World.drewN_drewN _ _ _) (congrArg (World.drewN _) (Nat.add_assoc _ _ _))⟩); have p169 : 0 ≤ (x4_1 : Int) := of_decide_eq_true (by first | (with_reducible assumption) | assumption); have q169 : x4_1 < (l0.length : Int) := of_decide_eq_true (by first | (with_reducible assumption) | assumption); obtain ⟨ad169, e169, hx169_0, hx169_1⟩ := at_T34 HR0.out x4_1 p169 q169; obtain rfl : ad163 = ad169 := (by injection e169); replace p169 := eq_true p169; replace q169 := eq_true q169) | (go_at_call 7; (with_reducible refine (laws_ascii9.calls k1 ((rd_T34 l0 x4_1).f1) false _ A8.out).mono ?_); rintro e w' ⟨rfl, ⟨nd, rfl⟩⟩; (try first | exact ⟨rfl, _, World.drewN_drewN _ _ _⟩ | exact ⟨rfl, _, Eq.trans (World.drewN_drewN _ _ _) (congrArg (World.drewN _) (Nat.add_assoc _ _ _))⟩))); try go_wp2_with (first | (go_at_call 24; (with_reducible refine (spec_IsKey.calls k1 ((rd_T34 l0 x4_1).f0) true _ A4.out).mono ?_); rintro e w' ⟨rfl, ⟨nd, rfl⟩⟩; (try first | exact ⟨rfl, _, World.drewN_drewN _ _ _⟩ | exact ⟨rfl, _, Eq.trans (World.drewN_drewN _ _ _) (congrArg (World.drewN _) (Nat.add_assoc _ _ _))⟩); have p167 : 0 ≤ (x4_1 : Int) := of_decide_eq_true (by first | (with_reducible assumption) | assumption); have q167 : x4_1 < (l0.length : Int) := of_decide_eq_true (by first | (with_reducible assumption) | assumption); obtain ⟨ad167, e167, hx167_0, hx167_1⟩ := at_T34 HR0.out x4_1 p167 q167; obtain rfl : ad163 = ad167 := (by injection e167); replace p167 := eq_true p167; replace q167 := eq_true q167) | (go_at_call 6; (with_reducible refine (laws_text9.calls k1 ((rd_T34 l0 x4_1).f1) true _ A6.out).mono ?_); rintro e w' ⟨rfl, ⟨nd, rfl⟩⟩; (try first | exact ⟨rfl, _, World.drewN_drewN _ _ _⟩ | exact ⟨rfl, _, Eq.trans (World.drewN_drewN _ _ _) (congrArg (World.drewN _) (Nat.add_assoc _ _ _))⟩); have p169 : 0 ≤ (x4_1 : Int) := of_decide_eq_true (by first | (with_reducible assumption) | assumption); have q169 : x4_1 < (l0.length : Int) := of_decide_eq_true (by first | (with_reducible assumption) | assumption); obtain ⟨ad169, e169, hx169_0, hx169_1⟩ := at_T34 HR0.out x4_1 p169 q169; obtain rfl : ad163 = ad169 := (by injection e169); replace p169 := eq_true p169; replace q169 := eq_true q169) | (go_at_call 7; (with_reducible refine (laws_ascii9.calls k1 ((rd_T34 l0 x4_1).f1) false _ A8.out).mono ?_); rintro e w' ⟨rfl, ⟨nd, rfl⟩⟩; (try first | exact ⟨rfl, _, World.drewN_drewN _ _ _⟩ | exact ⟨rfl, _, Eq.trans (World.drewN_drewN _ _ _) (congrArg (World.drewN _) (Nat.add_assoc _ _ _))⟩))))
                go_ret
                exact ⟨by first | rfl | (simp; done) | (simp [*]; done), by repeat (first | exact Drawn0.refl _ | apply Drawn0.step)⟩
            · replace c7 := Bool.eq_false_iff.mpr c7
              subst c7
              have H1 : (some false) = some r := by rw [if_neg (show ¬ (false = true) by decide)] at H; exact H
              clear H
              have H := H1
              clear H1
              obtain rfl := Option.some.inj H
              have p163 : 0 ≤ (x4_1 : Int) := of_decide_eq_true (by first | (with_reducible assumption) | assumption)
              have q163 : x4_1 < (l0.length : Int) := of_decide_eq_true (by first | (with_reducible assumption) | assumption)
              obtain ⟨ad163, e163, hx163_0, hx163_1⟩ := at_T34 HR0.out x4_1 p163 q163
              cases e163
              replace p163 := eq_true p163
              replace q163 := eq_true q163
              have p164 : 0 ≤ (x4_1 : Int) := of_decide_eq_true (by first | (with_reducible assumption) | assumption)
              have q164 : x4_1 < (l0.length : Int) := of_decide_eq_true (by first | (with_reducible assumption) | assumption)
              obtain ⟨ad164, e164, hx164_0, hx164_1⟩ := at_T34 HR0.out x4_1 p164 q164
              obtain rfl : ad163 = ad164 := (by injection e164)
              replace p164 := eq_true p164
              replace q164 := eq_true q164
              have p165 : 0 ≤ (x4_1 : Int) := of_decide_eq_true (by first | (with_reducible assumption) | assumption)
              have q165 : x4_1 < (l0.length : Int) := of_decide_eq_true (by first | (with_reducible assumption) | assumption)
              obtain ⟨ad165, e165, hx165_0, hx165_1⟩ := at_T34 HR0.out x4_1 p165 q165
              obtain rfl : ad163 = ad165 := (by injection e165)
              replace p165 := eq_true p165
              replace q165 := eq_true q165
              go_wp2_with (first | (go_at_call 24; (with_reducible refine (spec_IsKey.calls k1 ((rd_T34 l0 x4_1).f0) true _ A4.out).mono ?_); rintro e w' ⟨rfl, ⟨nd, rfl⟩⟩; (try first | exact ⟨rfl, _, World.drewN_drewN _ _ _⟩ | exact ⟨rfl, _, Eq.trans (World.drewN_drewN _ _ _) (congrArg (World.drewN _) (Nat.add_assoc _ _ _))⟩); have p167 : 0 ≤ (x4_1 : Int) := of_decide_eq_true (by first | (with_reducible assumption) | assumption); have q167 : x4_1 < (l0.length : Int) := of_decide_eq_true (by first | (with_reducible assumption) | assumption); obtain ⟨ad167, e167, hx167_0, hx167_1⟩ := at_T34 HR0.out x4_1 p167 q167; obtain rfl : ad163 = ad167 := (by injection e167); replace p167 := eq_true p167; replace q167 := eq_true q167) | (go_at_call 6; (with_reducible refine (laws_text9.calls k1 ((rd_T34 l0 x4_1).f1) false _ A6.out).mono ?_); rintro e w' ⟨rfl, ⟨nd, rfl⟩⟩; (try first | exact ⟨rfl, _, World.drewN_drewN _ _ _⟩ | exact ⟨rfl, _, Eq.trans (World.drewN_drewN _ _ _) (congrArg (World.drewN _) (Nat.add_assoc _ _ _))⟩)))
              repeat (go_quiet (first | (go_at_call 24; (with_reducible refine (spec_IsKey.calls k1 ((rd_T34 l0 x4_1).f0) true _ A4.out).mono ?_); rintro e w' ⟨rfl, ⟨nd, rfl⟩⟩; (try first | exact ⟨rfl, _, World.drewN_drewN _ _ _⟩ | exact ⟨rfl, _, Eq.trans (World.drewN_drewN _ _ _) (congrArg (World.drewN _) (Nat.add_assoc _ _ _))⟩); have p167 : 0 ≤ (x4_1 : Int) := of_decide_eq_true (by first | (with_reducible assumption) | assumption); have q167 : x4_1 < (l0.length : Int) := of_decide_eq_true (by first | (with_reducible assumption) | assumption); obtain ⟨ad167, e167, hx167_0, hx167_1⟩ := at_T34 HR0.out x4_1 p167 q167; obtain rfl : ad163 = ad167 := (by injection e167); replace p167 := eq_true p167; replace q167 := eq_true q167) | (go_at_call 6; (with_reducible refine (laws_text9.calls k1 ((rd_T34 l0 x4_1).f1) false _ A6.out).mono ?_); rintro e w' ⟨rfl, ⟨nd, rfl⟩⟩; (try first | exact ⟨rfl, _, World.drewN_drewN _ _ _⟩ | exact ⟨rfl, _, Eq.trans (World.drewN_drewN _ _ _) (congrArg (World.drewN _) (Nat.add_assoc _ _ _))⟩))); try go_wp2_with (first | (go_at_call 24; (with_reducible refine (spec_IsKey.calls k1 ((rd_T34 l0 x4_1).f0) true _ A4.out).mono ?_); rintro e w' ⟨rfl, ⟨nd, rfl⟩⟩; (try first | exact ⟨rfl, _, World.drewN_drewN _ _ _⟩ | exact ⟨rfl, _, Eq.trans (World.drewN_drewN _ _ _) (congrArg (World.drewN _) (Nat.add_assoc _ _ _))⟩); have p167 : 0 ≤ (x4_1 : Int) := of_decide_eq_true (by first | (with_reducible assumption) | assumption); have q167 : x4_1 < (l0.length : Int) := of_decide_eq_true (by first | (with_reducible assumption) | assumption); obtain ⟨ad167, e167, hx167_0, hx167_1⟩ := at_T34 HR0.out x4_1 p167 q167; obtain rfl : ad163 = ad167 := (by injection e167); replace p167 := eq_true p167; replace q167 := eq_true q167) | (go_at_call 6; (with_reducible refine (laws_text9.calls k1 ((rd_T34 l0 x4_1).f1) false _ A6.out).mono ?_); rintro e w' ⟨rfl, ⟨nd, rfl⟩⟩; (try first | exact ⟨rfl, _, World.drewN_drewN _ _ _⟩ | exact ⟨rfl, _, Eq.trans (World.drewN_drewN _ _ _) (congrArg (World.drewN _) (Nat.add_assoc _ _ _))⟩))))
              go_ret
              exact ⟨by first | rfl | (simp; done) | (simp [*]; done), by repeat (first | exact Drawn0.refl _ | apply Drawn0.step)⟩
          · replace c5 := Bool.eq_false_iff.mpr c5
            subst c5
            have H1 : (some false) = some r := by rw [if_neg (show ¬ (false = true) by decide)] at H; exact H
            clear H
            have H := H1
            clear H1
            obtain rfl := Option.some.inj H
            have p163 : 0 ≤ (x4_1 : Int) := of_decide_eq_true (by first | (with_reducible assumption) | assumption)
            have q163 : x4_1 < (l0.length : Int) := of_decide_eq_true (by first | (with_reducible assumption) | assumption)
            obtain ⟨ad163, e163, hx163_0, hx163_1⟩ := at_T34 HR0.out x4_1 p163 q163
            cases e163
            replace p163 := eq_true p163
            replace q163 := eq_true q163
            have p164 : 0 ≤ (x4_1 : Int) := of_decide_eq_true (by first | (with_reducible assumption) | assumption)
            have q164 : x4_1 < (l0.length : Int) := of_decide_eq_true (by first | (with_reducible assumption) | assumption)
            obtain ⟨ad164, e164, hx164_0, hx164_1⟩ := at_T34 HR0.out x4_1 p164 q164
            obtain rfl : ad163 = ad164 := (by injection e164)
            replace p164 := eq_true p164
            replace q164 := eq_true q164
            have p165 : 0 ≤ (x4_1 : Int) := of_decide_eq_true (by first | (with_reducible assumption) | assumption)
            have q165 : x4_1 < (l0.length : Int) := of_decide_eq_true (by first | (with_reducible assumption) | assumption)
            obtain ⟨ad165, e165, hx165_0, hx165_1⟩ := at_T34 HR0.out x4_1 p165 q165
            obtain rfl : ad163 = ad165 := (by injection e165)
            replace p165 := eq_true p165
            replace q165 := eq_true q165
            go_wp2_with (first | (go_at_call 24; (with_reducible refine (spec_IsKey.calls k1 ((rd_T34 l0 x4_1).f0) false _ A4.out).mono ?_); rintro e w' ⟨rfl, ⟨nd, rfl⟩⟩; (try first | exact ⟨rfl, _, World.drewN_drewN _ _ _⟩ | exact ⟨rfl, _, Eq.trans (World.drewN_drewN _ _ _) (congrArg (World.drewN _) (Nat.add_assoc _ _ _))⟩)))
            repeat (go_quiet (first | (go_at_call 24; (with_reducible refine (spec_IsKey.calls k1 ((rd_T34 l0 x4_1).f0) false _ A4.out).mono ?_); rintro e w' ⟨rfl, ⟨nd, rfl⟩⟩; (try first | exact ⟨rfl, _, World.drewN_drewN _ _ _⟩ | exact ⟨rfl, _, Eq.trans (World.drewN_drewN _ _ _) (congrArg (World.drewN _) (Nat.add_assoc _ _ _))⟩))); try go_wp2_with (first | (go_at_call 24; (with_reducible refine (spec_IsKey.calls k1 ((rd_T34 l0 x4_1).f0) false _ A4.out).mono ?_); rintro e w' ⟨rfl, ⟨nd, rfl⟩⟩; (try first | exact ⟨rfl, _, World.drewN_drewN _ _ _⟩ | exact ⟨rfl, _, Eq.trans (World.drewN_drewN _ _ _) (congrArg (World.drewN _) (Nat.add_assoc _ _ _))⟩))))
            go_ret
            exact ⟨by first | rfl | (simp; done) | (simp [*]; done), by repeat (first | exact Drawn0.refl _ | apply Drawn0.step)⟩
        · rw [if_neg c3] at H
          exact absurd H (by simp)
      · rw [if_neg c2] at H
        have c2b0 : decide (x4_1 < (l0.length : Int)) = false := decide_eq_false c2
        clear c2
        by_cases c10 : (l0.length : Int) ≤ 12
        · rw [if_pos c10] at H
          have c10b0 : decide ((l0.length : Int) ≤ 12) = true := decide_eq_true c10
          have c10b1 : decide (l0.length ≤ 12) = true := decide_eq_true (by omega)
          clear c10
          obtain rfl := Option.some.inj H
          go_wp2
          repeat (go_quiet (fail); try go_wp2)
          go_ret
          exact ⟨by first | rfl | (simp; done) | (simp [*]; done), by repeat (first | exact Drawn0.refl _ | apply Drawn0.step)⟩
        · rw [if_neg c10] at H
          have c10b0 : decide ((l0.length : Int) ≤ 12) = false := decide_eq_false c10
          have c10b1 : decide (l0.length ≤ 12) = false := decide_eq_false (by omega)
          clear c10
          obtain rfl := Option.some.inj H
          go_wp2
          repeat (go_quiet (fail); try go_wp2)
          go_ret
          exact ⟨by first | rfl | (simp; done) | (simp [*]; done), by repeat (first | exact Drawn0.refl _ | apply Drawn0.step)⟩

end Go.Proofs.Ytlhjblbmhlelbaa.P
