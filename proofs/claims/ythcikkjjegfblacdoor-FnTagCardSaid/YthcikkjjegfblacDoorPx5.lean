-- Written by the program wip/myprint.py of this session, over the kit's print of the translation. Lean checks it.
import Derived.Test.YthcikkjjegfblacDoorPx0
import Derived.Test.YthcikkjjegfblacDoorPx1
namespace Go.Proofs.YthcikkjjegfblacDoor.P
open Go.RowKit Go.Proofs.YthcikkjjegfblacDoorW.PrintWords Go.Proofs.YthcikkjjegfblacDoorW.PrintLast Go.Proofs.YthcikkjjegfblacDoorW.PrintMore
attribute [local go_sem] max2_int min2_int max_two min_two max_three min_three max_four min_four   -- for this text's walks alone
set_option linter.unusedVariables false
set_option linter.unusedSimpArgs false

/-! ### pq_parseComplete: function 33 -/
def pq_parseComplete.l0 : Nat → ByteArray → List ByteArray → Int → Int → Option (Int × ByteArray × Option Int)
  | 0, _, _, _, _ => none
  | k + 1, x0, x14, x15, x16 => if x16 < x15 then (if 0 ≤ x16 then (if x16 < (x14.length : Int) then ((strings_HasPrefix.f x0 (rdOf ByteArray.empty x14 x16)).bind fun t160 => (if t160 = true then (if 0 ≤ ((rdOf ByteArray.empty x14 x16).size : Int) then (if ((rdOf ByteArray.empty x14 x16).size : Int) ≤ (x0.size : Int) then (none) else (none)) else (none)) else (pq_parseComplete.l0 k x0 x14 x15 (wrap64 (x16 + 1))))) else (none)) else (none)) else (none)
def pq_parseComplete.f (k : Nat) (a0 : ByteArray) : Option (Int × ByteArray × Option Int) := (some (([(⟨#[83, 69, 76, 69, 67, 84, 32]⟩ : ByteArray), (⟨#[85, 80, 68, 65, 84, 69, 32]⟩ : ByteArray), (⟨#[68, 69, 76, 69, 84, 69, 32]⟩ : ByteArray), (⟨#[70, 69, 84, 67, 72, 32]⟩ : ByteArray), (⟨#[77, 79, 86, 69, 32]⟩ : ByteArray), (⟨#[67, 79, 80, 89, 32]⟩ : ByteArray)] : List ByteArray) : List ByteArray)).bind fun y156 => (pq_parseComplete.l0 k a0 y156 (y156.length : Int) 0)
theorem pq_parseComplete.mono_l : ∀ k, (∀ y0 y1 y2 y3, LeO (pq_parseComplete.l0 k y0 y1 y2 y3) (pq_parseComplete.l0 (k + 1) y0 y1 y2 y3))
  | 0 => fun _ _ _ _ r h => by simp [pq_parseComplete.l0] at h
  | k + 1 => by
    have ih0 := pq_parseComplete.mono_l k
    · intro y0 y1 y2 y3
      unfold pq_parseComplete.l0
      repeat' first
      | (with_reducible exact ih0 _ _ _ _)
      | (with_reducible exact LeO.refl _)
      | (with_reducible exact LeO.none _)
      | (with_reducible refine LeO.ite ?_ ?_)
      | (with_reducible refine LeO.bind ?_ (fun _ => ?_))
      | exact ih0 _ _ _ _
      | exact LeO.none _
      | refine LeO.ite ?_ ?_
      | refine LeO.bind ?_ (fun _ => ?_)
theorem pq_parseComplete.mono : ∀ a0 k, LeO (pq_parseComplete.f k a0) (pq_parseComplete.f (k + 1) a0) := by
  intro a0 k
  have ih0 := pq_parseComplete.mono_l k
  unfold pq_parseComplete.f
  repeat' first
      | (with_reducible exact ih0 _ _ _ _)
      | (with_reducible exact LeO.refl _)
      | (with_reducible exact LeO.none _)
      | (with_reducible refine LeO.ite ?_ ?_)
      | (with_reducible refine LeO.bind ?_ (fun _ => ?_))
      | exact ih0 _ _ _ _
      | exact LeO.none _
      | refine LeO.ite ?_ ?_
      | refine LeO.bind ?_ (fun _ => ?_)
set_option maxHeartbeats 8000000 in
set_option maxRecDepth 100000 in
theorem pq_parseComplete.calls (k : Nat) (a0 : ByteArray) (r1 : Int) (r2 : ByteArray) (r3 : Option Int) (w : World) (h : pq_parseComplete.f k a0 = some (r1, r2, r3)) :
    Calls Tryd.prog 33 #[.string a0] w fun e w' => e = .returned (.tuple #[.int .i64 r1, .string r2, errW r3]) ∧ Below w.heap.size w w' := by
  have hu51 := Tryd.underlying51
  have hu109 := Tryd.underlying109
  have HB := Aside0.mk (Below.refl w.heap.size w)
  have H : ((some (([(⟨#[83, 69, 76, 69, 67, 84, 32]⟩ : ByteArray), (⟨#[85, 80, 68, 65, 84, 69, 32]⟩ : ByteArray), (⟨#[68, 69, 76, 69, 84, 69, 32]⟩ : ByteArray), (⟨#[70, 69, 84, 67, 72, 32]⟩ : ByteArray), (⟨#[77, 79, 86, 69, 32]⟩ : ByteArray), (⟨#[67, 79, 80, 89, 32]⟩ : ByteArray)] : List ByteArray) : List ByteArray)).bind fun y156 => (pq_parseComplete.l0 k a0 y156 (y156.length : Int) 0)) = some (r1, r2, r3) := h
  clear h
  obtain ⟨y156, hy156⟩ : ∃ y_ : List ByteArray, y_ = (([(⟨#[83, 69, 76, 69, 67, 84, 32]⟩ : ByteArray), (⟨#[85, 80, 68, 65, 84, 69, 32]⟩ : ByteArray), (⟨#[68, 69, 76, 69, 84, 69, 32]⟩ : ByteArray), (⟨#[70, 69, 84, 67, 72, 32]⟩ : ByteArray), (⟨#[77, 79, 86, 69, 32]⟩ : ByteArray), (⟨#[67, 79, 80, 89, 32]⟩ : ByteArray)] : List ByteArray)) := ⟨_, rfl⟩
  replace H : (pq_parseComplete.l0 k a0 y156 (y156.length : Int) 0) = some (r1, r2, r3) := by first | (rw [hy156]; with_reducible exact H) | (have H2_ := (Option.bind_some _ _).symm.trans H; rw [hy156]; with_reducible exact H2_) | (have H2_ := (Option.bind_some _ _).symm.trans H; with_reducible exact H2_) | with_reducible exact H | (rw [hy156]; exact H) | exact H
  have Ny156 := Aside0.mk hy156
  clear hy156
  have H' := Aside0.mk H
  clear H
  go_enter Tryd.func33, Tryd.ntmps33
  go_wp2_with (first | ((with_reducible refine gate_dst (N := 13) rfl ?_); refine Kd.R_lit Kd.string _ 9 ?hg (N := 13) ?hd (xs := ([(⟨#[83, 69, 76, 69, 67, 84, 32]⟩ : ByteArray), (⟨#[85, 80, 68, 65, 84, 69, 32]⟩ : ByteArray), (⟨#[68, 69, 76, 69, 84, 69, 32]⟩ : ByteArray), (⟨#[70, 69, 84, 67, 72, 32]⟩ : ByteArray), (⟨#[77, 79, 86, 69, 32]⟩ : ByteArray), (⟨#[67, 79, 80, 89, 32]⟩ : ByteArray)] : List ByteArray)) (inner := [.string (⟨#[83, 69, 76, 69, 67, 84, 32]⟩ : ByteArray), .string (⟨#[85, 80, 68, 65, 84, 69, 32]⟩ : ByteArray), .string (⟨#[68, 69, 76, 69, 84, 69, 32]⟩ : ByteArray), .string (⟨#[70, 69, 84, 67, 72, 32]⟩ : ByteArray), .string (⟨#[77, 79, 86, 69, 32]⟩ : ByteArray), .string (⟨#[67, 79, 80, 89, 32]⟩ : ByteArray)]) (ok := fun _ => True) (okp := fun _ => True) ?hr ?hp (fun _ hk => hk) trivial (Below.refl _ _) (Nat.le_refl _) (by simp) ?_; (case hd => rfl); (case hg => rfl); (case hr => first | (go_simp; done) | (go_simp; rfl) | (go_simp; simp [IntKind.wrap_u8]; done)); (case hp => exact (Reps.one (show Kd.M Kd.string _ _ _ (⟨#[83, 69, 76, 69, 67, 84, 32]⟩ : ByteArray) [.string (⟨#[83, 69, 76, 69, 67, 84, 32]⟩ : ByteArray)] from rfl) (Reps.one (show Kd.M Kd.string _ _ _ (⟨#[85, 80, 68, 65, 84, 69, 32]⟩ : ByteArray) [.string (⟨#[85, 80, 68, 65, 84, 69, 32]⟩ : ByteArray)] from rfl) (Reps.one (show Kd.M Kd.string _ _ _ (⟨#[68, 69, 76, 69, 84, 69, 32]⟩ : ByteArray) [.string (⟨#[68, 69, 76, 69, 84, 69, 32]⟩ : ByteArray)] from rfl) (Reps.one (show Kd.M Kd.string _ _ _ (⟨#[70, 69, 84, 67, 72, 32]⟩ : ByteArray) [.string (⟨#[70, 69, 84, 67, 72, 32]⟩ : ByteArray)] from rfl) (Reps.one (show Kd.M Kd.string _ _ _ (⟨#[77, 79, 86, 69, 32]⟩ : ByteArray) [.string (⟨#[77, 79, 86, 69, 32]⟩ : ByteArray)] from rfl) (Reps.one (show Kd.M Kd.string _ _ _ (⟨#[67, 79, 80, 89, 32]⟩ : ByteArray) [.string (⟨#[67, 79, 80, 89, 32]⟩ : ByteArray)] from rfl) (Reps.none _ _)))))))); intro v157 w2 ho3 hb hg_ hnew_; clear hg_ hnew_; (first | rw [← Ny156.out] at ho3 | (simp only [Int.reduceToNat] at ho3; rw [← Ny156.out] at ho3)); have n0_ := Aside0.mk (Kd.R_lower ho3 (below_size (by repeat (first | (with_reducible first | exact HB.out | apply below_alloc | apply pw_below_drewN | apply below_drew1) | exact HB.out)))); have n1_ := Aside0.mk (below_step (by repeat (first | (with_reducible first | exact HB.out | apply below_alloc | apply pw_below_drewN | apply below_drew1) | exact HB.out)) hb); clear HB; have HO158 := n0_; have HB := n1_; clear n0_ n1_; clear hb ho3; obtain ⟨Ao4, co4, eo4⟩ := Kd.R_slice HO158.out; subst eo4))
  go_loopg [0, 16] k (fun kq v0 v16 w' => ∃ (x0_1 : ByteArray) (x16_1 : Int), v0 = .string x0_1 ∧ v16 = .int .i64 x16_1 ∧ Aside0 (pq_parseComplete.l0 kq x0_1 y156 (y156.length : Int) x16_1 = some (r1, r2, r3)) ∧ Aside0 (kq ≤ k) ∧ Aside0 (Kd.R Kd.string 9 w' w.heap.size (fun _ => True) (.slice Ao4 y156.length co4) y156) ∧ Aside0 (Below w.heap.size w w'))
  case atStart => exact ⟨(a0), (0), (by first | rfl | (simp; done) | (simp [*]; done)), (by first | rfl | (simp; done) | (simp [*]; done)), H', ⟨Nat.le_refl _⟩, ⟨by (with_reducible repeat (first | apply Kd.R_alloc | apply Kd.R_drewN | apply Kd.R_drew)); exact HO158.out⟩, ⟨by repeat (first | (with_reducible first | exact HB.out | apply below_alloc | apply pw_below_drewN | apply below_drew1) | exact HB.out)⟩⟩
  case round =>
    clear H'
    try clear p2
    try clear c3
    obtain ⟨x0_1, x16_1, rfl, rfl, HA, HK1, HO_14, HB⟩ := hrel
    cases gk with
    | zero => exact absurd HA.out (by simp [pq_parseComplete.l0])
    | succ k1 =>
      have H := HA.out
      clear HA
      simp only [pq_parseComplete.l0] at H
      by_cases c5 : x16_1 < (y156.length : Int)
      · rw [if_pos c5] at H
        have c5b0 : decide (x16_1 < (y156.length : Int)) = true := decide_eq_true c5
        clear c5
        by_cases c6 : 0 ≤ x16_1
        · rw [if_pos c6] at H
          have c6b0 : decide (0 ≤ x16_1) = true := decide_eq_true c6
          clear c6
          by_cases c7 : x16_1 < (y156.length : Int)
          · rw [if_pos c7] at H
            have c7b0 : decide (x16_1 < (y156.length : Int)) = true := decide_eq_true c7
            clear c7
            replace H := Option.bind_eq_some_iff.mp H
            obtain ⟨t160, A80, H⟩ := H
            replace H : (if t160 = true then (if 0 ≤ ((rdOf ByteArray.empty y156 x16_1).size : Int) then (if ((rdOf ByteArray.empty y156 x16_1).size : Int) ≤ (x0_1.size : Int) then (none) else (none)) else (none)) else (pq_parseComplete.l0 k1 x0_1 y156 (y156.length : Int) (wrap64 (x16_1 + 1)))) = some (r1, r2, r3) := H
            have A8 := Aside0.mk A80
            clear A80
            by_cases c9 : t160 = true
            · subst c9
              have H1 : (if 0 ≤ ((rdOf ByteArray.empty y156 x16_1).size : Int) then (if ((rdOf ByteArray.empty y156 x16_1).size : Int) ≤ (x0_1.size : Int) then (none) else (none)) else (none)) = some (r1, r2, r3) := by rw [if_pos rfl] at H; exact H
              clear H
              have H := H1
              clear H1
              by_cases c10 : 0 ≤ ((rdOf ByteArray.empty y156 x16_1).size : Int)
              · rw [if_pos c10] at H
                have c10b0 := eq_true c10
                have c10b1 : decide (0 ≤ ((rdOf ByteArray.empty y156 x16_1).size : Int)) = true := decide_eq_true c10
                clear c10
                by_cases c11 : ((rdOf ByteArray.empty y156 x16_1).size : Int) ≤ (x0_1.size : Int)
                · rw [if_pos c11] at H
                  exact absurd H (by simp)
                · rw [if_neg c11] at H
                  exact absurd H (by simp)
              · rw [if_neg c10] at H
                exact absurd H (by simp)
            · replace c9 := Bool.eq_false_iff.mpr c9
              subst c9
              have H1 : (pq_parseComplete.l0 k1 x0_1 y156 (y156.length : Int) (wrap64 (x16_1 + 1))) = some (r1, r2, r3) := by rw [if_neg (show ¬ (false = true) by decide)] at H; exact H
              clear H
              have H := H1
              clear H1
              have H' := Aside0.mk H
              clear H
              have p159 : 0 ≤ (x16_1 : Int) := of_decide_eq_true (by first | (with_reducible assumption) | assumption)
              have q159 : x16_1 < (y156.length : Int) := of_decide_eq_true (by first | (with_reducible assumption) | assumption)
              obtain ⟨ad159, e159, hx159_0⟩ := Kd.at_string (Kd.R_reads' HO_14.out).2.2 x16_1 p159 q159
              cases e159
              replace p159 := eq_true p159
              replace q159 := eq_true q159
              go_wp2_with (first | ((with_reducible refine gate_callee (f := 42) rfl ?_); refine goesL_ (some 22) rfl rfl Tryd.func42 (by kernel_rfl) rfl #[.string x0_1, .string (rdOf ByteArray.empty y156 x16_1)] rfl (by (try simp only [List.map_toArray, List.map_cons, List.map_nil]); first | done | rfl | (simp only [List.length_drop, List.length_take]; rfl)) ?_; (with_reducible refine (strings_HasPrefix.calls x0_1 (rdOf ByteArray.empty y156 x16_1) false _ A8.out).mono ?_); rintro e w' ⟨rfl, ⟨nd, rfl⟩⟩; refine ⟨_, rfl, ?_⟩))
              go_roundg k1
              case measure => have := HK1.out; omega
              case rel => exact ⟨(x0_1), (wrap64 (x16_1 + 1)), (by first | rfl | (simp; done) | (simp [*]; done)), (by first | rfl | (simp; done) | (simp [*]; done)), H', ⟨by have := HK1.out; omega⟩, ⟨by (with_reducible repeat (first | apply Kd.R_alloc | apply Kd.R_drewN | apply Kd.R_drew)); exact HO_14.out⟩, ⟨by repeat (first | (with_reducible first | exact HB.out | apply below_alloc | apply pw_below_drewN | apply below_drew1) | exact HB.out)⟩⟩
          · rw [if_neg c7] at H
            exact absurd H (by simp)
        · rw [if_neg c6] at H
          exact absurd H (by simp)
      · rw [if_neg c5] at H
        exact absurd H (by simp)

/-! ### pq_ParseComplete: function 23 -/
def pq_ParseComplete.f (k : Nat) (a0 : ByteArray) : Option (Int × ByteArray × Option Int) := (pq_parseComplete.f k a0).bind fun bt161 => (some (bt161.1, bt161.2.1, bt161.2.2))
theorem pq_ParseComplete.mono : ∀ a0 k, LeO (pq_ParseComplete.f k a0) (pq_ParseComplete.f (k + 1) a0) := by
  intro a0 k
  unfold pq_ParseComplete.f
  repeat' first
      | (with_reducible exact pq_parseComplete.mono _ _)
      | (with_reducible exact LeO.refl _)
      | (with_reducible exact LeO.none _)
      | (with_reducible refine LeO.ite ?_ ?_)
      | (with_reducible refine LeO.bind ?_ (fun _ => ?_))
      | exact pq_parseComplete.mono _ _
      | exact LeO.none _
      | refine LeO.ite ?_ ?_
      | refine LeO.bind ?_ (fun _ => ?_)
set_option maxHeartbeats 8000000 in
set_option maxRecDepth 100000 in
theorem pq_ParseComplete.calls (k : Nat) (a0 : ByteArray) (r1 : Int) (r2 : ByteArray) (r3 : Option Int) (w : World) (h : pq_ParseComplete.f k a0 = some (r1, r2, r3)) :
    Calls Tryd.prog 23 #[.string a0] w fun e w' => e = .returned (.tuple #[.int .i64 r1, .string r2, errW r3]) ∧ Below w.heap.size w w' := by
  have HB := Aside0.mk (Below.refl w.heap.size w)
  have H : ((pq_parseComplete.f k a0).bind fun bt161 => (some (bt161.1, bt161.2.1, bt161.2.2))) = some (r1, r2, r3) := h
  clear h
  replace H := Option.bind_eq_some_iff.mp H
  obtain ⟨⟨t161, t162, t163⟩, A20, H⟩ := H
  replace H : (some (t161, t162, t163)) = some (r1, r2, r3) := H
  have A2 := Aside0.mk A20
  clear A20
  simp only [Option.some.injEq, Prod.mk.injEq] at H
  obtain ⟨rfl, rfl, rfl⟩ := H
  go_enter Tryd.func23, Tryd.ntmps23
  go_wp2_with (first | ((with_reducible refine gate_callee (f := 33) rfl ?_); refine goesL_ (some 6) rfl rfl Tryd.func33 (by kernel_rfl) rfl #[.string a0] rfl (by (try simp only [List.map_toArray, List.map_cons, List.map_nil]); first | done | rfl | (simp only [List.length_drop, List.length_take]; rfl)) ?_; (with_reducible refine (pq_parseComplete.calls k a0 t161 t162 t163 _ A2.out).mono ?_); rintro e w3 ⟨rfl, hb⟩; refine ⟨_, rfl, ?_⟩; have n0_ := Aside0.mk (below_step (by repeat (first | (with_reducible first | exact HB.out | apply below_alloc | apply pw_below_drewN | apply below_drew1) | exact HB.out)) hb); clear HB; have HB := n0_; clear n0_; (try clear hb); (try clear hb2); (try clear hk); (try clear hi); (try simp only [errW_none, errW_some])))
  go_ret3
  exact ⟨by first | rfl | (simp [errW_none, errW_some] <;> rfl) | (simp [*, errW_none, errW_some] <;> rfl), by repeat (first | (with_reducible first | exact HB.out | apply below_alloc | apply pw_below_drewN | apply below_drew1) | exact HB.out)⟩

/-! ### impl_Tag: function 15 -/
def impl_Tag.f (k : Nat) (a0 : ByteArray) : Option (ByteArray × Int × Bool) := (pq_ParseComplete.f k a0).bind fun bt164 => (if bt164.2.2.isNone = true then (some (bt164.2.1, bt164.1, true)) else (some (bt164.2.1, bt164.1, false)))
theorem impl_Tag.mono : ∀ a0 k, LeO (impl_Tag.f k a0) (impl_Tag.f (k + 1) a0) := by
  intro a0 k
  unfold impl_Tag.f
  repeat' first
      | (with_reducible exact pq_ParseComplete.mono _ _)
      | (with_reducible exact LeO.refl _)
      | (with_reducible exact LeO.none _)
      | (with_reducible refine LeO.ite ?_ ?_)
      | (with_reducible refine LeO.bind ?_ (fun _ => ?_))
      | exact pq_ParseComplete.mono _ _
      | exact LeO.none _
      | refine LeO.ite ?_ ?_
      | refine LeO.bind ?_ (fun _ => ?_)
set_option maxHeartbeats 8000000 in
set_option maxRecDepth 100000 in
theorem impl_Tag.calls (k : Nat) (a0 : ByteArray) (r1 : ByteArray) (r2 : Int) (r3 : Bool) (w : World) (h : impl_Tag.f k a0 = some (r1, r2, r3)) :
    Calls Tryd.prog 15 #[.string a0] w fun e w' => e = .returned (.tuple #[.string r1, .int .i64 r2, .bool r3]) ∧ Below w.heap.size w w' := by
  have hu51 := Tryd.underlying51
  have hu109 := Tryd.underlying109
  have HB := Aside0.mk (Below.refl w.heap.size w)
  have H : ((pq_ParseComplete.f k a0).bind fun bt164 => (if bt164.2.2.isNone = true then (some (bt164.2.1, bt164.1, true)) else (some (bt164.2.1, bt164.1, false)))) = some (r1, r2, r3) := h
  clear h
  replace H := Option.bind_eq_some_iff.mp H
  obtain ⟨⟨t164, t165, t166⟩, A20, H⟩ := H
  replace H : (if t166.isNone = true then (some (t165, t164, true)) else (some (t165, t164, false))) = some (r1, r2, r3) := H
  have A2 := Aside0.mk A20
  clear A20
  rcases t166 with _ | q167
  · have H1 : (some (t165, t164, true)) = some (r1, r2, r3) := by rw [if_pos (show (none : Option Int).isNone = true by rfl)] at H; exact H
    clear H
    have H := H1
    clear H1
    try simp only [errW_none, errW_some]
    simp only [Option.some.injEq, Prod.mk.injEq] at H
    obtain ⟨rfl, rfl, rfl⟩ := H
    go_enter Tryd.func15, Tryd.ntmps15
    go_wp2_with (first | (go_at_call 23; (with_reducible refine (pq_ParseComplete.calls k a0 t164 t165 none _ A2.out).mono ?_); rintro e w3 ⟨rfl, hb⟩; have n0_ := Aside0.mk (below_step (by repeat (first | (with_reducible first | exact HB.out | apply below_alloc | apply pw_below_drewN | apply below_drew1) | exact HB.out)) hb); clear HB; have HB := n0_; clear n0_; (try clear hb); (try clear hb2); (try clear hk); (try clear hi); (try simp only [errW_none, errW_some])))
    repeat (go_quiet (first | (go_at_call 23; (with_reducible refine (pq_ParseComplete.calls k a0 t164 t165 none _ A2.out).mono ?_); rintro e w3 ⟨rfl, hb⟩; have n0_ := Aside0.mk (below_step (by repeat (first | (with_reducible first | exact HB.out | apply below_alloc | apply pw_below_drewN | apply below_drew1) | exact HB.out)) hb); clear HB; have HB := n0_; clear n0_; (try clear hb); (try clear hb2); (try clear hk); (try clear hi); (try simp only [errW_none, errW_some]))); try go_wp2_with (first | (go_at_call 23; (with_reducible refine (pq_ParseComplete.calls k a0 t164 t165 none _ A2.out).mono ?_); rintro e w3 ⟨rfl, hb⟩; have n0_ := Aside0.mk (below_step (by repeat (first | (with_reducible first | exact HB.out | apply below_alloc | apply pw_below_drewN | apply below_drew1) | exact HB.out)) hb); clear HB; have HB := n0_; clear n0_; (try clear hb); (try clear hb2); (try clear hk); (try clear hi); (try simp only [errW_none, errW_some]))))
    go_ret3
    exact ⟨by first | rfl | (simp [errW_none, errW_some] <;> rfl) | (simp [*, errW_none, errW_some] <;> rfl), by repeat (first | (with_reducible first | exact HB.out | apply below_alloc | apply pw_below_drewN | apply below_drew1) | exact HB.out)⟩
  · have H1 : (some (t165, t164, false)) = some (r1, r2, r3) := by rw [if_neg (show ¬ (some q167).isNone = true by simp)] at H; exact H
    clear H
    have H := H1
    clear H1
    try simp only [errW_none, errW_some]
    simp only [Option.some.injEq, Prod.mk.injEq] at H
    obtain ⟨rfl, rfl, rfl⟩ := H
    go_enter Tryd.func15, Tryd.ntmps15
    go_wp2_with (first | (go_at_call 23; (with_reducible refine (pq_ParseComplete.calls k a0 t164 t165 (some q167) _ A2.out).mono ?_); rintro e w4 ⟨rfl, hb⟩; have n0_ := Aside0.mk (below_step (by repeat (first | (with_reducible first | exact HB.out | apply below_alloc | apply pw_below_drewN | apply below_drew1) | exact HB.out)) hb); clear HB; have HB := n0_; clear n0_; (try clear hb); (try clear hb2); (try clear hk); (try clear hi); (try simp only [errW_none, errW_some])))
    repeat (go_quiet (first | (go_at_call 23; (with_reducible refine (pq_ParseComplete.calls k a0 t164 t165 (some q167) _ A2.out).mono ?_); rintro e w4 ⟨rfl, hb⟩; have n0_ := Aside0.mk (below_step (by repeat (first | (with_reducible first | exact HB.out | apply below_alloc | apply pw_below_drewN | apply below_drew1) | exact HB.out)) hb); clear HB; have HB := n0_; clear n0_; (try clear hb); (try clear hb2); (try clear hk); (try clear hi); (try simp only [errW_none, errW_some]))); try go_wp2_with (first | (go_at_call 23; (with_reducible refine (pq_ParseComplete.calls k a0 t164 t165 (some q167) _ A2.out).mono ?_); rintro e w4 ⟨rfl, hb⟩; have n0_ := Aside0.mk (below_step (by repeat (first | (with_reducible first | exact HB.out | apply below_alloc | apply pw_below_drewN | apply below_drew1) | exact HB.out)) hb); clear HB; have HB := n0_; clear n0_; (try clear hb); (try clear hb2); (try clear hk); (try clear hi); (try simp only [errW_none, errW_some]))))
    go_ret3
    exact ⟨by first | rfl | (simp [errW_none, errW_some] <;> rfl) | (simp [*, errW_none, errW_some] <;> rfl), by repeat (first | (with_reducible first | exact HB.out | apply below_alloc | apply pw_below_drewN | apply below_drew1) | exact HB.out)⟩

/-! ### laws_FnTag: function 4 -/
def laws_FnTag.f (k : Nat) (a0 : Int) (a1 : Int) (a2 : Int) : Option (Bool) := if a1 < 0 then (some true) else ((some (([(⟨#[83, 69, 76, 69, 67, 84]⟩ : ByteArray), (⟨#[85, 80, 68, 65, 84, 69]⟩ : ByteArray), (⟨#[68, 69, 76, 69, 84, 69]⟩ : ByteArray), (⟨#[70, 69, 84, 67, 72]⟩ : ByteArray), (⟨#[77, 79, 86, 69]⟩ : ByteArray), (⟨#[67, 79, 80, 89]⟩ : ByteArray), (⟨#[73, 78, 83, 69, 82, 84]⟩ : ByteArray), (⟨#[66, 69, 71, 73, 78]⟩ : ByteArray), (⟨#[67, 82, 69, 65, 84, 69, 32, 84, 65, 66, 76, 69]⟩ : ByteArray)] : List ByteArray) : List ByteArray)).bind fun y168 => (if (y168.length : Int) = 0 then (none) else (if 0 ≤ (Int.tmod (wrap64 (a0)) (y168.length : Int)) then (if (Int.tmod (wrap64 (a0)) (y168.length : Int)) < (y168.length : Int) then (if (rdOf ByteArray.empty y168 (Int.tmod (wrap64 (a0)) (y168.length : Int))).size + 1 ≤ 9223372036854775807 then ((spec_Number.f k a1).bind fun t172 => (if ((rdOf ByteArray.empty y168 (Int.tmod (wrap64 (a0)) (y168.length : Int))) ++ (⟨#[32]⟩ : ByteArray)).size + t172.size ≤ 9223372036854775807 then (if (rdOf ByteArray.empty y168 (Int.tmod (wrap64 (a0)) (y168.length : Int))).toList = ([73, 78, 83, 69, 82, 84] : List UInt8) then ((spec_Number.f k (wrap64 (a2))).bind fun t173 => (if ((rdOf ByteArray.empty y168 (Int.tmod (wrap64 (a0)) (y168.length : Int))) ++ (⟨#[32]⟩ : ByteArray)).size + t173.size ≤ 9223372036854775807 then (if (((rdOf ByteArray.empty y168 (Int.tmod (wrap64 (a0)) (y168.length : Int))) ++ (⟨#[32]⟩ : ByteArray)) ++ t173).size + 1 ≤ 9223372036854775807 then ((spec_Number.f k a1).bind fun t174 => (if ((((rdOf ByteArray.empty y168 (Int.tmod (wrap64 (a0)) (y168.length : Int))) ++ (⟨#[32]⟩ : ByteArray)) ++ t173) ++ (⟨#[32]⟩ : ByteArray)).size + t174.size ≤ 9223372036854775807 then ((impl_Tag.f k (((((rdOf ByteArray.empty y168 (Int.tmod (wrap64 (a0)) (y168.length : Int))) ++ (⟨#[32]⟩ : ByteArray)) ++ t173) ++ (⟨#[32]⟩ : ByteArray)) ++ t174)).bind fun bt175 => (if bt175.2.2 = true then (if bt175.1.toList = (rdOf ByteArray.empty y168 (Int.tmod (wrap64 (a0)) (y168.length : Int))).toList then (some (bt175.2.1 == a1)) else (some false)) else (some false))) else (none))) else (none)) else (none))) else (if (rdOf ByteArray.empty y168 (Int.tmod (wrap64 (a0)) (y168.length : Int))).toList = ([66, 69, 71, 73, 78] : List UInt8) then ((impl_Tag.f k (rdOf ByteArray.empty y168 (Int.tmod (wrap64 (a0)) (y168.length : Int)))).bind fun bt178 => (if bt178.2.2 = true then (if bt178.1.toList = (rdOf ByteArray.empty y168 (Int.tmod (wrap64 (a0)) (y168.length : Int))).toList then (some (bt178.2.1 == 0)) else (some false)) else (some false))) else (if (rdOf ByteArray.empty y168 (Int.tmod (wrap64 (a0)) (y168.length : Int))).toList = ([67, 82, 69, 65, 84, 69, 32, 84, 65, 66, 76, 69] : List UInt8) then ((impl_Tag.f k (rdOf ByteArray.empty y168 (Int.tmod (wrap64 (a0)) (y168.length : Int)))).bind fun bt181 => (if bt181.2.2 = true then (if bt181.1.toList = (rdOf ByteArray.empty y168 (Int.tmod (wrap64 (a0)) (y168.length : Int))).toList then (some (bt181.2.1 == 0)) else (some false)) else (some false))) else ((impl_Tag.f k (((rdOf ByteArray.empty y168 (Int.tmod (wrap64 (a0)) (y168.length : Int))) ++ (⟨#[32]⟩ : ByteArray)) ++ t172)).bind fun bt184 => (if bt184.2.2 = true then (if bt184.1.toList = (rdOf ByteArray.empty y168 (Int.tmod (wrap64 (a0)) (y168.length : Int))).toList then (some (bt184.2.1 == a1)) else (some false)) else (some false)))))) else (none))) else (none)) else (none)) else (none))))
theorem laws_FnTag.mono : ∀ a0 a1 a2 k, LeO (laws_FnTag.f k a0 a1 a2) (laws_FnTag.f (k + 1) a0 a1 a2) := by
  intro a0 a1 a2 k
  unfold laws_FnTag.f
  repeat' first
      | (with_reducible exact impl_Tag.mono _ _)
      | (with_reducible exact spec_Number.mono _ _)
      | (with_reducible exact LeO.refl _)
      | (with_reducible exact LeO.none _)
      | (with_reducible refine LeO.ite ?_ ?_)
      | (with_reducible refine LeO.bind ?_ (fun _ => ?_))
      | exact impl_Tag.mono _ _
      | exact spec_Number.mono _ _
      | exact LeO.none _
      | refine LeO.ite ?_ ?_
      | refine LeO.bind ?_ (fun _ => ?_)
set_option maxHeartbeats 8000000 in
set_option maxRecDepth 100000 in
theorem laws_FnTag.calls (k : Nat) (a0 : Int) (a1 : Int) (a2 : Int) (r : Bool) (w : World) (h : laws_FnTag.f k a0 a1 a2 = some r) :
    Calls Tryd.prog 4 #[.int .u8 a0, .int .i64 a1, .int .u32 a2] w fun e w' => e = .returned (.bool r) ∧ Below w.heap.size w w' := by
  have HB := Aside0.mk (Below.refl w.heap.size w)
  have H : (if a1 < 0 then (some true) else ((some (([(⟨#[83, 69, 76, 69, 67, 84]⟩ : ByteArray), (⟨#[85, 80, 68, 65, 84, 69]⟩ : ByteArray), (⟨#[68, 69, 76, 69, 84, 69]⟩ : ByteArray), (⟨#[70, 69, 84, 67, 72]⟩ : ByteArray), (⟨#[77, 79, 86, 69]⟩ : ByteArray), (⟨#[67, 79, 80, 89]⟩ : ByteArray), (⟨#[73, 78, 83, 69, 82, 84]⟩ : ByteArray), (⟨#[66, 69, 71, 73, 78]⟩ : ByteArray), (⟨#[67, 82, 69, 65, 84, 69, 32, 84, 65, 66, 76, 69]⟩ : ByteArray)] : List ByteArray) : List ByteArray)).bind fun y168 => (if (y168.length : Int) = 0 then (none) else (if 0 ≤ (Int.tmod (wrap64 (a0)) (y168.length : Int)) then (if (Int.tmod (wrap64 (a0)) (y168.length : Int)) < (y168.length : Int) then (if (rdOf ByteArray.empty y168 (Int.tmod (wrap64 (a0)) (y168.length : Int))).size + 1 ≤ 9223372036854775807 then ((spec_Number.f k a1).bind fun t172 => (if ((rdOf ByteArray.empty y168 (Int.tmod (wrap64 (a0)) (y168.length : Int))) ++ (⟨#[32]⟩ : ByteArray)).size + t172.size ≤ 9223372036854775807 then (if (rdOf ByteArray.empty y168 (Int.tmod (wrap64 (a0)) (y168.length : Int))).toList = ([73, 78, 83, 69, 82, 84] : List UInt8) then ((spec_Number.f k (wrap64 (a2))).bind fun t173 => (if ((rdOf ByteArray.empty y168 (Int.tmod (wrap64 (a0)) (y168.length : Int))) ++ (⟨#[32]⟩ : ByteArray)).size + t173.size ≤ 9223372036854775807 then (if (((rdOf ByteArray.empty y168 (Int.tmod (wrap64 (a0)) (y168.length : Int))) ++ (⟨#[32]⟩ : ByteArray)) ++ t173).size + 1 ≤ 9223372036854775807 then ((spec_Number.f k a1).bind fun t174 => (if ((((rdOf ByteArray.empty y168 (Int.tmod (wrap64 (a0)) (y168.length : Int))) ++ (⟨#[32]⟩ : ByteArray)) ++ t173) ++ (⟨#[32]⟩ : ByteArray)).size + t174.size ≤ 9223372036854775807 then ((impl_Tag.f k (((((rdOf ByteArray.empty y168 (Int.tmod (wrap64 (a0)) (y168.length : Int))) ++ (⟨#[32]⟩ : ByteArray)) ++ t173) ++ (⟨#[32]⟩ : ByteArray)) ++ t174)).bind fun bt175 => (if bt175.2.2 = true then (if bt175.1.toList = (rdOf ByteArray.empty y168 (Int.tmod (wrap64 (a0)) (y168.length : Int))).toList then (some (bt175.2.1 == a1)) else (some false)) else (some false))) else (none))) else (none)) else (none))) else (if (rdOf ByteArray.empty y168 (Int.tmod (wrap64 (a0)) (y168.length : Int))).toList = ([66, 69, 71, 73, 78] : List UInt8) then ((impl_Tag.f k (rdOf ByteArray.empty y168 (Int.tmod (wrap64 (a0)) (y168.length : Int)))).bind fun bt178 => (if bt178.2.2 = true then (if bt178.1.toList = (rdOf ByteArray.empty y168 (Int.tmod (wrap64 (a0)) (y168.length : Int))).toList then (some (bt178.2.1 == 0)) else (some false)) else (some false))) else (if (rdOf ByteArray.empty y168 (Int.tmod (wrap64 (a0)) (y168.length : Int))).toList = ([67, 82, 69, 65, 84, 69, 32, 84, 65, 66, 76, 69] : List UInt8) then ((impl_Tag.f k (rdOf ByteArray.empty y168 (Int.tmod (wrap64 (a0)) (y168.length : Int)))).bind fun bt181 => (if bt181.2.2 = true then (if bt181.1.toList = (rdOf ByteArray.empty y168 (Int.tmod (wrap64 (a0)) (y168.length : Int))).toList then (some (bt181.2.1 == 0)) else (some false)) else (some false))) else ((impl_Tag.f k (((rdOf ByteArray.empty y168 (Int.tmod (wrap64 (a0)) (y168.length : Int))) ++ (⟨#[32]⟩ : ByteArray)) ++ t172)).bind fun bt184 => (if bt184.2.2 = true then (if bt184.1.toList = (rdOf ByteArray.empty y168 (Int.tmod (wrap64 (a0)) (y168.length : Int))).toList then (some (bt184.2.1 == a1)) else (some false)) else (some false)))))) else (none))) else (none)) else (none)) else (none))))) = some r := h
  clear h
  by_cases c4 : a1 < 0
  · rw [if_pos c4] at H
    have c4b0 : decide (a1 < 0) = true := decide_eq_true c4
    clear c4
    obtain rfl := Option.some.inj H
    go_enter Tryd.func4, Tryd.ntmps4
    go_wp2
    go_ret
    exact ⟨by first | rfl | (simp [errW_none, errW_some] <;> rfl) | (simp [*, errW_none, errW_some] <;> rfl), by repeat (first | (with_reducible first | exact HB.out | apply below_alloc | apply pw_below_drewN | apply below_drew1) | exact HB.out)⟩
  · rw [if_neg c4] at H
    have c4b0 : decide (a1 < 0) = false := decide_eq_false c4
    clear c4
    obtain ⟨y168, hy168⟩ : ∃ y_ : List ByteArray, y_ = (([(⟨#[83, 69, 76, 69, 67, 84]⟩ : ByteArray), (⟨#[85, 80, 68, 65, 84, 69]⟩ : ByteArray), (⟨#[68, 69, 76, 69, 84, 69]⟩ : ByteArray), (⟨#[70, 69, 84, 67, 72]⟩ : ByteArray), (⟨#[77, 79, 86, 69]⟩ : ByteArray), (⟨#[67, 79, 80, 89]⟩ : ByteArray), (⟨#[73, 78, 83, 69, 82, 84]⟩ : ByteArray), (⟨#[66, 69, 71, 73, 78]⟩ : ByteArray), (⟨#[67, 82, 69, 65, 84, 69, 32, 84, 65, 66, 76, 69]⟩ : ByteArray)] : List ByteArray)) := ⟨_, rfl⟩
    replace H : (if (y168.length : Int) = 0 then (none) else (if 0 ≤ (Int.tmod (wrap64 (a0)) (y168.length : Int)) then (if (Int.tmod (wrap64 (a0)) (y168.length : Int)) < (y168.length : Int) then (if (rdOf ByteArray.empty y168 (Int.tmod (wrap64 (a0)) (y168.length : Int))).size + 1 ≤ 9223372036854775807 then ((spec_Number.f k a1).bind fun t172 => (if ((rdOf ByteArray.empty y168 (Int.tmod (wrap64 (a0)) (y168.length : Int))) ++ (⟨#[32]⟩ : ByteArray)).size + t172.size ≤ 9223372036854775807 then (if (rdOf ByteArray.empty y168 (Int.tmod (wrap64 (a0)) (y168.length : Int))).toList = ([73, 78, 83, 69, 82, 84] : List UInt8) then ((spec_Number.f k (wrap64 (a2))).bind fun t173 => (if ((rdOf ByteArray.empty y168 (Int.tmod (wrap64 (a0)) (y168.length : Int))) ++ (⟨#[32]⟩ : ByteArray)).size + t173.size ≤ 9223372036854775807 then (if (((rdOf ByteArray.empty y168 (Int.tmod (wrap64 (a0)) (y168.length : Int))) ++ (⟨#[32]⟩ : ByteArray)) ++ t173).size + 1 ≤ 9223372036854775807 then ((spec_Number.f k a1).bind fun t174 => (if ((((rdOf ByteArray.empty y168 (Int.tmod (wrap64 (a0)) (y168.length : Int))) ++ (⟨#[32]⟩ : ByteArray)) ++ t173) ++ (⟨#[32]⟩ : ByteArray)).size + t174.size ≤ 9223372036854775807 then ((impl_Tag.f k (((((rdOf ByteArray.empty y168 (Int.tmod (wrap64 (a0)) (y168.length : Int))) ++ (⟨#[32]⟩ : ByteArray)) ++ t173) ++ (⟨#[32]⟩ : ByteArray)) ++ t174)).bind fun bt175 => (if bt175.2.2 = true then (if bt175.1.toList = (rdOf ByteArray.empty y168 (Int.tmod (wrap64 (a0)) (y168.length : Int))).toList then (some (bt175.2.1 == a1)) else (some false)) else (some false))) else (none))) else (none)) else (none))) else (if (rdOf ByteArray.empty y168 (Int.tmod (wrap64 (a0)) (y168.length : Int))).toList = ([66, 69, 71, 73, 78] : List UInt8) then ((impl_Tag.f k (rdOf ByteArray.empty y168 (Int.tmod (wrap64 (a0)) (y168.length : Int)))).bind fun bt178 => (if bt178.2.2 = true then (if bt178.1.toList = (rdOf ByteArray.empty y168 (Int.tmod (wrap64 (a0)) (y168.length : Int))).toList then (some (bt178.2.1 == 0)) else (some false)) else (some false))) else (if (rdOf ByteArray.empty y168 (Int.tmod (wrap64 (a0)) (y168.length : Int))).toList = ([67, 82, 69, 65, 84, 69, 32, 84, 65, 66, 76, 69] : List UInt8) then ((impl_Tag.f k (rdOf ByteArray.empty y168 (Int.tmod (wrap64 (a0)) (y168.length : Int)))).bind fun bt181 => (if bt181.2.2 = true then (if bt181.1.toList = (rdOf ByteArray.empty y168 (Int.tmod (wrap64 (a0)) (y168.length : Int))).toList then (some (bt181.2.1 == 0)) else (some false)) else (some false))) else ((impl_Tag.f k (((rdOf ByteArray.empty y168 (Int.tmod (wrap64 (a0)) (y168.length : Int))) ++ (⟨#[32]⟩ : ByteArray)) ++ t172)).bind fun bt184 => (if bt184.2.2 = true then (if bt184.1.toList = (rdOf ByteArray.empty y168 (Int.tmod (wrap64 (a0)) (y168.length : Int))).toList then (some (bt184.2.1 == a1)) else (some false)) else (some false)))))) else (none))) else (none)) else (none)) else (none))) = some r := by first | (rw [hy168]; with_reducible exact H) | (have H2_ := (Option.bind_some _ _).symm.trans H; rw [hy168]; with_reducible exact H2_) | (have H2_ := (Option.bind_some _ _).symm.trans H; with_reducible exact H2_) | with_reducible exact H | (rw [hy168]; exact H) | exact H
    have Ny168 := Aside0.mk hy168
    clear hy168
    by_cases c5 : (y168.length : Int) = 0
    · rw [if_pos c5] at H
      exact absurd H (by simp)
    · rw [if_neg c5] at H
      have c5b0 : ((y168.length : Int) == 0) = false := beq_eq_false_iff_ne.mpr c5
      have c5b1 : ((y168.length : Int) != 0) = true := bne_iff_ne.mpr c5
      have c5b2 : ¬ (y168 = []) := fun h_ => c5 (by rw [h_]; rfl)
      obtain ⟨ji6, hji6⟩ : ∃ j_ : Int, (Int.tmod (wrap64 (a0)) (y168.length : Int)) = j_ := ⟨_, rfl⟩
      replace H : (if 0 ≤ (ji6) then (if (ji6) < (y168.length : Int) then (if (rdOf ByteArray.empty y168 (ji6)).size + 1 ≤ 9223372036854775807 then ((spec_Number.f k a1).bind fun t172 => (if ((rdOf ByteArray.empty y168 (ji6)) ++ (⟨#[32]⟩ : ByteArray)).size + t172.size ≤ 9223372036854775807 then (if (rdOf ByteArray.empty y168 (ji6)).toList = ([73, 78, 83, 69, 82, 84] : List UInt8) then ((spec_Number.f k (wrap64 (a2))).bind fun t173 => (if ((rdOf ByteArray.empty y168 (ji6)) ++ (⟨#[32]⟩ : ByteArray)).size + t173.size ≤ 9223372036854775807 then (if (((rdOf ByteArray.empty y168 (ji6)) ++ (⟨#[32]⟩ : ByteArray)) ++ t173).size + 1 ≤ 9223372036854775807 then ((spec_Number.f k a1).bind fun t174 => (if ((((rdOf ByteArray.empty y168 (ji6)) ++ (⟨#[32]⟩ : ByteArray)) ++ t173) ++ (⟨#[32]⟩ : ByteArray)).size + t174.size ≤ 9223372036854775807 then ((impl_Tag.f k (((((rdOf ByteArray.empty y168 (ji6)) ++ (⟨#[32]⟩ : ByteArray)) ++ t173) ++ (⟨#[32]⟩ : ByteArray)) ++ t174)).bind fun bt175 => (if bt175.2.2 = true then (if bt175.1.toList = (rdOf ByteArray.empty y168 (ji6)).toList then (some (bt175.2.1 == a1)) else (some false)) else (some false))) else (none))) else (none)) else (none))) else (if (rdOf ByteArray.empty y168 (ji6)).toList = ([66, 69, 71, 73, 78] : List UInt8) then ((impl_Tag.f k (rdOf ByteArray.empty y168 (ji6))).bind fun bt178 => (if bt178.2.2 = true then (if bt178.1.toList = (rdOf ByteArray.empty y168 (ji6)).toList then (some (bt178.2.1 == 0)) else (some false)) else (some false))) else (if (rdOf ByteArray.empty y168 (ji6)).toList = ([67, 82, 69, 65, 84, 69, 32, 84, 65, 66, 76, 69] : List UInt8) then ((impl_Tag.f k (rdOf ByteArray.empty y168 (ji6))).bind fun bt181 => (if bt181.2.2 = true then (if bt181.1.toList = (rdOf ByteArray.empty y168 (ji6)).toList then (some (bt181.2.1 == 0)) else (some false)) else (some false))) else ((impl_Tag.f k (((rdOf ByteArray.empty y168 (ji6)) ++ (⟨#[32]⟩ : ByteArray)) ++ t172)).bind fun bt184 => (if bt184.2.2 = true then (if bt184.1.toList = (rdOf ByteArray.empty y168 (ji6)).toList then (some (bt184.2.1 == a1)) else (some false)) else (some false)))))) else (none))) else (none)) else (none)) else (none)) = some r := by first | (rw [hji6] at H; exact H) | (simp only [hji6] at H ⊢; exact H)
      by_cases c7 : 0 ≤ (ji6)
      · rw [if_pos c7] at H
        have c7b0 : decide (0 ≤ (ji6)) = true := decide_eq_true c7
        clear c7
        by_cases c8 : (ji6) < (y168.length : Int)
        · rw [if_pos c8] at H
          have c8b0 : decide ((ji6) < (y168.length : Int)) = true := decide_eq_true c8
          clear c8
          by_cases c9 : (rdOf ByteArray.empty y168 (ji6)).size + 1 ≤ 9223372036854775807
          · rw [if_pos c9] at H
            have c9b0 := eq_true c9
            have c9b1 : decide ((rdOf ByteArray.empty y168 (ji6)).size + 1 ≤ 9223372036854775807) = true := decide_eq_true c9
            try have c9b2 : (9223372036854775807 < (rdOf ByteArray.empty y168 (ji6)).size + 1) = False := eq_false (Nat.not_lt.2 c9)
            replace H := Option.bind_eq_some_iff.mp H
            obtain ⟨t172, A100, H⟩ := H
            replace H : (if ((rdOf ByteArray.empty y168 (ji6)) ++ (⟨#[32]⟩ : ByteArray)).size + t172.size ≤ 9223372036854775807 then (if (rdOf ByteArray.empty y168 (ji6)).toList = ([73, 78, 83, 69, 82, 84] : List UInt8) then ((spec_Number.f k (wrap64 (a2))).bind fun t173 => (if ((rdOf ByteArray.empty y168 (ji6)) ++ (⟨#[32]⟩ : ByteArray)).size + t173.size ≤ 9223372036854775807 then (if (((rdOf ByteArray.empty y168 (ji6)) ++ (⟨#[32]⟩ : ByteArray)) ++ t173).size + 1 ≤ 9223372036854775807 then ((spec_Number.f k a1).bind fun t174 => (if ((((rdOf ByteArray.empty y168 (ji6)) ++ (⟨#[32]⟩ : ByteArray)) ++ t173) ++ (⟨#[32]⟩ : ByteArray)).size + t174.size ≤ 9223372036854775807 then ((impl_Tag.f k (((((rdOf ByteArray.empty y168 (ji6)) ++ (⟨#[32]⟩ : ByteArray)) ++ t173) ++ (⟨#[32]⟩ : ByteArray)) ++ t174)).bind fun bt175 => (if bt175.2.2 = true then (if bt175.1.toList = (rdOf ByteArray.empty y168 (ji6)).toList then (some (bt175.2.1 == a1)) else (some false)) else (some false))) else (none))) else (none)) else (none))) else (if (rdOf ByteArray.empty y168 (ji6)).toList = ([66, 69, 71, 73, 78] : List UInt8) then ((impl_Tag.f k (rdOf ByteArray.empty y168 (ji6))).bind fun bt178 => (if bt178.2.2 = true then (if bt178.1.toList = (rdOf ByteArray.empty y168 (ji6)).toList then (some (bt178.2.1 == 0)) else (some false)) else (some false))) else (if (rdOf ByteArray.empty y168 (ji6)).toList = ([67, 82, 69, 65, 84, 69, 32, 84, 65, 66, 76, 69] : List UInt8) then ((impl_Tag.f k (rdOf ByteArray.empty y168 (ji6))).bind fun bt181 => (if bt181.2.2 = true then (if bt181.1.toList = (rdOf ByteArray.empty y168 (ji6)).toList then (some (bt181.2.1 == 0)) else (some false)) else (some false))) else ((impl_Tag.f k (((rdOf ByteArray.empty y168 (ji6)) ++ (⟨#[32]⟩ : ByteArray)) ++ t172)).bind fun bt184 => (if bt184.2.2 = true then (if bt184.1.toList = (rdOf ByteArray.empty y168 (ji6)).toList then (some (bt184.2.1 == a1)) else (some false)) else (some false)))))) else (none)) = some r := H
            have A10 := Aside0.mk A100
            clear A100
            by_cases c11 : ((rdOf ByteArray.empty y168 (ji6)) ++ (⟨#[32]⟩ : ByteArray)).size + t172.size ≤ 9223372036854775807
            · rw [if_pos c11] at H
              have c11b0 := eq_true c11
              have c11b1 : decide (((rdOf ByteArray.empty y168 (ji6)) ++ (⟨#[32]⟩ : ByteArray)).size + t172.size ≤ 9223372036854775807) = true := decide_eq_true c11
              try have c11b2 : (9223372036854775807 < ((rdOf ByteArray.empty y168 (ji6)) ++ (⟨#[32]⟩ : ByteArray)).size + t172.size) = False := eq_false (Nat.not_lt.2 c11)
              try have c11b3 : (9223372036854775807 < (rdOf ByteArray.empty y168 (ji6)).size + 1 + t172.size) = False := eq_false (by have h_ := c11; simp only [ByteArray.size_append, show (⟨#[32]⟩ : ByteArray).size = 1 from rfl] at h_; omega)
              by_cases c12 : (rdOf ByteArray.empty y168 (ji6)).toList = ([73, 78, 83, 69, 82, 84] : List UInt8)
              · rw [if_pos c12] at H
                have c12b0 : ((rdOf ByteArray.empty y168 (ji6)).toList == ([73, 78, 83, 69, 82, 84] : List UInt8)) = true := beq_iff_eq.mpr c12
                have c12b1 : ((rdOf ByteArray.empty y168 (ji6)).toList != ([73, 78, 83, 69, 82, 84] : List UInt8)) = false := bne_eq_false_iff_eq.mpr c12
                clear c12
                replace H := Option.bind_eq_some_iff.mp H
                obtain ⟨t173, A130, H⟩ := H
                replace H : (if ((rdOf ByteArray.empty y168 (ji6)) ++ (⟨#[32]⟩ : ByteArray)).size + t173.size ≤ 9223372036854775807 then (if (((rdOf ByteArray.empty y168 (ji6)) ++ (⟨#[32]⟩ : ByteArray)) ++ t173).size + 1 ≤ 9223372036854775807 then ((spec_Number.f k a1).bind fun t174 => (if ((((rdOf ByteArray.empty y168 (ji6)) ++ (⟨#[32]⟩ : ByteArray)) ++ t173) ++ (⟨#[32]⟩ : ByteArray)).size + t174.size ≤ 9223372036854775807 then ((impl_Tag.f k (((((rdOf ByteArray.empty y168 (ji6)) ++ (⟨#[32]⟩ : ByteArray)) ++ t173) ++ (⟨#[32]⟩ : ByteArray)) ++ t174)).bind fun bt175 => (if bt175.2.2 = true then (if bt175.1.toList = (rdOf ByteArray.empty y168 (ji6)).toList then (some (bt175.2.1 == a1)) else (some false)) else (some false))) else (none))) else (none)) else (none)) = some r := H
                have A13 := Aside0.mk A130
                clear A130
                by_cases c14 : ((rdOf ByteArray.empty y168 (ji6)) ++ (⟨#[32]⟩ : ByteArray)).size + t173.size ≤ 9223372036854775807
                · rw [if_pos c14] at H
                  have c14b0 := eq_true c14
                  have c14b1 : decide (((rdOf ByteArray.empty y168 (ji6)) ++ (⟨#[32]⟩ : ByteArray)).size + t173.size ≤ 9223372036854775807) = true := decide_eq_true c14
                  try have c14b2 : (9223372036854775807 < ((rdOf ByteArray.empty y168 (ji6)) ++ (⟨#[32]⟩ : ByteArray)).size + t173.size) = False := eq_false (Nat.not_lt.2 c14)
                  try have c14b3 : (9223372036854775807 < (rdOf ByteArray.empty y168 (ji6)).size + 1 + t173.size) = False := eq_false (by have h_ := c14; simp only [ByteArray.size_append, show (⟨#[32]⟩ : ByteArray).size = 1 from rfl] at h_; omega)
                  by_cases c15 : (((rdOf ByteArray.empty y168 (ji6)) ++ (⟨#[32]⟩ : ByteArray)) ++ t173).size + 1 ≤ 9223372036854775807
                  · rw [if_pos c15] at H
                    have c15b0 := eq_true c15
                    have c15b1 : decide ((((rdOf ByteArray.empty y168 (ji6)) ++ (⟨#[32]⟩ : ByteArray)) ++ t173).size + 1 ≤ 9223372036854775807) = true := decide_eq_true c15
                    try have c15b2 : (9223372036854775807 < (((rdOf ByteArray.empty y168 (ji6)) ++ (⟨#[32]⟩ : ByteArray)) ++ t173).size + 1) = False := eq_false (Nat.not_lt.2 c15)
                    try have c15b3 : (9223372036854775807 < (rdOf ByteArray.empty y168 (ji6)).size + 1 + t173.size + 1) = False := eq_false (by have h_ := c15; simp only [ByteArray.size_append, show (⟨#[32]⟩ : ByteArray).size = 1 from rfl] at h_; omega)
                    replace H := Option.bind_eq_some_iff.mp H
                    obtain ⟨t174, A160, H⟩ := H
                    replace H : (if ((((rdOf ByteArray.empty y168 (ji6)) ++ (⟨#[32]⟩ : ByteArray)) ++ t173) ++ (⟨#[32]⟩ : ByteArray)).size + t174.size ≤ 9223372036854775807 then ((impl_Tag.f k (((((rdOf ByteArray.empty y168 (ji6)) ++ (⟨#[32]⟩ : ByteArray)) ++ t173) ++ (⟨#[32]⟩ : ByteArray)) ++ t174)).bind fun bt175 => (if bt175.2.2 = true then (if bt175.1.toList = (rdOf ByteArray.empty y168 (ji6)).toList then (some (bt175.2.1 == a1)) else (some false)) else (some false))) else (none)) = some r := H
                    have A16 := Aside0.mk A160
                    clear A160
                    by_cases c17 : ((((rdOf ByteArray.empty y168 (ji6)) ++ (⟨#[32]⟩ : ByteArray)) ++ t173) ++ (⟨#[32]⟩ : ByteArray)).size + t174.size ≤ 9223372036854775807
                    · rw [if_pos c17] at H
                      have c17b0 := eq_true c17
                      have c17b1 : decide (((((rdOf ByteArray.empty y168 (ji6)) ++ (⟨#[32]⟩ : ByteArray)) ++ t173) ++ (⟨#[32]⟩ : ByteArray)).size + t174.size ≤ 9223372036854775807) = true := decide_eq_true c17
                      try have c17b2 : (9223372036854775807 < ((((rdOf ByteArray.empty y168 (ji6)) ++ (⟨#[32]⟩ : ByteArray)) ++ t173) ++ (⟨#[32]⟩ : ByteArray)).size + t174.size) = False := eq_false (Nat.not_lt.2 c17)
                      try have c17b3 : (9223372036854775807 < (rdOf ByteArray.empty y168 (ji6)).size + 1 + t173.size + 1 + t174.size) = False := eq_false (by have h_ := c17; simp only [ByteArray.size_append, show (⟨#[32]⟩ : ByteArray).size = 1 from rfl] at h_; omega)
                      replace H := Option.bind_eq_some_iff.mp H
                      obtain ⟨⟨t175, t176, t177⟩, A180, H⟩ := H
                      replace H : (if t177 = true then (if t175.toList = (rdOf ByteArray.empty y168 (ji6)).toList then (some (t176 == a1)) else (some false)) else (some false)) = some r := H
                      have A18 := Aside0.mk A180
                      clear A180
                      by_cases c19 : t177 = true
                      · subst c19
                        have H1 : (if t175.toList = (rdOf ByteArray.empty y168 (ji6)).toList then (some (t176 == a1)) else (some false)) = some r := by rw [if_pos rfl] at H; exact H
                        clear H
                        have H := H1
                        clear H1
                        by_cases c20 : t175.toList = (rdOf ByteArray.empty y168 (ji6)).toList
                        · rw [if_pos c20] at H
                          have c20b0 : (t175.toList == (rdOf ByteArray.empty y168 (ji6)).toList) = true := beq_iff_eq.mpr c20
                          have c20b1 : (t175.toList != (rdOf ByteArray.empty y168 (ji6)).toList) = false := bne_eq_false_iff_eq.mpr c20
                          clear c20
                          obtain rfl := Option.some.inj H
                          go_enter Tryd.func4, Tryd.ntmps4
                          go_wp2_with (first | ((with_reducible refine gate_dst (N := 16) rfl ?_); refine Kd.R_lit Kd.string _ 9 ?hg (N := 16) ?hd (xs := ([(⟨#[83, 69, 76, 69, 67, 84]⟩ : ByteArray), (⟨#[85, 80, 68, 65, 84, 69]⟩ : ByteArray), (⟨#[68, 69, 76, 69, 84, 69]⟩ : ByteArray), (⟨#[70, 69, 84, 67, 72]⟩ : ByteArray), (⟨#[77, 79, 86, 69]⟩ : ByteArray), (⟨#[67, 79, 80, 89]⟩ : ByteArray), (⟨#[73, 78, 83, 69, 82, 84]⟩ : ByteArray), (⟨#[66, 69, 71, 73, 78]⟩ : ByteArray), (⟨#[67, 82, 69, 65, 84, 69, 32, 84, 65, 66, 76, 69]⟩ : ByteArray)] : List ByteArray)) (inner := [.string (⟨#[83, 69, 76, 69, 67, 84]⟩ : ByteArray), .string (⟨#[85, 80, 68, 65, 84, 69]⟩ : ByteArray), .string (⟨#[68, 69, 76, 69, 84, 69]⟩ : ByteArray), .string (⟨#[70, 69, 84, 67, 72]⟩ : ByteArray), .string (⟨#[77, 79, 86, 69]⟩ : ByteArray), .string (⟨#[67, 79, 80, 89]⟩ : ByteArray), .string (⟨#[73, 78, 83, 69, 82, 84]⟩ : ByteArray), .string (⟨#[66, 69, 71, 73, 78]⟩ : ByteArray), .string (⟨#[67, 82, 69, 65, 84, 69, 32, 84, 65, 66, 76, 69]⟩ : ByteArray)]) (ok := fun _ => True) (okp := fun _ => True) ?hr ?hp (fun _ hk => hk) trivial (Below.refl _ _) (Nat.le_refl _) (by simp) ?_; (case hd => rfl); (case hg => rfl); (case hr => first | (go_simp; done) | (go_simp; rfl) | (go_simp; simp [IntKind.wrap_u8]; done)); (case hp => exact (Reps.one (show Kd.M Kd.string _ _ _ (⟨#[83, 69, 76, 69, 67, 84]⟩ : ByteArray) [.string (⟨#[83, 69, 76, 69, 67, 84]⟩ : ByteArray)] from rfl) (Reps.one (show Kd.M Kd.string _ _ _ (⟨#[85, 80, 68, 65, 84, 69]⟩ : ByteArray) [.string (⟨#[85, 80, 68, 65, 84, 69]⟩ : ByteArray)] from rfl) (Reps.one (show Kd.M Kd.string _ _ _ (⟨#[68, 69, 76, 69, 84, 69]⟩ : ByteArray) [.string (⟨#[68, 69, 76, 69, 84, 69]⟩ : ByteArray)] from rfl) (Reps.one (show Kd.M Kd.string _ _ _ (⟨#[70, 69, 84, 67, 72]⟩ : ByteArray) [.string (⟨#[70, 69, 84, 67, 72]⟩ : ByteArray)] from rfl) (Reps.one (show Kd.M Kd.string _ _ _ (⟨#[77, 79, 86, 69]⟩ : ByteArray) [.string (⟨#[77, 79, 86, 69]⟩ : ByteArray)] from rfl) (Reps.one (show Kd.M Kd.string _ _ _ (⟨#[67, 79, 80, 89]⟩ : ByteArray) [.string (⟨#[67, 79, 80, 89]⟩ : ByteArray)] from rfl) (Reps.one (show Kd.M Kd.string _ _ _ (⟨#[73, 78, 83, 69, 82, 84]⟩ : ByteArray) [.string (⟨#[73, 78, 83, 69, 82, 84]⟩ : ByteArray)] from rfl) (Reps.one (show Kd.M Kd.string _ _ _ (⟨#[66, 69, 71, 73, 78]⟩ : ByteArray) [.string (⟨#[66, 69, 71, 73, 78]⟩ : ByteArray)] from rfl) (Reps.one (show Kd.M Kd.string _ _ _ (⟨#[67, 82, 69, 65, 84, 69, 32, 84, 65, 66, 76, 69]⟩ : ByteArray) [.string (⟨#[67, 82, 69, 65, 84, 69, 32, 84, 65, 66, 76, 69]⟩ : ByteArray)] from rfl) (Reps.none _ _))))))))))); intro v169 w21 ho22 hb hg_ hnew_; clear hg_ hnew_; (first | rw [← Ny168.out] at ho22 | (simp only [Int.reduceToNat] at ho22; rw [← Ny168.out] at ho22)); have n0_ := Aside0.mk (Kd.R_lower ho22 (below_size (by repeat (first | (with_reducible first | exact HB.out | apply below_alloc | apply pw_below_drewN | apply below_drew1) | exact HB.out)))); have n1_ := Aside0.mk (below_step (by repeat (first | (with_reducible first | exact HB.out | apply below_alloc | apply pw_below_drewN | apply below_drew1) | exact HB.out)) hb); clear HB; have HO170 := n0_; have HB := n1_; clear n0_ n1_; clear hb ho22; obtain ⟨Ao23, co23, eo23⟩ := Kd.R_slice HO170.out; subst eo23; have p171 : 0 ≤ ((ji6) : Int) := of_decide_eq_true (by first | (with_reducible assumption) | assumption); have q171 : (ji6) < (y168.length : Int) := of_decide_eq_true (by first | (with_reducible assumption) | assumption); obtain ⟨ad171, e171, hx171_0⟩ := Kd.at_string (Kd.R_reads' HO170.out).2.2 (ji6) p171 q171; cases e171; replace p171 := eq_true p171; replace q171 := eq_true q171) | ((with_reducible refine gate_callee (f := 14) rfl ?_); refine goesL_ (some 28) rfl rfl Tryd.func14 (by kernel_rfl) rfl #[.int .i64 a1] rfl (by (try simp only [List.map_toArray, List.map_cons, List.map_nil]); first | done | rfl | (simp only [List.length_drop, List.length_take]; rfl)) ?_; (with_reducible refine (spec_Number.calls k a1 t172 _ A10.out).mono ?_); rintro e w24 ⟨rfl, hb⟩; refine ⟨_, rfl, ?_⟩; have n0_ := Aside0.mk (Kd.R_below (by (with_reducible repeat (first | apply Kd.R_alloc | apply Kd.R_drewN | apply Kd.R_drew)); exact HO170.out) hb); have n1_ := Aside0.mk (below_step (by repeat (first | (with_reducible first | exact HB.out | apply below_alloc | apply pw_below_drewN | apply below_drew1) | exact HB.out)) hb); clear HO170; clear HB; have HO170 := n0_; have HB := n1_; clear n0_ n1_; (try clear hb); (try clear hb2); (try clear hk); (try clear hi)) | ((with_reducible refine gate_callee (f := 14) rfl ?_); refine goesL_ (some 38) rfl rfl Tryd.func14 (by kernel_rfl) rfl #[.int .i64 (wrap64 (a2))] rfl (by (try simp only [List.map_toArray, List.map_cons, List.map_nil]); first | done | rfl | (simp only [List.length_drop, List.length_take]; rfl)) ?_; (with_reducible refine (spec_Number.calls k (wrap64 (a2)) t173 _ A13.out).mono ?_); rintro e w25 ⟨rfl, hb⟩; refine ⟨_, rfl, ?_⟩; have n0_ := Aside0.mk (Kd.R_below (by (with_reducible repeat (first | apply Kd.R_alloc | apply Kd.R_drewN | apply Kd.R_drew)); exact HO170.out) hb); have n1_ := Aside0.mk (below_step (by repeat (first | (with_reducible first | exact HB.out | apply below_alloc | apply pw_below_drewN | apply below_drew1) | exact HB.out)) hb); clear HO170; clear HB; have HO170 := n0_; have HB := n1_; clear n0_ n1_; (try clear hb); (try clear hb2); (try clear hk); (try clear hi)) | ((with_reducible refine gate_callee (f := 14) rfl ?_); refine goesL_ (some 42) rfl rfl Tryd.func14 (by kernel_rfl) rfl #[.int .i64 a1] rfl (by (try simp only [List.map_toArray, List.map_cons, List.map_nil]); first | done | rfl | (simp only [List.length_drop, List.length_take]; rfl)) ?_; (with_reducible refine (spec_Number.calls k a1 t174 _ A16.out).mono ?_); rintro e w26 ⟨rfl, hb⟩; refine ⟨_, rfl, ?_⟩; have n0_ := Aside0.mk (Kd.R_below (by (with_reducible repeat (first | apply Kd.R_alloc | apply Kd.R_drewN | apply Kd.R_drew)); exact HO170.out) hb); have n1_ := Aside0.mk (below_step (by repeat (first | (with_reducible first | exact HB.out | apply below_alloc | apply pw_below_drewN | apply below_drew1) | exact HB.out)) hb); clear HO170; clear HB; have HO170 := n0_; have HB := n1_; clear n0_ n1_; (try clear hb); (try clear hb2); (try clear hk); (try clear hi)) | ((with_reducible refine gate_callee (f := 15) rfl ?_); refine goesL_ (some 50) rfl rfl Tryd.func15 (by kernel_rfl) rfl #[.string (((((rdOf ByteArray.empty y168 (ji6)) ++ (⟨#[32]⟩ : ByteArray)) ++ t173) ++ (⟨#[32]⟩ : ByteArray)) ++ t174)] rfl (by (try simp only [List.map_toArray, List.map_cons, List.map_nil]); first | done | (simp only [hji6]; rfl) | rfl | (simp only [List.length_drop, List.length_take]; rfl)) ?_; (with_reducible refine (impl_Tag.calls k (((((rdOf ByteArray.empty y168 (ji6)) ++ (⟨#[32]⟩ : ByteArray)) ++ t173) ++ (⟨#[32]⟩ : ByteArray)) ++ t174) t175 t176 true _ A18.out).mono ?_); rintro e w27 ⟨rfl, hb⟩; refine ⟨_, rfl, ?_⟩; have n0_ := Aside0.mk (Kd.R_below (by (with_reducible repeat (first | apply Kd.R_alloc | apply Kd.R_drewN | apply Kd.R_drew)); exact HO170.out) hb); have n1_ := Aside0.mk (below_step (by repeat (first | (with_reducible first | exact HB.out | apply below_alloc | apply pw_below_drewN | apply below_drew1) | exact HB.out)) hb); clear HO170; clear HB; have HO170 := n0_; have HB := n1_; clear n0_ n1_; (try clear hb); (try clear hb2); (try clear hk); (try clear hi)))
                          go_ret
                          exact ⟨by first | rfl | (simp [errW_none, errW_some] <;> rfl) | (simp only [← hji6]; first | rfl | (simp [errW_none, errW_some] <;> rfl)) | (simp [*, errW_none, errW_some] <;> rfl), by repeat (first | (with_reducible first | exact HB.out | apply below_alloc | apply pw_below_drewN | apply below_drew1) | exact HB.out)⟩
                        · rw [if_neg c20] at H
                          have c20b0 : (t175.toList == (rdOf ByteArray.empty y168 (ji6)).toList) = false := beq_eq_false_iff_ne.mpr c20
                          have c20b1 : (t175.toList != (rdOf ByteArray.empty y168 (ji6)).toList) = true := bne_iff_ne.mpr c20
                          obtain rfl := Option.some.inj H
                          go_enter Tryd.func4, Tryd.ntmps4
                          go_wp2_with (first | ((with_reducible refine gate_dst (N := 16) rfl ?_); refine Kd.R_lit Kd.string _ 9 ?hg (N := 16) ?hd (xs := ([(⟨#[83, 69, 76, 69, 67, 84]⟩ : ByteArray), (⟨#[85, 80, 68, 65, 84, 69]⟩ : ByteArray), (⟨#[68, 69, 76, 69, 84, 69]⟩ : ByteArray), (⟨#[70, 69, 84, 67, 72]⟩ : ByteArray), (⟨#[77, 79, 86, 69]⟩ : ByteArray), (⟨#[67, 79, 80, 89]⟩ : ByteArray), (⟨#[73, 78, 83, 69, 82, 84]⟩ : ByteArray), (⟨#[66, 69, 71, 73, 78]⟩ : ByteArray), (⟨#[67, 82, 69, 65, 84, 69, 32, 84, 65, 66, 76, 69]⟩ : ByteArray)] : List ByteArray)) (inner := [.string (⟨#[83, 69, 76, 69, 67, 84]⟩ : ByteArray), .string (⟨#[85, 80, 68, 65, 84, 69]⟩ : ByteArray), .string (⟨#[68, 69, 76, 69, 84, 69]⟩ : ByteArray), .string (⟨#[70, 69, 84, 67, 72]⟩ : ByteArray), .string (⟨#[77, 79, 86, 69]⟩ : ByteArray), .string (⟨#[67, 79, 80, 89]⟩ : ByteArray), .string (⟨#[73, 78, 83, 69, 82, 84]⟩ : ByteArray), .string (⟨#[66, 69, 71, 73, 78]⟩ : ByteArray), .string (⟨#[67, 82, 69, 65, 84, 69, 32, 84, 65, 66, 76, 69]⟩ : ByteArray)]) (ok := fun _ => True) (okp := fun _ => True) ?hr ?hp (fun _ hk => hk) trivial (Below.refl _ _) (Nat.le_refl _) (by simp) ?_; (case hd => rfl); (case hg => rfl); (case hr => first | (go_simp; done) | (go_simp; rfl) | (go_simp; simp [IntKind.wrap_u8]; done)); (case hp => exact (Reps.one (show Kd.M Kd.string _ _ _ (⟨#[83, 69, 76, 69, 67, 84]⟩ : ByteArray) [.string (⟨#[83, 69, 76, 69, 67, 84]⟩ : ByteArray)] from rfl) (Reps.one (show Kd.M Kd.string _ _ _ (⟨#[85, 80, 68, 65, 84, 69]⟩ : ByteArray) [.string (⟨#[85, 80, 68, 65, 84, 69]⟩ : ByteArray)] from rfl) (Reps.one (show Kd.M Kd.string _ _ _ (⟨#[68, 69, 76, 69, 84, 69]⟩ : ByteArray) [.string (⟨#[68, 69, 76, 69, 84, 69]⟩ : ByteArray)] from rfl) (Reps.one (show Kd.M Kd.string _ _ _ (⟨#[70, 69, 84, 67, 72]⟩ : ByteArray) [.string (⟨#[70, 69, 84, 67, 72]⟩ : ByteArray)] from rfl) (Reps.one (show Kd.M Kd.string _ _ _ (⟨#[77, 79, 86, 69]⟩ : ByteArray) [.string (⟨#[77, 79, 86, 69]⟩ : ByteArray)] from rfl) (Reps.one (show Kd.M Kd.string _ _ _ (⟨#[67, 79, 80, 89]⟩ : ByteArray) [.string (⟨#[67, 79, 80, 89]⟩ : ByteArray)] from rfl) (Reps.one (show Kd.M Kd.string _ _ _ (⟨#[73, 78, 83, 69, 82, 84]⟩ : ByteArray) [.string (⟨#[73, 78, 83, 69, 82, 84]⟩ : ByteArray)] from rfl) (Reps.one (show Kd.M Kd.string _ _ _ (⟨#[66, 69, 71, 73, 78]⟩ : ByteArray) [.string (⟨#[66, 69, 71, 73, 78]⟩ : ByteArray)] from rfl) (Reps.one (show Kd.M Kd.string _ _ _ (⟨#[67, 82, 69, 65, 84, 69, 32, 84, 65, 66, 76, 69]⟩ : ByteArray) [.string (⟨#[67, 82, 69, 65, 84, 69, 32, 84, 65, 66, 76, 69]⟩ : ByteArray)] from rfl) (Reps.none _ _))))))))))); intro v169 w28 ho29 hb hg_ hnew_; clear hg_ hnew_; (first | rw [← Ny168.out] at ho29 | (simp only [Int.reduceToNat] at ho29; rw [← Ny168.out] at ho29)); have n0_ := Aside0.mk (Kd.R_lower ho29 (below_size (by repeat (first | (with_reducible first | exact HB.out | apply below_alloc | apply pw_below_drewN | apply below_drew1) | exact HB.out)))); have n1_ := Aside0.mk (below_step (by repeat (first | (with_reducible first | exact HB.out | apply below_alloc | apply pw_below_drewN | apply below_drew1) | exact HB.out)) hb); clear HB; have HO170 := n0_; have HB := n1_; clear n0_ n1_; clear hb ho29; obtain ⟨Ao30, co30, eo30⟩ := Kd.R_slice HO170.out; subst eo30; have p171 : 0 ≤ ((ji6) : Int) := of_decide_eq_true (by first | (with_reducible assumption) | assumption); have q171 : (ji6) < (y168.length : Int) := of_decide_eq_true (by first | (with_reducible assumption) | assumption); obtain ⟨ad171, e171, hx171_0⟩ := Kd.at_string (Kd.R_reads' HO170.out).2.2 (ji6) p171 q171; cases e171; replace p171 := eq_true p171; replace q171 := eq_true q171) | ((with_reducible refine gate_callee (f := 14) rfl ?_); refine goesL_ (some 28) rfl rfl Tryd.func14 (by kernel_rfl) rfl #[.int .i64 a1] rfl (by (try simp only [List.map_toArray, List.map_cons, List.map_nil]); first | done | rfl | (simp only [List.length_drop, List.length_take]; rfl)) ?_; (with_reducible refine (spec_Number.calls k a1 t172 _ A10.out).mono ?_); rintro e w31 ⟨rfl, hb⟩; refine ⟨_, rfl, ?_⟩; have n0_ := Aside0.mk (Kd.R_below (by (with_reducible repeat (first | apply Kd.R_alloc | apply Kd.R_drewN | apply Kd.R_drew)); exact HO170.out) hb); have n1_ := Aside0.mk (below_step (by repeat (first | (with_reducible first | exact HB.out | apply below_alloc | apply pw_below_drewN | apply below_drew1) | exact HB.out)) hb); clear HO170; clear HB; have HO170 := n0_; have HB := n1_; clear n0_ n1_; (try clear hb); (try clear hb2); (try clear hk); (try clear hi)) | ((with_reducible refine gate_callee (f := 14) rfl ?_); refine goesL_ (some 38) rfl rfl Tryd.func14 (by kernel_rfl) rfl #[.int .i64 (wrap64 (a2))] rfl (by (try simp only [List.map_toArray, List.map_cons, List.map_nil]); first | done | rfl | (simp only [List.length_drop, List.length_take]; rfl)) ?_; (with_reducible refine (spec_Number.calls k (wrap64 (a2)) t173 _ A13.out).mono ?_); rintro e w32 ⟨rfl, hb⟩; refine ⟨_, rfl, ?_⟩; have n0_ := Aside0.mk (Kd.R_below (by (with_reducible repeat (first | apply Kd.R_alloc | apply Kd.R_drewN | apply Kd.R_drew)); exact HO170.out) hb); have n1_ := Aside0.mk (below_step (by repeat (first | (with_reducible first | exact HB.out | apply below_alloc | apply pw_below_drewN | apply below_drew1) | exact HB.out)) hb); clear HO170; clear HB; have HO170 := n0_; have HB := n1_; clear n0_ n1_; (try clear hb); (try clear hb2); (try clear hk); (try clear hi)) | ((with_reducible refine gate_callee (f := 14) rfl ?_); refine goesL_ (some 42) rfl rfl Tryd.func14 (by kernel_rfl) rfl #[.int .i64 a1] rfl (by (try simp only [List.map_toArray, List.map_cons, List.map_nil]); first | done | rfl | (simp only [List.length_drop, List.length_take]; rfl)) ?_; (with_reducible refine (spec_Number.calls k a1 t174 _ A16.out).mono ?_); rintro e w33 ⟨rfl, hb⟩; refine ⟨_, rfl, ?_⟩; have n0_ := Aside0.mk (Kd.R_below (by (with_reducible repeat (first | apply Kd.R_alloc | apply Kd.R_drewN | apply Kd.R_drew)); exact HO170.out) hb); have n1_ := Aside0.mk (below_step (by repeat (first | (with_reducible first | exact HB.out | apply below_alloc | apply pw_below_drewN | apply below_drew1) | exact HB.out)) hb); clear HO170; clear HB; have HO170 := n0_; have HB := n1_; clear n0_ n1_; (try clear hb); (try clear hb2); (try clear hk); (try clear hi)) | ((with_reducible refine gate_callee (f := 15) rfl ?_); refine goesL_ (some 50) rfl rfl Tryd.func15 (by kernel_rfl) rfl #[.string (((((rdOf ByteArray.empty y168 (ji6)) ++ (⟨#[32]⟩ : ByteArray)) ++ t173) ++ (⟨#[32]⟩ : ByteArray)) ++ t174)] rfl (by (try simp only [List.map_toArray, List.map_cons, List.map_nil]); first | done | (simp only [hji6]; rfl) | rfl | (simp only [List.length_drop, List.length_take]; rfl)) ?_; (with_reducible refine (impl_Tag.calls k (((((rdOf ByteArray.empty y168 (ji6)) ++ (⟨#[32]⟩ : ByteArray)) ++ t173) ++ (⟨#[32]⟩ : ByteArray)) ++ t174) t175 t176 true _ A18.out).mono ?_); rintro e w34 ⟨rfl, hb⟩; refine ⟨_, rfl, ?_⟩; have n0_ := Aside0.mk (Kd.R_below (by (with_reducible repeat (first | apply Kd.R_alloc | apply Kd.R_drewN | apply Kd.R_drew)); exact HO170.out) hb); have n1_ := Aside0.mk (below_step (by repeat (first | (with_reducible first | exact HB.out | apply below_alloc | apply pw_below_drewN | apply below_drew1) | exact HB.out)) hb); clear HO170; clear HB; have HO170 := n0_; have HB := n1_; clear n0_ n1_; (try clear hb); (try clear hb2); (try clear hk); (try clear hi)))
                          go_ret
                          exact ⟨by first | rfl | (simp [errW_none, errW_some] <;> rfl) | (simp only [← hji6]; first | rfl | (simp [errW_none, errW_some] <;> rfl)) | (simp [*, errW_none, errW_some] <;> rfl), by repeat (first | (with_reducible first | exact HB.out | apply below_alloc | apply pw_below_drewN | apply below_drew1) | exact HB.out)⟩
                      · replace c19 := Bool.eq_false_iff.mpr c19
                        subst c19
                        have H1 : (some false) = some r := by rw [if_neg (show ¬ (false = true) by decide)] at H; exact H
                        clear H
                        have H := H1
                        clear H1
                        obtain rfl := Option.some.inj H
                        go_enter Tryd.func4, Tryd.ntmps4
                        go_wp2_with (first | ((with_reducible refine gate_dst (N := 16) rfl ?_); refine Kd.R_lit Kd.string _ 9 ?hg (N := 16) ?hd (xs := ([(⟨#[83, 69, 76, 69, 67, 84]⟩ : ByteArray), (⟨#[85, 80, 68, 65, 84, 69]⟩ : ByteArray), (⟨#[68, 69, 76, 69, 84, 69]⟩ : ByteArray), (⟨#[70, 69, 84, 67, 72]⟩ : ByteArray), (⟨#[77, 79, 86, 69]⟩ : ByteArray), (⟨#[67, 79, 80, 89]⟩ : ByteArray), (⟨#[73, 78, 83, 69, 82, 84]⟩ : ByteArray), (⟨#[66, 69, 71, 73, 78]⟩ : ByteArray), (⟨#[67, 82, 69, 65, 84, 69, 32, 84, 65, 66, 76, 69]⟩ : ByteArray)] : List ByteArray)) (inner := [.string (⟨#[83, 69, 76, 69, 67, 84]⟩ : ByteArray), .string (⟨#[85, 80, 68, 65, 84, 69]⟩ : ByteArray), .string (⟨#[68, 69, 76, 69, 84, 69]⟩ : ByteArray), .string (⟨#[70, 69, 84, 67, 72]⟩ : ByteArray), .string (⟨#[77, 79, 86, 69]⟩ : ByteArray), .string (⟨#[67, 79, 80, 89]⟩ : ByteArray), .string (⟨#[73, 78, 83, 69, 82, 84]⟩ : ByteArray), .string (⟨#[66, 69, 71, 73, 78]⟩ : ByteArray), .string (⟨#[67, 82, 69, 65, 84, 69, 32, 84, 65, 66, 76, 69]⟩ : ByteArray)]) (ok := fun _ => True) (okp := fun _ => True) ?hr ?hp (fun _ hk => hk) trivial (Below.refl _ _) (Nat.le_refl _) (by simp) ?_; (case hd => rfl); (case hg => rfl); (case hr => first | (go_simp; done) | (go_simp; rfl) | (go_simp; simp [IntKind.wrap_u8]; done)); (case hp => exact (Reps.one (show Kd.M Kd.string _ _ _ (⟨#[83, 69, 76, 69, 67, 84]⟩ : ByteArray) [.string (⟨#[83, 69, 76, 69, 67, 84]⟩ : ByteArray)] from rfl) (Reps.one (show Kd.M Kd.string _ _ _ (⟨#[85, 80, 68, 65, 84, 69]⟩ : ByteArray) [.string (⟨#[85, 80, 68, 65, 84, 69]⟩ : ByteArray)] from rfl) (Reps.one (show Kd.M Kd.string _ _ _ (⟨#[68, 69, 76, 69, 84, 69]⟩ : ByteArray) [.string (⟨#[68, 69, 76, 69, 84, 69]⟩ : ByteArray)] from rfl) (Reps.one (show Kd.M Kd.string _ _ _ (⟨#[70, 69, 84, 67, 72]⟩ : ByteArray) [.string (⟨#[70, 69, 84, 67, 72]⟩ : ByteArray)] from rfl) (Reps.one (show Kd.M Kd.string _ _ _ (⟨#[77, 79, 86, 69]⟩ : ByteArray) [.string (⟨#[77, 79, 86, 69]⟩ : ByteArray)] from rfl) (Reps.one (show Kd.M Kd.string _ _ _ (⟨#[67, 79, 80, 89]⟩ : ByteArray) [.string (⟨#[67, 79, 80, 89]⟩ : ByteArray)] from rfl) (Reps.one (show Kd.M Kd.string _ _ _ (⟨#[73, 78, 83, 69, 82, 84]⟩ : ByteArray) [.string (⟨#[73, 78, 83, 69, 82, 84]⟩ : ByteArray)] from rfl) (Reps.one (show Kd.M Kd.string _ _ _ (⟨#[66, 69, 71, 73, 78]⟩ : ByteArray) [.string (⟨#[66, 69, 71, 73, 78]⟩ : ByteArray)] from rfl) (Reps.one (show Kd.M Kd.string _ _ _ (⟨#[67, 82, 69, 65, 84, 69, 32, 84, 65, 66, 76, 69]⟩ : ByteArray) [.string (⟨#[67, 82, 69, 65, 84, 69, 32, 84, 65, 66, 76, 69]⟩ : ByteArray)] from rfl) (Reps.none _ _))))))))))); intro v169 w35 ho36 hb hg_ hnew_; clear hg_ hnew_; (first | rw [← Ny168.out] at ho36 | (simp only [Int.reduceToNat] at ho36; rw [← Ny168.out] at ho36)); have n0_ := Aside0.mk (Kd.R_lower ho36 (below_size (by repeat (first | (with_reducible first | exact HB.out | apply below_alloc | apply pw_below_drewN | apply below_drew1) | exact HB.out)))); have n1_ := Aside0.mk (below_step (by repeat (first | (with_reducible first | exact HB.out | apply below_alloc | apply pw_below_drewN | apply below_drew1) | exact HB.out)) hb); clear HB; have HO170 := n0_; have HB := n1_; clear n0_ n1_; clear hb ho36; obtain ⟨Ao37, co37, eo37⟩ := Kd.R_slice HO170.out; subst eo37; have p171 : 0 ≤ ((ji6) : Int) := of_decide_eq_true (by first | (with_reducible assumption) | assumption); have q171 : (ji6) < (y168.length : Int) := of_decide_eq_true (by first | (with_reducible assumption) | assumption); obtain ⟨ad171, e171, hx171_0⟩ := Kd.at_string (Kd.R_reads' HO170.out).2.2 (ji6) p171 q171; cases e171; replace p171 := eq_true p171; replace q171 := eq_true q171) | ((with_reducible refine gate_callee (f := 14) rfl ?_); refine goesL_ (some 28) rfl rfl Tryd.func14 (by kernel_rfl) rfl #[.int .i64 a1] rfl (by (try simp only [List.map_toArray, List.map_cons, List.map_nil]); first | done | rfl | (simp only [List.length_drop, List.length_take]; rfl)) ?_; (with_reducible refine (spec_Number.calls k a1 t172 _ A10.out).mono ?_); rintro e w38 ⟨rfl, hb⟩; refine ⟨_, rfl, ?_⟩; have n0_ := Aside0.mk (Kd.R_below (by (with_reducible repeat (first | apply Kd.R_alloc | apply Kd.R_drewN | apply Kd.R_drew)); exact HO170.out) hb); have n1_ := Aside0.mk (below_step (by repeat (first | (with_reducible first | exact HB.out | apply below_alloc | apply pw_below_drewN | apply below_drew1) | exact HB.out)) hb); clear HO170; clear HB; have HO170 := n0_; have HB := n1_; clear n0_ n1_; (try clear hb); (try clear hb2); (try clear hk); (try clear hi)) | ((with_reducible refine gate_callee (f := 14) rfl ?_); refine goesL_ (some 38) rfl rfl Tryd.func14 (by kernel_rfl) rfl #[.int .i64 (wrap64 (a2))] rfl (by (try simp only [List.map_toArray, List.map_cons, List.map_nil]); first | done | rfl | (simp only [List.length_drop, List.length_take]; rfl)) ?_; (with_reducible refine (spec_Number.calls k (wrap64 (a2)) t173 _ A13.out).mono ?_); rintro e w39 ⟨rfl, hb⟩; refine ⟨_, rfl, ?_⟩; have n0_ := Aside0.mk (Kd.R_below (by (with_reducible repeat (first | apply Kd.R_alloc | apply Kd.R_drewN | apply Kd.R_drew)); exact HO170.out) hb); have n1_ := Aside0.mk (below_step (by repeat (first | (with_reducible first | exact HB.out | apply below_alloc | apply pw_below_drewN | apply below_drew1) | exact HB.out)) hb); clear HO170; clear HB; have HO170 := n0_; have HB := n1_; clear n0_ n1_; (try clear hb); (try clear hb2); (try clear hk); (try clear hi)) | ((with_reducible refine gate_callee (f := 14) rfl ?_); refine goesL_ (some 42) rfl rfl Tryd.func14 (by kernel_rfl) rfl #[.int .i64 a1] rfl (by (try simp only [List.map_toArray, List.map_cons, List.map_nil]); first | done | rfl | (simp only [List.length_drop, List.length_take]; rfl)) ?_; (with_reducible refine (spec_Number.calls k a1 t174 _ A16.out).mono ?_); rintro e w40 ⟨rfl, hb⟩; refine ⟨_, rfl, ?_⟩; have n0_ := Aside0.mk (Kd.R_below (by (with_reducible repeat (first | apply Kd.R_alloc | apply Kd.R_drewN | apply Kd.R_drew)); exact HO170.out) hb); have n1_ := Aside0.mk (below_step (by repeat (first | (with_reducible first | exact HB.out | apply below_alloc | apply pw_below_drewN | apply below_drew1) | exact HB.out)) hb); clear HO170; clear HB; have HO170 := n0_; have HB := n1_; clear n0_ n1_; (try clear hb); (try clear hb2); (try clear hk); (try clear hi)) | ((with_reducible refine gate_callee (f := 15) rfl ?_); refine goesL_ (some 50) rfl rfl Tryd.func15 (by kernel_rfl) rfl #[.string (((((rdOf ByteArray.empty y168 (ji6)) ++ (⟨#[32]⟩ : ByteArray)) ++ t173) ++ (⟨#[32]⟩ : ByteArray)) ++ t174)] rfl (by (try simp only [List.map_toArray, List.map_cons, List.map_nil]); first | done | (simp only [hji6]; rfl) | rfl | (simp only [List.length_drop, List.length_take]; rfl)) ?_; (with_reducible refine (impl_Tag.calls k (((((rdOf ByteArray.empty y168 (ji6)) ++ (⟨#[32]⟩ : ByteArray)) ++ t173) ++ (⟨#[32]⟩ : ByteArray)) ++ t174) t175 t176 false _ A18.out).mono ?_); rintro e w41 ⟨rfl, hb⟩; refine ⟨_, rfl, ?_⟩; have n0_ := Aside0.mk (Kd.R_below (by (with_reducible repeat (first | apply Kd.R_alloc | apply Kd.R_drewN | apply Kd.R_drew)); exact HO170.out) hb); have n1_ := Aside0.mk (below_step (by repeat (first | (with_reducible first | exact HB.out | apply below_alloc | apply pw_below_drewN | apply below_drew1) | exact HB.out)) hb); clear HO170; clear HB; have HO170 := n0_; have HB := n1_; clear n0_ n1_; (try clear hb); (try clear hb2); (try clear hk); (try clear hi)))
                        go_ret
                        exact ⟨by first | rfl | (simp [errW_none, errW_some] <;> rfl) | (simp only [← hji6]; first | rfl | (simp [errW_none, errW_some] <;> rfl)) | (simp [*, errW_none, errW_some] <;> rfl), by repeat (first | (with_reducible first | exact HB.out | apply below_alloc | apply pw_below_drewN | apply below_drew1) | exact HB.out)⟩
                    · rw [if_neg c17] at H
                      exact absurd H (by simp)
                  · rw [if_neg c15] at H
                    exact absurd H (by simp)
                · rw [if_neg c14] at H
                  exact absurd H (by simp)
              · rw [if_neg c12] at H
                have c12b0 : ((rdOf ByteArray.empty y168 (ji6)).toList == ([73, 78, 83, 69, 82, 84] : List UInt8)) = false := beq_eq_false_iff_ne.mpr c12
                have c12b1 : ((rdOf ByteArray.empty y168 (ji6)).toList != ([73, 78, 83, 69, 82, 84] : List UInt8)) = true := bne_iff_ne.mpr c12
                by_cases c42 : (rdOf ByteArray.empty y168 (ji6)).toList = ([66, 69, 71, 73, 78] : List UInt8)
                · rw [if_pos c42] at H
                  have c42b0 : ((rdOf ByteArray.empty y168 (ji6)).toList == ([66, 69, 71, 73, 78] : List UInt8)) = true := beq_iff_eq.mpr c42
                  have c42b1 : ((rdOf ByteArray.empty y168 (ji6)).toList != ([66, 69, 71, 73, 78] : List UInt8)) = false := bne_eq_false_iff_eq.mpr c42
                  clear c42
                  replace H := Option.bind_eq_some_iff.mp H
                  obtain ⟨⟨t178, t179, t180⟩, A430, H⟩ := H
                  replace H : (if t180 = true then (if t178.toList = (rdOf ByteArray.empty y168 (ji6)).toList then (some (t179 == 0)) else (some false)) else (some false)) = some r := H
                  have A43 := Aside0.mk A430
                  clear A430
                  by_cases c44 : t180 = true
                  · subst c44
                    have H1 : (if t178.toList = (rdOf ByteArray.empty y168 (ji6)).toList then (some (t179 == 0)) else (some false)) = some r := by rw [if_pos rfl] at H; exact H
                    clear H
                    have H := H1
                    clear H1
                    by_cases c45 : t178.toList = (rdOf ByteArray.empty y168 (ji6)).toList
                    · rw [if_pos c45] at H
                      have c45b0 : (t178.toList == (rdOf ByteArray.empty y168 (ji6)).toList) = true := beq_iff_eq.mpr c45
                      have c45b1 : (t178.toList != (rdOf ByteArray.empty y168 (ji6)).toList) = false := bne_eq_false_iff_eq.mpr c45
                      clear c45
                      obtain rfl := Option.some.inj H
                      go_enter Tryd.func4, Tryd.ntmps4
                      go_wp2_with (first | ((with_reducible refine gate_dst (N := 16) rfl ?_); refine Kd.R_lit Kd.string _ 9 ?hg (N := 16) ?hd (xs := ([(⟨#[83, 69, 76, 69, 67, 84]⟩ : ByteArray), (⟨#[85, 80, 68, 65, 84, 69]⟩ : ByteArray), (⟨#[68, 69, 76, 69, 84, 69]⟩ : ByteArray), (⟨#[70, 69, 84, 67, 72]⟩ : ByteArray), (⟨#[77, 79, 86, 69]⟩ : ByteArray), (⟨#[67, 79, 80, 89]⟩ : ByteArray), (⟨#[73, 78, 83, 69, 82, 84]⟩ : ByteArray), (⟨#[66, 69, 71, 73, 78]⟩ : ByteArray), (⟨#[67, 82, 69, 65, 84, 69, 32, 84, 65, 66, 76, 69]⟩ : ByteArray)] : List ByteArray)) (inner := [.string (⟨#[83, 69, 76, 69, 67, 84]⟩ : ByteArray), .string (⟨#[85, 80, 68, 65, 84, 69]⟩ : ByteArray), .string (⟨#[68, 69, 76, 69, 84, 69]⟩ : ByteArray), .string (⟨#[70, 69, 84, 67, 72]⟩ : ByteArray), .string (⟨#[77, 79, 86, 69]⟩ : ByteArray), .string (⟨#[67, 79, 80, 89]⟩ : ByteArray), .string (⟨#[73, 78, 83, 69, 82, 84]⟩ : ByteArray), .string (⟨#[66, 69, 71, 73, 78]⟩ : ByteArray), .string (⟨#[67, 82, 69, 65, 84, 69, 32, 84, 65, 66, 76, 69]⟩ : ByteArray)]) (ok := fun _ => True) (okp := fun _ => True) ?hr ?hp (fun _ hk => hk) trivial (Below.refl _ _) (Nat.le_refl _) (by simp) ?_; (case hd => rfl); (case hg => rfl); (case hr => first | (go_simp; done) | (go_simp; rfl) | (go_simp; simp [IntKind.wrap_u8]; done)); (case hp => exact (Reps.one (show Kd.M Kd.string _ _ _ (⟨#[83, 69, 76, 69, 67, 84]⟩ : ByteArray) [.string (⟨#[83, 69, 76, 69, 67, 84]⟩ : ByteArray)] from rfl) (Reps.one (show Kd.M Kd.string _ _ _ (⟨#[85, 80, 68, 65, 84, 69]⟩ : ByteArray) [.string (⟨#[85, 80, 68, 65, 84, 69]⟩ : ByteArray)] from rfl) (Reps.one (show Kd.M Kd.string _ _ _ (⟨#[68, 69, 76, 69, 84, 69]⟩ : ByteArray) [.string (⟨#[68, 69, 76, 69, 84, 69]⟩ : ByteArray)] from rfl) (Reps.one (show Kd.M Kd.string _ _ _ (⟨#[70, 69, 84, 67, 72]⟩ : ByteArray) [.string (⟨#[70, 69, 84, 67, 72]⟩ : ByteArray)] from rfl) (Reps.one (show Kd.M Kd.string _ _ _ (⟨#[77, 79, 86, 69]⟩ : ByteArray) [.string (⟨#[77, 79, 86, 69]⟩ : ByteArray)] from rfl) (Reps.one (show Kd.M Kd.string _ _ _ (⟨#[67, 79, 80, 89]⟩ : ByteArray) [.string (⟨#[67, 79, 80, 89]⟩ : ByteArray)] from rfl) (Reps.one (show Kd.M Kd.string _ _ _ (⟨#[73, 78, 83, 69, 82, 84]⟩ : ByteArray) [.string (⟨#[73, 78, 83, 69, 82, 84]⟩ : ByteArray)] from rfl) (Reps.one (show Kd.M Kd.string _ _ _ (⟨#[66, 69, 71, 73, 78]⟩ : ByteArray) [.string (⟨#[66, 69, 71, 73, 78]⟩ : ByteArray)] from rfl) (Reps.one (show Kd.M Kd.string _ _ _ (⟨#[67, 82, 69, 65, 84, 69, 32, 84, 65, 66, 76, 69]⟩ : ByteArray) [.string (⟨#[67, 82, 69, 65, 84, 69, 32, 84, 65, 66, 76, 69]⟩ : ByteArray)] from rfl) (Reps.none _ _))))))))))); intro v169 w46 ho47 hb hg_ hnew_; clear hg_ hnew_; (first | rw [← Ny168.out] at ho47 | (simp only [Int.reduceToNat] at ho47; rw [← Ny168.out] at ho47)); have n0_ := Aside0.mk (Kd.R_lower ho47 (below_size (by repeat (first | (with_reducible first | exact HB.out | apply below_alloc | apply pw_below_drewN | apply below_drew1) | exact HB.out)))); have n1_ := Aside0.mk (below_step (by repeat (first | (with_reducible first | exact HB.out | apply below_alloc | apply pw_below_drewN | apply below_drew1) | exact HB.out)) hb); clear HB; have HO170 := n0_; have HB := n1_; clear n0_ n1_; clear hb ho47; obtain ⟨Ao48, co48, eo48⟩ := Kd.R_slice HO170.out; subst eo48; have p171 : 0 ≤ ((ji6) : Int) := of_decide_eq_true (by first | (with_reducible assumption) | assumption); have q171 : (ji6) < (y168.length : Int) := of_decide_eq_true (by first | (with_reducible assumption) | assumption); obtain ⟨ad171, e171, hx171_0⟩ := Kd.at_string (Kd.R_reads' HO170.out).2.2 (ji6) p171 q171; cases e171; replace p171 := eq_true p171; replace q171 := eq_true q171) | ((with_reducible refine gate_callee (f := 14) rfl ?_); refine goesL_ (some 28) rfl rfl Tryd.func14 (by kernel_rfl) rfl #[.int .i64 a1] rfl (by (try simp only [List.map_toArray, List.map_cons, List.map_nil]); first | done | rfl | (simp only [List.length_drop, List.length_take]; rfl)) ?_; (with_reducible refine (spec_Number.calls k a1 t172 _ A10.out).mono ?_); rintro e w49 ⟨rfl, hb⟩; refine ⟨_, rfl, ?_⟩; have n0_ := Aside0.mk (Kd.R_below (by (with_reducible repeat (first | apply Kd.R_alloc | apply Kd.R_drewN | apply Kd.R_drew)); exact HO170.out) hb); have n1_ := Aside0.mk (below_step (by repeat (first | (with_reducible first | exact HB.out | apply below_alloc | apply pw_below_drewN | apply below_drew1) | exact HB.out)) hb); clear HO170; clear HB; have HO170 := n0_; have HB := n1_; clear n0_ n1_; (try clear hb); (try clear hb2); (try clear hk); (try clear hi)) | ((with_reducible refine gate_callee (f := 15) rfl ?_); refine goesL_ (some 50) rfl rfl Tryd.func15 (by kernel_rfl) rfl #[.string (rdOf ByteArray.empty y168 (ji6))] rfl (by (try simp only [List.map_toArray, List.map_cons, List.map_nil]); first | done | (simp only [hji6]; rfl) | rfl | (simp only [List.length_drop, List.length_take]; rfl)) ?_; (with_reducible refine (impl_Tag.calls k (rdOf ByteArray.empty y168 (ji6)) t178 t179 true _ A43.out).mono ?_); rintro e w50 ⟨rfl, hb⟩; refine ⟨_, rfl, ?_⟩; have n0_ := Aside0.mk (Kd.R_below (by (with_reducible repeat (first | apply Kd.R_alloc | apply Kd.R_drewN | apply Kd.R_drew)); exact HO170.out) hb); have n1_ := Aside0.mk (below_step (by repeat (first | (with_reducible first | exact HB.out | apply below_alloc | apply pw_below_drewN | apply below_drew1) | exact HB.out)) hb); clear HO170; clear HB; have HO170 := n0_; have HB := n1_; clear n0_ n1_; (try clear hb); (try clear hb2); (try clear hk); (try clear hi)))
                      go_ret
                      exact ⟨by first | rfl | (simp [errW_none, errW_some] <;> rfl) | (simp only [← hji6]; first | rfl | (simp [errW_none, errW_some] <;> rfl)) | (simp [*, errW_none, errW_some] <;> rfl), by repeat (first | (with_reducible first | exact HB.out | apply below_alloc | apply pw_below_drewN | apply below_drew1) | exact HB.out)⟩
                    · rw [if_neg c45] at H
                      have c45b0 : (t178.toList == (rdOf ByteArray.empty y168 (ji6)).toList) = false := beq_eq_false_iff_ne.mpr c45
                      have c45b1 : (t178.toList != (rdOf ByteArray.empty y168 (ji6)).toList) = true := bne_iff_ne.mpr c45
                      obtain rfl := Option.some.inj H
                      go_enter Tryd.func4, Tryd.ntmps4
                      go_wp2_with (first | ((with_reducible refine gate_dst (N := 16) rfl ?_); refine Kd.R_lit Kd.string _ 9 ?hg (N := 16) ?hd (xs := ([(⟨#[83, 69, 76, 69, 67, 84]⟩ : ByteArray), (⟨#[85, 80, 68, 65, 84, 69]⟩ : ByteArray), (⟨#[68, 69, 76, 69, 84, 69]⟩ : ByteArray), (⟨#[70, 69, 84, 67, 72]⟩ : ByteArray), (⟨#[77, 79, 86, 69]⟩ : ByteArray), (⟨#[67, 79, 80, 89]⟩ : ByteArray), (⟨#[73, 78, 83, 69, 82, 84]⟩ : ByteArray), (⟨#[66, 69, 71, 73, 78]⟩ : ByteArray), (⟨#[67, 82, 69, 65, 84, 69, 32, 84, 65, 66, 76, 69]⟩ : ByteArray)] : List ByteArray)) (inner := [.string (⟨#[83, 69, 76, 69, 67, 84]⟩ : ByteArray), .string (⟨#[85, 80, 68, 65, 84, 69]⟩ : ByteArray), .string (⟨#[68, 69, 76, 69, 84, 69]⟩ : ByteArray), .string (⟨#[70, 69, 84, 67, 72]⟩ : ByteArray), .string (⟨#[77, 79, 86, 69]⟩ : ByteArray), .string (⟨#[67, 79, 80, 89]⟩ : ByteArray), .string (⟨#[73, 78, 83, 69, 82, 84]⟩ : ByteArray), .string (⟨#[66, 69, 71, 73, 78]⟩ : ByteArray), .string (⟨#[67, 82, 69, 65, 84, 69, 32, 84, 65, 66, 76, 69]⟩ : ByteArray)]) (ok := fun _ => True) (okp := fun _ => True) ?hr ?hp (fun _ hk => hk) trivial (Below.refl _ _) (Nat.le_refl _) (by simp) ?_; (case hd => rfl); (case hg => rfl); (case hr => first | (go_simp; done) | (go_simp; rfl) | (go_simp; simp [IntKind.wrap_u8]; done)); (case hp => exact (Reps.one (show Kd.M Kd.string _ _ _ (⟨#[83, 69, 76, 69, 67, 84]⟩ : ByteArray) [.string (⟨#[83, 69, 76, 69, 67, 84]⟩ : ByteArray)] from rfl) (Reps.one (show Kd.M Kd.string _ _ _ (⟨#[85, 80, 68, 65, 84, 69]⟩ : ByteArray) [.string (⟨#[85, 80, 68, 65, 84, 69]⟩ : ByteArray)] from rfl) (Reps.one (show Kd.M Kd.string _ _ _ (⟨#[68, 69, 76, 69, 84, 69]⟩ : ByteArray) [.string (⟨#[68, 69, 76, 69, 84, 69]⟩ : ByteArray)] from rfl) (Reps.one (show Kd.M Kd.string _ _ _ (⟨#[70, 69, 84, 67, 72]⟩ : ByteArray) [.string (⟨#[70, 69, 84, 67, 72]⟩ : ByteArray)] from rfl) (Reps.one (show Kd.M Kd.string _ _ _ (⟨#[77, 79, 86, 69]⟩ : ByteArray) [.string (⟨#[77, 79, 86, 69]⟩ : ByteArray)] from rfl) (Reps.one (show Kd.M Kd.string _ _ _ (⟨#[67, 79, 80, 89]⟩ : ByteArray) [.string (⟨#[67, 79, 80, 89]⟩ : ByteArray)] from rfl) (Reps.one (show Kd.M Kd.string _ _ _ (⟨#[73, 78, 83, 69, 82, 84]⟩ : ByteArray) [.string (⟨#[73, 78, 83, 69, 82, 84]⟩ : ByteArray)] from rfl) (Reps.one (show Kd.M Kd.string _ _ _ (⟨#[66, 69, 71, 73, 78]⟩ : ByteArray) [.string (⟨#[66, 69, 71, 73, 78]⟩ : ByteArray)] from rfl) (Reps.one (show Kd.M Kd.string _ _ _ (⟨#[67, 82, 69, 65, 84, 69, 32, 84, 65, 66, 76, 69]⟩ : ByteArray) [.string (⟨#[67, 82, 69, 65, 84, 69, 32, 84, 65, 66, 76, 69]⟩ : ByteArray)] from rfl) (Reps.none _ _))))))))))); intro v169 w51 ho52 hb hg_ hnew_; clear hg_ hnew_; (first | rw [← Ny168.out] at ho52 | (simp only [Int.reduceToNat] at ho52; rw [← Ny168.out] at ho52)); have n0_ := Aside0.mk (Kd.R_lower ho52 (below_size (by repeat (first | (with_reducible first | exact HB.out | apply below_alloc | apply pw_below_drewN | apply below_drew1) | exact HB.out)))); have n1_ := Aside0.mk (below_step (by repeat (first | (with_reducible first | exact HB.out | apply below_alloc | apply pw_below_drewN | apply below_drew1) | exact HB.out)) hb); clear HB; have HO170 := n0_; have HB := n1_; clear n0_ n1_; clear hb ho52; obtain ⟨Ao53, co53, eo53⟩ := Kd.R_slice HO170.out; subst eo53; have p171 : 0 ≤ ((ji6) : Int) := of_decide_eq_true (by first | (with_reducible assumption) | assumption); have q171 : (ji6) < (y168.length : Int) := of_decide_eq_true (by first | (with_reducible assumption) | assumption); obtain ⟨ad171, e171, hx171_0⟩ := Kd.at_string (Kd.R_reads' HO170.out).2.2 (ji6) p171 q171; cases e171; replace p171 := eq_true p171; replace q171 := eq_true q171) | ((with_reducible refine gate_callee (f := 14) rfl ?_); refine goesL_ (some 28) rfl rfl Tryd.func14 (by kernel_rfl) rfl #[.int .i64 a1] rfl (by (try simp only [List.map_toArray, List.map_cons, List.map_nil]); first | done | rfl | (simp only [List.length_drop, List.length_take]; rfl)) ?_; (with_reducible refine (spec_Number.calls k a1 t172 _ A10.out).mono ?_); rintro e w54 ⟨rfl, hb⟩; refine ⟨_, rfl, ?_⟩; have n0_ := Aside0.mk (Kd.R_below (by (with_reducible repeat (first | apply Kd.R_alloc | apply Kd.R_drewN | apply Kd.R_drew)); exact HO170.out) hb); have n1_ := Aside0.mk (below_step (by repeat (first | (with_reducible first | exact HB.out | apply below_alloc | apply pw_below_drewN | apply below_drew1) | exact HB.out)) hb); clear HO170; clear HB; have HO170 := n0_; have HB := n1_; clear n0_ n1_; (try clear hb); (try clear hb2); (try clear hk); (try clear hi)) | ((with_reducible refine gate_callee (f := 15) rfl ?_); refine goesL_ (some 50) rfl rfl Tryd.func15 (by kernel_rfl) rfl #[.string (rdOf ByteArray.empty y168 (ji6))] rfl (by (try simp only [List.map_toArray, List.map_cons, List.map_nil]); first | done | (simp only [hji6]; rfl) | rfl | (simp only [List.length_drop, List.length_take]; rfl)) ?_; (with_reducible refine (impl_Tag.calls k (rdOf ByteArray.empty y168 (ji6)) t178 t179 true _ A43.out).mono ?_); rintro e w55 ⟨rfl, hb⟩; refine ⟨_, rfl, ?_⟩; have n0_ := Aside0.mk (Kd.R_below (by (with_reducible repeat (first | apply Kd.R_alloc | apply Kd.R_drewN | apply Kd.R_drew)); exact HO170.out) hb); have n1_ := Aside0.mk (below_step (by repeat (first | (with_reducible first | exact HB.out | apply below_alloc | apply pw_below_drewN | apply below_drew1) | exact HB.out)) hb); clear HO170; clear HB; have HO170 := n0_; have HB := n1_; clear n0_ n1_; (try clear hb); (try clear hb2); (try clear hk); (try clear hi)))
                      go_ret
                      exact ⟨by first | rfl | (simp [errW_none, errW_some] <;> rfl) | (simp only [← hji6]; first | rfl | (simp [errW_none, errW_some] <;> rfl)) | (simp [*, errW_none, errW_some] <;> rfl), by repeat (first | (with_reducible first | exact HB.out | apply below_alloc | apply pw_below_drewN | apply below_drew1) | exact HB.out)⟩
                  · replace c44 := Bool.eq_false_iff.mpr c44
                    subst c44
                    have H1 : (some false) = some r := by rw [if_neg (show ¬ (false = true) by decide)] at H; exact H
                    clear H
                    have H := H1
                    clear H1
                    obtain rfl := Option.some.inj H
                    go_enter Tryd.func4, Tryd.ntmps4
                    go_wp2_with (first | ((with_reducible refine gate_dst (N := 16) rfl ?_); refine Kd.R_lit Kd.string _ 9 ?hg (N := 16) ?hd (xs := ([(⟨#[83, 69, 76, 69, 67, 84]⟩ : ByteArray), (⟨#[85, 80, 68, 65, 84, 69]⟩ : ByteArray), (⟨#[68, 69, 76, 69, 84, 69]⟩ : ByteArray), (⟨#[70, 69, 84, 67, 72]⟩ : ByteArray), (⟨#[77, 79, 86, 69]⟩ : ByteArray), (⟨#[67, 79, 80, 89]⟩ : ByteArray), (⟨#[73, 78, 83, 69, 82, 84]⟩ : ByteArray), (⟨#[66, 69, 71, 73, 78]⟩ : ByteArray), (⟨#[67, 82, 69, 65, 84, 69, 32, 84, 65, 66, 76, 69]⟩ : ByteArray)] : List ByteArray)) (inner := [.string (⟨#[83, 69, 76, 69, 67, 84]⟩ : ByteArray), .string (⟨#[85, 80, 68, 65, 84, 69]⟩ : ByteArray), .string (⟨#[68, 69, 76, 69, 84, 69]⟩ : ByteArray), .string (⟨#[70, 69, 84, 67, 72]⟩ : ByteArray), .string (⟨#[77, 79, 86, 69]⟩ : ByteArray), .string (⟨#[67, 79, 80, 89]⟩ : ByteArray), .string (⟨#[73, 78, 83, 69, 82, 84]⟩ : ByteArray), .string (⟨#[66, 69, 71, 73, 78]⟩ : ByteArray), .string (⟨#[67, 82, 69, 65, 84, 69, 32, 84, 65, 66, 76, 69]⟩ : ByteArray)]) (ok := fun _ => True) (okp := fun _ => True) ?hr ?hp (fun _ hk => hk) trivial (Below.refl _ _) (Nat.le_refl _) (by simp) ?_; (case hd => rfl); (case hg => rfl); (case hr => first | (go_simp; done) | (go_simp; rfl) | (go_simp; simp [IntKind.wrap_u8]; done)); (case hp => exact (Reps.one (show Kd.M Kd.string _ _ _ (⟨#[83, 69, 76, 69, 67, 84]⟩ : ByteArray) [.string (⟨#[83, 69, 76, 69, 67, 84]⟩ : ByteArray)] from rfl) (Reps.one (show Kd.M Kd.string _ _ _ (⟨#[85, 80, 68, 65, 84, 69]⟩ : ByteArray) [.string (⟨#[85, 80, 68, 65, 84, 69]⟩ : ByteArray)] from rfl) (Reps.one (show Kd.M Kd.string _ _ _ (⟨#[68, 69, 76, 69, 84, 69]⟩ : ByteArray) [.string (⟨#[68, 69, 76, 69, 84, 69]⟩ : ByteArray)] from rfl) (Reps.one (show Kd.M Kd.string _ _ _ (⟨#[70, 69, 84, 67, 72]⟩ : ByteArray) [.string (⟨#[70, 69, 84, 67, 72]⟩ : ByteArray)] from rfl) (Reps.one (show Kd.M Kd.string _ _ _ (⟨#[77, 79, 86, 69]⟩ : ByteArray) [.string (⟨#[77, 79, 86, 69]⟩ : ByteArray)] from rfl) (Reps.one (show Kd.M Kd.string _ _ _ (⟨#[67, 79, 80, 89]⟩ : ByteArray) [.string (⟨#[67, 79, 80, 89]⟩ : ByteArray)] from rfl) (Reps.one (show Kd.M Kd.string _ _ _ (⟨#[73, 78, 83, 69, 82, 84]⟩ : ByteArray) [.string (⟨#[73, 78, 83, 69, 82, 84]⟩ : ByteArray)] from rfl) (Reps.one (show Kd.M Kd.string _ _ _ (⟨#[66, 69, 71, 73, 78]⟩ : ByteArray) [.string (⟨#[66, 69, 71, 73, 78]⟩ : ByteArray)] from rfl) (Reps.one (show Kd.M Kd.string _ _ _ (⟨#[67, 82, 69, 65, 84, 69, 32, 84, 65, 66, 76, 69]⟩ : ByteArray) [.string (⟨#[67, 82, 69, 65, 84, 69, 32, 84, 65, 66, 76, 69]⟩ : ByteArray)] from rfl) (Reps.none _ _))))))))))); intro v169 w56 ho57 hb hg_ hnew_; clear hg_ hnew_; (first | rw [← Ny168.out] at ho57 | (simp only [Int.reduceToNat] at ho57; rw [← Ny168.out] at ho57)); have n0_ := Aside0.mk (Kd.R_lower ho57 (below_size (by repeat (first | (with_reducible first | exact HB.out | apply below_alloc | apply pw_below_drewN | apply below_drew1) | exact HB.out)))); have n1_ := Aside0.mk (below_step (by repeat (first | (with_reducible first | exact HB.out | apply below_alloc | apply pw_below_drewN | apply below_drew1) | exact HB.out)) hb); clear HB; have HO170 := n0_; have HB := n1_; clear n0_ n1_; clear hb ho57; obtain ⟨Ao58, co58, eo58⟩ := Kd.R_slice HO170.out; subst eo58; have p171 : 0 ≤ ((ji6) : Int) := of_decide_eq_true (by first | (with_reducible assumption) | assumption); have q171 : (ji6) < (y168.length : Int) := of_decide_eq_true (by first | (with_reducible assumption) | assumption); obtain ⟨ad171, e171, hx171_0⟩ := Kd.at_string (Kd.R_reads' HO170.out).2.2 (ji6) p171 q171; cases e171; replace p171 := eq_true p171; replace q171 := eq_true q171) | ((with_reducible refine gate_callee (f := 14) rfl ?_); refine goesL_ (some 28) rfl rfl Tryd.func14 (by kernel_rfl) rfl #[.int .i64 a1] rfl (by (try simp only [List.map_toArray, List.map_cons, List.map_nil]); first | done | rfl | (simp only [List.length_drop, List.length_take]; rfl)) ?_; (with_reducible refine (spec_Number.calls k a1 t172 _ A10.out).mono ?_); rintro e w59 ⟨rfl, hb⟩; refine ⟨_, rfl, ?_⟩; have n0_ := Aside0.mk (Kd.R_below (by (with_reducible repeat (first | apply Kd.R_alloc | apply Kd.R_drewN | apply Kd.R_drew)); exact HO170.out) hb); have n1_ := Aside0.mk (below_step (by repeat (first | (with_reducible first | exact HB.out | apply below_alloc | apply pw_below_drewN | apply below_drew1) | exact HB.out)) hb); clear HO170; clear HB; have HO170 := n0_; have HB := n1_; clear n0_ n1_; (try clear hb); (try clear hb2); (try clear hk); (try clear hi)) | ((with_reducible refine gate_callee (f := 15) rfl ?_); refine goesL_ (some 50) rfl rfl Tryd.func15 (by kernel_rfl) rfl #[.string (rdOf ByteArray.empty y168 (ji6))] rfl (by (try simp only [List.map_toArray, List.map_cons, List.map_nil]); first | done | (simp only [hji6]; rfl) | rfl | (simp only [List.length_drop, List.length_take]; rfl)) ?_; (with_reducible refine (impl_Tag.calls k (rdOf ByteArray.empty y168 (ji6)) t178 t179 false _ A43.out).mono ?_); rintro e w60 ⟨rfl, hb⟩; refine ⟨_, rfl, ?_⟩; have n0_ := Aside0.mk (Kd.R_below (by (with_reducible repeat (first | apply Kd.R_alloc | apply Kd.R_drewN | apply Kd.R_drew)); exact HO170.out) hb); have n1_ := Aside0.mk (below_step (by repeat (first | (with_reducible first | exact HB.out | apply below_alloc | apply pw_below_drewN | apply below_drew1) | exact HB.out)) hb); clear HO170; clear HB; have HO170 := n0_; have HB := n1_; clear n0_ n1_; (try clear hb); (try clear hb2); (try clear hk); (try clear hi)))
                    go_ret
                    exact ⟨by first | rfl | (simp [errW_none, errW_some] <;> rfl) | (simp only [← hji6]; first | rfl | (simp [errW_none, errW_some] <;> rfl)) | (simp [*, errW_none, errW_some] <;> rfl), by repeat (first | (with_reducible first | exact HB.out | apply below_alloc | apply pw_below_drewN | apply below_drew1) | exact HB.out)⟩
                · rw [if_neg c42] at H
                  have c42b0 : ((rdOf ByteArray.empty y168 (ji6)).toList == ([66, 69, 71, 73, 78] : List UInt8)) = false := beq_eq_false_iff_ne.mpr c42
                  have c42b1 : ((rdOf ByteArray.empty y168 (ji6)).toList != ([66, 69, 71, 73, 78] : List UInt8)) = true := bne_iff_ne.mpr c42
                  by_cases c61 : (rdOf ByteArray.empty y168 (ji6)).toList = ([67, 82, 69, 65, 84, 69, 32, 84, 65, 66, 76, 69] : List UInt8)
                  · rw [if_pos c61] at H
                    have c61b0 : ((rdOf ByteArray.empty y168 (ji6)).toList == ([67, 82, 69, 65, 84, 69, 32, 84, 65, 66, 76, 69] : List UInt8)) = true := beq_iff_eq.mpr c61
                    have c61b1 : ((rdOf ByteArray.empty y168 (ji6)).toList != ([67, 82, 69, 65, 84, 69, 32, 84, 65, 66, 76, 69] : List UInt8)) = false := bne_eq_false_iff_eq.mpr c61
                    clear c61
                    replace H := Option.bind_eq_some_iff.mp H
                    obtain ⟨⟨t181, t182, t183⟩, A620, H⟩ := H
                    replace H : (if t183 = true then (if t181.toList = (rdOf ByteArray.empty y168 (ji6)).toList then (some (t182 == 0)) else (some false)) else (some false)) = some r := H
                    have A62 := Aside0.mk A620
                    clear A620
                    by_cases c63 : t183 = true
                    · subst c63
                      have H1 : (if t181.toList = (rdOf ByteArray.empty y168 (ji6)).toList then (some (t182 == 0)) else (some false)) = some r := by rw [if_pos rfl] at H; exact H
                      clear H
                      have H := H1
                      clear H1
                      by_cases c64 : t181.toList = (rdOf ByteArray.empty y168 (ji6)).toList
                      · rw [if_pos c64] at H
                        have c64b0 : (t181.toList == (rdOf ByteArray.empty y168 (ji6)).toList) = true := beq_iff_eq.mpr c64
                        have c64b1 : (t181.toList != (rdOf ByteArray.empty y168 (ji6)).toList) = false := bne_eq_false_iff_eq.mpr c64
                        clear c64
                        obtain rfl := Option.some.inj H
                        go_enter Tryd.func4, Tryd.ntmps4
                        go_wp2_with (first | ((with_reducible refine gate_dst (N := 16) rfl ?_); refine Kd.R_lit Kd.string _ 9 ?hg (N := 16) ?hd (xs := ([(⟨#[83, 69, 76, 69, 67, 84]⟩ : ByteArray), (⟨#[85, 80, 68, 65, 84, 69]⟩ : ByteArray), (⟨#[68, 69, 76, 69, 84, 69]⟩ : ByteArray), (⟨#[70, 69, 84, 67, 72]⟩ : ByteArray), (⟨#[77, 79, 86, 69]⟩ : ByteArray), (⟨#[67, 79, 80, 89]⟩ : ByteArray), (⟨#[73, 78, 83, 69, 82, 84]⟩ : ByteArray), (⟨#[66, 69, 71, 73, 78]⟩ : ByteArray), (⟨#[67, 82, 69, 65, 84, 69, 32, 84, 65, 66, 76, 69]⟩ : ByteArray)] : List ByteArray)) (inner := [.string (⟨#[83, 69, 76, 69, 67, 84]⟩ : ByteArray), .string (⟨#[85, 80, 68, 65, 84, 69]⟩ : ByteArray), .string (⟨#[68, 69, 76, 69, 84, 69]⟩ : ByteArray), .string (⟨#[70, 69, 84, 67, 72]⟩ : ByteArray), .string (⟨#[77, 79, 86, 69]⟩ : ByteArray), .string (⟨#[67, 79, 80, 89]⟩ : ByteArray), .string (⟨#[73, 78, 83, 69, 82, 84]⟩ : ByteArray), .string (⟨#[66, 69, 71, 73, 78]⟩ : ByteArray), .string (⟨#[67, 82, 69, 65, 84, 69, 32, 84, 65, 66, 76, 69]⟩ : ByteArray)]) (ok := fun _ => True) (okp := fun _ => True) ?hr ?hp (fun _ hk => hk) trivial (Below.refl _ _) (Nat.le_refl _) (by simp) ?_; (case hd => rfl); (case hg => rfl); (case hr => first | (go_simp; done) | (go_simp; rfl) | (go_simp; simp [IntKind.wrap_u8]; done)); (case hp => exact (Reps.one (show Kd.M Kd.string _ _ _ (⟨#[83, 69, 76, 69, 67, 84]⟩ : ByteArray) [.string (⟨#[83, 69, 76, 69, 67, 84]⟩ : ByteArray)] from rfl) (Reps.one (show Kd.M Kd.string _ _ _ (⟨#[85, 80, 68, 65, 84, 69]⟩ : ByteArray) [.string (⟨#[85, 80, 68, 65, 84, 69]⟩ : ByteArray)] from rfl) (Reps.one (show Kd.M Kd.string _ _ _ (⟨#[68, 69, 76, 69, 84, 69]⟩ : ByteArray) [.string (⟨#[68, 69, 76, 69, 84, 69]⟩ : ByteArray)] from rfl) (Reps.one (show Kd.M Kd.string _ _ _ (⟨#[70, 69, 84, 67, 72]⟩ : ByteArray) [.string (⟨#[70, 69, 84, 67, 72]⟩ : ByteArray)] from rfl) (Reps.one (show Kd.M Kd.string _ _ _ (⟨#[77, 79, 86, 69]⟩ : ByteArray) [.string (⟨#[77, 79, 86, 69]⟩ : ByteArray)] from rfl) (Reps.one (show Kd.M Kd.string _ _ _ (⟨#[67, 79, 80, 89]⟩ : ByteArray) [.string (⟨#[67, 79, 80, 89]⟩ : ByteArray)] from rfl) (Reps.one (show Kd.M Kd.string _ _ _ (⟨#[73, 78, 83, 69, 82, 84]⟩ : ByteArray) [.string (⟨#[73, 78, 83, 69, 82, 84]⟩ : ByteArray)] from rfl) (Reps.one (show Kd.M Kd.string _ _ _ (⟨#[66, 69, 71, 73, 78]⟩ : ByteArray) [.string (⟨#[66, 69, 71, 73, 78]⟩ : ByteArray)] from rfl) (Reps.one (show Kd.M Kd.string _ _ _ (⟨#[67, 82, 69, 65, 84, 69, 32, 84, 65, 66, 76, 69]⟩ : ByteArray) [.string (⟨#[67, 82, 69, 65, 84, 69, 32, 84, 65, 66, 76, 69]⟩ : ByteArray)] from rfl) (Reps.none _ _))))))))))); intro v169 w65 ho66 hb hg_ hnew_; clear hg_ hnew_; (first | rw [← Ny168.out] at ho66 | (simp only [Int.reduceToNat] at ho66; rw [← Ny168.out] at ho66)); have n0_ := Aside0.mk (Kd.R_lower ho66 (below_size (by repeat (first | (with_reducible first | exact HB.out | apply below_alloc | apply pw_below_drewN | apply below_drew1) | exact HB.out)))); have n1_ := Aside0.mk (below_step (by repeat (first | (with_reducible first | exact HB.out | apply below_alloc | apply pw_below_drewN | apply below_drew1) | exact HB.out)) hb); clear HB; have HO170 := n0_; have HB := n1_; clear n0_ n1_; clear hb ho66; obtain ⟨Ao67, co67, eo67⟩ := Kd.R_slice HO170.out; subst eo67; have p171 : 0 ≤ ((ji6) : Int) := of_decide_eq_true (by first | (with_reducible assumption) | assumption); have q171 : (ji6) < (y168.length : Int) := of_decide_eq_true (by first | (with_reducible assumption) | assumption); obtain ⟨ad171, e171, hx171_0⟩ := Kd.at_string (Kd.R_reads' HO170.out).2.2 (ji6) p171 q171; cases e171; replace p171 := eq_true p171; replace q171 := eq_true q171) | ((with_reducible refine gate_callee (f := 14) rfl ?_); refine goesL_ (some 28) rfl rfl Tryd.func14 (by kernel_rfl) rfl #[.int .i64 a1] rfl (by (try simp only [List.map_toArray, List.map_cons, List.map_nil]); first | done | rfl | (simp only [List.length_drop, List.length_take]; rfl)) ?_; (with_reducible refine (spec_Number.calls k a1 t172 _ A10.out).mono ?_); rintro e w68 ⟨rfl, hb⟩; refine ⟨_, rfl, ?_⟩; have n0_ := Aside0.mk (Kd.R_below (by (with_reducible repeat (first | apply Kd.R_alloc | apply Kd.R_drewN | apply Kd.R_drew)); exact HO170.out) hb); have n1_ := Aside0.mk (below_step (by repeat (first | (with_reducible first | exact HB.out | apply below_alloc | apply pw_below_drewN | apply below_drew1) | exact HB.out)) hb); clear HO170; clear HB; have HO170 := n0_; have HB := n1_; clear n0_ n1_; (try clear hb); (try clear hb2); (try clear hk); (try clear hi)) | ((with_reducible refine gate_callee (f := 15) rfl ?_); refine goesL_ (some 50) rfl rfl Tryd.func15 (by kernel_rfl) rfl #[.string (rdOf ByteArray.empty y168 (ji6))] rfl (by (try simp only [List.map_toArray, List.map_cons, List.map_nil]); first | done | (simp only [hji6]; rfl) | rfl | (simp only [List.length_drop, List.length_take]; rfl)) ?_; (with_reducible refine (impl_Tag.calls k (rdOf ByteArray.empty y168 (ji6)) t181 t182 true _ A62.out).mono ?_); rintro e w69 ⟨rfl, hb⟩; refine ⟨_, rfl, ?_⟩; have n0_ := Aside0.mk (Kd.R_below (by (with_reducible repeat (first | apply Kd.R_alloc | apply Kd.R_drewN | apply Kd.R_drew)); exact HO170.out) hb); have n1_ := Aside0.mk (below_step (by repeat (first | (with_reducible first | exact HB.out | apply below_alloc | apply pw_below_drewN | apply below_drew1) | exact HB.out)) hb); clear HO170; clear HB; have HO170 := n0_; have HB := n1_; clear n0_ n1_; (try clear hb); (try clear hb2); (try clear hk); (try clear hi)))
                        go_ret
                        exact ⟨by first | rfl | (simp [errW_none, errW_some] <;> rfl) | (simp only [← hji6]; first | rfl | (simp [errW_none, errW_some] <;> rfl)) | (simp [*, errW_none, errW_some] <;> rfl), by repeat (first | (with_reducible first | exact HB.out | apply below_alloc | apply pw_below_drewN | apply below_drew1) | exact HB.out)⟩
                      · rw [if_neg c64] at H
                        have c64b0 : (t181.toList == (rdOf ByteArray.empty y168 (ji6)).toList) = false := beq_eq_false_iff_ne.mpr c64
                        have c64b1 : (t181.toList != (rdOf ByteArray.empty y168 (ji6)).toList) = true := bne_iff_ne.mpr c64
                        obtain rfl := Option.some.inj H
                        go_enter Tryd.func4, Tryd.ntmps4
                        go_wp2_with (first | ((with_reducible refine gate_dst (N := 16) rfl ?_); refine Kd.R_lit Kd.string _ 9 ?hg (N := 16) ?hd (xs := ([(⟨#[83, 69, 76, 69, 67, 84]⟩ : ByteArray), (⟨#[85, 80, 68, 65, 84, 69]⟩ : ByteArray), (⟨#[68, 69, 76, 69, 84, 69]⟩ : ByteArray), (⟨#[70, 69, 84, 67, 72]⟩ : ByteArray), (⟨#[77, 79, 86, 69]⟩ : ByteArray), (⟨#[67, 79, 80, 89]⟩ : ByteArray), (⟨#[73, 78, 83, 69, 82, 84]⟩ : ByteArray), (⟨#[66, 69, 71, 73, 78]⟩ : ByteArray), (⟨#[67, 82, 69, 65, 84, 69, 32, 84, 65, 66, 76, 69]⟩ : ByteArray)] : List ByteArray)) (inner := [.string (⟨#[83, 69, 76, 69, 67, 84]⟩ : ByteArray), .string (⟨#[85, 80, 68, 65, 84, 69]⟩ : ByteArray), .string (⟨#[68, 69, 76, 69, 84, 69]⟩ : ByteArray), .string (⟨#[70, 69, 84, 67, 72]⟩ : ByteArray), .string (⟨#[77, 79, 86, 69]⟩ : ByteArray), .string (⟨#[67, 79, 80, 89]⟩ : ByteArray), .string (⟨#[73, 78, 83, 69, 82, 84]⟩ : ByteArray), .string (⟨#[66, 69, 71, 73, 78]⟩ : ByteArray), .string (⟨#[67, 82, 69, 65, 84, 69, 32, 84, 65, 66, 76, 69]⟩ : ByteArray)]) (ok := fun _ => True) (okp := fun _ => True) ?hr ?hp (fun _ hk => hk) trivial (Below.refl _ _) (Nat.le_refl _) (by simp) ?_; (case hd => rfl); (case hg => rfl); (case hr => first | (go_simp; done) | (go_simp; rfl) | (go_simp; simp [IntKind.wrap_u8]; done)); (case hp => exact (Reps.one (show Kd.M Kd.string _ _ _ (⟨#[83, 69, 76, 69, 67, 84]⟩ : ByteArray) [.string (⟨#[83, 69, 76, 69, 67, 84]⟩ : ByteArray)] from rfl) (Reps.one (show Kd.M Kd.string _ _ _ (⟨#[85, 80, 68, 65, 84, 69]⟩ : ByteArray) [.string (⟨#[85, 80, 68, 65, 84, 69]⟩ : ByteArray)] from rfl) (Reps.one (show Kd.M Kd.string _ _ _ (⟨#[68, 69, 76, 69, 84, 69]⟩ : ByteArray) [.string (⟨#[68, 69, 76, 69, 84, 69]⟩ : ByteArray)] from rfl) (Reps.one (show Kd.M Kd.string _ _ _ (⟨#[70, 69, 84, 67, 72]⟩ : ByteArray) [.string (⟨#[70, 69, 84, 67, 72]⟩ : ByteArray)] from rfl) (Reps.one (show Kd.M Kd.string _ _ _ (⟨#[77, 79, 86, 69]⟩ : ByteArray) [.string (⟨#[77, 79, 86, 69]⟩ : ByteArray)] from rfl) (Reps.one (show Kd.M Kd.string _ _ _ (⟨#[67, 79, 80, 89]⟩ : ByteArray) [.string (⟨#[67, 79, 80, 89]⟩ : ByteArray)] from rfl) (Reps.one (show Kd.M Kd.string _ _ _ (⟨#[73, 78, 83, 69, 82, 84]⟩ : ByteArray) [.string (⟨#[73, 78, 83, 69, 82, 84]⟩ : ByteArray)] from rfl) (Reps.one (show Kd.M Kd.string _ _ _ (⟨#[66, 69, 71, 73, 78]⟩ : ByteArray) [.string (⟨#[66, 69, 71, 73, 78]⟩ : ByteArray)] from rfl) (Reps.one (show Kd.M Kd.string _ _ _ (⟨#[67, 82, 69, 65, 84, 69, 32, 84, 65, 66, 76, 69]⟩ : ByteArray) [.string (⟨#[67, 82, 69, 65, 84, 69, 32, 84, 65, 66, 76, 69]⟩ : ByteArray)] from rfl) (Reps.none _ _))))))))))); intro v169 w70 ho71 hb hg_ hnew_; clear hg_ hnew_; (first | rw [← Ny168.out] at ho71 | (simp only [Int.reduceToNat] at ho71; rw [← Ny168.out] at ho71)); have n0_ := Aside0.mk (Kd.R_lower ho71 (below_size (by repeat (first | (with_reducible first | exact HB.out | apply below_alloc | apply pw_below_drewN | apply below_drew1) | exact HB.out)))); have n1_ := Aside0.mk (below_step (by repeat (first | (with_reducible first | exact HB.out | apply below_alloc | apply pw_below_drewN | apply below_drew1) | exact HB.out)) hb); clear HB; have HO170 := n0_; have HB := n1_; clear n0_ n1_; clear hb ho71; obtain ⟨Ao72, co72, eo72⟩ := Kd.R_slice HO170.out; subst eo72; have p171 : 0 ≤ ((ji6) : Int) := of_decide_eq_true (by first | (with_reducible assumption) | assumption); have q171 : (ji6) < (y168.length : Int) := of_decide_eq_true (by first | (with_reducible assumption) | assumption); obtain ⟨ad171, e171, hx171_0⟩ := Kd.at_string (Kd.R_reads' HO170.out).2.2 (ji6) p171 q171; cases e171; replace p171 := eq_true p171; replace q171 := eq_true q171) | ((with_reducible refine gate_callee (f := 14) rfl ?_); refine goesL_ (some 28) rfl rfl Tryd.func14 (by kernel_rfl) rfl #[.int .i64 a1] rfl (by (try simp only [List.map_toArray, List.map_cons, List.map_nil]); first | done | rfl | (simp only [List.length_drop, List.length_take]; rfl)) ?_; (with_reducible refine (spec_Number.calls k a1 t172 _ A10.out).mono ?_); rintro e w73 ⟨rfl, hb⟩; refine ⟨_, rfl, ?_⟩; have n0_ := Aside0.mk (Kd.R_below (by (with_reducible repeat (first | apply Kd.R_alloc | apply Kd.R_drewN | apply Kd.R_drew)); exact HO170.out) hb); have n1_ := Aside0.mk (below_step (by repeat (first | (with_reducible first | exact HB.out | apply below_alloc | apply pw_below_drewN | apply below_drew1) | exact HB.out)) hb); clear HO170; clear HB; have HO170 := n0_; have HB := n1_; clear n0_ n1_; (try clear hb); (try clear hb2); (try clear hk); (try clear hi)) | ((with_reducible refine gate_callee (f := 15) rfl ?_); refine goesL_ (some 50) rfl rfl Tryd.func15 (by kernel_rfl) rfl #[.string (rdOf ByteArray.empty y168 (ji6))] rfl (by (try simp only [List.map_toArray, List.map_cons, List.map_nil]); first | done | (simp only [hji6]; rfl) | rfl | (simp only [List.length_drop, List.length_take]; rfl)) ?_; (with_reducible refine (impl_Tag.calls k (rdOf ByteArray.empty y168 (ji6)) t181 t182 true _ A62.out).mono ?_); rintro e w74 ⟨rfl, hb⟩; refine ⟨_, rfl, ?_⟩; have n0_ := Aside0.mk (Kd.R_below (by (with_reducible repeat (first | apply Kd.R_alloc | apply Kd.R_drewN | apply Kd.R_drew)); exact HO170.out) hb); have n1_ := Aside0.mk (below_step (by repeat (first | (with_reducible first | exact HB.out | apply below_alloc | apply pw_below_drewN | apply below_drew1) | exact HB.out)) hb); clear HO170; clear HB; have HO170 := n0_; have HB := n1_; clear n0_ n1_; (try clear hb); (try clear hb2); (try clear hk); (try clear hi)))
                        go_ret
                        exact ⟨by first | rfl | (simp [errW_none, errW_some] <;> rfl) | (simp only [← hji6]; first | rfl | (simp [errW_none, errW_some] <;> rfl)) | (simp [*, errW_none, errW_some] <;> rfl), by repeat (first | (with_reducible first | exact HB.out | apply below_alloc | apply pw_below_drewN | apply below_drew1) | exact HB.out)⟩
                    · replace c63 := Bool.eq_false_iff.mpr c63
                      subst c63
                      have H1 : (some false) = some r := by rw [if_neg (show ¬ (false = true) by decide)] at H; exact H
                      clear H
                      have H := H1
                      clear H1
                      obtain rfl := Option.some.inj H
                      go_enter Tryd.func4, Tryd.ntmps4
                      go_wp2_with (first | ((with_reducible refine gate_dst (N := 16) rfl ?_); refine Kd.R_lit Kd.string _ 9 ?hg (N := 16) ?hd (xs := ([(⟨#[83, 69, 76, 69, 67, 84]⟩ : ByteArray), (⟨#[85, 80, 68, 65, 84, 69]⟩ : ByteArray), (⟨#[68, 69, 76, 69, 84, 69]⟩ : ByteArray), (⟨#[70, 69, 84, 67, 72]⟩ : ByteArray), (⟨#[77, 79, 86, 69]⟩ : ByteArray), (⟨#[67, 79, 80, 89]⟩ : ByteArray), (⟨#[73, 78, 83, 69, 82, 84]⟩ : ByteArray), (⟨#[66, 69, 71, 73, 78]⟩ : ByteArray), (⟨#[67, 82, 69, 65, 84, 69, 32, 84, 65, 66, 76, 69]⟩ : ByteArray)] : List ByteArray)) (inner := [.string (⟨#[83, 69, 76, 69, 67, 84]⟩ : ByteArray), .string (⟨#[85, 80, 68, 65, 84, 69]⟩ : ByteArray), .string (⟨#[68, 69, 76, 69, 84, 69]⟩ : ByteArray), .string (⟨#[70, 69, 84, 67, 72]⟩ : ByteArray), .string (⟨#[77, 79, 86, 69]⟩ : ByteArray), .string (⟨#[67, 79, 80, 89]⟩ : ByteArray), .string (⟨#[73, 78, 83, 69, 82, 84]⟩ : ByteArray), .string (⟨#[66, 69, 71, 73, 78]⟩ : ByteArray), .string (⟨#[67, 82, 69, 65, 84, 69, 32, 84, 65, 66, 76, 69]⟩ : ByteArray)]) (ok := fun _ => True) (okp := fun _ => True) ?hr ?hp (fun _ hk => hk) trivial (Below.refl _ _) (Nat.le_refl _) (by simp) ?_; (case hd => rfl); (case hg => rfl); (case hr => first | (go_simp; done) | (go_simp; rfl) | (go_simp; simp [IntKind.wrap_u8]; done)); (case hp => exact (Reps.one (show Kd.M Kd.string _ _ _ (⟨#[83, 69, 76, 69, 67, 84]⟩ : ByteArray) [.string (⟨#[83, 69, 76, 69, 67, 84]⟩ : ByteArray)] from rfl) (Reps.one (show Kd.M Kd.string _ _ _ (⟨#[85, 80, 68, 65, 84, 69]⟩ : ByteArray) [.string (⟨#[85, 80, 68, 65, 84, 69]⟩ : ByteArray)] from rfl) (Reps.one (show Kd.M Kd.string _ _ _ (⟨#[68, 69, 76, 69, 84, 69]⟩ : ByteArray) [.string (⟨#[68, 69, 76, 69, 84, 69]⟩ : ByteArray)] from rfl) (Reps.one (show Kd.M Kd.string _ _ _ (⟨#[70, 69, 84, 67, 72]⟩ : ByteArray) [.string (⟨#[70, 69, 84, 67, 72]⟩ : ByteArray)] from rfl) (Reps.one (show Kd.M Kd.string _ _ _ (⟨#[77, 79, 86, 69]⟩ : ByteArray) [.string (⟨#[77, 79, 86, 69]⟩ : ByteArray)] from rfl) (Reps.one (show Kd.M Kd.string _ _ _ (⟨#[67, 79, 80, 89]⟩ : ByteArray) [.string (⟨#[67, 79, 80, 89]⟩ : ByteArray)] from rfl) (Reps.one (show Kd.M Kd.string _ _ _ (⟨#[73, 78, 83, 69, 82, 84]⟩ : ByteArray) [.string (⟨#[73, 78, 83, 69, 82, 84]⟩ : ByteArray)] from rfl) (Reps.one (show Kd.M Kd.string _ _ _ (⟨#[66, 69, 71, 73, 78]⟩ : ByteArray) [.string (⟨#[66, 69, 71, 73, 78]⟩ : ByteArray)] from rfl) (Reps.one (show Kd.M Kd.string _ _ _ (⟨#[67, 82, 69, 65, 84, 69, 32, 84, 65, 66, 76, 69]⟩ : ByteArray) [.string (⟨#[67, 82, 69, 65, 84, 69, 32, 84, 65, 66, 76, 69]⟩ : ByteArray)] from rfl) (Reps.none _ _))))))))))); intro v169 w75 ho76 hb hg_ hnew_; clear hg_ hnew_; (first | rw [← Ny168.out] at ho76 | (simp only [Int.reduceToNat] at ho76; rw [← Ny168.out] at ho76)); have n0_ := Aside0.mk (Kd.R_lower ho76 (below_size (by repeat (first | (with_reducible first | exact HB.out | apply below_alloc | apply pw_below_drewN | apply below_drew1) | exact HB.out)))); have n1_ := Aside0.mk (below_step (by repeat (first | (with_reducible first | exact HB.out | apply below_alloc | apply pw_below_drewN | apply below_drew1) | exact HB.out)) hb); clear HB; have HO170 := n0_; have HB := n1_; clear n0_ n1_; clear hb ho76; obtain ⟨Ao77, co77, eo77⟩ := Kd.R_slice HO170.out; subst eo77; have p171 : 0 ≤ ((ji6) : Int) := of_decide_eq_true (by first | (with_reducible assumption) | assumption); have q171 : (ji6) < (y168.length : Int) := of_decide_eq_true (by first | (with_reducible assumption) | assumption); obtain ⟨ad171, e171, hx171_0⟩ := Kd.at_string (Kd.R_reads' HO170.out).2.2 (ji6) p171 q171; cases e171; replace p171 := eq_true p171; replace q171 := eq_true q171) | ((with_reducible refine gate_callee (f := 14) rfl ?_); refine goesL_ (some 28) rfl rfl Tryd.func14 (by kernel_rfl) rfl #[.int .i64 a1] rfl (by (try simp only [List.map_toArray, List.map_cons, List.map_nil]); first | done | rfl | (simp only [List.length_drop, List.length_take]; rfl)) ?_; (with_reducible refine (spec_Number.calls k a1 t172 _ A10.out).mono ?_); rintro e w78 ⟨rfl, hb⟩; refine ⟨_, rfl, ?_⟩; have n0_ := Aside0.mk (Kd.R_below (by (with_reducible repeat (first | apply Kd.R_alloc | apply Kd.R_drewN | apply Kd.R_drew)); exact HO170.out) hb); have n1_ := Aside0.mk (below_step (by repeat (first | (with_reducible first | exact HB.out | apply below_alloc | apply pw_below_drewN | apply below_drew1) | exact HB.out)) hb); clear HO170; clear HB; have HO170 := n0_; have HB := n1_; clear n0_ n1_; (try clear hb); (try clear hb2); (try clear hk); (try clear hi)) | ((with_reducible refine gate_callee (f := 15) rfl ?_); refine goesL_ (some 50) rfl rfl Tryd.func15 (by kernel_rfl) rfl #[.string (rdOf ByteArray.empty y168 (ji6))] rfl (by (try simp only [List.map_toArray, List.map_cons, List.map_nil]); first | done | (simp only [hji6]; rfl) | rfl | (simp only [List.length_drop, List.length_take]; rfl)) ?_; (with_reducible refine (impl_Tag.calls k (rdOf ByteArray.empty y168 (ji6)) t181 t182 false _ A62.out).mono ?_); rintro e w79 ⟨rfl, hb⟩; refine ⟨_, rfl, ?_⟩; have n0_ := Aside0.mk (Kd.R_below (by (with_reducible repeat (first | apply Kd.R_alloc | apply Kd.R_drewN | apply Kd.R_drew)); exact HO170.out) hb); have n1_ := Aside0.mk (below_step (by repeat (first | (with_reducible first | exact HB.out | apply below_alloc | apply pw_below_drewN | apply below_drew1) | exact HB.out)) hb); clear HO170; clear HB; have HO170 := n0_; have HB := n1_; clear n0_ n1_; (try clear hb); (try clear hb2); (try clear hk); (try clear hi)))
                      go_ret
                      exact ⟨by first | rfl | (simp [errW_none, errW_some] <;> rfl) | (simp only [← hji6]; first | rfl | (simp [errW_none, errW_some] <;> rfl)) | (simp [*, errW_none, errW_some] <;> rfl), by repeat (first | (with_reducible first | exact HB.out | apply below_alloc | apply pw_below_drewN | apply below_drew1) | exact HB.out)⟩
                  · rw [if_neg c61] at H
                    have c61b0 : ((rdOf ByteArray.empty y168 (ji6)).toList == ([67, 82, 69, 65, 84, 69, 32, 84, 65, 66, 76, 69] : List UInt8)) = false := beq_eq_false_iff_ne.mpr c61
                    have c61b1 : ((rdOf ByteArray.empty y168 (ji6)).toList != ([67, 82, 69, 65, 84, 69, 32, 84, 65, 66, 76, 69] : List UInt8)) = true := bne_iff_ne.mpr c61
                    replace H := Option.bind_eq_some_iff.mp H
                    obtain ⟨⟨t184, t185, t186⟩, A800, H⟩ := H
                    replace H : (if t186 = true then (if t184.toList = (rdOf ByteArray.empty y168 (ji6)).toList then (some (t185 == a1)) else (some false)) else (some false)) = some r := H
                    have A80 := Aside0.mk A800
                    clear A800
                    by_cases c81 : t186 = true
                    · subst c81
                      have H1 : (if t184.toList = (rdOf ByteArray.empty y168 (ji6)).toList then (some (t185 == a1)) else (some false)) = some r := by rw [if_pos rfl] at H; exact H
                      clear H
                      have H := H1
                      clear H1
                      by_cases c82 : t184.toList = (rdOf ByteArray.empty y168 (ji6)).toList
                      · rw [if_pos c82] at H
                        have c82b0 : (t184.toList == (rdOf ByteArray.empty y168 (ji6)).toList) = true := beq_iff_eq.mpr c82
                        have c82b1 : (t184.toList != (rdOf ByteArray.empty y168 (ji6)).toList) = false := bne_eq_false_iff_eq.mpr c82
                        clear c82
                        obtain rfl := Option.some.inj H
                        go_enter Tryd.func4, Tryd.ntmps4
                        go_wp2_with (first | ((with_reducible refine gate_dst (N := 16) rfl ?_); refine Kd.R_lit Kd.string _ 9 ?hg (N := 16) ?hd (xs := ([(⟨#[83, 69, 76, 69, 67, 84]⟩ : ByteArray), (⟨#[85, 80, 68, 65, 84, 69]⟩ : ByteArray), (⟨#[68, 69, 76, 69, 84, 69]⟩ : ByteArray), (⟨#[70, 69, 84, 67, 72]⟩ : ByteArray), (⟨#[77, 79, 86, 69]⟩ : ByteArray), (⟨#[67, 79, 80, 89]⟩ : ByteArray), (⟨#[73, 78, 83, 69, 82, 84]⟩ : ByteArray), (⟨#[66, 69, 71, 73, 78]⟩ : ByteArray), (⟨#[67, 82, 69, 65, 84, 69, 32, 84, 65, 66, 76, 69]⟩ : ByteArray)] : List ByteArray)) (inner := [.string (⟨#[83, 69, 76, 69, 67, 84]⟩ : ByteArray), .string (⟨#[85, 80, 68, 65, 84, 69]⟩ : ByteArray), .string (⟨#[68, 69, 76, 69, 84, 69]⟩ : ByteArray), .string (⟨#[70, 69, 84, 67, 72]⟩ : ByteArray), .string (⟨#[77, 79, 86, 69]⟩ : ByteArray), .string (⟨#[67, 79, 80, 89]⟩ : ByteArray), .string (⟨#[73, 78, 83, 69, 82, 84]⟩ : ByteArray), .string (⟨#[66, 69, 71, 73, 78]⟩ : ByteArray), .string (⟨#[67, 82, 69, 65, 84, 69, 32, 84, 65, 66, 76, 69]⟩ : ByteArray)]) (ok := fun _ => True) (okp := fun _ => True) ?hr ?hp (fun _ hk => hk) trivial (Below.refl _ _) (Nat.le_refl _) (by simp) ?_; (case hd => rfl); (case hg => rfl); (case hr => first | (go_simp; done) | (go_simp; rfl) | (go_simp; simp [IntKind.wrap_u8]; done)); (case hp => exact (Reps.one (show Kd.M Kd.string _ _ _ (⟨#[83, 69, 76, 69, 67, 84]⟩ : ByteArray) [.string (⟨#[83, 69, 76, 69, 67, 84]⟩ : ByteArray)] from rfl) (Reps.one (show Kd.M Kd.string _ _ _ (⟨#[85, 80, 68, 65, 84, 69]⟩ : ByteArray) [.string (⟨#[85, 80, 68, 65, 84, 69]⟩ : ByteArray)] from rfl) (Reps.one (show Kd.M Kd.string _ _ _ (⟨#[68, 69, 76, 69, 84, 69]⟩ : ByteArray) [.string (⟨#[68, 69, 76, 69, 84, 69]⟩ : ByteArray)] from rfl) (Reps.one (show Kd.M Kd.string _ _ _ (⟨#[70, 69, 84, 67, 72]⟩ : ByteArray) [.string (⟨#[70, 69, 84, 67, 72]⟩ : ByteArray)] from rfl) (Reps.one (show Kd.M Kd.string _ _ _ (⟨#[77, 79, 86, 69]⟩ : ByteArray) [.string (⟨#[77, 79, 86, 69]⟩ : ByteArray)] from rfl) (Reps.one (show Kd.M Kd.string _ _ _ (⟨#[67, 79, 80, 89]⟩ : ByteArray) [.string (⟨#[67, 79, 80, 89]⟩ : ByteArray)] from rfl) (Reps.one (show Kd.M Kd.string _ _ _ (⟨#[73, 78, 83, 69, 82, 84]⟩ : ByteArray) [.string (⟨#[73, 78, 83, 69, 82, 84]⟩ : ByteArray)] from rfl) (Reps.one (show Kd.M Kd.string _ _ _ (⟨#[66, 69, 71, 73, 78]⟩ : ByteArray) [.string (⟨#[66, 69, 71, 73, 78]⟩ : ByteArray)] from rfl) (Reps.one (show Kd.M Kd.string _ _ _ (⟨#[67, 82, 69, 65, 84, 69, 32, 84, 65, 66, 76, 69]⟩ : ByteArray) [.string (⟨#[67, 82, 69, 65, 84, 69, 32, 84, 65, 66, 76, 69]⟩ : ByteArray)] from rfl) (Reps.none _ _))))))))))); intro v169 w83 ho84 hb hg_ hnew_; clear hg_ hnew_; (first | rw [← Ny168.out] at ho84 | (simp only [Int.reduceToNat] at ho84; rw [← Ny168.out] at ho84)); have n0_ := Aside0.mk (Kd.R_lower ho84 (below_size (by repeat (first | (with_reducible first | exact HB.out | apply below_alloc | apply pw_below_drewN | apply below_drew1) | exact HB.out)))); have n1_ := Aside0.mk (below_step (by repeat (first | (with_reducible first | exact HB.out | apply below_alloc | apply pw_below_drewN | apply below_drew1) | exact HB.out)) hb); clear HB; have HO170 := n0_; have HB := n1_; clear n0_ n1_; clear hb ho84; obtain ⟨Ao85, co85, eo85⟩ := Kd.R_slice HO170.out; subst eo85; have p171 : 0 ≤ ((ji6) : Int) := of_decide_eq_true (by first | (with_reducible assumption) | assumption); have q171 : (ji6) < (y168.length : Int) := of_decide_eq_true (by first | (with_reducible assumption) | assumption); obtain ⟨ad171, e171, hx171_0⟩ := Kd.at_string (Kd.R_reads' HO170.out).2.2 (ji6) p171 q171; cases e171; replace p171 := eq_true p171; replace q171 := eq_true q171) | ((with_reducible refine gate_callee (f := 14) rfl ?_); refine goesL_ (some 28) rfl rfl Tryd.func14 (by kernel_rfl) rfl #[.int .i64 a1] rfl (by (try simp only [List.map_toArray, List.map_cons, List.map_nil]); first | done | rfl | (simp only [List.length_drop, List.length_take]; rfl)) ?_; (with_reducible refine (spec_Number.calls k a1 t172 _ A10.out).mono ?_); rintro e w86 ⟨rfl, hb⟩; refine ⟨_, rfl, ?_⟩; have n0_ := Aside0.mk (Kd.R_below (by (with_reducible repeat (first | apply Kd.R_alloc | apply Kd.R_drewN | apply Kd.R_drew)); exact HO170.out) hb); have n1_ := Aside0.mk (below_step (by repeat (first | (with_reducible first | exact HB.out | apply below_alloc | apply pw_below_drewN | apply below_drew1) | exact HB.out)) hb); clear HO170; clear HB; have HO170 := n0_; have HB := n1_; clear n0_ n1_; (try clear hb); (try clear hb2); (try clear hk); (try clear hi)) | ((with_reducible refine gate_callee (f := 15) rfl ?_); refine goesL_ (some 50) rfl rfl Tryd.func15 (by kernel_rfl) rfl #[.string (((rdOf ByteArray.empty y168 (ji6)) ++ (⟨#[32]⟩ : ByteArray)) ++ t172)] rfl (by (try simp only [List.map_toArray, List.map_cons, List.map_nil]); first | done | (simp only [hji6]; rfl) | rfl | (simp only [List.length_drop, List.length_take]; rfl)) ?_; (with_reducible refine (impl_Tag.calls k (((rdOf ByteArray.empty y168 (ji6)) ++ (⟨#[32]⟩ : ByteArray)) ++ t172) t184 t185 true _ A80.out).mono ?_); rintro e w87 ⟨rfl, hb⟩; refine ⟨_, rfl, ?_⟩; have n0_ := Aside0.mk (Kd.R_below (by (with_reducible repeat (first | apply Kd.R_alloc | apply Kd.R_drewN | apply Kd.R_drew)); exact HO170.out) hb); have n1_ := Aside0.mk (below_step (by repeat (first | (with_reducible first | exact HB.out | apply below_alloc | apply pw_below_drewN | apply below_drew1) | exact HB.out)) hb); clear HO170; clear HB; have HO170 := n0_; have HB := n1_; clear n0_ n1_; (try clear hb); (try clear hb2); (try clear hk); (try clear hi)))
                        go_ret
                        exact ⟨by first | rfl | (simp [errW_none, errW_some] <;> rfl) | (simp only [← hji6]; first | rfl | (simp [errW_none, errW_some] <;> rfl)) | (simp [*, errW_none, errW_some] <;> rfl), by repeat (first | (with_reducible first | exact HB.out | apply below_alloc | apply pw_below_drewN | apply below_drew1) | exact HB.out)⟩
                      · rw [if_neg c82] at H
                        have c82b0 : (t184.toList == (rdOf ByteArray.empty y168 (ji6)).toList) = false := beq_eq_false_iff_ne.mpr c82
                        have c82b1 : (t184.toList != (rdOf ByteArray.empty y168 (ji6)).toList) = true := bne_iff_ne.mpr c82
                        obtain rfl := Option.some.inj H
                        go_enter Tryd.func4, Tryd.ntmps4
                        go_wp2_with (first | ((with_reducible refine gate_dst (N := 16) rfl ?_); refine Kd.R_lit Kd.string _ 9 ?hg (N := 16) ?hd (xs := ([(⟨#[83, 69, 76, 69, 67, 84]⟩ : ByteArray), (⟨#[85, 80, 68, 65, 84, 69]⟩ : ByteArray), (⟨#[68, 69, 76, 69, 84, 69]⟩ : ByteArray), (⟨#[70, 69, 84, 67, 72]⟩ : ByteArray), (⟨#[77, 79, 86, 69]⟩ : ByteArray), (⟨#[67, 79, 80, 89]⟩ : ByteArray), (⟨#[73, 78, 83, 69, 82, 84]⟩ : ByteArray), (⟨#[66, 69, 71, 73, 78]⟩ : ByteArray), (⟨#[67, 82, 69, 65, 84, 69, 32, 84, 65, 66, 76, 69]⟩ : ByteArray)] : List ByteArray)) (inner := [.string (⟨#[83, 69, 76, 69, 67, 84]⟩ : ByteArray), .string (⟨#[85, 80, 68, 65, 84, 69]⟩ : ByteArray), .string (⟨#[68, 69, 76, 69, 84, 69]⟩ : ByteArray), .string (⟨#[70, 69, 84, 67, 72]⟩ : ByteArray), .string (⟨#[77, 79, 86, 69]⟩ : ByteArray), .string (⟨#[67, 79, 80, 89]⟩ : ByteArray), .string (⟨#[73, 78, 83, 69, 82, 84]⟩ : ByteArray), .string (⟨#[66, 69, 71, 73, 78]⟩ : ByteArray), .string (⟨#[67, 82, 69, 65, 84, 69, 32, 84, 65, 66, 76, 69]⟩ : ByteArray)]) (ok := fun _ => True) (okp := fun _ => True) ?hr ?hp (fun _ hk => hk) trivial (Below.refl _ _) (Nat.le_refl _) (by simp) ?_; (case hd => rfl); (case hg => rfl); (case hr => first | (go_simp; done) | (go_simp; rfl) | (go_simp; simp [IntKind.wrap_u8]; done)); (case hp => exact (Reps.one (show Kd.M Kd.string _ _ _ (⟨#[83, 69, 76, 69, 67, 84]⟩ : ByteArray) [.string (⟨#[83, 69, 76, 69, 67, 84]⟩ : ByteArray)] from rfl) (Reps.one (show Kd.M Kd.string _ _ _ (⟨#[85, 80, 68, 65, 84, 69]⟩ : ByteArray) [.string (⟨#[85, 80, 68, 65, 84, 69]⟩ : ByteArray)] from rfl) (Reps.one (show Kd.M Kd.string _ _ _ (⟨#[68, 69, 76, 69, 84, 69]⟩ : ByteArray) [.string (⟨#[68, 69, 76, 69, 84, 69]⟩ : ByteArray)] from rfl) (Reps.one (show Kd.M Kd.string _ _ _ (⟨#[70, 69, 84, 67, 72]⟩ : ByteArray) [.string (⟨#[70, 69, 84, 67, 72]⟩ : ByteArray)] from rfl) (Reps.one (show Kd.M Kd.string _ _ _ (⟨#[77, 79, 86, 69]⟩ : ByteArray) [.string (⟨#[77, 79, 86, 69]⟩ : ByteArray)] from rfl) (Reps.one (show Kd.M Kd.string _ _ _ (⟨#[67, 79, 80, 89]⟩ : ByteArray) [.string (⟨#[67, 79, 80, 89]⟩ : ByteArray)] from rfl) (Reps.one (show Kd.M Kd.string _ _ _ (⟨#[73, 78, 83, 69, 82, 84]⟩ : ByteArray) [.string (⟨#[73, 78, 83, 69, 82, 84]⟩ : ByteArray)] from rfl) (Reps.one (show Kd.M Kd.string _ _ _ (⟨#[66, 69, 71, 73, 78]⟩ : ByteArray) [.string (⟨#[66, 69, 71, 73, 78]⟩ : ByteArray)] from rfl) (Reps.one (show Kd.M Kd.string _ _ _ (⟨#[67, 82, 69, 65, 84, 69, 32, 84, 65, 66, 76, 69]⟩ : ByteArray) [.string (⟨#[67, 82, 69, 65, 84, 69, 32, 84, 65, 66, 76, 69]⟩ : ByteArray)] from rfl) (Reps.none _ _))))))))))); intro v169 w88 ho89 hb hg_ hnew_; clear hg_ hnew_; (first | rw [← Ny168.out] at ho89 | (simp only [Int.reduceToNat] at ho89; rw [← Ny168.out] at ho89)); have n0_ := Aside0.mk (Kd.R_lower ho89 (below_size (by repeat (first | (with_reducible first | exact HB.out | apply below_alloc | apply pw_below_drewN | apply below_drew1) | exact HB.out)))); have n1_ := Aside0.mk (below_step (by repeat (first | (with_reducible first | exact HB.out | apply below_alloc | apply pw_below_drewN | apply below_drew1) | exact HB.out)) hb); clear HB; have HO170 := n0_; have HB := n1_; clear n0_ n1_; clear hb ho89; obtain ⟨Ao90, co90, eo90⟩ := Kd.R_slice HO170.out; subst eo90; have p171 : 0 ≤ ((ji6) : Int) := of_decide_eq_true (by first | (with_reducible assumption) | assumption); have q171 : (ji6) < (y168.length : Int) := of_decide_eq_true (by first | (with_reducible assumption) | assumption); obtain ⟨ad171, e171, hx171_0⟩ := Kd.at_string (Kd.R_reads' HO170.out).2.2 (ji6) p171 q171; cases e171; replace p171 := eq_true p171; replace q171 := eq_true q171) | ((with_reducible refine gate_callee (f := 14) rfl ?_); refine goesL_ (some 28) rfl rfl Tryd.func14 (by kernel_rfl) rfl #[.int .i64 a1] rfl (by (try simp only [List.map_toArray, List.map_cons, List.map_nil]); first | done | rfl | (simp only [List.length_drop, List.length_take]; rfl)) ?_; (with_reducible refine (spec_Number.calls k a1 t172 _ A10.out).mono ?_); rintro e w91 ⟨rfl, hb⟩; refine ⟨_, rfl, ?_⟩; have n0_ := Aside0.mk (Kd.R_below (by (with_reducible repeat (first | apply Kd.R_alloc | apply Kd.R_drewN | apply Kd.R_drew)); exact HO170.out) hb); have n1_ := Aside0.mk (below_step (by repeat (first | (with_reducible first | exact HB.out | apply below_alloc | apply pw_below_drewN | apply below_drew1) | exact HB.out)) hb); clear HO170; clear HB; have HO170 := n0_; have HB := n1_; clear n0_ n1_; (try clear hb); (try clear hb2); (try clear hk); (try clear hi)) | ((with_reducible refine gate_callee (f := 15) rfl ?_); refine goesL_ (some 50) rfl rfl Tryd.func15 (by kernel_rfl) rfl #[.string (((rdOf ByteArray.empty y168 (ji6)) ++ (⟨#[32]⟩ : ByteArray)) ++ t172)] rfl (by (try simp only [List.map_toArray, List.map_cons, List.map_nil]); first | done | (simp only [hji6]; rfl) | rfl | (simp only [List.length_drop, List.length_take]; rfl)) ?_; (with_reducible refine (impl_Tag.calls k (((rdOf ByteArray.empty y168 (ji6)) ++ (⟨#[32]⟩ : ByteArray)) ++ t172) t184 t185 true _ A80.out).mono ?_); rintro e w92 ⟨rfl, hb⟩; refine ⟨_, rfl, ?_⟩; have n0_ := Aside0.mk (Kd.R_below (by (with_reducible repeat (first | apply Kd.R_alloc | apply Kd.R_drewN | apply Kd.R_drew)); exact HO170.out) hb); have n1_ := Aside0.mk (below_step (by repeat (first | (with_reducible first | exact HB.out | apply below_alloc | apply pw_below_drewN | apply below_drew1) | exact HB.out)) hb); clear HO170; clear HB; have HO170 := n0_; have HB := n1_; clear n0_ n1_; (try clear hb); (try clear hb2); (try clear hk); (try clear hi)))
                        go_ret
                        exact ⟨by first | rfl | (simp [errW_none, errW_some] <;> rfl) | (simp only [← hji6]; first | rfl | (simp [errW_none, errW_some] <;> rfl)) | (simp [*, errW_none, errW_some] <;> rfl), by repeat (first | (with_reducible first | exact HB.out | apply below_alloc | apply pw_below_drewN | apply below_drew1) | exact HB.out)⟩
                    · replace c81 := Bool.eq_false_iff.mpr c81
                      subst c81
                      have H1 : (some false) = some r := by rw [if_neg (show ¬ (false = true) by decide)] at H; exact H
                      clear H
                      have H := H1
                      clear H1
                      obtain rfl := Option.some.inj H
                      go_enter Tryd.func4, Tryd.ntmps4
                      go_wp2_with (first | ((with_reducible refine gate_dst (N := 16) rfl ?_); refine Kd.R_lit Kd.string _ 9 ?hg (N := 16) ?hd (xs := ([(⟨#[83, 69, 76, 69, 67, 84]⟩ : ByteArray), (⟨#[85, 80, 68, 65, 84, 69]⟩ : ByteArray), (⟨#[68, 69, 76, 69, 84, 69]⟩ : ByteArray), (⟨#[70, 69, 84, 67, 72]⟩ : ByteArray), (⟨#[77, 79, 86, 69]⟩ : ByteArray), (⟨#[67, 79, 80, 89]⟩ : ByteArray), (⟨#[73, 78, 83, 69, 82, 84]⟩ : ByteArray), (⟨#[66, 69, 71, 73, 78]⟩ : ByteArray), (⟨#[67, 82, 69, 65, 84, 69, 32, 84, 65, 66, 76, 69]⟩ : ByteArray)] : List ByteArray)) (inner := [.string (⟨#[83, 69, 76, 69, 67, 84]⟩ : ByteArray), .string (⟨#[85, 80, 68, 65, 84, 69]⟩ : ByteArray), .string (⟨#[68, 69, 76, 69, 84, 69]⟩ : ByteArray), .string (⟨#[70, 69, 84, 67, 72]⟩ : ByteArray), .string (⟨#[77, 79, 86, 69]⟩ : ByteArray), .string (⟨#[67, 79, 80, 89]⟩ : ByteArray), .string (⟨#[73, 78, 83, 69, 82, 84]⟩ : ByteArray), .string (⟨#[66, 69, 71, 73, 78]⟩ : ByteArray), .string (⟨#[67, 82, 69, 65, 84, 69, 32, 84, 65, 66, 76, 69]⟩ : ByteArray)]) (ok := fun _ => True) (okp := fun _ => True) ?hr ?hp (fun _ hk => hk) trivial (Below.refl _ _) (Nat.le_refl _) (by simp) ?_; (case hd => rfl); (case hg => rfl); (case hr => first | (go_simp; done) | (go_simp; rfl) | (go_simp; simp [IntKind.wrap_u8]; done)); (case hp => exact (Reps.one (show Kd.M Kd.string _ _ _ (⟨#[83, 69, 76, 69, 67, 84]⟩ : ByteArray) [.string (⟨#[83, 69, 76, 69, 67, 84]⟩ : ByteArray)] from rfl) (Reps.one (show Kd.M Kd.string _ _ _ (⟨#[85, 80, 68, 65, 84, 69]⟩ : ByteArray) [.string (⟨#[85, 80, 68, 65, 84, 69]⟩ : ByteArray)] from rfl) (Reps.one (show Kd.M Kd.string _ _ _ (⟨#[68, 69, 76, 69, 84, 69]⟩ : ByteArray) [.string (⟨#[68, 69, 76, 69, 84, 69]⟩ : ByteArray)] from rfl) (Reps.one (show Kd.M Kd.string _ _ _ (⟨#[70, 69, 84, 67, 72]⟩ : ByteArray) [.string (⟨#[70, 69, 84, 67, 72]⟩ : ByteArray)] from rfl) (Reps.one (show Kd.M Kd.string _ _ _ (⟨#[77, 79, 86, 69]⟩ : ByteArray) [.string (⟨#[77, 79, 86, 69]⟩ : ByteArray)] from rfl) (Reps.one (show Kd.M Kd.string _ _ _ (⟨#[67, 79, 80, 89]⟩ : ByteArray) [.string (⟨#[67, 79, 80, 89]⟩ : ByteArray)] from rfl) (Reps.one (show Kd.M Kd.string _ _ _ (⟨#[73, 78, 83, 69, 82, 84]⟩ : ByteArray) [.string (⟨#[73, 78, 83, 69, 82, 84]⟩ : ByteArray)] from rfl) (Reps.one (show Kd.M Kd.string _ _ _ (⟨#[66, 69, 71, 73, 78]⟩ : ByteArray) [.string (⟨#[66, 69, 71, 73, 78]⟩ : ByteArray)] from rfl) (Reps.one (show Kd.M Kd.string _ _ _ (⟨#[67, 82, 69, 65, 84, 69, 32, 84, 65, 66, 76, 69]⟩ : ByteArray) [.string (⟨#[67, 82, 69, 65, 84, 69, 32, 84, 65, 66, 76, 69]⟩ : ByteArray)] from rfl) (Reps.none _ _))))))))))); intro v169 w93 ho94 hb hg_ hnew_; clear hg_ hnew_; (first | rw [← Ny168.out] at ho94 | (simp only [Int.reduceToNat] at ho94; rw [← Ny168.out] at ho94)); have n0_ := Aside0.mk (Kd.R_lower ho94 (below_size (by repeat (first | (with_reducible first | exact HB.out | apply below_alloc | apply pw_below_drewN | apply below_drew1) | exact HB.out)))); have n1_ := Aside0.mk (below_step (by repeat (first | (with_reducible first | exact HB.out | apply below_alloc | apply pw_below_drewN | apply below_drew1) | exact HB.out)) hb); clear HB; have HO170 := n0_; have HB := n1_; clear n0_ n1_; clear hb ho94; obtain ⟨Ao95, co95, eo95⟩ := Kd.R_slice HO170.out; subst eo95; have p171 : 0 ≤ ((ji6) : Int) := of_decide_eq_true (by first | (with_reducible assumption) | assumption); have q171 : (ji6) < (y168.length : Int) := of_decide_eq_true (by first | (with_reducible assumption) | assumption); obtain ⟨ad171, e171, hx171_0⟩ := Kd.at_string (Kd.R_reads' HO170.out).2.2 (ji6) p171 q171; cases e171; replace p171 := eq_true p171; replace q171 := eq_true q171) | ((with_reducible refine gate_callee (f := 14) rfl ?_); refine goesL_ (some 28) rfl rfl Tryd.func14 (by kernel_rfl) rfl #[.int .i64 a1] rfl (by (try simp only [List.map_toArray, List.map_cons, List.map_nil]); first | done | rfl | (simp only [List.length_drop, List.length_take]; rfl)) ?_; (with_reducible refine (spec_Number.calls k a1 t172 _ A10.out).mono ?_); rintro e w96 ⟨rfl, hb⟩; refine ⟨_, rfl, ?_⟩; have n0_ := Aside0.mk (Kd.R_below (by (with_reducible repeat (first | apply Kd.R_alloc | apply Kd.R_drewN | apply Kd.R_drew)); exact HO170.out) hb); have n1_ := Aside0.mk (below_step (by repeat (first | (with_reducible first | exact HB.out | apply below_alloc | apply pw_below_drewN | apply below_drew1) | exact HB.out)) hb); clear HO170; clear HB; have HO170 := n0_; have HB := n1_; clear n0_ n1_; (try clear hb); (try clear hb2); (try clear hk); (try clear hi)) | ((with_reducible refine gate_callee (f := 15) rfl ?_); refine goesL_ (some 50) rfl rfl Tryd.func15 (by kernel_rfl) rfl #[.string (((rdOf ByteArray.empty y168 (ji6)) ++ (⟨#[32]⟩ : ByteArray)) ++ t172)] rfl (by (try simp only [List.map_toArray, List.map_cons, List.map_nil]); first | done | (simp only [hji6]; rfl) | rfl | (simp only [List.length_drop, List.length_take]; rfl)) ?_; (with_reducible refine (impl_Tag.calls k (((rdOf ByteArray.empty y168 (ji6)) ++ (⟨#[32]⟩ : ByteArray)) ++ t172) t184 t185 false _ A80.out).mono ?_); rintro e w97 ⟨rfl, hb⟩; refine ⟨_, rfl, ?_⟩; have n0_ := Aside0.mk (Kd.R_below (by (with_reducible repeat (first | apply Kd.R_alloc | apply Kd.R_drewN | apply Kd.R_drew)); exact HO170.out) hb); have n1_ := Aside0.mk (below_step (by repeat (first | (with_reducible first | exact HB.out | apply below_alloc | apply pw_below_drewN | apply below_drew1) | exact HB.out)) hb); clear HO170; clear HB; have HO170 := n0_; have HB := n1_; clear n0_ n1_; (try clear hb); (try clear hb2); (try clear hk); (try clear hi)))
                      go_ret
                      exact ⟨by first | rfl | (simp [errW_none, errW_some] <;> rfl) | (simp only [← hji6]; first | rfl | (simp [errW_none, errW_some] <;> rfl)) | (simp [*, errW_none, errW_some] <;> rfl), by repeat (first | (with_reducible first | exact HB.out | apply below_alloc | apply pw_below_drewN | apply below_drew1) | exact HB.out)⟩
            · rw [if_neg c11] at H
              exact absurd H (by simp)
          · rw [if_neg c9] at H
            exact absurd H (by simp)
        · rw [if_neg c8] at H
          exact absurd H (by simp)
      · rw [if_neg c7] at H
        exact absurd H (by simp)

/-- THE ONE PURE STATEMENT of laws_FnTag: yours. -/
def laws_FnTag.Pure : Prop := ∀ (a0 : Int) (a1 : Int) (a2 : Int), (Lit.int .u8 a0).wf = true → (Lit.int .i64 a1).wf = true → (Lit.int .u32 a2).wf = true → ∃ k, laws_FnTag.f k a0 a1 a2 = some true
theorem laws_FnTag.walk (P : laws_FnTag.Pure) (a0 : Int) (a1 : Int) (a2 : Int) (w : World) (w0 : (Lit.int .u8 a0).wf = true) (w1 : (Lit.int .i64 a1).wf = true) (w2 : (Lit.int .u32 a2).wf = true) :
    Calls Tryd.prog 4 #[.int .u8 a0, .int .i64 a1, .int .u32 a2] w fun e w' => e = .returned (.bool true) ∧ Below w.heap.size w w' := by
  obtain ⟨k, h⟩ := P a0 a1 a2 w0 w1 w2
  refine (laws_FnTag.calls k a0 a1 a2 true w h).mono ?_
  rintro e w' ⟨rfl, hd⟩
  exact ⟨rfl, hd⟩

/-! ### laws_FnTagRefused: function 5 -/
mutual
def laws_FnTagRefused.j0 : Nat → ByteArray → Int → Bool → Option (Bool)
  | 0, _, _, _ => none
  | k + 1, x0, x1, x24 => if x24 = true then (some true) else (laws_FnTagRefused.l0 k x0 x1 0)
def laws_FnTagRefused.l0 : Nat → ByteArray → Int → Int → Option (Bool)
  | 0, _, _, _ => none
  | k + 1, x0, x1, x5 => if x5 < (x0.size : Int) then (if 0 ≤ x5 then (if (bt x0 x5) < 97 then (some true) else (if (bt x0 x5) > 122 then (some true) else (laws_FnTagRefused.l0 k x0 x1 (wrap64 (x5 + 1))))) else (none)) else (if 7 + x0.size ≤ 9223372036854775807 then ((impl_Tag.f k ((⟨#[85, 80, 68, 65, 84, 69, 32]⟩ : ByteArray) ++ x0)).bind fun bt187 => ((spec_Number.f k (wrap64 (x1))).bind fun t190 => (if 7 + t190.size ≤ 9223372036854775807 then ((impl_Tag.f k ((⟨#[73, 78, 83, 69, 82, 84, 32]⟩ : ByteArray) ++ t190)).bind fun bt191 => ((impl_Tag.f k (⟨#[85, 80, 68, 65, 84, 69, 32, 49]⟩ : ByteArray)).bind fun bt194 => (if bt187.2.2 = true then (some false) else (if bt191.2.2 = true then (some false) else (some bt194.2.2))))) else (none)))) else (none))
end
def laws_FnTagRefused.f (k : Nat) (a0 : ByteArray) (a1 : Int) : Option (Bool) := if (a0.size : Int) > 2147483647 then (some true) else (if a0.toList = ([] : List UInt8) then (laws_FnTagRefused.j0 k a0 a1 true) else (laws_FnTagRefused.j0 k a0 a1 (decide ((a0.size : Int) > 50))))
theorem laws_FnTagRefused.mono_l : ∀ k, (∀ y0 y1 y2, LeO (laws_FnTagRefused.j0 k y0 y1 y2) (laws_FnTagRefused.j0 (k + 1) y0 y1 y2)) ∧ (∀ y0 y1 y2, LeO (laws_FnTagRefused.l0 k y0 y1 y2) (laws_FnTagRefused.l0 (k + 1) y0 y1 y2))
  | 0 => ⟨fun _ _ _ r h => by simp [laws_FnTagRefused.j0] at h, fun _ _ _ r h => by simp [laws_FnTagRefused.l0] at h⟩
  | k + 1 => by
    obtain ⟨ih0, ih1⟩ := laws_FnTagRefused.mono_l k
    refine ⟨?_, ?_⟩
    · intro y0 y1 y2
      unfold laws_FnTagRefused.j0
      repeat' first
      | (with_reducible exact ih0 _ _ _)
      | (with_reducible exact ih1 _ _ _)
      | (with_reducible exact impl_Tag.mono _ _)
      | (with_reducible exact spec_Number.mono _ _)
      | (with_reducible exact LeO.refl _)
      | (with_reducible exact LeO.none _)
      | (with_reducible refine LeO.ite ?_ ?_)
      | (with_reducible refine LeO.bind ?_ (fun _ => ?_))
      | exact ih0 _ _ _
      | exact ih1 _ _ _
      | exact impl_Tag.mono _ _
      | exact spec_Number.mono _ _
      | exact LeO.none _
      | refine LeO.ite ?_ ?_
      | refine LeO.bind ?_ (fun _ => ?_)
    · intro y0 y1 y2
      unfold laws_FnTagRefused.l0
      repeat' first
      | (with_reducible exact ih0 _ _ _)
      | (with_reducible exact ih1 _ _ _)
      | (with_reducible exact impl_Tag.mono _ _)
      | (with_reducible exact spec_Number.mono _ _)
      | (with_reducible exact LeO.refl _)
      | (with_reducible exact LeO.none _)
      | (with_reducible refine LeO.ite ?_ ?_)
      | (with_reducible refine LeO.bind ?_ (fun _ => ?_))
      | exact ih0 _ _ _
      | exact ih1 _ _ _
      | exact impl_Tag.mono _ _
      | exact spec_Number.mono _ _
      | exact LeO.none _
      | refine LeO.ite ?_ ?_
      | refine LeO.bind ?_ (fun _ => ?_)
theorem laws_FnTagRefused.mono : ∀ a0 a1 k, LeO (laws_FnTagRefused.f k a0 a1) (laws_FnTagRefused.f (k + 1) a0 a1) := by
  intro a0 a1 k
  obtain ⟨ih0, ih1⟩ := laws_FnTagRefused.mono_l k
  unfold laws_FnTagRefused.f
  repeat' first
      | (with_reducible exact ih0 _ _ _)
      | (with_reducible exact ih1 _ _ _)
      | (with_reducible exact impl_Tag.mono _ _)
      | (with_reducible exact spec_Number.mono _ _)
      | (with_reducible exact LeO.refl _)
      | (with_reducible exact LeO.none _)
      | (with_reducible refine LeO.ite ?_ ?_)
      | (with_reducible refine LeO.bind ?_ (fun _ => ?_))
      | exact ih0 _ _ _
      | exact ih1 _ _ _
      | exact impl_Tag.mono _ _
      | exact spec_Number.mono _ _
      | exact LeO.none _
      | refine LeO.ite ?_ ?_
      | refine LeO.bind ?_ (fun _ => ?_)
set_option maxHeartbeats 8000000 in
set_option maxRecDepth 100000 in
theorem laws_FnTagRefused.calls (k : Nat) (a0 : ByteArray) (a1 : Int) (r : Bool) (w : World) (h : laws_FnTagRefused.f k a0 a1 = some r) :
    Calls Tryd.prog 5 #[.string a0, .int .u32 a1] w fun e w' => e = .returned (.bool r) ∧ Below w.heap.size w w' := by
  have HB := Aside0.mk (Below.refl w.heap.size w)
  have H : (if (a0.size : Int) > 2147483647 then (some true) else (if a0.toList = ([] : List UInt8) then (laws_FnTagRefused.j0 k a0 a1 true) else (laws_FnTagRefused.j0 k a0 a1 (decide ((a0.size : Int) > 50))))) = some r := h
  clear h
  by_cases c3 : (a0.size : Int) > 2147483647
  · rw [if_pos c3] at H
    have c3b0 : decide (2147483647 < (a0.size : Int)) = true := decide_eq_true c3
    have c3b1 : decide (2147483647 < a0.size) = true := decide_eq_true (by omega)
    clear c3
    obtain rfl := Option.some.inj H
    go_enter Tryd.func5, Tryd.ntmps5
    go_wp2
    go_ret
    exact ⟨by first | rfl | (simp [errW_none, errW_some] <;> rfl) | (simp [*, errW_none, errW_some] <;> rfl), by repeat (first | (with_reducible first | exact HB.out | apply below_alloc | apply pw_below_drewN | apply below_drew1) | exact HB.out)⟩
  · rw [if_neg c3] at H
    have c3b0 : decide (2147483647 < (a0.size : Int)) = false := decide_eq_false c3
    have c3b1 : decide (2147483647 < a0.size) = false := decide_eq_false (by omega)
    clear c3
    have HC4 := Aside0.mk H
    clear H
    go_enter Tryd.func5, Tryd.ntmps5
    go_upto_region 3 with (fail)
    go_cut [24] (fun v24 wc => ∃ (kq : Nat) (x24_3 : Bool), v24 = .bool x24_3 ∧ Aside0 (laws_FnTagRefused.j0 kq a0 a1 x24_3 = some r) ∧ Aside0 (kq ≤ k) ∧ Aside0 (Below w.heap.size w wc))
    case first =>
      have H := HC4.out
      clear HC4
      by_cases c5 : a0.toList = ([] : List UInt8)
      · rw [if_pos c5] at H
        have c5b0 : (a0.toList == ([] : List UInt8)) = true := beq_iff_eq.mpr c5
        have c5b1 : (a0.toList != ([] : List UInt8)) = false := bne_eq_false_iff_eq.mpr c5
        clear c5
        (first | rw [c5b0] | (simp only [i64_w, i32_w]; rw [c5b0]) | skip)
        have H' := Aside0.mk H
        clear H
        go_wp2
        go_meet
        case rel => exact ⟨_, (true), (by first | rfl | (simp; done) | (simp [*]; done)), H', ⟨by first | omega | exact Nat.le_refl _⟩, ⟨by repeat (first | (with_reducible first | exact HB.out | apply below_alloc | apply pw_below_drewN | apply below_drew1) | exact HB.out)⟩⟩
      · rw [if_neg c5] at H
        have c5b0 : (a0.toList == ([] : List UInt8)) = false := beq_eq_false_iff_ne.mpr c5
        have c5b1 : (a0.toList != ([] : List UInt8)) = true := bne_iff_ne.mpr c5
        (first | rw [c5b0] | (simp only [i64_w, i32_w]; rw [c5b0]) | skip)
        have H' := Aside0.mk H
        clear H
        go_wp2
        go_meet
        case rel => exact ⟨_, (decide ((a0.size : Int) > 50)), (by first | rfl | (simp; done) | (simp [*]; done)), H', ⟨by first | omega | exact Nat.le_refl _⟩, ⟨by repeat (first | (with_reducible first | exact HB.out | apply below_alloc | apply pw_below_drewN | apply below_drew1) | exact HB.out)⟩⟩
    case rest =>
      clear HC4
      try clear p2
      try clear c3
      try clear c3b0
      try clear c3b1
      try clear c5
      try clear c5b0
      try clear c5b1
      obtain ⟨kq, x24_3, rfl, HA, HJ3, HB⟩ := hcut
      cases kq with
      | zero => exact absurd HA.out (by simp [laws_FnTagRefused.j0])
      | succ kj3 =>
        have H := HA.out
        clear HA
        simp only [laws_FnTagRefused.j0] at H
        by_cases c6 : x24_3 = true
        · subst c6
          have H1 : (some true) = some r := by rw [if_pos rfl] at H; exact H
          clear H
          have H := H1
          clear H1
          obtain rfl := Option.some.inj H
          go_wp2
          go_ret
          exact ⟨by first | rfl | (simp [errW_none, errW_some] <;> rfl) | (simp [*, errW_none, errW_some] <;> rfl), by repeat (first | (with_reducible first | exact HB.out | apply below_alloc | apply pw_below_drewN | apply below_drew1) | exact HB.out)⟩
        · replace c6 := Bool.eq_false_iff.mpr c6
          subst c6
          have H1 : (laws_FnTagRefused.l0 kj3 a0 a1 0) = some r := by rw [if_neg (show ¬ (false = true) by decide)] at H; exact H
          clear H
          have H := H1
          clear H1
          have H' := Aside0.mk H
          clear H
          go_wp2
          go_loopg [5] kj3 (fun kq v5 w' => ∃ (x5_2 : Int), v5 = .int .i64 x5_2 ∧ Aside0 (laws_FnTagRefused.l0 kq a0 a1 x5_2 = some r) ∧ Aside0 (kq ≤ kj3) ∧ Aside0 (Below w.heap.size w w'))
          case atStart => exact ⟨(0), (by first | rfl | (simp; done) | (simp [*]; done)), H', ⟨Nat.le_refl _⟩, ⟨by repeat (first | (with_reducible first | exact HB.out | apply below_alloc | apply pw_below_drewN | apply below_drew1) | exact HB.out)⟩⟩
          case round =>
            clear H'
            try clear p2
            try clear c3
            try clear c3b0
            try clear c3b1
            try clear c5
            try clear c5b0
            try clear c5b1
            try clear c6
            try clear p2
            obtain ⟨x5_2, rfl, HA, HK2, HB⟩ := hrel
            cases gk with
            | zero => exact absurd HA.out (by simp [laws_FnTagRefused.l0])
            | succ k2 =>
              have H := HA.out
              clear HA
              simp only [laws_FnTagRefused.l0] at H
              by_cases c7 : x5_2 < (a0.size : Int)
              · rw [if_pos c7] at H
                have c7b0 : decide (x5_2 < (a0.size : Int)) = true := decide_eq_true c7
                clear c7
                by_cases c8 : 0 ≤ x5_2
                · rw [if_pos c8] at H
                  have c8b0 : decide (0 ≤ x5_2) = true := decide_eq_true c8
                  clear c8
                  by_cases c10 : (bt a0 x5_2) < 97
                  · rw [if_pos c10] at H
                    have c10b0 : decide ((bt a0 x5_2) < 97) = true := decide_eq_true c10
                    clear c10
                    obtain rfl := Option.some.inj H
                    have p9 : 0 ≤ (x5_2 : Int) := of_decide_eq_true (by first | (with_reducible assumption) | assumption)
                    have q9 : x5_2 < (a0.size : Int) := of_decide_eq_true (by first | (with_reducible assumption) | assumption)
                    have hx9 := bt_at a0 x5_2
                    replace p9 := eq_true p9
                    replace q9 := eq_true q9
                    go_wp2
                    go_ret
                    exact ⟨by first | rfl | (simp [errW_none, errW_some] <;> rfl) | (simp [*, errW_none, errW_some] <;> rfl), by repeat (first | (with_reducible first | exact HB.out | apply below_alloc | apply pw_below_drewN | apply below_drew1) | exact HB.out)⟩
                  · rw [if_neg c10] at H
                    have c10b0 : decide ((bt a0 x5_2) < 97) = false := decide_eq_false c10
                    clear c10
                    by_cases c12 : (bt a0 x5_2) > 122
                    · rw [if_pos c12] at H
                      have c12b0 : decide (122 < (bt a0 x5_2)) = true := decide_eq_true c12
                      clear c12
                      obtain rfl := Option.some.inj H
                      have p9 : 0 ≤ (x5_2 : Int) := of_decide_eq_true (by first | (with_reducible assumption) | assumption)
                      have q9 : x5_2 < (a0.size : Int) := of_decide_eq_true (by first | (with_reducible assumption) | assumption)
                      have hx9 := bt_at a0 x5_2
                      replace p9 := eq_true p9
                      replace q9 := eq_true q9
                      have p11 : 0 ≤ (x5_2 : Int) := of_decide_eq_true (by first | (with_reducible assumption) | assumption)
                      have q11 : x5_2 < (a0.size : Int) := of_decide_eq_true (by first | (with_reducible assumption) | assumption)
                      have hx11 := bt_at a0 x5_2
                      replace p11 := eq_true p11
                      replace q11 := eq_true q11
                      go_wp2
                      go_ret
                      exact ⟨by first | rfl | (simp [errW_none, errW_some] <;> rfl) | (simp [*, errW_none, errW_some] <;> rfl), by repeat (first | (with_reducible first | exact HB.out | apply below_alloc | apply pw_below_drewN | apply below_drew1) | exact HB.out)⟩
                    · rw [if_neg c12] at H
                      have c12b0 : decide (122 < (bt a0 x5_2)) = false := decide_eq_false c12
                      clear c12
                      have H' := Aside0.mk H
                      clear H
                      have p9 : 0 ≤ (x5_2 : Int) := of_decide_eq_true (by first | (with_reducible assumption) | assumption)
                      have q9 : x5_2 < (a0.size : Int) := of_decide_eq_true (by first | (with_reducible assumption) | assumption)
                      have hx9 := bt_at a0 x5_2
                      replace p9 := eq_true p9
                      replace q9 := eq_true q9
                      have p11 : 0 ≤ (x5_2 : Int) := of_decide_eq_true (by first | (with_reducible assumption) | assumption)
                      have q11 : x5_2 < (a0.size : Int) := of_decide_eq_true (by first | (with_reducible assumption) | assumption)
                      have hx11 := bt_at a0 x5_2
                      replace p11 := eq_true p11
                      replace q11 := eq_true q11
                      go_wp2
                      go_roundg k2
                      case measure => have := HJ3.out; have := HK2.out; omega
                      case rel => exact ⟨(wrap64 (x5_2 + 1)), (by first | rfl | (simp; done) | (simp [*]; done)), H', ⟨by have := HJ3.out; have := HK2.out; omega⟩, ⟨by repeat (first | (with_reducible first | exact HB.out | apply below_alloc | apply pw_below_drewN | apply below_drew1) | exact HB.out)⟩⟩
                · rw [if_neg c8] at H
                  exact absurd H (by simp)
              · rw [if_neg c7] at H
                have c7b0 : decide (x5_2 < (a0.size : Int)) = false := decide_eq_false c7
                clear c7
                by_cases c13 : 7 + a0.size ≤ 9223372036854775807
                · rw [if_pos c13] at H
                  have c13b0 := eq_true c13
                  have c13b1 : decide (7 + a0.size ≤ 9223372036854775807) = true := decide_eq_true c13
                  try have c13b2 : (9223372036854775807 < 7 + a0.size) = False := eq_false (Nat.not_lt.2 c13)
                  replace H := Option.bind_eq_some_iff.mp H
                  obtain ⟨⟨t187, t188, t189⟩, A140, H⟩ := H
                  replace H : ((spec_Number.f k2 (wrap64 (a1))).bind fun t190 => (if 7 + t190.size ≤ 9223372036854775807 then ((impl_Tag.f k2 ((⟨#[73, 78, 83, 69, 82, 84, 32]⟩ : ByteArray) ++ t190)).bind fun bt191 => ((impl_Tag.f k2 (⟨#[85, 80, 68, 65, 84, 69, 32, 49]⟩ : ByteArray)).bind fun bt194 => (if t189 = true then (some false) else (if bt191.2.2 = true then (some false) else (some bt194.2.2))))) else (none))) = some r := H
                  have A14 := Aside0.mk A140
                  clear A140
                  replace H := Option.bind_eq_some_iff.mp H
                  obtain ⟨t190, A150, H⟩ := H
                  replace H : (if 7 + t190.size ≤ 9223372036854775807 then ((impl_Tag.f k2 ((⟨#[73, 78, 83, 69, 82, 84, 32]⟩ : ByteArray) ++ t190)).bind fun bt191 => ((impl_Tag.f k2 (⟨#[85, 80, 68, 65, 84, 69, 32, 49]⟩ : ByteArray)).bind fun bt194 => (if t189 = true then (some false) else (if bt191.2.2 = true then (some false) else (some bt194.2.2))))) else (none)) = some r := H
                  have A15 := Aside0.mk A150
                  clear A150
                  by_cases c16 : 7 + t190.size ≤ 9223372036854775807
                  · rw [if_pos c16] at H
                    have c16b0 := eq_true c16
                    have c16b1 : decide (7 + t190.size ≤ 9223372036854775807) = true := decide_eq_true c16
                    try have c16b2 : (9223372036854775807 < 7 + t190.size) = False := eq_false (Nat.not_lt.2 c16)
                    replace H := Option.bind_eq_some_iff.mp H
                    obtain ⟨⟨t191, t192, t193⟩, A170, H⟩ := H
                    replace H : ((impl_Tag.f k2 (⟨#[85, 80, 68, 65, 84, 69, 32, 49]⟩ : ByteArray)).bind fun bt194 => (if t189 = true then (some false) else (if t193 = true then (some false) else (some bt194.2.2)))) = some r := H
                    have A17 := Aside0.mk A170
                    clear A170
                    replace H := Option.bind_eq_some_iff.mp H
                    obtain ⟨⟨t194, t195, t196⟩, A180, H⟩ := H
                    replace H : (if t189 = true then (some false) else (if t193 = true then (some false) else (some t196))) = some r := H
                    have A18 := Aside0.mk A180
                    clear A180
                    by_cases c19 : t189 = true
                    · subst c19
                      have H1 : (some false) = some r := by rw [if_pos rfl] at H; exact H
                      clear H
                      have H := H1
                      clear H1
                      obtain rfl := Option.some.inj H
                      go_wp2_with (first | ((with_reducible refine gate_callee (f := 15) rfl ?_); refine goesL_ (some 44) rfl rfl Tryd.func15 (by kernel_rfl) rfl #[.string ((⟨#[85, 80, 68, 65, 84, 69, 32]⟩ : ByteArray) ++ a0)] rfl (by (try simp only [List.map_toArray, List.map_cons, List.map_nil]); first | done | rfl | (simp only [List.length_drop, List.length_take]; rfl)) ?_; (with_reducible refine (impl_Tag.calls k2 ((⟨#[85, 80, 68, 65, 84, 69, 32]⟩ : ByteArray) ++ a0) t187 t188 true _ A14.out).mono ?_); rintro e w20 ⟨rfl, hb⟩; refine ⟨_, rfl, ?_⟩; have n0_ := Aside0.mk (below_step (by repeat (first | (with_reducible first | exact HB.out | apply below_alloc | apply pw_below_drewN | apply below_drew1) | exact HB.out)) hb); clear HB; have HB := n0_; clear n0_; (try clear hb); (try clear hb2); (try clear hk); (try clear hi)) | ((with_reducible refine gate_callee (f := 14) rfl ?_); refine goesL_ (some 51) rfl rfl Tryd.func14 (by kernel_rfl) rfl #[.int .i64 (wrap64 (a1))] rfl (by (try simp only [List.map_toArray, List.map_cons, List.map_nil]); first | done | rfl | (simp only [List.length_drop, List.length_take]; rfl)) ?_; (with_reducible refine (spec_Number.calls k2 (wrap64 (a1)) t190 _ A15.out).mono ?_); rintro e w21 ⟨rfl, hb⟩; refine ⟨_, rfl, ?_⟩; have n0_ := Aside0.mk (below_step (by repeat (first | (with_reducible first | exact HB.out | apply below_alloc | apply pw_below_drewN | apply below_drew1) | exact HB.out)) hb); clear HB; have HB := n0_; clear n0_; (try clear hb); (try clear hb2); (try clear hk); (try clear hi)) | ((with_reducible refine gate_callee (f := 15) rfl ?_); refine goesL_ (some 53) rfl rfl Tryd.func15 (by kernel_rfl) rfl #[.string ((⟨#[73, 78, 83, 69, 82, 84, 32]⟩ : ByteArray) ++ t190)] rfl (by (try simp only [List.map_toArray, List.map_cons, List.map_nil]); first | done | rfl | (simp only [List.length_drop, List.length_take]; rfl)) ?_; (with_reducible refine (impl_Tag.calls k2 ((⟨#[73, 78, 83, 69, 82, 84, 32]⟩ : ByteArray) ++ t190) t191 t192 t193 _ A17.out).mono ?_); rintro e w22 ⟨rfl, hb⟩; refine ⟨_, rfl, ?_⟩; have n0_ := Aside0.mk (below_step (by repeat (first | (with_reducible first | exact HB.out | apply below_alloc | apply pw_below_drewN | apply below_drew1) | exact HB.out)) hb); clear HB; have HB := n0_; clear n0_; (try clear hb); (try clear hb2); (try clear hk); (try clear hi)) | ((with_reducible refine gate_callee (f := 15) rfl ?_); refine goesL_ (some 58) rfl rfl Tryd.func15 (by kernel_rfl) rfl #[.string (⟨#[85, 80, 68, 65, 84, 69, 32, 49]⟩ : ByteArray)] rfl (by (try simp only [List.map_toArray, List.map_cons, List.map_nil]); first | done | rfl | (simp only [List.length_drop, List.length_take]; rfl)) ?_; (with_reducible refine (impl_Tag.calls k2 (⟨#[85, 80, 68, 65, 84, 69, 32, 49]⟩ : ByteArray) t194 t195 t196 _ A18.out).mono ?_); rintro e w23 ⟨rfl, hb⟩; refine ⟨_, rfl, ?_⟩; have n0_ := Aside0.mk (below_step (by repeat (first | (with_reducible first | exact HB.out | apply below_alloc | apply pw_below_drewN | apply below_drew1) | exact HB.out)) hb); clear HB; have HB := n0_; clear n0_; (try clear hb); (try clear hb2); (try clear hk); (try clear hi)))
                      go_ret
                      exact ⟨by first | rfl | (simp [errW_none, errW_some] <;> rfl) | (simp [*, errW_none, errW_some] <;> rfl), by repeat (first | (with_reducible first | exact HB.out | apply below_alloc | apply pw_below_drewN | apply below_drew1) | exact HB.out)⟩
                    · replace c19 := Bool.eq_false_iff.mpr c19
                      subst c19
                      have H1 : (if t193 = true then (some false) else (some t196)) = some r := by rw [if_neg (show ¬ (false = true) by decide)] at H; exact H
                      clear H
                      have H := H1
                      clear H1
                      by_cases c24 : t193 = true
                      · subst c24
                        have H1 : (some false) = some r := by rw [if_pos rfl] at H; exact H
                        clear H
                        have H := H1
                        clear H1
                        obtain rfl := Option.some.inj H
                        go_wp2_with (first | ((with_reducible refine gate_callee (f := 15) rfl ?_); refine goesL_ (some 44) rfl rfl Tryd.func15 (by kernel_rfl) rfl #[.string ((⟨#[85, 80, 68, 65, 84, 69, 32]⟩ : ByteArray) ++ a0)] rfl (by (try simp only [List.map_toArray, List.map_cons, List.map_nil]); first | done | rfl | (simp only [List.length_drop, List.length_take]; rfl)) ?_; (with_reducible refine (impl_Tag.calls k2 ((⟨#[85, 80, 68, 65, 84, 69, 32]⟩ : ByteArray) ++ a0) t187 t188 false _ A14.out).mono ?_); rintro e w25 ⟨rfl, hb⟩; refine ⟨_, rfl, ?_⟩; have n0_ := Aside0.mk (below_step (by repeat (first | (with_reducible first | exact HB.out | apply below_alloc | apply pw_below_drewN | apply below_drew1) | exact HB.out)) hb); clear HB; have HB := n0_; clear n0_; (try clear hb); (try clear hb2); (try clear hk); (try clear hi)) | ((with_reducible refine gate_callee (f := 14) rfl ?_); refine goesL_ (some 51) rfl rfl Tryd.func14 (by kernel_rfl) rfl #[.int .i64 (wrap64 (a1))] rfl (by (try simp only [List.map_toArray, List.map_cons, List.map_nil]); first | done | rfl | (simp only [List.length_drop, List.length_take]; rfl)) ?_; (with_reducible refine (spec_Number.calls k2 (wrap64 (a1)) t190 _ A15.out).mono ?_); rintro e w26 ⟨rfl, hb⟩; refine ⟨_, rfl, ?_⟩; have n0_ := Aside0.mk (below_step (by repeat (first | (with_reducible first | exact HB.out | apply below_alloc | apply pw_below_drewN | apply below_drew1) | exact HB.out)) hb); clear HB; have HB := n0_; clear n0_; (try clear hb); (try clear hb2); (try clear hk); (try clear hi)) | ((with_reducible refine gate_callee (f := 15) rfl ?_); refine goesL_ (some 53) rfl rfl Tryd.func15 (by kernel_rfl) rfl #[.string ((⟨#[73, 78, 83, 69, 82, 84, 32]⟩ : ByteArray) ++ t190)] rfl (by (try simp only [List.map_toArray, List.map_cons, List.map_nil]); first | done | rfl | (simp only [List.length_drop, List.length_take]; rfl)) ?_; (with_reducible refine (impl_Tag.calls k2 ((⟨#[73, 78, 83, 69, 82, 84, 32]⟩ : ByteArray) ++ t190) t191 t192 true _ A17.out).mono ?_); rintro e w27 ⟨rfl, hb⟩; refine ⟨_, rfl, ?_⟩; have n0_ := Aside0.mk (below_step (by repeat (first | (with_reducible first | exact HB.out | apply below_alloc | apply pw_below_drewN | apply below_drew1) | exact HB.out)) hb); clear HB; have HB := n0_; clear n0_; (try clear hb); (try clear hb2); (try clear hk); (try clear hi)) | ((with_reducible refine gate_callee (f := 15) rfl ?_); refine goesL_ (some 58) rfl rfl Tryd.func15 (by kernel_rfl) rfl #[.string (⟨#[85, 80, 68, 65, 84, 69, 32, 49]⟩ : ByteArray)] rfl (by (try simp only [List.map_toArray, List.map_cons, List.map_nil]); first | done | rfl | (simp only [List.length_drop, List.length_take]; rfl)) ?_; (with_reducible refine (impl_Tag.calls k2 (⟨#[85, 80, 68, 65, 84, 69, 32, 49]⟩ : ByteArray) t194 t195 t196 _ A18.out).mono ?_); rintro e w28 ⟨rfl, hb⟩; refine ⟨_, rfl, ?_⟩; have n0_ := Aside0.mk (below_step (by repeat (first | (with_reducible first | exact HB.out | apply below_alloc | apply pw_below_drewN | apply below_drew1) | exact HB.out)) hb); clear HB; have HB := n0_; clear n0_; (try clear hb); (try clear hb2); (try clear hk); (try clear hi)))
                        go_ret
                        exact ⟨by first | rfl | (simp [errW_none, errW_some] <;> rfl) | (simp [*, errW_none, errW_some] <;> rfl), by repeat (first | (with_reducible first | exact HB.out | apply below_alloc | apply pw_below_drewN | apply below_drew1) | exact HB.out)⟩
                      · replace c24 := Bool.eq_false_iff.mpr c24
                        subst c24
                        have H1 : (some t196) = some r := by rw [if_neg (show ¬ (false = true) by decide)] at H; exact H
                        clear H
                        have H := H1
                        clear H1
                        obtain rfl := Option.some.inj H
                        go_wp2_with (first | ((with_reducible refine gate_callee (f := 15) rfl ?_); refine goesL_ (some 44) rfl rfl Tryd.func15 (by kernel_rfl) rfl #[.string ((⟨#[85, 80, 68, 65, 84, 69, 32]⟩ : ByteArray) ++ a0)] rfl (by (try simp only [List.map_toArray, List.map_cons, List.map_nil]); first | done | rfl | (simp only [List.length_drop, List.length_take]; rfl)) ?_; (with_reducible refine (impl_Tag.calls k2 ((⟨#[85, 80, 68, 65, 84, 69, 32]⟩ : ByteArray) ++ a0) t187 t188 false _ A14.out).mono ?_); rintro e w29 ⟨rfl, hb⟩; refine ⟨_, rfl, ?_⟩; have n0_ := Aside0.mk (below_step (by repeat (first | (with_reducible first | exact HB.out | apply below_alloc | apply pw_below_drewN | apply below_drew1) | exact HB.out)) hb); clear HB; have HB := n0_; clear n0_; (try clear hb); (try clear hb2); (try clear hk); (try clear hi)) | ((with_reducible refine gate_callee (f := 14) rfl ?_); refine goesL_ (some 51) rfl rfl Tryd.func14 (by kernel_rfl) rfl #[.int .i64 (wrap64 (a1))] rfl (by (try simp only [List.map_toArray, List.map_cons, List.map_nil]); first | done | rfl | (simp only [List.length_drop, List.length_take]; rfl)) ?_; (with_reducible refine (spec_Number.calls k2 (wrap64 (a1)) t190 _ A15.out).mono ?_); rintro e w30 ⟨rfl, hb⟩; refine ⟨_, rfl, ?_⟩; have n0_ := Aside0.mk (below_step (by repeat (first | (with_reducible first | exact HB.out | apply below_alloc | apply pw_below_drewN | apply below_drew1) | exact HB.out)) hb); clear HB; have HB := n0_; clear n0_; (try clear hb); (try clear hb2); (try clear hk); (try clear hi)) | ((with_reducible refine gate_callee (f := 15) rfl ?_); refine goesL_ (some 53) rfl rfl Tryd.func15 (by kernel_rfl) rfl #[.string ((⟨#[73, 78, 83, 69, 82, 84, 32]⟩ : ByteArray) ++ t190)] rfl (by (try simp only [List.map_toArray, List.map_cons, List.map_nil]); first | done | rfl | (simp only [List.length_drop, List.length_take]; rfl)) ?_; (with_reducible refine (impl_Tag.calls k2 ((⟨#[73, 78, 83, 69, 82, 84, 32]⟩ : ByteArray) ++ t190) t191 t192 false _ A17.out).mono ?_); rintro e w31 ⟨rfl, hb⟩; refine ⟨_, rfl, ?_⟩; have n0_ := Aside0.mk (below_step (by repeat (first | (with_reducible first | exact HB.out | apply below_alloc | apply pw_below_drewN | apply below_drew1) | exact HB.out)) hb); clear HB; have HB := n0_; clear n0_; (try clear hb); (try clear hb2); (try clear hk); (try clear hi)) | ((with_reducible refine gate_callee (f := 15) rfl ?_); refine goesL_ (some 58) rfl rfl Tryd.func15 (by kernel_rfl) rfl #[.string (⟨#[85, 80, 68, 65, 84, 69, 32, 49]⟩ : ByteArray)] rfl (by (try simp only [List.map_toArray, List.map_cons, List.map_nil]); first | done | rfl | (simp only [List.length_drop, List.length_take]; rfl)) ?_; (with_reducible refine (impl_Tag.calls k2 (⟨#[85, 80, 68, 65, 84, 69, 32, 49]⟩ : ByteArray) t194 t195 t196 _ A18.out).mono ?_); rintro e w32 ⟨rfl, hb⟩; refine ⟨_, rfl, ?_⟩; have n0_ := Aside0.mk (below_step (by repeat (first | (with_reducible first | exact HB.out | apply below_alloc | apply pw_below_drewN | apply below_drew1) | exact HB.out)) hb); clear HB; have HB := n0_; clear n0_; (try clear hb); (try clear hb2); (try clear hk); (try clear hi)))
                        go_ret
                        exact ⟨by first | rfl | (simp [errW_none, errW_some] <;> rfl) | (simp [*, errW_none, errW_some] <;> rfl), by repeat (first | (with_reducible first | exact HB.out | apply below_alloc | apply pw_below_drewN | apply below_drew1) | exact HB.out)⟩
                  · rw [if_neg c16] at H
                    exact absurd H (by simp)
                · rw [if_neg c13] at H
                  exact absurd H (by simp)

/-- THE ONE PURE STATEMENT of laws_FnTagRefused: yours. -/
def laws_FnTagRefused.Pure : Prop := ∀ (a0 : ByteArray) (a1 : Int), a0.size ≤ 140737488351232 → (Lit.int .u32 a1).wf = true → ∃ k, laws_FnTagRefused.f k a0 a1 = some true
theorem laws_FnTagRefused.walk (P : laws_FnTagRefused.Pure) (a0 : ByteArray) (a1 : Int) (w : World) (w0 : a0.size ≤ 140737488351232) (w1 : (Lit.int .u32 a1).wf = true) :
    Calls Tryd.prog 5 #[.string a0, .int .u32 a1] w fun e w' => e = .returned (.bool true) ∧ Below w.heap.size w w' := by
  obtain ⟨k, h⟩ := P a0 a1 w0 w1
  refine (laws_FnTagRefused.calls k a0 a1 true w h).mono ?_
  rintro e w' ⟨rfl, hd⟩
  exact ⟨rfl, hd⟩

end Go.Proofs.YthcikkjjegfblacDoor.P
