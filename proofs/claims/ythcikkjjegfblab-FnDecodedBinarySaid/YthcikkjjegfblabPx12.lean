-- Written by the program wip/myprint.py of this session, over the kit's print of the translation. Lean checks it.
import Derived.Test.YthcikkjjegfblabPx0
import Derived.Test.YthcikkjjegfblabPx1
import Derived.Test.YthcikkjjegfblabPx9
import Derived.Test.YthcikkjjegfblabPx10
namespace Go.Proofs.Ythcikkjjegfblab.P
open Go.RowKit Go.Proofs.YthcikkjjegfblabW.PrintWords Go.Proofs.YthcikkjjegfblabW.PrintLast Go.Proofs.YthcikkjjegfblabW.PrintMore
attribute [local go_sem] max2_int min2_int max_two min_two max_three min_three max_four min_four   -- for this text's walks alone
set_option linter.unusedVariables false
set_option linter.unusedSimpArgs false

attribute [local go_sem high] eqA54
/-! ### impl_FaultRead: function 24 -/
def impl_FaultRead.f (a0 : ByteArray) : Option ((List (S54)) × Bool) := none
set_option maxHeartbeats 8000000 in
set_option maxRecDepth 100000 in
theorem impl_FaultRead.calls (a0 : ByteArray) (r1 : List (S54)) (r2 : Bool) (w : World) (h : impl_FaultRead.f a0 = some (r1, r2)) :
    Calls Try.prog 24 #[.string a0] w fun e w' => ∃ v0_ : Value, e = .returned (.tuple #[v0_, .bool r2]) ∧ Kd.R k54 54 w' w.heap.size (fun _ => True) v0_ r1 ∧ Below w.heap.size w w' := by
  have hu54 := Try.underlying54
  have HB := Aside0.mk (Below.refl w.heap.size w)
  have H : (none) = some (r1, r2) := h
  clear h
  exact absurd H (by simp)

/-! ### spec_FieldsBody: function 25 -/
def spec_FieldsBody.l0 : Nat → List (S54) → ByteArray → Int → Option (ByteArray)
  | 0, _, _, _ => none
  | k + 1, x0, x3, x4 => if x4 < (x0.length : Int) then (if 0 ≤ x4 then ((some (([(rd_T54 x0 x4).f0] : List Int) : List Int)).bind fun y222 => (if (strOfNums y222).size + ((rd_T54 x0 x4).f1).size ≤ 9223372036854775807 then (if ((strOfNums y222) ++ ((rd_T54 x0 x4).f1)).size + 1 ≤ 9223372036854775807 then (if x3.size + (((strOfNums y222) ++ ((rd_T54 x0 x4).f1)) ++ (⟨#[0]⟩ : ByteArray)).size ≤ 9223372036854775807 then (spec_FieldsBody.l0 k x0 (x3 ++ (((strOfNums y222) ++ ((rd_T54 x0 x4).f1)) ++ (⟨#[0]⟩ : ByteArray))) (wrap64 (x4 + 1))) else (none)) else (none)) else (none))) else (none)) else (if x3.size + 1 ≤ 9223372036854775807 then (some (x3 ++ (⟨#[0]⟩ : ByteArray))) else (none))
def spec_FieldsBody.f (k : Nat) (l0 : List (S54)) : Option (ByteArray) := spec_FieldsBody.l0 k l0 (⟨#[]⟩ : ByteArray) 0
theorem spec_FieldsBody.mono_l : ∀ k, (∀ y0 y1 y2, LeO (spec_FieldsBody.l0 k y0 y1 y2) (spec_FieldsBody.l0 (k + 1) y0 y1 y2))
  | 0 => fun _ _ _ r h => by simp [spec_FieldsBody.l0] at h
  | k + 1 => by
    have ih0 := spec_FieldsBody.mono_l k
    · intro y0 y1 y2
      unfold spec_FieldsBody.l0
      repeat' first
      | (with_reducible exact ih0 _ _ _)
      | (with_reducible exact LeO.refl _)
      | (with_reducible exact LeO.none _)
      | (with_reducible refine LeO.ite ?_ ?_)
      | (with_reducible refine LeO.bind ?_ (fun _ => ?_))
      | exact ih0 _ _ _
      | exact LeO.none _
      | refine LeO.ite ?_ ?_
      | refine LeO.bind ?_ (fun _ => ?_)
theorem spec_FieldsBody.mono : ∀ a0 k, LeO (spec_FieldsBody.f k a0) (spec_FieldsBody.f (k + 1) a0) := by
  intro a0 k
  have ih0 := spec_FieldsBody.mono_l k
  unfold spec_FieldsBody.f
  repeat' first
      | (with_reducible exact ih0 _ _ _)
      | (with_reducible exact LeO.refl _)
      | (with_reducible exact LeO.none _)
      | (with_reducible refine LeO.ite ?_ ?_)
      | (with_reducible refine LeO.bind ?_ (fun _ => ?_))
      | exact ih0 _ _ _
      | exact LeO.none _
      | refine LeO.ite ?_ ?_
      | refine LeO.bind ?_ (fun _ => ?_)
def spec_FieldsBody.T5 : Bool × List (List Nat × List Nat) := (true, [([], []), ([], []), ([], []), ([1, 2], [1, 2]), ([3], [3]), ([4], [4]), ([5], [5]), ([6], [6]), ([], []), ([], []), ([8, 9], [8, 9]), ([10], [10]), ([11], [11]), ([7, 12], [7, 12]), ([13], [13]), ([0, 14], [0, 14]), ([15, 0, 1, 2, 3, 4, 5, 6, 7, 8, 9, 10, 11, 12, 13, 14, 15], [0, 15])])
def spec_FieldsBody.B5 : List Nat := [0, 0, 0, 6, 14, 30, 62, 126, 0, 0, 768, 1792, 3840, 8190, 16382, 32767, 65535]
theorem spec_FieldsBody.tab5 : rtab .any (opsOf Try.f25 5) = spec_FieldsBody.T5 := by kernel_rfl
theorem spec_FieldsBody.bits5 : waitsOk spec_FieldsBody.T5.2 spec_FieldsBody.B5 = true := by kernel_rfl
set_option maxHeartbeats 8000000 in
set_option maxRecDepth 100000 in
theorem spec_FieldsBody.calls (k : Nat) (A0 : Option Addr) (c0 : Nat) (l0 : List (S54)) (r : ByteArray) (w : World) (hr0 : Kd.C k54 w A0 l0.length l0) (hc0 : l0.length ≤ c0) (h : spec_FieldsBody.f k l0 = some r) :
    Calls Try.prog 25 #[.slice A0 l0.length c0] w fun e w' => e = .returned (.string r) ∧ Below w.heap.size w w' := by
  have HR0 := Aside0.mk hr0
  have HC0 := Aside0.mk hc0
  clear hr0 hc0
  have HB := Aside0.mk (Below.refl w.heap.size w)
  have H : (spec_FieldsBody.l0 k l0 (⟨#[]⟩ : ByteArray) 0) = some r := h
  clear h
  have H' := Aside0.mk H
  clear H
  go_enter Try.func25, Try.ntmps25
  go_wp2
  go_loopg [3, 4] k (fun kq v3 v4 w' => ∃ (x3_1 : ByteArray) (x4_1 : Int), v3 = .string x3_1 ∧ v4 = .int .i64 x4_1 ∧ Aside0 (spec_FieldsBody.l0 kq l0 x3_1 x4_1 = some r) ∧ Aside0 (kq ≤ k) ∧ Aside0 (Below w.heap.size w w'))
  case atStart => exact ⟨((⟨#[]⟩ : ByteArray)), (0), (by first | rfl | (simp; done) | (simp [*]; done)), (by first | rfl | (simp; done) | (simp [*]; done)), H', ⟨Nat.le_refl _⟩, ⟨by repeat (first | (with_reducible first | exact HB.out | apply below_alloc | apply pw_below_drewN | apply below_drew1) | exact HB.out)⟩⟩
  case round =>
    clear H'
    obtain ⟨x3_1, x4_1, rfl, rfl, HA, HK1, HB⟩ := hrel
    cases gk with
    | zero => exact absurd HA.out (by simp [spec_FieldsBody.l0])
    | succ k1 =>
      have H := HA.out
      clear HA
      simp only [spec_FieldsBody.l0] at H
      by_cases c2 : x4_1 < (l0.length : Int)
      · rw [if_pos c2] at H
        have c2b0 : decide (x4_1 < (l0.length : Int)) = true := decide_eq_true c2
        clear c2
        by_cases c3 : 0 ≤ x4_1
        · rw [if_pos c3] at H
          have c3b0 : decide (0 ≤ x4_1) = true := decide_eq_true c3
          clear c3
          obtain ⟨y222, hy222⟩ : ∃ y_ : List Int, y_ = (([(rd_T54 l0 x4_1).f0] : List Int)) := ⟨_, rfl⟩
          replace H : (if (strOfNums y222).size + ((rd_T54 l0 x4_1).f1).size ≤ 9223372036854775807 then (if ((strOfNums y222) ++ ((rd_T54 l0 x4_1).f1)).size + 1 ≤ 9223372036854775807 then (if x3_1.size + (((strOfNums y222) ++ ((rd_T54 l0 x4_1).f1)) ++ (⟨#[0]⟩ : ByteArray)).size ≤ 9223372036854775807 then (spec_FieldsBody.l0 k1 l0 (x3_1 ++ (((strOfNums y222) ++ ((rd_T54 l0 x4_1).f1)) ++ (⟨#[0]⟩ : ByteArray))) (wrap64 (x4_1 + 1))) else (none)) else (none)) else (none)) = some r := by first | (rw [hy222]; with_reducible exact H) | (have H2_ := (Option.bind_some _ _).symm.trans H; rw [hy222]; with_reducible exact H2_) | (have H2_ := (Option.bind_some _ _).symm.trans H; with_reducible exact H2_) | with_reducible exact H | (rw [hy222]; exact H) | exact H
          have Ny222 := Aside0.mk hy222
          clear hy222
          by_cases c4 : (strOfNums y222).size + ((rd_T54 l0 x4_1).f1).size ≤ 9223372036854775807
          · rw [if_pos c4] at H
            have c4b0 := eq_true c4
            have c4b1 : decide ((strOfNums y222).size + ((rd_T54 l0 x4_1).f1).size ≤ 9223372036854775807) = true := decide_eq_true c4
            try have c4b2 : (9223372036854775807 < (strOfNums y222).size + ((rd_T54 l0 x4_1).f1).size) = False := eq_false (Nat.not_lt.2 c4)
            by_cases c5 : ((strOfNums y222) ++ ((rd_T54 l0 x4_1).f1)).size + 1 ≤ 9223372036854775807
            · rw [if_pos c5] at H
              have c5b0 := eq_true c5
              have c5b1 : decide (((strOfNums y222) ++ ((rd_T54 l0 x4_1).f1)).size + 1 ≤ 9223372036854775807) = true := decide_eq_true c5
              try have c5b2 : (9223372036854775807 < ((strOfNums y222) ++ ((rd_T54 l0 x4_1).f1)).size + 1) = False := eq_false (Nat.not_lt.2 c5)
              try have c5b3 : (9223372036854775807 < (strOfNums y222).size + ((rd_T54 l0 x4_1).f1).size + 1) = False := eq_false (by have h_ := c5; simp only [ByteArray.size_append] at h_; omega)
              by_cases c6 : x3_1.size + (((strOfNums y222) ++ ((rd_T54 l0 x4_1).f1)) ++ (⟨#[0]⟩ : ByteArray)).size ≤ 9223372036854775807
              · rw [if_pos c6] at H
                have c6b0 := eq_true c6
                have c6b1 : decide (x3_1.size + (((strOfNums y222) ++ ((rd_T54 l0 x4_1).f1)) ++ (⟨#[0]⟩ : ByteArray)).size ≤ 9223372036854775807) = true := decide_eq_true c6
                try have c6b2 : (9223372036854775807 < x3_1.size + (((strOfNums y222) ++ ((rd_T54 l0 x4_1).f1)) ++ (⟨#[0]⟩ : ByteArray)).size) = False := eq_false (Nat.not_lt.2 c6)
                try have c6b3 : (9223372036854775807 < x3_1.size + ((strOfNums y222).size + ((rd_T54 l0 x4_1).f1).size + 1)) = False := eq_false (by have h_ := c6; simp only [ByteArray.size_append, show (⟨#[0]⟩ : ByteArray).size = 1 from rfl] at h_; omega)
                have H' := Aside0.mk H
                clear H
                try go_wp2
                have n0_ := Aside0.mk (below_drew1 HB.out)
                clear HB
                have HB := n0_
                clear n0_
                have p221 : 0 ≤ (x4_1 : Int) := of_decide_eq_true (by first | (with_reducible assumption) | assumption)
                have q221 : x4_1 < (l0.length : Int) := of_decide_eq_true (by first | (with_reducible assumption) | assumption)
                obtain ⟨ad221, e221, hx221_0, hx221_1⟩ := at_T54 HR0.out x4_1 p221 q221
                have hw221_1 := hx221_1
                have hw221_0 := hx221_0
                cases e221
                replace hx221_0 := (HB.out.cell (World.block_lt_of_cell? w _ hx221_0)).trans hx221_0
                replace hx221_1 := (HB.out.cell (World.block_lt_of_cell? w _ hx221_1)).trans hx221_1
                replace p221 := eq_true p221
                replace q221 := eq_true q221
                have p225 : 0 ≤ (x4_1 : Int) := of_decide_eq_true (by first | (with_reducible assumption) | assumption)
                have q225 : x4_1 < (l0.length : Int) := of_decide_eq_true (by first | (with_reducible assumption) | assumption)
                obtain ⟨ad225, e225, hx225_0, hx225_1⟩ := at_T54 HR0.out x4_1 p225 q225
                have hw225_1 := hx225_1
                have hw225_0 := hx225_0
                obtain rfl : ad221 = ad225 := (by injection e225)
                replace hx225_0 := (HB.out.cell (World.block_lt_of_cell? w _ hx225_0)).trans hx225_0
                replace hx225_1 := (HB.out.cell (World.block_lt_of_cell? w _ hx225_1)).trans hx225_1
                replace p225 := eq_true p225
                replace q225 := eq_true q225
                refine start_ (n := 17) (S := fun w' => w'.cell? (ad221.add ((x4_1).toNat * 2)) = some (.int .u8 ((rd_T54 l0 x4_1).f0)) ∧ w'.cell? ⟨(ad221.add ((x4_1).toNat * 2)).block, (ad221.add ((x4_1).toNat * 2)).off + 1, none⟩ = some (.string ((rd_T54 l0 x4_1).f1)) ∧ w'.cell? (ad221.add ((x4_1).toNat * 2)) = some (.int .u8 ((rd_T54 l0 x4_1).f0)) ∧ w'.cell? ⟨(ad221.add ((x4_1).toNat * 2)).block, (ad221.add ((x4_1).toNat * 2)).off + 1, none⟩ = some (.string ((rd_T54 l0 x4_1).f1))) (ds := []) #[false, false, false, false, false, false, false, false, false, false, false, false, false, false, false, false, false] (by kernel_rfl) rfl rfl ⟨((HB.out.cell (World.block_lt_of_cell? w _ hw221_0)).trans hw221_0), ((HB.out.cell (World.block_lt_of_cell? w _ hw221_1)).trans hw221_1), ((HB.out.cell (World.block_lt_of_cell? w _ hw225_0)).trans hw225_0), ((HB.out.cell (World.block_lt_of_cell? w _ hw225_1)).trans hw225_1)⟩ (fun hHeld => ?_); refine with_tabW spec_FieldsBody.tab5 spec_FieldsBody.bits5 (fun HT_ HW_ => ?_)
                generalize wr.drew = w7 at HB hx221_0 hx221_1 hx225_0 hx225_1 hHeld ⊢
                refine pure_ (i := 0) (N := some 11) (v := ?_) (a' := ?_) #[true, false, false, false, false, false, false, false, false, false, false, false, false, false, false, false, false] rfl rfl (any_of HT_.out (by kernel_rfl)) (fun _ _ _ h => h) (Or.inl ⟨by rfl, ?_⟩) ?_ ?_
                rotate_left
                · intro w'
                  go_simp
                  with_reducible rfl
                rotate_left
                · simp only [Act.put, List.setIfInBounds_toArray, List.set_cons_zero, List.set_cons_succ, i64_w, i32_w]
                  rfl
                refine pure_ (i := 1) (N := some 12) (v := ?_) (a' := ?_) #[true, true, false, false, false, false, false, false, false, false, false, false, false, false, false, false, false] rfl rfl (any_of HT_.out (by kernel_rfl)) (fun _ _ _ h => h) (Or.inl ⟨by rfl, ?_⟩) ?_ ?_
                rotate_left
                · intro w'
                  go_simp
                  with_reducible rfl
                rotate_left
                · simp only [Act.put, List.setIfInBounds_toArray, List.set_cons_zero, List.set_cons_succ, i64_w, i32_w]
                  rfl
                refine pure_ (i := 2) (N := some 13) (v := ?_) (a' := ?_) #[true, true, true, false, false, false, false, false, false, false, false, false, false, false, false, false, false] rfl rfl (any_of HT_.out (by kernel_rfl)) (fun _ _ _ h => h) (Or.inl ⟨by rfl, ?_⟩) ?_ ?_
                rotate_left
                · intro w'
                  go_simp
                  with_reducible rfl
                rotate_left
                · simp only [Act.put, List.setIfInBounds_toArray, List.set_cons_zero, List.set_cons_succ, i64_w, i32_w]
                  rfl
                refine pure_ (i := 3) (N := some 14) (v := ?_) (a' := ?_) #[true, true, true, true, false, false, false, false, false, false, false, false, false, false, false, false, false] rfl rfl (any_of HT_.out (by kernel_rfl)) (fun _ _ _ h => h) (Or.inl ⟨by rfl, ?_⟩) ?_ ?_
                rotate_left
                · intro w'
                  go_simp
                  with_reducible rfl
                rotate_left
                · simp only [Act.put, List.setIfInBounds_toArray, List.set_cons_zero, List.set_cons_succ, i64_w, i32_w]
                  rfl
                refine pure_ (i := 4) (N := some 15) (v := ?_) (a' := ?_) #[true, true, true, true, true, false, false, false, false, false, false, false, false, false, false, false, false] rfl rfl (any_of HT_.out (by kernel_rfl)) (fun _ _ _ h => h) (Or.inl ⟨by rfl, ?_⟩) ?_ ?_
                rotate_left
                · intro w'
                  go_simp
                  with_reducible rfl
                rotate_left
                · simp only [Act.put, List.setIfInBounds_toArray, List.set_cons_zero, List.set_cons_succ, i64_w, i32_w]
                  rfl
                refine pure_ (i := 8) (N := some 19) (v := ?_) (a' := ?_) #[true, true, true, true, true, false, false, false, true, false, false, false, false, false, false, false, false] rfl rfl (any_of HT_.out (by kernel_rfl)) (fun _ _ _ h => h) (Or.inl ⟨by rfl, ?_⟩) ?_ ?_
                rotate_left
                · intro w'
                  go_simp
                  with_reducible rfl
                rotate_left
                · simp only [Act.put, List.setIfInBounds_toArray, List.set_cons_zero, List.set_cons_succ, i64_w, i32_w]
                  rfl
                refine pure_ (i := 9) (N := some 20) (v := ?_) (a' := ?_) #[true, true, true, true, true, false, false, false, true, true, false, false, false, false, false, false, false] rfl rfl (any_of HT_.out (by kernel_rfl)) (fun _ _ _ h => h) (Or.inl ⟨by rfl, ?_⟩) ?_ ?_
                rotate_left
                · intro w'
                  go_simp
                  with_reducible rfl
                rotate_left
                · simp only [Act.put, List.setIfInBounds_toArray, List.set_cons_zero, List.set_cons_succ, i64_w, i32_w]
                  rfl
                refine pure_ (i := 10) (N := some 21) (v := ?_) (a' := ?_) #[true, true, true, true, true, false, false, false, true, true, true, false, false, false, false, false, false] rfl rfl (any_of HT_.out (by kernel_rfl)) (fun _ _ _ h => h) (Or.inl ⟨by rfl, ?_⟩) ?_ ?_
                rotate_left
                · intro w'
                  go_simp
                  with_reducible rfl
                rotate_left
                · simp only [Act.put, List.setIfInBounds_toArray, List.set_cons_zero, List.set_cons_succ, i64_w, i32_w]
                  rfl
                refine pure_ (i := 11) (N := some 22) (v := ?_) (a' := ?_) #[true, true, true, true, true, false, false, false, true, true, true, true, false, false, false, false, false] rfl rfl (any_of HT_.out (by kernel_rfl)) (fun _ _ _ h => h) (Or.inl ⟨by rfl, ?_⟩) ?_ ?_
                rotate_left
                · intro w'
                  go_simp
                  with_reducible rfl
                rotate_left
                · simp only [Act.put, List.setIfInBounds_toArray, List.set_cons_zero, List.set_cons_succ, i64_w, i32_w]
                  rfl
                refine take_ (i := 5) (N := some 16) (v := ?_) (a' := ?_) #[true, true, true, true, true, true, false, false, true, true, true, true, false, false, false, false, false] rfl rfl (take_ofW HT_.out HW_.out (by kernel_rfl)) (fun _ _ _ h => h) (Or.inl ⟨by rfl, ?_⟩) hHeld ?_ ?_
                rotate_left
                · rintro w' ⟨s0, s1, s2, s3⟩
                  go_simp
                  with_reducible rfl
                rotate_left
                · simp only [Act.put, List.setIfInBounds_toArray, List.set_cons_zero, List.set_cons_succ, i64_w, i32_w]
                  rfl
                refine take_ (i := 12) (N := some 23) (v := ?_) (a' := ?_) #[true, true, true, true, true, true, false, false, true, true, true, true, true, false, false, false, false] rfl rfl (take_ofW HT_.out HW_.out (by kernel_rfl)) (fun _ _ _ h => h) (Or.inl ⟨by rfl, ?_⟩) hHeld ?_ ?_
                rotate_left
                · rintro w' ⟨s0, s1, s2, s3⟩
                  go_simp
                  with_reducible rfl
                rotate_left
                · simp only [Act.put, List.setIfInBounds_toArray, List.set_cons_zero, List.set_cons_succ, i64_w, i32_w]
                  rfl
                refine one_ (i := 6) (N := some 17) #[true, true, true, true, true, true, true, false, true, true, true, true, true, false, false, false, false] rfl rfl (one_of HT_.out (by kernel_rfl)) (by decide) (fun K hK => ?_)
                refine Kd.R_lit_step (Kd.int .u8) _ 5 ?hg (N := 17) ?hd (xs := ([(rd_T54 l0 x4_1).f0] : List Int)) (inner := [.int .u8 ((rd_T54 l0 x4_1).f0)]) (ok := fun _ => True) (okp := fun _ => True) ?hr ?hp (fun _ hk => hk) trivial (Below.refl _ _) (Nat.le_refl _) (by simp) ?_; (case hd => rfl); (case hg => rfl); (case hr => first | (go_simp; done) | (go_simp; rfl)); (case hp => exact (Reps.one (show Kd.M (Kd.int .u8) _ _ _ ((rd_T54 l0 x4_1).f0) [.int .u8 ((rd_T54 l0 x4_1).f0)] from rfl) (Reps.none _ _)))
                intro v223 w8 ho9 hb hg_ hnew_
                clear hg_ hnew_
                (first | rw [← Ny222.out] at ho9 | (simp only [Int.reduceToNat] at ho9; rw [← Ny222.out] at ho9))
                have n0_ := Aside0.mk (Kd.R_lower ho9 (below_size (by repeat (first | (with_reducible first | exact HB.out | apply below_alloc | apply pw_below_drewN | apply below_drew1) | exact HB.out))))
                have n1_ := Aside0.mk (below_step (by repeat (first | (with_reducible first | exact HB.out | apply below_alloc | apply pw_below_drewN | apply below_drew1) | exact HB.out)) hb)
                clear HB
                have HO224 := n0_
                have HB := n1_
                clear n0_ n1_
                clear hb ho9
                refine hK.out _ _ ⟨((HB.out.cell (World.block_lt_of_cell? w _ hw221_0)).trans hw221_0), ((HB.out.cell (World.block_lt_of_cell? w _ hw221_1)).trans hw221_1), ((HB.out.cell (World.block_lt_of_cell? w _ hw225_0)).trans hw225_0), ((HB.out.cell (World.block_lt_of_cell? w _ hw225_1)).trans hw225_1)⟩ (fun hHeld => ?_)
                clear hK K
                refine norm_ (a' := ?_) ?_ ?_
                rotate_left
                · show Act.put _ (some 17) _ = _
                  simp only [Act.put, List.setIfInBounds_toArray, List.set_cons_zero, List.set_cons_succ, i64_w, i32_w]
                  rfl
                refine one_ (i := 7) (N := some 18) #[true, true, true, true, true, true, true, true, true, true, true, true, true, false, false, false, false] rfl rfl (one_of HT_.out (by kernel_rfl)) (by decide) (fun K hK => ?_)
                have hcv10 := own_string (P := Try.prog) Try.underlying58 Try.underlying5 Try.underlying9 (Kd.own_of_R HO224.out)
                refine value_ (w1 := ?_) (v := ?_) (by rfl) rfl ?_ ?_
                rotate_left 2
                · go_simp
                  constructor
                  · rfl
                  · rfl
                clear hcv10
                refine hK.out _ _ ⟨((HB.out.cell (World.block_lt_of_cell? w _ hw221_0)).trans hw221_0), ((HB.out.cell (World.block_lt_of_cell? w _ hw221_1)).trans hw221_1), ((HB.out.cell (World.block_lt_of_cell? w _ hw225_0)).trans hw225_0), ((HB.out.cell (World.block_lt_of_cell? w _ hw225_1)).trans hw225_1)⟩ (fun hHeld => ?_)
                clear hK K
                refine norm_ (a' := ?_) ?_ ?_
                rotate_left
                · show Act.put _ (some 18) _ = _
                  simp only [Act.put, List.setIfInBounds_toArray, List.set_cons_zero, List.set_cons_succ, i64_w, i32_w]
                  rfl
                refine pure_ (i := 13) (N := some 24) (v := ?_) (a' := ?_) #[true, true, true, true, true, true, true, true, true, true, true, true, true, true, false, false, false] rfl rfl (any_of HT_.out (by kernel_rfl)) (fun _ _ _ h => h) (Or.inl ⟨by rfl, ?_⟩) ?_ ?_
                rotate_left
                · intro w'
                  go_simp
                  with_reducible rfl
                rotate_left
                · simp only [Act.put, List.setIfInBounds_toArray, List.set_cons_zero, List.set_cons_succ, i64_w, i32_w]
                  rfl
                refine pure_ (i := 14) (N := some 25) (v := ?_) (a' := ?_) #[true, true, true, true, true, true, true, true, true, true, true, true, true, true, true, false, false] rfl rfl (any_of HT_.out (by kernel_rfl)) (fun _ _ _ h => h) (Or.inl ⟨by rfl, ?_⟩) ?_ ?_
                rotate_left
                · intro w'
                  go_simp
                  with_reducible rfl
                rotate_left
                · simp only [Act.put, List.setIfInBounds_toArray, List.set_cons_zero, List.set_cons_succ, i64_w, i32_w]
                  rfl
                refine pure_ (i := 15) (N := some 26) (v := ?_) (a' := ?_) #[true, true, true, true, true, true, true, true, true, true, true, true, true, true, true, true, false] rfl rfl (any_of HT_.out (by kernel_rfl)) (fun _ _ _ h => h) (Or.inl ⟨by rfl, ?_⟩) ?_ ?_
                rotate_left
                · intro w'
                  go_simp
                  with_reducible rfl
                rotate_left
                · simp only [Act.put, List.setIfInBounds_toArray, List.set_cons_zero, List.set_cons_succ, i64_w, i32_w]
                  rfl
                refine pure_ (i := 16) (N := some 3) (v := ?_) (a' := ?_) #[true, true, true, true, true, true, true, true, true, true, true, true, true, true, true, true, true] rfl rfl (any_of HT_.out (by kernel_rfl)) (fun _ _ _ h => h) (Or.inl ⟨by rfl, ?_⟩) ?_ ?_
                rotate_left
                · intro w'
                  go_simp
                  with_reducible rfl
                rotate_left
                · simp only [Act.put, List.setIfInBounds_toArray, List.set_cons_zero, List.set_cons_succ, i64_w, i32_w]
                  rfl
                refine done_ (done_of HT_.out (by kernel_rfl)) ?_
                try go_wp2
                go_roundg k1
                case measure => have := HK1.out; omega
                case rel => exact ⟨(x3_1 ++ (((strOfNums y222) ++ ((rd_T54 l0 x4_1).f1)) ++ (⟨#[0]⟩ : ByteArray))), (wrap64 (x4_1 + 1)), (by first | rfl | (simp; done) | (simp [*]; done)), (by first | rfl | (simp; done) | (simp [*]; done)), H', ⟨by have := HK1.out; omega⟩, ⟨by repeat (first | (with_reducible first | exact HB.out | apply below_alloc | apply pw_below_drewN | apply below_drew1) | exact HB.out)⟩⟩
              · rw [if_neg c6] at H
                exact absurd H (by simp)
            · rw [if_neg c5] at H
              exact absurd H (by simp)
          · rw [if_neg c4] at H
            exact absurd H (by simp)
        · rw [if_neg c3] at H
          exact absurd H (by simp)
      · rw [if_neg c2] at H
        have c2b0 : decide (x4_1 < (l0.length : Int)) = false := decide_eq_false c2
        clear c2
        by_cases c11 : x3_1.size + 1 ≤ 9223372036854775807
        · rw [if_pos c11] at H
          have c11b0 := eq_true c11
          have c11b1 : decide (x3_1.size + 1 ≤ 9223372036854775807) = true := decide_eq_true c11
          try have c11b2 : (9223372036854775807 < x3_1.size + 1) = False := eq_false (Nat.not_lt.2 c11)
          obtain rfl := Option.some.inj H
          go_wp2
          go_ret
          exact ⟨by first | rfl | (simp [errW_none, errW_some] <;> rfl) | (simp [*, errW_none, errW_some] <;> rfl), by repeat (first | (with_reducible first | exact HB.out | apply below_alloc | apply pw_below_drewN | apply below_drew1) | exact HB.out)⟩
        · rw [if_neg c11] at H
          exact absurd H (by simp)

/-! ### spec_FieldsOrdered: function 26 -/
mutual
def spec_FieldsOrdered.l0 : Nat → List (S54) → List (S54) → Int → Option ((List (S54)))
  | 0, _, _, _ => none
  | k + 1, x0, x3, x4 => if x4 < 17 then (spec_FieldsOrdered.l1 k x0 x3 x4 0) else (some x3)
def spec_FieldsOrdered.l1 : Nat → List (S54) → List (S54) → Int → Int → Option ((List (S54)))
  | 0, _, _, _, _ => none
  | k + 1, x0, x3, x4, x5 => if x5 < (x0.length : Int) then (if 0 ≤ x5 then (if 0 ≤ x4 then (if x4 < 17 then (if ((rd_T54 x0 x5).f0) = (bt (⟨#[83, 67, 77, 68, 72, 80, 112, 113, 87, 115, 116, 99, 100, 110, 70, 76, 82]⟩ : ByteArray) x4) then (if x3.length < 5864062014805 then (spec_FieldsOrdered.l1 k x0 (x3 ++ [(⟨(rd_T54 x0 x5).f0, (rd_T54 x0 x5).f1⟩ : S54)]) x4 (wrap64 (x5 + 1))) else (none)) else (spec_FieldsOrdered.l1 k x0 x3 x4 (wrap64 (x5 + 1)))) else (none)) else (none)) else (none)) else (spec_FieldsOrdered.l0 k x0 x3 (wrap64 (x4 + 1)))
end
def spec_FieldsOrdered.f (k : Nat) (l0 : List (S54)) : Option ((List (S54))) := spec_FieldsOrdered.l0 k l0 ([] : List (S54)) 0
theorem spec_FieldsOrdered.mono_l : ∀ k, (∀ y0 y1 y2, LeO (spec_FieldsOrdered.l0 k y0 y1 y2) (spec_FieldsOrdered.l0 (k + 1) y0 y1 y2)) ∧ (∀ y0 y1 y2 y3, LeO (spec_FieldsOrdered.l1 k y0 y1 y2 y3) (spec_FieldsOrdered.l1 (k + 1) y0 y1 y2 y3))
  | 0 => ⟨fun _ _ _ r h => by simp [spec_FieldsOrdered.l0] at h, fun _ _ _ _ r h => by simp [spec_FieldsOrdered.l1] at h⟩
  | k + 1 => by
    obtain ⟨ih0, ih1⟩ := spec_FieldsOrdered.mono_l k
    refine ⟨?_, ?_⟩
    · intro y0 y1 y2
      unfold spec_FieldsOrdered.l0
      repeat' first
      | (with_reducible exact ih0 _ _ _)
      | (with_reducible exact ih1 _ _ _ _)
      | (with_reducible exact LeO.refl _)
      | (with_reducible exact LeO.none _)
      | (with_reducible refine LeO.ite ?_ ?_)
      | (with_reducible refine LeO.bind ?_ (fun _ => ?_))
      | exact ih0 _ _ _
      | exact ih1 _ _ _ _
      | exact LeO.none _
      | refine LeO.ite ?_ ?_
      | refine LeO.bind ?_ (fun _ => ?_)
    · intro y0 y1 y2 y3
      unfold spec_FieldsOrdered.l1
      repeat' first
      | (with_reducible exact ih0 _ _ _)
      | (with_reducible exact ih1 _ _ _ _)
      | (with_reducible exact LeO.refl _)
      | (with_reducible exact LeO.none _)
      | (with_reducible refine LeO.ite ?_ ?_)
      | (with_reducible refine LeO.bind ?_ (fun _ => ?_))
      | exact ih0 _ _ _
      | exact ih1 _ _ _ _
      | exact LeO.none _
      | refine LeO.ite ?_ ?_
      | refine LeO.bind ?_ (fun _ => ?_)
theorem spec_FieldsOrdered.mono : ∀ a0 k, LeO (spec_FieldsOrdered.f k a0) (spec_FieldsOrdered.f (k + 1) a0) := by
  intro a0 k
  obtain ⟨ih0, ih1⟩ := spec_FieldsOrdered.mono_l k
  unfold spec_FieldsOrdered.f
  repeat' first
      | (with_reducible exact ih0 _ _ _)
      | (with_reducible exact ih1 _ _ _ _)
      | (with_reducible exact LeO.refl _)
      | (with_reducible exact LeO.none _)
      | (with_reducible refine LeO.ite ?_ ?_)
      | (with_reducible refine LeO.bind ?_ (fun _ => ?_))
      | exact ih0 _ _ _
      | exact ih1 _ _ _ _
      | exact LeO.none _
      | refine LeO.ite ?_ ?_
      | refine LeO.bind ?_ (fun _ => ?_)
set_option maxHeartbeats 8000000 in
set_option maxRecDepth 100000 in
theorem spec_FieldsOrdered.calls (k : Nat) (A0 : Option Addr) (c0 : Nat) (l0 : List (S54)) (r : List (S54)) (w : World) (hr0 : Kd.C k54 w A0 l0.length l0) (hc0 : l0.length ≤ c0) (h : spec_FieldsOrdered.f k l0 = some r) :
    Calls Try.prog 26 #[.slice A0 l0.length c0] w fun e w' => ∃ v0_ : Value, e = .returned (v0_) ∧ Kd.R k54 54 w' w.heap.size (fun _ => True) v0_ r ∧ Below w.heap.size w w' := by
  have hu54 := Try.underlying54
  have HR0 := Aside0.mk hr0
  have HC0 := Aside0.mk hc0
  clear hr0 hc0
  have HB := Aside0.mk (Below.refl w.heap.size w)
  have H : (spec_FieldsOrdered.l0 k l0 ([] : List (S54)) 0) = some r := h
  clear h
  have H' := Aside0.mk H
  clear H
  go_enter Try.func26, Try.ntmps26
  go_wp2
  repeat (go_quiet (fail); try go_wp2)
  go_loopg [3, 4] k (fun kq v3 v4 w' => ∃ (x3_1 : List (S54)) (x4_1 : Int), v4 = .int .i64 x4_1 ∧ Aside0 (spec_FieldsOrdered.l0 kq l0 x3_1 x4_1 = some r) ∧ Aside0 (kq ≤ k) ∧ Aside0 (Kd.R k54 54 w' w.heap.size (fun _ => True) v3 x3_1) ∧ Aside0 (Below w.heap.size w w'))
  case atStart => exact ⟨(([] : List (S54))), (0), (by first | rfl | (simp; done) | (simp [*]; done)), H', ⟨Nat.le_refl _⟩, ⟨by first | exact Kd.R_nil _ _ _ _ _ | exact Kd.N_nil _ _ _ _ _ | exact Kd.V_nil _ _ _ _ _ | exact Kd.Q_nil _ _ _ _ _ | exact Kd.S_nil _ _ _ _ _⟩, ⟨by repeat (first | (with_reducible first | exact HB.out | apply below_alloc | apply pw_below_drewN | apply below_drew1) | exact HB.out)⟩⟩
  case round =>
    clear H'
    obtain ⟨x3_1, x4_1, rfl, HA, HK1, HO_3, HB⟩ := hrel
    cases gk with
    | zero => exact absurd HA.out (by simp [spec_FieldsOrdered.l0])
    | succ k1 =>
      have H := HA.out
      clear HA
      simp only [spec_FieldsOrdered.l0] at H
      by_cases c2 : x4_1 < 17
      · rw [if_pos c2] at H
        have c2b0 : decide (x4_1 < 17) = true := decide_eq_true c2
        clear c2
        have H' := Aside0.mk H
        clear H
        go_wp2
        repeat (go_quiet (fail); try go_wp2)
        go_loopg [3, 5] k1 (fun kq v3 v5 w' => ∃ (x3_2 : List (S54)) (x5_2 : Int), v5 = .int .i64 x5_2 ∧ Aside0 (spec_FieldsOrdered.l1 kq l0 x3_2 x4_1 x5_2 = some r) ∧ Aside0 (kq ≤ k1) ∧ Aside0 (Kd.R k54 54 w' w.heap.size (fun _ => True) v3 x3_2) ∧ Aside0 (Below w.heap.size w w'))
        case atStart => exact ⟨(x3_1), (0), (by first | rfl | (simp; done) | (simp [*]; done)), H', ⟨Nat.le_refl _⟩, ⟨by (with_reducible repeat (first | apply Kd.R_alloc | apply Kd.R_drewN | apply Kd.R_drew)); exact HO_3.out⟩, ⟨by repeat (first | (with_reducible first | exact HB.out | apply below_alloc | apply pw_below_drewN | apply below_drew1) | exact HB.out)⟩⟩
        case round =>
          clear H'
          try clear c2
          try clear c2b0
          try clear p2
          obtain ⟨x3_2, x5_2, rfl, HA, HK2, HO_3, HB⟩ := hrel
          cases gk with
          | zero => exact absurd HA.out (by simp [spec_FieldsOrdered.l1])
          | succ k2 =>
            have H := HA.out
            clear HA
            simp only [spec_FieldsOrdered.l1] at H
            by_cases c3 : x5_2 < (l0.length : Int)
            · rw [if_pos c3] at H
              have c3b0 : decide (x5_2 < (l0.length : Int)) = true := decide_eq_true c3
              clear c3
              by_cases c4 : 0 ≤ x5_2
              · rw [if_pos c4] at H
                have c4b0 : decide (0 ≤ x5_2) = true := decide_eq_true c4
                clear c4
                by_cases c5 : 0 ≤ x4_1
                · rw [if_pos c5] at H
                  have c5b0 : decide (0 ≤ x4_1) = true := decide_eq_true c5
                  clear c5
                  by_cases c6 : x4_1 < 17
                  · rw [if_pos c6] at H
                    have c6b0 : decide (x4_1 < 17) = true := decide_eq_true c6
                    clear c6
                    by_cases c8 : ((rd_T54 l0 x5_2).f0) = (bt (⟨#[83, 67, 77, 68, 72, 80, 112, 113, 87, 115, 116, 99, 100, 110, 70, 76, 82]⟩ : ByteArray) x4_1)
                    · rw [if_pos c8] at H
                      have c8b0 : (((rd_T54 l0 x5_2).f0) == (bt (⟨#[83, 67, 77, 68, 72, 80, 112, 113, 87, 115, 116, 99, 100, 110, 70, 76, 82]⟩ : ByteArray) x4_1)) = true := beq_iff_eq.mpr c8
                      have c8b1 : (((rd_T54 l0 x5_2).f0) != (bt (⟨#[83, 67, 77, 68, 72, 80, 112, 113, 87, 115, 116, 99, 100, 110, 70, 76, 82]⟩ : ByteArray) x4_1)) = false := bne_eq_false_iff_eq.mpr c8
                      clear c8
                      by_cases c9 : x3_2.length < 5864062014805
                      · rw [if_pos c9] at H
                        have LMc9 := Aside0.mk c9
                        clear c9
                        obtain ⟨y228, hy228⟩ : ∃ y_ : List (S54), y_ = (x3_2 ++ [(⟨(rd_T54 l0 x5_2).f0, (rd_T54 l0 x5_2).f1⟩ : S54)]) := ⟨_, rfl⟩
                        replace H : (spec_FieldsOrdered.l1 k2 l0 y228 x4_1 (wrap64 (x5_2 + 1))) = some r := by first | (rw [hy228]; with_reducible exact H) | (have H2_ := (Option.bind_some _ _).symm.trans H; rw [hy228]; with_reducible exact H2_) | (have H2_ := (Option.bind_some _ _).symm.trans H; with_reducible exact H2_) | with_reducible exact H | (rw [hy228]; exact H) | exact H
                        have Ny228 := Aside0.mk hy228
                        clear hy228
                        have H' := Aside0.mk H
                        clear H
                        have p226 : 0 ≤ (x5_2 : Int) := of_decide_eq_true (by first | (with_reducible assumption) | assumption)
                        have q226 : x5_2 < (l0.length : Int) := of_decide_eq_true (by first | (with_reducible assumption) | assumption)
                        obtain ⟨ad226, e226, hx226_0, hx226_1⟩ := at_T54 HR0.out x5_2 p226 q226
                        cases e226
                        replace hx226_0 := (HB.out.cell (World.block_lt_of_cell? w _ hx226_0)).trans hx226_0
                        replace hx226_1 := (HB.out.cell (World.block_lt_of_cell? w _ hx226_1)).trans hx226_1
                        replace p226 := eq_true p226
                        replace q226 := eq_true q226
                        have p7 : 0 ≤ (x4_1 : Int) := of_decide_eq_true (by first | (with_reducible assumption) | assumption)
                        have q7 : x4_1 < (17 : Int) := of_decide_eq_true (by first | (with_reducible assumption) | assumption)
                        have hx7 := bt_at (⟨#[83, 67, 77, 68, 72, 80, 112, 113, 87, 115, 116, 99, 100, 110, 70, 76, 82]⟩ : ByteArray) x4_1
                        replace p7 := eq_true p7
                        replace q7 := eq_true q7
                        have p227 : 0 ≤ (x5_2 : Int) := of_decide_eq_true (by first | (with_reducible assumption) | assumption)
                        have q227 : x5_2 < (l0.length : Int) := of_decide_eq_true (by first | (with_reducible assumption) | assumption)
                        obtain ⟨ad227, e227, hx227_0, hx227_1⟩ := at_T54 HR0.out x5_2 p227 q227
                        obtain rfl : ad226 = ad227 := (by injection e227)
                        replace hx227_0 := (HB.out.cell (World.block_lt_of_cell? w _ hx227_0)).trans hx227_0
                        replace hx227_1 := (HB.out.cell (World.block_lt_of_cell? w _ hx227_1)).trans hx227_1
                        replace p227 := eq_true p227
                        replace q227 := eq_true q227
                        go_wp2_with (first | ((with_reducible refine gate_builtin (b := .append) (xs := #[.tmp 24, .tmp 29]) rfl ?_); at_builtin; refine Kd.R_append k54 (w0 := w) w.heap.size rfl (.tmp 24) (.tmp 29) 47 54 (.agg #[(.int .u8 0), (.string ⟨#[]⟩)]) 24 rfl Try.underlying47 info54 rfl (by decide) (by omega) u3 x3_2 (⟨(rd_T54 l0 x5_2).f0, (rd_T54 l0 x5_2).f1⟩ : S54) [.int .u8 ((rd_T54 l0 x5_2).f0), .string ((rd_T54 l0 x5_2).f1)] (fun _ => True) (fun _ => False) rfl rfl ?aP (fun _ hk => hk.elim) ?aF ?aO ?aB ?aS ?aL ?_; (case aP => exact k54_mkM _ _ _ (⟨(rd_T54 l0 x5_2).f0, (rd_T54 l0 x5_2).f1⟩ : S54)); (case aB => exact (by repeat (first | (with_reducible first | exact HB.out | apply below_alloc | apply pw_below_drewN | apply below_drew1) | exact HB.out))); (case aF => exact (fun _ _ => trivial)); (case aO => exact (by (with_reducible repeat (first | apply Kd.R_alloc | apply Kd.R_drewN | apply Kd.R_drew)); exact HO_3.out)); (case aS => exact (below_size (by repeat (first | (with_reducible first | exact HB.out | apply below_alloc | apply pw_below_drewN | apply below_drew1) | exact HB.out)))); (case aL => have := LMc9.out; omega); intro v229 w10 ho hb hg hat; rw [← Ny228.out] at ho; have n0_ := Aside0.mk (hb); have n1_ := Aside0.mk (ho); clear HB; clear HO_3; have HB := n0_; have HO230 := n1_; clear n0_ n1_; clear ho hb hg hat))
                        repeat (go_quiet (first | ((with_reducible refine gate_builtin (b := .append) (xs := #[.tmp 24, .tmp 29]) rfl ?_); at_builtin; refine Kd.R_append k54 (w0 := w) w.heap.size rfl (.tmp 24) (.tmp 29) 47 54 (.agg #[(.int .u8 0), (.string ⟨#[]⟩)]) 24 rfl Try.underlying47 info54 rfl (by decide) (by omega) u3 x3_2 (⟨(rd_T54 l0 x5_2).f0, (rd_T54 l0 x5_2).f1⟩ : S54) [.int .u8 ((rd_T54 l0 x5_2).f0), .string ((rd_T54 l0 x5_2).f1)] (fun _ => True) (fun _ => False) rfl rfl ?aP (fun _ hk => hk.elim) ?aF ?aO ?aB ?aS ?aL ?_; (case aP => exact k54_mkM _ _ _ (⟨(rd_T54 l0 x5_2).f0, (rd_T54 l0 x5_2).f1⟩ : S54)); (case aB => exact (by repeat (first | (with_reducible first | exact HB.out | apply below_alloc | apply pw_below_drewN | apply below_drew1) | exact HB.out))); (case aF => exact (fun _ _ => trivial)); (case aO => exact (by (with_reducible repeat (first | apply Kd.R_alloc | apply Kd.R_drewN | apply Kd.R_drew)); exact HO_3.out)); (case aS => exact (below_size (by repeat (first | (with_reducible first | exact HB.out | apply below_alloc | apply pw_below_drewN | apply below_drew1) | exact HB.out)))); (case aL => have := LMc9.out; omega); intro v229 w10 ho hb hg hat; rw [← Ny228.out] at ho; have n0_ := Aside0.mk (hb); have n1_ := Aside0.mk (ho); clear HB; clear HO_3; have HB := n0_; have HO230 := n1_; clear n0_ n1_; clear ho hb hg hat)); try go_wp2_with (first | ((with_reducible refine gate_builtin (b := .append) (xs := #[.tmp 24, .tmp 29]) rfl ?_); at_builtin; refine Kd.R_append k54 (w0 := w) w.heap.size rfl (.tmp 24) (.tmp 29) 47 54 (.agg #[(.int .u8 0), (.string ⟨#[]⟩)]) 24 rfl Try.underlying47 info54 rfl (by decide) (by omega) u3 x3_2 (⟨(rd_T54 l0 x5_2).f0, (rd_T54 l0 x5_2).f1⟩ : S54) [.int .u8 ((rd_T54 l0 x5_2).f0), .string ((rd_T54 l0 x5_2).f1)] (fun _ => True) (fun _ => False) rfl rfl ?aP (fun _ hk => hk.elim) ?aF ?aO ?aB ?aS ?aL ?_; (case aP => exact k54_mkM _ _ _ (⟨(rd_T54 l0 x5_2).f0, (rd_T54 l0 x5_2).f1⟩ : S54)); (case aB => exact (by repeat (first | (with_reducible first | exact HB.out | apply below_alloc | apply pw_below_drewN | apply below_drew1) | exact HB.out))); (case aF => exact (fun _ _ => trivial)); (case aO => exact (by (with_reducible repeat (first | apply Kd.R_alloc | apply Kd.R_drewN | apply Kd.R_drew)); exact HO_3.out)); (case aS => exact (below_size (by repeat (first | (with_reducible first | exact HB.out | apply below_alloc | apply pw_below_drewN | apply below_drew1) | exact HB.out)))); (case aL => have := LMc9.out; omega); intro v229 w10 ho hb hg hat; rw [← Ny228.out] at ho; have n0_ := Aside0.mk (hb); have n1_ := Aside0.mk (ho); clear HB; clear HO_3; have HB := n0_; have HO230 := n1_; clear n0_ n1_; clear ho hb hg hat)))
                        go_roundg k2
                        case measure => have := HK1.out; have := HK2.out; omega
                        case rel => exact ⟨(y228), (wrap64 (x5_2 + 1)), (by first | rfl | (simp; done) | (simp [*]; done)), H', ⟨by have := HK1.out; have := HK2.out; omega⟩, ⟨by (with_reducible repeat (first | apply Kd.R_alloc | apply Kd.R_drewN | apply Kd.R_drew)); exact HO230.out⟩, ⟨by repeat (first | (with_reducible first | exact HB.out | apply below_alloc | apply pw_below_drewN | apply below_drew1) | exact HB.out)⟩⟩
                      · rw [if_neg c9] at H
                        exact absurd H (by simp)
                    · rw [if_neg c8] at H
                      have c8b0 : (((rd_T54 l0 x5_2).f0) == (bt (⟨#[83, 67, 77, 68, 72, 80, 112, 113, 87, 115, 116, 99, 100, 110, 70, 76, 82]⟩ : ByteArray) x4_1)) = false := beq_eq_false_iff_ne.mpr c8
                      have c8b1 : (((rd_T54 l0 x5_2).f0) != (bt (⟨#[83, 67, 77, 68, 72, 80, 112, 113, 87, 115, 116, 99, 100, 110, 70, 76, 82]⟩ : ByteArray) x4_1)) = true := bne_iff_ne.mpr c8
                      have H' := Aside0.mk H
                      clear H
                      have p226 : 0 ≤ (x5_2 : Int) := of_decide_eq_true (by first | (with_reducible assumption) | assumption)
                      have q226 : x5_2 < (l0.length : Int) := of_decide_eq_true (by first | (with_reducible assumption) | assumption)
                      obtain ⟨ad226, e226, hx226_0, hx226_1⟩ := at_T54 HR0.out x5_2 p226 q226
                      cases e226
                      replace hx226_0 := (HB.out.cell (World.block_lt_of_cell? w _ hx226_0)).trans hx226_0
                      replace hx226_1 := (HB.out.cell (World.block_lt_of_cell? w _ hx226_1)).trans hx226_1
                      replace p226 := eq_true p226
                      replace q226 := eq_true q226
                      have p7 : 0 ≤ (x4_1 : Int) := of_decide_eq_true (by first | (with_reducible assumption) | assumption)
                      have q7 : x4_1 < (17 : Int) := of_decide_eq_true (by first | (with_reducible assumption) | assumption)
                      have hx7 := bt_at (⟨#[83, 67, 77, 68, 72, 80, 112, 113, 87, 115, 116, 99, 100, 110, 70, 76, 82]⟩ : ByteArray) x4_1
                      replace p7 := eq_true p7
                      replace q7 := eq_true q7
                      go_wp2
                      repeat (go_quiet (fail); try go_wp2)
                      go_roundg k2
                      case measure => have := HK1.out; have := HK2.out; omega
                      case rel => exact ⟨(x3_2), (wrap64 (x5_2 + 1)), (by first | rfl | (simp; done) | (simp [*]; done)), H', ⟨by have := HK1.out; have := HK2.out; omega⟩, ⟨by (with_reducible repeat (first | apply Kd.R_alloc | apply Kd.R_drewN | apply Kd.R_drew)); exact HO_3.out⟩, ⟨by repeat (first | (with_reducible first | exact HB.out | apply below_alloc | apply pw_below_drewN | apply below_drew1) | exact HB.out)⟩⟩
                  · rw [if_neg c6] at H
                    exact absurd H (by simp)
                · rw [if_neg c5] at H
                  exact absurd H (by simp)
              · rw [if_neg c4] at H
                exact absurd H (by simp)
            · rw [if_neg c3] at H
              have c3b0 : decide (x5_2 < (l0.length : Int)) = false := decide_eq_false c3
              clear c3
              have H' := Aside0.mk H
              clear H
              go_wp2
              repeat (go_quiet (fail); try go_wp2)
              go_roundg k2
              case measure => have := HK1.out; have := HK2.out; omega
              case rel => exact ⟨(x3_2), (wrap64 (x4_1 + 1)), (by first | rfl | (simp; done) | (simp [*]; done)), H', ⟨by have := HK1.out; have := HK2.out; omega⟩, ⟨by (with_reducible repeat (first | apply Kd.R_alloc | apply Kd.R_drewN | apply Kd.R_drew)); exact HO_3.out⟩, ⟨by repeat (first | (with_reducible first | exact HB.out | apply below_alloc | apply pw_below_drewN | apply below_drew1) | exact HB.out)⟩⟩
      · rw [if_neg c2] at H
        have c2b0 : decide (x4_1 < 17) = false := decide_eq_false c2
        clear c2
        obtain rfl := Option.some.inj H
        go_wp2
        repeat (go_quiet (fail); try go_wp2)
        go_ret
        exact ⟨_, by first | rfl | (simp [errW_none, errW_some] <;> rfl) | (simp [*, errW_none, errW_some] <;> rfl), by (with_reducible repeat (first | apply Kd.R_alloc | apply Kd.R_drewN | apply Kd.R_drew)); exact HO_3.out, by repeat (first | (with_reducible first | exact HB.out | apply below_alloc | apply pw_below_drewN | apply below_drew1) | exact HB.out)⟩

/-! ### laws_FnFault: function 7 -/
mutual
def laws_FnFault.j0 : Nat → List (S54) → List (S54) → Bool → Option (Bool)
  | 0, _, _, _ => none
  | k + 1, x3, x5, x29 => if x29 = true then (some false) else (laws_FnFault.l0 k x3 x5 0)
def laws_FnFault.l0 : Nat → List (S54) → List (S54) → Int → Option (Bool)
  | 0, _, _, _ => none
  | k + 1, x3, x5, x6 => if x6 < (x3.length : Int) then (if 0 ≤ x6 then (if x6 < (x5.length : Int) then (if (!(((rd_T54 x3 x6).f0) == ((rd_T54 x5 x6).f0)) || (!((((rd_T54 x3 x6).f1).toList) == (((rd_T54 x5 x6).f1).toList)))) = true then (some false) else (laws_FnFault.l0 k x3 x5 (wrap64 (x6 + 1)))) else (none)) else (none)) else (some true)
end
def laws_FnFault.f (k : Nat) (l0 : List (S54)) : Option (Bool) := (laws_zzFits11.f k l0).bind fun t231 => (if t231 = true then ((spec_FieldsRight.f k l0).bind fun t232 => (if t232 = true then ((spec_FieldsBody.f k l0).bind fun t233 => ((impl_FaultRead.f t233).bind fun bt234 => ((spec_FieldsOrdered.f k l0).bind fun t238 => (if bt234.2 = true then (laws_FnFault.j0 k bt234.1 t238 ((bt234.1.length : Int) != (t238.length : Int))) else (laws_FnFault.j0 k bt234.1 t238 true))))) else (some true))) else (some true))
theorem laws_FnFault.mono_l : ∀ k, (∀ y0 y1 y2, LeO (laws_FnFault.j0 k y0 y1 y2) (laws_FnFault.j0 (k + 1) y0 y1 y2)) ∧ (∀ y0 y1 y2, LeO (laws_FnFault.l0 k y0 y1 y2) (laws_FnFault.l0 (k + 1) y0 y1 y2))
  | 0 => ⟨fun _ _ _ r h => by simp [laws_FnFault.j0] at h, fun _ _ _ r h => by simp [laws_FnFault.l0] at h⟩
  | k + 1 => by
    obtain ⟨ih0, ih1⟩ := laws_FnFault.mono_l k
    refine ⟨?_, ?_⟩
    · intro y0 y1 y2
      unfold laws_FnFault.j0
      repeat' first
      | (with_reducible exact ih0 _ _ _)
      | (with_reducible exact ih1 _ _ _)
      | (with_reducible exact laws_zzFits11.mono _ _)
      | (with_reducible exact spec_FieldsBody.mono _ _)
      | (with_reducible exact spec_FieldsOrdered.mono _ _)
      | (with_reducible exact spec_FieldsRight.mono _ _)
      | (with_reducible exact LeO.refl _)
      | (with_reducible exact LeO.none _)
      | (with_reducible refine LeO.ite ?_ ?_)
      | (with_reducible refine LeO.bind ?_ (fun _ => ?_))
      | exact ih0 _ _ _
      | exact ih1 _ _ _
      | exact laws_zzFits11.mono _ _
      | exact spec_FieldsBody.mono _ _
      | exact spec_FieldsOrdered.mono _ _
      | exact spec_FieldsRight.mono _ _
      | exact LeO.none _
      | refine LeO.ite ?_ ?_
      | refine LeO.bind ?_ (fun _ => ?_)
    · intro y0 y1 y2
      unfold laws_FnFault.l0
      repeat' first
      | (with_reducible exact ih0 _ _ _)
      | (with_reducible exact ih1 _ _ _)
      | (with_reducible exact laws_zzFits11.mono _ _)
      | (with_reducible exact spec_FieldsBody.mono _ _)
      | (with_reducible exact spec_FieldsOrdered.mono _ _)
      | (with_reducible exact spec_FieldsRight.mono _ _)
      | (with_reducible exact LeO.refl _)
      | (with_reducible exact LeO.none _)
      | (with_reducible refine LeO.ite ?_ ?_)
      | (with_reducible refine LeO.bind ?_ (fun _ => ?_))
      | exact ih0 _ _ _
      | exact ih1 _ _ _
      | exact laws_zzFits11.mono _ _
      | exact spec_FieldsBody.mono _ _
      | exact spec_FieldsOrdered.mono _ _
      | exact spec_FieldsRight.mono _ _
      | exact LeO.none _
      | refine LeO.ite ?_ ?_
      | refine LeO.bind ?_ (fun _ => ?_)
theorem laws_FnFault.mono : ∀ a0 k, LeO (laws_FnFault.f k a0) (laws_FnFault.f (k + 1) a0) := by
  intro a0 k
  obtain ⟨ih0, ih1⟩ := laws_FnFault.mono_l k
  unfold laws_FnFault.f
  repeat' first
      | (with_reducible exact ih0 _ _ _)
      | (with_reducible exact ih1 _ _ _)
      | (with_reducible exact laws_zzFits11.mono _ _)
      | (with_reducible exact spec_FieldsBody.mono _ _)
      | (with_reducible exact spec_FieldsOrdered.mono _ _)
      | (with_reducible exact spec_FieldsRight.mono _ _)
      | (with_reducible exact LeO.refl _)
      | (with_reducible exact LeO.none _)
      | (with_reducible refine LeO.ite ?_ ?_)
      | (with_reducible refine LeO.bind ?_ (fun _ => ?_))
      | exact ih0 _ _ _
      | exact ih1 _ _ _
      | exact laws_zzFits11.mono _ _
      | exact spec_FieldsBody.mono _ _
      | exact spec_FieldsOrdered.mono _ _
      | exact spec_FieldsRight.mono _ _
      | exact LeO.none _
      | refine LeO.ite ?_ ?_
      | refine LeO.bind ?_ (fun _ => ?_)
set_option maxHeartbeats 8000000 in
set_option maxRecDepth 100000 in
theorem laws_FnFault.calls (k : Nat) (A0 : Option Addr) (c0 : Nat) (l0 : List (S54)) (r : Bool) (w : World) (hr0 : Kd.C k54 w A0 l0.length l0) (hc0 : l0.length ≤ c0) (h : laws_FnFault.f k l0 = some r) :
    Calls Try.prog 7 #[.slice A0 l0.length c0] w fun e w' => e = .returned (.bool r) ∧ Below w.heap.size w w' := by
  have hu54 := Try.underlying54
  have HR0 := Aside0.mk hr0
  have HC0 := Aside0.mk hc0
  clear hr0 hc0
  have HB := Aside0.mk (Below.refl w.heap.size w)
  have H : ((laws_zzFits11.f k l0).bind fun t231 => (if t231 = true then ((spec_FieldsRight.f k l0).bind fun t232 => (if t232 = true then ((spec_FieldsBody.f k l0).bind fun t233 => ((impl_FaultRead.f t233).bind fun bt234 => ((spec_FieldsOrdered.f k l0).bind fun t238 => (if bt234.2 = true then (laws_FnFault.j0 k bt234.1 t238 ((bt234.1.length : Int) != (t238.length : Int))) else (laws_FnFault.j0 k bt234.1 t238 true))))) else (some true))) else (some true))) = some r := h
  clear h
  replace H := Option.bind_eq_some_iff.mp H
  obtain ⟨t231, A20, H⟩ := H
  replace H : (if t231 = true then ((spec_FieldsRight.f k l0).bind fun t232 => (if t232 = true then ((spec_FieldsBody.f k l0).bind fun t233 => ((impl_FaultRead.f t233).bind fun bt234 => ((spec_FieldsOrdered.f k l0).bind fun t238 => (if bt234.2 = true then (laws_FnFault.j0 k bt234.1 t238 ((bt234.1.length : Int) != (t238.length : Int))) else (laws_FnFault.j0 k bt234.1 t238 true))))) else (some true))) else (some true)) = some r := H
  have A2 := Aside0.mk A20
  clear A20
  by_cases c3 : t231 = true
  · subst c3
    have H1 : ((spec_FieldsRight.f k l0).bind fun t232 => (if t232 = true then ((spec_FieldsBody.f k l0).bind fun t233 => ((impl_FaultRead.f t233).bind fun bt234 => ((spec_FieldsOrdered.f k l0).bind fun t238 => (if bt234.2 = true then (laws_FnFault.j0 k bt234.1 t238 ((bt234.1.length : Int) != (t238.length : Int))) else (laws_FnFault.j0 k bt234.1 t238 true))))) else (some true))) = some r := by rw [if_pos rfl] at H; exact H
    clear H
    have H := H1
    clear H1
    replace H := Option.bind_eq_some_iff.mp H
    obtain ⟨t232, A40, H⟩ := H
    replace H : (if t232 = true then ((spec_FieldsBody.f k l0).bind fun t233 => ((impl_FaultRead.f t233).bind fun bt234 => ((spec_FieldsOrdered.f k l0).bind fun t238 => (if bt234.2 = true then (laws_FnFault.j0 k bt234.1 t238 ((bt234.1.length : Int) != (t238.length : Int))) else (laws_FnFault.j0 k bt234.1 t238 true))))) else (some true)) = some r := H
    have A4 := Aside0.mk A40
    clear A40
    by_cases c5 : t232 = true
    · subst c5
      have H1 : ((spec_FieldsBody.f k l0).bind fun t233 => ((impl_FaultRead.f t233).bind fun bt234 => ((spec_FieldsOrdered.f k l0).bind fun t238 => (if bt234.2 = true then (laws_FnFault.j0 k bt234.1 t238 ((bt234.1.length : Int) != (t238.length : Int))) else (laws_FnFault.j0 k bt234.1 t238 true))))) = some r := by rw [if_pos rfl] at H; exact H
      clear H
      have H := H1
      clear H1
      replace H := Option.bind_eq_some_iff.mp H
      obtain ⟨t233, A60, H⟩ := H
      replace H : ((impl_FaultRead.f t233).bind fun bt234 => ((spec_FieldsOrdered.f k l0).bind fun t238 => (if bt234.2 = true then (laws_FnFault.j0 k bt234.1 t238 ((bt234.1.length : Int) != (t238.length : Int))) else (laws_FnFault.j0 k bt234.1 t238 true)))) = some r := H
      have A6 := Aside0.mk A60
      clear A60
      replace H := Option.bind_eq_some_iff.mp H
      obtain ⟨⟨t234, t235⟩, A70, H⟩ := H
      replace H : ((spec_FieldsOrdered.f k l0).bind fun t238 => (if t235 = true then (laws_FnFault.j0 k t234 t238 ((t234.length : Int) != (t238.length : Int))) else (laws_FnFault.j0 k t234 t238 true))) = some r := H
      have A7 := Aside0.mk A70
      clear A70
      replace H := Option.bind_eq_some_iff.mp H
      obtain ⟨t238, A80, H⟩ := H
      replace H : (if t235 = true then (laws_FnFault.j0 k t234 t238 ((t234.length : Int) != (t238.length : Int))) else (laws_FnFault.j0 k t234 t238 true)) = some r := H
      have A8 := Aside0.mk A80
      clear A80
      have HC9 := Aside0.mk H
      clear H
      go_enter Try.func7, Try.ntmps7
      go_upto_region 7 with (first | (go_at_call 22; (with_reducible refine (laws_zzFits11.calls k _ _ l0 true _ ?side1 ?side2 A2.out).mono ?_); (case side1 => repeat (first | exact HR0.out | (with_reducible refine Kd.C_alloc ?_ _) | (with_reducible refine Kd.C_drewN ?_ _) | (with_reducible refine Kd.C_drew ?_))); (case side2 => exact HC0.out); rintro e w10 ⟨rfl, hb⟩; have n0_ := Aside0.mk (below_step (by repeat (first | (with_reducible first | exact HB.out | apply below_alloc | apply pw_below_drewN | apply below_drew1) | exact HB.out)) hb); clear HB; have HB := n0_; clear n0_; (try clear hb); (try clear hb2); (try clear hk); (try clear hi)) | (go_at_call 23; (with_reducible refine (spec_FieldsRight.calls k _ _ l0 true _ ?side1 ?side2 A4.out).mono ?_); (case side1 => repeat (first | exact (Kd.C_below HR0.out HB.out) | (with_reducible refine Kd.C_alloc ?_ _) | (with_reducible refine Kd.C_drewN ?_ _) | (with_reducible refine Kd.C_drew ?_))); (case side2 => exact HC0.out); rintro e w' ⟨rfl, ⟨nd, rfl⟩⟩; (try first | exact ⟨rfl, _, World.drewN_drewN _ _ _⟩ | exact ⟨rfl, _, Eq.trans (World.drewN_drewN _ _ _) (congrArg (World.drewN _) (Nat.add_assoc _ _ _))⟩)) | (go_at_call 25; (with_reducible refine (spec_FieldsBody.calls k _ _ l0 t233 _ ?side1 ?side2 A6.out).mono ?_); (case side1 => repeat (first | exact (Kd.C_below HR0.out (by repeat (first | (with_reducible first | exact HB.out | apply below_alloc | apply pw_below_drewN | apply below_drew1) | exact HB.out))) | (with_reducible refine Kd.C_alloc ?_ _) | (with_reducible refine Kd.C_drewN ?_ _) | (with_reducible refine Kd.C_drew ?_))); (case side2 => exact HC0.out); rintro e w11 ⟨rfl, hb⟩; have n0_ := Aside0.mk (below_step (by repeat (first | (with_reducible first | exact HB.out | apply below_alloc | apply pw_below_drewN | apply below_drew1) | exact HB.out)) hb); clear HB; have HB := n0_; clear n0_; (try clear hb); (try clear hb2); (try clear hk); (try clear hi)) | (go_at_call 24; (with_reducible refine (impl_FaultRead.calls t233 t234 t235 _ A7.out).mono ?_); rintro e w12 ⟨v236, rfl, ho0, hb⟩; have n0_ := Aside0.mk (Kd.R_lower ho0 (below_size (by repeat (first | (with_reducible first | exact HB.out | apply below_alloc | apply pw_below_drewN | apply below_drew1) | exact HB.out)))); have n1_ := Aside0.mk (below_step (by repeat (first | (with_reducible first | exact HB.out | apply below_alloc | apply pw_below_drewN | apply below_drew1) | exact HB.out)) hb); clear HB; have HO237 := n0_; have HB := n1_; clear n0_ n1_; (try clear hb); (try clear hb2); (try clear hk); (try clear hi); (try clear ho0)) | (go_at_call 26; (with_reducible refine (spec_FieldsOrdered.calls k _ _ l0 t238 _ ?side1 ?side2 A8.out).mono ?_); (case side1 => repeat (first | exact (Kd.C_below HR0.out HB.out) | (with_reducible refine Kd.C_alloc ?_ _) | (with_reducible refine Kd.C_drewN ?_ _) | (with_reducible refine Kd.C_drew ?_))); (case side2 => exact HC0.out); rintro e w13 ⟨v239, rfl, ho0, hb⟩; have n0_ := Aside0.mk (Kd.R_elder' (by (with_reducible repeat (first | apply Kd.R_alloc | apply Kd.R_drewN | apply Kd.R_drew)); exact HO237.out) (Kd.R_base ho0) hb); have n1_ := Aside0.mk (Kd.R_lower (Kd.R_new' ho0 (Kd.R_lt (by (with_reducible repeat (first | apply Kd.R_alloc | apply Kd.R_drewN | apply Kd.R_drew)); exact HO237.out))) (below_size (by repeat (first | (with_reducible first | exact HB.out | apply below_alloc | apply pw_below_drewN | apply below_drew1) | exact HB.out)))); have n2_ := Aside0.mk (below_step (by repeat (first | (with_reducible first | exact HB.out | apply below_alloc | apply pw_below_drewN | apply below_drew1) | exact HB.out)) hb); clear HO237; clear HB; have HO237 := n0_; have HO240 := n1_; have HB := n2_; clear n0_ n1_ n2_; (try clear hb); (try clear hb2); (try clear hk); (try clear hi); (try clear ho0)))
      repeat (go_quiet (first | (go_at_call 22; (with_reducible refine (laws_zzFits11.calls k _ _ l0 true _ ?side1 ?side2 A2.out).mono ?_); (case side1 => repeat (first | exact HR0.out | (with_reducible refine Kd.C_alloc ?_ _) | (with_reducible refine Kd.C_drewN ?_ _) | (with_reducible refine Kd.C_drew ?_))); (case side2 => exact HC0.out); rintro e w10 ⟨rfl, hb⟩; have n0_ := Aside0.mk (below_step (by repeat (first | (with_reducible first | exact HB.out | apply below_alloc | apply pw_below_drewN | apply below_drew1) | exact HB.out)) hb); clear HB; have HB := n0_; clear n0_; (try clear hb); (try clear hb2); (try clear hk); (try clear hi)) | (go_at_call 23; (with_reducible refine (spec_FieldsRight.calls k _ _ l0 true _ ?side1 ?side2 A4.out).mono ?_); (case side1 => repeat (first | exact (Kd.C_below HR0.out HB.out) | (with_reducible refine Kd.C_alloc ?_ _) | (with_reducible refine Kd.C_drewN ?_ _) | (with_reducible refine Kd.C_drew ?_))); (case side2 => exact HC0.out); rintro e w' ⟨rfl, ⟨nd, rfl⟩⟩; (try first | exact ⟨rfl, _, World.drewN_drewN _ _ _⟩ | exact ⟨rfl, _, Eq.trans (World.drewN_drewN _ _ _) (congrArg (World.drewN _) (Nat.add_assoc _ _ _))⟩)) | (go_at_call 25; (with_reducible refine (spec_FieldsBody.calls k _ _ l0 t233 _ ?side1 ?side2 A6.out).mono ?_); (case side1 => repeat (first | exact (Kd.C_below HR0.out (by repeat (first | (with_reducible first | exact HB.out | apply below_alloc | apply pw_below_drewN | apply below_drew1) | exact HB.out))) | (with_reducible refine Kd.C_alloc ?_ _) | (with_reducible refine Kd.C_drewN ?_ _) | (with_reducible refine Kd.C_drew ?_))); (case side2 => exact HC0.out); rintro e w11 ⟨rfl, hb⟩; have n0_ := Aside0.mk (below_step (by repeat (first | (with_reducible first | exact HB.out | apply below_alloc | apply pw_below_drewN | apply below_drew1) | exact HB.out)) hb); clear HB; have HB := n0_; clear n0_; (try clear hb); (try clear hb2); (try clear hk); (try clear hi)) | (go_at_call 24; (with_reducible refine (impl_FaultRead.calls t233 t234 t235 _ A7.out).mono ?_); rintro e w12 ⟨v236, rfl, ho0, hb⟩; have n0_ := Aside0.mk (Kd.R_lower ho0 (below_size (by repeat (first | (with_reducible first | exact HB.out | apply below_alloc | apply pw_below_drewN | apply below_drew1) | exact HB.out)))); have n1_ := Aside0.mk (below_step (by repeat (first | (with_reducible first | exact HB.out | apply below_alloc | apply pw_below_drewN | apply below_drew1) | exact HB.out)) hb); clear HB; have HO237 := n0_; have HB := n1_; clear n0_ n1_; (try clear hb); (try clear hb2); (try clear hk); (try clear hi); (try clear ho0)) | (go_at_call 26; (with_reducible refine (spec_FieldsOrdered.calls k _ _ l0 t238 _ ?side1 ?side2 A8.out).mono ?_); (case side1 => repeat (first | exact (Kd.C_below HR0.out HB.out) | (with_reducible refine Kd.C_alloc ?_ _) | (with_reducible refine Kd.C_drewN ?_ _) | (with_reducible refine Kd.C_drew ?_))); (case side2 => exact HC0.out); rintro e w13 ⟨v239, rfl, ho0, hb⟩; have n0_ := Aside0.mk (Kd.R_elder' (by (with_reducible repeat (first | apply Kd.R_alloc | apply Kd.R_drewN | apply Kd.R_drew)); exact HO237.out) (Kd.R_base ho0) hb); have n1_ := Aside0.mk (Kd.R_lower (Kd.R_new' ho0 (Kd.R_lt (by (with_reducible repeat (first | apply Kd.R_alloc | apply Kd.R_drewN | apply Kd.R_drew)); exact HO237.out))) (below_size (by repeat (first | (with_reducible first | exact HB.out | apply below_alloc | apply pw_below_drewN | apply below_drew1) | exact HB.out)))); have n2_ := Aside0.mk (below_step (by repeat (first | (with_reducible first | exact HB.out | apply below_alloc | apply pw_below_drewN | apply below_drew1) | exact HB.out)) hb); clear HO237; clear HB; have HO237 := n0_; have HO240 := n1_; have HB := n2_; clear n0_ n1_ n2_; (try clear hb); (try clear hb2); (try clear hk); (try clear hi); (try clear ho0))); go_upto_region 7 with (first | (go_at_call 22; (with_reducible refine (laws_zzFits11.calls k _ _ l0 true _ ?side1 ?side2 A2.out).mono ?_); (case side1 => repeat (first | exact HR0.out | (with_reducible refine Kd.C_alloc ?_ _) | (with_reducible refine Kd.C_drewN ?_ _) | (with_reducible refine Kd.C_drew ?_))); (case side2 => exact HC0.out); rintro e w10 ⟨rfl, hb⟩; have n0_ := Aside0.mk (below_step (by repeat (first | (with_reducible first | exact HB.out | apply below_alloc | apply pw_below_drewN | apply below_drew1) | exact HB.out)) hb); clear HB; have HB := n0_; clear n0_; (try clear hb); (try clear hb2); (try clear hk); (try clear hi)) | (go_at_call 23; (with_reducible refine (spec_FieldsRight.calls k _ _ l0 true _ ?side1 ?side2 A4.out).mono ?_); (case side1 => repeat (first | exact (Kd.C_below HR0.out HB.out) | (with_reducible refine Kd.C_alloc ?_ _) | (with_reducible refine Kd.C_drewN ?_ _) | (with_reducible refine Kd.C_drew ?_))); (case side2 => exact HC0.out); rintro e w' ⟨rfl, ⟨nd, rfl⟩⟩; (try first | exact ⟨rfl, _, World.drewN_drewN _ _ _⟩ | exact ⟨rfl, _, Eq.trans (World.drewN_drewN _ _ _) (congrArg (World.drewN _) (Nat.add_assoc _ _ _))⟩)) | (go_at_call 25; (with_reducible refine (spec_FieldsBody.calls k _ _ l0 t233 _ ?side1 ?side2 A6.out).mono ?_); (case side1 => repeat (first | exact (Kd.C_below HR0.out (by repeat (first | (with_reducible first | exact HB.out | apply below_alloc | apply pw_below_drewN | apply below_drew1) | exact HB.out))) | (with_reducible refine Kd.C_alloc ?_ _) | (with_reducible refine Kd.C_drewN ?_ _) | (with_reducible refine Kd.C_drew ?_))); (case side2 => exact HC0.out); rintro e w11 ⟨rfl, hb⟩; have n0_ := Aside0.mk (below_step (by repeat (first | (with_reducible first | exact HB.out | apply below_alloc | apply pw_below_drewN | apply below_drew1) | exact HB.out)) hb); clear HB; have HB := n0_; clear n0_; (try clear hb); (try clear hb2); (try clear hk); (try clear hi)) | (go_at_call 24; (with_reducible refine (impl_FaultRead.calls t233 t234 t235 _ A7.out).mono ?_); rintro e w12 ⟨v236, rfl, ho0, hb⟩; have n0_ := Aside0.mk (Kd.R_lower ho0 (below_size (by repeat (first | (with_reducible first | exact HB.out | apply below_alloc | apply pw_below_drewN | apply below_drew1) | exact HB.out)))); have n1_ := Aside0.mk (below_step (by repeat (first | (with_reducible first | exact HB.out | apply below_alloc | apply pw_below_drewN | apply below_drew1) | exact HB.out)) hb); clear HB; have HO237 := n0_; have HB := n1_; clear n0_ n1_; (try clear hb); (try clear hb2); (try clear hk); (try clear hi); (try clear ho0)) | (go_at_call 26; (with_reducible refine (spec_FieldsOrdered.calls k _ _ l0 t238 _ ?side1 ?side2 A8.out).mono ?_); (case side1 => repeat (first | exact (Kd.C_below HR0.out HB.out) | (with_reducible refine Kd.C_alloc ?_ _) | (with_reducible refine Kd.C_drewN ?_ _) | (with_reducible refine Kd.C_drew ?_))); (case side2 => exact HC0.out); rintro e w13 ⟨v239, rfl, ho0, hb⟩; have n0_ := Aside0.mk (Kd.R_elder' (by (with_reducible repeat (first | apply Kd.R_alloc | apply Kd.R_drewN | apply Kd.R_drew)); exact HO237.out) (Kd.R_base ho0) hb); have n1_ := Aside0.mk (Kd.R_lower (Kd.R_new' ho0 (Kd.R_lt (by (with_reducible repeat (first | apply Kd.R_alloc | apply Kd.R_drewN | apply Kd.R_drew)); exact HO237.out))) (below_size (by repeat (first | (with_reducible first | exact HB.out | apply below_alloc | apply pw_below_drewN | apply below_drew1) | exact HB.out)))); have n2_ := Aside0.mk (below_step (by repeat (first | (with_reducible first | exact HB.out | apply below_alloc | apply pw_below_drewN | apply below_drew1) | exact HB.out)) hb); clear HO237; clear HB; have HO237 := n0_; have HO240 := n1_; have HB := n2_; clear n0_ n1_ n2_; (try clear hb); (try clear hb2); (try clear hk); (try clear hi); (try clear ho0))))
      (try simp only [Act.put, List.setIfInBounds_toArray, List.set_cons_zero, List.set_cons_succ])
      go_cut [29] (fun v29 wc => ∃ (kq : Nat) (x29_8 : Bool), v29 = .bool x29_8 ∧ Aside0 (laws_FnFault.j0 kq t234 t238 x29_8 = some r) ∧ Aside0 (kq ≤ k) ∧ Aside0 (Kd.R k54 54 wc w.heap.size (fun k_ => some k_ ≠ (v239 : Value).ownBlock) v236 t234) ∧ Aside0 (Kd.R k54 54 wc w.heap.size (fun k_ => some k_ ≠ (v236 : Value).ownBlock) v239 t238) ∧ Aside0 (Below w.heap.size w wc))
      case first =>
        have H := HC9.out
        clear HC9
        by_cases c14 : t235 = true
        · subst c14
          have H1 : (laws_FnFault.j0 k t234 t238 ((t234.length : Int) != (t238.length : Int))) = some r := by rw [if_pos rfl] at H; exact H
          clear H
          have H := H1
          clear H1
          have H' := Aside0.mk H
          clear H
          obtain ⟨Ao15, co15, eo15⟩ := Kd.R_slice HO237.out
          subst eo15
          obtain ⟨Ao16, co16, eo16⟩ := Kd.R_slice HO240.out
          subst eo16
          go_wp2
          repeat (go_quiet (fail); try go_wp2)
          go_meet
          case rel => exact ⟨_, (((t234.length : Int) != (t238.length : Int))), (by first | rfl | (simp; done) | (simp [*]; done)), H', ⟨by first | omega | exact Nat.le_refl _⟩, ⟨by (with_reducible repeat (first | apply Kd.R_alloc | apply Kd.R_drewN | apply Kd.R_drew)); exact Kd.R_mono HO237.out (fun _ hk => hk.2)⟩, ⟨by (with_reducible repeat (first | apply Kd.R_alloc | apply Kd.R_drewN | apply Kd.R_drew)); exact Kd.R_mono HO240.out (fun _ hk => hk.2)⟩, ⟨by repeat (first | (with_reducible first | exact HB.out | apply below_alloc | apply pw_below_drewN | apply below_drew1) | exact HB.out)⟩⟩
        · replace c14 := Bool.eq_false_iff.mpr c14
          subst c14
          have H1 : (laws_FnFault.j0 k t234 t238 true) = some r := by rw [if_neg (show ¬ (false = true) by decide)] at H; exact H
          clear H
          have H := H1
          clear H1
          have H' := Aside0.mk H
          clear H
          go_wp2
          repeat (go_quiet (fail); try go_wp2)
          go_meet
          case rel => exact ⟨_, (true), (by first | rfl | (simp; done) | (simp [*]; done)), H', ⟨by first | omega | exact Nat.le_refl _⟩, ⟨by (with_reducible repeat (first | apply Kd.R_alloc | apply Kd.R_drewN | apply Kd.R_drew)); exact Kd.R_mono HO237.out (fun _ hk => hk.2)⟩, ⟨by (with_reducible repeat (first | apply Kd.R_alloc | apply Kd.R_drewN | apply Kd.R_drew)); exact Kd.R_mono HO240.out (fun _ hk => hk.2)⟩, ⟨by repeat (first | (with_reducible first | exact HB.out | apply below_alloc | apply pw_below_drewN | apply below_drew1) | exact HB.out)⟩⟩
      case rest =>
        clear HC9
        try clear c1
        try clear p2
        try clear c3
        try clear c5
        try clear c7
        try clear c14
        obtain ⟨kq, x29_8, rfl, HA, HJ8, HO_3, HO_5, HB⟩ := hcut
        cases kq with
        | zero => exact absurd HA.out (by simp [laws_FnFault.j0])
        | succ kj8 =>
          have H := HA.out
          clear HA
          simp only [laws_FnFault.j0] at H
          by_cases c17 : x29_8 = true
          · subst c17
            have H1 : (some false) = some r := by rw [if_pos rfl] at H; exact H
            clear H
            have H := H1
            clear H1
            obtain rfl := Option.some.inj H
            go_wp2
            repeat (go_quiet (fail); try go_wp2)
            go_ret
            exact ⟨by first | rfl | (simp [errW_none, errW_some] <;> rfl) | (simp [*, errW_none, errW_some] <;> rfl), by repeat (first | (with_reducible first | exact HB.out | apply below_alloc | apply pw_below_drewN | apply below_drew1) | exact HB.out)⟩
          · replace c17 := Bool.eq_false_iff.mpr c17
            subst c17
            have H1 : (laws_FnFault.l0 kj8 t234 t238 0) = some r := by rw [if_neg (show ¬ (false = true) by decide)] at H; exact H
            clear H
            have H := H1
            clear H1
            have H' := Aside0.mk H
            clear H
            go_wp2
            repeat (go_quiet (fail); try go_wp2)
            go_loopg [6] kj8 (fun kq v6 w' => ∃ (x6_2 : Int), v6 = .int .i64 x6_2 ∧ Aside0 (laws_FnFault.l0 kq t234 t238 x6_2 = some r) ∧ Aside0 (kq ≤ kj8) ∧ Aside0 (Kd.R k54 54 w' w.heap.size (fun k_ => some k_ ≠ (v239 : Value).ownBlock) v236 t234) ∧ Aside0 (Kd.R k54 54 w' w.heap.size (fun k_ => some k_ ≠ (v236 : Value).ownBlock) v239 t238) ∧ Aside0 (Below w.heap.size w w'))
            case atStart => exact ⟨(0), (by first | rfl | (simp; done) | (simp [*]; done)), H', ⟨Nat.le_refl _⟩, ⟨by (with_reducible repeat (first | apply Kd.R_alloc | apply Kd.R_drewN | apply Kd.R_drew)); exact HO_3.out⟩, ⟨by (with_reducible repeat (first | apply Kd.R_alloc | apply Kd.R_drewN | apply Kd.R_drew)); exact HO_5.out⟩, ⟨by repeat (first | (with_reducible first | exact HB.out | apply below_alloc | apply pw_below_drewN | apply below_drew1) | exact HB.out)⟩⟩
            case round =>
              clear H'
              try clear c1
              try clear p2
              try clear c3
              try clear c5
              try clear c7
              try clear c14
              try clear c17
              try clear p2
              obtain ⟨x6_2, rfl, HA, HK2, HO_3, HO_5, HB⟩ := hrel
              cases gk with
              | zero => exact absurd HA.out (by simp [laws_FnFault.l0])
              | succ k2 =>
                have H := HA.out
                clear HA
                simp only [laws_FnFault.l0] at H
                by_cases c18 : x6_2 < (t234.length : Int)
                · rw [if_pos c18] at H
                  have c18b0 : decide (x6_2 < (t234.length : Int)) = true := decide_eq_true c18
                  clear c18
                  by_cases c19 : 0 ≤ x6_2
                  · rw [if_pos c19] at H
                    have c19b0 : decide (0 ≤ x6_2) = true := decide_eq_true c19
                    clear c19
                    by_cases c20 : x6_2 < (t238.length : Int)
                    · rw [if_pos c20] at H
                      have c20b0 : decide (x6_2 < (t238.length : Int)) = true := decide_eq_true c20
                      clear c20
                      by_cases c21 : (!(((rd_T54 t234 x6_2).f0) == ((rd_T54 t238 x6_2).f0)) || (!((((rd_T54 t234 x6_2).f1).toList) == (((rd_T54 t238 x6_2).f1).toList)))) = true
                      · rw [if_pos c21] at H
                        have c21b0 : (!(((rd_T54 t234 x6_2).f0) == ((rd_T54 t238 x6_2).f0)) || (!((((rd_T54 t234 x6_2).f1).toList) == (((rd_T54 t238 x6_2).f1).toList)))) = true := c21
                        clear c21
                        obtain rfl := Option.some.inj H
                        obtain ⟨Ao22, co22, eo22⟩ := Kd.R_slice HO_3.out
                        subst eo22
                        have p241 : 0 ≤ (x6_2 : Int) := of_decide_eq_true (by first | (with_reducible assumption) | assumption)
                        have q241 : x6_2 < (t234.length : Int) := of_decide_eq_true (by first | (with_reducible assumption) | assumption)
                        obtain ⟨ad241, e241, hx241_0, hx241_1⟩ := at_T54 (Kd.R_reads' HO_3.out).2.2 x6_2 p241 q241
                        cases e241
                        replace p241 := eq_true p241
                        replace q241 := eq_true q241
                        obtain ⟨Ao23, co23, eo23⟩ := Kd.R_slice HO_5.out
                        subst eo23
                        have p242 : 0 ≤ (x6_2 : Int) := of_decide_eq_true (by first | (with_reducible assumption) | assumption)
                        have q242 : x6_2 < (t238.length : Int) := of_decide_eq_true (by first | (with_reducible assumption) | assumption)
                        obtain ⟨ad242, e242, hx242_0, hx242_1⟩ := at_T54 (Kd.R_reads' HO_5.out).2.2 x6_2 p242 q242
                        cases e242
                        replace p242 := eq_true p242
                        replace q242 := eq_true q242
                        go_wp2
                        repeat (go_quiet (fail); try go_wp2)
                        go_ret
                        exact ⟨by first | rfl | (simp [errW_none, errW_some] <;> rfl) | (simp [*, errW_none, errW_some] <;> rfl), by repeat (first | (with_reducible first | exact HB.out | apply below_alloc | apply pw_below_drewN | apply below_drew1) | exact HB.out)⟩
                      · rw [if_neg c21] at H
                        have c21b0 : (!(((rd_T54 t234 x6_2).f0) == ((rd_T54 t238 x6_2).f0)) || (!((((rd_T54 t234 x6_2).f1).toList) == (((rd_T54 t238 x6_2).f1).toList)))) = false := by simpa using c21
                        clear c21
                        have H' := Aside0.mk H
                        clear H
                        obtain ⟨Ao24, co24, eo24⟩ := Kd.R_slice HO_3.out
                        subst eo24
                        have p241 : 0 ≤ (x6_2 : Int) := of_decide_eq_true (by first | (with_reducible assumption) | assumption)
                        have q241 : x6_2 < (t234.length : Int) := of_decide_eq_true (by first | (with_reducible assumption) | assumption)
                        obtain ⟨ad241, e241, hx241_0, hx241_1⟩ := at_T54 (Kd.R_reads' HO_3.out).2.2 x6_2 p241 q241
                        cases e241
                        replace p241 := eq_true p241
                        replace q241 := eq_true q241
                        obtain ⟨Ao25, co25, eo25⟩ := Kd.R_slice HO_5.out
                        subst eo25
                        have p242 : 0 ≤ (x6_2 : Int) := of_decide_eq_true (by first | (with_reducible assumption) | assumption)
                        have q242 : x6_2 < (t238.length : Int) := of_decide_eq_true (by first | (with_reducible assumption) | assumption)
                        obtain ⟨ad242, e242, hx242_0, hx242_1⟩ := at_T54 (Kd.R_reads' HO_5.out).2.2 x6_2 p242 q242
                        cases e242
                        replace p242 := eq_true p242
                        replace q242 := eq_true q242
                        go_wp2
                        repeat (go_quiet (fail); try go_wp2)
                        go_roundg k2
                        case measure => have := HJ8.out; have := HK2.out; omega
                        case rel => exact ⟨(wrap64 (x6_2 + 1)), (by first | rfl | (simp; done) | (simp [*]; done)), H', ⟨by have := HJ8.out; have := HK2.out; omega⟩, ⟨by (with_reducible repeat (first | apply Kd.R_alloc | apply Kd.R_drewN | apply Kd.R_drew)); exact HO_3.out⟩, ⟨by (with_reducible repeat (first | apply Kd.R_alloc | apply Kd.R_drewN | apply Kd.R_drew)); exact HO_5.out⟩, ⟨by repeat (first | (with_reducible first | exact HB.out | apply below_alloc | apply pw_below_drewN | apply below_drew1) | exact HB.out)⟩⟩
                    · rw [if_neg c20] at H
                      exact absurd H (by simp)
                  · rw [if_neg c19] at H
                    exact absurd H (by simp)
                · rw [if_neg c18] at H
                  have c18b0 : decide (x6_2 < (t234.length : Int)) = false := decide_eq_false c18
                  clear c18
                  obtain rfl := Option.some.inj H
                  obtain ⟨Ao26, co26, eo26⟩ := Kd.R_slice HO_3.out
                  subst eo26
                  go_wp2
                  repeat (go_quiet (fail); try go_wp2)
                  go_ret
                  exact ⟨by first | rfl | (simp [errW_none, errW_some] <;> rfl) | (simp [*, errW_none, errW_some] <;> rfl), by repeat (first | (with_reducible first | exact HB.out | apply below_alloc | apply pw_below_drewN | apply below_drew1) | exact HB.out)⟩
    · replace c5 := Bool.eq_false_iff.mpr c5
      subst c5
      have H1 : (some true) = some r := by rw [if_neg (show ¬ (false = true) by decide)] at H; exact H
      clear H
      have H := H1
      clear H1
      obtain rfl := Option.some.inj H
      go_enter Try.func7, Try.ntmps7
      go_wp2_with (first | (go_at_call 22; (with_reducible refine (laws_zzFits11.calls k _ _ l0 true _ ?side1 ?side2 A2.out).mono ?_); (case side1 => repeat (first | exact HR0.out | (with_reducible refine Kd.C_alloc ?_ _) | (with_reducible refine Kd.C_drewN ?_ _) | (with_reducible refine Kd.C_drew ?_))); (case side2 => exact HC0.out); rintro e w27 ⟨rfl, hb⟩; have n0_ := Aside0.mk (below_step (by repeat (first | (with_reducible first | exact HB.out | apply below_alloc | apply pw_below_drewN | apply below_drew1) | exact HB.out)) hb); clear HB; have HB := n0_; clear n0_; (try clear hb); (try clear hb2); (try clear hk); (try clear hi)) | (go_at_call 23; (with_reducible refine (spec_FieldsRight.calls k _ _ l0 false _ ?side1 ?side2 A4.out).mono ?_); (case side1 => repeat (first | exact (Kd.C_below HR0.out HB.out) | (with_reducible refine Kd.C_alloc ?_ _) | (with_reducible refine Kd.C_drewN ?_ _) | (with_reducible refine Kd.C_drew ?_))); (case side2 => exact HC0.out); rintro e w' ⟨rfl, ⟨nd, rfl⟩⟩; (try first | exact ⟨rfl, _, World.drewN_drewN _ _ _⟩ | exact ⟨rfl, _, Eq.trans (World.drewN_drewN _ _ _) (congrArg (World.drewN _) (Nat.add_assoc _ _ _))⟩)))
      repeat (go_quiet (first | (go_at_call 22; (with_reducible refine (laws_zzFits11.calls k _ _ l0 true _ ?side1 ?side2 A2.out).mono ?_); (case side1 => repeat (first | exact HR0.out | (with_reducible refine Kd.C_alloc ?_ _) | (with_reducible refine Kd.C_drewN ?_ _) | (with_reducible refine Kd.C_drew ?_))); (case side2 => exact HC0.out); rintro e w27 ⟨rfl, hb⟩; have n0_ := Aside0.mk (below_step (by repeat (first | (with_reducible first | exact HB.out | apply below_alloc | apply pw_below_drewN | apply below_drew1) | exact HB.out)) hb); clear HB; have HB := n0_; clear n0_; (try clear hb); (try clear hb2); (try clear hk); (try clear hi)) | (go_at_call 23; (with_reducible refine (spec_FieldsRight.calls k _ _ l0 false _ ?side1 ?side2 A4.out).mono ?_); (case side1 => repeat (first | exact (Kd.C_below HR0.out HB.out) | (with_reducible refine Kd.C_alloc ?_ _) | (with_reducible refine Kd.C_drewN ?_ _) | (with_reducible refine Kd.C_drew ?_))); (case side2 => exact HC0.out); rintro e w' ⟨rfl, ⟨nd, rfl⟩⟩; (try first | exact ⟨rfl, _, World.drewN_drewN _ _ _⟩ | exact ⟨rfl, _, Eq.trans (World.drewN_drewN _ _ _) (congrArg (World.drewN _) (Nat.add_assoc _ _ _))⟩))); try go_wp2_with (first | (go_at_call 22; (with_reducible refine (laws_zzFits11.calls k _ _ l0 true _ ?side1 ?side2 A2.out).mono ?_); (case side1 => repeat (first | exact HR0.out | (with_reducible refine Kd.C_alloc ?_ _) | (with_reducible refine Kd.C_drewN ?_ _) | (with_reducible refine Kd.C_drew ?_))); (case side2 => exact HC0.out); rintro e w27 ⟨rfl, hb⟩; have n0_ := Aside0.mk (below_step (by repeat (first | (with_reducible first | exact HB.out | apply below_alloc | apply pw_below_drewN | apply below_drew1) | exact HB.out)) hb); clear HB; have HB := n0_; clear n0_; (try clear hb); (try clear hb2); (try clear hk); (try clear hi)) | (go_at_call 23; (with_reducible refine (spec_FieldsRight.calls k _ _ l0 false _ ?side1 ?side2 A4.out).mono ?_); (case side1 => repeat (first | exact (Kd.C_below HR0.out HB.out) | (with_reducible refine Kd.C_alloc ?_ _) | (with_reducible refine Kd.C_drewN ?_ _) | (with_reducible refine Kd.C_drew ?_))); (case side2 => exact HC0.out); rintro e w' ⟨rfl, ⟨nd, rfl⟩⟩; (try first | exact ⟨rfl, _, World.drewN_drewN _ _ _⟩ | exact ⟨rfl, _, Eq.trans (World.drewN_drewN _ _ _) (congrArg (World.drewN _) (Nat.add_assoc _ _ _))⟩))))
      go_ret
      exact ⟨by first | rfl | (simp [errW_none, errW_some] <;> rfl) | (simp [*, errW_none, errW_some] <;> rfl), by repeat (first | (with_reducible first | exact HB.out | apply below_alloc | apply pw_below_drewN | apply below_drew1) | exact HB.out)⟩
  · replace c3 := Bool.eq_false_iff.mpr c3
    subst c3
    have H1 : (some true) = some r := by rw [if_neg (show ¬ (false = true) by decide)] at H; exact H
    clear H
    have H := H1
    clear H1
    obtain rfl := Option.some.inj H
    go_enter Try.func7, Try.ntmps7
    go_wp2_with (first | (go_at_call 22; (with_reducible refine (laws_zzFits11.calls k _ _ l0 false _ ?side1 ?side2 A2.out).mono ?_); (case side1 => repeat (first | exact HR0.out | (with_reducible refine Kd.C_alloc ?_ _) | (with_reducible refine Kd.C_drewN ?_ _) | (with_reducible refine Kd.C_drew ?_))); (case side2 => exact HC0.out); rintro e w28 ⟨rfl, hb⟩; have n0_ := Aside0.mk (below_step (by repeat (first | (with_reducible first | exact HB.out | apply below_alloc | apply pw_below_drewN | apply below_drew1) | exact HB.out)) hb); clear HB; have HB := n0_; clear n0_; (try clear hb); (try clear hb2); (try clear hk); (try clear hi)))
    repeat (go_quiet (first | (go_at_call 22; (with_reducible refine (laws_zzFits11.calls k _ _ l0 false _ ?side1 ?side2 A2.out).mono ?_); (case side1 => repeat (first | exact HR0.out | (with_reducible refine Kd.C_alloc ?_ _) | (with_reducible refine Kd.C_drewN ?_ _) | (with_reducible refine Kd.C_drew ?_))); (case side2 => exact HC0.out); rintro e w28 ⟨rfl, hb⟩; have n0_ := Aside0.mk (below_step (by repeat (first | (with_reducible first | exact HB.out | apply below_alloc | apply pw_below_drewN | apply below_drew1) | exact HB.out)) hb); clear HB; have HB := n0_; clear n0_; (try clear hb); (try clear hb2); (try clear hk); (try clear hi))); try go_wp2_with (first | (go_at_call 22; (with_reducible refine (laws_zzFits11.calls k _ _ l0 false _ ?side1 ?side2 A2.out).mono ?_); (case side1 => repeat (first | exact HR0.out | (with_reducible refine Kd.C_alloc ?_ _) | (with_reducible refine Kd.C_drewN ?_ _) | (with_reducible refine Kd.C_drew ?_))); (case side2 => exact HC0.out); rintro e w28 ⟨rfl, hb⟩; have n0_ := Aside0.mk (below_step (by repeat (first | (with_reducible first | exact HB.out | apply below_alloc | apply pw_below_drewN | apply below_drew1) | exact HB.out)) hb); clear HB; have HB := n0_; clear n0_; (try clear hb); (try clear hb2); (try clear hk); (try clear hi))))
    go_ret
    exact ⟨by first | rfl | (simp [errW_none, errW_some] <;> rfl) | (simp [*, errW_none, errW_some] <;> rfl), by repeat (first | (with_reducible first | exact HB.out | apply below_alloc | apply pw_below_drewN | apply below_drew1) | exact HB.out)⟩

/-! ### impl_datum: function 55 -/
theorem run_store_flt {P : Program} {w : World} {a : Addr} {m : Mode} (k : FloatKind) (x : Nat) : (store a (.float k x) m).run P w = stored P w a (.float k x) m := run_store P w a _ m rfl
attribute [local go_sem] run_store_flt
/-- A value as impl has it, of a kind. -/
def datumV (kind n : Int) (s : ByteArray) : Value := .agg #[.int .i64 kind, .int .i64 n, .float .f64 0, .string s, .bool false, .int .i64 0, .int .i64 0, .int .i64 0, .int .i64 0, .int .i64 0, .int .i64 0, .int .i64 0, .int .i64 0]
theorem results_ct {P : Program} {fn : Func} {p u : Tmp} {ty : TypeId} (h : fn.results = #[.cell p ty, .tmp u]) (tmps : Array Value) (w : World) (g : Nat) (t : TypeId) (cs : Array Value) (fr : Nat × Nat) (d : TypeDesc)
    (hp : tmps.getD p undef = .pointer (some ⟨g, 0, none⟩)) (hg : w.heap[g]? = some (.cells cs t fr))
    (hu : P.underlying ty = some d) (hd : (match d with | .struct _ | .array _ _ => true | _ => false) = true) (hi : (P.info? ty).map (·.size) = some cs.size) :
    (results fn tmps).run P w = .ok (.tuple #[.agg cs, tmps.getD u undef]) w := by
  have hp' : tmps[p]?.getD undef = .pointer (some ⟨g, 0, none⟩) := by simpa using hp
  simp [results, h, hp', asAddr, run_loadVar_row w g t ty cs fr d hg hu hd hi]
set_option maxHeartbeats 1000000 in
set_option maxRecDepth 100000 in
theorem impl_datum.int (n : Int) (w : World) :
    Calls Try.prog 55 #[.iface 2 (.int .i64 n), .nilIface] w fun e w' => e = .returned (.tuple #[datumV 1 n ⟨#[]⟩, .bool true]) ∧ Below w.heap.size w w' := by
  have hu := Try.underlying97
  have ta : ∀ W, (Instr.typeAssert (.iface 2 (.int .i64 n)) 20 2 true).run Try.prog W = .ok (.tuple #[.int .i64 n, .bool true]) W := fun W => by kernel_rfl
  go_enter Try.func55, Try.ntmps55
  go_wp2_with fail
  exact bodyPost_ret (results_ct (d := _) rfl _ _ w.heap.size 64 _ _ rfl (heap_alloc_new _ _) Try.underlying64 rfl (by kernel_rfl)) rfl ⟨rfl, below_alloc (Below.refl _ _) _⟩
set_option maxHeartbeats 1000000 in
set_option maxRecDepth 100000 in
theorem impl_datum.bytes (A : Option Addr) (c : Nat) (f : List Int) (w : World) (hr : (Kd.int .u8).C w A f.length f) :
    Calls Try.prog 55 #[.iface 58 (.slice A f.length c), .nilIface] w fun e w' => e = .returned (.tuple #[datumV 4 0 (strOfNums f), .bool true]) ∧ Below w.heap.size w w' := by
  have hu := Try.underlying97
  have t1 : ∀ W, (Instr.typeAssert (.iface 58 (.slice A f.length c)) 20 2 true).run Try.prog W = .ok (.tuple #[.int .i64 0, .bool false]) W := fun W => by kernel_rfl
  have t2 : ∀ W, (Instr.typeAssert (.iface 58 (.slice A f.length c)) 20 60 true).run Try.prog W = .ok (.tuple #[.float .f64 0, .bool false]) W := fun W => by kernel_rfl
  have t3 : ∀ W, (Instr.typeAssert (.iface 58 (.slice A f.length c)) 20 9 true).run Try.prog W = .ok (.tuple #[.string ⟨#[]⟩, .bool false]) W := fun W => by kernel_rfl
  have t4 : ∀ W, (Instr.typeAssert (.iface 58 (.slice A f.length c)) 20 58 true).run Try.prog W = .ok (.tuple #[.slice A f.length c, .bool true]) W := fun W => by kernel_rfl
  have hcv := fun o : Obj => Kd.C_string (P := Try.prog) (c := c) Try.underlying58 Try.underlying5 Try.underlying9 (Kd.C_alloc hr o)
  go_enter Try.func55, Try.ntmps55
  go_wp2_with fail
  exact bodyPost_ret (results_ct (d := _) rfl _ _ w.heap.size 64 _ _ rfl (heap_alloc_new _ _) Try.underlying64 rfl (by kernel_rfl)) rfl ⟨rfl, below_alloc (Below.refl _ _) _⟩

end Go.Proofs.Ythcikkjjegfblab.P
