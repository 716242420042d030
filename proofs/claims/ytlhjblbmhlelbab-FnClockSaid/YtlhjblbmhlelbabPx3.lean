-- Written by the program wip/myprint.py of this session, over the kit's print of the translation. Lean checks it.
import Derived.Test.YtlhjblbmhlelbabPx0
import Derived.Test.YtlhjblbmhlelbabPx2
namespace Go.Proofs.Ytlhjblbmhlelbab.P
open Go.RowKit Go.Proofs.YtlhjblbmhlelbabW.PrintWords Go.Proofs.YtlhjblbmhlelbabW.PrintLast Go.Proofs.YtlhjblbmhlelbabW.PrintMore
attribute [local go_sem] max2_int min2_int max_two min_two max_three min_three max_four min_four   -- for this text's walks alone
set_option linter.unusedVariables false
set_option linter.unusedSimpArgs false

/-! ### spec_TimeText: function 13 -/
def spec_TimeText.l0 : Nat → Int → ByteArray → ByteArray → Int → Option (ByteArray)
  | 0, _, _, _, _ => none
  | k + 1, x1, x5, x6, x7 => if x7 > x1 then (if 0 ≤ (wrap64 (x7 - 1)) then (if (wrap64 (x7 - 1)) < (x6.size : Int) then (if (bt x6 (wrap64 (x7 - 1))) = 48 then (spec_TimeText.l0 k x1 x5 x6 (wrap64 (x7 - 1))) else (if x7 > 0 then (if 0 ≤ x7 then (if x7 ≤ (x6.size : Int) then (if 1 + (x6.extract 0 (x7 : Int).toNat).size ≤ 9223372036854775807 then (if x5.size + ((⟨#[46]⟩ : ByteArray) ++ (x6.extract 0 (x7 : Int).toNat)).size ≤ 9223372036854775807 then (some (x5 ++ ((⟨#[46]⟩ : ByteArray) ++ (x6.extract 0 (x7 : Int).toNat)))) else (none)) else (none)) else (none)) else (none)) else (some x5))) else (none)) else (none)) else (if x7 > 0 then (if 0 ≤ x7 then (if x7 ≤ (x6.size : Int) then (if 1 + (x6.extract 0 (x7 : Int).toNat).size ≤ 9223372036854775807 then (if x5.size + ((⟨#[46]⟩ : ByteArray) ++ (x6.extract 0 (x7 : Int).toNat)).size ≤ 9223372036854775807 then (some (x5 ++ ((⟨#[46]⟩ : ByteArray) ++ (x6.extract 0 (x7 : Int).toNat)))) else (none)) else (none)) else (none)) else (none)) else (some x5))
def spec_TimeText.f (k : Nat) (a0_0 : Int) (a0_1 : Int) (a0_2 : Int) (a0_3 : Int) (a0_4 : Int) (a0_5 : Int) (a0_6 : Int) (a0_7 : Int) (a1 : Int) : Option (ByteArray) := (spec_padded.f k a0_3 2).bind fun t109 => (if t109.size + 1 ≤ 9223372036854775807 then ((spec_padded.f k a0_4 2).bind fun t110 => (if (t109 ++ (⟨#[58]⟩ : ByteArray)).size + t110.size ≤ 9223372036854775807 then (if ((t109 ++ (⟨#[58]⟩ : ByteArray)) ++ t110).size + 1 ≤ 9223372036854775807 then ((spec_padded.f k a0_5 2).bind fun t111 => (if (((t109 ++ (⟨#[58]⟩ : ByteArray)) ++ t110) ++ (⟨#[58]⟩ : ByteArray)).size + t111.size ≤ 9223372036854775807 then ((spec_padded.f k a0_6 9).bind fun t112 => (spec_TimeText.l0 k a1 ((((t109 ++ (⟨#[58]⟩ : ByteArray)) ++ t110) ++ (⟨#[58]⟩ : ByteArray)) ++ t111) t112 9)) else (none))) else (none)) else (none))) else (none))
theorem spec_TimeText.mono_l : ∀ k, (∀ y0 y1 y2 y3, LeO (spec_TimeText.l0 k y0 y1 y2 y3) (spec_TimeText.l0 (k + 1) y0 y1 y2 y3))
  | 0 => fun _ _ _ _ r h => by simp [spec_TimeText.l0] at h
  | k + 1 => by
    have ih0 := spec_TimeText.mono_l k
    · intro y0 y1 y2 y3
      unfold spec_TimeText.l0
      repeat' first
      | (with_reducible exact ih0 _ _ _ _)
      | (with_reducible exact spec_padded.mono _ _ _)
      | (with_reducible exact LeO.refl _)
      | (with_reducible exact LeO.none _)
      | (with_reducible refine LeO.ite ?_ ?_)
      | (with_reducible refine LeO.bind ?_ (fun _ => ?_))
      | exact ih0 _ _ _ _
      | exact spec_padded.mono _ _ _
      | exact LeO.none _
      | refine LeO.ite ?_ ?_
      | refine LeO.bind ?_ (fun _ => ?_)
theorem spec_TimeText.mono : ∀ a0 a1 a2 a3 a4 a5 a6 a7 a8 k, LeO (spec_TimeText.f k a0 a1 a2 a3 a4 a5 a6 a7 a8) (spec_TimeText.f (k + 1) a0 a1 a2 a3 a4 a5 a6 a7 a8) := by
  intro a0 a1 a2 a3 a4 a5 a6 a7 a8 k
  have ih0 := spec_TimeText.mono_l k
  unfold spec_TimeText.f
  repeat' first
      | (with_reducible exact ih0 _ _ _ _)
      | (with_reducible exact spec_padded.mono _ _ _)
      | (with_reducible exact LeO.refl _)
      | (with_reducible exact LeO.none _)
      | (with_reducible refine LeO.ite ?_ ?_)
      | (with_reducible refine LeO.bind ?_ (fun _ => ?_))
      | exact ih0 _ _ _ _
      | exact spec_padded.mono _ _ _
      | exact LeO.none _
      | refine LeO.ite ?_ ?_
      | refine LeO.bind ?_ (fun _ => ?_)
def spec_TimeText.T1 : Bool × List (List Nat × List Nat) := (true, [([], []), ([0], [0]), ([1], [1]), ([2], [2]), ([], []), ([4], [4]), ([5, 2], [5]), ([3, 6], [3, 6]), ([7], [7]), ([], []), ([9], [9]), ([10, 6], [10]), ([8, 11], [8, 11]), ([12, 11, 0, 1, 2, 3, 4, 5, 6, 7, 8, 9, 10, 11, 12], [12])])
def spec_TimeText.B1 : List Nat := [0, 1, 3, 7, 0, 16, 55, 127, 255, 0, 512, 1655, 4095, 8191]
theorem spec_TimeText.tab1 : rtab .any (opsOf Try.f13 1) = spec_TimeText.T1 := by kernel_rfl
theorem spec_TimeText.bits1 : waitsOk spec_TimeText.T1.2 spec_TimeText.B1 = true := by kernel_rfl
set_option maxHeartbeats 8000000 in
set_option maxRecDepth 100000 in
theorem spec_TimeText.calls (k : Nat) (a0_0 : Int) (a0_1 : Int) (a0_2 : Int) (a0_3 : Int) (a0_4 : Int) (a0_5 : Int) (a0_6 : Int) (a0_7 : Int) (a1 : Int) (r : ByteArray) (w : World) (h : spec_TimeText.f k a0_0 a0_1 a0_2 a0_3 a0_4 a0_5 a0_6 a0_7 a1 = some r) :
    Calls Try.prog 13 #[.agg #[.int .i64 a0_0, .int .i64 a0_1, .int .i64 a0_2, .int .i64 a0_3, .int .i64 a0_4, .int .i64 a0_5, .int .i64 a0_6, .int .i64 a0_7], .int .i64 a1] w fun e w' => e = .returned (.string r) ∧ Below w.heap.size w w' := by
  have hu34 := Try.underlying34
  have HB := Aside0.mk (Below.refl w.heap.size w)
  have H : ((spec_padded.f k a0_3 2).bind fun t109 => (if t109.size + 1 ≤ 9223372036854775807 then ((spec_padded.f k a0_4 2).bind fun t110 => (if (t109 ++ (⟨#[58]⟩ : ByteArray)).size + t110.size ≤ 9223372036854775807 then (if ((t109 ++ (⟨#[58]⟩ : ByteArray)) ++ t110).size + 1 ≤ 9223372036854775807 then ((spec_padded.f k a0_5 2).bind fun t111 => (if (((t109 ++ (⟨#[58]⟩ : ByteArray)) ++ t110) ++ (⟨#[58]⟩ : ByteArray)).size + t111.size ≤ 9223372036854775807 then ((spec_padded.f k a0_6 9).bind fun t112 => (spec_TimeText.l0 k a1 ((((t109 ++ (⟨#[58]⟩ : ByteArray)) ++ t110) ++ (⟨#[58]⟩ : ByteArray)) ++ t111) t112 9)) else (none))) else (none)) else (none))) else (none))) = some r := h
  clear h
  replace H := Option.bind_eq_some_iff.mp H
  obtain ⟨t109, A30, H⟩ := H
  replace H : (if t109.size + 1 ≤ 9223372036854775807 then ((spec_padded.f k a0_4 2).bind fun t110 => (if (t109 ++ (⟨#[58]⟩ : ByteArray)).size + t110.size ≤ 9223372036854775807 then (if ((t109 ++ (⟨#[58]⟩ : ByteArray)) ++ t110).size + 1 ≤ 9223372036854775807 then ((spec_padded.f k a0_5 2).bind fun t111 => (if (((t109 ++ (⟨#[58]⟩ : ByteArray)) ++ t110) ++ (⟨#[58]⟩ : ByteArray)).size + t111.size ≤ 9223372036854775807 then ((spec_padded.f k a0_6 9).bind fun t112 => (spec_TimeText.l0 k a1 ((((t109 ++ (⟨#[58]⟩ : ByteArray)) ++ t110) ++ (⟨#[58]⟩ : ByteArray)) ++ t111) t112 9)) else (none))) else (none)) else (none))) else (none)) = some r := H
  have A3 := Aside0.mk A30
  clear A30
  by_cases c4 : t109.size + 1 ≤ 9223372036854775807
  · rw [if_pos c4] at H
    have c4b0 := eq_true c4
    have c4b1 : decide (t109.size + 1 ≤ 9223372036854775807) = true := decide_eq_true c4
    try have c4b2 : (9223372036854775807 < t109.size + 1) = False := eq_false (Nat.not_lt.2 c4)
    replace H := Option.bind_eq_some_iff.mp H
    obtain ⟨t110, A50, H⟩ := H
    replace H : (if (t109 ++ (⟨#[58]⟩ : ByteArray)).size + t110.size ≤ 9223372036854775807 then (if ((t109 ++ (⟨#[58]⟩ : ByteArray)) ++ t110).size + 1 ≤ 9223372036854775807 then ((spec_padded.f k a0_5 2).bind fun t111 => (if (((t109 ++ (⟨#[58]⟩ : ByteArray)) ++ t110) ++ (⟨#[58]⟩ : ByteArray)).size + t111.size ≤ 9223372036854775807 then ((spec_padded.f k a0_6 9).bind fun t112 => (spec_TimeText.l0 k a1 ((((t109 ++ (⟨#[58]⟩ : ByteArray)) ++ t110) ++ (⟨#[58]⟩ : ByteArray)) ++ t111) t112 9)) else (none))) else (none)) else (none)) = some r := H
    have A5 := Aside0.mk A50
    clear A50
    by_cases c6 : (t109 ++ (⟨#[58]⟩ : ByteArray)).size + t110.size ≤ 9223372036854775807
    · rw [if_pos c6] at H
      have c6b0 := eq_true c6
      have c6b1 : decide ((t109 ++ (⟨#[58]⟩ : ByteArray)).size + t110.size ≤ 9223372036854775807) = true := decide_eq_true c6
      try have c6b2 : (9223372036854775807 < (t109 ++ (⟨#[58]⟩ : ByteArray)).size + t110.size) = False := eq_false (Nat.not_lt.2 c6)
      try have c6b3 : (9223372036854775807 < t109.size + 1 + t110.size) = False := eq_false (by have h_ := c6; simp only [ByteArray.size_append, show (⟨#[58]⟩ : ByteArray).size = 1 from rfl] at h_; omega)
      by_cases c7 : ((t109 ++ (⟨#[58]⟩ : ByteArray)) ++ t110).size + 1 ≤ 9223372036854775807
      · rw [if_pos c7] at H
        have c7b0 := eq_true c7
        have c7b1 : decide (((t109 ++ (⟨#[58]⟩ : ByteArray)) ++ t110).size + 1 ≤ 9223372036854775807) = true := decide_eq_true c7
        try have c7b2 : (9223372036854775807 < ((t109 ++ (⟨#[58]⟩ : ByteArray)) ++ t110).size + 1) = False := eq_false (Nat.not_lt.2 c7)
        try have c7b3 : (9223372036854775807 < t109.size + 1 + t110.size + 1) = False := eq_false (by have h_ := c7; simp only [ByteArray.size_append, show (⟨#[58]⟩ : ByteArray).size = 1 from rfl] at h_; omega)
        replace H := Option.bind_eq_some_iff.mp H
        obtain ⟨t111, A80, H⟩ := H
        replace H : (if (((t109 ++ (⟨#[58]⟩ : ByteArray)) ++ t110) ++ (⟨#[58]⟩ : ByteArray)).size + t111.size ≤ 9223372036854775807 then ((spec_padded.f k a0_6 9).bind fun t112 => (spec_TimeText.l0 k a1 ((((t109 ++ (⟨#[58]⟩ : ByteArray)) ++ t110) ++ (⟨#[58]⟩ : ByteArray)) ++ t111) t112 9)) else (none)) = some r := H
        have A8 := Aside0.mk A80
        clear A80
        by_cases c9 : (((t109 ++ (⟨#[58]⟩ : ByteArray)) ++ t110) ++ (⟨#[58]⟩ : ByteArray)).size + t111.size ≤ 9223372036854775807
        · rw [if_pos c9] at H
          have c9b0 := eq_true c9
          have c9b1 : decide ((((t109 ++ (⟨#[58]⟩ : ByteArray)) ++ t110) ++ (⟨#[58]⟩ : ByteArray)).size + t111.size ≤ 9223372036854775807) = true := decide_eq_true c9
          try have c9b2 : (9223372036854775807 < (((t109 ++ (⟨#[58]⟩ : ByteArray)) ++ t110) ++ (⟨#[58]⟩ : ByteArray)).size + t111.size) = False := eq_false (Nat.not_lt.2 c9)
          try have c9b3 : (9223372036854775807 < t109.size + 1 + t110.size + 1 + t111.size) = False := eq_false (by have h_ := c9; simp only [ByteArray.size_append, show (⟨#[58]⟩ : ByteArray).size = 1 from rfl] at h_; omega)
          replace H := Option.bind_eq_some_iff.mp H
          obtain ⟨t112, A100, H⟩ := H
          replace H : (spec_TimeText.l0 k a1 ((((t109 ++ (⟨#[58]⟩ : ByteArray)) ++ t110) ++ (⟨#[58]⟩ : ByteArray)) ++ t111) t112 9) = some r := H
          have A10 := Aside0.mk A100
          clear A100
          have H' := Aside0.mk H
          clear H
          go_enter Try.func13, Try.ntmps13
          try go_wp2_with (first | ((with_reducible refine gate_dst (N := 2) rfl ?_); refine box_event ?hg (N := 2) ?hd (cs := #[.int .i64 a0_0, .int .i64 a0_1, .int .i64 a0_2, .int .i64 a0_3, .int .i64 a0_4, .int .i64 a0_5, .int .i64 a0_6, .int .i64 a0_7]) (t := 34) ?hr ?_; (case hd => rfl); (case hg => rfl); (case hr => first | (go_simp; done) | (go_simp; rfl) | (go_simp; simp [IntKind.wrap_u8]; done)); intro gb108 hg w11 hbox hb; have n0_ := Aside0.mk (below_step (by repeat (first | (with_reducible first | exact HB.out | apply below_alloc | apply pw_below_drewN | apply below_drew1) | exact HB.out)) hb); have n1_ := Aside0.mk (hbox); have n2_ := Aside0.mk ((by rw [hg]; exact (below_size (by repeat (first | (with_reducible first | exact HB.out | apply below_alloc | apply pw_below_drewN | apply below_drew1) | exact HB.out))) : w.heap.size ≤ gb108)); have n3_ := Aside0.mk ((by rw [hg]; exact (below_size (by repeat (first | (with_reducible first | exact HB.out | apply below_alloc | apply pw_below_drewN | apply below_drew1) | exact HB.out))) : w.heap.size ≤ gb108)); clear HB; have HB := n0_; have BK108 := n1_; have GW108 := n2_; have GE108 := n3_; clear n0_ n1_ n2_ n3_; clear hb hbox hg))
          have n0_ := Aside0.mk (blk_drew BK108.out)
          have n1_ := Aside0.mk (below_drew1 HB.out)
          clear BK108
          clear HB
          have BK108 := n0_
          have HB := n1_
          clear n0_ n1_
          refine start_ (n := 14) (S := fun w' => w'.cell? ⟨gb108, 0, none⟩ = some (.int .i64 a0_0) ∧ w'.cell? ⟨gb108, 1, none⟩ = some (.int .i64 a0_1) ∧ w'.cell? ⟨gb108, 2, none⟩ = some (.int .i64 a0_2) ∧ w'.cell? ⟨gb108, 3, none⟩ = some (.int .i64 a0_3) ∧ w'.cell? ⟨gb108, 4, none⟩ = some (.int .i64 a0_4) ∧ w'.cell? ⟨gb108, 5, none⟩ = some (.int .i64 a0_5) ∧ w'.cell? ⟨gb108, 6, none⟩ = some (.int .i64 a0_6) ∧ w'.cell? ⟨gb108, 7, none⟩ = some (.int .i64 a0_7)) (ds := []) #[false, false, false, false, false, false, false, false, false, false, false, false, false, false] (by kernel_rfl) rfl rfl ⟨(blk_cell BK108.out 0).trans rfl, (blk_cell BK108.out 1).trans rfl, (blk_cell BK108.out 2).trans rfl, (blk_cell BK108.out 3).trans rfl, (blk_cell BK108.out 4).trans rfl, (blk_cell BK108.out 5).trans rfl, (blk_cell BK108.out 6).trans rfl, (blk_cell BK108.out 7).trans rfl⟩ (fun hHeld => ?_); refine with_tabW spec_TimeText.tab1 spec_TimeText.bits1 (fun HT_ HW_ => ?_)
          generalize w11.drew = w12 at BK108 HB hHeld ⊢
          refine pure_ (i := 0) (N := some 8) (v := ?_) (a' := ?_) #[true, false, false, false, false, false, false, false, false, false, false, false, false, false] rfl rfl (any_of HT_.out (by kernel_rfl)) (fun _ _ _ h => h) (Or.inl ⟨by rfl, ?_⟩) ?_ ?_
          rotate_left
          · intro w'
            go_simp
            with_reducible rfl
          rotate_left
          · simp only [Act.put, List.setIfInBounds_toArray, List.set_cons_zero, List.set_cons_succ, i64_w, i32_w]
            rfl
          refine pure_ (i := 4) (N := some 12) (v := ?_) (a' := ?_) #[true, false, false, false, true, false, false, false, false, false, false, false, false, false] rfl rfl (any_of HT_.out (by kernel_rfl)) (fun _ _ _ h => h) (Or.inl ⟨by rfl, ?_⟩) ?_ ?_
          rotate_left
          · intro w'
            go_simp
            with_reducible rfl
          rotate_left
          · simp only [Act.put, List.setIfInBounds_toArray, List.set_cons_zero, List.set_cons_succ, i64_w, i32_w]
            rfl
          refine pure_ (i := 9) (N := some 17) (v := ?_) (a' := ?_) #[true, false, false, false, true, false, false, false, false, true, false, false, false, false] rfl rfl (any_of HT_.out (by kernel_rfl)) (fun _ _ _ h => h) (Or.inl ⟨by rfl, ?_⟩) ?_ ?_
          rotate_left
          · intro w'
            go_simp
            with_reducible rfl
          rotate_left
          · simp only [Act.put, List.setIfInBounds_toArray, List.set_cons_zero, List.set_cons_succ, i64_w, i32_w]
            rfl
          refine take_ (i := 1) (N := some 9) (v := ?_) (a' := ?_) #[true, true, false, false, true, false, false, false, false, true, false, false, false, false] rfl rfl (take_ofW HT_.out HW_.out (by kernel_rfl)) (fun _ _ _ h => h) (Or.inl ⟨by rfl, ?_⟩) hHeld ?_ ?_
          rotate_left
          · rintro w' ⟨s0, s1, s2, s3, s4, s5, s6, s7⟩
            go_simp
            with_reducible rfl
          rotate_left
          · simp only [Act.put, List.setIfInBounds_toArray, List.set_cons_zero, List.set_cons_succ, i64_w, i32_w]
            rfl
          refine take_ (i := 5) (N := some 13) (v := ?_) (a' := ?_) #[true, true, false, false, true, true, false, false, false, true, false, false, false, false] rfl rfl (take_ofW HT_.out HW_.out (by kernel_rfl)) (fun _ _ _ h => h) (Or.inl ⟨by rfl, ?_⟩) hHeld ?_ ?_
          rotate_left
          · rintro w' ⟨s0, s1, s2, s3, s4, s5, s6, s7⟩
            go_simp
            with_reducible rfl
          rotate_left
          · simp only [Act.put, List.setIfInBounds_toArray, List.set_cons_zero, List.set_cons_succ, i64_w, i32_w]
            rfl
          refine take_ (i := 10) (N := some 18) (v := ?_) (a' := ?_) #[true, true, false, false, true, true, false, false, false, true, true, false, false, false] rfl rfl (take_ofW HT_.out HW_.out (by kernel_rfl)) (fun _ _ _ h => h) (Or.inl ⟨by rfl, ?_⟩) hHeld ?_ ?_
          rotate_left
          · rintro w' ⟨s0, s1, s2, s3, s4, s5, s6, s7⟩
            go_simp
            with_reducible rfl
          rotate_left
          · simp only [Act.put, List.setIfInBounds_toArray, List.set_cons_zero, List.set_cons_succ, i64_w, i32_w]
            rfl
          refine one_ (i := 2) (N := some 10) #[true, true, true, false, true, true, false, false, false, true, true, false, false, false] rfl rfl (one_of HT_.out (by kernel_rfl)) (by decide) (fun K hK => ?_)
          refine goes_ Try.func25 (by kernel_rfl) rfl #[.int .i64 a0_3, .int .i64 2] (by rfl) rfl rfl (by (try simp only [List.map_toArray, List.map_cons, List.map_nil]); first | done | rfl | (simp only [List.length_drop, List.length_take]; rfl)) ?_
          with_reducible refine (spec_padded.calls k a0_3 2 t109 _ A3.out).mono ?_
          rintro e w13 ⟨rfl, hb⟩
          refine ⟨_, rfl, ?_⟩
          have n0_ := Aside0.mk (blk_below (g := gb108) (o := .cells #[.int .i64 a0_0, .int .i64 a0_1, .int .i64 a0_2, .int .i64 a0_3, .int .i64 a0_4, .int .i64 a0_5, .int .i64 a0_6, .int .i64 a0_7] 34 (0, 0)) (by (with_reducible repeat (first | refine blk_drewN ?_ _ | refine blk_drew ?_ | refine blk_alloc ?_ _)); exact BK108.out) hb)
          have n1_ := Aside0.mk (below_step (by repeat (first | (with_reducible first | exact HB.out | apply below_alloc | apply pw_below_drewN | apply below_drew1 | refine below_set ?_ GE108.out) | exact HB.out)) hb)
          clear BK108
          clear HB
          have BK108 := n0_
          have HB := n1_
          clear n0_ n1_
          (try clear hb)
          (try clear hb2)
          (try clear hk)
          (try clear hi)
          refine hK.out _ _ ⟨(blk_cell BK108.out 0).trans rfl, (blk_cell BK108.out 1).trans rfl, (blk_cell BK108.out 2).trans rfl, (blk_cell BK108.out 3).trans rfl, (blk_cell BK108.out 4).trans rfl, (blk_cell BK108.out 5).trans rfl, (blk_cell BK108.out 6).trans rfl, (blk_cell BK108.out 7).trans rfl⟩ (fun hHeld => ?_)
          clear hK K
          refine norm_ (a' := ?_) ?_ ?_
          rotate_left
          · show Act.put _ (some 10) _ = _
            simp only [Act.put, List.setIfInBounds_toArray, List.set_cons_zero, List.set_cons_succ, i64_w, i32_w]
            rfl
          refine pure_ (i := 3) (N := some 11) (v := ?_) (a' := ?_) #[true, true, true, true, true, true, false, false, false, true, true, false, false, false] rfl rfl (any_of HT_.out (by kernel_rfl)) (fun _ _ _ h => h) (Or.inl ⟨by rfl, ?_⟩) ?_ ?_
          rotate_left
          · intro w'
            go_simp
            with_reducible rfl
          rotate_left
          · simp only [Act.put, List.setIfInBounds_toArray, List.set_cons_zero, List.set_cons_succ, i64_w, i32_w]
            rfl
          refine one_ (i := 6) (N := some 14) #[true, true, true, true, true, true, true, false, false, true, true, false, false, false] rfl rfl (one_of HT_.out (by kernel_rfl)) (by decide) (fun K hK => ?_)
          refine goes_ Try.func25 (by kernel_rfl) rfl #[.int .i64 a0_4, .int .i64 2] (by rfl) rfl rfl (by (try simp only [List.map_toArray, List.map_cons, List.map_nil]); first | done | rfl | (simp only [List.length_drop, List.length_take]; rfl)) ?_
          with_reducible refine (spec_padded.calls k a0_4 2 t110 _ A5.out).mono ?_
          rintro e w14 ⟨rfl, hb⟩
          refine ⟨_, rfl, ?_⟩
          have n0_ := Aside0.mk (blk_below (g := gb108) (o := .cells #[.int .i64 a0_0, .int .i64 a0_1, .int .i64 a0_2, .int .i64 a0_3, .int .i64 a0_4, .int .i64 a0_5, .int .i64 a0_6, .int .i64 a0_7] 34 (0, 0)) (by (with_reducible repeat (first | refine blk_drewN ?_ _ | refine blk_drew ?_ | refine blk_alloc ?_ _)); exact BK108.out) hb)
          have n1_ := Aside0.mk (below_step (by repeat (first | (with_reducible first | exact HB.out | apply below_alloc | apply pw_below_drewN | apply below_drew1 | refine below_set ?_ GE108.out) | exact HB.out)) hb)
          clear BK108
          clear HB
          have BK108 := n0_
          have HB := n1_
          clear n0_ n1_
          (try clear hb)
          (try clear hb2)
          (try clear hk)
          (try clear hi)
          refine hK.out _ _ ⟨(blk_cell BK108.out 0).trans rfl, (blk_cell BK108.out 1).trans rfl, (blk_cell BK108.out 2).trans rfl, (blk_cell BK108.out 3).trans rfl, (blk_cell BK108.out 4).trans rfl, (blk_cell BK108.out 5).trans rfl, (blk_cell BK108.out 6).trans rfl, (blk_cell BK108.out 7).trans rfl⟩ (fun hHeld => ?_)
          clear hK K
          refine norm_ (a' := ?_) ?_ ?_
          rotate_left
          · show Act.put _ (some 14) _ = _
            simp only [Act.put, List.setIfInBounds_toArray, List.set_cons_zero, List.set_cons_succ, i64_w, i32_w]
            rfl
          refine pure_ (i := 7) (N := some 15) (v := ?_) (a' := ?_) #[true, true, true, true, true, true, true, true, false, true, true, false, false, false] rfl rfl (any_of HT_.out (by kernel_rfl)) (fun _ _ _ h => h) (Or.inl ⟨by rfl, ?_⟩) ?_ ?_
          rotate_left
          · intro w'
            go_simp
            with_reducible rfl
          rotate_left
          · simp only [Act.put, List.setIfInBounds_toArray, List.set_cons_zero, List.set_cons_succ, i64_w, i32_w]
            rfl
          refine pure_ (i := 8) (N := some 16) (v := ?_) (a' := ?_) #[true, true, true, true, true, true, true, true, true, true, true, false, false, false] rfl rfl (any_of HT_.out (by kernel_rfl)) (fun _ _ _ h => h) (Or.inl ⟨by rfl, ?_⟩) ?_ ?_
          rotate_left
          · intro w'
            go_simp
            with_reducible rfl
          rotate_left
          · simp only [Act.put, List.setIfInBounds_toArray, List.set_cons_zero, List.set_cons_succ, i64_w, i32_w]
            rfl
          refine one_ (i := 11) (N := some 19) #[true, true, true, true, true, true, true, true, true, true, true, true, false, false] rfl rfl (one_of HT_.out (by kernel_rfl)) (by decide) (fun K hK => ?_)
          refine goes_ Try.func25 (by kernel_rfl) rfl #[.int .i64 a0_5, .int .i64 2] (by rfl) rfl rfl (by (try simp only [List.map_toArray, List.map_cons, List.map_nil]); first | done | rfl | (simp only [List.length_drop, List.length_take]; rfl)) ?_
          with_reducible refine (spec_padded.calls k a0_5 2 t111 _ A8.out).mono ?_
          rintro e w15 ⟨rfl, hb⟩
          refine ⟨_, rfl, ?_⟩
          have n0_ := Aside0.mk (blk_below (g := gb108) (o := .cells #[.int .i64 a0_0, .int .i64 a0_1, .int .i64 a0_2, .int .i64 a0_3, .int .i64 a0_4, .int .i64 a0_5, .int .i64 a0_6, .int .i64 a0_7] 34 (0, 0)) (by (with_reducible repeat (first | refine blk_drewN ?_ _ | refine blk_drew ?_ | refine blk_alloc ?_ _)); exact BK108.out) hb)
          have n1_ := Aside0.mk (below_step (by repeat (first | (with_reducible first | exact HB.out | apply below_alloc | apply pw_below_drewN | apply below_drew1 | refine below_set ?_ GE108.out) | exact HB.out)) hb)
          clear BK108
          clear HB
          have BK108 := n0_
          have HB := n1_
          clear n0_ n1_
          (try clear hb)
          (try clear hb2)
          (try clear hk)
          (try clear hi)
          refine hK.out _ _ ⟨(blk_cell BK108.out 0).trans rfl, (blk_cell BK108.out 1).trans rfl, (blk_cell BK108.out 2).trans rfl, (blk_cell BK108.out 3).trans rfl, (blk_cell BK108.out 4).trans rfl, (blk_cell BK108.out 5).trans rfl, (blk_cell BK108.out 6).trans rfl, (blk_cell BK108.out 7).trans rfl⟩ (fun hHeld => ?_)
          clear hK K
          refine norm_ (a' := ?_) ?_ ?_
          rotate_left
          · show Act.put _ (some 19) _ = _
            simp only [Act.put, List.setIfInBounds_toArray, List.set_cons_zero, List.set_cons_succ, i64_w, i32_w]
            rfl
          refine pure_ (i := 12) (N := some 20) (v := ?_) (a' := ?_) #[true, true, true, true, true, true, true, true, true, true, true, true, true, false] rfl rfl (any_of HT_.out (by kernel_rfl)) (fun _ _ _ h => h) (Or.inl ⟨by rfl, ?_⟩) ?_ ?_
          rotate_left
          · intro w'
            go_simp
            with_reducible rfl
          rotate_left
          · simp only [Act.put, List.setIfInBounds_toArray, List.set_cons_zero, List.set_cons_succ, i64_w, i32_w]
            rfl
          refine pure_ (i := 13) (N := some 5) (v := ?_) (a' := ?_) #[true, true, true, true, true, true, true, true, true, true, true, true, true, true] rfl rfl (any_of HT_.out (by kernel_rfl)) (fun _ _ _ h => h) (Or.inl ⟨by rfl, ?_⟩) ?_ ?_
          rotate_left
          · intro w'
            go_simp
            with_reducible rfl
          rotate_left
          · simp only [Act.put, List.setIfInBounds_toArray, List.set_cons_zero, List.set_cons_succ, i64_w, i32_w]
            rfl
          refine done_ (done_of HT_.out (by kernel_rfl)) ?_
          have hcz16_0 : w15.cell? ⟨gb108, 0, none⟩ = some (.int .i64 a0_0) := (blk_cell BK108.out 0).trans rfl
          have hcz16_1 : w15.cell? ⟨gb108, 1, none⟩ = some (.int .i64 a0_1) := (blk_cell BK108.out 1).trans rfl
          have hcz16_2 : w15.cell? ⟨gb108, 2, none⟩ = some (.int .i64 a0_2) := (blk_cell BK108.out 2).trans rfl
          have hcz16_3 : w15.cell? ⟨gb108, 3, none⟩ = some (.int .i64 a0_3) := (blk_cell BK108.out 3).trans rfl
          have hcz16_4 : w15.cell? ⟨gb108, 4, none⟩ = some (.int .i64 a0_4) := (blk_cell BK108.out 4).trans rfl
          have hcz16_5 : w15.cell? ⟨gb108, 5, none⟩ = some (.int .i64 a0_5) := (blk_cell BK108.out 5).trans rfl
          have hcz16_6 : w15.cell? ⟨gb108, 6, none⟩ = some (.int .i64 a0_6) := (blk_cell BK108.out 6).trans rfl
          have hcz16_7 : w15.cell? ⟨gb108, 7, none⟩ = some (.int .i64 a0_7) := (blk_cell BK108.out 7).trans rfl
          have hfz16_0 := blk_frozen BK108.out 0
          have hfz16_1 := blk_frozen BK108.out 1
          have hfz16_2 := blk_frozen BK108.out 2
          have hfz16_3 := blk_frozen BK108.out 3
          have hfz16_4 := blk_frozen BK108.out 4
          have hfz16_5 := blk_frozen BK108.out 5
          have hfz16_6 := blk_frozen BK108.out 6
          have hfz16_7 := blk_frozen BK108.out 7
          try go_wp2_with (first | ((with_reducible refine gate_callee (f := 25) rfl ?_); refine goesL_ (some 23) rfl rfl Try.func25 (by kernel_rfl) rfl #[.int .i64 a0_6, .int .i64 9] rfl (by (try simp only [List.map_toArray, List.map_cons, List.map_nil]); first | done | rfl | (simp only [List.length_drop, List.length_take]; rfl)) ?_; (with_reducible refine (spec_padded.calls k a0_6 9 t112 _ A10.out).mono ?_); rintro e w17 ⟨rfl, hb⟩; refine ⟨_, rfl, ?_⟩; have n0_ := Aside0.mk (blk_below (g := gb108) (o := .cells #[.int .i64 a0_0, .int .i64 a0_1, .int .i64 a0_2, .int .i64 a0_3, .int .i64 a0_4, .int .i64 a0_5, .int .i64 a0_6, .int .i64 a0_7] 34 (0, 0)) (by (with_reducible repeat (first | refine blk_drewN ?_ _ | refine blk_drew ?_ | refine blk_alloc ?_ _)); exact BK108.out) hb); have n1_ := Aside0.mk (below_step (by repeat (first | (with_reducible first | exact HB.out | apply below_alloc | apply pw_below_drewN | apply below_drew1 | refine below_set ?_ GE108.out) | exact HB.out)) hb); clear BK108; clear HB; have BK108 := n0_; have HB := n1_; clear n0_ n1_; (try clear hb); (try clear hb2); (try clear hk); (try clear hi)))
          go_loopg [7] k (fun kq v7 w' => ∃ (x7_1 : Int), v7 = .int .i64 x7_1 ∧ Aside0 (spec_TimeText.l0 kq a1 ((((t109 ++ (⟨#[58]⟩ : ByteArray)) ++ t110) ++ (⟨#[58]⟩ : ByteArray)) ++ t111) t112 x7_1 = some r) ∧ Aside0 (kq ≤ k) ∧ Aside0 (w'.heap[gb108]? = some (.cells #[.int .i64 a0_0, .int .i64 a0_1, .int .i64 a0_2, .int .i64 a0_3, .int .i64 a0_4, .int .i64 a0_5, .int .i64 a0_6, .int .i64 a0_7] 34 (0, 0))) ∧ Aside0 (Below w.heap.size w w'))
          case atStart => exact ⟨(9), (by first | rfl | (simp; done) | (simp [*]; done)), H', ⟨Nat.le_refl _⟩, ⟨by (with_reducible repeat (first | refine blk_drewN ?_ _ | refine blk_drew ?_ | refine blk_alloc ?_ _)); exact BK108.out⟩, ⟨by repeat (first | (with_reducible first | exact HB.out | apply below_alloc | apply pw_below_drewN | apply below_drew1 | refine below_set ?_ GE108.out) | exact HB.out)⟩⟩
          case round =>
            clear H'
            try clear c1
            try clear c2
            try clear p2
            try clear c4
            try clear c4b0
            try clear c4b1
            try clear c4b2
            try clear c6
            try clear c6b0
            try clear c6b1
            try clear c6b2
            try clear c7
            try clear c7b0
            try clear c7b1
            try clear c7b2
            try clear c9
            try clear c9b0
            try clear c9b1
            try clear c9b2
            try clear c13
            try clear hcz16_0
            try clear hcz16_1
            try clear hcz16_2
            try clear hcz16_3
            try clear hcz16_4
            try clear hcz16_5
            try clear hcz16_6
            try clear hcz16_7
            try clear hfz16_0
            try clear hfz16_1
            try clear hfz16_2
            try clear hfz16_3
            try clear hfz16_4
            try clear hfz16_5
            try clear hfz16_6
            try clear hfz16_7
            obtain ⟨x7_1, rfl, HA, HK1, BK108, HB⟩ := hrel
            cases gk with
            | zero => exact absurd HA.out (by simp [spec_TimeText.l0])
            | succ k1 =>
              have H := HA.out
              clear HA
              simp only [spec_TimeText.l0] at H
              by_cases c18 : x7_1 > a1
              · rw [if_pos c18] at H
                have c18b0 : decide (a1 < x7_1) = true := decide_eq_true c18
                clear c18
                obtain ⟨ji19, hji19⟩ : ∃ j_ : Int, (wrap64 (x7_1 - 1)) = j_ := ⟨_, rfl⟩
                replace H : (if 0 ≤ (ji19) then (if (ji19) < (t112.size : Int) then (if (bt t112 (ji19)) = 48 then (spec_TimeText.l0 k1 a1 ((((t109 ++ (⟨#[58]⟩ : ByteArray)) ++ t110) ++ (⟨#[58]⟩ : ByteArray)) ++ t111) t112 ji19) else (if x7_1 > 0 then (if 0 ≤ x7_1 then (if x7_1 ≤ (t112.size : Int) then (if 1 + (t112.extract 0 (x7_1 : Int).toNat).size ≤ 9223372036854775807 then (if ((((t109 ++ (⟨#[58]⟩ : ByteArray)) ++ t110) ++ (⟨#[58]⟩ : ByteArray)) ++ t111).size + ((⟨#[46]⟩ : ByteArray) ++ (t112.extract 0 (x7_1 : Int).toNat)).size ≤ 9223372036854775807 then (some (((((t109 ++ (⟨#[58]⟩ : ByteArray)) ++ t110) ++ (⟨#[58]⟩ : ByteArray)) ++ t111) ++ ((⟨#[46]⟩ : ByteArray) ++ (t112.extract 0 (x7_1 : Int).toNat)))) else (none)) else (none)) else (none)) else (none)) else (some ((((t109 ++ (⟨#[58]⟩ : ByteArray)) ++ t110) ++ (⟨#[58]⟩ : ByteArray)) ++ t111)))) else (none)) else (none)) = some r := by first | (rw [hji19] at H; exact H) | (simp only [hji19] at H ⊢; exact H)
                have hji19w : (IntKind.i64.wrap (x7_1 - 1)) = ji19 := (i64_w _).trans hji19
                by_cases c20 : 0 ≤ (ji19)
                · rw [if_pos c20] at H
                  have c20b0 : decide (0 ≤ (ji19)) = true := decide_eq_true c20
                  clear c20
                  by_cases c21 : (ji19) < (t112.size : Int)
                  · rw [if_pos c21] at H
                    have c21b0 : decide ((ji19) < (t112.size : Int)) = true := decide_eq_true c21
                    clear c21
                    by_cases c23 : (bt t112 (ji19)) = 48
                    · rw [if_pos c23] at H
                      have c23b0 : ((bt t112 (ji19)) == 48) = true := beq_iff_eq.mpr c23
                      have c23b1 : ((bt t112 (ji19)) != 48) = false := bne_eq_false_iff_eq.mpr c23
                      clear c23
                      have H' := Aside0.mk H
                      clear H
                      have p22 : 0 ≤ ((ji19) : Int) := of_decide_eq_true (by first | (with_reducible assumption) | assumption)
                      have q22 : (ji19) < (t112.size : Int) := of_decide_eq_true (by first | (with_reducible assumption) | assumption)
                      have hx22 := bt_at t112 (ji19)
                      replace p22 := eq_true p22
                      replace q22 := eq_true q22
                      go_wp2
                      go_roundg k1
                      case measure => have := HK1.out; omega
                      case rel => exact ⟨(ji19), (by first | rfl | (simp; done) | (simp only [← hji19] <;> (first | rfl | simp)) | (simp [*]; done)), H', ⟨by have := HK1.out; omega⟩, ⟨by (with_reducible repeat (first | refine blk_drewN ?_ _ | refine blk_drew ?_ | refine blk_alloc ?_ _)); exact BK108.out⟩, ⟨by repeat (first | (with_reducible first | exact HB.out | apply below_alloc | apply pw_below_drewN | apply below_drew1 | refine below_set ?_ GE108.out) | exact HB.out)⟩⟩
                    · rw [if_neg c23] at H
                      have c23b0 : ((bt t112 (ji19)) == 48) = false := beq_eq_false_iff_ne.mpr c23
                      have c23b1 : ((bt t112 (ji19)) != 48) = true := bne_iff_ne.mpr c23
                      by_cases c24 : x7_1 > 0
                      · rw [if_pos c24] at H
                        have c24b0 : decide (0 < x7_1) = true := decide_eq_true c24
                        clear c24
                        by_cases c25 : 0 ≤ x7_1
                        · rw [if_pos c25] at H
                          have c25b0 := eq_true c25
                          have c25b1 : decide (0 ≤ x7_1) = true := decide_eq_true c25
                          clear c25
                          by_cases c26 : x7_1 ≤ (t112.size : Int)
                          · rw [if_pos c26] at H
                            have c26b0 := eq_true c26
                            have c26b1 : decide (x7_1 ≤ (t112.size : Int)) = true := decide_eq_true c26
                            clear c26
                            by_cases c27 : 1 + (t112.extract 0 (x7_1 : Int).toNat).size ≤ 9223372036854775807
                            · rw [if_pos c27] at H
                              have c27b0 := eq_true c27
                              have c27b1 : decide (1 + (t112.extract 0 (x7_1 : Int).toNat).size ≤ 9223372036854775807) = true := decide_eq_true c27
                              try have c27b2 : (9223372036854775807 < 1 + (t112.extract 0 (x7_1 : Int).toNat).size) = False := eq_false (Nat.not_lt.2 c27)
                              have c27b4 : (9223372036854775807 < 1 + x7_1.toNat) = False := eq_false (by have h_ := c27; have h2_ := of_decide_eq_true c26b1; have h3_ := of_decide_eq_true c25b1; simp only [ByteArray.size_extract] at h_; omega)
                              by_cases c28 : ((((t109 ++ (⟨#[58]⟩ : ByteArray)) ++ t110) ++ (⟨#[58]⟩ : ByteArray)) ++ t111).size + ((⟨#[46]⟩ : ByteArray) ++ (t112.extract 0 (x7_1 : Int).toNat)).size ≤ 9223372036854775807
                              · rw [if_pos c28] at H
                                have c28b0 := eq_true c28
                                have c28b1 : decide (((((t109 ++ (⟨#[58]⟩ : ByteArray)) ++ t110) ++ (⟨#[58]⟩ : ByteArray)) ++ t111).size + ((⟨#[46]⟩ : ByteArray) ++ (t112.extract 0 (x7_1 : Int).toNat)).size ≤ 9223372036854775807) = true := decide_eq_true c28
                                try have c28b2 : (9223372036854775807 < ((((t109 ++ (⟨#[58]⟩ : ByteArray)) ++ t110) ++ (⟨#[58]⟩ : ByteArray)) ++ t111).size + ((⟨#[46]⟩ : ByteArray) ++ (t112.extract 0 (x7_1 : Int).toNat)).size) = False := eq_false (Nat.not_lt.2 c28)
                                try have c28b3 : (9223372036854775807 < t109.size + 1 + t110.size + 1 + t111.size + (1 + (t112.extract 0 (x7_1 : Int).toNat).size)) = False := eq_false (by have h_ := c28; simp only [ByteArray.size_append, show (⟨#[46]⟩ : ByteArray).size = 1 from rfl, show (⟨#[58]⟩ : ByteArray).size = 1 from rfl] at h_; omega)
                                obtain rfl := Option.some.inj H
                                have p22 : 0 ≤ ((ji19) : Int) := of_decide_eq_true (by first | (with_reducible assumption) | assumption)
                                have q22 : (ji19) < (t112.size : Int) := of_decide_eq_true (by first | (with_reducible assumption) | assumption)
                                have hx22 := bt_at t112 (ji19)
                                replace p22 := eq_true p22
                                replace q22 := eq_true q22
                                go_wp2
                                go_ret
                                exact ⟨by first | rfl | (simp [errW_none, errW_some] <;> rfl) | (simp only [← hji19]; first | rfl | (simp [errW_none, errW_some] <;> rfl)) | (simp [*, errW_none, errW_some] <;> rfl), by repeat (first | (with_reducible first | exact HB.out | apply below_alloc | apply pw_below_drewN | apply below_drew1 | refine below_set ?_ GE108.out) | exact HB.out)⟩
                              · rw [if_neg c28] at H
                                exact absurd H (by simp)
                            · rw [if_neg c27] at H
                              exact absurd H (by simp)
                          · rw [if_neg c26] at H
                            exact absurd H (by simp)
                        · rw [if_neg c25] at H
                          exact absurd H (by simp)
                      · rw [if_neg c24] at H
                        have c24b0 : decide (0 < x7_1) = false := decide_eq_false c24
                        clear c24
                        obtain rfl := Option.some.inj H
                        have p22 : 0 ≤ ((ji19) : Int) := of_decide_eq_true (by first | (with_reducible assumption) | assumption)
                        have q22 : (ji19) < (t112.size : Int) := of_decide_eq_true (by first | (with_reducible assumption) | assumption)
                        have hx22 := bt_at t112 (ji19)
                        replace p22 := eq_true p22
                        replace q22 := eq_true q22
                        go_wp2
                        go_ret
                        exact ⟨by first | rfl | (simp [errW_none, errW_some] <;> rfl) | (simp only [← hji19]; first | rfl | (simp [errW_none, errW_some] <;> rfl)) | (simp [*, errW_none, errW_some] <;> rfl), by repeat (first | (with_reducible first | exact HB.out | apply below_alloc | apply pw_below_drewN | apply below_drew1 | refine below_set ?_ GE108.out) | exact HB.out)⟩
                  · rw [if_neg c21] at H
                    exact absurd H (by simp)
                · rw [if_neg c20] at H
                  exact absurd H (by simp)
              · rw [if_neg c18] at H
                have c18b0 : decide (a1 < x7_1) = false := decide_eq_false c18
                clear c18
                by_cases c29 : x7_1 > 0
                · rw [if_pos c29] at H
                  have c29b0 : decide (0 < x7_1) = true := decide_eq_true c29
                  clear c29
                  by_cases c30 : 0 ≤ x7_1
                  · rw [if_pos c30] at H
                    have c30b0 := eq_true c30
                    have c30b1 : decide (0 ≤ x7_1) = true := decide_eq_true c30
                    clear c30
                    by_cases c31 : x7_1 ≤ (t112.size : Int)
                    · rw [if_pos c31] at H
                      have c31b0 := eq_true c31
                      have c31b1 : decide (x7_1 ≤ (t112.size : Int)) = true := decide_eq_true c31
                      clear c31
                      by_cases c32 : 1 + (t112.extract 0 (x7_1 : Int).toNat).size ≤ 9223372036854775807
                      · rw [if_pos c32] at H
                        have c32b0 := eq_true c32
                        have c32b1 : decide (1 + (t112.extract 0 (x7_1 : Int).toNat).size ≤ 9223372036854775807) = true := decide_eq_true c32
                        try have c32b2 : (9223372036854775807 < 1 + (t112.extract 0 (x7_1 : Int).toNat).size) = False := eq_false (Nat.not_lt.2 c32)
                        have c32b4 : (9223372036854775807 < 1 + x7_1.toNat) = False := eq_false (by have h_ := c32; have h2_ := of_decide_eq_true c31b1; have h3_ := of_decide_eq_true c30b1; simp only [ByteArray.size_extract] at h_; omega)
                        by_cases c33 : ((((t109 ++ (⟨#[58]⟩ : ByteArray)) ++ t110) ++ (⟨#[58]⟩ : ByteArray)) ++ t111).size + ((⟨#[46]⟩ : ByteArray) ++ (t112.extract 0 (x7_1 : Int).toNat)).size ≤ 9223372036854775807
                        · rw [if_pos c33] at H
                          have c33b0 := eq_true c33
                          have c33b1 : decide (((((t109 ++ (⟨#[58]⟩ : ByteArray)) ++ t110) ++ (⟨#[58]⟩ : ByteArray)) ++ t111).size + ((⟨#[46]⟩ : ByteArray) ++ (t112.extract 0 (x7_1 : Int).toNat)).size ≤ 9223372036854775807) = true := decide_eq_true c33
                          try have c33b2 : (9223372036854775807 < ((((t109 ++ (⟨#[58]⟩ : ByteArray)) ++ t110) ++ (⟨#[58]⟩ : ByteArray)) ++ t111).size + ((⟨#[46]⟩ : ByteArray) ++ (t112.extract 0 (x7_1 : Int).toNat)).size) = False := eq_false (Nat.not_lt.2 c33)
                          try have c33b3 : (9223372036854775807 < t109.size + 1 + t110.size + 1 + t111.size + (1 + (t112.extract 0 (x7_1 : Int).toNat).size)) = False := eq_false (by have h_ := c33; simp only [ByteArray.size_append, show (⟨#[46]⟩ : ByteArray).size = 1 from rfl, show (⟨#[58]⟩ : ByteArray).size = 1 from rfl] at h_; omega)
                          obtain rfl := Option.some.inj H
                          go_wp2
                          go_ret
                          exact ⟨by first | rfl | (simp [errW_none, errW_some] <;> rfl) | (simp [*, errW_none, errW_some] <;> rfl), by repeat (first | (with_reducible first | exact HB.out | apply below_alloc | apply pw_below_drewN | apply below_drew1 | refine below_set ?_ GE108.out) | exact HB.out)⟩
                        · rw [if_neg c33] at H
                          exact absurd H (by simp)
                      · rw [if_neg c32] at H
                        exact absurd H (by simp)
                    · rw [if_neg c31] at H
                      exact absurd H (by simp)
                  · rw [if_neg c30] at H
                    exact absurd H (by simp)
                · rw [if_neg c29] at H
                  have c29b0 : decide (0 < x7_1) = false := decide_eq_false c29
                  clear c29
                  obtain rfl := Option.some.inj H
                  go_wp2
                  go_ret
                  exact ⟨by first | rfl | (simp [errW_none, errW_some] <;> rfl) | (simp [*, errW_none, errW_some] <;> rfl), by repeat (first | (with_reducible first | exact HB.out | apply below_alloc | apply pw_below_drewN | apply below_drew1 | refine below_set ?_ GE108.out) | exact HB.out)⟩
        · rw [if_neg c9] at H
          exact absurd H (by simp)
      · rw [if_neg c7] at H
        exact absurd H (by simp)
    · rw [if_neg c6] at H
      exact absurd H (by simp)
  · rw [if_neg c4] at H
    exact absurd H (by simp)

/-! ### spec_ZoneText: function 14 -/
mutual
def spec_ZoneText.j0 : Nat → Int → Int → ByteArray → Option (ByteArray)
  | 0, _, _, _ => none
  | k + 1, x0, x1, x5 => (spec_padded.f k (wrap64 (Int.tdiv x0 3600)) 2).bind fun t113 => (if x5.size + t113.size ≤ 9223372036854775807 then (if (Int.tmod x0 3600) > 0 then (spec_ZoneText.j1 k x0 x1 (x5 ++ t113) true) else (spec_ZoneText.j1 k x0 x1 (x5 ++ t113) (decide (x1 > 1)))) else (none))
def spec_ZoneText.j1 : Nat → Int → Int → ByteArray → Bool → Option (ByteArray)
  | 0, _, _, _, _ => none
  | k + 1, x0, x1, x5, x21 => if x21 = true then ((spec_padded.f k (Int.tmod (wrap64 (Int.tdiv x0 60)) 60) 2).bind fun t114 => (if 1 + t114.size ≤ 9223372036854775807 then (if x5.size + ((⟨#[58]⟩ : ByteArray) ++ t114).size ≤ 9223372036854775807 then (if (Int.tmod x0 60) > 0 then ((spec_padded.f k (Int.tmod x0 60) 2).bind fun t115 => (if 1 + t115.size ≤ 9223372036854775807 then (if (x5 ++ ((⟨#[58]⟩ : ByteArray) ++ t114)).size + ((⟨#[58]⟩ : ByteArray) ++ t115).size ≤ 9223372036854775807 then (some ((x5 ++ ((⟨#[58]⟩ : ByteArray) ++ t114)) ++ ((⟨#[58]⟩ : ByteArray) ++ t115))) else (none)) else (none))) else (if x1 > 2 then ((spec_padded.f k (Int.tmod x0 60) 2).bind fun t116 => (if 1 + t116.size ≤ 9223372036854775807 then (if (x5 ++ ((⟨#[58]⟩ : ByteArray) ++ t114)).size + ((⟨#[58]⟩ : ByteArray) ++ t116).size ≤ 9223372036854775807 then (some ((x5 ++ ((⟨#[58]⟩ : ByteArray) ++ t114)) ++ ((⟨#[58]⟩ : ByteArray) ++ t116))) else (none)) else (none))) else (some (x5 ++ ((⟨#[58]⟩ : ByteArray) ++ t114))))) else (none)) else (none))) else (if (Int.tmod x0 60) > 0 then ((spec_padded.f k (Int.tmod x0 60) 2).bind fun t117 => (if 1 + t117.size ≤ 9223372036854775807 then (if x5.size + ((⟨#[58]⟩ : ByteArray) ++ t117).size ≤ 9223372036854775807 then (some (x5 ++ ((⟨#[58]⟩ : ByteArray) ++ t117))) else (none)) else (none))) else (if x1 > 2 then ((spec_padded.f k (Int.tmod x0 60) 2).bind fun t118 => (if 1 + t118.size ≤ 9223372036854775807 then (if x5.size + ((⟨#[58]⟩ : ByteArray) ++ t118).size ≤ 9223372036854775807 then (some (x5 ++ ((⟨#[58]⟩ : ByteArray) ++ t118))) else (none)) else (none))) else (some x5)))
end
def spec_ZoneText.f (k : Nat) (a0 : Int) (a1 : Int) : Option (ByteArray) := if a0 < 0 then (spec_ZoneText.j0 k (wrap64 (-a0)) a1 (⟨#[45]⟩ : ByteArray)) else (spec_ZoneText.j0 k a0 a1 (⟨#[43]⟩ : ByteArray))
theorem spec_ZoneText.mono_l : ∀ k, (∀ y0 y1 y2, LeO (spec_ZoneText.j0 k y0 y1 y2) (spec_ZoneText.j0 (k + 1) y0 y1 y2)) ∧ (∀ y0 y1 y2 y3, LeO (spec_ZoneText.j1 k y0 y1 y2 y3) (spec_ZoneText.j1 (k + 1) y0 y1 y2 y3))
  | 0 => ⟨fun _ _ _ r h => by simp [spec_ZoneText.j0] at h, fun _ _ _ _ r h => by simp [spec_ZoneText.j1] at h⟩
  | k + 1 => by
    obtain ⟨ih0, ih1⟩ := spec_ZoneText.mono_l k
    refine ⟨?_, ?_⟩
    · intro y0 y1 y2
      unfold spec_ZoneText.j0
      repeat' first
      | (with_reducible exact ih0 _ _ _)
      | (with_reducible exact ih1 _ _ _ _)
      | (with_reducible exact spec_padded.mono _ _ _)
      | (with_reducible exact LeO.refl _)
      | (with_reducible exact LeO.none _)
      | (with_reducible refine LeO.ite ?_ ?_)
      | (with_reducible refine LeO.bind ?_ (fun _ => ?_))
      | exact ih0 _ _ _
      | exact ih1 _ _ _ _
      | exact spec_padded.mono _ _ _
      | exact LeO.none _
      | refine LeO.ite ?_ ?_
      | refine LeO.bind ?_ (fun _ => ?_)
    · intro y0 y1 y2 y3
      unfold spec_ZoneText.j1
      repeat' first
      | (with_reducible exact ih0 _ _ _)
      | (with_reducible exact ih1 _ _ _ _)
      | (with_reducible exact spec_padded.mono _ _ _)
      | (with_reducible exact LeO.refl _)
      | (with_reducible exact LeO.none _)
      | (with_reducible refine LeO.ite ?_ ?_)
      | (with_reducible refine LeO.bind ?_ (fun _ => ?_))
      | exact ih0 _ _ _
      | exact ih1 _ _ _ _
      | exact spec_padded.mono _ _ _
      | exact LeO.none _
      | refine LeO.ite ?_ ?_
      | refine LeO.bind ?_ (fun _ => ?_)
theorem spec_ZoneText.mono : ∀ a0 a1 k, LeO (spec_ZoneText.f k a0 a1) (spec_ZoneText.f (k + 1) a0 a1) := by
  intro a0 a1 k
  obtain ⟨ih0, ih1⟩ := spec_ZoneText.mono_l k
  unfold spec_ZoneText.f
  repeat' first
      | (with_reducible exact ih0 _ _ _)
      | (with_reducible exact ih1 _ _ _ _)
      | (with_reducible exact spec_padded.mono _ _ _)
      | (with_reducible exact LeO.refl _)
      | (with_reducible exact LeO.none _)
      | (with_reducible refine LeO.ite ?_ ?_)
      | (with_reducible refine LeO.bind ?_ (fun _ => ?_))
      | exact ih0 _ _ _
      | exact ih1 _ _ _ _
      | exact spec_padded.mono _ _ _
      | exact LeO.none _
      | refine LeO.ite ?_ ?_
      | refine LeO.bind ?_ (fun _ => ?_)
set_option maxHeartbeats 8000000 in
set_option maxRecDepth 100000 in
theorem spec_ZoneText.calls (k : Nat) (a0 : Int) (a1 : Int) (r : ByteArray) (w : World) (h : spec_ZoneText.f k a0 a1 = some r) :
    Calls Try.prog 14 #[.int .i64 a0, .int .i64 a1] w fun e w' => e = .returned (.string r) ∧ Below w.heap.size w w' := by
  have HB := Aside0.mk (Below.refl w.heap.size w)
  have H : (if a0 < 0 then (spec_ZoneText.j0 k (wrap64 (-a0)) a1 (⟨#[45]⟩ : ByteArray)) else (spec_ZoneText.j0 k a0 a1 (⟨#[43]⟩ : ByteArray))) = some r := h
  clear h
  have HC3 := Aside0.mk H
  clear H
  go_enter Try.func14, Try.ntmps14
  go_upto_if 7 with (fail)
  go_cut [0, 5] (fun v0 v5 wc => ∃ (kq : Nat) (x0_2 : Int) (x5_2 : ByteArray), v0 = .int .i64 x0_2 ∧ v5 = .string x5_2 ∧ Aside0 (spec_ZoneText.j0 kq x0_2 a1 x5_2 = some r) ∧ Aside0 (kq ≤ k) ∧ Aside0 (Below w.heap.size w wc))
  case first =>
    have H := HC3.out
    clear HC3
    by_cases c4 : a0 < 0
    · rw [if_pos c4] at H
      have c4b0 : decide (a0 < 0) = true := decide_eq_true c4
      clear c4
      (first | rw [c4b0] | (simp only [i64_w, i32_w]; rw [c4b0]) | skip)
      have H' := Aside0.mk H
      clear H
      go_wp2
      go_meet
      case rel => exact ⟨_, (wrap64 (-a0)), ((⟨#[45]⟩ : ByteArray)), (by first | rfl | (simp; done) | (simp [*]; done)), (by first | rfl | (simp; done) | (simp [*]; done)), H', ⟨by first | omega | exact Nat.le_refl _⟩, ⟨by repeat (first | (with_reducible first | exact HB.out | apply below_alloc | apply pw_below_drewN | apply below_drew1) | exact HB.out)⟩⟩
    · rw [if_neg c4] at H
      have c4b0 : decide (a0 < 0) = false := decide_eq_false c4
      clear c4
      (first | rw [c4b0] | (simp only [i64_w, i32_w]; rw [c4b0]) | skip)
      have H' := Aside0.mk H
      clear H
      go_wp2
      go_meet
      case rel => exact ⟨_, (a0), ((⟨#[43]⟩ : ByteArray)), (by first | rfl | (simp; done) | (simp [*]; done)), (by first | rfl | (simp; done) | (simp [*]; done)), H', ⟨by first | omega | exact Nat.le_refl _⟩, ⟨by repeat (first | (with_reducible first | exact HB.out | apply below_alloc | apply pw_below_drewN | apply below_drew1) | exact HB.out)⟩⟩
  case rest =>
    clear HC3
    try clear c1
    try clear p2
    try clear c4
    try clear c4b0
    obtain ⟨kq, x0_2, x5_2, rfl, rfl, HA, HJ2, HB⟩ := hcut
    cases kq with
    | zero => exact absurd HA.out (by simp [spec_ZoneText.j0])
    | succ kj2 =>
      have H := HA.out
      clear HA
      simp only [spec_ZoneText.j0] at H
      replace H := Option.bind_eq_some_iff.mp H
      obtain ⟨t113, A50, H⟩ := H
      replace H : (if x5_2.size + t113.size ≤ 9223372036854775807 then (if (Int.tmod x0_2 3600) > 0 then (spec_ZoneText.j1 kj2 x0_2 a1 (x5_2 ++ t113) true) else (spec_ZoneText.j1 kj2 x0_2 a1 (x5_2 ++ t113) (decide (a1 > 1)))) else (none)) = some r := H
      have A5 := Aside0.mk A50
      clear A50
      by_cases c6 : x5_2.size + t113.size ≤ 9223372036854775807
      · rw [if_pos c6] at H
        have c6b0 := eq_true c6
        have c6b1 : decide (x5_2.size + t113.size ≤ 9223372036854775807) = true := decide_eq_true c6
        try have c6b2 : (9223372036854775807 < x5_2.size + t113.size) = False := eq_false (Nat.not_lt.2 c6)
        have HC7 := Aside0.mk H
        clear H
        go_upto_region 5 with (first | ((with_reducible refine gate_callee (f := 25) rfl ?_); refine goesL_ (some 13) rfl rfl Try.func25 (by kernel_rfl) rfl #[.int .i64 (wrap64 (Int.tdiv x0_2 3600)), .int .i64 2] rfl (by (try simp only [List.map_toArray, List.map_cons, List.map_nil]); first | done | rfl | (simp only [List.length_drop, List.length_take]; rfl)) ?_; (with_reducible refine (spec_padded.calls kj2 (wrap64 (Int.tdiv x0_2 3600)) 2 t113 _ A5.out).mono ?_); rintro e w8 ⟨rfl, hb⟩; refine ⟨_, rfl, ?_⟩; have n0_ := Aside0.mk (below_step (by repeat (first | (with_reducible first | exact HB.out | apply below_alloc | apply pw_below_drewN | apply below_drew1) | exact HB.out)) hb); clear HB; have HB := n0_; clear n0_; (try clear hb); (try clear hb2); (try clear hk); (try clear hi)))
        (try simp only [Act.put, List.setIfInBounds_toArray, List.set_cons_zero, List.set_cons_succ])
        go_cut [21] (fun v21 wc => ∃ (kq : Nat) (x21_6 : Bool), v21 = .bool x21_6 ∧ Aside0 (spec_ZoneText.j1 kq x0_2 a1 (x5_2 ++ t113) x21_6 = some r) ∧ Aside0 (kq ≤ kj2) ∧ Aside0 (Below w.heap.size w wc))
        case first =>
          have H := HC7.out
          clear HC7
          by_cases c9 : (Int.tmod x0_2 3600) > 0
          · rw [if_pos c9] at H
            have c9b0 : decide (0 < (Int.tmod x0_2 3600)) = true := decide_eq_true c9
            clear c9
            (first | rw [c9b0] | (simp only [i64_w, i32_w]; rw [c9b0]) | skip)
            have H' := Aside0.mk H
            clear H
            go_wp2
            go_meet
            case rel => exact ⟨_, (true), (by first | rfl | (simp; done) | (simp [*]; done)), H', ⟨by have := HJ2.out; first | omega | exact Nat.le_refl _⟩, ⟨by repeat (first | (with_reducible first | exact HB.out | apply below_alloc | apply pw_below_drewN | apply below_drew1) | exact HB.out)⟩⟩
          · rw [if_neg c9] at H
            have c9b0 : decide (0 < (Int.tmod x0_2 3600)) = false := decide_eq_false c9
            clear c9
            (first | rw [c9b0] | (simp only [i64_w, i32_w]; rw [c9b0]) | skip)
            have H' := Aside0.mk H
            clear H
            go_wp2
            go_meet
            case rel => exact ⟨_, (decide (a1 > 1)), (by first | rfl | (simp; done) | (simp [*]; done)), H', ⟨by have := HJ2.out; first | omega | exact Nat.le_refl _⟩, ⟨by repeat (first | (with_reducible first | exact HB.out | apply below_alloc | apply pw_below_drewN | apply below_drew1) | exact HB.out)⟩⟩
        case rest =>
          clear HC7
          try clear c1
          try clear c2
          try clear p2
          try clear c4
          try clear c4b0
          try clear c6
          try clear c6b0
          try clear c6b1
          try clear c6b2
          try clear p6
          try clear c9
          try clear c9b0
          try clear p2
          obtain ⟨kq, x21_6, rfl, HA, HJ6, HB⟩ := hcut
          cases kq with
          | zero => exact absurd HA.out (by simp [spec_ZoneText.j1])
          | succ kj6 =>
            have H := HA.out
            clear HA
            simp only [spec_ZoneText.j1] at H
            by_cases c10 : x21_6 = true
            · subst c10
              have H1 : ((spec_padded.f kj6 (Int.tmod (wrap64 (Int.tdiv x0_2 60)) 60) 2).bind fun t114 => (if 1 + t114.size ≤ 9223372036854775807 then (if (x5_2 ++ t113).size + ((⟨#[58]⟩ : ByteArray) ++ t114).size ≤ 9223372036854775807 then (if (Int.tmod x0_2 60) > 0 then ((spec_padded.f kj6 (Int.tmod x0_2 60) 2).bind fun t115 => (if 1 + t115.size ≤ 9223372036854775807 then (if ((x5_2 ++ t113) ++ ((⟨#[58]⟩ : ByteArray) ++ t114)).size + ((⟨#[58]⟩ : ByteArray) ++ t115).size ≤ 9223372036854775807 then (some (((x5_2 ++ t113) ++ ((⟨#[58]⟩ : ByteArray) ++ t114)) ++ ((⟨#[58]⟩ : ByteArray) ++ t115))) else (none)) else (none))) else (if a1 > 2 then ((spec_padded.f kj6 (Int.tmod x0_2 60) 2).bind fun t116 => (if 1 + t116.size ≤ 9223372036854775807 then (if ((x5_2 ++ t113) ++ ((⟨#[58]⟩ : ByteArray) ++ t114)).size + ((⟨#[58]⟩ : ByteArray) ++ t116).size ≤ 9223372036854775807 then (some (((x5_2 ++ t113) ++ ((⟨#[58]⟩ : ByteArray) ++ t114)) ++ ((⟨#[58]⟩ : ByteArray) ++ t116))) else (none)) else (none))) else (some ((x5_2 ++ t113) ++ ((⟨#[58]⟩ : ByteArray) ++ t114))))) else (none)) else (none))) = some r := by rw [if_pos rfl] at H; exact H
              clear H
              have H := H1
              clear H1
              replace H := Option.bind_eq_some_iff.mp H
              obtain ⟨t114, A110, H⟩ := H
              replace H : (if 1 + t114.size ≤ 9223372036854775807 then (if (x5_2 ++ t113).size + ((⟨#[58]⟩ : ByteArray) ++ t114).size ≤ 9223372036854775807 then (if (Int.tmod x0_2 60) > 0 then ((spec_padded.f kj6 (Int.tmod x0_2 60) 2).bind fun t115 => (if 1 + t115.size ≤ 9223372036854775807 then (if ((x5_2 ++ t113) ++ ((⟨#[58]⟩ : ByteArray) ++ t114)).size + ((⟨#[58]⟩ : ByteArray) ++ t115).size ≤ 9223372036854775807 then (some (((x5_2 ++ t113) ++ ((⟨#[58]⟩ : ByteArray) ++ t114)) ++ ((⟨#[58]⟩ : ByteArray) ++ t115))) else (none)) else (none))) else (if a1 > 2 then ((spec_padded.f kj6 (Int.tmod x0_2 60) 2).bind fun t116 => (if 1 + t116.size ≤ 9223372036854775807 then (if ((x5_2 ++ t113) ++ ((⟨#[58]⟩ : ByteArray) ++ t114)).size + ((⟨#[58]⟩ : ByteArray) ++ t116).size ≤ 9223372036854775807 then (some (((x5_2 ++ t113) ++ ((⟨#[58]⟩ : ByteArray) ++ t114)) ++ ((⟨#[58]⟩ : ByteArray) ++ t116))) else (none)) else (none))) else (some ((x5_2 ++ t113) ++ ((⟨#[58]⟩ : ByteArray) ++ t114))))) else (none)) else (none)) = some r := H
              have A11 := Aside0.mk A110
              clear A110
              by_cases c12 : 1 + t114.size ≤ 9223372036854775807
              · rw [if_pos c12] at H
                have c12b0 := eq_true c12
                have c12b1 : decide (1 + t114.size ≤ 9223372036854775807) = true := decide_eq_true c12
                try have c12b2 : (9223372036854775807 < 1 + t114.size) = False := eq_false (Nat.not_lt.2 c12)
                by_cases c13 : (x5_2 ++ t113).size + ((⟨#[58]⟩ : ByteArray) ++ t114).size ≤ 9223372036854775807
                · rw [if_pos c13] at H
                  have c13b0 := eq_true c13
                  have c13b1 : decide ((x5_2 ++ t113).size + ((⟨#[58]⟩ : ByteArray) ++ t114).size ≤ 9223372036854775807) = true := decide_eq_true c13
                  try have c13b2 : (9223372036854775807 < (x5_2 ++ t113).size + ((⟨#[58]⟩ : ByteArray) ++ t114).size) = False := eq_false (Nat.not_lt.2 c13)
                  try have c13b3 : (9223372036854775807 < x5_2.size + t113.size + (1 + t114.size)) = False := eq_false (by have h_ := c13; simp only [ByteArray.size_append, show (⟨#[58]⟩ : ByteArray).size = 1 from rfl] at h_; omega)
                  by_cases c14 : (Int.tmod x0_2 60) > 0
                  · rw [if_pos c14] at H
                    have c14b0 : decide (0 < (Int.tmod x0_2 60)) = true := decide_eq_true c14
                    clear c14
                    replace H := Option.bind_eq_some_iff.mp H
                    obtain ⟨t115, A150, H⟩ := H
                    replace H : (if 1 + t115.size ≤ 9223372036854775807 then (if ((x5_2 ++ t113) ++ ((⟨#[58]⟩ : ByteArray) ++ t114)).size + ((⟨#[58]⟩ : ByteArray) ++ t115).size ≤ 9223372036854775807 then (some (((x5_2 ++ t113) ++ ((⟨#[58]⟩ : ByteArray) ++ t114)) ++ ((⟨#[58]⟩ : ByteArray) ++ t115))) else (none)) else (none)) = some r := H
                    have A15 := Aside0.mk A150
                    clear A150
                    by_cases c16 : 1 + t115.size ≤ 9223372036854775807
                    · rw [if_pos c16] at H
                      have c16b0 := eq_true c16
                      have c16b1 : decide (1 + t115.size ≤ 9223372036854775807) = true := decide_eq_true c16
                      try have c16b2 : (9223372036854775807 < 1 + t115.size) = False := eq_false (Nat.not_lt.2 c16)
                      by_cases c17 : ((x5_2 ++ t113) ++ ((⟨#[58]⟩ : ByteArray) ++ t114)).size + ((⟨#[58]⟩ : ByteArray) ++ t115).size ≤ 9223372036854775807
                      · rw [if_pos c17] at H
                        have c17b0 := eq_true c17
                        have c17b1 : decide (((x5_2 ++ t113) ++ ((⟨#[58]⟩ : ByteArray) ++ t114)).size + ((⟨#[58]⟩ : ByteArray) ++ t115).size ≤ 9223372036854775807) = true := decide_eq_true c17
                        try have c17b2 : (9223372036854775807 < ((x5_2 ++ t113) ++ ((⟨#[58]⟩ : ByteArray) ++ t114)).size + ((⟨#[58]⟩ : ByteArray) ++ t115).size) = False := eq_false (Nat.not_lt.2 c17)
                        try have c17b3 : (9223372036854775807 < x5_2.size + t113.size + (1 + t114.size) + (1 + t115.size)) = False := eq_false (by have h_ := c17; simp only [ByteArray.size_append, show (⟨#[58]⟩ : ByteArray).size = 1 from rfl] at h_; omega)
                        obtain rfl := Option.some.inj H
                        go_wp2_with (first | ((with_reducible refine gate_callee (f := 25) rfl ?_); refine goesL_ (some 26) rfl rfl Try.func25 (by kernel_rfl) rfl #[.int .i64 (Int.tmod (wrap64 (Int.tdiv x0_2 60)) 60), .int .i64 2] rfl (by (try simp only [List.map_toArray, List.map_cons, List.map_nil]); first | done | rfl | (simp only [List.length_drop, List.length_take]; rfl)) ?_; (with_reducible refine (spec_padded.calls kj6 (Int.tmod (wrap64 (Int.tdiv x0_2 60)) 60) 2 t114 _ A11.out).mono ?_); rintro e w18 ⟨rfl, hb⟩; refine ⟨_, rfl, ?_⟩; have n0_ := Aside0.mk (below_step (by repeat (first | (with_reducible first | exact HB.out | apply below_alloc | apply pw_below_drewN | apply below_drew1) | exact HB.out)) hb); clear HB; have HB := n0_; clear n0_; (try clear hb); (try clear hb2); (try clear hk); (try clear hi)) | ((with_reducible refine gate_callee (f := 25) rfl ?_); refine goesL_ (some 39) rfl rfl Try.func25 (by kernel_rfl) rfl #[.int .i64 (Int.tmod x0_2 60), .int .i64 2] rfl (by (try simp only [List.map_toArray, List.map_cons, List.map_nil]); first | done | rfl | (simp only [List.length_drop, List.length_take]; rfl)) ?_; (with_reducible refine (spec_padded.calls kj6 (Int.tmod x0_2 60) 2 t115 _ A15.out).mono ?_); rintro e w19 ⟨rfl, hb⟩; refine ⟨_, rfl, ?_⟩; have n0_ := Aside0.mk (below_step (by repeat (first | (with_reducible first | exact HB.out | apply below_alloc | apply pw_below_drewN | apply below_drew1) | exact HB.out)) hb); clear HB; have HB := n0_; clear n0_; (try clear hb); (try clear hb2); (try clear hk); (try clear hi)))
                        go_ret
                        exact ⟨by first | rfl | (simp [errW_none, errW_some] <;> rfl) | (simp [*, errW_none, errW_some] <;> rfl), by repeat (first | (with_reducible first | exact HB.out | apply below_alloc | apply pw_below_drewN | apply below_drew1) | exact HB.out)⟩
                      · rw [if_neg c17] at H
                        exact absurd H (by simp)
                    · rw [if_neg c16] at H
                      exact absurd H (by simp)
                  · rw [if_neg c14] at H
                    have c14b0 : decide (0 < (Int.tmod x0_2 60)) = false := decide_eq_false c14
                    clear c14
                    by_cases c20 : a1 > 2
                    · rw [if_pos c20] at H
                      have c20b0 : decide (2 < a1) = true := decide_eq_true c20
                      clear c20
                      replace H := Option.bind_eq_some_iff.mp H
                      obtain ⟨t116, A210, H⟩ := H
                      replace H : (if 1 + t116.size ≤ 9223372036854775807 then (if ((x5_2 ++ t113) ++ ((⟨#[58]⟩ : ByteArray) ++ t114)).size + ((⟨#[58]⟩ : ByteArray) ++ t116).size ≤ 9223372036854775807 then (some (((x5_2 ++ t113) ++ ((⟨#[58]⟩ : ByteArray) ++ t114)) ++ ((⟨#[58]⟩ : ByteArray) ++ t116))) else (none)) else (none)) = some r := H
                      have A21 := Aside0.mk A210
                      clear A210
                      by_cases c22 : 1 + t116.size ≤ 9223372036854775807
                      · rw [if_pos c22] at H
                        have c22b0 := eq_true c22
                        have c22b1 : decide (1 + t116.size ≤ 9223372036854775807) = true := decide_eq_true c22
                        try have c22b2 : (9223372036854775807 < 1 + t116.size) = False := eq_false (Nat.not_lt.2 c22)
                        by_cases c23 : ((x5_2 ++ t113) ++ ((⟨#[58]⟩ : ByteArray) ++ t114)).size + ((⟨#[58]⟩ : ByteArray) ++ t116).size ≤ 9223372036854775807
                        · rw [if_pos c23] at H
                          have c23b0 := eq_true c23
                          have c23b1 : decide (((x5_2 ++ t113) ++ ((⟨#[58]⟩ : ByteArray) ++ t114)).size + ((⟨#[58]⟩ : ByteArray) ++ t116).size ≤ 9223372036854775807) = true := decide_eq_true c23
                          try have c23b2 : (9223372036854775807 < ((x5_2 ++ t113) ++ ((⟨#[58]⟩ : ByteArray) ++ t114)).size + ((⟨#[58]⟩ : ByteArray) ++ t116).size) = False := eq_false (Nat.not_lt.2 c23)
                          try have c23b3 : (9223372036854775807 < x5_2.size + t113.size + (1 + t114.size) + (1 + t116.size)) = False := eq_false (by have h_ := c23; simp only [ByteArray.size_append, show (⟨#[58]⟩ : ByteArray).size = 1 from rfl] at h_; omega)
                          obtain rfl := Option.some.inj H
                          go_wp2_with (first | ((with_reducible refine gate_callee (f := 25) rfl ?_); refine goesL_ (some 26) rfl rfl Try.func25 (by kernel_rfl) rfl #[.int .i64 (Int.tmod (wrap64 (Int.tdiv x0_2 60)) 60), .int .i64 2] rfl (by (try simp only [List.map_toArray, List.map_cons, List.map_nil]); first | done | rfl | (simp only [List.length_drop, List.length_take]; rfl)) ?_; (with_reducible refine (spec_padded.calls kj6 (Int.tmod (wrap64 (Int.tdiv x0_2 60)) 60) 2 t114 _ A11.out).mono ?_); rintro e w24 ⟨rfl, hb⟩; refine ⟨_, rfl, ?_⟩; have n0_ := Aside0.mk (below_step (by repeat (first | (with_reducible first | exact HB.out | apply below_alloc | apply pw_below_drewN | apply below_drew1) | exact HB.out)) hb); clear HB; have HB := n0_; clear n0_; (try clear hb); (try clear hb2); (try clear hk); (try clear hi)) | ((with_reducible refine gate_callee (f := 25) rfl ?_); refine goesL_ (some 39) rfl rfl Try.func25 (by kernel_rfl) rfl #[.int .i64 (Int.tmod x0_2 60), .int .i64 2] rfl (by (try simp only [List.map_toArray, List.map_cons, List.map_nil]); first | done | rfl | (simp only [List.length_drop, List.length_take]; rfl)) ?_; (with_reducible refine (spec_padded.calls kj6 (Int.tmod x0_2 60) 2 t116 _ A21.out).mono ?_); rintro e w25 ⟨rfl, hb⟩; refine ⟨_, rfl, ?_⟩; have n0_ := Aside0.mk (below_step (by repeat (first | (with_reducible first | exact HB.out | apply below_alloc | apply pw_below_drewN | apply below_drew1) | exact HB.out)) hb); clear HB; have HB := n0_; clear n0_; (try clear hb); (try clear hb2); (try clear hk); (try clear hi)))
                          go_ret
                          exact ⟨by first | rfl | (simp [errW_none, errW_some] <;> rfl) | (simp [*, errW_none, errW_some] <;> rfl), by repeat (first | (with_reducible first | exact HB.out | apply below_alloc | apply pw_below_drewN | apply below_drew1) | exact HB.out)⟩
                        · rw [if_neg c23] at H
                          exact absurd H (by simp)
                      · rw [if_neg c22] at H
                        exact absurd H (by simp)
                    · rw [if_neg c20] at H
                      have c20b0 : decide (2 < a1) = false := decide_eq_false c20
                      clear c20
                      obtain rfl := Option.some.inj H
                      go_wp2_with (first | ((with_reducible refine gate_callee (f := 25) rfl ?_); refine goesL_ (some 26) rfl rfl Try.func25 (by kernel_rfl) rfl #[.int .i64 (Int.tmod (wrap64 (Int.tdiv x0_2 60)) 60), .int .i64 2] rfl (by (try simp only [List.map_toArray, List.map_cons, List.map_nil]); first | done | rfl | (simp only [List.length_drop, List.length_take]; rfl)) ?_; (with_reducible refine (spec_padded.calls kj6 (Int.tmod (wrap64 (Int.tdiv x0_2 60)) 60) 2 t114 _ A11.out).mono ?_); rintro e w26 ⟨rfl, hb⟩; refine ⟨_, rfl, ?_⟩; have n0_ := Aside0.mk (below_step (by repeat (first | (with_reducible first | exact HB.out | apply below_alloc | apply pw_below_drewN | apply below_drew1) | exact HB.out)) hb); clear HB; have HB := n0_; clear n0_; (try clear hb); (try clear hb2); (try clear hk); (try clear hi)))
                      go_ret
                      exact ⟨by first | rfl | (simp [errW_none, errW_some] <;> rfl) | (simp [*, errW_none, errW_some] <;> rfl), by repeat (first | (with_reducible first | exact HB.out | apply below_alloc | apply pw_below_drewN | apply below_drew1) | exact HB.out)⟩
                · rw [if_neg c13] at H
                  exact absurd H (by simp)
              · rw [if_neg c12] at H
                exact absurd H (by simp)
            · replace c10 := Bool.eq_false_iff.mpr c10
              subst c10
              have H1 : (if (Int.tmod x0_2 60) > 0 then ((spec_padded.f kj6 (Int.tmod x0_2 60) 2).bind fun t117 => (if 1 + t117.size ≤ 9223372036854775807 then (if (x5_2 ++ t113).size + ((⟨#[58]⟩ : ByteArray) ++ t117).size ≤ 9223372036854775807 then (some ((x5_2 ++ t113) ++ ((⟨#[58]⟩ : ByteArray) ++ t117))) else (none)) else (none))) else (if a1 > 2 then ((spec_padded.f kj6 (Int.tmod x0_2 60) 2).bind fun t118 => (if 1 + t118.size ≤ 9223372036854775807 then (if (x5_2 ++ t113).size + ((⟨#[58]⟩ : ByteArray) ++ t118).size ≤ 9223372036854775807 then (some ((x5_2 ++ t113) ++ ((⟨#[58]⟩ : ByteArray) ++ t118))) else (none)) else (none))) else (some (x5_2 ++ t113)))) = some r := by rw [if_neg (show ¬ (false = true) by decide)] at H; exact H
              clear H
              have H := H1
              clear H1
              by_cases c27 : (Int.tmod x0_2 60) > 0
              · rw [if_pos c27] at H
                have c27b0 : decide (0 < (Int.tmod x0_2 60)) = true := decide_eq_true c27
                clear c27
                replace H := Option.bind_eq_some_iff.mp H
                obtain ⟨t117, A280, H⟩ := H
                replace H : (if 1 + t117.size ≤ 9223372036854775807 then (if (x5_2 ++ t113).size + ((⟨#[58]⟩ : ByteArray) ++ t117).size ≤ 9223372036854775807 then (some ((x5_2 ++ t113) ++ ((⟨#[58]⟩ : ByteArray) ++ t117))) else (none)) else (none)) = some r := H
                have A28 := Aside0.mk A280
                clear A280
                by_cases c29 : 1 + t117.size ≤ 9223372036854775807
                · rw [if_pos c29] at H
                  have c29b0 := eq_true c29
                  have c29b1 : decide (1 + t117.size ≤ 9223372036854775807) = true := decide_eq_true c29
                  try have c29b2 : (9223372036854775807 < 1 + t117.size) = False := eq_false (Nat.not_lt.2 c29)
                  by_cases c30 : (x5_2 ++ t113).size + ((⟨#[58]⟩ : ByteArray) ++ t117).size ≤ 9223372036854775807
                  · rw [if_pos c30] at H
                    have c30b0 := eq_true c30
                    have c30b1 : decide ((x5_2 ++ t113).size + ((⟨#[58]⟩ : ByteArray) ++ t117).size ≤ 9223372036854775807) = true := decide_eq_true c30
                    try have c30b2 : (9223372036854775807 < (x5_2 ++ t113).size + ((⟨#[58]⟩ : ByteArray) ++ t117).size) = False := eq_false (Nat.not_lt.2 c30)
                    try have c30b3 : (9223372036854775807 < x5_2.size + t113.size + (1 + t117.size)) = False := eq_false (by have h_ := c30; simp only [ByteArray.size_append, show (⟨#[58]⟩ : ByteArray).size = 1 from rfl] at h_; omega)
                    obtain rfl := Option.some.inj H
                    go_wp2_with (first | ((with_reducible refine gate_callee (f := 25) rfl ?_); refine goesL_ (some 39) rfl rfl Try.func25 (by kernel_rfl) rfl #[.int .i64 (Int.tmod x0_2 60), .int .i64 2] rfl (by (try simp only [List.map_toArray, List.map_cons, List.map_nil]); first | done | rfl | (simp only [List.length_drop, List.length_take]; rfl)) ?_; (with_reducible refine (spec_padded.calls kj6 (Int.tmod x0_2 60) 2 t117 _ A28.out).mono ?_); rintro e w31 ⟨rfl, hb⟩; refine ⟨_, rfl, ?_⟩; have n0_ := Aside0.mk (below_step (by repeat (first | (with_reducible first | exact HB.out | apply below_alloc | apply pw_below_drewN | apply below_drew1) | exact HB.out)) hb); clear HB; have HB := n0_; clear n0_; (try clear hb); (try clear hb2); (try clear hk); (try clear hi)))
                    go_ret
                    exact ⟨by first | rfl | (simp [errW_none, errW_some] <;> rfl) | (simp [*, errW_none, errW_some] <;> rfl), by repeat (first | (with_reducible first | exact HB.out | apply below_alloc | apply pw_below_drewN | apply below_drew1) | exact HB.out)⟩
                  · rw [if_neg c30] at H
                    exact absurd H (by simp)
                · rw [if_neg c29] at H
                  exact absurd H (by simp)
              · rw [if_neg c27] at H
                have c27b0 : decide (0 < (Int.tmod x0_2 60)) = false := decide_eq_false c27
                clear c27
                by_cases c32 : a1 > 2
                · rw [if_pos c32] at H
                  have c32b0 : decide (2 < a1) = true := decide_eq_true c32
                  clear c32
                  replace H := Option.bind_eq_some_iff.mp H
                  obtain ⟨t118, A330, H⟩ := H
                  replace H : (if 1 + t118.size ≤ 9223372036854775807 then (if (x5_2 ++ t113).size + ((⟨#[58]⟩ : ByteArray) ++ t118).size ≤ 9223372036854775807 then (some ((x5_2 ++ t113) ++ ((⟨#[58]⟩ : ByteArray) ++ t118))) else (none)) else (none)) = some r := H
                  have A33 := Aside0.mk A330
                  clear A330
                  by_cases c34 : 1 + t118.size ≤ 9223372036854775807
                  · rw [if_pos c34] at H
                    have c34b0 := eq_true c34
                    have c34b1 : decide (1 + t118.size ≤ 9223372036854775807) = true := decide_eq_true c34
                    try have c34b2 : (9223372036854775807 < 1 + t118.size) = False := eq_false (Nat.not_lt.2 c34)
                    by_cases c35 : (x5_2 ++ t113).size + ((⟨#[58]⟩ : ByteArray) ++ t118).size ≤ 9223372036854775807
                    · rw [if_pos c35] at H
                      have c35b0 := eq_true c35
                      have c35b1 : decide ((x5_2 ++ t113).size + ((⟨#[58]⟩ : ByteArray) ++ t118).size ≤ 9223372036854775807) = true := decide_eq_true c35
                      try have c35b2 : (9223372036854775807 < (x5_2 ++ t113).size + ((⟨#[58]⟩ : ByteArray) ++ t118).size) = False := eq_false (Nat.not_lt.2 c35)
                      try have c35b3 : (9223372036854775807 < x5_2.size + t113.size + (1 + t118.size)) = False := eq_false (by have h_ := c35; simp only [ByteArray.size_append, show (⟨#[58]⟩ : ByteArray).size = 1 from rfl] at h_; omega)
                      obtain rfl := Option.some.inj H
                      go_wp2_with (first | ((with_reducible refine gate_callee (f := 25) rfl ?_); refine goesL_ (some 39) rfl rfl Try.func25 (by kernel_rfl) rfl #[.int .i64 (Int.tmod x0_2 60), .int .i64 2] rfl (by (try simp only [List.map_toArray, List.map_cons, List.map_nil]); first | done | rfl | (simp only [List.length_drop, List.length_take]; rfl)) ?_; (with_reducible refine (spec_padded.calls kj6 (Int.tmod x0_2 60) 2 t118 _ A33.out).mono ?_); rintro e w36 ⟨rfl, hb⟩; refine ⟨_, rfl, ?_⟩; have n0_ := Aside0.mk (below_step (by repeat (first | (with_reducible first | exact HB.out | apply below_alloc | apply pw_below_drewN | apply below_drew1) | exact HB.out)) hb); clear HB; have HB := n0_; clear n0_; (try clear hb); (try clear hb2); (try clear hk); (try clear hi)))
                      go_ret
                      exact ⟨by first | rfl | (simp [errW_none, errW_some] <;> rfl) | (simp [*, errW_none, errW_some] <;> rfl), by repeat (first | (with_reducible first | exact HB.out | apply below_alloc | apply pw_below_drewN | apply below_drew1) | exact HB.out)⟩
                    · rw [if_neg c35] at H
                      exact absurd H (by simp)
                  · rw [if_neg c34] at H
                    exact absurd H (by simp)
                · rw [if_neg c32] at H
                  have c32b0 : decide (2 < a1) = false := decide_eq_false c32
                  clear c32
                  obtain rfl := Option.some.inj H
                  go_wp2
                  go_ret
                  exact ⟨by first | rfl | (simp [errW_none, errW_some] <;> rfl) | (simp [*, errW_none, errW_some] <;> rfl), by repeat (first | (with_reducible first | exact HB.out | apply below_alloc | apply pw_below_drewN | apply below_drew1) | exact HB.out)⟩
      · rw [if_neg c6] at H
        exact absurd H (by simp)

/-! ### errors_New: function 41 -/
def errors_New.f (a0 : ByteArray) : Option (Option Int) := none
set_option maxHeartbeats 8000000 in
set_option maxRecDepth 100000 in
theorem errors_New.calls (a0 : ByteArray) (r : Option Int) (w : World) (h : errors_New.f a0 = some r) :
    Calls Try.prog 41 #[.string a0] w fun e w' => e = .returned (errW r) ∧ Below w.heap.size w w' := by
  have hu105 := Try.underlying105
  have hu47 := Try.underlying47
  have HB := Aside0.mk (Below.refl w.heap.size w)
  have H : (none) = some r := h
  clear h
  exact absurd H (by simp)

end Go.Proofs.Ytlhjblbmhlelbab.P
