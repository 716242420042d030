-- Written by the program wip/myprint.py of this session, over the kit's print of the translation. Lean checks it.
import Derived.Test.YtlhjblbmhlelbabDoorPx0
import Derived.Test.YtlhjblbmhlelbabDoorPx2
namespace Go.Proofs.YtlhjblbmhlelbabDoor.P
open Go.RowKit Go.Proofs.YtlhjblbmhlelbabDoorW.PrintWords Go.Proofs.YtlhjblbmhlelbabDoorW.PrintLast Go.Proofs.YtlhjblbmhlelbabDoorW.PrintMore
attribute [local go_sem] max2_int min2_int max_two min_two max_three min_three max_four min_four   -- for this text's walks alone
set_option linter.unusedVariables false
set_option linter.unusedSimpArgs false

/-! ### spec_DateText: function 5 -/
def spec_DateText.f (k : Nat) (a0_0 : Int) (a0_1 : Int) (a0_2 : Int) (a0_3 : Int) (a0_4 : Int) (a0_5 : Int) (a0_6 : Int) (a0_7 : Int) : Option (ByteArray × ByteArray) := if a0_0 < 1 then ((spec_padded.f k (wrap64 (1 - a0_0)) 4).bind fun t111 => (if t111.size + 1 ≤ 9223372036854775807 then ((spec_padded.f k a0_1 2).bind fun t112 => (if (t111 ++ (⟨#[45]⟩ : ByteArray)).size + t112.size ≤ 9223372036854775807 then (if ((t111 ++ (⟨#[45]⟩ : ByteArray)) ++ t112).size + 1 ≤ 9223372036854775807 then ((spec_padded.f k a0_2 2).bind fun t113 => (if (((t111 ++ (⟨#[45]⟩ : ByteArray)) ++ t112) ++ (⟨#[45]⟩ : ByteArray)).size + t113.size ≤ 9223372036854775807 then (some ((((t111 ++ (⟨#[45]⟩ : ByteArray)) ++ t112) ++ (⟨#[45]⟩ : ByteArray)) ++ t113, (⟨#[32, 66, 67]⟩ : ByteArray))) else (none))) else (none)) else (none))) else (none))) else ((spec_padded.f k a0_0 4).bind fun t114 => (if t114.size + 1 ≤ 9223372036854775807 then ((spec_padded.f k a0_1 2).bind fun t115 => (if (t114 ++ (⟨#[45]⟩ : ByteArray)).size + t115.size ≤ 9223372036854775807 then (if ((t114 ++ (⟨#[45]⟩ : ByteArray)) ++ t115).size + 1 ≤ 9223372036854775807 then ((spec_padded.f k a0_2 2).bind fun t116 => (if (((t114 ++ (⟨#[45]⟩ : ByteArray)) ++ t115) ++ (⟨#[45]⟩ : ByteArray)).size + t116.size ≤ 9223372036854775807 then (some ((((t114 ++ (⟨#[45]⟩ : ByteArray)) ++ t115) ++ (⟨#[45]⟩ : ByteArray)) ++ t116, (⟨#[]⟩ : ByteArray))) else (none))) else (none)) else (none))) else (none)))
theorem spec_DateText.mono : ∀ a0 a1 a2 a3 a4 a5 a6 a7 k, LeO (spec_DateText.f k a0 a1 a2 a3 a4 a5 a6 a7) (spec_DateText.f (k + 1) a0 a1 a2 a3 a4 a5 a6 a7) := by
  intro a0 a1 a2 a3 a4 a5 a6 a7 k
  unfold spec_DateText.f
  repeat' first
      | (with_reducible exact spec_padded.mono _ _ _)
      | (with_reducible exact LeO.refl _)
      | (with_reducible exact LeO.none _)
      | (with_reducible refine LeO.ite ?_ ?_)
      | (with_reducible refine LeO.bind ?_ (fun _ => ?_))
      | exact spec_padded.mono _ _ _
      | exact LeO.none _
      | refine LeO.ite ?_ ?_
      | refine LeO.bind ?_ (fun _ => ?_)
def spec_DateText.T4 : Bool × List (List Nat × List Nat) := (true, [([], []), ([0], [0]), ([1], [1]), ([], []), ([3], [3]), ([4, 1], [4]), ([2, 5], [2, 5]), ([6], [6]), ([], []), ([8], [8]), ([9, 5], [9]), ([7, 10], [7, 10]), ([], []), ([11, 10, 0, 1, 2, 3, 4, 5, 6, 7, 8, 9, 10, 11], [11]), ([12, 13, 0, 1, 2, 3, 4, 5, 6, 7, 8, 9, 10, 11, 12, 13], [12])])
def spec_DateText.B4 : List Nat := [0, 1, 3, 0, 8, 27, 63, 127, 0, 256, 827, 2047, 0, 4095, 16383]
theorem spec_DateText.tab4 : rtab .any (opsOf Tryd.f5 4) = spec_DateText.T4 := by kernel_rfl
theorem spec_DateText.bits4 : waitsOk spec_DateText.T4.2 spec_DateText.B4 = true := by kernel_rfl
set_option maxHeartbeats 8000000 in
set_option maxRecDepth 100000 in
theorem spec_DateText.calls (k : Nat) (a0_0 : Int) (a0_1 : Int) (a0_2 : Int) (a0_3 : Int) (a0_4 : Int) (a0_5 : Int) (a0_6 : Int) (a0_7 : Int) (r1 : ByteArray) (r2 : ByteArray) (w : World) (h : spec_DateText.f k a0_0 a0_1 a0_2 a0_3 a0_4 a0_5 a0_6 a0_7 = some (r1, r2)) :
    Calls Tryd.prog 5 #[.agg #[.int .i64 a0_0, .int .i64 a0_1, .int .i64 a0_2, .int .i64 a0_3, .int .i64 a0_4, .int .i64 a0_5, .int .i64 a0_6, .int .i64 a0_7]] w fun e w' => e = .returned (.tuple #[.string r1, .string r2]) ∧ Below w.heap.size w w' := by
  have hu23 := Tryd.underlying23
  have HB := Aside0.mk (Below.refl w.heap.size w)
  have H : (if a0_0 < 1 then ((spec_padded.f k (wrap64 (1 - a0_0)) 4).bind fun t111 => (if t111.size + 1 ≤ 9223372036854775807 then ((spec_padded.f k a0_1 2).bind fun t112 => (if (t111 ++ (⟨#[45]⟩ : ByteArray)).size + t112.size ≤ 9223372036854775807 then (if ((t111 ++ (⟨#[45]⟩ : ByteArray)) ++ t112).size + 1 ≤ 9223372036854775807 then ((spec_padded.f k a0_2 2).bind fun t113 => (if (((t111 ++ (⟨#[45]⟩ : ByteArray)) ++ t112) ++ (⟨#[45]⟩ : ByteArray)).size + t113.size ≤ 9223372036854775807 then (some ((((t111 ++ (⟨#[45]⟩ : ByteArray)) ++ t112) ++ (⟨#[45]⟩ : ByteArray)) ++ t113, (⟨#[32, 66, 67]⟩ : ByteArray))) else (none))) else (none)) else (none))) else (none))) else ((spec_padded.f k a0_0 4).bind fun t114 => (if t114.size + 1 ≤ 9223372036854775807 then ((spec_padded.f k a0_1 2).bind fun t115 => (if (t114 ++ (⟨#[45]⟩ : ByteArray)).size + t115.size ≤ 9223372036854775807 then (if ((t114 ++ (⟨#[45]⟩ : ByteArray)) ++ t115).size + 1 ≤ 9223372036854775807 then ((spec_padded.f k a0_2 2).bind fun t116 => (if (((t114 ++ (⟨#[45]⟩ : ByteArray)) ++ t115) ++ (⟨#[45]⟩ : ByteArray)).size + t116.size ≤ 9223372036854775807 then (some ((((t114 ++ (⟨#[45]⟩ : ByteArray)) ++ t115) ++ (⟨#[45]⟩ : ByteArray)) ++ t116, (⟨#[]⟩ : ByteArray))) else (none))) else (none)) else (none))) else (none)))) = some (r1, r2) := h
  clear h
  by_cases c2 : a0_0 < 1
  · rw [if_pos c2] at H
    have c2b0 : decide (a0_0 < 1) = true := decide_eq_true c2
    clear c2
    replace H := Option.bind_eq_some_iff.mp H
    obtain ⟨t111, A30, H⟩ := H
    replace H : (if t111.size + 1 ≤ 9223372036854775807 then ((spec_padded.f k a0_1 2).bind fun t112 => (if (t111 ++ (⟨#[45]⟩ : ByteArray)).size + t112.size ≤ 9223372036854775807 then (if ((t111 ++ (⟨#[45]⟩ : ByteArray)) ++ t112).size + 1 ≤ 9223372036854775807 then ((spec_padded.f k a0_2 2).bind fun t113 => (if (((t111 ++ (⟨#[45]⟩ : ByteArray)) ++ t112) ++ (⟨#[45]⟩ : ByteArray)).size + t113.size ≤ 9223372036854775807 then (some ((((t111 ++ (⟨#[45]⟩ : ByteArray)) ++ t112) ++ (⟨#[45]⟩ : ByteArray)) ++ t113, (⟨#[32, 66, 67]⟩ : ByteArray))) else (none))) else (none)) else (none))) else (none)) = some (r1, r2) := H
    have A3 := Aside0.mk A30
    clear A30
    by_cases c4 : t111.size + 1 ≤ 9223372036854775807
    · rw [if_pos c4] at H
      have c4b0 := eq_true c4
      have c4b1 : decide (t111.size + 1 ≤ 9223372036854775807) = true := decide_eq_true c4
      try have c4b2 : (9223372036854775807 < t111.size + 1) = False := eq_false (Nat.not_lt.2 c4)
      replace H := Option.bind_eq_some_iff.mp H
      obtain ⟨t112, A50, H⟩ := H
      replace H : (if (t111 ++ (⟨#[45]⟩ : ByteArray)).size + t112.size ≤ 9223372036854775807 then (if ((t111 ++ (⟨#[45]⟩ : ByteArray)) ++ t112).size + 1 ≤ 9223372036854775807 then ((spec_padded.f k a0_2 2).bind fun t113 => (if (((t111 ++ (⟨#[45]⟩ : ByteArray)) ++ t112) ++ (⟨#[45]⟩ : ByteArray)).size + t113.size ≤ 9223372036854775807 then (some ((((t111 ++ (⟨#[45]⟩ : ByteArray)) ++ t112) ++ (⟨#[45]⟩ : ByteArray)) ++ t113, (⟨#[32, 66, 67]⟩ : ByteArray))) else (none))) else (none)) else (none)) = some (r1, r2) := H
      have A5 := Aside0.mk A50
      clear A50
      by_cases c6 : (t111 ++ (⟨#[45]⟩ : ByteArray)).size + t112.size ≤ 9223372036854775807
      · rw [if_pos c6] at H
        have c6b0 := eq_true c6
        have c6b1 : decide ((t111 ++ (⟨#[45]⟩ : ByteArray)).size + t112.size ≤ 9223372036854775807) = true := decide_eq_true c6
        try have c6b2 : (9223372036854775807 < (t111 ++ (⟨#[45]⟩ : ByteArray)).size + t112.size) = False := eq_false (Nat.not_lt.2 c6)
        try have c6b3 : (9223372036854775807 < t111.size + 1 + t112.size) = False := eq_false (by have h_ := c6; simp only [ByteArray.size_append, show (⟨#[45]⟩ : ByteArray).size = 1 from rfl] at h_; omega)
        by_cases c7 : ((t111 ++ (⟨#[45]⟩ : ByteArray)) ++ t112).size + 1 ≤ 9223372036854775807
        · rw [if_pos c7] at H
          have c7b0 := eq_true c7
          have c7b1 : decide (((t111 ++ (⟨#[45]⟩ : ByteArray)) ++ t112).size + 1 ≤ 9223372036854775807) = true := decide_eq_true c7
          try have c7b2 : (9223372036854775807 < ((t111 ++ (⟨#[45]⟩ : ByteArray)) ++ t112).size + 1) = False := eq_false (Nat.not_lt.2 c7)
          try have c7b3 : (9223372036854775807 < t111.size + 1 + t112.size + 1) = False := eq_false (by have h_ := c7; simp only [ByteArray.size_append, show (⟨#[45]⟩ : ByteArray).size = 1 from rfl] at h_; omega)
          replace H := Option.bind_eq_some_iff.mp H
          obtain ⟨t113, A80, H⟩ := H
          replace H : (if (((t111 ++ (⟨#[45]⟩ : ByteArray)) ++ t112) ++ (⟨#[45]⟩ : ByteArray)).size + t113.size ≤ 9223372036854775807 then (some ((((t111 ++ (⟨#[45]⟩ : ByteArray)) ++ t112) ++ (⟨#[45]⟩ : ByteArray)) ++ t113, (⟨#[32, 66, 67]⟩ : ByteArray))) else (none)) = some (r1, r2) := H
          have A8 := Aside0.mk A80
          clear A80
          by_cases c9 : (((t111 ++ (⟨#[45]⟩ : ByteArray)) ++ t112) ++ (⟨#[45]⟩ : ByteArray)).size + t113.size ≤ 9223372036854775807
          · rw [if_pos c9] at H
            have c9b0 := eq_true c9
            have c9b1 : decide ((((t111 ++ (⟨#[45]⟩ : ByteArray)) ++ t112) ++ (⟨#[45]⟩ : ByteArray)).size + t113.size ≤ 9223372036854775807) = true := decide_eq_true c9
            try have c9b2 : (9223372036854775807 < (((t111 ++ (⟨#[45]⟩ : ByteArray)) ++ t112) ++ (⟨#[45]⟩ : ByteArray)).size + t113.size) = False := eq_false (Nat.not_lt.2 c9)
            try have c9b3 : (9223372036854775807 < t111.size + 1 + t112.size + 1 + t113.size) = False := eq_false (by have h_ := c9; simp only [ByteArray.size_append, show (⟨#[45]⟩ : ByteArray).size = 1 from rfl] at h_; omega)
            simp only [Option.some.injEq, Prod.mk.injEq] at H
            obtain ⟨rfl, rfl⟩ := H
            go_enter Tryd.func5, Tryd.ntmps5
            try go_wp2_with (first | ((with_reducible refine gate_dst (N := 1) rfl ?_); refine box_event ?hg (N := 1) ?hd (cs := #[.int .i64 a0_0, .int .i64 a0_1, .int .i64 a0_2, .int .i64 a0_3, .int .i64 a0_4, .int .i64 a0_5, .int .i64 a0_6, .int .i64 a0_7]) (t := 23) ?hr ?_; (case hd => rfl); (case hg => rfl); (case hr => first | (go_simp; done) | (go_simp; rfl) | (go_simp; simp [IntKind.wrap_u8]; done)); intro gb110 hg w10 hbox hb; have n0_ := Aside0.mk (below_step (by repeat (first | (with_reducible first | exact HB.out | apply below_alloc | apply pw_below_drewN | apply below_drew1) | exact HB.out)) hb); have n1_ := Aside0.mk (hbox); have n2_ := Aside0.mk ((by rw [hg]; exact (below_size (by repeat (first | (with_reducible first | exact HB.out | apply below_alloc | apply pw_below_drewN | apply below_drew1) | exact HB.out))) : w.heap.size ≤ gb110)); have n3_ := Aside0.mk ((by rw [hg]; exact (below_size (by repeat (first | (with_reducible first | exact HB.out | apply below_alloc | apply pw_below_drewN | apply below_drew1) | exact HB.out))) : w.heap.size ≤ gb110)); clear HB; have HB := n0_; have BK110 := n1_; have GW110 := n2_; have GE110 := n3_; clear n0_ n1_ n2_ n3_; clear hb hbox hg; have hcz11_0 : w10.cell? ⟨gb110, 0, none⟩ = some (.int .i64 a0_0) := (blk_cell BK110.out 0).trans rfl; have hcz11_1 : w10.cell? ⟨gb110, 1, none⟩ = some (.int .i64 a0_1) := (blk_cell BK110.out 1).trans rfl; have hcz11_2 : w10.cell? ⟨gb110, 2, none⟩ = some (.int .i64 a0_2) := (blk_cell BK110.out 2).trans rfl; have hcz11_3 : w10.cell? ⟨gb110, 3, none⟩ = some (.int .i64 a0_3) := (blk_cell BK110.out 3).trans rfl; have hcz11_4 : w10.cell? ⟨gb110, 4, none⟩ = some (.int .i64 a0_4) := (blk_cell BK110.out 4).trans rfl; have hcz11_5 : w10.cell? ⟨gb110, 5, none⟩ = some (.int .i64 a0_5) := (blk_cell BK110.out 5).trans rfl; have hcz11_6 : w10.cell? ⟨gb110, 6, none⟩ = some (.int .i64 a0_6) := (blk_cell BK110.out 6).trans rfl; have hcz11_7 : w10.cell? ⟨gb110, 7, none⟩ = some (.int .i64 a0_7) := (blk_cell BK110.out 7).trans rfl; have hfz11_0 := blk_frozen BK110.out 0; have hfz11_1 := blk_frozen BK110.out 1; have hfz11_2 := blk_frozen BK110.out 2; have hfz11_3 := blk_frozen BK110.out 3; have hfz11_4 := blk_frozen BK110.out 4; have hfz11_5 := blk_frozen BK110.out 5; have hfz11_6 := blk_frozen BK110.out 6; have hfz11_7 := blk_frozen BK110.out 7))
            have n0_ := Aside0.mk (blk_drew BK110.out)
            have n1_ := Aside0.mk (below_drew1 HB.out)
            clear BK110
            clear HB
            have BK110 := n0_
            have HB := n1_
            clear n0_ n1_
            refine start_ (n := 15) (S := fun w' => w'.cell? ⟨gb110, 0, none⟩ = some (.int .i64 a0_0) ∧ w'.cell? ⟨gb110, 1, none⟩ = some (.int .i64 a0_1) ∧ w'.cell? ⟨gb110, 2, none⟩ = some (.int .i64 a0_2) ∧ w'.cell? ⟨gb110, 3, none⟩ = some (.int .i64 a0_3) ∧ w'.cell? ⟨gb110, 4, none⟩ = some (.int .i64 a0_4) ∧ w'.cell? ⟨gb110, 5, none⟩ = some (.int .i64 a0_5) ∧ w'.cell? ⟨gb110, 6, none⟩ = some (.int .i64 a0_6) ∧ w'.cell? ⟨gb110, 7, none⟩ = some (.int .i64 a0_7)) (ds := []) #[false, false, false, false, false, false, false, false, false, false, false, false, false, false, false] (by kernel_rfl) rfl rfl ⟨(blk_cell BK110.out 0).trans rfl, (blk_cell BK110.out 1).trans rfl, (blk_cell BK110.out 2).trans rfl, (blk_cell BK110.out 3).trans rfl, (blk_cell BK110.out 4).trans rfl, (blk_cell BK110.out 5).trans rfl, (blk_cell BK110.out 6).trans rfl, (blk_cell BK110.out 7).trans rfl⟩ (fun hHeld => ?_); refine with_tabW spec_DateText.tab4 spec_DateText.bits4 (fun HT_ HW_ => ?_)
            generalize w10.drew = w12 at BK110 HB hHeld ⊢
            refine pure_ (i := 0) (N := some 11) (v := ?_) (a' := ?_) #[true, false, false, false, false, false, false, false, false, false, false, false, false, false, false] rfl rfl (any_of HT_.out (by kernel_rfl)) (fun _ _ _ h => h) (Or.inl ⟨by rfl, ?_⟩) ?_ ?_
            rotate_left
            · intro w'
              go_simp
              with_reducible rfl
            rotate_left
            · simp only [Act.put, List.setIfInBounds_toArray, List.set_cons_zero, List.set_cons_succ, i64_w, i32_w]
              rfl
            refine pure_ (i := 3) (N := some 14) (v := ?_) (a' := ?_) #[true, false, false, true, false, false, false, false, false, false, false, false, false, false, false] rfl rfl (any_of HT_.out (by kernel_rfl)) (fun _ _ _ h => h) (Or.inl ⟨by rfl, ?_⟩) ?_ ?_
            rotate_left
            · intro w'
              go_simp
              with_reducible rfl
            rotate_left
            · simp only [Act.put, List.setIfInBounds_toArray, List.set_cons_zero, List.set_cons_succ, i64_w, i32_w]
              rfl
            refine pure_ (i := 8) (N := some 19) (v := ?_) (a' := ?_) #[true, false, false, true, false, false, false, false, true, false, false, false, false, false, false] rfl rfl (any_of HT_.out (by kernel_rfl)) (fun _ _ _ h => h) (Or.inl ⟨by rfl, ?_⟩) ?_ ?_
            rotate_left
            · intro w'
              go_simp
              with_reducible rfl
            rotate_left
            · simp only [Act.put, List.setIfInBounds_toArray, List.set_cons_zero, List.set_cons_succ, i64_w, i32_w]
              rfl
            refine pure_ (i := 12) (N := some 23) (v := ?_) (a' := ?_) #[true, false, false, true, false, false, false, false, true, false, false, false, true, false, false] rfl rfl (any_of HT_.out (by kernel_rfl)) (fun _ _ _ h => h) (Or.inl ⟨by rfl, ?_⟩) ?_ ?_
            rotate_left
            · intro w'
              go_simp
              with_reducible rfl
            rotate_left
            · simp only [Act.put, List.setIfInBounds_toArray, List.set_cons_zero, List.set_cons_succ, i64_w, i32_w]
              rfl
            refine take_ (i := 4) (N := some 15) (v := ?_) (a' := ?_) #[true, false, false, true, true, false, false, false, true, false, false, false, true, false, false] rfl rfl (take_ofW HT_.out HW_.out (by kernel_rfl)) (fun _ _ _ h => h) (Or.inl ⟨by rfl, ?_⟩) hHeld ?_ ?_
            rotate_left
            · rintro w' ⟨s0, s1, s2, s3, s4, s5, s6, s7⟩
              go_simp
              with_reducible rfl
            rotate_left
            · simp only [Act.put, List.setIfInBounds_toArray, List.set_cons_zero, List.set_cons_succ, i64_w, i32_w]
              rfl
            refine take_ (i := 9) (N := some 20) (v := ?_) (a' := ?_) #[true, false, false, true, true, false, false, false, true, true, false, false, true, false, false] rfl rfl (take_ofW HT_.out HW_.out (by kernel_rfl)) (fun _ _ _ h => h) (Or.inl ⟨by rfl, ?_⟩) hHeld ?_ ?_
            rotate_left
            · rintro w' ⟨s0, s1, s2, s3, s4, s5, s6, s7⟩
              go_simp
              with_reducible rfl
            rotate_left
            · simp only [Act.put, List.setIfInBounds_toArray, List.set_cons_zero, List.set_cons_succ, i64_w, i32_w]
              rfl
            refine one_ (i := 1) (N := some 12) #[true, true, false, true, true, false, false, false, true, true, false, false, true, false, false] rfl rfl (one_of HT_.out (by kernel_rfl)) (by decide) (fun K hK => ?_)
            refine goes_ Tryd.func10 (by kernel_rfl) rfl #[.int .i64 (wrap64 (1 - a0_0)), .int .i64 4] (by rfl) rfl rfl (by (try simp only [List.map_toArray, List.map_cons, List.map_nil]); first | done | rfl | (simp only [List.length_drop, List.length_take]; rfl)) ?_
            with_reducible refine (spec_padded.calls k (wrap64 (1 - a0_0)) 4 t111 _ A3.out).mono ?_
            rintro e w13 ⟨rfl, hb⟩
            refine ⟨_, rfl, ?_⟩
            have n0_ := Aside0.mk (blk_below (g := gb110) (o := .cells #[.int .i64 a0_0, .int .i64 a0_1, .int .i64 a0_2, .int .i64 a0_3, .int .i64 a0_4, .int .i64 a0_5, .int .i64 a0_6, .int .i64 a0_7] 23 (0, 0)) (by (with_reducible repeat (first | refine blk_drewN ?_ _ | refine blk_drew ?_ | refine blk_alloc ?_ _)); exact BK110.out) hb)
            have n1_ := Aside0.mk (below_step (by repeat (first | (with_reducible first | exact HB.out | apply below_alloc | apply pw_below_drewN | apply below_drew1 | refine below_set ?_ GE110.out) | exact HB.out)) hb)
            clear BK110
            clear HB
            have BK110 := n0_
            have HB := n1_
            clear n0_ n1_
            (try clear hb)
            (try clear hb2)
            (try clear hk)
            (try clear hi)
            refine hK.out _ _ ⟨(blk_cell BK110.out 0).trans rfl, (blk_cell BK110.out 1).trans rfl, (blk_cell BK110.out 2).trans rfl, (blk_cell BK110.out 3).trans rfl, (blk_cell BK110.out 4).trans rfl, (blk_cell BK110.out 5).trans rfl, (blk_cell BK110.out 6).trans rfl, (blk_cell BK110.out 7).trans rfl⟩ (fun hHeld => ?_)
            clear hK K
            refine norm_ (a' := ?_) ?_ ?_
            rotate_left
            · show Act.put _ (some 12) _ = _
              simp only [Act.put, List.setIfInBounds_toArray, List.set_cons_zero, List.set_cons_succ, i64_w, i32_w]
              rfl
            refine pure_ (i := 2) (N := some 13) (v := ?_) (a' := ?_) #[true, true, true, true, true, false, false, false, true, true, false, false, true, false, false] rfl rfl (any_of HT_.out (by kernel_rfl)) (fun _ _ _ h => h) (Or.inl ⟨by rfl, ?_⟩) ?_ ?_
            rotate_left
            · intro w'
              go_simp
              with_reducible rfl
            rotate_left
            · simp only [Act.put, List.setIfInBounds_toArray, List.set_cons_zero, List.set_cons_succ, i64_w, i32_w]
              rfl
            refine one_ (i := 5) (N := some 16) #[true, true, true, true, true, true, false, false, true, true, false, false, true, false, false] rfl rfl (one_of HT_.out (by kernel_rfl)) (by decide) (fun K hK => ?_)
            refine goes_ Tryd.func10 (by kernel_rfl) rfl #[.int .i64 a0_1, .int .i64 2] (by rfl) rfl rfl (by (try simp only [List.map_toArray, List.map_cons, List.map_nil]); first | done | rfl | (simp only [List.length_drop, List.length_take]; rfl)) ?_
            with_reducible refine (spec_padded.calls k a0_1 2 t112 _ A5.out).mono ?_
            rintro e w14 ⟨rfl, hb⟩
            refine ⟨_, rfl, ?_⟩
            have n0_ := Aside0.mk (blk_below (g := gb110) (o := .cells #[.int .i64 a0_0, .int .i64 a0_1, .int .i64 a0_2, .int .i64 a0_3, .int .i64 a0_4, .int .i64 a0_5, .int .i64 a0_6, .int .i64 a0_7] 23 (0, 0)) (by (with_reducible repeat (first | refine blk_drewN ?_ _ | refine blk_drew ?_ | refine blk_alloc ?_ _)); exact BK110.out) hb)
            have n1_ := Aside0.mk (below_step (by repeat (first | (with_reducible first | exact HB.out | apply below_alloc | apply pw_below_drewN | apply below_drew1 | refine below_set ?_ GE110.out) | exact HB.out)) hb)
            clear BK110
            clear HB
            have BK110 := n0_
            have HB := n1_
            clear n0_ n1_
            (try clear hb)
            (try clear hb2)
            (try clear hk)
            (try clear hi)
            refine hK.out _ _ ⟨(blk_cell BK110.out 0).trans rfl, (blk_cell BK110.out 1).trans rfl, (blk_cell BK110.out 2).trans rfl, (blk_cell BK110.out 3).trans rfl, (blk_cell BK110.out 4).trans rfl, (blk_cell BK110.out 5).trans rfl, (blk_cell BK110.out 6).trans rfl, (blk_cell BK110.out 7).trans rfl⟩ (fun hHeld => ?_)
            clear hK K
            refine norm_ (a' := ?_) ?_ ?_
            rotate_left
            · show Act.put _ (some 16) _ = _
              simp only [Act.put, List.setIfInBounds_toArray, List.set_cons_zero, List.set_cons_succ, i64_w, i32_w]
              rfl
            refine pure_ (i := 6) (N := some 17) (v := ?_) (a' := ?_) #[true, true, true, true, true, true, true, false, true, true, false, false, true, false, false] rfl rfl (any_of HT_.out (by kernel_rfl)) (fun _ _ _ h => h) (Or.inl ⟨by rfl, ?_⟩) ?_ ?_
            rotate_left
            · intro w'
              go_simp
              with_reducible rfl
            rotate_left
            · simp only [Act.put, List.setIfInBounds_toArray, List.set_cons_zero, List.set_cons_succ, i64_w, i32_w]
              rfl
            refine pure_ (i := 7) (N := some 18) (v := ?_) (a' := ?_) #[true, true, true, true, true, true, true, true, true, true, false, false, true, false, false] rfl rfl (any_of HT_.out (by kernel_rfl)) (fun _ _ _ h => h) (Or.inl ⟨by rfl, ?_⟩) ?_ ?_
            rotate_left
            · intro w'
              go_simp
              with_reducible rfl
            rotate_left
            · simp only [Act.put, List.setIfInBounds_toArray, List.set_cons_zero, List.set_cons_succ, i64_w, i32_w]
              rfl
            refine one_ (i := 10) (N := some 21) #[true, true, true, true, true, true, true, true, true, true, true, false, true, false, false] rfl rfl (one_of HT_.out (by kernel_rfl)) (by decide) (fun K hK => ?_)
            refine goes_ Tryd.func10 (by kernel_rfl) rfl #[.int .i64 a0_2, .int .i64 2] (by rfl) rfl rfl (by (try simp only [List.map_toArray, List.map_cons, List.map_nil]); first | done | rfl | (simp only [List.length_drop, List.length_take]; rfl)) ?_
            with_reducible refine (spec_padded.calls k a0_2 2 t113 _ A8.out).mono ?_
            rintro e w15 ⟨rfl, hb⟩
            refine ⟨_, rfl, ?_⟩
            have n0_ := Aside0.mk (blk_below (g := gb110) (o := .cells #[.int .i64 a0_0, .int .i64 a0_1, .int .i64 a0_2, .int .i64 a0_3, .int .i64 a0_4, .int .i64 a0_5, .int .i64 a0_6, .int .i64 a0_7] 23 (0, 0)) (by (with_reducible repeat (first | refine blk_drewN ?_ _ | refine blk_drew ?_ | refine blk_alloc ?_ _)); exact BK110.out) hb)
            have n1_ := Aside0.mk (below_step (by repeat (first | (with_reducible first | exact HB.out | apply below_alloc | apply pw_below_drewN | apply below_drew1 | refine below_set ?_ GE110.out) | exact HB.out)) hb)
            clear BK110
            clear HB
            have BK110 := n0_
            have HB := n1_
            clear n0_ n1_
            (try clear hb)
            (try clear hb2)
            (try clear hk)
            (try clear hi)
            refine hK.out _ _ ⟨(blk_cell BK110.out 0).trans rfl, (blk_cell BK110.out 1).trans rfl, (blk_cell BK110.out 2).trans rfl, (blk_cell BK110.out 3).trans rfl, (blk_cell BK110.out 4).trans rfl, (blk_cell BK110.out 5).trans rfl, (blk_cell BK110.out 6).trans rfl, (blk_cell BK110.out 7).trans rfl⟩ (fun hHeld => ?_)
            clear hK K
            refine norm_ (a' := ?_) ?_ ?_
            rotate_left
            · show Act.put _ (some 21) _ = _
              simp only [Act.put, List.setIfInBounds_toArray, List.set_cons_zero, List.set_cons_succ, i64_w, i32_w]
              rfl
            refine pure_ (i := 11) (N := some 22) (v := ?_) (a' := ?_) #[true, true, true, true, true, true, true, true, true, true, true, true, true, false, false] rfl rfl (any_of HT_.out (by kernel_rfl)) (fun _ _ _ h => h) (Or.inl ⟨by rfl, ?_⟩) ?_ ?_
            rotate_left
            · intro w'
              go_simp
              with_reducible rfl
            rotate_left
            · simp only [Act.put, List.setIfInBounds_toArray, List.set_cons_zero, List.set_cons_succ, i64_w, i32_w]
              rfl
            refine pure_ (i := 13) (N := some 2) (v := ?_) (a' := ?_) #[true, true, true, true, true, true, true, true, true, true, true, true, true, true, false] rfl rfl (any_of HT_.out (by kernel_rfl)) (fun _ _ _ h => h) (Or.inl ⟨by rfl, ?_⟩) ?_ ?_
            rotate_left
            · intro w'
              go_simp
              with_reducible rfl
            rotate_left
            · simp only [Act.put, List.setIfInBounds_toArray, List.set_cons_zero, List.set_cons_succ, i64_w, i32_w]
              rfl
            refine pure_ (i := 14) (N := some 3) (v := ?_) (a' := ?_) #[true, true, true, true, true, true, true, true, true, true, true, true, true, true, true] rfl rfl (any_of HT_.out (by kernel_rfl)) (fun _ _ _ h => h) (Or.inl ⟨by rfl, ?_⟩) ?_ ?_
            rotate_left
            · intro w'
              go_simp
              with_reducible rfl
            rotate_left
            · simp only [Act.put, List.setIfInBounds_toArray, List.set_cons_zero, List.set_cons_succ, i64_w, i32_w]
              rfl
            refine done_ (done_of HT_.out (by kernel_rfl)) ?_
            try go_wp2
            go_ret2
            exact ⟨by first | rfl | (simp [errW_none, errW_some] <;> rfl) | (simp [*, errW_none, errW_some] <;> rfl), by repeat (first | (with_reducible first | exact HB.out | apply below_alloc | apply pw_below_drewN | apply below_drew1 | refine below_set ?_ GE110.out) | exact HB.out)⟩
          · rw [if_neg c9] at H
            exact absurd H (by simp)
        · rw [if_neg c7] at H
          exact absurd H (by simp)
      · rw [if_neg c6] at H
        exact absurd H (by simp)
    · rw [if_neg c4] at H
      exact absurd H (by simp)
  · rw [if_neg c2] at H
    have c2b0 : decide (a0_0 < 1) = false := decide_eq_false c2
    clear c2
    replace H := Option.bind_eq_some_iff.mp H
    obtain ⟨t114, A160, H⟩ := H
    replace H : (if t114.size + 1 ≤ 9223372036854775807 then ((spec_padded.f k a0_1 2).bind fun t115 => (if (t114 ++ (⟨#[45]⟩ : ByteArray)).size + t115.size ≤ 9223372036854775807 then (if ((t114 ++ (⟨#[45]⟩ : ByteArray)) ++ t115).size + 1 ≤ 9223372036854775807 then ((spec_padded.f k a0_2 2).bind fun t116 => (if (((t114 ++ (⟨#[45]⟩ : ByteArray)) ++ t115) ++ (⟨#[45]⟩ : ByteArray)).size + t116.size ≤ 9223372036854775807 then (some ((((t114 ++ (⟨#[45]⟩ : ByteArray)) ++ t115) ++ (⟨#[45]⟩ : ByteArray)) ++ t116, (⟨#[]⟩ : ByteArray))) else (none))) else (none)) else (none))) else (none)) = some (r1, r2) := H
    have A16 := Aside0.mk A160
    clear A160
    by_cases c17 : t114.size + 1 ≤ 9223372036854775807
    · rw [if_pos c17] at H
      have c17b0 := eq_true c17
      have c17b1 : decide (t114.size + 1 ≤ 9223372036854775807) = true := decide_eq_true c17
      try have c17b2 : (9223372036854775807 < t114.size + 1) = False := eq_false (Nat.not_lt.2 c17)
      replace H := Option.bind_eq_some_iff.mp H
      obtain ⟨t115, A180, H⟩ := H
      replace H : (if (t114 ++ (⟨#[45]⟩ : ByteArray)).size + t115.size ≤ 9223372036854775807 then (if ((t114 ++ (⟨#[45]⟩ : ByteArray)) ++ t115).size + 1 ≤ 9223372036854775807 then ((spec_padded.f k a0_2 2).bind fun t116 => (if (((t114 ++ (⟨#[45]⟩ : ByteArray)) ++ t115) ++ (⟨#[45]⟩ : ByteArray)).size + t116.size ≤ 9223372036854775807 then (some ((((t114 ++ (⟨#[45]⟩ : ByteArray)) ++ t115) ++ (⟨#[45]⟩ : ByteArray)) ++ t116, (⟨#[]⟩ : ByteArray))) else (none))) else (none)) else (none)) = some (r1, r2) := H
      have A18 := Aside0.mk A180
      clear A180
      by_cases c19 : (t114 ++ (⟨#[45]⟩ : ByteArray)).size + t115.size ≤ 9223372036854775807
      · rw [if_pos c19] at H
        have c19b0 := eq_true c19
        have c19b1 : decide ((t114 ++ (⟨#[45]⟩ : ByteArray)).size + t115.size ≤ 9223372036854775807) = true := decide_eq_true c19
        try have c19b2 : (9223372036854775807 < (t114 ++ (⟨#[45]⟩ : ByteArray)).size + t115.size) = False := eq_false (Nat.not_lt.2 c19)
        try have c19b3 : (9223372036854775807 < t114.size + 1 + t115.size) = False := eq_false (by have h_ := c19; simp only [ByteArray.size_append, show (⟨#[45]⟩ : ByteArray).size = 1 from rfl] at h_; omega)
        by_cases c20 : ((t114 ++ (⟨#[45]⟩ : ByteArray)) ++ t115).size + 1 ≤ 9223372036854775807
        · rw [if_pos c20] at H
          have c20b0 := eq_true c20
          have c20b1 : decide (((t114 ++ (⟨#[45]⟩ : ByteArray)) ++ t115).size + 1 ≤ 9223372036854775807) = true := decide_eq_true c20
          try have c20b2 : (9223372036854775807 < ((t114 ++ (⟨#[45]⟩ : ByteArray)) ++ t115).size + 1) = False := eq_false (Nat.not_lt.2 c20)
          try have c20b3 : (9223372036854775807 < t114.size + 1 + t115.size + 1) = False := eq_false (by have h_ := c20; simp only [ByteArray.size_append, show (⟨#[45]⟩ : ByteArray).size = 1 from rfl] at h_; omega)
          replace H := Option.bind_eq_some_iff.mp H
          obtain ⟨t116, A210, H⟩ := H
          replace H : (if (((t114 ++ (⟨#[45]⟩ : ByteArray)) ++ t115) ++ (⟨#[45]⟩ : ByteArray)).size + t116.size ≤ 9223372036854775807 then (some ((((t114 ++ (⟨#[45]⟩ : ByteArray)) ++ t115) ++ (⟨#[45]⟩ : ByteArray)) ++ t116, (⟨#[]⟩ : ByteArray))) else (none)) = some (r1, r2) := H
          have A21 := Aside0.mk A210
          clear A210
          by_cases c22 : (((t114 ++ (⟨#[45]⟩ : ByteArray)) ++ t115) ++ (⟨#[45]⟩ : ByteArray)).size + t116.size ≤ 9223372036854775807
          · rw [if_pos c22] at H
            have c22b0 := eq_true c22
            have c22b1 : decide ((((t114 ++ (⟨#[45]⟩ : ByteArray)) ++ t115) ++ (⟨#[45]⟩ : ByteArray)).size + t116.size ≤ 9223372036854775807) = true := decide_eq_true c22
            try have c22b2 : (9223372036854775807 < (((t114 ++ (⟨#[45]⟩ : ByteArray)) ++ t115) ++ (⟨#[45]⟩ : ByteArray)).size + t116.size) = False := eq_false (Nat.not_lt.2 c22)
            try have c22b3 : (9223372036854775807 < t114.size + 1 + t115.size + 1 + t116.size) = False := eq_false (by have h_ := c22; simp only [ByteArray.size_append, show (⟨#[45]⟩ : ByteArray).size = 1 from rfl] at h_; omega)
            simp only [Option.some.injEq, Prod.mk.injEq] at H
            obtain ⟨rfl, rfl⟩ := H
            go_enter Tryd.func5, Tryd.ntmps5
            try go_wp2_with (first | ((with_reducible refine gate_dst (N := 1) rfl ?_); refine box_event ?hg (N := 1) ?hd (cs := #[.int .i64 a0_0, .int .i64 a0_1, .int .i64 a0_2, .int .i64 a0_3, .int .i64 a0_4, .int .i64 a0_5, .int .i64 a0_6, .int .i64 a0_7]) (t := 23) ?hr ?_; (case hd => rfl); (case hg => rfl); (case hr => first | (go_simp; done) | (go_simp; rfl) | (go_simp; simp [IntKind.wrap_u8]; done)); intro gb110 hg w23 hbox hb; have n0_ := Aside0.mk (below_step (by repeat (first | (with_reducible first | exact HB.out | apply below_alloc | apply pw_below_drewN | apply below_drew1) | exact HB.out)) hb); have n1_ := Aside0.mk (hbox); have n2_ := Aside0.mk ((by rw [hg]; exact (below_size (by repeat (first | (with_reducible first | exact HB.out | apply below_alloc | apply pw_below_drewN | apply below_drew1) | exact HB.out))) : w.heap.size ≤ gb110)); have n3_ := Aside0.mk ((by rw [hg]; exact (below_size (by repeat (first | (with_reducible first | exact HB.out | apply below_alloc | apply pw_below_drewN | apply below_drew1) | exact HB.out))) : w.heap.size ≤ gb110)); clear HB; have HB := n0_; have BK110 := n1_; have GW110 := n2_; have GE110 := n3_; clear n0_ n1_ n2_ n3_; clear hb hbox hg; have hcz24_0 : w23.cell? ⟨gb110, 0, none⟩ = some (.int .i64 a0_0) := (blk_cell BK110.out 0).trans rfl; have hcz24_1 : w23.cell? ⟨gb110, 1, none⟩ = some (.int .i64 a0_1) := (blk_cell BK110.out 1).trans rfl; have hcz24_2 : w23.cell? ⟨gb110, 2, none⟩ = some (.int .i64 a0_2) := (blk_cell BK110.out 2).trans rfl; have hcz24_3 : w23.cell? ⟨gb110, 3, none⟩ = some (.int .i64 a0_3) := (blk_cell BK110.out 3).trans rfl; have hcz24_4 : w23.cell? ⟨gb110, 4, none⟩ = some (.int .i64 a0_4) := (blk_cell BK110.out 4).trans rfl; have hcz24_5 : w23.cell? ⟨gb110, 5, none⟩ = some (.int .i64 a0_5) := (blk_cell BK110.out 5).trans rfl; have hcz24_6 : w23.cell? ⟨gb110, 6, none⟩ = some (.int .i64 a0_6) := (blk_cell BK110.out 6).trans rfl; have hcz24_7 : w23.cell? ⟨gb110, 7, none⟩ = some (.int .i64 a0_7) := (blk_cell BK110.out 7).trans rfl; have hfz24_0 := blk_frozen BK110.out 0; have hfz24_1 := blk_frozen BK110.out 1; have hfz24_2 := blk_frozen BK110.out 2; have hfz24_3 := blk_frozen BK110.out 3; have hfz24_4 := blk_frozen BK110.out 4; have hfz24_5 := blk_frozen BK110.out 5; have hfz24_6 := blk_frozen BK110.out 6; have hfz24_7 := blk_frozen BK110.out 7))
            have n0_ := Aside0.mk (blk_drew BK110.out)
            have n1_ := Aside0.mk (below_drew1 HB.out)
            clear BK110
            clear HB
            have BK110 := n0_
            have HB := n1_
            clear n0_ n1_
            refine start_ (n := 15) (S := fun w' => w'.cell? ⟨gb110, 0, none⟩ = some (.int .i64 a0_0) ∧ w'.cell? ⟨gb110, 1, none⟩ = some (.int .i64 a0_1) ∧ w'.cell? ⟨gb110, 2, none⟩ = some (.int .i64 a0_2) ∧ w'.cell? ⟨gb110, 3, none⟩ = some (.int .i64 a0_3) ∧ w'.cell? ⟨gb110, 4, none⟩ = some (.int .i64 a0_4) ∧ w'.cell? ⟨gb110, 5, none⟩ = some (.int .i64 a0_5) ∧ w'.cell? ⟨gb110, 6, none⟩ = some (.int .i64 a0_6) ∧ w'.cell? ⟨gb110, 7, none⟩ = some (.int .i64 a0_7)) (ds := []) #[false, false, false, false, false, false, false, false, false, false, false, false, false, false, false] (by kernel_rfl) rfl rfl ⟨(blk_cell BK110.out 0).trans rfl, (blk_cell BK110.out 1).trans rfl, (blk_cell BK110.out 2).trans rfl, (blk_cell BK110.out 3).trans rfl, (blk_cell BK110.out 4).trans rfl, (blk_cell BK110.out 5).trans rfl, (blk_cell BK110.out 6).trans rfl, (blk_cell BK110.out 7).trans rfl⟩ (fun hHeld => ?_); refine with_tabW spec_DateText.tab4 spec_DateText.bits4 (fun HT_ HW_ => ?_)
            generalize w23.drew = w25 at BK110 HB hHeld ⊢
            refine pure_ (i := 0) (N := some 11) (v := ?_) (a' := ?_) #[true, false, false, false, false, false, false, false, false, false, false, false, false, false, false] rfl rfl (any_of HT_.out (by kernel_rfl)) (fun _ _ _ h => h) (Or.inl ⟨by rfl, ?_⟩) ?_ ?_
            rotate_left
            · intro w'
              go_simp
              with_reducible rfl
            rotate_left
            · simp only [Act.put, List.setIfInBounds_toArray, List.set_cons_zero, List.set_cons_succ, i64_w, i32_w]
              rfl
            refine pure_ (i := 3) (N := some 14) (v := ?_) (a' := ?_) #[true, false, false, true, false, false, false, false, false, false, false, false, false, false, false] rfl rfl (any_of HT_.out (by kernel_rfl)) (fun _ _ _ h => h) (Or.inl ⟨by rfl, ?_⟩) ?_ ?_
            rotate_left
            · intro w'
              go_simp
              with_reducible rfl
            rotate_left
            · simp only [Act.put, List.setIfInBounds_toArray, List.set_cons_zero, List.set_cons_succ, i64_w, i32_w]
              rfl
            refine pure_ (i := 8) (N := some 19) (v := ?_) (a' := ?_) #[true, false, false, true, false, false, false, false, true, false, false, false, false, false, false] rfl rfl (any_of HT_.out (by kernel_rfl)) (fun _ _ _ h => h) (Or.inl ⟨by rfl, ?_⟩) ?_ ?_
            rotate_left
            · intro w'
              go_simp
              with_reducible rfl
            rotate_left
            · simp only [Act.put, List.setIfInBounds_toArray, List.set_cons_zero, List.set_cons_succ, i64_w, i32_w]
              rfl
            refine pure_ (i := 12) (N := some 23) (v := ?_) (a' := ?_) #[true, false, false, true, false, false, false, false, true, false, false, false, true, false, false] rfl rfl (any_of HT_.out (by kernel_rfl)) (fun _ _ _ h => h) (Or.inl ⟨by rfl, ?_⟩) ?_ ?_
            rotate_left
            · intro w'
              go_simp
              with_reducible rfl
            rotate_left
            · simp only [Act.put, List.setIfInBounds_toArray, List.set_cons_zero, List.set_cons_succ, i64_w, i32_w]
              rfl
            refine take_ (i := 4) (N := some 15) (v := ?_) (a' := ?_) #[true, false, false, true, true, false, false, false, true, false, false, false, true, false, false] rfl rfl (take_ofW HT_.out HW_.out (by kernel_rfl)) (fun _ _ _ h => h) (Or.inl ⟨by rfl, ?_⟩) hHeld ?_ ?_
            rotate_left
            · rintro w' ⟨s0, s1, s2, s3, s4, s5, s6, s7⟩
              go_simp
              with_reducible rfl
            rotate_left
            · simp only [Act.put, List.setIfInBounds_toArray, List.set_cons_zero, List.set_cons_succ, i64_w, i32_w]
              rfl
            refine take_ (i := 9) (N := some 20) (v := ?_) (a' := ?_) #[true, false, false, true, true, false, false, false, true, true, false, false, true, false, false] rfl rfl (take_ofW HT_.out HW_.out (by kernel_rfl)) (fun _ _ _ h => h) (Or.inl ⟨by rfl, ?_⟩) hHeld ?_ ?_
            rotate_left
            · rintro w' ⟨s0, s1, s2, s3, s4, s5, s6, s7⟩
              go_simp
              with_reducible rfl
            rotate_left
            · simp only [Act.put, List.setIfInBounds_toArray, List.set_cons_zero, List.set_cons_succ, i64_w, i32_w]
              rfl
            refine one_ (i := 1) (N := some 12) #[true, true, false, true, true, false, false, false, true, true, false, false, true, false, false] rfl rfl (one_of HT_.out (by kernel_rfl)) (by decide) (fun K hK => ?_)
            refine goes_ Tryd.func10 (by kernel_rfl) rfl #[.int .i64 a0_0, .int .i64 4] (by rfl) rfl rfl (by (try simp only [List.map_toArray, List.map_cons, List.map_nil]); first | done | rfl | (simp only [List.length_drop, List.length_take]; rfl)) ?_
            with_reducible refine (spec_padded.calls k a0_0 4 t114 _ A16.out).mono ?_
            rintro e w26 ⟨rfl, hb⟩
            refine ⟨_, rfl, ?_⟩
            have n0_ := Aside0.mk (blk_below (g := gb110) (o := .cells #[.int .i64 a0_0, .int .i64 a0_1, .int .i64 a0_2, .int .i64 a0_3, .int .i64 a0_4, .int .i64 a0_5, .int .i64 a0_6, .int .i64 a0_7] 23 (0, 0)) (by (with_reducible repeat (first | refine blk_drewN ?_ _ | refine blk_drew ?_ | refine blk_alloc ?_ _)); exact BK110.out) hb)
            have n1_ := Aside0.mk (below_step (by repeat (first | (with_reducible first | exact HB.out | apply below_alloc | apply pw_below_drewN | apply below_drew1 | refine below_set ?_ GE110.out) | exact HB.out)) hb)
            clear BK110
            clear HB
            have BK110 := n0_
            have HB := n1_
            clear n0_ n1_
            (try clear hb)
            (try clear hb2)
            (try clear hk)
            (try clear hi)
            refine hK.out _ _ ⟨(blk_cell BK110.out 0).trans rfl, (blk_cell BK110.out 1).trans rfl, (blk_cell BK110.out 2).trans rfl, (blk_cell BK110.out 3).trans rfl, (blk_cell BK110.out 4).trans rfl, (blk_cell BK110.out 5).trans rfl, (blk_cell BK110.out 6).trans rfl, (blk_cell BK110.out 7).trans rfl⟩ (fun hHeld => ?_)
            clear hK K
            refine norm_ (a' := ?_) ?_ ?_
            rotate_left
            · show Act.put _ (some 12) _ = _
              simp only [Act.put, List.setIfInBounds_toArray, List.set_cons_zero, List.set_cons_succ, i64_w, i32_w]
              rfl
            refine pure_ (i := 2) (N := some 13) (v := ?_) (a' := ?_) #[true, true, true, true, true, false, false, false, true, true, false, false, true, false, false] rfl rfl (any_of HT_.out (by kernel_rfl)) (fun _ _ _ h => h) (Or.inl ⟨by rfl, ?_⟩) ?_ ?_
            rotate_left
            · intro w'
              go_simp
              with_reducible rfl
            rotate_left
            · simp only [Act.put, List.setIfInBounds_toArray, List.set_cons_zero, List.set_cons_succ, i64_w, i32_w]
              rfl
            refine one_ (i := 5) (N := some 16) #[true, true, true, true, true, true, false, false, true, true, false, false, true, false, false] rfl rfl (one_of HT_.out (by kernel_rfl)) (by decide) (fun K hK => ?_)
            refine goes_ Tryd.func10 (by kernel_rfl) rfl #[.int .i64 a0_1, .int .i64 2] (by rfl) rfl rfl (by (try simp only [List.map_toArray, List.map_cons, List.map_nil]); first | done | rfl | (simp only [List.length_drop, List.length_take]; rfl)) ?_
            with_reducible refine (spec_padded.calls k a0_1 2 t115 _ A18.out).mono ?_
            rintro e w27 ⟨rfl, hb⟩
            refine ⟨_, rfl, ?_⟩
            have n0_ := Aside0.mk (blk_below (g := gb110) (o := .cells #[.int .i64 a0_0, .int .i64 a0_1, .int .i64 a0_2, .int .i64 a0_3, .int .i64 a0_4, .int .i64 a0_5, .int .i64 a0_6, .int .i64 a0_7] 23 (0, 0)) (by (with_reducible repeat (first | refine blk_drewN ?_ _ | refine blk_drew ?_ | refine blk_alloc ?_ _)); exact BK110.out) hb)
            have n1_ := Aside0.mk (below_step (by repeat (first | (with_reducible first | exact HB.out | apply below_alloc | apply pw_below_drewN | apply below_drew1 | refine below_set ?_ GE110.out) | exact HB.out)) hb)
            clear BK110
            clear HB
            have BK110 := n0_
            have HB := n1_
            clear n0_ n1_
            (try clear hb)
            (try clear hb2)
            (try clear hk)
            (try clear hi)
            refine hK.out _ _ ⟨(blk_cell BK110.out 0).trans rfl, (blk_cell BK110.out 1).trans rfl, (blk_cell BK110.out 2).trans rfl, (blk_cell BK110.out 3).trans rfl, (blk_cell BK110.out 4).trans rfl, (blk_cell BK110.out 5).trans rfl, (blk_cell BK110.out 6).trans rfl, (blk_cell BK110.out 7).trans rfl⟩ (fun hHeld => ?_)
            clear hK K
            refine norm_ (a' := ?_) ?_ ?_
            rotate_left
            · show Act.put _ (some 16) _ = _
              simp only [Act.put, List.setIfInBounds_toArray, List.set_cons_zero, List.set_cons_succ, i64_w, i32_w]
              rfl
            refine pure_ (i := 6) (N := some 17) (v := ?_) (a' := ?_) #[true, true, true, true, true, true, true, false, true, true, false, false, true, false, false] rfl rfl (any_of HT_.out (by kernel_rfl)) (fun _ _ _ h => h) (Or.inl ⟨by rfl, ?_⟩) ?_ ?_
            rotate_left
            · intro w'
              go_simp
              with_reducible rfl
            rotate_left
            · simp only [Act.put, List.setIfInBounds_toArray, List.set_cons_zero, List.set_cons_succ, i64_w, i32_w]
              rfl
            refine pure_ (i := 7) (N := some 18) (v := ?_) (a' := ?_) #[true, true, true, true, true, true, true, true, true, true, false, false, true, false, false] rfl rfl (any_of HT_.out (by kernel_rfl)) (fun _ _ _ h => h) (Or.inl ⟨by rfl, ?_⟩) ?_ ?_
            rotate_left
            · intro w'
              go_simp
              with_reducible rfl
            rotate_left
            · simp only [Act.put, List.setIfInBounds_toArray, List.set_cons_zero, List.set_cons_succ, i64_w, i32_w]
              rfl
            refine one_ (i := 10) (N := some 21) #[true, true, true, true, true, true, true, true, true, true, true, false, true, false, false] rfl rfl (one_of HT_.out (by kernel_rfl)) (by decide) (fun K hK => ?_)
            refine goes_ Tryd.func10 (by kernel_rfl) rfl #[.int .i64 a0_2, .int .i64 2] (by rfl) rfl rfl (by (try simp only [List.map_toArray, List.map_cons, List.map_nil]); first | done | rfl | (simp only [List.length_drop, List.length_take]; rfl)) ?_
            with_reducible refine (spec_padded.calls k a0_2 2 t116 _ A21.out).mono ?_
            rintro e w28 ⟨rfl, hb⟩
            refine ⟨_, rfl, ?_⟩
            have n0_ := Aside0.mk (blk_below (g := gb110) (o := .cells #[.int .i64 a0_0, .int .i64 a0_1, .int .i64 a0_2, .int .i64 a0_3, .int .i64 a0_4, .int .i64 a0_5, .int .i64 a0_6, .int .i64 a0_7] 23 (0, 0)) (by (with_reducible repeat (first | refine blk_drewN ?_ _ | refine blk_drew ?_ | refine blk_alloc ?_ _)); exact BK110.out) hb)
            have n1_ := Aside0.mk (below_step (by repeat (first | (with_reducible first | exact HB.out | apply below_alloc | apply pw_below_drewN | apply below_drew1 | refine below_set ?_ GE110.out) | exact HB.out)) hb)
            clear BK110
            clear HB
            have BK110 := n0_
            have HB := n1_
            clear n0_ n1_
            (try clear hb)
            (try clear hb2)
            (try clear hk)
            (try clear hi)
            refine hK.out _ _ ⟨(blk_cell BK110.out 0).trans rfl, (blk_cell BK110.out 1).trans rfl, (blk_cell BK110.out 2).trans rfl, (blk_cell BK110.out 3).trans rfl, (blk_cell BK110.out 4).trans rfl, (blk_cell BK110.out 5).trans rfl, (blk_cell BK110.out 6).trans rfl, (blk_cell BK110.out 7).trans rfl⟩ (fun hHeld => ?_)
            clear hK K
            refine norm_ (a' := ?_) ?_ ?_
            rotate_left
            · show Act.put _ (some 21) _ = _
              simp only [Act.put, List.setIfInBounds_toArray, List.set_cons_zero, List.set_cons_succ, i64_w, i32_w]
              rfl
            refine pure_ (i := 11) (N := some 22) (v := ?_) (a' := ?_) #[true, true, true, true, true, true, true, true, true, true, true, true, true, false, false] rfl rfl (any_of HT_.out (by kernel_rfl)) (fun _ _ _ h => h) (Or.inl ⟨by rfl, ?_⟩) ?_ ?_
            rotate_left
            · intro w'
              go_simp
              with_reducible rfl
            rotate_left
            · simp only [Act.put, List.setIfInBounds_toArray, List.set_cons_zero, List.set_cons_succ, i64_w, i32_w]
              rfl
            refine pure_ (i := 13) (N := some 2) (v := ?_) (a' := ?_) #[true, true, true, true, true, true, true, true, true, true, true, true, true, true, false] rfl rfl (any_of HT_.out (by kernel_rfl)) (fun _ _ _ h => h) (Or.inl ⟨by rfl, ?_⟩) ?_ ?_
            rotate_left
            · intro w'
              go_simp
              with_reducible rfl
            rotate_left
            · simp only [Act.put, List.setIfInBounds_toArray, List.set_cons_zero, List.set_cons_succ, i64_w, i32_w]
              rfl
            refine pure_ (i := 14) (N := some 3) (v := ?_) (a' := ?_) #[true, true, true, true, true, true, true, true, true, true, true, true, true, true, true] rfl rfl (any_of HT_.out (by kernel_rfl)) (fun _ _ _ h => h) (Or.inl ⟨by rfl, ?_⟩) ?_ ?_
            rotate_left
            · intro w'
              go_simp
              with_reducible rfl
            rotate_left
            · simp only [Act.put, List.setIfInBounds_toArray, List.set_cons_zero, List.set_cons_succ, i64_w, i32_w]
              rfl
            refine done_ (done_of HT_.out (by kernel_rfl)) ?_
            try go_wp2
            go_ret2
            exact ⟨by first | rfl | (simp [errW_none, errW_some] <;> rfl) | (simp [*, errW_none, errW_some] <;> rfl), by repeat (first | (with_reducible first | exact HB.out | apply below_alloc | apply pw_below_drewN | apply below_drew1 | refine below_set ?_ GE110.out) | exact HB.out)⟩
          · rw [if_neg c22] at H
            exact absurd H (by simp)
        · rw [if_neg c20] at H
          exact absurd H (by simp)
      · rw [if_neg c19] at H
        exact absurd H (by simp)
    · rw [if_neg c17] at H
      exact absurd H (by simp)

/-! ### spec_ZoneText: function 6 -/
mutual
def spec_ZoneText.j0 : Nat → Int → Int → ByteArray → Option (ByteArray)
  | 0, _, _, _ => none
  | k + 1, x0, x1, x5 => (spec_padded.f k (wrap64 (Int.tdiv x0 3600)) 2).bind fun t117 => (if x5.size + t117.size ≤ 9223372036854775807 then (if (Int.tmod x0 3600) > 0 then (spec_ZoneText.j1 k x0 x1 (x5 ++ t117) true) else (spec_ZoneText.j1 k x0 x1 (x5 ++ t117) (decide (x1 > 1)))) else (none))
def spec_ZoneText.j1 : Nat → Int → Int → ByteArray → Bool → Option (ByteArray)
  | 0, _, _, _, _ => none
  | k + 1, x0, x1, x5, x21 => if x21 = true then ((spec_padded.f k (Int.tmod (wrap64 (Int.tdiv x0 60)) 60) 2).bind fun t118 => (if 1 + t118.size ≤ 9223372036854775807 then (if x5.size + ((⟨#[58]⟩ : ByteArray) ++ t118).size ≤ 9223372036854775807 then (if (Int.tmod x0 60) > 0 then ((spec_padded.f k (Int.tmod x0 60) 2).bind fun t119 => (if 1 + t119.size ≤ 9223372036854775807 then (if (x5 ++ ((⟨#[58]⟩ : ByteArray) ++ t118)).size + ((⟨#[58]⟩ : ByteArray) ++ t119).size ≤ 9223372036854775807 then (some ((x5 ++ ((⟨#[58]⟩ : ByteArray) ++ t118)) ++ ((⟨#[58]⟩ : ByteArray) ++ t119))) else (none)) else (none))) else (if x1 > 2 then ((spec_padded.f k (Int.tmod x0 60) 2).bind fun t120 => (if 1 + t120.size ≤ 9223372036854775807 then (if (x5 ++ ((⟨#[58]⟩ : ByteArray) ++ t118)).size + ((⟨#[58]⟩ : ByteArray) ++ t120).size ≤ 9223372036854775807 then (some ((x5 ++ ((⟨#[58]⟩ : ByteArray) ++ t118)) ++ ((⟨#[58]⟩ : ByteArray) ++ t120))) else (none)) else (none))) else (some (x5 ++ ((⟨#[58]⟩ : ByteArray) ++ t118))))) else (none)) else (none))) else (if (Int.tmod x0 60) > 0 then ((spec_padded.f k (Int.tmod x0 60) 2).bind fun t121 => (if 1 + t121.size ≤ 9223372036854775807 then (if x5.size + ((⟨#[58]⟩ : ByteArray) ++ t121).size ≤ 9223372036854775807 then (some (x5 ++ ((⟨#[58]⟩ : ByteArray) ++ t121))) else (none)) else (none))) else (if x1 > 2 then ((spec_padded.f k (Int.tmod x0 60) 2).bind fun t122 => (if 1 + t122.size ≤ 9223372036854775807 then (if x5.size + ((⟨#[58]⟩ : ByteArray) ++ t122).size ≤ 9223372036854775807 then (some (x5 ++ ((⟨#[58]⟩ : ByteArray) ++ t122))) else (none)) else (none))) else (some x5)))
end
def spec_ZoneText.f (k : Nat) (a0 : Int) (a1 : Int) : Option (ByteArray) := if a0 < 0 then (spec_ZoneText.j0 k (wrap64 (-a0)) a1 (⟨#[45]⟩ : ByteArray)) else (spec_ZoneText.j0 k a0 a1 (⟨#[43]⟩ : ByteArray))
theorem spec_ZoneText.mono_l : ∀ k, (∀ y0 y1 y2, LeO (spec_ZoneText.j0 k y0 y1 y2) (spec_ZoneText.j0 (k + 1) y0 y1 y2)) ∧ (∀ y0 y1 y2 y3, LeO (spec_ZoneText.j1 k y0 y1 y2 y3) (spec_ZoneText.j1 (k + 1) y0 y1 y2 y3))
  | 0 => ⟨fun _ _ _ r h => by simp [spec_ZoneText.j0] at h, fun _ _ _ _ r h => by simp [spec_ZoneText.j1] at h⟩
  | k + 1 => by
    obtain ⟨ih0, ih1⟩ := spec_ZoneText.mono_l k
    refine ⟨?_, ?_⟩
    · intro y0 y1 y2
      unfold spec_ZoneText.j0
      repeat' first
      | (with_reducible exact ih0 _ _ _)
      | (with_reducible exact ih1 _ _ _ _)
      | (with_reducible exact spec_padded.mono _ _ _)
      | (with_reducible exact LeO.refl _)
      | (with_reducible exact LeO.none _)
      | (with_reducible refine LeO.ite ?_ ?_)
      | (with_reducible refine LeO.bind ?_ (fun _ => ?_))
      | exact ih0 _ _ _
      | exact ih1 _ _ _ _
      | exact spec_padded.mono _ _ _
      | exact LeO.none _
      | refine LeO.ite ?_ ?_
      | refine LeO.bind ?_ (fun _ => ?_)
    · intro y0 y1 y2 y3
      unfold spec_ZoneText.j1
      repeat' first
      | (with_reducible exact ih0 _ _ _)
      | (with_reducible exact ih1 _ _ _ _)
      | (with_reducible exact spec_padded.mono _ _ _)
      | (with_reducible exact LeO.refl _)
      | (with_reducible exact LeO.none _)
      | (with_reducible refine LeO.ite ?_ ?_)
      | (with_reducible refine LeO.bind ?_ (fun _ => ?_))
      | exact ih0 _ _ _
      | exact ih1 _ _ _ _
      | exact spec_padded.mono _ _ _
      | exact LeO.none _
      | refine LeO.ite ?_ ?_
      | refine LeO.bind ?_ (fun _ => ?_)
theorem spec_ZoneText.mono : ∀ a0 a1 k, LeO (spec_ZoneText.f k a0 a1) (spec_ZoneText.f (k + 1) a0 a1) := by
  intro a0 a1 k
  obtain ⟨ih0, ih1⟩ := spec_ZoneText.mono_l k
  unfold spec_ZoneText.f
  repeat' first
      | (with_reducible exact ih0 _ _ _)
      | (with_reducible exact ih1 _ _ _ _)
      | (with_reducible exact spec_padded.mono _ _ _)
      | (with_reducible exact LeO.refl _)
      | (with_reducible exact LeO.none _)
      | (with_reducible refine LeO.ite ?_ ?_)
      | (with_reducible refine LeO.bind ?_ (fun _ => ?_))
      | exact ih0 _ _ _
      | exact ih1 _ _ _ _
      | exact spec_padded.mono _ _ _
      | exact LeO.none _
      | refine LeO.ite ?_ ?_
      | refine LeO.bind ?_ (fun _ => ?_)
set_option maxHeartbeats 8000000 in
set_option maxRecDepth 100000 in
theorem spec_ZoneText.calls (k : Nat) (a0 : Int) (a1 : Int) (r : ByteArray) (w : World) (h : spec_ZoneText.f k a0 a1 = some r) :
    Calls Tryd.prog 6 #[.int .i64 a0, .int .i64 a1] w fun e w' => e = .returned (.string r) ∧ Below w.heap.size w w' := by
  have HB := Aside0.mk (Below.refl w.heap.size w)
  have H : (if a0 < 0 then (spec_ZoneText.j0 k (wrap64 (-a0)) a1 (⟨#[45]⟩ : ByteArray)) else (spec_ZoneText.j0 k a0 a1 (⟨#[43]⟩ : ByteArray))) = some r := h
  clear h
  have HC3 := Aside0.mk H
  clear H
  go_enter Tryd.func6, Tryd.ntmps6
  go_upto_if 7 with (fail)
  go_cut [0, 5] (fun v0 v5 wc => ∃ (kq : Nat) (x0_2 : Int) (x5_2 : ByteArray), v0 = .int .i64 x0_2 ∧ v5 = .string x5_2 ∧ Aside0 (spec_ZoneText.j0 kq x0_2 a1 x5_2 = some r) ∧ Aside0 (kq ≤ k) ∧ Aside0 (Below w.heap.size w wc))
  case first =>
    have H := HC3.out
    clear HC3
    by_cases c4 : a0 < 0
    · rw [if_pos c4] at H
      have c4b0 : decide (a0 < 0) = true := decide_eq_true c4
      clear c4
      (first | rw [c4b0] | (simp only [i64_w, i32_w]; rw [c4b0]) | skip)
      have H' := Aside0.mk H
      clear H
      go_wp2
      go_meet
      case rel => exact ⟨_, (wrap64 (-a0)), ((⟨#[45]⟩ : ByteArray)), (by first | rfl | (simp; done) | (simp [*]; done)), (by first | rfl | (simp; done) | (simp [*]; done)), H', ⟨by first | omega | exact Nat.le_refl _⟩, ⟨by repeat (first | (with_reducible first | exact HB.out | apply below_alloc | apply pw_below_drewN | apply below_drew1) | exact HB.out)⟩⟩
    · rw [if_neg c4] at H
      have c4b0 : decide (a0 < 0) = false := decide_eq_false c4
      clear c4
      (first | rw [c4b0] | (simp only [i64_w, i32_w]; rw [c4b0]) | skip)
      have H' := Aside0.mk H
      clear H
      go_wp2
      go_meet
      case rel => exact ⟨_, (a0), ((⟨#[43]⟩ : ByteArray)), (by first | rfl | (simp; done) | (simp [*]; done)), (by first | rfl | (simp; done) | (simp [*]; done)), H', ⟨by first | omega | exact Nat.le_refl _⟩, ⟨by repeat (first | (with_reducible first | exact HB.out | apply below_alloc | apply pw_below_drewN | apply below_drew1) | exact HB.out)⟩⟩
  case rest =>
    clear HC3
    try clear p2
    try clear c4
    try clear c4b0
    obtain ⟨kq, x0_2, x5_2, rfl, rfl, HA, HJ2, HB⟩ := hcut
    cases kq with
    | zero => exact absurd HA.out (by simp [spec_ZoneText.j0])
    | succ kj2 =>
      have H := HA.out
      clear HA
      simp only [spec_ZoneText.j0] at H
      replace H := Option.bind_eq_some_iff.mp H
      obtain ⟨t117, A50, H⟩ := H
      replace H : (if x5_2.size + t117.size ≤ 9223372036854775807 then (if (Int.tmod x0_2 3600) > 0 then (spec_ZoneText.j1 kj2 x0_2 a1 (x5_2 ++ t117) true) else (spec_ZoneText.j1 kj2 x0_2 a1 (x5_2 ++ t117) (decide (a1 > 1)))) else (none)) = some r := H
      have A5 := Aside0.mk A50
      clear A50
      by_cases c6 : x5_2.size + t117.size ≤ 9223372036854775807
      · rw [if_pos c6] at H
        have c6b0 := eq_true c6
        have c6b1 : decide (x5_2.size + t117.size ≤ 9223372036854775807) = true := decide_eq_true c6
        try have c6b2 : (9223372036854775807 < x5_2.size + t117.size) = False := eq_false (Nat.not_lt.2 c6)
        have HC7 := Aside0.mk H
        clear H
        go_upto_region 5 with (first | ((with_reducible refine gate_callee (f := 10) rfl ?_); refine goesL_ (some 13) rfl rfl Tryd.func10 (by kernel_rfl) rfl #[.int .i64 (wrap64 (Int.tdiv x0_2 3600)), .int .i64 2] rfl (by (try simp only [List.map_toArray, List.map_cons, List.map_nil]); first | done | rfl | (simp only [List.length_drop, List.length_take]; rfl)) ?_; (with_reducible refine (spec_padded.calls kj2 (wrap64 (Int.tdiv x0_2 3600)) 2 t117 _ A5.out).mono ?_); rintro e w8 ⟨rfl, hb⟩; refine ⟨_, rfl, ?_⟩; have n0_ := Aside0.mk (below_step (by repeat (first | (with_reducible first | exact HB.out | apply below_alloc | apply pw_below_drewN | apply below_drew1) | exact HB.out)) hb); clear HB; have HB := n0_; clear n0_; (try clear hb); (try clear hb2); (try clear hk); (try clear hi)))
        (try simp only [Act.put, List.setIfInBounds_toArray, List.set_cons_zero, List.set_cons_succ])
        go_cut [21] (fun v21 wc => ∃ (kq : Nat) (x21_6 : Bool), v21 = .bool x21_6 ∧ Aside0 (spec_ZoneText.j1 kq x0_2 a1 (x5_2 ++ t117) x21_6 = some r) ∧ Aside0 (kq ≤ kj2) ∧ Aside0 (Below w.heap.size w wc))
        case first =>
          have H := HC7.out
          clear HC7
          by_cases c9 : (Int.tmod x0_2 3600) > 0
          · rw [if_pos c9] at H
            have c9b0 : decide (0 < (Int.tmod x0_2 3600)) = true := decide_eq_true c9
            clear c9
            (first | rw [c9b0] | (simp only [i64_w, i32_w]; rw [c9b0]) | skip)
            have H' := Aside0.mk H
            clear H
            go_wp2
            go_meet
            case rel => exact ⟨_, (true), (by first | rfl | (simp; done) | (simp [*]; done)), H', ⟨by have := HJ2.out; first | omega | exact Nat.le_refl _⟩, ⟨by repeat (first | (with_reducible first | exact HB.out | apply below_alloc | apply pw_below_drewN | apply below_drew1) | exact HB.out)⟩⟩
          · rw [if_neg c9] at H
            have c9b0 : decide (0 < (Int.tmod x0_2 3600)) = false := decide_eq_false c9
            clear c9
            (first | rw [c9b0] | (simp only [i64_w, i32_w]; rw [c9b0]) | skip)
            have H' := Aside0.mk H
            clear H
            go_wp2
            go_meet
            case rel => exact ⟨_, (decide (a1 > 1)), (by first | rfl | (simp; done) | (simp [*]; done)), H', ⟨by have := HJ2.out; first | omega | exact Nat.le_refl _⟩, ⟨by repeat (first | (with_reducible first | exact HB.out | apply below_alloc | apply pw_below_drewN | apply below_drew1) | exact HB.out)⟩⟩
        case rest =>
          clear HC7
          try clear c1
          try clear p2
          try clear c4
          try clear c4b0
          try clear c6
          try clear c6b0
          try clear c6b1
          try clear c6b2
          try clear p6
          try clear c9
          try clear c9b0
          try clear p2
          obtain ⟨kq, x21_6, rfl, HA, HJ6, HB⟩ := hcut
          cases kq with
          | zero => exact absurd HA.out (by simp [spec_ZoneText.j1])
          | succ kj6 =>
            have H := HA.out
            clear HA
            simp only [spec_ZoneText.j1] at H
            by_cases c10 : x21_6 = true
            · subst c10
              have H1 : ((spec_padded.f kj6 (Int.tmod (wrap64 (Int.tdiv x0_2 60)) 60) 2).bind fun t118 => (if 1 + t118.size ≤ 9223372036854775807 then (if (x5_2 ++ t117).size + ((⟨#[58]⟩ : ByteArray) ++ t118).size ≤ 9223372036854775807 then (if (Int.tmod x0_2 60) > 0 then ((spec_padded.f kj6 (Int.tmod x0_2 60) 2).bind fun t119 => (if 1 + t119.size ≤ 9223372036854775807 then (if ((x5_2 ++ t117) ++ ((⟨#[58]⟩ : ByteArray) ++ t118)).size + ((⟨#[58]⟩ : ByteArray) ++ t119).size ≤ 9223372036854775807 then (some (((x5_2 ++ t117) ++ ((⟨#[58]⟩ : ByteArray) ++ t118)) ++ ((⟨#[58]⟩ : ByteArray) ++ t119))) else (none)) else (none))) else (if a1 > 2 then ((spec_padded.f kj6 (Int.tmod x0_2 60) 2).bind fun t120 => (if 1 + t120.size ≤ 9223372036854775807 then (if ((x5_2 ++ t117) ++ ((⟨#[58]⟩ : ByteArray) ++ t118)).size + ((⟨#[58]⟩ : ByteArray) ++ t120).size ≤ 9223372036854775807 then (some (((x5_2 ++ t117) ++ ((⟨#[58]⟩ : ByteArray) ++ t118)) ++ ((⟨#[58]⟩ : ByteArray) ++ t120))) else (none)) else (none))) else (some ((x5_2 ++ t117) ++ ((⟨#[58]⟩ : ByteArray) ++ t118))))) else (none)) else (none))) = some r := by rw [if_pos rfl] at H; exact H
              clear H
              have H := H1
              clear H1
              replace H := Option.bind_eq_some_iff.mp H
              obtain ⟨t118, A110, H⟩ := H
              replace H : (if 1 + t118.size ≤ 9223372036854775807 then (if (x5_2 ++ t117).size + ((⟨#[58]⟩ : ByteArray) ++ t118).size ≤ 9223372036854775807 then (if (Int.tmod x0_2 60) > 0 then ((spec_padded.f kj6 (Int.tmod x0_2 60) 2).bind fun t119 => (if 1 + t119.size ≤ 9223372036854775807 then (if ((x5_2 ++ t117) ++ ((⟨#[58]⟩ : ByteArray) ++ t118)).size + ((⟨#[58]⟩ : ByteArray) ++ t119).size ≤ 9223372036854775807 then (some (((x5_2 ++ t117) ++ ((⟨#[58]⟩ : ByteArray) ++ t118)) ++ ((⟨#[58]⟩ : ByteArray) ++ t119))) else (none)) else (none))) else (if a1 > 2 then ((spec_padded.f kj6 (Int.tmod x0_2 60) 2).bind fun t120 => (if 1 + t120.size ≤ 9223372036854775807 then (if ((x5_2 ++ t117) ++ ((⟨#[58]⟩ : ByteArray) ++ t118)).size + ((⟨#[58]⟩ : ByteArray) ++ t120).size ≤ 9223372036854775807 then (some (((x5_2 ++ t117) ++ ((⟨#[58]⟩ : ByteArray) ++ t118)) ++ ((⟨#[58]⟩ : ByteArray) ++ t120))) else (none)) else (none))) else (some ((x5_2 ++ t117) ++ ((⟨#[58]⟩ : ByteArray) ++ t118))))) else (none)) else (none)) = some r := H
              have A11 := Aside0.mk A110
              clear A110
              by_cases c12 : 1 + t118.size ≤ 9223372036854775807
              · rw [if_pos c12] at H
                have c12b0 := eq_true c12
                have c12b1 : decide (1 + t118.size ≤ 9223372036854775807) = true := decide_eq_true c12
                try have c12b2 : (9223372036854775807 < 1 + t118.size) = False := eq_false (Nat.not_lt.2 c12)
                by_cases c13 : (x5_2 ++ t117).size + ((⟨#[58]⟩ : ByteArray) ++ t118).size ≤ 9223372036854775807
                · rw [if_pos c13] at H
                  have c13b0 := eq_true c13
                  have c13b1 : decide ((x5_2 ++ t117).size + ((⟨#[58]⟩ : ByteArray) ++ t118).size ≤ 9223372036854775807) = true := decide_eq_true c13
                  try have c13b2 : (9223372036854775807 < (x5_2 ++ t117).size + ((⟨#[58]⟩ : ByteArray) ++ t118).size) = False := eq_false (Nat.not_lt.2 c13)
                  try have c13b3 : (9223372036854775807 < x5_2.size + t117.size + (1 + t118.size)) = False := eq_false (by have h_ := c13; simp only [ByteArray.size_append, show (⟨#[58]⟩ : ByteArray).size = 1 from rfl] at h_; omega)
                  by_cases c14 : (Int.tmod x0_2 60) > 0
                  · rw [if_pos c14] at H
                    have c14b0 : decide (0 < (Int.tmod x0_2 60)) = true := decide_eq_true c14
                    clear c14
                    replace H := Option.bind_eq_some_iff.mp H
                    obtain ⟨t119, A150, H⟩ := H
                    replace H : (if 1 + t119.size ≤ 9223372036854775807 then (if ((x5_2 ++ t117) ++ ((⟨#[58]⟩ : ByteArray) ++ t118)).size + ((⟨#[58]⟩ : ByteArray) ++ t119).size ≤ 9223372036854775807 then (some (((x5_2 ++ t117) ++ ((⟨#[58]⟩ : ByteArray) ++ t118)) ++ ((⟨#[58]⟩ : ByteArray) ++ t119))) else (none)) else (none)) = some r := H
                    have A15 := Aside0.mk A150
                    clear A150
                    by_cases c16 : 1 + t119.size ≤ 9223372036854775807
                    · rw [if_pos c16] at H
                      have c16b0 := eq_true c16
                      have c16b1 : decide (1 + t119.size ≤ 9223372036854775807) = true := decide_eq_true c16
                      try have c16b2 : (9223372036854775807 < 1 + t119.size) = False := eq_false (Nat.not_lt.2 c16)
                      by_cases c17 : ((x5_2 ++ t117) ++ ((⟨#[58]⟩ : ByteArray) ++ t118)).size + ((⟨#[58]⟩ : ByteArray) ++ t119).size ≤ 9223372036854775807
                      · rw [if_pos c17] at H
                        have c17b0 := eq_true c17
                        have c17b1 : decide (((x5_2 ++ t117) ++ ((⟨#[58]⟩ : ByteArray) ++ t118)).size + ((⟨#[58]⟩ : ByteArray) ++ t119).size ≤ 9223372036854775807) = true := decide_eq_true c17
                        try have c17b2 : (9223372036854775807 < ((x5_2 ++ t117) ++ ((⟨#[58]⟩ : ByteArray) ++ t118)).size + ((⟨#[58]⟩ : ByteArray) ++ t119).size) = False := eq_false (Nat.not_lt.2 c17)
                        try have c17b3 : (9223372036854775807 < x5_2.size + t117.size + (1 + t118.size) + (1 + t119.size)) = False := eq_false (by have h_ := c17; simp only [ByteArray.size_append, show (⟨#[58]⟩ : ByteArray).size = 1 from rfl] at h_; omega)
                        obtain rfl := Option.some.inj H
                        go_wp2_with (first | ((with_reducible refine gate_callee (f := 10) rfl ?_); refine goesL_ (some 26) rfl rfl Tryd.func10 (by kernel_rfl) rfl #[.int .i64 (Int.tmod (wrap64 (Int.tdiv x0_2 60)) 60), .int .i64 2] rfl (by (try simp only [List.map_toArray, List.map_cons, List.map_nil]); first | done | rfl | (simp only [List.length_drop, List.length_take]; rfl)) ?_; (with_reducible refine (spec_padded.calls kj6 (Int.tmod (wrap64 (Int.tdiv x0_2 60)) 60) 2 t118 _ A11.out).mono ?_); rintro e w18 ⟨rfl, hb⟩; refine ⟨_, rfl, ?_⟩; have n0_ := Aside0.mk (below_step (by repeat (first | (with_reducible first | exact HB.out | apply below_alloc | apply pw_below_drewN | apply below_drew1) | exact HB.out)) hb); clear HB; have HB := n0_; clear n0_; (try clear hb); (try clear hb2); (try clear hk); (try clear hi)) | ((with_reducible refine gate_callee (f := 10) rfl ?_); refine goesL_ (some 39) rfl rfl Tryd.func10 (by kernel_rfl) rfl #[.int .i64 (Int.tmod x0_2 60), .int .i64 2] rfl (by (try simp only [List.map_toArray, List.map_cons, List.map_nil]); first | done | rfl | (simp only [List.length_drop, List.length_take]; rfl)) ?_; (with_reducible refine (spec_padded.calls kj6 (Int.tmod x0_2 60) 2 t119 _ A15.out).mono ?_); rintro e w19 ⟨rfl, hb⟩; refine ⟨_, rfl, ?_⟩; have n0_ := Aside0.mk (below_step (by repeat (first | (with_reducible first | exact HB.out | apply below_alloc | apply pw_below_drewN | apply below_drew1) | exact HB.out)) hb); clear HB; have HB := n0_; clear n0_; (try clear hb); (try clear hb2); (try clear hk); (try clear hi)))
                        go_ret
                        exact ⟨by first | rfl | (simp [errW_none, errW_some] <;> rfl) | (simp [*, errW_none, errW_some] <;> rfl), by repeat (first | (with_reducible first | exact HB.out | apply below_alloc | apply pw_below_drewN | apply below_drew1) | exact HB.out)⟩
                      · rw [if_neg c17] at H
                        exact absurd H (by simp)
                    · rw [if_neg c16] at H
                      exact absurd H (by simp)
                  · rw [if_neg c14] at H
                    have c14b0 : decide (0 < (Int.tmod x0_2 60)) = false := decide_eq_false c14
                    clear c14
                    by_cases c20 : a1 > 2
                    · rw [if_pos c20] at H
                      have c20b0 : decide (2 < a1) = true := decide_eq_true c20
                      clear c20
                      replace H := Option.bind_eq_some_iff.mp H
                      obtain ⟨t120, A210, H⟩ := H
                      replace H : (if 1 + t120.size ≤ 9223372036854775807 then (if ((x5_2 ++ t117) ++ ((⟨#[58]⟩ : ByteArray) ++ t118)).size + ((⟨#[58]⟩ : ByteArray) ++ t120).size ≤ 9223372036854775807 then (some (((x5_2 ++ t117) ++ ((⟨#[58]⟩ : ByteArray) ++ t118)) ++ ((⟨#[58]⟩ : ByteArray) ++ t120))) else (none)) else (none)) = some r := H
                      have A21 := Aside0.mk A210
                      clear A210
                      by_cases c22 : 1 + t120.size ≤ 9223372036854775807
                      · rw [if_pos c22] at H
                        have c22b0 := eq_true c22
                        have c22b1 : decide (1 + t120.size ≤ 9223372036854775807) = true := decide_eq_true c22
                        try have c22b2 : (9223372036854775807 < 1 + t120.size) = False := eq_false (Nat.not_lt.2 c22)
                        by_cases c23 : ((x5_2 ++ t117) ++ ((⟨#[58]⟩ : ByteArray) ++ t118)).size + ((⟨#[58]⟩ : ByteArray) ++ t120).size ≤ 9223372036854775807
                        · rw [if_pos c23] at H
                          have c23b0 := eq_true c23
                          have c23b1 : decide (((x5_2 ++ t117) ++ ((⟨#[58]⟩ : ByteArray) ++ t118)).size + ((⟨#[58]⟩ : ByteArray) ++ t120).size ≤ 9223372036854775807) = true := decide_eq_true c23
                          try have c23b2 : (9223372036854775807 < ((x5_2 ++ t117) ++ ((⟨#[58]⟩ : ByteArray) ++ t118)).size + ((⟨#[58]⟩ : ByteArray) ++ t120).size) = False := eq_false (Nat.not_lt.2 c23)
                          try have c23b3 : (9223372036854775807 < x5_2.size + t117.size + (1 + t118.size) + (1 + t120.size)) = False := eq_false (by have h_ := c23; simp only [ByteArray.size_append, show (⟨#[58]⟩ : ByteArray).size = 1 from rfl] at h_; omega)
                          obtain rfl := Option.some.inj H
                          go_wp2_with (first | ((with_reducible refine gate_callee (f := 10) rfl ?_); refine goesL_ (some 26) rfl rfl Tryd.func10 (by kernel_rfl) rfl #[.int .i64 (Int.tmod (wrap64 (Int.tdiv x0_2 60)) 60), .int .i64 2] rfl (by (try simp only [List.map_toArray, List.map_cons, List.map_nil]); first | done | rfl | (simp only [List.length_drop, List.length_take]; rfl)) ?_; (with_reducible refine (spec_padded.calls kj6 (Int.tmod (wrap64 (Int.tdiv x0_2 60)) 60) 2 t118 _ A11.out).mono ?_); rintro e w24 ⟨rfl, hb⟩; refine ⟨_, rfl, ?_⟩; have n0_ := Aside0.mk (below_step (by repeat (first | (with_reducible first | exact HB.out | apply below_alloc | apply pw_below_drewN | apply below_drew1) | exact HB.out)) hb); clear HB; have HB := n0_; clear n0_; (try clear hb); (try clear hb2); (try clear hk); (try clear hi)) | ((with_reducible refine gate_callee (f := 10) rfl ?_); refine goesL_ (some 39) rfl rfl Tryd.func10 (by kernel_rfl) rfl #[.int .i64 (Int.tmod x0_2 60), .int .i64 2] rfl (by (try simp only [List.map_toArray, List.map_cons, List.map_nil]); first | done | rfl | (simp only [List.length_drop, List.length_take]; rfl)) ?_; (with_reducible refine (spec_padded.calls kj6 (Int.tmod x0_2 60) 2 t120 _ A21.out).mono ?_); rintro e w25 ⟨rfl, hb⟩; refine ⟨_, rfl, ?_⟩; have n0_ := Aside0.mk (below_step (by repeat (first | (with_reducible first | exact HB.out | apply below_alloc | apply pw_below_drewN | apply below_drew1) | exact HB.out)) hb); clear HB; have HB := n0_; clear n0_; (try clear hb); (try clear hb2); (try clear hk); (try clear hi)))
                          go_ret
                          exact ⟨by first | rfl | (simp [errW_none, errW_some] <;> rfl) | (simp [*, errW_none, errW_some] <;> rfl), by repeat (first | (with_reducible first | exact HB.out | apply below_alloc | apply pw_below_drewN | apply below_drew1) | exact HB.out)⟩
                        · rw [if_neg c23] at H
                          exact absurd H (by simp)
                      · rw [if_neg c22] at H
                        exact absurd H (by simp)
                    · rw [if_neg c20] at H
                      have c20b0 : decide (2 < a1) = false := decide_eq_false c20
                      clear c20
                      obtain rfl := Option.some.inj H
                      go_wp2_with (first | ((with_reducible refine gate_callee (f := 10) rfl ?_); refine goesL_ (some 26) rfl rfl Tryd.func10 (by kernel_rfl) rfl #[.int .i64 (Int.tmod (wrap64 (Int.tdiv x0_2 60)) 60), .int .i64 2] rfl (by (try simp only [List.map_toArray, List.map_cons, List.map_nil]); first | done | rfl | (simp only [List.length_drop, List.length_take]; rfl)) ?_; (with_reducible refine (spec_padded.calls kj6 (Int.tmod (wrap64 (Int.tdiv x0_2 60)) 60) 2 t118 _ A11.out).mono ?_); rintro e w26 ⟨rfl, hb⟩; refine ⟨_, rfl, ?_⟩; have n0_ := Aside0.mk (below_step (by repeat (first | (with_reducible first | exact HB.out | apply below_alloc | apply pw_below_drewN | apply below_drew1) | exact HB.out)) hb); clear HB; have HB := n0_; clear n0_; (try clear hb); (try clear hb2); (try clear hk); (try clear hi)))
                      go_ret
                      exact ⟨by first | rfl | (simp [errW_none, errW_some] <;> rfl) | (simp [*, errW_none, errW_some] <;> rfl), by repeat (first | (with_reducible first | exact HB.out | apply below_alloc | apply pw_below_drewN | apply below_drew1) | exact HB.out)⟩
                · rw [if_neg c13] at H
                  exact absurd H (by simp)
              · rw [if_neg c12] at H
                exact absurd H (by simp)
            · replace c10 := Bool.eq_false_iff.mpr c10
              subst c10
              have H1 : (if (Int.tmod x0_2 60) > 0 then ((spec_padded.f kj6 (Int.tmod x0_2 60) 2).bind fun t121 => (if 1 + t121.size ≤ 9223372036854775807 then (if (x5_2 ++ t117).size + ((⟨#[58]⟩ : ByteArray) ++ t121).size ≤ 9223372036854775807 then (some ((x5_2 ++ t117) ++ ((⟨#[58]⟩ : ByteArray) ++ t121))) else (none)) else (none))) else (if a1 > 2 then ((spec_padded.f kj6 (Int.tmod x0_2 60) 2).bind fun t122 => (if 1 + t122.size ≤ 9223372036854775807 then (if (x5_2 ++ t117).size + ((⟨#[58]⟩ : ByteArray) ++ t122).size ≤ 9223372036854775807 then (some ((x5_2 ++ t117) ++ ((⟨#[58]⟩ : ByteArray) ++ t122))) else (none)) else (none))) else (some (x5_2 ++ t117)))) = some r := by rw [if_neg (show ¬ (false = true) by decide)] at H; exact H
              clear H
              have H := H1
              clear H1
              by_cases c27 : (Int.tmod x0_2 60) > 0
              · rw [if_pos c27] at H
                have c27b0 : decide (0 < (Int.tmod x0_2 60)) = true := decide_eq_true c27
                clear c27
                replace H := Option.bind_eq_some_iff.mp H
                obtain ⟨t121, A280, H⟩ := H
                replace H : (if 1 + t121.size ≤ 9223372036854775807 then (if (x5_2 ++ t117).size + ((⟨#[58]⟩ : ByteArray) ++ t121).size ≤ 9223372036854775807 then (some ((x5_2 ++ t117) ++ ((⟨#[58]⟩ : ByteArray) ++ t121))) else (none)) else (none)) = some r := H
                have A28 := Aside0.mk A280
                clear A280
                by_cases c29 : 1 + t121.size ≤ 9223372036854775807
                · rw [if_pos c29] at H
                  have c29b0 := eq_true c29
                  have c29b1 : decide (1 + t121.size ≤ 9223372036854775807) = true := decide_eq_true c29
                  try have c29b2 : (9223372036854775807 < 1 + t121.size) = False := eq_false (Nat.not_lt.2 c29)
                  by_cases c30 : (x5_2 ++ t117).size + ((⟨#[58]⟩ : ByteArray) ++ t121).size ≤ 9223372036854775807
                  · rw [if_pos c30] at H
                    have c30b0 := eq_true c30
                    have c30b1 : decide ((x5_2 ++ t117).size + ((⟨#[58]⟩ : ByteArray) ++ t121).size ≤ 9223372036854775807) = true := decide_eq_true c30
                    try have c30b2 : (9223372036854775807 < (x5_2 ++ t117).size + ((⟨#[58]⟩ : ByteArray) ++ t121).size) = False := eq_false (Nat.not_lt.2 c30)
                    try have c30b3 : (9223372036854775807 < x5_2.size + t117.size + (1 + t121.size)) = False := eq_false (by have h_ := c30; simp only [ByteArray.size_append, show (⟨#[58]⟩ : ByteArray).size = 1 from rfl] at h_; omega)
                    obtain rfl := Option.some.inj H
                    go_wp2_with (first | ((with_reducible refine gate_callee (f := 10) rfl ?_); refine goesL_ (some 39) rfl rfl Tryd.func10 (by kernel_rfl) rfl #[.int .i64 (Int.tmod x0_2 60), .int .i64 2] rfl (by (try simp only [List.map_toArray, List.map_cons, List.map_nil]); first | done | rfl | (simp only [List.length_drop, List.length_take]; rfl)) ?_; (with_reducible refine (spec_padded.calls kj6 (Int.tmod x0_2 60) 2 t121 _ A28.out).mono ?_); rintro e w31 ⟨rfl, hb⟩; refine ⟨_, rfl, ?_⟩; have n0_ := Aside0.mk (below_step (by repeat (first | (with_reducible first | exact HB.out | apply below_alloc | apply pw_below_drewN | apply below_drew1) | exact HB.out)) hb); clear HB; have HB := n0_; clear n0_; (try clear hb); (try clear hb2); (try clear hk); (try clear hi)))
                    go_ret
                    exact ⟨by first | rfl | (simp [errW_none, errW_some] <;> rfl) | (simp [*, errW_none, errW_some] <;> rfl), by repeat (first | (with_reducible first | exact HB.out | apply below_alloc | apply pw_below_drewN | apply below_drew1) | exact HB.out)⟩
                  · rw [if_neg c30] at H
                    exact absurd H (by simp)
                · rw [if_neg c29] at H
                  exact absurd H (by simp)
              · rw [if_neg c27] at H
                have c27b0 : decide (0 < (Int.tmod x0_2 60)) = false := decide_eq_false c27
                clear c27
                by_cases c32 : a1 > 2
                · rw [if_pos c32] at H
                  have c32b0 : decide (2 < a1) = true := decide_eq_true c32
                  clear c32
                  replace H := Option.bind_eq_some_iff.mp H
                  obtain ⟨t122, A330, H⟩ := H
                  replace H : (if 1 + t122.size ≤ 9223372036854775807 then (if (x5_2 ++ t117).size + ((⟨#[58]⟩ : ByteArray) ++ t122).size ≤ 9223372036854775807 then (some ((x5_2 ++ t117) ++ ((⟨#[58]⟩ : ByteArray) ++ t122))) else (none)) else (none)) = some r := H
                  have A33 := Aside0.mk A330
                  clear A330
                  by_cases c34 : 1 + t122.size ≤ 9223372036854775807
                  · rw [if_pos c34] at H
                    have c34b0 := eq_true c34
                    have c34b1 : decide (1 + t122.size ≤ 9223372036854775807) = true := decide_eq_true c34
                    try have c34b2 : (9223372036854775807 < 1 + t122.size) = False := eq_false (Nat.not_lt.2 c34)
                    by_cases c35 : (x5_2 ++ t117).size + ((⟨#[58]⟩ : ByteArray) ++ t122).size ≤ 9223372036854775807
                    · rw [if_pos c35] at H
                      have c35b0 := eq_true c35
                      have c35b1 : decide ((x5_2 ++ t117).size + ((⟨#[58]⟩ : ByteArray) ++ t122).size ≤ 9223372036854775807) = true := decide_eq_true c35
                      try have c35b2 : (9223372036854775807 < (x5_2 ++ t117).size + ((⟨#[58]⟩ : ByteArray) ++ t122).size) = False := eq_false (Nat.not_lt.2 c35)
                      try have c35b3 : (9223372036854775807 < x5_2.size + t117.size + (1 + t122.size)) = False := eq_false (by have h_ := c35; simp only [ByteArray.size_append, show (⟨#[58]⟩ : ByteArray).size = 1 from rfl] at h_; omega)
                      obtain rfl := Option.some.inj H
                      go_wp2_with (first | ((with_reducible refine gate_callee (f := 10) rfl ?_); refine goesL_ (some 39) rfl rfl Tryd.func10 (by kernel_rfl) rfl #[.int .i64 (Int.tmod x0_2 60), .int .i64 2] rfl (by (try simp only [List.map_toArray, List.map_cons, List.map_nil]); first | done | rfl | (simp only [List.length_drop, List.length_take]; rfl)) ?_; (with_reducible refine (spec_padded.calls kj6 (Int.tmod x0_2 60) 2 t122 _ A33.out).mono ?_); rintro e w36 ⟨rfl, hb⟩; refine ⟨_, rfl, ?_⟩; have n0_ := Aside0.mk (below_step (by repeat (first | (with_reducible first | exact HB.out | apply below_alloc | apply pw_below_drewN | apply below_drew1) | exact HB.out)) hb); clear HB; have HB := n0_; clear n0_; (try clear hb); (try clear hb2); (try clear hk); (try clear hi)))
                      go_ret
                      exact ⟨by first | rfl | (simp [errW_none, errW_some] <;> rfl) | (simp [*, errW_none, errW_some] <;> rfl), by repeat (first | (with_reducible first | exact HB.out | apply below_alloc | apply pw_below_drewN | apply below_drew1) | exact HB.out)⟩
                    · rw [if_neg c35] at H
                      exact absurd H (by simp)
                  · rw [if_neg c34] at H
                    exact absurd H (by simp)
                · rw [if_neg c32] at H
                  have c32b0 : decide (2 < a1) = false := decide_eq_false c32
                  clear c32
                  obtain rfl := Option.some.inj H
                  go_wp2
                  go_ret
                  exact ⟨by first | rfl | (simp [errW_none, errW_some] <;> rfl) | (simp [*, errW_none, errW_some] <;> rfl), by repeat (first | (with_reducible first | exact HB.out | apply below_alloc | apply pw_below_drewN | apply below_drew1) | exact HB.out)⟩
      · rw [if_neg c6] at H
        exact absurd H (by simp)

/-! ### zztime_norm: function 20 -/
def zztime_norm.f (a0 : Int) (a1 : Int) (a2 : Int) : Option (Int × Int) := if a1 < 0 then (if a2 = 0 then (none) else (if (wrap64 (a1 + (wrap64 ((wrap64 ((wrap64 (Int.tdiv (wrap64 ((wrap64 (-a1)) - 1)) a2)) + 1)) * a2)))) ≥ a2 then (some (wrap64 ((wrap64 (a0 - (wrap64 ((wrap64 (Int.tdiv (wrap64 ((wrap64 (-a1)) - 1)) a2)) + 1)))) + (wrap64 (Int.tdiv (wrap64 (a1 + (wrap64 ((wrap64 ((wrap64 (Int.tdiv (wrap64 ((wrap64 (-a1)) - 1)) a2)) + 1)) * a2)))) a2))), wrap64 ((wrap64 (a1 + (wrap64 ((wrap64 ((wrap64 (Int.tdiv (wrap64 ((wrap64 (-a1)) - 1)) a2)) + 1)) * a2)))) - (wrap64 ((wrap64 (Int.tdiv (wrap64 (a1 + (wrap64 ((wrap64 ((wrap64 (Int.tdiv (wrap64 ((wrap64 (-a1)) - 1)) a2)) + 1)) * a2)))) a2)) * a2))))) else (some (wrap64 (a0 - (wrap64 ((wrap64 (Int.tdiv (wrap64 ((wrap64 (-a1)) - 1)) a2)) + 1))), wrap64 (a1 + (wrap64 ((wrap64 ((wrap64 (Int.tdiv (wrap64 ((wrap64 (-a1)) - 1)) a2)) + 1)) * a2))))))) else (if a1 ≥ a2 then (if a2 = 0 then (none) else (some (wrap64 (a0 + (wrap64 (Int.tdiv a1 a2))), wrap64 (a1 - (wrap64 ((wrap64 (Int.tdiv a1 a2)) * a2)))))) else (some (a0, a1)))
set_option maxHeartbeats 8000000 in
set_option maxRecDepth 100000 in
theorem zztime_norm.calls (a0 : Int) (a1 : Int) (a2 : Int) (r1 : Int) (r2 : Int) (w : World) (h : zztime_norm.f a0 a1 a2 = some (r1, r2)) :
    Calls Tryd.prog 20 #[.int .i64 a0, .int .i64 a1, .int .i64 a2] w fun e w' => e = .returned (.tuple #[.int .i64 r1, .int .i64 r2]) ∧ Drawn0 w w' := by
  have H : (if a1 < 0 then (if a2 = 0 then (none) else (if (wrap64 (a1 + (wrap64 ((wrap64 ((wrap64 (Int.tdiv (wrap64 ((wrap64 (-a1)) - 1)) a2)) + 1)) * a2)))) ≥ a2 then (some (wrap64 ((wrap64 (a0 - (wrap64 ((wrap64 (Int.tdiv (wrap64 ((wrap64 (-a1)) - 1)) a2)) + 1)))) + (wrap64 (Int.tdiv (wrap64 (a1 + (wrap64 ((wrap64 ((wrap64 (Int.tdiv (wrap64 ((wrap64 (-a1)) - 1)) a2)) + 1)) * a2)))) a2))), wrap64 ((wrap64 (a1 + (wrap64 ((wrap64 ((wrap64 (Int.tdiv (wrap64 ((wrap64 (-a1)) - 1)) a2)) + 1)) * a2)))) - (wrap64 ((wrap64 (Int.tdiv (wrap64 (a1 + (wrap64 ((wrap64 ((wrap64 (Int.tdiv (wrap64 ((wrap64 (-a1)) - 1)) a2)) + 1)) * a2)))) a2)) * a2))))) else (some (wrap64 (a0 - (wrap64 ((wrap64 (Int.tdiv (wrap64 ((wrap64 (-a1)) - 1)) a2)) + 1))), wrap64 (a1 + (wrap64 ((wrap64 ((wrap64 (Int.tdiv (wrap64 ((wrap64 (-a1)) - 1)) a2)) + 1)) * a2))))))) else (if a1 ≥ a2 then (if a2 = 0 then (none) else (some (wrap64 (a0 + (wrap64 (Int.tdiv a1 a2))), wrap64 (a1 - (wrap64 ((wrap64 (Int.tdiv a1 a2)) * a2)))))) else (some (a0, a1)))) = some (r1, r2) := h
  clear h
  by_cases c4 : a1 < 0
  · rw [if_pos c4] at H
    have c4b0 : decide (a1 < 0) = true := decide_eq_true c4
    clear c4
    by_cases c5 : a2 = 0
    · rw [if_pos c5] at H
      exact absurd H (by simp)
    · rw [if_neg c5] at H
      have c5b0 : (a2 == 0) = false := beq_eq_false_iff_ne.mpr c5
      have c5b1 : (a2 != 0) = true := bne_iff_ne.mpr c5
      by_cases c6 : (wrap64 (a1 + (wrap64 ((wrap64 ((wrap64 (Int.tdiv (wrap64 ((wrap64 (-a1)) - 1)) a2)) + 1)) * a2)))) ≥ a2
      · rw [if_pos c6] at H
        have c6b0 : decide (a2 ≤ (wrap64 (a1 + (wrap64 ((wrap64 ((wrap64 (Int.tdiv (wrap64 ((wrap64 (-a1)) - 1)) a2)) + 1)) * a2))))) = true := decide_eq_true c6
        clear c6
        simp only [Option.some.injEq, Prod.mk.injEq] at H
        obtain ⟨rfl, rfl⟩ := H
        go_enter Tryd.func20, Tryd.ntmps20
        go_wp2
        go_ret2
        exact ⟨by first | rfl | (simp; done) | (simp [*]; done), by repeat (first | exact Drawn0.refl _ | apply Drawn0.step)⟩
      · rw [if_neg c6] at H
        have c6b0 : decide (a2 ≤ (wrap64 (a1 + (wrap64 ((wrap64 ((wrap64 (Int.tdiv (wrap64 ((wrap64 (-a1)) - 1)) a2)) + 1)) * a2))))) = false := decide_eq_false c6
        clear c6
        simp only [Option.some.injEq, Prod.mk.injEq] at H
        obtain ⟨rfl, rfl⟩ := H
        go_enter Tryd.func20, Tryd.ntmps20
        go_wp2
        go_ret2
        exact ⟨by first | rfl | (simp; done) | (simp [*]; done), by repeat (first | exact Drawn0.refl _ | apply Drawn0.step)⟩
  · rw [if_neg c4] at H
    have c4b0 : decide (a1 < 0) = false := decide_eq_false c4
    clear c4
    by_cases c7 : a1 ≥ a2
    · rw [if_pos c7] at H
      have c7b0 : decide (a2 ≤ a1) = true := decide_eq_true c7
      clear c7
      by_cases c8 : a2 = 0
      · rw [if_pos c8] at H
        exact absurd H (by simp)
      · rw [if_neg c8] at H
        have c8b0 : (a2 == 0) = false := beq_eq_false_iff_ne.mpr c8
        have c8b1 : (a2 != 0) = true := bne_iff_ne.mpr c8
        simp only [Option.some.injEq, Prod.mk.injEq] at H
        obtain ⟨rfl, rfl⟩ := H
        go_enter Tryd.func20, Tryd.ntmps20
        go_wp2
        go_ret2
        exact ⟨by first | rfl | (simp; done) | (simp [*]; done), by repeat (first | exact Drawn0.refl _ | apply Drawn0.step)⟩
    · rw [if_neg c7] at H
      have c7b0 : decide (a2 ≤ a1) = false := decide_eq_false c7
      clear c7
      simp only [Option.some.injEq, Prod.mk.injEq] at H
      obtain ⟨rfl, rfl⟩ := H
      go_enter Tryd.func20, Tryd.ntmps20
      go_wp2
      go_ret2
      exact ⟨by first | rfl | (simp; done) | (simp [*]; done), by repeat (first | exact Drawn0.refl _ | apply Drawn0.step)⟩

end Go.Proofs.YtlhjblbmhlelbabDoor.P
