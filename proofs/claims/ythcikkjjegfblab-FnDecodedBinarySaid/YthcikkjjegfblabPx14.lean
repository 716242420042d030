-- Written by the program wip/myprint.py of this session, over the kit's print of the translation. Lean checks it.
import Derived.Test.YthcikkjjegfblabPx0
import Derived.Test.YthcikkjjegfblabPx12
import Derived.Test.YthcikkjjegfblabPx13
namespace Go.Proofs.Ythcikkjjegfblab.P
open Go.RowKit Go.Proofs.YthcikkjjegfblabW.PrintWords Go.Proofs.YthcikkjjegfblabW.PrintLast Go.Proofs.YthcikkjjegfblabW.PrintMore
attribute [local go_sem] max2_int min2_int max_two min_two max_three min_three max_four min_four   -- for this text's walks alone
set_option linter.unusedVariables false
set_option linter.unusedSimpArgs false

/-! ### laws_FnDecodedBinary: function 8 -/
attribute [local go_sem] run_store_flt
/-- The number that the bytes mean, by the law. -/
def dbNum (a0 a1 : Int) : Int := if Int.tmod a0 3 = 0 then wrap64 (IntKind.i16.wrap a1) else if Int.tmod a0 3 = 1 then wrap64 (wrap32 a1) else a1
def dbTyp (a0 : Int) : Int := if Int.tmod a0 3 = 0 then 21 else if Int.tmod a0 3 = 1 then 23 else 20
def laws_FnDecodedBinary.e0 (a0 a1 : Int) (a2 s : ByteArray) : Option Bool := if s.size = decMost (dbTyp a0) ∧ decNum (dbTyp a0) (bytesOf s) = dbNum a0 a1 ∧ rd [21, 23, 20] (Int.tmod a0 3) = dbTyp a0 ∧ rd [2, 4, 8] (Int.tmod a0 3) = (decMost (dbTyp a0) : Int) then some true else none
def laws_FnDecodedBinary.l0 : Nat → Int → Int → ByteArray → ByteArray → Int → Option (Bool)
  | 0, _, _, _, _, _ => none
  | k + 1, x0, x1, x2, x9, x10 => if x10 ≥ 0 then (if 0 ≤ (wrap64 (8 * x10)) then ((some (([(shr .u64 (IntKind.u64.wrap (x1)) (wrap64 (8 * x10))) % 256] : List Int) : List Int)).bind fun y267 => (if x9.size + (strOfNums y267).size ≤ 9223372036854775807 then (laws_FnDecodedBinary.l0 k x0 x1 x2 (x9 ++ (strOfNums y267)) (wrap64 (x10 - 1))) else (none))) else (none)) else (laws_FnDecodedBinary.e0 x0 x1 x2 x9)
def laws_FnDecodedBinary.f (k : Nat) (a0 : Int) (a1 : Int) (a2 : ByteArray) : Option (Bool) := if (a2.size : Int) > 2147483647 then (some true) else (if (a2.size : Int) > 500 then (some true) else (if 0 ≤ (Int.tmod a0 3) then (if (Int.tmod a0 3) < ((([21, 23, 20] : List Int)).length : Int) then ((some (([2, 4, 8] : List Int) : List Int)).bind fun y263 => (if (Int.tmod a0 3) < (y263.length : Int) then (laws_FnDecodedBinary.l0 k a0 a1 a2 (⟨#[]⟩ : ByteArray) (wrap64 ((rd y263 (Int.tmod a0 3)) - 1))) else (none))) else (none)) else (none)))
theorem laws_FnDecodedBinary.mono_l : ∀ k, (∀ y0 y1 y2 y3 y4, LeO (laws_FnDecodedBinary.l0 k y0 y1 y2 y3 y4) (laws_FnDecodedBinary.l0 (k + 1) y0 y1 y2 y3 y4))
  | 0 => fun _ _ _ _ _ r h => by simp [laws_FnDecodedBinary.l0] at h
  | k + 1 => by
    have ih0 := laws_FnDecodedBinary.mono_l k
    · intro y0 y1 y2 y3 y4
      unfold laws_FnDecodedBinary.l0
      repeat' first
      | (with_reducible exact ih0 _ _ _ _ _)
      | (with_reducible exact LeO.refl _)
      | (with_reducible exact LeO.none _)
      | (with_reducible refine LeO.ite ?_ ?_)
      | (with_reducible refine LeO.bind ?_ (fun _ => ?_))
      | exact ih0 _ _ _ _ _
      | exact LeO.none _
      | refine LeO.ite ?_ ?_
      | refine LeO.bind ?_ (fun _ => ?_)
theorem laws_FnDecodedBinary.mono : ∀ a0 a1 a2 k, LeO (laws_FnDecodedBinary.f k a0 a1 a2) (laws_FnDecodedBinary.f (k + 1) a0 a1 a2) := by
  intro a0 a1 a2 k
  have ih0 := laws_FnDecodedBinary.mono_l k
  unfold laws_FnDecodedBinary.f
  repeat' first
      | (with_reducible exact ih0 _ _ _ _ _)
      | (with_reducible exact LeO.refl _)
      | (with_reducible exact LeO.none _)
      | (with_reducible refine LeO.ite ?_ ?_)
      | (with_reducible refine LeO.bind ?_ (fun _ => ?_))
      | exact ih0 _ _ _ _ _
      | exact LeO.none _
      | refine LeO.ite ?_ ?_
      | refine LeO.bind ?_ (fun _ => ?_)
set_option maxHeartbeats 8000000 in
set_option maxRecDepth 100000 in
theorem laws_FnDecodedBinary.calls (k : Nat) (a0 : Int) (a1 : Int) (a2 : ByteArray) (r : Bool) (w : World) (h : laws_FnDecodedBinary.f k a0 a1 a2 = some r) :
    Calls Try.prog 8 #[.int .u8 a0, .int .i64 a1, .string a2] w fun e w' => e = .returned (.bool r) ∧ Below w.heap.size w w' := by
  have HB := Aside0.mk (Below.refl w.heap.size w)
  have H : (if (a2.size : Int) > 2147483647 then (some true) else (if (a2.size : Int) > 500 then (some true) else (if 0 ≤ (Int.tmod a0 3) then (if (Int.tmod a0 3) < ((([21, 23, 20] : List Int)).length : Int) then ((some (([2, 4, 8] : List Int) : List Int)).bind fun y263 => (if (Int.tmod a0 3) < (y263.length : Int) then (laws_FnDecodedBinary.l0 k a0 a1 a2 (⟨#[]⟩ : ByteArray) (wrap64 ((rd y263 (Int.tmod a0 3)) - 1))) else (none))) else (none)) else (none)))) = some r := h
  clear h
  by_cases c4 : (a2.size : Int) > 2147483647
  · rw [if_pos c4] at H
    have c4b0 : decide (2147483647 < (a2.size : Int)) = true := decide_eq_true c4
    have c4b1 : decide (2147483647 < a2.size) = true := decide_eq_true (by omega)
    clear c4
    obtain rfl := Option.some.inj H
    go_enter Try.func8, Try.ntmps8
    go_wp2
    go_ret
    exact ⟨by first | rfl | (simp [errW_none, errW_some] <;> rfl) | (simp [*, errW_none, errW_some] <;> rfl), by repeat (first | (with_reducible first | exact HB.out | apply below_alloc | apply pw_below_drewN | apply below_drew1) | exact HB.out)⟩
  · rw [if_neg c4] at H
    have c4b0 : decide (2147483647 < (a2.size : Int)) = false := decide_eq_false c4
    have c4b1 : decide (2147483647 < a2.size) = false := decide_eq_false (by omega)
    clear c4
    by_cases c5 : (a2.size : Int) > 500
    · rw [if_pos c5] at H
      have c5b0 : decide (500 < (a2.size : Int)) = true := decide_eq_true c5
      have c5b1 : decide (500 < a2.size) = true := decide_eq_true (by omega)
      clear c5
      obtain rfl := Option.some.inj H
      go_enter Try.func8, Try.ntmps8
      go_wp2
      go_ret
      exact ⟨by first | rfl | (simp [errW_none, errW_some] <;> rfl) | (simp [*, errW_none, errW_some] <;> rfl), by repeat (first | (with_reducible first | exact HB.out | apply below_alloc | apply pw_below_drewN | apply below_drew1) | exact HB.out)⟩
    · rw [if_neg c5] at H
      have HA2 : Aside0 (a2.size ≤ 9223372036854775807) := ⟨by omega⟩
      have c5b0 : decide (500 < (a2.size : Int)) = false := decide_eq_false c5
      have c5b1 : decide (500 < a2.size) = false := decide_eq_false (by omega)
      clear c5
      obtain ⟨y259, hy259⟩ : ∃ y_ : List Int, y_ = (([21, 23, 20] : List Int)) := ⟨_, rfl⟩
      replace H : (if 0 ≤ (Int.tmod a0 3) then (if (Int.tmod a0 3) < (y259.length : Int) then ((some (([2, 4, 8] : List Int) : List Int)).bind fun y263 => (if (Int.tmod a0 3) < (y263.length : Int) then (laws_FnDecodedBinary.l0 k a0 a1 a2 (⟨#[]⟩ : ByteArray) (wrap64 ((rd y263 (Int.tmod a0 3)) - 1))) else (none))) else (none)) else (none)) = some r := by first | (rw [hy259]; with_reducible exact H) | (have H2_ := (Option.bind_some _ _).symm.trans H; rw [hy259]; with_reducible exact H2_) | (have H2_ := (Option.bind_some _ _).symm.trans H; with_reducible exact H2_) | with_reducible exact H | (rw [hy259]; exact H) | exact H
      have Ny259 := Aside0.mk hy259
      clear hy259
      obtain ⟨ji6, hji6⟩ : ∃ j_ : Int, (Int.tmod a0 3) = j_ := ⟨_, rfl⟩
      replace H : (if 0 ≤ (ji6) then (if (ji6) < (y259.length : Int) then ((some (([2, 4, 8] : List Int) : List Int)).bind fun y263 => (if (ji6) < (y263.length : Int) then (laws_FnDecodedBinary.l0 k a0 a1 a2 (⟨#[]⟩ : ByteArray) (wrap64 ((rd y263 (ji6)) - 1))) else (none))) else (none)) else (none)) = some r := by first | (rw [hji6] at H; exact H) | (simp only [hji6] at H ⊢; exact H)
      by_cases c7 : 0 ≤ (ji6)
      · rw [if_pos c7] at H
        have c7b0 : decide (0 ≤ (ji6)) = true := decide_eq_true c7
        clear c7
        by_cases c8 : (ji6) < (y259.length : Int)
        · rw [if_pos c8] at H
          have c8b0 : decide ((ji6) < (y259.length : Int)) = true := decide_eq_true c8
          clear c8
          obtain ⟨y263, hy263⟩ : ∃ y_ : List Int, y_ = (([2, 4, 8] : List Int)) := ⟨_, rfl⟩
          replace H : (if (ji6) < (y263.length : Int) then (laws_FnDecodedBinary.l0 k a0 a1 a2 (⟨#[]⟩ : ByteArray) (wrap64 ((rd y263 (ji6)) - 1))) else (none)) = some r := by first | (rw [hy263]; with_reducible exact H) | (have H2_ := (Option.bind_some _ _).symm.trans H; rw [hy263]; with_reducible exact H2_) | (have H2_ := (Option.bind_some _ _).symm.trans H; with_reducible exact H2_) | with_reducible exact H | (rw [hy263]; exact H) | exact H
          have Ny263 := Aside0.mk hy263
          clear hy263
          by_cases c9 : (ji6) < (y263.length : Int)
          · rw [if_pos c9] at H
            have c9b0 : decide ((ji6) < (y263.length : Int)) = true := decide_eq_true c9
            clear c9
            have H' := Aside0.mk H
            clear H
            go_enter Try.func8, Try.ntmps8
            go_wp2_with (first | ((with_reducible refine gate_dst (N := 23) rfl ?_); refine Kd.R_lit (Kd.int .u32) _ 41 ?hg (N := 23) ?hd (xs := ([21, 23, 20] : List Int)) (inner := [.int .u32 21, .int .u32 23, .int .u32 20]) (ok := fun _ => True) (okp := fun _ => True) ?hr ?hp (fun _ hk => hk) trivial (Below.refl _ _) (Nat.le_refl _) (by simp) ?_; (case hd => rfl); (case hg => rfl); (case hr => first | (go_simp; done) | (go_simp; rfl)); (case hp => exact (Reps.one (show Kd.M (Kd.int .u32) _ _ _ 21 [.int .u32 21] from rfl) (Reps.one (show Kd.M (Kd.int .u32) _ _ _ 23 [.int .u32 23] from rfl) (Reps.one (show Kd.M (Kd.int .u32) _ _ _ 20 [.int .u32 20] from rfl) (Reps.none _ _))))); intro v260 w10 ho11 hb hg_ hnew_; clear hg_ hnew_; (first | rw [← Ny259.out] at ho11 | (simp only [Int.reduceToNat] at ho11; rw [← Ny259.out] at ho11)); have n0_ := Aside0.mk (Kd.R_lower ho11 (below_size (by repeat (first | (with_reducible first | exact HB.out | apply below_alloc | apply pw_below_drewN | apply below_drew1) | exact HB.out)))); have n1_ := Aside0.mk (below_step (by repeat (first | (with_reducible first | exact HB.out | apply below_alloc | apply pw_below_drewN | apply below_drew1) | exact HB.out)) hb); clear HB; have HO261 := n0_; have HB := n1_; clear n0_ n1_; clear hb ho11; obtain ⟨Ao12, co12, eo12⟩ := Kd.R_slice HO261.out; subst eo12; have p262 : 0 ≤ ((ji6) : Int) := of_decide_eq_true (by first | (with_reducible assumption) | assumption); have q262 : (ji6) < (y259.length : Int) := of_decide_eq_true (by first | (with_reducible assumption) | assumption); obtain ⟨ad262, e262, hx262_0⟩ := Kd.at_int (Kd.R_reads' HO261.out).2.2 (ji6) p262 q262; cases e262; replace p262 := eq_true p262; replace q262 := eq_true q262) | ((with_reducible refine gate_dst (N := 28) rfl ?_); refine Kd.R_lit (Kd.int .i64) _ 3 ?hg (N := 28) ?hd (xs := ([2, 4, 8] : List Int)) (inner := [.int .i64 2, .int .i64 4, .int .i64 8]) (ok := fun _ => True) (okp := fun _ => True) ?hr ?hp (fun _ hk => hk) trivial (Below.refl _ _) (Nat.le_refl _) (by simp) ?_; (case hd => rfl); (case hg => rfl); (case hr => first | (go_simp; done) | (go_simp; rfl)); (case hp => exact (Reps.one (show Kd.M (Kd.int .i64) _ _ _ 2 [.int .i64 2] from rfl) (Reps.one (show Kd.M (Kd.int .i64) _ _ _ 4 [.int .i64 4] from rfl) (Reps.one (show Kd.M (Kd.int .i64) _ _ _ 8 [.int .i64 8] from rfl) (Reps.none _ _))))); intro v264 w13 ho14 hb hg_ hnew_; clear hg_ hnew_; (first | rw [← Ny263.out] at ho14 | (simp only [Int.reduceToNat] at ho14; rw [← Ny263.out] at ho14)); have n0_ := Aside0.mk (Kd.R_below (by (with_reducible repeat (first | apply Kd.R_alloc | apply Kd.R_drewN | apply Kd.R_drew)); exact HO261.out) hb); have n1_ := Aside0.mk (Kd.R_lower ho14 (below_size (by repeat (first | (with_reducible first | exact HB.out | apply below_alloc | apply pw_below_drewN | apply below_drew1) | exact HB.out)))); have n2_ := Aside0.mk (below_step (by repeat (first | (with_reducible first | exact HB.out | apply below_alloc | apply pw_below_drewN | apply below_drew1) | exact HB.out)) hb); clear HO261; clear HB; have HO261 := n0_; have HO265 := n1_; have HB := n2_; clear n0_ n1_ n2_; clear hb ho14; obtain ⟨Ao15, co15, eo15⟩ := Kd.R_slice HO265.out; subst eo15; have p266 : 0 ≤ ((ji6) : Int) := of_decide_eq_true (by first | (with_reducible assumption) | assumption); have q266 : (ji6) < (y263.length : Int) := of_decide_eq_true (by first | (with_reducible assumption) | assumption); obtain ⟨ad266, e266, hx266_0⟩ := Kd.at_int (Kd.R_reads' HO265.out).2.2 (ji6) p266 q266; cases e266; replace p266 := eq_true p266; replace q266 := eq_true q266))
            go_loopg [9, 10] k (fun kq v9 v10 w' => ∃ (x9_1 : ByteArray) (x10_1 : Int), v9 = .string x9_1 ∧ v10 = .int .i64 x10_1 ∧ Aside0 (laws_FnDecodedBinary.l0 kq a0 a1 a2 x9_1 x10_1 = some r) ∧ Aside0 (kq ≤ k) ∧ Aside0 (Below w.heap.size w w'))
            case atStart => exact ⟨((⟨#[]⟩ : ByteArray)), (wrap64 ((rd y263 (ji6)) - 1)), (by first | rfl | (simp; done) | (simp [*]; done)), (by first | rfl | (simp; done) | (simp only [← hji6] <;> (first | rfl | simp)) | (simp [*]; done)), H', ⟨Nat.le_refl _⟩, ⟨by repeat (first | (with_reducible first | exact HB.out | apply below_alloc | apply pw_below_drewN | apply below_drew1) | exact HB.out)⟩⟩
            case round =>
              clear H'
              try clear p2
              try clear q2
              try clear hx2
              try clear c4
              try clear c4b0
              try clear c4b1
              try clear c5
              try clear c5b0
              try clear c5b1
              try clear p6
              try clear c7
              try clear c7b0
              try clear c8
              try clear c8b0
              try clear c9
              try clear c9b0
              try clear hx262_0
              try clear hx266_0
              try clear p262
              try clear p266
              try clear q262
              try clear q266
              obtain ⟨x9_1, x10_1, rfl, rfl, HA, HK1, HB⟩ := hrel
              cases gk with
              | zero => exact absurd HA.out (by simp [laws_FnDecodedBinary.l0])
              | succ k1 =>
                have H := HA.out
                clear HA
                simp only [laws_FnDecodedBinary.l0] at H
                by_cases c16 : x10_1 ≥ 0
                · rw [if_pos c16] at H
                  have c16b0 : decide (0 ≤ x10_1) = true := decide_eq_true c16
                  clear c16
                  obtain ⟨ji17, hji17⟩ : ∃ j_ : Int, (wrap64 (8 * x10_1)) = j_ := ⟨_, rfl⟩
                  replace H : (if 0 ≤ (ji17) then ((some (([(shr .u64 (IntKind.u64.wrap (a1)) (ji17)) % 256] : List Int) : List Int)).bind fun y267 => (if x9_1.size + (strOfNums y267).size ≤ 9223372036854775807 then (laws_FnDecodedBinary.l0 k1 a0 a1 a2 (x9_1 ++ (strOfNums y267)) (wrap64 (x10_1 - 1))) else (none))) else (none)) = some r := by first | (rw [hji17] at H; exact H) | (simp only [hji17] at H ⊢; exact H)
                  have hji17w : (IntKind.i64.wrap (8 * x10_1)) = ji17 := (i64_w _).trans hji17
                  by_cases c18 : 0 ≤ (ji17)
                  · rw [if_pos c18] at H
                    have c18b0 := eq_true c18
                    have c18b1 : decide (0 ≤ (ji17)) = true := decide_eq_true c18
                    clear c18
                    obtain ⟨ji19, hji19⟩ : ∃ j_ : Int, (shr .u64 (IntKind.u64.wrap (a1)) (ji17)) = j_ := ⟨_, rfl⟩
                    replace H : ((some (([(ji19) % 256] : List Int) : List Int)).bind fun y267 => (if x9_1.size + (strOfNums y267).size ≤ 9223372036854775807 then (laws_FnDecodedBinary.l0 k1 a0 a1 a2 (x9_1 ++ (strOfNums y267)) (wrap64 (x10_1 - 1))) else (none))) = some r := by first | (rw [hji19] at H; exact H) | (simp only [hji19] at H ⊢; exact H)
                    have hji19_ : ((IntKind.u64.wrap (a1)) / 2 ^ min (ji17).toNat 64) = ji19 := hji19
                    have hji19z : (ji17) ≤ 64 → ((IntKind.u64.wrap (a1)) / 2 ^ (ji17).toNat) = ji19 := shr_small hji19
                    obtain ⟨y267, hy267⟩ : ∃ y_ : List Int, y_ = (([(ji19) % 256] : List Int)) := ⟨_, rfl⟩
                    replace H : (if x9_1.size + (strOfNums y267).size ≤ 9223372036854775807 then (laws_FnDecodedBinary.l0 k1 a0 a1 a2 (x9_1 ++ (strOfNums y267)) (wrap64 (x10_1 - 1))) else (none)) = some r := by first | (rw [hy267]; with_reducible exact H) | (have H2_ := (Option.bind_some _ _).symm.trans H; rw [hy267]; with_reducible exact H2_) | (have H2_ := (Option.bind_some _ _).symm.trans H; with_reducible exact H2_) | with_reducible exact H | (rw [hy267]; exact H) | exact H
                    have Ny267 := Aside0.mk hy267
                    clear hy267
                    by_cases c20 : x9_1.size + (strOfNums y267).size ≤ 9223372036854775807
                    · rw [if_pos c20] at H
                      have c20b0 := eq_true c20
                      have c20b1 : decide (x9_1.size + (strOfNums y267).size ≤ 9223372036854775807) = true := decide_eq_true c20
                      try have c20b2 : (9223372036854775807 < x9_1.size + (strOfNums y267).size) = False := eq_false (Nat.not_lt.2 c20)
                      have H' := Aside0.mk H
                      clear H
                      go_wp2_with (first | ((with_reducible refine gate_dst (N := 46) rfl ?_); refine Kd.R_lit (Kd.int .u8) _ 5 ?hg (N := 46) ?hd (xs := ([(ji19) % 256] : List Int)) (inner := [.int .u8 ((ji19) % 256)]) (ok := fun _ => True) (okp := fun _ => True) ?hr ?hp (fun _ hk => hk) trivial (Below.refl _ _) (Nat.le_refl _) (by simp) ?_; (case hd => rfl); (case hg => rfl); (case hr => first | (go_simp; done) | (go_simp; rfl)); (case hp => exact (Reps.one (show Kd.M (Kd.int .u8) _ _ _ ((ji19) % 256) [.int .u8 ((ji19) % 256)] from rfl) (Reps.none _ _))); intro v268 w21 ho22 hb hg_ hnew_; clear hg_ hnew_; (first | rw [← Ny267.out] at ho22 | (simp only [Int.reduceToNat] at ho22; rw [← Ny267.out] at ho22)); have n0_ := Aside0.mk (Kd.R_lower ho22 (below_size (by repeat (first | (with_reducible first | exact HB.out | apply below_alloc | apply pw_below_drewN | apply below_drew1) | exact HB.out)))); have n1_ := Aside0.mk (below_step (by repeat (first | (with_reducible first | exact HB.out | apply below_alloc | apply pw_below_drewN | apply below_drew1) | exact HB.out)) hb); clear HB; have HO269 := n0_; have HB := n1_; clear n0_ n1_; clear hb ho22; have hcv23 := own_string (P := Try.prog) Try.underlying58 Try.underlying5 Try.underlying9 (Kd.own_of_R HO269.out)))
                      go_roundg k1
                      case measure => have := HK1.out; omega
                      case rel => exact ⟨(x9_1 ++ (strOfNums y267)), (wrap64 (x10_1 - 1)), (by first | rfl | (simp; done) | (simp [*]; done)), (by first | rfl | (simp; done) | (simp [*]; done)), H', ⟨by have := HK1.out; omega⟩, ⟨by repeat (first | (with_reducible first | exact HB.out | apply below_alloc | apply pw_below_drewN | apply below_drew1) | exact HB.out)⟩⟩
                    · rw [if_neg c20] at H
                      exact absurd H (by simp)
                  · rw [if_neg c18] at H
                    exact absurd H (by simp)
                · rw [if_neg c16] at H
                  have c16b0 : decide (0 ≤ x10_1) = false := decide_eq_false c16
                  clear c16
                  unfold laws_FnDecodedBinary.e0 at H
                  by_cases ce : x9_1.size = decMost (dbTyp a0) ∧ decNum (dbTyp a0) (bytesOf x9_1) = dbNum a0 a1 ∧ rd [21, 23, 20] (Int.tmod a0 3) = dbTyp a0 ∧ rd [2, 4, 8] (Int.tmod a0 3) = (decMost (dbTyp a0) : Int)
                  case neg => rw [if_neg ce] at H; cases H
                  rw [if_pos ce] at H
                  obtain rfl := Option.some.inj H
                  obtain ⟨e1, e2, e3, e4⟩ := ce
                  have E1 := Aside0.mk e1
                  have E2 := Aside0.mk e2
                  clear H
                  have hty : dbTyp a0 = 21 ∨ dbTyp a0 = 23 ∨ dbTyp a0 = 20 := by unfold dbTyp; (repeat' split) <;> simp
                  have HM : Aside0 (2 ≤ decMost (dbTyp a0) ∧ decMost (dbTyp a0) ≤ 8) := ⟨by rcases hty with h | h | h <;> rw [h] <;> decide⟩
                  have hwm : wrap64 ((decMost (dbTyp a0) : Int) - 1) = ((decMost (dbTyp a0) - 1 : Nat) : Int) := by have := HM.out; unfold wrap64; omega
                  have hm1 : ((decMost (dbTyp a0) - 1 : Nat) : Int) ≤ (x9_1.size : Int) := by have := E1.out; omega
                  rw [Ny259.out, Ny263.out] at *
                  rw [← hji6] at *
                  rw [e3, e4] at *
                  clear e1 e2 e3 e4
                  by_cases c24 : (Int.tmod a0 3) = 0
                  · have c24b0 : ((Int.tmod a0 3) == 0) = true := beq_iff_eq.mpr c24
                    have hdn : dbNum a0 a1 = wrap64 (IntKind.i16.wrap a1) := by unfold dbNum; rw [if_pos c24]
                    go_wp2_with fail
                    refine (impl_DecodedBinary.num (dbTyp a0) x9_1 wr hty (by have := E1.out; have := HM.out; omega) (Nat.le_of_eq E1.out.symm)).mono ?_
                    rintro e w31 ⟨rfl, hb31⟩
                    have HB31 := Aside0.mk (below_step HB.out hb31)
                    clear hb31
                    rw [E2.out, hdn]
                    unfold datumV
                    go_wp2_with fail
                    obtain ⟨W31, hW31⟩ : ∃ W, W = w31.alloc (.cells #[.int .i64 1, .int .i64 (wrap64 (IntKind.i16.wrap a1)), .float .f64 0, .string ⟨#[]⟩, .bool false, .int .i64 0, .int .i64 0, .int .i64 0, .int .i64 0, .int .i64 0, .int .i64 0, .int .i64 0, .int .i64 0] 64 (0, 0)) := ⟨_, rfl⟩
                    have B31 : W31.heap[w31.heap.size]? = some (.cells #[.int .i64 1, .int .i64 (wrap64 (IntKind.i16.wrap a1)), .float .f64 0, .string ⟨#[]⟩, .bool false, .int .i64 0, .int .i64 0, .int .i64 0, .int .i64 0, .int .i64 0, .int .i64 0, .int .i64 0, .int .i64 0] 64 (0, 0)) := by rw [hW31]; exact heap_alloc_new _ _
                    have HBW : Below w.heap.size w W31 := by rw [hW31]; exact below_alloc HB31.out _
                    rw [← hW31]
                    clear hW31
                    have hsh : (x9_1.extract 0 (decMost (dbTyp a0) - 1)).size = decMost (dbTyp a0) - 1 := by rw [ByteArray.size_extract]; have := E1.out; omega
                    refine (impl_DecodedBinary.short (dbTyp a0) (x9_1.extract 0 (decMost (dbTyp a0) - 1)) W31 hty (by rw [hsh]; have := HM.out; omega) (by rw [hsh]; have := HM.out; omega)).mono ?_
                    rintro e w32 ⟨rfl, hb32⟩
                    have HB32 := Aside0.mk (below_step HBW hb32)
                    have B32 := (hb32.block _ (blk_lt B31)).trans B31
                    clear hb32 B31 HBW
                    unfold datumV
                    go_wp2_with fail
                    refine (impl_DecodedBinary.bytes a2 _ HA2.out).mono ?_
                    rintro e w33 ⟨rfl, hb33⟩
                    have HB33 := Aside0.mk (below_step (below_alloc HB32.out _) hb33)
                    have B33 := ((below_alloc (Below.refl w32.heap.size w32) _).trans (hb33.mono (by simp))).block _ (blk_lt B32) |>.trans B32
                    clear hb33 B32
                    unfold datumV
                    have BQ := fun o : Obj => ((below_alloc (Below.refl w33.heap.size w33) o).block _ (blk_lt B33)).trans B33
                    have hfe : ∀ W, (Op.equalIn 9999 60 (.float .f64 0) (.float .f64 0)).run Try.prog W = .ok true W := fun W => by kernel_rfl
                    have q0 := fun o => blk_cell (BQ o) 0
                    have q1 := fun o => blk_cell (BQ o) 1
                    have q2 := fun o => blk_cell (BQ o) 2
                    have q3 := fun o => blk_cell (BQ o) 3
                    have q4 := fun o => blk_cell (BQ o) 4
                    have q5 := fun o => blk_cell (BQ o) 5
                    have q6 := fun o => blk_cell (BQ o) 6
                    have q7 := fun o => blk_cell (BQ o) 7
                    have q8 := fun o => blk_cell (BQ o) 8
                    have q9 := fun o => blk_cell (BQ o) 9
                    have q10 := fun o => blk_cell (BQ o) 10
                    have q11 := fun o => blk_cell (BQ o) 11
                    have q12 := fun o => blk_cell (BQ o) 12
                    go_wp2_with fail
                    go_ret
                    exact ⟨rfl, below_alloc HB33.out _⟩
                  have c24b0 : ((Int.tmod a0 3) == 0) = false := beq_eq_false_iff_ne.mpr c24
                  by_cases c25 : (Int.tmod a0 3) = 1
                  · have c25b0 : ((Int.tmod a0 3) == 1) = true := beq_iff_eq.mpr c25
                    have hdn : dbNum a0 a1 = wrap64 (wrap32 a1) := by unfold dbNum; rw [if_neg c24, if_pos c25]
                    clear c24
                    go_wp2_with fail
                    refine (impl_DecodedBinary.num (dbTyp a0) x9_1 wr hty (by have := E1.out; have := HM.out; omega) (Nat.le_of_eq E1.out.symm)).mono ?_
                    rintro e w31 ⟨rfl, hb31⟩
                    have HB31 := Aside0.mk (below_step HB.out hb31)
                    clear hb31
                    rw [E2.out, hdn]
                    unfold datumV
                    go_wp2_with fail
                    obtain ⟨W31, hW31⟩ : ∃ W, W = w31.alloc (.cells #[.int .i64 1, .int .i64 (wrap64 (wrap32 a1)), .float .f64 0, .string ⟨#[]⟩, .bool false, .int .i64 0, .int .i64 0, .int .i64 0, .int .i64 0, .int .i64 0, .int .i64 0, .int .i64 0, .int .i64 0] 64 (0, 0)) := ⟨_, rfl⟩
                    have B31 : W31.heap[w31.heap.size]? = some (.cells #[.int .i64 1, .int .i64 (wrap64 (wrap32 a1)), .float .f64 0, .string ⟨#[]⟩, .bool false, .int .i64 0, .int .i64 0, .int .i64 0, .int .i64 0, .int .i64 0, .int .i64 0, .int .i64 0, .int .i64 0] 64 (0, 0)) := by rw [hW31]; exact heap_alloc_new _ _
                    have HBW : Below w.heap.size w W31 := by rw [hW31]; exact below_alloc HB31.out _
                    rw [← hW31]
                    clear hW31
                    have hsh : (x9_1.extract 0 (decMost (dbTyp a0) - 1)).size = decMost (dbTyp a0) - 1 := by rw [ByteArray.size_extract]; have := E1.out; omega
                    refine (impl_DecodedBinary.short (dbTyp a0) (x9_1.extract 0 (decMost (dbTyp a0) - 1)) W31 hty (by rw [hsh]; have := HM.out; omega) (by rw [hsh]; have := HM.out; omega)).mono ?_
                    rintro e w32 ⟨rfl, hb32⟩
                    have HB32 := Aside0.mk (below_step HBW hb32)
                    have B32 := (hb32.block _ (blk_lt B31)).trans B31
                    clear hb32 B31 HBW
                    unfold datumV
                    go_wp2_with fail
                    refine (impl_DecodedBinary.bytes a2 _ HA2.out).mono ?_
                    rintro e w33 ⟨rfl, hb33⟩
                    have HB33 := Aside0.mk (below_step (below_alloc HB32.out _) hb33)
                    have B33 := ((below_alloc (Below.refl w32.heap.size w32) _).trans (hb33.mono (by simp))).block _ (blk_lt B32) |>.trans B32
                    clear hb33 B32
                    unfold datumV
                    have BQ := fun o : Obj => ((below_alloc (Below.refl w33.heap.size w33) o).block _ (blk_lt B33)).trans B33
                    have hfe : ∀ W, (Op.equalIn 9999 60 (.float .f64 0) (.float .f64 0)).run Try.prog W = .ok true W := fun W => by kernel_rfl
                    have q0 := fun o => blk_cell (BQ o) 0
                    have q1 := fun o => blk_cell (BQ o) 1
                    have q2 := fun o => blk_cell (BQ o) 2
                    have q3 := fun o => blk_cell (BQ o) 3
                    have q4 := fun o => blk_cell (BQ o) 4
                    have q5 := fun o => blk_cell (BQ o) 5
                    have q6 := fun o => blk_cell (BQ o) 6
                    have q7 := fun o => blk_cell (BQ o) 7
                    have q8 := fun o => blk_cell (BQ o) 8
                    have q9 := fun o => blk_cell (BQ o) 9
                    have q10 := fun o => blk_cell (BQ o) 10
                    have q11 := fun o => blk_cell (BQ o) 11
                    have q12 := fun o => blk_cell (BQ o) 12
                    go_wp2_with fail
                    go_ret
                    exact ⟨rfl, below_alloc HB33.out _⟩
                  · have c25b0 : ((Int.tmod a0 3) == 1) = false := beq_eq_false_iff_ne.mpr c25
                    have hdn : dbNum a0 a1 = a1 := by unfold dbNum; rw [if_neg c24, if_neg c25]
                    go_wp2_with fail
                    refine (impl_DecodedBinary.num (dbTyp a0) x9_1 wr hty (by have := E1.out; have := HM.out; omega) (Nat.le_of_eq E1.out.symm)).mono ?_
                    rintro e w31 ⟨rfl, hb31⟩
                    have HB31 := Aside0.mk (below_step HB.out hb31)
                    clear hb31
                    rw [E2.out, hdn]
                    unfold datumV
                    go_wp2_with fail
                    obtain ⟨W31, hW31⟩ : ∃ W, W = w31.alloc (.cells #[.int .i64 1, .int .i64 (a1), .float .f64 0, .string ⟨#[]⟩, .bool false, .int .i64 0, .int .i64 0, .int .i64 0, .int .i64 0, .int .i64 0, .int .i64 0, .int .i64 0, .int .i64 0] 64 (0, 0)) := ⟨_, rfl⟩
                    have B31 : W31.heap[w31.heap.size]? = some (.cells #[.int .i64 1, .int .i64 (a1), .float .f64 0, .string ⟨#[]⟩, .bool false, .int .i64 0, .int .i64 0, .int .i64 0, .int .i64 0, .int .i64 0, .int .i64 0, .int .i64 0, .int .i64 0] 64 (0, 0)) := by rw [hW31]; exact heap_alloc_new _ _
                    have HBW : Below w.heap.size w W31 := by rw [hW31]; exact below_alloc HB31.out _
                    rw [← hW31]
                    clear hW31
                    have hsh : (x9_1.extract 0 (decMost (dbTyp a0) - 1)).size = decMost (dbTyp a0) - 1 := by rw [ByteArray.size_extract]; have := E1.out; omega
                    refine (impl_DecodedBinary.short (dbTyp a0) (x9_1.extract 0 (decMost (dbTyp a0) - 1)) W31 hty (by rw [hsh]; have := HM.out; omega) (by rw [hsh]; have := HM.out; omega)).mono ?_
                    rintro e w32 ⟨rfl, hb32⟩
                    have HB32 := Aside0.mk (below_step HBW hb32)
                    have B32 := (hb32.block _ (blk_lt B31)).trans B31
                    clear hb32 B31 HBW
                    unfold datumV
                    go_wp2_with fail
                    refine (impl_DecodedBinary.bytes a2 _ HA2.out).mono ?_
                    rintro e w33 ⟨rfl, hb33⟩
                    have HB33 := Aside0.mk (below_step (below_alloc HB32.out _) hb33)
                    have B33 := ((below_alloc (Below.refl w32.heap.size w32) _).trans (hb33.mono (by simp))).block _ (blk_lt B32) |>.trans B32
                    clear hb33 B32
                    unfold datumV
                    have BQ := fun o : Obj => ((below_alloc (Below.refl w33.heap.size w33) o).block _ (blk_lt B33)).trans B33
                    have hfe : ∀ W, (Op.equalIn 9999 60 (.float .f64 0) (.float .f64 0)).run Try.prog W = .ok true W := fun W => by kernel_rfl
                    have q0 := fun o => blk_cell (BQ o) 0
                    have q1 := fun o => blk_cell (BQ o) 1
                    have q2 := fun o => blk_cell (BQ o) 2
                    have q3 := fun o => blk_cell (BQ o) 3
                    have q4 := fun o => blk_cell (BQ o) 4
                    have q5 := fun o => blk_cell (BQ o) 5
                    have q6 := fun o => blk_cell (BQ o) 6
                    have q7 := fun o => blk_cell (BQ o) 7
                    have q8 := fun o => blk_cell (BQ o) 8
                    have q9 := fun o => blk_cell (BQ o) 9
                    have q10 := fun o => blk_cell (BQ o) 10
                    have q11 := fun o => blk_cell (BQ o) 11
                    have q12 := fun o => blk_cell (BQ o) 12
                    go_wp2_with fail
                    go_ret
                    exact ⟨rfl, below_alloc HB33.out _⟩
          · rw [if_neg c9] at H
            exact absurd H (by simp)
        · rw [if_neg c8] at H
          exact absurd H (by simp)
      · rw [if_neg c7] at H
        exact absurd H (by simp)


end Go.Proofs.Ythcikkjjegfblab.P
