-- Written by the program wip/myprint.py of this session, over the kit's print of the translation. Lean checks it.
import Derived.Test.YtlfkejljbehcaaaPx0
namespace Go.Proofs.Ytlfkejljbehcaaa.P
open Go.RowKit Go.Proofs.YtlfkejljbehcaaaW.PrintWords Go.Proofs.YtlfkejljbehcaaaW.PrintLast Go.Proofs.YtlfkejljbehcaaaW.PrintMore
attribute [local go_sem] max2_int min2_int max_two min_two max_three min_three max_four min_four   -- for this text's walks alone
set_option linter.unusedVariables false
set_option linter.unusedSimpArgs false

/-! ### pq_zzIndexQuote: function 36 -/
def pq_zzIndexQuote.l0 : Nat → List Int → Int → Int → Option (Int)
  | 0, _, _, _ => none
  | k + 1, x5, x6, x7 => if x7 < x6 then (if 0 ≤ x7 then (if x7 < (x5.length : Int) then (if (rd x5 x7) = 34 then (some x7) else (if (rd x5 x7) = 92 then (some x7) else (pq_zzIndexQuote.l0 k x5 x6 (wrap64 (x7 + 1))))) else (none)) else (none)) else (some (-1))
def pq_zzIndexQuote.f (k : Nat) (l0 : List Int) : Option (Int) := pq_zzIndexQuote.l0 k l0 (l0.length : Int) 0
theorem pq_zzIndexQuote.mono_l : ∀ k, (∀ y0 y1 y2, LeO (pq_zzIndexQuote.l0 k y0 y1 y2) (pq_zzIndexQuote.l0 (k + 1) y0 y1 y2))
  | 0 => fun _ _ _ r h => by simp [pq_zzIndexQuote.l0] at h
  | k + 1 => by
    have ih0 := pq_zzIndexQuote.mono_l k
    · intro y0 y1 y2
      unfold pq_zzIndexQuote.l0
      repeat' first
      | (with_reducible exact ih0 _ _ _)
      | (with_reducible exact LeO.refl _)
      | (with_reducible exact LeO.none _)
      | (with_reducible refine LeO.ite ?_ ?_)
      | (with_reducible refine LeO.bind ?_ (fun _ => ?_))
      | exact ih0 _ _ _
      | exact LeO.none _
      | refine LeO.ite ?_ ?_
      | refine LeO.bind ?_ (fun _ => ?_)
theorem pq_zzIndexQuote.mono : ∀ a0 k, LeO (pq_zzIndexQuote.f k a0) (pq_zzIndexQuote.f (k + 1) a0) := by
  intro a0 k
  have ih0 := pq_zzIndexQuote.mono_l k
  unfold pq_zzIndexQuote.f
  repeat' first
      | (with_reducible exact ih0 _ _ _)
      | (with_reducible exact LeO.refl _)
      | (with_reducible exact LeO.none _)
      | (with_reducible refine LeO.ite ?_ ?_)
      | (with_reducible refine LeO.bind ?_ (fun _ => ?_))
      | exact ih0 _ _ _
      | exact LeO.none _
      | refine LeO.ite ?_ ?_
      | refine LeO.bind ?_ (fun _ => ?_)
set_option maxHeartbeats 8000000 in
set_option maxRecDepth 100000 in
theorem pq_zzIndexQuote.calls (k : Nat) (A0 : Option Addr) (c0 : Nat) (l0 : List Int) (r : Int) (w : World) (hr0 : Kd.C (Kd.int .u8) w A0 l0.length l0) (hc0 : l0.length ≤ c0) (h : pq_zzIndexQuote.f k l0 = some r) :
    Calls Try.prog 36 #[.slice A0 l0.length c0] w fun e w' => e = .returned (.int .i64 r) ∧ Drawn0 w w' := by
  have HR0 := Aside0.mk hr0
  have HC0 := Aside0.mk hc0
  clear hr0 hc0
  have H : (pq_zzIndexQuote.l0 k l0 (l0.length : Int) 0) = some r := h
  clear h
  have H' := Aside0.mk H
  clear H
  go_enter Try.func36, Try.ntmps36
  go_wp2
  go_loopg [7] k (fun kq v7 w' => ∃ (x7_1 : Int), v7 = .int .i64 x7_1 ∧ Aside0 (pq_zzIndexQuote.l0 kq l0 (l0.length : Int) x7_1 = some r) ∧ Aside0 (kq ≤ k) ∧ Drawn0 w w')
  case atStart => exact ⟨(0), (by first | rfl | (simp; done) | (simp [*]; done)), H', ⟨Nat.le_refl _⟩, by repeat (first | exact Drawn0.refl _ | apply Drawn0.step)⟩
  case round =>
    clear H'
    obtain ⟨x7_1, rfl, HA, HK1, ⟨m1, rfl⟩⟩ := hrel
    cases gk with
    | zero => exact absurd HA.out (by simp [pq_zzIndexQuote.l0])
    | succ k1 =>
      have H := HA.out
      clear HA
      simp only [pq_zzIndexQuote.l0] at H
      by_cases c2 : x7_1 < (l0.length : Int)
      · rw [if_pos c2] at H
        have c2b0 : decide (x7_1 < (l0.length : Int)) = true := decide_eq_true c2
        clear c2
        by_cases c3 : 0 ≤ x7_1
        · rw [if_pos c3] at H
          have c3b0 : decide (0 ≤ x7_1) = true := decide_eq_true c3
          clear c3
          by_cases c4 : x7_1 < (l0.length : Int)
          · rw [if_pos c4] at H
            have c4b0 : decide (x7_1 < (l0.length : Int)) = true := decide_eq_true c4
            clear c4
            by_cases c5 : (rd l0 x7_1) = 34
            · rw [if_pos c5] at H
              have c5b0 : ((rd l0 x7_1) == 34) = true := beq_iff_eq.mpr c5
              have c5b1 : ((rd l0 x7_1) != 34) = false := bne_eq_false_iff_eq.mpr c5
              clear c5
              obtain rfl := Option.some.inj H
              have p109 : 0 ≤ (x7_1 : Int) := of_decide_eq_true (by first | (with_reducible assumption) | assumption)
              have q109 : x7_1 < (l0.length : Int) := of_decide_eq_true (by first | (with_reducible assumption) | assumption)
              obtain ⟨ad109, e109, hx109_0⟩ := Kd.at_int HR0.out x7_1 p109 q109
              cases e109
              replace p109 := eq_true p109
              replace q109 := eq_true q109
              go_wp2
              go_ret
              exact ⟨by first | rfl | (simp; done) | (simp [*]; done), by repeat (first | exact Drawn0.refl _ | apply Drawn0.step)⟩
            · rw [if_neg c5] at H
              have c5b0 : ((rd l0 x7_1) == 34) = false := beq_eq_false_iff_ne.mpr c5
              have c5b1 : ((rd l0 x7_1) != 34) = true := bne_iff_ne.mpr c5
              by_cases c6 : (rd l0 x7_1) = 92
              · rw [if_pos c6] at H
                have c6b0 : ((rd l0 x7_1) == 92) = true := beq_iff_eq.mpr c6
                have c6b1 : ((rd l0 x7_1) != 92) = false := bne_eq_false_iff_eq.mpr c6
                clear c6
                obtain rfl := Option.some.inj H
                have p109 : 0 ≤ (x7_1 : Int) := of_decide_eq_true (by first | (with_reducible assumption) | assumption)
                have q109 : x7_1 < (l0.length : Int) := of_decide_eq_true (by first | (with_reducible assumption) | assumption)
                obtain ⟨ad109, e109, hx109_0⟩ := Kd.at_int HR0.out x7_1 p109 q109
                cases e109
                replace p109 := eq_true p109
                replace q109 := eq_true q109
                go_wp2
                go_ret
                exact ⟨by first | rfl | (simp; done) | (simp [*]; done), by repeat (first | exact Drawn0.refl _ | apply Drawn0.step)⟩
              · rw [if_neg c6] at H
                have c6b0 : ((rd l0 x7_1) == 92) = false := beq_eq_false_iff_ne.mpr c6
                have c6b1 : ((rd l0 x7_1) != 92) = true := bne_iff_ne.mpr c6
                have H' := Aside0.mk H
                clear H
                have p109 : 0 ≤ (x7_1 : Int) := of_decide_eq_true (by first | (with_reducible assumption) | assumption)
                have q109 : x7_1 < (l0.length : Int) := of_decide_eq_true (by first | (with_reducible assumption) | assumption)
                obtain ⟨ad109, e109, hx109_0⟩ := Kd.at_int HR0.out x7_1 p109 q109
                cases e109
                replace p109 := eq_true p109
                replace q109 := eq_true q109
                go_wp2
                go_roundg k1
                case measure => have := HK1.out; omega
                case rel => exact ⟨(wrap64 (x7_1 + 1)), (by first | rfl | (simp; done) | (simp [*]; done)), H', ⟨by have := HK1.out; omega⟩, by repeat (first | exact Drawn0.refl _ | apply Drawn0.step)⟩
          · rw [if_neg c4] at H
            exact absurd H (by simp)
        · rw [if_neg c3] at H
          exact absurd H (by simp)
      · rw [if_neg c2] at H
        have c2b0 : decide (x7_1 < (l0.length : Int)) = false := decide_eq_false c2
        clear c2
        obtain rfl := Option.some.inj H
        go_wp2
        go_ret
        exact ⟨by first | rfl | (simp; done) | (simp [*]; done), by repeat (first | exact Drawn0.refl _ | apply Drawn0.step)⟩

/-! ### pq_appendArrayQuotedBytes: function 31 -/
def pq_appendArrayQuotedBytes.l0 : Nat → List Int → List Int → Option (List Int)
  | 0, _, _ => none
  | k + 1, x0, x1 => (pq_zzIndexQuote.f k x1).bind fun t113 => (if t113 < 0 then (if x0.length + x1.length < 140737488355328 then ((some (x0 ++ x1 : List Int)).bind fun y114 => (if y114.length < 140737488355328 then (some (y114 ++ [34])) else (none))) else (none)) else (if t113 > 0 then (if 0 ≤ t113 then (if t113 ≤ (x1.length : Int) then ((some (x1.take (t113 : Int).toNat : List Int)).bind fun y120 => (if x0.length + y120.length < 140737488355328 then ((some (x0 ++ y120 : List Int)).bind fun y125 => (if t113 < (x1.length : Int) then ((some (([92, rd x1 t113] : List Int) : List Int)).bind fun y129 => (if y125.length + y129.length < 140737488355328 then (if 0 ≤ (wrap64 (t113 + 1)) then (if (wrap64 (t113 + 1)) ≤ (x1.length : Int) then (pq_appendArrayQuotedBytes.l0 k (y125 ++ y129) (x1.drop ((wrap64 (t113 + 1)) : Int).toNat)) else (none)) else (none)) else (none))) else (none))) else (none))) else (none)) else (none)) else (if 0 ≤ t113 then (if t113 < (x1.length : Int) then ((some (([92, rd x1 t113] : List Int) : List Int)).bind fun y141 => (if x0.length + y141.length < 140737488355328 then (if 0 ≤ (wrap64 (t113 + 1)) then (if (wrap64 (t113 + 1)) ≤ (x1.length : Int) then (pq_appendArrayQuotedBytes.l0 k (x0 ++ y141) (x1.drop ((wrap64 (t113 + 1)) : Int).toNat)) else (none)) else (none)) else (none))) else (none)) else (none))))
def pq_appendArrayQuotedBytes.f (k : Nat) (l0 : List Int) (l1 : List Int) : Option (List Int) := if l0.length < 140737488355328 then (pq_appendArrayQuotedBytes.l0 k (l0 ++ [34]) l1) else (none)
theorem pq_appendArrayQuotedBytes.mono_l : ∀ k, (∀ y0 y1, LeO (pq_appendArrayQuotedBytes.l0 k y0 y1) (pq_appendArrayQuotedBytes.l0 (k + 1) y0 y1))
  | 0 => fun _ _ r h => by simp [pq_appendArrayQuotedBytes.l0] at h
  | k + 1 => by
    have ih0 := pq_appendArrayQuotedBytes.mono_l k
    · intro y0 y1
      unfold pq_appendArrayQuotedBytes.l0
      repeat' first
      | (with_reducible exact ih0 _ _)
      | (with_reducible exact pq_zzIndexQuote.mono _ _)
      | (with_reducible exact LeO.refl _)
      | (with_reducible exact LeO.none _)
      | (with_reducible refine LeO.ite ?_ ?_)
      | (with_reducible refine LeO.bind ?_ (fun _ => ?_))
      | exact ih0 _ _
      | exact pq_zzIndexQuote.mono _ _
      | exact LeO.none _
      | refine LeO.ite ?_ ?_
      | refine LeO.bind ?_ (fun _ => ?_)
theorem pq_appendArrayQuotedBytes.mono : ∀ a0 a1 k, LeO (pq_appendArrayQuotedBytes.f k a0 a1) (pq_appendArrayQuotedBytes.f (k + 1) a0 a1) := by
  intro a0 a1 k
  have ih0 := pq_appendArrayQuotedBytes.mono_l k
  unfold pq_appendArrayQuotedBytes.f
  repeat' first
      | (with_reducible exact ih0 _ _)
      | (with_reducible exact pq_zzIndexQuote.mono _ _)
      | (with_reducible exact LeO.refl _)
      | (with_reducible exact LeO.none _)
      | (with_reducible refine LeO.ite ?_ ?_)
      | (with_reducible refine LeO.bind ?_ (fun _ => ?_))
      | exact ih0 _ _
      | exact pq_zzIndexQuote.mono _ _
      | exact LeO.none _
      | refine LeO.ite ?_ ?_
      | refine LeO.bind ?_ (fun _ => ?_)
set_option maxHeartbeats 8000000 in
set_option maxRecDepth 100000 in
theorem pq_appendArrayQuotedBytes.calls (k : Nat) (P0_ : Nat → Prop) (u9000_ : Value) (l0 : List Int) (P1_ : Nat → Prop) (A1 : Option Addr) (c1 : Nat) (l1 : List Int) (r : List Int) (w0 w : World) (hB : Below w0.heap.size w0 w) (ho0 : Kd.R (Kd.int .u8) 5 w w0.heap.size P0_ u9000_ l0) (hs1 : Kd.V (Kd.int .u8) 5 w w0.heap.size (fun k_ => P1_ k_ ∧ some k_ ≠ (u9000_ : Value).ownBlock) (.slice A1 l1.length c1) l1) (h : pq_appendArrayQuotedBytes.f k l0 l1 = some r) :
    Calls Try.prog 31 #[u9000_, .slice A1 l1.length c1] w fun e w' => ∃ v0_ : Value, e = .returned (v0_) ∧ Kd.R (Kd.int .u8) 5 w' w0.heap.size (fun k_ => (P0_ k_ ∨ w.heap.size ≤ k_)) v0_ r ∧ Below w0.heap.size w0 w' ∧ Kept w w' (fun k_ => P0_ k_) := by
  have HO0 := Aside0.mk (show Kd.R (Kd.int .u8) 5 w w0.heap.size (fun k_ => (P0_ k_ ∨ w.heap.size ≤ k_)) u9000_ l0 from Kd.R_mono ho0 (fun k_ hk => (.inl hk)))
  have HO1 := Aside0.mk (show Kd.V (Kd.int .u8) 5 w w0.heap.size (fun k_ => ((P0_ k_ ∨ P1_ k_) ∨ w.heap.size ≤ k_) ∧ some k_ ≠ (u9000_ : Value).ownBlock) (.slice A1 l1.length c1) l1 from Kd.V_mono hs1 (fun k_ hk => ⟨.inl (.inr hk.1), hk.2⟩))
  have HK := Aside0.mk (Kept.refl w (fun k_ => P0_ k_))
  have HW0 := Aside0.mk hB.size
  have HB := Aside0.mk hB
  clear hB
  have H : (if l0.length < 140737488355328 then (pq_appendArrayQuotedBytes.l0 k (l0 ++ [34]) l1) else (none)) = some r := h
  clear h
  by_cases c3 : l0.length < 140737488355328
  · rw [if_pos c3] at H
    have LMc3 := Aside0.mk c3
    clear c3
    obtain ⟨y110, hy110⟩ : ∃ y_ : List Int, y_ = (l0 ++ [34]) := ⟨_, rfl⟩
    replace H : (pq_appendArrayQuotedBytes.l0 k y110 l1) = some r := by first | (rw [hy110]; with_reducible exact H) | (have H2_ := (Option.bind_some _ _).symm.trans H; rw [hy110]; with_reducible exact H2_) | (have H2_ := (Option.bind_some _ _).symm.trans H; with_reducible exact H2_) | with_reducible exact H | (rw [hy110]; exact H) | exact H
    have Ny110 := Aside0.mk hy110
    clear hy110
    have H' := Aside0.mk H
    clear H
    go_enter Try.func31, Try.ntmps31
    go_wp2_with (first | ((with_reducible refine gate_builtin (b := .append) (xs := #[.tmp 6, .tmp 7]) rfl ?_); at_builtin; refine Kd.R_append (Kd.int .u8) (w0 := w0) w0.heap.size rfl (.tmp 6) (.tmp 7) 40 5 (.int .u8 0) 1 rfl Try.underlying40 info5 rfl (by decide) (by omega) u9000_ l0 34 [.int .u8 34] (fun k_ => (P0_ k_ ∨ w.heap.size ≤ k_)) (fun _ => False) rfl rfl ?aP (fun _ hk => hk.elim) ?aF ?aO ?aB ?aS ?aL ?_; (case aP => exact rfl); (case aB => exact (by repeat (first | (with_reducible first | exact HB.out | apply below_alloc | apply pw_below_drewN | apply below_drew1) | exact HB.out))); (case aF => exact (fun k_ hk => (.inr (Nat.le_trans (by first | exact HK.out.1 | exact (show Kept w _ (fun k_ => P0_ k_) from by repeat (first | (with_reducible first | exact HK.out | apply Kept.alloc | apply Kept.drewN | apply Kept.drew) | exact HK.out)).1) hk)))); (case aO => exact (by (with_reducible repeat (first | apply Kd.R_alloc | apply Kd.R_drewN | apply Kd.R_drew)); exact HO0.out)); (case aS => exact (below_size (by repeat (first | (with_reducible first | exact HB.out | apply below_alloc | apply pw_below_drewN | apply below_drew1) | exact HB.out)))); (case aL => have := LMc3.out; omega); intro v111 w4 ho hb hg hat; rw [← Ny110.out] at ho; have n0_ := Aside0.mk (Kd.V_afterv (ok := (fun k_ => ((P0_ k_ ∨ P1_ k_) ∨ w.heap.size ≤ k_))) (by (with_reducible repeat (first | apply Kd.V_alloc | apply Kd.V_drewN | apply Kd.V_drew)); exact HO1.out) hg hat); have n1_ := Aside0.mk (hb); have n2_ := Aside0.mk (Kept.of_grown (S := (fun k_ => P0_ k_)) hg (by repeat (first | (with_reducible first | exact HK.out | apply Kept.alloc | apply Kept.drewN | apply Kept.drew) | exact HK.out)) (fun k_ e_ => (HO0.out.1 k_ e_))); have n3_ := Aside0.mk (ho); clear HO1; clear HB; clear HK; clear HO0; have HO1 := n0_; have HB := n1_; have HK := n2_; have HO112 := n3_; clear n0_ n1_ n2_ n3_; clear ho hb hg hat))
    go_loopg [0, 1] k (fun kq v0 v1 w' => ∃ (x0_1 : List Int) (x1_1 : List Int), Aside0 (pq_appendArrayQuotedBytes.l0 kq x0_1 x1_1 = some r) ∧ Aside0 (kq ≤ k) ∧ Aside0 (Kd.R (Kd.int .u8) 5 w' w0.heap.size (fun k_ => (P0_ k_ ∨ w.heap.size ≤ k_)) v0 x0_1) ∧ Aside0 (Kd.V (Kd.int .u8) 5 w' w0.heap.size (fun k_ => ((P0_ k_ ∨ P1_ k_) ∨ w.heap.size ≤ k_) ∧ some k_ ≠ (v0 : Value).ownBlock) v1 x1_1) ∧ Aside0 (Kept w w' (fun k_ => P0_ k_)) ∧ Aside0 (Below w0.heap.size w0 w'))
    case atStart => exact ⟨(y110), (l1), H', ⟨Nat.le_refl _⟩, ⟨by (with_reducible repeat (first | apply Kd.R_alloc | apply Kd.R_drewN | apply Kd.R_drew)); exact HO112.out⟩, ⟨by (with_reducible repeat (first | apply Kd.V_alloc | apply Kd.V_drewN | apply Kd.V_drew)); exact HO1.out⟩, ⟨by repeat (first | (with_reducible first | exact HK.out | apply Kept.alloc | apply Kept.drewN | apply Kept.drew) | exact HK.out)⟩, ⟨by repeat (first | (with_reducible first | exact HB.out | apply below_alloc | apply pw_below_drewN | apply below_drew1) | exact HB.out)⟩⟩
    case round =>
      clear H'
      try clear c1
      try clear p2
      try clear c3
      obtain ⟨x0_1, x1_1, HA, HK1, HO_0, HO_1, HK, HB⟩ := hrel
      cases gk with
      | zero => exact absurd HA.out (by simp [pq_appendArrayQuotedBytes.l0])
      | succ k1 =>
        have H := HA.out
        clear HA
        simp only [pq_appendArrayQuotedBytes.l0] at H
        replace H := Option.bind_eq_some_iff.mp H
        obtain ⟨t113, A50, H⟩ := H
        replace H : (if t113 < 0 then (if x0_1.length + x1_1.length < 140737488355328 then ((some (x0_1 ++ x1_1 : List Int)).bind fun y114 => (if y114.length < 140737488355328 then (some (y114 ++ [34])) else (none))) else (none)) else (if t113 > 0 then (if 0 ≤ t113 then (if t113 ≤ (x1_1.length : Int) then ((some (x1_1.take (t113 : Int).toNat : List Int)).bind fun y120 => (if x0_1.length + y120.length < 140737488355328 then ((some (x0_1 ++ y120 : List Int)).bind fun y125 => (if t113 < (x1_1.length : Int) then ((some (([92, rd x1_1 t113] : List Int) : List Int)).bind fun y129 => (if y125.length + y129.length < 140737488355328 then (if 0 ≤ (wrap64 (t113 + 1)) then (if (wrap64 (t113 + 1)) ≤ (x1_1.length : Int) then (pq_appendArrayQuotedBytes.l0 k1 (y125 ++ y129) (x1_1.drop ((wrap64 (t113 + 1)) : Int).toNat)) else (none)) else (none)) else (none))) else (none))) else (none))) else (none)) else (none)) else (if 0 ≤ t113 then (if t113 < (x1_1.length : Int) then ((some (([92, rd x1_1 t113] : List Int) : List Int)).bind fun y141 => (if x0_1.length + y141.length < 140737488355328 then (if 0 ≤ (wrap64 (t113 + 1)) then (if (wrap64 (t113 + 1)) ≤ (x1_1.length : Int) then (pq_appendArrayQuotedBytes.l0 k1 (x0_1 ++ y141) (x1_1.drop ((wrap64 (t113 + 1)) : Int).toNat)) else (none)) else (none)) else (none))) else (none)) else (none)))) = some r := H
        have A5 := Aside0.mk A50
        clear A50
        by_cases c6 : t113 < 0
        · rw [if_pos c6] at H
          have c6b0 : decide (t113 < 0) = true := decide_eq_true c6
          clear c6
          by_cases c7 : x0_1.length + x1_1.length < 140737488355328
          · rw [if_pos c7] at H
            have LMc7 := Aside0.mk c7
            clear c7
            obtain ⟨y114, hy114⟩ : ∃ y_ : List Int, y_ = (x0_1 ++ x1_1) := ⟨_, rfl⟩
            replace H : (if y114.length < 140737488355328 then (some (y114 ++ [34])) else (none)) = some r := by first | (rw [hy114]; with_reducible exact H) | (have H2_ := (Option.bind_some _ _).symm.trans H; rw [hy114]; with_reducible exact H2_) | (have H2_ := (Option.bind_some _ _).symm.trans H; with_reducible exact H2_) | with_reducible exact H | (rw [hy114]; exact H) | exact H
            have Ny114 := Aside0.mk hy114
            clear hy114
            by_cases c8 : y114.length < 140737488355328
            · rw [if_pos c8] at H
              have LMc8 := Aside0.mk c8
              clear c8
              obtain ⟨y117, hy117⟩ : ∃ y_ : List Int, y_ = (y114 ++ [34]) := ⟨_, rfl⟩
              replace H : (some y117) = some r := by first | (rw [hy117]; with_reducible exact H) | (have H2_ := (Option.bind_some _ _).symm.trans H; rw [hy117]; with_reducible exact H2_) | (have H2_ := (Option.bind_some _ _).symm.trans H; with_reducible exact H2_) | with_reducible exact H | (rw [hy117]; exact H) | exact H
              have Ny117 := Aside0.mk hy117
              clear hy117
              obtain rfl := Option.some.inj H
              obtain ⟨Ao9, co9, eo9⟩ := Kd.V_slice HO_1.out
              subst eo9
              go_wp2_with (first | ((with_reducible refine gate_callee (f := 36) rfl ?_); refine goesL_ (some 10) rfl rfl Try.func36 (by kernel_rfl) rfl #[.slice Ao9 x1_1.length co9] rfl (by (try simp only [List.map_toArray, List.map_cons, List.map_nil]); first | done | rfl | (simp only [List.length_drop, List.length_take]; rfl)) ?_; (with_reducible refine (pq_zzIndexQuote.calls k1 _ _ x1_1 t113 _ ?side1 ?side2 A5.out).mono ?_); (case side1 => repeat (first | exact (Kd.V_reads' HO_1.out).2.2 | (with_reducible refine Kd.C_alloc ?_ _) | (with_reducible refine Kd.C_drewN ?_ _) | (with_reducible refine Kd.C_drew ?_))); (case side2 => exact (Kd.V_reads' HO_1.out).2.1); rintro e w' ⟨rfl, ⟨nd, rfl⟩⟩; refine ⟨_, rfl, ?_⟩) | ((with_reducible refine gate_builtin (b := .append) (xs := #[.tmp 13, .tmp 14]) rfl ?_); at_builtin; refine Kd.R_append_rows (Kd.int .u8) (w0 := w0) w0.heap.size rfl (.tmp 13) (.tmp 14) 40 5 (.int .u8 0) 1 rfl Try.underlying40 info5 rfl (by decide) (by omega) u0 x0_1 x1_1 _ _ _ (fun k_ => (P0_ k_ ∨ w.heap.size ≤ k_)) (fun _ => False) rfl rfl ?aO ?aR (fun _ _ h => h) (fun _ h => h.elim) ?aF ?aB ?aS ?aL ?_; (case aR => repeat (first | exact (Kd.V_reads' HO_1.out).2.2 | (with_reducible refine Kd.C_alloc ?_ _) | (with_reducible refine Kd.C_drewN ?_ _) | (with_reducible refine Kd.C_drew ?_))); (case aB => exact (by repeat (first | (with_reducible first | exact HB.out | apply below_alloc | apply pw_below_drewN | apply below_drew1) | exact HB.out))); (case aF => exact (fun k_ hk => (.inr (Nat.le_trans (by first | exact HK.out.1 | exact (show Kept w _ (fun k_ => P0_ k_) from by repeat (first | (with_reducible first | exact HK.out | apply Kept.alloc | apply Kept.drewN | apply Kept.drew) | exact HK.out)).1) hk)))); (case aO => exact (by (with_reducible repeat (first | apply Kd.R_alloc | apply Kd.R_drewN | apply Kd.R_drew)); exact HO_0.out)); (case aS => exact (below_size (by repeat (first | (with_reducible first | exact HB.out | apply below_alloc | apply pw_below_drewN | apply below_drew1) | exact HB.out)))); (case aL => have := LMc7.out; omega); intro v115 w10 ho hb hg hat; rw [← Ny114.out] at ho; have n0_ := Aside0.mk (Kd.V_afterv (ok := (fun k_ => ((P0_ k_ ∨ P1_ k_) ∨ w.heap.size ≤ k_))) (by (with_reducible repeat (first | apply Kd.V_alloc | apply Kd.V_drewN | apply Kd.V_drew)); exact HO_1.out) hg hat); have n1_ := Aside0.mk (hb); have n2_ := Aside0.mk (Kept.of_grown (S := (fun k_ => P0_ k_)) hg (by repeat (first | (with_reducible first | exact HK.out | apply Kept.alloc | apply Kept.drewN | apply Kept.drew) | exact HK.out)) (fun k_ e_ => (HO_0.out.1 k_ e_))); have n3_ := Aside0.mk (ho); clear HO_1; clear HB; clear HK; clear HO_0; have HO_1 := n0_; have HB := n1_; have HK := n2_; have HO116 := n3_; clear n0_ n1_ n2_ n3_; clear ho hb hg hat) | ((with_reducible refine gate_builtin (b := .append) (xs := #[.tmp 34, .tmp 35]) rfl ?_); at_builtin; refine Kd.R_append (Kd.int .u8) (w0 := w0) w0.heap.size rfl (.tmp 34) (.tmp 35) 40 5 (.int .u8 0) 1 rfl Try.underlying40 info5 rfl (by decide) (by omega) v115 y114 34 [.int .u8 34] (fun k_ => (P0_ k_ ∨ w.heap.size ≤ k_)) (fun _ => False) rfl rfl ?aP (fun _ hk => hk.elim) ?aF ?aO ?aB ?aS ?aL ?_; (case aP => exact rfl); (case aB => exact (by repeat (first | (with_reducible first | exact HB.out | apply below_alloc | apply pw_below_drewN | apply below_drew1) | exact HB.out))); (case aF => exact (fun k_ hk => (.inr (Nat.le_trans (by first | exact HK.out.1 | exact (show Kept w _ (fun k_ => P0_ k_) from by repeat (first | (with_reducible first | exact HK.out | apply Kept.alloc | apply Kept.drewN | apply Kept.drew) | exact HK.out)).1) hk)))); (case aO => exact (by (with_reducible repeat (first | apply Kd.R_alloc | apply Kd.R_drewN | apply Kd.R_drew)); exact HO116.out)); (case aS => exact (below_size (by repeat (first | (with_reducible first | exact HB.out | apply below_alloc | apply pw_below_drewN | apply below_drew1) | exact HB.out)))); (case aL => have := LMc8.out; omega); intro v118 w11 ho hb hg hat; rw [← Ny117.out] at ho; have n0_ := Aside0.mk (Kd.V_afterv (ok := (fun k_ => ((P0_ k_ ∨ P1_ k_) ∨ w.heap.size ≤ k_))) (by (with_reducible repeat (first | apply Kd.V_alloc | apply Kd.V_drewN | apply Kd.V_drew)); exact HO_1.out) hg hat); have n1_ := Aside0.mk (hb); have n2_ := Aside0.mk (Kept.of_grown (S := (fun k_ => P0_ k_)) hg (by repeat (first | (with_reducible first | exact HK.out | apply Kept.alloc | apply Kept.drewN | apply Kept.drew) | exact HK.out)) (fun k_ e_ => (HO116.out.1 k_ e_))); have n3_ := Aside0.mk (ho); clear HO_1; clear HB; clear HK; clear HO116; have HO_1 := n0_; have HB := n1_; have HK := n2_; have HO119 := n3_; clear n0_ n1_ n2_ n3_; clear ho hb hg hat))
              go_ret
              exact ⟨_, by first | rfl | (simp [errW_none, errW_some] <;> rfl) | (simp [*, errW_none, errW_some] <;> rfl), by (with_reducible repeat (first | apply Kd.R_alloc | apply Kd.R_drewN | apply Kd.R_drew)); exact HO119.out, by repeat (first | (with_reducible first | exact HB.out | apply below_alloc | apply pw_below_drewN | apply below_drew1) | exact HB.out), by repeat (first | (with_reducible first | exact HK.out | apply Kept.alloc | apply Kept.drewN | apply Kept.drew) | exact HK.out)⟩
            · rw [if_neg c8] at H
              exact absurd H (by simp)
          · rw [if_neg c7] at H
            exact absurd H (by simp)
        · rw [if_neg c6] at H
          have c6b0 : decide (t113 < 0) = false := decide_eq_false c6
          clear c6
          by_cases c12 : t113 > 0
          · rw [if_pos c12] at H
            have c12b0 : decide (0 < t113) = true := decide_eq_true c12
            clear c12
            by_cases c13 : 0 ≤ t113
            · rw [if_pos c13] at H
              have c13b0 := eq_true c13
              have c13b1 : decide (0 ≤ t113) = true := decide_eq_true c13
              clear c13
              by_cases c14 : t113 ≤ (x1_1.length : Int)
              · rw [if_pos c14] at H
                have c14b0 := eq_true c14
                have c14b1 : decide (t113 ≤ (x1_1.length : Int)) = true := decide_eq_true c14
                clear c14
                obtain ⟨y120, hy120⟩ : ∃ y_ : List Int, y_ = (x1_1.take (t113 : Int).toNat) := ⟨_, rfl⟩
                replace H : (if x0_1.length + y120.length < 140737488355328 then ((some (x0_1 ++ y120 : List Int)).bind fun y125 => (if t113 < (x1_1.length : Int) then ((some (([92, rd x1_1 t113] : List Int) : List Int)).bind fun y129 => (if y125.length + y129.length < 140737488355328 then (if 0 ≤ (wrap64 (t113 + 1)) then (if (wrap64 (t113 + 1)) ≤ (x1_1.length : Int) then (pq_appendArrayQuotedBytes.l0 k1 (y125 ++ y129) (x1_1.drop ((wrap64 (t113 + 1)) : Int).toNat)) else (none)) else (none)) else (none))) else (none))) else (none)) = some r := by first | (rw [hy120]; with_reducible exact H) | (have H2_ := (Option.bind_some _ _).symm.trans H; rw [hy120]; with_reducible exact H2_) | (have H2_ := (Option.bind_some _ _).symm.trans H; with_reducible exact H2_) | with_reducible exact H | (rw [hy120]; exact H) | exact H
                have Ny120 := Aside0.mk hy120
                clear hy120
                by_cases c15 : x0_1.length + y120.length < 140737488355328
                · rw [if_pos c15] at H
                  have LMc15 := Aside0.mk c15
                  clear c15
                  obtain ⟨y125, hy125⟩ : ∃ y_ : List Int, y_ = (x0_1 ++ y120) := ⟨_, rfl⟩
                  replace H : (if t113 < (x1_1.length : Int) then ((some (([92, rd x1_1 t113] : List Int) : List Int)).bind fun y129 => (if y125.length + y129.length < 140737488355328 then (if 0 ≤ (wrap64 (t113 + 1)) then (if (wrap64 (t113 + 1)) ≤ (x1_1.length : Int) then (pq_appendArrayQuotedBytes.l0 k1 (y125 ++ y129) (x1_1.drop ((wrap64 (t113 + 1)) : Int).toNat)) else (none)) else (none)) else (none))) else (none)) = some r := by first | (rw [hy125]; with_reducible exact H) | (have H2_ := (Option.bind_some _ _).symm.trans H; rw [hy125]; with_reducible exact H2_) | (have H2_ := (Option.bind_some _ _).symm.trans H; with_reducible exact H2_) | with_reducible exact H | (rw [hy125]; exact H) | exact H
                  have Ny125 := Aside0.mk hy125
                  clear hy125
                  by_cases c16 : t113 < (x1_1.length : Int)
                  · rw [if_pos c16] at H
                    have c16b0 : decide (t113 < (x1_1.length : Int)) = true := decide_eq_true c16
                    clear c16
                    obtain ⟨y129, hy129⟩ : ∃ y_ : List Int, y_ = (([92, rd x1_1 t113] : List Int)) := ⟨_, rfl⟩
                    replace H : (if y125.length + y129.length < 140737488355328 then (if 0 ≤ (wrap64 (t113 + 1)) then (if (wrap64 (t113 + 1)) ≤ (x1_1.length : Int) then (pq_appendArrayQuotedBytes.l0 k1 (y125 ++ y129) (x1_1.drop ((wrap64 (t113 + 1)) : Int).toNat)) else (none)) else (none)) else (none)) = some r := by first | (rw [hy129]; with_reducible exact H) | (have H2_ := (Option.bind_some _ _).symm.trans H; rw [hy129]; with_reducible exact H2_) | (have H2_ := (Option.bind_some _ _).symm.trans H; with_reducible exact H2_) | with_reducible exact H | (rw [hy129]; exact H) | exact H
                    have Ny129 := Aside0.mk hy129
                    clear hy129
                    by_cases c17 : y125.length + y129.length < 140737488355328
                    · rw [if_pos c17] at H
                      have LMc17 := Aside0.mk c17
                      clear c17
                      obtain ⟨y132, hy132⟩ : ∃ y_ : List Int, y_ = (y125 ++ y129) := ⟨_, rfl⟩
                      replace H : (if 0 ≤ (wrap64 (t113 + 1)) then (if (wrap64 (t113 + 1)) ≤ (x1_1.length : Int) then (pq_appendArrayQuotedBytes.l0 k1 y132 (x1_1.drop ((wrap64 (t113 + 1)) : Int).toNat)) else (none)) else (none)) = some r := by first | (rw [hy132]; with_reducible exact H) | (have H2_ := (Option.bind_some _ _).symm.trans H; rw [hy132]; with_reducible exact H2_) | (have H2_ := (Option.bind_some _ _).symm.trans H; with_reducible exact H2_) | with_reducible exact H | (rw [hy132]; exact H) | exact H
                      have Ny132 := Aside0.mk hy132
                      clear hy132
                      obtain ⟨ji18, hji18⟩ : ∃ j_ : Int, (wrap64 (t113 + 1)) = j_ := ⟨_, rfl⟩
                      replace H : (if 0 ≤ (ji18) then (if (ji18) ≤ (x1_1.length : Int) then (pq_appendArrayQuotedBytes.l0 k1 y132 (x1_1.drop ((ji18) : Int).toNat)) else (none)) else (none)) = some r := by first | (rw [hji18] at H; exact H) | (simp only [hji18] at H ⊢; exact H)
                      (try rw [hji18] at A5)
                      have hji18w : (IntKind.i64.wrap (t113 + 1)) = ji18 := (i64_w _).trans hji18
                      by_cases c19 : 0 ≤ (ji18)
                      · rw [if_pos c19] at H
                        have c19b0 := eq_true c19
                        have c19b1 : decide (0 ≤ (ji18)) = true := decide_eq_true c19
                        clear c19
                        by_cases c20 : (ji18) ≤ (x1_1.length : Int)
                        · rw [if_pos c20] at H
                          have c20b0 := eq_true c20
                          have c20b1 : decide ((ji18) ≤ (x1_1.length : Int)) = true := decide_eq_true c20
                          clear c20
                          obtain ⟨y135, hy135⟩ : ∃ y_ : List Int, y_ = (x1_1.drop ((ji18) : Int).toNat) := ⟨_, rfl⟩
                          replace H : (pq_appendArrayQuotedBytes.l0 k1 y132 y135) = some r := by first | (rw [hy135]; with_reducible exact H) | (have H2_ := (Option.bind_some _ _).symm.trans H; rw [hy135]; with_reducible exact H2_) | (have H2_ := (Option.bind_some _ _).symm.trans H; with_reducible exact H2_) | with_reducible exact H | (rw [hy135]; exact H) | exact H
                          have Ny135 := Aside0.mk hy135
                          clear hy135
                          have H' := Aside0.mk H
                          clear H
                          obtain ⟨Ao21, co21, eo21⟩ := Kd.V_slice HO_1.out
                          subst eo21
                          go_wp2_with (first | ((with_reducible refine gate_callee (f := 36) rfl ?_); refine goesL_ (some 10) rfl rfl Try.func36 (by kernel_rfl) rfl #[.slice Ao21 x1_1.length co21] rfl (by (try simp only [List.map_toArray, List.map_cons, List.map_nil]); first | done | rfl | (simp only [List.length_drop, List.length_take]; rfl)) ?_; (with_reducible refine (pq_zzIndexQuote.calls k1 _ _ x1_1 t113 _ ?side1 ?side2 A5.out).mono ?_); (case side1 => repeat (first | exact (Kd.V_reads' HO_1.out).2.2 | (with_reducible refine Kd.C_alloc ?_ _) | (with_reducible refine Kd.C_drewN ?_ _) | (with_reducible refine Kd.C_drew ?_))); (case side2 => exact (Kd.V_reads' HO_1.out).2.1); rintro e w' ⟨rfl, ⟨nd, rfl⟩⟩; refine ⟨_, rfl, ?_⟩; have q22 : (t113 : Int) ≤ ((x1_1.length : Int) : Int) := of_decide_eq_true (by first | (with_reducible assumption) | assumption); obtain ⟨i022, hi022, _, hsz22, _⟩ := info_parts info5; have hroom22 : x1_1.length ≤ co21 := (Kd.V_reads' HO_1.out).2.1; have hC22 : Kd.F (Kd.int .u8) _ _ Ao21 x1_1.length x1_1 := (Kd.V_at (base := w0.heap.size) HO_1.out).2.2; have hcut22 := cut_to (P := Try.prog) 40 5 .i64 Try.underlying40 hi022 Ao21 x1_1.length co21 t113 (of_decide_eq_true (by first | (with_reducible assumption) | assumption)) q22 hroom22; have hr22 := Kd.F_take (m := (t113 : Int).toNat) hC22 (by omega); have hy22 : y120.length = (t113 : Int).toNat := (by rw [Ny120.out, List.length_take]; omega); rw [← Ny120.out] at hr22; rw [← hy22] at hcut22; have HO124 := Aside0.mk (show Kd.V (Kd.int .u8) 5 _ w0.heap.size _ (.slice Ao21 y120.length co21) y120 from Kd.V_mk (by omega) hr22); have HC124 := Aside0.mk (show y120.length ≤ co21 from by omega); clear hr22 hC22 hroom22 hi022 hsz22; have KY22 := Aside0.mk hy22; clear hy22; replace q22 := eq_true q22) | ((with_reducible refine gate_builtin (b := .append) (xs := #[.tmp 18, .tmp 21]) rfl ?_); at_builtin; refine Kd.R_append_rows (Kd.int .u8) (w0 := w0) w0.heap.size rfl (.tmp 18) (.tmp 21) 40 5 (.int .u8 0) 1 rfl Try.underlying40 info5 rfl (by decide) (by omega) u0 x0_1 y120 _ _ _ (fun k_ => (P0_ k_ ∨ w.heap.size ≤ k_)) (fun _ => False) rfl rfl ?aO ?aR (fun _ _ h => h) (fun _ h => h.elim) ?aF ?aB ?aS ?aL ?_; (case aR => repeat (first | exact (Kd.V_reads' HO124.out).2.2 | (with_reducible refine Kd.C_alloc ?_ _) | (with_reducible refine Kd.C_drewN ?_ _) | (with_reducible refine Kd.C_drew ?_))); (case aB => exact (by repeat (first | (with_reducible first | exact HB.out | apply below_alloc | apply pw_below_drewN | apply below_drew1) | exact HB.out))); (case aF => exact (fun k_ hk => (.inr (Nat.le_trans (by first | exact HK.out.1 | exact (show Kept w _ (fun k_ => P0_ k_) from by repeat (first | (with_reducible first | exact HK.out | apply Kept.alloc | apply Kept.drewN | apply Kept.drew) | exact HK.out)).1) hk)))); (case aO => exact (by (with_reducible repeat (first | apply Kd.R_alloc | apply Kd.R_drewN | apply Kd.R_drew)); exact HO_0.out)); (case aS => exact (below_size (by repeat (first | (with_reducible first | exact HB.out | apply below_alloc | apply pw_below_drewN | apply below_drew1) | exact HB.out)))); (case aL => have := LMc15.out; omega); intro v126 w23 ho hb hg hat; rw [← Ny125.out] at ho; have n0_ := Aside0.mk (Kd.V_afterv (ok := (fun k_ => ((P0_ k_ ∨ P1_ k_) ∨ w.heap.size ≤ k_))) (by (with_reducible repeat (first | apply Kd.V_alloc | apply Kd.V_drewN | apply Kd.V_drew)); exact HO_1.out) hg hat); have n1_ := Aside0.mk (Kd.V_afterv (ok := (fun k_ => ((P0_ k_ ∨ P1_ k_) ∨ w.heap.size ≤ k_))) (by (with_reducible repeat (first | apply Kd.V_alloc | apply Kd.V_drewN | apply Kd.V_drew)); exact HO124.out) hg hat); have n2_ := Aside0.mk (hb); have n3_ := Aside0.mk (Kept.of_grown (S := (fun k_ => P0_ k_)) hg (by repeat (first | (with_reducible first | exact HK.out | apply Kept.alloc | apply Kept.drewN | apply Kept.drew) | exact HK.out)) (fun k_ e_ => (HO_0.out.1 k_ e_))); have n4_ := Aside0.mk (ho); clear HO_1; clear HO124; clear HB; clear HK; clear HO_0; have HO_1 := n0_; have HO124 := n1_; have HB := n2_; have HK := n3_; have HO127 := n4_; clear n0_ n1_ n2_ n3_ n4_; clear ho hb hg hat; have p128 : 0 ≤ (t113 : Int) := of_decide_eq_true (by first | (with_reducible assumption) | assumption); have q128 : t113 < (x1_1.length : Int) := of_decide_eq_true (by first | (with_reducible assumption) | assumption); obtain ⟨ad128, e128, hx128_0⟩ := Kd.at_int (Kd.V_reads' HO_1.out).2.2 t113 p128 q128; cases e128; replace p128 := eq_true p128; replace q128 := eq_true q128) | ((with_reducible refine gate_dst (N := 28) rfl ?_); refine Kd.R_lit (Kd.int .u8) _ 5 ?hg (N := 28) ?hd (xs := ([92, rd x1_1 t113] : List Int)) (inner := [.int .u8 92, .int .u8 (rd x1_1 t113)]) (ok := fun _ => True) (okp := fun _ => True) ?hr ?hp (fun _ hk => hk) trivial (Below.refl _ _) (Nat.le_refl _) (by simp) ?_; (case hd => rfl); (case hg => rfl); (case hr => first | (go_simp; done) | (go_simp; rfl)); (case hp => exact (Reps.one (show Kd.M (Kd.int .u8) _ _ _ 92 [.int .u8 92] from rfl) (Reps.one (show Kd.M (Kd.int .u8) _ _ _ (rd x1_1 t113) [.int .u8 (rd x1_1 t113)] from rfl) (Reps.none _ _)))); intro v130 w24 ho25 hb hg_ hnew_; clear hg_ hnew_; (first | rw [← Ny129.out] at ho25 | (simp only [Int.reduceToNat] at ho25; rw [← Ny129.out] at ho25)); have n0_ := Aside0.mk (Kd.V_elder' (by (with_reducible repeat (first | apply Kd.V_alloc | apply Kd.V_drewN | apply Kd.V_drew)); exact HO_1.out) (Kd.R_base ho25) hb); have n1_ := Aside0.mk (Kd.V_elder' (by (with_reducible repeat (first | apply Kd.V_alloc | apply Kd.V_drewN | apply Kd.V_drew)); exact HO124.out) (Kd.R_base ho25) hb); have n2_ := Aside0.mk (Kd.R_elder' (by (with_reducible repeat (first | apply Kd.R_alloc | apply Kd.R_drewN | apply Kd.R_drew)); exact HO127.out) (Kd.R_base ho25) hb); have n3_ := Aside0.mk (Kd.R_lower (Kd.R_new' (Kd.R_newM (M := fun k_ => (P0_ k_ ∨ w.heap.size ≤ k_)) ho25 (by first | exact HK.out.1 | exact (show Kept w _ (fun k_ => P0_ k_) from by repeat (first | (with_reducible first | exact HK.out | apply Kept.alloc | apply Kept.drewN | apply Kept.drew) | exact HK.out)).1) (fun k_ h_ => .inr h_)) (Kd.R_lt (by (with_reducible repeat (first | apply Kd.R_alloc | apply Kd.R_drewN | apply Kd.R_drew)); exact HO127.out))) (below_size (by repeat (first | (with_reducible first | exact HB.out | apply below_alloc | apply pw_below_drewN | apply below_drew1) | exact HB.out)))); have n4_ := Aside0.mk (Kept.below (S := (fun k_ => P0_ k_)) (by repeat (first | (with_reducible first | exact HK.out | apply Kept.alloc | apply Kept.drewN | apply Kept.drew) | exact HK.out)) hb); have n5_ := Aside0.mk (below_step (by repeat (first | (with_reducible first | exact HB.out | apply below_alloc | apply pw_below_drewN | apply below_drew1) | exact HB.out)) hb); clear HO_1; clear HO124; clear HO127; clear HK; clear HB; have HO_1 := n0_; have HO124 := n1_; have HO127 := n2_; have HO131 := n3_; have HK := n4_; have HB := n5_; clear n0_ n1_ n2_ n3_ n4_ n5_; clear hb ho25; obtain ⟨Ao27, co27, eo27⟩ := Kd.R_slice HO131.out; subst eo27) | ((with_reducible refine gate_builtin (b := .append) (xs := #[.tmp 23, .tmp 28]) rfl ?_); at_builtin; refine Kd.R_append_rows (Kd.int .u8) (w0 := w0) w0.heap.size rfl (.tmp 23) (.tmp 28) 40 5 (.int .u8 0) 1 rfl Try.underlying40 info5 rfl (by decide) (by omega) v126 y125 y129 _ _ _ (fun k_ => (P0_ k_ ∨ w.heap.size ≤ k_) ∧ some k_ ≠ (.slice Ao27 y129.length co27 : Value).ownBlock) (fun _ => False) rfl rfl ?aO ?aR (fun _ _ h => h) (fun _ h => h.elim) ?aF ?aB ?aS ?aL ?_; (case aR => repeat (first | exact (Kd.R_reads' HO131.out).2.2 | (with_reducible refine Kd.C_alloc ?_ _) | (with_reducible refine Kd.C_drewN ?_ _) | (with_reducible refine Kd.C_drew ?_))); (case aB => exact (by repeat (first | (with_reducible first | exact HB.out | apply below_alloc | apply pw_below_drewN | apply below_drew1) | exact HB.out))); (case aF => exact (fun k_ hk => ⟨(.inr (Nat.le_trans (by first | exact HK.out.1 | exact (show Kept w _ (fun k_ => P0_ k_) from by repeat (first | (with_reducible first | exact HK.out | apply Kept.alloc | apply Kept.drewN | apply Kept.drew) | exact HK.out)).1) hk)), Kd.fresh' (Kd.R_lt (by (with_reducible repeat (first | apply Kd.R_alloc | apply Kd.R_drewN | apply Kd.R_drew)); exact HO131.out)) k_ hk⟩)); (case aO => exact (by (with_reducible repeat (first | apply Kd.R_alloc | apply Kd.R_drewN | apply Kd.R_drew)); exact HO127.out)); (case aS => exact (below_size (by repeat (first | (with_reducible first | exact HB.out | apply below_alloc | apply pw_below_drewN | apply below_drew1) | exact HB.out)))); (case aL => have := LMc17.out; omega); intro v133 w26 ho hb hg hat; rw [← Ny132.out] at ho; have n0_ := Aside0.mk (Kd.V_afterv (ok := (fun k_ => ((P0_ k_ ∨ P1_ k_) ∨ w.heap.size ≤ k_) ∧ some k_ ≠ (.slice Ao27 y129.length co27 : Value).ownBlock)) (by (with_reducible repeat (first | apply Kd.V_alloc | apply Kd.V_drewN | apply Kd.V_drew)); exact Kd.V_mono HO_1.out (fun _ hk => ⟨⟨hk.1.1, hk.2⟩, hk.1.2⟩)) hg hat); have n1_ := Aside0.mk (Kd.V_afterv (ok := (fun k_ => ((P0_ k_ ∨ P1_ k_) ∨ w.heap.size ≤ k_) ∧ some k_ ≠ (.slice Ao27 y129.length co27 : Value).ownBlock)) (by (with_reducible repeat (first | apply Kd.V_alloc | apply Kd.V_drewN | apply Kd.V_drew)); exact Kd.V_mono HO124.out (fun _ hk => ⟨⟨hk.1.1, hk.2⟩, hk.1.2⟩)) hg hat); have n2_ := Aside0.mk (Kd.R_after (ok := (fun k_ => (P0_ k_ ∨ w.heap.size ≤ k_))) (by (with_reducible repeat (first | apply Kd.R_alloc | apply Kd.R_drewN | apply Kd.R_drew)); exact Kd.R_mono HO131.out (fun _ hk => ⟨hk.1.1, hk.2⟩)) hg hat); have n3_ := Aside0.mk (hb); have n4_ := Aside0.mk (Kept.of_grown (S := (fun k_ => P0_ k_)) hg (by repeat (first | (with_reducible first | exact HK.out | apply Kept.alloc | apply Kept.drewN | apply Kept.drew) | exact HK.out)) (fun k_ e_ => (HO127.out.1 k_ e_).1)); have n5_ := Aside0.mk (ho); clear HO_1; clear HO124; clear HO131; clear HB; clear HK; clear HO127; have HO_1 := n0_; have HO124 := n1_; have HO131 := n2_; have HB := n3_; have HK := n4_; have HO134 := n5_; clear n0_ n1_ n2_ n3_ n4_ n5_; clear ho hb hg hat; have q28 : ((ji18) : Int) ≤ ((x1_1.length : Int) : Int) := of_decide_eq_true (by first | (with_reducible assumption) | assumption); obtain ⟨i028, hi028, _, hsz28, _⟩ := info_parts info5; have hroom28 : x1_1.length ≤ co21 := (Kd.V_reads' HO_1.out).2.1; have hC28 : Kd.F (Kd.int .u8) _ _ (some ad128) x1_1.length x1_1 := (Kd.V_at (base := w0.heap.size) HO_1.out).2.2; have q028 : (0 : Int) ≤ ((ji18) : Int) := of_decide_eq_true (by first | (with_reducible assumption) | assumption); have hcut28 := cut_from (P := Try.prog) 40 5 .i64 Try.underlying40 hi028 1 hsz28 (some ad128) x1_1.length co21 (ji18) q028 q28; have hr28 := Kd.F_cut (m := ((ji18) : Int).toNat) (c := co21) hC28 (by omega) hroom28; obtain ⟨A28, hA28⟩ : ∃ A1, A1 = (if co21 = ((ji18) : Int).toNat then (some ad128) else ((some ad128) : Option Addr).map (·.add (((ji18) : Int).toNat * 1))) := ⟨_, rfl⟩; obtain ⟨c28, hc28⟩ : ∃ c1, c1 = co21 - ((ji18) : Int).toNat := ⟨_, rfl⟩; have hy28 : y135.length = x1_1.length - ((ji18) : Int).toNat := (by rw [Ny135.out, List.length_drop] <;> omega); rw [show (x1_1).drop ((ji18) : Int).toNat = y135 from Ny135.out.symm] at hr28; replace hr28 : Kd.F (Kd.int .u8) _ _ A28 y135.length y135 := (by rw [hA28]; exact hr28); rw [← hy28, ← hA28, ← hc28] at hcut28; have HO139 := Aside0.mk (show Kd.V (Kd.int .u8) 5 _ w0.heap.size _ (.slice A28 y135.length c28) y135 from Kd.V_mk (by rw [hy28, hc28]; exact Nat.sub_le_sub_right hroom28 _) hr28); have HC139 := Aside0.mk (show y135.length ≤ c28 from by rw [hy28, hc28]; exact Nat.sub_le_sub_right hroom28 _); clear hr28 hC28 hroom28 hi028 hsz28 hc28; have KY28 := Aside0.mk hy28; have KA28 := Aside0.mk hA28; clear hy28 hA28; replace q28 := eq_true q28))
                          go_roundg k1
                          case measure => have := HK1.out; omega
                          case rel => exact ⟨(y132), (y135), H', ⟨by have := HK1.out; omega⟩, ⟨by (with_reducible repeat (first | apply Kd.R_alloc | apply Kd.R_drewN | apply Kd.R_drew)); exact Kd.R_mono HO134.out (fun _ hk => hk.1)⟩, ⟨by (with_reducible repeat (first | apply Kd.V_alloc | apply Kd.V_drewN | apply Kd.V_drew)); exact Kd.V_mono HO139.out (fun _ hk => ⟨hk.1.1, hk.2⟩)⟩, ⟨by repeat (first | (with_reducible first | exact HK.out | apply Kept.alloc | apply Kept.drewN | apply Kept.drew) | exact HK.out)⟩, ⟨by repeat (first | (with_reducible first | exact HB.out | apply below_alloc | apply pw_below_drewN | apply below_drew1) | exact HB.out)⟩⟩
                        · rw [if_neg c20] at H
                          exact absurd H (by simp)
                      · rw [if_neg c19] at H
                        exact absurd H (by simp)
                    · rw [if_neg c17] at H
                      exact absurd H (by simp)
                  · rw [if_neg c16] at H
                    exact absurd H (by simp)
                · rw [if_neg c15] at H
                  exact absurd H (by simp)
              · rw [if_neg c14] at H
                exact absurd H (by simp)
            · rw [if_neg c13] at H
              exact absurd H (by simp)
          · rw [if_neg c12] at H
            have c12b0 : decide (0 < t113) = false := decide_eq_false c12
            clear c12
            by_cases c29 : 0 ≤ t113
            · rw [if_pos c29] at H
              have c29b0 : decide (0 ≤ t113) = true := decide_eq_true c29
              clear c29
              by_cases c30 : t113 < (x1_1.length : Int)
              · rw [if_pos c30] at H
                have c30b0 : decide (t113 < (x1_1.length : Int)) = true := decide_eq_true c30
                clear c30
                obtain ⟨y141, hy141⟩ : ∃ y_ : List Int, y_ = (([92, rd x1_1 t113] : List Int)) := ⟨_, rfl⟩
                replace H : (if x0_1.length + y141.length < 140737488355328 then (if 0 ≤ (wrap64 (t113 + 1)) then (if (wrap64 (t113 + 1)) ≤ (x1_1.length : Int) then (pq_appendArrayQuotedBytes.l0 k1 (x0_1 ++ y141) (x1_1.drop ((wrap64 (t113 + 1)) : Int).toNat)) else (none)) else (none)) else (none)) = some r := by first | (rw [hy141]; with_reducible exact H) | (have H2_ := (Option.bind_some _ _).symm.trans H; rw [hy141]; with_reducible exact H2_) | (have H2_ := (Option.bind_some _ _).symm.trans H; with_reducible exact H2_) | with_reducible exact H | (rw [hy141]; exact H) | exact H
                have Ny141 := Aside0.mk hy141
                clear hy141
                by_cases c31 : x0_1.length + y141.length < 140737488355328
                · rw [if_pos c31] at H
                  have LMc31 := Aside0.mk c31
                  clear c31
                  obtain ⟨y144, hy144⟩ : ∃ y_ : List Int, y_ = (x0_1 ++ y141) := ⟨_, rfl⟩
                  replace H : (if 0 ≤ (wrap64 (t113 + 1)) then (if (wrap64 (t113 + 1)) ≤ (x1_1.length : Int) then (pq_appendArrayQuotedBytes.l0 k1 y144 (x1_1.drop ((wrap64 (t113 + 1)) : Int).toNat)) else (none)) else (none)) = some r := by first | (rw [hy144]; with_reducible exact H) | (have H2_ := (Option.bind_some _ _).symm.trans H; rw [hy144]; with_reducible exact H2_) | (have H2_ := (Option.bind_some _ _).symm.trans H; with_reducible exact H2_) | with_reducible exact H | (rw [hy144]; exact H) | exact H
                  have Ny144 := Aside0.mk hy144
                  clear hy144
                  obtain ⟨ji32, hji32⟩ : ∃ j_ : Int, (wrap64 (t113 + 1)) = j_ := ⟨_, rfl⟩
                  replace H : (if 0 ≤ (ji32) then (if (ji32) ≤ (x1_1.length : Int) then (pq_appendArrayQuotedBytes.l0 k1 y144 (x1_1.drop ((ji32) : Int).toNat)) else (none)) else (none)) = some r := by first | (rw [hji32] at H; exact H) | (simp only [hji32] at H ⊢; exact H)
                  (try rw [hji32] at A5)
                  have hji32w : (IntKind.i64.wrap (t113 + 1)) = ji32 := (i64_w _).trans hji32
                  by_cases c33 : 0 ≤ (ji32)
                  · rw [if_pos c33] at H
                    have c33b0 := eq_true c33
                    have c33b1 : decide (0 ≤ (ji32)) = true := decide_eq_true c33
                    clear c33
                    by_cases c34 : (ji32) ≤ (x1_1.length : Int)
                    · rw [if_pos c34] at H
                      have c34b0 := eq_true c34
                      have c34b1 : decide ((ji32) ≤ (x1_1.length : Int)) = true := decide_eq_true c34
                      clear c34
                      obtain ⟨y147, hy147⟩ : ∃ y_ : List Int, y_ = (x1_1.drop ((ji32) : Int).toNat) := ⟨_, rfl⟩
                      replace H : (pq_appendArrayQuotedBytes.l0 k1 y144 y147) = some r := by first | (rw [hy147]; with_reducible exact H) | (have H2_ := (Option.bind_some _ _).symm.trans H; rw [hy147]; with_reducible exact H2_) | (have H2_ := (Option.bind_some _ _).symm.trans H; with_reducible exact H2_) | with_reducible exact H | (rw [hy147]; exact H) | exact H
                      have Ny147 := Aside0.mk hy147
                      clear hy147
                      have H' := Aside0.mk H
                      clear H
                      obtain ⟨Ao35, co35, eo35⟩ := Kd.V_slice HO_1.out
                      subst eo35
                      go_wp2_with (first | ((with_reducible refine gate_callee (f := 36) rfl ?_); refine goesL_ (some 10) rfl rfl Try.func36 (by kernel_rfl) rfl #[.slice Ao35 x1_1.length co35] rfl (by (try simp only [List.map_toArray, List.map_cons, List.map_nil]); first | done | rfl | (simp only [List.length_drop, List.length_take]; rfl)) ?_; (with_reducible refine (pq_zzIndexQuote.calls k1 _ _ x1_1 t113 _ ?side1 ?side2 A5.out).mono ?_); (case side1 => repeat (first | exact (Kd.V_reads' HO_1.out).2.2 | (with_reducible refine Kd.C_alloc ?_ _) | (with_reducible refine Kd.C_drewN ?_ _) | (with_reducible refine Kd.C_drew ?_))); (case side2 => exact (Kd.V_reads' HO_1.out).2.1); rintro e w' ⟨rfl, ⟨nd, rfl⟩⟩; refine ⟨_, rfl, ?_⟩; have p140 : 0 ≤ (t113 : Int) := of_decide_eq_true (by first | (with_reducible assumption) | assumption); have q140 : t113 < (x1_1.length : Int) := of_decide_eq_true (by first | (with_reducible assumption) | assumption); obtain ⟨ad140, e140, hx140_0⟩ := Kd.at_int (Kd.V_reads' HO_1.out).2.2 t113 p140 q140; cases e140; replace p140 := eq_true p140; replace q140 := eq_true q140) | ((with_reducible refine gate_dst (N := 28) rfl ?_); refine Kd.R_lit (Kd.int .u8) _ 5 ?hg (N := 28) ?hd (xs := ([92, rd x1_1 t113] : List Int)) (inner := [.int .u8 92, .int .u8 (rd x1_1 t113)]) (ok := fun _ => True) (okp := fun _ => True) ?hr ?hp (fun _ hk => hk) trivial (Below.refl _ _) (Nat.le_refl _) (by simp) ?_; (case hd => rfl); (case hg => rfl); (case hr => first | (go_simp; done) | (go_simp; rfl)); (case hp => exact (Reps.one (show Kd.M (Kd.int .u8) _ _ _ 92 [.int .u8 92] from rfl) (Reps.one (show Kd.M (Kd.int .u8) _ _ _ (rd x1_1 t113) [.int .u8 (rd x1_1 t113)] from rfl) (Reps.none _ _)))); intro v142 w36 ho37 hb hg_ hnew_; clear hg_ hnew_; (first | rw [← Ny141.out] at ho37 | (simp only [Int.reduceToNat] at ho37; rw [← Ny141.out] at ho37)); have n0_ := Aside0.mk (Kd.R_elder' (by (with_reducible repeat (first | apply Kd.R_alloc | apply Kd.R_drewN | apply Kd.R_drew)); exact HO_0.out) (Kd.R_base ho37) hb); have n1_ := Aside0.mk (Kd.V_elder' (by (with_reducible repeat (first | apply Kd.V_alloc | apply Kd.V_drewN | apply Kd.V_drew)); exact HO_1.out) (Kd.R_base ho37) hb); have n2_ := Aside0.mk (Kd.R_lower (Kd.R_new' (Kd.R_newM (M := fun k_ => (P0_ k_ ∨ w.heap.size ≤ k_)) ho37 (by first | exact HK.out.1 | exact (show Kept w _ (fun k_ => P0_ k_) from by repeat (first | (with_reducible first | exact HK.out | apply Kept.alloc | apply Kept.drewN | apply Kept.drew) | exact HK.out)).1) (fun k_ h_ => .inr h_)) (Kd.R_lt (by (with_reducible repeat (first | apply Kd.R_alloc | apply Kd.R_drewN | apply Kd.R_drew)); exact HO_0.out))) (below_size (by repeat (first | (with_reducible first | exact HB.out | apply below_alloc | apply pw_below_drewN | apply below_drew1) | exact HB.out)))); have n3_ := Aside0.mk (Kept.below (S := (fun k_ => P0_ k_)) (by repeat (first | (with_reducible first | exact HK.out | apply Kept.alloc | apply Kept.drewN | apply Kept.drew) | exact HK.out)) hb); have n4_ := Aside0.mk (below_step (by repeat (first | (with_reducible first | exact HB.out | apply below_alloc | apply pw_below_drewN | apply below_drew1) | exact HB.out)) hb); clear HO_0; clear HO_1; clear HK; clear HB; have HO_0 := n0_; have HO_1 := n1_; have HO143 := n2_; have HK := n3_; have HB := n4_; clear n0_ n1_ n2_ n3_ n4_; clear hb ho37; obtain ⟨Ao39, co39, eo39⟩ := Kd.R_slice HO143.out; subst eo39) | ((with_reducible refine gate_builtin (b := .append) (xs := #[.tmp 23, .tmp 28]) rfl ?_); at_builtin; refine Kd.R_append_rows (Kd.int .u8) (w0 := w0) w0.heap.size rfl (.tmp 23) (.tmp 28) 40 5 (.int .u8 0) 1 rfl Try.underlying40 info5 rfl (by decide) (by omega) u0 x0_1 y141 _ _ _ (fun k_ => (P0_ k_ ∨ w.heap.size ≤ k_) ∧ some k_ ≠ (.slice Ao39 y141.length co39 : Value).ownBlock) (fun _ => False) rfl rfl ?aO ?aR (fun _ _ h => h) (fun _ h => h.elim) ?aF ?aB ?aS ?aL ?_; (case aR => repeat (first | exact (Kd.R_reads' HO143.out).2.2 | (with_reducible refine Kd.C_alloc ?_ _) | (with_reducible refine Kd.C_drewN ?_ _) | (with_reducible refine Kd.C_drew ?_))); (case aB => exact (by repeat (first | (with_reducible first | exact HB.out | apply below_alloc | apply pw_below_drewN | apply below_drew1) | exact HB.out))); (case aF => exact (fun k_ hk => ⟨(.inr (Nat.le_trans (by first | exact HK.out.1 | exact (show Kept w _ (fun k_ => P0_ k_) from by repeat (first | (with_reducible first | exact HK.out | apply Kept.alloc | apply Kept.drewN | apply Kept.drew) | exact HK.out)).1) hk)), Kd.fresh' (Kd.R_lt (by (with_reducible repeat (first | apply Kd.R_alloc | apply Kd.R_drewN | apply Kd.R_drew)); exact HO143.out)) k_ hk⟩)); (case aO => exact (by (with_reducible repeat (first | apply Kd.R_alloc | apply Kd.R_drewN | apply Kd.R_drew)); exact HO_0.out)); (case aS => exact (below_size (by repeat (first | (with_reducible first | exact HB.out | apply below_alloc | apply pw_below_drewN | apply below_drew1) | exact HB.out)))); (case aL => have := LMc31.out; omega); intro v145 w38 ho hb hg hat; rw [← Ny144.out] at ho; have n0_ := Aside0.mk (Kd.V_afterv (ok := (fun k_ => ((P0_ k_ ∨ P1_ k_) ∨ w.heap.size ≤ k_) ∧ some k_ ≠ (.slice Ao39 y141.length co39 : Value).ownBlock)) (by (with_reducible repeat (first | apply Kd.V_alloc | apply Kd.V_drewN | apply Kd.V_drew)); exact Kd.V_mono HO_1.out (fun _ hk => ⟨⟨hk.1.1, hk.2⟩, hk.1.2⟩)) hg hat); have n1_ := Aside0.mk (Kd.R_after (ok := (fun k_ => (P0_ k_ ∨ w.heap.size ≤ k_))) (by (with_reducible repeat (first | apply Kd.R_alloc | apply Kd.R_drewN | apply Kd.R_drew)); exact Kd.R_mono HO143.out (fun _ hk => ⟨hk.1.1, hk.2⟩)) hg hat); have n2_ := Aside0.mk (hb); have n3_ := Aside0.mk (Kept.of_grown (S := (fun k_ => P0_ k_)) hg (by repeat (first | (with_reducible first | exact HK.out | apply Kept.alloc | apply Kept.drewN | apply Kept.drew) | exact HK.out)) (fun k_ e_ => (HO_0.out.1 k_ e_).1)); have n4_ := Aside0.mk (ho); clear HO_1; clear HO143; clear HB; clear HK; clear HO_0; have HO_1 := n0_; have HO143 := n1_; have HB := n2_; have HK := n3_; have HO146 := n4_; clear n0_ n1_ n2_ n3_ n4_; clear ho hb hg hat; have q40 : ((ji32) : Int) ≤ ((x1_1.length : Int) : Int) := of_decide_eq_true (by first | (with_reducible assumption) | assumption); obtain ⟨i040, hi040, _, hsz40, _⟩ := info_parts info5; have hroom40 : x1_1.length ≤ co35 := (Kd.V_reads' HO_1.out).2.1; have hC40 : Kd.F (Kd.int .u8) _ _ (some ad140) x1_1.length x1_1 := (Kd.V_at (base := w0.heap.size) HO_1.out).2.2; have q040 : (0 : Int) ≤ ((ji32) : Int) := of_decide_eq_true (by first | (with_reducible assumption) | assumption); have hcut40 := cut_from (P := Try.prog) 40 5 .i64 Try.underlying40 hi040 1 hsz40 (some ad140) x1_1.length co35 (ji32) q040 q40; have hr40 := Kd.F_cut (m := ((ji32) : Int).toNat) (c := co35) hC40 (by omega) hroom40; obtain ⟨A40, hA40⟩ : ∃ A1, A1 = (if co35 = ((ji32) : Int).toNat then (some ad140) else ((some ad140) : Option Addr).map (·.add (((ji32) : Int).toNat * 1))) := ⟨_, rfl⟩; obtain ⟨c40, hc40⟩ : ∃ c1, c1 = co35 - ((ji32) : Int).toNat := ⟨_, rfl⟩; have hy40 : y147.length = x1_1.length - ((ji32) : Int).toNat := (by rw [Ny147.out, List.length_drop] <;> omega); rw [show (x1_1).drop ((ji32) : Int).toNat = y147 from Ny147.out.symm] at hr40; replace hr40 : Kd.F (Kd.int .u8) _ _ A40 y147.length y147 := (by rw [hA40]; exact hr40); rw [← hy40, ← hA40, ← hc40] at hcut40; have HO151 := Aside0.mk (show Kd.V (Kd.int .u8) 5 _ w0.heap.size _ (.slice A40 y147.length c40) y147 from Kd.V_mk (by rw [hy40, hc40]; exact Nat.sub_le_sub_right hroom40 _) hr40); have HC151 := Aside0.mk (show y147.length ≤ c40 from by rw [hy40, hc40]; exact Nat.sub_le_sub_right hroom40 _); clear hr40 hC40 hroom40 hi040 hsz40 hc40; have KY40 := Aside0.mk hy40; have KA40 := Aside0.mk hA40; clear hy40 hA40; replace q40 := eq_true q40))
                      go_roundg k1
                      case measure => have := HK1.out; omega
                      case rel => exact ⟨(y144), (y147), H', ⟨by have := HK1.out; omega⟩, ⟨by (with_reducible repeat (first | apply Kd.R_alloc | apply Kd.R_drewN | apply Kd.R_drew)); exact Kd.R_mono HO146.out (fun _ hk => hk.1)⟩, ⟨by (with_reducible repeat (first | apply Kd.V_alloc | apply Kd.V_drewN | apply Kd.V_drew)); exact Kd.V_mono HO151.out (fun _ hk => ⟨hk.1.1, hk.2⟩)⟩, ⟨by repeat (first | (with_reducible first | exact HK.out | apply Kept.alloc | apply Kept.drewN | apply Kept.drew) | exact HK.out)⟩, ⟨by repeat (first | (with_reducible first | exact HB.out | apply below_alloc | apply pw_below_drewN | apply below_drew1) | exact HB.out)⟩⟩
                    · rw [if_neg c34] at H
                      exact absurd H (by simp)
                  · rw [if_neg c33] at H
                    exact absurd H (by simp)
                · rw [if_neg c31] at H
                  exact absurd H (by simp)
              · rw [if_neg c30] at H
                exact absurd H (by simp)
            · rw [if_neg c29] at H
              exact absurd H (by simp)
  · rw [if_neg c3] at H
    exact absurd H (by simp)

/-! ### pq_QuotedBytes: function 23 -/
def pq_QuotedBytes.f (k : Nat) (l0 : List Int) : Option (List Int) := (pq_appendArrayQuotedBytes.f k ([] : List Int) l0).bind fun t152 => (some t152)
theorem pq_QuotedBytes.mono : ∀ a0 k, LeO (pq_QuotedBytes.f k a0) (pq_QuotedBytes.f (k + 1) a0) := by
  intro a0 k
  unfold pq_QuotedBytes.f
  repeat' first
      | (with_reducible exact pq_appendArrayQuotedBytes.mono _ _ _)
      | (with_reducible exact LeO.refl _)
      | (with_reducible exact LeO.none _)
      | (with_reducible refine LeO.ite ?_ ?_)
      | (with_reducible refine LeO.bind ?_ (fun _ => ?_))
      | exact pq_appendArrayQuotedBytes.mono _ _ _
      | exact LeO.none _
      | refine LeO.ite ?_ ?_
      | refine LeO.bind ?_ (fun _ => ?_)
set_option maxHeartbeats 8000000 in
set_option maxRecDepth 100000 in
theorem pq_QuotedBytes.calls (k : Nat) (A0 : Option Addr) (c0 : Nat) (l0 : List Int) (r : List Int) (w : World) (hr0 : Kd.C (Kd.int .u8) w A0 l0.length l0) (hc0 : l0.length ≤ c0) (h : pq_QuotedBytes.f k l0 = some r) :
    Calls Try.prog 23 #[.slice A0 l0.length c0] w fun e w' => ∃ v0_ : Value, e = .returned (v0_) ∧ Kd.R (Kd.int .u8) 5 w' w.heap.size (fun _ => True) v0_ r ∧ Below w.heap.size w w' := by
  have HR0 := Aside0.mk hr0
  have HC0 := Aside0.mk hc0
  clear hr0 hc0
  have HB := Aside0.mk (Below.refl w.heap.size w)
  have H : ((pq_appendArrayQuotedBytes.f k ([] : List Int) l0).bind fun t152 => (some t152)) = some r := h
  clear h
  replace H := Option.bind_eq_some_iff.mp H
  obtain ⟨t152, A20, H⟩ := H
  replace H : (some t152) = some r := H
  have A2 := Aside0.mk A20
  clear A20
  obtain rfl := Option.some.inj H
  go_enter Try.func23, Try.ntmps23
  go_wp2_with (first | ((with_reducible refine gate_callee (f := 31) rfl ?_); refine goesL_ (some 4) rfl rfl Try.func31 (by kernel_rfl) rfl #[.slice none 0 0, .slice A0 l0.length c0] rfl (by (try simp only [List.map_toArray, List.map_cons, List.map_nil]); first | done | rfl | (simp only [List.length_drop, List.length_take]; rfl)) ?_; (refine (pq_appendArrayQuotedBytes.calls k (fun k_ => some k_ = (.slice none 0 0 : Value).ownBlock) (.slice none 0 0) ([] : List Int) (fun k_ => k_ < w.heap.size) _ _ l0 t152 w _ ?side1 ?side2 ?side3 A2.out).mono ?_); (case side1 => repeat (first | (with_reducible first | exact HB.out | apply below_alloc | apply pw_below_drewN | apply below_drew1) | exact HB.out)); (case side2 => exact Kd.R_nil _ _ _ _ _); (case side3 => exact Kd.V_mono (Kd.V_mk HC0.out (Kd.F_below (Kd.C_F (Kd.heap_int .u8) HR0.out) (by repeat (first | (with_reducible first | exact HB.out | apply below_alloc | apply pw_below_drewN | apply below_drew1) | exact HB.out)))) (fun k_ hk_ => ⟨hk_, (by simp [Value.ownBlock])⟩)); rintro e w3 ⟨v153, rfl, ho0, hb, hkp⟩; refine ⟨_, rfl, ?_⟩; have n0_ := Aside0.mk (Kd.R_mono (ok' := fun k_ => True) ho0 (fun k_ hk_ => trivial)); have n1_ := Aside0.mk (hb); clear HB; have HO154 := n0_; have HB := n1_; clear n0_ n1_; (try clear hb); (try clear hkp); (try clear ho0)))
  go_ret
  exact ⟨_, by first | rfl | (simp [errW_none, errW_some] <;> rfl) | (simp [*, errW_none, errW_some] <;> rfl), by (with_reducible repeat (first | apply Kd.R_alloc | apply Kd.R_drewN | apply Kd.R_drew)); exact HO154.out, by repeat (first | (with_reducible first | exact HB.out | apply below_alloc | apply pw_below_drewN | apply below_drew1) | exact HB.out)⟩

/-! ### impl_Quoted: function 12 -/
def impl_Quoted.f (k : Nat) (a0 : ByteArray) : Option (ByteArray) := if a0.size ≤ 9223372036854775807 then ((pq_QuotedBytes.f k (bytesOf a0)).bind fun t => some (strOfNums t)) else none
theorem impl_Quoted.mono : ∀ a0 k, LeO (impl_Quoted.f k a0) (impl_Quoted.f (k + 1) a0) := by
  intro a0 k
  unfold impl_Quoted.f
  exact LeO.ite (LeO.bind (pq_QuotedBytes.mono _ _) (fun _ => LeO.refl _)) (LeO.none _)
set_option maxHeartbeats 1000000 in
set_option maxRecDepth 100000 in
theorem impl_Quoted.calls (k : Nat) (a0 : ByteArray) (r : ByteArray) (w : World) (h : impl_Quoted.f k a0 = some r) :
    Calls Try.prog 12 #[.string a0] w fun e w' => e = .returned (.string r) ∧ Below w.heap.size w w' := by
  have H : (if a0.size ≤ 9223372036854775807 then ((pq_QuotedBytes.f k (bytesOf a0)).bind fun t => some (strOfNums t)) else none) = some r := h
  clear h
  by_cases hs : a0.size ≤ 9223372036854775807
  · rw [if_pos hs] at H
    obtain ⟨t, A0, H⟩ := Option.bind_eq_some_iff.mp H
    obtain rfl := Option.some.inj H
    have A1 := Aside0.mk A0
    clear A0 H
    have HS := Aside0.mk hs
    clear hs
    have kb := fun W => print_bytes (P := Try.prog) 9 40 5 Try.underlying9 Try.underlying40 Try.underlying5 a0 W
    go_enter Try.func12, Try.ntmps12
    go_wp2_with fail
    have hc := pq_QuotedBytes.calls k (some ⟨w.heap.size, 0, none⟩) (grownCap w a0.size 0 5) (bytesOf a0) t (Lib.bytesWorld w 5 a0) (by rw [bytesOf_length]; exact Kd.C_of_reads (d := (0 : Int)) (h1 := fun _ => rfl) (bytes_reads w 5 a0 HS.out)) (by rw [bytesOf_length]; exact grownCap_ge _ _ _ _) A1.out
    rw [bytesOf_length] at hc
    refine hc.mono ?_
    rintro e w1 ⟨v0, rfl, hR, hB⟩
    have HB := Aside0.mk (Below.trans (bytes_below (Below.refl w.heap.size w) (Nat.le_refl _) 5 a0) (hB.mono (by rw [Lib.bytesWorld_size]; omega)))
    have hcv := own_string (P := Try.prog) Try.underlying40 Try.underlying5 Try.underlying9 (Kd.own_of_R hR)
    clear hR hB hc
    go_wp2
    go_ret
    exact ⟨by first | rfl | (simp; done), HB.out⟩
  · rw [if_neg hs] at H
    exact absurd H (by simp)

/-! ### spec_Quoted: function 13 -/
def spec_Quoted.l0 : Nat → ByteArray → List Int → Int → Option (ByteArray)
  | 0, _, _, _ => none
  | k + 1, x0, x3, x4 => if x4 < (x0.size : Int) then (if 0 ≤ x4 then (if (bt x0 x4) = 34 then (if x3.length < 140737488355328 then ((some (x3 ++ [92] : List Int)).bind fun y158 => (if y158.length < 140737488355328 then (spec_Quoted.l0 k x0 (y158 ++ [bt x0 x4]) (wrap64 (x4 + 1))) else (none))) else (none)) else (if (bt x0 x4) = 92 then (if x3.length < 140737488355328 then ((some (x3 ++ [92] : List Int)).bind fun y164 => (if y164.length < 140737488355328 then (spec_Quoted.l0 k x0 (y164 ++ [bt x0 x4]) (wrap64 (x4 + 1))) else (none))) else (none)) else (if x3.length < 140737488355328 then (spec_Quoted.l0 k x0 (x3 ++ [bt x0 x4]) (wrap64 (x4 + 1))) else (none)))) else (none)) else (if x3.length < 140737488355328 then (some (strOfNums (x3 ++ [34]))) else (none))
def spec_Quoted.f (k : Nat) (a0 : ByteArray) : Option (ByteArray) := spec_Quoted.l0 k a0 (([34] : List Int)) 0
theorem spec_Quoted.mono_l : ∀ k, (∀ y0 y1 y2, LeO (spec_Quoted.l0 k y0 y1 y2) (spec_Quoted.l0 (k + 1) y0 y1 y2))
  | 0 => fun _ _ _ r h => by simp [spec_Quoted.l0] at h
  | k + 1 => by
    have ih0 := spec_Quoted.mono_l k
    · intro y0 y1 y2
      unfold spec_Quoted.l0
      repeat' first
      | (with_reducible exact ih0 _ _ _)
      | (with_reducible exact LeO.refl _)
      | (with_reducible exact LeO.none _)
      | (with_reducible refine LeO.ite ?_ ?_)
      | (with_reducible refine LeO.bind ?_ (fun _ => ?_))
      | exact ih0 _ _ _
      | exact LeO.none _
      | refine LeO.ite ?_ ?_
      | refine LeO.bind ?_ (fun _ => ?_)
theorem spec_Quoted.mono : ∀ a0 k, LeO (spec_Quoted.f k a0) (spec_Quoted.f (k + 1) a0) := by
  intro a0 k
  have ih0 := spec_Quoted.mono_l k
  unfold spec_Quoted.f
  repeat' first
      | (with_reducible exact ih0 _ _ _)
      | (with_reducible exact LeO.refl _)
      | (with_reducible exact LeO.none _)
      | (with_reducible refine LeO.ite ?_ ?_)
      | (with_reducible refine LeO.bind ?_ (fun _ => ?_))
      | exact ih0 _ _ _
      | exact LeO.none _
      | refine LeO.ite ?_ ?_
      | refine LeO.bind ?_ (fun _ => ?_)
set_option maxHeartbeats 8000000 in
set_option maxRecDepth 100000 in
theorem spec_Quoted.calls (k : Nat) (a0 : ByteArray) (r : ByteArray) (w : World) (h : spec_Quoted.f k a0 = some r) :
    Calls Try.prog 13 #[.string a0] w fun e w' => e = .returned (.string r) ∧ Below w.heap.size w w' := by
  have HB := Aside0.mk (Below.refl w.heap.size w)
  have H : (spec_Quoted.l0 k a0 (([34] : List Int)) 0) = some r := h
  clear h
  obtain ⟨y155, hy155⟩ : ∃ y_ : List Int, y_ = (([34] : List Int)) := ⟨_, rfl⟩
  replace H : (spec_Quoted.l0 k a0 y155 0) = some r := by first | (rw [hy155]; with_reducible exact H) | (have H2_ := (Option.bind_some _ _).symm.trans H; rw [hy155]; with_reducible exact H2_) | (have H2_ := (Option.bind_some _ _).symm.trans H; with_reducible exact H2_) | with_reducible exact H | (rw [hy155]; exact H) | exact H
  have Ny155 := Aside0.mk hy155
  clear hy155
  have H' := Aside0.mk H
  clear H
  go_enter Try.func13, Try.ntmps13
  go_wp2_with (first | ((with_reducible refine gate_dst (N := 5) rfl ?_); refine Kd.R_lit (Kd.int .u8) _ 5 ?hg (N := 5) ?hd (xs := ([34] : List Int)) (inner := [.int .u8 34]) (ok := fun _ => True) (okp := fun _ => True) ?hr ?hp (fun _ hk => hk) trivial (Below.refl _ _) (Nat.le_refl _) (by simp) ?_; (case hd => rfl); (case hg => rfl); (case hr => first | (go_simp; done) | (go_simp; rfl)); (case hp => exact (Reps.one (show Kd.M (Kd.int .u8) _ _ _ 34 [.int .u8 34] from rfl) (Reps.none _ _))); intro v156 w2 ho3 hb hg_ hnew_; clear hg_ hnew_; (first | rw [← Ny155.out] at ho3 | (simp only [Int.reduceToNat] at ho3; rw [← Ny155.out] at ho3)); have n0_ := Aside0.mk (Kd.R_lower ho3 (below_size (by repeat (first | (with_reducible first | exact HB.out | apply below_alloc | apply pw_below_drewN | apply below_drew1) | exact HB.out)))); have n1_ := Aside0.mk (below_step (by repeat (first | (with_reducible first | exact HB.out | apply below_alloc | apply pw_below_drewN | apply below_drew1) | exact HB.out)) hb); clear HB; have HO157 := n0_; have HB := n1_; clear n0_ n1_; clear hb ho3))
  go_loopg [3, 4] k (fun kq v3 v4 w' => ∃ (x3_1 : List Int) (x4_1 : Int), v4 = .int .i64 x4_1 ∧ Aside0 (spec_Quoted.l0 kq a0 x3_1 x4_1 = some r) ∧ Aside0 (kq ≤ k) ∧ Aside0 (Kd.R (Kd.int .u8) 5 w' w.heap.size (fun _ => True) v3 x3_1) ∧ Aside0 (Below w.heap.size w w'))
  case atStart => exact ⟨(y155), (0), (by first | rfl | (simp; done) | (simp [*]; done)), H', ⟨Nat.le_refl _⟩, ⟨by (with_reducible repeat (first | apply Kd.R_alloc | apply Kd.R_drewN | apply Kd.R_drew)); exact HO157.out⟩, ⟨by repeat (first | (with_reducible first | exact HB.out | apply below_alloc | apply pw_below_drewN | apply below_drew1) | exact HB.out)⟩⟩
  case round =>
    clear H'
    try clear c1
    try clear p2
    obtain ⟨x3_1, x4_1, rfl, HA, HK1, HO_3, HB⟩ := hrel
    cases gk with
    | zero => exact absurd HA.out (by simp [spec_Quoted.l0])
    | succ k1 =>
      have H := HA.out
      clear HA
      simp only [spec_Quoted.l0] at H
      by_cases c4 : x4_1 < (a0.size : Int)
      · rw [if_pos c4] at H
        have c4b0 : decide (x4_1 < (a0.size : Int)) = true := decide_eq_true c4
        clear c4
        by_cases c5 : 0 ≤ x4_1
        · rw [if_pos c5] at H
          have c5b0 : decide (0 ≤ x4_1) = true := decide_eq_true c5
          clear c5
          by_cases c7 : (bt a0 x4_1) = 34
          · rw [if_pos c7] at H
            have c7b0 : ((bt a0 x4_1) == 34) = true := beq_iff_eq.mpr c7
            have c7b1 : ((bt a0 x4_1) != 34) = false := bne_eq_false_iff_eq.mpr c7
            clear c7
            by_cases c8 : x3_1.length < 140737488355328
            · rw [if_pos c8] at H
              have LMc8 := Aside0.mk c8
              clear c8
              obtain ⟨y158, hy158⟩ : ∃ y_ : List Int, y_ = (x3_1 ++ [92]) := ⟨_, rfl⟩
              replace H : (if y158.length < 140737488355328 then (spec_Quoted.l0 k1 a0 (y158 ++ [bt a0 x4_1]) (wrap64 (x4_1 + 1))) else (none)) = some r := by first | (rw [hy158]; with_reducible exact H) | (have H2_ := (Option.bind_some _ _).symm.trans H; rw [hy158]; with_reducible exact H2_) | (have H2_ := (Option.bind_some _ _).symm.trans H; with_reducible exact H2_) | with_reducible exact H | (rw [hy158]; exact H) | exact H
              have Ny158 := Aside0.mk hy158
              clear hy158
              by_cases c10 : y158.length < 140737488355328
              · rw [if_pos c10] at H
                have LMc10 := Aside0.mk c10
                clear c10
                obtain ⟨y161, hy161⟩ : ∃ y_ : List Int, y_ = (y158 ++ [bt a0 x4_1]) := ⟨_, rfl⟩
                replace H : (spec_Quoted.l0 k1 a0 y161 (wrap64 (x4_1 + 1))) = some r := by first | (rw [hy161]; with_reducible exact H) | (have H2_ := (Option.bind_some _ _).symm.trans H; rw [hy161]; with_reducible exact H2_) | (have H2_ := (Option.bind_some _ _).symm.trans H; with_reducible exact H2_) | with_reducible exact H | (rw [hy161]; exact H) | exact H
                have Ny161 := Aside0.mk hy161
                clear hy161
                have H' := Aside0.mk H
                clear H
                have p6 : 0 ≤ (x4_1 : Int) := of_decide_eq_true (by first | (with_reducible assumption) | assumption)
                have q6 : x4_1 < (a0.size : Int) := of_decide_eq_true (by first | (with_reducible assumption) | assumption)
                have hx6 := bt_at a0 x4_1
                replace p6 := eq_true p6
                replace q6 := eq_true q6
                go_wp2_with (first | ((with_reducible refine gate_builtin (b := .append) (xs := #[.tmp 22, .tmp 23]) rfl ?_); at_builtin; refine Kd.R_append (Kd.int .u8) (w0 := w) w.heap.size rfl (.tmp 22) (.tmp 23) 40 5 (.int .u8 0) 1 rfl Try.underlying40 info5 rfl (by decide) (by omega) u3 x3_1 92 [.int .u8 92] (fun _ => True) (fun _ => False) rfl rfl ?aP (fun _ hk => hk.elim) ?aF ?aO ?aB ?aS ?aL ?_; (case aP => exact rfl); (case aB => exact (by repeat (first | (with_reducible first | exact HB.out | apply below_alloc | apply pw_below_drewN | apply below_drew1) | exact HB.out))); (case aF => exact (fun _ _ => trivial)); (case aO => exact (by (with_reducible repeat (first | apply Kd.R_alloc | apply Kd.R_drewN | apply Kd.R_drew)); exact HO_3.out)); (case aS => exact (below_size (by repeat (first | (with_reducible first | exact HB.out | apply below_alloc | apply pw_below_drewN | apply below_drew1) | exact HB.out)))); (case aL => have := LMc8.out; omega); intro v159 w11 ho hb hg hat; rw [← Ny158.out] at ho; have n0_ := Aside0.mk (hb); have n1_ := Aside0.mk (ho); clear HB; clear HO_3; have HB := n0_; have HO160 := n1_; clear n0_ n1_; clear ho hb hg hat; have p9 : 0 ≤ (x4_1 : Int) := of_decide_eq_true (by first | (with_reducible assumption) | assumption); have q9 : x4_1 < (a0.size : Int) := of_decide_eq_true (by first | (with_reducible assumption) | assumption); have hx9 := bt_at a0 x4_1; replace p9 := eq_true p9; replace q9 := eq_true q9) | ((with_reducible refine gate_builtin (b := .append) (xs := #[.tmp 25, .tmp 29]) rfl ?_); at_builtin; refine Kd.R_append (Kd.int .u8) (w0 := w) w.heap.size rfl (.tmp 25) (.tmp 29) 40 5 (.int .u8 0) 1 rfl Try.underlying40 info5 rfl (by decide) (by omega) v159 y158 (bt a0 x4_1) [.int .u8 (bt a0 x4_1)] (fun _ => True) (fun _ => False) rfl rfl ?aP (fun _ hk => hk.elim) ?aF ?aO ?aB ?aS ?aL ?_; (case aP => exact rfl); (case aB => exact (by repeat (first | (with_reducible first | exact HB.out | apply below_alloc | apply pw_below_drewN | apply below_drew1) | exact HB.out))); (case aF => exact (fun _ _ => trivial)); (case aO => exact (by (with_reducible repeat (first | apply Kd.R_alloc | apply Kd.R_drewN | apply Kd.R_drew)); exact HO160.out)); (case aS => exact (below_size (by repeat (first | (with_reducible first | exact HB.out | apply below_alloc | apply pw_below_drewN | apply below_drew1) | exact HB.out)))); (case aL => have := LMc10.out; omega); intro v162 w12 ho hb hg hat; rw [← Ny161.out] at ho; have n0_ := Aside0.mk (hb); have n1_ := Aside0.mk (ho); clear HB; clear HO160; have HB := n0_; have HO163 := n1_; clear n0_ n1_; clear ho hb hg hat))
                go_roundg k1
                case measure => have := HK1.out; omega
                case rel => exact ⟨(y161), (wrap64 (x4_1 + 1)), (by first | rfl | (simp; done) | (simp [*]; done)), H', ⟨by have := HK1.out; omega⟩, ⟨by (with_reducible repeat (first | apply Kd.R_alloc | apply Kd.R_drewN | apply Kd.R_drew)); exact HO163.out⟩, ⟨by repeat (first | (with_reducible first | exact HB.out | apply below_alloc | apply pw_below_drewN | apply below_drew1) | exact HB.out)⟩⟩
              · rw [if_neg c10] at H
                exact absurd H (by simp)
            · rw [if_neg c8] at H
              exact absurd H (by simp)
          · rw [if_neg c7] at H
            have c7b0 : ((bt a0 x4_1) == 34) = false := beq_eq_false_iff_ne.mpr c7
            have c7b1 : ((bt a0 x4_1) != 34) = true := bne_iff_ne.mpr c7
            by_cases c14 : (bt a0 x4_1) = 92
            · rw [if_pos c14] at H
              have c14b0 : ((bt a0 x4_1) == 92) = true := beq_iff_eq.mpr c14
              have c14b1 : ((bt a0 x4_1) != 92) = false := bne_eq_false_iff_eq.mpr c14
              clear c14
              by_cases c15 : x3_1.length < 140737488355328
              · rw [if_pos c15] at H
                have LMc15 := Aside0.mk c15
                clear c15
                obtain ⟨y164, hy164⟩ : ∃ y_ : List Int, y_ = (x3_1 ++ [92]) := ⟨_, rfl⟩
                replace H : (if y164.length < 140737488355328 then (spec_Quoted.l0 k1 a0 (y164 ++ [bt a0 x4_1]) (wrap64 (x4_1 + 1))) else (none)) = some r := by first | (rw [hy164]; with_reducible exact H) | (have H2_ := (Option.bind_some _ _).symm.trans H; rw [hy164]; with_reducible exact H2_) | (have H2_ := (Option.bind_some _ _).symm.trans H; with_reducible exact H2_) | with_reducible exact H | (rw [hy164]; exact H) | exact H
                have Ny164 := Aside0.mk hy164
                clear hy164
                by_cases c17 : y164.length < 140737488355328
                · rw [if_pos c17] at H
                  have LMc17 := Aside0.mk c17
                  clear c17
                  obtain ⟨y167, hy167⟩ : ∃ y_ : List Int, y_ = (y164 ++ [bt a0 x4_1]) := ⟨_, rfl⟩
                  replace H : (spec_Quoted.l0 k1 a0 y167 (wrap64 (x4_1 + 1))) = some r := by first | (rw [hy167]; with_reducible exact H) | (have H2_ := (Option.bind_some _ _).symm.trans H; rw [hy167]; with_reducible exact H2_) | (have H2_ := (Option.bind_some _ _).symm.trans H; with_reducible exact H2_) | with_reducible exact H | (rw [hy167]; exact H) | exact H
                  have Ny167 := Aside0.mk hy167
                  clear hy167
                  have H' := Aside0.mk H
                  clear H
                  have p6 : 0 ≤ (x4_1 : Int) := of_decide_eq_true (by first | (with_reducible assumption) | assumption)
                  have q6 : x4_1 < (a0.size : Int) := of_decide_eq_true (by first | (with_reducible assumption) | assumption)
                  have hx6 := bt_at a0 x4_1
                  replace p6 := eq_true p6
                  replace q6 := eq_true q6
                  have p13 : 0 ≤ (x4_1 : Int) := of_decide_eq_true (by first | (with_reducible assumption) | assumption)
                  have q13 : x4_1 < (a0.size : Int) := of_decide_eq_true (by first | (with_reducible assumption) | assumption)
                  have hx13 := bt_at a0 x4_1
                  replace p13 := eq_true p13
                  replace q13 := eq_true q13
                  go_wp2_with (first | ((with_reducible refine gate_builtin (b := .append) (xs := #[.tmp 22, .tmp 23]) rfl ?_); at_builtin; refine Kd.R_append (Kd.int .u8) (w0 := w) w.heap.size rfl (.tmp 22) (.tmp 23) 40 5 (.int .u8 0) 1 rfl Try.underlying40 info5 rfl (by decide) (by omega) u3 x3_1 92 [.int .u8 92] (fun _ => True) (fun _ => False) rfl rfl ?aP (fun _ hk => hk.elim) ?aF ?aO ?aB ?aS ?aL ?_; (case aP => exact rfl); (case aB => exact (by repeat (first | (with_reducible first | exact HB.out | apply below_alloc | apply pw_below_drewN | apply below_drew1) | exact HB.out))); (case aF => exact (fun _ _ => trivial)); (case aO => exact (by (with_reducible repeat (first | apply Kd.R_alloc | apply Kd.R_drewN | apply Kd.R_drew)); exact HO_3.out)); (case aS => exact (below_size (by repeat (first | (with_reducible first | exact HB.out | apply below_alloc | apply pw_below_drewN | apply below_drew1) | exact HB.out)))); (case aL => have := LMc15.out; omega); intro v165 w18 ho hb hg hat; rw [← Ny164.out] at ho; have n0_ := Aside0.mk (hb); have n1_ := Aside0.mk (ho); clear HB; clear HO_3; have HB := n0_; have HO166 := n1_; clear n0_ n1_; clear ho hb hg hat; have p16 : 0 ≤ (x4_1 : Int) := of_decide_eq_true (by first | (with_reducible assumption) | assumption); have q16 : x4_1 < (a0.size : Int) := of_decide_eq_true (by first | (with_reducible assumption) | assumption); have hx16 := bt_at a0 x4_1; replace p16 := eq_true p16; replace q16 := eq_true q16) | ((with_reducible refine gate_builtin (b := .append) (xs := #[.tmp 25, .tmp 29]) rfl ?_); at_builtin; refine Kd.R_append (Kd.int .u8) (w0 := w) w.heap.size rfl (.tmp 25) (.tmp 29) 40 5 (.int .u8 0) 1 rfl Try.underlying40 info5 rfl (by decide) (by omega) v165 y164 (bt a0 x4_1) [.int .u8 (bt a0 x4_1)] (fun _ => True) (fun _ => False) rfl rfl ?aP (fun _ hk => hk.elim) ?aF ?aO ?aB ?aS ?aL ?_; (case aP => exact rfl); (case aB => exact (by repeat (first | (with_reducible first | exact HB.out | apply below_alloc | apply pw_below_drewN | apply below_drew1) | exact HB.out))); (case aF => exact (fun _ _ => trivial)); (case aO => exact (by (with_reducible repeat (first | apply Kd.R_alloc | apply Kd.R_drewN | apply Kd.R_drew)); exact HO166.out)); (case aS => exact (below_size (by repeat (first | (with_reducible first | exact HB.out | apply below_alloc | apply pw_below_drewN | apply below_drew1) | exact HB.out)))); (case aL => have := LMc17.out; omega); intro v168 w19 ho hb hg hat; rw [← Ny167.out] at ho; have n0_ := Aside0.mk (hb); have n1_ := Aside0.mk (ho); clear HB; clear HO166; have HB := n0_; have HO169 := n1_; clear n0_ n1_; clear ho hb hg hat))
                  go_roundg k1
                  case measure => have := HK1.out; omega
                  case rel => exact ⟨(y167), (wrap64 (x4_1 + 1)), (by first | rfl | (simp; done) | (simp [*]; done)), H', ⟨by have := HK1.out; omega⟩, ⟨by (with_reducible repeat (first | apply Kd.R_alloc | apply Kd.R_drewN | apply Kd.R_drew)); exact HO169.out⟩, ⟨by repeat (first | (with_reducible first | exact HB.out | apply below_alloc | apply pw_below_drewN | apply below_drew1) | exact HB.out)⟩⟩
                · rw [if_neg c17] at H
                  exact absurd H (by simp)
              · rw [if_neg c15] at H
                exact absurd H (by simp)
            · rw [if_neg c14] at H
              have c14b0 : ((bt a0 x4_1) == 92) = false := beq_eq_false_iff_ne.mpr c14
              have c14b1 : ((bt a0 x4_1) != 92) = true := bne_iff_ne.mpr c14
              by_cases c21 : x3_1.length < 140737488355328
              · rw [if_pos c21] at H
                have LMc21 := Aside0.mk c21
                clear c21
                obtain ⟨y170, hy170⟩ : ∃ y_ : List Int, y_ = (x3_1 ++ [bt a0 x4_1]) := ⟨_, rfl⟩
                replace H : (spec_Quoted.l0 k1 a0 y170 (wrap64 (x4_1 + 1))) = some r := by first | (rw [hy170]; with_reducible exact H) | (have H2_ := (Option.bind_some _ _).symm.trans H; rw [hy170]; with_reducible exact H2_) | (have H2_ := (Option.bind_some _ _).symm.trans H; with_reducible exact H2_) | with_reducible exact H | (rw [hy170]; exact H) | exact H
                have Ny170 := Aside0.mk hy170
                clear hy170
                have H' := Aside0.mk H
                clear H
                have p6 : 0 ≤ (x4_1 : Int) := of_decide_eq_true (by first | (with_reducible assumption) | assumption)
                have q6 : x4_1 < (a0.size : Int) := of_decide_eq_true (by first | (with_reducible assumption) | assumption)
                have hx6 := bt_at a0 x4_1
                replace p6 := eq_true p6
                replace q6 := eq_true q6
                have p13 : 0 ≤ (x4_1 : Int) := of_decide_eq_true (by first | (with_reducible assumption) | assumption)
                have q13 : x4_1 < (a0.size : Int) := of_decide_eq_true (by first | (with_reducible assumption) | assumption)
                have hx13 := bt_at a0 x4_1
                replace p13 := eq_true p13
                replace q13 := eq_true q13
                have p20 : 0 ≤ (x4_1 : Int) := of_decide_eq_true (by first | (with_reducible assumption) | assumption)
                have q20 : x4_1 < (a0.size : Int) := of_decide_eq_true (by first | (with_reducible assumption) | assumption)
                have hx20 := bt_at a0 x4_1
                replace p20 := eq_true p20
                replace q20 := eq_true q20
                go_wp2_with (first | ((with_reducible refine gate_builtin (b := .append) (xs := #[.tmp 25, .tmp 29]) rfl ?_); at_builtin; refine Kd.R_append (Kd.int .u8) (w0 := w) w.heap.size rfl (.tmp 25) (.tmp 29) 40 5 (.int .u8 0) 1 rfl Try.underlying40 info5 rfl (by decide) (by omega) u3 x3_1 (bt a0 x4_1) [.int .u8 (bt a0 x4_1)] (fun _ => True) (fun _ => False) rfl rfl ?aP (fun _ hk => hk.elim) ?aF ?aO ?aB ?aS ?aL ?_; (case aP => exact rfl); (case aB => exact (by repeat (first | (with_reducible first | exact HB.out | apply below_alloc | apply pw_below_drewN | apply below_drew1) | exact HB.out))); (case aF => exact (fun _ _ => trivial)); (case aO => exact (by (with_reducible repeat (first | apply Kd.R_alloc | apply Kd.R_drewN | apply Kd.R_drew)); exact HO_3.out)); (case aS => exact (below_size (by repeat (first | (with_reducible first | exact HB.out | apply below_alloc | apply pw_below_drewN | apply below_drew1) | exact HB.out)))); (case aL => have := LMc21.out; omega); intro v171 w22 ho hb hg hat; rw [← Ny170.out] at ho; have n0_ := Aside0.mk (hb); have n1_ := Aside0.mk (ho); clear HB; clear HO_3; have HB := n0_; have HO172 := n1_; clear n0_ n1_; clear ho hb hg hat))
                go_roundg k1
                case measure => have := HK1.out; omega
                case rel => exact ⟨(y170), (wrap64 (x4_1 + 1)), (by first | rfl | (simp; done) | (simp [*]; done)), H', ⟨by have := HK1.out; omega⟩, ⟨by (with_reducible repeat (first | apply Kd.R_alloc | apply Kd.R_drewN | apply Kd.R_drew)); exact HO172.out⟩, ⟨by repeat (first | (with_reducible first | exact HB.out | apply below_alloc | apply pw_below_drewN | apply below_drew1) | exact HB.out)⟩⟩
              · rw [if_neg c21] at H
                exact absurd H (by simp)
        · rw [if_neg c5] at H
          exact absurd H (by simp)
      · rw [if_neg c4] at H
        have c4b0 : decide (x4_1 < (a0.size : Int)) = false := decide_eq_false c4
        clear c4
        by_cases c23 : x3_1.length < 140737488355328
        · rw [if_pos c23] at H
          have LMc23 := Aside0.mk c23
          clear c23
          obtain ⟨y173, hy173⟩ : ∃ y_ : List Int, y_ = (x3_1 ++ [34]) := ⟨_, rfl⟩
          replace H : (some (strOfNums y173)) = some r := by first | (rw [hy173]; with_reducible exact H) | (have H2_ := (Option.bind_some _ _).symm.trans H; rw [hy173]; with_reducible exact H2_) | (have H2_ := (Option.bind_some _ _).symm.trans H; with_reducible exact H2_) | with_reducible exact H | (rw [hy173]; exact H) | exact H
          have Ny173 := Aside0.mk hy173
          clear hy173
          obtain rfl := Option.some.inj H
          go_wp2_with (first | ((with_reducible refine gate_builtin (b := .append) (xs := #[.tmp 31, .tmp 32]) rfl ?_); at_builtin; refine Kd.R_append (Kd.int .u8) (w0 := w) w.heap.size rfl (.tmp 31) (.tmp 32) 40 5 (.int .u8 0) 1 rfl Try.underlying40 info5 rfl (by decide) (by omega) u3 x3_1 34 [.int .u8 34] (fun _ => True) (fun _ => False) rfl rfl ?aP (fun _ hk => hk.elim) ?aF ?aO ?aB ?aS ?aL ?_; (case aP => exact rfl); (case aB => exact (by repeat (first | (with_reducible first | exact HB.out | apply below_alloc | apply pw_below_drewN | apply below_drew1) | exact HB.out))); (case aF => exact (fun _ _ => trivial)); (case aO => exact (by (with_reducible repeat (first | apply Kd.R_alloc | apply Kd.R_drewN | apply Kd.R_drew)); exact HO_3.out)); (case aS => exact (below_size (by repeat (first | (with_reducible first | exact HB.out | apply below_alloc | apply pw_below_drewN | apply below_drew1) | exact HB.out)))); (case aL => have := LMc23.out; omega); intro v174 w24 ho hb hg hat; rw [← Ny173.out] at ho; have n0_ := Aside0.mk (hb); have n1_ := Aside0.mk (ho); clear HB; clear HO_3; have HB := n0_; have HO175 := n1_; clear n0_ n1_; clear ho hb hg hat; have hcv25 := own_string (P := Try.prog) Try.underlying40 Try.underlying5 Try.underlying9 (Kd.own_of_R HO175.out)))
          go_ret
          exact ⟨by first | rfl | (simp [errW_none, errW_some] <;> rfl) | (simp [*, errW_none, errW_some] <;> rfl), by repeat (first | (with_reducible first | exact HB.out | apply below_alloc | apply pw_below_drewN | apply below_drew1) | exact HB.out)⟩
        · rw [if_neg c23] at H
          exact absurd H (by simp)

/-! ### laws_FnQuoted: function 4 -/
def laws_FnQuoted.f (k : Nat) (a0 : ByteArray) : Option (Bool) := if (a0.size : Int) > 2147483647 then (some true) else (if (a0.size : Int) > 2000 then (some true) else ((impl_Quoted.f k a0).bind fun t176 => ((spec_Quoted.f k a0).bind fun t177 => (some (t176.toList == t177.toList)))))
theorem laws_FnQuoted.mono : ∀ a0 k, LeO (laws_FnQuoted.f k a0) (laws_FnQuoted.f (k + 1) a0) := by
  intro a0 k
  unfold laws_FnQuoted.f
  repeat' first
      | (with_reducible exact impl_Quoted.mono _ _)
      | (with_reducible exact spec_Quoted.mono _ _)
      | (with_reducible exact LeO.refl _)
      | (with_reducible exact LeO.none _)
      | (with_reducible refine LeO.ite ?_ ?_)
      | (with_reducible refine LeO.bind ?_ (fun _ => ?_))
      | exact impl_Quoted.mono _ _
      | exact spec_Quoted.mono _ _
      | exact LeO.none _
      | refine LeO.ite ?_ ?_
      | refine LeO.bind ?_ (fun _ => ?_)
set_option maxHeartbeats 8000000 in
set_option maxRecDepth 100000 in
theorem laws_FnQuoted.calls (k : Nat) (a0 : ByteArray) (r : Bool) (w : World) (h : laws_FnQuoted.f k a0 = some r) :
    Calls Try.prog 4 #[.string a0] w fun e w' => e = .returned (.bool r) ∧ Below w.heap.size w w' := by
  have HB := Aside0.mk (Below.refl w.heap.size w)
  have H : (if (a0.size : Int) > 2147483647 then (some true) else (if (a0.size : Int) > 2000 then (some true) else ((impl_Quoted.f k a0).bind fun t176 => ((spec_Quoted.f k a0).bind fun t177 => (some (t176.toList == t177.toList)))))) = some r := h
  clear h
  by_cases c2 : (a0.size : Int) > 2147483647
  · rw [if_pos c2] at H
    have c2b0 : decide (2147483647 < (a0.size : Int)) = true := decide_eq_true c2
    have c2b1 : decide (2147483647 < a0.size) = true := decide_eq_true (by omega)
    clear c2
    obtain rfl := Option.some.inj H
    go_enter Try.func4, Try.ntmps4
    go_wp2
    go_ret
    exact ⟨by first | rfl | (simp [errW_none, errW_some] <;> rfl) | (simp [*, errW_none, errW_some] <;> rfl), by repeat (first | (with_reducible first | exact HB.out | apply below_alloc | apply pw_below_drewN | apply below_drew1) | exact HB.out)⟩
  · rw [if_neg c2] at H
    have c2b0 : decide (2147483647 < (a0.size : Int)) = false := decide_eq_false c2
    have c2b1 : decide (2147483647 < a0.size) = false := decide_eq_false (by omega)
    clear c2
    by_cases c3 : (a0.size : Int) > 2000
    · rw [if_pos c3] at H
      have c3b0 : decide (2000 < (a0.size : Int)) = true := decide_eq_true c3
      have c3b1 : decide (2000 < a0.size) = true := decide_eq_true (by omega)
      clear c3
      obtain rfl := Option.some.inj H
      go_enter Try.func4, Try.ntmps4
      go_wp2
      go_ret
      exact ⟨by first | rfl | (simp [errW_none, errW_some] <;> rfl) | (simp [*, errW_none, errW_some] <;> rfl), by repeat (first | (with_reducible first | exact HB.out | apply below_alloc | apply pw_below_drewN | apply below_drew1) | exact HB.out)⟩
    · rw [if_neg c3] at H
      have c3b0 : decide (2000 < (a0.size : Int)) = false := decide_eq_false c3
      have c3b1 : decide (2000 < a0.size) = false := decide_eq_false (by omega)
      clear c3
      replace H := Option.bind_eq_some_iff.mp H
      obtain ⟨t176, A40, H⟩ := H
      replace H : ((spec_Quoted.f k a0).bind fun t177 => (some (t176.toList == t177.toList))) = some r := H
      have A4 := Aside0.mk A40
      clear A40
      replace H := Option.bind_eq_some_iff.mp H
      obtain ⟨t177, A50, H⟩ := H
      replace H : (some (t176.toList == t177.toList)) = some r := H
      have A5 := Aside0.mk A50
      clear A50
      obtain rfl := Option.some.inj H
      go_enter Try.func4, Try.ntmps4
      go_wp2_with (first | (go_at_call 12; (with_reducible refine (impl_Quoted.calls k a0 t176 _ A4.out).mono ?_); rintro e w6 ⟨rfl, hb⟩; have n0_ := Aside0.mk (below_step (by repeat (first | (with_reducible first | exact HB.out | apply below_alloc | apply pw_below_drewN | apply below_drew1) | exact HB.out)) hb); clear HB; have HB := n0_; clear n0_; (try clear hb); (try clear hb2); (try clear hk); (try clear hi)) | (go_at_call 13; (with_reducible refine (spec_Quoted.calls k a0 t177 _ A5.out).mono ?_); rintro e w7 ⟨rfl, hb⟩; have n0_ := Aside0.mk (below_step (by repeat (first | (with_reducible first | exact HB.out | apply below_alloc | apply pw_below_drewN | apply below_drew1) | exact HB.out)) hb); clear HB; have HB := n0_; clear n0_; (try clear hb); (try clear hb2); (try clear hk); (try clear hi)))
      go_ret
      exact ⟨by first | rfl | (simp [errW_none, errW_some] <;> rfl) | (simp [*, errW_none, errW_some] <;> rfl), by repeat (first | (with_reducible first | exact HB.out | apply below_alloc | apply pw_below_drewN | apply below_drew1) | exact HB.out)⟩

/-- THE ONE PURE STATEMENT of laws_FnQuoted: yours. -/
def laws_FnQuoted.Pure : Prop := ∀ (a0 : ByteArray), a0.size ≤ 140737488351232 → ∃ k, laws_FnQuoted.f k a0 = some true
theorem laws_FnQuoted.walk (P : laws_FnQuoted.Pure) (a0 : ByteArray) (w : World) (w0 : a0.size ≤ 140737488351232) :
    Calls Try.prog 4 #[.string a0] w fun e w' => e = .returned (.bool true) ∧ Below w.heap.size w w' := by
  obtain ⟨k, h⟩ := P a0 w0
  refine (laws_FnQuoted.calls k a0 true w h).mono ?_
  rintro e w' ⟨rfl, hd⟩
  exact ⟨rfl, hd⟩

/-! ### spec_UTF8: function 18 -/
def spec_UTF8.l0 : Nat → ByteArray → Nat → Option (Bool)
  | 0, _, _ => none
  | k + 1, s, pos => if pos < s.size then (if ((Utf8.decode s pos).1 : Int) = 65533 then (if (s.size : Int) - pos < 3 then some false else (if (s.extract pos (pos + 3)).toList = ([239, 191, 189] : List UInt8) then spec_UTF8.l0 k s (pos + (Utf8.decode s pos).2) else some false)) else spec_UTF8.l0 k s (pos + (Utf8.decode s pos).2)) else some true
def spec_UTF8.f (k : Nat) (a0 : ByteArray) : Option (Bool) := if a0.size ≤ 9223372036854775000 then spec_UTF8.l0 k a0 0 else none
theorem spec_UTF8.mono_l : ∀ k, ∀ y0 y1, LeO (spec_UTF8.l0 k y0 y1) (spec_UTF8.l0 (k + 1) y0 y1)
  | 0 => fun _ _ r h => by simp [spec_UTF8.l0] at h
  | k + 1 => fun y0 y1 => by
    have ih := spec_UTF8.mono_l k
    unfold spec_UTF8.l0
    exact LeO.ite (LeO.ite (LeO.ite (LeO.refl _) (LeO.ite (ih _ _) (LeO.refl _))) (ih _ _)) (LeO.refl _)
theorem spec_UTF8.mono : ∀ a0 k, LeO (spec_UTF8.f k a0) (spec_UTF8.f (k + 1) a0) := by
  intro a0 k
  unfold spec_UTF8.f
  exact LeO.ite (spec_UTF8.mono_l _ _ _) (LeO.refl _)
set_option maxHeartbeats 1000000 in
set_option maxRecDepth 100000 in
theorem spec_UTF8.calls (k : Nat) (a0 : ByteArray) (r : Bool) (w : World) (h : spec_UTF8.f k a0 = some r) :
    Calls Try.prog 18 #[.string a0] w fun e w' => e = .returned (.bool r) ∧ Below w.heap.size w w' := by
  have H : (if a0.size ≤ 9223372036854775000 then spec_UTF8.l0 k a0 0 else none) = some r := h
  clear h
  by_cases hs : a0.size ≤ 9223372036854775000
  · rw [if_pos hs] at H
    have H' := Aside0.mk H
    clear H
    go_enter Try.func18, Try.ntmps18
    go_wp2
    go_loopg [] k (fun kq w' => ∃ pos : Nat, w' = w.iter a0 pos ∧ Aside0 (spec_UTF8.l0 kq a0 pos = some r) ∧ Aside0 (kq ≤ k))
    case atStart => exact ⟨0, rfl, H', ⟨Nat.le_refl _⟩⟩
    case round =>
      clear H'
      obtain ⟨pos, rfl, HA, HK1⟩ := hrel
      cases gk with
      | zero => exact absurd HA.out (by simp [spec_UTF8.l0])
      | succ k1 =>
        have H := HA.out
        clear HA
        simp only [spec_UTF8.l0] at H
        by_cases hp : pos < a0.size
        · rw [if_pos hp] at H
          have hnx := fun ty => run_next_any (P := Try.prog) w a0 pos ty hp
          by_cases hc : ((Utf8.decode a0 pos).1 : Int) = 65533
          · rw [if_pos hc] at H
            have hcb : (((Utf8.decode a0 pos).1 : Int) == 65533) = true := beq_iff_eq.mpr hc
            have hcb2 : ((Utf8.decode a0 pos).1 == 65533) = true := beq_iff_eq.mpr (by omega)
            clear hc
            by_cases hd : (a0.size : Int) - pos < 3
            · rw [if_pos hd] at H
              obtain rfl := Option.some.inj H
              have hdb : decide ((a0.size : Int) - pos < 3) = true := decide_eq_true hd
              clear H
              go_wp2
              go_ret
              exact ⟨by first | rfl | (simp; done), (Below.refl _ _).alloc (Nat.le_refl _) _⟩
            · rw [if_neg hd] at H
              have hdb : decide ((a0.size : Int) - pos < 3) = false := decide_eq_false hd
              have hsl : ∀ W : World, (Instr.slice 9 (.string a0) (some (.int .i64 (pos : Int))) (some (.int .i64 ((pos : Int) + 3))) none).run Try.prog W = .ok (.string (a0.extract pos (pos + 3))) W := by
                intro W
                rw [run_slice_string (P := Try.prog) W 9 a0 .i64 .i64 (pos : Int) ((pos : Int) + 3) Try.underlying9 (by omega) (by omega) (by omega)]
                rfl
              by_cases hq : (a0.extract pos (pos + 3)).toList = ([239, 191, 189] : List UInt8)
              · rw [if_pos hq] at H
                have H' := Aside0.mk H
                clear H
                have hqb : ((a0.extract pos (pos + 3)).toList == ([239, 191, 189] : List UInt8)) = true := beq_iff_eq.mpr hq
                have hqc : ((a0.extract pos (pos + 3)).toList != ([239, 191, 189] : List UInt8)) = false := bne_eq_false_iff_eq.mpr hq
                clear hq
                go_wp2
                go_roundg k1
                case measure => have := HK1.out; omega
                case rel => exact ⟨_, rfl, H', ⟨by have := HK1.out; omega⟩⟩
              · rw [if_neg hq] at H
                obtain rfl := Option.some.inj H
                clear H
                have hqb : ((a0.extract pos (pos + 3)).toList == ([239, 191, 189] : List UInt8)) = false := beq_eq_false_iff_ne.mpr hq
                have hqc : ((a0.extract pos (pos + 3)).toList != ([239, 191, 189] : List UInt8)) = true := bne_iff_ne.mpr hq
                go_wp2
                go_ret
                exact ⟨by first | rfl | (simp; done), (Below.refl _ _).alloc (Nat.le_refl _) _⟩
          · rw [if_neg hc] at H
            have H' := Aside0.mk H
            have hcb : (((Utf8.decode a0 pos).1 : Int) == 65533) = false := beq_eq_false_iff_ne.mpr hc
            have hcb2 : ((Utf8.decode a0 pos).1 == 65533) = false := beq_eq_false_iff_ne.mpr (by omega)
            clear hc H
            go_wp2
            go_roundg k1
            case measure => have := HK1.out; omega
            case rel => exact ⟨_, rfl, H', ⟨by have := HK1.out; omega⟩⟩
        · rw [if_neg hp] at H
          obtain rfl := Option.some.inj H
          have hnx := fun ty => run_next_end (P := Try.prog) w a0 pos ty hp
          clear H
          go_wp2
          go_ret
          exact ⟨by first | rfl | (simp; done), (Below.refl _ _).alloc (Nat.le_refl _) _⟩
  · rw [if_neg hs] at H
    exact absurd H (by simp)

end Go.Proofs.Ytlfkejljbehcaaa.P
