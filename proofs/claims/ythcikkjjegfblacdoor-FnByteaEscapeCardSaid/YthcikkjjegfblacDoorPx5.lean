-- Written by the program wip/myprint.py of this session, over the kit's print of the translation. Lean checks it.
import Derived.Test.YthcikkjjegfblacDoorPx0
import Derived.Test.YthcikkjjegfblacDoorPx4
namespace Go.Proofs.YthcikkjjegfblacDoor.P
open Go.RowKit Go.Proofs.YthcikkjjegfblacDoorW.PrintWords Go.Proofs.YthcikkjjegfblacDoorW.PrintLast Go.Proofs.YthcikkjjegfblacDoorW.PrintMore
attribute [local go_sem] max2_int min2_int max_two min_two max_three min_three max_four min_four   -- for this text's walks alone
set_option linter.unusedVariables false
set_option linter.unusedSimpArgs false

/-! ### spec_Escaped: function 17 -/
def spec_Escaped.l0 : Nat → ByteArray → List Int → Int → Option (ByteArray)
  | 0, _, _, _ => none
  | k + 1, x0, x3, x4 => if x4 < (x0.size : Int) then (if 0 ≤ x4 then (if (bt x0 x4) = 92 then ((some (([92, 92] : List Int) : List Int)).bind fun y209 => (if x3.length + y209.length < 140737488355328 then (spec_Escaped.l0 k x0 (x3 ++ y209) (wrap64 (x4 + 1))) else (none))) else (if (bt x0 x4) < 32 then ((some (([92, (48 + ((bt x0 x4) / 64)) % 256, (48 + (Go.bits .and .u8 ((bt x0 x4) / 8) 7)) % 256, (48 + (Go.bits .and .u8 (bt x0 x4) 7)) % 256] : List Int) : List Int)).bind fun y215 => (if x3.length + y215.length < 140737488355328 then (spec_Escaped.l0 k x0 (x3 ++ y215) (wrap64 (x4 + 1))) else (none))) else (if (bt x0 x4) > 126 then ((some (([92, (48 + ((bt x0 x4) / 64)) % 256, (48 + (Go.bits .and .u8 ((bt x0 x4) / 8) 7)) % 256, (48 + (Go.bits .and .u8 (bt x0 x4) 7)) % 256] : List Int) : List Int)).bind fun y221 => (if x3.length + y221.length < 140737488355328 then (spec_Escaped.l0 k x0 (x3 ++ y221) (wrap64 (x4 + 1))) else (none))) else (if x3.length < 140737488355328 then (spec_Escaped.l0 k x0 (x3 ++ [bt x0 x4]) (wrap64 (x4 + 1))) else (none))))) else (none)) else (some (strOfNums x3))
def spec_Escaped.f (k : Nat) (a0 : ByteArray) : Option (ByteArray) := spec_Escaped.l0 k a0 ([] : List Int) 0
theorem spec_Escaped.mono_l : ∀ k, (∀ y0 y1 y2, LeO (spec_Escaped.l0 k y0 y1 y2) (spec_Escaped.l0 (k + 1) y0 y1 y2))
  | 0 => fun _ _ _ r h => by simp [spec_Escaped.l0] at h
  | k + 1 => by
    have ih0 := spec_Escaped.mono_l k
    · intro y0 y1 y2
      unfold spec_Escaped.l0
      repeat' first
      | (with_reducible exact ih0 _ _ _)
      | (with_reducible exact LeO.refl _)
      | (with_reducible exact LeO.none _)
      | (with_reducible refine LeO.ite ?_ ?_)
      | (with_reducible refine LeO.bind ?_ (fun _ => ?_))
      | exact ih0 _ _ _
      | exact LeO.none _
      | refine LeO.ite ?_ ?_
      | refine LeO.bind ?_ (fun _ => ?_)
theorem spec_Escaped.mono : ∀ a0 k, LeO (spec_Escaped.f k a0) (spec_Escaped.f (k + 1) a0) := by
  intro a0 k
  have ih0 := spec_Escaped.mono_l k
  unfold spec_Escaped.f
  repeat' first
      | (with_reducible exact ih0 _ _ _)
      | (with_reducible exact LeO.refl _)
      | (with_reducible exact LeO.none _)
      | (with_reducible refine LeO.ite ?_ ?_)
      | (with_reducible refine LeO.bind ?_ (fun _ => ?_))
      | exact ih0 _ _ _
      | exact LeO.none _
      | refine LeO.ite ?_ ?_
      | refine LeO.bind ?_ (fun _ => ?_)
set_option maxHeartbeats 8000000 in
set_option maxRecDepth 100000 in
theorem spec_Escaped.calls (k : Nat) (a0 : ByteArray) (r : ByteArray) (w : World) (h : spec_Escaped.f k a0 = some r) :
    Calls Tryd.prog 17 #[.string a0] w fun e w' => e = .returned (.string r) ∧ Below w.heap.size w w' := by
  have HB := Aside0.mk (Below.refl w.heap.size w)
  have H : (spec_Escaped.l0 k a0 ([] : List Int) 0) = some r := h
  clear h
  have H' := Aside0.mk H
  clear H
  go_enter Tryd.func17, Tryd.ntmps17
  go_wp2
  go_loopg [3, 4] k (fun kq v3 v4 w' => ∃ (x3_1 : List Int) (x4_1 : Int), v4 = .int .i64 x4_1 ∧ Aside0 (spec_Escaped.l0 kq a0 x3_1 x4_1 = some r) ∧ Aside0 (kq ≤ k) ∧ Aside0 (Kd.R (Kd.int .u8) 5 w' w.heap.size (fun _ => True) v3 x3_1) ∧ Aside0 (Below w.heap.size w w'))
  case atStart => exact ⟨(([] : List Int)), (0), (by first | rfl | (simp; done) | (simp [*]; done)), H', ⟨Nat.le_refl _⟩, ⟨by first | exact Kd.R_nil _ _ _ _ _ | exact Kd.N_nil _ _ _ _ _ | exact Kd.V_nil _ _ _ _ _ | exact Kd.Q_nil _ _ _ _ _ | exact Kd.S_nil _ _ _ _ _⟩, ⟨by repeat (first | (with_reducible first | exact HB.out | apply below_alloc | apply pw_below_drewN | apply below_drew1) | exact HB.out)⟩⟩
  case round =>
    clear H'
    try clear c1
    obtain ⟨x3_1, x4_1, rfl, HA, HK1, HO_3, HB⟩ := hrel
    cases gk with
    | zero => exact absurd HA.out (by simp [spec_Escaped.l0])
    | succ k1 =>
      have H := HA.out
      clear HA
      simp only [spec_Escaped.l0] at H
      by_cases c2 : x4_1 < (a0.size : Int)
      · rw [if_pos c2] at H
        have c2b0 : decide (x4_1 < (a0.size : Int)) = true := decide_eq_true c2
        clear c2
        by_cases c3 : 0 ≤ x4_1
        · rw [if_pos c3] at H
          have c3b0 : decide (0 ≤ x4_1) = true := decide_eq_true c3
          clear c3
          by_cases c5 : (bt a0 x4_1) = 92
          · rw [if_pos c5] at H
            have c5b0 : ((bt a0 x4_1) == 92) = true := beq_iff_eq.mpr c5
            have c5b1 : ((bt a0 x4_1) != 92) = false := bne_eq_false_iff_eq.mpr c5
            clear c5
            obtain ⟨y209, hy209⟩ : ∃ y_ : List Int, y_ = (([92, 92] : List Int)) := ⟨_, rfl⟩
            replace H : (if x3_1.length + y209.length < 140737488355328 then (spec_Escaped.l0 k1 a0 (x3_1 ++ y209) (wrap64 (x4_1 + 1))) else (none)) = some r := by first | (rw [hy209]; with_reducible exact H) | (have H2_ := (Option.bind_some _ _).symm.trans H; rw [hy209]; with_reducible exact H2_) | (have H2_ := (Option.bind_some _ _).symm.trans H; with_reducible exact H2_) | with_reducible exact H | (rw [hy209]; exact H) | exact H
            have Ny209 := Aside0.mk hy209
            clear hy209
            by_cases c6 : x3_1.length + y209.length < 140737488355328
            · rw [if_pos c6] at H
              have LMc6 := Aside0.mk c6
              clear c6
              obtain ⟨y212, hy212⟩ : ∃ y_ : List Int, y_ = (x3_1 ++ y209) := ⟨_, rfl⟩
              replace H : (spec_Escaped.l0 k1 a0 y212 (wrap64 (x4_1 + 1))) = some r := by first | (rw [hy212]; with_reducible exact H) | (have H2_ := (Option.bind_some _ _).symm.trans H; rw [hy212]; with_reducible exact H2_) | (have H2_ := (Option.bind_some _ _).symm.trans H; with_reducible exact H2_) | with_reducible exact H | (rw [hy212]; exact H) | exact H
              have Ny212 := Aside0.mk hy212
              clear hy212
              have H' := Aside0.mk H
              clear H
              have p4 : 0 ≤ (x4_1 : Int) := of_decide_eq_true (by first | (with_reducible assumption) | assumption)
              have q4 : x4_1 < (a0.size : Int) := of_decide_eq_true (by first | (with_reducible assumption) | assumption)
              have hx4 := bt_at a0 x4_1
              replace p4 := eq_true p4
              replace q4 := eq_true q4
              go_wp2_with (first | ((with_reducible refine gate_dst (N := 23) rfl ?_); refine Kd.R_lit (Kd.int .u8) _ 5 ?hg (N := 23) ?hd (xs := ([92, 92] : List Int)) (inner := [.int .u8 92, .int .u8 92]) (ok := fun _ => True) (okp := fun _ => True) ?hr ?hp (fun _ hk => hk) trivial (Below.refl _ _) (Nat.le_refl _) (by simp) ?_; (case hd => rfl); (case hg => rfl); (case hr => first | (go_simp; done) | (go_simp; rfl)); (case hp => exact (Reps.one (show Kd.M (Kd.int .u8) _ _ _ 92 [.int .u8 92] from rfl) (Reps.one (show Kd.M (Kd.int .u8) _ _ _ 92 [.int .u8 92] from rfl) (Reps.none _ _)))); intro v210 w7 ho8 hb hg_ hnew_; clear hg_ hnew_; (first | rw [← Ny209.out] at ho8 | (simp only [Int.reduceToNat] at ho8; rw [← Ny209.out] at ho8)); have n0_ := Aside0.mk (Kd.R_elder' (by (with_reducible repeat (first | apply Kd.R_alloc | apply Kd.R_drewN | apply Kd.R_drew)); exact HO_3.out) (Kd.R_base ho8) hb); have n1_ := Aside0.mk (Kd.R_lower (Kd.R_new' ho8 (Kd.R_lt (by (with_reducible repeat (first | apply Kd.R_alloc | apply Kd.R_drewN | apply Kd.R_drew)); exact HO_3.out))) (below_size (by repeat (first | (with_reducible first | exact HB.out | apply below_alloc | apply pw_below_drewN | apply below_drew1) | exact HB.out)))); have n2_ := Aside0.mk (below_step (by repeat (first | (with_reducible first | exact HB.out | apply below_alloc | apply pw_below_drewN | apply below_drew1) | exact HB.out)) hb); clear HO_3; clear HB; have HO_3 := n0_; have HO211 := n1_; have HB := n2_; clear n0_ n1_ n2_; clear hb ho8; obtain ⟨Ao10, co10, eo10⟩ := Kd.R_slice HO211.out; subst eo10) | ((with_reducible refine gate_builtin (b := .append) (xs := #[.tmp 22, .tmp 23]) rfl ?_); at_builtin; refine Kd.R_append_rows (Kd.int .u8) (w0 := w) w.heap.size rfl (.tmp 22) (.tmp 23) 54 5 (.int .u8 0) 1 rfl Tryd.underlying54 info5 rfl (by decide) (by omega) u3 x3_1 y209 _ _ _ (fun k_ => some k_ ≠ (.slice Ao10 y209.length co10 : Value).ownBlock) (fun _ => False) rfl rfl ?aO ?aR (fun _ _ h => h) (fun _ h => h.elim) ?aF ?aB ?aS ?aL ?_; (case aR => repeat (first | exact (Kd.R_reads' HO211.out).2.2 | (with_reducible refine Kd.C_alloc ?_ _) | (with_reducible refine Kd.C_drewN ?_ _) | (with_reducible refine Kd.C_drew ?_))); (case aB => exact (by repeat (first | (with_reducible first | exact HB.out | apply below_alloc | apply pw_below_drewN | apply below_drew1) | exact HB.out))); (case aF => exact (fun k_ hk => Kd.fresh' (Kd.R_lt (by (with_reducible repeat (first | apply Kd.R_alloc | apply Kd.R_drewN | apply Kd.R_drew)); exact HO211.out)) k_ hk)); (case aO => exact (by (with_reducible repeat (first | apply Kd.R_alloc | apply Kd.R_drewN | apply Kd.R_drew)); exact Kd.R_mono HO_3.out (fun _ hk => hk.2))); (case aS => exact (below_size (by repeat (first | (with_reducible first | exact HB.out | apply below_alloc | apply pw_below_drewN | apply below_drew1) | exact HB.out)))); (case aL => have := LMc6.out; omega); intro v213 w9 ho hb hg hat; rw [← Ny212.out] at ho; have n0_ := Aside0.mk (Kd.R_after (ok := (fun _ => True)) (by (with_reducible repeat (first | apply Kd.R_alloc | apply Kd.R_drewN | apply Kd.R_drew)); exact HO211.out) hg hat); have n1_ := Aside0.mk (hb); have n2_ := Aside0.mk (ho); clear HO211; clear HB; clear HO_3; have HO211 := n0_; have HB := n1_; have HO214 := n2_; clear n0_ n1_ n2_; clear ho hb hg hat))
              go_roundg k1
              case measure => have := HK1.out; omega
              case rel => exact ⟨(y212), (wrap64 (x4_1 + 1)), (by first | rfl | (simp; done) | (simp [*]; done)), H', ⟨by have := HK1.out; omega⟩, ⟨by (with_reducible repeat (first | apply Kd.R_alloc | apply Kd.R_drewN | apply Kd.R_drew)); exact Kd.R_mono HO214.out (fun _ hk => trivial)⟩, ⟨by repeat (first | (with_reducible first | exact HB.out | apply below_alloc | apply pw_below_drewN | apply below_drew1) | exact HB.out)⟩⟩
            · rw [if_neg c6] at H
              exact absurd H (by simp)
          · rw [if_neg c5] at H
            have c5b0 : ((bt a0 x4_1) == 92) = false := beq_eq_false_iff_ne.mpr c5
            have c5b1 : ((bt a0 x4_1) != 92) = true := bne_iff_ne.mpr c5
            by_cases c11 : (bt a0 x4_1) < 32
            · rw [if_pos c11] at H
              have c11b0 : decide ((bt a0 x4_1) < 32) = true := decide_eq_true c11
              clear c11
              obtain ⟨y215, hy215⟩ : ∃ y_ : List Int, y_ = (([92, (48 + ((bt a0 x4_1) / 64)) % 256, (48 + (Go.bits .and .u8 ((bt a0 x4_1) / 8) 7)) % 256, (48 + (Go.bits .and .u8 (bt a0 x4_1) 7)) % 256] : List Int)) := ⟨_, rfl⟩
              replace H : (if x3_1.length + y215.length < 140737488355328 then (spec_Escaped.l0 k1 a0 (x3_1 ++ y215) (wrap64 (x4_1 + 1))) else (none)) = some r := by first | (rw [hy215]; with_reducible exact H) | (have H2_ := (Option.bind_some _ _).symm.trans H; rw [hy215]; with_reducible exact H2_) | (have H2_ := (Option.bind_some _ _).symm.trans H; with_reducible exact H2_) | with_reducible exact H | (rw [hy215]; exact H) | exact H
              have Ny215 := Aside0.mk hy215
              clear hy215
              by_cases c12 : x3_1.length + y215.length < 140737488355328
              · rw [if_pos c12] at H
                have LMc12 := Aside0.mk c12
                clear c12
                obtain ⟨y218, hy218⟩ : ∃ y_ : List Int, y_ = (x3_1 ++ y215) := ⟨_, rfl⟩
                replace H : (spec_Escaped.l0 k1 a0 y218 (wrap64 (x4_1 + 1))) = some r := by first | (rw [hy218]; with_reducible exact H) | (have H2_ := (Option.bind_some _ _).symm.trans H; rw [hy218]; with_reducible exact H2_) | (have H2_ := (Option.bind_some _ _).symm.trans H; with_reducible exact H2_) | with_reducible exact H | (rw [hy218]; exact H) | exact H
                have Ny218 := Aside0.mk hy218
                clear hy218
                have H' := Aside0.mk H
                clear H
                have p4 : 0 ≤ (x4_1 : Int) := of_decide_eq_true (by first | (with_reducible assumption) | assumption)
                have q4 : x4_1 < (a0.size : Int) := of_decide_eq_true (by first | (with_reducible assumption) | assumption)
                have hx4 := bt_at a0 x4_1
                replace p4 := eq_true p4
                replace q4 := eq_true q4
                go_wp2_with (first | ((with_reducible refine gate_dst (N := 43) rfl ?_); refine Kd.R_lit (Kd.int .u8) _ 5 ?hg (N := 43) ?hd (xs := ([92, (48 + ((bt a0 x4_1) / 64)) % 256, (48 + (Go.bits .and .u8 ((bt a0 x4_1) / 8) 7)) % 256, (48 + (Go.bits .and .u8 (bt a0 x4_1) 7)) % 256] : List Int)) (inner := [.int .u8 92, .int .u8 ((48 + ((bt a0 x4_1) / 64)) % 256), .int .u8 ((48 + (Go.bits .and .u8 ((bt a0 x4_1) / 8) 7)) % 256), .int .u8 ((48 + (Go.bits .and .u8 (bt a0 x4_1) 7)) % 256)]) (ok := fun _ => True) (okp := fun _ => True) ?hr ?hp (fun _ hk => hk) trivial (Below.refl _ _) (Nat.le_refl _) (by simp) ?_; (case hd => rfl); (case hg => rfl); (case hr => first | (go_simp; done) | (go_simp; rfl)); (case hp => exact (Reps.one (show Kd.M (Kd.int .u8) _ _ _ 92 [.int .u8 92] from rfl) (Reps.one (show Kd.M (Kd.int .u8) _ _ _ ((48 + ((bt a0 x4_1) / 64)) % 256) [.int .u8 ((48 + ((bt a0 x4_1) / 64)) % 256)] from rfl) (Reps.one (show Kd.M (Kd.int .u8) _ _ _ ((48 + (Go.bits .and .u8 ((bt a0 x4_1) / 8) 7)) % 256) [.int .u8 ((48 + (Go.bits .and .u8 ((bt a0 x4_1) / 8) 7)) % 256)] from rfl) (Reps.one (show Kd.M (Kd.int .u8) _ _ _ ((48 + (Go.bits .and .u8 (bt a0 x4_1) 7)) % 256) [.int .u8 ((48 + (Go.bits .and .u8 (bt a0 x4_1) 7)) % 256)] from rfl) (Reps.none _ _)))))); intro v216 w13 ho14 hb hg_ hnew_; clear hg_ hnew_; (first | rw [← Ny215.out] at ho14 | (simp only [Int.reduceToNat] at ho14; rw [← Ny215.out] at ho14)); have n0_ := Aside0.mk (Kd.R_elder' (by (with_reducible repeat (first | apply Kd.R_alloc | apply Kd.R_drewN | apply Kd.R_drew)); exact HO_3.out) (Kd.R_base ho14) hb); have n1_ := Aside0.mk (Kd.R_lower (Kd.R_new' ho14 (Kd.R_lt (by (with_reducible repeat (first | apply Kd.R_alloc | apply Kd.R_drewN | apply Kd.R_drew)); exact HO_3.out))) (below_size (by repeat (first | (with_reducible first | exact HB.out | apply below_alloc | apply pw_below_drewN | apply below_drew1) | exact HB.out)))); have n2_ := Aside0.mk (below_step (by repeat (first | (with_reducible first | exact HB.out | apply below_alloc | apply pw_below_drewN | apply below_drew1) | exact HB.out)) hb); clear HO_3; clear HB; have HO_3 := n0_; have HO217 := n1_; have HB := n2_; clear n0_ n1_ n2_; clear hb ho14; obtain ⟨Ao16, co16, eo16⟩ := Kd.R_slice HO217.out; subst eo16) | ((with_reducible refine gate_builtin (b := .append) (xs := #[.tmp 32, .tmp 43]) rfl ?_); at_builtin; refine Kd.R_append_rows (Kd.int .u8) (w0 := w) w.heap.size rfl (.tmp 32) (.tmp 43) 54 5 (.int .u8 0) 1 rfl Tryd.underlying54 info5 rfl (by decide) (by omega) u3 x3_1 y215 _ _ _ (fun k_ => some k_ ≠ (.slice Ao16 y215.length co16 : Value).ownBlock) (fun _ => False) rfl rfl ?aO ?aR (fun _ _ h => h) (fun _ h => h.elim) ?aF ?aB ?aS ?aL ?_; (case aR => repeat (first | exact (Kd.R_reads' HO217.out).2.2 | (with_reducible refine Kd.C_alloc ?_ _) | (with_reducible refine Kd.C_drewN ?_ _) | (with_reducible refine Kd.C_drew ?_))); (case aB => exact (by repeat (first | (with_reducible first | exact HB.out | apply below_alloc | apply pw_below_drewN | apply below_drew1) | exact HB.out))); (case aF => exact (fun k_ hk => Kd.fresh' (Kd.R_lt (by (with_reducible repeat (first | apply Kd.R_alloc | apply Kd.R_drewN | apply Kd.R_drew)); exact HO217.out)) k_ hk)); (case aO => exact (by (with_reducible repeat (first | apply Kd.R_alloc | apply Kd.R_drewN | apply Kd.R_drew)); exact Kd.R_mono HO_3.out (fun _ hk => hk.2))); (case aS => exact (below_size (by repeat (first | (with_reducible first | exact HB.out | apply below_alloc | apply pw_below_drewN | apply below_drew1) | exact HB.out)))); (case aL => have := LMc12.out; omega); intro v219 w15 ho hb hg hat; rw [← Ny218.out] at ho; have n0_ := Aside0.mk (Kd.R_after (ok := (fun _ => True)) (by (with_reducible repeat (first | apply Kd.R_alloc | apply Kd.R_drewN | apply Kd.R_drew)); exact HO217.out) hg hat); have n1_ := Aside0.mk (hb); have n2_ := Aside0.mk (ho); clear HO217; clear HB; clear HO_3; have HO217 := n0_; have HB := n1_; have HO220 := n2_; clear n0_ n1_ n2_; clear ho hb hg hat))
                go_roundg k1
                case measure => have := HK1.out; omega
                case rel => exact ⟨(y218), (wrap64 (x4_1 + 1)), (by first | rfl | (simp; done) | (simp [*]; done)), H', ⟨by have := HK1.out; omega⟩, ⟨by (with_reducible repeat (first | apply Kd.R_alloc | apply Kd.R_drewN | apply Kd.R_drew)); exact Kd.R_mono HO220.out (fun _ hk => trivial)⟩, ⟨by repeat (first | (with_reducible first | exact HB.out | apply below_alloc | apply pw_below_drewN | apply below_drew1) | exact HB.out)⟩⟩
              · rw [if_neg c12] at H
                exact absurd H (by simp)
            · rw [if_neg c11] at H
              have c11b0 : decide ((bt a0 x4_1) < 32) = false := decide_eq_false c11
              clear c11
              by_cases c17 : (bt a0 x4_1) > 126
              · rw [if_pos c17] at H
                have c17b0 : decide (126 < (bt a0 x4_1)) = true := decide_eq_true c17
                clear c17
                obtain ⟨y221, hy221⟩ : ∃ y_ : List Int, y_ = (([92, (48 + ((bt a0 x4_1) / 64)) % 256, (48 + (Go.bits .and .u8 ((bt a0 x4_1) / 8) 7)) % 256, (48 + (Go.bits .and .u8 (bt a0 x4_1) 7)) % 256] : List Int)) := ⟨_, rfl⟩
                replace H : (if x3_1.length + y221.length < 140737488355328 then (spec_Escaped.l0 k1 a0 (x3_1 ++ y221) (wrap64 (x4_1 + 1))) else (none)) = some r := by first | (rw [hy221]; with_reducible exact H) | (have H2_ := (Option.bind_some _ _).symm.trans H; rw [hy221]; with_reducible exact H2_) | (have H2_ := (Option.bind_some _ _).symm.trans H; with_reducible exact H2_) | with_reducible exact H | (rw [hy221]; exact H) | exact H
                have Ny221 := Aside0.mk hy221
                clear hy221
                by_cases c18 : x3_1.length + y221.length < 140737488355328
                · rw [if_pos c18] at H
                  have LMc18 := Aside0.mk c18
                  clear c18
                  obtain ⟨y224, hy224⟩ : ∃ y_ : List Int, y_ = (x3_1 ++ y221) := ⟨_, rfl⟩
                  replace H : (spec_Escaped.l0 k1 a0 y224 (wrap64 (x4_1 + 1))) = some r := by first | (rw [hy224]; with_reducible exact H) | (have H2_ := (Option.bind_some _ _).symm.trans H; rw [hy224]; with_reducible exact H2_) | (have H2_ := (Option.bind_some _ _).symm.trans H; with_reducible exact H2_) | with_reducible exact H | (rw [hy224]; exact H) | exact H
                  have Ny224 := Aside0.mk hy224
                  clear hy224
                  have H' := Aside0.mk H
                  clear H
                  have p4 : 0 ≤ (x4_1 : Int) := of_decide_eq_true (by first | (with_reducible assumption) | assumption)
                  have q4 : x4_1 < (a0.size : Int) := of_decide_eq_true (by first | (with_reducible assumption) | assumption)
                  have hx4 := bt_at a0 x4_1
                  replace p4 := eq_true p4
                  replace q4 := eq_true q4
                  go_wp2_with (first | ((with_reducible refine gate_dst (N := 43) rfl ?_); refine Kd.R_lit (Kd.int .u8) _ 5 ?hg (N := 43) ?hd (xs := ([92, (48 + ((bt a0 x4_1) / 64)) % 256, (48 + (Go.bits .and .u8 ((bt a0 x4_1) / 8) 7)) % 256, (48 + (Go.bits .and .u8 (bt a0 x4_1) 7)) % 256] : List Int)) (inner := [.int .u8 92, .int .u8 ((48 + ((bt a0 x4_1) / 64)) % 256), .int .u8 ((48 + (Go.bits .and .u8 ((bt a0 x4_1) / 8) 7)) % 256), .int .u8 ((48 + (Go.bits .and .u8 (bt a0 x4_1) 7)) % 256)]) (ok := fun _ => True) (okp := fun _ => True) ?hr ?hp (fun _ hk => hk) trivial (Below.refl _ _) (Nat.le_refl _) (by simp) ?_; (case hd => rfl); (case hg => rfl); (case hr => first | (go_simp; done) | (go_simp; rfl)); (case hp => exact (Reps.one (show Kd.M (Kd.int .u8) _ _ _ 92 [.int .u8 92] from rfl) (Reps.one (show Kd.M (Kd.int .u8) _ _ _ ((48 + ((bt a0 x4_1) / 64)) % 256) [.int .u8 ((48 + ((bt a0 x4_1) / 64)) % 256)] from rfl) (Reps.one (show Kd.M (Kd.int .u8) _ _ _ ((48 + (Go.bits .and .u8 ((bt a0 x4_1) / 8) 7)) % 256) [.int .u8 ((48 + (Go.bits .and .u8 ((bt a0 x4_1) / 8) 7)) % 256)] from rfl) (Reps.one (show Kd.M (Kd.int .u8) _ _ _ ((48 + (Go.bits .and .u8 (bt a0 x4_1) 7)) % 256) [.int .u8 ((48 + (Go.bits .and .u8 (bt a0 x4_1) 7)) % 256)] from rfl) (Reps.none _ _)))))); intro v222 w19 ho20 hb hg_ hnew_; clear hg_ hnew_; (first | rw [← Ny221.out] at ho20 | (simp only [Int.reduceToNat] at ho20; rw [← Ny221.out] at ho20)); have n0_ := Aside0.mk (Kd.R_elder' (by (with_reducible repeat (first | apply Kd.R_alloc | apply Kd.R_drewN | apply Kd.R_drew)); exact HO_3.out) (Kd.R_base ho20) hb); have n1_ := Aside0.mk (Kd.R_lower (Kd.R_new' ho20 (Kd.R_lt (by (with_reducible repeat (first | apply Kd.R_alloc | apply Kd.R_drewN | apply Kd.R_drew)); exact HO_3.out))) (below_size (by repeat (first | (with_reducible first | exact HB.out | apply below_alloc | apply pw_below_drewN | apply below_drew1) | exact HB.out)))); have n2_ := Aside0.mk (below_step (by repeat (first | (with_reducible first | exact HB.out | apply below_alloc | apply pw_below_drewN | apply below_drew1) | exact HB.out)) hb); clear HO_3; clear HB; have HO_3 := n0_; have HO223 := n1_; have HB := n2_; clear n0_ n1_ n2_; clear hb ho20; obtain ⟨Ao22, co22, eo22⟩ := Kd.R_slice HO223.out; subst eo22) | ((with_reducible refine gate_builtin (b := .append) (xs := #[.tmp 32, .tmp 43]) rfl ?_); at_builtin; refine Kd.R_append_rows (Kd.int .u8) (w0 := w) w.heap.size rfl (.tmp 32) (.tmp 43) 54 5 (.int .u8 0) 1 rfl Tryd.underlying54 info5 rfl (by decide) (by omega) u3 x3_1 y221 _ _ _ (fun k_ => some k_ ≠ (.slice Ao22 y221.length co22 : Value).ownBlock) (fun _ => False) rfl rfl ?aO ?aR (fun _ _ h => h) (fun _ h => h.elim) ?aF ?aB ?aS ?aL ?_; (case aR => repeat (first | exact (Kd.R_reads' HO223.out).2.2 | (with_reducible refine Kd.C_alloc ?_ _) | (with_reducible refine Kd.C_drewN ?_ _) | (with_reducible refine Kd.C_drew ?_))); (case aB => exact (by repeat (first | (with_reducible first | exact HB.out | apply below_alloc | apply pw_below_drewN | apply below_drew1) | exact HB.out))); (case aF => exact (fun k_ hk => Kd.fresh' (Kd.R_lt (by (with_reducible repeat (first | apply Kd.R_alloc | apply Kd.R_drewN | apply Kd.R_drew)); exact HO223.out)) k_ hk)); (case aO => exact (by (with_reducible repeat (first | apply Kd.R_alloc | apply Kd.R_drewN | apply Kd.R_drew)); exact Kd.R_mono HO_3.out (fun _ hk => hk.2))); (case aS => exact (below_size (by repeat (first | (with_reducible first | exact HB.out | apply below_alloc | apply pw_below_drewN | apply below_drew1) | exact HB.out)))); (case aL => have := LMc18.out; omega); intro v225 w21 ho hb hg hat; rw [← Ny224.out] at ho; have n0_ := Aside0.mk (Kd.R_after (ok := (fun _ => True)) (by (with_reducible repeat (first | apply Kd.R_alloc | apply Kd.R_drewN | apply Kd.R_drew)); exact HO223.out) hg hat); have n1_ := Aside0.mk (hb); have n2_ := Aside0.mk (ho); clear HO223; clear HB; clear HO_3; have HO223 := n0_; have HB := n1_; have HO226 := n2_; clear n0_ n1_ n2_; clear ho hb hg hat))
                  go_roundg k1
                  case measure => have := HK1.out; omega
                  case rel => exact ⟨(y224), (wrap64 (x4_1 + 1)), (by first | rfl | (simp; done) | (simp [*]; done)), H', ⟨by have := HK1.out; omega⟩, ⟨by (with_reducible repeat (first | apply Kd.R_alloc | apply Kd.R_drewN | apply Kd.R_drew)); exact Kd.R_mono HO226.out (fun _ hk => trivial)⟩, ⟨by repeat (first | (with_reducible first | exact HB.out | apply below_alloc | apply pw_below_drewN | apply below_drew1) | exact HB.out)⟩⟩
                · rw [if_neg c18] at H
                  exact absurd H (by simp)
              · rw [if_neg c17] at H
                have c17b0 : decide (126 < (bt a0 x4_1)) = false := decide_eq_false c17
                clear c17
                by_cases c23 : x3_1.length < 140737488355328
                · rw [if_pos c23] at H
                  have LMc23 := Aside0.mk c23
                  clear c23
                  obtain ⟨y227, hy227⟩ : ∃ y_ : List Int, y_ = (x3_1 ++ [bt a0 x4_1]) := ⟨_, rfl⟩
                  replace H : (spec_Escaped.l0 k1 a0 y227 (wrap64 (x4_1 + 1))) = some r := by first | (rw [hy227]; with_reducible exact H) | (have H2_ := (Option.bind_some _ _).symm.trans H; rw [hy227]; with_reducible exact H2_) | (have H2_ := (Option.bind_some _ _).symm.trans H; with_reducible exact H2_) | with_reducible exact H | (rw [hy227]; exact H) | exact H
                  have Ny227 := Aside0.mk hy227
                  clear hy227
                  have H' := Aside0.mk H
                  clear H
                  have p4 : 0 ≤ (x4_1 : Int) := of_decide_eq_true (by first | (with_reducible assumption) | assumption)
                  have q4 : x4_1 < (a0.size : Int) := of_decide_eq_true (by first | (with_reducible assumption) | assumption)
                  have hx4 := bt_at a0 x4_1
                  replace p4 := eq_true p4
                  replace q4 := eq_true q4
                  go_wp2_with (first | ((with_reducible refine gate_builtin (b := .append) (xs := #[.tmp 15, .tmp 17]) rfl ?_); at_builtin; refine Kd.R_append (Kd.int .u8) (w0 := w) w.heap.size rfl (.tmp 15) (.tmp 17) 54 5 (.int .u8 0) 1 rfl Tryd.underlying54 info5 rfl (by decide) (by omega) u3 x3_1 (bt a0 x4_1) [.int .u8 (bt a0 x4_1)] (fun _ => True) (fun _ => False) rfl rfl ?aP (fun _ hk => hk.elim) ?aF ?aO ?aB ?aS ?aL ?_; (case aP => exact rfl); (case aB => exact (by repeat (first | (with_reducible first | exact HB.out | apply below_alloc | apply pw_below_drewN | apply below_drew1) | exact HB.out))); (case aF => exact (fun _ _ => trivial)); (case aO => exact (by (with_reducible repeat (first | apply Kd.R_alloc | apply Kd.R_drewN | apply Kd.R_drew)); exact HO_3.out)); (case aS => exact (below_size (by repeat (first | (with_reducible first | exact HB.out | apply below_alloc | apply pw_below_drewN | apply below_drew1) | exact HB.out)))); (case aL => have := LMc23.out; omega); intro v228 w24 ho hb hg hat; rw [← Ny227.out] at ho; have n0_ := Aside0.mk (hb); have n1_ := Aside0.mk (ho); clear HB; clear HO_3; have HB := n0_; have HO229 := n1_; clear n0_ n1_; clear ho hb hg hat))
                  go_roundg k1
                  case measure => have := HK1.out; omega
                  case rel => exact ⟨(y227), (wrap64 (x4_1 + 1)), (by first | rfl | (simp; done) | (simp [*]; done)), H', ⟨by have := HK1.out; omega⟩, ⟨by (with_reducible repeat (first | apply Kd.R_alloc | apply Kd.R_drewN | apply Kd.R_drew)); exact HO229.out⟩, ⟨by repeat (first | (with_reducible first | exact HB.out | apply below_alloc | apply pw_below_drewN | apply below_drew1) | exact HB.out)⟩⟩
                · rw [if_neg c23] at H
                  exact absurd H (by simp)
        · rw [if_neg c3] at H
          exact absurd H (by simp)
      · rw [if_neg c2] at H
        have c2b0 : decide (x4_1 < (a0.size : Int)) = false := decide_eq_false c2
        clear c2
        obtain rfl := Option.some.inj H
        have hcv25 := own_string (P := Tryd.prog) Tryd.underlying54 Tryd.underlying5 Tryd.underlying9 (Kd.own_of_R HO_3.out)
        go_wp2
        go_ret
        exact ⟨by first | rfl | (simp [errW_none, errW_some] <;> rfl) | (simp [*, errW_none, errW_some] <;> rfl), by repeat (first | (with_reducible first | exact HB.out | apply below_alloc | apply pw_below_drewN | apply below_drew1) | exact HB.out)⟩

/-! ### laws_FnByteaEscape: function 6 -/
def laws_FnByteaEscape.f (k : Nat) (a0 : ByteArray) : Option (Bool) := if (a0.size : Int) > 2147483647 then (some true) else (if (a0.size : Int) > 500 then (some true) else ((spec_Escaped.f k a0).bind fun t230 => ((impl_ByteaRead.f k t230).bind fun bt231 => (if bt231.2 = true then (some (bt231.1.toList == a0.toList)) else (some false)))))
theorem laws_FnByteaEscape.mono : ∀ a0 k, LeO (laws_FnByteaEscape.f k a0) (laws_FnByteaEscape.f (k + 1) a0) := by
  intro a0 k
  unfold laws_FnByteaEscape.f
  repeat' first
      | (with_reducible exact impl_ByteaRead.mono _ _)
      | (with_reducible exact spec_Escaped.mono _ _)
      | (with_reducible exact LeO.refl _)
      | (with_reducible exact LeO.none _)
      | (with_reducible refine LeO.ite ?_ ?_)
      | (with_reducible refine LeO.bind ?_ (fun _ => ?_))
      | exact impl_ByteaRead.mono _ _
      | exact spec_Escaped.mono _ _
      | exact LeO.none _
      | refine LeO.ite ?_ ?_
      | refine LeO.bind ?_ (fun _ => ?_)
set_option maxHeartbeats 8000000 in
set_option maxRecDepth 100000 in
theorem laws_FnByteaEscape.calls (k : Nat) (a0 : ByteArray) (r : Bool) (w : World) (h : laws_FnByteaEscape.f k a0 = some r) :
    Calls Tryd.prog 6 #[.string a0] w fun e w' => e = .returned (.bool r) ∧ Below w.heap.size w w' := by
  have HB := Aside0.mk (Below.refl w.heap.size w)
  have H : (if (a0.size : Int) > 2147483647 then (some true) else (if (a0.size : Int) > 500 then (some true) else ((spec_Escaped.f k a0).bind fun t230 => ((impl_ByteaRead.f k t230).bind fun bt231 => (if bt231.2 = true then (some (bt231.1.toList == a0.toList)) else (some false)))))) = some r := h
  clear h
  by_cases c2 : (a0.size : Int) > 2147483647
  · rw [if_pos c2] at H
    have c2b0 : decide (2147483647 < (a0.size : Int)) = true := decide_eq_true c2
    have c2b1 : decide (2147483647 < a0.size) = true := decide_eq_true (by omega)
    clear c2
    obtain rfl := Option.some.inj H
    go_enter Tryd.func6, Tryd.ntmps6
    go_wp2
    go_ret
    exact ⟨by first | rfl | (simp [errW_none, errW_some] <;> rfl) | (simp [*, errW_none, errW_some] <;> rfl), by repeat (first | (with_reducible first | exact HB.out | apply below_alloc | apply pw_below_drewN | apply below_drew1) | exact HB.out)⟩
  · rw [if_neg c2] at H
    have c2b0 : decide (2147483647 < (a0.size : Int)) = false := decide_eq_false c2
    have c2b1 : decide (2147483647 < a0.size) = false := decide_eq_false (by omega)
    clear c2
    by_cases c3 : (a0.size : Int) > 500
    · rw [if_pos c3] at H
      have c3b0 : decide (500 < (a0.size : Int)) = true := decide_eq_true c3
      have c3b1 : decide (500 < a0.size) = true := decide_eq_true (by omega)
      clear c3
      obtain rfl := Option.some.inj H
      go_enter Tryd.func6, Tryd.ntmps6
      go_wp2
      go_ret
      exact ⟨by first | rfl | (simp [errW_none, errW_some] <;> rfl) | (simp [*, errW_none, errW_some] <;> rfl), by repeat (first | (with_reducible first | exact HB.out | apply below_alloc | apply pw_below_drewN | apply below_drew1) | exact HB.out)⟩
    · rw [if_neg c3] at H
      have c3b0 : decide (500 < (a0.size : Int)) = false := decide_eq_false c3
      have c3b1 : decide (500 < a0.size) = false := decide_eq_false (by omega)
      clear c3
      replace H := Option.bind_eq_some_iff.mp H
      obtain ⟨t230, A40, H⟩ := H
      replace H : ((impl_ByteaRead.f k t230).bind fun bt231 => (if bt231.2 = true then (some (bt231.1.toList == a0.toList)) else (some false))) = some r := H
      have A4 := Aside0.mk A40
      clear A40
      replace H := Option.bind_eq_some_iff.mp H
      obtain ⟨⟨t231, t232⟩, A50, H⟩ := H
      replace H : (if t232 = true then (some (t231.toList == a0.toList)) else (some false)) = some r := H
      have A5 := Aside0.mk A50
      clear A50
      by_cases c6 : t232 = true
      · subst c6
        have H1 : (some (t231.toList == a0.toList)) = some r := by rw [if_pos rfl] at H; exact H
        clear H
        have H := H1
        clear H1
        obtain rfl := Option.some.inj H
        go_enter Tryd.func6, Tryd.ntmps6
        go_wp2_with (first | ((with_reducible refine gate_callee (f := 17) rfl ?_); refine goesL_ (some 13) rfl rfl Tryd.func17 (by kernel_rfl) rfl #[.string a0] rfl (by (try simp only [List.map_toArray, List.map_cons, List.map_nil]); first | done | rfl | (simp only [List.length_drop, List.length_take]; rfl)) ?_; (with_reducible refine (spec_Escaped.calls k a0 t230 _ A4.out).mono ?_); rintro e w7 ⟨rfl, hb⟩; refine ⟨_, rfl, ?_⟩; have n0_ := Aside0.mk (below_step (by repeat (first | (with_reducible first | exact HB.out | apply below_alloc | apply pw_below_drewN | apply below_drew1) | exact HB.out)) hb); clear HB; have HB := n0_; clear n0_; (try clear hb); (try clear hb2); (try clear hk); (try clear hi)) | ((with_reducible refine gate_callee (f := 16) rfl ?_); refine goesL_ (some 14) rfl rfl Tryd.func16 (by kernel_rfl) rfl #[.string t230] rfl (by (try simp only [List.map_toArray, List.map_cons, List.map_nil]); first | done | rfl | (simp only [List.length_drop, List.length_take]; rfl)) ?_; (with_reducible refine (impl_ByteaRead.calls k t230 t231 true _ A5.out).mono ?_); rintro e w8 ⟨rfl, hb⟩; refine ⟨_, rfl, ?_⟩; have n0_ := Aside0.mk (below_step (by repeat (first | (with_reducible first | exact HB.out | apply below_alloc | apply pw_below_drewN | apply below_drew1) | exact HB.out)) hb); clear HB; have HB := n0_; clear n0_; (try clear hb); (try clear hb2); (try clear hk); (try clear hi)))
        go_ret
        exact ⟨by first | rfl | (simp [errW_none, errW_some] <;> rfl) | (simp [*, errW_none, errW_some] <;> rfl), by repeat (first | (with_reducible first | exact HB.out | apply below_alloc | apply pw_below_drewN | apply below_drew1) | exact HB.out)⟩
      · replace c6 := Bool.eq_false_iff.mpr c6
        subst c6
        have H1 : (some false) = some r := by rw [if_neg (show ¬ (false = true) by decide)] at H; exact H
        clear H
        have H := H1
        clear H1
        obtain rfl := Option.some.inj H
        go_enter Tryd.func6, Tryd.ntmps6
        go_wp2_with (first | ((with_reducible refine gate_callee (f := 17) rfl ?_); refine goesL_ (some 13) rfl rfl Tryd.func17 (by kernel_rfl) rfl #[.string a0] rfl (by (try simp only [List.map_toArray, List.map_cons, List.map_nil]); first | done | rfl | (simp only [List.length_drop, List.length_take]; rfl)) ?_; (with_reducible refine (spec_Escaped.calls k a0 t230 _ A4.out).mono ?_); rintro e w9 ⟨rfl, hb⟩; refine ⟨_, rfl, ?_⟩; have n0_ := Aside0.mk (below_step (by repeat (first | (with_reducible first | exact HB.out | apply below_alloc | apply pw_below_drewN | apply below_drew1) | exact HB.out)) hb); clear HB; have HB := n0_; clear n0_; (try clear hb); (try clear hb2); (try clear hk); (try clear hi)) | ((with_reducible refine gate_callee (f := 16) rfl ?_); refine goesL_ (some 14) rfl rfl Tryd.func16 (by kernel_rfl) rfl #[.string t230] rfl (by (try simp only [List.map_toArray, List.map_cons, List.map_nil]); first | done | rfl | (simp only [List.length_drop, List.length_take]; rfl)) ?_; (with_reducible refine (impl_ByteaRead.calls k t230 t231 false _ A5.out).mono ?_); rintro e w10 ⟨rfl, hb⟩; refine ⟨_, rfl, ?_⟩; have n0_ := Aside0.mk (below_step (by repeat (first | (with_reducible first | exact HB.out | apply below_alloc | apply pw_below_drewN | apply below_drew1) | exact HB.out)) hb); clear HB; have HB := n0_; clear n0_; (try clear hb); (try clear hb2); (try clear hk); (try clear hi)))
        go_ret
        exact ⟨by first | rfl | (simp [errW_none, errW_some] <;> rfl) | (simp [*, errW_none, errW_some] <;> rfl), by repeat (first | (with_reducible first | exact HB.out | apply below_alloc | apply pw_below_drewN | apply below_drew1) | exact HB.out)⟩

/-- THE ONE PURE STATEMENT of laws_FnByteaEscape: yours. -/
def laws_FnByteaEscape.Pure : Prop := ∀ (a0 : ByteArray), a0.size ≤ 140737488351232 → ∃ k, laws_FnByteaEscape.f k a0 = some true
theorem laws_FnByteaEscape.walk (P : laws_FnByteaEscape.Pure) (a0 : ByteArray) (w : World) (w0 : a0.size ≤ 140737488351232) :
    Calls Tryd.prog 6 #[.string a0] w fun e w' => e = .returned (.bool true) ∧ Below w.heap.size w w' := by
  obtain ⟨k, h⟩ := P a0 w0
  refine (laws_FnByteaEscape.calls k a0 true w h).mono ?_
  rintro e w' ⟨rfl, hd⟩
  exact ⟨rfl, hd⟩

end Go.Proofs.YthcikkjjegfblacDoor.P
