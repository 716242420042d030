-- Written by the program wip/myprint.py of this session, over the kit's print of the translation. Lean checks it.
import Derived.Test.YtlhjblbmhlelbaaPx0
import Derived.Test.YtlhjblbmhlelbaaPx2
namespace Go.Proofs.Ytlhjblbmhlelbaa.P
open Go.RowKit Go.Proofs.YtlhjblbmhlelbaaW.PrintWords Go.Proofs.YtlhjblbmhlelbaaW.PrintLast Go.Proofs.YtlhjblbmhlelbaaW.PrintMore
attribute [local go_sem] max2_int min2_int max_two min_two max_three min_three max_four min_four   -- for this text's walks alone
set_option linter.unusedVariables false
set_option linter.unusedSimpArgs false

/-! ### spec_settingReader_value: function 19 -/
mutual
def spec_settingReader_value.j0 : Nat → ByteArray → Bool → ByteArray → Int → Option (ByteArray × Bool × ByteArray × Int)
  | 0, _, _, _, _ => none
  | k + 1, x4, x5, x1000, x1001 => if x5 = true then (spec_settingReader_value.j1 k x4 x5 x1000 (wrap64 (x1001 + 1))) else (spec_settingReader_value.j1 k x4 x5 x1000 x1001)
def spec_settingReader_value.j1 : Nat → ByteArray → Bool → ByteArray → Int → Option (ByteArray × Bool × ByteArray × Int)
  | 0, _, _, _, _ => none
  | k + 1, x4, x5, x1000, x1001 => spec_settingReader_value.l0 k x4 x5 x1000 x1001
def spec_settingReader_value.l0 : Nat → ByteArray → Bool → ByteArray → Int → Option (ByteArray × Bool × ByteArray × Int)
  | 0, _, _, _, _ => none
  | k + 1, x4, x5, x1000, x1001 => if x1001 < (x1000.size : Int) then (if 0 ≤ x1001 then (if x5 = true then (spec_settingReader_value.j3 k x4 x5 (bt x1000 x1001) ((bt x1000 x1001) == 39) x1000 x1001) else (spec_settingReader_value.j3 k x4 x5 (bt x1000 x1001) false x1000 x1001)) else (none)) else (some (x4, !x5, x1000, x1001))
def spec_settingReader_value.j3 : Nat → ByteArray → Bool → Int → Bool → ByteArray → Int → Option (ByteArray × Bool × ByteArray × Int)
  | 0, _, _, _, _, _, _ => none
  | k + 1, x4, x5, x6, x56, x1000, x1001 => if x56 = true then (some (x4, true, x1000, wrap64 (x1001 + 1))) else (if x5 = true then (spec_settingReader_value.j4 k x4 x5 x6 false x1000 x1001) else ((spec_isBlank.f x6).bind fun t108 => (spec_settingReader_value.j4 k x4 x5 x6 t108 x1000 x1001)))
def spec_settingReader_value.j4 : Nat → ByteArray → Bool → Int → Bool → ByteArray → Int → Option (ByteArray × Bool × ByteArray × Int)
  | 0, _, _, _, _, _, _ => none
  | k + 1, x4, x5, x6, x70, x1000, x1001 => if x70 = true then (some (x4, true, x1000, x1001)) else (if x6 = 92 then (if (wrap64 (x1001 + 1)) = (x1000.size : Int) then (some ((⟨#[]⟩ : ByteArray), false, x1000, wrap64 (x1001 + 1))) else (if 0 ≤ (wrap64 (x1001 + 1)) then (if (wrap64 (x1001 + 1)) ≤ (wrap64 ((wrap64 (x1001 + 1)) + 1)) then (if (wrap64 ((wrap64 (x1001 + 1)) + 1)) ≤ (x1000.size : Int) then (if x4.size + (x1000.extract ((wrap64 (x1001 + 1)) : Int).toNat ((wrap64 ((wrap64 (x1001 + 1)) + 1)) : Int).toNat).size ≤ 9223372036854775807 then (spec_settingReader_value.l0 k (x4 ++ (x1000.extract ((wrap64 (x1001 + 1)) : Int).toNat ((wrap64 ((wrap64 (x1001 + 1)) + 1)) : Int).toNat)) x5 x1000 (wrap64 ((wrap64 (x1001 + 1)) + 1))) else (none)) else (none)) else (none)) else (none))) else (if 0 ≤ x1001 then (if x1001 ≤ (wrap64 (x1001 + 1)) then (if (wrap64 (x1001 + 1)) ≤ (x1000.size : Int) then (if x4.size + (x1000.extract (x1001 : Int).toNat ((wrap64 (x1001 + 1)) : Int).toNat).size ≤ 9223372036854775807 then (spec_settingReader_value.l0 k (x4 ++ (x1000.extract (x1001 : Int).toNat ((wrap64 (x1001 + 1)) : Int).toNat)) x5 x1000 (wrap64 (x1001 + 1))) else (none)) else (none)) else (none)) else (none)))
end
def spec_settingReader_value.f (k : Nat) (s0_0 : ByteArray) (s0_1 : Int) : Option (ByteArray × Bool × ByteArray × Int) := if s0_1 < (s0_0.size : Int) then (if 0 ≤ s0_1 then (spec_settingReader_value.j0 k (⟨#[]⟩ : ByteArray) ((bt s0_0 s0_1) == 39) s0_0 s0_1) else (none)) else (spec_settingReader_value.j0 k (⟨#[]⟩ : ByteArray) false s0_0 s0_1)
theorem spec_settingReader_value.mono_l : ∀ k, (∀ y0 y1 y2 y3, LeO (spec_settingReader_value.j0 k y0 y1 y2 y3) (spec_settingReader_value.j0 (k + 1) y0 y1 y2 y3)) ∧ (∀ y0 y1 y2 y3, LeO (spec_settingReader_value.j1 k y0 y1 y2 y3) (spec_settingReader_value.j1 (k + 1) y0 y1 y2 y3)) ∧ (∀ y0 y1 y2 y3, LeO (spec_settingReader_value.l0 k y0 y1 y2 y3) (spec_settingReader_value.l0 (k + 1) y0 y1 y2 y3)) ∧ (∀ y0 y1 y2 y3 y4 y5, LeO (spec_settingReader_value.j3 k y0 y1 y2 y3 y4 y5) (spec_settingReader_value.j3 (k + 1) y0 y1 y2 y3 y4 y5)) ∧ (∀ y0 y1 y2 y3 y4 y5, LeO (spec_settingReader_value.j4 k y0 y1 y2 y3 y4 y5) (spec_settingReader_value.j4 (k + 1) y0 y1 y2 y3 y4 y5))
  | 0 => ⟨fun _ _ _ _ r h => by simp [spec_settingReader_value.j0] at h, fun _ _ _ _ r h => by simp [spec_settingReader_value.j1] at h, fun _ _ _ _ r h => by simp [spec_settingReader_value.l0] at h, fun _ _ _ _ _ _ r h => by simp [spec_settingReader_value.j3] at h, fun _ _ _ _ _ _ r h => by simp [spec_settingReader_value.j4] at h⟩
  | k + 1 => by
    obtain ⟨ih0, ih1, ih2, ih3, ih4⟩ := spec_settingReader_value.mono_l k
    refine ⟨?_, ?_, ?_, ?_, ?_⟩
    · intro y0 y1 y2 y3
      unfold spec_settingReader_value.j0
      repeat' first
      | (with_reducible exact ih0 _ _ _ _)
      | (with_reducible exact ih1 _ _ _ _)
      | (with_reducible exact ih2 _ _ _ _)
      | (with_reducible exact ih3 _ _ _ _ _ _)
      | (with_reducible exact ih4 _ _ _ _ _ _)
      | (with_reducible exact LeO.refl _)
      | (with_reducible exact LeO.none _)
      | (with_reducible refine LeO.ite ?_ ?_)
      | (with_reducible refine LeO.bind ?_ (fun _ => ?_))
      | exact ih0 _ _ _ _
      | exact ih1 _ _ _ _
      | exact ih2 _ _ _ _
      | exact ih3 _ _ _ _ _ _
      | exact ih4 _ _ _ _ _ _
      | exact LeO.none _
      | refine LeO.ite ?_ ?_
      | refine LeO.bind ?_ (fun _ => ?_)
    · intro y0 y1 y2 y3
      unfold spec_settingReader_value.j1
      repeat' first
      | (with_reducible exact ih0 _ _ _ _)
      | (with_reducible exact ih1 _ _ _ _)
      | (with_reducible exact ih2 _ _ _ _)
      | (with_reducible exact ih3 _ _ _ _ _ _)
      | (with_reducible exact ih4 _ _ _ _ _ _)
      | (with_reducible exact LeO.refl _)
      | (with_reducible exact LeO.none _)
      | (with_reducible refine LeO.ite ?_ ?_)
      | (with_reducible refine LeO.bind ?_ (fun _ => ?_))
      | exact ih0 _ _ _ _
      | exact ih1 _ _ _ _
      | exact ih2 _ _ _ _
      | exact ih3 _ _ _ _ _ _
      | exact ih4 _ _ _ _ _ _
      | exact LeO.none _
      | refine LeO.ite ?_ ?_
      | refine LeO.bind ?_ (fun _ => ?_)
    · intro y0 y1 y2 y3
      unfold spec_settingReader_value.l0
      repeat' first
      | (with_reducible exact ih0 _ _ _ _)
      | (with_reducible exact ih1 _ _ _ _)
      | (with_reducible exact ih2 _ _ _ _)
      | (with_reducible exact ih3 _ _ _ _ _ _)
      | (with_reducible exact ih4 _ _ _ _ _ _)
      | (with_reducible exact LeO.refl _)
      | (with_reducible exact LeO.none _)
      | (with_reducible refine LeO.ite ?_ ?_)
      | (with_reducible refine LeO.bind ?_ (fun _ => ?_))
      | exact ih0 _ _ _ _
      | exact ih1 _ _ _ _
      | exact ih2 _ _ _ _
      | exact ih3 _ _ _ _ _ _
      | exact ih4 _ _ _ _ _ _
      | exact LeO.none _
      | refine LeO.ite ?_ ?_
      | refine LeO.bind ?_ (fun _ => ?_)
    · intro y0 y1 y2 y3 y4 y5
      unfold spec_settingReader_value.j3
      repeat' first
      | (with_reducible exact ih0 _ _ _ _)
      | (with_reducible exact ih1 _ _ _ _)
      | (with_reducible exact ih2 _ _ _ _)
      | (with_reducible exact ih3 _ _ _ _ _ _)
      | (with_reducible exact ih4 _ _ _ _ _ _)
      | (with_reducible exact LeO.refl _)
      | (with_reducible exact LeO.none _)
      | (with_reducible refine LeO.ite ?_ ?_)
      | (with_reducible refine LeO.bind ?_ (fun _ => ?_))
      | exact ih0 _ _ _ _
      | exact ih1 _ _ _ _
      | exact ih2 _ _ _ _
      | exact ih3 _ _ _ _ _ _
      | exact ih4 _ _ _ _ _ _
      | exact LeO.none _
      | refine LeO.ite ?_ ?_
      | refine LeO.bind ?_ (fun _ => ?_)
    · intro y0 y1 y2 y3 y4 y5
      unfold spec_settingReader_value.j4
      repeat' first
      | (with_reducible exact ih0 _ _ _ _)
      | (with_reducible exact ih1 _ _ _ _)
      | (with_reducible exact ih2 _ _ _ _)
      | (with_reducible exact ih3 _ _ _ _ _ _)
      | (with_reducible exact ih4 _ _ _ _ _ _)
      | (with_reducible exact LeO.refl _)
      | (with_reducible exact LeO.none _)
      | (with_reducible refine LeO.ite ?_ ?_)
      | (with_reducible refine LeO.bind ?_ (fun _ => ?_))
      | exact ih0 _ _ _ _
      | exact ih1 _ _ _ _
      | exact ih2 _ _ _ _
      | exact ih3 _ _ _ _ _ _
      | exact ih4 _ _ _ _ _ _
      | exact LeO.none _
      | refine LeO.ite ?_ ?_
      | refine LeO.bind ?_ (fun _ => ?_)
theorem spec_settingReader_value.mono : ∀ a0 a1 k, LeO (spec_settingReader_value.f k a0 a1) (spec_settingReader_value.f (k + 1) a0 a1) := by
  intro a0 a1 k
  obtain ⟨ih0, ih1, ih2, ih3, ih4⟩ := spec_settingReader_value.mono_l k
  unfold spec_settingReader_value.f
  repeat' first
      | (with_reducible exact ih0 _ _ _ _)
      | (with_reducible exact ih1 _ _ _ _)
      | (with_reducible exact ih2 _ _ _ _)
      | (with_reducible exact ih3 _ _ _ _ _ _)
      | (with_reducible exact ih4 _ _ _ _ _ _)
      | (with_reducible exact LeO.refl _)
      | (with_reducible exact LeO.none _)
      | (with_reducible refine LeO.ite ?_ ?_)
      | (with_reducible refine LeO.bind ?_ (fun _ => ?_))
      | exact ih0 _ _ _ _
      | exact ih1 _ _ _ _
      | exact ih2 _ _ _ _
      | exact ih3 _ _ _ _ _ _
      | exact ih4 _ _ _ _ _ _
      | exact LeO.none _
      | refine LeO.ite ?_ ?_
      | refine LeO.bind ?_ (fun _ => ?_)
set_option maxHeartbeats 8000000 in
set_option maxRecDepth 100000 in
theorem spec_settingReader_value.calls (k : Nat) (g : Nat) (s0_0 : ByteArray) (s0_1 : Int) (r1 : ByteArray) (r2 : Bool) (r3 : ByteArray) (r4 : Int) (w0 w : World) (hI : IsS38 w0 w g s0_0 s0_1) (hB : Below w0.heap.size w0 w) (h : spec_settingReader_value.f k s0_0 s0_1 = some (r1, r2, r3, r4)) :
    Calls Try.prog 19 #[.pointer (some ⟨g, 0, none⟩)] w fun e w' => e = .returned (.tuple #[.string r1, .bool r2]) ∧ IsS38 w0 w' g r3 r4 ∧ Below w0.heap.size w0 w' ∧ KeepBut w w' g none := by
  have HI0 := Aside0.mk hI
  have HK := Aside0.mk (KeepBut.refl w g none)
  have HL := Aside0.mk hB.size
  clear hI
  have HW0 := Aside0.mk hB.size
  have HB := Aside0.mk hB
  clear hB
  have H : (if s0_1 < (s0_0.size : Int) then (if 0 ≤ s0_1 then (spec_settingReader_value.j0 k (⟨#[]⟩ : ByteArray) ((bt s0_0 s0_1) == 39) s0_0 s0_1) else (none)) else (spec_settingReader_value.j0 k (⟨#[]⟩ : ByteArray) false s0_0 s0_1)) = some (r1, r2, r3, r4) := h
  clear h
  have HC2 := Aside0.mk H
  clear H
  go_enter Try.func19, Try.ntmps19
  go_upto_region 2 with (fail)
  repeat (go_quiet (fail); go_upto_region 2 with (fail))
  go_cut [5] (fun v5 wc => ∃ (kq : Nat) (x5_1 : Bool), v5 = .bool x5_1 ∧ Aside0 (spec_settingReader_value.j0 kq (⟨#[]⟩ : ByteArray) x5_1 s0_0 s0_1 = some (r1, r2, r3, r4)) ∧ Aside0 (kq ≤ k) ∧ Aside0 (IsS38 w0 wc g s0_0 s0_1) ∧ Aside0 (KeepBut w wc g none) ∧ Aside0 (Below w0.heap.size w0 wc))
  case first =>
    have H := HC2.out
    clear HC2
    by_cases c3 : s0_1 < (s0_0.size : Int)
    · rw [if_pos c3] at H
      have c3b0 : decide (s0_1 < (s0_0.size : Int)) = true := decide_eq_true c3
      clear c3
      (first | rw [c3b0] | (simp only [i64_w, i32_w]; rw [c3b0]) | skip)
      by_cases c4 : 0 ≤ s0_1
      · rw [if_pos c4] at H
        have c4b0 : decide (0 ≤ s0_1) = true := decide_eq_true c4
        clear c4
        have H' := Aside0.mk H
        clear H
        obtain ⟨HGz6, hgz6⟩ := HI0.out
        have hcz6_0 := cellS38_0 HGz6
        have hcz6_1 := cellS38_1 HGz6
        have hfz6_0 := blk_frozen HGz6 0
        have hfz6_1 := blk_frozen HGz6 1
        clear HGz6 hgz6
        have p5 : 0 ≤ (s0_1 : Int) := of_decide_eq_true (by first | (with_reducible assumption) | assumption)
        have q5 : s0_1 < (s0_0.size : Int) := of_decide_eq_true (by first | (with_reducible assumption) | assumption)
        have hx5 := bt_at s0_0 s0_1
        replace p5 := eq_true p5
        replace q5 := eq_true q5
        go_wp2
        repeat (go_quiet (fail); try go_wp2)
        go_meet
        case rel => exact ⟨_, (((bt s0_0 s0_1) == 39)), (by first | rfl | (simp; done) | (simp [*]; done)), H', ⟨by first | omega | exact Nat.le_refl _⟩, ⟨by repeat (first | (with_reducible first | exact HI0.out | apply IsS38.alloc | apply IsS38.drewN | apply IsS38.drew | apply IsS38.set_0 | apply IsS38.set_1) | exact HI0.out)⟩, ⟨by repeat (first | (with_reducible first | exact HK.out | apply KeepBut.set_ | apply keep_drewN | apply keep_drew | apply keep_alloc) | exact HK.out)⟩, ⟨by repeat (first | (with_reducible first | exact HB.out | apply below_alloc | apply pw_below_drewN | apply below_drew1 | refine below_set ?_ (IsS38.ge HI0.out)) | exact HB.out)⟩⟩
      · rw [if_neg c4] at H
        exact absurd H (by simp)
    · rw [if_neg c3] at H
      have c3b0 : decide (s0_1 < (s0_0.size : Int)) = false := decide_eq_false c3
      clear c3
      (first | rw [c3b0] | (simp only [i64_w, i32_w]; rw [c3b0]) | skip)
      have H' := Aside0.mk H
      clear H
      obtain ⟨HGz7, hgz7⟩ := HI0.out
      have hcz7_0 := cellS38_0 HGz7
      have hcz7_1 := cellS38_1 HGz7
      have hfz7_0 := blk_frozen HGz7 0
      have hfz7_1 := blk_frozen HGz7 1
      clear HGz7 hgz7
      go_wp2
      repeat (go_quiet (fail); try go_wp2)
      go_meet
      case rel => exact ⟨_, (false), (by first | rfl | (simp; done) | (simp [*]; done)), H', ⟨by first | omega | exact Nat.le_refl _⟩, ⟨by repeat (first | (with_reducible first | exact HI0.out | apply IsS38.alloc | apply IsS38.drewN | apply IsS38.drew | apply IsS38.set_0 | apply IsS38.set_1) | exact HI0.out)⟩, ⟨by repeat (first | (with_reducible first | exact HK.out | apply KeepBut.set_ | apply keep_drewN | apply keep_drew | apply keep_alloc) | exact HK.out)⟩, ⟨by repeat (first | (with_reducible first | exact HB.out | apply below_alloc | apply pw_below_drewN | apply below_drew1 | refine below_set ?_ (IsS38.ge HI0.out)) | exact HB.out)⟩⟩
  case rest =>
    clear HC2
    try clear c1
    try clear p2
    try clear c3
    try clear c3b0
    try clear c4
    try clear c4b0
    try clear p5
    try clear q5
    try clear hx5
    try clear hcz6_0
    try clear hcz6_1
    try clear hcz7_0
    try clear hcz7_1
    try clear hfz6_0
    try clear hfz6_1
    try clear hfz7_0
    try clear hfz7_1
    try clear p5
    try clear q5
    obtain ⟨kq, x5_1, rfl, HA, HJ1, HI0, HK, HB⟩ := hcut
    cases kq with
    | zero => exact absurd HA.out (by simp [spec_settingReader_value.j0])
    | succ kj1 =>
      have H := HA.out
      clear HA
      simp only [spec_settingReader_value.j0] at H
      have HC8 := Aside0.mk H
      clear H
      go_upto_if 29 with (fail)
      repeat (go_quiet (fail); go_upto_if 29 with (fail))
      go_cut [] (fun wc => ∃ (kq : Nat) (x1001_7 : Int), Aside0 (spec_settingReader_value.j1 kq (⟨#[]⟩ : ByteArray) x5_1 s0_0 x1001_7 = some (r1, r2, r3, r4)) ∧ Aside0 (kq ≤ kj1) ∧ Aside0 (IsS38 w0 wc g s0_0 x1001_7) ∧ Aside0 (KeepBut w wc g none) ∧ Aside0 (Below w0.heap.size w0 wc))
      case first =>
        have H := HC8.out
        clear HC8
        by_cases c9 : x5_1 = true
        · subst c9
          have H1 : (spec_settingReader_value.j1 kj1 (⟨#[]⟩ : ByteArray) true s0_0 (wrap64 (s0_1 + 1))) = some (r1, r2, r3, r4) := by rw [if_pos rfl] at H; exact H
          clear H
          have H := H1
          clear H1
          have H' := Aside0.mk H
          clear H
          obtain ⟨HGz10, hgz10⟩ := HI0.out
          have hcz10_0 := cellS38_0 HGz10
          have hcz10_1 := cellS38_1 HGz10
          have hfz10_0 := blk_frozen HGz10 0
          have hfz10_1 := blk_frozen HGz10 1
          clear HGz10 hgz10
          go_wp2
          repeat (go_quiet (fail); try go_wp2)
          go_meet
          case rel => exact ⟨_, (wrap64 (s0_1 + 1)), H', ⟨by have := HJ1.out; first | omega | exact Nat.le_refl _⟩, ⟨by repeat (first | (with_reducible first | exact HI0.out | apply IsS38.alloc | apply IsS38.drewN | apply IsS38.drew | apply IsS38.set_0 | apply IsS38.set_1) | exact HI0.out)⟩, ⟨by repeat (first | (with_reducible first | exact HK.out | apply KeepBut.set_ | apply keep_drewN | apply keep_drew | apply keep_alloc) | exact HK.out)⟩, ⟨by repeat (first | (with_reducible first | exact HB.out | apply below_alloc | apply pw_below_drewN | apply below_drew1 | refine below_set ?_ (IsS38.ge HI0.out)) | exact HB.out)⟩⟩
        · replace c9 := Bool.eq_false_iff.mpr c9
          subst c9
          have H1 : (spec_settingReader_value.j1 kj1 (⟨#[]⟩ : ByteArray) false s0_0 s0_1) = some (r1, r2, r3, r4) := by rw [if_neg (show ¬ (false = true) by decide)] at H; exact H
          clear H
          have H := H1
          clear H1
          have H' := Aside0.mk H
          clear H
          go_wp2
          repeat (go_quiet (fail); try go_wp2)
          go_meet
          case rel => exact ⟨_, (s0_1), H', ⟨by have := HJ1.out; first | omega | exact Nat.le_refl _⟩, ⟨by repeat (first | (with_reducible first | exact HI0.out | apply IsS38.alloc | apply IsS38.drewN | apply IsS38.drew | apply IsS38.set_0 | apply IsS38.set_1) | exact HI0.out)⟩, ⟨by repeat (first | (with_reducible first | exact HK.out | apply KeepBut.set_ | apply keep_drewN | apply keep_drew | apply keep_alloc) | exact HK.out)⟩, ⟨by repeat (first | (with_reducible first | exact HB.out | apply below_alloc | apply pw_below_drewN | apply below_drew1 | refine below_set ?_ (IsS38.ge HI0.out)) | exact HB.out)⟩⟩
      case rest =>
        clear HC8
        try clear c1
        try clear p2
        try clear c3
        try clear c3b0
        try clear c4
        try clear c4b0
        try clear p5
        try clear q5
        try clear hx5
        try clear p6
        try clear c9
        try clear hcz10_0
        try clear hcz10_1
        try clear hcz6_0
        try clear hcz6_1
        try clear hcz7_0
        try clear hcz7_1
        try clear hfz10_0
        try clear hfz10_1
        try clear hfz6_0
        try clear hfz6_1
        try clear hfz7_0
        try clear hfz7_1
        try clear p2
        try clear p5
        try clear q5
        obtain ⟨kq, x1001_7, HA, HJ7, HI0, HK, HB⟩ := hcut
        cases kq with
        | zero => exact absurd HA.out (by simp [spec_settingReader_value.j1])
        | succ kj7 =>
          have H := HA.out
          clear HA
          simp only [spec_settingReader_value.j1] at H
          have H' := Aside0.mk H
          clear H
          go_wp2
          repeat (go_quiet (fail); try go_wp2)
          go_loopg [4] kj7 (fun kq v4 w' => ∃ (x4_3 : ByteArray) (x1001_3 : Int), v4 = .string x4_3 ∧ Aside0 (spec_settingReader_value.l0 kq x4_3 x5_1 s0_0 x1001_3 = some (r1, r2, r3, r4)) ∧ Aside0 (kq ≤ kj7) ∧ Aside0 (IsS38 w0 w' g s0_0 x1001_3) ∧ Aside0 (KeepBut w w' g none) ∧ Aside0 (Below w0.heap.size w0 w'))
          case atStart => exact ⟨((⟨#[]⟩ : ByteArray)), (x1001_7), (by first | rfl | (simp; done) | (simp [*]; done)), H', ⟨Nat.le_refl _⟩, ⟨by repeat (first | (with_reducible first | exact HI0.out | apply IsS38.alloc | apply IsS38.drewN | apply IsS38.drew | apply IsS38.set_0 | apply IsS38.set_1) | exact HI0.out)⟩, ⟨by repeat (first | (with_reducible first | exact HK.out | apply KeepBut.set_ | apply keep_drewN | apply keep_drew | apply keep_alloc) | exact HK.out)⟩, ⟨by repeat (first | (with_reducible first | exact HB.out | apply below_alloc | apply pw_below_drewN | apply below_drew1 | refine below_set ?_ (IsS38.ge HI0.out)) | exact HB.out)⟩⟩
          case round =>
            clear H'
            try clear c1
            try clear p2
            try clear c3
            try clear c3b0
            try clear c4
            try clear c4b0
            try clear p5
            try clear q5
            try clear hx5
            try clear p6
            try clear c9
            try clear hcz10_0
            try clear hcz10_1
            try clear hcz6_0
            try clear hcz6_1
            try clear hcz7_0
            try clear hcz7_1
            try clear hfz10_0
            try clear hfz10_1
            try clear hfz6_0
            try clear hfz6_1
            try clear hfz7_0
            try clear hfz7_1
            try clear p2
            try clear p5
            try clear p6
            try clear q5
            obtain ⟨x4_3, x1001_3, rfl, HA, HK3, HI0, HK, HB⟩ := hrel
            cases gk with
            | zero => exact absurd HA.out (by simp [spec_settingReader_value.l0])
            | succ k3 =>
              have H := HA.out
              clear HA
              simp only [spec_settingReader_value.l0] at H
              by_cases c11 : x1001_3 < (s0_0.size : Int)
              · rw [if_pos c11] at H
                have c11b0 : decide (x1001_3 < (s0_0.size : Int)) = true := decide_eq_true c11
                clear c11
                by_cases c12 : 0 ≤ x1001_3
                · rw [if_pos c12] at H
                  have c12b0 : decide (0 ≤ x1001_3) = true := decide_eq_true c12
                  clear c12
                  have HC14 := Aside0.mk H
                  clear H
                  obtain ⟨HGz15, hgz15⟩ := HI0.out
                  have hcz15_0 := cellS38_0 HGz15
                  have hcz15_1 := cellS38_1 HGz15
                  have hfz15_0 := blk_frozen HGz15 0
                  have hfz15_1 := blk_frozen HGz15 1
                  clear HGz15 hgz15
                  have p13 : 0 ≤ (x1001_3 : Int) := of_decide_eq_true (by first | (with_reducible assumption) | assumption)
                  have q13 : x1001_3 < (s0_0.size : Int) := of_decide_eq_true (by first | (with_reducible assumption) | assumption)
                  have hx13 := bt_at s0_0 x1001_3
                  replace p13 := eq_true p13
                  replace q13 := eq_true q13
                  go_upto_region 7 with (fail)
                  repeat (go_quiet (fail); go_upto_region 7 with (fail))
                  go_cut [56] (fun v56 wc => ∃ (kq : Nat) (x56_13 : Bool), v56 = .bool x56_13 ∧ Aside0 (spec_settingReader_value.j3 kq x4_3 x5_1 (bt s0_0 x1001_3) x56_13 s0_0 x1001_3 = some (r1, r2, r3, r4)) ∧ Aside0 (kq ≤ k3) ∧ Aside0 (IsS38 w0 wc g s0_0 x1001_3) ∧ Aside0 (KeepBut w wc g none) ∧ Aside0 (Below w0.heap.size w0 wc))
                  case first =>
                    have H := HC14.out
                    clear HC14
                    by_cases c16 : x5_1 = true
                    · subst c16
                      have H1 : (spec_settingReader_value.j3 k3 x4_3 true (bt s0_0 x1001_3) ((bt s0_0 x1001_3) == 39) s0_0 x1001_3) = some (r1, r2, r3, r4) := by rw [if_pos rfl] at H; exact H
                      clear H
                      have H := H1
                      clear H1
                      have H' := Aside0.mk H
                      clear H
                      go_wp2
                      repeat (go_quiet (fail); try go_wp2)
                      go_meet
                      case rel => exact ⟨_, (((bt s0_0 x1001_3) == 39)), (by first | rfl | (simp; done) | (simp [*]; done)), H', ⟨by have := HJ1.out; have := HJ7.out; have := HK3.out; first | omega | exact Nat.le_refl _⟩, ⟨by repeat (first | (with_reducible first | exact HI0.out | apply IsS38.alloc | apply IsS38.drewN | apply IsS38.drew | apply IsS38.set_0 | apply IsS38.set_1) | exact HI0.out)⟩, ⟨by repeat (first | (with_reducible first | exact HK.out | apply KeepBut.set_ | apply keep_drewN | apply keep_drew | apply keep_alloc) | exact HK.out)⟩, ⟨by repeat (first | (with_reducible first | exact HB.out | apply below_alloc | apply pw_below_drewN | apply below_drew1 | refine below_set ?_ (IsS38.ge HI0.out)) | exact HB.out)⟩⟩
                    · replace c16 := Bool.eq_false_iff.mpr c16
                      subst c16
                      have H1 : (spec_settingReader_value.j3 k3 x4_3 false (bt s0_0 x1001_3) false s0_0 x1001_3) = some (r1, r2, r3, r4) := by rw [if_neg (show ¬ (false = true) by decide)] at H; exact H
                      clear H
                      have H := H1
                      clear H1
                      have H' := Aside0.mk H
                      clear H
                      go_wp2
                      repeat (go_quiet (fail); try go_wp2)
                      go_meet
                      case rel => exact ⟨_, (false), (by first | rfl | (simp; done) | (simp [*]; done)), H', ⟨by have := HJ1.out; have := HJ7.out; have := HK3.out; first | omega | exact Nat.le_refl _⟩, ⟨by repeat (first | (with_reducible first | exact HI0.out | apply IsS38.alloc | apply IsS38.drewN | apply IsS38.drew | apply IsS38.set_0 | apply IsS38.set_1) | exact HI0.out)⟩, ⟨by repeat (first | (with_reducible first | exact HK.out | apply KeepBut.set_ | apply keep_drewN | apply keep_drew | apply keep_alloc) | exact HK.out)⟩, ⟨by repeat (first | (with_reducible first | exact HB.out | apply below_alloc | apply pw_below_drewN | apply below_drew1 | refine below_set ?_ (IsS38.ge HI0.out)) | exact HB.out)⟩⟩
                  case rest =>
                    clear HC14
                    try clear c1
                    try clear p1
                    try clear q1
                    try clear hx1
                    try clear p2
                    try clear c3
                    try clear c3b0
                    try clear c4
                    try clear c4b0
                    try clear p5
                    try clear q5
                    try clear hx5
                    try clear p6
                    try clear c9
                    try clear c11
                    try clear c11b0
                    try clear c12
                    try clear c12b0
                    try clear p13
                    try clear q13
                    try clear hx13
                    try clear c16
                    try clear hcz10_0
                    try clear hcz10_1
                    try clear hcz15_0
                    try clear hcz15_1
                    try clear hcz6_0
                    try clear hcz6_1
                    try clear hcz7_0
                    try clear hcz7_1
                    try clear hfz10_0
                    try clear hfz10_1
                    try clear hfz15_0
                    try clear hfz15_1
                    try clear hfz6_0
                    try clear hfz6_1
                    try clear hfz7_0
                    try clear hfz7_1
                    try clear p13
                    try clear p2
                    try clear p5
                    try clear p6
                    try clear q13
                    try clear q5
                    obtain ⟨kq, x56_13, rfl, HA, HJ13, HI0, HK, HB⟩ := hcut
                    cases kq with
                    | zero => exact absurd HA.out (by simp [spec_settingReader_value.j3])
                    | succ kj13 =>
                      have H := HA.out
                      clear HA
                      simp only [spec_settingReader_value.j3] at H
                      by_cases c17 : x56_13 = true
                      · subst c17
                        have H1 : (some (x4_3, true, s0_0, wrap64 (x1001_3 + 1))) = some (r1, r2, r3, r4) := by rw [if_pos rfl] at H; exact H
                        clear H
                        have H := H1
                        clear H1
                        simp only [Option.some.injEq, Prod.mk.injEq] at H
                        obtain ⟨rfl, rfl, rfl, rfl⟩ := H
                        obtain ⟨HGz18, hgz18⟩ := HI0.out
                        have hcz18_0 := cellS38_0 HGz18
                        have hcz18_1 := cellS38_1 HGz18
                        have hfz18_0 := blk_frozen HGz18 0
                        have hfz18_1 := blk_frozen HGz18 1
                        clear HGz18 hgz18
                        go_wp2
                        repeat (go_quiet (fail); try go_wp2)
                        go_ret2
                        exact ⟨by first | rfl | (simp [errW_none, errW_some] <;> rfl) | (simp [*, errW_none, errW_some] <;> rfl), by repeat (first | (with_reducible first | exact HI0.out | apply IsS38.alloc | apply IsS38.drewN | apply IsS38.drew | apply IsS38.set_0 | apply IsS38.set_1) | exact HI0.out), by repeat (first | (with_reducible first | exact HB.out | apply below_alloc | apply pw_below_drewN | apply below_drew1 | refine below_set ?_ (IsS38.ge HI0.out)) | exact HB.out), by repeat (first | (with_reducible first | exact HK.out | apply KeepBut.set_ | apply keep_drewN | apply keep_drew | apply keep_alloc) | exact HK.out)⟩
                      · replace c17 := Bool.eq_false_iff.mpr c17
                        subst c17
                        have H1 : (if x5_1 = true then (spec_settingReader_value.j4 kj13 x4_3 x5_1 (bt s0_0 x1001_3) false s0_0 x1001_3) else ((spec_isBlank.f (bt s0_0 x1001_3)).bind fun t108 => (spec_settingReader_value.j4 kj13 x4_3 x5_1 (bt s0_0 x1001_3) t108 s0_0 x1001_3))) = some (r1, r2, r3, r4) := by rw [if_neg (show ¬ (false = true) by decide)] at H; exact H
                        clear H
                        have H := H1
                        clear H1
                        have HC19 := Aside0.mk H
                        clear H
                        go_upto_region 10 with (fail)
                        repeat (go_quiet (fail); go_upto_region 10 with (fail))
                        go_cut [70] (fun v70 wc => ∃ (kq : Nat) (x70_18 : Bool), v70 = .bool x70_18 ∧ Aside0 (spec_settingReader_value.j4 kq x4_3 x5_1 (bt s0_0 x1001_3) x70_18 s0_0 x1001_3 = some (r1, r2, r3, r4)) ∧ Aside0 (kq ≤ kj13) ∧ Aside0 (IsS38 w0 wc g s0_0 x1001_3) ∧ Aside0 (KeepBut w wc g none) ∧ Aside0 (Below w0.heap.size w0 wc))
                        case first =>
                          have H := HC19.out
                          clear HC19
                          by_cases c20 : x5_1 = true
                          · subst c20
                            have H1 : (spec_settingReader_value.j4 kj13 x4_3 true (bt s0_0 x1001_3) false s0_0 x1001_3) = some (r1, r2, r3, r4) := by rw [if_pos rfl] at H; exact H
                            clear H
                            have H := H1
                            clear H1
                            have H' := Aside0.mk H
                            clear H
                            go_wp2
                            repeat (go_quiet (fail); try go_wp2)
                            go_meet
                            case rel => exact ⟨_, (false), (by first | rfl | (simp; done) | (simp [*]; done)), H', ⟨by have := HJ1.out; have := HJ7.out; have := HK3.out; have := HJ13.out; first | omega | exact Nat.le_refl _⟩, ⟨by repeat (first | (with_reducible first | exact HI0.out | apply IsS38.alloc | apply IsS38.drewN | apply IsS38.drew | apply IsS38.set_0 | apply IsS38.set_1) | exact HI0.out)⟩, ⟨by repeat (first | (with_reducible first | exact HK.out | apply KeepBut.set_ | apply keep_drewN | apply keep_drew | apply keep_alloc) | exact HK.out)⟩, ⟨by repeat (first | (with_reducible first | exact HB.out | apply below_alloc | apply pw_below_drewN | apply below_drew1 | refine below_set ?_ (IsS38.ge HI0.out)) | exact HB.out)⟩⟩
                          · replace c20 := Bool.eq_false_iff.mpr c20
                            subst c20
                            have H1 : ((spec_isBlank.f (bt s0_0 x1001_3)).bind fun t108 => (spec_settingReader_value.j4 kj13 x4_3 false (bt s0_0 x1001_3) t108 s0_0 x1001_3)) = some (r1, r2, r3, r4) := by rw [if_neg (show ¬ (false = true) by decide)] at H; exact H
                            clear H
                            have H := H1
                            clear H1
                            replace H := Option.bind_eq_some_iff.mp H
                            obtain ⟨t108, A210, H⟩ := H
                            replace H : (spec_settingReader_value.j4 kj13 x4_3 false (bt s0_0 x1001_3) t108 s0_0 x1001_3) = some (r1, r2, r3, r4) := H
                            have A21 := Aside0.mk A210
                            clear A210
                            have H' := Aside0.mk H
                            clear H
                            go_wp2_with (first | (go_at_call 18; (with_reducible refine (spec_isBlank.calls (bt s0_0 x1001_3) t108 _ A21.out).mono ?_); rintro e w' ⟨rfl, ⟨nd, rfl⟩⟩; (try first | exact ⟨rfl, _, World.drewN_drewN _ _ _⟩ | exact ⟨rfl, _, Eq.trans (World.drewN_drewN _ _ _) (congrArg (World.drewN _) (Nat.add_assoc _ _ _))⟩)))
                            repeat (go_quiet (first | (go_at_call 18; (with_reducible refine (spec_isBlank.calls (bt s0_0 x1001_3) t108 _ A21.out).mono ?_); rintro e w' ⟨rfl, ⟨nd, rfl⟩⟩; (try first | exact ⟨rfl, _, World.drewN_drewN _ _ _⟩ | exact ⟨rfl, _, Eq.trans (World.drewN_drewN _ _ _) (congrArg (World.drewN _) (Nat.add_assoc _ _ _))⟩))); try go_wp2_with (first | (go_at_call 18; (with_reducible refine (spec_isBlank.calls (bt s0_0 x1001_3) t108 _ A21.out).mono ?_); rintro e w' ⟨rfl, ⟨nd, rfl⟩⟩; (try first | exact ⟨rfl, _, World.drewN_drewN _ _ _⟩ | exact ⟨rfl, _, Eq.trans (World.drewN_drewN _ _ _) (congrArg (World.drewN _) (Nat.add_assoc _ _ _))⟩))))
                            go_meet
                            case rel => exact ⟨_, (t108), (by first | rfl | (simp; done) | (simp [*]; done)), H', ⟨by have := HJ1.out; have := HJ7.out; have := HK3.out; have := HJ13.out; first | omega | exact Nat.le_refl _⟩, ⟨by repeat (first | (with_reducible first | exact HI0.out | apply IsS38.alloc | apply IsS38.drewN | apply IsS38.drew | apply IsS38.set_0 | apply IsS38.set_1) | exact HI0.out)⟩, ⟨by repeat (first | (with_reducible first | exact HK.out | apply KeepBut.set_ | apply keep_drewN | apply keep_drew | apply keep_alloc) | exact HK.out)⟩, ⟨by repeat (first | (with_reducible first | exact HB.out | apply below_alloc | apply pw_below_drewN | apply below_drew1 | refine below_set ?_ (IsS38.ge HI0.out)) | exact HB.out)⟩⟩
                        case rest =>
                          clear HC19
                          try clear c1
                          try clear p1
                          try clear q1
                          try clear hx1
                          try clear c2
                          try clear p2
                          try clear c3
                          try clear c3b0
                          try clear c4
                          try clear c4b0
                          try clear p5
                          try clear q5
                          try clear hx5
                          try clear p6
                          try clear c9
                          try clear c11
                          try clear c11b0
                          try clear c12
                          try clear c12b0
                          try clear p13
                          try clear q13
                          try clear hx13
                          try clear c16
                          try clear c17
                          try clear c19
                          try clear c20
                          try clear hcz10_0
                          try clear hcz10_1
                          try clear hcz15_0
                          try clear hcz15_1
                          try clear hcz18_0
                          try clear hcz18_1
                          try clear hcz6_0
                          try clear hcz6_1
                          try clear hcz7_0
                          try clear hcz7_1
                          try clear hfz10_0
                          try clear hfz10_1
                          try clear hfz15_0
                          try clear hfz15_1
                          try clear hfz18_0
                          try clear hfz18_1
                          try clear hfz6_0
                          try clear hfz6_1
                          try clear hfz7_0
                          try clear hfz7_1
                          try clear p1
                          try clear p13
                          try clear p2
                          try clear p5
                          try clear p6
                          try clear q1
                          try clear q13
                          try clear q5
                          obtain ⟨kq, x70_18, rfl, HA, HJ18, HI0, HK, HB⟩ := hcut
                          cases kq with
                          | zero => exact absurd HA.out (by simp [spec_settingReader_value.j4])
                          | succ kj18 =>
                            have H := HA.out
                            clear HA
                            simp only [spec_settingReader_value.j4] at H
                            by_cases c22 : x70_18 = true
                            · subst c22
                              have H1 : (some (x4_3, true, s0_0, x1001_3)) = some (r1, r2, r3, r4) := by rw [if_pos rfl] at H; exact H
                              clear H
                              have H := H1
                              clear H1
                              simp only [Option.some.injEq, Prod.mk.injEq] at H
                              obtain ⟨rfl, rfl, rfl, rfl⟩ := H
                              go_wp2
                              repeat (go_quiet (fail); try go_wp2)
                              go_ret2
                              exact ⟨by first | rfl | (simp [errW_none, errW_some] <;> rfl) | (simp [*, errW_none, errW_some] <;> rfl), by repeat (first | (with_reducible first | exact HI0.out | apply IsS38.alloc | apply IsS38.drewN | apply IsS38.drew | apply IsS38.set_0 | apply IsS38.set_1) | exact HI0.out), by repeat (first | (with_reducible first | exact HB.out | apply below_alloc | apply pw_below_drewN | apply below_drew1 | refine below_set ?_ (IsS38.ge HI0.out)) | exact HB.out), by repeat (first | (with_reducible first | exact HK.out | apply KeepBut.set_ | apply keep_drewN | apply keep_drew | apply keep_alloc) | exact HK.out)⟩
                            · replace c22 := Bool.eq_false_iff.mpr c22
                              subst c22
                              have H1 : (if (bt s0_0 x1001_3) = 92 then (if (wrap64 (x1001_3 + 1)) = (s0_0.size : Int) then (some ((⟨#[]⟩ : ByteArray), false, s0_0, wrap64 (x1001_3 + 1))) else (if 0 ≤ (wrap64 (x1001_3 + 1)) then (if (wrap64 (x1001_3 + 1)) ≤ (wrap64 ((wrap64 (x1001_3 + 1)) + 1)) then (if (wrap64 ((wrap64 (x1001_3 + 1)) + 1)) ≤ (s0_0.size : Int) then (if x4_3.size + (s0_0.extract ((wrap64 (x1001_3 + 1)) : Int).toNat ((wrap64 ((wrap64 (x1001_3 + 1)) + 1)) : Int).toNat).size ≤ 9223372036854775807 then (spec_settingReader_value.l0 kj18 (x4_3 ++ (s0_0.extract ((wrap64 (x1001_3 + 1)) : Int).toNat ((wrap64 ((wrap64 (x1001_3 + 1)) + 1)) : Int).toNat)) x5_1 s0_0 (wrap64 ((wrap64 (x1001_3 + 1)) + 1))) else (none)) else (none)) else (none)) else (none))) else (if 0 ≤ x1001_3 then (if x1001_3 ≤ (wrap64 (x1001_3 + 1)) then (if (wrap64 (x1001_3 + 1)) ≤ (s0_0.size : Int) then (if x4_3.size + (s0_0.extract (x1001_3 : Int).toNat ((wrap64 (x1001_3 + 1)) : Int).toNat).size ≤ 9223372036854775807 then (spec_settingReader_value.l0 kj18 (x4_3 ++ (s0_0.extract (x1001_3 : Int).toNat ((wrap64 (x1001_3 + 1)) : Int).toNat)) x5_1 s0_0 (wrap64 (x1001_3 + 1))) else (none)) else (none)) else (none)) else (none))) = some (r1, r2, r3, r4) := by rw [if_neg (show ¬ (false = true) by decide)] at H; exact H
                              clear H
                              have H := H1
                              clear H1
                              by_cases c23 : (bt s0_0 x1001_3) = 92
                              · rw [if_pos c23] at H
                                have c23b0 : ((bt s0_0 x1001_3) == 92) = true := beq_iff_eq.mpr c23
                                have c23b1 : ((bt s0_0 x1001_3) != 92) = false := bne_eq_false_iff_eq.mpr c23
                                clear c23
                                by_cases c24 : (wrap64 (x1001_3 + 1)) = (s0_0.size : Int)
                                · rw [if_pos c24] at H
                                  have c24b0 : ((wrap64 (x1001_3 + 1)) == (s0_0.size : Int)) = true := beq_iff_eq.mpr c24
                                  have c24b1 : ((wrap64 (x1001_3 + 1)) != (s0_0.size : Int)) = false := bne_eq_false_iff_eq.mpr c24
                                  clear c24
                                  simp only [Option.some.injEq, Prod.mk.injEq] at H
                                  obtain ⟨rfl, rfl, rfl, rfl⟩ := H
                                  obtain ⟨HGz25, hgz25⟩ := HI0.out
                                  have hcz25_0 := cellS38_0 HGz25
                                  have hcz25_1 := cellS38_1 HGz25
                                  have hfz25_0 := blk_frozen HGz25 0
                                  have hfz25_1 := blk_frozen HGz25 1
                                  clear HGz25 hgz25
                                  go_wp2
                                  repeat (go_quiet (fail); try go_wp2)
                                  go_ret2
                                  exact ⟨by first | rfl | (simp [errW_none, errW_some] <;> rfl) | (simp [*, errW_none, errW_some] <;> rfl), by repeat (first | (with_reducible first | exact HI0.out | apply IsS38.alloc | apply IsS38.drewN | apply IsS38.drew | apply IsS38.set_0 | apply IsS38.set_1) | exact HI0.out), by repeat (first | (with_reducible first | exact HB.out | apply below_alloc | apply pw_below_drewN | apply below_drew1 | refine below_set ?_ (IsS38.ge HI0.out)) | exact HB.out), by repeat (first | (with_reducible first | exact HK.out | apply KeepBut.set_ | apply keep_drewN | apply keep_drew | apply keep_alloc) | exact HK.out)⟩
                                · rw [if_neg c24] at H
                                  have c24b0 : ((wrap64 (x1001_3 + 1)) == (s0_0.size : Int)) = false := beq_eq_false_iff_ne.mpr c24
                                  have c24b1 : ((wrap64 (x1001_3 + 1)) != (s0_0.size : Int)) = true := bne_iff_ne.mpr c24
                                  obtain ⟨ji26, hji26⟩ : ∃ j_ : Int, (wrap64 (x1001_3 + 1)) = j_ := ⟨_, rfl⟩
                                  replace H : (if 0 ≤ (ji26) then (if (ji26) ≤ (wrap64 ((ji26) + 1)) then (if (wrap64 ((ji26) + 1)) ≤ (s0_0.size : Int) then (if x4_3.size + (s0_0.extract ((ji26) : Int).toNat ((wrap64 ((ji26) + 1)) : Int).toNat).size ≤ 9223372036854775807 then (spec_settingReader_value.l0 kj18 (x4_3 ++ (s0_0.extract ((ji26) : Int).toNat ((wrap64 ((ji26) + 1)) : Int).toNat)) x5_1 s0_0 (wrap64 ((ji26) + 1))) else (none)) else (none)) else (none)) else (none)) = some (r1, r2, r3, r4) := by first | (rw [hji26] at H; exact H) | (simp only [hji26] at H ⊢; exact H)
                                  (try rw [hji26] at c24b0)
                                  (try rw [hji26] at c24b1)
                                  have hji26w : (IntKind.i64.wrap (x1001_3 + 1)) = ji26 := (i64_w _).trans hji26
                                  by_cases c27 : 0 ≤ (ji26)
                                  · rw [if_pos c27] at H
                                    have c27b0 := eq_true c27
                                    have c27b1 : decide (0 ≤ (ji26)) = true := decide_eq_true c27
                                    clear c27
                                    by_cases c28 : (ji26) ≤ (wrap64 ((ji26) + 1))
                                    · rw [if_pos c28] at H
                                      have c28b0 := eq_true c28
                                      have c28b1 : decide ((ji26) ≤ (wrap64 ((ji26) + 1))) = true := decide_eq_true c28
                                      by_cases c29 : (wrap64 ((ji26) + 1)) ≤ (s0_0.size : Int)
                                      · rw [if_pos c29] at H
                                        have c29b0 := eq_true c29
                                        have c29b1 : decide ((wrap64 ((ji26) + 1)) ≤ (s0_0.size : Int)) = true := decide_eq_true c29
                                        by_cases c30 : x4_3.size + (s0_0.extract ((ji26) : Int).toNat ((wrap64 ((ji26) + 1)) : Int).toNat).size ≤ 9223372036854775807
                                        · rw [if_pos c30] at H
                                          have c30b0 := eq_true c30
                                          have c30b1 : decide (x4_3.size + (s0_0.extract ((ji26) : Int).toNat ((wrap64 ((ji26) + 1)) : Int).toNat).size ≤ 9223372036854775807) = true := decide_eq_true c30
                                          try have c30b2 : (9223372036854775807 < x4_3.size + (s0_0.extract ((ji26) : Int).toNat ((wrap64 ((ji26) + 1)) : Int).toNat).size) = False := eq_false (Nat.not_lt.2 c30)
                                          have H' := Aside0.mk H
                                          clear H
                                          obtain ⟨HGz31, hgz31⟩ := HI0.out
                                          have hcz31_0 := cellS38_0 HGz31
                                          have hcz31_1 := cellS38_1 HGz31
                                          have hfz31_0 := blk_frozen HGz31 0
                                          have hfz31_1 := blk_frozen HGz31 1
                                          clear HGz31 hgz31
                                          go_wp2
                                          repeat (go_quiet (fail); try go_wp2)
                                          go_roundg kj18
                                          case measure => have := HJ1.out; have := HJ7.out; have := HK3.out; have := HJ13.out; have := HJ18.out; omega
                                          case rel => exact ⟨(x4_3 ++ (s0_0.extract ((ji26) : Int).toNat ((wrap64 ((ji26) + 1)) : Int).toNat)), (wrap64 ((ji26) + 1)), (by first | rfl | (simp; done) | (simp only [← hji26] <;> (first | rfl | simp)) | (simp [*]; done)), H', ⟨by have := HJ1.out; have := HJ7.out; have := HK3.out; have := HJ13.out; have := HJ18.out; omega⟩, ⟨by repeat (first | (with_reducible first | exact HI0.out | apply IsS38.alloc | apply IsS38.drewN | apply IsS38.drew | apply IsS38.set_0 | apply IsS38.set_1) | exact HI0.out)⟩, ⟨by repeat (first | (with_reducible first | exact HK.out | apply KeepBut.set_ | apply keep_drewN | apply keep_drew | apply keep_alloc) | exact HK.out)⟩, ⟨by repeat (first | (with_reducible first | exact HB.out | apply below_alloc | apply pw_below_drewN | apply below_drew1 | refine below_set ?_ (IsS38.ge HI0.out)) | exact HB.out)⟩⟩
                                        · rw [if_neg c30] at H
                                          exact absurd H (by simp)
                                      · rw [if_neg c29] at H
                                        exact absurd H (by simp)
                                    · rw [if_neg c28] at H
                                      exact absurd H (by simp)
                                  · rw [if_neg c27] at H
                                    exact absurd H (by simp)
                              · rw [if_neg c23] at H
                                have c23b0 : ((bt s0_0 x1001_3) == 92) = false := beq_eq_false_iff_ne.mpr c23
                                have c23b1 : ((bt s0_0 x1001_3) != 92) = true := bne_iff_ne.mpr c23
                                by_cases c32 : 0 ≤ x1001_3
                                · rw [if_pos c32] at H
                                  have c32b0 := eq_true c32
                                  have c32b1 : decide (0 ≤ x1001_3) = true := decide_eq_true c32
                                  clear c32
                                  by_cases c33 : x1001_3 ≤ (wrap64 (x1001_3 + 1))
                                  · rw [if_pos c33] at H
                                    have c33b0 := eq_true c33
                                    have c33b1 : decide (x1001_3 ≤ (wrap64 (x1001_3 + 1))) = true := decide_eq_true c33
                                    by_cases c34 : (wrap64 (x1001_3 + 1)) ≤ (s0_0.size : Int)
                                    · rw [if_pos c34] at H
                                      have c34b0 := eq_true c34
                                      have c34b1 : decide ((wrap64 (x1001_3 + 1)) ≤ (s0_0.size : Int)) = true := decide_eq_true c34
                                      by_cases c35 : x4_3.size + (s0_0.extract (x1001_3 : Int).toNat ((wrap64 (x1001_3 + 1)) : Int).toNat).size ≤ 9223372036854775807
                                      · rw [if_pos c35] at H
                                        have c35b0 := eq_true c35
                                        have c35b1 : decide (x4_3.size + (s0_0.extract (x1001_3 : Int).toNat ((wrap64 (x1001_3 + 1)) : Int).toNat).size ≤ 9223372036854775807) = true := decide_eq_true c35
                                        try have c35b2 : (9223372036854775807 < x4_3.size + (s0_0.extract (x1001_3 : Int).toNat ((wrap64 (x1001_3 + 1)) : Int).toNat).size) = False := eq_false (Nat.not_lt.2 c35)
                                        have H' := Aside0.mk H
                                        clear H
                                        obtain ⟨HGz36, hgz36⟩ := HI0.out
                                        have hcz36_0 := cellS38_0 HGz36
                                        have hcz36_1 := cellS38_1 HGz36
                                        have hfz36_0 := blk_frozen HGz36 0
                                        have hfz36_1 := blk_frozen HGz36 1
                                        clear HGz36 hgz36
                                        go_wp2
                                        repeat (go_quiet (fail); try go_wp2)
                                        go_roundg kj18
                                        case measure => have := HJ1.out; have := HJ7.out; have := HK3.out; have := HJ13.out; have := HJ18.out; omega
                                        case rel => exact ⟨(x4_3 ++ (s0_0.extract (x1001_3 : Int).toNat ((wrap64 (x1001_3 + 1)) : Int).toNat)), (wrap64 (x1001_3 + 1)), (by first | rfl | (simp; done) | (simp [*]; done)), H', ⟨by have := HJ1.out; have := HJ7.out; have := HK3.out; have := HJ13.out; have := HJ18.out; omega⟩, ⟨by repeat (first | (with_reducible first | exact HI0.out | apply IsS38.alloc | apply IsS38.drewN | apply IsS38.drew | apply IsS38.set_0 | apply IsS38.set_1) | exact HI0.out)⟩, ⟨by repeat (first | (with_reducible first | exact HK.out | apply KeepBut.set_ | apply keep_drewN | apply keep_drew | apply keep_alloc) | exact HK.out)⟩, ⟨by repeat (first | (with_reducible first | exact HB.out | apply below_alloc | apply pw_below_drewN | apply below_drew1 | refine below_set ?_ (IsS38.ge HI0.out)) | exact HB.out)⟩⟩
                                      · rw [if_neg c35] at H
                                        exact absurd H (by simp)
                                    · rw [if_neg c34] at H
                                      exact absurd H (by simp)
                                  · rw [if_neg c33] at H
                                    exact absurd H (by simp)
                                · rw [if_neg c32] at H
                                  exact absurd H (by simp)
                · rw [if_neg c12] at H
                  exact absurd H (by simp)
              · rw [if_neg c11] at H
                have c11b0 : decide (x1001_3 < (s0_0.size : Int)) = false := decide_eq_false c11
                clear c11
                simp only [Option.some.injEq, Prod.mk.injEq] at H
                obtain ⟨rfl, rfl, rfl, rfl⟩ := H
                obtain ⟨HGz37, hgz37⟩ := HI0.out
                have hcz37_0 := cellS38_0 HGz37
                have hcz37_1 := cellS38_1 HGz37
                have hfz37_0 := blk_frozen HGz37 0
                have hfz37_1 := blk_frozen HGz37 1
                clear HGz37 hgz37
                go_wp2
                repeat (go_quiet (fail); try go_wp2)
                go_ret2
                exact ⟨by first | rfl | (simp [errW_none, errW_some] <;> rfl) | (simp [*, errW_none, errW_some] <;> rfl), by repeat (first | (with_reducible first | exact HI0.out | apply IsS38.alloc | apply IsS38.drewN | apply IsS38.drew | apply IsS38.set_0 | apply IsS38.set_1) | exact HI0.out), by repeat (first | (with_reducible first | exact HB.out | apply below_alloc | apply pw_below_drewN | apply below_drew1 | refine below_set ?_ (IsS38.ge HI0.out)) | exact HB.out), by repeat (first | (with_reducible first | exact HK.out | apply KeepBut.set_ | apply keep_drewN | apply keep_drew | apply keep_alloc) | exact HK.out)⟩

end Go.Proofs.Ytlhjblbmhlelbaa.P
