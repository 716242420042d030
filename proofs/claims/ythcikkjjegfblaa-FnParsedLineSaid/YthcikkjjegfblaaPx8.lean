-- Written by the program wip/myprint.py of this session, over the kit's print of the translation. Lean checks it.
import Derived.Test.YthcikkjjegfblaaPx0
import Derived.Test.YthcikkjjegfblaaPx1
import Derived.Test.YthcikkjjegfblaaPx5
import Derived.Test.YthcikkjjegfblaaPx6
import Derived.Test.YthcikkjjegfblaaPx7
namespace Go.Proofs.Ythcikkjjegfblaa.P
open Go.RowKit Go.Proofs.YthcikkjjegfblaaW.PrintWords Go.Proofs.YthcikkjjegfblaaW.PrintLast Go.Proofs.YthcikkjjegfblaaW.PrintMore
attribute [local go_sem] max2_int min2_int max_two min_two max_three min_three max_four min_four   -- for this text's walks alone
set_option linter.unusedVariables false
set_option linter.unusedSimpArgs false

/-! ### spec_SameItems: function 11 -/
def sameS (x y : S39) : Bool := (x.f0 == y.f0) && (x.f1.toList == y.f1.toList) && (decide (x.f2 = y.f2)) && (x.f4 == y.f4) && (x.f3 == 0) && (y.f3 == 0)
def sameL : List S39 → List S39 → Bool
  | [], [] => true
  | x :: a, y :: b => sameS x y && sameL a b
  | _, _ => false
def spec_SameItems.f (l0 : List S39) (l1 : List S39) : Option Bool := if sameL l0 l1 = true ∧ l0.length ≤ 1000000 then some true else none
theorem sameL_len : ∀ (a b : List S39), sameL a b = true → a.length = b.length
  | [], [], _ => rfl
  | x :: a, y :: b, h => by
    rw [sameL, Bool.and_eq_true] at h
    rw [List.length_cons, List.length_cons, sameL_len a b h.2]
  | [], _ :: _, h => by cases h
  | _ :: _, [], h => by cases h
theorem sameL_at : ∀ (a b : List S39) (i : Nat), sameL a b = true → i < a.length → sameS (a.getD i z39) (b.getD i z39) = true
  | [], [], i, _, hi => by simp at hi
  | x :: a, y :: b, 0, h, _ => by
    rw [sameL, Bool.and_eq_true] at h
    exact h.1
  | x :: a, y :: b, i + 1, h, hi => by
    rw [sameL, Bool.and_eq_true] at h
    exact sameL_at a b i h.2 (by simpa using hi)
  | [], _ :: _, _, h, _ => by cases h
  | _ :: _, [], _, h, _ => by cases h
theorem run_store_flt {P : Program} {w : World} {a : Addr} {m : Mode} (k : FloatKind) (x : Nat) : (store a (.float k x) m).run P w = stored P w a (.float k x) m := run_store P w a _ m rfl
attribute [local go_sem] run_store_flt
theorem flt_neq : ∀ W : World, (binOp .neq 37 (.float .f64 0) (.float .f64 0)).run Try.prog W = .ok (.bool false) W := fun W => by kernel_rfl
def spec_SameItems.T6 : Bool × List (List Nat × List Nat) := (true, [([], []), ([], []), ([0, 1], [0, 1]), ([2], [2]), ([], []), ([], []), ([4, 5], [4, 5]), ([6], [6]), ([], []), ([], []), ([8, 3, 0, 1, 2, 3, 8, 9], [3, 8]), ([9, 7, 10, 0, 1, 2, 3, 4, 5, 6, 7, 8, 9, 10], [7, 9])])
def spec_SameItems.B6 : List Nat := [0, 0, 3, 7, 0, 0, 48, 112, 0, 0, 783, 2047]
theorem spec_SameItems.tab6 : rtab .any (opsOf Try.f11 6) = spec_SameItems.T6 := by kernel_rfl
theorem spec_SameItems.bits6 : waitsOk spec_SameItems.T6.2 spec_SameItems.B6 = true := by kernel_rfl
set_option maxHeartbeats 8000000 in
set_option maxRecDepth 100000 in
theorem spec_SameItems.calls (A0 : Option Addr) (c0 : Nat) (l0 : List (S39)) (A1 : Option Addr) (c1 : Nat) (l1 : List (S39)) (r : Bool) (w : World) (hr0 : Kd.C k39 w A0 l0.length l0) (hc0 : l0.length ≤ c0) (hr1 : Kd.C k39 w A1 l1.length l1) (hc1 : l1.length ≤ c1) (h : spec_SameItems.f l0 l1 = some r) :
    Calls Try.prog 11 #[.slice A0 l0.length c0, .slice A1 l1.length c1] w fun e w' => e = .returned (.bool r) ∧ Below w.heap.size w w' := by
  unfold spec_SameItems.f at h
  split at h
  case isFalse => cases h
  rename_i hcnd
  injection h with h
  subst h
  obtain ⟨hsame, hlim⟩ := hcnd
  have hlen := sameL_len l0 l1 hsame
  have hu39 := Try.underlying39
  have HR0 := Aside0.mk hr0
  have HC0 := Aside0.mk hc0
  clear hr0 hc0
  have HR1 := Aside0.mk hr1
  have HC1 := Aside0.mk hc1
  clear hr1 hc1
  have HB := Aside0.mk (Below.refl w.heap.size w)
  have c3 : (l0.length : Int) = (l1.length : Int) := by omega
  have c3b0 : ((l0.length : Int) == (l1.length : Int)) = true := beq_iff_eq.mpr c3
  have c3b1 : ((l0.length : Int) != (l1.length : Int)) = false := bne_eq_false_iff_eq.mpr c3
  have c3b2 : (l0.length == l1.length) = true := by simpa using hlen
  have HSAME := Aside0.mk hsame
  have HLEN := Aside0.mk hlen
  have HLIM := Aside0.mk hlim
  clear c3 hsame hlen hlim
  go_enter Try.func11, Try.ntmps11
  go_wp2
  go_loopg [5] (l0.length + 1) (fun kq v5 w' => ∃ (x5_1 : Int), v5 = .int .i64 x5_1 ∧ Aside0 ((kq : Int) + x5_1 ≥ l0.length + 1) ∧ Aside0 (0 ≤ x5_1 ∧ x5_1 ≤ l0.length) ∧ Aside0 (Below w.heap.size w w'))
  case atStart => exact ⟨(0), (by first | rfl | (simp; done)), ⟨by omega⟩, ⟨by omega⟩, HB⟩
  case round =>
    clear HB c3b0 c3b1 c3b2
    obtain ⟨x5_1, rfl, HK1, HX5, HB⟩ := hrel
    by_cases c4 : x5_1 < (l0.length : Int)
    · have c4b0 : decide (x5_1 < (l0.length : Int)) = true := decide_eq_true c4
      have c5b0 : decide (0 ≤ x5_1) = true := decide_eq_true HX5.out.1
      have c6b0 : decide (x5_1 < (l1.length : Int)) = true := decide_eq_true (by have := HLEN.out; omega)
      have hs := sameL_at l0 l1 x5_1.toNat HSAME.out (by have := HX5.out; omega)
      have hs : sameS (rd_T39 l0 x5_1) (rd_T39 l1 x5_1) = true := hs
      simp only [sameS, Bool.and_eq_true, beq_iff_eq, decide_eq_true_eq] at hs
      obtain ⟨⟨⟨⟨⟨q0, q1⟩, q2⟩, q4⟩, q3⟩, q3'⟩ := hs
      have hx1 : wrap64 (x5_1 + 1) = x5_1 + 1 := by have := HLIM.out; have := HX5.out; unfold wrap64; omega
      have c7b0 : (((rd_T39 l0 x5_1).f0) != ((rd_T39 l1 x5_1).f0)) = false := by simp [q0]
      have c25b0 : ((((rd_T39 l0 x5_1).f1).toList) != (((rd_T39 l1 x5_1).f1).toList)) = false := by simp [q1]
      have c25b1 : ((((rd_T39 l0 x5_1).f1).toList) == (((rd_T39 l1 x5_1).f1).toList)) = true := by simp [q1]
      have c26b0 : (((rd_T39 l0 x5_1).f2) != ((rd_T39 l1 x5_1).f2)) = false := by simp [q2]
      have c26b1 : (((rd_T39 l0 x5_1).f2) == ((rd_T39 l1 x5_1).f2)) = true := by simp [q2]
      have c27b0 : (((rd_T39 l0 x5_1).f4) != ((rd_T39 l1 x5_1).f4)) = false := by simp [q4]
      have c7b1 : decide (((rd_T39 l0 x5_1).f0) = ((rd_T39 l1 x5_1).f0)) = true := decide_eq_true q0
      have c7b2 : (((rd_T39 l0 x5_1).f0) == ((rd_T39 l1 x5_1).f0)) = true := by simp [q0]
      have c7b3 : (((rd_T39 l0 x5_1).f0) = ((rd_T39 l1 x5_1).f0)) = True := eq_true q0
      have c27b1 : decide (((rd_T39 l0 x5_1).f4) = ((rd_T39 l1 x5_1).f4)) = true := decide_eq_true q4
      have c27b2 : (((rd_T39 l0 x5_1).f4) == ((rd_T39 l1 x5_1).f4)) = true := by simp [q4]
      have c27b3 : (((rd_T39 l0 x5_1).f4) = ((rd_T39 l1 x5_1).f4)) = True := eq_true q4
      have HC4 := Aside0.mk c4
      have HX1 := Aside0.mk hx1
      have Q3 := Aside0.mk q3
      have Q3' := Aside0.mk q3'
      clear c4 hx1 q0 q1 q2 q4 q3 q3'
      try go_wp2
      have n0_ := Aside0.mk (below_drew1 HB.out)
      clear HB
      have HB := n0_
      clear n0_
      have p104 : 0 ≤ (x5_1 : Int) := of_decide_eq_true (by first | (with_reducible assumption) | assumption)
      have q104 : x5_1 < (l0.length : Int) := of_decide_eq_true (by first | (with_reducible assumption) | assumption)
      obtain ⟨ad104, e104, hx104_0, hx104_1, hx104_2, hx104_3, hx104_4⟩ := at_T39 HR0.out x5_1 p104 q104
      have hw104_4 := hx104_4
      have hw104_3 := hx104_3
      have hw104_2 := hx104_2
      have hw104_1 := hx104_1
      have hw104_0 := hx104_0
      cases e104
      replace hx104_0 := (HB.out.cell (World.block_lt_of_cell? w _ hx104_0)).trans hx104_0
      replace hx104_1 := (HB.out.cell (World.block_lt_of_cell? w _ hx104_1)).trans hx104_1
      replace hx104_2 := (HB.out.cell (World.block_lt_of_cell? w _ hx104_2)).trans hx104_2
      replace hx104_3 := (HB.out.cell (World.block_lt_of_cell? w _ hx104_3)).trans hx104_3
      replace hx104_4 := (HB.out.cell (World.block_lt_of_cell? w _ hx104_4)).trans hx104_4
      replace p104 := eq_true p104
      replace q104 := eq_true q104
      have p105 : 0 ≤ (x5_1 : Int) := of_decide_eq_true (by first | (with_reducible assumption) | assumption)
      have q105 : x5_1 < (l1.length : Int) := of_decide_eq_true (by first | (with_reducible assumption) | assumption)
      obtain ⟨ad105, e105, hx105_0, hx105_1, hx105_2, hx105_3, hx105_4⟩ := at_T39 HR1.out x5_1 p105 q105
      have hw105_4 := hx105_4
      have hw105_3 := hx105_3
      have hw105_2 := hx105_2
      have hw105_1 := hx105_1
      have hw105_0 := hx105_0
      cases e105
      replace hx105_0 := (HB.out.cell (World.block_lt_of_cell? w _ hx105_0)).trans hx105_0
      replace hx105_1 := (HB.out.cell (World.block_lt_of_cell? w _ hx105_1)).trans hx105_1
      replace hx105_2 := (HB.out.cell (World.block_lt_of_cell? w _ hx105_2)).trans hx105_2
      replace hx105_3 := (HB.out.cell (World.block_lt_of_cell? w _ hx105_3)).trans hx105_3
      replace hx105_4 := (HB.out.cell (World.block_lt_of_cell? w _ hx105_4)).trans hx105_4
      replace p105 := eq_true p105
      replace q105 := eq_true q105
      refine start_ (n := 12) (S := fun w' => w'.cell? (ad104.add ((x5_1).toNat * 5)) = some (.bool ((rd_T39 l0 x5_1).f0)) ∧ w'.cell? ⟨(ad104.add ((x5_1).toNat * 5)).block, (ad104.add ((x5_1).toNat * 5)).off + 1, none⟩ = some (.string ((rd_T39 l0 x5_1).f1)) ∧ w'.cell? ⟨(ad104.add ((x5_1).toNat * 5)).block, (ad104.add ((x5_1).toNat * 5)).off + 2, none⟩ = some (.int .i64 ((rd_T39 l0 x5_1).f2)) ∧ w'.cell? ⟨(ad104.add ((x5_1).toNat * 5)).block, (ad104.add ((x5_1).toNat * 5)).off + 3, none⟩ = some (.float .f64 ((rd_T39 l0 x5_1).f3)) ∧ w'.cell? ⟨(ad104.add ((x5_1).toNat * 5)).block, (ad104.add ((x5_1).toNat * 5)).off + 4, none⟩ = some (.bool ((rd_T39 l0 x5_1).f4)) ∧ w'.cell? (ad105.add ((x5_1).toNat * 5)) = some (.bool ((rd_T39 l1 x5_1).f0)) ∧ w'.cell? ⟨(ad105.add ((x5_1).toNat * 5)).block, (ad105.add ((x5_1).toNat * 5)).off + 1, none⟩ = some (.string ((rd_T39 l1 x5_1).f1)) ∧ w'.cell? ⟨(ad105.add ((x5_1).toNat * 5)).block, (ad105.add ((x5_1).toNat * 5)).off + 2, none⟩ = some (.int .i64 ((rd_T39 l1 x5_1).f2)) ∧ w'.cell? ⟨(ad105.add ((x5_1).toNat * 5)).block, (ad105.add ((x5_1).toNat * 5)).off + 3, none⟩ = some (.float .f64 ((rd_T39 l1 x5_1).f3)) ∧ w'.cell? ⟨(ad105.add ((x5_1).toNat * 5)).block, (ad105.add ((x5_1).toNat * 5)).off + 4, none⟩ = some (.bool ((rd_T39 l1 x5_1).f4))) (ds := []) #[false, false, false, false, false, false, false, false, false, false, false, false] (by kernel_rfl) rfl rfl ⟨((HB.out.cell (World.block_lt_of_cell? w _ hw104_0)).trans hw104_0), ((HB.out.cell (World.block_lt_of_cell? w _ hw104_1)).trans hw104_1), ((HB.out.cell (World.block_lt_of_cell? w _ hw104_2)).trans hw104_2), ((HB.out.cell (World.block_lt_of_cell? w _ hw104_3)).trans hw104_3), ((HB.out.cell (World.block_lt_of_cell? w _ hw104_4)).trans hw104_4), ((HB.out.cell (World.block_lt_of_cell? w _ hw105_0)).trans hw105_0), ((HB.out.cell (World.block_lt_of_cell? w _ hw105_1)).trans hw105_1), ((HB.out.cell (World.block_lt_of_cell? w _ hw105_2)).trans hw105_2), ((HB.out.cell (World.block_lt_of_cell? w _ hw105_3)).trans hw105_3), ((HB.out.cell (World.block_lt_of_cell? w _ hw105_4)).trans hw105_4)⟩ (fun hHeld => ?_); refine with_tabW spec_SameItems.tab6 spec_SameItems.bits6 (fun HT_ HW_ => ?_)
      generalize wr.drew = w28 at HB hx104_0 hx104_1 hx104_2 hx104_3 hx104_4 hx105_0 hx105_1 hx105_2 hx105_3 hx105_4 hHeld ⊢
      refine pure_ (i := 0) (N := some 19) (v := ?_) (a' := ?_) #[true, false, false, false, false, false, false, false, false, false, false, false] rfl rfl (any_of HT_.out (by kernel_rfl)) (fun _ _ _ h => h) (Or.inl ⟨by rfl, ?_⟩) ?_ ?_
      rotate_left
      · intro w'
        go_simp
        with_reducible rfl
      rotate_left
      · simp only [Act.put, List.setIfInBounds_toArray, List.set_cons_zero, List.set_cons_succ, i64_w, i32_w]
        rfl
      refine pure_ (i := 1) (N := some 20) (v := ?_) (a' := ?_) #[true, true, false, false, false, false, false, false, false, false, false, false] rfl rfl (any_of HT_.out (by kernel_rfl)) (fun _ _ _ h => h) (Or.inl ⟨by rfl, ?_⟩) ?_ ?_
      rotate_left
      · intro w'
        go_simp
        with_reducible rfl
      rotate_left
      · simp only [Act.put, List.setIfInBounds_toArray, List.set_cons_zero, List.set_cons_succ, i64_w, i32_w]
        rfl
      refine pure_ (i := 2) (N := some 21) (v := ?_) (a' := ?_) #[true, true, true, false, false, false, false, false, false, false, false, false] rfl rfl (any_of HT_.out (by kernel_rfl)) (fun _ _ _ h => h) (Or.inl ⟨by rfl, ?_⟩) ?_ ?_
      rotate_left
      · intro w'
        go_simp
        with_reducible rfl
      rotate_left
      · simp only [Act.put, List.setIfInBounds_toArray, List.set_cons_zero, List.set_cons_succ, i64_w, i32_w]
        rfl
      refine pure_ (i := 4) (N := some 23) (v := ?_) (a' := ?_) #[true, true, true, false, true, false, false, false, false, false, false, false] rfl rfl (any_of HT_.out (by kernel_rfl)) (fun _ _ _ h => h) (Or.inl ⟨by rfl, ?_⟩) ?_ ?_
      rotate_left
      · intro w'
        go_simp
        with_reducible rfl
      rotate_left
      · simp only [Act.put, List.setIfInBounds_toArray, List.set_cons_zero, List.set_cons_succ, i64_w, i32_w]
        rfl
      refine pure_ (i := 5) (N := some 24) (v := ?_) (a' := ?_) #[true, true, true, false, true, true, false, false, false, false, false, false] rfl rfl (any_of HT_.out (by kernel_rfl)) (fun _ _ _ h => h) (Or.inl ⟨by rfl, ?_⟩) ?_ ?_
      rotate_left
      · intro w'
        go_simp
        with_reducible rfl
      rotate_left
      · simp only [Act.put, List.setIfInBounds_toArray, List.set_cons_zero, List.set_cons_succ, i64_w, i32_w]
        rfl
      refine pure_ (i := 6) (N := some 25) (v := ?_) (a' := ?_) #[true, true, true, false, true, true, true, false, false, false, false, false] rfl rfl (any_of HT_.out (by kernel_rfl)) (fun _ _ _ h => h) (Or.inl ⟨by rfl, ?_⟩) ?_ ?_
      rotate_left
      · intro w'
        go_simp
        with_reducible rfl
      rotate_left
      · simp only [Act.put, List.setIfInBounds_toArray, List.set_cons_zero, List.set_cons_succ, i64_w, i32_w]
        rfl
      refine take_ (i := 3) (N := some 22) (v := ?_) (a' := ?_) #[true, true, true, true, true, true, true, false, false, false, false, false] rfl rfl (take_ofW HT_.out HW_.out (by kernel_rfl)) (fun _ _ _ h => h) (Or.inl ⟨by rfl, ?_⟩) hHeld ?_ ?_
      rotate_left
      · rintro w' ⟨s0, s1, s2, s3, s4, s5, s6, s7, s8, s9⟩
        go_simp
        with_reducible rfl
      rotate_left
      · simp only [Act.put, List.setIfInBounds_toArray, List.set_cons_zero, List.set_cons_succ, i64_w, i32_w]
        rfl
      refine take_ (i := 7) (N := some 26) (v := ?_) (a' := ?_) #[true, true, true, true, true, true, true, true, false, false, false, false] rfl rfl (take_ofW HT_.out HW_.out (by kernel_rfl)) (fun _ _ _ h => h) (Or.inl ⟨by rfl, ?_⟩) hHeld ?_ ?_
      rotate_left
      · rintro w' ⟨s0, s1, s2, s3, s4, s5, s6, s7, s8, s9⟩
        go_simp
        with_reducible rfl
      rotate_left
      · simp only [Act.put, List.setIfInBounds_toArray, List.set_cons_zero, List.set_cons_succ, i64_w, i32_w]
        rfl
      refine join_ (σ := Nat × Nat) 2 #[true, true, true, true, true, true, true, true, true, true, false, false] (fun s_ => [(6, .pointer (some ⟨s_.1, 0, none⟩)), (7, .pointer (some ⟨s_.2, 0, none⟩))]) (fun s_ w' => (w'.cell? (ad104.add ((x5_1).toNat * 5)) = some (.bool ((rd_T39 l0 x5_1).f0)) ∧ w'.cell? ⟨(ad104.add ((x5_1).toNat * 5)).block, (ad104.add ((x5_1).toNat * 5)).off + 1, none⟩ = some (.string ((rd_T39 l0 x5_1).f1)) ∧ w'.cell? ⟨(ad104.add ((x5_1).toNat * 5)).block, (ad104.add ((x5_1).toNat * 5)).off + 2, none⟩ = some (.int .i64 ((rd_T39 l0 x5_1).f2)) ∧ w'.cell? ⟨(ad104.add ((x5_1).toNat * 5)).block, (ad104.add ((x5_1).toNat * 5)).off + 3, none⟩ = some (.float .f64 ((rd_T39 l0 x5_1).f3)) ∧ w'.cell? ⟨(ad104.add ((x5_1).toNat * 5)).block, (ad104.add ((x5_1).toNat * 5)).off + 4, none⟩ = some (.bool ((rd_T39 l0 x5_1).f4)) ∧ w'.cell? (ad105.add ((x5_1).toNat * 5)) = some (.bool ((rd_T39 l1 x5_1).f0)) ∧ w'.cell? ⟨(ad105.add ((x5_1).toNat * 5)).block, (ad105.add ((x5_1).toNat * 5)).off + 1, none⟩ = some (.string ((rd_T39 l1 x5_1).f1)) ∧ w'.cell? ⟨(ad105.add ((x5_1).toNat * 5)).block, (ad105.add ((x5_1).toNat * 5)).off + 2, none⟩ = some (.int .i64 ((rd_T39 l1 x5_1).f2)) ∧ w'.cell? ⟨(ad105.add ((x5_1).toNat * 5)).block, (ad105.add ((x5_1).toNat * 5)).off + 3, none⟩ = some (.float .f64 ((rd_T39 l1 x5_1).f3)) ∧ w'.cell? ⟨(ad105.add ((x5_1).toNat * 5)).block, (ad105.add ((x5_1).toNat * 5)).off + 4, none⟩ = some (.bool ((rd_T39 l1 x5_1).f4))) ∧ (w'.heap[s_.1]? = some (.cells #[.bool false, .string (⟨#[]⟩ : ByteArray), .int .i64 0, .float .f64 0, .bool false] 39 (0, 0))) ∧ (w'.heap[s_.2]? = some (.cells #[.bool false, .string (⟨#[]⟩ : ByteArray), .int .i64 0, .float .f64 0, .bool false] 39 (0, 0))) ∧ (w.heap.size ≤ s_.1) ∧ (w.heap.size ≤ s_.1) ∧ (s_.2 ≠ s_.1) ∧ (s_.1 ≠ s_.2) ∧ (w.heap.size ≤ s_.2) ∧ (w.heap.size ≤ s_.2) ∧ (Below w.heap.size w w')) ?_ ?_
      rotate_left
      · intro hCont
        refine two_ (i := 8) (j := 9) (Ni := some 6) (Nj := some 7) #[true, true, true, true, true, true, true, true, true, false, false, false] #[true, true, true, true, true, true, true, true, false, true, false, false] rfl rfl rfl rfl (two_of HT_.out (by kernel_rfl)) (by decide) (by decide) (fun K hK => ?_) (fun K hK => ?_)
        · skip
          refine box_step ?hg (N := 6) ?hd (cs := #[.bool false, .string (⟨#[]⟩ : ByteArray), .int .i64 0, .float .f64 0, .bool false]) (t := 39) ?hr ?_; (case hd => rfl); (case hg => rfl); (case hr => first | (go_simp; done) | (go_simp; rfl) | (go_simp; simp [IntKind.wrap_u8]; done))
          intro gb106 hg w29 hbox hb
          have n0_ := Aside0.mk (below_step (by repeat (first | (with_reducible first | exact HB.out | apply below_alloc | apply pw_below_drewN | apply below_drew1) | exact HB.out)) hb)
          have n1_ := Aside0.mk (hbox)
          have n2_ := Aside0.mk ((by rw [hg]; exact (below_size (by repeat (first | (with_reducible first | exact HB.out | apply below_alloc | apply pw_below_drewN | apply below_drew1) | exact HB.out))) : w.heap.size ≤ gb106))
          have n3_ := Aside0.mk ((by rw [hg]; exact (below_size (by repeat (first | (with_reducible first | exact HB.out | apply below_alloc | apply pw_below_drewN | apply below_drew1) | exact HB.out))) : w.heap.size ≤ gb106))
          clear HB
          have HB := n0_
          have BK106 := n1_
          have GW106 := n2_
          have GE106 := n3_
          clear n0_ n1_ n2_ n3_
          clear hb hbox hg
          refine hK.out _ _ ⟨((HB.out.cell (World.block_lt_of_cell? w _ hw104_0)).trans hw104_0), ((HB.out.cell (World.block_lt_of_cell? w _ hw104_1)).trans hw104_1), ((HB.out.cell (World.block_lt_of_cell? w _ hw104_2)).trans hw104_2), ((HB.out.cell (World.block_lt_of_cell? w _ hw104_3)).trans hw104_3), ((HB.out.cell (World.block_lt_of_cell? w _ hw104_4)).trans hw104_4), ((HB.out.cell (World.block_lt_of_cell? w _ hw105_0)).trans hw105_0), ((HB.out.cell (World.block_lt_of_cell? w _ hw105_1)).trans hw105_1), ((HB.out.cell (World.block_lt_of_cell? w _ hw105_2)).trans hw105_2), ((HB.out.cell (World.block_lt_of_cell? w _ hw105_3)).trans hw105_3), ((HB.out.cell (World.block_lt_of_cell? w _ hw105_4)).trans hw105_4)⟩ (fun hHeld => ?_)
          clear hK K
          refine norm_ (a' := ?_) ?_ ?_
          rotate_left
          · show Act.put _ (some 6) _ = _
            simp only [Act.put, List.setIfInBounds_toArray, List.set_cons_zero, List.set_cons_succ, i64_w, i32_w]
            rfl
          refine one_ (i := 9) (N := some 7) #[true, true, true, true, true, true, true, true, true, true, false, false] rfl rfl (one_of HT_.out (by kernel_rfl)) (by decide) (fun K hK => ?_)
          refine box_step ?hg (N := 7) ?hd (cs := #[.bool false, .string (⟨#[]⟩ : ByteArray), .int .i64 0, .float .f64 0, .bool false]) (t := 39) ?hr ?_; (case hd => rfl); (case hg => rfl); (case hr => first | (go_simp; done) | (go_simp; rfl) | (go_simp; simp [IntKind.wrap_u8]; done))
          intro gb107 hg w30 hbox hb
          have n0_ := Aside0.mk (blk_below (g := gb106) (o := .cells #[.bool false, .string (⟨#[]⟩ : ByteArray), .int .i64 0, .float .f64 0, .bool false] 39 (0, 0)) (by (with_reducible repeat (first | refine blk_drewN ?_ _ | refine blk_drew ?_ | refine blk_alloc ?_ _)); exact BK106.out) hb)
          have n1_ := Aside0.mk (below_step (by repeat (first | (with_reducible first | exact HB.out | apply below_alloc | apply pw_below_drewN | apply below_drew1 | refine below_set ?_ GE106.out) | exact HB.out)) hb)
          have n2_ := Aside0.mk (hbox)
          have n3_ := Aside0.mk ((by rw [hg]; exact (below_size (by repeat (first | (with_reducible first | exact HB.out | apply below_alloc | apply pw_below_drewN | apply below_drew1 | refine below_set ?_ GE106.out) | exact HB.out))) : w.heap.size ≤ gb107))
          have n4_ := Aside0.mk ((by rw [hg]; exact (below_size (by repeat (first | (with_reducible first | exact HB.out | apply below_alloc | apply pw_below_drewN | apply below_drew1 | refine below_set ?_ GE106.out) | exact HB.out))) : w.heap.size ≤ gb107))
          have n5_ := Aside0.mk ((by rw [hg]; exact Nat.ne_of_lt (blk_lt (g := gb106) (o := .cells #[.bool false, .string (⟨#[]⟩ : ByteArray), .int .i64 0, .float .f64 0, .bool false] 39 (0, 0)) (by (with_reducible repeat (first | refine blk_drewN ?_ _ | refine blk_drew ?_ | refine blk_alloc ?_ _)); exact BK106.out)) : gb106 ≠ gb107))
          have n6_ := Aside0.mk ((by rw [hg]; exact Nat.ne_of_gt (blk_lt (g := gb106) (o := .cells #[.bool false, .string (⟨#[]⟩ : ByteArray), .int .i64 0, .float .f64 0, .bool false] 39 (0, 0)) (by (with_reducible repeat (first | refine blk_drewN ?_ _ | refine blk_drew ?_ | refine blk_alloc ?_ _)); exact BK106.out)) : gb107 ≠ gb106))
          clear BK106
          clear HB
          have BK106 := n0_
          have HB := n1_
          have BK107 := n2_
          have GW107 := n3_
          have GE107 := n4_
          have NB106_107 := n5_
          have NB107_106 := n6_
          clear n0_ n1_ n2_ n3_ n4_ n5_ n6_
          clear hb hbox hg
          refine hK.out _ _ ⟨((HB.out.cell (World.block_lt_of_cell? w _ hw104_0)).trans hw104_0), ((HB.out.cell (World.block_lt_of_cell? w _ hw104_1)).trans hw104_1), ((HB.out.cell (World.block_lt_of_cell? w _ hw104_2)).trans hw104_2), ((HB.out.cell (World.block_lt_of_cell? w _ hw104_3)).trans hw104_3), ((HB.out.cell (World.block_lt_of_cell? w _ hw104_4)).trans hw104_4), ((HB.out.cell (World.block_lt_of_cell? w _ hw105_0)).trans hw105_0), ((HB.out.cell (World.block_lt_of_cell? w _ hw105_1)).trans hw105_1), ((HB.out.cell (World.block_lt_of_cell? w _ hw105_2)).trans hw105_2), ((HB.out.cell (World.block_lt_of_cell? w _ hw105_3)).trans hw105_3), ((HB.out.cell (World.block_lt_of_cell? w _ hw105_4)).trans hw105_4)⟩ (fun hHeld => ?_)
          clear hK K
          refine norm_ (a' := ?_) ?_ ?_
          rotate_left
          · show Act.put _ (some 7) _ = _
            simp only [Act.put, List.setIfInBounds_toArray, List.set_cons_zero, List.set_cons_succ, i64_w, i32_w]
            rfl
          exact norm_ (by simp only [putAll, Act.put, List.setIfInBounds_toArray, List.set_cons_zero, List.set_cons_succ]) (hCont (gb106, gb107) _ ⟨hHeld, (by (with_reducible repeat (first | refine blk_drewN ?_ _ | refine blk_drew ?_ | refine blk_alloc ?_ _)); exact BK106.out), (by (with_reducible repeat (first | refine blk_drewN ?_ _ | refine blk_drew ?_ | refine blk_alloc ?_ _)); exact BK107.out), GW106.out, GE106.out, NB107_106.out, NB106_107.out, GW107.out, GE107.out, (by repeat (first | (with_reducible first | exact HB.out | apply below_alloc | apply pw_below_drewN | apply below_drew1 | refine below_set ?_ GE106.out | refine below_set ?_ GE107.out) | exact HB.out))⟩)
        · skip
          refine box_step ?hg (N := 7) ?hd (cs := #[.bool false, .string (⟨#[]⟩ : ByteArray), .int .i64 0, .float .f64 0, .bool false]) (t := 39) ?hr ?_; (case hd => rfl); (case hg => rfl); (case hr => first | (go_simp; done) | (go_simp; rfl) | (go_simp; simp [IntKind.wrap_u8]; done))
          intro gb107 hg w29 hbox hb
          have n0_ := Aside0.mk (below_step (by repeat (first | (with_reducible first | exact HB.out | apply below_alloc | apply pw_below_drewN | apply below_drew1) | exact HB.out)) hb)
          have n1_ := Aside0.mk (hbox)
          have n2_ := Aside0.mk ((by rw [hg]; exact (below_size (by repeat (first | (with_reducible first | exact HB.out | apply below_alloc | apply pw_below_drewN | apply below_drew1) | exact HB.out))) : w.heap.size ≤ gb107))
          have n3_ := Aside0.mk ((by rw [hg]; exact (below_size (by repeat (first | (with_reducible first | exact HB.out | apply below_alloc | apply pw_below_drewN | apply below_drew1) | exact HB.out))) : w.heap.size ≤ gb107))
          clear HB
          have HB := n0_
          have BK107 := n1_
          have GW107 := n2_
          have GE107 := n3_
          clear n0_ n1_ n2_ n3_
          clear hb hbox hg
          refine hK.out _ _ ⟨((HB.out.cell (World.block_lt_of_cell? w _ hw104_0)).trans hw104_0), ((HB.out.cell (World.block_lt_of_cell? w _ hw104_1)).trans hw104_1), ((HB.out.cell (World.block_lt_of_cell? w _ hw104_2)).trans hw104_2), ((HB.out.cell (World.block_lt_of_cell? w _ hw104_3)).trans hw104_3), ((HB.out.cell (World.block_lt_of_cell? w _ hw104_4)).trans hw104_4), ((HB.out.cell (World.block_lt_of_cell? w _ hw105_0)).trans hw105_0), ((HB.out.cell (World.block_lt_of_cell? w _ hw105_1)).trans hw105_1), ((HB.out.cell (World.block_lt_of_cell? w _ hw105_2)).trans hw105_2), ((HB.out.cell (World.block_lt_of_cell? w _ hw105_3)).trans hw105_3), ((HB.out.cell (World.block_lt_of_cell? w _ hw105_4)).trans hw105_4)⟩ (fun hHeld => ?_)
          clear hK K
          refine norm_ (a' := ?_) ?_ ?_
          rotate_left
          · show Act.put _ (some 7) _ = _
            simp only [Act.put, List.setIfInBounds_toArray, List.set_cons_zero, List.set_cons_succ, i64_w, i32_w]
            rfl
          refine one_ (i := 8) (N := some 6) #[true, true, true, true, true, true, true, true, true, true, false, false] rfl rfl (one_of HT_.out (by kernel_rfl)) (by decide) (fun K hK => ?_)
          refine box_step ?hg (N := 6) ?hd (cs := #[.bool false, .string (⟨#[]⟩ : ByteArray), .int .i64 0, .float .f64 0, .bool false]) (t := 39) ?hr ?_; (case hd => rfl); (case hg => rfl); (case hr => first | (go_simp; done) | (go_simp; rfl) | (go_simp; simp [IntKind.wrap_u8]; done))
          intro gb106 hg w30 hbox hb
          have n0_ := Aside0.mk (blk_below (g := gb107) (o := .cells #[.bool false, .string (⟨#[]⟩ : ByteArray), .int .i64 0, .float .f64 0, .bool false] 39 (0, 0)) (by (with_reducible repeat (first | refine blk_drewN ?_ _ | refine blk_drew ?_ | refine blk_alloc ?_ _)); exact BK107.out) hb)
          have n1_ := Aside0.mk (below_step (by repeat (first | (with_reducible first | exact HB.out | apply below_alloc | apply pw_below_drewN | apply below_drew1 | refine below_set ?_ GE107.out) | exact HB.out)) hb)
          have n2_ := Aside0.mk (hbox)
          have n3_ := Aside0.mk ((by rw [hg]; exact (below_size (by repeat (first | (with_reducible first | exact HB.out | apply below_alloc | apply pw_below_drewN | apply below_drew1 | refine below_set ?_ GE107.out) | exact HB.out))) : w.heap.size ≤ gb106))
          have n4_ := Aside0.mk ((by rw [hg]; exact (below_size (by repeat (first | (with_reducible first | exact HB.out | apply below_alloc | apply pw_below_drewN | apply below_drew1 | refine below_set ?_ GE107.out) | exact HB.out))) : w.heap.size ≤ gb106))
          have n5_ := Aside0.mk ((by rw [hg]; exact Nat.ne_of_lt (blk_lt (g := gb107) (o := .cells #[.bool false, .string (⟨#[]⟩ : ByteArray), .int .i64 0, .float .f64 0, .bool false] 39 (0, 0)) (by (with_reducible repeat (first | refine blk_drewN ?_ _ | refine blk_drew ?_ | refine blk_alloc ?_ _)); exact BK107.out)) : gb107 ≠ gb106))
          have n6_ := Aside0.mk ((by rw [hg]; exact Nat.ne_of_gt (blk_lt (g := gb107) (o := .cells #[.bool false, .string (⟨#[]⟩ : ByteArray), .int .i64 0, .float .f64 0, .bool false] 39 (0, 0)) (by (with_reducible repeat (first | refine blk_drewN ?_ _ | refine blk_drew ?_ | refine blk_alloc ?_ _)); exact BK107.out)) : gb106 ≠ gb107))
          clear BK107
          clear HB
          have BK107 := n0_
          have HB := n1_
          have BK106 := n2_
          have GW106 := n3_
          have GE106 := n4_
          have NB107_106 := n5_
          have NB106_107 := n6_
          clear n0_ n1_ n2_ n3_ n4_ n5_ n6_
          clear hb hbox hg
          refine hK.out _ _ ⟨((HB.out.cell (World.block_lt_of_cell? w _ hw104_0)).trans hw104_0), ((HB.out.cell (World.block_lt_of_cell? w _ hw104_1)).trans hw104_1), ((HB.out.cell (World.block_lt_of_cell? w _ hw104_2)).trans hw104_2), ((HB.out.cell (World.block_lt_of_cell? w _ hw104_3)).trans hw104_3), ((HB.out.cell (World.block_lt_of_cell? w _ hw104_4)).trans hw104_4), ((HB.out.cell (World.block_lt_of_cell? w _ hw105_0)).trans hw105_0), ((HB.out.cell (World.block_lt_of_cell? w _ hw105_1)).trans hw105_1), ((HB.out.cell (World.block_lt_of_cell? w _ hw105_2)).trans hw105_2), ((HB.out.cell (World.block_lt_of_cell? w _ hw105_3)).trans hw105_3), ((HB.out.cell (World.block_lt_of_cell? w _ hw105_4)).trans hw105_4)⟩ (fun hHeld => ?_)
          clear hK K
          refine norm_ (a' := ?_) ?_ ?_
          rotate_left
          · show Act.put _ (some 6) _ = _
            simp only [Act.put, List.setIfInBounds_toArray, List.set_cons_zero, List.set_cons_succ, i64_w, i32_w]
            rfl
          exact norm_ (by simp only [putAll, Act.put, List.setIfInBounds_toArray, List.set_cons_zero, List.set_cons_succ]) (hCont (gb106, gb107) _ ⟨hHeld, (by (with_reducible repeat (first | refine blk_drewN ?_ _ | refine blk_drew ?_ | refine blk_alloc ?_ _)); exact BK106.out), (by (with_reducible repeat (first | refine blk_drewN ?_ _ | refine blk_drew ?_ | refine blk_alloc ?_ _)); exact BK107.out), GW106.out, GE106.out, NB107_106.out, NB106_107.out, GW107.out, GE107.out, (by repeat (first | (with_reducible first | exact HB.out | apply below_alloc | apply pw_below_drewN | apply below_drew1 | refine below_set ?_ GE107.out | refine below_set ?_ GE106.out) | exact HB.out))⟩)
      rintro ⟨gb106, gb107⟩ w31 ⟨hS_, h0_, h1_, h2_, h3_, h4_, h5_, h6_, h7_, h8_⟩
      have n0_ : Aside0 (w31.heap[gb106]? = some (.cells #[.bool false, .string (⟨#[]⟩ : ByteArray), .int .i64 0, .float .f64 0, .bool false] 39 (0, 0))) := ⟨h0_⟩
      have n1_ : Aside0 (w31.heap[gb107]? = some (.cells #[.bool false, .string (⟨#[]⟩ : ByteArray), .int .i64 0, .float .f64 0, .bool false] 39 (0, 0))) := ⟨h1_⟩
      have n2_ : Aside0 (w.heap.size ≤ gb106) := ⟨h2_⟩
      have n3_ : Aside0 (w.heap.size ≤ gb106) := ⟨h3_⟩
      have n4_ : Aside0 (gb107 ≠ gb106) := ⟨h4_⟩
      have n5_ : Aside0 (gb106 ≠ gb107) := ⟨h5_⟩
      have n6_ : Aside0 (w.heap.size ≤ gb107) := ⟨h6_⟩
      have n7_ : Aside0 (w.heap.size ≤ gb107) := ⟨h7_⟩
      have n8_ : Aside0 (Below w.heap.size w w31) := ⟨h8_⟩
      clear HB
      clear h0_ h1_ h2_ h3_ h4_ h5_ h6_ h7_ h8_
      have BK106 := n0_
      have BK107 := n1_
      have GW106 := n2_
      have GE106 := n3_
      have NB107_106 := n4_
      have NB106_107 := n5_
      have GW107 := n6_
      have GE107 := n7_
      have HB := n8_
      clear n0_ n1_ n2_ n3_ n4_ n5_ n6_ n7_ n8_
      have hHeld : w31.cell? (ad104.add ((x5_1).toNat * 5)) = some (.bool ((rd_T39 l0 x5_1).f0)) ∧ w31.cell? ⟨(ad104.add ((x5_1).toNat * 5)).block, (ad104.add ((x5_1).toNat * 5)).off + 1, none⟩ = some (.string ((rd_T39 l0 x5_1).f1)) ∧ w31.cell? ⟨(ad104.add ((x5_1).toNat * 5)).block, (ad104.add ((x5_1).toNat * 5)).off + 2, none⟩ = some (.int .i64 ((rd_T39 l0 x5_1).f2)) ∧ w31.cell? ⟨(ad104.add ((x5_1).toNat * 5)).block, (ad104.add ((x5_1).toNat * 5)).off + 3, none⟩ = some (.float .f64 ((rd_T39 l0 x5_1).f3)) ∧ w31.cell? ⟨(ad104.add ((x5_1).toNat * 5)).block, (ad104.add ((x5_1).toNat * 5)).off + 4, none⟩ = some (.bool ((rd_T39 l0 x5_1).f4)) ∧ w31.cell? (ad105.add ((x5_1).toNat * 5)) = some (.bool ((rd_T39 l1 x5_1).f0)) ∧ w31.cell? ⟨(ad105.add ((x5_1).toNat * 5)).block, (ad105.add ((x5_1).toNat * 5)).off + 1, none⟩ = some (.string ((rd_T39 l1 x5_1).f1)) ∧ w31.cell? ⟨(ad105.add ((x5_1).toNat * 5)).block, (ad105.add ((x5_1).toNat * 5)).off + 2, none⟩ = some (.int .i64 ((rd_T39 l1 x5_1).f2)) ∧ w31.cell? ⟨(ad105.add ((x5_1).toNat * 5)).block, (ad105.add ((x5_1).toNat * 5)).off + 3, none⟩ = some (.float .f64 ((rd_T39 l1 x5_1).f3)) ∧ w31.cell? ⟨(ad105.add ((x5_1).toNat * 5)).block, (ad105.add ((x5_1).toNat * 5)).off + 4, none⟩ = some (.bool ((rd_T39 l1 x5_1).f4)) := hS_
      refine norm_ (a' := ?_) ?_ ?_
      rotate_left
      · simp only [putAll, Act.put, List.setIfInBounds_toArray, List.set_cons_zero, List.set_cons_succ]
        rfl
      refine one_ (i := 10) (N := none) #[true, true, true, true, true, true, true, true, true, true, true, false] rfl rfl (one_of HT_.out (by kernel_rfl)) (by decide) (fun K hK => ?_)
      have hs32 : w31.cell? ⟨gb106, 0, none⟩ = some (.bool false) := (blk_cell BK106.out 0).trans rfl
      have hfs32 := blk_frozen BK106.out 0
      have hns32_1 := NB107_106.out
      have hms32_1 := NB106_107.out
      have hs33 : w31.cell? ⟨gb106, 1, none⟩ = some (.string (⟨#[]⟩ : ByteArray)) := (blk_cell BK106.out 1).trans rfl
      have hfs33 := blk_frozen BK106.out 1
      have hns33_1 := NB107_106.out
      have hms33_1 := NB106_107.out
      have hs34 : w31.cell? ⟨gb106, 2, none⟩ = some (.int .i64 0) := (blk_cell BK106.out 2).trans rfl
      have hfs34 := blk_frozen BK106.out 2
      have hns34_1 := NB107_106.out
      have hms34_1 := NB106_107.out
      have hs35 : w31.cell? ⟨gb106, 3, none⟩ = some (.float .f64 0) := (blk_cell BK106.out 3).trans rfl
      have hfs35 := blk_frozen BK106.out 3
      have hns35_1 := NB107_106.out
      have hms35_1 := NB106_107.out
      have hs36 : w31.cell? ⟨gb106, 4, none⟩ = some (.bool false) := (blk_cell BK106.out 4).trans rfl
      have hfs36 := blk_frozen BK106.out 4
      have hns36_1 := NB107_106.out
      have hms36_1 := NB106_107.out
      refine skip_ (w1 := ?_) (by rfl) rfl ?_ ?_
      rotate_left
      · go_simp
        rfl
      refine hK.out _ _ ⟨((cell_far (p := ⟨gb106, _, none⟩) (by first | exact Nat.ne_of_lt (Nat.lt_of_lt_of_le (by have := World.block_lt_of_cell? _ _ hw104_0; first | rwa [add_block] at this | exact this) GW106.out) | (rw [add_block]; exact Nat.ne_of_lt (Nat.lt_of_lt_of_le (by have := World.block_lt_of_cell? _ _ hw104_0; first | rwa [add_block] at this | exact this) GW106.out)) | (show (Addr.add _ _).block ≠ _; rw [add_block]; exact Nat.ne_of_lt (Nat.lt_of_lt_of_le (by have := World.block_lt_of_cell? _ _ hw104_0; first | rwa [add_block] at this | exact this) GW106.out)) | (dsimp only; exact Nat.ne_of_lt (Nat.lt_of_lt_of_le (by have := World.block_lt_of_cell? _ _ hw104_0; first | rwa [add_block] at this | exact this) GW106.out))) _).trans (((cell_far (p := ⟨gb106, _, none⟩) (by first | exact Nat.ne_of_lt (Nat.lt_of_lt_of_le (by have := World.block_lt_of_cell? _ _ hw104_0; first | rwa [add_block] at this | exact this) GW106.out) | (rw [add_block]; exact Nat.ne_of_lt (Nat.lt_of_lt_of_le (by have := World.block_lt_of_cell? _ _ hw104_0; first | rwa [add_block] at this | exact this) GW106.out)) | (show (Addr.add _ _).block ≠ _; rw [add_block]; exact Nat.ne_of_lt (Nat.lt_of_lt_of_le (by have := World.block_lt_of_cell? _ _ hw104_0; first | rwa [add_block] at this | exact this) GW106.out)) | (dsimp only; exact Nat.ne_of_lt (Nat.lt_of_lt_of_le (by have := World.block_lt_of_cell? _ _ hw104_0; first | rwa [add_block] at this | exact this) GW106.out))) _).trans (((cell_far (p := ⟨gb106, _, none⟩) (by first | exact Nat.ne_of_lt (Nat.lt_of_lt_of_le (by have := World.block_lt_of_cell? _ _ hw104_0; first | rwa [add_block] at this | exact this) GW106.out) | (rw [add_block]; exact Nat.ne_of_lt (Nat.lt_of_lt_of_le (by have := World.block_lt_of_cell? _ _ hw104_0; first | rwa [add_block] at this | exact this) GW106.out)) | (show (Addr.add _ _).block ≠ _; rw [add_block]; exact Nat.ne_of_lt (Nat.lt_of_lt_of_le (by have := World.block_lt_of_cell? _ _ hw104_0; first | rwa [add_block] at this | exact this) GW106.out)) | (dsimp only; exact Nat.ne_of_lt (Nat.lt_of_lt_of_le (by have := World.block_lt_of_cell? _ _ hw104_0; first | rwa [add_block] at this | exact this) GW106.out))) _).trans (((cell_far (p := ⟨gb106, _, none⟩) (by first | exact Nat.ne_of_lt (Nat.lt_of_lt_of_le (by have := World.block_lt_of_cell? _ _ hw104_0; first | rwa [add_block] at this | exact this) GW106.out) | (rw [add_block]; exact Nat.ne_of_lt (Nat.lt_of_lt_of_le (by have := World.block_lt_of_cell? _ _ hw104_0; first | rwa [add_block] at this | exact this) GW106.out)) | (show (Addr.add _ _).block ≠ _; rw [add_block]; exact Nat.ne_of_lt (Nat.lt_of_lt_of_le (by have := World.block_lt_of_cell? _ _ hw104_0; first | rwa [add_block] at this | exact this) GW106.out)) | (dsimp only; exact Nat.ne_of_lt (Nat.lt_of_lt_of_le (by have := World.block_lt_of_cell? _ _ hw104_0; first | rwa [add_block] at this | exact this) GW106.out))) _).trans (((cell_far (p := ⟨gb106, _, none⟩) (by first | exact Nat.ne_of_lt (Nat.lt_of_lt_of_le (by have := World.block_lt_of_cell? _ _ hw104_0; first | rwa [add_block] at this | exact this) GW106.out) | (rw [add_block]; exact Nat.ne_of_lt (Nat.lt_of_lt_of_le (by have := World.block_lt_of_cell? _ _ hw104_0; first | rwa [add_block] at this | exact this) GW106.out)) | (show (Addr.add _ _).block ≠ _; rw [add_block]; exact Nat.ne_of_lt (Nat.lt_of_lt_of_le (by have := World.block_lt_of_cell? _ _ hw104_0; first | rwa [add_block] at this | exact this) GW106.out)) | (dsimp only; exact Nat.ne_of_lt (Nat.lt_of_lt_of_le (by have := World.block_lt_of_cell? _ _ hw104_0; first | rwa [add_block] at this | exact this) GW106.out))) _).trans (hHeld.1)))))))))), ((cell_far (p := ⟨gb106, _, none⟩) (by first | exact Nat.ne_of_lt (Nat.lt_of_lt_of_le (by have := World.block_lt_of_cell? _ _ hw104_1; first | rwa [add_block] at this | exact this) GW106.out) | (rw [add_block]; exact Nat.ne_of_lt (Nat.lt_of_lt_of_le (by have := World.block_lt_of_cell? _ _ hw104_1; first | rwa [add_block] at this | exact this) GW106.out)) | (show (Addr.add _ _).block ≠ _; rw [add_block]; exact Nat.ne_of_lt (Nat.lt_of_lt_of_le (by have := World.block_lt_of_cell? _ _ hw104_1; first | rwa [add_block] at this | exact this) GW106.out)) | (dsimp only; exact Nat.ne_of_lt (Nat.lt_of_lt_of_le (by have := World.block_lt_of_cell? _ _ hw104_1; first | rwa [add_block] at this | exact this) GW106.out))) _).trans (((cell_far (p := ⟨gb106, _, none⟩) (by first | exact Nat.ne_of_lt (Nat.lt_of_lt_of_le (by have := World.block_lt_of_cell? _ _ hw104_1; first | rwa [add_block] at this | exact this) GW106.out) | (rw [add_block]; exact Nat.ne_of_lt (Nat.lt_of_lt_of_le (by have := World.block_lt_of_cell? _ _ hw104_1; first | rwa [add_block] at this | exact this) GW106.out)) | (show (Addr.add _ _).block ≠ _; rw [add_block]; exact Nat.ne_of_lt (Nat.lt_of_lt_of_le (by have := World.block_lt_of_cell? _ _ hw104_1; first | rwa [add_block] at this | exact this) GW106.out)) | (dsimp only; exact Nat.ne_of_lt (Nat.lt_of_lt_of_le (by have := World.block_lt_of_cell? _ _ hw104_1; first | rwa [add_block] at this | exact this) GW106.out))) _).trans (((cell_far (p := ⟨gb106, _, none⟩) (by first | exact Nat.ne_of_lt (Nat.lt_of_lt_of_le (by have := World.block_lt_of_cell? _ _ hw104_1; first | rwa [add_block] at this | exact this) GW106.out) | (rw [add_block]; exact Nat.ne_of_lt (Nat.lt_of_lt_of_le (by have := World.block_lt_of_cell? _ _ hw104_1; first | rwa [add_block] at this | exact this) GW106.out)) | (show (Addr.add _ _).block ≠ _; rw [add_block]; exact Nat.ne_of_lt (Nat.lt_of_lt_of_le (by have := World.block_lt_of_cell? _ _ hw104_1; first | rwa [add_block] at this | exact this) GW106.out)) | (dsimp only; exact Nat.ne_of_lt (Nat.lt_of_lt_of_le (by have := World.block_lt_of_cell? _ _ hw104_1; first | rwa [add_block] at this | exact this) GW106.out))) _).trans (((cell_far (p := ⟨gb106, _, none⟩) (by first | exact Nat.ne_of_lt (Nat.lt_of_lt_of_le (by have := World.block_lt_of_cell? _ _ hw104_1; first | rwa [add_block] at this | exact this) GW106.out) | (rw [add_block]; exact Nat.ne_of_lt (Nat.lt_of_lt_of_le (by have := World.block_lt_of_cell? _ _ hw104_1; first | rwa [add_block] at this | exact this) GW106.out)) | (show (Addr.add _ _).block ≠ _; rw [add_block]; exact Nat.ne_of_lt (Nat.lt_of_lt_of_le (by have := World.block_lt_of_cell? _ _ hw104_1; first | rwa [add_block] at this | exact this) GW106.out)) | (dsimp only; exact Nat.ne_of_lt (Nat.lt_of_lt_of_le (by have := World.block_lt_of_cell? _ _ hw104_1; first | rwa [add_block] at this | exact this) GW106.out))) _).trans (((cell_far (p := ⟨gb106, _, none⟩) (by first | exact Nat.ne_of_lt (Nat.lt_of_lt_of_le (by have := World.block_lt_of_cell? _ _ hw104_1; first | rwa [add_block] at this | exact this) GW106.out) | (rw [add_block]; exact Nat.ne_of_lt (Nat.lt_of_lt_of_le (by have := World.block_lt_of_cell? _ _ hw104_1; first | rwa [add_block] at this | exact this) GW106.out)) | (show (Addr.add _ _).block ≠ _; rw [add_block]; exact Nat.ne_of_lt (Nat.lt_of_lt_of_le (by have := World.block_lt_of_cell? _ _ hw104_1; first | rwa [add_block] at this | exact this) GW106.out)) | (dsimp only; exact Nat.ne_of_lt (Nat.lt_of_lt_of_le (by have := World.block_lt_of_cell? _ _ hw104_1; first | rwa [add_block] at this | exact this) GW106.out))) _).trans (hHeld.2.1)))))))))), ((cell_far (p := ⟨gb106, _, none⟩) (by first | exact Nat.ne_of_lt (Nat.lt_of_lt_of_le (by have := World.block_lt_of_cell? _ _ hw104_2; first | rwa [add_block] at this | exact this) GW106.out) | (rw [add_block]; exact Nat.ne_of_lt (Nat.lt_of_lt_of_le (by have := World.block_lt_of_cell? _ _ hw104_2; first | rwa [add_block] at this | exact this) GW106.out)) | (show (Addr.add _ _).block ≠ _; rw [add_block]; exact Nat.ne_of_lt (Nat.lt_of_lt_of_le (by have := World.block_lt_of_cell? _ _ hw104_2; first | rwa [add_block] at this | exact this) GW106.out)) | (dsimp only; exact Nat.ne_of_lt (Nat.lt_of_lt_of_le (by have := World.block_lt_of_cell? _ _ hw104_2; first | rwa [add_block] at this | exact this) GW106.out))) _).trans (((cell_far (p := ⟨gb106, _, none⟩) (by first | exact Nat.ne_of_lt (Nat.lt_of_lt_of_le (by have := World.block_lt_of_cell? _ _ hw104_2; first | rwa [add_block] at this | exact this) GW106.out) | (rw [add_block]; exact Nat.ne_of_lt (Nat.lt_of_lt_of_le (by have := World.block_lt_of_cell? _ _ hw104_2; first | rwa [add_block] at this | exact this) GW106.out)) | (show (Addr.add _ _).block ≠ _; rw [add_block]; exact Nat.ne_of_lt (Nat.lt_of_lt_of_le (by have := World.block_lt_of_cell? _ _ hw104_2; first | rwa [add_block] at this | exact this) GW106.out)) | (dsimp only; exact Nat.ne_of_lt (Nat.lt_of_lt_of_le (by have := World.block_lt_of_cell? _ _ hw104_2; first | rwa [add_block] at this | exact this) GW106.out))) _).trans (((cell_far (p := ⟨gb106, _, none⟩) (by first | exact Nat.ne_of_lt (Nat.lt_of_lt_of_le (by have := World.block_lt_of_cell? _ _ hw104_2; first | rwa [add_block] at this | exact this) GW106.out) | (rw [add_block]; exact Nat.ne_of_lt (Nat.lt_of_lt_of_le (by have := World.block_lt_of_cell? _ _ hw104_2; first | rwa [add_block] at this | exact this) GW106.out)) | (show (Addr.add _ _).block ≠ _; rw [add_block]; exact Nat.ne_of_lt (Nat.lt_of_lt_of_le (by have := World.block_lt_of_cell? _ _ hw104_2; first | rwa [add_block] at this | exact this) GW106.out)) | (dsimp only; exact Nat.ne_of_lt (Nat.lt_of_lt_of_le (by have := World.block_lt_of_cell? _ _ hw104_2; first | rwa [add_block] at this | exact this) GW106.out))) _).trans (((cell_far (p := ⟨gb106, _, none⟩) (by first | exact Nat.ne_of_lt (Nat.lt_of_lt_of_le (by have := World.block_lt_of_cell? _ _ hw104_2; first | rwa [add_block] at this | exact this) GW106.out) | (rw [add_block]; exact Nat.ne_of_lt (Nat.lt_of_lt_of_le (by have := World.block_lt_of_cell? _ _ hw104_2; first | rwa [add_block] at this | exact this) GW106.out)) | (show (Addr.add _ _).block ≠ _; rw [add_block]; exact Nat.ne_of_lt (Nat.lt_of_lt_of_le (by have := World.block_lt_of_cell? _ _ hw104_2; first | rwa [add_block] at this | exact this) GW106.out)) | (dsimp only; exact Nat.ne_of_lt (Nat.lt_of_lt_of_le (by have := World.block_lt_of_cell? _ _ hw104_2; first | rwa [add_block] at this | exact this) GW106.out))) _).trans (((cell_far (p := ⟨gb106, _, none⟩) (by first | exact Nat.ne_of_lt (Nat.lt_of_lt_of_le (by have := World.block_lt_of_cell? _ _ hw104_2; first | rwa [add_block] at this | exact this) GW106.out) | (rw [add_block]; exact Nat.ne_of_lt (Nat.lt_of_lt_of_le (by have := World.block_lt_of_cell? _ _ hw104_2; first | rwa [add_block] at this | exact this) GW106.out)) | (show (Addr.add _ _).block ≠ _; rw [add_block]; exact Nat.ne_of_lt (Nat.lt_of_lt_of_le (by have := World.block_lt_of_cell? _ _ hw104_2; first | rwa [add_block] at this | exact this) GW106.out)) | (dsimp only; exact Nat.ne_of_lt (Nat.lt_of_lt_of_le (by have := World.block_lt_of_cell? _ _ hw104_2; first | rwa [add_block] at this | exact this) GW106.out))) _).trans (hHeld.2.2.1)))))))))), ((cell_far (p := ⟨gb106, _, none⟩) (by first | exact Nat.ne_of_lt (Nat.lt_of_lt_of_le (by have := World.block_lt_of_cell? _ _ hw104_3; first | rwa [add_block] at this | exact this) GW106.out) | (rw [add_block]; exact Nat.ne_of_lt (Nat.lt_of_lt_of_le (by have := World.block_lt_of_cell? _ _ hw104_3; first | rwa [add_block] at this | exact this) GW106.out)) | (show (Addr.add _ _).block ≠ _; rw [add_block]; exact Nat.ne_of_lt (Nat.lt_of_lt_of_le (by have := World.block_lt_of_cell? _ _ hw104_3; first | rwa [add_block] at this | exact this) GW106.out)) | (dsimp only; exact Nat.ne_of_lt (Nat.lt_of_lt_of_le (by have := World.block_lt_of_cell? _ _ hw104_3; first | rwa [add_block] at this | exact this) GW106.out))) _).trans (((cell_far (p := ⟨gb106, _, none⟩) (by first | exact Nat.ne_of_lt (Nat.lt_of_lt_of_le (by have := World.block_lt_of_cell? _ _ hw104_3; first | rwa [add_block] at this | exact this) GW106.out) | (rw [add_block]; exact Nat.ne_of_lt (Nat.lt_of_lt_of_le (by have := World.block_lt_of_cell? _ _ hw104_3; first | rwa [add_block] at this | exact this) GW106.out)) | (show (Addr.add _ _).block ≠ _; rw [add_block]; exact Nat.ne_of_lt (Nat.lt_of_lt_of_le (by have := World.block_lt_of_cell? _ _ hw104_3; first | rwa [add_block] at this | exact this) GW106.out)) | (dsimp only; exact Nat.ne_of_lt (Nat.lt_of_lt_of_le (by have := World.block_lt_of_cell? _ _ hw104_3; first | rwa [add_block] at this | exact this) GW106.out))) _).trans (((cell_far (p := ⟨gb106, _, none⟩) (by first | exact Nat.ne_of_lt (Nat.lt_of_lt_of_le (by have := World.block_lt_of_cell? _ _ hw104_3; first | rwa [add_block] at this | exact this) GW106.out) | (rw [add_block]; exact Nat.ne_of_lt (Nat.lt_of_lt_of_le (by have := World.block_lt_of_cell? _ _ hw104_3; first | rwa [add_block] at this | exact this) GW106.out)) | (show (Addr.add _ _).block ≠ _; rw [add_block]; exact Nat.ne_of_lt (Nat.lt_of_lt_of_le (by have := World.block_lt_of_cell? _ _ hw104_3; first | rwa [add_block] at this | exact this) GW106.out)) | (dsimp only; exact Nat.ne_of_lt (Nat.lt_of_lt_of_le (by have := World.block_lt_of_cell? _ _ hw104_3; first | rwa [add_block] at this | exact this) GW106.out))) _).trans (((cell_far (p := ⟨gb106, _, none⟩) (by first | exact Nat.ne_of_lt (Nat.lt_of_lt_of_le (by have := World.block_lt_of_cell? _ _ hw104_3; first | rwa [add_block] at this | exact this) GW106.out) | (rw [add_block]; exact Nat.ne_of_lt (Nat.lt_of_lt_of_le (by have := World.block_lt_of_cell? _ _ hw104_3; first | rwa [add_block] at this | exact this) GW106.out)) | (show (Addr.add _ _).block ≠ _; rw [add_block]; exact Nat.ne_of_lt (Nat.lt_of_lt_of_le (by have := World.block_lt_of_cell? _ _ hw104_3; first | rwa [add_block] at this | exact this) GW106.out)) | (dsimp only; exact Nat.ne_of_lt (Nat.lt_of_lt_of_le (by have := World.block_lt_of_cell? _ _ hw104_3; first | rwa [add_block] at this | exact this) GW106.out))) _).trans (((cell_far (p := ⟨gb106, _, none⟩) (by first | exact Nat.ne_of_lt (Nat.lt_of_lt_of_le (by have := World.block_lt_of_cell? _ _ hw104_3; first | rwa [add_block] at this | exact this) GW106.out) | (rw [add_block]; exact Nat.ne_of_lt (Nat.lt_of_lt_of_le (by have := World.block_lt_of_cell? _ _ hw104_3; first | rwa [add_block] at this | exact this) GW106.out)) | (show (Addr.add _ _).block ≠ _; rw [add_block]; exact Nat.ne_of_lt (Nat.lt_of_lt_of_le (by have := World.block_lt_of_cell? _ _ hw104_3; first | rwa [add_block] at this | exact this) GW106.out)) | (dsimp only; exact Nat.ne_of_lt (Nat.lt_of_lt_of_le (by have := World.block_lt_of_cell? _ _ hw104_3; first | rwa [add_block] at this | exact this) GW106.out))) _).trans (hHeld.2.2.2.1)))))))))), ((cell_far (p := ⟨gb106, _, none⟩) (by first | exact Nat.ne_of_lt (Nat.lt_of_lt_of_le (by have := World.block_lt_of_cell? _ _ hw104_4; first | rwa [add_block] at this | exact this) GW106.out) | (rw [add_block]; exact Nat.ne_of_lt (Nat.lt_of_lt_of_le (by have := World.block_lt_of_cell? _ _ hw104_4; first | rwa [add_block] at this | exact this) GW106.out)) | (show (Addr.add _ _).block ≠ _; rw [add_block]; exact Nat.ne_of_lt (Nat.lt_of_lt_of_le (by have := World.block_lt_of_cell? _ _ hw104_4; first | rwa [add_block] at this | exact this) GW106.out)) | (dsimp only; exact Nat.ne_of_lt (Nat.lt_of_lt_of_le (by have := World.block_lt_of_cell? _ _ hw104_4; first | rwa [add_block] at this | exact this) GW106.out))) _).trans (((cell_far (p := ⟨gb106, _, none⟩) (by first | exact Nat.ne_of_lt (Nat.lt_of_lt_of_le (by have := World.block_lt_of_cell? _ _ hw104_4; first | rwa [add_block] at this | exact this) GW106.out) | (rw [add_block]; exact Nat.ne_of_lt (Nat.lt_of_lt_of_le (by have := World.block_lt_of_cell? _ _ hw104_4; first | rwa [add_block] at this | exact this) GW106.out)) | (show (Addr.add _ _).block ≠ _; rw [add_block]; exact Nat.ne_of_lt (Nat.lt_of_lt_of_le (by have := World.block_lt_of_cell? _ _ hw104_4; first | rwa [add_block] at this | exact this) GW106.out)) | (dsimp only; exact Nat.ne_of_lt (Nat.lt_of_lt_of_le (by have := World.block_lt_of_cell? _ _ hw104_4; first | rwa [add_block] at this | exact this) GW106.out))) _).trans (((cell_far (p := ⟨gb106, _, none⟩) (by first | exact Nat.ne_of_lt (Nat.lt_of_lt_of_le (by have := World.block_lt_of_cell? _ _ hw104_4; first | rwa [add_block] at this | exact this) GW106.out) | (rw [add_block]; exact Nat.ne_of_lt (Nat.lt_of_lt_of_le (by have := World.block_lt_of_cell? _ _ hw104_4; first | rwa [add_block] at this | exact this) GW106.out)) | (show (Addr.add _ _).block ≠ _; rw [add_block]; exact Nat.ne_of_lt (Nat.lt_of_lt_of_le (by have := World.block_lt_of_cell? _ _ hw104_4; first | rwa [add_block] at this | exact this) GW106.out)) | (dsimp only; exact Nat.ne_of_lt (Nat.lt_of_lt_of_le (by have := World.block_lt_of_cell? _ _ hw104_4; first | rwa [add_block] at this | exact this) GW106.out))) _).trans (((cell_far (p := ⟨gb106, _, none⟩) (by first | exact Nat.ne_of_lt (Nat.lt_of_lt_of_le (by have := World.block_lt_of_cell? _ _ hw104_4; first | rwa [add_block] at this | exact this) GW106.out) | (rw [add_block]; exact Nat.ne_of_lt (Nat.lt_of_lt_of_le (by have := World.block_lt_of_cell? _ _ hw104_4; first | rwa [add_block] at this | exact this) GW106.out)) | (show (Addr.add _ _).block ≠ _; rw [add_block]; exact Nat.ne_of_lt (Nat.lt_of_lt_of_le (by have := World.block_lt_of_cell? _ _ hw104_4; first | rwa [add_block] at this | exact this) GW106.out)) | (dsimp only; exact Nat.ne_of_lt (Nat.lt_of_lt_of_le (by have := World.block_lt_of_cell? _ _ hw104_4; first | rwa [add_block] at this | exact this) GW106.out))) _).trans (((cell_far (p := ⟨gb106, _, none⟩) (by first | exact Nat.ne_of_lt (Nat.lt_of_lt_of_le (by have := World.block_lt_of_cell? _ _ hw104_4; first | rwa [add_block] at this | exact this) GW106.out) | (rw [add_block]; exact Nat.ne_of_lt (Nat.lt_of_lt_of_le (by have := World.block_lt_of_cell? _ _ hw104_4; first | rwa [add_block] at this | exact this) GW106.out)) | (show (Addr.add _ _).block ≠ _; rw [add_block]; exact Nat.ne_of_lt (Nat.lt_of_lt_of_le (by have := World.block_lt_of_cell? _ _ hw104_4; first | rwa [add_block] at this | exact this) GW106.out)) | (dsimp only; exact Nat.ne_of_lt (Nat.lt_of_lt_of_le (by have := World.block_lt_of_cell? _ _ hw104_4; first | rwa [add_block] at this | exact this) GW106.out))) _).trans (hHeld.2.2.2.2.1)))))))))), ((cell_far (p := ⟨gb106, _, none⟩) (by first | exact Nat.ne_of_lt (Nat.lt_of_lt_of_le (by have := World.block_lt_of_cell? _ _ hw105_0; first | rwa [add_block] at this | exact this) GW106.out) | (rw [add_block]; exact Nat.ne_of_lt (Nat.lt_of_lt_of_le (by have := World.block_lt_of_cell? _ _ hw105_0; first | rwa [add_block] at this | exact this) GW106.out)) | (show (Addr.add _ _).block ≠ _; rw [add_block]; exact Nat.ne_of_lt (Nat.lt_of_lt_of_le (by have := World.block_lt_of_cell? _ _ hw105_0; first | rwa [add_block] at this | exact this) GW106.out)) | (dsimp only; exact Nat.ne_of_lt (Nat.lt_of_lt_of_le (by have := World.block_lt_of_cell? _ _ hw105_0; first | rwa [add_block] at this | exact this) GW106.out))) _).trans (((cell_far (p := ⟨gb106, _, none⟩) (by first | exact Nat.ne_of_lt (Nat.lt_of_lt_of_le (by have := World.block_lt_of_cell? _ _ hw105_0; first | rwa [add_block] at this | exact this) GW106.out) | (rw [add_block]; exact Nat.ne_of_lt (Nat.lt_of_lt_of_le (by have := World.block_lt_of_cell? _ _ hw105_0; first | rwa [add_block] at this | exact this) GW106.out)) | (show (Addr.add _ _).block ≠ _; rw [add_block]; exact Nat.ne_of_lt (Nat.lt_of_lt_of_le (by have := World.block_lt_of_cell? _ _ hw105_0; first | rwa [add_block] at this | exact this) GW106.out)) | (dsimp only; exact Nat.ne_of_lt (Nat.lt_of_lt_of_le (by have := World.block_lt_of_cell? _ _ hw105_0; first | rwa [add_block] at this | exact this) GW106.out))) _).trans (((cell_far (p := ⟨gb106, _, none⟩) (by first | exact Nat.ne_of_lt (Nat.lt_of_lt_of_le (by have := World.block_lt_of_cell? _ _ hw105_0; first | rwa [add_block] at this | exact this) GW106.out) | (rw [add_block]; exact Nat.ne_of_lt (Nat.lt_of_lt_of_le (by have := World.block_lt_of_cell? _ _ hw105_0; first | rwa [add_block] at this | exact this) GW106.out)) | (show (Addr.add _ _).block ≠ _; rw [add_block]; exact Nat.ne_of_lt (Nat.lt_of_lt_of_le (by have := World.block_lt_of_cell? _ _ hw105_0; first | rwa [add_block] at this | exact this) GW106.out)) | (dsimp only; exact Nat.ne_of_lt (Nat.lt_of_lt_of_le (by have := World.block_lt_of_cell? _ _ hw105_0; first | rwa [add_block] at this | exact this) GW106.out))) _).trans (((cell_far (p := ⟨gb106, _, none⟩) (by first | exact Nat.ne_of_lt (Nat.lt_of_lt_of_le (by have := World.block_lt_of_cell? _ _ hw105_0; first | rwa [add_block] at this | exact this) GW106.out) | (rw [add_block]; exact Nat.ne_of_lt (Nat.lt_of_lt_of_le (by have := World.block_lt_of_cell? _ _ hw105_0; first | rwa [add_block] at this | exact this) GW106.out)) | (show (Addr.add _ _).block ≠ _; rw [add_block]; exact Nat.ne_of_lt (Nat.lt_of_lt_of_le (by have := World.block_lt_of_cell? _ _ hw105_0; first | rwa [add_block] at this | exact this) GW106.out)) | (dsimp only; exact Nat.ne_of_lt (Nat.lt_of_lt_of_le (by have := World.block_lt_of_cell? _ _ hw105_0; first | rwa [add_block] at this | exact this) GW106.out))) _).trans (((cell_far (p := ⟨gb106, _, none⟩) (by first | exact Nat.ne_of_lt (Nat.lt_of_lt_of_le (by have := World.block_lt_of_cell? _ _ hw105_0; first | rwa [add_block] at this | exact this) GW106.out) | (rw [add_block]; exact Nat.ne_of_lt (Nat.lt_of_lt_of_le (by have := World.block_lt_of_cell? _ _ hw105_0; first | rwa [add_block] at this | exact this) GW106.out)) | (show (Addr.add _ _).block ≠ _; rw [add_block]; exact Nat.ne_of_lt (Nat.lt_of_lt_of_le (by have := World.block_lt_of_cell? _ _ hw105_0; first | rwa [add_block] at this | exact this) GW106.out)) | (dsimp only; exact Nat.ne_of_lt (Nat.lt_of_lt_of_le (by have := World.block_lt_of_cell? _ _ hw105_0; first | rwa [add_block] at this | exact this) GW106.out))) _).trans (hHeld.2.2.2.2.2.1)))))))))), ((cell_far (p := ⟨gb106, _, none⟩) (by first | exact Nat.ne_of_lt (Nat.lt_of_lt_of_le (by have := World.block_lt_of_cell? _ _ hw105_1; first | rwa [add_block] at this | exact this) GW106.out) | (rw [add_block]; exact Nat.ne_of_lt (Nat.lt_of_lt_of_le (by have := World.block_lt_of_cell? _ _ hw105_1; first | rwa [add_block] at this | exact this) GW106.out)) | (show (Addr.add _ _).block ≠ _; rw [add_block]; exact Nat.ne_of_lt (Nat.lt_of_lt_of_le (by have := World.block_lt_of_cell? _ _ hw105_1; first | rwa [add_block] at this | exact this) GW106.out)) | (dsimp only; exact Nat.ne_of_lt (Nat.lt_of_lt_of_le (by have := World.block_lt_of_cell? _ _ hw105_1; first | rwa [add_block] at this | exact this) GW106.out))) _).trans (((cell_far (p := ⟨gb106, _, none⟩) (by first | exact Nat.ne_of_lt (Nat.lt_of_lt_of_le (by have := World.block_lt_of_cell? _ _ hw105_1; first | rwa [add_block] at this | exact this) GW106.out) | (rw [add_block]; exact Nat.ne_of_lt (Nat.lt_of_lt_of_le (by have := World.block_lt_of_cell? _ _ hw105_1; first | rwa [add_block] at this | exact this) GW106.out)) | (show (Addr.add _ _).block ≠ _; rw [add_block]; exact Nat.ne_of_lt (Nat.lt_of_lt_of_le (by have := World.block_lt_of_cell? _ _ hw105_1; first | rwa [add_block] at this | exact this) GW106.out)) | (dsimp only; exact Nat.ne_of_lt (Nat.lt_of_lt_of_le (by have := World.block_lt_of_cell? _ _ hw105_1; first | rwa [add_block] at this | exact this) GW106.out))) _).trans (((cell_far (p := ⟨gb106, _, none⟩) (by first | exact Nat.ne_of_lt (Nat.lt_of_lt_of_le (by have := World.block_lt_of_cell? _ _ hw105_1; first | rwa [add_block] at this | exact this) GW106.out) | (rw [add_block]; exact Nat.ne_of_lt (Nat.lt_of_lt_of_le (by have := World.block_lt_of_cell? _ _ hw105_1; first | rwa [add_block] at this | exact this) GW106.out)) | (show (Addr.add _ _).block ≠ _; rw [add_block]; exact Nat.ne_of_lt (Nat.lt_of_lt_of_le (by have := World.block_lt_of_cell? _ _ hw105_1; first | rwa [add_block] at this | exact this) GW106.out)) | (dsimp only; exact Nat.ne_of_lt (Nat.lt_of_lt_of_le (by have := World.block_lt_of_cell? _ _ hw105_1; first | rwa [add_block] at this | exact this) GW106.out))) _).trans (((cell_far (p := ⟨gb106, _, none⟩) (by first | exact Nat.ne_of_lt (Nat.lt_of_lt_of_le (by have := World.block_lt_of_cell? _ _ hw105_1; first | rwa [add_block] at this | exact this) GW106.out) | (rw [add_block]; exact Nat.ne_of_lt (Nat.lt_of_lt_of_le (by have := World.block_lt_of_cell? _ _ hw105_1; first | rwa [add_block] at this | exact this) GW106.out)) | (show (Addr.add _ _).block ≠ _; rw [add_block]; exact Nat.ne_of_lt (Nat.lt_of_lt_of_le (by have := World.block_lt_of_cell? _ _ hw105_1; first | rwa [add_block] at this | exact this) GW106.out)) | (dsimp only; exact Nat.ne_of_lt (Nat.lt_of_lt_of_le (by have := World.block_lt_of_cell? _ _ hw105_1; first | rwa [add_block] at this | exact this) GW106.out))) _).trans (((cell_far (p := ⟨gb106, _, none⟩) (by first | exact Nat.ne_of_lt (Nat.lt_of_lt_of_le (by have := World.block_lt_of_cell? _ _ hw105_1; first | rwa [add_block] at this | exact this) GW106.out) | (rw [add_block]; exact Nat.ne_of_lt (Nat.lt_of_lt_of_le (by have := World.block_lt_of_cell? _ _ hw105_1; first | rwa [add_block] at this | exact this) GW106.out)) | (show (Addr.add _ _).block ≠ _; rw [add_block]; exact Nat.ne_of_lt (Nat.lt_of_lt_of_le (by have := World.block_lt_of_cell? _ _ hw105_1; first | rwa [add_block] at this | exact this) GW106.out)) | (dsimp only; exact Nat.ne_of_lt (Nat.lt_of_lt_of_le (by have := World.block_lt_of_cell? _ _ hw105_1; first | rwa [add_block] at this | exact this) GW106.out))) _).trans (hHeld.2.2.2.2.2.2.1)))))))))), ((cell_far (p := ⟨gb106, _, none⟩) (by first | exact Nat.ne_of_lt (Nat.lt_of_lt_of_le (by have := World.block_lt_of_cell? _ _ hw105_2; first | rwa [add_block] at this | exact this) GW106.out) | (rw [add_block]; exact Nat.ne_of_lt (Nat.lt_of_lt_of_le (by have := World.block_lt_of_cell? _ _ hw105_2; first | rwa [add_block] at this | exact this) GW106.out)) | (show (Addr.add _ _).block ≠ _; rw [add_block]; exact Nat.ne_of_lt (Nat.lt_of_lt_of_le (by have := World.block_lt_of_cell? _ _ hw105_2; first | rwa [add_block] at this | exact this) GW106.out)) | (dsimp only; exact Nat.ne_of_lt (Nat.lt_of_lt_of_le (by have := World.block_lt_of_cell? _ _ hw105_2; first | rwa [add_block] at this | exact this) GW106.out))) _).trans (((cell_far (p := ⟨gb106, _, none⟩) (by first | exact Nat.ne_of_lt (Nat.lt_of_lt_of_le (by have := World.block_lt_of_cell? _ _ hw105_2; first | rwa [add_block] at this | exact this) GW106.out) | (rw [add_block]; exact Nat.ne_of_lt (Nat.lt_of_lt_of_le (by have := World.block_lt_of_cell? _ _ hw105_2; first | rwa [add_block] at this | exact this) GW106.out)) | (show (Addr.add _ _).block ≠ _; rw [add_block]; exact Nat.ne_of_lt (Nat.lt_of_lt_of_le (by have := World.block_lt_of_cell? _ _ hw105_2; first | rwa [add_block] at this | exact this) GW106.out)) | (dsimp only; exact Nat.ne_of_lt (Nat.lt_of_lt_of_le (by have := World.block_lt_of_cell? _ _ hw105_2; first | rwa [add_block] at this | exact this) GW106.out))) _).trans (((cell_far (p := ⟨gb106, _, none⟩) (by first | exact Nat.ne_of_lt (Nat.lt_of_lt_of_le (by have := World.block_lt_of_cell? _ _ hw105_2; first | rwa [add_block] at this | exact this) GW106.out) | (rw [add_block]; exact Nat.ne_of_lt (Nat.lt_of_lt_of_le (by have := World.block_lt_of_cell? _ _ hw105_2; first | rwa [add_block] at this | exact this) GW106.out)) | (show (Addr.add _ _).block ≠ _; rw [add_block]; exact Nat.ne_of_lt (Nat.lt_of_lt_of_le (by have := World.block_lt_of_cell? _ _ hw105_2; first | rwa [add_block] at this | exact this) GW106.out)) | (dsimp only; exact Nat.ne_of_lt (Nat.lt_of_lt_of_le (by have := World.block_lt_of_cell? _ _ hw105_2; first | rwa [add_block] at this | exact this) GW106.out))) _).trans (((cell_far (p := ⟨gb106, _, none⟩) (by first | exact Nat.ne_of_lt (Nat.lt_of_lt_of_le (by have := World.block_lt_of_cell? _ _ hw105_2; first | rwa [add_block] at this | exact this) GW106.out) | (rw [add_block]; exact Nat.ne_of_lt (Nat.lt_of_lt_of_le (by have := World.block_lt_of_cell? _ _ hw105_2; first | rwa [add_block] at this | exact this) GW106.out)) | (show (Addr.add _ _).block ≠ _; rw [add_block]; exact Nat.ne_of_lt (Nat.lt_of_lt_of_le (by have := World.block_lt_of_cell? _ _ hw105_2; first | rwa [add_block] at this | exact this) GW106.out)) | (dsimp only; exact Nat.ne_of_lt (Nat.lt_of_lt_of_le (by have := World.block_lt_of_cell? _ _ hw105_2; first | rwa [add_block] at this | exact this) GW106.out))) _).trans (((cell_far (p := ⟨gb106, _, none⟩) (by first | exact Nat.ne_of_lt (Nat.lt_of_lt_of_le (by have := World.block_lt_of_cell? _ _ hw105_2; first | rwa [add_block] at this | exact this) GW106.out) | (rw [add_block]; exact Nat.ne_of_lt (Nat.lt_of_lt_of_le (by have := World.block_lt_of_cell? _ _ hw105_2; first | rwa [add_block] at this | exact this) GW106.out)) | (show (Addr.add _ _).block ≠ _; rw [add_block]; exact Nat.ne_of_lt (Nat.lt_of_lt_of_le (by have := World.block_lt_of_cell? _ _ hw105_2; first | rwa [add_block] at this | exact this) GW106.out)) | (dsimp only; exact Nat.ne_of_lt (Nat.lt_of_lt_of_le (by have := World.block_lt_of_cell? _ _ hw105_2; first | rwa [add_block] at this | exact this) GW106.out))) _).trans (hHeld.2.2.2.2.2.2.2.1)))))))))), ((cell_far (p := ⟨gb106, _, none⟩) (by first | exact Nat.ne_of_lt (Nat.lt_of_lt_of_le (by have := World.block_lt_of_cell? _ _ hw105_3; first | rwa [add_block] at this | exact this) GW106.out) | (rw [add_block]; exact Nat.ne_of_lt (Nat.lt_of_lt_of_le (by have := World.block_lt_of_cell? _ _ hw105_3; first | rwa [add_block] at this | exact this) GW106.out)) | (show (Addr.add _ _).block ≠ _; rw [add_block]; exact Nat.ne_of_lt (Nat.lt_of_lt_of_le (by have := World.block_lt_of_cell? _ _ hw105_3; first | rwa [add_block] at this | exact this) GW106.out)) | (dsimp only; exact Nat.ne_of_lt (Nat.lt_of_lt_of_le (by have := World.block_lt_of_cell? _ _ hw105_3; first | rwa [add_block] at this | exact this) GW106.out))) _).trans (((cell_far (p := ⟨gb106, _, none⟩) (by first | exact Nat.ne_of_lt (Nat.lt_of_lt_of_le (by have := World.block_lt_of_cell? _ _ hw105_3; first | rwa [add_block] at this | exact this) GW106.out) | (rw [add_block]; exact Nat.ne_of_lt (Nat.lt_of_lt_of_le (by have := World.block_lt_of_cell? _ _ hw105_3; first | rwa [add_block] at this | exact this) GW106.out)) | (show (Addr.add _ _).block ≠ _; rw [add_block]; exact Nat.ne_of_lt (Nat.lt_of_lt_of_le (by have := World.block_lt_of_cell? _ _ hw105_3; first | rwa [add_block] at this | exact this) GW106.out)) | (dsimp only; exact Nat.ne_of_lt (Nat.lt_of_lt_of_le (by have := World.block_lt_of_cell? _ _ hw105_3; first | rwa [add_block] at this | exact this) GW106.out))) _).trans (((cell_far (p := ⟨gb106, _, none⟩) (by first | exact Nat.ne_of_lt (Nat.lt_of_lt_of_le (by have := World.block_lt_of_cell? _ _ hw105_3; first | rwa [add_block] at this | exact this) GW106.out) | (rw [add_block]; exact Nat.ne_of_lt (Nat.lt_of_lt_of_le (by have := World.block_lt_of_cell? _ _ hw105_3; first | rwa [add_block] at this | exact this) GW106.out)) | (show (Addr.add _ _).block ≠ _; rw [add_block]; exact Nat.ne_of_lt (Nat.lt_of_lt_of_le (by have := World.block_lt_of_cell? _ _ hw105_3; first | rwa [add_block] at this | exact this) GW106.out)) | (dsimp only; exact Nat.ne_of_lt (Nat.lt_of_lt_of_le (by have := World.block_lt_of_cell? _ _ hw105_3; first | rwa [add_block] at this | exact this) GW106.out))) _).trans (((cell_far (p := ⟨gb106, _, none⟩) (by first | exact Nat.ne_of_lt (Nat.lt_of_lt_of_le (by have := World.block_lt_of_cell? _ _ hw105_3; first | rwa [add_block] at this | exact this) GW106.out) | (rw [add_block]; exact Nat.ne_of_lt (Nat.lt_of_lt_of_le (by have := World.block_lt_of_cell? _ _ hw105_3; first | rwa [add_block] at this | exact this) GW106.out)) | (show (Addr.add _ _).block ≠ _; rw [add_block]; exact Nat.ne_of_lt (Nat.lt_of_lt_of_le (by have := World.block_lt_of_cell? _ _ hw105_3; first | rwa [add_block] at this | exact this) GW106.out)) | (dsimp only; exact Nat.ne_of_lt (Nat.lt_of_lt_of_le (by have := World.block_lt_of_cell? _ _ hw105_3; first | rwa [add_block] at this | exact this) GW106.out))) _).trans (((cell_far (p := ⟨gb106, _, none⟩) (by first | exact Nat.ne_of_lt (Nat.lt_of_lt_of_le (by have := World.block_lt_of_cell? _ _ hw105_3; first | rwa [add_block] at this | exact this) GW106.out) | (rw [add_block]; exact Nat.ne_of_lt (Nat.lt_of_lt_of_le (by have := World.block_lt_of_cell? _ _ hw105_3; first | rwa [add_block] at this | exact this) GW106.out)) | (show (Addr.add _ _).block ≠ _; rw [add_block]; exact Nat.ne_of_lt (Nat.lt_of_lt_of_le (by have := World.block_lt_of_cell? _ _ hw105_3; first | rwa [add_block] at this | exact this) GW106.out)) | (dsimp only; exact Nat.ne_of_lt (Nat.lt_of_lt_of_le (by have := World.block_lt_of_cell? _ _ hw105_3; first | rwa [add_block] at this | exact this) GW106.out))) _).trans (hHeld.2.2.2.2.2.2.2.2.1)))))))))), ((cell_far (p := ⟨gb106, _, none⟩) (by first | exact Nat.ne_of_lt (Nat.lt_of_lt_of_le (by have := World.block_lt_of_cell? _ _ hw105_4; first | rwa [add_block] at this | exact this) GW106.out) | (rw [add_block]; exact Nat.ne_of_lt (Nat.lt_of_lt_of_le (by have := World.block_lt_of_cell? _ _ hw105_4; first | rwa [add_block] at this | exact this) GW106.out)) | (show (Addr.add _ _).block ≠ _; rw [add_block]; exact Nat.ne_of_lt (Nat.lt_of_lt_of_le (by have := World.block_lt_of_cell? _ _ hw105_4; first | rwa [add_block] at this | exact this) GW106.out)) | (dsimp only; exact Nat.ne_of_lt (Nat.lt_of_lt_of_le (by have := World.block_lt_of_cell? _ _ hw105_4; first | rwa [add_block] at this | exact this) GW106.out))) _).trans (((cell_far (p := ⟨gb106, _, none⟩) (by first | exact Nat.ne_of_lt (Nat.lt_of_lt_of_le (by have := World.block_lt_of_cell? _ _ hw105_4; first | rwa [add_block] at this | exact this) GW106.out) | (rw [add_block]; exact Nat.ne_of_lt (Nat.lt_of_lt_of_le (by have := World.block_lt_of_cell? _ _ hw105_4; first | rwa [add_block] at this | exact this) GW106.out)) | (show (Addr.add _ _).block ≠ _; rw [add_block]; exact Nat.ne_of_lt (Nat.lt_of_lt_of_le (by have := World.block_lt_of_cell? _ _ hw105_4; first | rwa [add_block] at this | exact this) GW106.out)) | (dsimp only; exact Nat.ne_of_lt (Nat.lt_of_lt_of_le (by have := World.block_lt_of_cell? _ _ hw105_4; first | rwa [add_block] at this | exact this) GW106.out))) _).trans (((cell_far (p := ⟨gb106, _, none⟩) (by first | exact Nat.ne_of_lt (Nat.lt_of_lt_of_le (by have := World.block_lt_of_cell? _ _ hw105_4; first | rwa [add_block] at this | exact this) GW106.out) | (rw [add_block]; exact Nat.ne_of_lt (Nat.lt_of_lt_of_le (by have := World.block_lt_of_cell? _ _ hw105_4; first | rwa [add_block] at this | exact this) GW106.out)) | (show (Addr.add _ _).block ≠ _; rw [add_block]; exact Nat.ne_of_lt (Nat.lt_of_lt_of_le (by have := World.block_lt_of_cell? _ _ hw105_4; first | rwa [add_block] at this | exact this) GW106.out)) | (dsimp only; exact Nat.ne_of_lt (Nat.lt_of_lt_of_le (by have := World.block_lt_of_cell? _ _ hw105_4; first | rwa [add_block] at this | exact this) GW106.out))) _).trans (((cell_far (p := ⟨gb106, _, none⟩) (by first | exact Nat.ne_of_lt (Nat.lt_of_lt_of_le (by have := World.block_lt_of_cell? _ _ hw105_4; first | rwa [add_block] at this | exact this) GW106.out) | (rw [add_block]; exact Nat.ne_of_lt (Nat.lt_of_lt_of_le (by have := World.block_lt_of_cell? _ _ hw105_4; first | rwa [add_block] at this | exact this) GW106.out)) | (show (Addr.add _ _).block ≠ _; rw [add_block]; exact Nat.ne_of_lt (Nat.lt_of_lt_of_le (by have := World.block_lt_of_cell? _ _ hw105_4; first | rwa [add_block] at this | exact this) GW106.out)) | (dsimp only; exact Nat.ne_of_lt (Nat.lt_of_lt_of_le (by have := World.block_lt_of_cell? _ _ hw105_4; first | rwa [add_block] at this | exact this) GW106.out))) _).trans (((cell_far (p := ⟨gb106, _, none⟩) (by first | exact Nat.ne_of_lt (Nat.lt_of_lt_of_le (by have := World.block_lt_of_cell? _ _ hw105_4; first | rwa [add_block] at this | exact this) GW106.out) | (rw [add_block]; exact Nat.ne_of_lt (Nat.lt_of_lt_of_le (by have := World.block_lt_of_cell? _ _ hw105_4; first | rwa [add_block] at this | exact this) GW106.out)) | (show (Addr.add _ _).block ≠ _; rw [add_block]; exact Nat.ne_of_lt (Nat.lt_of_lt_of_le (by have := World.block_lt_of_cell? _ _ hw105_4; first | rwa [add_block] at this | exact this) GW106.out)) | (dsimp only; exact Nat.ne_of_lt (Nat.lt_of_lt_of_le (by have := World.block_lt_of_cell? _ _ hw105_4; first | rwa [add_block] at this | exact this) GW106.out))) _).trans (hHeld.2.2.2.2.2.2.2.2.2))))))))))⟩ (fun hHeld => ?_)
      clear hK K
      refine one_ (i := 11) (N := none) #[true, true, true, true, true, true, true, true, true, true, true, true] rfl rfl (one_of HT_.out (by kernel_rfl)) (by decide) (fun K hK => ?_)
      have hs37 : w31.cell? ⟨gb107, 0, none⟩ = some (.bool false) := (blk_cell BK107.out 0).trans rfl
      have hfs37 := blk_frozen BK107.out 0
      have hns37_0 := NB106_107.out
      have hms37_0 := NB107_106.out
      have hs38 : w31.cell? ⟨gb107, 1, none⟩ = some (.string (⟨#[]⟩ : ByteArray)) := (blk_cell BK107.out 1).trans rfl
      have hfs38 := blk_frozen BK107.out 1
      have hns38_0 := NB106_107.out
      have hms38_0 := NB107_106.out
      have hs39 : w31.cell? ⟨gb107, 2, none⟩ = some (.int .i64 0) := (blk_cell BK107.out 2).trans rfl
      have hfs39 := blk_frozen BK107.out 2
      have hns39_0 := NB106_107.out
      have hms39_0 := NB107_106.out
      have hs40 : w31.cell? ⟨gb107, 3, none⟩ = some (.float .f64 0) := (blk_cell BK107.out 3).trans rfl
      have hfs40 := blk_frozen BK107.out 3
      have hns40_0 := NB106_107.out
      have hms40_0 := NB107_106.out
      have hs41 : w31.cell? ⟨gb107, 4, none⟩ = some (.bool false) := (blk_cell BK107.out 4).trans rfl
      have hfs41 := blk_frozen BK107.out 4
      have hns41_0 := NB106_107.out
      have hms41_0 := NB107_106.out
      refine skip_ (w1 := ?_) (by rfl) rfl ?_ ?_
      rotate_left
      · go_simp
        rfl
      refine hK.out _ _ ⟨((cell_far (p := ⟨gb107, _, none⟩) (by first | exact Nat.ne_of_lt (Nat.lt_of_lt_of_le (by have := World.block_lt_of_cell? _ _ hw104_0; first | rwa [add_block] at this | exact this) GW107.out) | (rw [add_block]; exact Nat.ne_of_lt (Nat.lt_of_lt_of_le (by have := World.block_lt_of_cell? _ _ hw104_0; first | rwa [add_block] at this | exact this) GW107.out)) | (show (Addr.add _ _).block ≠ _; rw [add_block]; exact Nat.ne_of_lt (Nat.lt_of_lt_of_le (by have := World.block_lt_of_cell? _ _ hw104_0; first | rwa [add_block] at this | exact this) GW107.out)) | (dsimp only; exact Nat.ne_of_lt (Nat.lt_of_lt_of_le (by have := World.block_lt_of_cell? _ _ hw104_0; first | rwa [add_block] at this | exact this) GW107.out))) _).trans (((cell_far (p := ⟨gb107, _, none⟩) (by first | exact Nat.ne_of_lt (Nat.lt_of_lt_of_le (by have := World.block_lt_of_cell? _ _ hw104_0; first | rwa [add_block] at this | exact this) GW107.out) | (rw [add_block]; exact Nat.ne_of_lt (Nat.lt_of_lt_of_le (by have := World.block_lt_of_cell? _ _ hw104_0; first | rwa [add_block] at this | exact this) GW107.out)) | (show (Addr.add _ _).block ≠ _; rw [add_block]; exact Nat.ne_of_lt (Nat.lt_of_lt_of_le (by have := World.block_lt_of_cell? _ _ hw104_0; first | rwa [add_block] at this | exact this) GW107.out)) | (dsimp only; exact Nat.ne_of_lt (Nat.lt_of_lt_of_le (by have := World.block_lt_of_cell? _ _ hw104_0; first | rwa [add_block] at this | exact this) GW107.out))) _).trans (((cell_far (p := ⟨gb107, _, none⟩) (by first | exact Nat.ne_of_lt (Nat.lt_of_lt_of_le (by have := World.block_lt_of_cell? _ _ hw104_0; first | rwa [add_block] at this | exact this) GW107.out) | (rw [add_block]; exact Nat.ne_of_lt (Nat.lt_of_lt_of_le (by have := World.block_lt_of_cell? _ _ hw104_0; first | rwa [add_block] at this | exact this) GW107.out)) | (show (Addr.add _ _).block ≠ _; rw [add_block]; exact Nat.ne_of_lt (Nat.lt_of_lt_of_le (by have := World.block_lt_of_cell? _ _ hw104_0; first | rwa [add_block] at this | exact this) GW107.out)) | (dsimp only; exact Nat.ne_of_lt (Nat.lt_of_lt_of_le (by have := World.block_lt_of_cell? _ _ hw104_0; first | rwa [add_block] at this | exact this) GW107.out))) _).trans (((cell_far (p := ⟨gb107, _, none⟩) (by first | exact Nat.ne_of_lt (Nat.lt_of_lt_of_le (by have := World.block_lt_of_cell? _ _ hw104_0; first | rwa [add_block] at this | exact this) GW107.out) | (rw [add_block]; exact Nat.ne_of_lt (Nat.lt_of_lt_of_le (by have := World.block_lt_of_cell? _ _ hw104_0; first | rwa [add_block] at this | exact this) GW107.out)) | (show (Addr.add _ _).block ≠ _; rw [add_block]; exact Nat.ne_of_lt (Nat.lt_of_lt_of_le (by have := World.block_lt_of_cell? _ _ hw104_0; first | rwa [add_block] at this | exact this) GW107.out)) | (dsimp only; exact Nat.ne_of_lt (Nat.lt_of_lt_of_le (by have := World.block_lt_of_cell? _ _ hw104_0; first | rwa [add_block] at this | exact this) GW107.out))) _).trans (((cell_far (p := ⟨gb107, _, none⟩) (by first | exact Nat.ne_of_lt (Nat.lt_of_lt_of_le (by have := World.block_lt_of_cell? _ _ hw104_0; first | rwa [add_block] at this | exact this) GW107.out) | (rw [add_block]; exact Nat.ne_of_lt (Nat.lt_of_lt_of_le (by have := World.block_lt_of_cell? _ _ hw104_0; first | rwa [add_block] at this | exact this) GW107.out)) | (show (Addr.add _ _).block ≠ _; rw [add_block]; exact Nat.ne_of_lt (Nat.lt_of_lt_of_le (by have := World.block_lt_of_cell? _ _ hw104_0; first | rwa [add_block] at this | exact this) GW107.out)) | (dsimp only; exact Nat.ne_of_lt (Nat.lt_of_lt_of_le (by have := World.block_lt_of_cell? _ _ hw104_0; first | rwa [add_block] at this | exact this) GW107.out))) _).trans (hHeld.1)))))))))), ((cell_far (p := ⟨gb107, _, none⟩) (by first | exact Nat.ne_of_lt (Nat.lt_of_lt_of_le (by have := World.block_lt_of_cell? _ _ hw104_1; first | rwa [add_block] at this | exact this) GW107.out) | (rw [add_block]; exact Nat.ne_of_lt (Nat.lt_of_lt_of_le (by have := World.block_lt_of_cell? _ _ hw104_1; first | rwa [add_block] at this | exact this) GW107.out)) | (show (Addr.add _ _).block ≠ _; rw [add_block]; exact Nat.ne_of_lt (Nat.lt_of_lt_of_le (by have := World.block_lt_of_cell? _ _ hw104_1; first | rwa [add_block] at this | exact this) GW107.out)) | (dsimp only; exact Nat.ne_of_lt (Nat.lt_of_lt_of_le (by have := World.block_lt_of_cell? _ _ hw104_1; first | rwa [add_block] at this | exact this) GW107.out))) _).trans (((cell_far (p := ⟨gb107, _, none⟩) (by first | exact Nat.ne_of_lt (Nat.lt_of_lt_of_le (by have := World.block_lt_of_cell? _ _ hw104_1; first | rwa [add_block] at this | exact this) GW107.out) | (rw [add_block]; exact Nat.ne_of_lt (Nat.lt_of_lt_of_le (by have := World.block_lt_of_cell? _ _ hw104_1; first | rwa [add_block] at this | exact this) GW107.out)) | (show (Addr.add _ _).block ≠ _; rw [add_block]; exact Nat.ne_of_lt (Nat.lt_of_lt_of_le (by have := World.block_lt_of_cell? _ _ hw104_1; first | rwa [add_block] at this | exact this) GW107.out)) | (dsimp only; exact Nat.ne_of_lt (Nat.lt_of_lt_of_le (by have := World.block_lt_of_cell? _ _ hw104_1; first | rwa [add_block] at this | exact this) GW107.out))) _).trans (((cell_far (p := ⟨gb107, _, none⟩) (by first | exact Nat.ne_of_lt (Nat.lt_of_lt_of_le (by have := World.block_lt_of_cell? _ _ hw104_1; first | rwa [add_block] at this | exact this) GW107.out) | (rw [add_block]; exact Nat.ne_of_lt (Nat.lt_of_lt_of_le (by have := World.block_lt_of_cell? _ _ hw104_1; first | rwa [add_block] at this | exact this) GW107.out)) | (show (Addr.add _ _).block ≠ _; rw [add_block]; exact Nat.ne_of_lt (Nat.lt_of_lt_of_le (by have := World.block_lt_of_cell? _ _ hw104_1; first | rwa [add_block] at this | exact this) GW107.out)) | (dsimp only; exact Nat.ne_of_lt (Nat.lt_of_lt_of_le (by have := World.block_lt_of_cell? _ _ hw104_1; first | rwa [add_block] at this | exact this) GW107.out))) _).trans (((cell_far (p := ⟨gb107, _, none⟩) (by first | exact Nat.ne_of_lt (Nat.lt_of_lt_of_le (by have := World.block_lt_of_cell? _ _ hw104_1; first | rwa [add_block] at this | exact this) GW107.out) | (rw [add_block]; exact Nat.ne_of_lt (Nat.lt_of_lt_of_le (by have := World.block_lt_of_cell? _ _ hw104_1; first | rwa [add_block] at this | exact this) GW107.out)) | (show (Addr.add _ _).block ≠ _; rw [add_block]; exact Nat.ne_of_lt (Nat.lt_of_lt_of_le (by have := World.block_lt_of_cell? _ _ hw104_1; first | rwa [add_block] at this | exact this) GW107.out)) | (dsimp only; exact Nat.ne_of_lt (Nat.lt_of_lt_of_le (by have := World.block_lt_of_cell? _ _ hw104_1; first | rwa [add_block] at this | exact this) GW107.out))) _).trans (((cell_far (p := ⟨gb107, _, none⟩) (by first | exact Nat.ne_of_lt (Nat.lt_of_lt_of_le (by have := World.block_lt_of_cell? _ _ hw104_1; first | rwa [add_block] at this | exact this) GW107.out) | (rw [add_block]; exact Nat.ne_of_lt (Nat.lt_of_lt_of_le (by have := World.block_lt_of_cell? _ _ hw104_1; first | rwa [add_block] at this | exact this) GW107.out)) | (show (Addr.add _ _).block ≠ _; rw [add_block]; exact Nat.ne_of_lt (Nat.lt_of_lt_of_le (by have := World.block_lt_of_cell? _ _ hw104_1; first | rwa [add_block] at this | exact this) GW107.out)) | (dsimp only; exact Nat.ne_of_lt (Nat.lt_of_lt_of_le (by have := World.block_lt_of_cell? _ _ hw104_1; first | rwa [add_block] at this | exact this) GW107.out))) _).trans (hHeld.2.1)))))))))), ((cell_far (p := ⟨gb107, _, none⟩) (by first | exact Nat.ne_of_lt (Nat.lt_of_lt_of_le (by have := World.block_lt_of_cell? _ _ hw104_2; first | rwa [add_block] at this | exact this) GW107.out) | (rw [add_block]; exact Nat.ne_of_lt (Nat.lt_of_lt_of_le (by have := World.block_lt_of_cell? _ _ hw104_2; first | rwa [add_block] at this | exact this) GW107.out)) | (show (Addr.add _ _).block ≠ _; rw [add_block]; exact Nat.ne_of_lt (Nat.lt_of_lt_of_le (by have := World.block_lt_of_cell? _ _ hw104_2; first | rwa [add_block] at this | exact this) GW107.out)) | (dsimp only; exact Nat.ne_of_lt (Nat.lt_of_lt_of_le (by have := World.block_lt_of_cell? _ _ hw104_2; first | rwa [add_block] at this | exact this) GW107.out))) _).trans (((cell_far (p := ⟨gb107, _, none⟩) (by first | exact Nat.ne_of_lt (Nat.lt_of_lt_of_le (by have := World.block_lt_of_cell? _ _ hw104_2; first | rwa [add_block] at this | exact this) GW107.out) | (rw [add_block]; exact Nat.ne_of_lt (Nat.lt_of_lt_of_le (by have := World.block_lt_of_cell? _ _ hw104_2; first | rwa [add_block] at this | exact this) GW107.out)) | (show (Addr.add _ _).block ≠ _; rw [add_block]; exact Nat.ne_of_lt (Nat.lt_of_lt_of_le (by have := World.block_lt_of_cell? _ _ hw104_2; first | rwa [add_block] at this | exact this) GW107.out)) | (dsimp only; exact Nat.ne_of_lt (Nat.lt_of_lt_of_le (by have := World.block_lt_of_cell? _ _ hw104_2; first | rwa [add_block] at this | exact this) GW107.out))) _).trans (((cell_far (p := ⟨gb107, _, none⟩) (by first | exact Nat.ne_of_lt (Nat.lt_of_lt_of_le (by have := World.block_lt_of_cell? _ _ hw104_2; first | rwa [add_block] at this | exact this) GW107.out) | (rw [add_block]; exact Nat.ne_of_lt (Nat.lt_of_lt_of_le (by have := World.block_lt_of_cell? _ _ hw104_2; first | rwa [add_block] at this | exact this) GW107.out)) | (show (Addr.add _ _).block ≠ _; rw [add_block]; exact Nat.ne_of_lt (Nat.lt_of_lt_of_le (by have := World.block_lt_of_cell? _ _ hw104_2; first | rwa [add_block] at this | exact this) GW107.out)) | (dsimp only; exact Nat.ne_of_lt (Nat.lt_of_lt_of_le (by have := World.block_lt_of_cell? _ _ hw104_2; first | rwa [add_block] at this | exact this) GW107.out))) _).trans (((cell_far (p := ⟨gb107, _, none⟩) (by first | exact Nat.ne_of_lt (Nat.lt_of_lt_of_le (by have := World.block_lt_of_cell? _ _ hw104_2; first | rwa [add_block] at this | exact this) GW107.out) | (rw [add_block]; exact Nat.ne_of_lt (Nat.lt_of_lt_of_le (by have := World.block_lt_of_cell? _ _ hw104_2; first | rwa [add_block] at this | exact this) GW107.out)) | (show (Addr.add _ _).block ≠ _; rw [add_block]; exact Nat.ne_of_lt (Nat.lt_of_lt_of_le (by have := World.block_lt_of_cell? _ _ hw104_2; first | rwa [add_block] at this | exact this) GW107.out)) | (dsimp only; exact Nat.ne_of_lt (Nat.lt_of_lt_of_le (by have := World.block_lt_of_cell? _ _ hw104_2; first | rwa [add_block] at this | exact this) GW107.out))) _).trans (((cell_far (p := ⟨gb107, _, none⟩) (by first | exact Nat.ne_of_lt (Nat.lt_of_lt_of_le (by have := World.block_lt_of_cell? _ _ hw104_2; first | rwa [add_block] at this | exact this) GW107.out) | (rw [add_block]; exact Nat.ne_of_lt (Nat.lt_of_lt_of_le (by have := World.block_lt_of_cell? _ _ hw104_2; first | rwa [add_block] at this | exact this) GW107.out)) | (show (Addr.add _ _).block ≠ _; rw [add_block]; exact Nat.ne_of_lt (Nat.lt_of_lt_of_le (by have := World.block_lt_of_cell? _ _ hw104_2; first | rwa [add_block] at this | exact this) GW107.out)) | (dsimp only; exact Nat.ne_of_lt (Nat.lt_of_lt_of_le (by have := World.block_lt_of_cell? _ _ hw104_2; first | rwa [add_block] at this | exact this) GW107.out))) _).trans (hHeld.2.2.1)))))))))), ((cell_far (p := ⟨gb107, _, none⟩) (by first | exact Nat.ne_of_lt (Nat.lt_of_lt_of_le (by have := World.block_lt_of_cell? _ _ hw104_3; first | rwa [add_block] at this | exact this) GW107.out) | (rw [add_block]; exact Nat.ne_of_lt (Nat.lt_of_lt_of_le (by have := World.block_lt_of_cell? _ _ hw104_3; first | rwa [add_block] at this | exact this) GW107.out)) | (show (Addr.add _ _).block ≠ _; rw [add_block]; exact Nat.ne_of_lt (Nat.lt_of_lt_of_le (by have := World.block_lt_of_cell? _ _ hw104_3; first | rwa [add_block] at this | exact this) GW107.out)) | (dsimp only; exact Nat.ne_of_lt (Nat.lt_of_lt_of_le (by have := World.block_lt_of_cell? _ _ hw104_3; first | rwa [add_block] at this | exact this) GW107.out))) _).trans (((cell_far (p := ⟨gb107, _, none⟩) (by first | exact Nat.ne_of_lt (Nat.lt_of_lt_of_le (by have := World.block_lt_of_cell? _ _ hw104_3; first | rwa [add_block] at this | exact this) GW107.out) | (rw [add_block]; exact Nat.ne_of_lt (Nat.lt_of_lt_of_le (by have := World.block_lt_of_cell? _ _ hw104_3; first | rwa [add_block] at this | exact this) GW107.out)) | (show (Addr.add _ _).block ≠ _; rw [add_block]; exact Nat.ne_of_lt (Nat.lt_of_lt_of_le (by have := World.block_lt_of_cell? _ _ hw104_3; first | rwa [add_block] at this | exact this) GW107.out)) | (dsimp only; exact Nat.ne_of_lt (Nat.lt_of_lt_of_le (by have := World.block_lt_of_cell? _ _ hw104_3; first | rwa [add_block] at this | exact this) GW107.out))) _).trans (((cell_far (p := ⟨gb107, _, none⟩) (by first | exact Nat.ne_of_lt (Nat.lt_of_lt_of_le (by have := World.block_lt_of_cell? _ _ hw104_3; first | rwa [add_block] at this | exact this) GW107.out) | (rw [add_block]; exact Nat.ne_of_lt (Nat.lt_of_lt_of_le (by have := World.block_lt_of_cell? _ _ hw104_3; first | rwa [add_block] at this | exact this) GW107.out)) | (show (Addr.add _ _).block ≠ _; rw [add_block]; exact Nat.ne_of_lt (Nat.lt_of_lt_of_le (by have := World.block_lt_of_cell? _ _ hw104_3; first | rwa [add_block] at this | exact this) GW107.out)) | (dsimp only; exact Nat.ne_of_lt (Nat.lt_of_lt_of_le (by have := World.block_lt_of_cell? _ _ hw104_3; first | rwa [add_block] at this | exact this) GW107.out))) _).trans (((cell_far (p := ⟨gb107, _, none⟩) (by first | exact Nat.ne_of_lt (Nat.lt_of_lt_of_le (by have := World.block_lt_of_cell? _ _ hw104_3; first | rwa [add_block] at this | exact this) GW107.out) | (rw [add_block]; exact Nat.ne_of_lt (Nat.lt_of_lt_of_le (by have := World.block_lt_of_cell? _ _ hw104_3; first | rwa [add_block] at this | exact this) GW107.out)) | (show (Addr.add _ _).block ≠ _; rw [add_block]; exact Nat.ne_of_lt (Nat.lt_of_lt_of_le (by have := World.block_lt_of_cell? _ _ hw104_3; first | rwa [add_block] at this | exact this) GW107.out)) | (dsimp only; exact Nat.ne_of_lt (Nat.lt_of_lt_of_le (by have := World.block_lt_of_cell? _ _ hw104_3; first | rwa [add_block] at this | exact this) GW107.out))) _).trans (((cell_far (p := ⟨gb107, _, none⟩) (by first | exact Nat.ne_of_lt (Nat.lt_of_lt_of_le (by have := World.block_lt_of_cell? _ _ hw104_3; first | rwa [add_block] at this | exact this) GW107.out) | (rw [add_block]; exact Nat.ne_of_lt (Nat.lt_of_lt_of_le (by have := World.block_lt_of_cell? _ _ hw104_3; first | rwa [add_block] at this | exact this) GW107.out)) | (show (Addr.add _ _).block ≠ _; rw [add_block]; exact Nat.ne_of_lt (Nat.lt_of_lt_of_le (by have := World.block_lt_of_cell? _ _ hw104_3; first | rwa [add_block] at this | exact this) GW107.out)) | (dsimp only; exact Nat.ne_of_lt (Nat.lt_of_lt_of_le (by have := World.block_lt_of_cell? _ _ hw104_3; first | rwa [add_block] at this | exact this) GW107.out))) _).trans (hHeld.2.2.2.1)))))))))), ((cell_far (p := ⟨gb107, _, none⟩) (by first | exact Nat.ne_of_lt (Nat.lt_of_lt_of_le (by have := World.block_lt_of_cell? _ _ hw104_4; first | rwa [add_block] at this | exact this) GW107.out) | (rw [add_block]; exact Nat.ne_of_lt (Nat.lt_of_lt_of_le (by have := World.block_lt_of_cell? _ _ hw104_4; first | rwa [add_block] at this | exact this) GW107.out)) | (show (Addr.add _ _).block ≠ _; rw [add_block]; exact Nat.ne_of_lt (Nat.lt_of_lt_of_le (by have := World.block_lt_of_cell? _ _ hw104_4; first | rwa [add_block] at this | exact this) GW107.out)) | (dsimp only; exact Nat.ne_of_lt (Nat.lt_of_lt_of_le (by have := World.block_lt_of_cell? _ _ hw104_4; first | rwa [add_block] at this | exact this) GW107.out))) _).trans (((cell_far (p := ⟨gb107, _, none⟩) (by first | exact Nat.ne_of_lt (Nat.lt_of_lt_of_le (by have := World.block_lt_of_cell? _ _ hw104_4; first | rwa [add_block] at this | exact this) GW107.out) | (rw [add_block]; exact Nat.ne_of_lt (Nat.lt_of_lt_of_le (by have := World.block_lt_of_cell? _ _ hw104_4; first | rwa [add_block] at this | exact this) GW107.out)) | (show (Addr.add _ _).block ≠ _; rw [add_block]; exact Nat.ne_of_lt (Nat.lt_of_lt_of_le (by have := World.block_lt_of_cell? _ _ hw104_4; first | rwa [add_block] at this | exact this) GW107.out)) | (dsimp only; exact Nat.ne_of_lt (Nat.lt_of_lt_of_le (by have := World.block_lt_of_cell? _ _ hw104_4; first | rwa [add_block] at this | exact this) GW107.out))) _).trans (((cell_far (p := ⟨gb107, _, none⟩) (by first | exact Nat.ne_of_lt (Nat.lt_of_lt_of_le (by have := World.block_lt_of_cell? _ _ hw104_4; first | rwa [add_block] at this | exact this) GW107.out) | (rw [add_block]; exact Nat.ne_of_lt (Nat.lt_of_lt_of_le (by have := World.block_lt_of_cell? _ _ hw104_4; first | rwa [add_block] at this | exact this) GW107.out)) | (show (Addr.add _ _).block ≠ _; rw [add_block]; exact Nat.ne_of_lt (Nat.lt_of_lt_of_le (by have := World.block_lt_of_cell? _ _ hw104_4; first | rwa [add_block] at this | exact this) GW107.out)) | (dsimp only; exact Nat.ne_of_lt (Nat.lt_of_lt_of_le (by have := World.block_lt_of_cell? _ _ hw104_4; first | rwa [add_block] at this | exact this) GW107.out))) _).trans (((cell_far (p := ⟨gb107, _, none⟩) (by first | exact Nat.ne_of_lt (Nat.lt_of_lt_of_le (by have := World.block_lt_of_cell? _ _ hw104_4; first | rwa [add_block] at this | exact this) GW107.out) | (rw [add_block]; exact Nat.ne_of_lt (Nat.lt_of_lt_of_le (by have := World.block_lt_of_cell? _ _ hw104_4; first | rwa [add_block] at this | exact this) GW107.out)) | (show (Addr.add _ _).block ≠ _; rw [add_block]; exact Nat.ne_of_lt (Nat.lt_of_lt_of_le (by have := World.block_lt_of_cell? _ _ hw104_4; first | rwa [add_block] at this | exact this) GW107.out)) | (dsimp only; exact Nat.ne_of_lt (Nat.lt_of_lt_of_le (by have := World.block_lt_of_cell? _ _ hw104_4; first | rwa [add_block] at this | exact this) GW107.out))) _).trans (((cell_far (p := ⟨gb107, _, none⟩) (by first | exact Nat.ne_of_lt (Nat.lt_of_lt_of_le (by have := World.block_lt_of_cell? _ _ hw104_4; first | rwa [add_block] at this | exact this) GW107.out) | (rw [add_block]; exact Nat.ne_of_lt (Nat.lt_of_lt_of_le (by have := World.block_lt_of_cell? _ _ hw104_4; first | rwa [add_block] at this | exact this) GW107.out)) | (show (Addr.add _ _).block ≠ _; rw [add_block]; exact Nat.ne_of_lt (Nat.lt_of_lt_of_le (by have := World.block_lt_of_cell? _ _ hw104_4; first | rwa [add_block] at this | exact this) GW107.out)) | (dsimp only; exact Nat.ne_of_lt (Nat.lt_of_lt_of_le (by have := World.block_lt_of_cell? _ _ hw104_4; first | rwa [add_block] at this | exact this) GW107.out))) _).trans (hHeld.2.2.2.2.1)))))))))), ((cell_far (p := ⟨gb107, _, none⟩) (by first | exact Nat.ne_of_lt (Nat.lt_of_lt_of_le (by have := World.block_lt_of_cell? _ _ hw105_0; first | rwa [add_block] at this | exact this) GW107.out) | (rw [add_block]; exact Nat.ne_of_lt (Nat.lt_of_lt_of_le (by have := World.block_lt_of_cell? _ _ hw105_0; first | rwa [add_block] at this | exact this) GW107.out)) | (show (Addr.add _ _).block ≠ _; rw [add_block]; exact Nat.ne_of_lt (Nat.lt_of_lt_of_le (by have := World.block_lt_of_cell? _ _ hw105_0; first | rwa [add_block] at this | exact this) GW107.out)) | (dsimp only; exact Nat.ne_of_lt (Nat.lt_of_lt_of_le (by have := World.block_lt_of_cell? _ _ hw105_0; first | rwa [add_block] at this | exact this) GW107.out))) _).trans (((cell_far (p := ⟨gb107, _, none⟩) (by first | exact Nat.ne_of_lt (Nat.lt_of_lt_of_le (by have := World.block_lt_of_cell? _ _ hw105_0; first | rwa [add_block] at this | exact this) GW107.out) | (rw [add_block]; exact Nat.ne_of_lt (Nat.lt_of_lt_of_le (by have := World.block_lt_of_cell? _ _ hw105_0; first | rwa [add_block] at this | exact this) GW107.out)) | (show (Addr.add _ _).block ≠ _; rw [add_block]; exact Nat.ne_of_lt (Nat.lt_of_lt_of_le (by have := World.block_lt_of_cell? _ _ hw105_0; first | rwa [add_block] at this | exact this) GW107.out)) | (dsimp only; exact Nat.ne_of_lt (Nat.lt_of_lt_of_le (by have := World.block_lt_of_cell? _ _ hw105_0; first | rwa [add_block] at this | exact this) GW107.out))) _).trans (((cell_far (p := ⟨gb107, _, none⟩) (by first | exact Nat.ne_of_lt (Nat.lt_of_lt_of_le (by have := World.block_lt_of_cell? _ _ hw105_0; first | rwa [add_block] at this | exact this) GW107.out) | (rw [add_block]; exact Nat.ne_of_lt (Nat.lt_of_lt_of_le (by have := World.block_lt_of_cell? _ _ hw105_0; first | rwa [add_block] at this | exact this) GW107.out)) | (show (Addr.add _ _).block ≠ _; rw [add_block]; exact Nat.ne_of_lt (Nat.lt_of_lt_of_le (by have := World.block_lt_of_cell? _ _ hw105_0; first | rwa [add_block] at this | exact this) GW107.out)) | (dsimp only; exact Nat.ne_of_lt (Nat.lt_of_lt_of_le (by have := World.block_lt_of_cell? _ _ hw105_0; first | rwa [add_block] at this | exact this) GW107.out))) _).trans (((cell_far (p := ⟨gb107, _, none⟩) (by first | exact Nat.ne_of_lt (Nat.lt_of_lt_of_le (by have := World.block_lt_of_cell? _ _ hw105_0; first | rwa [add_block] at this | exact this) GW107.out) | (rw [add_block]; exact Nat.ne_of_lt (Nat.lt_of_lt_of_le (by have := World.block_lt_of_cell? _ _ hw105_0; first | rwa [add_block] at this | exact this) GW107.out)) | (show (Addr.add _ _).block ≠ _; rw [add_block]; exact Nat.ne_of_lt (Nat.lt_of_lt_of_le (by have := World.block_lt_of_cell? _ _ hw105_0; first | rwa [add_block] at this | exact this) GW107.out)) | (dsimp only; exact Nat.ne_of_lt (Nat.lt_of_lt_of_le (by have := World.block_lt_of_cell? _ _ hw105_0; first | rwa [add_block] at this | exact this) GW107.out))) _).trans (((cell_far (p := ⟨gb107, _, none⟩) (by first | exact Nat.ne_of_lt (Nat.lt_of_lt_of_le (by have := World.block_lt_of_cell? _ _ hw105_0; first | rwa [add_block] at this | exact this) GW107.out) | (rw [add_block]; exact Nat.ne_of_lt (Nat.lt_of_lt_of_le (by have := World.block_lt_of_cell? _ _ hw105_0; first | rwa [add_block] at this | exact this) GW107.out)) | (show (Addr.add _ _).block ≠ _; rw [add_block]; exact Nat.ne_of_lt (Nat.lt_of_lt_of_le (by have := World.block_lt_of_cell? _ _ hw105_0; first | rwa [add_block] at this | exact this) GW107.out)) | (dsimp only; exact Nat.ne_of_lt (Nat.lt_of_lt_of_le (by have := World.block_lt_of_cell? _ _ hw105_0; first | rwa [add_block] at this | exact this) GW107.out))) _).trans (hHeld.2.2.2.2.2.1)))))))))), ((cell_far (p := ⟨gb107, _, none⟩) (by first | exact Nat.ne_of_lt (Nat.lt_of_lt_of_le (by have := World.block_lt_of_cell? _ _ hw105_1; first | rwa [add_block] at this | exact this) GW107.out) | (rw [add_block]; exact Nat.ne_of_lt (Nat.lt_of_lt_of_le (by have := World.block_lt_of_cell? _ _ hw105_1; first | rwa [add_block] at this | exact this) GW107.out)) | (show (Addr.add _ _).block ≠ _; rw [add_block]; exact Nat.ne_of_lt (Nat.lt_of_lt_of_le (by have := World.block_lt_of_cell? _ _ hw105_1; first | rwa [add_block] at this | exact this) GW107.out)) | (dsimp only; exact Nat.ne_of_lt (Nat.lt_of_lt_of_le (by have := World.block_lt_of_cell? _ _ hw105_1; first | rwa [add_block] at this | exact this) GW107.out))) _).trans (((cell_far (p := ⟨gb107, _, none⟩) (by first | exact Nat.ne_of_lt (Nat.lt_of_lt_of_le (by have := World.block_lt_of_cell? _ _ hw105_1; first | rwa [add_block] at this | exact this) GW107.out) | (rw [add_block]; exact Nat.ne_of_lt (Nat.lt_of_lt_of_le (by have := World.block_lt_of_cell? _ _ hw105_1; first | rwa [add_block] at this | exact this) GW107.out)) | (show (Addr.add _ _).block ≠ _; rw [add_block]; exact Nat.ne_of_lt (Nat.lt_of_lt_of_le (by have := World.block_lt_of_cell? _ _ hw105_1; first | rwa [add_block] at this | exact this) GW107.out)) | (dsimp only; exact Nat.ne_of_lt (Nat.lt_of_lt_of_le (by have := World.block_lt_of_cell? _ _ hw105_1; first | rwa [add_block] at this | exact this) GW107.out))) _).trans (((cell_far (p := ⟨gb107, _, none⟩) (by first | exact Nat.ne_of_lt (Nat.lt_of_lt_of_le (by have := World.block_lt_of_cell? _ _ hw105_1; first | rwa [add_block] at this | exact this) GW107.out) | (rw [add_block]; exact Nat.ne_of_lt (Nat.lt_of_lt_of_le (by have := World.block_lt_of_cell? _ _ hw105_1; first | rwa [add_block] at this | exact this) GW107.out)) | (show (Addr.add _ _).block ≠ _; rw [add_block]; exact Nat.ne_of_lt (Nat.lt_of_lt_of_le (by have := World.block_lt_of_cell? _ _ hw105_1; first | rwa [add_block] at this | exact this) GW107.out)) | (dsimp only; exact Nat.ne_of_lt (Nat.lt_of_lt_of_le (by have := World.block_lt_of_cell? _ _ hw105_1; first | rwa [add_block] at this | exact this) GW107.out))) _).trans (((cell_far (p := ⟨gb107, _, none⟩) (by first | exact Nat.ne_of_lt (Nat.lt_of_lt_of_le (by have := World.block_lt_of_cell? _ _ hw105_1; first | rwa [add_block] at this | exact this) GW107.out) | (rw [add_block]; exact Nat.ne_of_lt (Nat.lt_of_lt_of_le (by have := World.block_lt_of_cell? _ _ hw105_1; first | rwa [add_block] at this | exact this) GW107.out)) | (show (Addr.add _ _).block ≠ _; rw [add_block]; exact Nat.ne_of_lt (Nat.lt_of_lt_of_le (by have := World.block_lt_of_cell? _ _ hw105_1; first | rwa [add_block] at this | exact this) GW107.out)) | (dsimp only; exact Nat.ne_of_lt (Nat.lt_of_lt_of_le (by have := World.block_lt_of_cell? _ _ hw105_1; first | rwa [add_block] at this | exact this) GW107.out))) _).trans (((cell_far (p := ⟨gb107, _, none⟩) (by first | exact Nat.ne_of_lt (Nat.lt_of_lt_of_le (by have := World.block_lt_of_cell? _ _ hw105_1; first | rwa [add_block] at this | exact this) GW107.out) | (rw [add_block]; exact Nat.ne_of_lt (Nat.lt_of_lt_of_le (by have := World.block_lt_of_cell? _ _ hw105_1; first | rwa [add_block] at this | exact this) GW107.out)) | (show (Addr.add _ _).block ≠ _; rw [add_block]; exact Nat.ne_of_lt (Nat.lt_of_lt_of_le (by have := World.block_lt_of_cell? _ _ hw105_1; first | rwa [add_block] at this | exact this) GW107.out)) | (dsimp only; exact Nat.ne_of_lt (Nat.lt_of_lt_of_le (by have := World.block_lt_of_cell? _ _ hw105_1; first | rwa [add_block] at this | exact this) GW107.out))) _).trans (hHeld.2.2.2.2.2.2.1)))))))))), ((cell_far (p := ⟨gb107, _, none⟩) (by first | exact Nat.ne_of_lt (Nat.lt_of_lt_of_le (by have := World.block_lt_of_cell? _ _ hw105_2; first | rwa [add_block] at this | exact this) GW107.out) | (rw [add_block]; exact Nat.ne_of_lt (Nat.lt_of_lt_of_le (by have := World.block_lt_of_cell? _ _ hw105_2; first | rwa [add_block] at this | exact this) GW107.out)) | (show (Addr.add _ _).block ≠ _; rw [add_block]; exact Nat.ne_of_lt (Nat.lt_of_lt_of_le (by have := World.block_lt_of_cell? _ _ hw105_2; first | rwa [add_block] at this | exact this) GW107.out)) | (dsimp only; exact Nat.ne_of_lt (Nat.lt_of_lt_of_le (by have := World.block_lt_of_cell? _ _ hw105_2; first | rwa [add_block] at this | exact this) GW107.out))) _).trans (((cell_far (p := ⟨gb107, _, none⟩) (by first | exact Nat.ne_of_lt (Nat.lt_of_lt_of_le (by have := World.block_lt_of_cell? _ _ hw105_2; first | rwa [add_block] at this | exact this) GW107.out) | (rw [add_block]; exact Nat.ne_of_lt (Nat.lt_of_lt_of_le (by have := World.block_lt_of_cell? _ _ hw105_2; first | rwa [add_block] at this | exact this) GW107.out)) | (show (Addr.add _ _).block ≠ _; rw [add_block]; exact Nat.ne_of_lt (Nat.lt_of_lt_of_le (by have := World.block_lt_of_cell? _ _ hw105_2; first | rwa [add_block] at this | exact this) GW107.out)) | (dsimp only; exact Nat.ne_of_lt (Nat.lt_of_lt_of_le (by have := World.block_lt_of_cell? _ _ hw105_2; first | rwa [add_block] at this | exact this) GW107.out))) _).trans (((cell_far (p := ⟨gb107, _, none⟩) (by first | exact Nat.ne_of_lt (Nat.lt_of_lt_of_le (by have := World.block_lt_of_cell? _ _ hw105_2; first | rwa [add_block] at this | exact this) GW107.out) | (rw [add_block]; exact Nat.ne_of_lt (Nat.lt_of_lt_of_le (by have := World.block_lt_of_cell? _ _ hw105_2; first | rwa [add_block] at this | exact this) GW107.out)) | (show (Addr.add _ _).block ≠ _; rw [add_block]; exact Nat.ne_of_lt (Nat.lt_of_lt_of_le (by have := World.block_lt_of_cell? _ _ hw105_2; first | rwa [add_block] at this | exact this) GW107.out)) | (dsimp only; exact Nat.ne_of_lt (Nat.lt_of_lt_of_le (by have := World.block_lt_of_cell? _ _ hw105_2; first | rwa [add_block] at this | exact this) GW107.out))) _).trans (((cell_far (p := ⟨gb107, _, none⟩) (by first | exact Nat.ne_of_lt (Nat.lt_of_lt_of_le (by have := World.block_lt_of_cell? _ _ hw105_2; first | rwa [add_block] at this | exact this) GW107.out) | (rw [add_block]; exact Nat.ne_of_lt (Nat.lt_of_lt_of_le (by have := World.block_lt_of_cell? _ _ hw105_2; first | rwa [add_block] at this | exact this) GW107.out)) | (show (Addr.add _ _).block ≠ _; rw [add_block]; exact Nat.ne_of_lt (Nat.lt_of_lt_of_le (by have := World.block_lt_of_cell? _ _ hw105_2; first | rwa [add_block] at this | exact this) GW107.out)) | (dsimp only; exact Nat.ne_of_lt (Nat.lt_of_lt_of_le (by have := World.block_lt_of_cell? _ _ hw105_2; first | rwa [add_block] at this | exact this) GW107.out))) _).trans (((cell_far (p := ⟨gb107, _, none⟩) (by first | exact Nat.ne_of_lt (Nat.lt_of_lt_of_le (by have := World.block_lt_of_cell? _ _ hw105_2; first | rwa [add_block] at this | exact this) GW107.out) | (rw [add_block]; exact Nat.ne_of_lt (Nat.lt_of_lt_of_le (by have := World.block_lt_of_cell? _ _ hw105_2; first | rwa [add_block] at this | exact this) GW107.out)) | (show (Addr.add _ _).block ≠ _; rw [add_block]; exact Nat.ne_of_lt (Nat.lt_of_lt_of_le (by have := World.block_lt_of_cell? _ _ hw105_2; first | rwa [add_block] at this | exact this) GW107.out)) | (dsimp only; exact Nat.ne_of_lt (Nat.lt_of_lt_of_le (by have := World.block_lt_of_cell? _ _ hw105_2; first | rwa [add_block] at this | exact this) GW107.out))) _).trans (hHeld.2.2.2.2.2.2.2.1)))))))))), ((cell_far (p := ⟨gb107, _, none⟩) (by first | exact Nat.ne_of_lt (Nat.lt_of_lt_of_le (by have := World.block_lt_of_cell? _ _ hw105_3; first | rwa [add_block] at this | exact this) GW107.out) | (rw [add_block]; exact Nat.ne_of_lt (Nat.lt_of_lt_of_le (by have := World.block_lt_of_cell? _ _ hw105_3; first | rwa [add_block] at this | exact this) GW107.out)) | (show (Addr.add _ _).block ≠ _; rw [add_block]; exact Nat.ne_of_lt (Nat.lt_of_lt_of_le (by have := World.block_lt_of_cell? _ _ hw105_3; first | rwa [add_block] at this | exact this) GW107.out)) | (dsimp only; exact Nat.ne_of_lt (Nat.lt_of_lt_of_le (by have := World.block_lt_of_cell? _ _ hw105_3; first | rwa [add_block] at this | exact this) GW107.out))) _).trans (((cell_far (p := ⟨gb107, _, none⟩) (by first | exact Nat.ne_of_lt (Nat.lt_of_lt_of_le (by have := World.block_lt_of_cell? _ _ hw105_3; first | rwa [add_block] at this | exact this) GW107.out) | (rw [add_block]; exact Nat.ne_of_lt (Nat.lt_of_lt_of_le (by have := World.block_lt_of_cell? _ _ hw105_3; first | rwa [add_block] at this | exact this) GW107.out)) | (show (Addr.add _ _).block ≠ _; rw [add_block]; exact Nat.ne_of_lt (Nat.lt_of_lt_of_le (by have := World.block_lt_of_cell? _ _ hw105_3; first | rwa [add_block] at this | exact this) GW107.out)) | (dsimp only; exact Nat.ne_of_lt (Nat.lt_of_lt_of_le (by have := World.block_lt_of_cell? _ _ hw105_3; first | rwa [add_block] at this | exact this) GW107.out))) _).trans (((cell_far (p := ⟨gb107, _, none⟩) (by first | exact Nat.ne_of_lt (Nat.lt_of_lt_of_le (by have := World.block_lt_of_cell? _ _ hw105_3; first | rwa [add_block] at this | exact this) GW107.out) | (rw [add_block]; exact Nat.ne_of_lt (Nat.lt_of_lt_of_le (by have := World.block_lt_of_cell? _ _ hw105_3; first | rwa [add_block] at this | exact this) GW107.out)) | (show (Addr.add _ _).block ≠ _; rw [add_block]; exact Nat.ne_of_lt (Nat.lt_of_lt_of_le (by have := World.block_lt_of_cell? _ _ hw105_3; first | rwa [add_block] at this | exact this) GW107.out)) | (dsimp only; exact Nat.ne_of_lt (Nat.lt_of_lt_of_le (by have := World.block_lt_of_cell? _ _ hw105_3; first | rwa [add_block] at this | exact this) GW107.out))) _).trans (((cell_far (p := ⟨gb107, _, none⟩) (by first | exact Nat.ne_of_lt (Nat.lt_of_lt_of_le (by have := World.block_lt_of_cell? _ _ hw105_3; first | rwa [add_block] at this | exact this) GW107.out) | (rw [add_block]; exact Nat.ne_of_lt (Nat.lt_of_lt_of_le (by have := World.block_lt_of_cell? _ _ hw105_3; first | rwa [add_block] at this | exact this) GW107.out)) | (show (Addr.add _ _).block ≠ _; rw [add_block]; exact Nat.ne_of_lt (Nat.lt_of_lt_of_le (by have := World.block_lt_of_cell? _ _ hw105_3; first | rwa [add_block] at this | exact this) GW107.out)) | (dsimp only; exact Nat.ne_of_lt (Nat.lt_of_lt_of_le (by have := World.block_lt_of_cell? _ _ hw105_3; first | rwa [add_block] at this | exact this) GW107.out))) _).trans (((cell_far (p := ⟨gb107, _, none⟩) (by first | exact Nat.ne_of_lt (Nat.lt_of_lt_of_le (by have := World.block_lt_of_cell? _ _ hw105_3; first | rwa [add_block] at this | exact this) GW107.out) | (rw [add_block]; exact Nat.ne_of_lt (Nat.lt_of_lt_of_le (by have := World.block_lt_of_cell? _ _ hw105_3; first | rwa [add_block] at this | exact this) GW107.out)) | (show (Addr.add _ _).block ≠ _; rw [add_block]; exact Nat.ne_of_lt (Nat.lt_of_lt_of_le (by have := World.block_lt_of_cell? _ _ hw105_3; first | rwa [add_block] at this | exact this) GW107.out)) | (dsimp only; exact Nat.ne_of_lt (Nat.lt_of_lt_of_le (by have := World.block_lt_of_cell? _ _ hw105_3; first | rwa [add_block] at this | exact this) GW107.out))) _).trans (hHeld.2.2.2.2.2.2.2.2.1)))))))))), ((cell_far (p := ⟨gb107, _, none⟩) (by first | exact Nat.ne_of_lt (Nat.lt_of_lt_of_le (by have := World.block_lt_of_cell? _ _ hw105_4; first | rwa [add_block] at this | exact this) GW107.out) | (rw [add_block]; exact Nat.ne_of_lt (Nat.lt_of_lt_of_le (by have := World.block_lt_of_cell? _ _ hw105_4; first | rwa [add_block] at this | exact this) GW107.out)) | (show (Addr.add _ _).block ≠ _; rw [add_block]; exact Nat.ne_of_lt (Nat.lt_of_lt_of_le (by have := World.block_lt_of_cell? _ _ hw105_4; first | rwa [add_block] at this | exact this) GW107.out)) | (dsimp only; exact Nat.ne_of_lt (Nat.lt_of_lt_of_le (by have := World.block_lt_of_cell? _ _ hw105_4; first | rwa [add_block] at this | exact this) GW107.out))) _).trans (((cell_far (p := ⟨gb107, _, none⟩) (by first | exact Nat.ne_of_lt (Nat.lt_of_lt_of_le (by have := World.block_lt_of_cell? _ _ hw105_4; first | rwa [add_block] at this | exact this) GW107.out) | (rw [add_block]; exact Nat.ne_of_lt (Nat.lt_of_lt_of_le (by have := World.block_lt_of_cell? _ _ hw105_4; first | rwa [add_block] at this | exact this) GW107.out)) | (show (Addr.add _ _).block ≠ _; rw [add_block]; exact Nat.ne_of_lt (Nat.lt_of_lt_of_le (by have := World.block_lt_of_cell? _ _ hw105_4; first | rwa [add_block] at this | exact this) GW107.out)) | (dsimp only; exact Nat.ne_of_lt (Nat.lt_of_lt_of_le (by have := World.block_lt_of_cell? _ _ hw105_4; first | rwa [add_block] at this | exact this) GW107.out))) _).trans (((cell_far (p := ⟨gb107, _, none⟩) (by first | exact Nat.ne_of_lt (Nat.lt_of_lt_of_le (by have := World.block_lt_of_cell? _ _ hw105_4; first | rwa [add_block] at this | exact this) GW107.out) | (rw [add_block]; exact Nat.ne_of_lt (Nat.lt_of_lt_of_le (by have := World.block_lt_of_cell? _ _ hw105_4; first | rwa [add_block] at this | exact this) GW107.out)) | (show (Addr.add _ _).block ≠ _; rw [add_block]; exact Nat.ne_of_lt (Nat.lt_of_lt_of_le (by have := World.block_lt_of_cell? _ _ hw105_4; first | rwa [add_block] at this | exact this) GW107.out)) | (dsimp only; exact Nat.ne_of_lt (Nat.lt_of_lt_of_le (by have := World.block_lt_of_cell? _ _ hw105_4; first | rwa [add_block] at this | exact this) GW107.out))) _).trans (((cell_far (p := ⟨gb107, _, none⟩) (by first | exact Nat.ne_of_lt (Nat.lt_of_lt_of_le (by have := World.block_lt_of_cell? _ _ hw105_4; first | rwa [add_block] at this | exact this) GW107.out) | (rw [add_block]; exact Nat.ne_of_lt (Nat.lt_of_lt_of_le (by have := World.block_lt_of_cell? _ _ hw105_4; first | rwa [add_block] at this | exact this) GW107.out)) | (show (Addr.add _ _).block ≠ _; rw [add_block]; exact Nat.ne_of_lt (Nat.lt_of_lt_of_le (by have := World.block_lt_of_cell? _ _ hw105_4; first | rwa [add_block] at this | exact this) GW107.out)) | (dsimp only; exact Nat.ne_of_lt (Nat.lt_of_lt_of_le (by have := World.block_lt_of_cell? _ _ hw105_4; first | rwa [add_block] at this | exact this) GW107.out))) _).trans (((cell_far (p := ⟨gb107, _, none⟩) (by first | exact Nat.ne_of_lt (Nat.lt_of_lt_of_le (by have := World.block_lt_of_cell? _ _ hw105_4; first | rwa [add_block] at this | exact this) GW107.out) | (rw [add_block]; exact Nat.ne_of_lt (Nat.lt_of_lt_of_le (by have := World.block_lt_of_cell? _ _ hw105_4; first | rwa [add_block] at this | exact this) GW107.out)) | (show (Addr.add _ _).block ≠ _; rw [add_block]; exact Nat.ne_of_lt (Nat.lt_of_lt_of_le (by have := World.block_lt_of_cell? _ _ hw105_4; first | rwa [add_block] at this | exact this) GW107.out)) | (dsimp only; exact Nat.ne_of_lt (Nat.lt_of_lt_of_le (by have := World.block_lt_of_cell? _ _ hw105_4; first | rwa [add_block] at this | exact this) GW107.out))) _).trans (hHeld.2.2.2.2.2.2.2.2.2))))))))))⟩ (fun hHeld => ?_)
      clear hK K
      refine done_ (done_of HT_.out (by kernel_rfl)) ?_
      have hnb42 := NB106_107.out
      have hnc42 := NB107_106.out
      have hcz43_0 : w31.cell? ⟨gb106, 0, none⟩ = some (.bool false) := (blk_cell BK106.out 0).trans rfl
      have hcz43_1 : w31.cell? ⟨gb106, 1, none⟩ = some (.string (⟨#[]⟩ : ByteArray)) := (blk_cell BK106.out 1).trans rfl
      have hcz43_2 : w31.cell? ⟨gb106, 2, none⟩ = some (.int .i64 0) := (blk_cell BK106.out 2).trans rfl
      have hcz43_3 : w31.cell? ⟨gb106, 3, none⟩ = some (.float .f64 0) := (blk_cell BK106.out 3).trans rfl
      have hcz43_4 : w31.cell? ⟨gb106, 4, none⟩ = some (.bool false) := (blk_cell BK106.out 4).trans rfl
      have hfz43_0 := blk_frozen BK106.out 0
      have hfz43_1 := blk_frozen BK106.out 1
      have hfz43_2 := blk_frozen BK106.out 2
      have hfz43_3 := blk_frozen BK106.out 3
      have hfz43_4 := blk_frozen BK106.out 4
      have hcz44_0 : w31.cell? ⟨gb107, 0, none⟩ = some (.bool false) := (blk_cell BK107.out 0).trans rfl
      have hcz44_1 : w31.cell? ⟨gb107, 1, none⟩ = some (.string (⟨#[]⟩ : ByteArray)) := (blk_cell BK107.out 1).trans rfl
      have hcz44_2 : w31.cell? ⟨gb107, 2, none⟩ = some (.int .i64 0) := (blk_cell BK107.out 2).trans rfl
      have hcz44_3 : w31.cell? ⟨gb107, 3, none⟩ = some (.float .f64 0) := (blk_cell BK107.out 3).trans rfl
      have hcz44_4 : w31.cell? ⟨gb107, 4, none⟩ = some (.bool false) := (blk_cell BK107.out 4).trans rfl
      have hfz44_0 := blk_frozen BK107.out 0
      have hfz44_1 := blk_frozen BK107.out 1
      have hfz44_2 := blk_frozen BK107.out 2
      have hfz44_3 := blk_frozen BK107.out 3
      have hfz44_4 := blk_frozen BK107.out 4
      have q3 := Q3.out
      have q3' := Q3'.out
      have hfn := flt_neq
      go_wp2
      go_roundg (l0.length - x5_1.toNat)
      case measure => have := HK1.out; have := HC4.out; have := HX5.out; omega
      case rel => exact ⟨x5_1 + 1, by first | rfl | (rw [HX1.out]; done) | go_num, ⟨by have := HC4.out; have := HX5.out; omega⟩, ⟨by have := HC4.out; have := HX5.out; omega⟩, ⟨by repeat (first | (with_reducible first | exact HB.out | apply below_alloc | apply pw_below_drewN | apply below_drew1 | refine below_set ?_ GE106.out | refine below_set ?_ GE107.out) | exact HB.out)⟩⟩
    · have c4b0 : decide (x5_1 < (l0.length : Int)) = false := decide_eq_false c4
      clear c4
      go_wp2
      go_ret
      exact ⟨rfl, HB.out⟩

/-! ### laws_FnParsed: function 3 -/
mutual
def laws_FnParsed.j0 : Nat → ByteArray → ByteArray → Bool → Option (Bool)
  | 0, _, _, _ => none
  | k + 1, x0, x1, x19 => if x19 = true then (some true) else (if (x0.size : Int) > 2000 then (laws_FnParsed.j1 k x0 x1 true) else ((laws_delimiter.f x1).bind fun t105 => (laws_FnParsed.j1 k x0 x1 (!t105))))
def laws_FnParsed.j1 : Nat → ByteArray → ByteArray → Bool → Option (Bool)
  | 0, _, _, _ => none
  | k + 1, x0, x1, x27 => if x27 = true then (some true) else ((spec_Array.f x0 x1).bind fun bt106 => (if bt106.2.2.2 = true then ((impl_Parsed.f x0 x1).bind fun bt114 => (if bt106.2.2.1 = true then (if bt114.2.2 = true then ((spec_SameInts.f k bt114.1 bt106.1).bind fun t121 => (if t121 = true then ((spec_SameItems.f bt106.2.1 bt114.2.1).bind fun t122 => (some t122)) else (some false))) else (some false)) else (some (!bt114.2.2)))) else (some true)))
end
def laws_FnParsed.f (k : Nat) (a0 : ByteArray) (a1 : ByteArray) : Option (Bool) := if (a0.size : Int) > 2147483647 then (laws_FnParsed.j0 k a0 a1 true) else (laws_FnParsed.j0 k a0 a1 (decide ((a1.size : Int) > 2147483647)))
theorem laws_FnParsed.mono_l : ∀ k, (∀ y0 y1 y2, LeO (laws_FnParsed.j0 k y0 y1 y2) (laws_FnParsed.j0 (k + 1) y0 y1 y2)) ∧ (∀ y0 y1 y2, LeO (laws_FnParsed.j1 k y0 y1 y2) (laws_FnParsed.j1 (k + 1) y0 y1 y2))
  | 0 => ⟨fun _ _ _ r h => by simp [laws_FnParsed.j0] at h, fun _ _ _ r h => by simp [laws_FnParsed.j1] at h⟩
  | k + 1 => by
    obtain ⟨ih0, ih1⟩ := laws_FnParsed.mono_l k
    refine ⟨?_, ?_⟩
    · intro y0 y1 y2
      unfold laws_FnParsed.j0
      repeat' first
      | (with_reducible exact ih0 _ _ _)
      | (with_reducible exact ih1 _ _ _)
      | (with_reducible exact spec_SameInts.mono _ _ _)
      | (with_reducible exact LeO.refl _)
      | (with_reducible exact LeO.none _)
      | (with_reducible refine LeO.ite ?_ ?_)
      | (with_reducible refine LeO.bind ?_ (fun _ => ?_))
      | exact ih0 _ _ _
      | exact ih1 _ _ _
      | exact spec_SameInts.mono _ _ _
      | exact LeO.none _
      | refine LeO.ite ?_ ?_
      | refine LeO.bind ?_ (fun _ => ?_)
    · intro y0 y1 y2
      unfold laws_FnParsed.j1
      repeat' first
      | (with_reducible exact ih0 _ _ _)
      | (with_reducible exact ih1 _ _ _)
      | (with_reducible exact spec_SameInts.mono _ _ _)
      | (with_reducible exact LeO.refl _)
      | (with_reducible exact LeO.none _)
      | (with_reducible refine LeO.ite ?_ ?_)
      | (with_reducible refine LeO.bind ?_ (fun _ => ?_))
      | exact ih0 _ _ _
      | exact ih1 _ _ _
      | exact spec_SameInts.mono _ _ _
      | exact LeO.none _
      | refine LeO.ite ?_ ?_
      | refine LeO.bind ?_ (fun _ => ?_)
theorem laws_FnParsed.mono : ∀ a0 a1 k, LeO (laws_FnParsed.f k a0 a1) (laws_FnParsed.f (k + 1) a0 a1) := by
  intro a0 a1 k
  obtain ⟨ih0, ih1⟩ := laws_FnParsed.mono_l k
  unfold laws_FnParsed.f
  repeat' first
      | (with_reducible exact ih0 _ _ _)
      | (with_reducible exact ih1 _ _ _)
      | (with_reducible exact spec_SameInts.mono _ _ _)
      | (with_reducible exact LeO.refl _)
      | (with_reducible exact LeO.none _)
      | (with_reducible refine LeO.ite ?_ ?_)
      | (with_reducible refine LeO.bind ?_ (fun _ => ?_))
      | exact ih0 _ _ _
      | exact ih1 _ _ _
      | exact spec_SameInts.mono _ _ _
      | exact LeO.none _
      | refine LeO.ite ?_ ?_
      | refine LeO.bind ?_ (fun _ => ?_)
set_option maxHeartbeats 8000000 in
set_option maxRecDepth 100000 in
theorem laws_FnParsed.calls (k : Nat) (a0 : ByteArray) (a1 : ByteArray) (r : Bool) (w : World) (h : laws_FnParsed.f k a0 a1 = some r) :
    Calls Try.prog 3 #[.string a0, .string a1] w fun e w' => e = .returned (.bool r) ∧ Below w.heap.size w w' := by
  have HB := Aside0.mk (Below.refl w.heap.size w)
  have H : (if (a0.size : Int) > 2147483647 then (laws_FnParsed.j0 k a0 a1 true) else (laws_FnParsed.j0 k a0 a1 (decide ((a1.size : Int) > 2147483647)))) = some r := h
  clear h
  have HC3 := Aside0.mk H
  clear H
  go_enter Try.func3, Try.ntmps3
  go_upto_region 1 with (fail)
  go_cut [19] (fun v19 wc => ∃ (kq : Nat) (x19_2 : Bool), v19 = .bool x19_2 ∧ Aside0 (laws_FnParsed.j0 kq a0 a1 x19_2 = some r) ∧ Aside0 (kq ≤ k) ∧ Aside0 (Below w.heap.size w wc))
  case first =>
    have H := HC3.out
    clear HC3
    by_cases c4 : (a0.size : Int) > 2147483647
    · rw [if_pos c4] at H
      have c4b0 : decide (2147483647 < (a0.size : Int)) = true := decide_eq_true c4
      have c4b1 : decide (2147483647 < a0.size) = true := decide_eq_true (by omega)
      clear c4
      (first | rw [c4b0] | (simp only [i64_w, i32_w]; rw [c4b0]) | skip)
      have H' := Aside0.mk H
      clear H
      go_wp2
      go_meet
      case rel => exact ⟨_, (true), (by first | rfl | (simp; done) | (simp [*]; done)), H', ⟨by first | omega | exact Nat.le_refl _⟩, ⟨by repeat (first | (with_reducible first | exact HB.out | apply below_alloc | apply pw_below_drewN | apply below_drew1) | exact HB.out)⟩⟩
    · rw [if_neg c4] at H
      have c4b0 : decide (2147483647 < (a0.size : Int)) = false := decide_eq_false c4
      have c4b1 : decide (2147483647 < a0.size) = false := decide_eq_false (by omega)
      clear c4
      (first | rw [c4b0] | (simp only [i64_w, i32_w]; rw [c4b0]) | skip)
      have H' := Aside0.mk H
      clear H
      go_wp2
      go_meet
      case rel => exact ⟨_, (decide ((a1.size : Int) > 2147483647)), (by first | rfl | (simp; done) | (simp [*]; done)), H', ⟨by first | omega | exact Nat.le_refl _⟩, ⟨by repeat (first | (with_reducible first | exact HB.out | apply below_alloc | apply pw_below_drewN | apply below_drew1) | exact HB.out)⟩⟩
  case rest =>
    clear HC3
    try clear p2
    try clear c3
    try clear c4
    try clear c4b0
    try clear c4b1
    obtain ⟨kq, x19_2, rfl, HA, HJ2, HB⟩ := hcut
    cases kq with
    | zero => exact absurd HA.out (by simp [laws_FnParsed.j0])
    | succ kj2 =>
      have H := HA.out
      clear HA
      simp only [laws_FnParsed.j0] at H
      by_cases c5 : x19_2 = true
      · subst c5
        have H1 : (some true) = some r := by rw [if_pos rfl] at H; exact H
        clear H
        have H := H1
        clear H1
        obtain rfl := Option.some.inj H
        go_wp2
        go_ret
        exact ⟨by first | rfl | (simp [errW_none, errW_some] <;> rfl) | (simp [*, errW_none, errW_some] <;> rfl), by repeat (first | (with_reducible first | exact HB.out | apply below_alloc | apply pw_below_drewN | apply below_drew1) | exact HB.out)⟩
      · replace c5 := Bool.eq_false_iff.mpr c5
        subst c5
        have H1 : (if (a0.size : Int) > 2000 then (laws_FnParsed.j1 kj2 a0 a1 true) else ((laws_delimiter.f a1).bind fun t105 => (laws_FnParsed.j1 kj2 a0 a1 (!t105)))) = some r := by rw [if_neg (show ¬ (false = true) by decide)] at H; exact H
        clear H
        have H := H1
        clear H1
        have HC6 := Aside0.mk H
        clear H
        go_upto_region 3 with (fail)
        go_cut [27] (fun v27 wc => ∃ (kq : Nat) (x27_5 : Bool), v27 = .bool x27_5 ∧ Aside0 (laws_FnParsed.j1 kq a0 a1 x27_5 = some r) ∧ Aside0 (kq ≤ kj2) ∧ Aside0 (Below w.heap.size w wc))
        case first =>
          have H := HC6.out
          clear HC6
          by_cases c7 : (a0.size : Int) > 2000
          · rw [if_pos c7] at H
            have c7b0 : decide (2000 < (a0.size : Int)) = true := decide_eq_true c7
            have c7b1 : decide (2000 < a0.size) = true := decide_eq_true (by omega)
            clear c7
            (first | rw [c7b0] | (simp only [i64_w, i32_w]; rw [c7b0]) | skip)
            have H' := Aside0.mk H
            clear H
            go_wp2
            go_meet
            case rel => exact ⟨_, (true), (by first | rfl | (simp; done) | (simp [*]; done)), H', ⟨by have := HJ2.out; first | omega | exact Nat.le_refl _⟩, ⟨by repeat (first | (with_reducible first | exact HB.out | apply below_alloc | apply pw_below_drewN | apply below_drew1) | exact HB.out)⟩⟩
          · rw [if_neg c7] at H
            have c7b0 : decide (2000 < (a0.size : Int)) = false := decide_eq_false c7
            have c7b1 : decide (2000 < a0.size) = false := decide_eq_false (by omega)
            clear c7
            (first | rw [c7b0] | (simp only [i64_w, i32_w]; rw [c7b0]) | skip)
            replace H := Option.bind_eq_some_iff.mp H
            obtain ⟨t105, A80, H⟩ := H
            replace H : (laws_FnParsed.j1 kj2 a0 a1 (!t105)) = some r := H
            have A8 := Aside0.mk A80
            clear A80
            have H' := Aside0.mk H
            clear H
            go_wp2_with (first | (go_at_call 7; (with_reducible refine (laws_delimiter.calls a1 t105 _ A8.out).mono ?_); rintro e w' ⟨rfl, ⟨nd, rfl⟩⟩))
            go_meet
            case rel => exact ⟨_, (!t105), (by first | rfl | (simp; done) | (simp [*]; done)), H', ⟨by have := HJ2.out; first | omega | exact Nat.le_refl _⟩, ⟨by repeat (first | (with_reducible first | exact HB.out | apply below_alloc | apply pw_below_drewN | apply below_drew1) | exact HB.out)⟩⟩
        case rest =>
          clear HC6
          try clear p2
          try clear c3
          try clear c4
          try clear c4b0
          try clear c4b1
          try clear c5
          try clear c7
          try clear c7b0
          try clear c7b1
          try clear p2
          obtain ⟨kq, x27_5, rfl, HA, HJ5, HB⟩ := hcut
          cases kq with
          | zero => exact absurd HA.out (by simp [laws_FnParsed.j1])
          | succ kj5 =>
            have H := HA.out
            clear HA
            simp only [laws_FnParsed.j1] at H
            by_cases c9 : x27_5 = true
            · subst c9
              have H1 : (some true) = some r := by rw [if_pos rfl] at H; exact H
              clear H
              have H := H1
              clear H1
              obtain rfl := Option.some.inj H
              go_wp2
              go_ret
              exact ⟨by first | rfl | (simp [errW_none, errW_some] <;> rfl) | (simp [*, errW_none, errW_some] <;> rfl), by repeat (first | (with_reducible first | exact HB.out | apply below_alloc | apply pw_below_drewN | apply below_drew1) | exact HB.out)⟩
            · replace c9 := Bool.eq_false_iff.mpr c9
              subst c9
              have H1 : ((spec_Array.f a0 a1).bind fun bt106 => (if bt106.2.2.2 = true then ((impl_Parsed.f a0 a1).bind fun bt114 => (if bt106.2.2.1 = true then (if bt114.2.2 = true then ((spec_SameInts.f kj5 bt114.1 bt106.1).bind fun t121 => (if t121 = true then ((spec_SameItems.f bt106.2.1 bt114.2.1).bind fun t122 => (some t122)) else (some false))) else (some false)) else (some (!bt114.2.2)))) else (some true))) = some r := by rw [if_neg (show ¬ (false = true) by decide)] at H; exact H
              clear H
              have H := H1
              clear H1
              replace H := Option.bind_eq_some_iff.mp H
              obtain ⟨⟨t106, t107, t108, t109⟩, A100, H⟩ := H
              replace H : (if t109 = true then ((impl_Parsed.f a0 a1).bind fun bt114 => (if t108 = true then (if bt114.2.2 = true then ((spec_SameInts.f kj5 bt114.1 t106).bind fun t121 => (if t121 = true then ((spec_SameItems.f t107 bt114.2.1).bind fun t122 => (some t122)) else (some false))) else (some false)) else (some (!bt114.2.2)))) else (some true)) = some r := H
              have A10 := Aside0.mk A100
              clear A100
              by_cases c11 : t109 = true
              · subst c11
                have H1 : ((impl_Parsed.f a0 a1).bind fun bt114 => (if t108 = true then (if bt114.2.2 = true then ((spec_SameInts.f kj5 bt114.1 t106).bind fun t121 => (if t121 = true then ((spec_SameItems.f t107 bt114.2.1).bind fun t122 => (some t122)) else (some false))) else (some false)) else (some (!bt114.2.2)))) = some r := by rw [if_pos rfl] at H; exact H
                clear H
                have H := H1
                clear H1
                replace H := Option.bind_eq_some_iff.mp H
                obtain ⟨⟨t114, t115, t116⟩, A120, H⟩ := H
                replace H : (if t108 = true then (if t116 = true then ((spec_SameInts.f kj5 t114 t106).bind fun t121 => (if t121 = true then ((spec_SameItems.f t107 t115).bind fun t122 => (some t122)) else (some false))) else (some false)) else (some (!t116))) = some r := H
                have A12 := Aside0.mk A120
                clear A120
                by_cases c13 : t108 = true
                · subst c13
                  have H1 : (if t116 = true then ((spec_SameInts.f kj5 t114 t106).bind fun t121 => (if t121 = true then ((spec_SameItems.f t107 t115).bind fun t122 => (some t122)) else (some false))) else (some false)) = some r := by rw [if_pos rfl] at H; exact H
                  clear H
                  have H := H1
                  clear H1
                  by_cases c14 : t116 = true
                  · subst c14
                    have H1 : ((spec_SameInts.f kj5 t114 t106).bind fun t121 => (if t121 = true then ((spec_SameItems.f t107 t115).bind fun t122 => (some t122)) else (some false))) = some r := by rw [if_pos rfl] at H; exact H
                    clear H
                    have H := H1
                    clear H1
                    replace H := Option.bind_eq_some_iff.mp H
                    obtain ⟨t121, A150, H⟩ := H
                    replace H : (if t121 = true then ((spec_SameItems.f t107 t115).bind fun t122 => (some t122)) else (some false)) = some r := H
                    have A15 := Aside0.mk A150
                    clear A150
                    by_cases c16 : t121 = true
                    · subst c16
                      have H1 : ((spec_SameItems.f t107 t115).bind fun t122 => (some t122)) = some r := by rw [if_pos rfl] at H; exact H
                      clear H
                      have H := H1
                      clear H1
                      replace H := Option.bind_eq_some_iff.mp H
                      obtain ⟨t122, A170, H⟩ := H
                      replace H : (some t122) = some r := H
                      have A17 := Aside0.mk A170
                      clear A170
                      obtain rfl := Option.some.inj H
                      go_wp2_with (first | ((with_reducible refine gate_callee (f := 8) rfl ?_); refine goesL_ (some 31) rfl rfl Try.func8 (by kernel_rfl) rfl #[.string a0, .string a1] rfl (by (try simp only [List.map_toArray, List.map_cons, List.map_nil]); first | done | rfl | (simp only [List.length_drop, List.length_take]; rfl)) ?_; (with_reducible refine (spec_Array.calls a0 a1 t106 t107 true true _ A10.out).mono ?_); rintro e w18 ⟨v110, v112, rfl, ho0, ho1, hb⟩; refine ⟨_, rfl, ?_⟩; have n0_ := Aside0.mk (Kd.R_lower ho0 (below_size (by repeat (first | (with_reducible first | exact HB.out | apply below_alloc | apply pw_below_drewN | apply below_drew1) | exact HB.out)))); have n1_ := Aside0.mk (Kd.R_lower ho1 (below_size (by repeat (first | (with_reducible first | exact HB.out | apply below_alloc | apply pw_below_drewN | apply below_drew1) | exact HB.out)))); have n2_ := Aside0.mk (below_step (by repeat (first | (with_reducible first | exact HB.out | apply below_alloc | apply pw_below_drewN | apply below_drew1) | exact HB.out)) hb); clear HB; have HO111 := n0_; have HO113 := n1_; have HB := n2_; clear n0_ n1_ n2_; (try clear hb); (try clear hb2); (try clear hk); (try clear hi); (try clear ho0); (try clear ho1)) | ((with_reducible refine gate_callee (f := 9) rfl ?_); refine goesL_ (some 41) rfl rfl Try.func9 (by kernel_rfl) rfl #[.string a0, .string a1] rfl (by (try simp only [List.map_toArray, List.map_cons, List.map_nil]); first | done | rfl | (simp only [List.length_drop, List.length_take]; rfl)) ?_; (with_reducible refine (impl_Parsed.calls a0 a1 t114 t115 true _ A12.out).mono ?_); rintro e w19 ⟨v117, v119, rfl, ho0, ho1, hb⟩; refine ⟨_, rfl, ?_⟩; have n0_ := Aside0.mk (Kd.R_elder' (by (with_reducible repeat (first | apply Kd.R_alloc | apply Kd.R_drewN | apply Kd.R_drew)); exact HO111.out) (Kd.R_base ho0) hb); have n1_ := Aside0.mk (Kd.R_elder' (by (with_reducible repeat (first | apply Kd.R_alloc | apply Kd.R_drewN | apply Kd.R_drew)); exact HO113.out) (Kd.R_base ho1) hb); have n2_ := Aside0.mk (Kd.R_lower (Kd.R_new' ho0 (Kd.R_lt (by (with_reducible repeat (first | apply Kd.R_alloc | apply Kd.R_drewN | apply Kd.R_drew)); exact HO111.out))) (below_size (by repeat (first | (with_reducible first | exact HB.out | apply below_alloc | apply pw_below_drewN | apply below_drew1) | exact HB.out)))); have n3_ := Aside0.mk (Kd.R_lower (Kd.R_new' ho1 (Kd.R_lt (by (with_reducible repeat (first | apply Kd.R_alloc | apply Kd.R_drewN | apply Kd.R_drew)); exact HO113.out))) (below_size (by repeat (first | (with_reducible first | exact HB.out | apply below_alloc | apply pw_below_drewN | apply below_drew1) | exact HB.out)))); have n4_ := Aside0.mk (below_step (by repeat (first | (with_reducible first | exact HB.out | apply below_alloc | apply pw_below_drewN | apply below_drew1) | exact HB.out)) hb); clear HO111; clear HO113; clear HB; have HO111 := n0_; have HO113 := n1_; have HO118 := n2_; have HO120 := n3_; have HB := n4_; clear n0_ n1_ n2_ n3_ n4_; (try clear hb); (try clear hb2); (try clear hk); (try clear hi); (try clear ho0); (try clear ho1); obtain ⟨Ao20, co20, eo20⟩ := Kd.R_slice HO118.out; subst eo20; obtain ⟨Ao21, co21, eo21⟩ := Kd.R_slice HO111.out; subst eo21) | (go_at_call 10; (with_reducible refine (spec_SameInts.calls kj5 _ _ t114 _ _ t106 true _ ?side1 ?side2 ?side3 ?side4 A15.out).mono ?_); (case side1 => repeat (first | exact (Kd.R_reads' HO118.out).2.2 | (with_reducible refine Kd.C_alloc ?_ _) | (with_reducible refine Kd.C_drewN ?_ _) | (with_reducible refine Kd.C_drew ?_))); (case side2 => exact (Kd.R_reads' HO118.out).2.1); (case side3 => repeat (first | exact (Kd.R_reads' HO111.out).2.2 | (with_reducible refine Kd.C_alloc ?_ _) | (with_reducible refine Kd.C_drewN ?_ _) | (with_reducible refine Kd.C_drew ?_))); (case side4 => exact (Kd.R_reads' HO111.out).2.1); rintro e w' ⟨rfl, ⟨nd, rfl⟩⟩; obtain ⟨Ao22, co22, eo22⟩ := Kd.R_slice HO113.out; subst eo22; obtain ⟨Ao23, co23, eo23⟩ := Kd.R_slice HO120.out; subst eo23) | (go_at_call 11; (with_reducible refine (spec_SameItems.calls _ _ t107 _ _ t115 t122 _ ?side1 ?side2 ?side3 ?side4 A17.out).mono ?_); (case side1 => repeat (first | exact (Kd.R_reads' HO113.out).2.2 | (with_reducible refine Kd.C_alloc ?_ _) | (with_reducible refine Kd.C_drewN ?_ _) | (with_reducible refine Kd.C_drew ?_))); (case side2 => exact (Kd.R_reads' HO113.out).2.1); (case side3 => repeat (first | exact (Kd.R_reads' HO120.out).2.2 | (with_reducible refine Kd.C_alloc ?_ _) | (with_reducible refine Kd.C_drewN ?_ _) | (with_reducible refine Kd.C_drew ?_))); (case side4 => exact (Kd.R_reads' HO120.out).2.1); rintro e w24 ⟨rfl, hb⟩; have n0_ := Aside0.mk (Kd.R_below (by (with_reducible repeat (first | apply Kd.R_alloc | apply Kd.R_drewN | apply Kd.R_drew)); exact HO111.out) hb); have n1_ := Aside0.mk (Kd.R_below (by (with_reducible repeat (first | apply Kd.R_alloc | apply Kd.R_drewN | apply Kd.R_drew)); exact HO113.out) hb); have n2_ := Aside0.mk (Kd.R_below (by (with_reducible repeat (first | apply Kd.R_alloc | apply Kd.R_drewN | apply Kd.R_drew)); exact HO118.out) hb); have n3_ := Aside0.mk (Kd.R_below (by (with_reducible repeat (first | apply Kd.R_alloc | apply Kd.R_drewN | apply Kd.R_drew)); exact HO120.out) hb); have n4_ := Aside0.mk (below_step (by repeat (first | (with_reducible first | exact HB.out | apply below_alloc | apply pw_below_drewN | apply below_drew1) | exact HB.out)) hb); clear HO111; clear HO113; clear HO118; clear HO120; clear HB; have HO111 := n0_; have HO113 := n1_; have HO118 := n2_; have HO120 := n3_; have HB := n4_; clear n0_ n1_ n2_ n3_ n4_; (try clear hb); (try clear hb2); (try clear hk); (try clear hi)))
                      go_ret
                      exact ⟨by first | rfl | (simp [errW_none, errW_some] <;> rfl) | (simp [*, errW_none, errW_some] <;> rfl), by repeat (first | (with_reducible first | exact HB.out | apply below_alloc | apply pw_below_drewN | apply below_drew1) | exact HB.out)⟩
                    · replace c16 := Bool.eq_false_iff.mpr c16
                      subst c16
                      have H1 : (some false) = some r := by rw [if_neg (show ¬ (false = true) by decide)] at H; exact H
                      clear H
                      have H := H1
                      clear H1
                      obtain rfl := Option.some.inj H
                      go_wp2_with (first | ((with_reducible refine gate_callee (f := 8) rfl ?_); refine goesL_ (some 31) rfl rfl Try.func8 (by kernel_rfl) rfl #[.string a0, .string a1] rfl (by (try simp only [List.map_toArray, List.map_cons, List.map_nil]); first | done | rfl | (simp only [List.length_drop, List.length_take]; rfl)) ?_; (with_reducible refine (spec_Array.calls a0 a1 t106 t107 true true _ A10.out).mono ?_); rintro e w25 ⟨v110, v112, rfl, ho0, ho1, hb⟩; refine ⟨_, rfl, ?_⟩; have n0_ := Aside0.mk (Kd.R_lower ho0 (below_size (by repeat (first | (with_reducible first | exact HB.out | apply below_alloc | apply pw_below_drewN | apply below_drew1) | exact HB.out)))); have n1_ := Aside0.mk (Kd.R_lower ho1 (below_size (by repeat (first | (with_reducible first | exact HB.out | apply below_alloc | apply pw_below_drewN | apply below_drew1) | exact HB.out)))); have n2_ := Aside0.mk (below_step (by repeat (first | (with_reducible first | exact HB.out | apply below_alloc | apply pw_below_drewN | apply below_drew1) | exact HB.out)) hb); clear HB; have HO111 := n0_; have HO113 := n1_; have HB := n2_; clear n0_ n1_ n2_; (try clear hb); (try clear hb2); (try clear hk); (try clear hi); (try clear ho0); (try clear ho1)) | ((with_reducible refine gate_callee (f := 9) rfl ?_); refine goesL_ (some 41) rfl rfl Try.func9 (by kernel_rfl) rfl #[.string a0, .string a1] rfl (by (try simp only [List.map_toArray, List.map_cons, List.map_nil]); first | done | rfl | (simp only [List.length_drop, List.length_take]; rfl)) ?_; (with_reducible refine (impl_Parsed.calls a0 a1 t114 t115 true _ A12.out).mono ?_); rintro e w26 ⟨v117, v119, rfl, ho0, ho1, hb⟩; refine ⟨_, rfl, ?_⟩; have n0_ := Aside0.mk (Kd.R_elder' (by (with_reducible repeat (first | apply Kd.R_alloc | apply Kd.R_drewN | apply Kd.R_drew)); exact HO111.out) (Kd.R_base ho0) hb); have n1_ := Aside0.mk (Kd.R_elder' (by (with_reducible repeat (first | apply Kd.R_alloc | apply Kd.R_drewN | apply Kd.R_drew)); exact HO113.out) (Kd.R_base ho1) hb); have n2_ := Aside0.mk (Kd.R_lower (Kd.R_new' ho0 (Kd.R_lt (by (with_reducible repeat (first | apply Kd.R_alloc | apply Kd.R_drewN | apply Kd.R_drew)); exact HO111.out))) (below_size (by repeat (first | (with_reducible first | exact HB.out | apply below_alloc | apply pw_below_drewN | apply below_drew1) | exact HB.out)))); have n3_ := Aside0.mk (Kd.R_lower (Kd.R_new' ho1 (Kd.R_lt (by (with_reducible repeat (first | apply Kd.R_alloc | apply Kd.R_drewN | apply Kd.R_drew)); exact HO113.out))) (below_size (by repeat (first | (with_reducible first | exact HB.out | apply below_alloc | apply pw_below_drewN | apply below_drew1) | exact HB.out)))); have n4_ := Aside0.mk (below_step (by repeat (first | (with_reducible first | exact HB.out | apply below_alloc | apply pw_below_drewN | apply below_drew1) | exact HB.out)) hb); clear HO111; clear HO113; clear HB; have HO111 := n0_; have HO113 := n1_; have HO118 := n2_; have HO120 := n3_; have HB := n4_; clear n0_ n1_ n2_ n3_ n4_; (try clear hb); (try clear hb2); (try clear hk); (try clear hi); (try clear ho0); (try clear ho1); obtain ⟨Ao27, co27, eo27⟩ := Kd.R_slice HO118.out; subst eo27; obtain ⟨Ao28, co28, eo28⟩ := Kd.R_slice HO111.out; subst eo28) | (go_at_call 10; (with_reducible refine (spec_SameInts.calls kj5 _ _ t114 _ _ t106 false _ ?side1 ?side2 ?side3 ?side4 A15.out).mono ?_); (case side1 => repeat (first | exact (Kd.R_reads' HO118.out).2.2 | (with_reducible refine Kd.C_alloc ?_ _) | (with_reducible refine Kd.C_drewN ?_ _) | (with_reducible refine Kd.C_drew ?_))); (case side2 => exact (Kd.R_reads' HO118.out).2.1); (case side3 => repeat (first | exact (Kd.R_reads' HO111.out).2.2 | (with_reducible refine Kd.C_alloc ?_ _) | (with_reducible refine Kd.C_drewN ?_ _) | (with_reducible refine Kd.C_drew ?_))); (case side4 => exact (Kd.R_reads' HO111.out).2.1); rintro e w' ⟨rfl, ⟨nd, rfl⟩⟩))
                      go_ret
                      exact ⟨by first | rfl | (simp [errW_none, errW_some] <;> rfl) | (simp [*, errW_none, errW_some] <;> rfl), by repeat (first | (with_reducible first | exact HB.out | apply below_alloc | apply pw_below_drewN | apply below_drew1) | exact HB.out)⟩
                  · replace c14 := Bool.eq_false_iff.mpr c14
                    subst c14
                    have H1 : (some false) = some r := by rw [if_neg (show ¬ (false = true) by decide)] at H; exact H
                    clear H
                    have H := H1
                    clear H1
                    obtain rfl := Option.some.inj H
                    go_wp2_with (first | ((with_reducible refine gate_callee (f := 8) rfl ?_); refine goesL_ (some 31) rfl rfl Try.func8 (by kernel_rfl) rfl #[.string a0, .string a1] rfl (by (try simp only [List.map_toArray, List.map_cons, List.map_nil]); first | done | rfl | (simp only [List.length_drop, List.length_take]; rfl)) ?_; (with_reducible refine (spec_Array.calls a0 a1 t106 t107 true true _ A10.out).mono ?_); rintro e w29 ⟨v110, v112, rfl, ho0, ho1, hb⟩; refine ⟨_, rfl, ?_⟩; have n0_ := Aside0.mk (Kd.R_lower ho0 (below_size (by repeat (first | (with_reducible first | exact HB.out | apply below_alloc | apply pw_below_drewN | apply below_drew1) | exact HB.out)))); have n1_ := Aside0.mk (Kd.R_lower ho1 (below_size (by repeat (first | (with_reducible first | exact HB.out | apply below_alloc | apply pw_below_drewN | apply below_drew1) | exact HB.out)))); have n2_ := Aside0.mk (below_step (by repeat (first | (with_reducible first | exact HB.out | apply below_alloc | apply pw_below_drewN | apply below_drew1) | exact HB.out)) hb); clear HB; have HO111 := n0_; have HO113 := n1_; have HB := n2_; clear n0_ n1_ n2_; (try clear hb); (try clear hb2); (try clear hk); (try clear hi); (try clear ho0); (try clear ho1)) | ((with_reducible refine gate_callee (f := 9) rfl ?_); refine goesL_ (some 41) rfl rfl Try.func9 (by kernel_rfl) rfl #[.string a0, .string a1] rfl (by (try simp only [List.map_toArray, List.map_cons, List.map_nil]); first | done | rfl | (simp only [List.length_drop, List.length_take]; rfl)) ?_; (with_reducible refine (impl_Parsed.calls a0 a1 t114 t115 false _ A12.out).mono ?_); rintro e w30 ⟨v117, v119, rfl, ho0, ho1, hb⟩; refine ⟨_, rfl, ?_⟩; have n0_ := Aside0.mk (Kd.R_elder' (by (with_reducible repeat (first | apply Kd.R_alloc | apply Kd.R_drewN | apply Kd.R_drew)); exact HO111.out) (Kd.R_base ho0) hb); have n1_ := Aside0.mk (Kd.R_elder' (by (with_reducible repeat (first | apply Kd.R_alloc | apply Kd.R_drewN | apply Kd.R_drew)); exact HO113.out) (Kd.R_base ho1) hb); have n2_ := Aside0.mk (Kd.R_lower (Kd.R_new' ho0 (Kd.R_lt (by (with_reducible repeat (first | apply Kd.R_alloc | apply Kd.R_drewN | apply Kd.R_drew)); exact HO111.out))) (below_size (by repeat (first | (with_reducible first | exact HB.out | apply below_alloc | apply pw_below_drewN | apply below_drew1) | exact HB.out)))); have n3_ := Aside0.mk (Kd.R_lower (Kd.R_new' ho1 (Kd.R_lt (by (with_reducible repeat (first | apply Kd.R_alloc | apply Kd.R_drewN | apply Kd.R_drew)); exact HO113.out))) (below_size (by repeat (first | (with_reducible first | exact HB.out | apply below_alloc | apply pw_below_drewN | apply below_drew1) | exact HB.out)))); have n4_ := Aside0.mk (below_step (by repeat (first | (with_reducible first | exact HB.out | apply below_alloc | apply pw_below_drewN | apply below_drew1) | exact HB.out)) hb); clear HO111; clear HO113; clear HB; have HO111 := n0_; have HO113 := n1_; have HO118 := n2_; have HO120 := n3_; have HB := n4_; clear n0_ n1_ n2_ n3_ n4_; (try clear hb); (try clear hb2); (try clear hk); (try clear hi); (try clear ho0); (try clear ho1)))
                    go_ret
                    exact ⟨by first | rfl | (simp [errW_none, errW_some] <;> rfl) | (simp [*, errW_none, errW_some] <;> rfl), by repeat (first | (with_reducible first | exact HB.out | apply below_alloc | apply pw_below_drewN | apply below_drew1) | exact HB.out)⟩
                · replace c13 := Bool.eq_false_iff.mpr c13
                  subst c13
                  have H1 : (some (!t116)) = some r := by rw [if_neg (show ¬ (false = true) by decide)] at H; exact H
                  clear H
                  have H := H1
                  clear H1
                  obtain rfl := Option.some.inj H
                  go_wp2_with (first | ((with_reducible refine gate_callee (f := 8) rfl ?_); refine goesL_ (some 31) rfl rfl Try.func8 (by kernel_rfl) rfl #[.string a0, .string a1] rfl (by (try simp only [List.map_toArray, List.map_cons, List.map_nil]); first | done | rfl | (simp only [List.length_drop, List.length_take]; rfl)) ?_; (with_reducible refine (spec_Array.calls a0 a1 t106 t107 false true _ A10.out).mono ?_); rintro e w31 ⟨v110, v112, rfl, ho0, ho1, hb⟩; refine ⟨_, rfl, ?_⟩; have n0_ := Aside0.mk (Kd.R_lower ho0 (below_size (by repeat (first | (with_reducible first | exact HB.out | apply below_alloc | apply pw_below_drewN | apply below_drew1) | exact HB.out)))); have n1_ := Aside0.mk (Kd.R_lower ho1 (below_size (by repeat (first | (with_reducible first | exact HB.out | apply below_alloc | apply pw_below_drewN | apply below_drew1) | exact HB.out)))); have n2_ := Aside0.mk (below_step (by repeat (first | (with_reducible first | exact HB.out | apply below_alloc | apply pw_below_drewN | apply below_drew1) | exact HB.out)) hb); clear HB; have HO111 := n0_; have HO113 := n1_; have HB := n2_; clear n0_ n1_ n2_; (try clear hb); (try clear hb2); (try clear hk); (try clear hi); (try clear ho0); (try clear ho1)) | ((with_reducible refine gate_callee (f := 9) rfl ?_); refine goesL_ (some 41) rfl rfl Try.func9 (by kernel_rfl) rfl #[.string a0, .string a1] rfl (by (try simp only [List.map_toArray, List.map_cons, List.map_nil]); first | done | rfl | (simp only [List.length_drop, List.length_take]; rfl)) ?_; (with_reducible refine (impl_Parsed.calls a0 a1 t114 t115 t116 _ A12.out).mono ?_); rintro e w32 ⟨v117, v119, rfl, ho0, ho1, hb⟩; refine ⟨_, rfl, ?_⟩; have n0_ := Aside0.mk (Kd.R_elder' (by (with_reducible repeat (first | apply Kd.R_alloc | apply Kd.R_drewN | apply Kd.R_drew)); exact HO111.out) (Kd.R_base ho0) hb); have n1_ := Aside0.mk (Kd.R_elder' (by (with_reducible repeat (first | apply Kd.R_alloc | apply Kd.R_drewN | apply Kd.R_drew)); exact HO113.out) (Kd.R_base ho1) hb); have n2_ := Aside0.mk (Kd.R_lower (Kd.R_new' ho0 (Kd.R_lt (by (with_reducible repeat (first | apply Kd.R_alloc | apply Kd.R_drewN | apply Kd.R_drew)); exact HO111.out))) (below_size (by repeat (first | (with_reducible first | exact HB.out | apply below_alloc | apply pw_below_drewN | apply below_drew1) | exact HB.out)))); have n3_ := Aside0.mk (Kd.R_lower (Kd.R_new' ho1 (Kd.R_lt (by (with_reducible repeat (first | apply Kd.R_alloc | apply Kd.R_drewN | apply Kd.R_drew)); exact HO113.out))) (below_size (by repeat (first | (with_reducible first | exact HB.out | apply below_alloc | apply pw_below_drewN | apply below_drew1) | exact HB.out)))); have n4_ := Aside0.mk (below_step (by repeat (first | (with_reducible first | exact HB.out | apply below_alloc | apply pw_below_drewN | apply below_drew1) | exact HB.out)) hb); clear HO111; clear HO113; clear HB; have HO111 := n0_; have HO113 := n1_; have HO118 := n2_; have HO120 := n3_; have HB := n4_; clear n0_ n1_ n2_ n3_ n4_; (try clear hb); (try clear hb2); (try clear hk); (try clear hi); (try clear ho0); (try clear ho1)))
                  go_ret
                  exact ⟨by first | rfl | (simp [errW_none, errW_some] <;> rfl) | (simp [*, errW_none, errW_some] <;> rfl), by repeat (first | (with_reducible first | exact HB.out | apply below_alloc | apply pw_below_drewN | apply below_drew1) | exact HB.out)⟩
              · replace c11 := Bool.eq_false_iff.mpr c11
                subst c11
                have H1 : (some true) = some r := by rw [if_neg (show ¬ (false = true) by decide)] at H; exact H
                clear H
                have H := H1
                clear H1
                obtain rfl := Option.some.inj H
                go_wp2_with (first | ((with_reducible refine gate_callee (f := 8) rfl ?_); refine goesL_ (some 31) rfl rfl Try.func8 (by kernel_rfl) rfl #[.string a0, .string a1] rfl (by (try simp only [List.map_toArray, List.map_cons, List.map_nil]); first | done | rfl | (simp only [List.length_drop, List.length_take]; rfl)) ?_; (with_reducible refine (spec_Array.calls a0 a1 t106 t107 t108 false _ A10.out).mono ?_); rintro e w33 ⟨v110, v112, rfl, ho0, ho1, hb⟩; refine ⟨_, rfl, ?_⟩; have n0_ := Aside0.mk (Kd.R_lower ho0 (below_size (by repeat (first | (with_reducible first | exact HB.out | apply below_alloc | apply pw_below_drewN | apply below_drew1) | exact HB.out)))); have n1_ := Aside0.mk (Kd.R_lower ho1 (below_size (by repeat (first | (with_reducible first | exact HB.out | apply below_alloc | apply pw_below_drewN | apply below_drew1) | exact HB.out)))); have n2_ := Aside0.mk (below_step (by repeat (first | (with_reducible first | exact HB.out | apply below_alloc | apply pw_below_drewN | apply below_drew1) | exact HB.out)) hb); clear HB; have HO111 := n0_; have HO113 := n1_; have HB := n2_; clear n0_ n1_ n2_; (try clear hb); (try clear hb2); (try clear hk); (try clear hi); (try clear ho0); (try clear ho1)))
                go_ret
                exact ⟨by first | rfl | (simp [errW_none, errW_some] <;> rfl) | (simp [*, errW_none, errW_some] <;> rfl), by repeat (first | (with_reducible first | exact HB.out | apply below_alloc | apply pw_below_drewN | apply below_drew1) | exact HB.out)⟩

/-- THE ONE PURE STATEMENT of laws_FnParsed: yours. -/
def laws_FnParsed.Pure : Prop := ∀ (a0 : ByteArray) (a1 : ByteArray), a0.size ≤ 140737488351232 → a1.size ≤ 140737488351232 → ∃ k, laws_FnParsed.f k a0 a1 = some true
theorem laws_FnParsed.walk (P : laws_FnParsed.Pure) (a0 : ByteArray) (a1 : ByteArray) (w : World) (w0 : a0.size ≤ 140737488351232) (w1 : a1.size ≤ 140737488351232) :
    Calls Try.prog 3 #[.string a0, .string a1] w fun e w' => e = .returned (.bool true) ∧ Below w.heap.size w w' := by
  obtain ⟨k, h⟩ := P a0 a1 w0 w1
  refine (laws_FnParsed.calls k a0 a1 true w h).mono ?_
  rintro e w' ⟨rfl, hd⟩
  exact ⟨rfl, hd⟩

/-! ### pq_scanLinearArray: function 32 -/
/-- What scanLinearArray tells. -/
def lnF (d : Int) (l : List Int) : Option (List (Option (List Int))) := match paF d l with
  | none => none
  | some p => if 1 < p.1.length then none else some p.2
def lnOut (w0 : World) (T : Option (List (Option (List Int)))) (e : Ending) (w' : World) : Prop :=
  Below w0.heap.size w0 w' ∧ (∀ els, T = some els → ∃ v1, e = .returned (.tuple #[v1, .nilIface]) ∧ (elKd w0).R 61 w' w0.heap.size (fun _ => True) v1 els) ∧ (T = none → ∃ v1 t x, e = .returned (.tuple #[v1, .iface t x]))
set_option maxHeartbeats 2000000 in
set_option maxRecDepth 100000 in
theorem pq_scanLinearArray.all (A0 : Option Addr) (c cd : Nat) (Ad : Option Addr) (s : List Int) (d : Int) (w : World) (ty : ByteArray) (hp : paIs d s) (hr : Kd.C (Kd.int .u8) w A0 s.length s) (hc : s.length ≤ c) (hrd : Kd.C (Kd.int .u8) w Ad 1 [d]) (hcd : 1 ≤ cd) :
    Calls Try.prog 32 #[.slice A0 s.length c, .slice Ad 1 cd, .string ty] w (lnOut w (lnF d s)) := by
  have hm := pq_parseArray.all A0 c cd Ad s d w hp hr hc hrd hcd
  obtain ⟨L, hLd⟩ : ∃ L, L = s.length := ⟨_, rfl⟩
  rw [← hLd] at hm ⊢
  unfold lnF
  cases hT : paF d s with
  | none =>
    rw [hT] at hm
    have HM := Aside0.mk hm
    clear hm hT hr hc hrd hcd hp hLd
    --{A
    go_enter Try.func32, Try.ntmps32
    go_wp2_with (go_at_call 31; refine HM.out.mono ?_; rintro e w' ⟨hb, _, h2⟩; obtain ⟨v1, v2, t, x, rfl⟩ := h2 rfl; have HB := Aside0.mk hb; clear hb h2)
    go_ret2
    exact ⟨HB.out, (fun els h => by cases h), fun _ => ⟨_, _, _, rfl⟩⟩
    --}A
  | some p =>
    obtain ⟨D, els⟩ := p
    rw [hT] at hm
    have HM := Aside0.mk hm
    clear hm hT hr hc hrd hcd hp hLd
    by_cases hD : 1 < D.length
    · have g1 : ((1 : Int) < (D.length : Int)) = True := eq_true (by omega)
      have g1b : decide ((1 : Int) < (D.length : Int)) = true := decide_eq_true (by omega)
      have g1c : decide (1 < D.length) = true := decide_eq_true hD
      have g1d : (1 < D.length) = True := eq_true hD
      simp only [if_pos hD]
      clear hD
      --{B
      go_enter Try.func32, Try.ntmps32
      go_wp2_with (first | (go_at_call 31; refine HM.out.mono ?_; rintro e w' ⟨hb, h1, _⟩; obtain ⟨v0, v1, rfl, hg, hv⟩ := h1 D els rfl; obtain ⟨A5, c5, rfl, hc5, hC5⟩ := Kd.R_reads hg; have HB := Aside0.mk hb; clear hb h1 hg hv hc5 hC5) | (go_at_call 35; refine (errors_New.plain _ _).mono ?_; rintro e w2 ⟨⟨t_, v_, rfl⟩, hb2⟩; have HB2 := Aside0.mk hb2; clear hb2))
      go_ret2
      exact ⟨below_step HB.out HB2.out, (fun els h => by cases h), fun _ => ⟨_, _, _, rfl⟩⟩
      --}B
    · have g1 : ((1 : Int) < (D.length : Int)) = False := eq_false (by omega)
      have g1b : decide ((1 : Int) < (D.length : Int)) = false := decide_eq_false (by omega)
      have g1c : decide (1 < D.length) = false := decide_eq_false hD
      have g1d : (1 < D.length) = False := eq_false hD
      simp only [if_neg hD]
      clear hD
      --{C
      go_enter Try.func32, Try.ntmps32
      go_wp2_with (first | (go_at_call 31; refine HM.out.mono ?_; rintro e w' ⟨hb, h1, _⟩; obtain ⟨v0, v1, rfl, hg, hv⟩ := h1 D els rfl; obtain ⟨A5, c5, rfl, hc5, hC5⟩ := Kd.R_reads hg; have HB := Aside0.mk hb; have HV := Aside0.mk hv; clear hb h1 hg hv hc5 hC5))
      go_ret2
      exact ⟨HB.out, fun els' h => (by injection h with h; subst h; exact ⟨v1, rfl, HV.out⟩), fun h => (by cases h)⟩
      --}C

/-! ### pq_ParseLine: function 27 -/
set_option maxHeartbeats 2000000 in
set_option maxRecDepth 100000 in
theorem pq_ParseLine.all (A0 : Option Addr) (c cd : Nat) (Ad : Option Addr) (s : List Int) (d : Int) (w : World) (hp : paIs d s) (hr : Kd.C (Kd.int .u8) w A0 s.length s) (hc : s.length ≤ c) (hrd : Kd.C (Kd.int .u8) w Ad 1 [d]) (hcd : 1 ≤ cd) :
    Calls Try.prog 27 #[.slice A0 s.length c, .slice Ad 1 cd] w (lnOut w (lnF d s)) := by
  have hm := fun ty => pq_scanLinearArray.all A0 c cd Ad s d w ty hp hr hc hrd hcd
  obtain ⟨L, hLd⟩ : ∃ L, L = s.length := ⟨_, rfl⟩
  rw [← hLd] at hm ⊢
  cases hT : lnF d s with
  | none =>
    rw [hT] at hm
    have HM := Aside0.mk hm
    clear hm hT hr hc hrd hcd hp hLd
    go_enter Try.func27, Try.ntmps27
    go_wp2_with (go_at_call 32; refine (HM.out _).mono ?_; rintro e w' ⟨hb, _, h2⟩; obtain ⟨v1, t, x, rfl⟩ := h2 rfl; have HB := Aside0.mk hb; clear hb h2)
    go_ret2
    exact ⟨HB.out, (fun els h => by cases h), fun _ => ⟨_, _, _, rfl⟩⟩
  | some els =>
    rw [hT] at hm
    have HM := Aside0.mk hm
    clear hm hT hr hc hrd hcd hp hLd
    go_enter Try.func27, Try.ntmps27
    go_wp2_with (go_at_call 32; refine (HM.out _).mono ?_; rintro e w' ⟨hb, h1, _⟩; obtain ⟨v1, rfl, hv⟩ := h1 els rfl; have HB := Aside0.mk hb; have HV := Aside0.mk hv; clear hb h1 hv)
    go_ret2
    exact ⟨HB.out, fun els' h => (by injection h with h; subst h; exact ⟨v1, rfl, HV.out⟩), fun h => (by cases h)⟩

/-! ### impl_ParsedLine: function 19 -/
theorem lnF_len (d : Int) (l : List Int) (hp : paIs d l) : ∀ els, lnF d l = some els → els.length ≤ 1000000 := by
  intro els h
  unfold lnF at h
  split at h
  · cases h
  · rename_i p hp2
    split at h
    · cases h
    · injection h with h
      subst h
      exact paF_len d l hp p.1 p.2 hp2
def lineIt (T : Option (List (Option (List Int)))) : List (S39) × Bool :=
  match T with
  | none => ([], false)
  | some els => (els.map itS, true)
def impl_ParsedLine.f (a0 : ByteArray) (a1 : ByteArray) : Option ((List (S39)) × Bool) :=
  match bytesOf a1 with
  | [d] => if paIs d (bytesOf a0) then some (lineIt (lnF d (bytesOf a0))) else none
  | _ => none
def lnRes (w0 : World) (T : Option (List (Option (List Int)))) (e : Ending) (w' : World) : Prop :=
  ∃ v1, e = .returned (.tuple #[v1, .bool (lineIt T).2]) ∧ Kd.R k39 39 w' w0.heap.size (fun _ => True) v1 (lineIt T).1 ∧ Below w0.heap.size w0 w'
set_option maxHeartbeats 4000000 in
set_option maxRecDepth 100000 in
theorem impl_ParsedLine.main (text dl : ByteArray) (d : Int) (w : World) (hd : bytesOf dl = [d]) (hp : paIs d (bytesOf text)) :
    Calls Try.prog 19 #[.string text, .string dl] w (lnRes w (lnF d (bytesOf text))) := by
  have kb := fun (a0 : ByteArray) W => print_bytes (P := Try.prog) 9 61 5 Try.underlying9 Try.underlying61 Try.underlying5 a0 W
  have hL : text.size ≤ 1000000 := by rw [← bytesOf_length]; exact hp.2.2.2.1
  have h44 : dl.size = 1 := by rw [← bytesOf_length, hd]; rfl
  have hne : dl.toList.isEmpty = false := by
    rw [ByteArray.toList_eq]
    cases he : dl.data.toList with
    | nil =>
      have h2 : bytesOf dl = dl.data.toList.map (fun b : UInt8 => (b.toNat : Int)) := rfl
      rw [h2, he] at hd; cases hd
    | cons x t => rfl
  have hne2 : (dl.toList == []) = false := by
    cases he : dl.toList with
    | nil => rw [he] at hne; cases hne
    | cons x t => rfl
  obtain ⟨hb02, hr1, hr2⟩ := impl_Parsed.worlds text dl d w hd hL
  have hm := pq_ParseLine.all (some ⟨w.heap.size, 0, none⟩) (grownCap w text.size 0 5) (grownCap (Lib.bytesWorld w 5 text) dl.size 0 5) (some ⟨(Lib.bytesWorld w 5 text).heap.size, 0, none⟩) (bytesOf text) d _ hp hr1 (by rw [bytesOf_length]; exact grownCap_ge _ _ _ _) hr2 (by rw [← h44]; exact grownCap_ge _ _ _ _)
  rw [bytesOf_length] at hm
  obtain ⟨W1, hW1⟩ : ∃ W1, W1 = Lib.bytesWorld w 5 text := ⟨_, rfl⟩
  obtain ⟨W2, hW2⟩ : ∃ W2, W2 = Lib.bytesWorld W1 5 dl := ⟨_, rfl⟩
  rw [← hW1] at hm hb02
  rw [← hW2] at hm hb02
  have HB02 := Aside0.mk hb02
  have kb1 := kb text w
  have kb2 := kb dl W1
  rw [← hW1] at kb1
  rw [← hW2, h44] at kb2
  rw [h44] at hm
  have hlen := lnF_len d (bytesOf text) hp
  have HLEN := Aside0.mk hlen
  cases hT : lnF d (bytesOf text) with
  | none =>
    rw [hT] at hm
    have HM := Aside0.mk hm
    clear hm hT hL kb h44 hr1 hr2 hb02 hW1 hW2 hlen HLEN hp hd
    --{A
    go_enter Try.func19, Try.ntmps19
    go_wp2_with (go_at_call 27; refine HM.out.mono ?_; rintro e w' ⟨hb, _, h2⟩; obtain ⟨v1, t, x, rfl⟩ := h2 rfl; have HB := Aside0.mk hb; clear hb h2)
    go_ret2
    exact ⟨_, rfl, Kd.R_nil _ _ _ _ _, below_step HB02.out HB.out⟩
    --}A
  | some p =>
    obtain ⟨els, rfl⟩ : ∃ els, els = p := ⟨_, rfl⟩
    rw [hT] at hm HLEN
    have HM := Aside0.mk hm
    have HEL : Aside0 (els.length ≤ 1000000) := ⟨HLEN.out els rfl⟩
    clear hm hT hL kb h44 hr1 hr2 hb02 hW1 hW2 hlen HLEN hp hd
    --{B
    go_enter Try.func19, Try.ntmps19
    go_wp2_with (first | (go_at_call 27; refine HM.out.mono ?_; rintro e w' ⟨hb, h1, _⟩; obtain ⟨v1, rfl, hv⟩ := h1 els rfl; obtain ⟨A5, c5, rfl, hc5, hC5⟩ := Kd.R_reads hv; have HB := Aside0.mk hb; have HV := Aside0.mk hC5; have HC5 := Aside0.mk hc5; clear hb h1  hC5 hc5 hv) | (go_at_call 25; refine (impl_items.main A5 c5 els W2 _ ?b1 ?b2 HC5.out ?b3).mono ?_; (case b1 => exact HB.out); (case b2 => exact HV.out); (case b3 => have := HEL.out; omega); rintro e w2 ⟨v2, rfl, hR2, hB2⟩; have HR2 := Aside0.mk hR2; have HB2 := Aside0.mk hB2; clear hR2 hB2))
    go_ret2
    exact ⟨v2, rfl, Kd.R_lower HR2.out (below_step HB02.out HB.out).size, below_step (below_step HB02.out HB.out) HB2.out⟩
    --}B
theorem impl_ParsedLine.calls (a0 : ByteArray) (a1 : ByteArray) (r1 : List (S39)) (r2 : Bool) (w : World) (h : impl_ParsedLine.f a0 a1 = some (r1, r2)) :
    Calls Try.prog 19 #[.string a0, .string a1] w fun e w' => ∃ v0_ : Value, e = .returned (.tuple #[v0_, .bool r2]) ∧ Kd.R k39 39 w' w.heap.size (fun _ => True) v0_ r1 ∧ Below w.heap.size w w' := by
  unfold impl_ParsedLine.f at h
  split at h
  · rename_i d hd
    split at h
    · rename_i hp
      injection h with h
      have hm := impl_ParsedLine.main a0 a1 d w hd hp
      unfold lnRes at hm
      rw [h] at hm
      exact hm
    · cases h
  · cases h

end Go.Proofs.Ythcikkjjegfblaa.P
