-- Written by the program wip/myprint.py of this session, over the kit's print of the translation. Lean checks it.
import Derived.Test.YthcikkjjegfblacPx0
namespace Go.Proofs.Ythcikkjjegfblac.P
open Go.RowKit Go.Proofs.YthcikkjjegfblacW.PrintWords Go.Proofs.YthcikkjjegfblacW.PrintLast Go.Proofs.YthcikkjjegfblacW.PrintMore
attribute [local go_sem] max2_int min2_int max_two min_two max_three min_three max_four min_four   -- for this text's walks alone
set_option linter.unusedVariables false
set_option linter.unusedSimpArgs false

/-! ### oid_TypeName: function 19 -/
def oid_TypeName.f (a0 : Int) : Option (ByteArray) := if a0 = 16 then some (⟨#[66, 79, 79, 76]⟩ : ByteArray) else (if a0 = 17 then some (⟨#[66, 89, 84, 69, 65]⟩ : ByteArray) else (if a0 = 20 then some (⟨#[73, 78, 84, 56]⟩ : ByteArray) else (if a0 = 21 then some (⟨#[73, 78, 84, 50]⟩ : ByteArray) else (if a0 = 23 then some (⟨#[73, 78, 84, 52]⟩ : ByteArray) else (if a0 = 25 then some (⟨#[84, 69, 88, 84]⟩ : ByteArray) else (if a0 = 114 then some (⟨#[74, 83, 79, 78]⟩ : ByteArray) else (if a0 = 700 then some (⟨#[70, 76, 79, 65, 84, 52]⟩ : ByteArray) else (if a0 = 701 then some (⟨#[70, 76, 79, 65, 84, 56]⟩ : ByteArray) else (if a0 = 1042 then some (⟨#[66, 80, 67, 72, 65, 82]⟩ : ByteArray) else (if a0 = 1043 then some (⟨#[86, 65, 82, 67, 72, 65, 82]⟩ : ByteArray) else (if a0 = 1082 then some (⟨#[68, 65, 84, 69]⟩ : ByteArray) else (if a0 = 1083 then some (⟨#[84, 73, 77, 69]⟩ : ByteArray) else (if a0 = 1114 then some (⟨#[84, 73, 77, 69, 83, 84, 65, 77, 80]⟩ : ByteArray) else (if a0 = 1184 then some (⟨#[84, 73, 77, 69, 83, 84, 65, 77, 80, 84, 90]⟩ : ByteArray) else (if a0 = 1266 then some (⟨#[84, 73, 77, 69, 84, 90]⟩ : ByteArray) else (if a0 = 1700 then some (⟨#[78, 85, 77, 69, 82, 73, 67]⟩ : ByteArray) else (if a0 = 2950 then some (⟨#[85, 85, 73, 68]⟩ : ByteArray) else (none))))))))))))))))))
set_option maxHeartbeats 4000000 in
set_option maxRecDepth 100000 in
theorem TypeName_16 (w : World) : Calls Try.prog 19 #[.int .u32 16] w fun e w' => e = .returned (.string (⟨#[66, 79, 79, 76]⟩ : ByteArray)) ∧ Drawn0 w w' := by
  go_enter Try.func19, Try.ntmps19
  go_wp2
  go_ret
  exact ⟨rfl, by repeat (first | exact Drawn0.refl _ | apply Drawn0.step)⟩
set_option maxHeartbeats 4000000 in
set_option maxRecDepth 100000 in
theorem TypeName_17 (w : World) : Calls Try.prog 19 #[.int .u32 17] w fun e w' => e = .returned (.string (⟨#[66, 89, 84, 69, 65]⟩ : ByteArray)) ∧ Drawn0 w w' := by
  go_enter Try.func19, Try.ntmps19
  go_wp2
  go_ret
  exact ⟨rfl, by repeat (first | exact Drawn0.refl _ | apply Drawn0.step)⟩
set_option maxHeartbeats 4000000 in
set_option maxRecDepth 100000 in
theorem TypeName_20 (w : World) : Calls Try.prog 19 #[.int .u32 20] w fun e w' => e = .returned (.string (⟨#[73, 78, 84, 56]⟩ : ByteArray)) ∧ Drawn0 w w' := by
  go_enter Try.func19, Try.ntmps19
  go_wp2
  go_ret
  exact ⟨rfl, by repeat (first | exact Drawn0.refl _ | apply Drawn0.step)⟩
set_option maxHeartbeats 4000000 in
set_option maxRecDepth 100000 in
theorem TypeName_21 (w : World) : Calls Try.prog 19 #[.int .u32 21] w fun e w' => e = .returned (.string (⟨#[73, 78, 84, 50]⟩ : ByteArray)) ∧ Drawn0 w w' := by
  go_enter Try.func19, Try.ntmps19
  go_wp2
  go_ret
  exact ⟨rfl, by repeat (first | exact Drawn0.refl _ | apply Drawn0.step)⟩
set_option maxHeartbeats 4000000 in
set_option maxRecDepth 100000 in
theorem TypeName_23 (w : World) : Calls Try.prog 19 #[.int .u32 23] w fun e w' => e = .returned (.string (⟨#[73, 78, 84, 52]⟩ : ByteArray)) ∧ Drawn0 w w' := by
  go_enter Try.func19, Try.ntmps19
  go_wp2
  go_ret
  exact ⟨rfl, by repeat (first | exact Drawn0.refl _ | apply Drawn0.step)⟩
set_option maxHeartbeats 4000000 in
set_option maxRecDepth 100000 in
theorem TypeName_25 (w : World) : Calls Try.prog 19 #[.int .u32 25] w fun e w' => e = .returned (.string (⟨#[84, 69, 88, 84]⟩ : ByteArray)) ∧ Drawn0 w w' := by
  go_enter Try.func19, Try.ntmps19
  go_wp2
  go_ret
  exact ⟨rfl, by repeat (first | exact Drawn0.refl _ | apply Drawn0.step)⟩
set_option maxHeartbeats 4000000 in
set_option maxRecDepth 100000 in
theorem TypeName_114 (w : World) : Calls Try.prog 19 #[.int .u32 114] w fun e w' => e = .returned (.string (⟨#[74, 83, 79, 78]⟩ : ByteArray)) ∧ Drawn0 w w' := by
  go_enter Try.func19, Try.ntmps19
  go_wp2
  go_ret
  exact ⟨rfl, by repeat (first | exact Drawn0.refl _ | apply Drawn0.step)⟩
set_option maxHeartbeats 4000000 in
set_option maxRecDepth 100000 in
theorem TypeName_700 (w : World) : Calls Try.prog 19 #[.int .u32 700] w fun e w' => e = .returned (.string (⟨#[70, 76, 79, 65, 84, 52]⟩ : ByteArray)) ∧ Drawn0 w w' := by
  go_enter Try.func19, Try.ntmps19
  go_wp2
  go_ret
  exact ⟨rfl, by repeat (first | exact Drawn0.refl _ | apply Drawn0.step)⟩
set_option maxHeartbeats 4000000 in
set_option maxRecDepth 100000 in
theorem TypeName_701 (w : World) : Calls Try.prog 19 #[.int .u32 701] w fun e w' => e = .returned (.string (⟨#[70, 76, 79, 65, 84, 56]⟩ : ByteArray)) ∧ Drawn0 w w' := by
  go_enter Try.func19, Try.ntmps19
  go_wp2
  go_ret
  exact ⟨rfl, by repeat (first | exact Drawn0.refl _ | apply Drawn0.step)⟩
set_option maxHeartbeats 4000000 in
set_option maxRecDepth 100000 in
theorem TypeName_1042 (w : World) : Calls Try.prog 19 #[.int .u32 1042] w fun e w' => e = .returned (.string (⟨#[66, 80, 67, 72, 65, 82]⟩ : ByteArray)) ∧ Drawn0 w w' := by
  go_enter Try.func19, Try.ntmps19
  go_wp2
  go_ret
  exact ⟨rfl, by repeat (first | exact Drawn0.refl _ | apply Drawn0.step)⟩
set_option maxHeartbeats 4000000 in
set_option maxRecDepth 100000 in
theorem TypeName_1043 (w : World) : Calls Try.prog 19 #[.int .u32 1043] w fun e w' => e = .returned (.string (⟨#[86, 65, 82, 67, 72, 65, 82]⟩ : ByteArray)) ∧ Drawn0 w w' := by
  go_enter Try.func19, Try.ntmps19
  go_wp2
  go_ret
  exact ⟨rfl, by repeat (first | exact Drawn0.refl _ | apply Drawn0.step)⟩
set_option maxHeartbeats 4000000 in
set_option maxRecDepth 100000 in
theorem TypeName_1082 (w : World) : Calls Try.prog 19 #[.int .u32 1082] w fun e w' => e = .returned (.string (⟨#[68, 65, 84, 69]⟩ : ByteArray)) ∧ Drawn0 w w' := by
  go_enter Try.func19, Try.ntmps19
  go_wp2
  go_ret
  exact ⟨rfl, by repeat (first | exact Drawn0.refl _ | apply Drawn0.step)⟩
set_option maxHeartbeats 4000000 in
set_option maxRecDepth 100000 in
theorem TypeName_1083 (w : World) : Calls Try.prog 19 #[.int .u32 1083] w fun e w' => e = .returned (.string (⟨#[84, 73, 77, 69]⟩ : ByteArray)) ∧ Drawn0 w w' := by
  go_enter Try.func19, Try.ntmps19
  go_wp2
  go_ret
  exact ⟨rfl, by repeat (first | exact Drawn0.refl _ | apply Drawn0.step)⟩
set_option maxHeartbeats 4000000 in
set_option maxRecDepth 100000 in
theorem TypeName_1114 (w : World) : Calls Try.prog 19 #[.int .u32 1114] w fun e w' => e = .returned (.string (⟨#[84, 73, 77, 69, 83, 84, 65, 77, 80]⟩ : ByteArray)) ∧ Drawn0 w w' := by
  go_enter Try.func19, Try.ntmps19
  go_wp2
  go_ret
  exact ⟨rfl, by repeat (first | exact Drawn0.refl _ | apply Drawn0.step)⟩
set_option maxHeartbeats 4000000 in
set_option maxRecDepth 100000 in
theorem TypeName_1184 (w : World) : Calls Try.prog 19 #[.int .u32 1184] w fun e w' => e = .returned (.string (⟨#[84, 73, 77, 69, 83, 84, 65, 77, 80, 84, 90]⟩ : ByteArray)) ∧ Drawn0 w w' := by
  go_enter Try.func19, Try.ntmps19
  go_wp2
  go_ret
  exact ⟨rfl, by repeat (first | exact Drawn0.refl _ | apply Drawn0.step)⟩
set_option maxHeartbeats 4000000 in
set_option maxRecDepth 100000 in
theorem TypeName_1266 (w : World) : Calls Try.prog 19 #[.int .u32 1266] w fun e w' => e = .returned (.string (⟨#[84, 73, 77, 69, 84, 90]⟩ : ByteArray)) ∧ Drawn0 w w' := by
  go_enter Try.func19, Try.ntmps19
  go_wp2
  go_ret
  exact ⟨rfl, by repeat (first | exact Drawn0.refl _ | apply Drawn0.step)⟩
set_option maxHeartbeats 4000000 in
set_option maxRecDepth 100000 in
theorem TypeName_1700 (w : World) : Calls Try.prog 19 #[.int .u32 1700] w fun e w' => e = .returned (.string (⟨#[78, 85, 77, 69, 82, 73, 67]⟩ : ByteArray)) ∧ Drawn0 w w' := by
  go_enter Try.func19, Try.ntmps19
  go_wp2
  go_ret
  exact ⟨rfl, by repeat (first | exact Drawn0.refl _ | apply Drawn0.step)⟩
set_option maxHeartbeats 4000000 in
set_option maxRecDepth 100000 in
theorem TypeName_2950 (w : World) : Calls Try.prog 19 #[.int .u32 2950] w fun e w' => e = .returned (.string (⟨#[85, 85, 73, 68]⟩ : ByteArray)) ∧ Drawn0 w w' := by
  go_enter Try.func19, Try.ntmps19
  go_wp2
  go_ret
  exact ⟨rfl, by repeat (first | exact Drawn0.refl _ | apply Drawn0.step)⟩
theorem oid_TypeName.calls (a0 : Int) (r : ByteArray) (w : World) (h : oid_TypeName.f a0 = some r) :
    Calls Try.prog 19 #[.int .u32 a0] w fun e w' => e = .returned (.string r) ∧ Drawn0 w w' := by
  unfold oid_TypeName.f at h
  by_cases c16 : a0 = 16
  · rw [if_pos c16] at h
    subst c16
    obtain rfl := Option.some.inj h
    exact TypeName_16 w
  rw [if_neg c16] at h
  by_cases c17 : a0 = 17
  · rw [if_pos c17] at h
    subst c17
    obtain rfl := Option.some.inj h
    exact TypeName_17 w
  rw [if_neg c17] at h
  by_cases c20 : a0 = 20
  · rw [if_pos c20] at h
    subst c20
    obtain rfl := Option.some.inj h
    exact TypeName_20 w
  rw [if_neg c20] at h
  by_cases c21 : a0 = 21
  · rw [if_pos c21] at h
    subst c21
    obtain rfl := Option.some.inj h
    exact TypeName_21 w
  rw [if_neg c21] at h
  by_cases c23 : a0 = 23
  · rw [if_pos c23] at h
    subst c23
    obtain rfl := Option.some.inj h
    exact TypeName_23 w
  rw [if_neg c23] at h
  by_cases c25 : a0 = 25
  · rw [if_pos c25] at h
    subst c25
    obtain rfl := Option.some.inj h
    exact TypeName_25 w
  rw [if_neg c25] at h
  by_cases c114 : a0 = 114
  · rw [if_pos c114] at h
    subst c114
    obtain rfl := Option.some.inj h
    exact TypeName_114 w
  rw [if_neg c114] at h
  by_cases c700 : a0 = 700
  · rw [if_pos c700] at h
    subst c700
    obtain rfl := Option.some.inj h
    exact TypeName_700 w
  rw [if_neg c700] at h
  by_cases c701 : a0 = 701
  · rw [if_pos c701] at h
    subst c701
    obtain rfl := Option.some.inj h
    exact TypeName_701 w
  rw [if_neg c701] at h
  by_cases c1042 : a0 = 1042
  · rw [if_pos c1042] at h
    subst c1042
    obtain rfl := Option.some.inj h
    exact TypeName_1042 w
  rw [if_neg c1042] at h
  by_cases c1043 : a0 = 1043
  · rw [if_pos c1043] at h
    subst c1043
    obtain rfl := Option.some.inj h
    exact TypeName_1043 w
  rw [if_neg c1043] at h
  by_cases c1082 : a0 = 1082
  · rw [if_pos c1082] at h
    subst c1082
    obtain rfl := Option.some.inj h
    exact TypeName_1082 w
  rw [if_neg c1082] at h
  by_cases c1083 : a0 = 1083
  · rw [if_pos c1083] at h
    subst c1083
    obtain rfl := Option.some.inj h
    exact TypeName_1083 w
  rw [if_neg c1083] at h
  by_cases c1114 : a0 = 1114
  · rw [if_pos c1114] at h
    subst c1114
    obtain rfl := Option.some.inj h
    exact TypeName_1114 w
  rw [if_neg c1114] at h
  by_cases c1184 : a0 = 1184
  · rw [if_pos c1184] at h
    subst c1184
    obtain rfl := Option.some.inj h
    exact TypeName_1184 w
  rw [if_neg c1184] at h
  by_cases c1266 : a0 = 1266
  · rw [if_pos c1266] at h
    subst c1266
    obtain rfl := Option.some.inj h
    exact TypeName_1266 w
  rw [if_neg c1266] at h
  by_cases c1700 : a0 = 1700
  · rw [if_pos c1700] at h
    subst c1700
    obtain rfl := Option.some.inj h
    exact TypeName_1700 w
  rw [if_neg c1700] at h
  by_cases c2950 : a0 = 2950
  · rw [if_pos c2950] at h
    subst c2950
    obtain rfl := Option.some.inj h
    exact TypeName_2950 w
  rw [if_neg c2950] at h
  exact absurd h (by simp)

/-! ### pq_fieldDesc_Name: function 18 -/
def pq_fieldDesc_Name.f (a0_0 : Int) (a0_1 : Int) (a0_2 : Int) : Option (ByteArray) := (oid_TypeName.f a0_0).bind fun t102 => (some t102)
set_option maxHeartbeats 8000000 in
set_option maxRecDepth 100000 in
theorem pq_fieldDesc_Name.calls (a0_0 : Int) (a0_1 : Int) (a0_2 : Int) (r : ByteArray) (w : World) (h : pq_fieldDesc_Name.f a0_0 a0_1 a0_2 = some r) :
    Calls Try.prog 18 #[.agg #[.int .u32 a0_0, .int .i64 a0_1, .int .i64 a0_2]] w fun e w' => e = .returned (.string r) ∧ Below w.heap.size w w' := by
  have hu54 := Try.underlying54
  have HB := Aside0.mk (Below.refl w.heap.size w)
  have H : ((oid_TypeName.f a0_0).bind fun t102 => (some t102)) = some r := h
  clear h
  replace H := Option.bind_eq_some_iff.mp H
  obtain ⟨t102, A20, H⟩ := H
  replace H : (some t102) = some r := H
  have A2 := Aside0.mk A20
  clear A20
  obtain rfl := Option.some.inj H
  go_enter Try.func18, Try.ntmps18
  go_wp2_with (first | ((with_reducible refine gate_dst (N := 1) rfl ?_); refine box_event ?hg (N := 1) ?hd (cs := #[.int .u32 a0_0, .int .i64 a0_1, .int .i64 a0_2]) (t := 54) ?hr ?_; (case hd => rfl); (case hg => rfl); (case hr => first | (go_simp; done) | (go_simp; rfl)); intro gb101 hg w3 hbox hb; have n0_ := Aside0.mk (below_step (by repeat (first | (with_reducible first | exact HB.out | apply below_alloc | apply pw_below_drewN | apply below_drew1) | exact HB.out)) hb); have n1_ := Aside0.mk (hbox); have n2_ := Aside0.mk ((by rw [hg]; exact (below_size (by repeat (first | (with_reducible first | exact HB.out | apply below_alloc | apply pw_below_drewN | apply below_drew1) | exact HB.out))) : w.heap.size ≤ gb101)); have n3_ := Aside0.mk ((by rw [hg]; exact (below_size (by repeat (first | (with_reducible first | exact HB.out | apply below_alloc | apply pw_below_drewN | apply below_drew1) | exact HB.out))) : w.heap.size ≤ gb101)); clear HB; have HB := n0_; have BK101 := n1_; have GW101 := n2_; have GE101 := n3_; clear n0_ n1_ n2_ n3_; clear hb hbox hg; have hcz4_0 : w3.cell? ⟨gb101, 0, none⟩ = some (.int .u32 a0_0) := (blk_cell BK101.out 0).trans rfl; have hcz4_1 : w3.cell? ⟨gb101, 1, none⟩ = some (.int .i64 a0_1) := (blk_cell BK101.out 1).trans rfl; have hcz4_2 : w3.cell? ⟨gb101, 2, none⟩ = some (.int .i64 a0_2) := (blk_cell BK101.out 2).trans rfl; have hfz4_0 := blk_frozen BK101.out 0; have hfz4_1 := blk_frozen BK101.out 1; have hfz4_2 := blk_frozen BK101.out 2) | ((with_reducible refine gate_callee (f := 19) rfl ?_); refine goesL_ (some 5) rfl rfl Try.func19 (by kernel_rfl) rfl #[.int .u32 a0_0] rfl (by (try simp only [List.map_toArray, List.map_cons, List.map_nil]); first | done | rfl | (simp only [List.length_drop, List.length_take]; rfl)) ?_; (with_reducible refine (oid_TypeName.calls a0_0 t102 _ A2.out).mono ?_); rintro e w' ⟨rfl, ⟨nd, rfl⟩⟩; refine ⟨_, rfl, ?_⟩))
  go_ret
  exact ⟨by first | rfl | (simp [errW_none, errW_some] <;> rfl) | (simp [*, errW_none, errW_some] <;> rfl), by repeat (first | (with_reducible first | exact HB.out | apply below_alloc | apply pw_below_drewN | apply below_drew1 | refine below_set ?_ GE101.out) | exact HB.out)⟩

/-! ### pq_ColumnName: function 15 -/
def pq_ColumnName.f (a0 : Int) : Option (ByteArray) := (pq_fieldDesc_Name.f a0 0 0).bind fun t103 => (some t103)
set_option maxHeartbeats 8000000 in
set_option maxRecDepth 100000 in
theorem pq_ColumnName.calls (a0 : Int) (r : ByteArray) (w : World) (h : pq_ColumnName.f a0 = some r) :
    Calls Try.prog 15 #[.int .u32 a0] w fun e w' => e = .returned (.string r) ∧ Below w.heap.size w w' := by
  have hu54 := Try.underlying54
  have HB := Aside0.mk (Below.refl w.heap.size w)
  have H : ((pq_fieldDesc_Name.f a0 0 0).bind fun t103 => (some t103)) = some r := h
  clear h
  replace H := Option.bind_eq_some_iff.mp H
  obtain ⟨t103, A20, H⟩ := H
  replace H : (some t103) = some r := H
  have A2 := Aside0.mk A20
  clear A20
  obtain rfl := Option.some.inj H
  go_enter Try.func15, Try.ntmps15
  go_wp2_with (first | ((with_reducible refine gate_callee (f := 18) rfl ?_); refine goesL_ (some 5) rfl rfl Try.func18 (by kernel_rfl) rfl #[.agg #[.int .u32 a0, .int .i64 0, .int .i64 0]] rfl (by (try simp only [List.map_toArray, List.map_cons, List.map_nil]); first | done | rfl | (simp only [List.length_drop, List.length_take]; rfl)) ?_; (with_reducible refine (pq_fieldDesc_Name.calls a0 0 0 t103 _ A2.out).mono ?_); rintro e w3 ⟨rfl, hb⟩; refine ⟨_, rfl, ?_⟩; have n0_ := Aside0.mk (below_step (by repeat (first | (with_reducible first | exact HB.out | apply below_alloc | apply pw_below_drewN | apply below_drew1) | exact HB.out)) hb); clear HB; have HB := n0_; clear n0_; (try clear hb); (try clear hb2); (try clear hk); (try clear hi)))
  go_ret
  exact ⟨by first | rfl | (simp [errW_none, errW_some] <;> rfl) | (simp [*, errW_none, errW_some] <;> rfl), by repeat (first | (with_reducible first | exact HB.out | apply below_alloc | apply pw_below_drewN | apply below_drew1) | exact HB.out)⟩

/-! ### impl_TypeName: function 11 -/
def impl_TypeName.f (a0 : Int) : Option (ByteArray) := (pq_ColumnName.f a0).bind fun t104 => (some t104)
set_option maxHeartbeats 8000000 in
set_option maxRecDepth 100000 in
theorem impl_TypeName.calls (a0 : Int) (r : ByteArray) (w : World) (h : impl_TypeName.f a0 = some r) :
    Calls Try.prog 11 #[.int .u32 a0] w fun e w' => e = .returned (.string r) ∧ Below w.heap.size w w' := by
  have HB := Aside0.mk (Below.refl w.heap.size w)
  have H : ((pq_ColumnName.f a0).bind fun t104 => (some t104)) = some r := h
  clear h
  replace H := Option.bind_eq_some_iff.mp H
  obtain ⟨t104, A20, H⟩ := H
  replace H : (some t104) = some r := H
  have A2 := Aside0.mk A20
  clear A20
  obtain rfl := Option.some.inj H
  go_enter Try.func11, Try.ntmps11
  go_wp2_with (first | ((with_reducible refine gate_callee (f := 15) rfl ?_); refine goesL_ (some 4) rfl rfl Try.func15 (by kernel_rfl) rfl #[.int .u32 a0] rfl (by (try simp only [List.map_toArray, List.map_cons, List.map_nil]); first | done | rfl | (simp only [List.length_drop, List.length_take]; rfl)) ?_; (with_reducible refine (pq_ColumnName.calls a0 t104 _ A2.out).mono ?_); rintro e w3 ⟨rfl, hb⟩; refine ⟨_, rfl, ?_⟩; have n0_ := Aside0.mk (below_step (by repeat (first | (with_reducible first | exact HB.out | apply below_alloc | apply pw_below_drewN | apply below_drew1) | exact HB.out)) hb); clear HB; have HB := n0_; clear n0_; (try clear hb); (try clear hb2); (try clear hk); (try clear hi)))
  go_ret
  exact ⟨by first | rfl | (simp [errW_none, errW_some] <;> rfl) | (simp [*, errW_none, errW_some] <;> rfl), by repeat (first | (with_reducible first | exact HB.out | apply below_alloc | apply pw_below_drewN | apply below_drew1) | exact HB.out)⟩

/-! ### laws_FnTypeName: function 4 -/
def laws_FnTypeName.f (a0 : Int) : Option (Bool) := (some (([16, 17, 20, 21, 23, 25, 114, 700, 701, 1042, 1043, 1082, 1083, 1114, 1184, 1266, 1700, 2950] : List Int) : List Int)).bind fun y105 => ((some (([(⟨#[66, 79, 79, 76]⟩ : ByteArray), (⟨#[66, 89, 84, 69, 65]⟩ : ByteArray), (⟨#[73, 78, 84, 56]⟩ : ByteArray), (⟨#[73, 78, 84, 50]⟩ : ByteArray), (⟨#[73, 78, 84, 52]⟩ : ByteArray), (⟨#[84, 69, 88, 84]⟩ : ByteArray), (⟨#[74, 83, 79, 78]⟩ : ByteArray), (⟨#[70, 76, 79, 65, 84, 52]⟩ : ByteArray), (⟨#[70, 76, 79, 65, 84, 56]⟩ : ByteArray), (⟨#[66, 80, 67, 72, 65, 82]⟩ : ByteArray), (⟨#[86, 65, 82, 67, 72, 65, 82]⟩ : ByteArray), (⟨#[68, 65, 84, 69]⟩ : ByteArray), (⟨#[84, 73, 77, 69]⟩ : ByteArray), (⟨#[84, 73, 77, 69, 83, 84, 65, 77, 80]⟩ : ByteArray), (⟨#[84, 73, 77, 69, 83, 84, 65, 77, 80, 84, 90]⟩ : ByteArray), (⟨#[84, 73, 77, 69, 84, 90]⟩ : ByteArray), (⟨#[78, 85, 77, 69, 82, 73, 67]⟩ : ByteArray), (⟨#[85, 85, 73, 68]⟩ : ByteArray)] : List ByteArray) : List ByteArray)).bind fun y108 => (if (y105.length : Int) = 0 then (none) else (if 0 ≤ (Int.tmod (wrap64 (a0)) (y105.length : Int)) then (if (Int.tmod (wrap64 (a0)) (y105.length : Int)) < (y105.length : Int) then ((impl_TypeName.f (rd y105 (Int.tmod (wrap64 (a0)) (y105.length : Int)))).bind fun t112 => (if (Int.tmod (wrap64 (a0)) (y105.length : Int)) < (y108.length : Int) then (some (t112.toList == (rdOf ByteArray.empty y108 (Int.tmod (wrap64 (a0)) (y105.length : Int))).toList)) else (none))) else (none)) else (none))))
def laws_FnTypeName.T4 : Bool × List (List Nat × List Nat) := (true, [([], []), ([], []), ([0, 1], [0, 1]), ([2], [2]), ([3], [3]), ([], []), ([], []), ([5, 6], [5, 6]), ([7], [7]), ([4, 8], [4, 8]), ([9, 4, 0, 1, 2, 3, 4, 5, 6, 7, 8, 9], [9])])
def laws_FnTypeName.B4 : List Nat := [0, 0, 3, 7, 15, 0, 0, 96, 224, 511, 1023]
theorem laws_FnTypeName.tab4 : rtab .any (opsOf Try.f4 4) = laws_FnTypeName.T4 := by kernel_rfl
theorem laws_FnTypeName.bits4 : waitsOk laws_FnTypeName.T4.2 laws_FnTypeName.B4 = true := by kernel_rfl
set_option maxHeartbeats 8000000 in
set_option maxRecDepth 100000 in
theorem laws_FnTypeName.calls (a0 : Int) (r : Bool) (w : World) (h : laws_FnTypeName.f a0 = some r) :
    Calls Try.prog 4 #[.int .u8 a0] w fun e w' => e = .returned (.bool r) ∧ Below w.heap.size w w' := by
  have HB := Aside0.mk (Below.refl w.heap.size w)
  have H : ((some (([16, 17, 20, 21, 23, 25, 114, 700, 701, 1042, 1043, 1082, 1083, 1114, 1184, 1266, 1700, 2950] : List Int) : List Int)).bind fun y105 => ((some (([(⟨#[66, 79, 79, 76]⟩ : ByteArray), (⟨#[66, 89, 84, 69, 65]⟩ : ByteArray), (⟨#[73, 78, 84, 56]⟩ : ByteArray), (⟨#[73, 78, 84, 50]⟩ : ByteArray), (⟨#[73, 78, 84, 52]⟩ : ByteArray), (⟨#[84, 69, 88, 84]⟩ : ByteArray), (⟨#[74, 83, 79, 78]⟩ : ByteArray), (⟨#[70, 76, 79, 65, 84, 52]⟩ : ByteArray), (⟨#[70, 76, 79, 65, 84, 56]⟩ : ByteArray), (⟨#[66, 80, 67, 72, 65, 82]⟩ : ByteArray), (⟨#[86, 65, 82, 67, 72, 65, 82]⟩ : ByteArray), (⟨#[68, 65, 84, 69]⟩ : ByteArray), (⟨#[84, 73, 77, 69]⟩ : ByteArray), (⟨#[84, 73, 77, 69, 83, 84, 65, 77, 80]⟩ : ByteArray), (⟨#[84, 73, 77, 69, 83, 84, 65, 77, 80, 84, 90]⟩ : ByteArray), (⟨#[84, 73, 77, 69, 84, 90]⟩ : ByteArray), (⟨#[78, 85, 77, 69, 82, 73, 67]⟩ : ByteArray), (⟨#[85, 85, 73, 68]⟩ : ByteArray)] : List ByteArray) : List ByteArray)).bind fun y108 => (if (y105.length : Int) = 0 then (none) else (if 0 ≤ (Int.tmod (wrap64 (a0)) (y105.length : Int)) then (if (Int.tmod (wrap64 (a0)) (y105.length : Int)) < (y105.length : Int) then ((impl_TypeName.f (rd y105 (Int.tmod (wrap64 (a0)) (y105.length : Int)))).bind fun t112 => (if (Int.tmod (wrap64 (a0)) (y105.length : Int)) < (y108.length : Int) then (some (t112.toList == (rdOf ByteArray.empty y108 (Int.tmod (wrap64 (a0)) (y105.length : Int))).toList)) else (none))) else (none)) else (none))))) = some r := h
  clear h
  obtain ⟨y105, hy105⟩ : ∃ y_ : List Int, y_ = (([16, 17, 20, 21, 23, 25, 114, 700, 701, 1042, 1043, 1082, 1083, 1114, 1184, 1266, 1700, 2950] : List Int)) := ⟨_, rfl⟩
  replace H : ((some (([(⟨#[66, 79, 79, 76]⟩ : ByteArray), (⟨#[66, 89, 84, 69, 65]⟩ : ByteArray), (⟨#[73, 78, 84, 56]⟩ : ByteArray), (⟨#[73, 78, 84, 50]⟩ : ByteArray), (⟨#[73, 78, 84, 52]⟩ : ByteArray), (⟨#[84, 69, 88, 84]⟩ : ByteArray), (⟨#[74, 83, 79, 78]⟩ : ByteArray), (⟨#[70, 76, 79, 65, 84, 52]⟩ : ByteArray), (⟨#[70, 76, 79, 65, 84, 56]⟩ : ByteArray), (⟨#[66, 80, 67, 72, 65, 82]⟩ : ByteArray), (⟨#[86, 65, 82, 67, 72, 65, 82]⟩ : ByteArray), (⟨#[68, 65, 84, 69]⟩ : ByteArray), (⟨#[84, 73, 77, 69]⟩ : ByteArray), (⟨#[84, 73, 77, 69, 83, 84, 65, 77, 80]⟩ : ByteArray), (⟨#[84, 73, 77, 69, 83, 84, 65, 77, 80, 84, 90]⟩ : ByteArray), (⟨#[84, 73, 77, 69, 84, 90]⟩ : ByteArray), (⟨#[78, 85, 77, 69, 82, 73, 67]⟩ : ByteArray), (⟨#[85, 85, 73, 68]⟩ : ByteArray)] : List ByteArray) : List ByteArray)).bind fun y108 => (if (y105.length : Int) = 0 then (none) else (if 0 ≤ (Int.tmod (wrap64 (a0)) (y105.length : Int)) then (if (Int.tmod (wrap64 (a0)) (y105.length : Int)) < (y105.length : Int) then ((impl_TypeName.f (rd y105 (Int.tmod (wrap64 (a0)) (y105.length : Int)))).bind fun t112 => (if (Int.tmod (wrap64 (a0)) (y105.length : Int)) < (y108.length : Int) then (some (t112.toList == (rdOf ByteArray.empty y108 (Int.tmod (wrap64 (a0)) (y105.length : Int))).toList)) else (none))) else (none)) else (none)))) = some r := by first | (rw [hy105]; with_reducible exact H) | (have H2_ := (Option.bind_some _ _).symm.trans H; rw [hy105]; with_reducible exact H2_) | (have H2_ := (Option.bind_some _ _).symm.trans H; with_reducible exact H2_) | with_reducible exact H | (rw [hy105]; exact H) | exact H
  have Ny105 := Aside0.mk hy105
  clear hy105
  obtain ⟨y108, hy108⟩ : ∃ y_ : List ByteArray, y_ = (([(⟨#[66, 79, 79, 76]⟩ : ByteArray), (⟨#[66, 89, 84, 69, 65]⟩ : ByteArray), (⟨#[73, 78, 84, 56]⟩ : ByteArray), (⟨#[73, 78, 84, 50]⟩ : ByteArray), (⟨#[73, 78, 84, 52]⟩ : ByteArray), (⟨#[84, 69, 88, 84]⟩ : ByteArray), (⟨#[74, 83, 79, 78]⟩ : ByteArray), (⟨#[70, 76, 79, 65, 84, 52]⟩ : ByteArray), (⟨#[70, 76, 79, 65, 84, 56]⟩ : ByteArray), (⟨#[66, 80, 67, 72, 65, 82]⟩ : ByteArray), (⟨#[86, 65, 82, 67, 72, 65, 82]⟩ : ByteArray), (⟨#[68, 65, 84, 69]⟩ : ByteArray), (⟨#[84, 73, 77, 69]⟩ : ByteArray), (⟨#[84, 73, 77, 69, 83, 84, 65, 77, 80]⟩ : ByteArray), (⟨#[84, 73, 77, 69, 83, 84, 65, 77, 80, 84, 90]⟩ : ByteArray), (⟨#[84, 73, 77, 69, 84, 90]⟩ : ByteArray), (⟨#[78, 85, 77, 69, 82, 73, 67]⟩ : ByteArray), (⟨#[85, 85, 73, 68]⟩ : ByteArray)] : List ByteArray)) := ⟨_, rfl⟩
  replace H : (if (y105.length : Int) = 0 then (none) else (if 0 ≤ (Int.tmod (wrap64 (a0)) (y105.length : Int)) then (if (Int.tmod (wrap64 (a0)) (y105.length : Int)) < (y105.length : Int) then ((impl_TypeName.f (rd y105 (Int.tmod (wrap64 (a0)) (y105.length : Int)))).bind fun t112 => (if (Int.tmod (wrap64 (a0)) (y105.length : Int)) < (y108.length : Int) then (some (t112.toList == (rdOf ByteArray.empty y108 (Int.tmod (wrap64 (a0)) (y105.length : Int))).toList)) else (none))) else (none)) else (none))) = some r := by first | (rw [hy108]; with_reducible exact H) | (have H2_ := (Option.bind_some _ _).symm.trans H; rw [hy108]; with_reducible exact H2_) | (have H2_ := (Option.bind_some _ _).symm.trans H; with_reducible exact H2_) | with_reducible exact H | (rw [hy108]; exact H) | exact H
  have Ny108 := Aside0.mk hy108
  clear hy108
  by_cases c2 : (y105.length : Int) = 0
  · rw [if_pos c2] at H
    exact absurd H (by simp)
  · rw [if_neg c2] at H
    have c2b0 : ((y105.length : Int) == 0) = false := beq_eq_false_iff_ne.mpr c2
    have c2b1 : ((y105.length : Int) != 0) = true := bne_iff_ne.mpr c2
    have c2b2 : ¬ (y105 = []) := fun h_ => c2 (by rw [h_]; rfl)
    obtain ⟨ji3, hji3⟩ : ∃ j_ : Int, (Int.tmod (wrap64 (a0)) (y105.length : Int)) = j_ := ⟨_, rfl⟩
    replace H : (if 0 ≤ (ji3) then (if (ji3) < (y105.length : Int) then ((impl_TypeName.f (rd y105 (ji3))).bind fun t112 => (if (ji3) < (y108.length : Int) then (some (t112.toList == (rdOf ByteArray.empty y108 (ji3)).toList)) else (none))) else (none)) else (none)) = some r := by first | (rw [hji3] at H; exact H) | (simp only [hji3] at H ⊢; exact H)
    by_cases c4 : 0 ≤ (ji3)
    · rw [if_pos c4] at H
      have c4b0 : decide (0 ≤ (ji3)) = true := decide_eq_true c4
      clear c4
      by_cases c5 : (ji3) < (y105.length : Int)
      · rw [if_pos c5] at H
        have c5b0 : decide ((ji3) < (y105.length : Int)) = true := decide_eq_true c5
        clear c5
        replace H := Option.bind_eq_some_iff.mp H
        obtain ⟨t112, A60, H⟩ := H
        replace H : (if (ji3) < (y108.length : Int) then (some (t112.toList == (rdOf ByteArray.empty y108 (ji3)).toList)) else (none)) = some r := H
        have A6 := Aside0.mk A60
        clear A60
        by_cases c7 : (ji3) < (y108.length : Int)
        · rw [if_pos c7] at H
          have c7b0 : decide ((ji3) < (y108.length : Int)) = true := decide_eq_true c7
          clear c7
          obtain rfl := Option.some.inj H
          go_enter Try.func4, Try.ntmps4
          try go_wp2_with (first | ((with_reducible refine gate_dst (N := 6) rfl ?_); refine Kd.R_lit (Kd.int .u32) _ 29 ?hg (N := 6) ?hd (xs := ([16, 17, 20, 21, 23, 25, 114, 700, 701, 1042, 1043, 1082, 1083, 1114, 1184, 1266, 1700, 2950] : List Int)) (inner := [.int .u32 16, .int .u32 17, .int .u32 20, .int .u32 21, .int .u32 23, .int .u32 25, .int .u32 114, .int .u32 700, .int .u32 701, .int .u32 1042, .int .u32 1043, .int .u32 1082, .int .u32 1083, .int .u32 1114, .int .u32 1184, .int .u32 1266, .int .u32 1700, .int .u32 2950]) (ok := fun _ => True) (okp := fun _ => True) ?hr ?hp (fun _ hk => hk) trivial (Below.refl _ _) (Nat.le_refl _) (by simp) ?_; (case hd => rfl); (case hg => rfl); (case hr => first | (go_simp; done) | (go_simp; rfl)); (case hp => exact (Reps.one (show Kd.M (Kd.int .u32) _ _ _ 16 [.int .u32 16] from rfl) (Reps.one (show Kd.M (Kd.int .u32) _ _ _ 17 [.int .u32 17] from rfl) (Reps.one (show Kd.M (Kd.int .u32) _ _ _ 20 [.int .u32 20] from rfl) (Reps.one (show Kd.M (Kd.int .u32) _ _ _ 21 [.int .u32 21] from rfl) (Reps.one (show Kd.M (Kd.int .u32) _ _ _ 23 [.int .u32 23] from rfl) (Reps.one (show Kd.M (Kd.int .u32) _ _ _ 25 [.int .u32 25] from rfl) (Reps.one (show Kd.M (Kd.int .u32) _ _ _ 114 [.int .u32 114] from rfl) (Reps.one (show Kd.M (Kd.int .u32) _ _ _ 700 [.int .u32 700] from rfl) (Reps.one (show Kd.M (Kd.int .u32) _ _ _ 701 [.int .u32 701] from rfl) (Reps.one (show Kd.M (Kd.int .u32) _ _ _ 1042 [.int .u32 1042] from rfl) (Reps.one (show Kd.M (Kd.int .u32) _ _ _ 1043 [.int .u32 1043] from rfl) (Reps.one (show Kd.M (Kd.int .u32) _ _ _ 1082 [.int .u32 1082] from rfl) (Reps.one (show Kd.M (Kd.int .u32) _ _ _ 1083 [.int .u32 1083] from rfl) (Reps.one (show Kd.M (Kd.int .u32) _ _ _ 1114 [.int .u32 1114] from rfl) (Reps.one (show Kd.M (Kd.int .u32) _ _ _ 1184 [.int .u32 1184] from rfl) (Reps.one (show Kd.M (Kd.int .u32) _ _ _ 1266 [.int .u32 1266] from rfl) (Reps.one (show Kd.M (Kd.int .u32) _ _ _ 1700 [.int .u32 1700] from rfl) (Reps.one (show Kd.M (Kd.int .u32) _ _ _ 2950 [.int .u32 2950] from rfl) (Reps.none _ _)))))))))))))))))))); intro v106 w8 ho9 hb hg_ hnew_; clear hg_ hnew_; (first | rw [← Ny105.out] at ho9 | (simp only [Int.reduceToNat] at ho9; rw [← Ny105.out] at ho9)); have n0_ := Aside0.mk (Kd.R_lower ho9 (below_size (by repeat (first | (with_reducible first | exact HB.out | apply below_alloc | apply pw_below_drewN | apply below_drew1) | exact HB.out)))); have n1_ := Aside0.mk (below_step (by repeat (first | (with_reducible first | exact HB.out | apply below_alloc | apply pw_below_drewN | apply below_drew1) | exact HB.out)) hb); clear HB; have HO107 := n0_; have HB := n1_; clear n0_ n1_; clear hb ho9) | ((with_reducible refine gate_dst (N := 7) rfl ?_); refine Kd.R_lit Kd.string _ 9 ?hg (N := 7) ?hd (xs := ([(⟨#[66, 79, 79, 76]⟩ : ByteArray), (⟨#[66, 89, 84, 69, 65]⟩ : ByteArray), (⟨#[73, 78, 84, 56]⟩ : ByteArray), (⟨#[73, 78, 84, 50]⟩ : ByteArray), (⟨#[73, 78, 84, 52]⟩ : ByteArray), (⟨#[84, 69, 88, 84]⟩ : ByteArray), (⟨#[74, 83, 79, 78]⟩ : ByteArray), (⟨#[70, 76, 79, 65, 84, 52]⟩ : ByteArray), (⟨#[70, 76, 79, 65, 84, 56]⟩ : ByteArray), (⟨#[66, 80, 67, 72, 65, 82]⟩ : ByteArray), (⟨#[86, 65, 82, 67, 72, 65, 82]⟩ : ByteArray), (⟨#[68, 65, 84, 69]⟩ : ByteArray), (⟨#[84, 73, 77, 69]⟩ : ByteArray), (⟨#[84, 73, 77, 69, 83, 84, 65, 77, 80]⟩ : ByteArray), (⟨#[84, 73, 77, 69, 83, 84, 65, 77, 80, 84, 90]⟩ : ByteArray), (⟨#[84, 73, 77, 69, 84, 90]⟩ : ByteArray), (⟨#[78, 85, 77, 69, 82, 73, 67]⟩ : ByteArray), (⟨#[85, 85, 73, 68]⟩ : ByteArray)] : List ByteArray)) (inner := [.string (⟨#[66, 79, 79, 76]⟩ : ByteArray), .string (⟨#[66, 89, 84, 69, 65]⟩ : ByteArray), .string (⟨#[73, 78, 84, 56]⟩ : ByteArray), .string (⟨#[73, 78, 84, 50]⟩ : ByteArray), .string (⟨#[73, 78, 84, 52]⟩ : ByteArray), .string (⟨#[84, 69, 88, 84]⟩ : ByteArray), .string (⟨#[74, 83, 79, 78]⟩ : ByteArray), .string (⟨#[70, 76, 79, 65, 84, 52]⟩ : ByteArray), .string (⟨#[70, 76, 79, 65, 84, 56]⟩ : ByteArray), .string (⟨#[66, 80, 67, 72, 65, 82]⟩ : ByteArray), .string (⟨#[86, 65, 82, 67, 72, 65, 82]⟩ : ByteArray), .string (⟨#[68, 65, 84, 69]⟩ : ByteArray), .string (⟨#[84, 73, 77, 69]⟩ : ByteArray), .string (⟨#[84, 73, 77, 69, 83, 84, 65, 77, 80]⟩ : ByteArray), .string (⟨#[84, 73, 77, 69, 83, 84, 65, 77, 80, 84, 90]⟩ : ByteArray), .string (⟨#[84, 73, 77, 69, 84, 90]⟩ : ByteArray), .string (⟨#[78, 85, 77, 69, 82, 73, 67]⟩ : ByteArray), .string (⟨#[85, 85, 73, 68]⟩ : ByteArray)]) (ok := fun _ => True) (okp := fun _ => True) ?hr ?hp (fun _ hk => hk) trivial (Below.refl _ _) (Nat.le_refl _) (by simp) ?_; (case hd => rfl); (case hg => rfl); (case hr => first | (go_simp; done) | (go_simp; rfl)); (case hp => exact (Reps.one (show Kd.M Kd.string _ _ _ (⟨#[66, 79, 79, 76]⟩ : ByteArray) [.string (⟨#[66, 79, 79, 76]⟩ : ByteArray)] from rfl) (Reps.one (show Kd.M Kd.string _ _ _ (⟨#[66, 89, 84, 69, 65]⟩ : ByteArray) [.string (⟨#[66, 89, 84, 69, 65]⟩ : ByteArray)] from rfl) (Reps.one (show Kd.M Kd.string _ _ _ (⟨#[73, 78, 84, 56]⟩ : ByteArray) [.string (⟨#[73, 78, 84, 56]⟩ : ByteArray)] from rfl) (Reps.one (show Kd.M Kd.string _ _ _ (⟨#[73, 78, 84, 50]⟩ : ByteArray) [.string (⟨#[73, 78, 84, 50]⟩ : ByteArray)] from rfl) (Reps.one (show Kd.M Kd.string _ _ _ (⟨#[73, 78, 84, 52]⟩ : ByteArray) [.string (⟨#[73, 78, 84, 52]⟩ : ByteArray)] from rfl) (Reps.one (show Kd.M Kd.string _ _ _ (⟨#[84, 69, 88, 84]⟩ : ByteArray) [.string (⟨#[84, 69, 88, 84]⟩ : ByteArray)] from rfl) (Reps.one (show Kd.M Kd.string _ _ _ (⟨#[74, 83, 79, 78]⟩ : ByteArray) [.string (⟨#[74, 83, 79, 78]⟩ : ByteArray)] from rfl) (Reps.one (show Kd.M Kd.string _ _ _ (⟨#[70, 76, 79, 65, 84, 52]⟩ : ByteArray) [.string (⟨#[70, 76, 79, 65, 84, 52]⟩ : ByteArray)] from rfl) (Reps.one (show Kd.M Kd.string _ _ _ (⟨#[70, 76, 79, 65, 84, 56]⟩ : ByteArray) [.string (⟨#[70, 76, 79, 65, 84, 56]⟩ : ByteArray)] from rfl) (Reps.one (show Kd.M Kd.string _ _ _ (⟨#[66, 80, 67, 72, 65, 82]⟩ : ByteArray) [.string (⟨#[66, 80, 67, 72, 65, 82]⟩ : ByteArray)] from rfl) (Reps.one (show Kd.M Kd.string _ _ _ (⟨#[86, 65, 82, 67, 72, 65, 82]⟩ : ByteArray) [.string (⟨#[86, 65, 82, 67, 72, 65, 82]⟩ : ByteArray)] from rfl) (Reps.one (show Kd.M Kd.string _ _ _ (⟨#[68, 65, 84, 69]⟩ : ByteArray) [.string (⟨#[68, 65, 84, 69]⟩ : ByteArray)] from rfl) (Reps.one (show Kd.M Kd.string _ _ _ (⟨#[84, 73, 77, 69]⟩ : ByteArray) [.string (⟨#[84, 73, 77, 69]⟩ : ByteArray)] from rfl) (Reps.one (show Kd.M Kd.string _ _ _ (⟨#[84, 73, 77, 69, 83, 84, 65, 77, 80]⟩ : ByteArray) [.string (⟨#[84, 73, 77, 69, 83, 84, 65, 77, 80]⟩ : ByteArray)] from rfl) (Reps.one (show Kd.M Kd.string _ _ _ (⟨#[84, 73, 77, 69, 83, 84, 65, 77, 80, 84, 90]⟩ : ByteArray) [.string (⟨#[84, 73, 77, 69, 83, 84, 65, 77, 80, 84, 90]⟩ : ByteArray)] from rfl) (Reps.one (show Kd.M Kd.string _ _ _ (⟨#[84, 73, 77, 69, 84, 90]⟩ : ByteArray) [.string (⟨#[84, 73, 77, 69, 84, 90]⟩ : ByteArray)] from rfl) (Reps.one (show Kd.M Kd.string _ _ _ (⟨#[78, 85, 77, 69, 82, 73, 67]⟩ : ByteArray) [.string (⟨#[78, 85, 77, 69, 82, 73, 67]⟩ : ByteArray)] from rfl) (Reps.one (show Kd.M Kd.string _ _ _ (⟨#[85, 85, 73, 68]⟩ : ByteArray) [.string (⟨#[85, 85, 73, 68]⟩ : ByteArray)] from rfl) (Reps.none _ _)))))))))))))))))))); intro v109 w10 ho11 hb hg_ hnew_; clear hg_ hnew_; (first | rw [← Ny108.out] at ho11 | (simp only [Int.reduceToNat] at ho11; rw [← Ny108.out] at ho11)); have n0_ := Aside0.mk (Kd.R_below (by (with_reducible repeat (first | apply Kd.R_alloc | apply Kd.R_drewN | apply Kd.R_drew)); exact HO107.out) hb); have n1_ := Aside0.mk (Kd.R_lower ho11 (below_size (by repeat (first | (with_reducible first | exact HB.out | apply below_alloc | apply pw_below_drewN | apply below_drew1) | exact HB.out)))); have n2_ := Aside0.mk (below_step (by repeat (first | (with_reducible first | exact HB.out | apply below_alloc | apply pw_below_drewN | apply below_drew1) | exact HB.out)) hb); clear HO107; clear HB; have HO107 := n0_; have HO110 := n1_; have HB := n2_; clear n0_ n1_ n2_; clear hb ho11; obtain ⟨Ao12, co12, eo12⟩ := Kd.R_slice HO107.out; subst eo12))
          have n0_ := Aside0.mk (Kd.R_drew HO107.out)
          have n1_ := Aside0.mk (Kd.R_drew HO110.out)
          have n2_ := Aside0.mk (below_drew1 HB.out)
          clear HO107
          clear HO110
          clear HB
          have HO107 := n0_
          have HO110 := n1_
          have HB := n2_
          clear n0_ n1_ n2_
          have p111 : 0 ≤ ((ji3) : Int) := of_decide_eq_true (by first | (with_reducible assumption) | assumption)
          have q111 : (ji3) < (y105.length : Int) := of_decide_eq_true (by first | (with_reducible assumption) | assumption)
          obtain ⟨ad111, e111, hx111_0⟩ := Kd.at_int (Kd.R_reads' HO107.out).2.2 (ji3) p111 q111
          cases e111
          replace p111 := eq_true p111
          replace q111 := eq_true q111
          obtain ⟨Ao14, co14, eo14⟩ := Kd.R_slice HO110.out
          (first | subst eo14 | (injection eo14 with f1_ f2_ f3_; have f4_ := f1_.symm; have f5_ := f3_.symm; clear f1_ f2_ f3_; subst f4_; subst f5_))
          have p113 : 0 ≤ ((ji3) : Int) := of_decide_eq_true (by first | (with_reducible assumption) | assumption)
          have q113 : (ji3) < (y108.length : Int) := of_decide_eq_true (by first | (with_reducible assumption) | assumption)
          obtain ⟨ad113, e113, hx113_0⟩ := Kd.at_string (Kd.R_reads' HO110.out).2.2 (ji3) p113 q113
          cases e113
          replace p113 := eq_true p113
          replace q113 := eq_true q113
          refine start_ (n := 11) (S := fun w' => w'.cell? (ad111.add ((ji3)).toNat) = some (.int .u32 (rd y105 (ji3))) ∧ w'.cell? (ad113.add ((ji3)).toNat) = some (.string (rdOf ByteArray.empty y108 (ji3)))) (ds := []) #[false, false, false, false, false, false, false, false, false, false, false] (by kernel_rfl) rfl rfl ⟨hx111_0, hx113_0⟩ (fun hHeld => ?_); refine with_tabW laws_FnTypeName.tab4 laws_FnTypeName.bits4 (fun HT_ HW_ => ?_)
          generalize w10.drew = w13 at HO107 HO110 HB hx111_0 hx113_0 hHeld ⊢
          refine pure_ (i := 0) (N := some 13) (v := ?_) (a' := ?_) #[true, false, false, false, false, false, false, false, false, false, false] rfl rfl (any_of HT_.out (by kernel_rfl)) (fun _ _ _ h => h) (Or.inl ⟨by rfl, ?_⟩) ?_ ?_
          rotate_left
          · intro w'
            go_simp
            with_reducible rfl
          rotate_left
          · simp only [Act.put, List.setIfInBounds_toArray, List.set_cons_zero, List.set_cons_succ, i64_w, i32_w]
            rfl
          refine pure_ (i := 1) (N := some 14) (v := ?_) (a' := ?_) #[true, true, false, false, false, false, false, false, false, false, false] rfl rfl (any_of HT_.out (by kernel_rfl)) (fun _ _ _ h => h) (Or.inl ⟨by rfl, ?_⟩) ?_ ?_
          rotate_left
          · intro w'
            go_simp
            with_reducible rfl
          rotate_left
          · simp only [Act.put, List.setIfInBounds_toArray, List.set_cons_zero, List.set_cons_succ, i64_w, i32_w]
            rfl
          refine pure_ (i := 2) (N := some 15) (v := ?_) (a' := ?_) #[true, true, true, false, false, false, false, false, false, false, false] rfl rfl (any_of HT_.out (by kernel_rfl)) (fun _ _ _ h => h) (Or.inl ⟨by rfl, ?_⟩) ?_ ?_
          rotate_left
          · intro w'
            go_simp
            with_reducible rfl
          rotate_left
          · simp only [Act.put, List.setIfInBounds_toArray, List.set_cons_zero, List.set_cons_succ, i64_w, i32_w]
            rfl
          refine pure_ (i := 5) (N := some 18) (v := ?_) (a' := ?_) #[true, true, true, false, false, true, false, false, false, false, false] rfl rfl (any_of HT_.out (by kernel_rfl)) (fun _ _ _ h => h) (Or.inl ⟨by rfl, ?_⟩) ?_ ?_
          rotate_left
          · intro w'
            go_simp
            with_reducible rfl
          rotate_left
          · simp only [Act.put, List.setIfInBounds_toArray, List.set_cons_zero, List.set_cons_succ, i64_w, i32_w]
            rfl
          refine pure_ (i := 6) (N := some 19) (v := ?_) (a' := ?_) #[true, true, true, false, false, true, true, false, false, false, false] rfl rfl (any_of HT_.out (by kernel_rfl)) (fun _ _ _ h => h) (Or.inl ⟨by rfl, ?_⟩) ?_ ?_
          rotate_left
          · intro w'
            go_simp
            with_reducible rfl
          rotate_left
          · simp only [Act.put, List.setIfInBounds_toArray, List.set_cons_zero, List.set_cons_succ, i64_w, i32_w]
            rfl
          refine pure_ (i := 7) (N := some 20) (v := ?_) (a' := ?_) #[true, true, true, false, false, true, true, true, false, false, false] rfl rfl (any_of HT_.out (by kernel_rfl)) (fun _ _ _ h => h) (Or.inl ⟨by rfl, ?_⟩) ?_ ?_
          rotate_left
          · intro w'
            go_simp
            with_reducible rfl
          rotate_left
          · simp only [Act.put, List.setIfInBounds_toArray, List.set_cons_zero, List.set_cons_succ, i64_w, i32_w]
            rfl
          refine take_ (i := 3) (N := some 16) (v := ?_) (a' := ?_) #[true, true, true, true, false, true, true, true, false, false, false] rfl rfl (take_ofW HT_.out HW_.out (by kernel_rfl)) (fun _ _ _ h => h) (Or.inl ⟨by rfl, ?_⟩) hHeld ?_ ?_
          rotate_left
          · rintro w' ⟨s0, s1⟩
            go_simp
            with_reducible rfl
          rotate_left
          · simp only [Act.put, List.setIfInBounds_toArray, List.set_cons_zero, List.set_cons_succ, i64_w, i32_w]
            rfl
          refine take_ (i := 8) (N := some 21) (v := ?_) (a' := ?_) #[true, true, true, true, false, true, true, true, true, false, false] rfl rfl (take_ofW HT_.out HW_.out (by kernel_rfl)) (fun _ _ _ h => h) (Or.inl ⟨by rfl, ?_⟩) hHeld ?_ ?_
          rotate_left
          · rintro w' ⟨s0, s1⟩
            go_simp
            with_reducible rfl
          rotate_left
          · simp only [Act.put, List.setIfInBounds_toArray, List.set_cons_zero, List.set_cons_succ, i64_w, i32_w]
            rfl
          refine one_ (i := 4) (N := some 17) #[true, true, true, true, true, true, true, true, true, false, false] rfl rfl (one_of HT_.out (by kernel_rfl)) (by decide) (fun K hK => ?_)
          refine goes_ Try.func11 (by kernel_rfl) rfl #[.int .u32 (rd y105 (ji3))] (by rfl) rfl rfl (by (try simp only [List.map_toArray, List.map_cons, List.map_nil]); first | done | (simp only [hji3]; rfl) | rfl | (simp only [List.length_drop, List.length_take]; rfl)) ?_
          with_reducible refine (impl_TypeName.calls (rd y105 (ji3)) t112 _ A6.out).mono ?_
          rintro e w15 ⟨rfl, hb⟩
          have HS0_ := (hb.cell (World.block_lt_of_cell? _ _ (hHeld.1))).trans (hHeld.1)
          have HS1_ := (hb.cell (World.block_lt_of_cell? _ _ (hHeld.2))).trans (hHeld.2)
          refine ⟨_, rfl, ?_⟩
          have n0_ := Aside0.mk (Kd.R_below (by (with_reducible repeat (first | apply Kd.R_alloc | apply Kd.R_drewN | apply Kd.R_drew)); exact HO107.out) hb)
          have n1_ := Aside0.mk (Kd.R_below (by (with_reducible repeat (first | apply Kd.R_alloc | apply Kd.R_drewN | apply Kd.R_drew)); exact HO110.out) hb)
          have n2_ := Aside0.mk (below_step (by repeat (first | (with_reducible first | exact HB.out | apply below_alloc | apply pw_below_drewN | apply below_drew1) | exact HB.out)) hb)
          clear HO107
          clear HO110
          clear HB
          have HO107 := n0_
          have HO110 := n1_
          have HB := n2_
          clear n0_ n1_ n2_
          (try clear hb)
          (try clear hb2)
          (try clear hk)
          (try clear hi)
          refine hK.out _ _ ⟨HS0_, HS1_⟩ (fun hHeld => ?_)
          clear hK K
          refine norm_ (a' := ?_) ?_ ?_
          rotate_left
          · show Act.put _ (some 17) _ = _
            simp only [Act.put, List.setIfInBounds_toArray, List.set_cons_zero, List.set_cons_succ, i64_w, i32_w]
            rfl
          refine pure_ (i := 9) (N := some 22) (v := ?_) (a' := ?_) #[true, true, true, true, true, true, true, true, true, true, false] rfl rfl (any_of HT_.out (by kernel_rfl)) (fun _ _ _ h => h) (Or.inl ⟨by rfl, ?_⟩) ?_ ?_
          rotate_left
          · intro w'
            go_simp
            with_reducible rfl
          rotate_left
          · simp only [Act.put, List.setIfInBounds_toArray, List.set_cons_zero, List.set_cons_succ, i64_w, i32_w]
            rfl
          refine pure_ (i := 10) (N := some 2) (v := ?_) (a' := ?_) #[true, true, true, true, true, true, true, true, true, true, true] rfl rfl (any_of HT_.out (by kernel_rfl)) (fun _ _ _ h => h) (Or.inl ⟨by rfl, ?_⟩) ?_ ?_
          rotate_left
          · intro w'
            go_simp
            with_reducible rfl
          rotate_left
          · simp only [Act.put, List.setIfInBounds_toArray, List.set_cons_zero, List.set_cons_succ, i64_w, i32_w]
            rfl
          refine done_ (done_of HT_.out (by kernel_rfl)) ?_
          try go_wp2
          go_ret
          exact ⟨by first | rfl | (simp [errW_none, errW_some] <;> rfl) | (simp only [← hji3]; first | rfl | (simp [errW_none, errW_some] <;> rfl)) | (simp [*, errW_none, errW_some] <;> rfl), by repeat (first | (with_reducible first | exact HB.out | apply below_alloc | apply pw_below_drewN | apply below_drew1) | exact HB.out)⟩
        · rw [if_neg c7] at H
          exact absurd H (by simp)
      · rw [if_neg c5] at H
        exact absurd H (by simp)
    · rw [if_neg c4] at H
      exact absurd H (by simp)

/-- THE ONE PURE STATEMENT of laws_FnTypeName: yours. -/
def laws_FnTypeName.Pure : Prop := ∀ (a0 : Int), (Lit.int .u8 a0).wf = true → laws_FnTypeName.f a0 = some true
theorem laws_FnTypeName.walk (P : laws_FnTypeName.Pure) (a0 : Int) (w : World) (w0 : (Lit.int .u8 a0).wf = true) :
    Calls Try.prog 4 #[.int .u8 a0] w fun e w' => e = .returned (.bool true) ∧ Below w.heap.size w w' := by
  have h := P a0 w0
  refine (laws_FnTypeName.calls a0 true w h).mono ?_
  rintro e w' ⟨rfl, hd⟩
  exact ⟨rfl, hd⟩

/-! ### laws_zzFits14: function 12 -/
def laws_zzFits14.f (a0_0 : ByteArray) (a0_1 : ByteArray) (a0_2 : Bool) : Option (Bool) := if (a0_0.size : Int) > 2147483647 then (some false) else (if (a0_1.size : Int) > 2147483647 then (some false) else (some true))
set_option maxHeartbeats 8000000 in
set_option maxRecDepth 100000 in
theorem laws_zzFits14.calls (a0_0 : ByteArray) (a0_1 : ByteArray) (a0_2 : Bool) (r : Bool) (w : World) (h : laws_zzFits14.f a0_0 a0_1 a0_2 = some r) :
    Calls Try.prog 12 #[.agg #[.string a0_0, .string a0_1, .bool a0_2]] w fun e w' => e = .returned (.bool r) ∧ Below w.heap.size w w' := by
  have hu35 := Try.underlying35
  have HB := Aside0.mk (Below.refl w.heap.size w)
  have H : (if (a0_0.size : Int) > 2147483647 then (some false) else (if (a0_1.size : Int) > 2147483647 then (some false) else (some true))) = some r := h
  clear h
  by_cases c2 : (a0_0.size : Int) > 2147483647
  · rw [if_pos c2] at H
    have c2b0 : decide (2147483647 < (a0_0.size : Int)) = true := decide_eq_true c2
    have c2b1 : decide (2147483647 < a0_0.size) = true := decide_eq_true (by omega)
    clear c2
    obtain rfl := Option.some.inj H
    go_enter Try.func12, Try.ntmps12
    go_wp2_with (first | ((with_reducible refine gate_dst (N := 1) rfl ?_); refine box_event ?hg (N := 1) ?hd (cs := #[.string a0_0, .string a0_1, .bool a0_2]) (t := 35) ?hr ?_; (case hd => rfl); (case hg => rfl); (case hr => first | (go_simp; done) | (go_simp; rfl)); intro gb114 hg w3 hbox hb; have n0_ := Aside0.mk (below_step (by repeat (first | (with_reducible first | exact HB.out | apply below_alloc | apply pw_below_drewN | apply below_drew1) | exact HB.out)) hb); have n1_ := Aside0.mk (hbox); have n2_ := Aside0.mk ((by rw [hg]; exact (below_size (by repeat (first | (with_reducible first | exact HB.out | apply below_alloc | apply pw_below_drewN | apply below_drew1) | exact HB.out))) : w.heap.size ≤ gb114)); have n3_ := Aside0.mk ((by rw [hg]; exact (below_size (by repeat (first | (with_reducible first | exact HB.out | apply below_alloc | apply pw_below_drewN | apply below_drew1) | exact HB.out))) : w.heap.size ≤ gb114)); clear HB; have HB := n0_; have BK114 := n1_; have GW114 := n2_; have GE114 := n3_; clear n0_ n1_ n2_ n3_; clear hb hbox hg; have hcz4_0 : w3.cell? ⟨gb114, 0, none⟩ = some (.string a0_0) := (blk_cell BK114.out 0).trans rfl; have hcz4_1 : w3.cell? ⟨gb114, 1, none⟩ = some (.string a0_1) := (blk_cell BK114.out 1).trans rfl; have hcz4_2 : w3.cell? ⟨gb114, 2, none⟩ = some (.bool a0_2) := (blk_cell BK114.out 2).trans rfl; have hfz4_0 := blk_frozen BK114.out 0; have hfz4_1 := blk_frozen BK114.out 1; have hfz4_2 := blk_frozen BK114.out 2))
    go_ret
    exact ⟨by first | rfl | (simp [errW_none, errW_some] <;> rfl) | (simp [*, errW_none, errW_some] <;> rfl), by repeat (first | (with_reducible first | exact HB.out | apply below_alloc | apply pw_below_drewN | apply below_drew1 | refine below_set ?_ GE114.out) | exact HB.out)⟩
  · rw [if_neg c2] at H
    have c2b0 : decide (2147483647 < (a0_0.size : Int)) = false := decide_eq_false c2
    have c2b1 : decide (2147483647 < a0_0.size) = false := decide_eq_false (by omega)
    clear c2
    by_cases c5 : (a0_1.size : Int) > 2147483647
    · rw [if_pos c5] at H
      have c5b0 : decide (2147483647 < (a0_1.size : Int)) = true := decide_eq_true c5
      have c5b1 : decide (2147483647 < a0_1.size) = true := decide_eq_true (by omega)
      clear c5
      obtain rfl := Option.some.inj H
      go_enter Try.func12, Try.ntmps12
      go_wp2_with (first | ((with_reducible refine gate_dst (N := 1) rfl ?_); refine box_event ?hg (N := 1) ?hd (cs := #[.string a0_0, .string a0_1, .bool a0_2]) (t := 35) ?hr ?_; (case hd => rfl); (case hg => rfl); (case hr => first | (go_simp; done) | (go_simp; rfl)); intro gb114 hg w6 hbox hb; have n0_ := Aside0.mk (below_step (by repeat (first | (with_reducible first | exact HB.out | apply below_alloc | apply pw_below_drewN | apply below_drew1) | exact HB.out)) hb); have n1_ := Aside0.mk (hbox); have n2_ := Aside0.mk ((by rw [hg]; exact (below_size (by repeat (first | (with_reducible first | exact HB.out | apply below_alloc | apply pw_below_drewN | apply below_drew1) | exact HB.out))) : w.heap.size ≤ gb114)); have n3_ := Aside0.mk ((by rw [hg]; exact (below_size (by repeat (first | (with_reducible first | exact HB.out | apply below_alloc | apply pw_below_drewN | apply below_drew1) | exact HB.out))) : w.heap.size ≤ gb114)); clear HB; have HB := n0_; have BK114 := n1_; have GW114 := n2_; have GE114 := n3_; clear n0_ n1_ n2_ n3_; clear hb hbox hg; have hcz7_0 : w6.cell? ⟨gb114, 0, none⟩ = some (.string a0_0) := (blk_cell BK114.out 0).trans rfl; have hcz7_1 : w6.cell? ⟨gb114, 1, none⟩ = some (.string a0_1) := (blk_cell BK114.out 1).trans rfl; have hcz7_2 : w6.cell? ⟨gb114, 2, none⟩ = some (.bool a0_2) := (blk_cell BK114.out 2).trans rfl; have hfz7_0 := blk_frozen BK114.out 0; have hfz7_1 := blk_frozen BK114.out 1; have hfz7_2 := blk_frozen BK114.out 2))
      go_ret
      exact ⟨by first | rfl | (simp [errW_none, errW_some] <;> rfl) | (simp [*, errW_none, errW_some] <;> rfl), by repeat (first | (with_reducible first | exact HB.out | apply below_alloc | apply pw_below_drewN | apply below_drew1 | refine below_set ?_ GE114.out) | exact HB.out)⟩
    · rw [if_neg c5] at H
      have c5b0 : decide (2147483647 < (a0_1.size : Int)) = false := decide_eq_false c5
      have c5b1 : decide (2147483647 < a0_1.size) = false := decide_eq_false (by omega)
      clear c5
      obtain rfl := Option.some.inj H
      go_enter Try.func12, Try.ntmps12
      go_wp2_with (first | ((with_reducible refine gate_dst (N := 1) rfl ?_); refine box_event ?hg (N := 1) ?hd (cs := #[.string a0_0, .string a0_1, .bool a0_2]) (t := 35) ?hr ?_; (case hd => rfl); (case hg => rfl); (case hr => first | (go_simp; done) | (go_simp; rfl)); intro gb114 hg w8 hbox hb; have n0_ := Aside0.mk (below_step (by repeat (first | (with_reducible first | exact HB.out | apply below_alloc | apply pw_below_drewN | apply below_drew1) | exact HB.out)) hb); have n1_ := Aside0.mk (hbox); have n2_ := Aside0.mk ((by rw [hg]; exact (below_size (by repeat (first | (with_reducible first | exact HB.out | apply below_alloc | apply pw_below_drewN | apply below_drew1) | exact HB.out))) : w.heap.size ≤ gb114)); have n3_ := Aside0.mk ((by rw [hg]; exact (below_size (by repeat (first | (with_reducible first | exact HB.out | apply below_alloc | apply pw_below_drewN | apply below_drew1) | exact HB.out))) : w.heap.size ≤ gb114)); clear HB; have HB := n0_; have BK114 := n1_; have GW114 := n2_; have GE114 := n3_; clear n0_ n1_ n2_ n3_; clear hb hbox hg; have hcz9_0 : w8.cell? ⟨gb114, 0, none⟩ = some (.string a0_0) := (blk_cell BK114.out 0).trans rfl; have hcz9_1 : w8.cell? ⟨gb114, 1, none⟩ = some (.string a0_1) := (blk_cell BK114.out 1).trans rfl; have hcz9_2 : w8.cell? ⟨gb114, 2, none⟩ = some (.bool a0_2) := (blk_cell BK114.out 2).trans rfl; have hfz9_0 := blk_frozen BK114.out 0; have hfz9_1 := blk_frozen BK114.out 1; have hfz9_2 := blk_frozen BK114.out 2))
      go_ret
      exact ⟨by first | rfl | (simp [errW_none, errW_some] <;> rfl) | (simp [*, errW_none, errW_some] <;> rfl), by repeat (first | (with_reducible first | exact HB.out | apply below_alloc | apply pw_below_drewN | apply below_drew1 | refine below_set ?_ GE114.out) | exact HB.out)⟩

/-! ### laws_zzFits13: function 5 -/
def laws_zzFits13.l0 : Nat → List (S35) → Int → Int → Option (Bool)
  | 0, _, _, _ => none
  | k + 1, x8, x9, x10 => if x10 < x9 then (if 0 ≤ x10 then (if x10 < (x8.length : Int) then ((laws_zzFits14.f ((rd_T35 x8 x10).f0) ((rd_T35 x8 x10).f1) ((rd_T35 x8 x10).f2)).bind fun t117 => (if t117 = true then (laws_zzFits13.l0 k x8 x9 (wrap64 (x10 + 1))) else (some false))) else (none)) else (none)) else (some true)
def laws_zzFits13.f (k : Nat) (l0 : List (S35)) : Option (Bool) := if (l0.length : Int) > 2147483647 then (some false) else (laws_zzFits13.l0 k l0 (l0.length : Int) 0)
theorem laws_zzFits13.mono_l : ∀ k, (∀ y0 y1 y2, LeO (laws_zzFits13.l0 k y0 y1 y2) (laws_zzFits13.l0 (k + 1) y0 y1 y2))
  | 0 => fun _ _ _ r h => by simp [laws_zzFits13.l0] at h
  | k + 1 => by
    have ih0 := laws_zzFits13.mono_l k
    · intro y0 y1 y2
      unfold laws_zzFits13.l0
      repeat' first
      | (with_reducible exact ih0 _ _ _)
      | (with_reducible exact LeO.refl _)
      | (with_reducible exact LeO.none _)
      | (with_reducible refine LeO.ite ?_ ?_)
      | (with_reducible refine LeO.bind ?_ (fun _ => ?_))
      | exact ih0 _ _ _
      | exact LeO.none _
      | refine LeO.ite ?_ ?_
      | refine LeO.bind ?_ (fun _ => ?_)
theorem laws_zzFits13.mono : ∀ a0 k, LeO (laws_zzFits13.f k a0) (laws_zzFits13.f (k + 1) a0) := by
  intro a0 k
  have ih0 := laws_zzFits13.mono_l k
  unfold laws_zzFits13.f
  repeat' first
      | (with_reducible exact ih0 _ _ _)
      | (with_reducible exact LeO.refl _)
      | (with_reducible exact LeO.none _)
      | (with_reducible refine LeO.ite ?_ ?_)
      | (with_reducible refine LeO.bind ?_ (fun _ => ?_))
      | exact ih0 _ _ _
      | exact LeO.none _
      | refine LeO.ite ?_ ?_
      | refine LeO.bind ?_ (fun _ => ?_)
set_option maxHeartbeats 8000000 in
set_option maxRecDepth 100000 in
theorem laws_zzFits13.calls (k : Nat) (A0 : Option Addr) (c0 : Nat) (l0 : List (S35)) (r : Bool) (w : World) (hr0 : Kd.C k35 w A0 l0.length l0) (hc0 : l0.length ≤ c0) (h : laws_zzFits13.f k l0 = some r) :
    Calls Try.prog 5 #[.slice A0 l0.length c0] w fun e w' => e = .returned (.bool r) ∧ Below w.heap.size w w' := by
  have hu35 := Try.underlying35
  have HR0 := Aside0.mk hr0
  have HC0 := Aside0.mk hc0
  clear hr0 hc0
  have HB := Aside0.mk (Below.refl w.heap.size w)
  have H : (if (l0.length : Int) > 2147483647 then (some false) else (laws_zzFits13.l0 k l0 (l0.length : Int) 0)) = some r := h
  clear h
  by_cases c2 : (l0.length : Int) > 2147483647
  · rw [if_pos c2] at H
    have c2b0 : decide (2147483647 < (l0.length : Int)) = true := decide_eq_true c2
    have c2b1 : decide (2147483647 < l0.length) = true := decide_eq_true (by omega)
    clear c2
    obtain rfl := Option.some.inj H
    go_enter Try.func5, Try.ntmps5
    go_wp2
    go_ret
    exact ⟨by first | rfl | (simp [errW_none, errW_some] <;> rfl) | (simp [*, errW_none, errW_some] <;> rfl), by repeat (first | (with_reducible first | exact HB.out | apply below_alloc | apply pw_below_drewN | apply below_drew1) | exact HB.out)⟩
  · rw [if_neg c2] at H
    have c2b0 : decide (2147483647 < (l0.length : Int)) = false := decide_eq_false c2
    have c2b1 : decide (2147483647 < l0.length) = false := decide_eq_false (by omega)
    clear c2
    have H' := Aside0.mk H
    clear H
    go_enter Try.func5, Try.ntmps5
    go_wp2
    go_loopg [10] k (fun kq v10 w' => ∃ (x10_1 : Int), v10 = .int .i64 x10_1 ∧ Aside0 (laws_zzFits13.l0 kq l0 (l0.length : Int) x10_1 = some r) ∧ Aside0 (kq ≤ k) ∧ Aside0 (Below w.heap.size w w'))
    case atStart => exact ⟨(0), (by first | rfl | (simp; done) | (simp [*]; done)), H', ⟨Nat.le_refl _⟩, ⟨by repeat (first | (with_reducible first | exact HB.out | apply below_alloc | apply pw_below_drewN | apply below_drew1) | exact HB.out)⟩⟩
    case round =>
      clear H'
      try clear c2
      try clear c2b0
      try clear c2b1
      try clear p2
      obtain ⟨x10_1, rfl, HA, HK1, HB⟩ := hrel
      cases gk with
      | zero => exact absurd HA.out (by simp [laws_zzFits13.l0])
      | succ k1 =>
        have H := HA.out
        clear HA
        simp only [laws_zzFits13.l0] at H
        by_cases c3 : x10_1 < (l0.length : Int)
        · rw [if_pos c3] at H
          have c3b0 : decide (x10_1 < (l0.length : Int)) = true := decide_eq_true c3
          clear c3
          by_cases c4 : 0 ≤ x10_1
          · rw [if_pos c4] at H
            have c4b0 : decide (0 ≤ x10_1) = true := decide_eq_true c4
            clear c4
            by_cases c5 : x10_1 < (l0.length : Int)
            · rw [if_pos c5] at H
              have c5b0 : decide (x10_1 < (l0.length : Int)) = true := decide_eq_true c5
              clear c5
              replace H := Option.bind_eq_some_iff.mp H
              obtain ⟨t117, A60, H⟩ := H
              replace H : (if t117 = true then (laws_zzFits13.l0 k1 l0 (l0.length : Int) (wrap64 (x10_1 + 1))) else (some false)) = some r := H
              have A6 := Aside0.mk A60
              clear A60
              by_cases c7 : t117 = true
              · subst c7
                have H1 : (laws_zzFits13.l0 k1 l0 (l0.length : Int) (wrap64 (x10_1 + 1))) = some r := by rw [if_pos rfl] at H; exact H
                clear H
                have H := H1
                clear H1
                have H' := Aside0.mk H
                clear H
                have p115 : 0 ≤ (x10_1 : Int) := of_decide_eq_true (by first | (with_reducible assumption) | assumption)
                have q115 : x10_1 < (l0.length : Int) := of_decide_eq_true (by first | (with_reducible assumption) | assumption)
                obtain ⟨ad115, e115, hx115_0, hx115_1, hx115_2⟩ := at_T35 HR0.out x10_1 p115 q115
                cases e115
                replace hx115_0 := (HB.out.cell (World.block_lt_of_cell? w _ hx115_0)).trans hx115_0
                replace hx115_1 := (HB.out.cell (World.block_lt_of_cell? w _ hx115_1)).trans hx115_1
                replace hx115_2 := (HB.out.cell (World.block_lt_of_cell? w _ hx115_2)).trans hx115_2
                replace p115 := eq_true p115
                replace q115 := eq_true q115
                go_wp2_with (first | ((with_reducible refine gate_dst (N := 4) rfl ?_); refine box_event ?hg (N := 4) ?hd (cs := #[.string (⟨#[]⟩ : ByteArray), .string (⟨#[]⟩ : ByteArray), .bool false]) (t := 35) ?hr ?_; (case hd => rfl); (case hg => rfl); (case hr => first | (go_simp; done) | (go_simp; rfl)); intro gb116 hg w8 hbox hb; have n0_ := Aside0.mk (below_step (by repeat (first | (with_reducible first | exact HB.out | apply below_alloc | apply pw_below_drewN | apply below_drew1) | exact HB.out)) hb); have n1_ := Aside0.mk (hbox); have n2_ := Aside0.mk ((by rw [hg]; exact (below_size (by repeat (first | (with_reducible first | exact HB.out | apply below_alloc | apply pw_below_drewN | apply below_drew1) | exact HB.out))) : w.heap.size ≤ gb116)); have n3_ := Aside0.mk ((by rw [hg]; exact (below_size (by repeat (first | (with_reducible first | exact HB.out | apply below_alloc | apply pw_below_drewN | apply below_drew1) | exact HB.out))) : w.heap.size ≤ gb116)); clear HB; have HB := n0_; have BK116 := n1_; have GW116 := n2_; have GE116 := n3_; clear n0_ n1_ n2_ n3_; clear hb hbox hg; have hcz9_0 : w8.cell? ⟨gb116, 0, none⟩ = some (.string (⟨#[]⟩ : ByteArray)) := (blk_cell BK116.out 0).trans rfl; have hcz9_1 : w8.cell? ⟨gb116, 1, none⟩ = some (.string (⟨#[]⟩ : ByteArray)) := (blk_cell BK116.out 1).trans rfl; have hcz9_2 : w8.cell? ⟨gb116, 2, none⟩ = some (.bool false) := (blk_cell BK116.out 2).trans rfl; have hfz9_0 := blk_frozen BK116.out 0; have hfz9_1 := blk_frozen BK116.out 1; have hfz9_2 := blk_frozen BK116.out 2) | ((with_reducible refine gate_callee (f := 12) rfl ?_); refine goesL_ (some 15) rfl rfl Try.func12 (by kernel_rfl) rfl #[.agg #[.string ((rd_T35 l0 x10_1).f0), .string ((rd_T35 l0 x10_1).f1), .bool ((rd_T35 l0 x10_1).f2)]] rfl (by (try simp only [List.map_toArray, List.map_cons, List.map_nil]); first | done | rfl | (simp only [List.length_drop, List.length_take]; rfl)) ?_; (with_reducible refine (laws_zzFits14.calls ((rd_T35 l0 x10_1).f0) ((rd_T35 l0 x10_1).f1) ((rd_T35 l0 x10_1).f2) true _ A6.out).mono ?_); rintro e w10 ⟨rfl, hb⟩; refine ⟨_, rfl, ?_⟩; have n0_ := Aside0.mk (blk_below (g := gb116) (o := .cells #[.string ((rd_T35 l0 x10_1).f0), .string ((rd_T35 l0 x10_1).f1), .bool ((rd_T35 l0 x10_1).f2)] 35 (0, 0)) (by (with_reducible repeat (first | refine blk_drewN ?_ _ | refine blk_drew ?_ | refine blk_alloc ?_ _)); refine blk_put (cs := #[.string ((rd_T35 l0 x10_1).f0), .string ((rd_T35 l0 x10_1).f1), .bool false]) ?_ 2 _ rfl; (with_reducible repeat (first | refine blk_drewN ?_ _ | refine blk_drew ?_ | refine blk_alloc ?_ _)); refine blk_put (cs := #[.string ((rd_T35 l0 x10_1).f0), .string (⟨#[]⟩ : ByteArray), .bool false]) ?_ 1 _ rfl; (with_reducible repeat (first | refine blk_drewN ?_ _ | refine blk_drew ?_ | refine blk_alloc ?_ _)); refine blk_put (cs := #[.string (⟨#[]⟩ : ByteArray), .string (⟨#[]⟩ : ByteArray), .bool false]) ?_ 0 _ rfl; (with_reducible repeat (first | refine blk_drewN ?_ _ | refine blk_drew ?_ | refine blk_alloc ?_ _)); exact BK116.out) hb); have n1_ := Aside0.mk (below_step (by repeat (first | (with_reducible first | exact HB.out | apply below_alloc | apply pw_below_drewN | apply below_drew1 | refine below_set ?_ GE116.out) | exact HB.out)) hb); clear BK116; clear HB; have BK116 := n0_; have HB := n1_; clear n0_ n1_; (try clear hb); (try clear hb2); (try clear hk); (try clear hi)))
                go_roundg k1
                case measure => have := HK1.out; omega
                case rel => exact ⟨(wrap64 (x10_1 + 1)), (by first | rfl | (simp; done) | (simp [*]; done)), H', ⟨by have := HK1.out; omega⟩, ⟨by repeat (first | (with_reducible first | exact HB.out | apply below_alloc | apply pw_below_drewN | apply below_drew1 | refine below_set ?_ GE116.out) | exact HB.out)⟩⟩
              · replace c7 := Bool.eq_false_iff.mpr c7
                subst c7
                have H1 : (some false) = some r := by rw [if_neg (show ¬ (false = true) by decide)] at H; exact H
                clear H
                have H := H1
                clear H1
                obtain rfl := Option.some.inj H
                have p115 : 0 ≤ (x10_1 : Int) := of_decide_eq_true (by first | (with_reducible assumption) | assumption)
                have q115 : x10_1 < (l0.length : Int) := of_decide_eq_true (by first | (with_reducible assumption) | assumption)
                obtain ⟨ad115, e115, hx115_0, hx115_1, hx115_2⟩ := at_T35 HR0.out x10_1 p115 q115
                cases e115
                replace hx115_0 := (HB.out.cell (World.block_lt_of_cell? w _ hx115_0)).trans hx115_0
                replace hx115_1 := (HB.out.cell (World.block_lt_of_cell? w _ hx115_1)).trans hx115_1
                replace hx115_2 := (HB.out.cell (World.block_lt_of_cell? w _ hx115_2)).trans hx115_2
                replace p115 := eq_true p115
                replace q115 := eq_true q115
                go_wp2_with (first | ((with_reducible refine gate_dst (N := 4) rfl ?_); refine box_event ?hg (N := 4) ?hd (cs := #[.string (⟨#[]⟩ : ByteArray), .string (⟨#[]⟩ : ByteArray), .bool false]) (t := 35) ?hr ?_; (case hd => rfl); (case hg => rfl); (case hr => first | (go_simp; done) | (go_simp; rfl)); intro gb116 hg w11 hbox hb; have n0_ := Aside0.mk (below_step (by repeat (first | (with_reducible first | exact HB.out | apply below_alloc | apply pw_below_drewN | apply below_drew1) | exact HB.out)) hb); have n1_ := Aside0.mk (hbox); have n2_ := Aside0.mk ((by rw [hg]; exact (below_size (by repeat (first | (with_reducible first | exact HB.out | apply below_alloc | apply pw_below_drewN | apply below_drew1) | exact HB.out))) : w.heap.size ≤ gb116)); have n3_ := Aside0.mk ((by rw [hg]; exact (below_size (by repeat (first | (with_reducible first | exact HB.out | apply below_alloc | apply pw_below_drewN | apply below_drew1) | exact HB.out))) : w.heap.size ≤ gb116)); clear HB; have HB := n0_; have BK116 := n1_; have GW116 := n2_; have GE116 := n3_; clear n0_ n1_ n2_ n3_; clear hb hbox hg; have hcz12_0 : w11.cell? ⟨gb116, 0, none⟩ = some (.string (⟨#[]⟩ : ByteArray)) := (blk_cell BK116.out 0).trans rfl; have hcz12_1 : w11.cell? ⟨gb116, 1, none⟩ = some (.string (⟨#[]⟩ : ByteArray)) := (blk_cell BK116.out 1).trans rfl; have hcz12_2 : w11.cell? ⟨gb116, 2, none⟩ = some (.bool false) := (blk_cell BK116.out 2).trans rfl; have hfz12_0 := blk_frozen BK116.out 0; have hfz12_1 := blk_frozen BK116.out 1; have hfz12_2 := blk_frozen BK116.out 2) | ((with_reducible refine gate_callee (f := 12) rfl ?_); refine goesL_ (some 15) rfl rfl Try.func12 (by kernel_rfl) rfl #[.agg #[.string ((rd_T35 l0 x10_1).f0), .string ((rd_T35 l0 x10_1).f1), .bool ((rd_T35 l0 x10_1).f2)]] rfl (by (try simp only [List.map_toArray, List.map_cons, List.map_nil]); first | done | rfl | (simp only [List.length_drop, List.length_take]; rfl)) ?_; (with_reducible refine (laws_zzFits14.calls ((rd_T35 l0 x10_1).f0) ((rd_T35 l0 x10_1).f1) ((rd_T35 l0 x10_1).f2) false _ A6.out).mono ?_); rintro e w13 ⟨rfl, hb⟩; refine ⟨_, rfl, ?_⟩; have n0_ := Aside0.mk (blk_below (g := gb116) (o := .cells #[.string ((rd_T35 l0 x10_1).f0), .string ((rd_T35 l0 x10_1).f1), .bool ((rd_T35 l0 x10_1).f2)] 35 (0, 0)) (by (with_reducible repeat (first | refine blk_drewN ?_ _ | refine blk_drew ?_ | refine blk_alloc ?_ _)); refine blk_put (cs := #[.string ((rd_T35 l0 x10_1).f0), .string ((rd_T35 l0 x10_1).f1), .bool false]) ?_ 2 _ rfl; (with_reducible repeat (first | refine blk_drewN ?_ _ | refine blk_drew ?_ | refine blk_alloc ?_ _)); refine blk_put (cs := #[.string ((rd_T35 l0 x10_1).f0), .string (⟨#[]⟩ : ByteArray), .bool false]) ?_ 1 _ rfl; (with_reducible repeat (first | refine blk_drewN ?_ _ | refine blk_drew ?_ | refine blk_alloc ?_ _)); refine blk_put (cs := #[.string (⟨#[]⟩ : ByteArray), .string (⟨#[]⟩ : ByteArray), .bool false]) ?_ 0 _ rfl; (with_reducible repeat (first | refine blk_drewN ?_ _ | refine blk_drew ?_ | refine blk_alloc ?_ _)); exact BK116.out) hb); have n1_ := Aside0.mk (below_step (by repeat (first | (with_reducible first | exact HB.out | apply below_alloc | apply pw_below_drewN | apply below_drew1 | refine below_set ?_ GE116.out) | exact HB.out)) hb); clear BK116; clear HB; have BK116 := n0_; have HB := n1_; clear n0_ n1_; (try clear hb); (try clear hb2); (try clear hk); (try clear hi)))
                go_ret
                exact ⟨by first | rfl | (simp [errW_none, errW_some] <;> rfl) | (simp [*, errW_none, errW_some] <;> rfl), by repeat (first | (with_reducible first | exact HB.out | apply below_alloc | apply pw_below_drewN | apply below_drew1 | refine below_set ?_ GE116.out) | exact HB.out)⟩
            · rw [if_neg c5] at H
              exact absurd H (by simp)
          · rw [if_neg c4] at H
            exact absurd H (by simp)
        · rw [if_neg c3] at H
          have c3b0 : decide (x10_1 < (l0.length : Int)) = false := decide_eq_false c3
          clear c3
          obtain rfl := Option.some.inj H
          go_wp2
          go_ret
          exact ⟨by first | rfl | (simp [errW_none, errW_some] <;> rfl) | (simp [*, errW_none, errW_some] <;> rfl), by repeat (first | (with_reducible first | exact HB.out | apply below_alloc | apply pw_below_drewN | apply below_drew1) | exact HB.out)⟩

end Go.Proofs.Ythcikkjjegfblac.P
