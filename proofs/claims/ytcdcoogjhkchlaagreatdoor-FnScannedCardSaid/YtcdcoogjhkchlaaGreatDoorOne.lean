/- spec_one: walks by hand. Conditions: named by each theorem. -/
import Derived.IntWalk
import Derived.Test.YtcdcoogjhkchlaaGreatDoorPx0
import Derived.Test.YtcdcoogjhkchlaaGreatDoorPw
namespace Go.Proofs.YtcdcoogjhkchlaaGreatDoor.P
open Go.RowKit Go.Proofs.YtcdcoogjhkchlaaGreatDoorW.PrintWords Go.Proofs.YtcdcoogjhkchlaaGreatDoorW.PrintLast Go.Proofs.YtcdcoogjhkchlaaGreatDoorW.PrintMore
attribute [local go_sem] max2_int min2_int max_two min_two max_three min_three max_four min_four   -- for this text's walks alone
set_option linter.unusedVariables false
set_option linter.unusedSimpArgs false
def spec_one.f (k : Nat) (a0 : Int) (a1 : Bool) (a2 : ByteArray) (a3 : Int) (a4 : Nat) (a5 : Bool) : Option (Bool × ByteArray × Int × Nat × Bool × Bool × Bool) :=
  if a1 = true then some (false, ⟨#[]⟩, 0, 0, false, false, true)
  else if a0 = 1 then some (false, ⟨#[]⟩, 0, 0, decide (a2.toList = [116]), decide (a2.toList = [116]) || decide (a2.toList = [102]), true)
  else if a0 = 2 then (spec_Whole.f k a2).bind fun p => some (false, ⟨#[]⟩, p.1, 0, false, p.2.1, p.2.2)
  else if a0 = 6 then (spec_Whole.f k a2).bind fun p => some (false, ⟨#[]⟩, p.1, 0, false, p.2.1 && (IntKind.i32.wrap p.1 == p.1), p.2.2)
  else some (a1, a2, a3, a4, a5, true, true)
theorem spec_one.mono : ∀ a0 a1 a2 a3 a4 a5 k, LeO (spec_one.f k a0 a1 a2 a3 a4 a5) (spec_one.f (k + 1) a0 a1 a2 a3 a4 a5) := by
  intro a0 a1 a2 a3 a4 a5 k
  unfold spec_one.f
  exact LeO.ite (LeO.refl _) (LeO.ite (LeO.refl _) (LeO.ite (LeO.bind (spec_Whole.mono _ _) (fun _ => LeO.refl _)) (LeO.ite (LeO.bind (spec_Whole.mono _ _) (fun _ => LeO.refl _)) (LeO.refl _))))
theorem run_store_flt1 {P : Program} {w : World} {a : Addr} {m : Mode} (k : FloatKind) (x : Nat) : (store a (.float k x) m).run P w = stored P w a (.float k x) m := run_store P w a _ m rfl
attribute [local go_sem] run_store_flt1
theorem results_ctt {P : Program} {fn : Func} {p u v : Tmp} {ty : TypeId} (h : fn.results = #[.cell p ty, .tmp u, .tmp v]) (tmps : Array Value) (w : World) (g : Nat) (t : TypeId) (cs : Array Value) (fr : Nat × Nat) (d : TypeDesc)
    (hp : tmps.getD p undef = .pointer (some ⟨g, 0, none⟩)) (hg : w.heap[g]? = some (.cells cs t fr))
    (hu : P.underlying ty = some d) (hd : (match d with | .struct _ | .array _ _ => true | _ => false) = true) (hi : (P.info? ty).map (·.size) = some cs.size) :
    (results fn tmps).run P w = .ok (.tuple #[.agg cs, tmps.getD u undef, tmps.getD v undef]) w := by
  have hp' : tmps[p]?.getD undef = .pointer (some ⟨g, 0, none⟩) := by simpa using hp
  simp [results, h, hp', asAddr, run_loadVar_row w g t ty cs fr d hg hu hd hi]
set_option maxHeartbeats 4000000 in
set_option maxRecDepth 100000 in
theorem spec_one.null (a0 : Int) (a2 : ByteArray) (a3 : Int) (a4 : Nat) (a5 : Bool) (w : World) :
    Calls Tryz.prog 8 #[.int .i64 a0, .agg #[.bool true, .string a2, .int .i64 a3, .float .f64 a4, .bool a5]] w fun e w' => e = .returned (.tuple #[.agg #[.bool false, .string ⟨#[]⟩, .int .i64 0, .float .f64 0, .bool false], .bool false, .bool true]) ∧ Below w.heap.size w w' := by
  go_enter Tryz.func8, Tryz.ntmps8
  go_wp2_with fail
  exact bodyPost_ret (results_ctt (d := _) rfl _ _ (w.heap.size + 1) 34 _ _ rfl (by have key := (fun (o1 o2 : Obj) => (by simpa using heap_alloc_new (w.alloc o1) o2 : ((w.alloc o1).alloc o2).heap[w.heap.size + 1]? = some o2)); with_reducible (repeat (first | exact key _ _ | refine blk_drewN ?_ _ | refine blk_drew ?_))) Tryz.underlying34 rfl (by kernel_rfl)) rfl ⟨rfl, by with_reducible (repeat (first | exact Below.refl _ _ | apply pw_below_drewN | apply below_drew1 | apply below_alloc))⟩
set_option maxHeartbeats 4000000 in
set_option maxRecDepth 100000 in
theorem spec_one.bool (a2 : ByteArray) (a3 : Int) (a4 : Nat) (a5 : Bool) (w : World) :
    Calls Tryz.prog 8 #[.int .i64 1, .agg #[.bool false, .string a2, .int .i64 a3, .float .f64 a4, .bool a5]] w fun e w' => e = .returned (.tuple #[.agg #[.bool false, .string ⟨#[]⟩, .int .i64 0, .float .f64 0, .bool (decide (a2.toList = [116]))], .bool (decide (a2.toList = [116]) || decide (a2.toList = [102])), .bool true]) ∧ Below w.heap.size w w' := by
  by_cases h1 : a2.toList = [116]
  · have h1b : (a2.toList == [116]) = true := beq_iff_eq.mpr h1
    have h1d : decide (a2.toList = [116]) = true := decide_eq_true h1
    rw [h1d]
    clear h1
    go_enter Tryz.func8, Tryz.ntmps8
    go_wp2_with fail
    go_region
    all_goals go_wp2_with fail
    all_goals (exact bodyPost_ret (results_ctt (d := _) rfl _ _ (w.heap.size + 1) 34 _ _ rfl (by have key := (fun (o1 o2 : Obj) => (by simpa using heap_alloc_new (w.alloc o1) o2 : ((w.alloc o1).alloc o2).heap[w.heap.size + 1]? = some o2)); with_reducible (repeat (first | exact key _ _ | refine blk_drewN ?_ _ | refine blk_drew ?_))) Tryz.underlying34 rfl (by kernel_rfl)) rfl ⟨rfl, by with_reducible (repeat (first | exact Below.refl _ _ | apply pw_below_drewN | apply below_drew1 | apply below_alloc))⟩)
  by_cases h2 : a2.toList = [102]
  · have h1b : (a2.toList == [116]) = false := beq_eq_false_iff_ne.mpr h1
    have h1d : decide (a2.toList = [116]) = false := decide_eq_false h1
    rw [h1d]
    have h2b : (a2.toList == [102]) = true := beq_iff_eq.mpr h2
    have h2d : decide (a2.toList = [102]) = true := decide_eq_true h2
    rw [h2d]
    clear h2
    clear h1
    go_enter Tryz.func8, Tryz.ntmps8
    go_wp2_with fail
    go_region
    all_goals go_wp2_with fail
    all_goals (exact bodyPost_ret (results_ctt (d := _) rfl _ _ (w.heap.size + 1) 34 _ _ rfl (by have key := (fun (o1 o2 : Obj) => (by simpa using heap_alloc_new (w.alloc o1) o2 : ((w.alloc o1).alloc o2).heap[w.heap.size + 1]? = some o2)); with_reducible (repeat (first | exact key _ _ | refine blk_drewN ?_ _ | refine blk_drew ?_))) Tryz.underlying34 rfl (by kernel_rfl)) rfl ⟨rfl, by with_reducible (repeat (first | exact Below.refl _ _ | apply pw_below_drewN | apply below_drew1 | apply below_alloc))⟩)
  · have h1b : (a2.toList == [116]) = false := beq_eq_false_iff_ne.mpr h1
    have h1d : decide (a2.toList = [116]) = false := decide_eq_false h1
    rw [h1d]
    have h2b : (a2.toList == [102]) = false := beq_eq_false_iff_ne.mpr h2
    have h2d : decide (a2.toList = [102]) = false := decide_eq_false h2
    rw [h2d]
    clear h2
    clear h1
    go_enter Tryz.func8, Tryz.ntmps8
    go_wp2_with fail
    go_region
    all_goals go_wp2_with fail
    all_goals (exact bodyPost_ret (results_ctt (d := _) rfl _ _ (w.heap.size + 1) 34 _ _ rfl (by have key := (fun (o1 o2 : Obj) => (by simpa using heap_alloc_new (w.alloc o1) o2 : ((w.alloc o1).alloc o2).heap[w.heap.size + 1]? = some o2)); with_reducible (repeat (first | exact key _ _ | refine blk_drewN ?_ _ | refine blk_drew ?_))) Tryz.underlying34 rfl (by kernel_rfl)) rfl ⟨rfl, by with_reducible (repeat (first | exact Below.refl _ _ | apply pw_below_drewN | apply below_drew1 | apply below_alloc))⟩)
theorem key2 (w : World) (o1 o2 : Obj) : ((w.alloc o1).alloc o2).heap[w.heap.size + 1]? = some o2 := by simpa using heap_alloc_new (w.alloc o1) o2
theorem one_end {P : Program} {fn : Func} {p u v : Tmp} {ty : TypeId} {tmps : Array Value} {w0 W : World} {g : Nat} {t : TypeId} {cs cs' : Array Value} {d : TypeDesc} {ru rv : Value}
    (hres : fn.results = #[.cell p ty, .tmp u, .tmp v]) (hp : tmps.getD p undef = .pointer (some ⟨g, 0, none⟩)) (hg : W.heap[g]? = some (.cells cs t (0, 0))) (hcs : cs = cs') (hru : tmps.getD u undef = ru) (hrv : tmps.getD v undef = rv)
    (hu : P.underlying ty = some d) (hd : (match d with | .struct _ | .array _ _ => true | _ => false) = true) (hi : (P.info? ty).map (·.size) = some cs'.size) (hb : Below w0.heap.size w0 W) :
    bodyPost P fn (fun e w' => e = .returned (.tuple #[.agg cs', ru, rv]) ∧ Below w0.heap.size w0 w') Exit.ret ⟨tmps, []⟩ W := by
  subst hcs hru hrv
  exact bodyPost_ret (results_ctt (d := d) hres tmps W g t cs (0, 0) hp hg hu hd hi) rfl ⟨rfl, hb⟩
theorem i64_ (x : Int) (h0 : -9223372036854775808 ≤ x) (h1 : x ≤ 9223372036854775807) : IntKind.i64.wrap x = x := by
  exact IntWalk.i64_in x (by omega)
theorem w3264 {x : Int} (h : IntKind.i32.wrap x = x) : wrap64 (wrap32 x) = x := by
  rw [i32_w] at h
  rw [h]
  unfold wrap32 at h
  unfold wrap64; omega
theorem w3264b {x : Int} (h : wrap64 (wrap32 x) = x) : IntKind.i32.wrap x = x := by
  rw [i32_w]
  unfold wrap64 wrap32 at *
  omega
theorem wrap64_range (x : Int) : -9223372036854775808 ≤ wrap64 x ∧ wrap64 x ≤ 9223372036854775807 := by unfold wrap64; omega
theorem Whole_l (k : Nat) : (∀ x0 x2 x5 x22 p, -9223372036854775808 ≤ x2 → x2 ≤ 9223372036854775807 → spec_Whole.j0 k x0 x2 x5 x22 = some p → -9223372036854775808 ≤ p.1 ∧ p.1 ≤ 9223372036854775807) ∧ (∀ x0 x2 x5 p, -9223372036854775808 ≤ x2 → x2 ≤ 9223372036854775807 → spec_Whole.j1 k x0 x2 x5 = some p → -9223372036854775808 ≤ p.1 ∧ p.1 ≤ 9223372036854775807) ∧ (∀ x0 x2 x5 x6 p, -9223372036854775808 ≤ x2 → x2 ≤ 9223372036854775807 → spec_Whole.l0 k x0 x2 x5 x6 = some p → -9223372036854775808 ≤ p.1 ∧ p.1 ≤ 9223372036854775807) ∧ (∀ x0 x2 x5 x6 x45 p, -9223372036854775808 ≤ x2 → x2 ≤ 9223372036854775807 → spec_Whole.j3 k x0 x2 x5 x6 x45 = some p → -9223372036854775808 ≤ p.1 ∧ p.1 ≤ 9223372036854775807) ∧ (∀ x0 x2 x71 p, -9223372036854775808 ≤ x2 → x2 ≤ 9223372036854775807 → spec_Whole.j4 k x0 x2 x71 = some p → -9223372036854775808 ≤ p.1 ∧ p.1 ≤ 9223372036854775807) := by
  induction k with
  | zero =>
    refine ⟨?_, ?_, ?_, ?_, ?_⟩
    · intro _ _ _ _ _ _ _ h; rw [spec_Whole.j0] at h; cases h
    · intro _ _ _ _ _ _ h; rw [spec_Whole.j1] at h; cases h
    · intro _ _ _ _ _ _ _ h; rw [spec_Whole.l0] at h; cases h
    · intro _ _ _ _ _ _ _ _ h; rw [spec_Whole.j3] at h; cases h
    · intro _ _ _ _ _ _ h; rw [spec_Whole.j4] at h; cases h
  | succ k ih =>
    obtain ⟨i0, i1, i2, i3, i4⟩ := ih
    refine ⟨?_, ?_, ?_, ?_, ?_⟩
    · intro x0 x2 x5 x22 p b0 b1 h
      rw [spec_Whole.j0] at h
      split at h
      · exact i1 _ _ _ _ b0 b1 h
      · exact i1 _ _ _ _ b0 b1 h
    · intro x0 x2 x5 p b0 b1 h
      rw [spec_Whole.j1] at h
      split at h
      · cases h; constructor <;> decide
      · exact i2 _ _ _ _ _ b0 b1 h
    · intro x0 x2 x5 x6 p b0 b1 h
      rw [spec_Whole.l0] at h
      repeat' split at h
      all_goals first | exact i3 _ _ _ _ _ _ b0 b1 h | exact i4 _ _ _ _ b0 b1 h | cases h
    · intro x0 x2 x5 x6 x45 p b0 b1 h
      rw [spec_Whole.j3] at h
      repeat' split at h
      all_goals first | exact i2 _ _ _ _ _ b0 b1 h | exact i2 _ _ _ _ _ (wrap64_range _).1 (wrap64_range _).2 h | (cases h; exact ⟨(by show (-9223372036854775808 : Int) ≤ 0; decide), (by show (0 : Int) ≤ 9223372036854775807; decide)⟩) | cases h
    · intro x0 x2 x71 p b0 b1 h
      rw [spec_Whole.j4] at h
      repeat' split at h
      all_goals first | (cases h; first | exact wrap64_range _ | exact ⟨b0, b1⟩ | (constructor <;> decide)) | cases h
theorem Whole_range (k : Nat) (s : ByteArray) (p : Int × Bool × Bool) (h : spec_Whole.f k s = some p) : -9223372036854775808 ≤ p.1 ∧ p.1 ≤ 9223372036854775807 := by
  unfold spec_Whole.f at h
  repeat' split at h
  all_goals exact (Whole_l k).1 _ _ _ _ _ (by decide) (by decide) h
set_option maxHeartbeats 4000000 in
set_option maxRecDepth 100000 in
theorem spec_one.num2 (a2 : ByteArray) (a3 : Int) (a4 : Nat) (a5 : Bool) (w : World) (k : Nat) (r1 : Int) (r2 r3 : Bool) (h : spec_Whole.f k a2 = some (r1, r2, r3)) (b0 : -9223372036854775808 ≤ r1) (b1 : r1 ≤ 9223372036854775807) :
    Calls Tryz.prog 8 #[.int .i64 2, .agg #[.bool false, .string a2, .int .i64 a3, .float .f64 a4, .bool a5]] w fun e w' => e = .returned (.tuple #[.agg #[.bool false, .string ⟨#[]⟩, .int .i64 r1, .float .f64 0, .bool false], .bool (r2), .bool r3]) ∧ Below w.heap.size w w' := by
  have hc := fun W => spec_Whole.calls k a2 r1 r2 r3 W h
  have HC := Aside0.mk hc
  clear hc h
  clear b0 b1
  cases r2 with
  | true =>
    go_enter Tryz.func8, Tryz.ntmps8
    go_wp2_with (go_at_call 18; refine (HC.out _).mono ?_; rintro e w1 ⟨rfl, ⟨nd, rfl⟩⟩)
    (refine one_end (g := w.heap.size + 1) (cs' := #[.bool false, .string ⟨#[]⟩, .int .i64 r1, .float .f64 0, .bool false]) rfl rfl (cs := _) (hcs := ?_) (hg := blk_set (blk_set (blk_set (blk_set (blk_set (blk_set (blk_drewN (key2 w _ _) _) 2 _) 0 _) 1 _) 2 _) 3 _) 4 _) rfl rfl Tryz.underlying34 rfl (by kernel_rfl) (by with_reducible (repeat (first | exact Below.refl _ _ | apply pw_below_drewN | apply below_drew1 | apply below_alloc | refine Below.setCell ?_ (Nat.le_succ _) _))); rfl)
  | false =>
    go_enter Tryz.func8, Tryz.ntmps8
    go_wp2_with (go_at_call 18; refine (HC.out _).mono ?_; rintro e w1 ⟨rfl, ⟨nd, rfl⟩⟩)
    (refine one_end (g := w.heap.size + 1) (cs' := #[.bool false, .string ⟨#[]⟩, .int .i64 r1, .float .f64 0, .bool false]) rfl rfl (cs := _) (hcs := ?_) (hg := blk_set (blk_set (blk_set (blk_set (blk_set (blk_set (blk_drewN (key2 w _ _) _) 2 _) 0 _) 1 _) 2 _) 3 _) 4 _) rfl rfl Tryz.underlying34 rfl (by kernel_rfl) (by with_reducible (repeat (first | exact Below.refl _ _ | apply pw_below_drewN | apply below_drew1 | apply below_alloc | refine Below.setCell ?_ (Nat.le_succ _) _))); rfl)
set_option maxHeartbeats 4000000 in
set_option maxRecDepth 100000 in
theorem spec_one.num6 (a2 : ByteArray) (a3 : Int) (a4 : Nat) (a5 : Bool) (w : World) (k : Nat) (r1 : Int) (r2 r3 : Bool) (h : spec_Whole.f k a2 = some (r1, r2, r3)) (b0 : -9223372036854775808 ≤ r1) (b1 : r1 ≤ 9223372036854775807) :
    Calls Tryz.prog 8 #[.int .i64 6, .agg #[.bool false, .string a2, .int .i64 a3, .float .f64 a4, .bool a5]] w fun e w' => e = .returned (.tuple #[.agg #[.bool false, .string ⟨#[]⟩, .int .i64 r1, .float .f64 0, .bool false], .bool (r2 && (IntKind.i32.wrap r1 == r1)), .bool r3]) ∧ Below w.heap.size w w' := by
  have hc := fun W => spec_Whole.calls k a2 r1 r2 r3 W h
  have HC := Aside0.mk hc
  clear hc h
  cases r2 with
  | true =>
    by_cases hw : IntKind.i32.wrap r1 = r1
    · have hwb : (IntKind.i32.wrap r1 == r1) = true := beq_iff_eq.mpr hw
      have hw2 : (wrap64 (wrap32 r1) == r1) = true := beq_iff_eq.mpr (w3264 hw)
      rw [hwb]
      clear hw b0 b1
      go_enter Tryz.func8, Tryz.ntmps8
      go_wp2_with (go_at_call 18; refine (HC.out _).mono ?_; rintro e w1 ⟨rfl, ⟨nd, rfl⟩⟩)
      (refine one_end (g := w.heap.size + 1) (cs' := #[.bool false, .string ⟨#[]⟩, .int .i64 r1, .float .f64 0, .bool false]) rfl rfl (cs := _) (hcs := ?_) (hg := blk_set (blk_set (blk_set (blk_set (blk_set (blk_set (blk_drewN (key2 w _ _) _) 2 _) 0 _) 1 _) 2 _) 3 _) 4 _) rfl rfl Tryz.underlying34 rfl (by kernel_rfl) (by with_reducible (repeat (first | exact Below.refl _ _ | apply pw_below_drewN | apply below_drew1 | apply below_alloc | refine Below.setCell ?_ (Nat.le_succ _) _))); rfl)
    · have hwb : (IntKind.i32.wrap r1 == r1) = false := beq_eq_false_iff_ne.mpr hw
      have hw2 : (wrap64 (wrap32 r1) == r1) = false := beq_eq_false_iff_ne.mpr (fun h => hw (w3264b h))
      rw [hwb]
      clear hw b0 b1
      go_enter Tryz.func8, Tryz.ntmps8
      go_wp2_with (go_at_call 18; refine (HC.out _).mono ?_; rintro e w1 ⟨rfl, ⟨nd, rfl⟩⟩)
      (refine one_end (g := w.heap.size + 1) (cs' := #[.bool false, .string ⟨#[]⟩, .int .i64 r1, .float .f64 0, .bool false]) rfl rfl (cs := _) (hcs := ?_) (hg := blk_set (blk_set (blk_set (blk_set (blk_set (blk_set (blk_drewN (key2 w _ _) _) 2 _) 0 _) 1 _) 2 _) 3 _) 4 _) rfl rfl Tryz.underlying34 rfl (by kernel_rfl) (by with_reducible (repeat (first | exact Below.refl _ _ | apply pw_below_drewN | apply below_drew1 | apply below_alloc | refine Below.setCell ?_ (Nat.le_succ _) _))); rfl)
  | false =>
    clear b0 b1
    go_enter Tryz.func8, Tryz.ntmps8
    go_wp2_with (go_at_call 18; refine (HC.out _).mono ?_; rintro e w1 ⟨rfl, ⟨nd, rfl⟩⟩)
    (refine one_end (g := w.heap.size + 1) (cs' := #[.bool false, .string ⟨#[]⟩, .int .i64 r1, .float .f64 0, .bool false]) rfl rfl (cs := _) (hcs := ?_) (hg := blk_set (blk_set (blk_set (blk_set (blk_set (blk_set (blk_drewN (key2 w _ _) _) 2 _) 0 _) 1 _) 2 _) 3 _) 4 _) rfl rfl Tryz.underlying34 rfl (by kernel_rfl) (by with_reducible (repeat (first | exact Below.refl _ _ | apply pw_below_drewN | apply below_drew1 | apply below_alloc | refine Below.setCell ?_ (Nat.le_succ _) _))); rfl)
set_option maxHeartbeats 4000000 in
set_option maxRecDepth 100000 in
theorem spec_one.text (a0 : Int) (a2 : ByteArray) (a3 : Int) (a4 : Nat) (a5 : Bool) (w : World) (h1 : a0 ≠ 1) (h2 : a0 ≠ 2) (h6 : a0 ≠ 6) :
    Calls Tryz.prog 8 #[.int .i64 a0, .agg #[.bool false, .string a2, .int .i64 a3, .float .f64 a4, .bool a5]] w fun e w' => e = .returned (.tuple #[.agg #[.bool false, .string a2, .int .i64 a3, .float .f64 a4, .bool a5], .bool true, .bool true]) ∧ Below w.heap.size w w' := by
  have c1 : (a0 == 1) = false := beq_eq_false_iff_ne.mpr h1
  have c2 : (a0 == 2) = false := beq_eq_false_iff_ne.mpr h2
  have c6 : (a0 == 6) = false := beq_eq_false_iff_ne.mpr h6
  clear h1 h2 h6
  go_enter Tryz.func8, Tryz.ntmps8
  go_wp2_with fail
  exact bodyPost_ret (results_ctt (d := _) rfl _ _ (w.heap.size + 1) 34 _ _ rfl (by have key := (fun (o1 o2 : Obj) => (by simpa using heap_alloc_new (w.alloc o1) o2 : ((w.alloc o1).alloc o2).heap[w.heap.size + 1]? = some o2)); with_reducible (repeat (first | exact key _ _ | refine blk_drewN ?_ _ | refine blk_drew ?_))) Tryz.underlying34 rfl (by kernel_rfl)) rfl ⟨rfl, by with_reducible (repeat (first | exact Below.refl _ _ | apply pw_below_drewN | apply below_drew1 | apply below_alloc))⟩
set_option maxHeartbeats 4000000 in
set_option maxRecDepth 100000 in
theorem spec_one.calls (k : Nat) (a0 : Int) (a1 : Bool) (a2 : ByteArray) (a3 : Int) (a4 : Nat) (a5 : Bool) (r1 : Bool) (r2 : ByteArray) (r3 : Int) (r4 : Nat) (r5 r6 r7 : Bool) (w : World) (h : spec_one.f k a0 a1 a2 a3 a4 a5 = some (r1, r2, r3, r4, r5, r6, r7)) :
    Calls Tryz.prog 8 #[.int .i64 a0, .agg #[.bool a1, .string a2, .int .i64 a3, .float .f64 a4, .bool a5]] w fun e w' => e = .returned (.tuple #[.agg #[.bool r1, .string r2, .int .i64 r3, .float .f64 r4, .bool r5], .bool r6, .bool r7]) ∧ Below w.heap.size w w' := by
  unfold spec_one.f at h
  by_cases h0 : a1 = true
  · rw [if_pos h0] at h
    cases h
    subst h0
    exact spec_one.null a0 a2 a3 a4 a5 w
  rw [if_neg h0] at h
  obtain rfl : a1 = false := Bool.eq_false_iff.mpr h0
  by_cases h1 : a0 = 1
  · rw [if_pos h1] at h
    cases h
    subst h1
    exact spec_one.bool a2 a3 a4 a5 w
  rw [if_neg h1] at h
  by_cases h2 : a0 = 2
  · rw [if_pos h2] at h
    obtain ⟨p, hp, hr⟩ := Option.bind_eq_some_iff.mp h
    cases hr
    subst h2
    exact spec_one.num2 a2 a3 a4 a5 w k p.1 p.2.1 p.2.2 hp (Whole_range k a2 p hp).1 (Whole_range k a2 p hp).2
  rw [if_neg h2] at h
  by_cases h6 : a0 = 6
  · rw [if_pos h6] at h
    obtain ⟨p, hp, hr⟩ := Option.bind_eq_some_iff.mp h
    cases hr
    subst h6
    exact spec_one.num6 a2 a3 a4 a5 w k p.1 p.2.1 p.2.2 hp (Whole_range k a2 p hp).1 (Whole_range k a2 p hp).2
  rw [if_neg h6] at h
  cases h
  exact spec_one.text a0 a2 a3 a4 a5 w h1 h2 h6

end Go.Proofs.YtcdcoogjhkchlaaGreatDoor.P
