-- Written by the program wip/myprint.py of this session, over the kit's print of the translation. Lean checks it.
import Derived.Deep.RegionLaw
import Derived.Deep.AppendLies
import Derived.Laws.Pointers
import Derived.Recover
import Derived.Defers
import Derived.Test.YthcikkjjegfblabPx0
import Derived.Test.YthcikkjjegfblabPx3
namespace Go.Proofs.Ythcikkjjegfblab.P
open Go.RowKit Go.Proofs.YthcikkjjegfblabW.PrintWords Go.Proofs.YthcikkjjegfblabW.PrintLast Go.Proofs.YthcikkjjegfblabW.PrintMore
attribute [local go_sem] max2_int min2_int max_two min_two max_three min_three max_four min_four   -- for this text's walks alone
set_option linter.unusedVariables false
set_option linter.unusedSimpArgs false

/-! ### impl_FaultRead: function 24 -/
def letterL : List Int := [83, 67, 77, 68, 72, 80, 112, 113, 87, 115, 116, 99, 100, 110, 70, 76, 82]
def frOne (R : Nat → ByteArray) (c : Int) : Option (S54) := if getF R c = ⟨#[]⟩ then none else some ⟨c, getF R c⟩
def frList (R : Nat → ByteArray) (i : Nat) : List (S54) := (letterL.take i).filterMap (frOne R)
def impl_FaultRead.f (k : Nat) (a0 : ByteArray) : Option ((List (S54)) × Bool) := if a0.size ≤ 1000000000000 then (pq_parseError.f k (bytesOf a0) (⟨#[]⟩ : ByteArray)).bind fun R => some (frList R 17, true) else none
theorem impl_FaultRead.mono (k : Nat) (a0 : ByteArray) : LeO (impl_FaultRead.f k a0) (impl_FaultRead.f (k + 1) a0) :=
  LeO.ite (LeO.bind (pq_parseError.mono _ _ _) (fun _ => LeO.refl _)) (LeO.none _)
theorem frList_le (R : Nat → ByteArray) (i : Nat) : (frList R i).length ≤ i := by
  unfold frList
  refine Nat.le_trans (List.length_filterMap_le _ _) ?_
  rw [List.length_take]; omega
theorem frList_succ (R : Nat → ByteArray) (i : Nat) (hi : i < 17) : frList R (i + 1) = frList R i ++ (match frOne R (letterL[i]'hi) with | some x => [x] | none => []) := by
  unfold frList
  rw [List.take_succ_eq_append_getElem (show i < letterL.length from hi), List.filterMap_append]
  congr 1
  rw [List.filterMap_cons]
  cases h : frOne R (letterL[i]'hi) <;> rfl
set_option maxRecDepth 100000 in
theorem letter_index (i : Nat) (hi : i < 17) (c : Int) (hc : c = letterL[i]'hi) (W : World) : (Instr.index 9 (.string ⟨#[83, 67, 77, 68, 72, 80, 112, 113, 87, 115, 116, 99, 100, 110, 70, 76, 82]⟩) (.int .i64 (i : Int))).run Try.prog W = .ok (.int .u8 c) W := by
  subst hc
  have h : i = 0 ∨ i = 1 ∨ i = 2 ∨ i = 3 ∨ i = 4 ∨ i = 5 ∨ i = 6 ∨ i = 7 ∨ i = 8 ∨ i = 9 ∨ i = 10 ∨ i = 11 ∨ i = 12 ∨ i = 13 ∨ i = 14 ∨ i = 15 ∨ i = 16 := by omega
  rcases h with rfl | rfl | rfl | rfl | rfl | rfl | rfl | rfl | rfl | rfl | rfl | rfl | rfl | rfl | rfl | rfl | rfl
  all_goals (show (Instr.index _ _ _).run _ _ = _; first | rfl | kernel_rfl)
theorem nonempty_s {s : ByteArray} (h : ¬ s = ⟨#[]⟩) : s.toList.isEmpty = false := by
  cases hl : s.toList with
  | nil =>
    rw [ByteArray.toList_eq] at hl
    exact absurd (ByteArray.ext (Array.toList_inj.1 hl)) h
  | cons _ _ => rfl
theorem impl_FaultRead.idle (p q : Addr) (w : World) :
    CallsD Try.prog 52 #[.pointer (some p), .pointer (some q)] .returning w fun e u' w' => e = .returned (.tuple #[]) ∧ u' = .returning ∧ w' = w := by
  refine callsD_of_wpS Try.func52 rfl fun c₀ cs hu => ?_
  apply wpS_seq
  apply wpS_region
  simp [wpOpsS, go_sem, recoverD, hu, Try.ntmps52, Exit.thenS]
  refine wpS_cond (t := false) (by simp [Act.eval, Array.replicate]) ?_
  simp only [Bool.false_eq_true, if_false]
  refine wpS_of_wp (wp_skip ?_)
  cases c₀
  simp_all [bodyPostS, results, Try.results52]
set_option maxHeartbeats 4000000 in
set_option maxRecDepth 100000 in
theorem impl_FaultRead.calls (k : Nat) (a0 : ByteArray) (r1 : List (S54)) (r2 : Bool) (w : World) (h : impl_FaultRead.f k a0 = some (r1, r2)) :
    Calls Try.prog 24 #[.string a0] w fun e w' => ∃ v0_ : Value, e = .returned (.tuple #[v0_, .bool r2]) ∧ Kd.R k54 54 w' w.heap.size (fun _ => True) v0_ r1 ∧ Below w.heap.size w w' := by
  unfold impl_FaultRead.f at h
  by_cases hsz : a0.size ≤ 1000000000000
  case neg => rw [if_neg hsz] at h; cases h
  rw [if_pos hsz] at h
  obtain ⟨R, hR, hr⟩ := Option.bind_eq_some_iff.mp h
  simp only [Option.some.injEq, Prod.mk.injEq] at hr
  obtain ⟨rfl, rfl⟩ := hr
  clear h
  have hu := Try.underlying47
  have hmf : ∀ (fn : Fn) (first cap : Array Value) (w : World), (Instr.makeFunc fn first cap).run Try.prog w = .ok (.func fn first cap) w := fun _ _ _ _ => rfl
  obtain ⟨W0, hW0⟩ : ∃ W0, W0 = (w.alloc (.cells #[.slice none 0 0] 47 (0, 0))).alloc (.cells #[.bool false] 4 (0, 0)) := ⟨_, rfl⟩
  have hL0 : W0.heap[w.heap.size]? = some (.cells #[.slice none 0 0] 47 (0, 0)) := by
    rw [hW0]
    exact blk_alloc (by exact heap_alloc_new w _) _
  have hO0 : W0.heap[w.heap.size + 1]? = some (.cells #[.bool false] 4 (0, 0)) := by
    rw [hW0]
    have := heap_alloc_new (w.alloc (.cells #[.slice none 0 0] 47 (0, 0))) (.cells #[.bool false] 4 (0, 0))
    simpa using this
  have hB0 : Below w.heap.size w W0 := by rw [hW0]; exact below_alloc (below_alloc (Below.refl _ _) _) _
  have hz0 : W0.heap.size = w.heap.size + 2 := by rw [hW0]; simp
  have kb := print_bytes (P := Try.prog) 9 58 5 Try.underlying9 Try.underlying58 Try.underlying5 a0 W0
  have hC : Kd.C (Kd.int .u8) (Lib.bytesWorld W0 5 a0) (some ⟨W0.heap.size, 0, none⟩) (bytesOf a0).length (bytesOf a0) := by rw [bytesOf_length]; exact Kd.C_of_reads (d := (0 : Int)) (h1 := fun _ => rfl) (bytes_reads W0 5 a0 (by omega))
  have hBB : Below W0.heap.size W0 (Lib.bytesWorld W0 5 a0) := bytes_below (Below.refl W0.heap.size W0) (Nat.le_refl _) 5 a0
  have hpe := pq_ParseError.calls k (some ⟨W0.heap.size, 0, none⟩) (grownCap W0 a0.size 0 5) (bytesOf a0) ⟨#[]⟩ R (Lib.bytesWorld W0 5 a0) hC (by rw [bytesOf_length]; exact grownCap_ge _ _ _ _) (bytesOf_bytes a0) hR
  rw [bytesOf_length] at hpe
  have HL0 := Aside0.mk hL0
  have HO0 := Aside0.mk hO0
  have HB0 := Aside0.mk hB0
  have HZ0 := Aside0.mk hz0
  have HBB := Aside0.mk hBB
  clear hL0 hO0 hB0 hR hC hBB hsz
  rw [hz0] at kb hpe
  clear hz0
  subst hW0
  go_enter_defers Try.func24, Try.ntmps24
  go_wp2_with fail
  refine hpe.mono ?_
  rintro e w1 ⟨b, rfl, h1, h2, h3⟩
  have hB1 := Below.trans HBB.out (h3.mono HBB.out.size)
  have HL1 := Aside0.mk ((hB1.block w.heap.size (by rw [HZ0.out]; omega)).trans HL0.out)
  have HO1 := Aside0.mk ((hB1.block (w.heap.size + 1) (by rw [HZ0.out]; omega)).trans HO0.out)
  have HB1 := Aside0.mk (Below.trans HB0.out (hB1.mono HB0.out.size))
  have H2 := Aside0.mk h2
  have hbw : w.heap.size + 2 ≤ b := by have := HBB.out.size; rw [HZ0.out] at this; omega
  have HBW := Aside0.mk hbw
  clear hpe kb h1 h2 h3 hB1 HL0 HO0 HB0 HZ0 HBB hbw
  go_wp2_with fail
  go_loopg [5, 21] 18 (fun kq v5 _ w' => ∃ (i : Nat) (v : Value), v5 = .int .i64 (i : Int) ∧ Aside0 (i ≤ 17) ∧ Aside0 (kq + i = 18) ∧ w'.heap[w.heap.size]? = some (.cells #[v] 47 (0, 0)) ∧ w'.heap[w.heap.size + 1]? = some (.cells #[.bool false] 4 (0, 0)) ∧ w'.heap[b]? = some (errObj R) ∧ Kd.R k54 54 w' (w.heap.size + 2) (fun _ => True) v (frList R i) ∧ Below w.heap.size w w')
  case atStart => exact ⟨0, _, rfl, ⟨by omega⟩, ⟨rfl⟩, HL1.out, HO1.out, H2.out, Kd.R_nil _ _ _ _ _, HB1.out⟩
  case round =>
    obtain ⟨i, v, rfl, HI, HK, hL, hO, hE, hR, hB⟩ := hrel
    clear HL1 HO1 HB1 H2
    by_cases ci : i < 17
    · have c1 : ((i : Int) < 17) = True := eq_true (by omega)
      have c1b : decide ((i : Int) < 17) = true := decide_eq_true (by omega)
      obtain ⟨c, hc⟩ : ∃ c, c = letterL[i]'ci := ⟨_, rfl⟩
      have hix := fun W => letter_index i ci c hc W
      have hfs := frList_succ R i ci
      rw [← hc] at hfs
      have HFS := Aside0.mk hfs
      have HL := Aside0.mk hL
      have HO := Aside0.mk hO
      have HE := Aside0.mk hE
      have HR := Aside0.mk hR
      have HB := Aside0.mk hB
      have HC := Aside0.mk hc
      clear hL hO hE hR hB hc hfs
      have hg := pq_Error_Get.calls b R c wr HE.out
      have hwr : wrap64 ((i : Int) + 1) = ((i + 1 : Nat) : Int) := by unfold wrap64; omega
      go_wp2_with fail
      refine hg.mono ?_
      rintro e w2 ⟨rfl, hb2⟩
      clear hg
      have HL2 := Aside0.mk ((hb2.block _ (blk_lt HL.out)).trans HL.out)
      have HO2 := Aside0.mk ((hb2.block _ (blk_lt HO.out)).trans HO.out)
      have HE2 := Aside0.mk ((hb2.block _ (blk_lt HE.out)).trans HE.out)
      have HR2 := Aside0.mk (Kd.R_below HR.out hb2)
      have HB2 := Aside0.mk (below_step HB.out hb2)
      clear hb2 HL HO HE HR HB
      by_cases hs : getF R c = ⟨#[]⟩
      · have h1 : frOne R c = none := by unfold frOne; rw [if_pos hs]
        have h2 := HFS.out
        rw [h1] at h2
        simp only [List.append_nil] at h2
        have H2 := Aside0.mk h2
        rw [hs]
        clear h2 h1 hs
        go_wp2_with fail
        go_roundg (17 - i)
        case measure => have := HK.out; omega
        case rel => exact ⟨i + 1, v, by go_num, ⟨by omega⟩, ⟨by have := HK.out; omega⟩, HL2.out, HO2.out, HE2.out, by rw [H2.out]; exact HR2.out, HB2.out⟩
      · have h1 : frOne R c = some ⟨c, getF R c⟩ := by unfold frOne; rw [if_neg hs]
        have h2 := HFS.out
        rw [h1] at h2
        have H2 := Aside0.mk h2
        have hne := nonempty_s hs
        obtain ⟨s, hsd⟩ : ∃ s, s = getF R c := ⟨_, rfl⟩
        have HSD := Aside0.mk hsd
        rw [← hsd] at hne hs H2 ⊢
        clear h2 h1 hsd
        have hll := frList_le R i
        have ht1 : ((frList R i).length + 1) * 24 ≤ 140737488355328 := by have := HI.out; omega
        have HT := Aside0.mk ht1
        clear hll ht1
        have x1 := blk_cell HL2.out 0
        have y1 := blk_frozen HL2.out 0
        go_wp2_with fail
        obtain ⟨w3, hw3⟩ : ∃ w3, w3 = w2.drew := ⟨_, rfl⟩
        have HRd : Aside0 (Kd.R k54 54 w3 (w.heap.size + 2) (fun _ => True) v (frList R i)) := ⟨by rw [hw3]; exact Kd.R_drew HR2.out⟩
        have HBd : Below (w.heap.size + 2) w3 w3 := Below.refl _ _
        have HSZ : Aside0 (w.heap.size + 2 ≤ w3.heap.size) := ⟨by have := blk_lt HE2.out; have := HBW.out; rw [hw3]; show w.heap.size + 2 ≤ w2.heap.size; omega⟩
        have HBL : Aside0 (w3.heap[w.heap.size]? = some (.cells #[v] 47 (0, 0))) := ⟨by rw [hw3]; exact HL2.out⟩
        have HOL : Aside0 (w3.heap[w.heap.size + 1]? = some (.cells #[.bool false] 4 (0, 0))) := ⟨by rw [hw3]; exact HO2.out⟩
        have HEL : Aside0 (w3.heap[b]? = some (errObj R)) := ⟨by rw [hw3]; exact HE2.out⟩
        have HB3 : Aside0 (Below w.heap.size w w3) := ⟨by rw [hw3]; exact below_drew HB2.out⟩
        have HNE : Aside0 (∀ g, g < w.heap.size + 2 → some g ≠ v.ownBlock) := ⟨fun g hg e => by have := Kd.R_base HR2.out _ e.symm; omega⟩
        have HNB : Aside0 (some b ≠ v.ownBlock) := ⟨Kd.R_ne HR2.out HE2.out (by decide)⟩
        clear x1 y1
        subst hw3
        have x2 := fun o => blk_cell (blk_alloc HBL.out o) 0
        have y2 := fun o => blk_frozen (blk_alloc HBL.out o) 0
        have x3 := blk_cell HBL.out 0
        have y3 := blk_frozen HBL.out 0
        have x4 := fun o => blk_cell (blk_alloc HL2.out o) 0
        have y4 := fun o => blk_frozen (blk_alloc HL2.out o) 0
        refine wp_region_noPanic ?_
        go_region_law ((refine Kd.R_append_step k54 (w0 := w2.drew) (W := w2.drew) (w.heap.size + 2) (by rfl) (.tmp 21) (.tmp 26) 47 54 (.agg #[(.int .u8 0), (.string ⟨#[]⟩)]) 24 (by rfl) Try.underlying47 info54 (by rfl) (by decide) (by omega) v (frList R i) (⟨c, s⟩ : S54) [.int .u8 c, .string s] (fun _ => True) (fun _ => False) (by rfl) (by first | (go_simp; done) | (go_simp; rfl)) (k54_mkM _ _ _ (⟨c, s⟩ : S54)) (fun _ hk => hk.elim) (fun _ _ => trivial) HRd.out HBd HSZ.out HT.out ?_; intro v1 w8 ho hb hg hat; have B8 := blk_grown HBL.out hg (HNE.out _ (by omega)); have O8 := blk_grown HOL.out hg (HNE.out _ (by omega)); have E8 := blk_grown HEL.out hg HNB.out; have x8 := blk_cell B8 0; have y8 := blk_frozen B8 0; obtain ⟨A8, c8, e8, hc8, HC8⟩ := Kd.R_reads ho; subst e8))
        all_goals
          refine NoPanic.normal ?_
          go_wp2
          go_roundg (17 - i)
          case measure => have := HK.out; omega
          case rel => exact ⟨i + 1, _, by go_num, ⟨by omega⟩, ⟨by have := HK.out; omega⟩, blk_set B8 0 _, blk_far O8 (by show w.heap.size + 1 ≠ w.heap.size; omega) _, blk_far E8 (by show b ≠ w.heap.size; have := HBW.out; omega) _, by rw [H2.out]; have hz := Kd.R_set ho B8 (by decide) 0 (.slice A8 ((frList R i).length + 1) c8); simpa using hz, below_set (Below.trans HB3.out (hb.mono (by have := HSZ.out; omega))) (Nat.le_refl _)⟩
    · have hie : i = 17 := by have := HI.out; omega
      subst hie
      clear HI HK
      have HL := Aside0.mk hL
      have HO := Aside0.mk hO
      have HR := Aside0.mk hR
      have HB := Aside0.mk hB
      obtain ⟨A7, c7, e7, hc7, HC7⟩ := Kd.R_reads hR
      subst e7
      have x1 := blk_cell hL 0
      have y1 := blk_frozen hL 0
      have HLs := fun u => blk_set hL 0 u
      have z1 := fun u => (blk_cell (blk_far hO (p := ⟨w.heap.size, 0, none⟩) (by show w.heap.size + 1 ≠ w.heap.size; omega) u) 0)
      have z2 := fun u => (blk_frozen (blk_far hO (p := ⟨w.heap.size, 0, none⟩) (by show w.heap.size + 1 ≠ w.heap.size; omega) u) 0)
      clear hL hO hE hR hB ci
      go_wp2
      refine leaves_cons (f := 52) (args := #[.pointer (some ⟨w.heap.size, 0, none⟩), .pointer (some ⟨w.heap.size + 1, 0, none⟩)]) (by simp) (by simp [go_sem]) ?_
      refine (impl_FaultRead.idle _ _ _).mono ?_
      rintro e u' w'' ⟨rfl, rfl, rfl⟩
      have hL2 := blk_far (HLs (.slice A7 (frList R 17).length c7)) (p := ⟨w.heap.size + 1, 0, none⟩) (by show w.heap.size ≠ w.heap.size + 1; omega) (.bool true)
      have hO2 := blk_set (blk_far HO.out (p := ⟨w.heap.size, 0, none⟩) (by show w.heap.size + 1 ≠ w.heap.size; omega) (.slice A7 (frList R 17).length c7)) 0 (.bool true)
      have fL := blk_cell hL2 0
      have fO := blk_cell hO2 0
      have hR1 := Kd.R_set HR.out HL.out (by decide) 0 (.slice A7 (frList R 17).length c7)
      have hR2 := Kd.R_set hR1 (blk_far HO.out (p := ⟨w.heap.size, 0, none⟩) (by show w.heap.size + 1 ≠ w.heap.size; omega) (.slice A7 (frList R 17).length c7)) (by decide) 0 (.bool true)
      simp [Leaves, settle, results, Try.results24, go_sem, fL, fO]
      exact ⟨Kd.R_lower hR2 (by omega), below_set (below_set HB.out (Nat.le_refl _)) (by omega)⟩

/-! ### spec_FieldsBody: function 25 -/
def spec_FieldsBody.l0 : Nat → List (S54) → ByteArray → Int → Option (ByteArray)
  | 0, _, _, _ => none
  | k + 1, x0, x3, x4 => if x4 < (x0.length : Int) then (if 0 ≤ x4 then ((some (([(rd_T54 x0 x4).f0] : List Int) : List Int)).bind fun y115 => (if (strOfNums y115).size + ((rd_T54 x0 x4).f1).size ≤ 9223372036854775807 then (if ((strOfNums y115) ++ ((rd_T54 x0 x4).f1)).size + 1 ≤ 9223372036854775807 then (if x3.size + (((strOfNums y115) ++ ((rd_T54 x0 x4).f1)) ++ (⟨#[0]⟩ : ByteArray)).size ≤ 9223372036854775807 then (spec_FieldsBody.l0 k x0 (x3 ++ (((strOfNums y115) ++ ((rd_T54 x0 x4).f1)) ++ (⟨#[0]⟩ : ByteArray))) (wrap64 (x4 + 1))) else (none)) else (none)) else (none))) else (none)) else (if x3.size + 1 ≤ 9223372036854775807 then (some (x3 ++ (⟨#[0]⟩ : ByteArray))) else (none))
def spec_FieldsBody.f (k : Nat) (l0 : List (S54)) : Option (ByteArray) := spec_FieldsBody.l0 k l0 (⟨#[]⟩ : ByteArray) 0
theorem spec_FieldsBody.mono_l : ∀ k, (∀ y0 y1 y2, LeO (spec_FieldsBody.l0 k y0 y1 y2) (spec_FieldsBody.l0 (k + 1) y0 y1 y2))
  | 0 => fun _ _ _ r h => by simp [spec_FieldsBody.l0] at h
  | k + 1 => by
    have ih0 := spec_FieldsBody.mono_l k
    · intro y0 y1 y2
      unfold spec_FieldsBody.l0
      repeat' first
      | (with_reducible exact ih0 _ _ _)
      | (with_reducible exact LeO.refl _)
      | (with_reducible exact LeO.none _)
      | (with_reducible refine LeO.ite ?_ ?_)
      | (with_reducible refine LeO.bind ?_ (fun _ => ?_))
      | exact ih0 _ _ _
      | exact LeO.none _
      | refine LeO.ite ?_ ?_
      | refine LeO.bind ?_ (fun _ => ?_)
theorem spec_FieldsBody.mono : ∀ a0 k, LeO (spec_FieldsBody.f k a0) (spec_FieldsBody.f (k + 1) a0) := by
  intro a0 k
  have ih0 := spec_FieldsBody.mono_l k
  unfold spec_FieldsBody.f
  repeat' first
      | (with_reducible exact ih0 _ _ _)
      | (with_reducible exact LeO.refl _)
      | (with_reducible exact LeO.none _)
      | (with_reducible refine LeO.ite ?_ ?_)
      | (with_reducible refine LeO.bind ?_ (fun _ => ?_))
      | exact ih0 _ _ _
      | exact LeO.none _
      | refine LeO.ite ?_ ?_
      | refine LeO.bind ?_ (fun _ => ?_)
def spec_FieldsBody.T5 : Bool × List (List Nat × List Nat) := (true, [([], []), ([], []), ([], []), ([1, 2], [1, 2]), ([3], [3]), ([4], [4]), ([5], [5]), ([6], [6]), ([], []), ([], []), ([8, 9], [8, 9]), ([10], [10]), ([11], [11]), ([7, 12], [7, 12]), ([13], [13]), ([0, 14], [0, 14]), ([15, 0, 1, 2, 3, 4, 5, 6, 7, 8, 9, 10, 11, 12, 13, 14, 15], [0, 15])])
def spec_FieldsBody.B5 : List Nat := [0, 0, 0, 6, 14, 30, 62, 126, 0, 0, 768, 1792, 3840, 8190, 16382, 32767, 65535]
theorem spec_FieldsBody.tab5 : rtab .any (opsOf Try.f25 5) = spec_FieldsBody.T5 := by kernel_rfl
theorem spec_FieldsBody.bits5 : waitsOk spec_FieldsBody.T5.2 spec_FieldsBody.B5 = true := by kernel_rfl
set_option maxHeartbeats 8000000 in
set_option maxRecDepth 100000 in
theorem spec_FieldsBody.calls (k : Nat) (A0 : Option Addr) (c0 : Nat) (l0 : List (S54)) (r : ByteArray) (w : World) (hr0 : Kd.C k54 w A0 l0.length l0) (hc0 : l0.length ≤ c0) (h : spec_FieldsBody.f k l0 = some r) :
    Calls Try.prog 25 #[.slice A0 l0.length c0] w fun e w' => e = .returned (.string r) ∧ Below w.heap.size w w' := by
  have HR0 := Aside0.mk hr0
  have HC0 := Aside0.mk hc0
  clear hr0 hc0
  have HB := Aside0.mk (Below.refl w.heap.size w)
  have H : (spec_FieldsBody.l0 k l0 (⟨#[]⟩ : ByteArray) 0) = some r := h
  clear h
  have H' := Aside0.mk H
  clear H
  go_enter Try.func25, Try.ntmps25
  go_wp2
  go_loopg [3, 4] k (fun kq v3 v4 w' => ∃ (x3_1 : ByteArray) (x4_1 : Int), v3 = .string x3_1 ∧ v4 = .int .i64 x4_1 ∧ Aside0 (spec_FieldsBody.l0 kq l0 x3_1 x4_1 = some r) ∧ Aside0 (kq ≤ k) ∧ Aside0 (Below w.heap.size w w'))
  case atStart => exact ⟨((⟨#[]⟩ : ByteArray)), (0), (by first | rfl | (simp; done) | (simp [*]; done)), (by first | rfl | (simp; done) | (simp [*]; done)), H', ⟨Nat.le_refl _⟩, ⟨by repeat (first | (with_reducible first | exact HB.out | apply below_alloc | apply pw_below_drewN | apply below_drew1) | exact HB.out)⟩⟩
  case round =>
    clear H'
    obtain ⟨x3_1, x4_1, rfl, rfl, HA, HK1, HB⟩ := hrel
    cases gk with
    | zero => exact absurd HA.out (by simp [spec_FieldsBody.l0])
    | succ k1 =>
      have H := HA.out
      clear HA
      simp only [spec_FieldsBody.l0] at H
      by_cases c2 : x4_1 < (l0.length : Int)
      · rw [if_pos c2] at H
        have c2b0 : decide (x4_1 < (l0.length : Int)) = true := decide_eq_true c2
        clear c2
        by_cases c3 : 0 ≤ x4_1
        · rw [if_pos c3] at H
          have c3b0 : decide (0 ≤ x4_1) = true := decide_eq_true c3
          clear c3
          obtain ⟨y115, hy115⟩ : ∃ y_ : List Int, y_ = (([(rd_T54 l0 x4_1).f0] : List Int)) := ⟨_, rfl⟩
          replace H : (if (strOfNums y115).size + ((rd_T54 l0 x4_1).f1).size ≤ 9223372036854775807 then (if ((strOfNums y115) ++ ((rd_T54 l0 x4_1).f1)).size + 1 ≤ 9223372036854775807 then (if x3_1.size + (((strOfNums y115) ++ ((rd_T54 l0 x4_1).f1)) ++ (⟨#[0]⟩ : ByteArray)).size ≤ 9223372036854775807 then (spec_FieldsBody.l0 k1 l0 (x3_1 ++ (((strOfNums y115) ++ ((rd_T54 l0 x4_1).f1)) ++ (⟨#[0]⟩ : ByteArray))) (wrap64 (x4_1 + 1))) else (none)) else (none)) else (none)) = some r := by first | (rw [hy115]; with_reducible exact H) | (have H2_ := (Option.bind_some _ _).symm.trans H; rw [hy115]; with_reducible exact H2_) | (have H2_ := (Option.bind_some _ _).symm.trans H; with_reducible exact H2_) | with_reducible exact H | (rw [hy115]; exact H) | exact H
          have Ny115 := Aside0.mk hy115
          clear hy115
          by_cases c4 : (strOfNums y115).size + ((rd_T54 l0 x4_1).f1).size ≤ 9223372036854775807
          · rw [if_pos c4] at H
            have c4b0 := eq_true c4
            have c4b1 : decide ((strOfNums y115).size + ((rd_T54 l0 x4_1).f1).size ≤ 9223372036854775807) = true := decide_eq_true c4
            try have c4b2 : (9223372036854775807 < (strOfNums y115).size + ((rd_T54 l0 x4_1).f1).size) = False := eq_false (Nat.not_lt.2 c4)
            by_cases c5 : ((strOfNums y115) ++ ((rd_T54 l0 x4_1).f1)).size + 1 ≤ 9223372036854775807
            · rw [if_pos c5] at H
              have c5b0 := eq_true c5
              have c5b1 : decide (((strOfNums y115) ++ ((rd_T54 l0 x4_1).f1)).size + 1 ≤ 9223372036854775807) = true := decide_eq_true c5
              try have c5b2 : (9223372036854775807 < ((strOfNums y115) ++ ((rd_T54 l0 x4_1).f1)).size + 1) = False := eq_false (Nat.not_lt.2 c5)
              try have c5b3 : (9223372036854775807 < (strOfNums y115).size + ((rd_T54 l0 x4_1).f1).size + 1) = False := eq_false (by have h_ := c5; simp only [ByteArray.size_append] at h_; omega)
              by_cases c6 : x3_1.size + (((strOfNums y115) ++ ((rd_T54 l0 x4_1).f1)) ++ (⟨#[0]⟩ : ByteArray)).size ≤ 9223372036854775807
              · rw [if_pos c6] at H
                have c6b0 := eq_true c6
                have c6b1 : decide (x3_1.size + (((strOfNums y115) ++ ((rd_T54 l0 x4_1).f1)) ++ (⟨#[0]⟩ : ByteArray)).size ≤ 9223372036854775807) = true := decide_eq_true c6
                try have c6b2 : (9223372036854775807 < x3_1.size + (((strOfNums y115) ++ ((rd_T54 l0 x4_1).f1)) ++ (⟨#[0]⟩ : ByteArray)).size) = False := eq_false (Nat.not_lt.2 c6)
                try have c6b3 : (9223372036854775807 < x3_1.size + ((strOfNums y115).size + ((rd_T54 l0 x4_1).f1).size + 1)) = False := eq_false (by have h_ := c6; simp only [ByteArray.size_append, show (⟨#[0]⟩ : ByteArray).size = 1 from rfl] at h_; omega)
                have H' := Aside0.mk H
                clear H
                try go_wp2
                have n0_ := Aside0.mk (below_drew1 HB.out)
                clear HB
                have HB := n0_
                clear n0_
                have p114 : 0 ≤ (x4_1 : Int) := of_decide_eq_true (by first | (with_reducible assumption) | assumption)
                have q114 : x4_1 < (l0.length : Int) := of_decide_eq_true (by first | (with_reducible assumption) | assumption)
                obtain ⟨ad114, e114, hx114_0, hx114_1⟩ := at_T54 HR0.out x4_1 p114 q114
                have hw114_1 := hx114_1
                have hw114_0 := hx114_0
                cases e114
                replace hx114_0 := (HB.out.cell (World.block_lt_of_cell? w _ hx114_0)).trans hx114_0
                replace hx114_1 := (HB.out.cell (World.block_lt_of_cell? w _ hx114_1)).trans hx114_1
                replace p114 := eq_true p114
                replace q114 := eq_true q114
                have p118 : 0 ≤ (x4_1 : Int) := of_decide_eq_true (by first | (with_reducible assumption) | assumption)
                have q118 : x4_1 < (l0.length : Int) := of_decide_eq_true (by first | (with_reducible assumption) | assumption)
                obtain ⟨ad118, e118, hx118_0, hx118_1⟩ := at_T54 HR0.out x4_1 p118 q118
                have hw118_1 := hx118_1
                have hw118_0 := hx118_0
                obtain rfl : ad114 = ad118 := (by injection e118)
                replace hx118_0 := (HB.out.cell (World.block_lt_of_cell? w _ hx118_0)).trans hx118_0
                replace hx118_1 := (HB.out.cell (World.block_lt_of_cell? w _ hx118_1)).trans hx118_1
                replace p118 := eq_true p118
                replace q118 := eq_true q118
                refine start_ (n := 17) (S := fun w' => w'.cell? (ad114.add ((x4_1).toNat * 2)) = some (.int .u8 ((rd_T54 l0 x4_1).f0)) ∧ w'.cell? ⟨(ad114.add ((x4_1).toNat * 2)).block, (ad114.add ((x4_1).toNat * 2)).off + 1, none⟩ = some (.string ((rd_T54 l0 x4_1).f1)) ∧ w'.cell? (ad114.add ((x4_1).toNat * 2)) = some (.int .u8 ((rd_T54 l0 x4_1).f0)) ∧ w'.cell? ⟨(ad114.add ((x4_1).toNat * 2)).block, (ad114.add ((x4_1).toNat * 2)).off + 1, none⟩ = some (.string ((rd_T54 l0 x4_1).f1))) (ds := []) #[false, false, false, false, false, false, false, false, false, false, false, false, false, false, false, false, false] (by kernel_rfl) rfl rfl ⟨((HB.out.cell (World.block_lt_of_cell? w _ hw114_0)).trans hw114_0), ((HB.out.cell (World.block_lt_of_cell? w _ hw114_1)).trans hw114_1), ((HB.out.cell (World.block_lt_of_cell? w _ hw118_0)).trans hw118_0), ((HB.out.cell (World.block_lt_of_cell? w _ hw118_1)).trans hw118_1)⟩ (fun hHeld => ?_); refine with_tabW spec_FieldsBody.tab5 spec_FieldsBody.bits5 (fun HT_ HW_ => ?_)
                generalize wr.drew = w7 at HB hx114_0 hx114_1 hx118_0 hx118_1 hHeld ⊢
                refine pure_ (i := 0) (N := some 11) (v := ?_) (a' := ?_) #[true, false, false, false, false, false, false, false, false, false, false, false, false, false, false, false, false] rfl rfl (any_of HT_.out (by kernel_rfl)) (fun _ _ _ h => h) (Or.inl ⟨by rfl, ?_⟩) ?_ ?_
                rotate_left
                · intro w'
                  go_simp
                  with_reducible rfl
                rotate_left
                · simp only [Act.put, List.setIfInBounds_toArray, List.set_cons_zero, List.set_cons_succ, i64_w, i32_w]
                  rfl
                refine pure_ (i := 1) (N := some 12) (v := ?_) (a' := ?_) #[true, true, false, false, false, false, false, false, false, false, false, false, false, false, false, false, false] rfl rfl (any_of HT_.out (by kernel_rfl)) (fun _ _ _ h => h) (Or.inl ⟨by rfl, ?_⟩) ?_ ?_
                rotate_left
                · intro w'
                  go_simp
                  with_reducible rfl
                rotate_left
                · simp only [Act.put, List.setIfInBounds_toArray, List.set_cons_zero, List.set_cons_succ, i64_w, i32_w]
                  rfl
                refine pure_ (i := 2) (N := some 13) (v := ?_) (a' := ?_) #[true, true, true, false, false, false, false, false, false, false, false, false, false, false, false, false, false] rfl rfl (any_of HT_.out (by kernel_rfl)) (fun _ _ _ h => h) (Or.inl ⟨by rfl, ?_⟩) ?_ ?_
                rotate_left
                · intro w'
                  go_simp
                  with_reducible rfl
                rotate_left
                · simp only [Act.put, List.setIfInBounds_toArray, List.set_cons_zero, List.set_cons_succ, i64_w, i32_w]
                  rfl
                refine pure_ (i := 3) (N := some 14) (v := ?_) (a' := ?_) #[true, true, true, true, false, false, false, false, false, false, false, false, false, false, false, false, false] rfl rfl (any_of HT_.out (by kernel_rfl)) (fun _ _ _ h => h) (Or.inl ⟨by rfl, ?_⟩) ?_ ?_
                rotate_left
                · intro w'
                  go_simp
                  with_reducible rfl
                rotate_left
                · simp only [Act.put, List.setIfInBounds_toArray, List.set_cons_zero, List.set_cons_succ, i64_w, i32_w]
                  rfl
                refine pure_ (i := 4) (N := some 15) (v := ?_) (a' := ?_) #[true, true, true, true, true, false, false, false, false, false, false, false, false, false, false, false, false] rfl rfl (any_of HT_.out (by kernel_rfl)) (fun _ _ _ h => h) (Or.inl ⟨by rfl, ?_⟩) ?_ ?_
                rotate_left
                · intro w'
                  go_simp
                  with_reducible rfl
                rotate_left
                · simp only [Act.put, List.setIfInBounds_toArray, List.set_cons_zero, List.set_cons_succ, i64_w, i32_w]
                  rfl
                refine pure_ (i := 8) (N := some 19) (v := ?_) (a' := ?_) #[true, true, true, true, true, false, false, false, true, false, false, false, false, false, false, false, false] rfl rfl (any_of HT_.out (by kernel_rfl)) (fun _ _ _ h => h) (Or.inl ⟨by rfl, ?_⟩) ?_ ?_
                rotate_left
                · intro w'
                  go_simp
                  with_reducible rfl
                rotate_left
                · simp only [Act.put, List.setIfInBounds_toArray, List.set_cons_zero, List.set_cons_succ, i64_w, i32_w]
                  rfl
                refine pure_ (i := 9) (N := some 20) (v := ?_) (a' := ?_) #[true, true, true, true, true, false, false, false, true, true, false, false, false, false, false, false, false] rfl rfl (any_of HT_.out (by kernel_rfl)) (fun _ _ _ h => h) (Or.inl ⟨by rfl, ?_⟩) ?_ ?_
                rotate_left
                · intro w'
                  go_simp
                  with_reducible rfl
                rotate_left
                · simp only [Act.put, List.setIfInBounds_toArray, List.set_cons_zero, List.set_cons_succ, i64_w, i32_w]
                  rfl
                refine pure_ (i := 10) (N := some 21) (v := ?_) (a' := ?_) #[true, true, true, true, true, false, false, false, true, true, true, false, false, false, false, false, false] rfl rfl (any_of HT_.out (by kernel_rfl)) (fun _ _ _ h => h) (Or.inl ⟨by rfl, ?_⟩) ?_ ?_
                rotate_left
                · intro w'
                  go_simp
                  with_reducible rfl
                rotate_left
                · simp only [Act.put, List.setIfInBounds_toArray, List.set_cons_zero, List.set_cons_succ, i64_w, i32_w]
                  rfl
                refine pure_ (i := 11) (N := some 22) (v := ?_) (a' := ?_) #[true, true, true, true, true, false, false, false, true, true, true, true, false, false, false, false, false] rfl rfl (any_of HT_.out (by kernel_rfl)) (fun _ _ _ h => h) (Or.inl ⟨by rfl, ?_⟩) ?_ ?_
                rotate_left
                · intro w'
                  go_simp
                  with_reducible rfl
                rotate_left
                · simp only [Act.put, List.setIfInBounds_toArray, List.set_cons_zero, List.set_cons_succ, i64_w, i32_w]
                  rfl
                refine take_ (i := 5) (N := some 16) (v := ?_) (a' := ?_) #[true, true, true, true, true, true, false, false, true, true, true, true, false, false, false, false, false] rfl rfl (take_ofW HT_.out HW_.out (by kernel_rfl)) (fun _ _ _ h => h) (Or.inl ⟨by rfl, ?_⟩) hHeld ?_ ?_
                rotate_left
                · rintro w' ⟨s0, s1, s2, s3⟩
                  go_simp
                  with_reducible rfl
                rotate_left
                · simp only [Act.put, List.setIfInBounds_toArray, List.set_cons_zero, List.set_cons_succ, i64_w, i32_w]
                  rfl
                refine take_ (i := 12) (N := some 23) (v := ?_) (a' := ?_) #[true, true, true, true, true, true, false, false, true, true, true, true, true, false, false, false, false] rfl rfl (take_ofW HT_.out HW_.out (by kernel_rfl)) (fun _ _ _ h => h) (Or.inl ⟨by rfl, ?_⟩) hHeld ?_ ?_
                rotate_left
                · rintro w' ⟨s0, s1, s2, s3⟩
                  go_simp
                  with_reducible rfl
                rotate_left
                · simp only [Act.put, List.setIfInBounds_toArray, List.set_cons_zero, List.set_cons_succ, i64_w, i32_w]
                  rfl
                refine one_ (i := 6) (N := some 17) #[true, true, true, true, true, true, true, false, true, true, true, true, true, false, false, false, false] rfl rfl (one_of HT_.out (by kernel_rfl)) (by decide) (fun K hK => ?_)
                refine Kd.R_lit_step (Kd.int .u8) _ 5 ?hg (N := 17) ?hd (xs := ([(rd_T54 l0 x4_1).f0] : List Int)) (inner := [.int .u8 ((rd_T54 l0 x4_1).f0)]) (ok := fun _ => True) (okp := fun _ => True) ?hr ?hp (fun _ hk => hk) trivial (Below.refl _ _) (Nat.le_refl _) (by simp) ?_; (case hd => rfl); (case hg => rfl); (case hr => first | (go_simp; done) | (go_simp; rfl)); (case hp => exact (Reps.one (show Kd.M (Kd.int .u8) _ _ _ ((rd_T54 l0 x4_1).f0) [.int .u8 ((rd_T54 l0 x4_1).f0)] from rfl) (Reps.none _ _)))
                intro v116 w8 ho9 hb hg_ hnew_
                clear hg_ hnew_
                (first | rw [← Ny115.out] at ho9 | (simp only [Int.reduceToNat] at ho9; rw [← Ny115.out] at ho9))
                have n0_ := Aside0.mk (Kd.R_lower ho9 (below_size (by repeat (first | (with_reducible first | exact HB.out | apply below_alloc | apply pw_below_drewN | apply below_drew1) | exact HB.out))))
                have n1_ := Aside0.mk (below_step (by repeat (first | (with_reducible first | exact HB.out | apply below_alloc | apply pw_below_drewN | apply below_drew1) | exact HB.out)) hb)
                clear HB
                have HO117 := n0_
                have HB := n1_
                clear n0_ n1_
                clear hb ho9
                refine hK.out _ _ ⟨((HB.out.cell (World.block_lt_of_cell? w _ hw114_0)).trans hw114_0), ((HB.out.cell (World.block_lt_of_cell? w _ hw114_1)).trans hw114_1), ((HB.out.cell (World.block_lt_of_cell? w _ hw118_0)).trans hw118_0), ((HB.out.cell (World.block_lt_of_cell? w _ hw118_1)).trans hw118_1)⟩ (fun hHeld => ?_)
                clear hK K
                refine norm_ (a' := ?_) ?_ ?_
                rotate_left
                · show Act.put _ (some 17) _ = _
                  simp only [Act.put, List.setIfInBounds_toArray, List.set_cons_zero, List.set_cons_succ, i64_w, i32_w]
                  rfl
                refine one_ (i := 7) (N := some 18) #[true, true, true, true, true, true, true, true, true, true, true, true, true, false, false, false, false] rfl rfl (one_of HT_.out (by kernel_rfl)) (by decide) (fun K hK => ?_)
                have hcv10 := own_string (P := Try.prog) Try.underlying58 Try.underlying5 Try.underlying9 (Kd.own_of_R HO117.out)
                refine value_ (w1 := ?_) (v := ?_) (by rfl) rfl ?_ ?_
                rotate_left 2
                · go_simp
                  constructor
                  · rfl
                  · rfl
                clear hcv10
                refine hK.out _ _ ⟨((HB.out.cell (World.block_lt_of_cell? w _ hw114_0)).trans hw114_0), ((HB.out.cell (World.block_lt_of_cell? w _ hw114_1)).trans hw114_1), ((HB.out.cell (World.block_lt_of_cell? w _ hw118_0)).trans hw118_0), ((HB.out.cell (World.block_lt_of_cell? w _ hw118_1)).trans hw118_1)⟩ (fun hHeld => ?_)
                clear hK K
                refine norm_ (a' := ?_) ?_ ?_
                rotate_left
                · show Act.put _ (some 18) _ = _
                  simp only [Act.put, List.setIfInBounds_toArray, List.set_cons_zero, List.set_cons_succ, i64_w, i32_w]
                  rfl
                refine pure_ (i := 13) (N := some 24) (v := ?_) (a' := ?_) #[true, true, true, true, true, true, true, true, true, true, true, true, true, true, false, false, false] rfl rfl (any_of HT_.out (by kernel_rfl)) (fun _ _ _ h => h) (Or.inl ⟨by rfl, ?_⟩) ?_ ?_
                rotate_left
                · intro w'
                  go_simp
                  with_reducible rfl
                rotate_left
                · simp only [Act.put, List.setIfInBounds_toArray, List.set_cons_zero, List.set_cons_succ, i64_w, i32_w]
                  rfl
                refine pure_ (i := 14) (N := some 25) (v := ?_) (a' := ?_) #[true, true, true, true, true, true, true, true, true, true, true, true, true, true, true, false, false] rfl rfl (any_of HT_.out (by kernel_rfl)) (fun _ _ _ h => h) (Or.inl ⟨by rfl, ?_⟩) ?_ ?_
                rotate_left
                · intro w'
                  go_simp
                  with_reducible rfl
                rotate_left
                · simp only [Act.put, List.setIfInBounds_toArray, List.set_cons_zero, List.set_cons_succ, i64_w, i32_w]
                  rfl
                refine pure_ (i := 15) (N := some 26) (v := ?_) (a' := ?_) #[true, true, true, true, true, true, true, true, true, true, true, true, true, true, true, true, false] rfl rfl (any_of HT_.out (by kernel_rfl)) (fun _ _ _ h => h) (Or.inl ⟨by rfl, ?_⟩) ?_ ?_
                rotate_left
                · intro w'
                  go_simp
                  with_reducible rfl
                rotate_left
                · simp only [Act.put, List.setIfInBounds_toArray, List.set_cons_zero, List.set_cons_succ, i64_w, i32_w]
                  rfl
                refine pure_ (i := 16) (N := some 3) (v := ?_) (a' := ?_) #[true, true, true, true, true, true, true, true, true, true, true, true, true, true, true, true, true] rfl rfl (any_of HT_.out (by kernel_rfl)) (fun _ _ _ h => h) (Or.inl ⟨by rfl, ?_⟩) ?_ ?_
                rotate_left
                · intro w'
                  go_simp
                  with_reducible rfl
                rotate_left
                · simp only [Act.put, List.setIfInBounds_toArray, List.set_cons_zero, List.set_cons_succ, i64_w, i32_w]
                  rfl
                refine done_ (done_of HT_.out (by kernel_rfl)) ?_
                try go_wp2
                go_roundg k1
                case measure => have := HK1.out; omega
                case rel => exact ⟨(x3_1 ++ (((strOfNums y115) ++ ((rd_T54 l0 x4_1).f1)) ++ (⟨#[0]⟩ : ByteArray))), (wrap64 (x4_1 + 1)), (by first | rfl | (simp; done) | (simp [*]; done)), (by first | rfl | (simp; done) | (simp [*]; done)), H', ⟨by have := HK1.out; omega⟩, ⟨by repeat (first | (with_reducible first | exact HB.out | apply below_alloc | apply pw_below_drewN | apply below_drew1) | exact HB.out)⟩⟩
              · rw [if_neg c6] at H
                exact absurd H (by simp)
            · rw [if_neg c5] at H
              exact absurd H (by simp)
          · rw [if_neg c4] at H
            exact absurd H (by simp)
        · rw [if_neg c3] at H
          exact absurd H (by simp)
      · rw [if_neg c2] at H
        have c2b0 : decide (x4_1 < (l0.length : Int)) = false := decide_eq_false c2
        clear c2
        by_cases c11 : x3_1.size + 1 ≤ 9223372036854775807
        · rw [if_pos c11] at H
          have c11b0 := eq_true c11
          have c11b1 : decide (x3_1.size + 1 ≤ 9223372036854775807) = true := decide_eq_true c11
          try have c11b2 : (9223372036854775807 < x3_1.size + 1) = False := eq_false (Nat.not_lt.2 c11)
          obtain rfl := Option.some.inj H
          go_wp2
          go_ret
          exact ⟨by first | rfl | (simp [errW_none, errW_some] <;> rfl) | (simp [*, errW_none, errW_some] <;> rfl), by repeat (first | (with_reducible first | exact HB.out | apply below_alloc | apply pw_below_drewN | apply below_drew1) | exact HB.out)⟩
        · rw [if_neg c11] at H
          exact absurd H (by simp)

/-! ### spec_FieldsOrdered: function 26 -/
mutual
def spec_FieldsOrdered.l0 : Nat → List (S54) → List (S54) → Int → Option ((List (S54)))
  | 0, _, _, _ => none
  | k + 1, x0, x3, x4 => if x4 < 17 then (spec_FieldsOrdered.l1 k x0 x3 x4 0) else (some x3)
def spec_FieldsOrdered.l1 : Nat → List (S54) → List (S54) → Int → Int → Option ((List (S54)))
  | 0, _, _, _, _ => none
  | k + 1, x0, x3, x4, x5 => if x5 < (x0.length : Int) then (if 0 ≤ x5 then (if 0 ≤ x4 then (if x4 < 17 then (if ((rd_T54 x0 x5).f0) = (bt (⟨#[83, 67, 77, 68, 72, 80, 112, 113, 87, 115, 116, 99, 100, 110, 70, 76, 82]⟩ : ByteArray) x4) then (if x3.length < 5864062014805 then (spec_FieldsOrdered.l1 k x0 (x3 ++ [(⟨(rd_T54 x0 x5).f0, (rd_T54 x0 x5).f1⟩ : S54)]) x4 (wrap64 (x5 + 1))) else (none)) else (spec_FieldsOrdered.l1 k x0 x3 x4 (wrap64 (x5 + 1)))) else (none)) else (none)) else (none)) else (spec_FieldsOrdered.l0 k x0 x3 (wrap64 (x4 + 1)))
end
def spec_FieldsOrdered.f (k : Nat) (l0 : List (S54)) : Option ((List (S54))) := spec_FieldsOrdered.l0 k l0 ([] : List (S54)) 0
theorem spec_FieldsOrdered.mono_l : ∀ k, (∀ y0 y1 y2, LeO (spec_FieldsOrdered.l0 k y0 y1 y2) (spec_FieldsOrdered.l0 (k + 1) y0 y1 y2)) ∧ (∀ y0 y1 y2 y3, LeO (spec_FieldsOrdered.l1 k y0 y1 y2 y3) (spec_FieldsOrdered.l1 (k + 1) y0 y1 y2 y3))
  | 0 => ⟨fun _ _ _ r h => by simp [spec_FieldsOrdered.l0] at h, fun _ _ _ _ r h => by simp [spec_FieldsOrdered.l1] at h⟩
  | k + 1 => by
    obtain ⟨ih0, ih1⟩ := spec_FieldsOrdered.mono_l k
    refine ⟨?_, ?_⟩
    · intro y0 y1 y2
      unfold spec_FieldsOrdered.l0
      repeat' first
      | (with_reducible exact ih0 _ _ _)
      | (with_reducible exact ih1 _ _ _ _)
      | (with_reducible exact LeO.refl _)
      | (with_reducible exact LeO.none _)
      | (with_reducible refine LeO.ite ?_ ?_)
      | (with_reducible refine LeO.bind ?_ (fun _ => ?_))
      | exact ih0 _ _ _
      | exact ih1 _ _ _ _
      | exact LeO.none _
      | refine LeO.ite ?_ ?_
      | refine LeO.bind ?_ (fun _ => ?_)
    · intro y0 y1 y2 y3
      unfold spec_FieldsOrdered.l1
      repeat' first
      | (with_reducible exact ih0 _ _ _)
      | (with_reducible exact ih1 _ _ _ _)
      | (with_reducible exact LeO.refl _)
      | (with_reducible exact LeO.none _)
      | (with_reducible refine LeO.ite ?_ ?_)
      | (with_reducible refine LeO.bind ?_ (fun _ => ?_))
      | exact ih0 _ _ _
      | exact ih1 _ _ _ _
      | exact LeO.none _
      | refine LeO.ite ?_ ?_
      | refine LeO.bind ?_ (fun _ => ?_)
theorem spec_FieldsOrdered.mono : ∀ a0 k, LeO (spec_FieldsOrdered.f k a0) (spec_FieldsOrdered.f (k + 1) a0) := by
  intro a0 k
  obtain ⟨ih0, ih1⟩ := spec_FieldsOrdered.mono_l k
  unfold spec_FieldsOrdered.f
  repeat' first
      | (with_reducible exact ih0 _ _ _)
      | (with_reducible exact ih1 _ _ _ _)
      | (with_reducible exact LeO.refl _)
      | (with_reducible exact LeO.none _)
      | (with_reducible refine LeO.ite ?_ ?_)
      | (with_reducible refine LeO.bind ?_ (fun _ => ?_))
      | exact ih0 _ _ _
      | exact ih1 _ _ _ _
      | exact LeO.none _
      | refine LeO.ite ?_ ?_
      | refine LeO.bind ?_ (fun _ => ?_)
set_option maxHeartbeats 8000000 in
set_option maxRecDepth 100000 in
theorem spec_FieldsOrdered.calls (k : Nat) (A0 : Option Addr) (c0 : Nat) (l0 : List (S54)) (r : List (S54)) (w : World) (hr0 : Kd.C k54 w A0 l0.length l0) (hc0 : l0.length ≤ c0) (h : spec_FieldsOrdered.f k l0 = some r) :
    Calls Try.prog 26 #[.slice A0 l0.length c0] w fun e w' => ∃ v0_ : Value, e = .returned (v0_) ∧ Kd.R k54 54 w' w.heap.size (fun _ => True) v0_ r ∧ Below w.heap.size w w' := by
  have hu54 := Try.underlying54
  have HR0 := Aside0.mk hr0
  have HC0 := Aside0.mk hc0
  clear hr0 hc0
  have HB := Aside0.mk (Below.refl w.heap.size w)
  have H : (spec_FieldsOrdered.l0 k l0 ([] : List (S54)) 0) = some r := h
  clear h
  have H' := Aside0.mk H
  clear H
  go_enter Try.func26, Try.ntmps26
  go_wp2
  repeat (go_quiet (fail); try go_wp2)
  go_loopg [3, 4] k (fun kq v3 v4 w' => ∃ (x3_1 : List (S54)) (x4_1 : Int), v4 = .int .i64 x4_1 ∧ Aside0 (spec_FieldsOrdered.l0 kq l0 x3_1 x4_1 = some r) ∧ Aside0 (kq ≤ k) ∧ Aside0 (Kd.R k54 54 w' w.heap.size (fun _ => True) v3 x3_1) ∧ Aside0 (Below w.heap.size w w'))
  case atStart => exact ⟨(([] : List (S54))), (0), (by first | rfl | (simp; done) | (simp [*]; done)), H', ⟨Nat.le_refl _⟩, ⟨by first | exact Kd.R_nil _ _ _ _ _ | exact Kd.N_nil _ _ _ _ _ | exact Kd.V_nil _ _ _ _ _ | exact Kd.Q_nil _ _ _ _ _ | exact Kd.S_nil _ _ _ _ _⟩, ⟨by repeat (first | (with_reducible first | exact HB.out | apply below_alloc | apply pw_below_drewN | apply below_drew1) | exact HB.out)⟩⟩
  case round =>
    clear H'
    obtain ⟨x3_1, x4_1, rfl, HA, HK1, HO_3, HB⟩ := hrel
    cases gk with
    | zero => exact absurd HA.out (by simp [spec_FieldsOrdered.l0])
    | succ k1 =>
      have H := HA.out
      clear HA
      simp only [spec_FieldsOrdered.l0] at H
      by_cases c2 : x4_1 < 17
      · rw [if_pos c2] at H
        have c2b0 : decide (x4_1 < 17) = true := decide_eq_true c2
        clear c2
        have H' := Aside0.mk H
        clear H
        go_wp2
        repeat (go_quiet (fail); try go_wp2)
        go_loopg [3, 5] k1 (fun kq v3 v5 w' => ∃ (x3_2 : List (S54)) (x5_2 : Int), v5 = .int .i64 x5_2 ∧ Aside0 (spec_FieldsOrdered.l1 kq l0 x3_2 x4_1 x5_2 = some r) ∧ Aside0 (kq ≤ k1) ∧ Aside0 (Kd.R k54 54 w' w.heap.size (fun _ => True) v3 x3_2) ∧ Aside0 (Below w.heap.size w w'))
        case atStart => exact ⟨(x3_1), (0), (by first | rfl | (simp; done) | (simp [*]; done)), H', ⟨Nat.le_refl _⟩, ⟨by (with_reducible repeat (first | apply Kd.R_alloc | apply Kd.R_drewN | apply Kd.R_drew)); exact HO_3.out⟩, ⟨by repeat (first | (with_reducible first | exact HB.out | apply below_alloc | apply pw_below_drewN | apply below_drew1) | exact HB.out)⟩⟩
        case round =>
          clear H'
          try clear c2
          try clear c2b0
          try clear p2
          obtain ⟨x3_2, x5_2, rfl, HA, HK2, HO_3, HB⟩ := hrel
          cases gk with
          | zero => exact absurd HA.out (by simp [spec_FieldsOrdered.l1])
          | succ k2 =>
            have H := HA.out
            clear HA
            simp only [spec_FieldsOrdered.l1] at H
            by_cases c3 : x5_2 < (l0.length : Int)
            · rw [if_pos c3] at H
              have c3b0 : decide (x5_2 < (l0.length : Int)) = true := decide_eq_true c3
              clear c3
              by_cases c4 : 0 ≤ x5_2
              · rw [if_pos c4] at H
                have c4b0 : decide (0 ≤ x5_2) = true := decide_eq_true c4
                clear c4
                by_cases c5 : 0 ≤ x4_1
                · rw [if_pos c5] at H
                  have c5b0 : decide (0 ≤ x4_1) = true := decide_eq_true c5
                  clear c5
                  by_cases c6 : x4_1 < 17
                  · rw [if_pos c6] at H
                    have c6b0 : decide (x4_1 < 17) = true := decide_eq_true c6
                    clear c6
                    by_cases c8 : ((rd_T54 l0 x5_2).f0) = (bt (⟨#[83, 67, 77, 68, 72, 80, 112, 113, 87, 115, 116, 99, 100, 110, 70, 76, 82]⟩ : ByteArray) x4_1)
                    · rw [if_pos c8] at H
                      have c8b0 : (((rd_T54 l0 x5_2).f0) == (bt (⟨#[83, 67, 77, 68, 72, 80, 112, 113, 87, 115, 116, 99, 100, 110, 70, 76, 82]⟩ : ByteArray) x4_1)) = true := beq_iff_eq.mpr c8
                      have c8b1 : (((rd_T54 l0 x5_2).f0) != (bt (⟨#[83, 67, 77, 68, 72, 80, 112, 113, 87, 115, 116, 99, 100, 110, 70, 76, 82]⟩ : ByteArray) x4_1)) = false := bne_eq_false_iff_eq.mpr c8
                      clear c8
                      by_cases c9 : x3_2.length < 5864062014805
                      · rw [if_pos c9] at H
                        have LMc9 := Aside0.mk c9
                        clear c9
                        obtain ⟨y121, hy121⟩ : ∃ y_ : List (S54), y_ = (x3_2 ++ [(⟨(rd_T54 l0 x5_2).f0, (rd_T54 l0 x5_2).f1⟩ : S54)]) := ⟨_, rfl⟩
                        replace H : (spec_FieldsOrdered.l1 k2 l0 y121 x4_1 (wrap64 (x5_2 + 1))) = some r := by first | (rw [hy121]; with_reducible exact H) | (have H2_ := (Option.bind_some _ _).symm.trans H; rw [hy121]; with_reducible exact H2_) | (have H2_ := (Option.bind_some _ _).symm.trans H; with_reducible exact H2_) | with_reducible exact H | (rw [hy121]; exact H) | exact H
                        have Ny121 := Aside0.mk hy121
                        clear hy121
                        have H' := Aside0.mk H
                        clear H
                        have p119 : 0 ≤ (x5_2 : Int) := of_decide_eq_true (by first | (with_reducible assumption) | assumption)
                        have q119 : x5_2 < (l0.length : Int) := of_decide_eq_true (by first | (with_reducible assumption) | assumption)
                        obtain ⟨ad119, e119, hx119_0, hx119_1⟩ := at_T54 HR0.out x5_2 p119 q119
                        cases e119
                        replace hx119_0 := (HB.out.cell (World.block_lt_of_cell? w _ hx119_0)).trans hx119_0
                        replace hx119_1 := (HB.out.cell (World.block_lt_of_cell? w _ hx119_1)).trans hx119_1
                        replace p119 := eq_true p119
                        replace q119 := eq_true q119
                        have p7 : 0 ≤ (x4_1 : Int) := of_decide_eq_true (by first | (with_reducible assumption) | assumption)
                        have q7 : x4_1 < (17 : Int) := of_decide_eq_true (by first | (with_reducible assumption) | assumption)
                        have hx7 := bt_at (⟨#[83, 67, 77, 68, 72, 80, 112, 113, 87, 115, 116, 99, 100, 110, 70, 76, 82]⟩ : ByteArray) x4_1
                        replace p7 := eq_true p7
                        replace q7 := eq_true q7
                        have p120 : 0 ≤ (x5_2 : Int) := of_decide_eq_true (by first | (with_reducible assumption) | assumption)
                        have q120 : x5_2 < (l0.length : Int) := of_decide_eq_true (by first | (with_reducible assumption) | assumption)
                        obtain ⟨ad120, e120, hx120_0, hx120_1⟩ := at_T54 HR0.out x5_2 p120 q120
                        obtain rfl : ad119 = ad120 := (by injection e120)
                        replace hx120_0 := (HB.out.cell (World.block_lt_of_cell? w _ hx120_0)).trans hx120_0
                        replace hx120_1 := (HB.out.cell (World.block_lt_of_cell? w _ hx120_1)).trans hx120_1
                        replace p120 := eq_true p120
                        replace q120 := eq_true q120
                        go_wp2_with (first | ((with_reducible refine gate_builtin (b := .append) (xs := #[.tmp 24, .tmp 29]) rfl ?_); at_builtin; refine Kd.R_append k54 (w0 := w) w.heap.size rfl (.tmp 24) (.tmp 29) 47 54 (.agg #[(.int .u8 0), (.string ⟨#[]⟩)]) 24 rfl Try.underlying47 info54 rfl (by decide) (by omega) u3 x3_2 (⟨(rd_T54 l0 x5_2).f0, (rd_T54 l0 x5_2).f1⟩ : S54) [.int .u8 ((rd_T54 l0 x5_2).f0), .string ((rd_T54 l0 x5_2).f1)] (fun _ => True) (fun _ => False) rfl rfl ?aP (fun _ hk => hk.elim) ?aF ?aO ?aB ?aS ?aL ?_; (case aP => exact k54_mkM _ _ _ (⟨(rd_T54 l0 x5_2).f0, (rd_T54 l0 x5_2).f1⟩ : S54)); (case aB => exact (by repeat (first | (with_reducible first | exact HB.out | apply below_alloc | apply pw_below_drewN | apply below_drew1) | exact HB.out))); (case aF => exact (fun _ _ => trivial)); (case aO => exact (by (with_reducible repeat (first | apply Kd.R_alloc | apply Kd.R_drewN | apply Kd.R_drew)); exact HO_3.out)); (case aS => exact (below_size (by repeat (first | (with_reducible first | exact HB.out | apply below_alloc | apply pw_below_drewN | apply below_drew1) | exact HB.out)))); (case aL => have := LMc9.out; omega); intro v122 w10 ho hb hg hat; rw [← Ny121.out] at ho; have n0_ := Aside0.mk (hb); have n1_ := Aside0.mk (ho); clear HB; clear HO_3; have HB := n0_; have HO123 := n1_; clear n0_ n1_; clear ho hb hg hat))
                        repeat (go_quiet (first | ((with_reducible refine gate_builtin (b := .append) (xs := #[.tmp 24, .tmp 29]) rfl ?_); at_builtin; refine Kd.R_append k54 (w0 := w) w.heap.size rfl (.tmp 24) (.tmp 29) 47 54 (.agg #[(.int .u8 0), (.string ⟨#[]⟩)]) 24 rfl Try.underlying47 info54 rfl (by decide) (by omega) u3 x3_2 (⟨(rd_T54 l0 x5_2).f0, (rd_T54 l0 x5_2).f1⟩ : S54) [.int .u8 ((rd_T54 l0 x5_2).f0), .string ((rd_T54 l0 x5_2).f1)] (fun _ => True) (fun _ => False) rfl rfl ?aP (fun _ hk => hk.elim) ?aF ?aO ?aB ?aS ?aL ?_; (case aP => exact k54_mkM _ _ _ (⟨(rd_T54 l0 x5_2).f0, (rd_T54 l0 x5_2).f1⟩ : S54)); (case aB => exact (by repeat (first | (with_reducible first | exact HB.out | apply below_alloc | apply pw_below_drewN | apply below_drew1) | exact HB.out))); (case aF => exact (fun _ _ => trivial)); (case aO => exact (by (with_reducible repeat (first | apply Kd.R_alloc | apply Kd.R_drewN | apply Kd.R_drew)); exact HO_3.out)); (case aS => exact (below_size (by repeat (first | (with_reducible first | exact HB.out | apply below_alloc | apply pw_below_drewN | apply below_drew1) | exact HB.out)))); (case aL => have := LMc9.out; omega); intro v122 w10 ho hb hg hat; rw [← Ny121.out] at ho; have n0_ := Aside0.mk (hb); have n1_ := Aside0.mk (ho); clear HB; clear HO_3; have HB := n0_; have HO123 := n1_; clear n0_ n1_; clear ho hb hg hat)); try go_wp2_with (first | ((with_reducible refine gate_builtin (b := .append) (xs := #[.tmp 24, .tmp 29]) rfl ?_); at_builtin; refine Kd.R_append k54 (w0 := w) w.heap.size rfl (.tmp 24) (.tmp 29) 47 54 (.agg #[(.int .u8 0), (.string ⟨#[]⟩)]) 24 rfl Try.underlying47 info54 rfl (by decide) (by omega) u3 x3_2 (⟨(rd_T54 l0 x5_2).f0, (rd_T54 l0 x5_2).f1⟩ : S54) [.int .u8 ((rd_T54 l0 x5_2).f0), .string ((rd_T54 l0 x5_2).f1)] (fun _ => True) (fun _ => False) rfl rfl ?aP (fun _ hk => hk.elim) ?aF ?aO ?aB ?aS ?aL ?_; (case aP => exact k54_mkM _ _ _ (⟨(rd_T54 l0 x5_2).f0, (rd_T54 l0 x5_2).f1⟩ : S54)); (case aB => exact (by repeat (first | (with_reducible first | exact HB.out | apply below_alloc | apply pw_below_drewN | apply below_drew1) | exact HB.out))); (case aF => exact (fun _ _ => trivial)); (case aO => exact (by (with_reducible repeat (first | apply Kd.R_alloc | apply Kd.R_drewN | apply Kd.R_drew)); exact HO_3.out)); (case aS => exact (below_size (by repeat (first | (with_reducible first | exact HB.out | apply below_alloc | apply pw_below_drewN | apply below_drew1) | exact HB.out)))); (case aL => have := LMc9.out; omega); intro v122 w10 ho hb hg hat; rw [← Ny121.out] at ho; have n0_ := Aside0.mk (hb); have n1_ := Aside0.mk (ho); clear HB; clear HO_3; have HB := n0_; have HO123 := n1_; clear n0_ n1_; clear ho hb hg hat)))
                        go_roundg k2
                        case measure => have := HK1.out; have := HK2.out; omega
                        case rel => exact ⟨(y121), (wrap64 (x5_2 + 1)), (by first | rfl | (simp; done) | (simp [*]; done)), H', ⟨by have := HK1.out; have := HK2.out; omega⟩, ⟨by (with_reducible repeat (first | apply Kd.R_alloc | apply Kd.R_drewN | apply Kd.R_drew)); exact HO123.out⟩, ⟨by repeat (first | (with_reducible first | exact HB.out | apply below_alloc | apply pw_below_drewN | apply below_drew1) | exact HB.out)⟩⟩
                      · rw [if_neg c9] at H
                        exact absurd H (by simp)
                    · rw [if_neg c8] at H
                      have c8b0 : (((rd_T54 l0 x5_2).f0) == (bt (⟨#[83, 67, 77, 68, 72, 80, 112, 113, 87, 115, 116, 99, 100, 110, 70, 76, 82]⟩ : ByteArray) x4_1)) = false := beq_eq_false_iff_ne.mpr c8
                      have c8b1 : (((rd_T54 l0 x5_2).f0) != (bt (⟨#[83, 67, 77, 68, 72, 80, 112, 113, 87, 115, 116, 99, 100, 110, 70, 76, 82]⟩ : ByteArray) x4_1)) = true := bne_iff_ne.mpr c8
                      have H' := Aside0.mk H
                      clear H
                      have p119 : 0 ≤ (x5_2 : Int) := of_decide_eq_true (by first | (with_reducible assumption) | assumption)
                      have q119 : x5_2 < (l0.length : Int) := of_decide_eq_true (by first | (with_reducible assumption) | assumption)
                      obtain ⟨ad119, e119, hx119_0, hx119_1⟩ := at_T54 HR0.out x5_2 p119 q119
                      cases e119
                      replace hx119_0 := (HB.out.cell (World.block_lt_of_cell? w _ hx119_0)).trans hx119_0
                      replace hx119_1 := (HB.out.cell (World.block_lt_of_cell? w _ hx119_1)).trans hx119_1
                      replace p119 := eq_true p119
                      replace q119 := eq_true q119
                      have p7 : 0 ≤ (x4_1 : Int) := of_decide_eq_true (by first | (with_reducible assumption) | assumption)
                      have q7 : x4_1 < (17 : Int) := of_decide_eq_true (by first | (with_reducible assumption) | assumption)
                      have hx7 := bt_at (⟨#[83, 67, 77, 68, 72, 80, 112, 113, 87, 115, 116, 99, 100, 110, 70, 76, 82]⟩ : ByteArray) x4_1
                      replace p7 := eq_true p7
                      replace q7 := eq_true q7
                      go_wp2
                      repeat (go_quiet (fail); try go_wp2)
                      go_roundg k2
                      case measure => have := HK1.out; have := HK2.out; omega
                      case rel => exact ⟨(x3_2), (wrap64 (x5_2 + 1)), (by first | rfl | (simp; done) | (simp [*]; done)), H', ⟨by have := HK1.out; have := HK2.out; omega⟩, ⟨by (with_reducible repeat (first | apply Kd.R_alloc | apply Kd.R_drewN | apply Kd.R_drew)); exact HO_3.out⟩, ⟨by repeat (first | (with_reducible first | exact HB.out | apply below_alloc | apply pw_below_drewN | apply below_drew1) | exact HB.out)⟩⟩
                  · rw [if_neg c6] at H
                    exact absurd H (by simp)
                · rw [if_neg c5] at H
                  exact absurd H (by simp)
              · rw [if_neg c4] at H
                exact absurd H (by simp)
            · rw [if_neg c3] at H
              have c3b0 : decide (x5_2 < (l0.length : Int)) = false := decide_eq_false c3
              clear c3
              have H' := Aside0.mk H
              clear H
              go_wp2
              repeat (go_quiet (fail); try go_wp2)
              go_roundg k2
              case measure => have := HK1.out; have := HK2.out; omega
              case rel => exact ⟨(x3_2), (wrap64 (x4_1 + 1)), (by first | rfl | (simp; done) | (simp [*]; done)), H', ⟨by have := HK1.out; have := HK2.out; omega⟩, ⟨by (with_reducible repeat (first | apply Kd.R_alloc | apply Kd.R_drewN | apply Kd.R_drew)); exact HO_3.out⟩, ⟨by repeat (first | (with_reducible first | exact HB.out | apply below_alloc | apply pw_below_drewN | apply below_drew1) | exact HB.out)⟩⟩
      · rw [if_neg c2] at H
        have c2b0 : decide (x4_1 < 17) = false := decide_eq_false c2
        clear c2
        obtain rfl := Option.some.inj H
        go_wp2
        repeat (go_quiet (fail); try go_wp2)
        go_ret
        exact ⟨_, by first | rfl | (simp [errW_none, errW_some] <;> rfl) | (simp [*, errW_none, errW_some] <;> rfl), by (with_reducible repeat (first | apply Kd.R_alloc | apply Kd.R_drewN | apply Kd.R_drew)); exact HO_3.out, by repeat (first | (with_reducible first | exact HB.out | apply below_alloc | apply pw_below_drewN | apply below_drew1) | exact HB.out)⟩

end Go.Proofs.Ythcikkjjegfblab.P
