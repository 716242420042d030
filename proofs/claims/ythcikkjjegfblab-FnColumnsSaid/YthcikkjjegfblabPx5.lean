-- Written by the program wip/myprint.py of this session, over the kit's print of the translation. Lean checks it.
import Derived.Laws.Pointers
import Derived.Recover
import Derived.Defers
import Derived.Test.YthcikkjjegfblabPx0
import Derived.Test.YthcikkjjegfblabPx1
import Derived.Test.YthcikkjjegfblabPx3
import Derived.Test.YthcikkjjegfblabPx4
namespace Go.Proofs.Ythcikkjjegfblab.P
open Go.RowKit Go.Proofs.YthcikkjjegfblabW.PrintWords Go.Proofs.YthcikkjjegfblabW.PrintLast Go.Proofs.YthcikkjjegfblabW.PrintMore
attribute [local go_sem] max2_int min2_int max_two min_two max_three min_three max_four min_four   -- for this text's walks alone
set_option linter.unusedVariables false
set_option linter.unusedSimpArgs false

/-! ### impl_PortalColumns: function 21 -/
def impl_PortalColumns.f (k : Nat) (a0 : ByteArray) : Option ((List (S43)) × Bool) := if a0.size ≤ 1000000000000 then (decBody k (bytesOf a0)).bind fun cols => if cols.length ≤ 70000 then (impl_columns.f k cols).bind fun l => some (l, true) else none else none
theorem impl_PortalColumns.mono (k : Nat) (a0 : ByteArray) : LeO (impl_PortalColumns.f k a0) (impl_PortalColumns.f (k + 1) a0) :=
  LeO.ite (LeO.bind (decBody.mono _ _) (fun _ => LeO.ite (LeO.bind (impl_columns.mono _ _) (fun _ => LeO.refl _)) (LeO.none _))) (LeO.none _)
theorem impl_PortalColumns.idle (p q : Addr) (w : World) :
    CallsD Try.prog 48 #[.pointer (some p), .pointer (some q)] .returning w fun e u' w' => e = .returned (.tuple #[]) ∧ u' = .returning ∧ w' = w := by
  refine callsD_of_wpS Try.func48 rfl fun c₀ cs hu => ?_
  apply wpS_seq
  apply wpS_region
  simp [wpOpsS, go_sem, recoverD, hu, Try.ntmps48, Exit.thenS]
  refine wpS_cond (t := false) (by simp [Act.eval, Array.replicate]) ?_
  simp only [Bool.false_eq_true, if_false]
  refine wpS_of_wp (wp_skip ?_)
  cases c₀
  simp_all [bodyPostS, results, Try.results48]
set_option maxHeartbeats 4000000 in
set_option maxRecDepth 100000 in
theorem impl_PortalColumns.calls (k : Nat) (a0 : ByteArray) (r1 : List (S43)) (r2 : Bool) (w : World) (h : impl_PortalColumns.f k a0 = some (r1, r2)) :
    Calls Try.prog 21 #[.string a0] w fun e w' => ∃ v0_ : Value, e = .returned (.tuple #[v0_, .bool r2]) ∧ Kd.R k43 43 w' w.heap.size (fun _ => True) v0_ r1 ∧ Below w.heap.size w w' := by
  unfold impl_PortalColumns.f at h
  by_cases hsz : a0.size ≤ 1000000000000
  case neg => rw [if_neg hsz] at h; cases h
  rw [if_pos hsz] at h
  obtain ⟨cols, hD, h'⟩ := Option.bind_eq_some_iff.mp h
  clear h
  have h := h'
  clear h'
  by_cases hcl : cols.length ≤ 70000
  case neg => rw [if_neg hcl] at h; cases h
  rw [if_pos hcl] at h
  obtain ⟨l, hl, hr⟩ := Option.bind_eq_some_iff.mp h
  simp only [Option.some.injEq, Prod.mk.injEq] at hr
  obtain ⟨rfl, rfl⟩ := hr
  clear h
  have hu := Try.underlying38
  have hmf : ∀ (fn : Fn) (first cap : Array Value) (w : World), (Instr.makeFunc fn first cap).run Try.prog w = .ok (.func fn first cap) w := fun _ _ _ _ => rfl
  obtain ⟨W0, hW0⟩ : ∃ W0, W0 = (w.alloc (.cells #[.slice none 0 0] 38 (0, 0))).alloc (.cells #[.bool false] 4 (0, 0)) := ⟨_, rfl⟩
  have hL0 : W0.heap[w.heap.size]? = some (.cells #[.slice none 0 0] 38 (0, 0)) := by
    rw [hW0]
    exact blk_alloc (by exact heap_alloc_new w _) _
  have hO0 : W0.heap[w.heap.size + 1]? = some (.cells #[.bool false] 4 (0, 0)) := by
    rw [hW0]
    have := heap_alloc_new (w.alloc (.cells #[.slice none 0 0] 38 (0, 0))) (.cells #[.bool false] 4 (0, 0))
    simpa using this
  have hB0 : Below w.heap.size w W0 := by rw [hW0]; exact below_alloc (below_alloc (Below.refl _ _) _) _
  have hz0 : W0.heap.size = w.heap.size + 2 := by rw [hW0]; simp
  have kb := print_bytes (P := Try.prog) 9 58 5 Try.underlying9 Try.underlying58 Try.underlying5 a0 W0
  have hC : Kd.C (Kd.int .u8) (Lib.bytesWorld W0 5 a0) (some ⟨W0.heap.size, 0, none⟩) (bytesOf a0).length (bytesOf a0) := by rw [bytesOf_length]; exact Kd.C_of_reads (d := (0 : Int)) (h1 := fun _ => rfl) (bytes_reads W0 5 a0 (by omega))
  have hBB : Below W0.heap.size W0 (Lib.bytesWorld W0 5 a0) := bytes_below (Below.refl W0.heap.size W0) (Nat.le_refl _) 5 a0
  have hpe := pq_PortalColumns.calls k (some ⟨W0.heap.size, 0, none⟩) (grownCap W0 a0.size 0 5) (bytesOf a0) cols (Lib.bytesWorld W0 5 a0) hC (by rw [bytesOf_length]; exact grownCap_ge _ _ _ _) (bytesOf_bytes a0) hD hcl
  rw [bytesOf_length] at hpe
  have HL0 := Aside0.mk hL0
  have HO0 := Aside0.mk hO0
  have HB0 := Aside0.mk hB0
  have HZ0 := Aside0.mk hz0
  have HBB := Aside0.mk hBB
  have HCO := Aside0.mk hl
  clear hL0 hO0 hB0 hD hC hBB hsz hl hcl
  rw [hz0] at kb hpe
  clear hz0
  subst hW0
  go_enter_defers Try.func21, Try.ntmps21
  go_wp2_with fail
  refine hpe.mono ?_
  rintro e w1 ⟨v, rfl, h1, h3⟩
  obtain ⟨A2, c2, e2, hc2, HC2⟩ := Kd.R_reads h1
  subst e2
  have hB1 := Below.trans HBB.out (h3.mono HBB.out.size)
  have HL1 := Aside0.mk ((hB1.block w.heap.size (by rw [HZ0.out]; omega)).trans HL0.out)
  have HO1 := Aside0.mk ((hB1.block (w.heap.size + 1) (by rw [HZ0.out]; omega)).trans HO0.out)
  have HB1 := Aside0.mk (Below.trans HB0.out (hB1.mono HB0.out.size))
  have HW1 : Aside0 (w.heap.size + 2 ≤ w1.heap.size) := ⟨by have := hB1.size; rw [HZ0.out] at this; exact this⟩
  have HC3 := Aside0.mk HC2
  have HC4 := Aside0.mk hc2
  clear hpe kb h1 h3 hB1 HL0 HO0 HB0 HZ0 HBB HC2 hc2
  go_wp2_with fail
  refine (impl_columns.calls k A2 c2 cols l w1 HC3.out HC4.out HCO.out).mono ?_
  rintro e w2 ⟨v2, rfl, hR, hb2⟩
  obtain ⟨A7, c7, e7, hc7, HC7⟩ := Kd.R_reads hR
  subst e7
  have hL := (hb2.block _ (blk_lt HL1.out)).trans HL1.out
  have hO := (hb2.block _ (blk_lt HO1.out)).trans HO1.out
  have HL := Aside0.mk hL
  have HO := Aside0.mk hO
  have HR := Aside0.mk (Kd.R_lower hR HW1.out)
  have HB := Aside0.mk (below_step HB1.out hb2)
  have x1 := blk_cell hL 0
  have y1 := blk_frozen hL 0
  have HLs := fun u => blk_set hL 0 u
  have z1 := fun u => (blk_cell (blk_far hO (p := ⟨w.heap.size, 0, none⟩) (by show w.heap.size + 1 ≠ w.heap.size; omega) u) 0)
  have z2 := fun u => (blk_frozen (blk_far hO (p := ⟨w.heap.size, 0, none⟩) (by show w.heap.size + 1 ≠ w.heap.size; omega) u) 0)
  clear hL hO hR hb2 hc7 HC7 HL1 HO1 HB1
  go_wp2
  refine leaves_cons (f := 48) (args := #[.pointer (some ⟨w.heap.size, 0, none⟩), .pointer (some ⟨w.heap.size + 1, 0, none⟩)]) (by simp) (by simp [go_sem]) ?_
  refine (impl_PortalColumns.idle _ _ _).mono ?_
  rintro e u' w'' ⟨rfl, rfl, rfl⟩
  have hL2 := blk_far (HLs (.slice A7 l.length c7)) (p := ⟨w.heap.size + 1, 0, none⟩) (by show w.heap.size ≠ w.heap.size + 1; omega) (.bool true)
  have hO2 := blk_set (blk_far HO.out (p := ⟨w.heap.size, 0, none⟩) (by show w.heap.size + 1 ≠ w.heap.size; omega) (.slice A7 l.length c7)) 0 (.bool true)
  have fL := blk_cell hL2 0
  have fO := blk_cell hO2 0
  have hR1 := Kd.R_set HR.out HL.out (by decide) 0 (.slice A7 l.length c7)
  have hR2 := Kd.R_set hR1 (blk_far HO.out (p := ⟨w.heap.size, 0, none⟩) (by show w.heap.size + 1 ≠ w.heap.size; omega) (.slice A7 l.length c7)) (by decide) 0 (.bool true)
  simp [Leaves, settle, results, Try.results21, go_sem, fL, fO]
  exact ⟨Kd.R_lower hR2 (by omega), below_set (below_set HB.out (Nat.le_refl _)) (by omega)⟩

/-! ### laws_FnColumns: function 6 -/
abbrev ICol := S43
def plainC (c : ICol) : ICol := ⟨c.f0, c.f1, c.f2, c.f3, 0⟩
noncomputable def laws_FnColumns.e0 (k : Nat) (l0 : List ICol) : Option Bool :=
  (spec_ColumnsBody.f k l0).bind fun body => (impl_StatementColumns.f k body).bind fun a => (impl_PortalColumns.f k body).bind fun b => @ite _ (a = (l0.map plainC, true) ∧ b = (l0, true)) (Classical.propDecidable _) (some true) none
noncomputable def laws_FnColumns.l0 : Nat → List ICol → Int → Option (Bool)
  | 0, _, _ => none
  | k + 1, x0, i => if i < (x0.length : Int) then (if 0 ≤ i then ((spec_ColumnRight.f k (rd_T43 x0 i).f0 (rd_T43 x0 i).f1 (rd_T43 x0 i).f2 (rd_T43 x0 i).f3 (rd_T43 x0 i).f4).bind fun t => if t = true then laws_FnColumns.l0 k x0 (wrap64 (i + 1)) else some true) else none) else laws_FnColumns.e0 k x0
noncomputable def laws_FnColumns.f (k : Nat) (l0 : List ICol) : Option (Bool) := (laws_zzFits9.f k l0).bind fun t => if t = true then (if (l0.length : Int) > 20 then some true else laws_FnColumns.l0 k l0 0) else some true
set_option maxHeartbeats 8000000 in
set_option maxRecDepth 100000 in
theorem laws_FnColumns.calls (k : Nat) (A0 : Option Addr) (c0 : Nat) (l0 : List ICol) (r : Bool) (w : World) (hr0 : Kd.C k43 w A0 l0.length l0) (hc0 : l0.length ≤ c0) (h : laws_FnColumns.f k l0 = some r) :
    Calls Try.prog 6 #[.slice A0 l0.length c0] w fun e w' => e = .returned (.bool r) ∧ Below w.heap.size w w' := by
  have hu43 := Try.underlying43
  have HR := Aside0.mk hr0
  have HC := Aside0.mk hc0
  unfold laws_FnColumns.f at h
  obtain ⟨t, hZ, H⟩ := Option.bind_eq_some_iff.mp h
  have hcz := laws_zzFits9.calls k _ _ l0 t w hr0 hc0 hZ
  clear h hZ hr0 hc0
  have HH := Aside0.mk H
  clear H
  go_enter Try.func6, Try.ntmps6
  go_wp2_with fail
  refine hcz.mono ?_
  rintro e w1 ⟨rfl, hb1⟩
  clear hcz
  have HB := Aside0.mk hb1
  clear hb1
  by_cases ht : t = true
  case neg =>
    have htf : t = false := by simpa using ht
    subst htf
    have H := HH.out
    simp only [Bool.false_eq_true, if_false, Option.some.injEq] at H
    subst H
    go_wp2_with fail
    go_ret
    exact ⟨rfl, HB.out⟩
  subst ht
  replace HH := HH.out
  rw [if_pos rfl] at HH
  by_cases h20 : (l0.length : Int) > 20
  · rw [if_pos h20] at HH
    simp only [Option.some.injEq] at HH
    subst HH
    have h20b : decide ((l0.length : Int) > 20) = true := decide_eq_true h20
    have h20c : (20 < l0.length) = True := eq_true (by omega)
    replace h20 := eq_true h20
    go_wp2_with fail
    go_ret
    exact ⟨rfl, HB.out⟩
  rw [if_neg h20] at HH
  have h20b : decide ((l0.length : Int) > 20) = false := decide_eq_false h20
  have h20c : (20 < l0.length) = False := eq_false (by omega)
  have H20 : Aside0 (l0.length ≤ 20) := ⟨by omega⟩
  have HE := Aside0.mk HH
  replace h20 := eq_false h20
  clear HH
  go_wp2_with fail
  clear h20 h20b h20c
  go_loopg [3] k (fun kq v3 w' => ∃ (i : Int), v3 = .int .i64 i ∧ Aside0 (laws_FnColumns.l0 kq l0 i = some r) ∧ Aside0 (kq ≤ k) ∧ Aside0 (Below w.heap.size w w'))
  case atStart => exact ⟨0, rfl, HE, ⟨Nat.le_refl _⟩, HB⟩
  case round =>
    clear HE HB
    obtain ⟨i, rfl, HA, HK, HB⟩ := hrel
    obtain ⟨k1, hk1⟩ : ∃ m, gk = m + 1 := by
      rcases Nat.eq_zero_or_pos gk with hg | hg
      · have := HA.out; rw [hg, laws_FnColumns.l0] at this; cases this
      · exact ⟨gk - 1, by omega⟩
    have H := HA.out
    rw [hk1, laws_FnColumns.l0] at H
    have HK1 : Aside0 (gk = k1 + 1) := ⟨hk1⟩
    clear HA hk1
    by_cases c1 : i < (l0.length : Int)
    · rw [if_pos c1] at H
      by_cases c2 : 0 ≤ i
      case neg => rw [if_neg c2] at H; cases H
      rw [if_pos c2] at H
      obtain ⟨q, hq, H2⟩ := Option.bind_eq_some_iff.mp H
      clear H
      have c1b : decide (i < (l0.length : Int)) = true := decide_eq_true c1
      have c2b : decide (0 ≤ i) = true := decide_eq_true c2
      obtain ⟨ad, e1, x0, x1, x2, x3, x4⟩ := at_T43 HR.out i c2 c1
      cases e1
      replace x0 := (HB.out.cell (World.block_lt_of_cell? w _ x0)).trans x0
      replace x1 := (HB.out.cell (World.block_lt_of_cell? w _ x1)).trans x1
      replace x2 := (HB.out.cell (World.block_lt_of_cell? w _ x2)).trans x2
      replace x3 := (HB.out.cell (World.block_lt_of_cell? w _ x3)).trans x3
      replace x4 := (HB.out.cell (World.block_lt_of_cell? w _ x4)).trans x4
      have hcq := fun W => spec_ColumnRight.calls k1 _ _ _ _ _ q W hq
      have HH := Aside0.mk H2
      clear H2 hq
      go_wp2_with fail
      refine (hcq wr).mono ?_
      rintro e w2 ⟨rfl, hd⟩
      have HB2 := Aside0.mk (below_step HB.out hd)
      clear hd hcq HB x0 x1 x2 x3 x4
      have hwr : wrap64 (i + 1) = i + 1 := by have := H20.out; unfold wrap64; omega
      by_cases hq : q = true
      · subst hq
        have H := HH.out
        rw [if_pos rfl, hwr] at H
        have HN := Aside0.mk H
        clear H HH
        go_wp2_with fail
        go_roundg k1
        case measure => have := HK1.out; omega
        case rel => exact ⟨i + 1, by first | rfl | rw [hwr], HN, ⟨by have := HK1.out; have := HK.out; omega⟩, HB2⟩
      · have hqf : q = false := by simpa using hq
        subst hqf
        have H := HH.out
        simp only [Bool.false_eq_true, if_false, Option.some.injEq] at H
        subst H
        clear HH
        go_wp2_with fail
        go_ret
        exact ⟨rfl, HB2.out⟩
    · rw [if_neg c1] at H
      have c1b : decide (i < (l0.length : Int)) = false := decide_eq_false c1
      unfold laws_FnColumns.e0 at H
      obtain ⟨body, hb0, H1⟩ := Option.bind_eq_some_iff.mp H
      obtain ⟨⟨a, oka⟩, ha, H2⟩ := Option.bind_eq_some_iff.mp H1
      obtain ⟨⟨b, okb⟩, hb, H3⟩ := Option.bind_eq_some_iff.mp H2
      clear H H1 H2
      by_cases hab : ((a, oka) = (l0.map plainC, true)) ∧ ((b, okb) = (l0, true))
      case neg => rw [if_neg hab] at H3; cases H3
      rw [if_pos hab] at H3
      simp only [Option.some.injEq] at H3
      subst H3
      obtain ⟨e1, e2⟩ := hab
      simp only [Prod.mk.injEq] at e1 e2
      obtain ⟨e1, rfl⟩ := e1
      obtain ⟨rfl, rfl⟩ := e2
      have hal : a.length = b.length := by rw [e1, List.length_map]
      have hat : ∀ j, j < b.length → rd_T43 a (j : Int) = plainC (rd_T43 b (j : Int)) := by
        intro j hj
        rw [e1]
        simp [rd_T43, List.getD_eq_getElem?_getD, hj]
      have HAT := Aside0.mk hat
      have HAL := Aside0.mk hal
      have hcb := spec_ColumnsBody.calls k1 A0 c0 b body wr (Kd.C_below HR.out HB.out) HC.out hb0
      have hca := fun W => impl_StatementColumns.calls k1 body a true W ha
      have hcp := fun W => impl_PortalColumns.calls k1 body b true W hb
      clear e1 hat hal hb0 ha hb c1
      go_wp2_with fail
      refine hcb.mono ?_
      rintro e w2 ⟨rfl, hb2⟩
      have HB2 := Aside0.mk (below_step HB.out hb2)
      clear hb2 hcb HB c1b
      go_wp2_with fail
      refine (hca w2).mono ?_
      rintro e w3 ⟨va, rfl, hRa, hb3⟩
      obtain ⟨A5, c5, e5, hc5, HC5⟩ := Kd.R_reads hRa
      rw [HAL.out] at e5
      subst e5
      have HB3 := Aside0.mk (below_step HB2.out hb3)
      have HC5' := Aside0.mk HC5
      clear hRa hb3 hc5 HC5 hca HB2
      go_wp2_with fail
      refine (hcp w3).mono ?_
      rintro e w4 ⟨vb, rfl, hRb, hb4⟩
      obtain ⟨A6, c6, e6, hc6, HC6⟩ := Kd.R_reads hRb
      subst e6
      have HB4 := Aside0.mk (below_step HB3.out hb4)
      have HC7 := Aside0.mk (Kd.C_below HC5'.out hb4)
      have HC6' := Aside0.mk HC6
      have HC8 := Aside0.mk (Kd.C_below HR.out HB4.out)
      clear hRb hb4 hc6 HC6 hcp HB3 HC5'
      go_wp2_with fail
      go_loopg [9] (b.length + 1) (fun kq v9 w' => ∃ i : Nat, v9 = .int .i64 (i : Int) ∧ Aside0 (i ≤ b.length) ∧ Aside0 (kq + i = b.length + 1) ∧ Aside0 (Below w4.heap.size w4 w'))
      case atStart => exact ⟨0, rfl, ⟨Nat.zero_le _⟩, ⟨rfl⟩, ⟨Below.refl _ _⟩⟩
      case round =>
        obtain ⟨j, rfl, HI, HJ, HV⟩ := hrel
        by_cases cj : j < b.length
        · have d1 : ((j : Int) < (b.length : Int)) = True := eq_true (by omega)
          have d1b : decide ((j : Int) < (b.length : Int)) = true := decide_eq_true (by omega)
          have d2 : decide (0 ≤ (j : Int)) = true := decide_eq_true (by omega)
          have hp := HAT.out j cj
          have hwr2 : wrap64 ((j : Int) + 1) = ((j + 1 : Nat) : Int) := by have := H20.out; unfold wrap64; omega
          obtain ⟨ad, q1, x0, x1, x2, x3, x4⟩ := at_T43 HC8.out (j : Int) (by omega) (by omega)
          obtain ⟨ae, q2, y0, y1, y2, y3, y4⟩ := at_T43 HC7.out (j : Int) (by omega) (by have := HAL.out; omega)
          obtain ⟨af, q3, z0, z1, z2, z3, z4⟩ := at_T43 HC6'.out (j : Int) (by omega) (by omega)
          rw [hp] at y0 y1 y2 y3 y4
          obtain ⟨c, hc⟩ : ∃ c, c = rd_T43 b (j : Int) := ⟨_, rfl⟩
          rw [← hc] at x0 x1 x2 x3 x4 y0 y1 y2 y3 y4 z0 z1 z2 z3 z4
          simp only [plainC, Int.toNat_natCast] at x0 x1 x2 x3 x4 y0 y1 y2 y3 y4 z0 z1 z2 z3 z4
          clear hp hc
          subst q1 q2 q3
          obtain ⟨V, hV⟩ : ∃ V, V = wr.alloc (.cells #[.string c.f0, .int .u32 c.f1, .int .i64 c.f2, .int .i64 c.f3, .int .i64 0] 43 (0, 0)) := ⟨_, rfl⟩
          have hBV : Below w4.heap.size w4 V := by rw [hV]; exact below_alloc HV.out _
          have hP : V.heap[wr.heap.size]? = some (.cells #[.string c.f0, .int .u32 c.f1, .int .i64 c.f2, .int .i64 c.f3, .int .i64 0] 43 (0, 0)) := by rw [hV]; exact heap_alloc_new wr _
          have p0 := blk_cell hP 0
          have p1 := blk_cell hP 1
          have p2 := blk_cell hP 2
          have p3 := blk_cell hP 3
          have p4 := blk_cell hP 4
          have u0 := (HV.out.cell (World.block_lt_of_cell? w4 _ x0)).trans x0
          have u1 := (HV.out.cell (World.block_lt_of_cell? w4 _ x1)).trans x1
          have u2 := (HV.out.cell (World.block_lt_of_cell? w4 _ x2)).trans x2
          have u3 := (HV.out.cell (World.block_lt_of_cell? w4 _ x3)).trans x3
          have u4 := (HV.out.cell (World.block_lt_of_cell? w4 _ x4)).trans x4
          replace x0 := (hBV.cell (World.block_lt_of_cell? w4 _ x0)).trans x0
          replace x1 := (hBV.cell (World.block_lt_of_cell? w4 _ x1)).trans x1
          replace x2 := (hBV.cell (World.block_lt_of_cell? w4 _ x2)).trans x2
          replace x3 := (hBV.cell (World.block_lt_of_cell? w4 _ x3)).trans x3
          replace x4 := (hBV.cell (World.block_lt_of_cell? w4 _ x4)).trans x4
          replace y0 := (hBV.cell (World.block_lt_of_cell? w4 _ y0)).trans y0
          replace y1 := (hBV.cell (World.block_lt_of_cell? w4 _ y1)).trans y1
          replace y2 := (hBV.cell (World.block_lt_of_cell? w4 _ y2)).trans y2
          replace y3 := (hBV.cell (World.block_lt_of_cell? w4 _ y3)).trans y3
          replace y4 := (hBV.cell (World.block_lt_of_cell? w4 _ y4)).trans y4
          replace z0 := (hBV.cell (World.block_lt_of_cell? w4 _ z0)).trans z0
          replace z1 := (hBV.cell (World.block_lt_of_cell? w4 _ z1)).trans z1
          replace z2 := (hBV.cell (World.block_lt_of_cell? w4 _ z2)).trans z2
          replace z3 := (hBV.cell (World.block_lt_of_cell? w4 _ z3)).trans z3
          replace z4 := (hBV.cell (World.block_lt_of_cell? w4 _ z4)).trans z4
          have HBV := Aside0.mk hBV
          have HVV := Aside0.mk hV
          clear hBV hP hV
          go_wp2_with fail
          rw [← HVV.out]
          clear u0 u1 u2 u3 u4
          go_quiet (fail)
          go_wp2
          go_roundg (b.length - j)
          case measure => have := HJ.out; omega
          case rel => exact ⟨j + 1, by first | rw [hwr2] | go_num, ⟨by omega⟩, ⟨by have := HJ.out; omega⟩, ⟨by repeat (first | exact HBV.out | apply pw_below_drewN | apply below_drew1)⟩⟩
        · have hje : j = b.length := by have := HI.out; omega
          subst hje
          clear cj HI HJ
          go_wp2_with fail
          go_ret
          exact ⟨rfl, below_step HB4.out HV.out⟩

end Go.Proofs.Ythcikkjjegfblab.P
