-- Written by the program wip/myprint.py of this session, over the kit's print of the translation. Lean checks it.
import Derived.Test.YthcikkjjegfblabPx0
import Derived.Test.YthcikkjjegfblabPx2
namespace Go.Proofs.Ythcikkjjegfblab.P
open Go.RowKit Go.Proofs.YthcikkjjegfblabW.PrintWords Go.Proofs.YthcikkjjegfblabW.PrintLast Go.Proofs.YthcikkjjegfblabW.PrintMore
attribute [local go_sem] max2_int min2_int max_two min_two max_three min_three max_four min_four   -- for this text's walks alone
set_option linter.unusedVariables false
set_option linter.unusedSimpArgs false

/-! ### pq_readBuf_int16: function 58 -/
set_option maxHeartbeats 1000000 in
set_option maxRecDepth 100000 in
theorem pq_readBuf_int16.calls (g : Nat) (f : List Int) (w0 w : World) (hI : IsRd w0 w g f) (hB : Below w0.heap.size w0 w) (hn : 2 ≤ f.length) :
    Calls Try.prog 58 #[.pointer (some ⟨g, 0, none⟩)] w fun e w' => e = .returned (.int .i64 (rd f 0 * 256 + rd f 1)) ∧ IsRd w0 w' g (f.drop 2) ∧ Below w0.heap.size w0 w' ∧ KeepBut w w' g none := by
  obtain ⟨A, c, hb, hg, hc, hr, hby⟩ := hI
  have hb0 := hby.rd 0; have hb1 := hby.rd 1; have hb2 := hby.rd 2; have hb3 := hby.rd 3
  have hw : IntKind.i64.wrap (rd f 0 * 256 + rd f 1) = rd f 0 * 256 + rd f 1 := by rw [IntKind.wrap_i64]; omega
  have hcell : w.cell? ⟨g, 0, none⟩ = some (.slice A f.length c) := (blk_cell hb 0).trans rfl
  have hu1 := Try.underlying100
  have h2 : ((2 : Nat) : Int) ≤ (f.length : Int) := by omega
  have h3 : (2 : Int) ≤ (f.length : Int) := by omega
  have hd := Kd.C_drop (c := c) hr hn hc
  have hl : (f.drop 2).length = f.length - 2 := List.length_drop
  have hr2 := Kd.C_below hr hB
  have S0 := Below.refl w.heap.size w
  have Sd := below_drew S0
  have hlt : g < w.heap.size := blk_lt hb
  have fin : ∀ w1 A', Below w.heap.size w w1 → (Kd.int .u8).C w0 A' (f.drop 2).length (f.drop 2) → IsRd w0 (w1.setCell ⟨g, 0, none⟩ (.slice A' (f.length - 2) (c - 2))) g (f.drop 2) := fun w1 A' hb1 h => ⟨A', c - 2, by rw [hl]; simpa using blk_set ((hb1.block g hlt).trans hb) 0 (.slice A' (f.length - 2) (c - 2)), hg, by omega, h, fun x hx => hby x (List.mem_of_mem_drop hx)⟩
  have hk : ∀ w1 u, Below w.heap.size w w1 → KeepBut w (w1.setCell ⟨g, 0, none⟩ u) g none := fun w1 u h => (KeepBut.of_below h g none).set_ 0 u
  have hbel : ∀ w1 u, Below w.heap.size w w1 → Below w0.heap.size w0 (w1.setCell ⟨g, 0, none⟩ u) := fun w1 u h => below_set (below_step hB h) hg
  go_enter Try.func58, Try.ntmps58
  go_wp2_with fail
  go_region_held3 (fun w' => w'.cell? ⟨g, 0, none⟩ = some (.slice A f.length c) ∧ Below w.heap.size w w') (first | exact ⟨hcell, S0⟩ | exact ⟨hcell, Sd⟩ | exact ⟨hcell1, S1⟩)
    (first | (go_at_call 73; refine (binary_bigEndian_Uint16.calls A f.length c f _ (Kd.C_drew hr2) hn hby).mono ?_; rintro e w1 ⟨rfl, S1_⟩; have S1 : Below w.heap.size w w1 := Below.trans Sd S1_; have hcell1 : w1.cell? ⟨g, 0, none⟩ = some (.slice A f.length c) := (S1.cell (p := ⟨g, 0, none⟩) hlt).trans hcell; have hfz := blk_frozen ((S1.block g hlt).trans hb) 0))
  by_cases hcn : c = 2
  · subst hcn
    rw [if_pos rfl] at hd
    have hfl : f.length = 2 := by omega
    have F1 := fin w1 A S1 hd
    rw [Nat.sub_self, hfl] at F1
    rw [hfl] at hcell1
    go_wp2
    go_ret
    exact ⟨rfl, by simpa [hfl] using F1, hbel _ _ S1, hk _ _ S1⟩
  · rw [if_neg hcn, show (Kd.int .u8).sz = 1 from rfl, Nat.mul_one] at hd
    go_wp2
    go_ret
    exact ⟨rfl, fin _ _ S1 hd, hbel _ _ S1, hk _ _ S1⟩

/-! ### pq_Reader_Int16: function 32 -/
set_option maxHeartbeats 1000000 in
set_option maxRecDepth 100000 in
theorem pq_Reader_Int16.calls (g : Nat) (f : List Int) (w0 w : World) (hI : IsRd w0 w g f) (hB : Below w0.heap.size w0 w) (hn : 2 ≤ f.length) :
    Calls Try.prog 32 #[.pointer (some ⟨g, 0, none⟩)] w fun e w' => e = .returned (.int .i64 (rd f 0 * 256 + rd f 1)) ∧ IsRd w0 w' g (f.drop 2) ∧ Below w0.heap.size w0 w' ∧ KeepBut w w' g none := by
  have hc := pq_readBuf_int16.calls g f w0 w hI hB hn
  go_enter Try.func32, Try.ntmps32
  go_wp2_with fail
  refine hc.mono ?_
  rintro e w1 ⟨rfl, h1, h2, h3⟩
  go_wp2
  go_ret
  exact ⟨rfl, h1, h2, h3⟩

/-! ### binary_bigEndian_Uint32: function 74 -/
set_option maxHeartbeats 1000000 in
set_option maxRecDepth 100000 in
theorem binary_bigEndian_Uint32.calls (A : Option Addr) (n c : Nat) (f : List Int) (w : World) (hr : (Kd.int .u8).C w A n f) (hn : 4 ≤ n) (hf : Bytes f) :
    Calls Try.prog 74 #[.agg #[], .slice A n c] w fun e w' => e = .returned (.int .u32 (rd f 0 * 16777216 + rd f 1 * 65536 + rd f 2 * 256 + rd f 3)) ∧ Below w.heap.size w w' := by
  have hr' := fun o q => Kd.C_drewN (Kd.C_alloc hr o) q
  have hA : ∃ ad, A = some ad := by obtain ⟨ad, e, _⟩ := rd_cell hr (by omega); exact ⟨ad, e⟩
  obtain ⟨ad, rfl⟩ := hA
  have hc : ∀ o q i, i < n → ((w.alloc o).drewN q).cell? (ad.add i) = some (.int .u8 (rd f i)) := by
    intro o q i hi
    obtain ⟨ad', e, hc⟩ := rd_cell (hr' o q) (by omega)
    injection e with e
    subst e
    exact hc i hi
  have c0 : ∀ o q, ((w.alloc o).drewN q).cell? ad = some (.int .u8 (rd f 0)) := fun o q => by simpa [Addr.add] using hc o q 0 (by omega)
  have c1 : ∀ o q, ((w.alloc o).drewN q).cell? ⟨ad.block, ad.off + 1, none⟩ = some (.int .u8 (rd f 1)) := fun o q => by simpa [Addr.add] using hc o q 1 (by omega)
  have c2 : ∀ o q, ((w.alloc o).drewN q).cell? ⟨ad.block, ad.off + 2, none⟩ = some (.int .u8 (rd f 2)) := fun o q => by simpa [Addr.add] using hc o q 2 (by omega)
  have c3 : ∀ o q, ((w.alloc o).drewN q).cell? ⟨ad.block, ad.off + 3, none⟩ = some (.int .u8 (rd f 3)) := fun o q => by simpa [Addr.add] using hc o q 3 (by omega)
  have c30 : ∀ o, (w.alloc o).cell? ⟨ad.block, ad.off + 3, none⟩ = some (.int .u8 (rd f 3)) := fun o => c3 o 0
  have h0 : (0 : Int) < (n : Int) := by omega
  have h1 : (1 : Int) < (n : Int) := by omega
  have h2 : (2 : Int) < (n : Int) := by omega
  have h3 : (3 : Int) < (n : Int) := by omega
  go_enter Try.func74, Try.ntmps74
  go_wp2
  go_quiet (fail)
  go_wp2
  go_ret
  exact ⟨by rw [or32 _ _ _ _ (hf.rd 0).1 (hf.rd 0).2 (hf.rd 1).1 (hf.rd 1).2 (hf.rd 2).1 (hf.rd 2).2 (hf.rd 3).1 (hf.rd 3).2]; rfl, pw_below_drewN (below_alloc (Below.refl _ _) _) _⟩

/-! ### pq_readBuf_int32: function 59 -/
set_option maxHeartbeats 1000000 in
set_option maxRecDepth 100000 in
theorem pq_readBuf_int32.calls (g : Nat) (f : List Int) (w0 w : World) (hI : IsRd w0 w g f) (hB : Below w0.heap.size w0 w) (hn : 4 ≤ f.length) :
    Calls Try.prog 59 #[.pointer (some ⟨g, 0, none⟩)] w fun e w' => e = .returned (.int .i64 (IntKind.i32.wrap (rd f 0 * 16777216 + rd f 1 * 65536 + rd f 2 * 256 + rd f 3))) ∧ IsRd w0 w' g (f.drop 4) ∧ Below w0.heap.size w0 w' ∧ KeepBut w w' g none := by
  obtain ⟨A, c, hb, hg, hc, hr, hby⟩ := hI
  have hb0 := hby.rd 0; have hb1 := hby.rd 1; have hb2 := hby.rd 2; have hb3 := hby.rd 3
  have hw : IntKind.i64.wrap (IntKind.i32.wrap (rd f 0 * 16777216 + rd f 1 * 65536 + rd f 2 * 256 + rd f 3)) = IntKind.i32.wrap (rd f 0 * 16777216 + rd f 1 * 65536 + rd f 2 * 256 + rd f 3) := by rw [IntKind.wrap_i64, IntKind.wrap_i32]; omega
  have hcell : w.cell? ⟨g, 0, none⟩ = some (.slice A f.length c) := (blk_cell hb 0).trans rfl
  have hu1 := Try.underlying100
  have h2 : ((4 : Nat) : Int) ≤ (f.length : Int) := by omega
  have h3 : (4 : Int) ≤ (f.length : Int) := by omega
  have hd := Kd.C_drop (c := c) hr hn hc
  have hl : (f.drop 4).length = f.length - 4 := List.length_drop
  have hr2 := Kd.C_below hr hB
  have S0 := Below.refl w.heap.size w
  have Sd := below_drew S0
  have hlt : g < w.heap.size := blk_lt hb
  have fin : ∀ w1 A', Below w.heap.size w w1 → (Kd.int .u8).C w0 A' (f.drop 4).length (f.drop 4) → IsRd w0 (w1.setCell ⟨g, 0, none⟩ (.slice A' (f.length - 4) (c - 4))) g (f.drop 4) := fun w1 A' hb1 h => ⟨A', c - 4, by rw [hl]; simpa using blk_set ((hb1.block g hlt).trans hb) 0 (.slice A' (f.length - 4) (c - 4)), hg, by omega, h, fun x hx => hby x (List.mem_of_mem_drop hx)⟩
  have hk : ∀ w1 u, Below w.heap.size w w1 → KeepBut w (w1.setCell ⟨g, 0, none⟩ u) g none := fun w1 u h => (KeepBut.of_below h g none).set_ 0 u
  have hbel : ∀ w1 u, Below w.heap.size w w1 → Below w0.heap.size w0 (w1.setCell ⟨g, 0, none⟩ u) := fun w1 u h => below_set (below_step hB h) hg
  go_enter Try.func59, Try.ntmps59
  go_wp2_with fail
  go_region_held3 (fun w' => w'.cell? ⟨g, 0, none⟩ = some (.slice A f.length c) ∧ Below w.heap.size w w') (first | exact ⟨hcell, S0⟩ | exact ⟨hcell, Sd⟩ | exact ⟨hcell1, S1⟩)
    (first | (go_at_call 74; refine (binary_bigEndian_Uint32.calls A f.length c f _ (Kd.C_drew hr2) hn hby).mono ?_; rintro e w1 ⟨rfl, S1_⟩; have S1 : Below w.heap.size w w1 := Below.trans Sd S1_; have hcell1 : w1.cell? ⟨g, 0, none⟩ = some (.slice A f.length c) := (S1.cell (p := ⟨g, 0, none⟩) hlt).trans hcell; have hfz := blk_frozen ((S1.block g hlt).trans hb) 0))
  by_cases hcn : c = 4
  · subst hcn
    rw [if_pos rfl] at hd
    have hfl : f.length = 4 := by omega
    have F1 := fin w1 A S1 hd
    rw [Nat.sub_self, hfl] at F1
    rw [hfl] at hcell1
    go_wp2
    go_ret
    exact ⟨by first | rfl | (show Ending.returned (.int .i64 (IntKind.i64.wrap (IntKind.i32.wrap (rd f 0 * 16777216 + rd f 1 * 65536 + rd f 2 * 256 + rd f 3)))) = _; rw [hw]) | (trace_state; sorry), by simpa [hfl] using F1, hbel _ _ S1, hk _ _ S1⟩
  · rw [if_neg hcn, show (Kd.int .u8).sz = 1 from rfl, Nat.mul_one] at hd
    go_wp2
    go_ret
    exact ⟨by first | rfl | (show Ending.returned (.int .i64 (IntKind.i64.wrap (IntKind.i32.wrap (rd f 0 * 16777216 + rd f 1 * 65536 + rd f 2 * 256 + rd f 3)))) = _; rw [hw]) | (trace_state; sorry), fin _ _ S1 hd, hbel _ _ S1, hk _ _ S1⟩

/-! ### pq_Reader_Int32: function 33 -/
set_option maxHeartbeats 1000000 in
set_option maxRecDepth 100000 in
theorem pq_Reader_Int32.calls (g : Nat) (f : List Int) (w0 w : World) (hI : IsRd w0 w g f) (hB : Below w0.heap.size w0 w) (hn : 4 ≤ f.length) :
    Calls Try.prog 33 #[.pointer (some ⟨g, 0, none⟩)] w fun e w' => e = .returned (.int .i64 (IntKind.i32.wrap (rd f 0 * 16777216 + rd f 1 * 65536 + rd f 2 * 256 + rd f 3))) ∧ IsRd w0 w' g (f.drop 4) ∧ Below w0.heap.size w0 w' ∧ KeepBut w w' g none := by
  have hc := pq_readBuf_int32.calls g f w0 w hI hB hn
  go_enter Try.func33, Try.ntmps33
  go_wp2_with fail
  refine hc.mono ?_
  rintro e w1 ⟨rfl, h1, h2, h3⟩
  go_wp2
  go_ret
  exact ⟨rfl, h1, h2, h3⟩

/-! ### impl_ends: function 34 -/
def impl_ends.l0 : Nat → ByteArray → Int → Option (Bool)
  | 0, _, _ => none
  | k + 1, x0, x3 => if x3 < (x0.size : Int) then (if 0 ≤ x3 then (if (bt x0 x3) = 0 then (some true) else (impl_ends.l0 k x0 (wrap64 (x3 + 1)))) else (none)) else (some false)
def impl_ends.f (k : Nat) (a0 : ByteArray) : Option (Bool) := impl_ends.l0 k a0 0
theorem impl_ends.mono_l : ∀ k, (∀ y0 y1, LeO (impl_ends.l0 k y0 y1) (impl_ends.l0 (k + 1) y0 y1))
  | 0 => fun _ _ r h => by simp [impl_ends.l0] at h
  | k + 1 => by
    have ih0 := impl_ends.mono_l k
    · intro y0 y1
      unfold impl_ends.l0
      repeat' first
      | (with_reducible exact ih0 _ _)
      | (with_reducible exact LeO.refl _)
      | (with_reducible exact LeO.none _)
      | (with_reducible refine LeO.ite ?_ ?_)
      | (with_reducible refine LeO.bind ?_ (fun _ => ?_))
      | exact ih0 _ _
      | exact LeO.none _
      | refine LeO.ite ?_ ?_
      | refine LeO.bind ?_ (fun _ => ?_)
theorem impl_ends.mono : ∀ a0 k, LeO (impl_ends.f k a0) (impl_ends.f (k + 1) a0) := by
  intro a0 k
  have ih0 := impl_ends.mono_l k
  unfold impl_ends.f
  repeat' first
      | (with_reducible exact ih0 _ _)
      | (with_reducible exact LeO.refl _)
      | (with_reducible exact LeO.none _)
      | (with_reducible refine LeO.ite ?_ ?_)
      | (with_reducible refine LeO.bind ?_ (fun _ => ?_))
      | exact ih0 _ _
      | exact LeO.none _
      | refine LeO.ite ?_ ?_
      | refine LeO.bind ?_ (fun _ => ?_)
set_option maxHeartbeats 8000000 in
set_option maxRecDepth 100000 in
theorem impl_ends.calls (k : Nat) (a0 : ByteArray) (r : Bool) (w : World) (h : impl_ends.f k a0 = some r) :
    Calls Try.prog 34 #[.string a0] w fun e w' => e = .returned (.bool r) ∧ Drawn0 w w' := by
  have H : (impl_ends.l0 k a0 0) = some r := h
  clear h
  have H' := Aside0.mk H
  clear H
  go_enter Try.func34, Try.ntmps34
  go_wp2
  go_loopg [3] k (fun kq v3 w' => ∃ (x3_1 : Int), v3 = .int .i64 x3_1 ∧ Aside0 (impl_ends.l0 kq a0 x3_1 = some r) ∧ Aside0 (kq ≤ k) ∧ Drawn0 w w')
  case atStart => exact ⟨(0), (by first | rfl | (simp; done) | (simp [*]; done)), H', ⟨Nat.le_refl _⟩, by repeat (first | exact Drawn0.refl _ | apply Drawn0.step)⟩
  case round =>
    clear H'
    obtain ⟨x3_1, rfl, HA, HK1, ⟨m1, rfl⟩⟩ := hrel
    cases gk with
    | zero => exact absurd HA.out (by simp [impl_ends.l0])
    | succ k1 =>
      have H := HA.out
      clear HA
      simp only [impl_ends.l0] at H
      by_cases c2 : x3_1 < (a0.size : Int)
      · rw [if_pos c2] at H
        have c2b0 : decide (x3_1 < (a0.size : Int)) = true := decide_eq_true c2
        clear c2
        by_cases c3 : 0 ≤ x3_1
        · rw [if_pos c3] at H
          have c3b0 : decide (0 ≤ x3_1) = true := decide_eq_true c3
          clear c3
          by_cases c5 : (bt a0 x3_1) = 0
          · rw [if_pos c5] at H
            have c5b0 : ((bt a0 x3_1) == 0) = true := beq_iff_eq.mpr c5
            have c5b1 : ((bt a0 x3_1) != 0) = false := bne_eq_false_iff_eq.mpr c5
            clear c5
            obtain rfl := Option.some.inj H
            have p4 : 0 ≤ (x3_1 : Int) := of_decide_eq_true (by first | (with_reducible assumption) | assumption)
            have q4 : x3_1 < (a0.size : Int) := of_decide_eq_true (by first | (with_reducible assumption) | assumption)
            have hx4 := bt_at a0 x3_1
            replace p4 := eq_true p4
            replace q4 := eq_true q4
            go_wp2
            go_ret
            exact ⟨by first | rfl | (simp; done) | (simp [*]; done), by repeat (first | exact Drawn0.refl _ | apply Drawn0.step)⟩
          · rw [if_neg c5] at H
            have c5b0 : ((bt a0 x3_1) == 0) = false := beq_eq_false_iff_ne.mpr c5
            have c5b1 : ((bt a0 x3_1) != 0) = true := bne_iff_ne.mpr c5
            have H' := Aside0.mk H
            clear H
            have p4 : 0 ≤ (x3_1 : Int) := of_decide_eq_true (by first | (with_reducible assumption) | assumption)
            have q4 : x3_1 < (a0.size : Int) := of_decide_eq_true (by first | (with_reducible assumption) | assumption)
            have hx4 := bt_at a0 x3_1
            replace p4 := eq_true p4
            replace q4 := eq_true q4
            go_wp2
            go_roundg k1
            case measure => have := HK1.out; omega
            case rel => exact ⟨(wrap64 (x3_1 + 1)), (by first | rfl | (simp; done) | (simp [*]; done)), H', ⟨by have := HK1.out; omega⟩, by repeat (first | exact Drawn0.refl _ | apply Drawn0.step)⟩
        · rw [if_neg c3] at H
          exact absurd H (by simp)
      · rw [if_neg c2] at H
        have c2b0 : decide (x3_1 < (a0.size : Int)) = false := decide_eq_false c2
        clear c2
        obtain rfl := Option.some.inj H
        go_wp2
        go_ret
        exact ⟨by first | rfl | (simp; done) | (simp [*]; done), by repeat (first | exact Drawn0.refl _ | apply Drawn0.step)⟩

/-! ### pq_zzIndex: function 75 -/
def pq_zzIndex.l0 : Nat → ByteArray → ByteArray → Int → Option (Int)
  | 0, _, _, _ => none
  | k + 1, x0, x1, x5 => if (wrap64 (x5 + (x1.size : Int))) ≤ (x0.size : Int) then (if 0 ≤ x5 then (if x5 ≤ (wrap64 (x5 + (x1.size : Int))) then (if (x0.extract (x5 : Int).toNat ((wrap64 (x5 + (x1.size : Int))) : Int).toNat).toList = x1.toList then (some x5) else (pq_zzIndex.l0 k x0 x1 (wrap64 (x5 + 1)))) else (none)) else (none)) else (some (-1))
def pq_zzIndex.f (k : Nat) (a0 : ByteArray) (a1 : ByteArray) : Option (Int) := pq_zzIndex.l0 k a0 a1 0
theorem pq_zzIndex.mono_l : ∀ k, (∀ y0 y1 y2, LeO (pq_zzIndex.l0 k y0 y1 y2) (pq_zzIndex.l0 (k + 1) y0 y1 y2))
  | 0 => fun _ _ _ r h => by simp [pq_zzIndex.l0] at h
  | k + 1 => by
    have ih0 := pq_zzIndex.mono_l k
    · intro y0 y1 y2
      unfold pq_zzIndex.l0
      repeat' first
      | (with_reducible exact ih0 _ _ _)
      | (with_reducible exact LeO.refl _)
      | (with_reducible exact LeO.none _)
      | (with_reducible refine LeO.ite ?_ ?_)
      | (with_reducible refine LeO.bind ?_ (fun _ => ?_))
      | exact ih0 _ _ _
      | exact LeO.none _
      | refine LeO.ite ?_ ?_
      | refine LeO.bind ?_ (fun _ => ?_)
theorem pq_zzIndex.mono : ∀ a0 a1 k, LeO (pq_zzIndex.f k a0 a1) (pq_zzIndex.f (k + 1) a0 a1) := by
  intro a0 a1 k
  have ih0 := pq_zzIndex.mono_l k
  unfold pq_zzIndex.f
  repeat' first
      | (with_reducible exact ih0 _ _ _)
      | (with_reducible exact LeO.refl _)
      | (with_reducible exact LeO.none _)
      | (with_reducible refine LeO.ite ?_ ?_)
      | (with_reducible refine LeO.bind ?_ (fun _ => ?_))
      | exact ih0 _ _ _
      | exact LeO.none _
      | refine LeO.ite ?_ ?_
      | refine LeO.bind ?_ (fun _ => ?_)
set_option maxHeartbeats 8000000 in
set_option maxRecDepth 100000 in
theorem pq_zzIndex.calls (k : Nat) (a0 : ByteArray) (a1 : ByteArray) (r : Int) (w : World) (h : pq_zzIndex.f k a0 a1 = some r) :
    Calls Try.prog 75 #[.string a0, .string a1] w fun e w' => e = .returned (.int .i64 r) ∧ Drawn0 w w' := by
  have H : (pq_zzIndex.l0 k a0 a1 0) = some r := h
  clear h
  have H' := Aside0.mk H
  clear H
  go_enter Try.func75, Try.ntmps75
  go_wp2
  go_loopg [5] k (fun kq v5 w' => ∃ (x5_1 : Int), v5 = .int .i64 x5_1 ∧ Aside0 (pq_zzIndex.l0 kq a0 a1 x5_1 = some r) ∧ Aside0 (kq ≤ k) ∧ Drawn0 w w')
  case atStart => exact ⟨(0), (by first | rfl | (simp; done) | (simp [*]; done)), H', ⟨Nat.le_refl _⟩, by repeat (first | exact Drawn0.refl _ | apply Drawn0.step)⟩
  case round =>
    clear H'
    try clear p2
    obtain ⟨x5_1, rfl, HA, HK1, ⟨m1, rfl⟩⟩ := hrel
    cases gk with
    | zero => exact absurd HA.out (by simp [pq_zzIndex.l0])
    | succ k1 =>
      have H := HA.out
      clear HA
      simp only [pq_zzIndex.l0] at H
      by_cases c3 : (wrap64 (x5_1 + (a1.size : Int))) ≤ (a0.size : Int)
      · rw [if_pos c3] at H
        have c3b0 : decide ((wrap64 (x5_1 + (a1.size : Int))) ≤ (a0.size : Int)) = true := decide_eq_true c3
        clear c3
        by_cases c4 : 0 ≤ x5_1
        · rw [if_pos c4] at H
          have c4b0 := eq_true c4
          have c4b1 : decide (0 ≤ x5_1) = true := decide_eq_true c4
          clear c4
          by_cases c5 : x5_1 ≤ (wrap64 (x5_1 + (a1.size : Int)))
          · rw [if_pos c5] at H
            have c5b0 := eq_true c5
            have c5b1 : decide (x5_1 ≤ (wrap64 (x5_1 + (a1.size : Int)))) = true := decide_eq_true c5
            have c6b0 := eq_true (of_decide_eq_true (by first | (with_reducible assumption) | assumption) : (wrap64 (x5_1 + (a1.size : Int))) ≤ (a0.size : Int))
            by_cases c7 : (a0.extract (x5_1 : Int).toNat ((wrap64 (x5_1 + (a1.size : Int))) : Int).toNat).toList = a1.toList
            · rw [if_pos c7] at H
              have c7b0 : ((a0.extract (x5_1 : Int).toNat ((wrap64 (x5_1 + (a1.size : Int))) : Int).toNat).toList == a1.toList) = true := beq_iff_eq.mpr c7
              have c7b1 : ((a0.extract (x5_1 : Int).toNat ((wrap64 (x5_1 + (a1.size : Int))) : Int).toNat).toList != a1.toList) = false := bne_eq_false_iff_eq.mpr c7
              clear c7
              obtain rfl := Option.some.inj H
              go_wp2
              go_ret
              exact ⟨by first | rfl | (simp; done) | (simp [*]; done), by repeat (first | exact Drawn0.refl _ | apply Drawn0.step)⟩
            · rw [if_neg c7] at H
              have c7b0 : ((a0.extract (x5_1 : Int).toNat ((wrap64 (x5_1 + (a1.size : Int))) : Int).toNat).toList == a1.toList) = false := beq_eq_false_iff_ne.mpr c7
              have c7b1 : ((a0.extract (x5_1 : Int).toNat ((wrap64 (x5_1 + (a1.size : Int))) : Int).toNat).toList != a1.toList) = true := bne_iff_ne.mpr c7
              have H' := Aside0.mk H
              clear H
              go_wp2
              go_roundg k1
              case measure => have := HK1.out; omega
              case rel => exact ⟨(wrap64 (x5_1 + 1)), (by first | rfl | (simp; done) | (simp [*]; done)), H', ⟨by have := HK1.out; omega⟩, by repeat (first | exact Drawn0.refl _ | apply Drawn0.step)⟩
          · rw [if_neg c5] at H
            exact absurd H (by simp)
        · rw [if_neg c4] at H
          exact absurd H (by simp)
      · rw [if_neg c3] at H
        have c3b0 : decide ((wrap64 (x5_1 + (a1.size : Int))) ≤ (a0.size : Int)) = false := decide_eq_false c3
        clear c3
        obtain rfl := Option.some.inj H
        go_wp2
        go_ret
        exact ⟨by first | rfl | (simp; done) | (simp [*]; done), by repeat (first | exact Drawn0.refl _ | apply Drawn0.step)⟩

/-! ### errors_New: function 76 -/
def errors_New.f (a0 : ByteArray) : Option (Option Int) := none
set_option maxHeartbeats 8000000 in
set_option maxRecDepth 100000 in
theorem errors_New.calls (a0 : ByteArray) (r : Option Int) (w : World) (h : errors_New.f a0 = some r) :
    Calls Try.prog 76 #[.string a0] w fun e w' => e = .returned (errW r) ∧ Below w.heap.size w w' := by
  have hu146 := Try.underlying146
  have hu97 := Try.underlying97
  have HB := Aside0.mk (Below.refl w.heap.size w)
  have H : (none) = some r := h
  clear h
  exact absurd H (by simp)

/-! ### pq_readBuf_string: function 60 -/
set_option maxHeartbeats 1000000 in
set_option maxRecDepth 100000 in
theorem pq_readBuf_string.calls (g : Nat) (f : List Int) (k i : Nat) (w0 w : World) (hI : IsRd w0 w g f) (hB : Below w0.heap.size w0 w) (hz : pq_zzIndex.f k (strOfNums f) (⟨#[0]⟩ : ByteArray) = some (i : Int)) (hn : i < f.length) :
    Calls Try.prog 60 #[.pointer (some ⟨g, 0, none⟩)] w fun e w' => e = .returned (.string (strOfNums (f.take i))) ∧ IsRd w0 w' g (f.drop (i + 1)) ∧ Below w0.heap.size w0 w' ∧ KeepBut w w' g none := by
  obtain ⟨A, c, hb, hg, hc, hr, hby⟩ := hI
  have hcell : w.cell? ⟨g, 0, none⟩ = some (.slice A f.length c) := (blk_cell hb 0).trans rfl
  have hu1 := Try.underlying100
  have hmax := Kd.C_max hr
  have h2 : (i : Int) ≤ (f.length : Int) := by omega
  have h3 : (i : Int) + 1 ≤ (f.length : Int) := by omega
  have h4 : (i : Int) ≤ (c : Int) := by omega
  have h5 : ((i : Int) < 0) = False := eq_false (by omega)
  have h6 : ((i : Int) + 1).toNat = i + 1 := by omega
  have hw : wrap64 ((i : Int) + 1) = (i : Int) + 1 := by simp only [wrap64, IntKind.wrap_i64]; omega
  have hd := Kd.C_drop (c := c) (m := i + 1) hr (by omega) hc
  have htk := Kd.C_take (m := i) hr (by omega)
  rw [List.length_take, Nat.min_eq_left (by omega)] at htk
  have hl : (f.drop (i + 1)).length = f.length - (i + 1) := List.length_drop
  have hr2 := Kd.C_below hr hB
  have hlt : g < w.heap.size := blk_lt hb
  have fin : ∀ w1 A', Below w.heap.size w w1 → (Kd.int .u8).C w0 A' (f.drop (i + 1)).length (f.drop (i + 1)) → IsRd w0 (w1.setCell ⟨g, 0, none⟩ (.slice A' (f.length - (i + 1)) (c - (i + 1)))) g (f.drop (i + 1)) := fun w1 A' hb1 h => ⟨A', c - (i + 1), by rw [hl]; simpa using blk_set ((hb1.block g hlt).trans hb) 0 (.slice A' (f.length - (i + 1)) (c - (i + 1))), hg, by omega, h, fun x hx => hby x (List.mem_of_mem_drop hx)⟩
  have hk : ∀ w1 u, Below w.heap.size w w1 → KeepBut w (w1.setCell ⟨g, 0, none⟩ u) g none := fun w1 u h => (KeepBut.of_below h g none).set_ 0 u
  have hbel : ∀ w1 u, Below w.heap.size w w1 → Below w0.heap.size w0 (w1.setCell ⟨g, 0, none⟩ u) := fun w1 u h => below_set (below_step hB h) hg
  have hcv := fun c_ : Nat => Kd.C_string (P := Try.prog) (c := c_) Try.underlying100 Try.underlying5 Try.underlying9 hr2
  go_enter Try.func60, Try.ntmps60
  go_wp2_with fail
  refine (pq_zzIndex.calls k _ _ _ _ hz).mono ?_
  rintro e w1 ⟨rfl, hdr⟩
  have S1 : Below w.heap.size w w1 := hdr.below
  have hcell1 : w1.cell? ⟨g, 0, none⟩ = some (.slice A f.length c) := (S1.cell (p := ⟨g, 0, none⟩) hlt).trans hcell
  have hfz := blk_frozen ((S1.block g hlt).trans hb) 0
  have hcv2 := fun (c_ : Nat) (u : Value) => Kd.C_string (P := Try.prog) (c := c_) Try.underlying100 Try.underlying5 Try.underlying9 (Kd.C_below htk (hbel w1 u S1))
  clear hcv
  by_cases hcn : c = i + 1
  · subst hcn
    rw [if_pos rfl] at hd
    have hfl : f.length = i + 1 := by omega
    have F1 := fin w1 A S1 hd
    rw [Nat.sub_self, hfl, Nat.sub_self] at F1
    rw [hfl] at hcell1
    go_wp2
    go_ret
    exact ⟨rfl, by simpa [hfl] using F1, hbel _ _ S1, hk _ _ S1⟩
  · rw [if_neg hcn, show (Kd.int .u8).sz = 1 from rfl, Nat.mul_one] at hd
    go_wp2
    go_ret
    exact ⟨rfl, fin _ _ S1 hd, hbel _ _ S1, hk _ _ S1⟩

/-! ### pq_Reader_Text: function 35 -/
set_option maxHeartbeats 1000000 in
set_option maxRecDepth 100000 in
theorem pq_Reader_Text.calls (g : Nat) (f : List Int) (k i : Nat) (w0 w : World) (hI : IsRd w0 w g f) (hB : Below w0.heap.size w0 w) (hz : pq_zzIndex.f k (strOfNums f) (⟨#[0]⟩ : ByteArray) = some (i : Int)) (hn : i < f.length) :
    Calls Try.prog 35 #[.pointer (some ⟨g, 0, none⟩)] w fun e w' => e = .returned (.string (strOfNums (f.take i))) ∧ IsRd w0 w' g (f.drop (i + 1)) ∧ Below w0.heap.size w0 w' ∧ KeepBut w w' g none := by
  have hc := pq_readBuf_string.calls g f k i w0 w hI hB hz hn
  go_enter Try.func35, Try.ntmps35
  go_wp2_with fail
  refine hc.mono ?_
  rintro e w1 ⟨rfl, h1, h2, h3⟩
  go_wp2
  go_ret
  exact ⟨rfl, h1, h2, h3⟩

/-! ### pq_Reader_Next: function 36 -/
set_option maxHeartbeats 1000000 in
set_option maxRecDepth 100000 in
theorem pq_Reader_Next.calls (g : Nat) (f : List Int) (n : Nat) (w0 w : World) (hI : IsRd w0 w g f) (hB : Below w0.heap.size w0 w) (hn : n ≤ f.length) :
    Calls Try.prog 36 #[.pointer (some ⟨g, 0, none⟩), .int .i64 (n : Int)] w fun e w' => ∃ A c, e = .returned (.slice A n c) ∧ n ≤ c ∧ Kd.C (Kd.int .u8) w0 A n (f.take n) ∧ IsRd w0 w' g (f.drop n) ∧ Below w0.heap.size w0 w' ∧ KeepBut w w' g none := by
  have hc := pq_readBuf_next.calls g f n w0 w hI hB hn
  go_enter Try.func36, Try.ntmps36
  go_wp2_with fail
  refine hc.mono ?_
  rintro e w1 ⟨A, c, rfl, ha, hb, h1, h2, h3⟩
  go_wp2
  go_ret
  exact ⟨A, c, rfl, ha, hb, h1, h2, h3⟩

/-! ### impl_Unframed: function 11 -/
def impl_Unframed.l0 : Nat → List S25 → List Int → List S25 → Int → Option (List S25 × ByteArray × Bool)
  | 0, _, _, _, _ => none
  | k + 1, l1, f, out, i =>
    if i < (l1.length : Int) then (if 0 ≤ i then (if out.length < 4398046511104 then
      (if (rd_T25 l1 i).f0 = 1 then (if 1 ≤ f.length then impl_Unframed.l0 k l1 (f.drop 1) (out ++ [⟨1, rd f 0, ⟨#[]⟩⟩]) (wrap64 (i + 1)) else some ([], ⟨#[]⟩, false))
       else if (rd_T25 l1 i).f0 = 2 then (if 2 ≤ f.length then impl_Unframed.l0 k l1 (f.drop 2) (out ++ [⟨2, rd f 0 * 256 + rd f 1, ⟨#[]⟩⟩]) (wrap64 (i + 1)) else some ([], ⟨#[]⟩, false))
       else if (rd_T25 l1 i).f0 = 3 then (if 4 ≤ f.length then impl_Unframed.l0 k l1 (f.drop 4) (out ++ [⟨3, IntKind.i32.wrap (rd f 0 * 16777216 + rd f 1 * 65536 + rd f 2 * 256 + rd f 3), ⟨#[]⟩⟩]) (wrap64 (i + 1)) else some ([], ⟨#[]⟩, false))
       else if (rd_T25 l1 i).f0 = 4 then ((impl_ends.f k (strOfNums f)).bind fun b => if b = true then ((pq_zzIndex.f k (strOfNums f) (⟨#[0]⟩ : ByteArray)).bind fun j => if 0 ≤ j ∧ j < f.length then impl_Unframed.l0 k l1 (f.drop (j.toNat + 1)) (out ++ [⟨4, 0, strOfNums (f.take j.toNat)⟩]) (wrap64 (i + 1)) else none) else some ([], ⟨#[]⟩, false))
       else if (rd_T25 l1 i).f0 = 5 then (if 0 ≤ (rd_T25 l1 i).f1 then (if (rd_T25 l1 i).f1 ≤ f.length then impl_Unframed.l0 k l1 (f.drop (rd_T25 l1 i).f1.toNat) (out ++ [⟨5, (rd_T25 l1 i).f1, strOfNums (f.take (rd_T25 l1 i).f1.toNat)⟩]) (wrap64 (i + 1)) else some ([], ⟨#[]⟩, false)) else some ([], ⟨#[]⟩, false))
       else some ([], ⟨#[]⟩, false)) else none) else none) else some (out, strOfNums f, true)
def impl_Unframed.f (k : Nat) (a0 : ByteArray) (l1 : List (S25)) : Option ((List (S25)) × ByteArray × Bool) := if a0.size ≤ 9223372036854775807 then impl_Unframed.l0 k l1 (bytesOf a0) [] 0 else none
theorem impl_Unframed.mono_l : ∀ k, ∀ y0 y1 y2 y3, LeO (impl_Unframed.l0 k y0 y1 y2 y3) (impl_Unframed.l0 (k + 1) y0 y1 y2 y3)
  | 0 => fun _ _ _ _ r h => by simp [impl_Unframed.l0] at h
  | k + 1 => fun y0 y1 y2 y3 => by
    have ih := impl_Unframed.mono_l k
    unfold impl_Unframed.l0
    repeat' first
      | (with_reducible exact ih _ _ _ _)
      | (with_reducible exact impl_ends.mono _ _)
      | (with_reducible exact pq_zzIndex.mono _ _ _)
      | (with_reducible exact LeO.refl _)
      | (with_reducible exact LeO.none _)
      | (with_reducible refine LeO.ite ?_ ?_)
      | (with_reducible refine LeO.bind ?_ (fun _ => ?_))
theorem impl_Unframed.mono : ∀ a0 a1 k, LeO (impl_Unframed.f k a0 a1) (impl_Unframed.f (k + 1) a0 a1) := by
  intro a0 a1 k
  unfold impl_Unframed.f
  exact LeO.ite (impl_Unframed.mono_l _ _ _ _ _) (LeO.none _)
set_option maxHeartbeats 8000000 in
set_option maxRecDepth 100000 in
theorem impl_Unframed.calls (k : Nat) (a0 : ByteArray) (A1 : Option Addr) (c1 : Nat) (l1 : List (S25)) (r1 : List (S25)) (r2 : ByteArray) (r3 : Bool) (w : World) (hr1 : Kd.C k25 w A1 l1.length l1) (hc1 : l1.length ≤ c1) (h : impl_Unframed.f k a0 l1 = some (r1, r2, r3)) :
    Calls Try.prog 11 #[.string a0, .slice A1 l1.length c1] w fun e w' => ∃ v0_ : Value, e = .returned (.tuple #[v0_, .string r2, .bool r3]) ∧ Kd.R k25 25 w' w.heap.size (fun _ => True) v0_ r1 ∧ Below w.heap.size w w' := by
  have H : (if a0.size ≤ 9223372036854775807 then impl_Unframed.l0 k l1 (bytesOf a0) [] 0 else none) = some (r1, r2, r3) := h
  clear h
  by_cases hs : a0.size ≤ 9223372036854775807
  · rw [if_pos hs] at H
    have H' := Aside0.mk H
    clear H
    have HS := Aside0.mk hs
    have HR1 := Aside0.mk hr1
    have HC1 := Aside0.mk hc1
    clear hs hr1 hc1
    have hu25 := Try.underlying25
    have kb := fun W => print_bytes (P := Try.prog) 9 58 5 Try.underlying9 Try.underlying58 Try.underlying5 a0 W
    go_enter Try.func11, Try.ntmps11
    go_wp2_with fail
    have hc := pq_NewReader.calls (some ⟨w.heap.size, 0, none⟩) (grownCap w a0.size 0 5) (bytesOf a0) (Lib.bytesWorld w 5 a0) (by rw [bytesOf_length]; exact Kd.C_of_reads (d := (0 : Int)) (h1 := fun _ => rfl) (bytes_reads w 5 a0 HS.out)) (by rw [bytesOf_length]; exact grownCap_ge _ _ _ _) (bytesOf_bytes a0)
    rw [bytesOf_length] at hc
    refine hc.mono ?_
    rintro e w1 ⟨g, rfl, hge, hI, hB1⟩
    have hW0 : Below w.heap.size w (Lib.bytesWorld w 5 a0) := bytes_below (Below.refl w.heap.size w) (Nat.le_refl _) 5 a0
    have HW0 := Aside0.mk hW0
    have hsz : w.heap.size ≤ (Lib.bytesWorld w 5 a0).heap.size := hW0.size
    have HB := Aside0.mk (Below.trans hW0 (hB1.mono hsz))
    have HG := Aside0.mk hge
    have HGW : Aside0 (w.heap.size ≤ g) := ⟨Nat.le_trans hsz hge⟩
    have HI := Aside0.mk hI
    have HB1 := Aside0.mk hB1
    clear hc hI hB1 hge hW0 hsz
    obtain ⟨WB, hWB⟩ : ∃ W_, W_ = Lib.bytesWorld w 5 a0 := ⟨_, rfl⟩
    rw [← hWB] at HW0 HG HI HB1
    clear hWB kb
    go_wp2_with fail
    go_loopg [4, 17] k (fun kq v4 v17 w' => ∃ (out : List S25) (i : Int) (f : List Int), v17 = .int .i64 i ∧ Aside0 (impl_Unframed.l0 kq l1 f out i = some (r1, r2, r3)) ∧ Aside0 (kq ≤ k) ∧ Aside0 (Kd.R k25 25 w' WB.heap.size (fun _ => True) v4 out) ∧ Aside0 (IsRd WB w' g f) ∧ Aside0 (Below WB.heap.size WB w'))
    case atStart => exact ⟨[], 0, _, rfl, H', ⟨Nat.le_refl _⟩, ⟨Kd.R_nil _ _ _ _ _⟩, HI, HB1⟩
    case round =>
      clear H' HI HB HB1
      obtain ⟨out, i, f, rfl, HA, HK1, HO, HI, HB1⟩ := hrel
      cases gk with
      | zero => exact absurd HA.out (by simp [impl_Unframed.l0])
      | succ k1 =>
        have H := HA.out
        clear HA
        have HB : Aside0 (Below w.heap.size w wr) := ⟨Below.trans HW0.out (HB1.out.mono HW0.out.size)⟩
        simp only [impl_Unframed.l0] at H
        by_cases c2 : i < (l1.length : Int)
        · rw [if_pos c2] at H
          have c2b : decide (i < (l1.length : Int)) = true := decide_eq_true c2
          by_cases c3 : 0 ≤ i
          · rw [if_pos c3] at H
            by_cases c4 : out.length < 4398046511104
            · rw [if_pos c4] at H
              have H' := Aside0.mk H
              clear H
              obtain ⟨ad, e1, x0, x1, x2⟩ := at_T25 HR1.out i c3 c2
              cases e1
              replace x0 := (HB.out.cell (World.block_lt_of_cell? w _ x0)).trans x0
              replace x1 := (HB.out.cell (World.block_lt_of_cell? w _ x1)).trans x1
              replace x2 := (HB.out.cell (World.block_lt_of_cell? w _ x2)).trans x2
              replace c2 := eq_true c2
              replace c3 := eq_true c3
              replace x0 := x0
              go_wp2_with fail
              refine (pq_Reader_Rest.calls2 g f WB _ (HI.out.below (below_alloc (Below.refl _ _) _))).mono ?_
              rintro e w2 ⟨A, c, rfl, hcl, hC, hb2⟩
              have B2 : Below wr.heap.size wr w2 := Below.trans (below_alloc (Below.refl _ _) _) (hb2.mono (by simp))
              have Bk : w2.heap[wr.heap.size]? = some (.cells #[.int .i64 (rd_T25 l1 i).f0, .int .i64 (rd_T25 l1 i).f1, .string (rd_T25 l1 i).f2] 25 (0, 0)) := (hb2.block _ (by simp)).trans (by simpa using heap_alloc_new wr _)
              have hcv := fun c_ : Nat => Kd.C_string (P := Try.prog) (c := c_) Try.underlying58 Try.underlying5 Try.underlying9 (Kd.C_below hC (below_step HB1.out B2))
              have k0 := blk_cell Bk 0
              have k1_ := blk_cell Bk 1
              have HI2 := HI.out.below B2
              have hsz : (strOfNums f).size = f.length := strOfNums_size f
              by_cases hk : (rd_T25 l1 i).f0 = 1
              · rw [hk] at k0 Bk
                have k0a := fun o => blk_cell (blk_alloc Bk o) 0
                have k1a := fun o => blk_cell (blk_alloc Bk o) 1
                rw [if_pos hk] at H'
                by_cases hl : 1 ≤ f.length
                · rw [if_pos hl] at H'
                  have hl' : ((f.length : Int) ≥ 1) = True := eq_true (by omega)
                  have hl2 : decide ((1 : Int) ≤ (f.length : Int)) = true := decide_eq_true (by omega)
                  go_wp2_with fail
                  refine (pq_Reader_Byte.calls g f WB _ (HI2.below (below_alloc (Below.refl _ _) _)) (below_alloc (below_step HB1.out B2) _) hl).mono ?_
                  rintro e w4 ⟨rfl, I4, B4, K4⟩
                  have gp_ne : w2.heap.size ≠ g := by have := HI2.lt; omega
                  have Bp : w4.heap[w2.heap.size]? = some (.cells #[.int .i64 1, .int .i64 0, .string ⟨#[]⟩] 25 (0, 0)) := K4.blk (by simpa using heap_alloc_new w2 _) gp_ne (by simp)
                  have KS : KeepBut wr w4 g none := KeepBut.trans (KeepBut.of_below (below_alloc B2 _) g none) K4 (.inl rfl)
                  have p1 := (blk_cell Bp 1)
                  have fz := blk_frozen Bp 1
                  have q0 := fun v => (blk_cell (blk_set Bp 1 v) 0).trans (rfl : _ = some (Value.int .i64 1))
                  have q1 := fun v => (blk_cell (blk_set Bp 1 v) 1).trans (rfl : _ = some (v : Value))
                  have q2 := fun v => (blk_cell (blk_set Bp 1 v) 2).trans (rfl : _ = some (Value.string ⟨#[]⟩ : Value))
                  have wle : wr.heap.size ≤ w2.heap.size := B2.size
                  have HO4 : ∀ v, Kd.R k25 25 (w4.setCell ⟨w2.heap.size, 1, none⟩ v) WB.heap.size (fun _ => True) u4 out := fun v => Kd.R_rd HO.out HI.out (by decide) (fun k hlt hne => (Below.heap_setCell w4 _ v k (by show k ≠ w2.heap.size; omega)).trans (KS.2 k hlt hne (by simp)))
                  have B5 : ∀ v, Below WB.heap.size WB (w4.setCell ⟨w2.heap.size, 1, none⟩ v) := fun v => below_set B4 (by have := HB1.out.size; omega)
                  have I5 : ∀ v, IsRd WB (w4.setCell ⟨w2.heap.size, 1, none⟩ v) g (f.drop 1) := fun v => IsRd.far I4 (by show g ≠ w2.heap.size; omega) v
                  have hcw : IntKind.i64.wrap (rd f 0) = rd f 0 := by have := HI2.bytes.rd 0; rw [IntKind.wrap_i64]; omega
                  go_wp2_with (first | ((with_reducible refine gate_builtin (b := .append) (xs := #[.tmp 100, .tmp 102]) rfl ?_); at_builtin; refine Kd.R_append k25 (w0 := WB) WB.heap.size rfl (.tmp 100) (.tmp 102) 22 25 (.agg #[(.int .i64 0), (.int .i64 0), (.string ⟨#[]⟩)]) 32 rfl Try.underlying22 info25 rfl (by decide) (by omega) u4 out (⟨1, rd f 0, ⟨#[]⟩⟩ : S25) [.int .i64 1, .int .i64 (rd f 0), .string (⟨#[]⟩)] (fun _ => True) (fun _ => False) rfl (by first | (go_simp; done) | (go_simp; rfl)) ?aP (fun _ hk => hk.elim) ?aF ?aO ?aB ?aS ?aL ?_; (case aP => exact k25_mkM _ _ _ (⟨1, rd f 0, ⟨#[]⟩⟩ : S25)); (case aB => exact B5 _); (case aF => exact (fun _ _ => trivial)); (case aO => exact HO4 _); (case aS => exact (B5 _).size); (case aL => omega); intro v1 w8 ho hb hg hat; have IO := IsRd.grown (I5 _) hg (Kd.R_ne_rd HO.out HI.out (by decide))))
                  go_roundg k1
                  case measure => have := HK1.out; omega
                  case rel => exact ⟨_, _, _, rfl, H', ⟨by have := HK1.out; omega⟩, ⟨ho⟩, ⟨IO⟩, ⟨hb⟩⟩
                · rw [if_neg hl] at H'
                  have hl' : ((f.length : Int) ≥ 1) = False := eq_false (by omega)
                  have hl2 : decide ((1 : Int) ≤ (f.length : Int)) = false := decide_eq_false (by omega)
                  have Hr := Option.some.inj H'.out
                  simp only [Prod.mk.injEq] at Hr
                  obtain ⟨rfl, rfl, rfl⟩ := Hr
                  go_wp2_with fail
                  go_ret3
                  exact ⟨_, by first | rfl | (simp; done), Kd.R_nil _ _ _ _ _, below_alloc (Below.trans HB.out (B2.mono HB.out.size)) _⟩
              · rw [if_neg hk] at H'
                have hkb1 : ((rd_T25 l1 i).f0 == 1) = false := beq_eq_false_iff_ne.mpr hk
                clear hk
                by_cases hk : (rd_T25 l1 i).f0 = 2
                · rw [hk] at k0 Bk
                  have k0a := fun o => blk_cell (blk_alloc Bk o) 0
                  have k1a := fun o => blk_cell (blk_alloc Bk o) 1
                  rw [if_pos hk] at H'
                  by_cases hl : 2 ≤ f.length
                  · rw [if_pos hl] at H'
                    have hl' : ((f.length : Int) ≥ 2) = True := eq_true (by omega)
                    have hl2 : decide ((2 : Int) ≤ (f.length : Int)) = true := decide_eq_true (by omega)
                    go_wp2_with fail
                    refine (pq_Reader_Int16.calls g f WB _ (HI2.below (below_alloc (Below.refl _ _) _)) (below_alloc (below_step HB1.out B2) _) hl).mono ?_
                    rintro e w4 ⟨rfl, I4, B4, K4⟩
                    have gp_ne : w2.heap.size ≠ g := by have := HI2.lt; omega
                    have Bp : w4.heap[w2.heap.size]? = some (.cells #[.int .i64 2, .int .i64 0, .string ⟨#[]⟩] 25 (0, 0)) := K4.blk (by simpa using heap_alloc_new w2 _) gp_ne (by simp)
                    have KS : KeepBut wr w4 g none := KeepBut.trans (KeepBut.of_below (below_alloc B2 _) g none) K4 (.inl rfl)
                    have p1 := (blk_cell Bp 1)
                    have fz := blk_frozen Bp 1
                    have q0 := fun v => (blk_cell (blk_set Bp 1 v) 0).trans (rfl : _ = some (Value.int .i64 2))
                    have q1 := fun v => (blk_cell (blk_set Bp 1 v) 1).trans (rfl : _ = some (v : Value))
                    have q2 := fun v => (blk_cell (blk_set Bp 1 v) 2).trans (rfl : _ = some (Value.string ⟨#[]⟩ : Value))
                    have wle : wr.heap.size ≤ w2.heap.size := B2.size
                    have HO4 : ∀ v, Kd.R k25 25 (w4.setCell ⟨w2.heap.size, 1, none⟩ v) WB.heap.size (fun _ => True) u4 out := fun v => Kd.R_rd HO.out HI.out (by decide) (fun k hlt hne => (Below.heap_setCell w4 _ v k (by show k ≠ w2.heap.size; omega)).trans (KS.2 k hlt hne (by simp)))
                    have B5 : ∀ v, Below WB.heap.size WB (w4.setCell ⟨w2.heap.size, 1, none⟩ v) := fun v => below_set B4 (by have := HB1.out.size; omega)
                    have I5 : ∀ v, IsRd WB (w4.setCell ⟨w2.heap.size, 1, none⟩ v) g (f.drop 2) := fun v => IsRd.far I4 (by show g ≠ w2.heap.size; omega) v
                    have hcw : IntKind.i64.wrap (rd f 0 * 256 + rd f 1) = rd f 0 * 256 + rd f 1 := by have := HI2.bytes.rd 0; have := HI2.bytes.rd 1; rw [IntKind.wrap_i64]; omega
                    go_wp2_with (first | ((with_reducible refine gate_builtin (b := .append) (xs := #[.tmp 100, .tmp 102]) rfl ?_); at_builtin; refine Kd.R_append k25 (w0 := WB) WB.heap.size rfl (.tmp 100) (.tmp 102) 22 25 (.agg #[(.int .i64 0), (.int .i64 0), (.string ⟨#[]⟩)]) 32 rfl Try.underlying22 info25 rfl (by decide) (by omega) u4 out (⟨2, rd f 0 * 256 + rd f 1, ⟨#[]⟩⟩ : S25) [.int .i64 2, .int .i64 (rd f 0 * 256 + rd f 1), .string (⟨#[]⟩)] (fun _ => True) (fun _ => False) rfl (by first | (go_simp; done) | (go_simp; rfl)) ?aP (fun _ hk => hk.elim) ?aF ?aO ?aB ?aS ?aL ?_; (case aP => exact k25_mkM _ _ _ (⟨2, rd f 0 * 256 + rd f 1, ⟨#[]⟩⟩ : S25)); (case aB => exact B5 _); (case aF => exact (fun _ _ => trivial)); (case aO => exact HO4 _); (case aS => exact (B5 _).size); (case aL => omega); intro v1 w8 ho hb hg hat; have IO := IsRd.grown (I5 _) hg (Kd.R_ne_rd HO.out HI.out (by decide))))
                    go_roundg k1
                    case measure => have := HK1.out; omega
                    case rel => exact ⟨_, _, _, rfl, H', ⟨by have := HK1.out; omega⟩, ⟨ho⟩, ⟨IO⟩, ⟨hb⟩⟩
                  · rw [if_neg hl] at H'
                    have hl' : ((f.length : Int) ≥ 2) = False := eq_false (by omega)
                    have hl2 : decide ((2 : Int) ≤ (f.length : Int)) = false := decide_eq_false (by omega)
                    have Hr := Option.some.inj H'.out
                    simp only [Prod.mk.injEq] at Hr
                    obtain ⟨rfl, rfl, rfl⟩ := Hr
                    go_wp2_with fail
                    go_ret3
                    exact ⟨_, by first | rfl | (simp; done), Kd.R_nil _ _ _ _ _, below_alloc (Below.trans HB.out (B2.mono HB.out.size)) _⟩
                · rw [if_neg hk] at H'
                  have hkb2 : ((rd_T25 l1 i).f0 == 2) = false := beq_eq_false_iff_ne.mpr hk
                  clear hk
                  by_cases hk : (rd_T25 l1 i).f0 = 3
                  · rw [hk] at k0 Bk
                    have k0a := fun o => blk_cell (blk_alloc Bk o) 0
                    have k1a := fun o => blk_cell (blk_alloc Bk o) 1
                    rw [if_pos hk] at H'
                    by_cases hl : 4 ≤ f.length
                    · rw [if_pos hl] at H'
                      have hl' : ((f.length : Int) ≥ 4) = True := eq_true (by omega)
                      have hl2 : decide ((4 : Int) ≤ (f.length : Int)) = true := decide_eq_true (by omega)
                      go_wp2_with fail
                      refine (pq_Reader_Int32.calls g f WB _ (HI2.below (below_alloc (Below.refl _ _) _)) (below_alloc (below_step HB1.out B2) _) hl).mono ?_
                      obtain ⟨X, hX⟩ : ∃ X, X = IntKind.i32.wrap (rd f 0 * 16777216 + rd f 1 * 65536 + rd f 2 * 256 + rd f 3) := ⟨_, rfl⟩
                      rintro e w4 ⟨he, I4, B4, K4⟩
                      rw [← hX] at he H'
                      subst he
                      have hcw : IntKind.i64.wrap X = X := by rw [hX, IntKind.wrap_i64, IntKind.wrap_i32]; omega
                      have hX' := Aside0.mk hX
                      clear hX
                      have gp_ne : w2.heap.size ≠ g := by have := HI2.lt; omega
                      have Bp : w4.heap[w2.heap.size]? = some (.cells #[.int .i64 3, .int .i64 0, .string ⟨#[]⟩] 25 (0, 0)) := K4.blk (by simpa using heap_alloc_new w2 _) gp_ne (by simp)
                      have KS : KeepBut wr w4 g none := KeepBut.trans (KeepBut.of_below (below_alloc B2 _) g none) K4 (.inl rfl)
                      have p1 := (blk_cell Bp 1)
                      have fz := blk_frozen Bp 1
                      have q0 := fun v => (blk_cell (blk_set Bp 1 v) 0).trans (rfl : _ = some (Value.int .i64 3))
                      have q1 := fun v => (blk_cell (blk_set Bp 1 v) 1).trans (rfl : _ = some (v : Value))
                      have q2 := fun v => (blk_cell (blk_set Bp 1 v) 2).trans (rfl : _ = some (Value.string ⟨#[]⟩ : Value))
                      have wle : wr.heap.size ≤ w2.heap.size := B2.size
                      have HO4 : ∀ v, Kd.R k25 25 (w4.setCell ⟨w2.heap.size, 1, none⟩ v) WB.heap.size (fun _ => True) u4 out := fun v => Kd.R_rd HO.out HI.out (by decide) (fun k hlt hne => (Below.heap_setCell w4 _ v k (by show k ≠ w2.heap.size; omega)).trans (KS.2 k hlt hne (by simp)))
                      have B5 : ∀ v, Below WB.heap.size WB (w4.setCell ⟨w2.heap.size, 1, none⟩ v) := fun v => below_set B4 (by have := HB1.out.size; omega)
                      have I5 : ∀ v, IsRd WB (w4.setCell ⟨w2.heap.size, 1, none⟩ v) g (f.drop 4) := fun v => IsRd.far I4 (by show g ≠ w2.heap.size; omega) v

                      go_wp2_with (first | ((with_reducible refine gate_builtin (b := .append) (xs := #[.tmp 100, .tmp 102]) rfl ?_); at_builtin; refine Kd.R_append k25 (w0 := WB) WB.heap.size rfl (.tmp 100) (.tmp 102) 22 25 (.agg #[(.int .i64 0), (.int .i64 0), (.string ⟨#[]⟩)]) 32 rfl Try.underlying22 info25 rfl (by decide) (by omega) u4 out (⟨3, X, ⟨#[]⟩⟩ : S25) [.int .i64 3, .int .i64 (X), .string (⟨#[]⟩)] (fun _ => True) (fun _ => False) rfl (by first | (go_simp; done) | (go_simp; rfl)) ?aP (fun _ hk => hk.elim) ?aF ?aO ?aB ?aS ?aL ?_; (case aP => exact k25_mkM _ _ _ (⟨3, X, ⟨#[]⟩⟩ : S25)); (case aB => exact B5 _); (case aF => exact (fun _ _ => trivial)); (case aO => exact HO4 _); (case aS => exact (B5 _).size); (case aL => omega); intro v1 w8 ho hb hg hat; have IO := IsRd.grown (I5 _) hg (Kd.R_ne_rd HO.out HI.out (by decide))))
                      go_roundg k1
                      case measure => have := HK1.out; omega
                      case rel => exact ⟨_, _, _, rfl, H', ⟨by have := HK1.out; omega⟩, ⟨ho⟩, ⟨IO⟩, ⟨hb⟩⟩
                    · rw [if_neg hl] at H'
                      have hl' : ((f.length : Int) ≥ 4) = False := eq_false (by omega)
                      have hl2 : decide ((4 : Int) ≤ (f.length : Int)) = false := decide_eq_false (by omega)
                      have Hr := Option.some.inj H'.out
                      simp only [Prod.mk.injEq] at Hr
                      obtain ⟨rfl, rfl, rfl⟩ := Hr
                      go_wp2_with fail
                      go_ret3
                      exact ⟨_, by first | rfl | (simp; done), Kd.R_nil _ _ _ _ _, below_alloc (Below.trans HB.out (B2.mono HB.out.size)) _⟩
                  · rw [if_neg hk] at H'
                    have hkb3 : ((rd_T25 l1 i).f0 == 3) = false := beq_eq_false_iff_ne.mpr hk
                    clear hk
                    by_cases hk : (rd_T25 l1 i).f0 = 4
                    · rw [hk] at k0 Bk
                      have k0a := fun o => blk_cell (blk_alloc Bk o) 0
                      have k1a := fun o => blk_cell (blk_alloc Bk o) 1
                      rw [if_pos hk] at H'
                      obtain ⟨b, hE, H2⟩ := Option.bind_eq_some_iff.mp H'.out
                      have HE := Aside0.mk hE
                      replace H' := Aside0.mk H2
                      clear hE H2
                      go_wp2_with fail
                      refine (impl_ends.calls k1 _ b _ HE.out).mono ?_
                      rintro e w3 ⟨rfl, hdr⟩
                      have B3_ := Below.trans (below_alloc (Below.refl _ _) _) (hdr.below.mono (by simp))
                      have B3 : Below w2.heap.size w2 w3 := B3_
                      have Bp3 := (hdr.below.block w2.heap.size (by simp)).trans (heap_alloc_new w2 _)
                      have Bk3 := (B3.block _ (blk_lt Bk)).trans Bk
                      have k03 := blk_cell Bk3 0
                      have k13 := blk_cell Bk3 1
                      have HI3 := HI2.below B3
                      cases b with
                      | true =>
                        replace H' : Aside0 (((pq_zzIndex.f k1 (strOfNums f) (⟨#[0]⟩ : ByteArray)).bind fun j => if 0 ≤ j ∧ j < f.length then impl_Unframed.l0 k1 l1 (f.drop (j.toNat + 1)) (out ++ [⟨4, 0, strOfNums (f.take j.toNat)⟩]) (wrap64 (i + 1)) else none) = some (r1, r2, r3)) := H'
                        obtain ⟨j, hJ, H2⟩ := Option.bind_eq_some_iff.mp H'.out
                        by_cases hj : 0 ≤ j ∧ j < f.length
                        · rw [if_pos hj] at H2
                          replace H' := Aside0.mk H2
                          clear H2
                          obtain ⟨jn, rfl⟩ := Int.eq_ofNat_of_zero_le hj.1
                          have hjl : jn < f.length := by omega
                          have HJ := Aside0.mk hJ
                          clear hJ
                          rw [Int.toNat_natCast] at H'
                          go_wp2_with fail
                          refine (pq_Reader_Text.calls g f k1 jn WB _ HI3 (below_step HB1.out (Below.trans B2 (B3.mono B2.size))) HJ.out hjl).mono ?_
                          rintro e w4 ⟨rfl, I4, B4, K4⟩
                          have gp_ne : w2.heap.size ≠ g := by have := HI2.lt; omega
                          have Bp : w4.heap[w2.heap.size]? = some (.cells #[.int .i64 4, .int .i64 0, .string ⟨#[]⟩] 25 (0, 0)) := K4.blk (Bp3) gp_ne (by simp)
                          have KS : KeepBut wr w4 g none := KeepBut.trans (KeepBut.of_below (Below.trans B2 (B3.mono B2.size)) g none) K4 (.inl rfl)
                          have p1 := (blk_cell Bp 2)
                          have fz := blk_frozen Bp 2
                          have q0 := fun v => (blk_cell (blk_set Bp 2 v) 0).trans (rfl : _ = some (Value.int .i64 4))
                          have q1 := fun v => (blk_cell (blk_set Bp 2 v) 1).trans (rfl : _ = some (Value.int .i64 0 : Value))
                          have q2 := fun v => (blk_cell (blk_set Bp 2 v) 2).trans (rfl : _ = some (v : Value))
                          have wle : wr.heap.size ≤ w2.heap.size := B2.size
                          have HO4 : ∀ v, Kd.R k25 25 (w4.setCell ⟨w2.heap.size, 2, none⟩ v) WB.heap.size (fun _ => True) u4 out := fun v => Kd.R_rd HO.out HI.out (by decide) (fun k hlt hne => (Below.heap_setCell w4 _ v k (by show k ≠ w2.heap.size; omega)).trans (KS.2 k hlt hne (by simp)))
                          have B5 : ∀ v, Below WB.heap.size WB (w4.setCell ⟨w2.heap.size, 2, none⟩ v) := fun v => below_set B4 (by have := HB1.out.size; omega)
                          have I5 : ∀ v, IsRd WB (w4.setCell ⟨w2.heap.size, 2, none⟩ v) g (f.drop (jn + 1)) := fun v => IsRd.far I4 (by show g ≠ w2.heap.size; omega) v

                          go_wp2_with (first | ((with_reducible refine gate_builtin (b := .append) (xs := #[.tmp 100, .tmp 102]) rfl ?_); at_builtin; refine Kd.R_append k25 (w0 := WB) WB.heap.size rfl (.tmp 100) (.tmp 102) 22 25 (.agg #[(.int .i64 0), (.int .i64 0), (.string ⟨#[]⟩)]) 32 rfl Try.underlying22 info25 rfl (by decide) (by omega) u4 out (⟨4, 0, strOfNums (f.take jn)⟩ : S25) [.int .i64 4, .int .i64 (0), .string (strOfNums (f.take jn))] (fun _ => True) (fun _ => False) rfl (by first | (go_simp; done) | (go_simp; rfl)) ?aP (fun _ hk => hk.elim) ?aF ?aO ?aB ?aS ?aL ?_; (case aP => exact k25_mkM _ _ _ (⟨4, 0, strOfNums (f.take jn)⟩ : S25)); (case aB => exact B5 _); (case aF => exact (fun _ _ => trivial)); (case aO => exact HO4 _); (case aS => exact (B5 _).size); (case aL => omega); intro v1 w8 ho hb hg hat; have IO := IsRd.grown (I5 _) hg (Kd.R_ne_rd HO.out HI.out (by decide))))
                          go_roundg k1
                          case measure => have := HK1.out; omega
                          case rel => exact ⟨_, _, _, rfl, H', ⟨by have := HK1.out; omega⟩, ⟨ho⟩, ⟨IO⟩, ⟨hb⟩⟩
                        · rw [if_neg hj] at H2
                          exact absurd H2 (by simp)
                      | false =>
                        have Hr := Option.some.inj H'.out
                        simp only [Prod.mk.injEq] at Hr
                        obtain ⟨rfl, rfl, rfl⟩ := Hr
                        go_wp2_with fail
                        go_ret3
                        exact ⟨_, by first | rfl | (simp; done), Kd.R_nil _ _ _ _ _, (Below.trans HB.out ((Below.trans B2 (B3.mono B2.size)).mono HB.out.size))⟩
                    · rw [if_neg hk] at H'
                      have hkb4 : ((rd_T25 l1 i).f0 == 4) = false := beq_eq_false_iff_ne.mpr hk
                      clear hk
                      by_cases hk : (rd_T25 l1 i).f0 = 5
                      · rw [hk] at k0 Bk
                        have k0a := fun o => blk_cell (blk_alloc Bk o) 0
                        have k1a := fun o => blk_cell (blk_alloc Bk o) 1
                        rw [if_pos hk] at H'
                        by_cases hn0 : 0 ≤ (rd_T25 l1 i).f1
                        · rw [if_pos hn0] at H'
                          have hn0b : decide ((rd_T25 l1 i).f1 ≥ 0) = true := decide_eq_true hn0
                          have hn0c : ((rd_T25 l1 i).f1 ≥ 0) = True := eq_true hn0
                          by_cases hl : (rd_T25 l1 i).f1 ≤ f.length
                          · rw [if_pos hl] at H'
                            have hlb : decide ((rd_T25 l1 i).f1 ≤ (f.length : Int)) = true := decide_eq_true hl
                            have hcw : IntKind.i64.wrap (f.length : Int) = (f.length : Int) := by have := HI2.max; rw [IntKind.wrap_i64]; omega
                            obtain ⟨nn, hnn⟩ := Int.eq_ofNat_of_zero_le hn0
                            have hll : nn ≤ f.length := by omega
                            rw [hnn] at H' hn0b hn0c hlb k0a k1a Bk
                            rw [Int.toNat_natCast] at H'
                            have hnn' := Aside0.mk hnn
                            clear hnn hn0 hl
                            go_wp2_with fail
                            have tok_ := trivial
                            have W_a : ∀ o, Below w2.heap.size w2 (w2.alloc o) := fun o => below_alloc (Below.refl _ _) o
                            have W_b : ∀ o v, Below w2.heap.size w2 ((w2.alloc o).setCell ⟨w2.heap.size, 1, none⟩ v) := fun o v => below_set (W_a o) (Nat.le_refl _)
                            have kne : wr.heap.size ≠ w2.heap.size := Nat.ne_of_lt (blk_lt Bk)
                            have gp_ne : w2.heap.size ≠ g := by have := HI2.lt; omega
                            have k_ne : wr.heap.size ≠ g := by have := HI.out.lt; omega
                            have B2w := below_step HB1.out B2
                            have pa : ∀ o : Obj, (w2.alloc o).heap[w2.heap.size]? = some o := fun o => heap_alloc_new w2 o
                            have CV : ∀ W, Below WB.heap.size WB W → ∀ A c, Kd.C (Kd.int .u8) WB A nn (f.take nn) → (convert 58 9 (.slice A nn c)).run Try.prog W = .ok (.string (strOfNums (f.take nn))) W := fun W hW A c h => Kd.C_string (P := Try.prog) (c := c) Try.underlying58 Try.underlying5 Try.underlying9 (Kd.C_below h hW)
                            go_region_held3 (fun w' => w'.cell? ⟨wr.heap.size, 1, none⟩ = some (.int .i64 (nn : Int)) ∧ ∀ A c, Kd.C (Kd.int .u8) WB A nn (f.take nn) → (convert 58 9 (.slice A nn c)).run Try.prog w' = .ok (.string (strOfNums (f.take nn))) w') (first | exact ⟨k1a _, CV _ (below_step B2w (W_a _))⟩ | exact ⟨k1a _, CV _ (below_step B2w (below_drew (W_a _)))⟩ | exact ⟨k14, CV _ B4⟩ | exact ⟨k14a _, CV _ (below_set B4 B2w.size)⟩ | exact ⟨k14b _, CV _ (below_set B4 B2w.size)⟩ | exact ⟨k14c _ _, CV _ (below_set (below_set B4 B2w.size) B2w.size)⟩)
                              (first | (go_at_call 36; refine (pq_Reader_Next.calls g f nn WB _ ?i1 ?i2 hll).mono ?_; (case i1 => first | exact HI2.below (below_drew (W_a _)) | exact HI2.below (below_drew (W_b _ _)) | exact HI2.below (W_a _) | exact HI2.below (W_b _ _)); (case i2 => first | exact below_step B2w (below_drew (W_a _)) | exact below_step B2w (below_drew (W_b _ _)) | exact below_step B2w (W_a _) | exact below_step B2w (W_b _ _)); rintro e w4 ⟨A4, c4_, rfl, hc4, hC4, I4, B4, K4⟩; have Bp : w4.heap[w2.heap.size]? = some (.cells #[.int .i64 5, .int .i64 0, .string ⟨#[]⟩] 25 (0, 0)) := K4.blk (pa _) gp_ne (by simp); have Bk4 := K4.blk (blk_alloc Bk _) k_ne (by simp); have k14 := blk_cell Bk4 1; have k14a := fun v => blk_cell (blk_far Bk4 (p := ⟨w2.heap.size, 1, none⟩) kne v) 1; have k14b := fun v => blk_cell (blk_far Bk4 (p := ⟨w2.heap.size, 2, none⟩) kne v) 1; have k14c := fun v t => blk_cell (blk_far (blk_far Bk4 (p := ⟨w2.heap.size, 1, none⟩) kne v) (p := ⟨w2.heap.size, 2, none⟩) kne t) 1; have p1 := blk_cell Bp 1; have p2 := blk_cell Bp 2; have fz1 := blk_frozen Bp 1; have fz2 := blk_frozen Bp 2; have Bp1 := fun v => blk_set Bp 1 v; have p12 := fun v => blk_cell (Bp1 v) 2; have fz12 := fun v => blk_frozen (Bp1 v) 2))
                            all_goals
                              have KS : KeepBut wr w4 g none := KeepBut.trans (KeepBut.of_below (below_alloc B2 _) g none) K4 (.inl rfl)
                              have q0 := fun v t => (blk_cell (blk_set (blk_set Bp 1 v) 2 t) 0).trans (rfl : _ = some (Value.int .i64 5))
                              have q1 := fun v t => (blk_cell (blk_set (blk_set Bp 1 v) 2 t) 1).trans (rfl : _ = some (v : Value))
                              have q2 := fun v t => (blk_cell (blk_set (blk_set Bp 1 v) 2 t) 2).trans (rfl : _ = some (t : Value))
                              have wle : wr.heap.size ≤ w2.heap.size := B2.size
                              have wle2 : WB.heap.size ≤ w2.heap.size := B2w.size
                              have HO4 : ∀ v t, Kd.R k25 25 ((w4.setCell ⟨w2.heap.size, 1, none⟩ v).setCell ⟨w2.heap.size, 2, none⟩ t) WB.heap.size (fun _ => True) u4 out := fun v t => Kd.R_rd HO.out HI.out (by decide) (fun k hlt hne => ((Below.heap_setCell _ _ t k (by show k ≠ w2.heap.size; omega)).trans (Below.heap_setCell w4 _ v k (by show k ≠ w2.heap.size; omega))).trans (KS.2 k hlt hne (by simp)))
                              have B5 : ∀ v t, Below WB.heap.size WB ((w4.setCell ⟨w2.heap.size, 1, none⟩ v).setCell ⟨w2.heap.size, 2, none⟩ t) := fun v t => below_set (below_set B4 wle2) wle2
                              have I5 : ∀ v t, IsRd WB ((w4.setCell ⟨w2.heap.size, 1, none⟩ v).setCell ⟨w2.heap.size, 2, none⟩ t) g (f.drop nn) := fun v t => IsRd.far (IsRd.far I4 (by show g ≠ w2.heap.size; omega) v) (by show g ≠ w2.heap.size; omega) t
                              clear p12 fz12 Bp1 p1 p2 CV
                              go_wp2_with (first | ((with_reducible refine gate_builtin (b := .append) (xs := #[.tmp 100, .tmp 102]) rfl ?_); at_builtin; refine Kd.R_append k25 (w0 := WB) WB.heap.size rfl (.tmp 100) (.tmp 102) 22 25 (.agg #[(.int .i64 0), (.int .i64 0), (.string ⟨#[]⟩)]) 32 rfl Try.underlying22 info25 rfl (by decide) (by omega) u4 out (⟨5, (nn : Int), strOfNums (f.take nn)⟩ : S25) [.int .i64 5, .int .i64 ((nn : Int)), .string (strOfNums (f.take nn))] (fun _ => True) (fun _ => False) rfl (by first | (go_simp; done) | (go_simp; rfl)) ?aP (fun _ hk => hk.elim) ?aF ?aO ?aB ?aS ?aL ?_; (case aP => exact k25_mkM _ _ _ (⟨5, (nn : Int), strOfNums (f.take nn)⟩ : S25)); (case aB => exact B5 _ _); (case aF => exact (fun _ _ => trivial)); (case aO => exact HO4 _ _); (case aS => exact (B5 _ _).size); (case aL => omega); intro v1 w8 ho hb hg hat; have IO := IsRd.grown (I5 _ _) hg (Kd.R_ne_rd HO.out HI.out (by decide))))
                              go_roundg k1
                              case measure => have := HK1.out; omega
                              case rel => exact ⟨_, _, _, rfl, H', ⟨by have := HK1.out; omega⟩, ⟨ho⟩, ⟨IO⟩, ⟨hb⟩⟩
                          · rw [if_neg hl] at H'
                            have hlb : decide ((rd_T25 l1 i).f1 ≤ (f.length : Int)) = false := decide_eq_false hl
                            have hcw : IntKind.i64.wrap (f.length : Int) = (f.length : Int) := by have := HI2.max; rw [IntKind.wrap_i64]; omega
                            have Hr := Option.some.inj H'.out
                            simp only [Prod.mk.injEq] at Hr
                            obtain ⟨rfl, rfl, rfl⟩ := Hr
                            go_wp2_with fail
                            go_ret3
                            exact ⟨_, by first | rfl | (simp; done), Kd.R_nil _ _ _ _ _, below_alloc (Below.trans HB.out (B2.mono HB.out.size)) _⟩
                        · rw [if_neg hn0] at H'
                          have hn0b : decide ((rd_T25 l1 i).f1 ≥ 0) = false := decide_eq_false hn0
                          have hn0c : ((rd_T25 l1 i).f1 ≥ 0) = False := eq_false hn0
                          have Hr := Option.some.inj H'.out
                          simp only [Prod.mk.injEq] at Hr
                          obtain ⟨rfl, rfl, rfl⟩ := Hr
                          go_wp2_with fail
                          go_ret3
                          exact ⟨_, by first | rfl | (simp; done), Kd.R_nil _ _ _ _ _, below_alloc (Below.trans HB.out (B2.mono HB.out.size)) _⟩
                      · rw [if_neg hk] at H'
                        have hkb5 : ((rd_T25 l1 i).f0 == 5) = false := beq_eq_false_iff_ne.mpr hk
                        clear hk
                        have k0a := fun o => blk_cell (blk_alloc Bk o) 0
                        have k1a := fun o => blk_cell (blk_alloc Bk o) 1
                        have Hr := Option.some.inj H'.out
                        simp only [Prod.mk.injEq] at Hr
                        obtain ⟨rfl, rfl, rfl⟩ := Hr
                        go_wp2_with fail
                        go_ret3
                        exact ⟨_, by first | rfl | (simp; done), Kd.R_nil _ _ _ _ _, below_alloc (Below.trans HB.out (B2.mono HB.out.size)) _⟩
            · rw [if_neg c4] at H
              exact absurd H (by simp)
          · rw [if_neg c3] at H
            exact absurd H (by simp)
        · rw [if_neg c2] at H
          have c2b : decide (i < (l1.length : Int)) = false := decide_eq_false c2
          have c2c : (i < (l1.length : Int)) = False := eq_false c2
          have Hr := Option.some.inj H
          simp only [Prod.mk.injEq] at Hr
          obtain ⟨rfl, rfl, rfl⟩ := Hr
          have CV : ∀ W, Below WB.heap.size WB W → ∀ A c, Kd.C (Kd.int .u8) WB A f.length f → (convert 58 9 (.slice A f.length c)).run Try.prog W = .ok (.string (strOfNums f)) W := fun W hW A c h => Kd.C_string (P := Try.prog) (c := c) Try.underlying58 Try.underlying5 Try.underlying9 (Kd.C_below h hW)
          go_wp2_with fail
          go_region_held3 (fun w' => ∀ A c, Kd.C (Kd.int .u8) WB A f.length f → (convert 58 9 (.slice A f.length c)).run Try.prog w' = .ok (.string (strOfNums f)) w') (first | exact CV _ HB1.out | exact CV _ (below_drew HB1.out) | exact CV _ B4)
            (first | (go_at_call 30; refine (pq_Reader_Rest.calls2 g f WB _ ?i1).mono ?_; (case i1 => exact HI.out.below (below_drew (Below.refl _ _))); rintro e w4 ⟨A4, c4_, rfl, hc4, hC4, B4_⟩; have B4 : Below WB.heap.size WB w4 := below_step (below_drew HB1.out) B4_))
          have HO4 := Kd.R_below HO.out (Below.trans (below_drew (Below.refl _ _)) B4_)
          clear CV
          go_wp2
          go_ret3
          exact ⟨_, by first | rfl | (simp; done), Kd.R_lower HO4 HW0.out.size, Below.trans HW0.out (B4.mono HW0.out.size)⟩
  · rw [if_neg hs] at H
    exact absurd H (by simp)

end Go.Proofs.Ythcikkjjegfblab.P
