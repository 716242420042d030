-- Written by the program wip/myprint.py of this session, over the kit's print of the translation. Lean checks it.
import Derived.Test.YthcikkjjegfblabLibMsg
import Derived.Test.YthcikkjjegfblabPx0
import Derived.Test.YthcikkjjegfblabPx2
namespace Go.Proofs.Ythcikkjjegfblab.P
open Go.RowKit Go.Proofs.YthcikkjjegfblabW.PrintWords Go.Proofs.YthcikkjjegfblabW.PrintLast Go.Proofs.YthcikkjjegfblabW.PrintMore
attribute [local go_sem] max2_int min2_int max_two min_two max_three min_three max_four min_four   -- for this text's walks alone
set_option linter.unusedVariables false
set_option linter.unusedSimpArgs false

/-! ### pq_zzIndex: function 75 -/
def pq_zzIndex.l0 : Nat → ByteArray → ByteArray → Int → Option (Int)
  | 0, _, _, _ => none
  | k + 1, x0, x1, x5 => if (wrap64 (x5 + (x1.size : Int))) ≤ (x0.size : Int) then (if 0 ≤ x5 then (if x5 ≤ (wrap64 (x5 + (x1.size : Int))) then (if (x0.extract (x5 : Int).toNat ((wrap64 (x5 + (x1.size : Int))) : Int).toNat).toList = x1.toList then (some x5) else (pq_zzIndex.l0 k x0 x1 (wrap64 (x5 + 1)))) else (none)) else (none)) else (some (-1))
def pq_zzIndex.f (k : Nat) (a0 : ByteArray) (a1 : ByteArray) : Option (Int) := pq_zzIndex.l0 k a0 a1 0
theorem pq_zzIndex.mono_l : ∀ k, (∀ y0 y1 y2, LeO (pq_zzIndex.l0 k y0 y1 y2) (pq_zzIndex.l0 (k + 1) y0 y1 y2))
  | 0 => fun _ _ _ r h => by simp [pq_zzIndex.l0] at h
  | k + 1 => by
    have ih0 := pq_zzIndex.mono_l k
    · intro y0 y1 y2
      unfold pq_zzIndex.l0
      repeat' first
      | (with_reducible exact ih0 _ _ _)
      | (with_reducible exact LeO.refl _)
      | (with_reducible exact LeO.none _)
      | (with_reducible refine LeO.ite ?_ ?_)
      | (with_reducible refine LeO.bind ?_ (fun _ => ?_))
      | exact ih0 _ _ _
      | exact LeO.none _
      | refine LeO.ite ?_ ?_
      | refine LeO.bind ?_ (fun _ => ?_)
theorem pq_zzIndex.mono : ∀ a0 a1 k, LeO (pq_zzIndex.f k a0 a1) (pq_zzIndex.f (k + 1) a0 a1) := by
  intro a0 a1 k
  have ih0 := pq_zzIndex.mono_l k
  unfold pq_zzIndex.f
  repeat' first
      | (with_reducible exact ih0 _ _ _)
      | (with_reducible exact LeO.refl _)
      | (with_reducible exact LeO.none _)
      | (with_reducible refine LeO.ite ?_ ?_)
      | (with_reducible refine LeO.bind ?_ (fun _ => ?_))
      | exact ih0 _ _ _
      | exact LeO.none _
      | refine LeO.ite ?_ ?_
      | refine LeO.bind ?_ (fun _ => ?_)
set_option maxHeartbeats 8000000 in
set_option maxRecDepth 100000 in
theorem pq_zzIndex.calls (k : Nat) (a0 : ByteArray) (a1 : ByteArray) (r : Int) (w : World) (h : pq_zzIndex.f k a0 a1 = some r) :
    Calls Try.prog 75 #[.string a0, .string a1] w fun e w' => e = .returned (.int .i64 r) ∧ Drawn0 w w' := by
  have H : (pq_zzIndex.l0 k a0 a1 0) = some r := h
  clear h
  have H' := Aside0.mk H
  clear H
  go_enter Try.func75, Try.ntmps75
  go_wp2
  go_loopg [5] k (fun kq v5 w' => ∃ (x5_1 : Int), v5 = .int .i64 x5_1 ∧ Aside0 (pq_zzIndex.l0 kq a0 a1 x5_1 = some r) ∧ Aside0 (kq ≤ k) ∧ Drawn0 w w')
  case atStart => exact ⟨(0), (by first | rfl | (simp; done) | (simp [*]; done)), H', ⟨Nat.le_refl _⟩, by repeat (first | exact Drawn0.refl _ | apply Drawn0.step)⟩
  case round =>
    clear H'
    try clear p2
    obtain ⟨x5_1, rfl, HA, HK1, ⟨m1, rfl⟩⟩ := hrel
    cases gk with
    | zero => exact absurd HA.out (by simp [pq_zzIndex.l0])
    | succ k1 =>
      have H := HA.out
      clear HA
      simp only [pq_zzIndex.l0] at H
      by_cases c3 : (wrap64 (x5_1 + (a1.size : Int))) ≤ (a0.size : Int)
      · rw [if_pos c3] at H
        have c3b0 : decide ((wrap64 (x5_1 + (a1.size : Int))) ≤ (a0.size : Int)) = true := decide_eq_true c3
        clear c3
        by_cases c4 : 0 ≤ x5_1
        · rw [if_pos c4] at H
          have c4b0 := eq_true c4
          have c4b1 : decide (0 ≤ x5_1) = true := decide_eq_true c4
          clear c4
          by_cases c5 : x5_1 ≤ (wrap64 (x5_1 + (a1.size : Int)))
          · rw [if_pos c5] at H
            have c5b0 := eq_true c5
            have c5b1 : decide (x5_1 ≤ (wrap64 (x5_1 + (a1.size : Int)))) = true := decide_eq_true c5
            have c6b0 := eq_true (of_decide_eq_true (by first | (with_reducible assumption) | assumption) : (wrap64 (x5_1 + (a1.size : Int))) ≤ (a0.size : Int))
            by_cases c7 : (a0.extract (x5_1 : Int).toNat ((wrap64 (x5_1 + (a1.size : Int))) : Int).toNat).toList = a1.toList
            · rw [if_pos c7] at H
              have c7b0 : ((a0.extract (x5_1 : Int).toNat ((wrap64 (x5_1 + (a1.size : Int))) : Int).toNat).toList == a1.toList) = true := beq_iff_eq.mpr c7
              have c7b1 : ((a0.extract (x5_1 : Int).toNat ((wrap64 (x5_1 + (a1.size : Int))) : Int).toNat).toList != a1.toList) = false := bne_eq_false_iff_eq.mpr c7
              clear c7
              obtain rfl := Option.some.inj H
              go_wp2
              go_ret
              exact ⟨by first | rfl | (simp; done) | (simp [*]; done), by repeat (first | exact Drawn0.refl _ | apply Drawn0.step)⟩
            · rw [if_neg c7] at H
              have c7b0 : ((a0.extract (x5_1 : Int).toNat ((wrap64 (x5_1 + (a1.size : Int))) : Int).toNat).toList == a1.toList) = false := beq_eq_false_iff_ne.mpr c7
              have c7b1 : ((a0.extract (x5_1 : Int).toNat ((wrap64 (x5_1 + (a1.size : Int))) : Int).toNat).toList != a1.toList) = true := bne_iff_ne.mpr c7
              have H' := Aside0.mk H
              clear H
              go_wp2
              go_roundg k1
              case measure => have := HK1.out; omega
              case rel => exact ⟨(wrap64 (x5_1 + 1)), (by first | rfl | (simp; done) | (simp [*]; done)), H', ⟨by have := HK1.out; omega⟩, by repeat (first | exact Drawn0.refl _ | apply Drawn0.step)⟩
          · rw [if_neg c5] at H
            exact absurd H (by simp)
        · rw [if_neg c4] at H
          exact absurd H (by simp)
      · rw [if_neg c3] at H
        have c3b0 : decide ((wrap64 (x5_1 + (a1.size : Int))) ≤ (a0.size : Int)) = false := decide_eq_false c3
        clear c3
        obtain rfl := Option.some.inj H
        go_wp2
        go_ret
        exact ⟨by first | rfl | (simp; done) | (simp [*]; done), by repeat (first | exact Drawn0.refl _ | apply Drawn0.step)⟩

/-! ### errors_New: function 76 -/
def errors_New.f (a0 : ByteArray) : Option (Option Int) := none
set_option maxHeartbeats 8000000 in
set_option maxRecDepth 100000 in
theorem errors_New.calls (a0 : ByteArray) (r : Option Int) (w : World) (h : errors_New.f a0 = some r) :
    Calls Try.prog 76 #[.string a0] w fun e w' => e = .returned (errW r) ∧ Below w.heap.size w w' := by
  have hu146 := Try.underlying146
  have hu97 := Try.underlying97
  have HB := Aside0.mk (Below.refl w.heap.size w)
  have H : (none) = some r := h
  clear h
  exact absurd H (by simp)

/-! ### pq_readBuf_string: function 60 -/
set_option maxHeartbeats 1000000 in
set_option maxRecDepth 100000 in
theorem pq_readBuf_string.calls {tt : TypeId} (g : Nat) (f : List Int) (k i : Nat) (w0 w : World) (hI : IsRdT tt w0 w g f) (hB : Below w0.heap.size w0 w) (hz : pq_zzIndex.f k (strOfNums f) (⟨#[0]⟩ : ByteArray) = some (i : Int)) (hn : i < f.length) :
    Calls Try.prog 60 #[.pointer (some ⟨g, 0, none⟩)] w fun e w' => e = .returned (.string (strOfNums (f.take i))) ∧ IsRdT tt w0 w' g (f.drop (i + 1)) ∧ Below w0.heap.size w0 w' ∧ KeepBut w w' g none := by
  obtain ⟨A, c, hb, hg, hc, hr, hby⟩ := hI
  have hcell : w.cell? ⟨g, 0, none⟩ = some (.slice A f.length c) := (blk_cell hb 0).trans rfl
  have hu1 := Try.underlying100
  have hmax := Kd.C_max hr
  have h2 : (i : Int) ≤ (f.length : Int) := by omega
  have h3 : (i : Int) + 1 ≤ (f.length : Int) := by omega
  have h4 : (i : Int) ≤ (c : Int) := by omega
  have h5 : ((i : Int) < 0) = False := eq_false (by omega)
  have h6 : ((i : Int) + 1).toNat = i + 1 := by omega
  have hw : wrap64 ((i : Int) + 1) = (i : Int) + 1 := by simp only [wrap64, IntKind.wrap_i64]; omega
  have hd := Kd.C_drop (c := c) (m := i + 1) hr (by omega) hc
  have htk := Kd.C_take (m := i) hr (by omega)
  rw [List.length_take, Nat.min_eq_left (by omega)] at htk
  have hl : (f.drop (i + 1)).length = f.length - (i + 1) := List.length_drop
  have hr2 := Kd.C_below hr hB
  have hlt : g < w.heap.size := blk_lt hb
  have fin : ∀ w1 A', Below w.heap.size w w1 → (Kd.int .u8).C w0 A' (f.drop (i + 1)).length (f.drop (i + 1)) → IsRdT tt w0 (w1.setCell ⟨g, 0, none⟩ (.slice A' (f.length - (i + 1)) (c - (i + 1)))) g (f.drop (i + 1)) := fun w1 A' hb1 h => ⟨A', c - (i + 1), by rw [hl]; simpa using blk_set ((hb1.block g hlt).trans hb) 0 (.slice A' (f.length - (i + 1)) (c - (i + 1))), hg, by omega, h, fun x hx => hby x (List.mem_of_mem_drop hx)⟩
  have hk : ∀ w1 u, Below w.heap.size w w1 → KeepBut w (w1.setCell ⟨g, 0, none⟩ u) g none := fun w1 u h => (KeepBut.of_below h g none).set_ 0 u
  have hbel : ∀ w1 u, Below w.heap.size w w1 → Below w0.heap.size w0 (w1.setCell ⟨g, 0, none⟩ u) := fun w1 u h => below_set (below_step hB h) hg
  have hcv := fun c_ : Nat => Kd.C_string (P := Try.prog) (c := c_) Try.underlying100 Try.underlying5 Try.underlying9 hr2
  go_enter Try.func60, Try.ntmps60
  go_wp2_with fail
  refine (pq_zzIndex.calls k _ _ _ _ hz).mono ?_
  rintro e w1 ⟨rfl, hdr⟩
  have S1 : Below w.heap.size w w1 := hdr.below
  have hcell1 : w1.cell? ⟨g, 0, none⟩ = some (.slice A f.length c) := (S1.cell (p := ⟨g, 0, none⟩) hlt).trans hcell
  have hfz := blk_frozen ((S1.block g hlt).trans hb) 0
  have hcv2 := fun (c_ : Nat) (u : Value) => Kd.C_string (P := Try.prog) (c := c_) Try.underlying100 Try.underlying5 Try.underlying9 (Kd.C_below htk (hbel w1 u S1))
  clear hcv
  by_cases hcn : c = i + 1
  · subst hcn
    rw [if_pos rfl] at hd
    have hfl : f.length = i + 1 := by omega
    have F1 := fin w1 A S1 hd
    rw [Nat.sub_self, hfl, Nat.sub_self] at F1
    rw [hfl] at hcell1
    go_wp2
    go_ret
    exact ⟨rfl, by simpa [hfl] using F1, hbel _ _ S1, hk _ _ S1⟩
  · rw [if_neg hcn, show (Kd.int .u8).sz = 1 from rfl, Nat.mul_one] at hd
    go_wp2
    go_ret
    exact ⟨rfl, fin _ _ S1 hd, hbel _ _ S1, hk _ _ S1⟩

/-! ### pq_parseError: function 71 -/
/-- The place of a field by its code. -/
def slotOf (c : Int) : Option Nat := if c = 83 then some 0 else if c = 67 then some 1 else if c = 77 then some 2 else if c = 68 then some 3 else if c = 72 then some 4 else if c = 80 then some 5 else if c = 112 then some 6 else if c = 113 then some 7 else if c = 87 then some 8 else if c = 115 then some 9 else if c = 116 then some 10 else if c = 99 then some 11 else if c = 100 then some 12 else if c = 110 then some 13 else if c = 70 then some 14 else if c = 76 then some 15 else if c = 82 then some 16 else none
/-- An error's cells: its fields' texts. -/
def errCells (F : Nat → ByteArray) : Array Value := ((List.range 18).map fun j => Value.string (F j)).toArray
def errObj (F : Nat → ByteArray) : Obj := .cells (errCells F) 129 (0, 0)
def eStep (F : Nat → ByteArray) (c : Int) (s : ByteArray) : Nat → ByteArray := fun j => if slotOf c = some j then s else F j
def eInit (q : ByteArray) : Nat → ByteArray := fun j => if j = 17 then q else ⟨#[]⟩
theorem errCells_size (F : Nat → ByteArray) : (errCells F).size = 18 := by simp [errCells]
theorem errCells_at (F : Nat → ByteArray) (j : Nat) (hj : j < 18) : (errCells F)[j]? = some (.string (F j)) := by
  simp [errCells, hj]
theorem errCells_set (F : Nat → ByteArray) (c : Int) (j : Nat) (s : ByteArray) (hc : slotOf c = some j) (hj : j < 18) : (errCells F).setIfInBounds j (.string s) = errCells (eStep F c s) := by
  apply Array.ext'
  apply List.ext_getElem?
  intro i
  simp only [Array.toList_setIfInBounds, errCells, List.getElem?_set, List.length_map, List.length_range, List.getElem?_map]
  by_cases e : j = i
  · subst e
    simp [hj, eStep, hc]
  · have : (List.range 18)[i]? = none ∨ (List.range 18)[i]? = some i := by
      by_cases hi : i < 18
      · right; simp [hi]
      · left; simp; omega
    rcases this with h | h
    · rw [if_neg e, h]; rfl
    · rw [if_neg e, h]; simp only [Option.map_some, eStep, hc]
      rw [if_neg]; intro h2; injection h2 with h2; exact e h2
theorem errCells_skip (F : Nat → ByteArray) (c : Int) (s : ByteArray) (hc : slotOf c = none) : eStep F c s = F := by
  funext j; simp [eStep, hc]
theorem errCells_init (q : ByteArray) : errCells (eInit q) = #[.string ⟨#[]⟩, .string ⟨#[]⟩, .string ⟨#[]⟩, .string ⟨#[]⟩, .string ⟨#[]⟩, .string ⟨#[]⟩, .string ⟨#[]⟩, .string ⟨#[]⟩, .string ⟨#[]⟩, .string ⟨#[]⟩, .string ⟨#[]⟩, .string ⟨#[]⟩, .string ⟨#[]⟩, .string ⟨#[]⟩, .string ⟨#[]⟩, .string ⟨#[]⟩, .string ⟨#[]⟩, .string q] := rfl
def pq_parseError.l0 (k : Nat) : Nat → Int → List Int → (Nat → ByteArray) → Option (Nat → ByteArray)
  | 0, _, _, _ => none
  | m + 1, t, f, F => if t = 0 then some F else (pq_zzIndex.f k (strOfNums f) (⟨#[0]⟩ : ByteArray)).bind fun j => if 0 ≤ j ∧ j.toNat + 1 < f.length then pq_parseError.l0 k m (rd (f.drop (j.toNat + 1)) 0) ((f.drop (j.toNat + 1)).drop 1) (eStep F t (strOfNums (f.take j.toNat))) else none
def pq_parseError.f (k : Nat) (f : List Int) (q : ByteArray) : Option (Nat → ByteArray) := if f = [] then none else pq_parseError.l0 k k (rd f 0) (f.drop 1) (eInit q)
theorem pq_parseError.mono_l (k : Nat) : ∀ (m : Nat) (t : Int) (f : List Int) (F : Nat → ByteArray), LeO (pq_parseError.l0 k m t f F) (pq_parseError.l0 (k + 1) (m + 1) t f F)
  | 0, _, _, _ => LeO.none _
  | m + 1, t, f, F => by
    rw [pq_parseError.l0, pq_parseError.l0]
    refine LeO.ite (LeO.refl _) (LeO.bind (pq_zzIndex.mono _ _ _) (fun j => LeO.ite (pq_parseError.mono_l k m _ _ _) (LeO.none _)))
theorem pq_parseError.mono (k : Nat) (f : List Int) (q : ByteArray) : LeO (pq_parseError.f k f q) (pq_parseError.f (k + 1) f q) :=
  LeO.ite (LeO.none _) (pq_parseError.mono_l k k _ _ _)
set_option maxHeartbeats 2000000 in
set_option maxRecDepth 100000 in
theorem pq_parseError.calls {tt : TypeId} (k : Nat) (g : Nat) (f0 : List Int) (q : ByteArray) (R : Nat → ByteArray) (w0 w : World) (hI0 : IsRdT tt w0 w g f0) (hB0 : Below w0.heap.size w0 w) (h : pq_parseError.f k f0 q = some R) :
    Calls Try.prog 71 #[.pointer (some ⟨g, 0, none⟩), .string q] w fun e w' => ∃ b, e = .returned (.pointer (some ⟨b, 0, none⟩)) ∧ w.heap.size ≤ b ∧ w'.heap[b]? = some (errObj R) ∧ Below w0.heap.size w0 w' := by
  unfold pq_parseError.f at h
  by_cases hf0 : f0 = []
  · rw [if_pos hf0] at h; cases h
  rw [if_neg hf0] at h
  have hlen : 1 ≤ f0.length := List.length_pos_iff.mpr hf0
  have hgl := hI0.lt
  have hW : w.heap[w.heap.size]? = none := by simp
  obtain ⟨b, hbd⟩ : ∃ b, b = w.heap.size := ⟨_, rfl⟩
  have hbg : b ≠ g := by omega
  have hbw : w0.heap.size ≤ b := by have := hB0.size; omega
  obtain ⟨V, hV⟩ : ∃ V, V = w.alloc (errObj (eInit q)) := ⟨_, rfl⟩
  have hEV : V.heap[b]? = some (errObj (eInit q)) := by rw [hV, hbd]; exact heap_alloc_new w _
  have hIV : IsRdT tt w0 V g f0 := by rw [hV]; exact hI0.alloc _
  have hBV : Below w0.heap.size w0 V := by rw [hV]; exact below_alloc hB0 _
  have HH := Aside0.mk h
  have HEV := Aside0.mk hEV
  have HIV := Aside0.mk hIV
  have HBV := Aside0.mk hBV
  have HL := Aside0.mk hlen
  have HBW := Aside0.mk hbw
  have HBG := Aside0.mk hbg
  have HBD := Aside0.mk hbd
  clear h hEV hIV hBV hlen hbw hbg hI0 hB0 hf0 hgl hW
  have hc := pq_readBuf_byte.calls g f0 w0 V HIV.out HBV.out HL.out
  have hVe : V = w.alloc (.cells #[.string ⟨#[]⟩, .string ⟨#[]⟩, .string ⟨#[]⟩, .string ⟨#[]⟩, .string ⟨#[]⟩, .string ⟨#[]⟩, .string ⟨#[]⟩, .string ⟨#[]⟩, .string ⟨#[]⟩, .string ⟨#[]⟩, .string ⟨#[]⟩, .string ⟨#[]⟩, .string ⟨#[]⟩, .string ⟨#[]⟩, .string ⟨#[]⟩, .string ⟨#[]⟩, .string ⟨#[]⟩, .string q] 129 (0, 0)) := by rw [hV, errObj, errCells_init]
  clear hV hbd
  go_enter Try.func71, Try.ntmps71
  go_wp2_with fail
  rw [← HBD.out]
  rw [← hVe]
  refine hc.mono ?_
  rintro e w1 ⟨rfl, hI1, hB1, hK1⟩
  have hE1 := Aside0.mk (hK1.blk HEV.out HBG.out (by simp))
  have HI1 := Aside0.mk hI1
  have HB1 := Aside0.mk hB1
  clear hI1 hB1 hK1 hc hVe HEV HIV HBV
  go_wp2_with fail
  go_loopg [6] k (fun kq v6 w' => ∃ (t : Int) (f : List Int) (F : Nat → ByteArray), v6 = .int .u8 t ∧ IsRdT tt w0 w' g f ∧ w'.heap[b]? = some (errObj F) ∧ Below w0.heap.size w0 w' ∧ pq_parseError.l0 k kq t f F = some R)
  case atStart => exact ⟨_, _, _, rfl, HI1.out, hE1.out, HB1.out, HH.out⟩
  case round =>
    obtain ⟨t, f, F, rfl, hI, hE, hB, hp⟩ := hrel
    have hbg := HBG.out
    have hbw := HBW.out
    clear HI1 HB1 hE1 HH
    obtain ⟨m, hm⟩ : ∃ m, gk = m + 1 := by
      rcases Nat.eq_zero_or_pos gk with hg | hg
      · rw [hg, pq_parseError.l0] at hp; cases hp
      · exact ⟨gk - 1, by omega⟩
    rw [hm, pq_parseError.l0] at hp
    have HM := Aside0.mk hm
    clear hm
    by_cases ht : t = 0
    · rw [if_pos ht] at hp
      injection hp with hp
      subst hp
      subst ht
      have HE := Aside0.mk hE
      have HB := Aside0.mk hB
      clear hE hB hI
      go_wp2_with fail
      go_ret
      exact ⟨b, rfl, by have := HBD.out; omega, HE.out, HB.out⟩
    · rw [if_neg ht] at hp
      obtain ⟨j, hz, hq⟩ := Option.bind_eq_some_iff.mp hp
      clear hp
      have hp := hq
      clear hq
      by_cases hj : 0 ≤ j ∧ j.toNat + 1 < f.length
      case neg => rw [if_neg hj] at hp; cases hp
      rw [if_pos hj] at hp
      obtain ⟨i, rfl⟩ : ∃ i : Nat, j = (i : Int) := ⟨j.toNat, by omega⟩
      simp only [Int.toNat_natCast] at hp hj
      have hi : i + 1 < f.length := hj.2
      have htb : (t == 0) = false := beq_eq_false_iff_ne.mpr ht
      have hcs := pq_readBuf_string.calls g f k i w0 wr hI hB hz (by omega)
      clear ht hj hI hB hz
      have HE := Aside0.mk hE
      have HP0 := Aside0.mk hp
      clear hE hp
      go_wp2_with fail
      refine hcs.mono ?_
      rintro e w1 ⟨rfl, hI1, hB1, hK1⟩
      have hE1 := hK1.blk HE.out hbg (by simp)
      have hp := HP0.out
      clear hcs hK1 HE HP0 htb
      by_cases h83 : t = 83
      · subst h83
        have hs := errCells_set F 83 0 (strOfNums (f.take i)) rfl (by decide)
        have hES := fun u => blk_set hE1 0 u
        have hfz := blk_frozen hE1 0
        have hcl := (blk_cell hE1 0).trans (errCells_at F 0 (by decide))
        have HS := Aside0.mk hs
        have HES := Aside0.mk hES
        have HP := Aside0.mk hp
        have HI1 := Aside0.mk hI1
        have HB1 := Aside0.mk hB1
        clear hs hES hp hI1 hB1
        go_wp2_with fail
        refine (pq_readBuf_byte.calls g (f.drop (i + 1)) w0 _ (HI1.out.far (by exact fun e => hbg e.symm) _) (below_set HB1.out hbw) (by rw [List.length_drop]; omega)).mono ?_
        rintro e w2 ⟨rfl, hI2, hB2, hK2⟩
        have hI2' := Aside0.mk hI2
        have hB2' := Aside0.mk hB2
        have hE2 := Aside0.mk (hK2.blk ((HES.out _).trans (by rw [HS.out])) hbg (by simp))
        clear hI2 hB2 hK2
        go_wp2_with fail
        go_roundg m
        case measure => have := HM.out; omega
        case rel => exact ⟨_, _, _, rfl, hI2'.out, hE2.out, hB2'.out, HP.out⟩
      by_cases h67 : t = 67
      · subst h67
        have hs := errCells_set F 67 1 (strOfNums (f.take i)) rfl (by decide)
        have hES := fun u => blk_set hE1 1 u
        have hfz := blk_frozen hE1 1
        have hcl := (blk_cell hE1 1).trans (errCells_at F 1 (by decide))
        have HS := Aside0.mk hs
        have HES := Aside0.mk hES
        have HP := Aside0.mk hp
        have HI1 := Aside0.mk hI1
        have HB1 := Aside0.mk hB1
        clear hs hES hp hI1 hB1
        go_wp2_with fail
        refine (pq_readBuf_byte.calls g (f.drop (i + 1)) w0 _ (HI1.out.far (by exact fun e => hbg e.symm) _) (below_set HB1.out hbw) (by rw [List.length_drop]; omega)).mono ?_
        rintro e w2 ⟨rfl, hI2, hB2, hK2⟩
        have hI2' := Aside0.mk hI2
        have hB2' := Aside0.mk hB2
        have hE2 := Aside0.mk (hK2.blk ((HES.out _).trans (by rw [HS.out])) hbg (by simp))
        clear hI2 hB2 hK2
        go_wp2_with fail
        go_roundg m
        case measure => have := HM.out; omega
        case rel => exact ⟨_, _, _, rfl, hI2'.out, hE2.out, hB2'.out, HP.out⟩
      by_cases h77 : t = 77
      · subst h77
        have hs := errCells_set F 77 2 (strOfNums (f.take i)) rfl (by decide)
        have hES := fun u => blk_set hE1 2 u
        have hfz := blk_frozen hE1 2
        have hcl := (blk_cell hE1 2).trans (errCells_at F 2 (by decide))
        have HS := Aside0.mk hs
        have HES := Aside0.mk hES
        have HP := Aside0.mk hp
        have HI1 := Aside0.mk hI1
        have HB1 := Aside0.mk hB1
        clear hs hES hp hI1 hB1
        go_wp2_with fail
        refine (pq_readBuf_byte.calls g (f.drop (i + 1)) w0 _ (HI1.out.far (by exact fun e => hbg e.symm) _) (below_set HB1.out hbw) (by rw [List.length_drop]; omega)).mono ?_
        rintro e w2 ⟨rfl, hI2, hB2, hK2⟩
        have hI2' := Aside0.mk hI2
        have hB2' := Aside0.mk hB2
        have hE2 := Aside0.mk (hK2.blk ((HES.out _).trans (by rw [HS.out])) hbg (by simp))
        clear hI2 hB2 hK2
        go_wp2_with fail
        go_roundg m
        case measure => have := HM.out; omega
        case rel => exact ⟨_, _, _, rfl, hI2'.out, hE2.out, hB2'.out, HP.out⟩
      by_cases h68 : t = 68
      · subst h68
        have hs := errCells_set F 68 3 (strOfNums (f.take i)) rfl (by decide)
        have hES := fun u => blk_set hE1 3 u
        have hfz := blk_frozen hE1 3
        have hcl := (blk_cell hE1 3).trans (errCells_at F 3 (by decide))
        have HS := Aside0.mk hs
        have HES := Aside0.mk hES
        have HP := Aside0.mk hp
        have HI1 := Aside0.mk hI1
        have HB1 := Aside0.mk hB1
        clear hs hES hp hI1 hB1
        go_wp2_with fail
        refine (pq_readBuf_byte.calls g (f.drop (i + 1)) w0 _ (HI1.out.far (by exact fun e => hbg e.symm) _) (below_set HB1.out hbw) (by rw [List.length_drop]; omega)).mono ?_
        rintro e w2 ⟨rfl, hI2, hB2, hK2⟩
        have hI2' := Aside0.mk hI2
        have hB2' := Aside0.mk hB2
        have hE2 := Aside0.mk (hK2.blk ((HES.out _).trans (by rw [HS.out])) hbg (by simp))
        clear hI2 hB2 hK2
        go_wp2_with fail
        go_roundg m
        case measure => have := HM.out; omega
        case rel => exact ⟨_, _, _, rfl, hI2'.out, hE2.out, hB2'.out, HP.out⟩
      by_cases h72 : t = 72
      · subst h72
        have hs := errCells_set F 72 4 (strOfNums (f.take i)) rfl (by decide)
        have hES := fun u => blk_set hE1 4 u
        have hfz := blk_frozen hE1 4
        have hcl := (blk_cell hE1 4).trans (errCells_at F 4 (by decide))
        have HS := Aside0.mk hs
        have HES := Aside0.mk hES
        have HP := Aside0.mk hp
        have HI1 := Aside0.mk hI1
        have HB1 := Aside0.mk hB1
        clear hs hES hp hI1 hB1
        go_wp2_with fail
        refine (pq_readBuf_byte.calls g (f.drop (i + 1)) w0 _ (HI1.out.far (by exact fun e => hbg e.symm) _) (below_set HB1.out hbw) (by rw [List.length_drop]; omega)).mono ?_
        rintro e w2 ⟨rfl, hI2, hB2, hK2⟩
        have hI2' := Aside0.mk hI2
        have hB2' := Aside0.mk hB2
        have hE2 := Aside0.mk (hK2.blk ((HES.out _).trans (by rw [HS.out])) hbg (by simp))
        clear hI2 hB2 hK2
        go_wp2_with fail
        go_roundg m
        case measure => have := HM.out; omega
        case rel => exact ⟨_, _, _, rfl, hI2'.out, hE2.out, hB2'.out, HP.out⟩
      by_cases h80 : t = 80
      · subst h80
        have hs := errCells_set F 80 5 (strOfNums (f.take i)) rfl (by decide)
        have hES := fun u => blk_set hE1 5 u
        have hfz := blk_frozen hE1 5
        have hcl := (blk_cell hE1 5).trans (errCells_at F 5 (by decide))
        have HS := Aside0.mk hs
        have HES := Aside0.mk hES
        have HP := Aside0.mk hp
        have HI1 := Aside0.mk hI1
        have HB1 := Aside0.mk hB1
        clear hs hES hp hI1 hB1
        go_wp2_with fail
        refine (pq_readBuf_byte.calls g (f.drop (i + 1)) w0 _ (HI1.out.far (by exact fun e => hbg e.symm) _) (below_set HB1.out hbw) (by rw [List.length_drop]; omega)).mono ?_
        rintro e w2 ⟨rfl, hI2, hB2, hK2⟩
        have hI2' := Aside0.mk hI2
        have hB2' := Aside0.mk hB2
        have hE2 := Aside0.mk (hK2.blk ((HES.out _).trans (by rw [HS.out])) hbg (by simp))
        clear hI2 hB2 hK2
        go_wp2_with fail
        go_roundg m
        case measure => have := HM.out; omega
        case rel => exact ⟨_, _, _, rfl, hI2'.out, hE2.out, hB2'.out, HP.out⟩
      by_cases h112 : t = 112
      · subst h112
        have hs := errCells_set F 112 6 (strOfNums (f.take i)) rfl (by decide)
        have hES := fun u => blk_set hE1 6 u
        have hfz := blk_frozen hE1 6
        have hcl := (blk_cell hE1 6).trans (errCells_at F 6 (by decide))
        have HS := Aside0.mk hs
        have HES := Aside0.mk hES
        have HP := Aside0.mk hp
        have HI1 := Aside0.mk hI1
        have HB1 := Aside0.mk hB1
        clear hs hES hp hI1 hB1
        go_wp2_with fail
        refine (pq_readBuf_byte.calls g (f.drop (i + 1)) w0 _ (HI1.out.far (by exact fun e => hbg e.symm) _) (below_set HB1.out hbw) (by rw [List.length_drop]; omega)).mono ?_
        rintro e w2 ⟨rfl, hI2, hB2, hK2⟩
        have hI2' := Aside0.mk hI2
        have hB2' := Aside0.mk hB2
        have hE2 := Aside0.mk (hK2.blk ((HES.out _).trans (by rw [HS.out])) hbg (by simp))
        clear hI2 hB2 hK2
        go_wp2_with fail
        go_roundg m
        case measure => have := HM.out; omega
        case rel => exact ⟨_, _, _, rfl, hI2'.out, hE2.out, hB2'.out, HP.out⟩
      by_cases h113 : t = 113
      · subst h113
        have hs := errCells_set F 113 7 (strOfNums (f.take i)) rfl (by decide)
        have hES := fun u => blk_set hE1 7 u
        have hfz := blk_frozen hE1 7
        have hcl := (blk_cell hE1 7).trans (errCells_at F 7 (by decide))
        have HS := Aside0.mk hs
        have HES := Aside0.mk hES
        have HP := Aside0.mk hp
        have HI1 := Aside0.mk hI1
        have HB1 := Aside0.mk hB1
        clear hs hES hp hI1 hB1
        go_wp2_with fail
        refine (pq_readBuf_byte.calls g (f.drop (i + 1)) w0 _ (HI1.out.far (by exact fun e => hbg e.symm) _) (below_set HB1.out hbw) (by rw [List.length_drop]; omega)).mono ?_
        rintro e w2 ⟨rfl, hI2, hB2, hK2⟩
        have hI2' := Aside0.mk hI2
        have hB2' := Aside0.mk hB2
        have hE2 := Aside0.mk (hK2.blk ((HES.out _).trans (by rw [HS.out])) hbg (by simp))
        clear hI2 hB2 hK2
        go_wp2_with fail
        go_roundg m
        case measure => have := HM.out; omega
        case rel => exact ⟨_, _, _, rfl, hI2'.out, hE2.out, hB2'.out, HP.out⟩
      by_cases h87 : t = 87
      · subst h87
        have hs := errCells_set F 87 8 (strOfNums (f.take i)) rfl (by decide)
        have hES := fun u => blk_set hE1 8 u
        have hfz := blk_frozen hE1 8
        have hcl := (blk_cell hE1 8).trans (errCells_at F 8 (by decide))
        have HS := Aside0.mk hs
        have HES := Aside0.mk hES
        have HP := Aside0.mk hp
        have HI1 := Aside0.mk hI1
        have HB1 := Aside0.mk hB1
        clear hs hES hp hI1 hB1
        go_wp2_with fail
        refine (pq_readBuf_byte.calls g (f.drop (i + 1)) w0 _ (HI1.out.far (by exact fun e => hbg e.symm) _) (below_set HB1.out hbw) (by rw [List.length_drop]; omega)).mono ?_
        rintro e w2 ⟨rfl, hI2, hB2, hK2⟩
        have hI2' := Aside0.mk hI2
        have hB2' := Aside0.mk hB2
        have hE2 := Aside0.mk (hK2.blk ((HES.out _).trans (by rw [HS.out])) hbg (by simp))
        clear hI2 hB2 hK2
        go_wp2_with fail
        go_roundg m
        case measure => have := HM.out; omega
        case rel => exact ⟨_, _, _, rfl, hI2'.out, hE2.out, hB2'.out, HP.out⟩
      by_cases h115 : t = 115
      · subst h115
        have hs := errCells_set F 115 9 (strOfNums (f.take i)) rfl (by decide)
        have hES := fun u => blk_set hE1 9 u
        have hfz := blk_frozen hE1 9
        have hcl := (blk_cell hE1 9).trans (errCells_at F 9 (by decide))
        have HS := Aside0.mk hs
        have HES := Aside0.mk hES
        have HP := Aside0.mk hp
        have HI1 := Aside0.mk hI1
        have HB1 := Aside0.mk hB1
        clear hs hES hp hI1 hB1
        go_wp2_with fail
        refine (pq_readBuf_byte.calls g (f.drop (i + 1)) w0 _ (HI1.out.far (by exact fun e => hbg e.symm) _) (below_set HB1.out hbw) (by rw [List.length_drop]; omega)).mono ?_
        rintro e w2 ⟨rfl, hI2, hB2, hK2⟩
        have hI2' := Aside0.mk hI2
        have hB2' := Aside0.mk hB2
        have hE2 := Aside0.mk (hK2.blk ((HES.out _).trans (by rw [HS.out])) hbg (by simp))
        clear hI2 hB2 hK2
        go_wp2_with fail
        go_roundg m
        case measure => have := HM.out; omega
        case rel => exact ⟨_, _, _, rfl, hI2'.out, hE2.out, hB2'.out, HP.out⟩
      by_cases h116 : t = 116
      · subst h116
        have hs := errCells_set F 116 10 (strOfNums (f.take i)) rfl (by decide)
        have hES := fun u => blk_set hE1 10 u
        have hfz := blk_frozen hE1 10
        have hcl := (blk_cell hE1 10).trans (errCells_at F 10 (by decide))
        have HS := Aside0.mk hs
        have HES := Aside0.mk hES
        have HP := Aside0.mk hp
        have HI1 := Aside0.mk hI1
        have HB1 := Aside0.mk hB1
        clear hs hES hp hI1 hB1
        go_wp2_with fail
        refine (pq_readBuf_byte.calls g (f.drop (i + 1)) w0 _ (HI1.out.far (by exact fun e => hbg e.symm) _) (below_set HB1.out hbw) (by rw [List.length_drop]; omega)).mono ?_
        rintro e w2 ⟨rfl, hI2, hB2, hK2⟩
        have hI2' := Aside0.mk hI2
        have hB2' := Aside0.mk hB2
        have hE2 := Aside0.mk (hK2.blk ((HES.out _).trans (by rw [HS.out])) hbg (by simp))
        clear hI2 hB2 hK2
        go_wp2_with fail
        go_roundg m
        case measure => have := HM.out; omega
        case rel => exact ⟨_, _, _, rfl, hI2'.out, hE2.out, hB2'.out, HP.out⟩
      by_cases h99 : t = 99
      · subst h99
        have hs := errCells_set F 99 11 (strOfNums (f.take i)) rfl (by decide)
        have hES := fun u => blk_set hE1 11 u
        have hfz := blk_frozen hE1 11
        have hcl := (blk_cell hE1 11).trans (errCells_at F 11 (by decide))
        have HS := Aside0.mk hs
        have HES := Aside0.mk hES
        have HP := Aside0.mk hp
        have HI1 := Aside0.mk hI1
        have HB1 := Aside0.mk hB1
        clear hs hES hp hI1 hB1
        go_wp2_with fail
        refine (pq_readBuf_byte.calls g (f.drop (i + 1)) w0 _ (HI1.out.far (by exact fun e => hbg e.symm) _) (below_set HB1.out hbw) (by rw [List.length_drop]; omega)).mono ?_
        rintro e w2 ⟨rfl, hI2, hB2, hK2⟩
        have hI2' := Aside0.mk hI2
        have hB2' := Aside0.mk hB2
        have hE2 := Aside0.mk (hK2.blk ((HES.out _).trans (by rw [HS.out])) hbg (by simp))
        clear hI2 hB2 hK2
        go_wp2_with fail
        go_roundg m
        case measure => have := HM.out; omega
        case rel => exact ⟨_, _, _, rfl, hI2'.out, hE2.out, hB2'.out, HP.out⟩
      by_cases h100 : t = 100
      · subst h100
        have hs := errCells_set F 100 12 (strOfNums (f.take i)) rfl (by decide)
        have hES := fun u => blk_set hE1 12 u
        have hfz := blk_frozen hE1 12
        have hcl := (blk_cell hE1 12).trans (errCells_at F 12 (by decide))
        have HS := Aside0.mk hs
        have HES := Aside0.mk hES
        have HP := Aside0.mk hp
        have HI1 := Aside0.mk hI1
        have HB1 := Aside0.mk hB1
        clear hs hES hp hI1 hB1
        go_wp2_with fail
        refine (pq_readBuf_byte.calls g (f.drop (i + 1)) w0 _ (HI1.out.far (by exact fun e => hbg e.symm) _) (below_set HB1.out hbw) (by rw [List.length_drop]; omega)).mono ?_
        rintro e w2 ⟨rfl, hI2, hB2, hK2⟩
        have hI2' := Aside0.mk hI2
        have hB2' := Aside0.mk hB2
        have hE2 := Aside0.mk (hK2.blk ((HES.out _).trans (by rw [HS.out])) hbg (by simp))
        clear hI2 hB2 hK2
        go_wp2_with fail
        go_roundg m
        case measure => have := HM.out; omega
        case rel => exact ⟨_, _, _, rfl, hI2'.out, hE2.out, hB2'.out, HP.out⟩
      by_cases h110 : t = 110
      · subst h110
        have hs := errCells_set F 110 13 (strOfNums (f.take i)) rfl (by decide)
        have hES := fun u => blk_set hE1 13 u
        have hfz := blk_frozen hE1 13
        have hcl := (blk_cell hE1 13).trans (errCells_at F 13 (by decide))
        have HS := Aside0.mk hs
        have HES := Aside0.mk hES
        have HP := Aside0.mk hp
        have HI1 := Aside0.mk hI1
        have HB1 := Aside0.mk hB1
        clear hs hES hp hI1 hB1
        go_wp2_with fail
        refine (pq_readBuf_byte.calls g (f.drop (i + 1)) w0 _ (HI1.out.far (by exact fun e => hbg e.symm) _) (below_set HB1.out hbw) (by rw [List.length_drop]; omega)).mono ?_
        rintro e w2 ⟨rfl, hI2, hB2, hK2⟩
        have hI2' := Aside0.mk hI2
        have hB2' := Aside0.mk hB2
        have hE2 := Aside0.mk (hK2.blk ((HES.out _).trans (by rw [HS.out])) hbg (by simp))
        clear hI2 hB2 hK2
        go_wp2_with fail
        go_roundg m
        case measure => have := HM.out; omega
        case rel => exact ⟨_, _, _, rfl, hI2'.out, hE2.out, hB2'.out, HP.out⟩
      by_cases h70 : t = 70
      · subst h70
        have hs := errCells_set F 70 14 (strOfNums (f.take i)) rfl (by decide)
        have hES := fun u => blk_set hE1 14 u
        have hfz := blk_frozen hE1 14
        have hcl := (blk_cell hE1 14).trans (errCells_at F 14 (by decide))
        have HS := Aside0.mk hs
        have HES := Aside0.mk hES
        have HP := Aside0.mk hp
        have HI1 := Aside0.mk hI1
        have HB1 := Aside0.mk hB1
        clear hs hES hp hI1 hB1
        go_wp2_with fail
        refine (pq_readBuf_byte.calls g (f.drop (i + 1)) w0 _ (HI1.out.far (by exact fun e => hbg e.symm) _) (below_set HB1.out hbw) (by rw [List.length_drop]; omega)).mono ?_
        rintro e w2 ⟨rfl, hI2, hB2, hK2⟩
        have hI2' := Aside0.mk hI2
        have hB2' := Aside0.mk hB2
        have hE2 := Aside0.mk (hK2.blk ((HES.out _).trans (by rw [HS.out])) hbg (by simp))
        clear hI2 hB2 hK2
        go_wp2_with fail
        go_roundg m
        case measure => have := HM.out; omega
        case rel => exact ⟨_, _, _, rfl, hI2'.out, hE2.out, hB2'.out, HP.out⟩
      by_cases h76 : t = 76
      · subst h76
        have hs := errCells_set F 76 15 (strOfNums (f.take i)) rfl (by decide)
        have hES := fun u => blk_set hE1 15 u
        have hfz := blk_frozen hE1 15
        have hcl := (blk_cell hE1 15).trans (errCells_at F 15 (by decide))
        have HS := Aside0.mk hs
        have HES := Aside0.mk hES
        have HP := Aside0.mk hp
        have HI1 := Aside0.mk hI1
        have HB1 := Aside0.mk hB1
        clear hs hES hp hI1 hB1
        go_wp2_with fail
        refine (pq_readBuf_byte.calls g (f.drop (i + 1)) w0 _ (HI1.out.far (by exact fun e => hbg e.symm) _) (below_set HB1.out hbw) (by rw [List.length_drop]; omega)).mono ?_
        rintro e w2 ⟨rfl, hI2, hB2, hK2⟩
        have hI2' := Aside0.mk hI2
        have hB2' := Aside0.mk hB2
        have hE2 := Aside0.mk (hK2.blk ((HES.out _).trans (by rw [HS.out])) hbg (by simp))
        clear hI2 hB2 hK2
        go_wp2_with fail
        go_roundg m
        case measure => have := HM.out; omega
        case rel => exact ⟨_, _, _, rfl, hI2'.out, hE2.out, hB2'.out, HP.out⟩
      by_cases h82 : t = 82
      · subst h82
        have hs := errCells_set F 82 16 (strOfNums (f.take i)) rfl (by decide)
        have hES := fun u => blk_set hE1 16 u
        have hfz := blk_frozen hE1 16
        have hcl := (blk_cell hE1 16).trans (errCells_at F 16 (by decide))
        have HS := Aside0.mk hs
        have HES := Aside0.mk hES
        have HP := Aside0.mk hp
        have HI1 := Aside0.mk hI1
        have HB1 := Aside0.mk hB1
        clear hs hES hp hI1 hB1
        go_wp2_with fail
        refine (pq_readBuf_byte.calls g (f.drop (i + 1)) w0 _ (HI1.out.far (by exact fun e => hbg e.symm) _) (below_set HB1.out hbw) (by rw [List.length_drop]; omega)).mono ?_
        rintro e w2 ⟨rfl, hI2, hB2, hK2⟩
        have hI2' := Aside0.mk hI2
        have hB2' := Aside0.mk hB2
        have hE2 := Aside0.mk (hK2.blk ((HES.out _).trans (by rw [HS.out])) hbg (by simp))
        clear hI2 hB2 hK2
        go_wp2_with fail
        go_roundg m
        case measure => have := HM.out; omega
        case rel => exact ⟨_, _, _, rfl, hI2'.out, hE2.out, hB2'.out, HP.out⟩
      have hs : slotOf t = none := by simp [slotOf, h83, h67, h77, h68, h72, h80, h112, h113, h87, h115, h116, h99, h100, h110, h70, h76, h82]
      rw [errCells_skip F t _ hs] at hp
      have b83 : (t == 83) = false := beq_eq_false_iff_ne.mpr h83
      have b67 : (t == 67) = false := beq_eq_false_iff_ne.mpr h67
      have b77 : (t == 77) = false := beq_eq_false_iff_ne.mpr h77
      have b68 : (t == 68) = false := beq_eq_false_iff_ne.mpr h68
      have b72 : (t == 72) = false := beq_eq_false_iff_ne.mpr h72
      have b80 : (t == 80) = false := beq_eq_false_iff_ne.mpr h80
      have b112 : (t == 112) = false := beq_eq_false_iff_ne.mpr h112
      have b113 : (t == 113) = false := beq_eq_false_iff_ne.mpr h113
      have b87 : (t == 87) = false := beq_eq_false_iff_ne.mpr h87
      have b115 : (t == 115) = false := beq_eq_false_iff_ne.mpr h115
      have b116 : (t == 116) = false := beq_eq_false_iff_ne.mpr h116
      have b99 : (t == 99) = false := beq_eq_false_iff_ne.mpr h99
      have b100 : (t == 100) = false := beq_eq_false_iff_ne.mpr h100
      have b110 : (t == 110) = false := beq_eq_false_iff_ne.mpr h110
      have b70 : (t == 70) = false := beq_eq_false_iff_ne.mpr h70
      have b76 : (t == 76) = false := beq_eq_false_iff_ne.mpr h76
      have b82 : (t == 82) = false := beq_eq_false_iff_ne.mpr h82
      clear hs h83 h67 h77 h68 h72 h80 h112 h113 h87 h115 h116 h99 h100 h110 h70 h76 h82
      have HP := Aside0.mk hp
      have HI1 := Aside0.mk hI1
      have HB1 := Aside0.mk hB1
      have HE1 := Aside0.mk hE1
      clear hp hI1 hB1 hE1
      go_wp2_with fail
      refine (pq_readBuf_byte.calls g (f.drop (i + 1)) w0 _ HI1.out HB1.out (by rw [List.length_drop]; omega)).mono ?_
      rintro e w2 ⟨rfl, hI2, hB2, hK2⟩
      have hI2' := Aside0.mk hI2
      have hB2' := Aside0.mk hB2
      have hE2 := Aside0.mk (hK2.blk HE1.out hbg (by simp))
      clear hI2 hB2 hK2
      go_wp2_with fail
      go_roundg m
      case measure => have := HM.out; omega
      case rel => exact ⟨_, _, _, rfl, hI2'.out, hE2.out, hB2'.out, HP.out⟩

/-! ### pq_ParseError: function 53 -/
set_option maxHeartbeats 1000000 in
set_option maxRecDepth 100000 in
theorem pq_ParseError.calls (k : Nat) (A : Option Addr) (c : Nat) (f : List Int) (q : ByteArray) (R : Nat → ByteArray) (w : World) (hr : Kd.C (Kd.int .u8) w A f.length f) (hc : f.length ≤ c) (hby : Bytes f) (h : pq_parseError.f k f q = some R) :
    Calls Try.prog 53 #[.slice A f.length c, .string q] w fun e w' => ∃ b, e = .returned (.pointer (some ⟨b, 0, none⟩)) ∧ w.heap.size ≤ b ∧ w'.heap[b]? = some (errObj R) ∧ Below w.heap.size w w' := by
  have hu := Try.underlying100
  have hI : IsRdT 100 w (w.alloc (.cells #[.slice A f.length c] 100 (0, 0))) w.heap.size f := ⟨A, c, by simpa using heap_alloc_new w _, Nat.le_refl _, hc, hr, hby⟩
  have hB : Below w.heap.size w (w.alloc (.cells #[.slice A f.length c] 100 (0, 0))) := below_alloc (Below.refl _ _) _
  have hp := pq_parseError.calls k w.heap.size f q R w _ hI hB h
  go_enter Try.func53, Try.ntmps53
  go_wp2_with fail
  refine hp.mono ?_
  rintro e w1 ⟨b, rfl, h1, h2, h3⟩
  have H1 : w.heap.size ≤ b := by simp at h1; omega
  have H2 := Aside0.mk h2
  have H3 := Aside0.mk h3
  clear h1 h2 h3 hp
  go_wp2_with fail
  go_ret
  exact ⟨b, rfl, H1, H2.out, H3.out⟩

/-! ### pq_Error_Get: function 54 -/
def getF (F : Nat → ByteArray) (c : Int) : ByteArray := match slotOf c with | some j => F j | none => ⟨#[]⟩
set_option maxHeartbeats 2000000 in
set_option maxRecDepth 100000 in
theorem pq_Error_Get.calls (g : Nat) (F : Nat → ByteArray) (c : Int) (w : World) (hE : w.heap[g]? = some (errObj F)) :
    Calls Try.prog 54 #[.pointer (some ⟨g, 0, none⟩), .int .u8 c] w fun e w' => e = .returned (.string (getF F c)) ∧ Below w.heap.size w w' := by
  have hat := fun (j : Nat) (hj : j < 18) => (blk_cell hE j).trans (errCells_at F j hj)
  have x0 := hat 0 (by decide)
  have x1 := hat 1 (by decide)
  have x2 := hat 2 (by decide)
  have x3 := hat 3 (by decide)
  have x4 := hat 4 (by decide)
  have x5 := hat 5 (by decide)
  have x6 := hat 6 (by decide)
  have x7 := hat 7 (by decide)
  have x8 := hat 8 (by decide)
  have x9 := hat 9 (by decide)
  have x10 := hat 10 (by decide)
  have x11 := hat 11 (by decide)
  have x12 := hat 12 (by decide)
  have x13 := hat 13 (by decide)
  have x14 := hat 14 (by decide)
  have x15 := hat 15 (by decide)
  have x16 := hat 16 (by decide)
  clear hat hE
  by_cases h83 : c = 83
  · subst h83
    go_enter Try.func54, Try.ntmps54
    go_wp2
    go_ret
    exact ⟨rfl, Below.refl _ _⟩
  by_cases h67 : c = 67
  · subst h67
    go_enter Try.func54, Try.ntmps54
    go_wp2
    go_ret
    exact ⟨rfl, Below.refl _ _⟩
  by_cases h77 : c = 77
  · subst h77
    go_enter Try.func54, Try.ntmps54
    go_wp2
    go_ret
    exact ⟨rfl, Below.refl _ _⟩
  by_cases h68 : c = 68
  · subst h68
    go_enter Try.func54, Try.ntmps54
    go_wp2
    go_ret
    exact ⟨rfl, Below.refl _ _⟩
  by_cases h72 : c = 72
  · subst h72
    go_enter Try.func54, Try.ntmps54
    go_wp2
    go_ret
    exact ⟨rfl, Below.refl _ _⟩
  by_cases h80 : c = 80
  · subst h80
    go_enter Try.func54, Try.ntmps54
    go_wp2
    go_ret
    exact ⟨rfl, Below.refl _ _⟩
  by_cases h112 : c = 112
  · subst h112
    go_enter Try.func54, Try.ntmps54
    go_wp2
    go_ret
    exact ⟨rfl, Below.refl _ _⟩
  by_cases h113 : c = 113
  · subst h113
    go_enter Try.func54, Try.ntmps54
    go_wp2
    go_ret
    exact ⟨rfl, Below.refl _ _⟩
  by_cases h87 : c = 87
  · subst h87
    go_enter Try.func54, Try.ntmps54
    go_wp2
    go_ret
    exact ⟨rfl, Below.refl _ _⟩
  by_cases h115 : c = 115
  · subst h115
    go_enter Try.func54, Try.ntmps54
    go_wp2
    go_ret
    exact ⟨rfl, Below.refl _ _⟩
  by_cases h116 : c = 116
  · subst h116
    go_enter Try.func54, Try.ntmps54
    go_wp2
    go_ret
    exact ⟨rfl, Below.refl _ _⟩
  by_cases h99 : c = 99
  · subst h99
    go_enter Try.func54, Try.ntmps54
    go_wp2
    go_ret
    exact ⟨rfl, Below.refl _ _⟩
  by_cases h100 : c = 100
  · subst h100
    go_enter Try.func54, Try.ntmps54
    go_wp2
    go_ret
    exact ⟨rfl, Below.refl _ _⟩
  by_cases h110 : c = 110
  · subst h110
    go_enter Try.func54, Try.ntmps54
    go_wp2
    go_ret
    exact ⟨rfl, Below.refl _ _⟩
  by_cases h70 : c = 70
  · subst h70
    go_enter Try.func54, Try.ntmps54
    go_wp2
    go_ret
    exact ⟨rfl, Below.refl _ _⟩
  by_cases h76 : c = 76
  · subst h76
    go_enter Try.func54, Try.ntmps54
    go_wp2
    go_ret
    exact ⟨rfl, Below.refl _ _⟩
  by_cases h82 : c = 82
  · subst h82
    go_enter Try.func54, Try.ntmps54
    go_wp2
    go_ret
    exact ⟨rfl, Below.refl _ _⟩
  have hs : getF F c = ⟨#[]⟩ := by unfold getF slotOf; simp [h83, h67, h77, h68, h72, h80, h112, h113, h87, h115, h116, h99, h100, h110, h70, h76, h82]
  have b83 : (c == 83) = false := beq_eq_false_iff_ne.mpr h83
  have b67 : (c == 67) = false := beq_eq_false_iff_ne.mpr h67
  have b77 : (c == 77) = false := beq_eq_false_iff_ne.mpr h77
  have b68 : (c == 68) = false := beq_eq_false_iff_ne.mpr h68
  have b72 : (c == 72) = false := beq_eq_false_iff_ne.mpr h72
  have b80 : (c == 80) = false := beq_eq_false_iff_ne.mpr h80
  have b112 : (c == 112) = false := beq_eq_false_iff_ne.mpr h112
  have b113 : (c == 113) = false := beq_eq_false_iff_ne.mpr h113
  have b87 : (c == 87) = false := beq_eq_false_iff_ne.mpr h87
  have b115 : (c == 115) = false := beq_eq_false_iff_ne.mpr h115
  have b116 : (c == 116) = false := beq_eq_false_iff_ne.mpr h116
  have b99 : (c == 99) = false := beq_eq_false_iff_ne.mpr h99
  have b100 : (c == 100) = false := beq_eq_false_iff_ne.mpr h100
  have b110 : (c == 110) = false := beq_eq_false_iff_ne.mpr h110
  have b70 : (c == 70) = false := beq_eq_false_iff_ne.mpr h70
  have b76 : (c == 76) = false := beq_eq_false_iff_ne.mpr h76
  have b82 : (c == 82) = false := beq_eq_false_iff_ne.mpr h82
  rw [hs]
  clear hs h83 h67 h77 h68 h72 h80 h112 h113 h87 h115 h116 h99 h100 h110 h70 h76 h82
  go_enter Try.func54, Try.ntmps54
  go_wp2
  go_ret
  exact ⟨rfl, Below.refl _ _⟩

end Go.Proofs.Ythcikkjjegfblab.P
