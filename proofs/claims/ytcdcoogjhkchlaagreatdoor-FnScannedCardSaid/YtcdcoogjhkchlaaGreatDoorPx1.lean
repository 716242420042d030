-- Written by the program wip/myprint.py of this session, over the kit's print of the translation. Lean checks it.
import Derived.Deep.RegionLaw
import Derived.Deep.AppendLies
import Derived.Test.YtcdcoogjhkchlaaGreatDoorLibArr
import Derived.ScopeJumps
import Derived.WalkMore
import Derived.Test.YtcdcoogjhkchlaaGreatDoorPx0
namespace Go.Proofs.YtcdcoogjhkchlaaGreatDoor.P
open Go.RowKit Go.Proofs.YtcdcoogjhkchlaaGreatDoorW.PrintWords Go.Proofs.YtcdcoogjhkchlaaGreatDoorW.PrintLast Go.Proofs.YtcdcoogjhkchlaaGreatDoorW.PrintMore
attribute [local go_sem] max2_int min2_int max_two min_two max_three min_three max_four min_four   -- for this text's walks alone
set_option linter.unusedVariables false
set_option linter.unusedSimpArgs false

/-! ### spec_blank: function 14 -/
def spec_blank.f (a0 : Int) : Option (Bool) := if a0 = 32 then (some true) else (if a0 ≥ 9 then (some (decide (a0 ≤ 13))) else (some false))
set_option maxHeartbeats 8000000 in
set_option maxRecDepth 100000 in
theorem spec_blank.calls (a0 : Int) (r : Bool) (w : World) (h : spec_blank.f a0 = some r) :
    Calls Tryz.prog 14 #[.int .u8 a0] w fun e w' => e = .returned (.bool r) ∧ Drawn0 w w' := by
  have H : (if a0 = 32 then (some true) else (if a0 ≥ 9 then (some (decide (a0 ≤ 13))) else (some false))) = some r := h
  clear h
  by_cases c2 : a0 = 32
  · rw [if_pos c2] at H
    have c2b0 : (a0 == 32) = true := beq_iff_eq.mpr c2
    have c2b1 : (a0 != 32) = false := bne_eq_false_iff_eq.mpr c2
    clear c2
    obtain rfl := Option.some.inj H
    go_enter Tryz.func14, Tryz.ntmps14
    go_wp2
    go_ret
    exact ⟨by first | rfl | (simp; done) | (simp [*]; done), by repeat (first | exact Drawn0.refl _ | apply Drawn0.step)⟩
  · rw [if_neg c2] at H
    have c2b0 : (a0 == 32) = false := beq_eq_false_iff_ne.mpr c2
    have c2b1 : (a0 != 32) = true := bne_iff_ne.mpr c2
    by_cases c3 : a0 ≥ 9
    · rw [if_pos c3] at H
      have c3b0 : decide (9 ≤ a0) = true := decide_eq_true c3
      clear c3
      obtain rfl := Option.some.inj H
      go_enter Tryz.func14, Tryz.ntmps14
      go_wp2
      go_ret
      exact ⟨by first | rfl | (simp; done) | (simp [*]; done), by repeat (first | exact Drawn0.refl _ | apply Drawn0.step)⟩
    · rw [if_neg c3] at H
      have c3b0 : decide (9 ≤ a0) = false := decide_eq_false c3
      clear c3
      obtain rfl := Option.some.inj H
      go_enter Tryz.func14, Tryz.ntmps14
      go_wp2
      go_ret
      exact ⟨by first | rfl | (simp; done) | (simp [*]; done), by repeat (first | exact Drawn0.refl _ | apply Drawn0.step)⟩

/-! ### spec_deep: function 15 -/
def spec_deep.l0 : Nat → ByteArray → Int → Option (Int)
  | 0, _, _ => none
  | k + 1, x0, x3 => if x3 < (x0.size : Int) then (if 0 ≤ x3 then (if (bt x0 x3) = 123 then (spec_deep.l0 k x0 (wrap64 (x3 + 1))) else (some x3)) else (none)) else (some x3)
def spec_deep.f (k : Nat) (a0 : ByteArray) : Option (Int) := spec_deep.l0 k a0 0
theorem spec_deep.mono_l : ∀ k, (∀ y0 y1, LeO (spec_deep.l0 k y0 y1) (spec_deep.l0 (k + 1) y0 y1))
  | 0 => fun _ _ r h => by simp [spec_deep.l0] at h
  | k + 1 => by
    have ih0 := spec_deep.mono_l k
    · intro y0 y1
      unfold spec_deep.l0
      repeat' first
      | (with_reducible exact ih0 _ _)
      | (with_reducible exact LeO.refl _)
      | (with_reducible exact LeO.none _)
      | (with_reducible refine LeO.ite ?_ ?_)
      | (with_reducible refine LeO.bind ?_ (fun _ => ?_))
      | exact ih0 _ _
      | exact LeO.none _
      | refine LeO.ite ?_ ?_
      | refine LeO.bind ?_ (fun _ => ?_)
theorem spec_deep.mono : ∀ a0 k, LeO (spec_deep.f k a0) (spec_deep.f (k + 1) a0) := by
  intro a0 k
  have ih0 := spec_deep.mono_l k
  unfold spec_deep.f
  repeat' first
      | (with_reducible exact ih0 _ _)
      | (with_reducible exact LeO.refl _)
      | (with_reducible exact LeO.none _)
      | (with_reducible refine LeO.ite ?_ ?_)
      | (with_reducible refine LeO.bind ?_ (fun _ => ?_))
      | exact ih0 _ _
      | exact LeO.none _
      | refine LeO.ite ?_ ?_
      | refine LeO.bind ?_ (fun _ => ?_)
set_option maxHeartbeats 8000000 in
set_option maxRecDepth 100000 in
theorem spec_deep.calls (k : Nat) (a0 : ByteArray) (r : Int) (w : World) (h : spec_deep.f k a0 = some r) :
    Calls Tryz.prog 15 #[.string a0] w fun e w' => e = .returned (.int .i64 r) ∧ Drawn0 w w' := by
  have H : (spec_deep.l0 k a0 0) = some r := h
  clear h
  have H' := Aside0.mk H
  clear H
  go_enter Tryz.func15, Tryz.ntmps15
  go_wp2
  go_loopg [3] k (fun kq v3 w' => ∃ (x3_1 : Int), v3 = .int .i64 x3_1 ∧ Aside0 (spec_deep.l0 kq a0 x3_1 = some r) ∧ Aside0 (kq ≤ k) ∧ Drawn0 w w')
  case atStart => exact ⟨(0), (by first | rfl | (simp; done) | (simp [*]; done)), H', ⟨Nat.le_refl _⟩, by repeat (first | exact Drawn0.refl _ | apply Drawn0.step)⟩
  case round =>
    clear H'
    try clear c1
    obtain ⟨x3_1, rfl, HA, HK1, ⟨m1, rfl⟩⟩ := hrel
    cases gk with
    | zero => exact absurd HA.out (by simp [spec_deep.l0])
    | succ k1 =>
      have H := HA.out
      clear HA
      simp only [spec_deep.l0] at H
      by_cases c2 : x3_1 < (a0.size : Int)
      · rw [if_pos c2] at H
        have c2b0 : decide (x3_1 < (a0.size : Int)) = true := decide_eq_true c2
        clear c2
        by_cases c3 : 0 ≤ x3_1
        · rw [if_pos c3] at H
          have c3b0 : decide (0 ≤ x3_1) = true := decide_eq_true c3
          clear c3
          by_cases c5 : (bt a0 x3_1) = 123
          · rw [if_pos c5] at H
            have c5b0 : ((bt a0 x3_1) == 123) = true := beq_iff_eq.mpr c5
            have c5b1 : ((bt a0 x3_1) != 123) = false := bne_eq_false_iff_eq.mpr c5
            clear c5
            have H' := Aside0.mk H
            clear H
            have p4 : 0 ≤ (x3_1 : Int) := of_decide_eq_true (by first | (with_reducible assumption) | assumption)
            have q4 : x3_1 < (a0.size : Int) := of_decide_eq_true (by first | (with_reducible assumption) | assumption)
            have hx4 := bt_at a0 x3_1
            replace p4 := eq_true p4
            replace q4 := eq_true q4
            go_wp2
            go_roundg k1
            case measure => have := HK1.out; omega
            case rel => exact ⟨(wrap64 (x3_1 + 1)), (by first | rfl | (simp; done) | (simp [*]; done)), H', ⟨by have := HK1.out; omega⟩, by repeat (first | exact Drawn0.refl _ | apply Drawn0.step)⟩
          · rw [if_neg c5] at H
            have c5b0 : ((bt a0 x3_1) == 123) = false := beq_eq_false_iff_ne.mpr c5
            have c5b1 : ((bt a0 x3_1) != 123) = true := bne_iff_ne.mpr c5
            obtain rfl := Option.some.inj H
            have p4 : 0 ≤ (x3_1 : Int) := of_decide_eq_true (by first | (with_reducible assumption) | assumption)
            have q4 : x3_1 < (a0.size : Int) := of_decide_eq_true (by first | (with_reducible assumption) | assumption)
            have hx4 := bt_at a0 x3_1
            replace p4 := eq_true p4
            replace q4 := eq_true q4
            go_wp2
            go_ret
            exact ⟨by first | rfl | (simp; done) | (simp [*]; done), by repeat (first | exact Drawn0.refl _ | apply Drawn0.step)⟩
        · rw [if_neg c3] at H
          exact absurd H (by simp)
      · rw [if_neg c2] at H
        have c2b0 : decide (x3_1 < (a0.size : Int)) = false := decide_eq_false c2
        clear c2
        obtain rfl := Option.some.inj H
        go_wp2
        go_ret
        exact ⟨by first | rfl | (simp; done) | (simp [*]; done), by repeat (first | exact Drawn0.refl _ | apply Drawn0.step)⟩

/-! ### spec_reader_is: function 27 -/
/-- What the reference's reader holds. -/
def icells (D : List Int) : Array Value := (D.map (Value.int .i64)).toArray
def bcells (D : List Bool) : Array Value := (D.map Value.bool).toArray
theorem icells_set (D : List Int) (j : Nat) (v : Int) : (icells D).setIfInBounds j (.int .i64 v) = icells (D.set j v) := by
  apply Array.ext'
  simp [icells, List.map_set]
theorem bcells_set (D : List Bool) (j : Nat) (v : Bool) : (bcells D).setIfInBounds j (.bool v) = bcells (D.set j v) := by
  apply Array.ext'
  simp [bcells, List.map_set]
theorem icells_at (D : List Int) (j : Nat) (h : j < D.length) : (icells D)[j]? = some (.int .i64 (D.getD j 0)) := by
  simp [icells, h, List.getD_eq_getElem?_getD]
theorem bcells_at (D : List Bool) (j : Nat) (h : j < D.length) : (bcells D)[j]? = some (.bool (D.getD j false)) := by
  simp [bcells, h, List.getD_eq_getElem?_getD]
/-- An element as the reference has it. -/
def sIt (x : Option (List Int)) : S34 :=
  match x with
  | none => ⟨true, ByteArray.empty, 0, 0, false⟩
  | some l => ⟨false, strOfNums l, 0, 0, false⟩
def rsCells (s del : ByteArray) (gd gs n a : Nat) (o b : Bool) (v : Value) : Array Value := #[.string s, .int .i64 (a : Int), .string del, .slice (some ⟨gd, 0, none⟩) n n, .slice (some ⟨gs, 0, none⟩) n n, .bool o, .bool b, v]
structure RS (w0 : World) (s del : ByteArray) (g gd gs n a : Nat) (D : List Int) (S : List Bool) (o b : Bool) (els : List (Option (List Int))) (v : Value) (W : World) : Prop where
  blk : W.heap[g]? = some (.cells (rsCells s del gd gs n a o b v) 52 (0, 0))
  hl : Kd.R k34 34 W w0.heap.size (fun _ => True) v (els.map sIt)
  hd : W.heap[gd]? = some (.cells (icells D) 3 (0, 0))
  hs : W.heap[gs]? = some (.cells (bcells S) 4 (0, 0))
  bg : w0.heap.size ≤ g
  bd : w0.heap.size ≤ gd
  bs : w0.heap.size ≤ gs
  hB : Below w0.heap.size w0 W
  dl : D.length = n
  sl : S.length = n
  al : a ≤ s.size
  el : els.length ≤ a
section
variable {w0 : World} {s del : ByteArray} {g gd gs n a : Nat} {D : List Int} {S : List Bool} {o b : Bool} {els : List (Option (List Int))} {v : Value} {W W1 : World}
theorem RS.below (h : RS w0 s del g gd gs n a D S o b els v W) (hb : Below W.heap.size W W1) : RS w0 s del g gd gs n a D S o b els v W1 :=
  ⟨blk_below h.blk hb, Kd.R_below h.hl hb, blk_below h.hd hb, blk_below h.hs hb, h.bg, h.bd, h.bs, below_step h.hB hb, h.dl, h.sl, h.al, h.el⟩
theorem RS.drawn (h : RS w0 s del g gd gs n a D S o b els v W) (hb : Drawn0 W W1) : RS w0 s del g gd gs n a D S o b els v W1 := h.below hb.below
theorem RS.drewN (h : RS w0 s del g gd gs n a D S o b els v W) (k : Nat) : RS w0 s del g gd gs n a D S o b els v (W.drewN k) := h.below (pw_below_drewN (Below.refl _ _) k)
theorem RS.ngd (h : RS w0 s del g gd gs n a D S o b els v W) : g ≠ gd := blk_ne h.blk h.hd (by decide)
theorem RS.ngs (h : RS w0 s del g gd gs n a D S o b els v W) : g ≠ gs := blk_ne h.blk h.hs (by decide)
theorem RS.nds (h : RS w0 s del g gd gs n a D S o b els v W) : gd ≠ gs := blk_ne h.hd h.hs (by decide)
theorem RS.nv (h : RS w0 s del g gd gs n a D S o b els v W) : some g ≠ v.ownBlock := Kd.R_ne h.hl h.blk (by decide)
theorem RS.nvd (h : RS w0 s del g gd gs n a D S o b els v W) : some gd ≠ v.ownBlock := Kd.R_ne h.hl h.hd (by decide)
theorem RS.nvs (h : RS w0 s del g gd gs n a D S o b els v W) : some gs ≠ v.ownBlock := Kd.R_ne h.hl h.hs (by decide)
theorem RS.c (h : RS w0 s del g gd gs n a D S o b els v W) (i : Nat) (u : Value) (hu : (rsCells s del gd gs n a o b v)[i]? = some u) : W.cell? ⟨g, i, none⟩ = some u := (blk_cell h.blk i).trans hu
theorem RS.f (h : RS w0 s del g gd gs n a D S o b els v W) (i : Nat) : W.frozen? ⟨g, i, none⟩ = false := blk_frozen h.blk i
theorem RS.setCell (h : RS w0 s del g gd gs n a D S o b els v W) (i : Nat) (u : Value) {a' : Nat} {o' b' : Bool} (hc : (rsCells s del gd gs n a o b v).setIfInBounds i u = rsCells s del gd gs n a' o' b' v) (ha : a' ≤ s.size) (he : els.length ≤ a') : RS w0 s del g gd gs n a' D S o' b' els v (W.setCell ⟨g, i, none⟩ u) := by
  refine ⟨by rw [← hc]; exact blk_set h.blk i u, Kd.R_set h.hl h.blk (by decide) i u, blk_far h.hd (fun e => h.ngd e.symm) u, blk_far h.hs (fun e => h.ngs e.symm) u, h.bg, h.bd, h.bs, h.hB.setCell h.bg u, h.dl, h.sl, ha, he⟩
theorem RS.setAt (h : RS w0 s del g gd gs n a D S o b els v W) (a' : Nat) (ha : a' ≤ s.size) (he : els.length ≤ a') : RS w0 s del g gd gs n a' D S o b els v (W.setCell ⟨g, 1, none⟩ (.int .i64 (a' : Int))) := h.setCell 1 _ rfl ha he
theorem RS.setOpn (h : RS w0 s del g gd gs n a D S o b els v W) : RS w0 s del g gd gs n a D S true b els v (W.setCell ⟨g, 5, none⟩ (.bool true)) := h.setCell 5 _ rfl h.al h.el
theorem RS.setBad (h : RS w0 s del g gd gs n a D S o b els v W) : RS w0 s del g gd gs n a D S o true els v (W.setCell ⟨g, 6, none⟩ (.bool true)) := h.setCell 6 _ rfl h.al h.el
/-- Everything of the reader's lies below block bz. -/
structure RB (w0 : World) (g gd gs bz : Nat) (els : List (Option (List Int))) (v : Value) (W : World) : Prop where
  lt : g < bz ∧ gd < bz ∧ gs < bz
  lv : Kd.R k34 34 W w0.heap.size (fun k => k < bz) v (els.map sIt)
  hb : bz ≤ W.heap.size
theorem RS.bounded (h : RS w0 s del g gd gs n a D S o b els v W) : RB w0 g gd gs W.heap.size els v W :=
  ⟨⟨blk_lt h.blk, blk_lt h.hd, blk_lt h.hs⟩, Kd.R_mono (Kd.R_bound h.hl) (fun _ hk => hk.2.2.1), Nat.le_refl _⟩
theorem RS.move {bz : Nat} (h : RS w0 s del g gd gs n a D S o b els v W) (r : RB w0 g gd gs bz els v W) (hm : ∀ k, k < bz → W1.heap[k]? = W.heap[k]?) (hB : Below w0.heap.size w0 W1) (hz : bz ≤ W1.heap.size) : RS w0 s del g gd gs n a D S o b els v W1 ∧ RB w0 g gd gs bz els v W1 :=
  have hl := Kd.R_move r.lv hm
  ⟨⟨(hm g r.lt.1).trans h.blk, Kd.R_mono hl (fun _ _ => trivial), (hm gd r.lt.2.1).trans h.hd, (hm gs r.lt.2.2).trans h.hs, h.bg, h.bd, h.bs, hB, h.dl, h.sl, h.al, h.el⟩, r.lt, hl, hz⟩
theorem RB.set {bz i : Nat} (r : RB w0 g gd gs bz els v W) (h : RS w0 s del g gd gs n a D S o b els v W) (u : Value) : RB w0 g gd gs bz els v (W.setCell ⟨g, i, none⟩ u) :=
  ⟨r.lt, Kd.R_set r.lv h.blk (by decide) i u, by simpa using r.hb⟩
theorem RB.drewN {bz : Nat} (r : RB w0 g gd gs bz els v W) (k : Nat) : RB w0 g gd gs bz els v (W.drewN k) := ⟨r.lt, Kd.R_below r.lv (pw_below_drewN (Below.refl _ _) k), r.hb⟩
end
/-- Whether a list begins with x. -/
def hdIs (l : List Int) (x : Int) : Bool := match l with | [] => false | c :: _ => decide (c = x)
theorem drop_bt {s : ByteArray} {a : Nat} (h : a < s.size) : (bytesOf s).drop a = bt s (a : Int) :: (bytesOf s).drop (a + 1) := by
  have hl : a < (bytesOf s).length := by rw [bytesOf_length]; exact h
  rw [List.drop_eq_getElem_cons hl, ← rd_bytesOf]
  simp [rd, List.getD_eq_getElem?_getD, List.getElem?_eq_getElem hl]
theorem drop_end {s : ByteArray} {a : Nat} (h : s.size ≤ a) : (bytesOf s).drop a = [] := List.drop_of_length_le (by rw [bytesOf_length]; exact h)
theorem extract_one {s p : ByteArray} {a : Nat} {x : Int} (h : a < s.size) (hp : bytesOf p = [x]) : ((s.extract a (a + 1)).toList == p.toList) = hdIs ((bytesOf s).drop a) x := by
  rw [drop_bt h]
  show _ = decide (bt s (a : Int) = x)
  have h1 : bytesOf (s.extract a (a + 1)) = [bt s (a : Int)] := by
    have := drop_bt h
    unfold bytesOf at this ⊢
    have h2 : (s.extract a (a + 1)).data.toList = (s.data.toList.drop a).take 1 := by
      simp [ByteArray.data_extract, List.drop_take]
    rw [h2, List.map_take, List.map_drop, this]
    rfl
  rw [ByteArray.toList_eq, ByteArray.toList_eq]
  by_cases hx : bt s (a : Int) = x
  · rw [decide_eq_true hx]
    have : (s.extract a (a + 1)).data.toList.map (fun b : UInt8 => (b.toNat : Int)) = p.data.toList.map (fun b : UInt8 => (b.toNat : Int)) := by
      have e1 : (s.extract a (a + 1)).data.toList.map (fun b : UInt8 => (b.toNat : Int)) = [bt s (a : Int)] := h1
      have e2 : p.data.toList.map (fun b : UInt8 => (b.toNat : Int)) = [x] := hp
      rw [e1, e2, hx]
    have h3 := (List.map_inj_right (f := fun b : UInt8 => (b.toNat : Int)) (fun x y e => UInt8.toNat_inj.1 (by omega))).1 this
    rw [h3]; simp
  · rw [decide_eq_false hx]
    refine beq_eq_false_iff_ne.mpr (fun he => hx ?_)
    have e1 : (s.extract a (a + 1)).data.toList.map (fun b : UInt8 => (b.toNat : Int)) = [bt s (a : Int)] := h1
    have e2 : p.data.toList.map (fun b : UInt8 => (b.toNat : Int)) = [x] := hp
    rw [he, e2] at e1
    injection e1 with e1
    exact e1.symm
theorem wp_gen {P : Program} {c : Code} {Q : Exit → Act → World → Prop} {a : Act} {W : World} (R : World → Prop) (h : R W) (k : ∀ W, R W → c.wp P Q a W) : c.wp P Q a W := k W h
theorem own_far {w0 : World} {s del : ByteArray} {g gd gs n a : Nat} {D : List Int} {S : List Bool} {o b : Bool} {els : List (Option (List Int))} {v v2 : Value} {W : World} {bz : Nat} {l : List Int} (h : RS w0 s del g gd gs n a D S o b els v W) (ho : Kd.R (Kd.int .u8) 5 W bz (fun _ => True) v2 l) (i : Nat) (u : Value) : Kd.R (Kd.int .u8) 5 (W.setCell ⟨g, i, none⟩ u) bz (fun _ => True) v2 l := Kd.R_set ho h.blk (by decide) i u
theorem own_grown {W w1 : World} {bz : Nat} {v v2 : Value} {l : List Int} (ho : Kd.R (Kd.int .u8) 5 W bz (fun _ => True) v2 l) (hv : ∀ k, v.ownBlock = some k → k < bz) (hg : W.grownBy w1 v.ownBlock) : Kd.R (Kd.int .u8) 5 w1 bz (fun _ => True) v2 l :=
  Kd.R_mono (Kd.R_step (Kd.R_mono (Kd.R_bound ho) (ok' := fun k => bz ≤ k) (fun _ hk => hk.2.1)) (fun k hk hlt => hg.block k hlt (by intro e; have := hv k e.symm; omega))) (fun _ _ => trivial)
set_option maxHeartbeats 1000000 in
set_option maxRecDepth 100000 in
theorem spec_reader_is.one {w0 : World} {s del : ByteArray} {g gd gs n a : Nat} {D : List Int} {S : List Bool} {o b : Bool} {els : List (Option (List Int))} {v : Value} {W : World} (h : RS w0 s del g gd gs n a D S o b els v W) (p : ByteArray) (x : Int) (hp : bytesOf p = [x]) (hL : s.size ≤ 1000000) :
    Calls Tryz.prog 27 #[.pointer (some ⟨g, 0, none⟩), .string p] W fun e w' => e = .returned (.bool (hdIs ((bytesOf s).drop a) x)) ∧ Drawn0 W w' := by
  have hp1 : p.size = 1 := by rw [← bytesOf_length, hp]; rfl
  have c0 := h.c 0 (.string s) rfl
  have c1 := h.c 1 (.int .i64 (a : Int)) rfl
  have al := h.al
  have HH := Aside0.mk h
  clear h
  by_cases hlt : a < s.size
  · have hq := extract_one hlt hp
    obtain ⟨q, hqd⟩ : ∃ q, q = hdIs ((bytesOf s).drop a) x := ⟨_, rfl⟩
    rw [← hqd] at hq ⊢
    obtain ⟨i, hi⟩ : ∃ i : Int, i = (a : Int) := ⟨_, rfl⟩
    obtain ⟨j, hj⟩ : ∃ j : Int, j = (a : Int) + 1 := ⟨_, rfl⟩
    obtain ⟨m, hm⟩ : ∃ m : Int, m = (s.size : Int) - (a : Int) := ⟨_, rfl⟩
    have hq2 : ((s.extract i.toNat j.toNat).toList == p.toList) = q := by
      rw [hi, hj, Int.toNat_natCast, show ((a : Int) + 1).toNat = a + 1 by omega]; exact hq
    rw [← hi] at c1
    have g0 : IntKind.i64.wrap ((s.size : Int) - i) = m := by rw [IntKind.wrap_i64]; omega
    have g1 : ((1 : Int) ≤ m) = True := eq_true (by omega)
    have g1b : decide ((1 : Int) ≤ m) = true := decide_eq_true (by omega)
    have g2 : IntKind.i64.wrap (i + 1) = j := by rw [IntKind.wrap_i64]; omega
    have g3 : (0 ≤ i) = True := eq_true (by omega)
    have g3b : decide (0 ≤ i) = true := decide_eq_true (by omega)
    have g4 : (i ≤ j) = True := eq_true (by omega)
    have g4b : decide (i ≤ j) = true := decide_eq_true (by omega)
    have g5 : (j ≤ (s.size : Int)) = True := eq_true (by omega)
    have g5b : decide (j ≤ (s.size : Int)) = true := decide_eq_true (by omega)
    have HQ := Aside0.mk hq2
    clear hp hqd hlt al hL hq hq2 hi hj hm
    go_enter Tryz.func27, Tryz.ntmps27
    go_wp2
    go_quiet (fail)
    go_wp2
    go_ret
    exact ⟨by first | rw [← HQ.out]; rfl | rfl, by first | exact Drawn0.refl _ | exact ⟨⟨_, rfl⟩⟩⟩
  · have he : a = s.size := by omega
    rw [drop_end (by omega)]
    have hpi : (p.size : Int) = 1 := by omega
    have g0 : wrap64 ((s.size : Int) - (a : Int)) = 0 := by unfold wrap64; omega
    have g1 : ((1 : Int) ≤ (s.size : Int) - (a : Int)) = False := eq_false (by omega)
    have g1b : decide ((1 : Int) ≤ (s.size : Int) - (a : Int)) = false := decide_eq_false (by omega)
    have g1c : decide ((p.size : Int) ≤ (s.size : Int) - (a : Int)) = false := decide_eq_false (by omega)
    have g1d : decide ((1 : Int) ≤ 0) = false := by decide
    have g1e : ((1 : Int) ≤ 0) = False := eq_false (by omega)
    clear hp hlt he
    go_enter Tryz.func27, Tryz.ntmps27
    go_wp2
    go_quiet (fail)
    go_wp2
    go_ret
    exact ⟨rfl, by first | exact Drawn0.refl _ | exact ⟨⟨_, rfl⟩⟩⟩
theorem quiet_d {P : Program} {f : FuncId} {args : Array Value} {w : World} {n : Nat} {v : Value} (h : Calls P f args (w.drewN n) fun e w' => e = .returned v ∧ Drawn0 (w.drewN n) w') : Calls P f args (w.drewN n) fun e w'' => e = .returned v ∧ ∃ m, w'' = w.drewN m :=
  Calls.quiet_of (h.mono fun _ _ h => ⟨h.1, h.2.out⟩)
/-- Whether white space or a bracket stands here. -/
def refB (l : List Int) : Bool := match l with | [] => false | c :: _ => decide (Arr.blankI c ∨ c = 123)
theorem blank_f (c : Int) : spec_blank.f c = some (decide (Arr.blankI c)) := by
  unfold spec_blank.f Arr.blankI
  by_cases h1 : c = 32
  · rw [if_pos h1, decide_eq_true (.inl h1)]
  · rw [if_neg h1]
    by_cases h2 : c ≥ 9
    · rw [if_pos h2]
      by_cases h3 : c ≤ 13
      · rw [decide_eq_true h3, decide_eq_true (.inr ⟨h2, h3⟩)]
      · rw [decide_eq_false h3, decide_eq_false (by rintro (h | ⟨_, h⟩); exact h1 h; exact h3 h)]
    · rw [if_neg h2, decide_eq_false (by rintro (h | ⟨h, _⟩); exact h1 h; exact h2 h)]

/-! ### spec_reader_quoted: function 36 -/
structure QS (w0 : World) (s del : ByteArray) (g gd gs n : Nat) (D : List Int) (S : List Bool) (els : List (Option (List Int))) (v : Value) (bz : Nat) (W0 : World) (T : Option (List Int × List Int)) (a2 : Nat) (acc : List Int) (v2 : Value) (W : World) : Prop where
  rs : RS w0 s del g gd gs n a2 D S false false els v W
  rb : RB w0 g gd gs bz els v W
  sq : Arr.scanQ ((bytesOf s).drop a2) false acc = T
  own : Kd.R (Kd.int .u8) 5 W bz (fun _ => True) v2 acc
  al : acc.length + els.length ≤ a2
  ha : els.length < a2
/-- Whether what stands behind quotes is not said. -/
def qOpn (d : Int) (l : List Int) : Bool := match l with | [] => false | x :: _ => decide (x ≠ d ∧ x ≠ 125)
theorem u8_infoS : ((Tryz.prog).info? 5).map (fun i => (i.zero, i.size, i.bytes)) = some (some (.int .u8 0), 1, 1) := by kernel_rfl
theorem it_infoS : ((Tryz.prog).info? 34).map (fun i => (i.zero, i.size, i.bytes)) = some (some (.agg #[.bool false, .string ⟨#[]⟩, .int .i64 0, .float .f64 0, .bool false]), 5, 48) := by kernel_rfl
/-- An element put behind the others. -/
theorem RS.put {w0 : World} {s del : ByteArray} {g gd gs n a : Nat} {D : List Int} {S : List Bool} {o b : Bool} {els : List (Option (List Int))} {v : Value} {W w1 : World} (h : RS w0 s del g gd gs n a D S o b els v W) (x : Option (List Int)) (v1 : Value) (hR : Kd.R k34 34 w1 w0.heap.size (fun _ => True) v1 (els.map sIt ++ [sIt x])) (hB : Below w0.heap.size w0 w1) (hg : W.grownBy w1 v.ownBlock) (he : els.length + 1 ≤ a) : RS w0 s del g gd gs n a D S o b (els ++ [x]) v1 (w1.setCell ⟨g, 7, none⟩ v1) := by
  have b1 := blk_grown h.blk hg h.nv
  have hR' : Kd.R k34 34 w1 w0.heap.size (fun _ => True) v1 ((els ++ [x]).map sIt) := by rw [List.map_append]; exact hR
  refine ⟨?_, Kd.R_set hR' b1 (by decide) 7 v1, blk_far (blk_grown h.hd hg h.nvd) (fun e => h.ngd e.symm) v1, blk_far (blk_grown h.hs hg h.nvs) (fun e => h.ngs e.symm) v1, h.bg, h.bd, h.bs, hB.setCell h.bg v1, h.dl, h.sl, h.al, by rw [List.length_append]; exact he⟩
  exact blk_set b1 7 v1
theorem QS.step {w0 : World} {s del : ByteArray} {g gd gs n a2 : Nat} {D : List Int} {S : List Bool} {els : List (Option (List Int))} {v v1 v2 : Value} {bz : Nat} {W0 W w8 : World} {T : Option (List Int × List Int)} {acc : List Int} {c : Int} (h : RS w0 s del g gd gs n a2 D S false false els v W) (rb : RB w0 g gd gs bz els v W) (own : Kd.R (Kd.int .u8) 5 W bz (fun _ => True) v2 acc)
    (own1 : Kd.R (Kd.int .u8) 5 w8 bz (fun _ => True) v1 (acc ++ [c])) (hb : Below bz W w8) (hg : W.grownBy w8 v2.ownBlock) (a3 : Nat) (h3 : a3 ≤ s.size) (sq : Arr.scanQ ((bytesOf s).drop a3) false (acc ++ [c]) = T) (al : acc.length + els.length + 1 ≤ a3) (ha : els.length < a3) : QS w0 s del g gd gs n D S els v bz W0 T a3 (acc ++ [c]) v1 (w8.setCell ⟨g, 1, none⟩ (.int .i64 (a3 : Int))) := by
  have hm : ∀ k, k < bz → w8.heap[k]? = W.heap[k]? := fun k hk => hg.block k (Nat.lt_of_lt_of_le hk rb.hb) (fun e => by
    have := (Kd.R_bound own).1 k e.symm
    have := this.2.1
    omega)
  obtain ⟨h8, r8⟩ := h.move rb hm (Below.trans h.hB (hb.mono (by have := h.bg; have := rb.lt; omega))) (Nat.le_trans rb.hb hg.size)
  refine ⟨h8.setAt a3 h3 (by omega), r8.set h8 _, sq, own_far h8 own1 _ _, by simp; omega, ha⟩
def qPost (w0 : World) (s del : ByteArray) (g gd gs n : Nat) (D : List Int) (S : List Bool) (els : List (Option (List Int))) (v : Value) (d : Int) (T : Option (List Int × List Int)) (w' : World) : Prop :=
  match T with
  | none => RS w0 s del g gd gs n s.size D S false true els v w'
  | some p => ∃ v' a', (bytesOf s).drop a' = p.2 ∧ RS w0 s del g gd gs n a' D S (qOpn d p.2) false (els ++ [some p.1]) v' w'
set_option maxHeartbeats 4000000 in
set_option maxRecDepth 100000 in
theorem spec_reader_quoted.main {w0 : World} {s del : ByteArray} {g gd gs n a : Nat} {D : List Int} {S : List Bool} {els : List (Option (List Int))} {v : Value} {W : World} (h : RS w0 s del g gd gs n a D S false false els v W) (hL : s.size ≤ 1000000) (d : Int) (hdel : bytesOf del = [d]) (hlt : a < s.size) :
    Calls Tryz.prog 36 #[.pointer (some ⟨g, 0, none⟩)] W fun e w' => e = .returned (.tuple #[]) ∧ qPost w0 s del g gd gs n D S els v d (Arr.scanQ ((bytesOf s).drop (a + 1)) false []) w' := by
  obtain ⟨T, hT⟩ : ∃ T, T = Arr.scanQ ((bytesOf s).drop (a + 1)) false [] := ⟨_, rfl⟩
  rw [← hT]
  have hel := h.el
  have HH := Aside0.mk h
  have HBZ := Aside0.mk h.bounded
  obtain ⟨bz, hbz⟩ : ∃ bz, bz = W.heap.size := ⟨_, rfl⟩
  rw [← hbz] at HBZ
  have HBE := Aside0.mk hbz
  have HQ : Aside0 (QS w0 s del g gd gs n D S els v bz W T (a + 1) [] (.slice none 0 0) (W.setCell ⟨g, 1, none⟩ (.int .i64 ((a + 1 : Nat) : Int)))) :=
    ⟨⟨h.setAt (a + 1) (by omega) (by omega), HBZ.out.set h _, hT.symm, Kd.R_nil _ _ _ _ _, by simp; omega, by omega⟩⟩
  have HL := Aside0.mk hL
  have HLT := Aside0.mk hlt
  have HEL := Aside0.mk hel
  have HDL := Aside0.mk hdel
  have c0 := h.c 0 (.string s) rfl
  have c1 := h.c 1 (.int .i64 (a : Int)) rfl
  have f1 := h.f 1
  have hw : wrap64 ((a : Int) + 1) = ((a + 1 : Nat) : Int) := by unfold wrap64; omega
  clear h hbz hT hL hlt hdel hel
  go_enter Tryz.func36, Tryz.ntmps36
  go_wp2_with fail
  clear c0 c1 f1 hw
  go_loopg [2] (s.size + 1) (fun kq s2 wx => ∃ (a2 : Nat) (acc : List Int), Aside0 (kq + a2 ≥ s.size + 1) ∧ Aside0 (QS w0 s del g gd gs n D S els v bz W T a2 acc s2 wx))
  case atStart => exact ⟨a + 1, [], ⟨by omega⟩, by first | exact HQ | exact ⟨HQ.out⟩⟩
  case round =>
    obtain ⟨a2, acc, HK, HS⟩ := hrel
    have c0 := HS.out.rs.c 0 (.string s) rfl
    have c1 := HS.out.rs.c 1 (.int .i64 (a2 : Int)) rfl
    have f1 := HS.out.rs.f 1
    have f6 := HS.out.rs.f 6
    have c6 := HS.out.rs.c 6 (.bool false) rfl
    by_cases ca : a2 < s.size
    · have hdr := drop_bt ca
      obtain ⟨i, hi⟩ : ∃ i : Int, i = (a2 : Int) := ⟨_, rfl⟩
      rw [← hi] at c1 hdr
      have kbt := bt_at s i
      have g1 : (i < (s.size : Int)) = True := eq_true (by omega)
      have g1b : decide (i < (s.size : Int)) = true := decide_eq_true (by omega)
      have g3 : (0 ≤ i) = True := eq_true (by omega)
      have g3b : decide (0 ≤ i) = true := decide_eq_true (by omega)
      obtain ⟨c, hc⟩ : ∃ c, c = bt s i := ⟨_, rfl⟩
      have hsq := HS.out.sq
      rw [hdr, ← hc] at hsq
      by_cases c34 : c = 34
      · have b34 : (bt s i == 34) = true := by rw [← hc]; exact beq_iff_eq.mpr c34
        have b34n : (bt s i != 34) = false := by rw [← hc]; exact bne_eq_false_iff_eq.mpr c34
        have hTe : T = some (acc, (bytesOf s).drop (a2 + 1)) := by
          rw [← hsq, c34, Arr.scanQ, if_neg (by decide), if_pos rfl]
        have HTE := Aside0.mk hTe
        have HI := Aside0.mk hi
        have g2 : ((s.size : Int) ≤ i) = False := eq_false (by omega)
        have g2b : decide ((s.size : Int) ≤ i) = false := decide_eq_false (by omega)
        obtain ⟨j, hj⟩ : ∃ j : Int, j = ((a2 + 1 : Nat) : Int) := ⟨_, rfl⟩
        have hw : wrap64 (i + 1) = j := by have := HL.out; unfold wrap64; omega
        have hw2 : IntKind.i64.wrap (i + 1) = j := by have := HL.out; rw [IntKind.wrap_i64]; omega
        have HJ := Aside0.mk hj
        have HCA := Aside0.mk ca
        clear hTe hi hdr hsq ca c34 hc hj
        --{A
        go_wp2_with fail
        go_quiet (fail)
        go_wp2_with fail
        go_quiet (fail)
        go_wp2_with fail
        refine wp_gen (fun W3 => RS w0 s del g gd gs n (a2 + 1) D S false false els v W3 ∧ Kd.R (Kd.int .u8) 5 W3 bz (fun _ => True) u2 acc ∧ RB w0 g gd gs bz els v W3) ⟨by rw [HJ.out]; exact (HS.out.rs.drewN _).setAt (a2 + 1) (by have := HCA.out; omega) (by have := HS.out.ha; omega), own_far (HS.out.rs.drewN _) (Kd.R_drewN HS.out.own _) _ _, (HS.out.rb.drewN _).set (HS.out.rs.drewN _) _⟩ ?_
        clear c0 c1 f1 f6 c6 g1 g1b g3 g3b kbt hw hw2 b34 b34n g2 g2b
        intro W3 hW3
        obtain ⟨h3, ho3, hrb3⟩ := hW3
        have HO3 := Aside0.mk (Kd.R_drew ho3)
        have HV3 := Aside0.mk hrb3.lv.1
        obtain ⟨A5, c5, rfl, hc5, hC5⟩ := Kd.R_reads ho3
        have hcv := fun (W' : World) (hb : Below W3.heap.size W3 W') (c_ : Nat) => Kd.C_string (P := Tryz.prog) (c := c_) Tryz.underlying58 Tryz.underlying5 Tryz.underlying9 (Kd.C_below hC5 hb)
        have x7 := h3.c 7 v rfl
        have HR3 := Aside0.mk (Kd.R_drew h3.hl)
        have HB3 := Aside0.mk (below_drew h3.hB)
        have HS3 : Aside0 (w0.heap.size ≤ W3.drew.heap.size) := ⟨h3.hB.size⟩
        have HG3 := Aside0.mk (show W3.drew.heap[g]? = _ from h3.blk)
        have HE3 := Aside0.mk h3.nv
        have k0 := hcv W3.drew (below_drew (Below.refl _ _)) c5
        have HCV := Aside0.mk hcv
        have H3 := Aside0.mk h3
        have z7 := fun o => (blk_cell (blk_alloc h3.blk o) 7).trans (rfl : _ = some v)
        have z7f := fun o => blk_frozen (blk_alloc h3.blk o) 7
        have HLEN : Aside0 ((List.length (els.map sIt) + 1) * 48 ≤ 140737488355328) := ⟨by rw [List.length_map]; have := HS.out.ha; have := HCA.out; have := HL.out; omega⟩
        clear h3 ho3 hC5 hcv hrb3
        go_region_law
          ((refine Kd.R_append_step k34 (w0 := w0) (W := W3.drew) w0.heap.size (by rfl) (.tmp 102) (.tmp 106) 22 34 (.agg #[.bool false, .string ⟨#[]⟩, .int .i64 0, .float .f64 0, .bool false]) 48 (by rfl) Tryz.underlying22 it_infoS (by rfl) (by decide) (by omega) v (els.map sIt) (sIt (some acc)) [.bool false, .string (strOfNums acc), .int .i64 0, .float .f64 0, .bool false] (fun _ => True) (fun _ => False) (by rfl) (by first | (go_simp; done) | (go_simp; rfl)) (k34_mkM _ _ _ (sIt (some acc))) (fun _ hk => hk.elim) (fun _ _ => trivial) HR3.out HB3.out HS3.out HLEN.out ?_; intro v1 w8 ho hb hg hat; have b8 := blk_grown HG3.out hg HE3.out; have t7 := (blk_cell b8 7).trans (rfl : _ = some v); have f7 := blk_frozen b8 7; have o8 := own_grown HO3.out HV3.out hg; have kT := Kd.C_string (P := Tryz.prog) (c := c5) Tryz.underlying58 Tryz.underlying5 Tryz.underlying9 (Kd.R_reads' o8).2.2; obtain ⟨A8, c8, e8, hc8, HC8⟩ := Kd.R_reads ho; subst e8; rw [show (List.map sIt els ++ [sIt (some acc)]).length = els.length + 1 by simp] at ho))
        all_goals
          go_wp2_with fail
          refine wp_gen (fun W4 => RS w0 s del g gd gs n (a2 + 1) D S false false (els ++ [some acc]) (.slice A8 (els.length + 1) c8) W4) (RS.put (H3.out.below (below_drew (Below.refl _ _))) (some acc) _ ho hb hg (by have := HS.out.ha; omega)) ?_
          intro W4 h4
          have hT4 : ∀ w', RS w0 s del g gd gs n (a2 + 1) D S (qOpn d ((bytesOf s).drop (a2 + 1))) false (els ++ [some acc]) (.slice A8 (els.length + 1) c8) w' → qPost w0 s del g gd gs n D S els v d T w' := fun w' h => by rw [HTE.out]; exact ⟨_, a2 + 1, rfl, h⟩
          have HT4 := Aside0.mk hT4
          have d0 := h4.c 0 (.string s) rfl
          have d1 : W4.cell? ⟨g, 1, none⟩ = some (.int .i64 j) := by rw [HJ.out]; exact h4.c 1 _ rfl
          have d2 := h4.c 2 (.string del) rfl
          have d5 := h4.c 5 (.bool false) rfl
          have d5f := h4.f 5
          have H4 := Aside0.mk h4
          clear x7 z7 k0 z7f h4 ho hb hg hat b8 t7 f7 o8 kT HC8 hc8 hT4
          by_cases ca3 : a2 + 1 < s.size
          · have hdr3 := drop_bt ca3
            rw [← HJ.out] at hdr3
            have hcall := fun nq : Nat => spec_reader_is.one (H4.out.drewN nq) del d HDL.out HL.out
            rw [hdr3] at hcall
            obtain ⟨x, hx⟩ : ∃ x, x = bt s j := ⟨_, rfl⟩
            have kbt := bt_at s j
            have y1 : (j < (s.size : Int)) = True := eq_true (by have := HJ.out; omega)
            have y1b : decide (j < (s.size : Int)) = true := decide_eq_true (by have := HJ.out; omega)
            have y3 : (0 ≤ j) = True := eq_true (by have := HJ.out; omega)
            have y3b : decide (0 ≤ j) = true := decide_eq_true (by have := HJ.out; omega)
            have hq : qOpn d ((bytesOf s).drop (a2 + 1)) = decide (x ≠ d ∧ x ≠ 125) := by rw [hdr3, hx]; rfl
            rw [hq] at HT4
            have hcall2 : ∀ nq : Nat, Calls Tryz.prog 27 #[.pointer (some ⟨g, 0, none⟩), .string del] (W4.drewN nq) fun e w' => e = .returned (.bool (decide (x = d))) ∧ Drawn0 (W4.drewN nq) w' := fun nq => by rw [hx]; exact hcall nq
            have HC4 := Aside0.mk hcall2
            clear hcall hcall2 hdr3 hq ca3
            by_cases cd : x = d
            · rw [decide_eq_true cd] at HC4
              rw [decide_eq_false (by rintro ⟨h, _⟩; exact h cd)] at HT4
              clear cd hx
              go_wp2_with fail
              go_quiet ((go_at_call 27; exact quiet_d (HC4.out _)))
              go_wp2_with fail
              go_end0
              exact ⟨rfl, HT4.out _ (H4.out.drewN _)⟩
            · rw [decide_eq_false cd] at HC4
              by_cases c125 : x = 125
              · rw [decide_eq_false (by rintro ⟨_, h⟩; exact h c125)] at HT4
                have b125 : (bt s j != 125) = false := by rw [← hx]; exact bne_eq_false_iff_eq.mpr c125
                clear cd hx c125
                go_wp2_with fail
                go_quiet ((go_at_call 27; exact quiet_d (HC4.out _)))
                go_wp2_with fail
                go_end0
                exact ⟨rfl, HT4.out _ (H4.out.drewN _)⟩
              · rw [decide_eq_true ⟨cd, c125⟩] at HT4
                have b125 : (bt s j != 125) = true := by rw [← hx]; exact bne_iff_ne.mpr c125
                clear cd hx c125
                go_wp2_with fail
                go_quiet ((go_at_call 27; exact quiet_d (HC4.out _)))
                go_wp2_with fail
                go_end0
                exact ⟨rfl, HT4.out _ (H4.out.drewN _).setOpn⟩
          · have y1 : (j < (s.size : Int)) = False := eq_false (by have := HJ.out; omega)
            have y1b : decide (j < (s.size : Int)) = false := decide_eq_false (by have := HJ.out; omega)
            have hq : qOpn d ((bytesOf s).drop (a2 + 1)) = false := by rw [drop_end (by omega)]; rfl
            rw [hq] at HT4
            clear hq ca3
            go_wp2_with fail
            go_quiet (fail)
            go_wp2_with fail
            go_end0
            exact ⟨rfl, HT4.out _ (H4.out.drewN _)⟩
        --}A
      · have b34 : (bt s i == 34) = false := by rw [← hc]; exact beq_eq_false_iff_ne.mpr c34
        have b34n : (bt s i != 34) = true := by rw [← hc]; exact bne_iff_ne.mpr c34
        by_cases c92 : c = 92
        · have b92 : (bt s i == 92) = true := by rw [← hc]; exact beq_iff_eq.mpr c92
          by_cases ca3 : a2 + 1 < s.size
          · skip
            have hdr3 := drop_bt ca3
            have hsq1 : Arr.scanQ ((bytesOf s).drop (a2 + 1 + 1)) false (acc ++ [bt s ((a2 + 1 : Nat) : Int)]) = T := by
              rw [← hsq, c92, Arr.scanQ, if_pos rfl, hdr3, Arr.scanQ]
            obtain ⟨j, hj⟩ : ∃ j : Int, j = ((a2 + 1 : Nat) : Int) := ⟨_, rfl⟩
            rw [← hj] at hsq1
            have HSQ1 := Aside0.mk hsq1
            have hw : wrap64 (i + 1) = j := by have := HL.out; unfold wrap64; omega
            have hw2 : IntKind.i64.wrap (i + 1) = j := by have := HL.out; rw [IntKind.wrap_i64]; omega
            have e1 : (j == (s.size : Int)) = false := beq_eq_false_iff_ne.mpr (by omega)
            have HI := Aside0.mk hi
            have HJ := Aside0.mk hj
            have HCA := Aside0.mk ca3
            have HCA0 := Aside0.mk ca
            clear hsq hdr hdr3 hsq1 hc hi hj ca ca3 c34 c92
            --{B
            go_wp2_with fail
            go_quiet (fail)
            go_wp2_with fail
            go_quiet (fail)
            go_wp2_with fail
            refine wp_gen (fun W3 => RS w0 s del g gd gs n (a2 + 1) D S false false els v W3 ∧ Kd.R (Kd.int .u8) 5 W3 bz (fun _ => True) u2 acc ∧ RB w0 g gd gs bz els v W3) ⟨by rw [HJ.out]; exact (HS.out.rs.drewN _).setAt (a2 + 1) (by have := HCA.out; omega) (by have := HS.out.ha; omega), own_far (HS.out.rs.drewN _) (Kd.R_drewN HS.out.own _) _ _, (HS.out.rb.drewN _).set (HS.out.rs.drewN _) _⟩ ?_
            clear c0 c1 f1 f6 c6 g1 g1b g3 g3b kbt hw hw2
            intro W2 hW2
            obtain ⟨h2, ho2, hrb2⟩ := hW2
            have c0 := h2.c 0 (.string s) rfl
            have c1 : W2.cell? ⟨g, 1, none⟩ = some (.int .i64 j) := by rw [HJ.out]; exact h2.c 1 _ rfl
            have H2 := Aside0.mk h2
            have HO2 := Aside0.mk ho2
            have HR2 := Aside0.mk hrb2
            have g1 : True := trivial
            have g1b : True := trivial
            have g3 : True := trivial
            have g3b : True := trivial
            have kbt : True := trivial
            have f1 : True := trivial
            have f6 : True := trivial
            have c6 : True := trivial
            have hw : True := trivial
            have hw2 : True := trivial
            clear h2 ho2 hrb2
            go_quiet (fail)
            go_wp2_with fail
            refine wp_gen (fun W3 => RS w0 s del g gd gs n (a2 + 1) D S false false els v W3 ∧ Kd.R (Kd.int .u8) 5 W3 bz (fun _ => True) u2 acc ∧ RB w0 g gd gs bz els v W3) ⟨by first | exact H2.out.drewN _ | exact (H2.out.drewN _).drewN _, by first | exact Kd.R_drewN HO2.out _ | exact Kd.R_drewN (Kd.R_drewN HO2.out _) _, by first | exact HR2.out.drewN _ | exact (HR2.out.drewN _).drewN _⟩ ?_
            clear c0 c1 f1 f6 c6 g1 g1b g3 g3b kbt hw hw2 b34 b34n b92 e1
            intro W3 hW3
            obtain ⟨h3, ho3, hrb3⟩ := hW3
            have c0 := h3.c 0 (.string s) rfl
            have c1 : W3.cell? ⟨g, 1, none⟩ = some (.int .i64 j) := by rw [HJ.out]; exact h3.c 1 _ rfl
            have kbt := bt_at s j
            have g1 : (j < (s.size : Int)) = True := eq_true (by have := HJ.out; have := HCA.out; omega)
            have g1b : decide (j < (s.size : Int)) = true := decide_eq_true (by have := HJ.out; have := HCA.out; omega)
            have g3 : (0 ≤ j) = True := eq_true (by have := HJ.out; omega)
            have g3b : decide (0 ≤ j) = true := decide_eq_true (by have := HJ.out; omega)
            have z0 := fun o => (blk_cell (blk_alloc h3.blk o) 0).trans (rfl : _ = some (Value.string s))
            have z1 : ∀ o, (W3.alloc o).cell? ⟨g, 1, none⟩ = some (.int .i64 j) := fun o => by rw [HJ.out]; exact (blk_cell (blk_alloc h3.blk o) 1).trans rfl
            have HO3 := Aside0.mk (Kd.R_drew ho3)
            have HS3 : Aside0 (bz ≤ W3.drew.heap.size) := ⟨hrb3.hb⟩
            have HG3 := Aside0.mk (show W3.drew.heap[g]? = _ from h3.blk)
            have HE3 := Aside0.mk (Kd.R_ne ho3 h3.blk (by decide))
            have HLEN : Aside0 ((acc.length + 1) * 1 ≤ 140737488355328) := ⟨by have := HS.out.al; have := HS.out.rs.al; have := HL.out; omega⟩
            have H3 := Aside0.mk (h3.below (below_drew (Below.refl _ _)))
            have HRB3 : Aside0 (RB w0 g gd gs bz els v W3.drew) := ⟨⟨hrb3.lt, Kd.R_drew hrb3.lv, hrb3.hb⟩⟩
            clear h3 ho3 hrb3
            go_region_law
              ((refine Kd.R_append_step (Kd.int .u8) (w0 := W3.drew) (W := W3.drew) bz (by rfl) (.tmp 66) (.tmp 76) 58 5 (.int .u8 0) 1 (by rfl) Tryz.underlying58 u8_infoS (by rfl) (by decide) (by omega) u2 acc (bt s j) [.int .u8 (bt s j)] (fun _ => True) (fun _ => False) (by rfl) (by first | (go_simp; done) | (go_simp; rfl)) (by rfl) (fun _ hk => hk.elim) (fun _ _ => trivial) HO3.out (Below.refl _ _) HS3.out HLEN.out ?_; intro v1 w8 ho hb hg hat; have b8 := blk_grown HG3.out hg HE3.out; have c8 : w8.cell? ⟨g, 1, none⟩ = some (.int .i64 j) := (blk_cell b8 1).trans (by rw [HJ.out]; rfl); have f8 := blk_frozen b8 1))
            all_goals
              have hw3 : wrap64 (j + 1) = ((a2 + 1 + 1 : Nat) : Int) := by have := HL.out; have := HJ.out; have := HCA.out; unfold wrap64; omega
              go_wp2_with fail
              go_roundg (s.size - a2)
              case measure => have := HK.out; have := HCA0.out; omega
              case rel =>
                refine ⟨a2 + 1 + 1, acc ++ [bt s j], ⟨by have := HCA0.out; omega⟩, ⟨?_⟩⟩
                exact QS.step H3.out HRB3.out HO3.out ho hb hg (a2 + 1 + 1) (by have := HCA.out; omega) HSQ1.out (by have := HS.out.al; omega) (by have := HS.out.ha; omega)
            --}B
          · skip
            have he : a2 + 1 = s.size := by omega
            have hTe : T = none := by rw [← hsq, c92, Arr.scanQ, if_pos rfl, drop_end (by omega), Arr.scanQ]
            obtain ⟨j, hj⟩ : ∃ j : Int, j = ((a2 + 1 : Nat) : Int) := ⟨_, rfl⟩
            have hw : wrap64 (i + 1) = j := by have := HL.out; unfold wrap64; omega
            have hw2 : IntKind.i64.wrap (i + 1) = j := by have := HL.out; rw [IntKind.wrap_i64]; omega
            have e1 : (j == (s.size : Int)) = true := beq_iff_eq.mpr (by omega)
            have e2 : ((s.size : Int) ≤ j) = True := eq_true (by omega)
            have e2b : decide ((s.size : Int) ≤ j) = true := decide_eq_true (by omega)
            have HTE := Aside0.mk hTe
            have HE := Aside0.mk he
            have HJ := Aside0.mk hj
            have HCA := Aside0.mk ca
            clear hsq hdr hTe he hc hi hj ca ca3 c34 c92
            --{C
            go_wp2_with fail
            go_quiet (fail)
            go_wp2_with fail
            go_quiet (fail)
            go_wp2_with fail
            refine wp_gen (fun W3 => RS w0 s del g gd gs n (a2 + 1) D S false false els v W3) (by rw [HJ.out]; exact (HS.out.rs.drewN _).setAt (a2 + 1) (by have := HE.out; omega) (by have := HS.out.ha; omega)) ?_
            clear c0 c1 f1 f6 c6 g1 g1b g3 g3b kbt hw hw2
            intro W2 h2
            have c0 := h2.c 0 (.string s) rfl
            have c1 : W2.cell? ⟨g, 1, none⟩ = some (.int .i64 j) := by rw [HJ.out]; exact h2.c 1 _ rfl
            have c6 := h2.c 6 (.bool false) rfl
            have f6 := h2.f 6
            have H2 := Aside0.mk h2
            clear h2
            go_quiet (fail)
            go_wp2_with fail
            go_quiet (fail)
            go_wp2_with fail
            refine bodyPost_ret (results_none rfl _ _ _) rfl ?_
            refine ⟨rfl, ?_⟩
            rw [HTE.out]
            show RS w0 s del g gd gs n s.size D S false true els v _
            rw [← HE.out]
            exact (H2.out.drewN _).setBad
            --}C
        · have b92 : (bt s i == 92) = false := by rw [← hc]; exact beq_eq_false_iff_ne.mpr c92
          have hsq1 : Arr.scanQ ((bytesOf s).drop (a2 + 1)) false (acc ++ [c]) = T := by
            rw [← hsq, Arr.scanQ, if_neg c92, if_neg c34]
          have HSQ1 := Aside0.mk hsq1
          have HC := Aside0.mk hc
          have HI := Aside0.mk hi
          have HCA := Aside0.mk ca
          have HCA0 := Aside0.mk ca
          obtain ⟨j, hj⟩ : ∃ j : Int, j = ((a2 + 1 : Nat) : Int) := ⟨_, rfl⟩
          have HJ := Aside0.mk hj
          have hw : True := trivial
          have hw2 : True := trivial
          clear hsq hdr hsq1 hc hi ca c34 c92 hj
          --{D
          go_wp2_with fail
          go_quiet (fail)
          go_wp2_with fail
          go_quiet (fail)
          go_wp2_with fail
          refine wp_gen (fun W3 => RS w0 s del g gd gs n (a2) D S false false els v W3 ∧ Kd.R (Kd.int .u8) 5 W3 bz (fun _ => True) u2 acc ∧ RB w0 g gd gs bz els v W3) ⟨by first | exact HS.out.rs.drewN _ | exact (HS.out.rs.drewN _).drewN _, by first | exact Kd.R_drewN HS.out.own _ | exact Kd.R_drewN (Kd.R_drewN HS.out.own _) _, by first | exact HS.out.rb.drewN _ | exact (HS.out.rb.drewN _).drewN _⟩ ?_
          clear c0 c1 f1 f6 c6 g1 g1b g3 g3b kbt hw hw2 b34 b34n b92 
          intro W3 hW3
          obtain ⟨h3, ho3, hrb3⟩ := hW3
          have c0 := h3.c 0 (.string s) rfl
          have c1 : W3.cell? ⟨g, 1, none⟩ = some (.int .i64 i) := by rw [HI.out]; exact h3.c 1 _ rfl
          have kbt := bt_at s i
          have g1 : (i < (s.size : Int)) = True := eq_true (by have := HI.out; have := HCA.out; omega)
          have g1b : decide (i < (s.size : Int)) = true := decide_eq_true (by have := HI.out; have := HCA.out; omega)
          have g3 : (0 ≤ i) = True := eq_true (by have := HI.out; omega)
          have g3b : decide (0 ≤ i) = true := decide_eq_true (by have := HI.out; omega)
          have z0 := fun o => (blk_cell (blk_alloc h3.blk o) 0).trans (rfl : _ = some (Value.string s))
          have z1 : ∀ o, (W3.alloc o).cell? ⟨g, 1, none⟩ = some (.int .i64 i) := fun o => by rw [HI.out]; exact (blk_cell (blk_alloc h3.blk o) 1).trans rfl
          have HO3 := Aside0.mk (Kd.R_drew ho3)
          have HS3 : Aside0 (bz ≤ W3.drew.heap.size) := ⟨hrb3.hb⟩
          have HG3 := Aside0.mk (show W3.drew.heap[g]? = _ from h3.blk)
          have HE3 := Aside0.mk (Kd.R_ne ho3 h3.blk (by decide))
          have HLEN : Aside0 ((acc.length + 1) * 1 ≤ 140737488355328) := ⟨by have := HS.out.al; have := HS.out.rs.al; have := HL.out; omega⟩
          have H3 := Aside0.mk (h3.below (below_drew (Below.refl _ _)))
          have HRB3 : Aside0 (RB w0 g gd gs bz els v W3.drew) := ⟨⟨hrb3.lt, Kd.R_drew hrb3.lv, hrb3.hb⟩⟩
          clear h3 ho3 hrb3
          go_region_law
            ((refine Kd.R_append_step (Kd.int .u8) (w0 := W3.drew) (W := W3.drew) bz (by rfl) (.tmp 66) (.tmp 76) 58 5 (.int .u8 0) 1 (by rfl) Tryz.underlying58 u8_infoS (by rfl) (by decide) (by omega) u2 acc (bt s i) [.int .u8 (bt s i)] (fun _ => True) (fun _ => False) (by rfl) (by first | (go_simp; done) | (go_simp; rfl)) (by rfl) (fun _ hk => hk.elim) (fun _ _ => trivial) HO3.out (Below.refl _ _) HS3.out HLEN.out ?_; intro v1 w8 ho hb hg hat; have b8 := blk_grown HG3.out hg HE3.out; have c8 : w8.cell? ⟨g, 1, none⟩ = some (.int .i64 i) := (blk_cell b8 1).trans (by rw [HI.out]; rfl); have f8 := blk_frozen b8 1))
          all_goals
            have hw3 : wrap64 (i + 1) = ((a2 + 1 : Nat) : Int) := by have := HL.out; have := HI.out; have := HCA.out; unfold wrap64; omega
            go_wp2_with fail
            go_roundg (s.size - a2)
            case measure => have := HK.out; have := HCA0.out; omega
            case rel =>
              refine ⟨a2 + 1, acc ++ [bt s i], ⟨by have := HCA0.out; omega⟩, ⟨?_⟩⟩
              exact QS.step H3.out HRB3.out HO3.out ho hb hg (a2 + 1) (by have := HCA.out; omega) (by rw [← HC.out]; exact HSQ1.out) (by have := HS.out.al; omega) (by have := HS.out.ha; omega)
          --}D
    · have he : a2 = s.size := by have := HS.out.rs.al; omega
      have hsq := HS.out.sq
      rw [drop_end (by omega), Arr.scanQ] at hsq
      obtain ⟨i, hi⟩ : ∃ i : Int, i = (a2 : Int) := ⟨_, rfl⟩
      rw [← hi] at c1
      have g1 : (i < (s.size : Int)) = False := eq_false (by omega)
      have g1b : decide (i < (s.size : Int)) = false := decide_eq_false (by omega)
      have g2 : ((s.size : Int) ≤ i) = True := eq_true (by omega)
      have g2b : decide ((s.size : Int) ≤ i) = true := decide_eq_true (by omega)
      have HSQ := Aside0.mk hsq
      have HE := Aside0.mk he
      clear hi he hsq ca
      --{E
      go_wp2_with fail
      go_quiet (fail)
      go_wp2_with fail
      go_quiet (fail)
      go_wp2_with fail
      refine bodyPost_ret (results_none rfl _ _ _) rfl ?_
      refine ⟨rfl, ?_⟩
      rw [← HSQ.out]
      show RS w0 s del g gd gs n s.size D S false true els v _
      rw [← HE.out]
      exact (HS.out.rs.drewN _).setBad
      --}E

/-! ### spec_upper: function 37 -/
def spec_upper.f (a0 : ByteArray) : Option ByteArray := none
theorem spec_upper.calls (a0 : ByteArray) (r : ByteArray) (w : World) (h : spec_upper.f a0 = some r) :
    Calls Tryz.prog 37 #[.string a0] w fun e w' => e = .returned (.string r) ∧ Below w.heap.size w w' := by
  unfold spec_upper.f at h; cases h
/-- Bytes of a conversion, some of them stored into. -/
structure UB (w : World) (G N : Nat) (xs : List Int) (W : World) : Prop where
  cs : ∃ cs, W.heap[G]? = some (.cells cs 5 (N, N + 1)) ∧ cs.size = N ∧ ∀ j, j < xs.length → cs[j]? = some (.int .u8 (xs.getD j 0))
  lt : xs.length ≤ N
  mx : xs.length ≤ 1000000
  hB : Below w.heap.size w W
  ge : w.heap.size ≤ G
theorem UB.cell {w W : World} {G N : Nat} {xs : List Int} (h : UB w G N xs W) (j : Nat) (hj : j < xs.length) : W.cell? ⟨G, j, none⟩ = some (.int .u8 (xs.getD j 0)) := by
  obtain ⟨cs, h1, h2, h3⟩ := h.cs
  simp [World.cell?, h1, h3 j hj]
theorem UB.frozen {w W : World} {G N : Nat} {xs : List Int} (h : UB w G N xs W) (j : Nat) (hj : j < xs.length) : W.frozen? ⟨G, j, none⟩ = false := by
  obtain ⟨cs, h1, h2, h3⟩ := h.cs
  have := h.lt
  simp [World.frozen?, h1]
  omega
theorem UB.set {w W : World} {G N : Nat} {xs : List Int} (h : UB w G N xs W) (i : Nat) (x : Int) (hi : i < xs.length) : UB w G N (xs.set i x) (W.setCell ⟨G, i, none⟩ (.int .u8 x)) := by
  obtain ⟨cs, h1, h2, h3⟩ := h.cs
  refine ⟨⟨cs.setIfInBounds i (.int .u8 x), by simp [World.setCell, Array.getElem?_modify, h1], by simp [h2], fun j hj => ?_⟩, by simpa using h.lt, by simpa using h.mx, h.hB.setCell h.ge _, h.ge⟩
  rw [List.length_set] at hj
  have hlt := h.lt
  rw [Array.getElem?_setIfInBounds]
  by_cases hij : i = j
  · subst hij
    rw [if_pos rfl, if_pos (by omega)]
    simp [List.getD_eq_getElem?_getD, hi]
  · rw [if_neg hij, h3 j hj]
    simp [List.getD_eq_getElem?_getD, List.getElem?_set, hij]
theorem UB.reads {w W : World} {G N : Nat} {xs : List Int} (h : UB w G N xs W) : Kd.C (Kd.int .u8) W (some ⟨G, 0, none⟩) xs.length xs :=
  Kd.C_of_reads (d := (0 : Int)) (h1 := fun _ => rfl) ⟨rfl, by have := h.mx; omega, fun _ => ⟨_, rfl, fun j hj => by
    have e : (⟨G, 0, none⟩ : Addr).add j = ⟨G, j, none⟩ := by
      unfold Addr.add
      split <;> simp_all
    rw [e]
    exact h.cell j hj⟩⟩
theorem UB.start (w : World) (t : ByteArray) (ht : t.size ≤ 1000000) : UB w w.heap.size (Lib.bytesCells w 5 t).size (bytesOf t) (Lib.bytesWorld w 5 t) := by
  have hc : ∀ j, j < (bytesOf t).length → (Lib.bytesCells w 5 t)[j]? = some (.int .u8 ((bytesOf t).getD j 0)) := by
    intro j hj
    rw [bytesOf_length] at hj
    have h := Lib.bytesWorld_cell w 5 t j hj
    simp only [World.cell?, Lib.bytesWorld_at_new] at h
    rw [show (bytesOf t).getD j 0 = ((t.data.toList.getD j 0).toNat : Int) by
      have hj2 : j < t.data.toList.length := by simpa using hj
      simp [bytesOf, List.getD_eq_getElem?_getD, List.getElem?_eq_getElem hj2]]
    exact h
  refine ⟨⟨_, Lib.bytesWorld_at_new w 5 t, rfl, hc⟩, ?_, by rw [bytesOf_length]; exact ht, bytes_below (Below.refl _ _) (Nat.le_refl _) 5 t, Nat.le_refl _⟩
  rcases Nat.eq_zero_or_pos (bytesOf t).length with h0 | h0
  · omega
  · have := hc ((bytesOf t).length - 1) (by omega)
    rcases Nat.lt_or_ge ((bytesOf t).length - 1) (Lib.bytesCells w 5 t).size with h1 | h1
    · omega
    · rw [Array.getElem?_eq_none h1] at this; cases this
/-- The first i letters great. -/
def upTo (l : List Int) (i : Nat) : List Int := Arr.upperI (l.take i) ++ l.drop i
def upC (c : Int) : Int := if 97 ≤ c ∧ c ≤ 122 then c - 32 else c
theorem upTo_length (l : List Int) (i : Nat) : (upTo l i).length = l.length := by
  simp [upTo, Arr.upperI]; omega
theorem upTo_zero (l : List Int) : upTo l 0 = l := by simp [upTo, Arr.upperI]
theorem upTo_all (l : List Int) : upTo l l.length = Arr.upperI l := by simp [upTo]
theorem upTo_at (l : List Int) (i : Nat) (h : i < l.length) : (upTo l i).getD i 0 = l.getD i 0 := by
  have h1 : (Arr.upperI (l.take i)).length = i := by simp [Arr.upperI]; omega
  rw [upTo, List.getD_eq_getElem?_getD, List.getElem?_append_right (by omega), h1, Nat.sub_self, List.getElem?_drop, List.getD_eq_getElem?_getD]
  rfl
theorem upTo_succ (l : List Int) (i : Nat) (h : i < l.length) : upTo l (i + 1) = (upTo l i).set i (upC (l.getD i 0)) := by
  have h1 : (Arr.upperI (l.take i)).length = i := by simp [Arr.upperI]; omega
  have h2 : l.drop i = l[i] :: l.drop (i + 1) := List.drop_eq_getElem_cons h
  unfold upTo
  rw [h2, List.set_append_right _ _ (by omega), h1, Nat.sub_self, List.set_cons_zero, List.take_add_one, List.getElem?_eq_getElem h]
  have h3 : l.getD i 0 = l[i] := by simp [List.getD_eq_getElem?_getD, List.getElem?_eq_getElem h]
  rw [h3]
  show List.map _ (l.take i ++ [l[i]]) ++ l.drop (i + 1) = List.map _ (l.take i) ++ upC l[i] :: l.drop (i + 1)
  rw [List.map_append, List.append_assoc]
  rfl
theorem upTo_same (l : List Int) (i : Nat) (h : i < l.length) (hc : upC (l.getD i 0) = l.getD i 0) : upTo l (i + 1) = upTo l i := by
  rw [upTo_succ l i h, hc, ← upTo_at l i h]
  apply List.ext_getElem?
  intro j
  rw [List.getElem?_set]
  split
  · rename_i hj; subst hj
    have : i < (upTo l i).length := by rw [upTo_length]; exact h
    simp [List.getD_eq_getElem?_getD, this]
  · rfl
set_option maxHeartbeats 1000000 in
set_option maxRecDepth 100000 in
theorem spec_upper.main (t : ByteArray) (w : World) (ht : t.size ≤ 1000000) :
    Calls Tryz.prog 37 #[.string t] w fun e w' => e = .returned (.string (strOfNums (Arr.upperI (bytesOf t)))) ∧ Below w.heap.size w w' := by
  have kb := fun W => print_bytes (P := Tryz.prog) 9 58 5 Tryz.underlying9 Tryz.underlying58 Tryz.underlying5 t W
  have HU := Aside0.mk (UB.start w t ht)
  have HT := Aside0.mk ht
  clear ht
  go_enter Tryz.func37, Tryz.ntmps37
  go_wp2_with fail
  go_loopg [4] (t.size + 1) (fun kq s4 wx => ∃ i : Nat, s4 = .int .i64 (i : Int) ∧ Aside0 (kq + i ≥ t.size + 1) ∧ Aside0 (i ≤ t.size) ∧ Aside0 (UB w w.heap.size (Lib.bytesCells w 5 t).size (upTo (bytesOf t) i) wx))
  case atStart => exact ⟨0, rfl, ⟨by omega⟩, ⟨Nat.zero_le _⟩, ⟨by rw [upTo_zero]; exact HU.out⟩⟩
  case round =>
    obtain ⟨i, rfl, HK, HI, HS⟩ := hrel
    clear kb HU
    by_cases ci : i < t.size
    · have hil : i < (bytesOf t).length := by rw [bytesOf_length]; exact ci
      have hul : i < (upTo (bytesOf t) i).length := by rw [upTo_length]; exact hil
      have x0 := HS.out.cell i hul
      have f0 := HS.out.frozen i hul
      rw [upTo_at _ _ hil] at x0
      obtain ⟨c, hc⟩ : ∃ c, c = (bytesOf t).getD i 0 := ⟨_, rfl⟩
      rw [← hc] at x0
      have g1 : ((i : Int) < (t.size : Int)) = True := eq_true (by omega)
      have g1b : decide ((i : Int) < (t.size : Int)) = true := decide_eq_true (by omega)
      have g1c : decide (i < t.size) = true := decide_eq_true ci
      have g1d : (i < t.size) = True := eq_true ci
      have hi1 : wrap64 ((i : Int) + 1) = ((i + 1 : Nat) : Int) := by have := HT.out; unfold wrap64; omega
      have HC := Aside0.mk hc
      have HCI := Aside0.mk ci
      have HIL := Aside0.mk hil
      have HUL := Aside0.mk hul
      clear hc ci hil hul
      by_cases c1 : 97 ≤ c
      · have c1b : decide (97 ≤ c) = true := decide_eq_true c1
        by_cases c2 : c ≤ 122
        · have c2b : decide (c ≤ 122) = true := decide_eq_true c2
          have hw : IntKind.u8.wrap (c - 32) = c - 32 := by rw [IntKind.wrap_u8]; omega
          have hup : upC c = c - 32 := by unfold upC; rw [if_pos ⟨c1, c2⟩]
          have HUP := Aside0.mk hup
          clear c1 c2 hup
          --{A
          go_wp2_with fail
          go_roundg (t.size - i)
          case measure => have := HK.out; have := HCI.out; omega
          case rel =>
            refine ⟨i + 1, by first | rfl | go_num, ⟨by have := HCI.out; omega⟩, ⟨HCI.out⟩, ⟨?_⟩⟩
            rw [upTo_succ _ _ HIL.out, ← HC.out, HUP.out]
            exact HS.out.set i (c - 32) HUL.out
          --}A
        · have c2b : decide (c ≤ 122) = false := decide_eq_false c2
          have hup : upC c = c := by unfold upC; rw [if_neg (fun h => c2 h.2)]
          have HUP := Aside0.mk hup
          clear c1 c2 hup
          --{B
          go_wp2_with fail
          go_roundg (t.size - i)
          case measure => have := HK.out; have := HCI.out; omega
          case rel =>
            refine ⟨i + 1, by first | rfl | go_num, ⟨by have := HCI.out; omega⟩, ⟨HCI.out⟩, ⟨?_⟩⟩
            rw [upTo_same _ _ HIL.out (by rw [← HC.out]; exact HUP.out)]
            exact HS.out
          --}B
      · have c1b : decide (97 ≤ c) = false := decide_eq_false c1
        have hup : upC c = c := by unfold upC; rw [if_neg (fun h => c1 h.1)]
        have HUP := Aside0.mk hup
        clear c1 hup
        --{C
        go_wp2_with fail
        go_roundg (t.size - i)
        case measure => have := HK.out; have := HCI.out; omega
        case rel =>
          refine ⟨i + 1, by first | rfl | go_num, ⟨by have := HCI.out; omega⟩, ⟨HCI.out⟩, ⟨?_⟩⟩
          rw [upTo_same _ _ HIL.out (by rw [← HC.out]; exact HUP.out)]
          exact HS.out
        --}C
    · have hie : i = t.size := by have := HI.out; omega
      have hr := HS.out.reads
      rw [hie, ← bytesOf_length, upTo_all] at hr
      have hlu : (Arr.upperI (bytesOf t)).length = t.size := by simp [Arr.upperI, bytesOf_length]
      have hcv := fun (c_ : Nat) => Kd.C_string (P := Tryz.prog) (c := c_) Tryz.underlying58 Tryz.underlying5 Tryz.underlying9 hr
      rw [hlu] at hcv
      have g1 : ((i : Int) < (t.size : Int)) = False := eq_false (by omega)
      have g1b : decide ((i : Int) < (t.size : Int)) = false := decide_eq_false (by omega)
      have g1c : decide (i < t.size) = false := decide_eq_false ci
      have g1d : (i < t.size) = False := eq_false ci
      clear hr hlu hie ci
      --{D
      go_wp2_with fail
      go_ret
      exact ⟨rfl, HS.out.hB⟩
      --}D

end Go.Proofs.YtcdcoogjhkchlaaGreatDoor.P
