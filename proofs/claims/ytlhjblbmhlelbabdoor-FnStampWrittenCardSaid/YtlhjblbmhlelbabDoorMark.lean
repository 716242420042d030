/- A row of bytes of the call's own whose mark, if it has one, lies behind its last cell (what a conversion of a string makes): appends onto it. Conditions: named by each theorem. -/
import Derived.Test.YtlhjblbmhlelbabDoorPx0
namespace Go.Proofs.YtlhjblbmhlelbabDoor.P
open Go.RowKit Go.Proofs.YtlhjblbmhlelbabDoorW.PrintWords Go.Proofs.YtlhjblbmhlelbabDoorW.PrintLast Go.Proofs.YtlhjblbmhlelbabDoorW.PrintMore
set_option linter.unusedVariables false
set_option linter.unusedSimpArgs false
/-- No cell of a row of n cells bears the mark. -/
def Unmarked (fz : Nat × Nat) (n : Nat) : Prop := ∀ j, j < n → (decide (fz.1 ≤ j) && decide (j < fz.2)) = false
theorem unmarked_zero (n : Nat) : Unmarked (0, 0) n := fun j _ => by simp
theorem unmarked_behind {fz : Nat × Nat} {n : Nat} (h : n ≤ fz.1) : Unmarked fz n := fun j hj => by
  have : decide (fz.1 ≤ j) = false := decide_eq_false (by omega)
  rw [this]; rfl
def OwnB (e : TypeId) (w : World) (base : Nat) (v : Value) (xs : List Int) : Prop :=
  (v = .slice none 0 0 ∧ xs = []) ∨ ∃ g cap cur fz, v = .slice (some ⟨g, 0, none⟩) xs.length cap ∧ base ≤ g ∧ w.heap[g]? = some (.cells cur e fz) ∧ Unmarked fz cur.size ∧ xs.length ≤ cap ∧ cap ≤ maxLen ∧ cur.size = cap ∧ cur.toList.take xs.length = xs.map (Value.int .u8)
theorem OwnB.of_block {e : TypeId} {w w1 : World} {base : Nat} {v : Value} {xs : List Int} (h : OwnB e w base v xs) (hb : ∀ k, v.ownBlock = some k → w1.heap[k]? = w.heap[k]?) : OwnB e w1 base v xs := by
  rcases h with h | ⟨g, cap, cur, fz, rfl, h1, h2, r⟩
  · exact .inl h
  · exact .inr ⟨g, cap, cur, fz, rfl, h1, (hb g rfl).trans h2, r⟩
theorem OwnB.lt {e : TypeId} {w : World} {base : Nat} {v : Value} {xs : List Int} (h : OwnB e w base v xs) : ∀ k, v.ownBlock = some k → base ≤ k ∧ k < w.heap.size := by
  rcases h with ⟨rfl, _⟩ | ⟨g, cap, cur, fz, rfl, h1, h2, r⟩
  · intro k hk; cases hk
  · intro k hk
    injection hk with hk
    subst hk
    exact ⟨h1, blk_lt h2⟩
theorem OwnB.below {e : TypeId} {w w1 : World} {base : Nat} {v : Value} {xs : List Int} (h : OwnB e w base v xs) (hb : Below w.heap.size w w1) : OwnB e w1 base v xs := h.of_block (fun k hk => hb.block k (h.lt k hk).2)
theorem OwnB.drewN {e : TypeId} {w : World} {base : Nat} {v : Value} {xs : List Int} (h : OwnB e w base v xs) (n : Nat) : OwnB e (w.drewN n) base v xs := h.of_block (fun _ _ => rfl)
theorem OwnB.drew {e : TypeId} {w : World} {base : Nat} {v : Value} {xs : List Int} (h : OwnB e w base v xs) : OwnB e w.drew base v xs := h.of_block (fun _ _ => rfl)
theorem OwnB.lower {e : TypeId} {w : World} {base base' : Nat} {v : Value} {xs : List Int} (h : OwnB e w base v xs) (hb : base' ≤ base) : OwnB e w base' v xs := by
  rcases h with h | ⟨g, cap, cur, fz, rfl, h1, r⟩
  · exact .inl h
  · exact .inr ⟨g, cap, cur, fz, rfl, Nat.le_trans hb h1, r⟩
theorem OwnB.val {e : TypeId} {w : World} {base : Nat} {v : Value} {xs : List Int} (h : OwnB e w base v xs) : ∃ A c, v = .slice A xs.length c ∧ xs.length ≤ c := by
  rcases h with ⟨rfl, rfl⟩ | ⟨g, cap, cur, fz, rfl, h1, h2, h3, h4, r⟩
  · exact ⟨none, 0, rfl, Nat.le_refl _⟩
  · exact ⟨_, cap, rfl, h4⟩
theorem OwnB.cells {e : TypeId} {w : World} {base g cap n : Nat} {xs : List Int} (h : OwnB e w base (.slice (some ⟨g, 0, none⟩) n cap) xs) : ∀ j u, (xs.map (Value.int .u8))[j]? = some u → w.cell? ((⟨g, 0, none⟩ : Addr).add j) = some u := by
  intro j u hu
  rcases h with ⟨h, _⟩ | ⟨g', cap', cur, fz, e1, h1, h2, h3, h4, h5, h6, h7⟩
  · cases h
  · injection e1 with e1 e2 e3
    injection e1 with e1
    injection e1 with e1
    subst e1
    have hadd : (⟨g, 0, none⟩ : Addr).add j = ⟨g, j, none⟩ := by unfold Addr.add; split <;> simp_all
    rw [hadd, cell_of_row w g j cur e fz h2]
    rw [← h7, List.getElem?_take] at hu
    split at hu
    · simpa using hu
    · cases hu
theorem OwnB.c {e : TypeId} {w : World} {base : Nat} {A : Option Addr} {n c : Nat} {xs : List Int} (h : OwnB e w base (.slice A n c) xs) (hm : xs.length ≤ 9223372036854775807) : n = xs.length ∧ Kd.C (Kd.int .u8) w A n xs := by
  rcases h with ⟨h, rfl⟩ | ⟨g, cap, cur, fz, e1, h1, h2, h3, h4, h5, h6, h7⟩
  · injection h with e1 e2 e3
    subst e1 e2
    exact ⟨rfl, Kd.C_of_reads (d := (0 : Int)) (h1 := fun _ => rfl) ⟨rfl, by omega, fun hp => absurd hp (by omega)⟩⟩
  · have h8 : OwnB e w base (.slice (some ⟨g, 0, none⟩) xs.length cap) xs := .inr ⟨g, cap, cur, fz, rfl, h1, h2, h3, h4, h5, h6, h7⟩
    injection e1 with e1 e2 e3
    subst e1 e2
    refine ⟨rfl, Kd.C_of_reads (d := (0 : Int)) (h1 := fun _ => rfl) ⟨rfl, hm, fun hp => ⟨_, rfl, fun j hj => ?_⟩⟩⟩
    rw [h8.cells j (.int .u8 (xs.getD j 0)) (by rw [List.getElem?_map, List.getElem?_eq_getElem hj]; simp [List.getD_eq_getElem?_getD, List.getElem?_eq_getElem hj])]
theorem OwnB.of_bytes (W : World) (e : TypeId) (s : ByteArray) (hs : s.size ≤ maxLen) : OwnB e (Lib.bytesWorld W e s) W.heap.size (.slice (some ⟨W.heap.size, 0, none⟩) s.size (grownCap W s.size 0 e)) (bytesOf s) := by
  have hge := grownCap_ge W s.size 0 e
  have hsz : (Lib.bytesCells W e s).size = grownCap W s.size 0 e := by
    simp only [Lib.bytesCells, Array.size_append, size_zeroCells, Array.size_map, Array.size_replicate]
    have : s.data.size = s.size := rfl
    simp [Value.cells]
    omega
  have hblk : (Lib.bytesWorld W e s).heap[W.heap.size]? = some (.cells (Lib.bytesCells W e s) e ((Lib.bytesCells W e s).size, (Lib.bytesCells W e s).size + 1)) := by
    have hm : ∀ (a : Array Obj) (x : Obj) (f : Obj → Obj), (a.push x).modify a.size f = a.push (f x) := by
      intro a x f
      apply Array.ext
      · simp
      · intro i h1 h2
        simp only [Array.getElem_modify, Array.getElem_push]
        by_cases h : a.size = i
        · subst h
          simp
        · have hi : i < a.size := by simp at h1; omega
          simp [h, hi]
    unfold Lib.bytesWorld World.freeze
    rw [if_neg (by decide)]
    show ((W.heap.push (.cells (Lib.bytesCells W e s) e)).modify W.heap.size _)[W.heap.size]? = _
    rw [hm]
    simp
  refine .inr ⟨W.heap.size, _, _, _, by rw [bytesOf_length], Nat.le_refl _, hblk, unmarked_behind (Nat.le_refl _), by rw [bytesOf_length]; exact hge, grownCap_le_maxLen W s.size 0 e hs, hsz, ?_⟩
  rw [bytesOf_length]
  have : (Lib.bytesCells W e s).toList.take s.size = Lib.strCells s := by
    simp only [Lib.bytesCells, Array.toList_append]
    rw [List.take_append_of_le_length (by simp)]
    rw [List.take_of_length_le (by simp)]
    simp [Lib.strCells]
  rw [this]
  simp [bytesOf, Lib.strCells]
/-- Cells stored in a row of which no cell bears the mark. -/
theorem run_storeCells_atB (P : Program) (g o : Nat) (t : TypeId) (fz : Nat × Nat) : ∀ (vs : List Value) (i : Nat) (cur : Array Value) (w : World), w.heap[g]? = some (.cells cur t fz) → Unmarked fz cur.size → o + i + vs.length ≤ cur.size → (∀ v ∈ vs, v.oneCell' = true) →
    (storeCells ⟨g, o, none⟩ vs i).run P w = .ok () (w.setRow g (cur.toList.take (o + i) ++ vs ++ cur.toList.drop (o + i + vs.length)).toArray)
  | [], i, cur, w, hg, _, _, _ => by
    simp only [storeCells, List.append_nil, List.length_nil, Nat.add_zero, List.take_append_drop, Array.toArray_toList]
    rw [setRow_self w g cur t fz hg]
    rfl
  | v :: rest, i, cur, w, hg, hfz, hl, h1 => by
    have hi : o + i < cur.size := by simp at hl; omega
    have hadd : (⟨g, o, none⟩ : Addr).add i = ⟨g, o + i, none⟩ := by unfold Addr.add; split <;> simp_all
    have hcell : w.cell? ⟨g, o + i, none⟩ = some cur[o + i] := by simp [World.cell?, hg, hi]
    have hfro : w.frozen? ⟨g, o + i, none⟩ = false := by
      obtain ⟨lo, hi'⟩ := fz
      have := hfz (o + i) hi
      simp only [World.frozen?, hg]
      exact this
    have hst : (store ((⟨g, o, none⟩ : Addr).add i) v).run P w = .ok () (w.setRow g (cur.setIfInBounds (o + i) v)) := by
      rw [hadd, run_store P w _ v _ (h1 v (by simp)), hcell]
      simp [hfro, setCell_eq_setRow w g (o + i) cur t fz v hg]
    have ih := run_storeCells_atB P g o t fz rest (i + 1) (cur.setIfInBounds (o + i) v) (w.setRow g (cur.setIfInBounds (o + i) v)) (setRow_heap w g cur _ t _ hg) (by rw [Array.size_setIfInBounds]; exact hfz) (by simp at hl ⊢; omega) (fun x hx => h1 x (by simp [hx]))
    simp only [storeCells, Sem.run_bind, hst, Result.andThen_ok, ih, setRow_setRow]
    congr 3
    have e := list_seg_step cur.toList (o + i) v rest (by simp at hl ⊢; omega)
    simpa [Array.toList_setIfInBounds, Nat.add_assoc] using e
theorem run_append_roomB {P : Program} (w : World) (t ty e : TypeId) (i : TypeInfo) (ht : P.underlying t = some (.slice e)) (hi : P.info? e = some i)
    (g sLen sCap : Nat) (cur : Array Value) (fz : Nat × Nat) (hg : w.heap[g]? = some (.cells cur e fz)) (hfz : Unmarked fz cur.size)
    (a : Addr) (m c : Nat) (news : List Value) (hl : news.length = m * i.size) (hnews : ∀ j u, news[j]? = some u → w.cell? (a.add j) = some u) (h1 : ∀ u ∈ news, u.oneCell' = true)
    (hroom : sLen + m ≤ sCap) (hfit : sLen * i.size + news.length ≤ cur.size) :
    (Builtin.append_ #[t, t] ty #[.slice (some ⟨g, 0, none⟩) sLen sCap, .slice (some a) m c]).run P w =
      .ok (.slice (some ⟨g, 0, none⟩) (sLen + m) sCap) (w.setRow g (cur.toList.take (sLen * i.size) ++ news ++ cur.toList.drop (sLen * i.size + news.length)).toArray) := by
  have hf := run_firstCells_some (P := P) w i.size m a m c news hl hnews
  have hst := run_storeCells_atB P g (sLen * i.size) e fz news 0 cur w hg hfz (by simpa using hfit) h1
  simp only [Nat.add_zero] at hst
  simp [Builtin.append_, run_underlying ht, sizeOf, typeInfo, hi, Builtin.lenOf, hroom, hf, Addr.add_lit, hst]
theorem run_append_room_strB {P : Program} (w : World) (t u ty e : TypeId) (i : TypeInfo) (ht : P.underlying t = some (.slice e)) (hu : P.underlying u = some .string) (hi : P.info? e = some i) (hs1 : i.size = 1)
    (g sLen sCap : Nat) (cur : Array Value) (fz : Nat × Nat) (hg : w.heap[g]? = some (.cells cur e fz)) (hfz : Unmarked fz cur.size) (s : ByteArray)
    (hroom : sLen + s.size ≤ sCap) (hfit : sLen + s.size ≤ cur.size) :
    (Builtin.append_ #[t, u] ty #[.slice (some ⟨g, 0, none⟩) sLen sCap, .string s]).run P w =
      .ok (.slice (some ⟨g, 0, none⟩) (sLen + s.size) sCap) (w.setRow g (cur.toList.take sLen ++ Lib.strCells s ++ cur.toList.drop (sLen + s.size)).toArray) := by
  have hf := Lib.run_firstCells_string (P := P) w 1 s
  have hst := run_storeCells_atB P g sLen e fz (Lib.strCells s) 0 cur w hg hfz (by simpa [Lib.strCells_length] using hfit) (Lib.strCells_oneCell s)
  simp only [Nat.add_zero, Lib.strCells_length] at hst
  simp [Builtin.append_, run_underlying ht, run_underlying hu, sizeOf, typeInfo, hi, hs1, Builtin.lenOf, hroom, hf, Addr.add_lit, hst]
/-- append of a slice's bytes. -/
theorem append_B {P : Program} {ops : Array Oper} {rest : List Oper} {o : Oper} {a : Act} {Q : Exit → Act → World → Prop} {w0 W : World} (base : Nat) (hgd : o.guard = none) (s x : Operand) (t e : TypeId)
    (ho : o.op = .call { callee := .builtin .append, args := #[s, x], argTypes := #[t, t] })
    (ht : P.underlying t = some (.slice e)) (hinfo : (P.info? e).map (fun i => (i.zero, i.size, i.bytes)) = some (some (.int .u8 0), 1, 1))
    (v : Value) (xs ys : List Int) (ad : Addr) (m c : Nat) (hs : a.eval s = v) (hx : a.eval x = .slice (some ad) m c)
    (HO : OwnB e W base v xs) (hm : ys.length = m) (hnews : ∀ j u, (ys.map (Value.int .u8))[j]? = some u → W.cell? (ad.add j) = some u) (HB : Below base w0 W) (hbase : base ≤ W.heap.size) (hl : xs.length + m ≤ 140737488355328)
    (h : ∀ v1 w1, OwnB e w1 base v1 (xs ++ ys) → Below base w0 w1 → W.grownBy w1 v.ownBlock → wpList P ops Q rest (a.put o.dst v1) w1) : wpList P ops Q (o :: rest) a W := by
  obtain ⟨i0, hi, hzz⟩ := Option.map_eq_some_iff.1 hinfo
  simp only [Prod.mk.injEq] at hzz
  obtain ⟨hz0, hz1, hz2⟩ := hzz
  have hnl : (ys.map (Value.int .u8)).length = m * i0.size := by simp [hm, hz1]
  have h1c : ∀ u ∈ ys.map (Value.int .u8), u.oneCell' = true := by
    intro u hu
    obtain ⟨b, _, rfl⟩ := List.mem_map.1 hu
    rfl
  have main : ∃ v' w', (Builtin.append_ #[t, t] o.type #[v, .slice (some ad) m c]).run P W = .ok v' w' ∧ OwnB e w' base v' (xs ++ ys) ∧ W.grownBy w' v.ownBlock := by
    have conv : ∀ v' w', w'.ownsRow base e 1 v' (xs.length + m) (xs.map (Value.int .u8) ++ ys.map (Value.int .u8)) → OwnB e w' base v' (xs ++ ys) := by
      intro v' w' ho
      rcases ho.2 with ⟨rfl, h0⟩ | ⟨g, cap, cur, rfl, hbg, hg, hnc, hcm, hcs, htake⟩
      · left
        refine ⟨rfl, List.eq_nil_of_length_eq_zero ?_⟩
        rw [List.length_append, hm]; omega
      · right
        refine ⟨g, cap, cur, (0, 0), by rw [List.length_append, hm], hbg, hg, unmarked_zero _, by rw [List.length_append, hm]; exact hnc, hcm, by simpa using hcs, ?_⟩
        rw [List.length_append, hm, List.map_append]
        simpa using htake
    rcases HO with ⟨rfl, rfl⟩ | ⟨g, cap, cur, fz, rfl, hbg, hg, hfz, hnc, hcm, hcs, htake⟩
    · obtain ⟨v', w', r1, r2, r3, r4⟩ := run_append_own (P := P) W base t o.type e i0 (.int .u8 0) 1 1 ht hi hz0 hz1 hz2 rfl (by decide) (.slice none 0 0) 0 [] ⟨rfl, .inl ⟨rfl, rfl⟩⟩ ad m c (ys.map (Value.int .u8)) (by simp [hm]) hnews h1c (by simp only [maxLen]; simp at hl; omega) (by simpa using hl) hbase
      exact ⟨v', w', r1, conv v' w' (by simpa using r2), r3⟩
    · have hxl : (xs.map (Value.int .u8)).length = xs.length * i0.size := by simp [hz1]
      have holds : ∀ j u, (xs.map (Value.int .u8))[j]? = some u → W.cell? ((⟨g, 0, none⟩ : Addr).add j) = some u := OwnB.cells (cap := cap) (n := xs.length) (.inr ⟨g, cap, cur, fz, rfl, hbg, hg, hfz, hnc, hcm, hcs, htake⟩)
      by_cases hroom : xs.length + m ≤ cap
      · have hr := run_append_roomB (P := P) W t o.type e i0 ht hi g xs.length cap cur fz hg hfz ad m c _ hnl hnews h1c hroom (by rw [List.length_map, hm, hz1]; omega)
        rw [hz1, Nat.mul_one] at hr
        refine ⟨_, _, hr, .inr ⟨g, cap, _, fz, by rw [List.length_append, hm], hbg, setRow_heap W g cur _ e _ hg, ?_, by rw [List.length_append, hm]; exact hroom, hcm, ?_, ?_⟩, ⟨rfl, rfl, rfl, by simp, fun k _ hk => setRow_other W g k _ (fun e => hk (by simp [Value.ownBlock, e]))⟩⟩
        · intro j hj
          refine hfz j ?_
          simp only [List.size_toArray, List.length_append, List.length_take, List.length_drop, Array.length_toList, List.length_map, hm] at hj
          omega
        · simp only [List.size_toArray, List.length_append, List.length_take, List.length_drop, Array.length_toList, List.length_map, hm]
          omega
        · rw [htake, ← List.map_append]
          exact List.take_left' (by simp)
      · have hr := run_append_grow (P := P) W t o.type e i0 (.int .u8 0) ht hi hz0 ⟨g, 0, none⟩ xs.length cap (xs.map (Value.int .u8)) hxl holds ad m c _ hnl hnews (by omega) (by omega) (growslice_fits (by omega) (by rw [hz2, Nat.mul_one]; exact hl))
        have hge := grownCap_ge W (xs.length + m) cap e
        have hcm2 : grownCap W (xs.length + m) cap e ≤ maxLen := grownCap_le_maxLen W (xs.length + m) cap e (by simp only [maxLen]; omega)
        refine ⟨_, _, hr, .inr ⟨W.heap.size, _, _, (0, 0), by rw [List.length_append, hm], hbase, heap_alloc_new W.drew _, unmarked_zero _, by rw [List.length_append, hm]; exact hge, hcm2, ?_, ?_⟩, ⟨rfl, rfl, rfl, by simp, fun k hk _ => heap_alloc_old W.drew _ hk⟩⟩
        · simp only [Array.size_append, List.size_toArray, size_zeroCells, List.length_map, hm]
          simp [Value.cells]
          omega
        · simp only [Array.toList_append, List.append_assoc]
          rw [← List.append_assoc, ← List.map_append]
          exact List.take_left' (by simp)
  obtain ⟨v', w', hr, h2, h3⟩ := main
  refine wpList_plain hgd fun K hK => ?_
  unfold Oper.wp execOp
  simp only [ho, resolve, invoke, builtin, Sem.run_bind, Sem.run_pure, Result.andThen_ok, List.map_toArray, List.map_cons, List.map_nil, hs, hx, hr]
  exact hK _ _ (h v' w' h2 (HB.grown h3 hbase (fun k hk => (HO.lt k hk).1)) h3)
/-- append of a string's bytes. -/
theorem append_strB {P : Program} {ops : Array Oper} {rest : List Oper} {o : Oper} {a : Act} {Q : Exit → Act → World → Prop} {w0 W : World} (base : Nat) (hgd : o.guard = none) (s x : Operand) (t u e : TypeId)
    (ho : o.op = .call { callee := .builtin .append, args := #[s, x], argTypes := #[t, u] })
    (ht : P.underlying t = some (.slice e)) (hu : P.underlying u = some .string) (hinfo : (P.info? e).map (fun i => (i.zero, i.size, i.bytes)) = some (some (.int .u8 0), 1, 1))
    (v : Value) (xs : List Int) (y : ByteArray) (hs : a.eval s = v) (hx : a.eval x = .string y)
    (HO : OwnB e W base v xs) (HB : Below base w0 W) (hbase : base ≤ W.heap.size) (hl : xs.length + y.size ≤ 140737488355328)
    (h : ∀ v1 w1, OwnB e w1 base v1 (xs ++ bytesOf y) → Below base w0 w1 → W.grownBy w1 v.ownBlock → wpList P ops Q rest (a.put o.dst v1) w1) : wpList P ops Q (o :: rest) a W := by
  obtain ⟨i0, hi, hzz⟩ := Option.map_eq_some_iff.1 hinfo
  simp only [Prod.mk.injEq] at hzz
  obtain ⟨hz0, hz1, hz2⟩ := hzz
  have hnl : (bytesOf y).length = y.size := bytesOf_length y
  have hsc : (bytesOf y).map (Value.int .u8) = Lib.strCells y := by simp [bytesOf, Lib.strCells]
  have main : ∃ v' w', (Builtin.append_ #[t, u] o.type #[v, .string y]).run P W = .ok v' w' ∧ OwnB e w' base v' (xs ++ bytesOf y) ∧ W.grownBy w' v.ownBlock := by
    rcases HO with ⟨rfl, rfl⟩ | ⟨g, cap, cur, fz, rfl, hbg, hg, hfz, hnc, hcm, hcs, htake⟩
    · obtain ⟨v', w', r1, r2, r3, r4⟩ := Lib.run_append_own_string (P := P) W base t u o.type e i0 ht hu hi hz0 hz1 hz2 (.slice none 0 0) 0 [] ⟨rfl, .inl ⟨rfl, rfl⟩⟩ y (by simp only [maxLen]; simp at hl; omega) (by simpa using hl) hbase
      refine ⟨v', w', r1, ?_, r3⟩
      rcases r2.2 with ⟨rfl, h0⟩ | ⟨g, cap, cur, rfl, hbg, hg, hnc, hcm, hcs, htake⟩
      · left
        refine ⟨rfl, List.eq_nil_of_length_eq_zero ?_⟩
        rw [List.nil_append, hnl]; omega
      · right
        refine ⟨g, cap, cur, (0, 0), by rw [List.nil_append, hnl, Nat.zero_add], hbg, hg, unmarked_zero _, by rw [List.nil_append, hnl]; omega, hcm, by simpa using hcs, ?_⟩
        rw [List.nil_append, hnl, hsc]
        simpa using htake
    · have hxl : (xs.map (Value.int .u8)).length = xs.length * i0.size := by simp [hz1]
      have holds : ∀ j u, (xs.map (Value.int .u8))[j]? = some u → W.cell? ((⟨g, 0, none⟩ : Addr).add j) = some u := OwnB.cells (cap := cap) (n := xs.length) (.inr ⟨g, cap, cur, fz, rfl, hbg, hg, hfz, hnc, hcm, hcs, htake⟩)
      by_cases hroom : xs.length + y.size ≤ cap
      · have hr := run_append_room_strB (P := P) W t u o.type e i0 ht hu hi hz1 g xs.length cap cur fz hg hfz y hroom (by omega)
        refine ⟨_, _, hr, .inr ⟨g, cap, _, fz, by rw [List.length_append, hnl], hbg, setRow_heap W g cur _ e _ hg, ?_, by rw [List.length_append, hnl]; exact hroom, hcm, ?_, ?_⟩, ⟨rfl, rfl, rfl, by simp, fun k _ hk => setRow_other W g k _ (fun e => hk (by simp [Value.ownBlock, e]))⟩⟩
        · intro j hj
          refine hfz j ?_
          simp only [List.size_toArray, List.length_append, List.length_take, List.length_drop, Array.length_toList, Lib.strCells_length] at hj
          omega
        · simp only [List.size_toArray, List.length_append, List.length_take, List.length_drop, Array.length_toList, Lib.strCells_length]
          omega
        · rw [htake, ← hsc, ← List.map_append]
          exact List.take_left' (by simp)
      · have hr := Lib.run_append_grow_string (P := P) W t u o.type e i0 (.int .u8 0) ht hu hi hz0 ⟨g, 0, none⟩ xs.length cap (xs.map (Value.int .u8)) hxl holds y (by omega) (by omega) (by rw [hz2]; exact growslice_fits (by omega) (by omega))
        have hge := grownCap_ge W (xs.length + y.size) cap e
        have hcm2 : grownCap W (xs.length + y.size) cap e ≤ maxLen := grownCap_le_maxLen W (xs.length + y.size) cap e (by simp only [maxLen]; omega)
        refine ⟨_, _, hr, .inr ⟨W.heap.size, _, _, (0, 0), by rw [List.length_append, hnl], hbase, heap_alloc_new W.drew _, unmarked_zero _, by rw [List.length_append, hnl]; exact hge, hcm2, ?_, ?_⟩, ⟨rfl, rfl, rfl, by simp, fun k hk _ => heap_alloc_old W.drew _ hk⟩⟩
        · simp only [Array.size_append, List.size_toArray, size_zeroCells, List.length_map, Lib.strCells_length]
          simp [Value.cells]
          omega
        · simp only [Array.toList_append, List.append_assoc]
          rw [← List.append_assoc, ← hsc, ← List.map_append]
          exact List.take_left' (by simp)
  obtain ⟨v', w', hr, h2, h3⟩ := main
  refine wpList_plain hgd fun K hK => ?_
  unfold Oper.wp execOp
  simp only [ho, resolve, invoke, builtin, Sem.run_bind, Sem.run_pure, Result.andThen_ok, List.map_toArray, List.map_cons, List.map_nil, hs, hx, hr]
  exact hK _ _ (h v' w' h2 (HB.grown h3 hbase (fun k hk => (HO.lt k hk).1)) h3)
/-- append of one byte that was just built. -/
theorem append_B1 {P : Program} {ops : Array Oper} {rest : List Oper} {o : Oper} {a : Act} {Q : Exit → Act → World → Prop} {w0 W : World} (base : Nat) (hgd : o.guard = none) (s x : Operand) (t e : TypeId)
    (ho : o.op = .call { callee := .builtin .append, args := #[s, x], argTypes := #[t, t] })
    (ht : P.underlying t = some (.slice e)) (hinfo : (P.info? e).map (fun i => (i.zero, i.size, i.bytes)) = some (some (.int .u8 0), 1, 1))
    (v : Value) (xs : List Int) (y : Int) (g c : Nat) (hs : a.eval s = v) (hx : a.eval x = .slice (some ⟨g, 0, none⟩) 1 c) (e' : TypeId) (hg : W.heap[g]? = some (.cells #[.int .u8 y] e' (0, 0)))
    (HO : OwnB e W base v xs) (HB : Below base w0 W) (hbase : base ≤ W.heap.size) (hl : xs.length + 1 ≤ 140737488355328)
    (h : ∀ v1 w1, OwnB e w1 base v1 (xs ++ [y]) → Below base w0 w1 → W.grownBy w1 v.ownBlock → wpList P ops Q rest (a.put o.dst v1) w1) : wpList P ops Q (o :: rest) a W :=
  append_B base hgd s x t e ho ht hinfo v xs [y] ⟨g, 0, none⟩ 1 c hs hx HO rfl (fun j u hu => by
    match j, hu with
    | 0, hu =>
      simp at hu
      subst hu
      have h8 := blk_cell hg 0
      have h9 : W.cell? ⟨g, 0, none⟩ = some (.int .u8 y) := h8.trans rfl
      rw [add_plain]
      exact h9) HB hbase hl h
/-- A text's bytes, made by a conversion. -/
theorem bytes_event {P : Program} {ops : Array Oper} {rest : List Oper} {o : Oper} {a : Act} {Q : Exit → Act → World → Prop} {W : World} (hgd : o.guard = none) (src dst e : TypeId) (x : Operand) (ho : o.op = .convert src dst x)
    {u : TypeDesc} (hs : P.underlying src = some u) (hd : P.underlying dst = some (.slice e)) (he : P.underlying e = some (.int .u8)) (s : ByteArray) (hx : a.eval x = .string s) (hm : s.size ≤ maxLen)
    (h : ∀ v w1, OwnB e w1 W.heap.size v (bytesOf s) → Below W.heap.size W w1 → wpList P ops Q rest (a.put o.dst v) w1) : wpList P ops Q (o :: rest) a W := by
  refine wpList_plain hgd fun K hK => ?_
  have hrun := print_bytes (P := P) src dst e hs hd he s W
  unfold Oper.wp
  simp [execOp, ho, hx, hrun, Result.andThen]
  exact hK _ _ (h _ _ (OwnB.of_bytes W e s hm) (bytes_below (Below.refl _ _) (Nat.le_refl _) e s))
end Go.Proofs.YtlhjblbmhlelbabDoor.P
