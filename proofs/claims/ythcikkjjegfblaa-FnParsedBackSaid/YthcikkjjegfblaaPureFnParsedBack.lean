/- FnParsedBack, for all dimensions, texts and nulls: elements written as a literal, in quotes but null, are read as they were (at most 6 dimensions, 1000 elements, texts of at most 200 bytes; any bytes). Conditions: the form's own bounds. -/
import Derived.Test.YthcikkjjegfblaaPx6
import Derived.Test.YthcikkjjegfblaaPx4
import Derived.Test.YthcikkjjegfblaaLibBack
namespace Go.Proofs.Ythcikkjjegfblaa.Pure
open Go.RowKit Go.Proofs.Ythcikkjjegfblaa.P Go.Proofs.YthcikkjjegfblaaW.PrintWords Go.Proofs.YthcikkjjegfblaaW.PrintLast Go.Proofs.YthcikkjjegfblaaW.PrintMore Go.Proofs.Ythcikkjjegfblaa.Lib
set_option linter.unusedVariables false
set_option linter.unusedSimpArgs false
abbrev It := S39

theorem fits (l : List ByteArray) (hl : l.length ≤ 9223372036854775807) : ∃ b, Ev (fun k => laws_zzFits1.f k l) b := by
  have go : ∀ (m i : Nat), i + m = l.length → ∃ b, Ev (fun k => laws_zzFits1.l0 k l (l.length : Int) (i : Int)) b := by
    intro m
    induction m with
    | zero => intro i hi; exact ⟨true, Ev.step (fun k => laws_zzFits1.l0.eq_2 _ _ _ _) <| Ev.if_neg (by omega) <| Ev.now _⟩
    | succ m ih =>
      intro i hi
      have ew : wrap64 ((i : Int) + 1) = ((i + 1 : Nat) : Int) := by rw [wrap64_id (by omega) (by omega)]; omega
      by_cases hz : ((rdOf ByteArray.empty l (i : Int)).size : Int) > 2147483647
      · exact ⟨false, Ev.step (fun k => laws_zzFits1.l0.eq_2 _ _ _ _) <| Ev.if_pos (by omega) <| Ev.if_pos (by omega) <| Ev.if_pos (by omega) <| Ev.if_pos hz <| Ev.now _⟩
      · obtain ⟨b, hb⟩ := ih (i + 1) (by omega)
        refine ⟨b, Ev.step (fun k => laws_zzFits1.l0.eq_2 _ _ _ _) <| Ev.if_pos (by omega) <| Ev.if_pos (by omega) <| Ev.if_pos (by omega) <| Ev.if_neg hz ?_⟩
        rw [ew]; exact hb
  unfold laws_zzFits1.f
  by_cases h : (l.length : Int) > 2147483647
  · exact ⟨false, Ev.if_pos h <| Ev.now _⟩
  · obtain ⟨b, hb⟩ := go l.length 0 (by omega)
    exact ⟨b, Ev.if_neg h hb⟩
theorem join_cons (d : Int) (p : List Int) (t : List (List Int)) : ∃ u, Arr.joinR d (p :: t) = p ++ u := by
  cases t with
  | nil => exact ⟨[], by simp [Arr.joinR]⟩
  | cons q t => exact ⟨d :: Arr.joinR d (q :: t), rfl⟩
theorem prod_pos : ∀ (q : List Nat), (∀ x ∈ q, 1 ≤ x) → 1 ≤ Arr.prodL q
  | [], _ => Nat.le_refl _
  | x :: t, h => Nat.mul_pos (h x (by simp)) (prod_pos t (fun y hy => h y (by simp [hy])))
theorem prod_dvd : ∀ (q : List Nat) (a : Nat), a ∈ q → ∃ m, Arr.prodL q = a * m
  | x :: t, a, h => by
    rcases List.mem_cons.mp h with rfl | h
    · exact ⟨Arr.prodL t, rfl⟩
    · obtain ⟨m, hm⟩ := prod_dvd t a h
      exact ⟨x * m, by show x * Arr.prodL t = _; rw [hm, Nat.mul_left_comm]⟩
theorem lit_head (d : Int) : ∀ (ds : List Nat) (l : List (List Int)) (c : Int) (t0 : List Int) (tl : List (List Int)), ds ≠ [] → l = (c :: t0) :: tl → (∀ a ∈ ds, 1 ≤ a) → l.length = Arr.prodL ds → ∃ r, Arr.litL d ds l = List.replicate ds.length 123 ++ c :: r
  | [], _, _, _, _, h, _, _, _ => absurd rfl h
  | [a], l, c, t0, tl, _, hl, ha, hp => by
    have ha1 := ha a (by simp)
    obtain ⟨a', rfl⟩ : ∃ a', a = a' + 1 := ⟨a - 1, by omega⟩
    obtain ⟨u, hu⟩ := join_cons d (c :: t0) (tl.take a')
    refine ⟨t0 ++ u ++ [125], ?_⟩
    show 123 :: (Arr.joinR d (l.take (a' + 1)) ++ [125]) = _
    rw [hl, List.take_succ_cons, hu]
    simp
  | a :: b :: ds, l, c, t0, tl, _, hl, ha, hp => by
    have ha1 := ha a (by simp)
    have hP : Arr.prodL (a :: b :: ds) = a * Arr.prodL (b :: ds) := rfl
    have hP1 := prod_pos (b :: ds) (fun x hx => ha x (by simp at hx ⊢; exact .inr hx))
    obtain ⟨P, hPd⟩ : ∃ P, P = Arr.prodL (b :: ds) := ⟨_, rfl⟩
    rw [hP, ← hPd] at hp
    rw [← hPd] at hP1
    have hdiv : l.length / a = P := by rw [hp]; exact Nat.mul_div_cancel_left _ (by omega)
    have hPle : P ≤ a * P := Nat.le_mul_of_pos_left _ (by omega)
    obtain ⟨P', hP'⟩ : ∃ P', P = P' + 1 := ⟨P - 1, by omega⟩
    obtain ⟨a', rfl⟩ : ∃ a', a = a' + 1 := ⟨a - 1, by omega⟩
    obtain ⟨r0, hr0⟩ := lit_head d (b :: ds) ((l.drop (0 * P)).take P) c t0 (tl.take P') (by simp) (by rw [Nat.zero_mul, List.drop_zero, hl, hP', List.take_succ_cons]) (fun x hx => ha x (by simp at hx ⊢; exact .inr hx)) (by rw [List.length_take, List.length_drop, ← hPd]; omega)
    have hlit : ∃ t, Arr.litL d ((a' + 1) :: b :: ds) l = 123 :: (Arr.joinR d (Arr.litL d (b :: ds) ((l.drop (0 * P)).take P) :: t) ++ [125]) := by
      refine ⟨((List.range a').map Nat.succ).map fun i => Arr.litL d (b :: ds) ((l.drop (i * P)).take P), ?_⟩
      show 123 :: (Arr.joinR d ((List.range (a' + 1)).map fun i => Arr.litL d (b :: ds) ((l.drop (i * (l.length / (a' + 1)))).take (l.length / (a' + 1)))) ++ [125]) = _
      rw [hdiv, List.range_succ_eq_map]
      rfl
    obtain ⟨t, ht⟩ := hlit
    obtain ⟨u, hu⟩ := join_cons d (Arr.litL d (b :: ds) ((l.drop (0 * P)).take P)) t
    refine ⟨r0 ++ u ++ [125], ?_⟩
    rw [ht, hu, hr0]
    simp [List.replicate_succ]
theorem texts_snoc {n : Nat} {l : List (List Int)} {es : List (Option (List Int))} {t : List Int} {e : Option (List Int)} (h : Arr.Texts 44 n l es) (hg : Arr.GoodAt 44 n n t [e] (fun _ => 0)) : Arr.Texts 44 n (l ++ [t]) (es ++ [e]) := by
  refine ⟨by simp [h.1], fun i x y h1 h2 => ?_⟩
  by_cases hi : i < l.length
  · rw [List.getElem?_append_left hi] at h1
    rw [List.getElem?_append_left (by rw [← h.1]; exact hi)] at h2
    exact h.2 i x y h1 h2
  · rw [List.getElem?_append_right (by omega)] at h1
    rw [List.getElem?_append_right (by rw [← h.1]; omega)] at h2
    rw [← h.1] at h2
    cases hj : i - l.length with
    | zero =>
      rw [hj] at h1 h2
      injection h1 with h1
      injection h2 with h2
      rw [← h1, ← h2]
      exact hg
    | succ j => rw [hj] at h1; cases h1
/-- What has been put together. -/
structure Put (n i : Nat) (x9 : List ByteArray) (x10 : List It) (es : List (Option (List Int))) : Prop where
  len : x9.length = i
  tx : Arr.Texts 44 n (x9.map bytesOf) es
  it : x10 = es.map itS
  hd : ∀ x ∈ x9, ∃ c t, bytesOf x = c :: t ∧ c ≠ 123 ∧ c ≠ 125
  sz : ∀ x ∈ x9, x.size ≤ 402
theorem Put.snoc {n i : Nat} {x9 : List ByteArray} {x10 : List It} {es : List (Option (List Int))} (h : Put n i x9 x10 es) {t : ByteArray} {e : Option (List Int)} {x : It} (hg : Arr.GoodAt 44 n n (bytesOf t) [e] (fun _ => 0)) (hx : x = itS e) (hh : ∃ c u, bytesOf t = c :: u ∧ c ≠ 123 ∧ c ≠ 125) (hs : t.size ≤ 402) : Put n (i + 1) (x9 ++ [t]) (x10 ++ [x]) (es ++ [e]) := by
  refine ⟨by simp [h.len], ?_, ?_, fun y hy => ?_, fun y hy => ?_⟩
  · rw [List.map_append]; exact texts_snoc h.tx hg
  · rw [h.it, List.map_append, hx]; rfl
  · rcases List.mem_append.mp hy with hy | hy
    · exact h.hd y hy
    · rw [List.mem_singleton.mp hy]; exact hh
  · rcases List.mem_append.mp hy with hy | hy
    · exact h.sz y hy
    · rw [List.mem_singleton.mp hy]; exact hs
theorem loop (ds : List Nat) (hds : ds ≠ []) (ha : ∀ a ∈ ds, 1 ≤ a ∧ a ≤ 1000) (hp : Arr.prodL ds ≤ 1000) (h6 : ds.length ≤ 6) (l1 : List ByteArray) (l2 : List Bool) (h1 : Arr.prodL ds ≤ l1.length) (h2 : Arr.prodL ds ≤ l2.length) :
    ∀ (m i : Nat) (x9 : List ByteArray) (x10 : List It) (es : List (Option (List Int))), i + m = Arr.prodL ds → Put ds.length i x9 x10 es → Ev (fun k => laws_FnParsedBack.l0 k (ds.map (fun a : Nat => (a : Int))) l1 l2 ((Arr.prodL ds : Nat) : Int) x9 x10 (i : Int)) true := by
  intro m
  induction m with
  | zero =>
    intro i x9 x10 es hi hP
    have hlen := hP.len
    have hel : es.length = Arr.prodL ds := by rw [← hP.tx.1, List.length_map]; omega
    have hpos := prod_pos ds (fun a h => (ha a h).1)
    obtain ⟨t, e1, e2, e3⟩ := lit_text ds x9 hds ha (by omega) hp h6 hP.sz
    obtain ⟨y, ys, hy⟩ : ∃ y ys, x9 = y :: ys := by
      cases hx : x9 with
      | nil => rw [hx] at hlen; simp at hlen; omega
      | cons y ys => exact ⟨y, ys, rfl⟩
    obtain ⟨c, u, hc, hc1, hc2⟩ := hP.hd y (by rw [hy]; simp)
    obtain ⟨r, hr⟩ := lit_head 44 ds (x9.map bytesOf) c u (ys.map bytesOf) hds (by rw [hy, List.map_cons, hc]) (fun a h => (ha a h).1) (by rw [List.length_map]; omega)
    have hN : 0 < ds.length := List.length_pos_iff.mpr hds
    have hsz : Arr.prodL ds * (403 + 3 * ds.length) ≤ 1000 * 421 := Nat.mul_le_mul hp (by omega)
    have hpar := parsed_of t ds.length (c :: r) (by rw [e2, hr]) hN (fun x w h => by injection h with h _; rw [← h]; exact ⟨hc1, hc2⟩) (by omega)
    have hop := Arr.pm_opens 44 ds.length (c :: r) [] ds.length 0 (by omega)
    obtain ⟨D', f1, f2, f3, f4⟩ := Arr.lit_good 44 ds.length (by decide) ds 0 (x9.map bytesOf) es hds (by omega) (fun a h => (ha a h).1) (by rw [List.length_map]; omega) hP.tx [] (List.replicate ds.length 0) [] (by simp)
    rw [List.append_nil, List.nil_append, hr, hop] at f4
    have hD : D' = ds.map (fun a : Nat => (a : Int)) := by
      refine Arr.ext_getD (by rw [f1, List.length_map]) (fun j hj => ?_)
      rw [f3 j (Nat.zero_le _) (by omega)]
      have hjl : j < ds.length := by omega
      simp [List.getD_eq_getElem?_getD, List.getElem?_eq_getElem hjl]
    have hall : ∀ x ∈ D', (es.length : Int) % x = 0 := by
      intro x hx
      rw [hD] at hx
      obtain ⟨a, haa, rfl⟩ := List.mem_map.mp hx
      obtain ⟨q, hq⟩ := prod_dvd ds a haa
      rw [hel, hq, Int.natCast_mul]
      exact Int.mul_emod_right _ _
    rw [f4, Arr.pm, if_pos rfl, if_pos hall, hD] at hpar
    refine Ev.step (fun k => laws_FnParsedBack.l0.eq_2 _ _ _ _ _ _ _ _) <| Ev.if_neg (by omega) <| Ev.bind e1 <| Ev.bind (Ev.const hpar) <| Ev.if_pos rfl <| Ev.bind (sameInts_self _ (by show (List.map (fun a : Nat => (a : Int)) ds).length ≤ 1000000; rw [List.length_map]; omega)) <| Ev.if_pos rfl <| Ev.bind (Ev.const ?_) <| Ev.now _
    show spec_SameItems.f (es.map itS) x10 = some true
    rw [← hP.it]
    refine sameItems_self x10 (by rw [hP.it, List.length_map]; omega) (fun x hx => ?_)
    rw [hP.it] at hx
    obtain ⟨e, _, rfl⟩ := List.mem_map.mp hx
    cases e <;> rfl
  | succ m ih =>
    intro i x9 x10 es hi hP
    have hlen := hP.len
    have hl10 : x10.length = i := by rw [hP.it, List.length_map, ← hP.tx.1, List.length_map, hlen]
    have hi1 : i < l1.length := by omega
    have hi2 : i < l2.length := by omega
    have hel := rdOf_at hi1
    have ew : wrap64 ((i : Int) + 1) = ((i + 1 : Nat) : Int) := by rw [wrap64_id (by omega) (by omega)]; omega
    by_cases hz : ((rdOf ByteArray.empty l1 (i : Int)).size : Int) > 200
    · exact Ev.step (fun k => laws_FnParsedBack.l0.eq_2 _ _ _ _ _ _ _ _) <| Ev.if_pos (by omega) <| Ev.if_pos (by omega) <| Ev.if_pos (by omega) <| Ev.if_pos hz <| Ev.now _
    refine Ev.step (fun k => laws_FnParsedBack.l0.eq_2 _ _ _ _ _ _ _ _) <| Ev.if_pos (by omega) <| Ev.if_pos (by omega) <| Ev.if_pos (by omega) <| Ev.if_neg hz <| Ev.if_pos (by omega) ?_
    by_cases hn : rdOf false l2 (i : Int) = true
    · refine Ev.if_pos hn <| Ev.bind (Ev.now _) <| Ev.if_pos (by simp only [List.length_cons, List.length_nil]; omega) <| Ev.bind (Ev.now _) <| Ev.if_pos (by simp only [List.length_cons, List.length_nil]; omega) ?_
      rw [ew]
      have hb : bytesOf ⟨#[78, 85, 76, 76]⟩ = Arr.nullW := by decide
      refine ih (i + 1) _ _ (es ++ [none]) (by omega) (hP.snoc ?_ rfl ⟨78, [85, 76, 76], by rw [hb]; rfl, by decide, by decide⟩ (show (4 : Nat) ≤ 402 by omega))
      rw [hb]
      have := Arr.word_good 44 ds.length ds.length Arr.nullW (fun _ => 0) (Nat.le_refl _) (by decide) (by decide) (by intro x hx; injection hx with hx; rw [← hx]; decide)
      exact this
    · obtain ⟨t, q1, q2, q3⟩ := quoted_text (rdOf ByteArray.empty l1 (i : Int)) (by omega)
      refine Ev.if_neg hn <| Ev.bind q1 <| Ev.bind (Ev.now _) <| Ev.if_pos (by simp only [List.length_cons, List.length_nil]; omega) <| Ev.bind (Ev.now _) <| Ev.if_pos (by simp only [List.length_cons, List.length_nil]; omega) ?_
      rw [ew]
      refine ih (i + 1) _ _ (es ++ [some (bytesOf (rdOf ByteArray.empty l1 (i : Int)))]) (by omega) (hP.snoc ?_ ?_ ⟨34, _, q2, by decide, by decide⟩ q3)
      · rw [q2]; exact Arr.quoted_good 44 ds.length ds.length _ _ (Nat.le_refl _)
      · show _ = (⟨false, strOfNums (bytesOf _), 0, 0, false⟩ : It)
        rw [strOfNums_bytesOf]
theorem FnParsedBack (l0 : List Int) (l1 : List ByteArray) (l2 : List Bool) (y0 : l0.length * 8 ≤ 140737488351232) {G0 : Prop} (g0 : G0) (y1 : l1.length * 16 ≤ 140737488351232) {G1 : Prop} (g1 : G1) (y2 : l2.length * 1 ≤ 140737488351232) {G2 : Prop} (g2 : G2) : ∃ k, laws_FnParsedBack.f k l0 l1 l2 = some true := by
  have hl0 : l0.length ≤ 2305843009213693952 := by omega
  have hl1 : l1.length ≤ 2305843009213693952 := by omega
  clear y0 y1 y2 g0 g1 g2
  suffices h : Ev (fun k => laws_FnParsedBack.f k l0 l1 l2) true by
    obtain ⟨K, hK⟩ := h
    exact ⟨K, hK K (Nat.le_refl _)⟩
  have j0t : Ev (fun k => laws_FnParsedBack.j0 k l0 l1 l2 true) true := Ev.step (fun k => laws_FnParsedBack.j0.eq_2 _ _ _ _ _) <| Ev.if_pos rfl <| Ev.now _
  have j1t : ∀ n : Int, Ev (fun k => laws_FnParsedBack.j1 k l0 l1 l2 n true) true := fun n => Ev.step (fun k => laws_FnParsedBack.j1.eq_2 _ _ _ _ _ _) <| Ev.if_pos rfl <| Ev.now _
  have j0f : Ev (fun k => laws_FnParsedBack.j0 k l0 l1 l2 false) true := by
    obtain ⟨n, b, e1, e2⟩ := count_of l0 hl0
    refine Ev.step (fun k => laws_FnParsedBack.j0.eq_2 _ _ _ _ _) <| Ev.if_neg (by simp) <| Ev.bind e1 ?_
    cases b with
    | false => exact Ev.if_neg (by simp) (j1t n)
    | true =>
      obtain ⟨ds, hds, ha, hn, hp⟩ := e2 rfl
      refine Ev.if_pos rfl ?_
      by_cases h6 : (l0.length : Int) > 6
      · exact Ev.if_pos h6 (j1t n)
      refine Ev.if_neg h6 ?_
      by_cases h0 : (l0.length : Int) = 0
      · exact Ev.if_pos h0 (j1t n)
      refine Ev.if_neg h0 ?_
      by_cases h1 : (l1.length : Int) < n
      · exact Ev.if_pos h1 (j1t n)
      refine Ev.if_neg h1 ?_
      by_cases h2 : (l2.length : Int) < n
      · rw [decide_eq_true h2]; exact j1t n
      rw [decide_eq_false h2]
      refine Ev.step (fun k => laws_FnParsedBack.j1.eq_2 _ _ _ _ _ _) <| Ev.if_neg (by simp) ?_
      have hll : l0.length = ds.length := by rw [hds, List.length_map]
      rw [hds, hn]
      exact loop ds (by intro e; rw [e] at hll; simp at hll; rw [hll] at h0; simp at h0) ha hp (by omega) l1 l2 (by omega) (by omega) (Arr.prodL ds) 0 [] [] [] (by omega) ⟨rfl, ⟨rfl, fun i t e h => by simp at h⟩, rfl, (fun x h => by cases h), (fun x h => by cases h)⟩
  unfold laws_FnParsedBack.f
  by_cases hb : (l0.length : Int) > 2147483647
  · exact Ev.if_pos hb j0t
  refine Ev.if_neg hb ?_
  obtain ⟨bz, e1⟩ := fits l1 (by omega)
  refine Ev.bind e1 ?_
  cases bz with
  | false => exact Ev.if_neg (by simp) j0t
  | true =>
    refine Ev.if_pos rfl ?_
    by_cases h2 : (l2.length : Int) > 2147483647
    · rw [decide_eq_true h2]; exact j0t
    · rw [decide_eq_false h2]; exact j0f
end Go.Proofs.Ythcikkjjegfblaa.Pure
