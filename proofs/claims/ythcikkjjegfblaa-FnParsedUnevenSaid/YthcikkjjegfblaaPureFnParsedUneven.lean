/- FnParsedUneven, for all rows: a literal of two dimensions tells its rows and the elements in each; rows that cannot be are refused (2 to 6 rows of 1 to 20 integers). Conditions: the form's own bounds. -/
import Derived.Test.YthcikkjjegfblaaPx6
import Derived.Test.YthcikkjjegfblaaPx4
import Derived.Test.YthcikkjjegfblaaPx5
import Derived.Test.YthcikkjjegfblaaLibDec
import Derived.Test.YthcikkjjegfblaaLibLit
namespace Go.Proofs.Ythcikkjjegfblaa.Pure
open Go.RowKit Go.Proofs.Ythcikkjjegfblaa.P Go.Proofs.YthcikkjjegfblaaW.PrintWords Go.Proofs.YthcikkjjegfblaaW.PrintLast Go.Proofs.YthcikkjjegfblaaW.PrintMore Go.Proofs.Ythcikkjjegfblaa.Lib
set_option linter.unusedVariables false
set_option linter.unusedSimpArgs false

theorem rdR_at {l : List (List Int)} {i : Nat} (h : i < l.length) : rd_L2 l (i : Int) = l[i] := by
  simp [rd_L2, List.getD_eq_getElem?_getD, List.getElem?_eq_getElem h]
theorem fits (l : List (List Int)) (hl : l.length ≤ 9223372036854775807) : ∃ b, Ev (fun k => laws_zzFits2.f k l) b := by
  have go : ∀ (m i : Nat), i + m = l.length → ∃ b, Ev (fun k => laws_zzFits2.l0 k l (l.length : Int) (i : Int)) b := by
    intro m
    induction m with
    | zero => intro i hi; exact ⟨true, Ev.step (fun k => laws_zzFits2.l0.eq_2 _ _ _ _) <| Ev.if_neg (by omega) <| Ev.now _⟩
    | succ m ih =>
      intro i hi
      have ew : wrap64 ((i : Int) + 1) = ((i + 1 : Nat) : Int) := by rw [wrap64_id (by omega) (by omega)]; omega
      by_cases hz : ((rd_L2 l (i : Int)).length : Int) > 2147483647
      · exact ⟨false, Ev.step (fun k => laws_zzFits2.l0.eq_2 _ _ _ _) <| Ev.if_pos (by omega) <| Ev.if_pos (by omega) <| Ev.if_pos (by omega) <| Ev.if_pos hz <| Ev.now _⟩
      · obtain ⟨b, hb⟩ := ih (i + 1) (by omega)
        refine ⟨b, Ev.step (fun k => laws_zzFits2.l0.eq_2 _ _ _ _) <| Ev.if_pos (by omega) <| Ev.if_pos (by omega) <| Ev.if_pos (by omega) <| Ev.if_neg hz ?_⟩
        rw [ew]; exact hb
  unfold laws_zzFits2.f
  by_cases h : (l.length : Int) > 2147483647
  · exact ⟨false, Ev.if_pos h <| Ev.now _⟩
  · obtain ⟨b, hb⟩ := go l.length 0 (by omega)
    exact ⟨b, Ev.if_neg h hb⟩
theorem one_row : laws_oneRow.f = some true := by
  have hp := parsed_of ⟨#[123, 49, 125]⟩ 1 [49, 125] (by decide) (by omega) (fun x t h => by injection h with h _; omega) (by decide)
  have hw : Arr.scanEl 44 [49, 125] = ([49], [125]) := by decide
  have hpm : Arr.pm 44 1 true [49, 125] 1 (List.replicate 1 0) [] = some ([1], [some [49]]) := by
    rw [Arr.pm_word (by decide) (by decide) (by rw [hw]; decide) (by rw [hw]; decide), hw]
    rw [Arr.pm_close (by decide) (by decide), Arr.pm]
    decide
  rw [hpm] at hp
  have hs : ((strOfNums [49]).toList == ([49] : List UInt8)) = true := by rw [ByteArray.toList_eq, strOfNums_data]; decide
  unfold laws_oneRow.f
  rw [hp]
  simp [parsedIt, itS, rd_T39, hs]
/-- The texts of a row's words. -/
abbrev rowT (ws : List (List Int)) : List Int := Arr.litL 44 [ws.length] ws
theorem joinR_head (d c : Int) (p : List Int) (t : List (List Int)) : Arr.joinR d ((c :: p) :: t) = c :: Arr.joinR d (p :: t) := by cases t <;> rfl
theorem row_texts (ws : List (List Int)) (h : ∀ x ∈ ws, Word x) : Arr.Texts 44 2 ws (ws.map Arr.elOf) := by
  refine ⟨by simp, fun i t e h1 h2 => ?_⟩
  rw [List.getElem?_map, h1] at h2
  injection h2 with h2
  have ht := h t (List.mem_of_getElem? h1)
  rw [← h2]
  exact Arr.word_good 44 2 2 t _ (Nat.le_refl _) ht.1 (fun x hx => by rcases ht.2 x hx with h | h <;> omega) (fun x hx => by rcases ht.2 x (List.mem_of_mem_head? hx) with h | h <;> omega)
/-- What has been put together of rows. -/
structure Done (l : List (List Int)) (i : Nat) (x3 : ByteArray) (b : Bool) (x5 : Int) (done : List (List (List Int))) : Prop where
  len : done.length = i
  row : ∀ j (h : j < done.length) (h2 : j < l.length), (done[j]).length = (l[j]).length ∧ (done[j]) ≠ [] ∧ ∀ w ∈ done[j], Word w
  tx : bytesOf x3 = 123 :: Arr.joinR 44 (done.map rowT)
  sz : x3.size ≤ 1 + i * 500
  un : b = true ↔ ∃ x ∈ done, x.length ≠ (l.getD 0 []).length
  sum : x5 = ((done.map List.length).sum : Nat)
  few : (done.map List.length).sum ≤ 20 * i
theorem flat_len (done : List (List (List Int))) : ((done.map fun ws => (ws, ws.map Arr.elOf)).map (·.2)).flatten.length = (done.map List.length).sum := by
  induction done with
  | nil => rfl
  | cons ws t ih => simp only [List.map_cons, List.flatten_cons, List.length_append, List.length_map, List.sum_cons, ih]
theorem sum_same (done : List (List (List Int))) (m : Nat) (h : ∀ x ∈ done, x.length = m) : (done.map List.length).sum = done.length * m := by
  induction done with
  | nil => simp
  | cons ws t ih =>
    rw [List.map_cons, List.sum_cons, ih (fun x hx => h x (by simp [hx])), h ws (by simp), List.length_cons, Nat.succ_mul]
    omega
theorem fin (l : List (List Int)) (h2 : 2 ≤ l.length) (h6 : l.length ≤ 6) (x3 : ByteArray) (b : Bool) (x5 : Int) (done : List (List (List Int))) (hD : Done l l.length x3 b x5 done) (hz : b = true → x5 % (l.length : Int) ≠ 0) : Ev (fun k => laws_FnParsedUneven.j6 k l x3 b false) true := by
  have hb125 : bytesOf ⟨#[125]⟩ = [125] := by decide
  have h125 : (⟨#[125]⟩ : ByteArray).size = 1 := rfl
  have hlen := hD.len
  have hsz := hD.sz
  have hrow : ∀ x ∈ done, x ≠ [] ∧ ∀ w ∈ x, Word w := by
    intro x hx
    obtain ⟨j, hj, rfl⟩ := List.getElem_of_mem hx
    exact (hD.row j hj (by omega)).2
  have hne : done ≠ [] := by intro e; rw [e] at hlen; simp at hlen; omega
  obtain ⟨z, ⟨x, hx, hzx⟩, hpm⟩ := Arr.rows_read 44 (by decide) (done.map fun ws => (ws, ws.map Arr.elOf)) (by simpa using hne) (by
    intro x hx
    simp only [List.mem_map] at hx
    obtain ⟨ws, hws, rfl⟩ := hx
    exact ⟨(hrow ws hws).1, row_texts ws (hrow ws hws).2⟩) []
  rw [List.map_map] at hpm
  have hT : bytesOf (x3 ++ ⟨#[125]⟩) = 123 :: (Arr.joinR 44 (done.map rowT) ++ [125]) := by
    rw [bytesOf_append, hD.tx, hb125]; rfl
  obtain ⟨r, hr, hh⟩ : ∃ r, 123 :: (Arr.joinR 44 (done.map rowT) ++ [125]) = List.replicate 2 123 ++ r ∧ ∀ x t, r = x :: t → x ≠ 123 ∧ x ≠ 125 := by
    cases hd : done with
    | nil => exact absurd hd hne
    | cons ws t =>
      obtain ⟨h3, h4⟩ := hrow ws (by rw [hd]; simp)
      cases hw : ws with
      | nil => exact absurd hw h3
      | cons w ws' =>
        have hw1 := h4 w (by rw [hw]; simp)
        cases hc : w with
        | nil => exact absurd hc hw1.1
        | cons c w' =>
          have hc1 := hw1.2 c (by rw [hc]; simp)
          have e1 : rowT ((c :: w') :: ws') = 123 :: c :: (Arr.joinR 44 (w' :: ws') ++ [125]) := by
            show 123 :: (Arr.joinR 44 (((c :: w') :: ws').take ((c :: w') :: ws').length) ++ [125]) = _
            rw [List.take_length, joinR_head]; rfl
          rw [List.map_cons, e1, joinR_head, joinR_head]
          refine ⟨_, rfl, fun x u he => ?_⟩
          injection he with he _
          subst he
          rcases hc1 with h | h <;> omega
  have hp := parsed_of (x3 ++ ⟨#[125]⟩) 2 r (by rw [hT, hr]) (by omega) hh (by rw [size_append, h125]; omega)
  have hop := Arr.pm_opens 44 2 r [] 2 0 (by omega)
  have hcomp : ((fun x : List (List Int) × List (Option (List Int)) => Arr.litL 44 [x.1.length] x.1) ∘ fun ws => (ws, ws.map Arr.elOf)) = rowT := rfl
  rw [hcomp, hr] at hpm
  have hrep : (List.replicate 2 (0 : Int)) = [0, 0] := rfl
  rw [← hop, hrep, hpm, List.nil_append] at hp
  rw [Arr.pm, if_pos rfl, flat_len] at hp
  have hml : ((done.map fun ws => (ws, ws.map Arr.elOf)).length : Int) = (l.length : Int) := by rw [List.length_map, hlen]
  rw [hml] at hp
  have hzm : ∃ ws ∈ done, z = ws.length := by
    have hm := List.mem_of_getLast? hx
    simp only [List.mem_map] at hm
    obtain ⟨ws, hws, rfl⟩ := hm
    exact ⟨ws, hws, hzx⟩
  obtain ⟨ws0, hws0, hz0⟩ := hzm
  cases hb : b with
  | true =>
    have hno : ¬ ∀ x ∈ [(l.length : Int), (z : Int)], (((done.map List.length).sum : Nat) : Int) % x = 0 := by
      intro h
      have h1 := h (l.length : Int) (by simp)
      rw [← hD.sum] at h1
      exact hz hb h1
    rw [if_neg hno] at hp
    refine Ev.step (fun k => laws_FnParsedUneven.j6.eq_2 _ _ _ _ _) <| Ev.if_neg (by simp) <| Ev.if_pos (by omega) <| Ev.bind (Ev.const hp) <| Ev.if_pos rfl <| Ev.if_neg (by simp [parsedIt]) <| Ev.if_pos rfl <| Ev.if_pos rfl <| Ev.bind (Ev.const one_row) <| Ev.now _
  | false =>
    have hall : ∀ x ∈ done, x.length = (l.getD 0 []).length := by
      intro x hx
      have h := hD.un
      rw [hb] at h
      rcases Nat.decEq x.length (l.getD 0 []).length with h1 | h1
      · exact absurd (h.mpr ⟨x, hx, h1⟩) (by simp)
      · exact h1
    have hs := sum_same done _ hall
    have hzz := hall ws0 hws0
    rw [hlen] at hs
    have hyes : ∀ x ∈ [(l.length : Int), (z : Int)], (((done.map List.length).sum : Nat) : Int) % x = 0 := by
      intro x hx
      rw [hs, Int.natCast_mul]
      simp only [List.mem_cons, List.not_mem_nil, or_false] at hx
      rcases hx with rfl | rfl
      · exact Int.mul_emod_right _ _
      · rw [hz0, hzz]; exact Int.mul_emod_left _ _
    rw [if_pos hyes] at hp
    have hr0 : rd_L2 l 0 = l.getD 0 [] := rfl
    refine Ev.step (fun k => laws_FnParsedUneven.j6.eq_2 _ _ _ _ _) <| Ev.if_neg (by simp) <| Ev.if_pos (by omega) <| Ev.bind (Ev.const hp) <| Ev.if_neg (by simp) <| Ev.if_pos rfl <| Ev.if_pos (by omega) <| Ev.bind ?_ <| Ev.now _
    rw [hr0]
    show Ev (fun k => spec_SameInts.f k [(l.length : Int), (z : Int)] [(l.length : Int), ((l.getD 0 []).length : Int)]) true
    rw [hz0, hzz]
    exact sameInts_self _ (by simp)
theorem inner (l : List (List Int)) (i : Nat) (hi : i < l.length) (h20 : (l[i]).length ≤ 20) (h6 : l.length ≤ 6) (x3 : ByteArray) (b : Bool) (x5 : Int) (hs3 : x3.size ≤ 100000)
    (next : ∀ ws : List (List Int), ws.length = (l[i]).length → (∀ w ∈ ws, Word w) → ∀ t : ByteArray, bytesOf t = rowT ws → t.size ≤ 499 → Ev (fun k => laws_FnParsedUneven.l0 k l (x3 ++ t) b x5 ((i + 1 : Nat) : Int)) true) (h0 : l[i] ≠ []) :
    ∀ (m j : Nat) (x7 : List ByteArray), j + m = (l[i]).length → x7.length = j → (∀ x ∈ x7, Word (bytesOf x) ∧ x.size ≤ 22) → Ev (fun k => laws_FnParsedUneven.l1 k l x3 b x5 (i : Int) x7 (j : Int)) true := by
  have hrd := rdR_at hi
  have ew2 : wrap64 ((i : Int) + 1) = ((i + 1 : Nat) : Int) := by rw [wrap64_id (by omega) (by omega)]; omega
  intro m
  induction m with
  | zero =>
    intro j x7 hj hx7 hall
    have hne : x7 ≠ [] := by intro e; rw [e] at hx7; simp at hx7; have := List.length_pos_iff.mpr h0; omega
    obtain ⟨t, e1, e2, e3⟩ := lit_row x7 hne (by omega) 22 (by omega) (fun x hx => (hall x hx).2)
    have hlen : x7.length * (22 + 1) ≤ 20 * 23 := Nat.mul_le_mul (by omega) (by omega)
    refine Ev.step (fun k => laws_FnParsedUneven.l1.eq_2 _ _ _ _ _ _ _ _) <| Ev.if_pos (by omega) <| Ev.if_pos (by omega) <| Ev.if_neg (by rw [hrd]; omega) <| Ev.bind e1 <| Ev.if_pos (by omega) ?_
    rw [ew2]
    refine next (x7.map bytesOf) (by rw [List.length_map]; omega) (fun w hw => ?_) t ?_ (by omega)
    · simp only [List.mem_map] at hw
      obtain ⟨y, hy, rfl⟩ := hw
      exact (hall y hy).1
    · rw [e2]
      show _ = 123 :: (Arr.joinR 44 ((x7.map bytesOf).take (x7.map bytesOf).length) ++ [125])
      rw [List.take_length]
  | succ m ih =>
    intro j x7 hj hx7 hall
    obtain ⟨t, e1, e2, e3⟩ := decimal_word (rd (rd_L2 l (i : Int)) (j : Int))
    have ew : wrap64 ((j : Int) + 1) = ((j + 1 : Nat) : Int) := by rw [wrap64_id (by omega) (by omega)]; omega
    refine Ev.step (fun k => laws_FnParsedUneven.l1.eq_2 _ _ _ _ _ _ _ _) <| Ev.if_pos (by omega) <| Ev.if_pos (by omega) <| Ev.if_pos (by rw [hrd]; omega) <| Ev.if_pos (by omega) <| Ev.bind e1 <| Ev.if_pos (by omega) ?_
    rw [ew]
    refine ih (j + 1) (x7 ++ [t]) (by omega) (by simp [hx7]) (fun x hx => ?_)
    rcases List.mem_append.mp hx with hx | hx
    · exact hall x hx
    · rw [List.mem_singleton.mp hx]; exact ⟨e2, e3⟩
theorem outer (l : List (List Int)) (h2 : 2 ≤ l.length) (h6 : l.length ≤ 6) : ∀ (m i : Nat) (x3 : ByteArray) (b : Bool) (x5 : Int) (done : List (List (List Int))), i + m = l.length → Done l i x3 b x5 done → Ev (fun k => laws_FnParsedUneven.l0 k l x3 b x5 (i : Int)) true := by
  intro m
  induction m with
  | zero =>
    intro i x3 b x5 done hi hD
    have hil : i = l.length := by omega
    subst hil
    have hx5 : 0 ≤ x5 := by rw [hD.sum]; omega
    cases hb : b with
    | true =>
      have ht : Int.tmod x5 (l.length : Int) = x5 % (l.length : Int) := Int.tmod_eq_emod_of_nonneg hx5
      by_cases hz : x5 % (l.length : Int) = 0
      · refine Ev.step (fun k => laws_FnParsedUneven.l0.eq_2 _ _ _ _ _ _) <| Ev.if_neg (by omega) <| Ev.if_pos rfl <| Ev.if_neg (by omega) ?_
        rw [ht, hz]
        exact Ev.step (fun k => laws_FnParsedUneven.j6.eq_2 _ _ _ _ _) <| Ev.if_pos rfl <| Ev.now _
      · refine Ev.step (fun k => laws_FnParsedUneven.l0.eq_2 _ _ _ _ _ _) <| Ev.if_neg (by omega) <| Ev.if_pos rfl <| Ev.if_neg (by omega) ?_
        have hf : (Int.tmod x5 (l.length : Int) == 0) = false := by rw [ht]; exact beq_eq_false_iff_ne.mpr hz
        rw [hf]
        rw [hb] at hD
        exact fin l h2 h6 x3 true x5 done hD (fun _ => hz)
    | false =>
      rw [hb] at hD
      exact Ev.step (fun k => laws_FnParsedUneven.l0.eq_2 _ _ _ _ _ _) <| Ev.if_neg (by omega) <| Ev.if_neg (by simp) <| fin l h2 h6 x3 false x5 done hD (fun h => by cases h)
  | succ m ih =>
    intro i x3 b x5 done hi hD
    have hil : i < l.length := by omega
    have hrd := rdR_at hil
    have hdl := hD.len
    have hsz := hD.sz
    have hr0 : rd_L2 l 0 = l.getD 0 [] := rfl
    by_cases h0 : (l[i]).length = 0
    · refine Ev.step (fun k => laws_FnParsedUneven.l0.eq_2 _ _ _ _ _ _) <| Ev.if_pos (by omega) <| Ev.if_pos (by omega) <| Ev.if_pos (by rw [hrd]; omega) ?_
      exact Ev.step (fun k => laws_FnParsedUneven.j2.eq_2 _ _ _ _ _ _ _) <| Ev.if_pos rfl <| Ev.now _
    by_cases h20 : (l[i]).length > 20
    · refine Ev.step (fun k => laws_FnParsedUneven.l0.eq_2 _ _ _ _ _ _) <| Ev.if_pos (by omega) <| Ev.if_pos (by omega) <| Ev.if_neg (by rw [hrd]; omega) ?_
      have hd : decide (((rd_L2 l (i : Int)).length : Int) > 20) = true := by rw [hrd]; exact decide_eq_true (by omega)
      rw [hd]
      exact Ev.step (fun k => laws_FnParsedUneven.j2.eq_2 _ _ _ _ _ _ _) <| Ev.if_pos rfl <| Ev.now _
    have hd : decide (((rd_L2 l (i : Int)).length : Int) > 20) = false := by rw [hrd]; exact decide_eq_false (by omega)
    refine Ev.step (fun k => laws_FnParsedUneven.l0.eq_2 _ _ _ _ _ _) <| Ev.if_pos (by omega) <| Ev.if_pos (by omega) <| Ev.if_neg (by rw [hrd]; omega) ?_
    rw [hd]
    have hfew := hD.few
    have h5 : wrap64 (x5 + ((rd_L2 l (i : Int)).length : Int)) = (((done.map List.length).sum + (l[i]).length : Nat) : Int) := by
      rw [hrd, hD.sum, wrap64_id (by omega) (by omega)]; omega
    -- behind the flag
    have tail : ∀ b' : Bool, (b' = true ↔ (∃ x ∈ done, x.length ≠ (l.getD 0 []).length) ∨ (l[i]).length ≠ (l.getD 0 []).length) → Ev (fun k => laws_FnParsedUneven.j3 k l x3 b' x5 (i : Int)) true := by
      intro b' hb'
      have fin3 : ∀ x3' : ByteArray, bytesOf x3' = 123 :: (if i = 0 then [] else Arr.joinR 44 (done.map rowT) ++ [44]) → x3'.size ≤ 1 + i * 500 + 1 → Ev (fun k => laws_FnParsedUneven.j4 k l x3' b' (wrap64 (x5 + ((rd_L2 l (i : Int)).length : Int))) (i : Int)) true := by
        intro x3' hx3 hs3
        rw [h5]
        refine Ev.step (fun k => laws_FnParsedUneven.j4.eq_2 _ _ _ _ _ _) ?_
        refine inner l i hil (by omega) h6 x3' b' _ (by omega) ?_ (fun e => h0 (by rw [e]; rfl)) (l[i]).length 0 [] (by omega) rfl (fun x hx => by cases hx)
        intro ws hwl hww t ht hts
        refine ih (i + 1) (x3' ++ t) b' _ (done ++ [ws]) (by omega) ⟨by simp [hdl], ?_, ?_, ?_, ?_, ?_, ?_⟩
        · intro j hj hj2
          by_cases hji : j < done.length
          · rw [List.getElem_append_left hji]; exact hD.row j hji hj2
          · have hje : j = i := by rw [List.length_append] at hj; simp at hj; omega
            subst hje
            rw [List.getElem_append_right (by omega)]
            simp only [hdl, Nat.sub_self, List.getElem_cons_zero]
            exact ⟨hwl, fun e => h0 (by rw [← hwl, e]; rfl), hww⟩
        · rw [bytesOf_append, hx3, ht, List.map_append, List.map_cons, List.map_nil, joinR_snoc]
          by_cases hi0 : i = 0
          · have hdn : done = [] := List.eq_nil_of_length_eq_zero (by omega)
            rw [if_pos hi0, hdn]; rfl
          · have hdn : done.map rowT ≠ [] := by
              intro e
              have := congrArg List.length e
              simp at this
              rw [this] at hdl
              simp at hdl
              omega
            rw [if_neg hi0, if_neg hdn]; simp
        · rw [size_append, Nat.succ_mul]; omega
        · rw [hb']
          constructor
          · rintro (⟨x, hx, hn⟩ | hn)
            · exact ⟨x, List.mem_append_left _ hx, hn⟩
            · exact ⟨ws, by simp, by rw [hwl]; exact hn⟩
          · rintro ⟨x, hx, hn⟩
            rcases List.mem_append.mp hx with hx | hx
            · exact .inl ⟨x, hx, hn⟩
            · rw [List.mem_singleton.mp hx, hwl] at hn; exact .inr hn
        · rw [List.map_append, List.sum_append]; simp [hwl]
        · rw [List.map_append, List.sum_append]; simp [hwl]; omega
      refine Ev.step (fun k => laws_FnParsedUneven.j3.eq_2 _ _ _ _ _ _) <| Ev.if_pos (by omega) <| Ev.if_pos (by omega) ?_
      by_cases hi0 : i = 0
      · refine Ev.if_neg (by omega) (fin3 x3 ?_ (by omega))
        have hdn : done = [] := List.eq_nil_of_length_eq_zero (by omega)
        rw [hD.tx, if_pos hi0, hdn]; rfl
      · refine Ev.if_pos (by omega) <| Ev.if_pos (by omega) (fin3 (x3 ++ ⟨#[44]⟩) ?_ ?_)
        · rw [bytesOf_append, hD.tx, bytes_comma, if_neg hi0]; simp
        · rw [size_append]; have h44 : (⟨#[44]⟩ : ByteArray).size = 1 := rfl
          omega
    refine Ev.step (fun k => laws_FnParsedUneven.j2.eq_2 _ _ _ _ _ _ _) <| Ev.if_neg (by simp) ?_
    cases hb : b with
    | true =>
      refine Ev.if_pos rfl (tail true ⟨fun _ => .inl (hD.un.mp hb), fun _ => rfl⟩)
    | false =>
      refine Ev.if_neg (by simp) <| Ev.if_pos (by omega) <| Ev.if_pos (by omega) <| Ev.if_pos (by omega) ?_
      rw [hrd, hr0]
      refine tail _ ?_
      have hun := hD.un
      rw [hb] at hun
      constructor
      · intro h
        refine .inr (fun e => ?_)
        rw [e] at h
        simp at h
      · rintro (h | h)
        · exact absurd (hun.mpr h) (by simp)
        · exact bne_iff_ne.mpr (by omega)
theorem FnParsedUneven (l : List (List Int)) (hl : l.length * 24 ≤ 140737488351232) {G : Prop} (hg : G) : ∃ k, laws_FnParsedUneven.f k l = some true := by
  suffices h : Ev (fun k => laws_FnParsedUneven.f k l) true by
    obtain ⟨K, hK⟩ := h
    exact ⟨K, hK K (Nat.le_refl _)⟩
  obtain ⟨bz, hb⟩ := fits l (by omega)
  unfold laws_FnParsedUneven.f
  refine Ev.bind hb ?_
  cases bz with
  | false => exact Ev.if_neg (by simp) <| Ev.now _
  | true =>
    refine Ev.if_pos rfl ?_
    by_cases h2 : (l.length : Int) < 2
    · exact Ev.if_pos h2 <| Ev.step (fun k => laws_FnParsedUneven.j0.eq_2 _ _ _) <| Ev.if_pos rfl <| Ev.now _
    refine Ev.if_neg h2 ?_
    by_cases h6 : (l.length : Int) > 6
    · rw [decide_eq_true h6]
      exact Ev.step (fun k => laws_FnParsedUneven.j0.eq_2 _ _ _) <| Ev.if_pos rfl <| Ev.now _
    · rw [decide_eq_false h6]
      refine Ev.step (fun k => laws_FnParsedUneven.j0.eq_2 _ _ _) <| Ev.if_neg (by simp) ?_
      exact outer l (by omega) (by omega) l.length 0 ⟨#[123]⟩ false 0 [] (by omega) ⟨rfl, fun j h => by simp at h, by decide, by decide, by simp, by simp, by simp⟩
end Go.Proofs.Ythcikkjjegfblaa.Pure
