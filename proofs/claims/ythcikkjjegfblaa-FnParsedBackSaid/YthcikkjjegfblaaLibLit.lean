/- What Literal writes of one dimension, and what Parsed and SameInts tell of texts and lists. Conditions: the sizes that each lemma names. -/
import Derived.Test.YthcikkjjegfblaaPx5
import Derived.Test.YthcikkjjegfblaaPx3
import Derived.Test.YthcikkjjegfblaaLibArr
import Derived.Test.YthcikkjjegfblaaLib
namespace Go.Proofs.Ythcikkjjegfblaa.Lib
open Go.RowKit Go.Proofs.Ythcikkjjegfblaa.P Go.Proofs.YthcikkjjegfblaaW.PrintWords Go.Proofs.YthcikkjjegfblaaW.PrintLast Go.Proofs.YthcikkjjegfblaaW.PrintMore
set_option linter.unusedVariables false
set_option linter.unusedSimpArgs false

theorem bytes_comma : bytesOf ⟨#[44]⟩ = [44] := by decide
/-- All in order, each behind a comma but the first. -/
theorem joinR_snoc (d : Int) : ∀ (l : List (List Int)) (p : List Int), Arr.joinR d (l ++ [p]) = if l = [] then p else Arr.joinR d l ++ d :: p
  | [], p => rfl
  | [q], p => rfl
  | q :: r :: t, p => by
    have ih := joinR_snoc d (r :: t) p
    rw [if_neg (by simp)] at ih ⊢
    show q ++ d :: Arr.joinR d ((r :: t) ++ [p]) = _
    rw [ih]
    show _ = (q ++ d :: Arr.joinR d (r :: t)) ++ d :: p
    simp
theorem rdOf_at {l : List ByteArray} {i : Nat} (h : i < l.length) : rdOf ByteArray.empty l (i : Int) = l[i] := by
  simp [rdOf, List.getD_eq_getElem?_getD, List.getElem?_eq_getElem h]
/-- One row in brackets. -/
theorem lit_row (l : List ByteArray) (h0 : l ≠ []) (hn : l.length ≤ 1000) (B : Nat) (hB : B ≤ 1000) (hs : ∀ x ∈ l, x.size ≤ B) :
    ∃ t, Ev (fun k => spec_Literal.f k [(l.length : Int)] l ⟨#[44]⟩) t ∧ bytesOf t = 123 :: (Arr.joinR 44 (l.map bytesOf) ++ [125]) ∧ t.size ≤ 2 + l.length * (B + 1) := by
  have hpos : 0 < l.length := List.length_pos_iff.mpr h0
  have h44 : (⟨#[44]⟩ : ByteArray).size = 1 := rfl
  have h125 : (⟨#[125]⟩ : ByteArray).size = 1 := rfl
  have hb125 : bytesOf ⟨#[125]⟩ = [125] := by decide
  have go : ∀ (m i : Nat) (x7 : ByteArray), i + m = l.length → bytesOf x7 = 123 :: Arr.joinR 44 ((l.take i).map bytesOf) → x7.size ≤ 1 + i * (B + 1) →
      ∃ t, Ev (fun k => spec_Literal.l0 k [(l.length : Int)] l ⟨#[44]⟩ x7 (wrap64 ((l.length : Int) / (rd [(l.length : Int)] 0))) (i : Int)) t ∧ bytesOf t = 123 :: (Arr.joinR 44 (l.map bytesOf) ++ [125]) ∧ t.size ≤ 2 + l.length * (B + 1) := by
    intro m
    have hr0 : rd [(l.length : Int)] 0 = (l.length : Int) := rfl
    induction m with
    | zero =>
      intro i x7 hi hb hsz
      have hil : i = l.length := by omega
      subst hil
      rw [List.take_length] at hb
      have hmul : l.length * (B + 1) ≤ 1000 * 1001 := Nat.mul_le_mul hn (by omega)
      refine ⟨x7 ++ ⟨#[125]⟩, Ev.step (fun k => spec_Literal.l0.eq_2 _ _ _ _ _ _ _) <| Ev.if_pos (by simp) <| Ev.if_neg (by rw [hr0]; omega) <| Ev.if_pos (by omega) <| Ev.now _, ?_, ?_⟩
      · rw [bytesOf_append, hb, hb125]; rfl
      · rw [size_append, h125]; omega
    | succ m ih =>
      intro i x7 hi hb hsz
      have hil : i < l.length := by omega
      have hmul : (i + 1) * (B + 1) ≤ 1000 * 1001 := Nat.mul_le_mul (by omega) (by omega)
      rw [Nat.succ_mul] at hmul
      have ew : wrap64 ((i : Int) + 1) = ((i + 1 : Nat) : Int) := by rw [wrap64_id (by omega) (by omega)]; omega
      have hel := rdOf_at hil
      have hes := hs l[i] (List.getElem_mem hil)
      have htk : (l.take (i + 1)).map bytesOf = (l.take i).map bytesOf ++ [bytesOf l[i]] := by
        rw [List.take_add_one, List.getElem?_eq_getElem hil, List.map_append]; rfl
      by_cases hi0 : i = 0
      · subst hi0
        have hj : Arr.joinR 44 ((l.take (0 + 1)).map bytesOf) = bytesOf l[0] := by rw [htk]; rfl
        obtain ⟨t, e1, e2, e3⟩ := ih (0 + 1) (x7 ++ l[0]) (by omega) (by rw [bytesOf_append, hb, hj]; rfl) (by rw [size_append]; omega)
        refine ⟨t, Ev.step (fun k => spec_Literal.l0.eq_2 _ _ _ _ _ _ _) <| Ev.if_pos (by simp) <| Ev.if_pos (by rw [hr0]; omega) <| Ev.if_neg (by omega) <| Ev.if_pos (by simp) <| Ev.if_pos (by omega) <| Ev.if_pos (by omega) <| Ev.if_pos (by rw [hel]; omega) ?_, e2, e3⟩
        rw [hel, ew]
        exact e1
      · have hj : Arr.joinR 44 ((l.take (i + 1)).map bytesOf) = Arr.joinR 44 ((l.take i).map bytesOf) ++ 44 :: bytesOf l[i] := by
          rw [htk, joinR_snoc, if_neg (by
            intro h
            have h3 := congrArg List.length h
            rw [List.length_map, List.length_take, List.length_nil] at h3
            omega)]
        obtain ⟨t, e1, e2, e3⟩ := ih (i + 1) ((x7 ++ ⟨#[44]⟩) ++ l[i]) (by omega) (by rw [bytesOf_append, bytesOf_append, hb, hj, bytes_comma]; simp) (by rw [size_append, size_append, h44, Nat.succ_mul]; omega)
        refine ⟨t, Ev.step (fun k => spec_Literal.l0.eq_2 _ _ _ _ _ _ _) <| Ev.if_pos (by simp) <| Ev.if_pos (by rw [hr0]; omega) <| Ev.if_pos (by omega) <| Ev.if_pos (by rw [h44]; omega) <| Ev.if_pos (by simp) <| Ev.if_pos (by omega) <| Ev.if_pos (by omega) <| Ev.if_pos (by rw [hel, size_append, h44]; omega) ?_, e2, e3⟩
        rw [hel, ew]
        exact e1
  obtain ⟨t, e1, e2, e3⟩ := go l.length 0 ⟨#[123]⟩ (by omega) (show bytesOf ⟨#[123]⟩ = [123] by decide) (show (⟨#[123]⟩ : ByteArray).size ≤ 1 + 0 * (B + 1) by rw [Nat.zero_mul]; exact Nat.le_refl 1)
  refine ⟨t, Ev.step (fun k => spec_Literal.f.eq_2 _ _ _ _) <| Ev.if_neg (by simp) <| Ev.if_pos (by simp) <| Ev.if_neg ?_ e1, e2, e3⟩
  show ¬ (l.length : Int) = 0
  omega
/-- Two lists of whole numbers that are the same. -/
theorem sameInts_self (l : List Int) (hl : l.length ≤ 1000000) : Ev (fun k => spec_SameInts.f k l l) true := by
  have go : ∀ (m i : Nat), i + m = l.length → Ev (fun k => spec_SameInts.l0 k l l (i : Int)) true := by
    intro m
    induction m with
    | zero => intro i hi; exact Ev.step (fun k => spec_SameInts.l0.eq_2 _ _ _ _) <| Ev.if_neg (by omega) <| Ev.now _
    | succ m ih =>
      intro i hi
      have ew : wrap64 ((i : Int) + 1) = ((i + 1 : Nat) : Int) := by rw [wrap64_id (by omega) (by omega)]; omega
      refine Ev.step (fun k => spec_SameInts.l0.eq_2 _ _ _ _) <| Ev.if_pos (by omega) <| Ev.if_pos (by omega) <| Ev.if_pos (by omega) <| Ev.if_pos rfl ?_
      rw [ew]
      exact ih (i + 1) (by omega)
  unfold spec_SameInts.f
  exact Ev.if_pos rfl (go l.length 0 (by omega))
/-- What Parsed tells of a text of n brackets and more. -/
theorem parsed_of (text : ByteArray) (n : Nat) (r : List Int) (hs : bytesOf text = List.replicate n 123 ++ r) (hn : 0 < n) (hh : ∀ x t, r = x :: t → x ≠ 123 ∧ x ≠ 125) (hL : text.size ≤ 1000000) :
    impl_Parsed.f text ⟨#[44]⟩ = some (parsedIt (Arr.pm 44 n true r n (List.replicate n 0) [])) := by
  have hb : ∀ m : Nat, braces (List.replicate m 123 ++ r) = m := by
    intro m
    induction m with
    | zero =>
      cases hr : r with
      | nil => rfl
      | cons x t => show braces (x :: t) = 0; rw [braces, if_neg (hh x t hr).1]
    | succ m ih => rw [List.replicate_succ, List.cons_append, braces, if_pos rfl, ih]
  have hd : (List.replicate n (123 : Int) ++ r).drop n = r := by
    rw [List.drop_append_of_le_length (by simp), List.drop_of_length_le (by simp)]; rfl
  have hh2 : r.head? ≠ some 125 := by
    cases hr : r with
    | nil => simp
    | cons x t => simp only [List.head?_cons]; intro h; injection h with h; exact (hh x t hr).2 h
  unfold impl_Parsed.f
  rw [hs, hb n, hd, if_pos ⟨rfl, hL, hn, hh2⟩]
end Go.Proofs.Ythcikkjjegfblaa.Lib
