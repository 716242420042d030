/- Words for the two laws of the literals of arrays. Conditions: named by each lemma. -/
import Derived.Test.YthcikkjjegfblaaLibParsed
import Derived.Test.YthcikkjjegfblaaPx7
import Derived.Test.YthcikkjjegfblaaPx8
import Derived.Test.YthcikkjjegfblaaPx1
namespace Go.Proofs.Ythcikkjjegfblaa.Lib
open Go.RowKit Go.Proofs.Ythcikkjjegfblaa.P Go.Proofs.YthcikkjjegfblaaW.PrintWords Go.Proofs.YthcikkjjegfblaaW.PrintLast Go.Proofs.YthcikkjjegfblaaW.PrintMore
set_option linter.unusedVariables false
set_option linter.unusedSimpArgs false
theorem bytes_in (s : ByteArray) : ∀ x ∈ bytesOf s, 0 ≤ x ∧ x < 256 := by
  intro x hx
  have := bytesOf_range hx
  omega
theorem delim (s : ByteArray) : ∃ t, laws_delimiter.f s = some t ∧ (t = true → ∃ d, bytesOf s = [d] ∧ d ≠ 125 ∧ d ≠ 123 ∧ d ≠ 34 ∧ (0 ≤ d ∧ d < 256)) := by
  have hb : ∀ l : List UInt8, s.toList = l → bytesOf s = l.map (fun b => (b.toNat : Int)) := by
    intro l h
    rw [← h, ByteArray.toList_eq]
    rfl
  unfold laws_delimiter.f
  by_cases h1 : s.toList = [44]
  · rw [if_pos h1]
    exact ⟨true, rfl, fun _ => ⟨44, hb _ h1, by decide, by decide, by decide, by decide⟩⟩
  rw [if_neg h1]
  by_cases h2 : s.toList = [59]
  · rw [if_pos h2]
    exact ⟨true, rfl, fun _ => ⟨59, hb _ h2, by decide, by decide, by decide, by decide⟩⟩
  rw [if_neg h2]
  refine ⟨_, rfl, fun h3 => ?_⟩
  have h3 : s.toList = [124] := by simpa using h3
  exact ⟨124, hb _ h3, by decide, by decide, by decide, by decide⟩
theorem array_f {s del : ByteArray} {d : Int} (hd : bytesOf del = [d]) (hs : s.size ≤ 1000000) : spec_Array.f s del = some (arrIt (spArr d (bytesOf s))) := by
  unfold spec_Array.f
  rw [hd]
  simp only [if_pos hs]
theorem parsed_f {s del : ByteArray} {d : Int} (hd : bytesOf del = [d]) (hp : paIs d (bytesOf s)) : impl_Parsed.f s del = some (parsedIt (paF d (bytesOf s))) := by
  unfold impl_Parsed.f
  rw [hd]
  simp only [if_pos hp]
theorem pm_dims (d : Int) (n : Nat) : ∀ (N : Nat) (m : Bool) (r : List Int) (k : Nat) (D : List Int) (els : List (Option (List Int))) (D' : List Int) (els' : List (Option (List Int))), r.length ≤ N → Arr.pm d n m r k D els = some (D', els') → D'.length = D.length := by
  intro N
  induction N with
  | zero =>
    intro m r k D els D' els' hN h
    cases r with
    | cons c t => simp at hN
    | nil =>
      cases m with
      | true => rw [Arr.pm] at h; cases h
      | false =>
        rw [Arr.pm] at h
        split at h
        · split at h
          · injection h with h; injection h with h _; subst h; rfl
          · cases h
        · cases h
  | succ N ih =>
    intro m r k D els D' els' hN h
    cases r with
    | nil =>
      cases m with
      | true => rw [Arr.pm] at h; cases h
      | false =>
        rw [Arr.pm] at h
        split at h
        · split at h
          · injection h with h; injection h with h _; subst h; rfl
          · cases h
        · cases h
    | cons c t =>
      simp only [List.length_cons] at hN
      cases m with
      | false =>
        rw [Arr.pm] at h
        split at h
        · have := ih _ _ _ _ _ _ _ (by omega) h; simpa using this
        · split at h
          · have := ih _ _ _ _ _ _ _ (by omega) h; simpa using this
          · cases h
      | true =>
        by_cases h1 : c = 123
        · rw [Arr.pm, if_pos h1] at h
          split at h
          · cases h
          · have := ih _ _ _ _ _ _ _ (by omega) h; simpa using this
        by_cases h2 : c = 34
        · subst h2
          cases hq : Arr.scanQ t false [] with
          | none => rw [Arr.pm_quote_none hq] at h; cases h
          | some p =>
            rw [Arr.pm_quote hq] at h
            have hl := Arr.scanQ_le t false [] p.1 p.2 hq
            exact ih _ _ _ _ _ _ _ (by omega) h
        by_cases h3 : (Arr.scanEl d (c :: t)).2 = [] ∨ (Arr.scanEl d (c :: t)).1 = []
        · rw [Arr.pm_word_none h1 h2 h3] at h; cases h
        · rw [Arr.pm_word h1 h2 (fun e => h3 (.inl e)) (fun e => h3 (.inr e))] at h
          have ha := congrArg List.length (Arr.scanEl_app d (c :: t))
          rw [List.length_append] at ha
          have hp : 0 < (Arr.scanEl d (c :: t)).1.length := List.length_pos_iff.mpr (fun e => h3 (.inr e))
          simp only [List.length_cons] at ha
          exact ih _ _ _ _ _ _ _ (by omega) h
theorem braces_le : ∀ l : List Int, braces l ≤ l.length
  | [] => Nat.le_refl _
  | c :: t => by
    have := braces_le t
    rw [braces]
    split <;> simp only [List.length_cons] <;> omega
theorem paF_dims (d : Int) (l : List Int) (hp : paIs d l) : ∀ D els, paF d l = some (D, els) → D.length ≤ 1000000 := by
  intro D els h
  have hl := hp.2.2.2.1
  unfold paF at h
  split at h
  · injection h with h; injection h with h _; subst h; simp
  · split at h
    · cases h
    · have := pm_dims d _ _ true _ _ _ [] D els (Nat.le_refl _) h
      rw [this, List.length_replicate]
      have := braces_le l
      omega
theorem same_ints (l : List Int) (hl : l.length ≤ 1000000) : Ev (fun k => spec_SameInts.f k l l) true := by
  have go : ∀ (m i : Nat), i + m = l.length → Ev (fun k => spec_SameInts.l0 k l l (i : Int)) true := by
    intro m
    induction m with
    | zero => intro i hi; exact Ev.step (fun k => spec_SameInts.l0.eq_2 _ _ _ _) <| Ev.if_neg (by omega) <| Ev.now _
    | succ m ih =>
      intro i hi
      have ew : wrap64 ((i : Int) + 1) = ((i + 1 : Nat) : Int) := by rw [wrap64_id (by omega) (by omega)]; omega
      refine Ev.step (fun k => spec_SameInts.l0.eq_2 _ _ _ _) <| Ev.if_pos (by omega) <| Ev.if_pos (by omega) <| Ev.if_pos (by omega) <| Ev.if_pos rfl ?_
      rw [ew]
      exact ih (i + 1) (by omega)
  unfold spec_SameInts.f
  exact Ev.if_pos rfl (go l.length 0 (by omega))
theorem itS_sIt : itS = sIt := by
  funext x
  cases x <;> rfl
theorem same_items (els : List (Option (List Int))) (hl : els.length ≤ 1000000) : spec_SameItems.f (els.map sIt) (els.map itS) = some true := by
  rw [itS_sIt]
  have go : ∀ l : List (Option (List Int)), sameL (l.map sIt) (l.map sIt) = true := by
    intro l
    induction l with
    | nil => rfl
    | cons x t ih =>
      rw [List.map_cons, sameL, ih]
      cases x <;> simp [sameS, sIt]
  unfold spec_SameItems.f
  rw [if_pos ⟨go els, by rw [List.length_map]; exact hl⟩]
end Go.Proofs.Ythcikkjjegfblaa.Lib
