/- FnFramed, for every list of messages: a message is its code, its length, which counts itself, and its pieces (from 1 to 10 messages of at most 30 pieces, by the law's own guard).
   Conditions: none beyond the form's own bounds on the sizes. -/
import Derived.Test.YthcikkjjegfblabPx8
import Derived.Test.YthcikkjjegfblabPx5
import Derived.Test.YthcikkjjegfblabPx2
import Derived.Test.YthcikkjjegfblabLibFrame
namespace Go.Proofs.Ythcikkjjegfblab.Pure
open Go.RowKit Go.Proofs.Ythcikkjjegfblab.P Go.Proofs.YthcikkjjegfblabW.PrintWords Go.Proofs.YthcikkjjegfblabW.PrintLast Go.Proofs.YthcikkjjegfblabW.PrintMore Go.Proofs.Ythcikkjjegfblab.Lib

theorem fits7 (l : List FPc) (hl : l.length ≤ 9223372036854775807) : ∃ b, Ev (fun k => laws_zzFits7.f k l) b ∧ (b = true → l.length ≤ 2147483647 ∧ ∀ x ∈ l, x.f2.size ≤ 2147483647) := by
  have go : ∀ (t : List FPc) (i : Nat), l.drop i = t → ∃ b, Ev (fun k => laws_zzFits7.l0 k l (l.length : Int) (i : Int)) b ∧ (b = true → ∀ x ∈ t, x.f2.size ≤ 2147483647) := by
    intro t
    induction t with
    | nil =>
      intro i h
      have h3 : l.length ≤ i := by simpa using h
      exact ⟨true, Ev.step (fun k => laws_zzFits7.l0.eq_2 _ _ _ _) <| Ev.if_neg (by omega) <| Ev.now _, fun _ x hx => by cases hx⟩
    | cons x t ih =>
      intro i h
      obtain ⟨e1, i1, d1⟩ := rdF_at h
      have ew : wrap64 ((i : Int) + 1) = ((i + 1 : Nat) : Int) := by rw [wrap64_id (by omega) (by omega)]; omega
      obtain ⟨b, hb, hg⟩ := ih (i + 1) d1
      by_cases hz : (x.f2.size : Int) > 2147483647
      · refine ⟨false, Ev.step (fun k => laws_zzFits7.l0.eq_2 _ _ _ _) <| Ev.if_pos (by omega) <| Ev.if_pos (by omega) <| Ev.if_pos (by omega) ?_, fun h => by cases h⟩
        rw [e1]
        exact Ev.bind (Ev.const (show laws_zzFits8.f x.f0 x.f1 x.f2 = some false by unfold laws_zzFits8.f; rw [_root_.if_pos hz])) <| Ev.if_neg (by simp) <| Ev.now _
      · refine ⟨b, Ev.step (fun k => laws_zzFits7.l0.eq_2 _ _ _ _) <| Ev.if_pos (by omega) <| Ev.if_pos (by omega) <| Ev.if_pos (by omega) ?_, fun h y hy => ?_⟩
        · rw [e1, ew]
          exact Ev.bind (Ev.const (show laws_zzFits8.f x.f0 x.f1 x.f2 = some true by unfold laws_zzFits8.f; rw [_root_.if_neg hz])) <| Ev.if_pos rfl hb
        · rcases List.mem_cons.1 hy with rfl | hy
          · omega
          · exact hg h y hy
  unfold laws_zzFits7.f
  by_cases hz : (l.length : Int) > 2147483647
  · exact ⟨false, Ev.if_pos hz <| Ev.now _, fun h => by cases h⟩
  · obtain ⟨b, hb, hg⟩ := go l 0 rfl
    exact ⟨b, Ev.if_neg hz hb, fun h => ⟨by omega, hg h⟩⟩
theorem fits6 (m : FMs) (hl : m.f1.length ≤ 9223372036854775807) : ∃ b, Ev (fun k => laws_zzFits6.f k m.f0 m.f1) b ∧ (b = true → m.f1.length ≤ 2147483647 ∧ ∀ x ∈ m.f1, x.f2.size ≤ 2147483647) := by
  obtain ⟨b, hb, hg⟩ := fits7 m.f1 hl
  unfold laws_zzFits6.f
  cases b with
  | true => exact ⟨true, Ev.bind hb <| Ev.if_pos rfl <| Ev.now _, hg⟩
  | false => exact ⟨false, Ev.bind hb <| Ev.if_neg (by simp) <| Ev.now _, fun h => by cases h⟩
theorem fits5 (l : List FMs) (hl : l.length ≤ 9223372036854775807) (hm : ∀ m ∈ l, m.f1.length ≤ 9223372036854775807) : ∃ b, Ev (fun k => laws_zzFits5.f k l) b ∧ (b = true → ∀ m ∈ l, ∀ x ∈ m.f1, x.f2.size ≤ 2147483647) := by
  have go : ∀ (t : List FMs) (i : Nat), l.drop i = t → ∃ b, Ev (fun k => laws_zzFits5.l0 k l (l.length : Int) (i : Int)) b ∧ (b = true → ∀ m ∈ t, ∀ x ∈ m.f1, x.f2.size ≤ 2147483647) := by
    intro t
    induction t with
    | nil =>
      intro i h
      have h3 : l.length ≤ i := by simpa using h
      exact ⟨true, Ev.step (fun k => laws_zzFits5.l0.eq_2 _ _ _ _) <| Ev.if_neg (by omega) <| Ev.now _, fun _ x hx => by cases hx⟩
    | cons m t ih =>
      intro i h
      obtain ⟨e1, i1, d1⟩ := rdM_at h
      have hx : m ∈ l := by rw [← List.take_append_drop i l, h]; simp
      have ew : wrap64 ((i : Int) + 1) = ((i + 1 : Nat) : Int) := by rw [wrap64_id (by omega) (by omega)]; omega
      obtain ⟨b, hb, hg⟩ := ih (i + 1) d1
      obtain ⟨b6, hb6, hg6⟩ := fits6 m (hm m hx)
      cases b6 with
      | false =>
        refine ⟨false, Ev.step (fun k => laws_zzFits5.l0.eq_2 _ _ _ _) <| Ev.if_pos (by omega) <| Ev.if_pos (by omega) <| Ev.if_pos (by omega) ?_, fun h => by cases h⟩
        rw [e1]
        exact Ev.bind hb6 <| Ev.if_neg (by simp) <| Ev.now _
      | true =>
        refine ⟨b, Ev.step (fun k => laws_zzFits5.l0.eq_2 _ _ _ _) <| Ev.if_pos (by omega) <| Ev.if_pos (by omega) <| Ev.if_pos (by omega) ?_, fun h y hy => ?_⟩
        · rw [e1, ew]
          exact Ev.bind hb6 <| Ev.if_pos rfl hb
        · rcases List.mem_cons.1 hy with rfl | hy
          · exact (hg6 rfl).2
          · exact hg h y hy
  unfold laws_zzFits5.f
  by_cases hz : (l.length : Int) > 2147483647
  · exact ⟨false, Ev.if_pos hz <| Ev.now _, fun h => by cases h⟩
  · obtain ⟨b, hb, hg⟩ := go l 0 rfl
    exact ⟨b, Ev.if_neg hz hb, hg⟩
theorem guard (l : List FMs) (hl : l.length ≤ 10) (hne : l ≠ []) (hs : ∀ m ∈ l, ∀ x ∈ m.f1, x.f2.size ≤ 2147483647) : ∀ (t : List FMs) (i : Nat), l.drop i = t → (∀ m ∈ l.take i, m.f1.length ≤ 30) → Ev (fun k => laws_FnFramed.l0 k l (i : Int)) true := by
  intro t
  induction t with
  | nil =>
    intro i h hg
    have h3 : l.length ≤ i := by simpa using h
    rw [List.take_of_length_le h3] at hg
    refine Ev.step (fun k => laws_FnFramed.l0.eq_2 _ _ _) <| Ev.if_neg (by omega) ?_
    have hf := framed_l l hl (fun m hm => ⟨hg m hm, fun x hx => by have := hs m hm x hx; omega⟩) l 0 [] rfl (by simp; omega)
    refine Ev.bind (show Ev (fun k => spec_Framed.f k l) (told (specFramed l [])) from hf) ?_
    cases e : specFramed l [] with
    | none => exact Ev.if_neg (by simp [told]) <| Ev.now _
    | some o =>
      have hi := implFramed_of e hne hl (fun m hm x hx => by have := hs m hm x hx; omega)
      exact Ev.if_pos rfl <| Ev.bind (Ev.const hi) <| Ev.if_pos rfl <| Ev.to (by simp [told]) (Ev.now _)
  | cons m t ih =>
    intro i h hg
    obtain ⟨e1, i1, d1⟩ := rdM_at h
    have ew : wrap64 ((i : Int) + 1) = ((i + 1 : Nat) : Int) := by rw [wrap64_id (by omega) (by omega)]; omega
    refine Ev.step (fun k => laws_FnFramed.l0.eq_2 _ _ _) <| Ev.if_pos (by omega) <| Ev.if_pos (by omega) ?_
    rw [e1, ew]
    by_cases c : (m.f1.length : Int) > 30
    · exact Ev.if_pos c <| Ev.now _
    · refine Ev.if_neg c <| ih (i + 1) d1 ?_
      intro y hy
      rw [List.take_add_one, List.getElem?_eq_getElem i1] at hy
      rcases List.mem_append.1 hy with hy | hy
      · exact hg y hy
      · have : l[i] = m := by rw [List.drop_eq_getElem_cons i1] at h; injection h
        simp at hy
        rw [hy, this]; omega
theorem law (l : List FMs) (hl : l.length ≤ 9223372036854775807) (hm : ∀ m ∈ l, m.f1.length ≤ 9223372036854775807) : Ev (fun k => laws_FnFramed.f k l) true := by
  obtain ⟨b, hb, hg⟩ := fits5 l hl hm
  have j0 : ∀ c : Bool, (c = false → l ≠ [] ∧ l.length ≤ 10 ∧ b = true) → Ev (fun k => laws_FnFramed.j0 k l c) true := by
    intro c hc
    refine Ev.step (fun k => laws_FnFramed.j0.eq_2 _ _ _) ?_
    by_cases h : c = true
    · exact Ev.if_pos h <| Ev.now _
    · obtain ⟨h1, h2, h3⟩ := hc (by simpa using h)
      exact Ev.if_neg h <| guard l h2 h1 (hg h3) l 0 rfl (by simp)
  unfold laws_FnFramed.f
  refine Ev.bind hb ?_
  cases b with
  | false => exact Ev.if_neg (by simp) <| Ev.now _
  | true =>
    refine Ev.if_pos rfl ?_
    by_cases h0 : (l.length : Int) = 0
    · exact Ev.if_pos h0 <| j0 _ (fun h => by cases h)
    · exact Ev.if_neg h0 <| j0 _ (fun h => ⟨fun e => h0 (by rw [e]; rfl), by simp at h; omega, rfl⟩)
theorem FnFramed (l : List FMs) (hl : l.length * 32 ≤ 140737488351232) (hg : ∀ m ∈ l, (Lit.int .u8 m.f0).wf = true ∧ m.f1.length ≤ 9223372036854775807 ∧ ∀ x ∈ m.f1, (Lit.int .i64 x.f0).wf = true ∧ (Lit.int .i64 x.f1).wf = true ∧ x.f2.size ≤ maxLen) : ∃ k, laws_FnFramed.f k l = some true := Ev.rounds (law l (by omega) (fun m hm => (hg m hm).2.1))

end Go.Proofs.Ythcikkjjegfblab.Pure
