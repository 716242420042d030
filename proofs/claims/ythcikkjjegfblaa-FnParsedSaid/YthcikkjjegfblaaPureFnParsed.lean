/- FnParsed, for all texts: what the reference tells of the literal of an array is told (at most 2000 bytes; a comma, a semicolon or a bar). Conditions: the form's own bounds. -/
import Derived.Test.YthcikkjjegfblaaPx8
import Derived.Test.YthcikkjjegfblaaLibParsedLaw
namespace Go.Proofs.Ythcikkjjegfblaa.Pure
open Go.RowKit Go.Proofs.Ythcikkjjegfblaa.P Go.Proofs.YthcikkjjegfblaaW.PrintWords Go.Proofs.YthcikkjjegfblaaW.PrintLast Go.Proofs.YthcikkjjegfblaaW.PrintMore Go.Proofs.Ythcikkjjegfblaa.Lib
set_option linter.unusedVariables false
set_option linter.unusedSimpArgs false
theorem FnParsed : laws_FnParsed.Pure := by
  intro a0 a1 h0 h1
  suffices h : Ev (fun k => laws_FnParsed.f k a0 a1) true by
    obtain ⟨K, hK⟩ := h
    exact ⟨K, hK K (Nat.le_refl _)⟩
  have j1t : Ev (fun k => laws_FnParsed.j1 k a0 a1 true) true := Ev.step (fun k => laws_FnParsed.j1.eq_2 _ _ _ _) <| Ev.if_pos rfl <| Ev.now _
  have j0t : Ev (fun k => laws_FnParsed.j0 k a0 a1 true) true := Ev.step (fun k => laws_FnParsed.j0.eq_2 _ _ _ _) <| Ev.if_pos rfl <| Ev.now _
  have j0f : Ev (fun k => laws_FnParsed.j0 k a0 a1 false) true := by
    refine Ev.step (fun k => laws_FnParsed.j0.eq_2 _ _ _ _) <| Ev.if_neg (by simp) ?_
    by_cases hs : (a0.size : Int) > 2000
    · exact Ev.if_pos hs j1t
    refine Ev.if_neg hs ?_
    obtain ⟨t, ht, hd⟩ := delim a1
    refine Ev.bind (Ev.const ht) ?_
    cases t with
    | false => exact j1t
    | true =>
      obtain ⟨d, hd1, hd2, hd3, hd4, hd5⟩ := hd rfl
      refine Ev.step (fun k => laws_FnParsed.j1.eq_2 _ _ _ _) <| Ev.if_neg (by simp) ?_
      have hsz : a0.size ≤ 1000000 := by omega
      refine Ev.bind (Ev.const (array_f hd1 hsz)) ?_
      by_cases hsure : (spArr d (bytesOf a0)).2.2.2 = true
      · obtain ⟨hp, hy, hn⟩ := sure_of d hd2 hd3 hd4 hd5 (bytesOf a0) (by rw [bytesOf_length]; exact hsz) (bytes_in a0) hsure
        refine Ev.if_pos hsure <| Ev.bind (Ev.const (parsed_f hd1 hp)) ?_
        by_cases hf : (spArr d (bytesOf a0)).2.2.1 = true
        · have hpa := hy hf
          rw [hpa]
          have hl1 := paF_dims d (bytesOf a0) hp _ _ hpa
          have hl2 := paF_len d (bytesOf a0) hp _ _ hpa
          refine Ev.if_pos hf <| Ev.if_pos rfl <| Ev.bind (same_ints _ (by exact hl1)) <| Ev.if_pos rfl <| Ev.bind (Ev.const ?_) <| Ev.now _
          exact same_items _ hl2
        · have hpa := hn (by simpa using hf)
          rw [hpa]
          exact Ev.if_neg hf <| Ev.now _
      · exact Ev.if_neg hsure <| Ev.now _
  unfold laws_FnParsed.f
  by_cases hb : (a0.size : Int) > 2147483647
  · exact Ev.if_pos hb j0t
  refine Ev.if_neg hb ?_
  by_cases h2 : (a1.size : Int) > 2147483647
  · rw [decide_eq_true h2]; exact j0t
  · rw [decide_eq_false h2]; exact j0f
end Go.Proofs.Ythcikkjjegfblaa.Pure
