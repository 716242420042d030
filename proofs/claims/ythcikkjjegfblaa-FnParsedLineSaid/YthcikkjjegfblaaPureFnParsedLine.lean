/- FnParsedLine, for all texts: a literal of one dimension, or of none, has the elements that it has; one of more is refused (as FnParsed). Conditions: the form's own bounds. -/
import Derived.Test.YthcikkjjegfblaaPx9
import Derived.Test.YthcikkjjegfblaaLibParsedLaw
import Derived.Test.YthcikkjjegfblaaPx8
namespace Go.Proofs.Ythcikkjjegfblaa.Pure
open Go.RowKit Go.Proofs.Ythcikkjjegfblaa.P Go.Proofs.YthcikkjjegfblaaW.PrintWords Go.Proofs.YthcikkjjegfblaaW.PrintLast Go.Proofs.YthcikkjjegfblaaW.PrintMore Go.Proofs.Ythcikkjjegfblaa.Lib
set_option linter.unusedVariables false
set_option linter.unusedSimpArgs false
theorem line_f {s del : ByteArray} {d : Int} (hd : bytesOf del = [d]) (hp : paIs d (bytesOf s)) : impl_ParsedLine.f s del = some (lineIt (lnF d (bytesOf s))) := by
  unfold impl_ParsedLine.f
  rw [hd]
  simp only [if_pos hp]
theorem FnParsedLine : laws_FnParsedLine.Pure := by
  intro a0 a1 h0 h1
  suffices h : Ev (fun k => laws_FnParsedLine.f k a0 a1) true by
    obtain ⟨K, hK⟩ := h
    exact ⟨K, hK K (Nat.le_refl _)⟩
  have j1t : Ev (fun k => laws_FnParsedLine.j1 k a0 a1 true) true := Ev.step (fun k => laws_FnParsedLine.j1.eq_2 _ _ _ _) <| Ev.if_pos rfl <| Ev.now _
  have j0t : Ev (fun k => laws_FnParsedLine.j0 k a0 a1 true) true := Ev.step (fun k => laws_FnParsedLine.j0.eq_2 _ _ _ _) <| Ev.if_pos rfl <| Ev.now _
  have j0f : Ev (fun k => laws_FnParsedLine.j0 k a0 a1 false) true := by
    refine Ev.step (fun k => laws_FnParsedLine.j0.eq_2 _ _ _ _) <| Ev.if_neg (by simp) ?_
    by_cases hs : (a0.size : Int) > 2000
    · exact Ev.if_pos hs j1t
    refine Ev.if_neg hs ?_
    obtain ⟨t, ht, hd⟩ := delim a1
    refine Ev.bind (Ev.const ht) ?_
    cases t with
    | false => exact j1t
    | true =>
      obtain ⟨d, hd1, hd2, hd3, hd4, hd5⟩ := hd rfl
      refine Ev.step (fun k => laws_FnParsedLine.j1.eq_2 _ _ _ _) <| Ev.if_neg (by simp) ?_
      have hsz : a0.size ≤ 1000000 := by omega
      refine Ev.bind (Ev.const (array_f hd1 hsz)) ?_
      by_cases hsure : (spArr d (bytesOf a0)).2.2.2 = true
      · obtain ⟨hp, hy, hn⟩ := sure_of d hd2 hd3 hd4 hd5 (bytesOf a0) (by rw [bytesOf_length]; exact hsz) (bytes_in a0) hsure
        refine Ev.if_pos hsure <| Ev.bind (Ev.const (line_f hd1 hp)) ?_
        by_cases hf : (spArr d (bytesOf a0)).2.2.1 = true
        · have hpa := hy hf
          have hl2 := paF_len d (bytesOf a0) hp _ _ hpa
          refine Ev.if_pos hf ?_
          by_cases hlen : 1 < (spArr d (bytesOf a0)).1.length
          · have hln : lnF d (bytesOf a0) = none := by
              unfold lnF
              rw [hpa]
              exact if_pos hlen
            rw [hln]
            exact Ev.if_pos (by show ((spArr d (bytesOf a0)).1.length : Int) > 1; omega) <| Ev.now _
          · have hln : lnF d (bytesOf a0) = some (spArr d (bytesOf a0)).2.1 := by
              unfold lnF
              rw [hpa]
              exact if_neg hlen
            rw [hln]
            refine Ev.if_neg (by show ¬ ((spArr d (bytesOf a0)).1.length : Int) > 1; omega) <| Ev.if_pos rfl <| Ev.bind (Ev.const ?_) <| Ev.now _
            exact same_items _ hl2
        · have hpa := hn (by simpa using hf)
          have hln : lnF d (bytesOf a0) = none := by
            unfold lnF
            rw [hpa]
          rw [hln]
          exact Ev.if_neg hf <| Ev.now _
      · exact Ev.if_neg hsure <| Ev.now _
  unfold laws_FnParsedLine.f
  by_cases hb : (a0.size : Int) > 2147483647
  · exact Ev.if_pos hb j0t
  refine Ev.if_neg hb ?_
  by_cases h2 : (a1.size : Int) > 2147483647
  · rw [decide_eq_true h2]; exact j0t
  · rw [decide_eq_false h2]; exact j0f
end Go.Proofs.Ythcikkjjegfblaa.Pure
