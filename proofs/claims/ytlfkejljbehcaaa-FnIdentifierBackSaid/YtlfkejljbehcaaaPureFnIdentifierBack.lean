/- FnIdentifierBack, for every text: an identifier, read as SQL reads it, is the name (UTF-8 of at most 1000 bytes without zero bytes, by the law's own guard).
   Conditions: none beyond the form's own bound on a text's size. -/
import Derived.Test.YtlfkejljbehcaaaLibIdent
import Derived.Test.YtlfkejljbehcaaaLibUnquoted
import Derived.Test.YtlfkejljbehcaaaPx4
namespace Go.Proofs.Ytlfkejljbehcaaa.Pure
open Go.RowKit Go.Proofs.Ytlfkejljbehcaaa.P Go.Proofs.YtlfkejljbehcaaaW.PrintWords Go.Proofs.YtlfkejljbehcaaaW.PrintLast Go.Proofs.YtlfkejljbehcaaaW.PrintMore Go.Proofs.Ytlfkejljbehcaaa.Lib

theorem FnIdentifierBack : laws_FnIdentifierBack.Pure := by
  intro s hs
  refine Ev.rounds ?_
  have jt : Ev (fun k => laws_FnIdentifierBack.j0 k s true) true := Ev.step (fun k => laws_FnIdentifierBack.j0.eq_2 _ _ _) <| Ev.if_pos rfl <| Ev.now _
  unfold laws_FnIdentifierBack.f
  by_cases h : (s.size : Int) > 2147483647
  · exact Ev.if_pos h <| Ev.now _
  refine Ev.if_neg h <| Ev.bind (text9 s (by omega)) ?_
  by_cases ht : s.size ≤ 1000 ∧ 0 ∉ bytesOf s
  · refine Ev.if_pos (by simpa using ht) ?_
    obtain ⟨b, hb⟩ := utf8 s hs
    refine Ev.bind hb ?_
    cases b with
    | false => exact jt
    | true =>
      obtain ⟨x, hx, bx⟩ := identifier s hs
      rw [identOf, upTo_none ht.2] at bx
      have m := dbl_length 34 (bytesOf s)
      have es := bytesOf_length s
      have zx := piece_size bx
      simp only [List.length_append, List.length_cons, List.length_nil] at zx
      obtain ⟨y, hy, bY⟩ := unquoted x (by omega) 34 (bytesOf s) bx
      exact Ev.to (toList_beq bY) (Ev.step (fun k => laws_FnIdentifierBack.j0.eq_2 _ _ _) <| Ev.if_neg (by simp) <| Ev.bind hx <| Ev.bind hy <| Ev.if_pos rfl <| Ev.now _)
  · exact Ev.if_neg (by simpa using ht) jt

end Go.Proofs.Ytlfkejljbehcaaa.Pure
