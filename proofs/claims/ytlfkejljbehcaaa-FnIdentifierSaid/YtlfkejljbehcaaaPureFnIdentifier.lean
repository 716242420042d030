/- FnIdentifier, for every text: a name, up to its first zero byte, as an identifier stands in quotation marks, and each one in it twice (UTF-8 of at most 1000 bytes, by the law's own guard).
   Conditions: none beyond the form's own bound on a text's size. -/
import Derived.Test.YtlfkejljbehcaaaLibIdent
import Derived.Test.YtlfkejljbehcaaaPx3
namespace Go.Proofs.Ytlfkejljbehcaaa.Pure
open Go.RowKit Go.Proofs.Ytlfkejljbehcaaa.P Go.Proofs.YtlfkejljbehcaaaW.PrintWords Go.Proofs.YtlfkejljbehcaaaW.PrintLast Go.Proofs.YtlfkejljbehcaaaW.PrintMore Go.Proofs.Ytlfkejljbehcaaa.Lib

theorem FnIdentifier : laws_FnIdentifier.Pure := by
  intro s hs
  refine Ev.rounds ?_
  unfold laws_FnIdentifier.f
  by_cases h : (s.size : Int) > 2147483647
  · exact Ev.if_pos h <| Ev.now _
  refine Ev.if_neg h ?_
  by_cases h2 : (s.size : Int) > 1000
  · exact Ev.if_pos h2 <| Ev.now _
  refine Ev.if_neg h2 ?_
  obtain ⟨b, hb⟩ := utf8 s hs
  refine Ev.bind hb ?_
  cases b with
  | false => exact Ev.if_neg (by simp) <| Ev.now _
  | true =>
    obtain ⟨x, hx, bx⟩ := identifier s hs
    obtain ⟨y, hy, bY⟩ := specIdent s hs
    exact Ev.if_pos rfl <| Ev.to (toList_beq (by rw [bx, bY])) (Ev.bind hx <| Ev.bind hy <| Ev.now _)

end Go.Proofs.Ytlfkejljbehcaaa.Pure
