/- FnQuoted, for every text: an element in quotes has a backslash ahead of quotation marks and backslashes (texts of at most 2000 bytes, by the law's own guard).
   Conditions: none beyond the form's own bound on a text's size. -/
import Derived.Test.YtlfkejljbehcaaaLibQuoted
import Derived.Test.YtlfkejljbehcaaaPx2
namespace Go.Proofs.Ytlfkejljbehcaaa.Pure
open Go.RowKit Go.Proofs.Ytlfkejljbehcaaa.P Go.Proofs.YtlfkejljbehcaaaW.PrintWords Go.Proofs.YtlfkejljbehcaaaW.PrintLast Go.Proofs.YtlfkejljbehcaaaW.PrintMore Go.Proofs.Ytlfkejljbehcaaa.Lib

theorem FnQuoted : laws_FnQuoted.Pure := by
  intro s hs
  refine Ev.rounds ?_
  unfold laws_FnQuoted.f
  by_cases h : (s.size : Int) > 2147483647
  · exact Ev.if_pos h <| Ev.now _
  refine Ev.if_neg h ?_
  by_cases h2 : (s.size : Int) > 2000
  · exact Ev.if_pos h2 <| Ev.now _
  refine Ev.if_neg h2 ?_
  have hl := bytesOf_length s
  have h1 : Ev (fun k => impl_Quoted.f k s) (strOfNums ([34] ++ esc (bytesOf s) ++ [34])) := by
    unfold impl_Quoted.f pq_QuotedBytes.f
    exact Ev.if_pos (by omega) <| Ev.bind (Ev.bind (appendQ (bytesOf s) [] (by simp; omega)) <| Ev.now _) <| Ev.now _
  refine Ev.to ?_ (Ev.bind h1 <| Ev.bind (specQuoted s (by omega)) <| Ev.now _)
  simp

end Go.Proofs.Ytlfkejljbehcaaa.Pure
