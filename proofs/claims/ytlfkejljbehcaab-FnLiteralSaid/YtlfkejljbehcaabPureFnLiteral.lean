/- FnLiteral, for every text: a literal stands in apostrophes, each one in it twice; with a backslash it is an escape string, in which backslashes stand twice (texts of at most 1000 bytes without zero bytes, by the law's own guard).
   Conditions: none beyond the form's own bound on a text's size. -/
import Derived.Test.YtlfkejljbehcaabLibLiteral
import Derived.Test.YtlfkejljbehcaabPx2
namespace Go.Proofs.Ytlfkejljbehcaab.Pure
open Go.RowKit Go.Proofs.Ytlfkejljbehcaab.P Go.Proofs.YtlfkejljbehcaabW.PrintWords Go.Proofs.YtlfkejljbehcaabW.PrintLast Go.Proofs.YtlfkejljbehcaabW.PrintMore Go.Proofs.Ytlfkejljbehcaab.Lib

theorem literalText (s : ByteArray) (hs : s.size ≤ 140737488351232) : ∃ r, Ev (fun k => spec_LiteralText.f k s) r ∧ bytesOf r = litOf (bytesOf s) := by
  unfold spec_LiteralText.f
  obtain ⟨r1, h1, b1⟩ := doubled s (by omega) 39
  have l1 := dbl_length 39 (bytesOf s)
  have z1 : r1.size = (dbl 39 (bytesOf s)).length := piece_size b1
  rw [bytesOf_length] at l1
  have b2 : bytesOf ((⟨#[39]⟩ : ByteArray) ++ r1 ++ (⟨#[39]⟩ : ByteArray)) = [39] ++ dbl 39 (bytesOf s) ++ [39] := by rw [bytesOf_append, bytesOf_append, b1]; rfl
  have z2 : ((⟨#[39]⟩ : ByteArray) ++ r1 ++ (⟨#[39]⟩ : ByteArray)).size = 1 + r1.size + 1 := by simp only [size_append]; rfl
  have z3 : ((⟨#[39]⟩ : ByteArray) ++ r1).size = 1 + r1.size := by simp only [size_append]; rfl
  have hh := hasByte s (by omega) 92
  by_cases hd : 92 ∈ bytesOf s
  · obtain ⟨r3, h3, b3⟩ := doubled ((⟨#[39]⟩ : ByteArray) ++ r1 ++ (⟨#[39]⟩ : ByteArray)) (by omega) 92
    have l3 := dbl_length 92 (bytesOf ((⟨#[39]⟩ : ByteArray) ++ r1 ++ (⟨#[39]⟩ : ByteArray)))
    have z4 : r3.size = (dbl 92 (bytesOf ((⟨#[39]⟩ : ByteArray) ++ r1 ++ (⟨#[39]⟩ : ByteArray)))).length := piece_size b3
    rw [bytesOf_length] at l3
    refine ⟨(⟨#[32, 69]⟩ : ByteArray) ++ r3, Ev.bind h1 <| Ev.if_pos (by omega) <| Ev.if_pos (by omega) <| Ev.bind hh <| Ev.if_pos (by simpa using hd) <| Ev.bind h3 <| Ev.if_pos (by omega) <| Ev.now _, ?_⟩
    rw [bytesOf_append, b3, b2, litOf, _root_.if_pos hd, dbl_append, dbl_append]; rfl
  · exact ⟨_, Ev.bind h1 <| Ev.if_pos (by omega) <| Ev.if_pos (by omega) <| Ev.bind hh <| Ev.if_neg (by simpa using hd) <| Ev.now _, by rw [b2, litOf, _root_.if_neg hd]⟩

theorem FnLiteral : laws_FnLiteral.Pure := by
  intro s hs
  refine Ev.rounds ?_
  unfold laws_FnLiteral.f
  by_cases h : (s.size : Int) > 2147483647
  · exact Ev.if_pos h <| Ev.now _
  refine Ev.if_neg h <| Ev.bind (text9 s (by omega)) ?_
  by_cases ht : s.size ≤ 1000 ∧ 0 ∉ bytesOf s
  · obtain ⟨r, h1, b1⟩ := literal s hs
    obtain ⟨q, h2, b2⟩ := literalText s hs
    exact Ev.to (toList_beq (by rw [b1, b2])) (Ev.if_pos (by simpa using ht) <| Ev.bind h1 <| Ev.bind h2 <| Ev.now _)
  · exact Ev.if_neg (by simpa using ht) <| Ev.now _

end Go.Proofs.Ytlfkejljbehcaab.Pure
