/- FnLiteralParts, for any two texts: the literal of both, one behind the other, has both where they hold no backslash, and is longer than they are with two signs where one holds some (texts of at most 1000 bytes without zero bytes, by the law's own guard).
   Conditions: none beyond the form's own bound on a text's size. -/
import Derived.Test.YtlfkejljbehcaabLibLiteral
import Derived.Test.YtlfkejljbehcaabPx4
namespace Go.Proofs.Ytlfkejljbehcaab.Pure
open Go.RowKit Go.Proofs.Ytlfkejljbehcaab.P Go.Proofs.YtlfkejljbehcaabW.PrintWords Go.Proofs.YtlfkejljbehcaabW.PrintLast Go.Proofs.YtlfkejljbehcaabW.PrintMore Go.Proofs.Ytlfkejljbehcaab.Lib

theorem FnLiteralParts : laws_FnLiteralParts.Pure := by
  intro a b ha hb
  refine Ev.rounds ?_
  have j0t : Ev (fun k => laws_FnLiteralParts.j0 k a b true) true := Ev.step (fun k => laws_FnLiteralParts.j0.eq_2 _ _ _ _) <| Ev.if_pos rfl <| Ev.now _
  have j1t : Ev (fun k => laws_FnLiteralParts.j1 k a b true) true := Ev.step (fun k => laws_FnLiteralParts.j1.eq_2 _ _ _ _) <| Ev.if_pos rfl <| Ev.now _
  unfold laws_FnLiteralParts.f
  by_cases h : (a.size : Int) > 2147483647
  · exact Ev.if_pos h j0t
  refine Ev.if_neg h ?_
  by_cases h' : (b.size : Int) > 2147483647
  · rw [decide_eq_true h']; exact j0t
  rw [decide_eq_false h']
  refine Ev.step (fun k => laws_FnLiteralParts.j0.eq_2 _ _ _ _) <| Ev.if_neg (by simp) <| Ev.bind (text9 a (by omega)) ?_
  by_cases hta : a.size ≤ 1000 ∧ 0 ∉ bytesOf a
  rotate_left
  · exact Ev.if_neg (by simpa using hta) j1t
  refine Ev.if_pos (by simpa using hta) <| Ev.bind (text9 b (by omega)) ?_
  by_cases htb : b.size ≤ 1000 ∧ 0 ∉ bytesOf b
  rotate_left
  · rw [decide_eq_false htb]; exact j1t
  rw [decide_eq_true htb]
  obtain ⟨x, hx, bx⟩ := literal a ha
  obtain ⟨y, hy, bY⟩ := literal b hb
  have zab : (a ++ b).size = a.size + b.size := size_append a b
  obtain ⟨z, hz, bz⟩ := literal (a ++ b) (by omega)
  rw [bytesOf_append] at bz
  have lx : x.size = (litOf (bytesOf a)).length := piece_size bx
  have ly : y.size = (litOf (bytesOf b)).length := piece_size bY
  have lz : z.size = (litOf (bytesOf a ++ bytesOf b)).length := piece_size bz
  have ea := bytesOf_length a
  have eb := bytesOf_length b
  refine Ev.step (fun k => laws_FnLiteralParts.j1.eq_2 _ _ _ _) <| Ev.if_neg (by simp) <| Ev.bind hx <| Ev.bind hy <| Ev.if_pos (by omega) <| Ev.bind hz <| Ev.bind (hasByte a (by omega) 92) ?_
  rw [wrap64_id (n := ((a ++ b).size : Int) + 2) (by omega) (by omega)]
  have long : (92 ∈ bytesOf a ∨ 92 ∈ bytesOf b) → decide ((z.size : Int) > ((a ++ b).size : Int) + 2) = true := by
    intro hd
    rw [decide_eq_true_eq, lz, litOf, _root_.if_pos (by simpa using hd), zab]
    have l1 := dbl_length 39 (bytesOf a ++ bytesOf b)
    have l2 := dbl_length 92 (dbl 39 (bytesOf a ++ bytesOf b))
    simp only [List.length_append, List.length_cons, List.length_nil] at *
    omega
  by_cases hda : 92 ∈ bytesOf a
  · refine Ev.to (long (.inl hda)) (Ev.if_pos (by simpa using hda) <| Ev.now _)
  refine Ev.if_neg (by simpa using hda) <| Ev.bind (hasByte b (by omega) 92) ?_
  by_cases hdb : 92 ∈ bytesOf b
  · refine Ev.to (long (.inr hdb)) (Ev.if_pos (by simpa using hdb) <| Ev.now _)
  refine Ev.if_neg (by simpa using hdb) ?_
  rw [litOf, _root_.if_neg hda] at lx bx
  rw [litOf, _root_.if_neg hdb] at ly bY
  rw [litOf, _root_.if_neg (by simp [hda, hdb])] at bz
  have m1 := dbl_length 39 (bytesOf a)
  have m2 := dbl_length 39 (bytesOf b)
  simp only [List.length_append, List.length_cons, List.length_nil] at lx ly
  rw [wrap64_id (n := (x.size : Int) - 1) (by omega) (by omega)]
  have px : bytesOf (x.extract 0 ((x.size : Int) - 1).toNat) = [39] ++ dbl 39 (bytesOf a) := by
    have hat : At (bytesOf x) 0 (([39] ++ dbl 39 (bytesOf a)) ++ [39]) := by rw [← bx]; exact At.zero _
    exact hat.piece (by simp only [List.length_append, List.length_cons, List.length_nil]; omega)
  have py : bytesOf (y.extract 1 y.size) = dbl 39 (bytesOf b) ++ [39] := by
    have hat : At (bytesOf y) 0 (39 :: (dbl 39 (bytesOf b) ++ [39])) := by
      have : 39 :: (dbl 39 (bytesOf b) ++ [39]) = bytesOf y := by rw [bY]; simp
      rw [this]; exact At.zero _
    exact hat.tail.rest
  have sx := piece_size px
  have sy := piece_size py
  simp only [List.length_append, List.length_cons, List.length_nil] at sx sy
  refine Ev.to (toList_beq ?_) (Ev.if_pos (by omega) <| Ev.if_pos (by omega) <| Ev.if_pos (by omega) <| Ev.if_pos (by omega) <| Ev.if_pos (by omega) <| Ev.if_pos (by omega) <| Ev.now _)
  rw [bz, bytesOf_append, px, py, dbl_append]; simp

end Go.Proofs.Ytlfkejljbehcaab.Pure
