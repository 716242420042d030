/- FnLiteralBack, for every text: a literal, read as SQL reads it, is the text (texts of at most 1000 bytes without zero bytes, by the law's own guard).
   Conditions: none beyond the form's own bound on a text's size. -/
import Derived.Test.YtlfkejljbehcaabLibLiteral
import Derived.Test.YtlfkejljbehcaabLibUnquoted
import Derived.Test.YtlfkejljbehcaabPx3
namespace Go.Proofs.Ytlfkejljbehcaab.Pure
open Go.RowKit Go.Proofs.Ytlfkejljbehcaab.P Go.Proofs.YtlfkejljbehcaabW.PrintWords Go.Proofs.YtlfkejljbehcaabW.PrintLast Go.Proofs.YtlfkejljbehcaabW.PrintMore Go.Proofs.Ytlfkejljbehcaab.Lib

theorem escaped_l (t : ByteArray) (hs : t.size ≤ 2305843009213693952) : ∀ (l : List Int) (i : Int) (out : ByteArray), At (bytesOf t) i (dbl 92 l) → out.size + l.length ≤ 6917529027641081856 →
    ∃ r, Ev (fun k => spec_Read.l1 k t true out i) (r, true) ∧ bytesOf r = bytesOf out ++ l := by
  intro l
  induction l with
  | nil =>
    intro i out h _
    exact ⟨out, Ev.step (fun k => spec_Read.l1.eq_2 _ _ _ _ _) <| Ev.if_neg (by have := At.snil h; omega) <| Ev.step (fun k => spec_Read.j4.eq_2 _ _ _ _ _ _) <| Ev.if_neg (by simp) <| Ev.now _, by simp⟩
  | cons c l ih =>
    intro i out h hb
    have hlen := h.slen
    have h0 := h.nonneg
    rw [dbl_cons] at h hlen
    simp only [List.length_cons] at hb
    have go : ∀ r, i < (t.size : Int) → Ev (fun k => spec_Read.j4 k t true out i true) r → Ev (fun k => spec_Read.l1 k t true out i) r := fun r hi hr =>
      Ev.step (fun k => spec_Read.l1.eq_2 _ _ _ _ _) <| Ev.if_pos hi hr
    by_cases hc : c = 92
    · rw [_root_.if_pos hc] at h hlen
      have hh : At (bytesOf t) i (92 :: 92 :: dbl 92 l) := by simpa using h
      have h1 := hh.tail
      have h2 := hh.tail.tail
      have hl2 := h2.slen
      have e1 : wrap64 (i + 1) = i + 1 := wrap64_id (by omega) (by omega)
      have e2 : wrap64 (i + 1 + 1) = i + 1 + 1 := wrap64_id (by omega) (by omega)
      have hone := h1.one
      have hsz := h1.one_size
      obtain ⟨r, hr, hbr⟩ := ih (i + 1 + 1) (out ++ t.extract (i + 1).toNat (i + 1 + 1).toNat) h2 (by simp only [size_append]; omega)
      refine ⟨r, go _ hh.slt <| Ev.step (fun k => spec_Read.j4.eq_2 _ _ _ _ _ _) <| Ev.if_pos rfl <| Ev.if_pos h0 <| Ev.if_pos hh.slt <| Ev.if_pos hh.bt ?_, ?_⟩
      · rw [e1, e2]
        exact Ev.if_neg (by have := h1.slt; omega) <| Ev.if_pos (by omega) <| Ev.if_pos h1.slt <| Ev.if_pos h1.bt <| Ev.if_pos (by omega) <| Ev.if_pos h2.sle <| Ev.if_pos (by omega) hr
      · rw [hbr, bytesOf_append, hone, hc]; simp
    · rw [_root_.if_neg hc] at h hlen
      have hh : At (bytesOf t) i (c :: dbl 92 l) := by simpa using h
      have h2 := hh.tail
      have hl2 := h2.slen
      have e1 : wrap64 (i + 1) = i + 1 := wrap64_id (by omega) (by omega)
      have hone := hh.one
      have hsz := hh.one_size
      obtain ⟨r, hr, hbr⟩ := ih (i + 1) (out ++ t.extract i.toNat (i + 1).toNat) h2 (by simp only [size_append]; omega)
      refine ⟨r, go _ hh.slt <| Ev.step (fun k => spec_Read.j4.eq_2 _ _ _ _ _ _) <| Ev.if_pos rfl <| Ev.if_pos h0 <| Ev.if_pos hh.slt <| Ev.if_neg (by rw [hh.bt]; exact hc) ?_, ?_⟩
      · rw [e1]
        exact Ev.if_pos (by omega) <| Ev.if_pos h2.sle <| Ev.if_pos (by omega) hr
      · rw [hbr, bytesOf_append, hone]; simp

theorem read (s : ByteArray) (hs : s.size ≤ 1000) (x : ByteArray) (hx : bytesOf x = litOf (bytesOf s)) : ∃ r, Ev (fun k => spec_Read.f k x) (r, true) ∧ bytesOf r = bytesOf s := by
  unfold spec_Read.f
  have es := bytesOf_length s
  have m1 := dbl_length 39 (bytesOf s)
  have m2 := dbl_length 92 (dbl 39 (bytesOf s))
  by_cases hd : 92 ∈ bytesOf s
  · rw [litOf, _root_.if_pos hd] at hx
    have zx := piece_size hx
    simp only [List.length_append, List.length_cons, List.length_nil] at zx
    have hat : At (bytesOf x) 0 (32 :: 69 :: 39 :: (dbl 92 (dbl 39 (bytesOf s)) ++ [39])) := by
      have : 32 :: 69 :: 39 :: (dbl 92 (dbl 39 (bytesOf s)) ++ [39]) = bytesOf x := by rw [hx]; simp
      rw [this]; exact At.zero _
    have hy : bytesOf (x.extract 1 x.size) = 69 :: 39 :: (dbl 92 (dbl 39 (bytesOf s)) ++ [39]) := hat.tail.rest
    generalize hye : x.extract 1 x.size = y at hy
    have zy := piece_size hy
    simp only [List.length_append, List.length_cons, List.length_nil] at zy
    have haty : At (bytesOf y) 0 (69 :: 39 :: (dbl 92 (dbl 39 (bytesOf s)) ++ [39])) := by rw [← hy]; exact At.zero _
    have hz : bytesOf (y.extract 1 y.size) = [39] ++ dbl 39 (dbl 92 (bytesOf s)) ++ [39] := by rw [dbl_comm (by decide)]; exact haty.tail.rest
    have zz := piece_size hz
    simp only [List.length_append, List.length_cons, List.length_nil] at zz
    have m3 := dbl_length 92 (bytesOf s)
    have m4 := dbl_length 39 (dbl 92 (bytesOf s))
    obtain ⟨t, ht, bt'⟩ := unquoted (y.extract 1 y.size) (by omega) 39 (dbl 92 (bytesOf s)) hz
    have zt := piece_size bt'
    obtain ⟨r, hr, br⟩ := escaped_l t (by omega) (bytesOf s) 0 ⟨#[]⟩ (by rw [← bt']; exact At.zero _) (by show 0 + (bytesOf s).length ≤ _; omega)
    refine ⟨r, Ev.step (fun k => spec_Read.l0.eq_2 _ _) <| Ev.if_pos (by omega) <| Ev.if_pos (by omega) <| Ev.if_pos hat.bt <| Ev.if_pos (by omega) ?_, by rw [br]; rfl⟩
    rw [hye]
    have hbt := haty.bt
    refine Ev.step (fun k => spec_Read.l0.eq_2 _ _) <| Ev.if_pos (by omega) <| Ev.if_pos (by omega) <| Ev.if_neg (by omega) <| Ev.step (fun k => spec_Read.j1.eq_2 _ _) <| Ev.if_neg (by omega) <| Ev.if_pos (by omega) ?_
    rw [bne_eq_false_iff_eq.2 hbt]
    exact Ev.step (fun k => spec_Read.j2.eq_2 _ _ _) <| Ev.if_neg (by simp) <| Ev.if_pos (by omega) <| Ev.bind ht hr
  · rw [litOf, _root_.if_neg hd] at hx
    have zx := piece_size hx
    simp only [List.length_append, List.length_cons, List.length_nil] at zx
    have hat : At (bytesOf x) 0 (39 :: (dbl 39 (bytesOf s) ++ [39])) := by
      have : 39 :: (dbl 39 (bytesOf s) ++ [39]) = bytesOf x := by rw [hx]; simp
      rw [this]; exact At.zero _
    obtain ⟨r, hr, br⟩ := unquoted x (by omega) 39 (bytesOf s) hx
    have hbt := hat.bt
    refine ⟨r, Ev.step (fun k => spec_Read.l0.eq_2 _ _) <| Ev.if_pos (by omega) <| Ev.if_pos (by omega) <| Ev.if_neg (by omega) <| Ev.step (fun k => spec_Read.j1.eq_2 _ _) <| Ev.if_neg (by omega) <| Ev.if_pos (by omega) ?_, br⟩
    rw [bne_iff_ne.2 (show bt x 0 ≠ 69 by omega)]
    exact Ev.step (fun k => spec_Read.j2.eq_2 _ _ _) <| Ev.if_pos rfl <| Ev.bind hr <| Ev.now _

theorem FnLiteralBack : laws_FnLiteralBack.Pure := by
  intro s hs
  refine Ev.rounds ?_
  unfold laws_FnLiteralBack.f
  by_cases h : (s.size : Int) > 2147483647
  · exact Ev.if_pos h <| Ev.now _
  refine Ev.if_neg h <| Ev.bind (text9 s (by omega)) ?_
  by_cases ht : s.size ≤ 1000 ∧ 0 ∉ bytesOf s
  · obtain ⟨x, h1, b1⟩ := literal s hs
    obtain ⟨q, h2, b2⟩ := read s ht.1 x b1
    refine Ev.to (toList_beq b2) (Ev.if_pos (by simpa using ht) <| Ev.bind h1 <| Ev.bind h2 <| Ev.if_pos rfl <| Ev.now _)
  · exact Ev.if_neg (by simpa using ht) <| Ev.now _

end Go.Proofs.Ytlfkejljbehcaab.Pure
