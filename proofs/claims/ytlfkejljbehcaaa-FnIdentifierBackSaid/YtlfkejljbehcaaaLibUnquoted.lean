/- What spec.Unquoted tells of a list in quotes. Conditions: the text's size is within the form's bound. -/
import Derived.Test.YtlfkejljbehcaaaPx4
import Derived.Test.YtlfkejljbehcaaaLibQuote
namespace Go.Proofs.Ytlfkejljbehcaaa.Lib
open Go.RowKit Go.Proofs.Ytlfkejljbehcaaa.P Go.Proofs.YtlfkejljbehcaaaW.PrintWords Go.Proofs.YtlfkejljbehcaaaW.PrintLast Go.Proofs.YtlfkejljbehcaaaW.PrintMore

theorem unquoted_l (s : ByteArray) (hs : s.size ≤ 2305843009213693952) (q : Int) : ∀ (l : List Int) (i : Int) (out : ByteArray), At (bytesOf s) i (dbl q l ++ [q]) → out.size + l.length ≤ 6917529027641081856 →
    ∃ r, Ev (fun k => spec_Unquoted.l0 k s q out i) (r, true) ∧ bytesOf r = bytesOf out ++ l := by
  intro l
  induction l with
  | nil =>
    intro i out h _
    have hlen := h.slen
    have h0 := h.nonneg
    simp [dbl] at hlen
    refine ⟨out, Ev.step (fun k => spec_Unquoted.l0.eq_2 _ _ _ _ _) ?_, by simp⟩
    rw [wrap64_id (n := (s.size : Int) - 1) (by omega) (by omega)]
    exact Ev.if_neg (by omega) <| Ev.now _
  | cons c l ih =>
    intro i out h hb
    have hlen := h.slen
    have h0 := h.nonneg
    rw [dbl_cons] at h hlen
    simp only [List.length_cons] at hb
    have e0 : wrap64 ((s.size : Int) - 1) = (s.size : Int) - 1 := wrap64_id (by omega) (by omega)
    by_cases hc : c = q
    · rw [_root_.if_pos hc] at h hlen
      have hh : At (bytesOf s) i (q :: q :: (dbl q l ++ [q])) := by simpa using h
      have h1 := hh.tail
      have h2 := hh.tail.tail
      have hl2 := h2.slen
      simp only [List.length_append, List.length_cons, List.length_nil] at hl2
      have e1 : wrap64 (i + 1) = i + 1 := wrap64_id (by omega) (by omega)
      have e2 : wrap64 (i + 1 + 1) = i + 1 + 1 := wrap64_id (by omega) (by omega)
      have hone := h1.one
      have hsz := h1.one_size
      obtain ⟨r, hr, hbr⟩ := ih (i + 1 + 1) (out ++ s.extract (i + 1).toNat (i + 1 + 1).toNat) h2 (by simp only [size_append]; omega)
      refine ⟨r, Ev.step (fun k => spec_Unquoted.l0.eq_2 _ _ _ _ _) ?_, ?_⟩
      · rw [e0, e1, e2]
        exact Ev.if_pos (by omega) <| Ev.if_pos h0 <| Ev.if_pos (by omega) <| Ev.if_pos hh.bt <| Ev.if_neg (by omega) <| Ev.if_pos (by omega) <| Ev.if_pos (by omega) <| Ev.if_pos h1.bt <| Ev.if_pos (by omega) <| Ev.if_pos (by omega) <| Ev.if_pos (by omega) hr
      · rw [hbr, bytesOf_append, hone, hc]; simp
    · rw [_root_.if_neg hc] at h hlen
      have hh : At (bytesOf s) i (c :: (dbl q l ++ [q])) := by simpa using h
      have h2 := hh.tail
      have hl2 := h2.slen
      simp only [List.length_append, List.length_cons, List.length_nil] at hl2
      have e1 : wrap64 (i + 1) = i + 1 := wrap64_id (by omega) (by omega)
      have hone := hh.one
      have hsz := hh.one_size
      obtain ⟨r, hr, hbr⟩ := ih (i + 1) (out ++ s.extract i.toNat (i + 1).toNat) h2 (by simp only [size_append]; omega)
      refine ⟨r, Ev.step (fun k => spec_Unquoted.l0.eq_2 _ _ _ _ _) ?_, ?_⟩
      · rw [e0, e1]
        exact Ev.if_pos (by omega) <| Ev.if_pos h0 <| Ev.if_pos (by omega) <| Ev.if_neg (by rw [hh.bt]; exact hc) <| Ev.if_pos (by omega) <| Ev.if_pos (by omega) <| Ev.if_pos (by omega) hr
      · rw [hbr, bytesOf_append, hone]; simp
theorem unquoted (s : ByteArray) (hs : s.size ≤ 2305843009213693952) (q : Int) (l : List Int) (h : bytesOf s = [q] ++ dbl q l ++ [q]) : ∃ r, Ev (fun k => spec_Unquoted.f k s q) (r, true) ∧ bytesOf r = l := by
  have hsz := bytesOf_length s
  rw [h] at hsz
  simp only [List.length_append, List.length_cons, List.length_nil] at hsz
  have m := dbl_length q l
  have hat : At (bytesOf s) 0 (q :: (dbl q l ++ [q])) := by
    have : q :: (dbl q l ++ [q]) = bytesOf s := by rw [h]; simp
    rw [this]; exact At.zero _
  have hlast : At (bytesOf s) ((s.size : Int) - 1) [q] := by
    have := (hat.tail).drop
    rwa [show (0 : Int) + 1 + (dbl q l).length = (s.size : Int) - 1 from by omega] at this
  have e0 : wrap64 ((s.size : Int) - 1) = (s.size : Int) - 1 := wrap64_id (by omega) (by omega)
  obtain ⟨r, hr, hbr⟩ := unquoted_l s hs q l 1 ⟨#[]⟩ (by simpa using hat.tail) (by show 0 + l.length ≤ _; omega)
  refine ⟨r, ?_, by rw [hbr]; rfl⟩
  unfold spec_Unquoted.f
  refine Ev.if_neg (by omega) <| Ev.if_pos (by omega) <| Ev.if_pos hat.bt ?_
  rw [e0, hlast.bt]
  refine Ev.if_pos (by omega) <| Ev.if_pos (by omega) <| Ev.step (fun k => spec_Unquoted.j0.eq_2 _ _ _ _) <| Ev.if_neg (by simp) hr

end Go.Proofs.Ytlfkejljbehcaaa.Lib
