/- FnYes, for every text: the texts that say yes, and those that say no; others are refused (texts of at most 1000 bytes without zero bytes, by the law's own guard).
   Conditions: none beyond the form's own bound on a text's size. -/
import Derived.Test.YtlfkejljbehcaaaPx1
import Derived.Test.YtlfkejljbehcaaaLibQuote
namespace Go.Proofs.Ytlfkejljbehcaaa.Pure
open Go.RowKit Go.Proofs.Ytlfkejljbehcaaa.P Go.Proofs.YtlfkejljbehcaaaW.PrintWords Go.Proofs.YtlfkejljbehcaaaW.PrintLast Go.Proofs.YtlfkejljbehcaaaW.PrintMore Go.Proofs.Ytlfkejljbehcaaa.Lib

theorem yes_both (s : ByteArray) : ∃ r, Ev (fun k => spec_Yes.f k s) r ∧ impl_Yes.f s = some r := by
  have jt : Ev (fun k => spec_Yes.j0 k s true) (true, true) := Ev.step (fun k => spec_Yes.j0.eq_2 _ _ _) <| Ev.if_pos rfl <| Ev.now _
  unfold spec_Yes.f impl_Yes.f
  by_cases c0 : s.toList = ([49] : List UInt8)
  · exact ⟨_, Ev.if_pos c0 (by rw [beq_iff_eq.2 c0]; exact jt), by rw [_root_.if_pos c0]⟩
  by_cases c1 : s.toList = ([116] : List UInt8)
  · exact ⟨_, Ev.if_neg c0 <| Ev.if_pos c1 (by rw [beq_iff_eq.2 c1]; exact jt), by rw [_root_.if_neg c0, _root_.if_pos c1]⟩
  by_cases c2 : s.toList = ([84] : List UInt8)
  · exact ⟨_, Ev.if_neg c0 <| Ev.if_neg c1 <| Ev.if_pos c2 (by rw [beq_iff_eq.2 c2]; exact jt), by rw [_root_.if_neg c0, _root_.if_neg c1, _root_.if_pos c2]⟩
  by_cases c3 : s.toList = ([116, 114, 117, 101] : List UInt8)
  · exact ⟨_, Ev.if_neg c0 <| Ev.if_neg c1 <| Ev.if_neg c2 <| Ev.if_pos c3 (by rw [beq_iff_eq.2 c3]; exact jt), by rw [_root_.if_neg c0, _root_.if_neg c1, _root_.if_neg c2, _root_.if_pos c3]⟩
  by_cases c4 : s.toList = ([84, 82, 85, 69] : List UInt8)
  · exact ⟨_, Ev.if_neg c0 <| Ev.if_neg c1 <| Ev.if_neg c2 <| Ev.if_neg c3 <| Ev.if_pos c4 (by rw [beq_iff_eq.2 c4]; exact jt), by rw [_root_.if_neg c0, _root_.if_neg c1, _root_.if_neg c2, _root_.if_neg c3, _root_.if_pos c4]⟩
  by_cases c5 : s.toList = ([84, 114, 117, 101] : List UInt8)
  · exact ⟨_, Ev.if_neg c0 <| Ev.if_neg c1 <| Ev.if_neg c2 <| Ev.if_neg c3 <| Ev.if_neg c4 <| Ev.if_pos c5 (by rw [beq_iff_eq.2 c5]; exact jt), by rw [_root_.if_neg c0, _root_.if_neg c1, _root_.if_neg c2, _root_.if_neg c3, _root_.if_neg c4, _root_.if_pos c5]⟩
  by_cases c6 : s.toList = ([121, 101, 115] : List UInt8)
  · exact ⟨_, Ev.if_neg c0 <| Ev.if_neg c1 <| Ev.if_neg c2 <| Ev.if_neg c3 <| Ev.if_neg c4 <| Ev.if_neg c5 <| Ev.if_pos c6 (by rw [beq_iff_eq.2 c6]; exact jt), by rw [_root_.if_neg c0, _root_.if_neg c1, _root_.if_neg c2, _root_.if_neg c3, _root_.if_neg c4, _root_.if_neg c5, _root_.if_pos c6]⟩
  by_cases c7 : s.toList = ([111, 110] : List UInt8)
  · exact ⟨_, Ev.if_neg c0 <| Ev.if_neg c1 <| Ev.if_neg c2 <| Ev.if_neg c3 <| Ev.if_neg c4 <| Ev.if_neg c5 <| Ev.if_neg c6 <| (by rw [beq_iff_eq.2 c7]; exact jt), by rw [_root_.if_neg c0, _root_.if_neg c1, _root_.if_neg c2, _root_.if_neg c3, _root_.if_neg c4, _root_.if_neg c5, _root_.if_neg c6, _root_.if_pos c7]⟩
  have go : ∀ r, Ev (fun k => spec_Yes.j0 k s false) r → Ev (fun k => spec_Yes.f k s) r := by
    intro r hr
    unfold spec_Yes.f
    refine Ev.if_neg c0 <| Ev.if_neg c1 <| Ev.if_neg c2 <| Ev.if_neg c3 <| Ev.if_neg c4 <| Ev.if_neg c5 <| Ev.if_neg c6 <| ?_
    rw [beq_eq_false_iff_ne.2 c7]; exact hr
  by_cases d0 : s.toList = ([48] : List UInt8)
  · exact ⟨_, go _ <| Ev.step (fun k => spec_Yes.j0.eq_2 _ _ _) <| Ev.if_neg (by simp) <| Ev.if_pos d0 <| Ev.now _, by rw [_root_.if_neg c0, _root_.if_neg c1, _root_.if_neg c2, _root_.if_neg c3, _root_.if_neg c4, _root_.if_neg c5, _root_.if_neg c6, _root_.if_neg c7, _root_.if_pos d0]⟩
  by_cases d1 : s.toList = ([102] : List UInt8)
  · exact ⟨_, go _ <| Ev.step (fun k => spec_Yes.j0.eq_2 _ _ _) <| Ev.if_neg (by simp) <| Ev.if_neg d0 <| Ev.if_pos d1 <| Ev.now _, by rw [_root_.if_neg c0, _root_.if_neg c1, _root_.if_neg c2, _root_.if_neg c3, _root_.if_neg c4, _root_.if_neg c5, _root_.if_neg c6, _root_.if_neg c7, _root_.if_neg d0, _root_.if_pos d1]⟩
  by_cases d2 : s.toList = ([70] : List UInt8)
  · exact ⟨_, go _ <| Ev.step (fun k => spec_Yes.j0.eq_2 _ _ _) <| Ev.if_neg (by simp) <| Ev.if_neg d0 <| Ev.if_neg d1 <| Ev.if_pos d2 <| Ev.now _, by rw [_root_.if_neg c0, _root_.if_neg c1, _root_.if_neg c2, _root_.if_neg c3, _root_.if_neg c4, _root_.if_neg c5, _root_.if_neg c6, _root_.if_neg c7, _root_.if_neg d0, _root_.if_neg d1, _root_.if_pos d2]⟩
  by_cases d3 : s.toList = ([102, 97, 108, 115, 101] : List UInt8)
  · exact ⟨_, go _ <| Ev.step (fun k => spec_Yes.j0.eq_2 _ _ _) <| Ev.if_neg (by simp) <| Ev.if_neg d0 <| Ev.if_neg d1 <| Ev.if_neg d2 <| Ev.if_pos d3 <| Ev.now _, by rw [_root_.if_neg c0, _root_.if_neg c1, _root_.if_neg c2, _root_.if_neg c3, _root_.if_neg c4, _root_.if_neg c5, _root_.if_neg c6, _root_.if_neg c7, _root_.if_neg d0, _root_.if_neg d1, _root_.if_neg d2, _root_.if_pos d3]⟩
  by_cases d4 : s.toList = ([70, 65, 76, 83, 69] : List UInt8)
  · exact ⟨_, go _ <| Ev.step (fun k => spec_Yes.j0.eq_2 _ _ _) <| Ev.if_neg (by simp) <| Ev.if_neg d0 <| Ev.if_neg d1 <| Ev.if_neg d2 <| Ev.if_neg d3 <| Ev.if_pos d4 <| Ev.now _, by rw [_root_.if_neg c0, _root_.if_neg c1, _root_.if_neg c2, _root_.if_neg c3, _root_.if_neg c4, _root_.if_neg c5, _root_.if_neg c6, _root_.if_neg c7, _root_.if_neg d0, _root_.if_neg d1, _root_.if_neg d2, _root_.if_neg d3, _root_.if_pos d4]⟩
  by_cases d5 : s.toList = ([70, 97, 108, 115, 101] : List UInt8)
  · exact ⟨_, go _ <| Ev.step (fun k => spec_Yes.j0.eq_2 _ _ _) <| Ev.if_neg (by simp) <| Ev.if_neg d0 <| Ev.if_neg d1 <| Ev.if_neg d2 <| Ev.if_neg d3 <| Ev.if_neg d4 <| Ev.if_pos d5 <| Ev.now _, by rw [_root_.if_neg c0, _root_.if_neg c1, _root_.if_neg c2, _root_.if_neg c3, _root_.if_neg c4, _root_.if_neg c5, _root_.if_neg c6, _root_.if_neg c7, _root_.if_neg d0, _root_.if_neg d1, _root_.if_neg d2, _root_.if_neg d3, _root_.if_neg d4, _root_.if_pos d5]⟩
  by_cases d6 : s.toList = ([110, 111] : List UInt8)
  · exact ⟨_, go _ <| Ev.step (fun k => spec_Yes.j0.eq_2 _ _ _) <| Ev.if_neg (by simp) <| Ev.if_neg d0 <| Ev.if_neg d1 <| Ev.if_neg d2 <| Ev.if_neg d3 <| Ev.if_neg d4 <| Ev.if_neg d5 <| Ev.if_pos d6 <| Ev.now _, by rw [_root_.if_neg c0, _root_.if_neg c1, _root_.if_neg c2, _root_.if_neg c3, _root_.if_neg c4, _root_.if_neg c5, _root_.if_neg c6, _root_.if_neg c7, _root_.if_neg d0, _root_.if_neg d1, _root_.if_neg d2, _root_.if_neg d3, _root_.if_neg d4, _root_.if_neg d5, _root_.if_pos d6]⟩
  by_cases d7 : s.toList = ([111, 102, 102] : List UInt8)
  · exact ⟨_, go _ <| Ev.step (fun k => spec_Yes.j0.eq_2 _ _ _) <| Ev.if_neg (by simp) <| Ev.if_neg d0 <| Ev.if_neg d1 <| Ev.if_neg d2 <| Ev.if_neg d3 <| Ev.if_neg d4 <| Ev.if_neg d5 <| Ev.if_neg d6 <| Ev.if_pos d7 <| Ev.now _, by rw [_root_.if_neg c0, _root_.if_neg c1, _root_.if_neg c2, _root_.if_neg c3, _root_.if_neg c4, _root_.if_neg c5, _root_.if_neg c6, _root_.if_neg c7, _root_.if_neg d0, _root_.if_neg d1, _root_.if_neg d2, _root_.if_neg d3, _root_.if_neg d4, _root_.if_neg d5, _root_.if_neg d6, _root_.if_pos d7]⟩
  exact ⟨_, go _ <| Ev.step (fun k => spec_Yes.j0.eq_2 _ _ _) <| Ev.if_neg (by simp) <| Ev.if_neg d0 <| Ev.if_neg d1 <| Ev.if_neg d2 <| Ev.if_neg d3 <| Ev.if_neg d4 <| Ev.if_neg d5 <| Ev.if_neg d6 <| Ev.if_neg d7 <| Ev.now _, by rw [_root_.if_neg c0, _root_.if_neg c1, _root_.if_neg c2, _root_.if_neg c3, _root_.if_neg c4, _root_.if_neg c5, _root_.if_neg c6, _root_.if_neg c7, _root_.if_neg d0, _root_.if_neg d1, _root_.if_neg d2, _root_.if_neg d3, _root_.if_neg d4, _root_.if_neg d5, _root_.if_neg d6, _root_.if_neg d7]⟩

theorem FnYes : laws_FnYes.Pure := by
  intro s hs
  refine Ev.rounds ?_
  unfold laws_FnYes.f
  by_cases h : (s.size : Int) > 2147483647
  · exact Ev.if_pos h <| Ev.now _
  refine Ev.if_neg h <| Ev.bind (text9 s (by omega)) ?_
  by_cases ht : s.size ≤ 1000 ∧ 0 ∉ bytesOf s
  · obtain ⟨r, h1, h2⟩ := yes_both s
    have h3 : impl_Yes.f (⟨#[111, 110]⟩ : ByteArray) = some (true, true) := by decide +kernel
    refine Ev.if_pos (by simpa using ht) <| Ev.bind h1 <| Ev.bind (Ev.const h2) <| Ev.bind (Ev.const h3) <| Ev.if_pos rfl <| Ev.if_pos (by simp) ?_
    by_cases hr : r.2 = true
    · exact Ev.to (by simp) (Ev.if_pos hr <| Ev.now _)
    · exact Ev.if_neg hr <| Ev.now _
  · exact Ev.if_neg (by simpa using ht) <| Ev.now _

end Go.Proofs.Ytlfkejljbehcaaa.Pure
