/- What impl.Literal and spec.LiteralText tell, as plain lists. Conditions: the text's size is within the form's bound. -/
import Derived.Test.YtlfkejljbehcaabPx1
import Derived.Test.YtlfkejljbehcaabLibQuote
namespace Go.Proofs.Ytlfkejljbehcaab.Lib
open Go.RowKit Go.Proofs.Ytlfkejljbehcaab.P Go.Proofs.YtlfkejljbehcaabW.PrintWords Go.Proofs.YtlfkejljbehcaabW.PrintLast Go.Proofs.YtlfkejljbehcaabW.PrintMore

/-- A literal's bytes. -/
def litOf (l : List Int) : List Int := if 92 ∈ l then [32, 69, 39] ++ dbl 92 (dbl 39 l) ++ [39] else [39] ++ dbl 39 l ++ [39]

theorem hasByte_l (s : ByteArray) (hs : s.size ≤ 2305843009213693952) (d : Int) : ∀ (l : List Int) (i : Int), At (bytesOf s) i l → Ev (fun k => spec_HasByte.l0 k s d i) (decide (d ∈ l)) := by
  intro l
  induction l with
  | nil =>
    intro i h
    exact Ev.step (fun k => spec_HasByte.l0.eq_2 _ _ _ _) <| Ev.if_neg (by have := h.snil; omega) <| Ev.now _
  | cons c t ih =>
    intro i h
    have hb := ih (i + 1) h.tail
    have hbt := h.bt
    by_cases hc : c = d
    · subst hc
      exact Ev.to (by simp) (Ev.step (fun k => spec_HasByte.l0.eq_2 _ _ _ _) <| Ev.if_pos h.slt <| Ev.if_pos h.nonneg <| Ev.if_pos hbt <| Ev.now _)
    · refine Ev.step (fun k => spec_HasByte.l0.eq_2 _ _ _ _) <| Ev.if_pos h.slt <| Ev.if_pos h.nonneg <| Ev.if_neg (by omega) ?_
      rw [wr hs h.nonneg h.sle (by omega) (by omega)]
      exact Ev.to (by simp [Ne.symm hc]) hb
theorem hasByte (s : ByteArray) (hs : s.size ≤ 2305843009213693952) (d : Int) : Ev (fun k => spec_HasByte.f k s d) (decide (d ∈ bytesOf s)) := hasByte_l s hs d _ 0 (At.zero _)

theorem literal (s : ByteArray) (hs : s.size ≤ 140737488351232) : ∃ r, Ev (fun k => impl_Literal.f k s) r ∧ bytesOf r = litOf (bytesOf s) := by
  unfold impl_Literal.f pq_QuoteLiteral.f
  obtain ⟨r1, h1, b1⟩ := replace s (⟨#[39]⟩ : ByteArray) (⟨#[39, 39]⟩ : ByteArray) (by omega) 39 rfl rfl
  have l1 := dbl_length 39 (bytesOf s)
  have z1 : r1.size = (dbl 39 (bytesOf s)).length := piece_size b1
  rw [bytesOf_length] at l1
  have h2 := contains r1 (⟨#[92]⟩ : ByteArray) (by omega) 92 rfl
  by_cases hd : 92 ∈ bytesOf s
  · have hd1 : 92 ∈ bytesOf r1 := by rw [b1, mem_dbl]; exact hd
    obtain ⟨r2, h3, b2⟩ := replace r1 (⟨#[92]⟩ : ByteArray) (⟨#[92, 92]⟩ : ByteArray) (by omega) 92 rfl rfl
    have l2 := dbl_length 92 (bytesOf r1)
    have z2 : r2.size = (dbl 92 (bytesOf r1)).length := piece_size b2
    rw [bytesOf_length] at l2
    have z3 : ((⟨#[32, 69, 39]⟩ : ByteArray) ++ r2).size = 3 + r2.size := by rw [size_append]; rfl
    refine ⟨(⟨#[32, 69, 39]⟩ : ByteArray) ++ r2 ++ (⟨#[39]⟩ : ByteArray), Ev.bind (Ev.bind h1 <| Ev.bind h2 <| Ev.if_pos (by simpa using hd1) <| Ev.bind h3 <| Ev.if_pos (by omega) <| Ev.if_pos (by omega) <| Ev.now _) <| Ev.now _, ?_⟩
    rw [bytesOf_append, bytesOf_append, b2, b1, litOf, _root_.if_pos hd]; rfl
  · have hd1 : 92 ∉ bytesOf r1 := by rw [b1, mem_dbl]; exact hd
    have z3 : ((⟨#[39]⟩ : ByteArray) ++ r1).size = 1 + r1.size := by rw [size_append]; rfl
    refine ⟨(⟨#[39]⟩ : ByteArray) ++ r1 ++ (⟨#[39]⟩ : ByteArray), Ev.bind (Ev.bind h1 <| Ev.bind h2 <| Ev.if_neg (by simpa using hd1) <| Ev.if_pos (by omega) <| Ev.if_pos (by omega) <| Ev.now _) <| Ev.now _, ?_⟩
    rw [bytesOf_append, bytesOf_append, b1, litOf, _root_.if_neg hd]; rfl

end Go.Proofs.Ytlfkejljbehcaab.Lib
