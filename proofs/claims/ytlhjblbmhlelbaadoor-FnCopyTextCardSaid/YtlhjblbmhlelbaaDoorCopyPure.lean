/- spec.Copied and appendEscapedText of nil are one function on lists. Conditions: at most 2000 bytes. -/
import Derived.Test.YtlhjblbmhlelbaaDoorPc
import Derived.Test.YtlhjblbmhlelbaaDoorPa
import Derived.Test.YtlhjblbmhlelbaaDoorLib
namespace Go.Proofs.YtlhjblbmhlelbaaDoor.Lib
open Go.RowKit Go.Proofs.YtlhjblbmhlelbaaDoor.P Go.Proofs.YtlhjblbmhlelbaaDoorW.PrintWords Go.Proofs.YtlhjblbmhlelbaaDoorW.PrintLast Go.Proofs.YtlhjblbmhlelbaaDoorW.PrintMore
set_option linter.unusedVariables false
set_option linter.unusedSimpArgs false
def escB (c : Int) : List Int := if c = 92 then [92, 92] else if c = 10 then [92, 110] else if c = 13 then [92, 114] else if c = 9 then [92, 116] else [c]
def esc : List Int → List Int
  | [] => []
  | c :: t => escB c ++ esc t
theorem esc_append (a b : List Int) : esc (a ++ b) = esc a ++ esc b := by
  induction a with
  | nil => rfl
  | cons c t ih => simp only [List.cons_append, esc, ih, List.append_assoc]
theorem escB_len (c : Int) : (escB c).length ≤ 2 := by
  unfold escB; repeat' split
  all_goals simp
theorem esc_len (l : List Int) : (esc l).length ≤ 2 * l.length := by
  induction l with
  | nil => simp [esc]
  | cons c t ih => have := escB_len c; simp only [esc, List.length_append, List.length_cons]; omega
theorem esc_range {l : List Int} (h : ∀ x ∈ l, 0 ≤ x ∧ x ≤ 255) : ∀ x ∈ esc l, 0 ≤ x ∧ x ≤ 255 := by
  induction l with
  | nil => intro x hx; cases hx
  | cons c t ih =>
    intro x hx
    rcases List.mem_append.1 hx with hx | hx
    · have hc := h c (by simp)
      unfold escB at hx
      repeat' split at hx
      all_goals simp at hx
      all_goals omega
    · exact ih (fun y hy => h y (by simp [hy])) x hx
theorem cop_l0 (s : ByteArray) (hs : s.size ≤ 2000) : ∀ (t : List Int) (i : Int) (acc : List Int), At (bytesOf s) i t → acc.length + 2 * t.length ≤ 100000 → Ev (fun k => spec_Copied.l0 k s acc i) (strOfNums (acc ++ esc t)) := by
  intro t
  induction t with
  | nil =>
    intro i acc h hl
    refine Ev.step (fun k => spec_Copied.l0.eq_2 _ _ _ _) <| Ev.if_neg (by have := h.snil; omega) ?_
    simp only [esc, List.append_nil]
    exact Ev.now _
  | cons c t ih =>
    intro i acc h hl
    simp only [List.length_cons] at hl
    have hlt := h.slt
    have h0 := h.nonneg
    have hw : wrap64 (i + 1) = i + 1 := wrap64_id (by omega) (by omega)
    have ih' := fun y (hy : y.length ≤ 2) => ih (i + 1) (acc ++ y) h.tail (by rw [List.length_append]; omega)
    refine Ev.step (fun k => spec_Copied.l0.eq_2 _ _ _ _) <| Ev.if_pos hlt <| Ev.if_pos h0 ?_
    rw [h.bt, hw]
    simp only [esc, escB]
    by_cases h1 : c = 92
    · rw [if_pos h1, ← List.append_assoc]
      exact Ev.if_pos h1 <| Ev.bind (Ev.now _) <| Ev.if_pos (by simp; omega) <| ih' [92, 92] (by simp)
    rw [if_neg h1]
    refine Ev.if_neg h1 ?_
    by_cases h2 : c = 10
    · rw [if_pos h2, ← List.append_assoc]
      exact Ev.if_pos h2 <| Ev.bind (Ev.now _) <| Ev.if_pos (by simp; omega) <| ih' [92, 110] (by simp)
    rw [if_neg h2]
    refine Ev.if_neg h2 ?_
    by_cases h3 : c = 13
    · rw [if_pos h3, ← List.append_assoc]
      exact Ev.if_pos h3 <| Ev.bind (Ev.now _) <| Ev.if_pos (by simp; omega) <| ih' [92, 114] (by simp)
    rw [if_neg h3]
    refine Ev.if_neg h3 ?_
    by_cases h4 : c = 9
    · rw [if_pos h4, ← List.append_assoc]
      exact Ev.if_pos h4 <| Ev.bind (Ev.now _) <| Ev.if_pos (by simp; omega) <| ih' [92, 116] (by simp)
    rw [if_neg h4, ← List.append_assoc]
    exact Ev.if_neg h4 <| Ev.if_pos (by omega) <| ih' [c] (by simp)
theorem esc_l1 (s : ByteArray) (hs : s.size ≤ 2000) : ∀ (t : List Int) (i : Int) (acc : List Int), At (bytesOf s) i t → acc.length + 2 * t.length ≤ 100000 → Ev (fun k => pq_appendEscapedText.l1 k s acc i) (acc ++ esc t) := by
  intro t
  induction t with
  | nil =>
    intro i acc h hl
    refine Ev.step (fun k => pq_appendEscapedText.l1.eq_2 _ _ _ _) <| Ev.if_neg (by have := h.snil; omega) ?_
    simp only [esc, List.append_nil]
    exact Ev.now _
  | cons c t ih =>
    intro i acc h hl
    simp only [List.length_cons] at hl
    have hlt := h.slt
    have h0 := h.nonneg
    have hw : wrap64 (i + 1) = i + 1 := wrap64_id (by omega) (by omega)
    have ih' := fun y (hy : y.length ≤ 2) => ih (i + 1) (acc ++ y) h.tail (by rw [List.length_append]; omega)
    refine Ev.step (fun k => pq_appendEscapedText.l1.eq_2 _ _ _ _) <| Ev.if_pos hlt <| Ev.if_pos h0 ?_
    rw [h.bt, hw]
    simp only [esc, escB]
    by_cases h1 : c = 92
    · rw [if_pos h1, ← List.append_assoc]
      exact Ev.if_pos h1 <| Ev.bind (Ev.now _) <| Ev.if_pos (by simp; omega) <| ih' [92, 92] (by simp)
    rw [if_neg h1]
    refine Ev.if_neg h1 ?_
    by_cases h2 : c = 10
    · rw [if_pos h2, ← List.append_assoc]
      exact Ev.if_pos h2 <| Ev.bind (Ev.now _) <| Ev.if_pos (by simp; omega) <| ih' [92, 110] (by simp)
    rw [if_neg h2]
    refine Ev.if_neg h2 ?_
    by_cases h3 : c = 13
    · rw [if_pos h3, ← List.append_assoc]
      exact Ev.if_pos h3 <| Ev.bind (Ev.now _) <| Ev.if_pos (by simp; omega) <| ih' [92, 114] (by simp)
    rw [if_neg h3]
    refine Ev.if_neg h3 ?_
    by_cases h4 : c = 9
    · rw [if_pos h4, ← List.append_assoc]
      exact Ev.if_pos h4 <| Ev.bind (Ev.now _) <| Ev.if_pos (by simp; omega) <| ih' [92, 116] (by simp)
    rw [if_neg h4, ← List.append_assoc]
    exact Ev.if_neg h4 <| Ev.if_pos (by omega) <| ih' [c] (by simp)
theorem copied (s : ByteArray) (hs : s.size ≤ 2000) : Ev (fun k => spec_Copied.f k s) (strOfNums (esc (bytesOf s))) := by
  have h := cop_l0 s hs (bytesOf s) 0 [] (At.zero _) (by rw [bytesOf_length]; simp; omega)
  rw [List.nil_append] at h
  exact h
theorem esc_l0 (s : ByteArray) (hs : s.size ≤ 2000) : ∀ (t p : List Int), bytesOf s = p ++ t → esc p = p → Ev (fun k => pq_appendEscapedText.l0 k s false 0 (p.length : Int)) (esc (bytesOf s)) := by
  intro t
  induction t with
  | nil =>
    intro p hp he
    have hl : s.size = p.length := by rw [← bytesOf_length, hp]; simp
    refine Ev.step (fun k => pq_appendEscapedText.l0.eq_2 _ _ _ _ _) <| Ev.if_neg (by omega) ?_
    refine Ev.step (fun k => pq_appendEscapedText.j1.eq_2 _ _ _ _ _) <| Ev.if_neg (by simp) <| Ev.if_pos (by simp; omega) ?_
    have : ([] : List Int) ++ bytesOf s = esc (bytesOf s) := by rw [hp, List.append_nil, he]; rfl
    rw [this]
    exact Ev.now _
  | cons c t ih =>
    intro p hp he
    have hl : s.size = p.length + 1 + t.length := by rw [← bytesOf_length, hp]; simp; omega
    have hat : At (bytesOf s) (p.length : Int) (c :: t) := ⟨by omega, by rw [bytesOf_length]; omega, by rw [hp]; simp⟩
    have hw : wrap64 ((p.length : Int) + 1) = ((p ++ [c]).length : Int) := by rw [wrap64_id (by omega) (by omega)]; simp
    refine Ev.step (fun k => pq_appendEscapedText.l0.eq_2 _ _ _ _ _) <| Ev.if_pos (by omega) <| Ev.if_pos (by omega) ?_
    rw [hat.bt, hw]
    have hj : Ev (fun k => pq_appendEscapedText.j1 k ([] : List Int) s true (p.length : Int)) (esc (bytesOf s)) := by
      refine Ev.step (fun k => pq_appendEscapedText.j1.eq_2 _ _ _ _ _) <| Ev.if_pos rfl <| Ev.if_pos (by omega) <| Ev.if_pos (by omega) <| Ev.if_pos (by simp; omega) ?_
      have hx : ([] : List Int) ++ bytesOf (s.extract 0 (p.length : Int).toNat) = p := by
        rw [List.nil_append, bytesOf_extract, hp, List.drop_zero, Int.toNat_natCast, List.take_left]
      rw [hx]
      have h := esc_l1 s hs (c :: t) (p.length : Int) p hat (by simp only [List.length_cons]; omega)
      have e : p ++ esc (c :: t) = esc (bytesOf s) := by rw [hp, esc_append, he]
      rw [e] at h
      exact h
    by_cases h1 : c = 92
    · exact Ev.if_pos h1 hj
    refine Ev.if_neg h1 ?_
    by_cases h2 : c = 10
    · exact Ev.if_pos h2 hj
    refine Ev.if_neg h2 ?_
    by_cases h3 : c = 13
    · exact Ev.if_pos h3 hj
    refine Ev.if_neg h3 ?_
    by_cases h4 : c = 9
    · exact Ev.if_pos h4 hj
    refine Ev.if_neg h4 ?_
    refine ih (p ++ [c]) (by rw [hp]; simp) ?_
    rw [esc_append, he]
    simp only [esc, escB, if_neg h1, if_neg h2, if_neg h3, if_neg h4, List.append_nil]
theorem escaped (s : ByteArray) (hs : s.size ≤ 2000) : Ev (fun k => pq_appendEscapedText.f k [] s) (esc (bytesOf s)) := esc_l0 s hs (bytesOf s) [] rfl rfl
end Go.Proofs.YtlhjblbmhlelbaaDoor.Lib
