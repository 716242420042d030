/- What appendArrayQuotedBytes and spec.Quoted tell, as plain lists. Conditions: sizes within the form's bound. -/
import Derived.Test.YtlfkejljbehcaaaPx2
import Derived.Test.YtlfkejljbehcaaaLib
namespace Go.Proofs.Ytlfkejljbehcaaa.Lib
open Go.RowKit Go.Proofs.Ytlfkejljbehcaaa.P Go.Proofs.YtlfkejljbehcaaaW.PrintWords Go.Proofs.YtlfkejljbehcaaaW.PrintLast Go.Proofs.YtlfkejljbehcaaaW.PrintMore

/-- A quotation mark or a backslash. -/
def isQ (c : Int) : Prop := c = 34 ∨ c = 92
instance (c : Int) : Decidable (isQ c) := by unfold isQ; infer_instance
/-- A list with a backslash ahead of quotation marks and backslashes. -/
def esc (l : List Int) : List Int := l.flatMap fun c => if isQ c then [92, c] else [c]
theorem esc_cons (c : Int) (l : List Int) : esc (c :: l) = (if isQ c then [92, c] else [c]) ++ esc l := by simp [esc]
theorem esc_append (l m : List Int) : esc (l ++ m) = esc l ++ esc m := by simp [esc]
theorem esc_none {l : List Int} (h : ∀ c ∈ l, ¬ isQ c) : esc l = l := by
  induction l with
  | nil => rfl
  | cons c t ih => rw [esc_cons, if_neg (h c (by simp)), ih (fun x hx => h x (by simp [hx]))]; rfl
theorem esc_length (l : List Int) : l.length ≤ (esc l).length ∧ (esc l).length ≤ 2 * l.length := by
  induction l with
  | nil => simp [esc]
  | cons c t ih =>
    rw [esc_cons]
    split <;> simp <;> omega
theorem esc_bytes {l : List Int} (h : ∀ c ∈ l, 0 ≤ c ∧ c ≤ 255) : ∀ c ∈ esc l, 0 ≤ c ∧ c ≤ 255 := by
  intro c hc
  unfold esc at hc
  obtain ⟨d, hd, hc⟩ := List.mem_flatMap.1 hc
  have := h d hd
  split at hc <;> simp at hc
  · rcases hc with rfl | rfl <;> omega
  · subst hc; exact this
/-- The first quotation mark or backslash, or none. -/
theorem splitQ (l : List Int) : (∀ c ∈ l, ¬ isQ c) ∨ ∃ p c t, l = p ++ c :: t ∧ (∀ x ∈ p, ¬ isQ x) ∧ isQ c := by
  induction l with
  | nil => left; simp
  | cons c t ih =>
    by_cases h : isQ c
    · right; exact ⟨[], c, t, rfl, by simp, h⟩
    · rcases ih with ih | ⟨p, d, t', e, hp, hd⟩
      · left
        intro x hx
        rcases List.mem_cons.1 hx with rfl | hx
        · exact h
        · exact ih x hx
      · right
        refine ⟨c :: p, d, t', by rw [e]; rfl, ?_, hd⟩
        intro x hx
        rcases List.mem_cons.1 hx with rfl | hx
        · exact h
        · exact hp x hx

theorem indexQ_l (xs : List Int) (hs : xs.length ≤ 2305843009213693952) : ∀ (l : List Int) (i : Int), At xs i l →
    ((∀ c ∈ l, ¬ isQ c) → Ev (fun k => pq_zzIndexQuote.l0 k xs (xs.length : Int) i) (-1)) ∧
    (∀ p c t, l = p ++ c :: t → (∀ x ∈ p, ¬ isQ x) → isQ c → Ev (fun k => pq_zzIndexQuote.l0 k xs (xs.length : Int) i) (i + p.length)) := by
  intro l
  induction l with
  | nil =>
    intro i h
    exact ⟨fun _ => Ev.step (fun k => pq_zzIndexQuote.l0.eq_2 _ _ _ _) <| Ev.if_neg (by have := h.nil; omega) <| Ev.now _, fun p c t e => by simp at e⟩
  | cons c t ih =>
    intro i h
    have hlt := h.lt
    have h0 := h.nonneg
    have hr := h.rd
    have e2 : wrap64 (i + 1) = i + 1 := wrap64_id (by omega) (by omega)
    obtain ⟨ih1, ih2⟩ := ih (i + 1) h.tail
    have no : ¬ isQ c → ∀ r, Ev (fun k => pq_zzIndexQuote.l0 k xs (xs.length : Int) (i + 1)) r → Ev (fun k => pq_zzIndexQuote.l0 k xs (xs.length : Int) i) r := by
      intro hq r hr'
      refine Ev.step (fun k => pq_zzIndexQuote.l0.eq_2 _ _ _ _) ?_
      rw [e2]
      exact Ev.if_pos hlt <| Ev.if_pos h0 <| Ev.if_pos hlt <| Ev.if_neg (fun e => hq (.inl (by omega))) <| Ev.if_neg (fun e => hq (.inr (by omega))) hr'
    constructor
    · intro hn
      exact no (hn c (by simp)) _ (ih1 (fun x hx => hn x (by simp [hx])))
    · intro p d t' e hp hd
      cases p with
      | nil =>
        simp at e
        obtain ⟨rfl, rfl⟩ := e
        refine Ev.to (r := i) (by simp) (Ev.step (fun k => pq_zzIndexQuote.l0.eq_2 _ _ _ _) <| Ev.if_pos hlt <| Ev.if_pos h0 <| Ev.if_pos hlt ?_)
        rcases hd with hd | hd
        · exact Ev.if_pos (by omega) <| Ev.now _
        · exact Ev.if_neg (by omega) <| Ev.if_pos (by omega) <| Ev.now _
      | cons c' p' =>
        simp at e
        obtain ⟨rfl, rfl⟩ := e
        refine Ev.to (by simp only [List.length_cons]; omega) (no (hp c (by simp)) _ (ih2 p' d t' rfl (fun x hx => hp x (by simp [hx])) hd))

theorem appendQ_l : ∀ (n : Nat) (x out : List Int), x.length ≤ n → out.length + 2 * x.length + 1 < 140737488355328 →
    Ev (fun k => pq_appendArrayQuotedBytes.l0 k out x) (out ++ esc x ++ [34]) := by
  intro n
  induction n with
  | zero =>
    intro x out hx hb
    obtain rfl : x = [] := List.length_eq_zero_iff.1 (by omega)
    exact Ev.to (by simp [esc]) (Ev.step (fun k => pq_appendArrayQuotedBytes.l0.eq_2 _ _ _) <| Ev.bind (show Ev (fun k => pq_zzIndexQuote.f k []) (-1) from (indexQ_l [] (by simp) _ 0 (At.zero _)).1 (by simp)) <| Ev.if_pos (by omega) <| Ev.if_pos (by omega) <| Ev.bind (Ev.now _) <| Ev.if_pos (by simp; omega) <| Ev.now _)
  | succ n ih =>
    intro x out hx hb
    have hz := indexQ_l x (by omega) x 0 (At.zero _)
    rcases splitQ x with h | ⟨p, c, t, rfl, hp, hc⟩
    · exact Ev.to (by rw [esc_none h]) (Ev.step (fun k => pq_appendArrayQuotedBytes.l0.eq_2 _ _ _) <| Ev.bind (show Ev (fun k => pq_zzIndexQuote.f k x) (-1) from hz.1 h) <| Ev.if_pos (by omega) <| Ev.if_pos (by omega) <| Ev.bind (Ev.now _) <| Ev.if_pos (by rw [List.length_append]; omega) <| Ev.now _)
    · have hl : (p ++ c :: t).length = p.length + t.length + 1 := by simp; omega
      have hi : Ev (fun k => pq_zzIndexQuote.f k (p ++ c :: t)) (p.length : Int) := Ev.to (by simp) (hz.2 p c t rfl hp hc)
      have hat : At (p ++ c :: t) (p.length : Int) (c :: t) := by
        have := (At.zero (p ++ c :: t)).drop
        rwa [show (0 : Int) + p.length = (p.length : Int) from by omega] at this
      have hrd := hat.rd
      have ew : wrap64 ((p.length : Int) + 1) = (p.length : Int) + 1 := wrap64_id (by omega) (by omega)
      have hdrop : (p ++ c :: t).drop ((p.length : Int) + 1).toNat = t := hat.tail.2.2
      have htake : (p ++ c :: t).take (p.length : Int).toNat = p := by simp
      have hout : out ++ esc (p ++ c :: t) ++ [34] = (out ++ p ++ [92, c]) ++ esc t ++ [34] := by
        rw [esc_append, esc_none hp, esc_cons, if_pos hc]; simp
      have hrec := ih t (out ++ p ++ [92, c]) (by omega) (by simp; omega)
      refine Ev.to hout.symm (Ev.step (fun k => pq_appendArrayQuotedBytes.l0.eq_2 _ _ _) <| Ev.bind hi <| Ev.if_neg (by omega) ?_)
      rw [ew, hdrop, htake, hrd]
      by_cases hp0 : p.length = 0
      · obtain rfl : p = [] := List.length_eq_zero_iff.1 hp0
        simp only [List.append_nil] at hrec ⊢
        exact Ev.if_neg (by simp) <| Ev.if_pos (by omega) <| Ev.if_pos (by omega) <| Ev.bind (Ev.now _) <| Ev.if_pos (by simp; omega) <| Ev.if_pos (by omega) <| Ev.if_pos (by omega) hrec
      · exact Ev.if_pos (by omega) <| Ev.if_pos (by omega) <| Ev.if_pos (by omega) <| Ev.bind (Ev.now _) <| Ev.if_pos (by omega) <| Ev.bind (Ev.now _) <| Ev.if_pos (by omega) <| Ev.bind (Ev.now _) <| Ev.if_pos (by simp; omega) <| Ev.if_pos (by omega) <| Ev.if_pos (by omega) hrec
/-- appendArrayQuotedBytes. -/
theorem appendQ (x out : List Int) (hb : out.length + 2 * x.length + 3 < 140737488355328) : Ev (fun k => pq_appendArrayQuotedBytes.f k out x) (out ++ [34] ++ esc x ++ [34]) := by
  unfold pq_appendArrayQuotedBytes.f
  exact Ev.if_pos (by omega) (appendQ_l x.length x (out ++ [34]) (Nat.le_refl _) (by simp; omega))

theorem quoted_l (s : ByteArray) (hs : s.size ≤ 2305843009213693952) : ∀ (l : List Int) (i : Int) (out : List Int), At (bytesOf s) i l → out.length + 2 * l.length + 1 < 140737488355328 →
    Ev (fun k => spec_Quoted.l0 k s out i) (strOfNums (out ++ esc l ++ [34])) := by
  intro l
  induction l with
  | nil =>
    intro i out h hb
    simp at hb
    exact Ev.to (by simp [esc]) (Ev.step (fun k => spec_Quoted.l0.eq_2 _ _ _ _) <| Ev.if_neg (by have := h.snil; omega) <| Ev.if_pos (by omega) <| Ev.now _)
  | cons c t ih =>
    intro i out h hb
    have hlt := h.slt
    have h0 := h.nonneg
    have hbt := h.bt
    have e2 : wrap64 (i + 1) = i + 1 := wrap64_id (by omega) (by omega)
    simp only [List.length_cons] at hb
    by_cases hc : isQ c
    · have hrec := ih (i + 1) (out ++ [92] ++ [c]) h.tail (by simp; omega)
      refine Ev.to (r := strOfNums (out ++ [92] ++ [c] ++ esc t ++ [34])) (by rw [esc_cons, if_pos hc]; simp) (Ev.step (fun k => spec_Quoted.l0.eq_2 _ _ _ _) <| Ev.if_pos hlt <| Ev.if_pos h0 ?_)
      rw [e2, hbt]
      by_cases h34 : c = 34
      · exact Ev.if_pos h34 <| Ev.if_pos (by omega) <| Ev.bind (Ev.now _) <| Ev.if_pos (by simp; omega) hrec
      · rcases hc with hc | hc
        · exact absurd hc h34
        · exact Ev.if_neg h34 <| Ev.if_pos hc <| Ev.if_pos (by omega) <| Ev.bind (Ev.now _) <| Ev.if_pos (by simp; omega) hrec
    · have hrec := ih (i + 1) (out ++ [c]) h.tail (by simp; omega)
      refine Ev.to (r := strOfNums (out ++ [c] ++ esc t ++ [34])) (by rw [esc_cons, if_neg hc]; simp) (Ev.step (fun k => spec_Quoted.l0.eq_2 _ _ _ _) <| Ev.if_pos hlt <| Ev.if_pos h0 ?_)
      rw [e2, hbt]
      exact Ev.if_neg (fun e => hc (.inl e)) <| Ev.if_neg (fun e => hc (.inr e)) <| Ev.if_pos (by omega) hrec
/-- spec.Quoted. -/
theorem specQuoted (s : ByteArray) (hs : 2 * s.size + 5 < 140737488355328) : Ev (fun k => spec_Quoted.f k s) (strOfNums ([34] ++ esc (bytesOf s) ++ [34])) :=
  quoted_l s (by omega) _ 0 [34] (At.zero _) (by rw [bytesOf_length]; simp; omega)

end Go.Proofs.Ytlfkejljbehcaaa.Lib
