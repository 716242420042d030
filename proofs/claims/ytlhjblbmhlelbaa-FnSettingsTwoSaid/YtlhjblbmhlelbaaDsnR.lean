/- Two connection strings, one behind the other, as lists. Conditions: named by each theorem. -/
import Derived.Test.YtlhjblbmhlelbaaDsnQ
import Derived.Test.YtlhjblbmhlelbaaPx5
namespace Go.Proofs.Ytlhjblbmhlelbaa.P
open Go.RowKit Go.Proofs.YtlhjblbmhlelbaaW.PrintWords Go.Proofs.YtlhjblbmhlelbaaW.PrintLast Go.Proofs.YtlhjblbmhlelbaaW.PrintMore Go.Proofs.Ytlhjblbmhlelbaa.Lib
set_option linter.unusedVariables false
set_option linter.unusedSimpArgs false
/-- The text ends with an equals sign, and white space. -/
def EO (l : List Int) : Prop := ∃ p q, l = p ++ 61 :: q ∧ ∀ c ∈ q, spI c = true
theorem EO.suf {p l : List Int} (h : EO l) : EO (p ++ l) := by
  obtain ⟨a, q, rfl, hq⟩ := h
  exact ⟨p ++ a, q, by simp, hq⟩
theorem skipL_all : ∀ {l : List Int}, skipL l = [] → ∀ c ∈ l, spI c = true
  | [], _, c, hc => by cases hc
  | d :: t, h, c, hc => by
    by_cases hd : spI d = true
    · have e : skipL (d :: t) = skipL t := by conv => lhs; unfold skipL
                                              rw [if_pos hd]
      rcases List.mem_cons.1 hc with rfl | hc
      · exact hd
      · exact skipL_all (by rw [← e]; exact h) c hc
    · have e : skipL (d :: t) = d :: t := by conv => lhs; unfold skipL
                                             rw [if_neg hd]
      rw [e] at h; cases h
theorem skipL_app : ∀ {l : List Int} (s : List Int), skipL l ≠ [] → skipL (l ++ s) = skipL l ++ s
  | [], s, h => absurd rfl h
  | d :: t, s, h => by
    by_cases hd : spI d = true
    · have e : ∀ u, skipL (d :: u) = skipL u := fun u => by conv => lhs; unfold skipL
                                                            rw [if_pos hd]
      rw [List.cons_append, e, e]
      exact skipL_app s (by rw [← e]; exact h)
    · have e : ∀ u, skipL (d :: u) = d :: u := fun u => by conv => lhs; unfold skipL
                                                           rw [if_neg hd]
      rw [List.cons_append, e, e]
      rfl
theorem skipL_app0 : ∀ {l : List Int} (s : List Int), skipL l = [] → skipL (l ++ s) = skipL s
  | [], s, _ => rfl
  | d :: t, s, h => by
    have hd : spI d = true := skipL_all h d (by simp)
    have e : ∀ u, skipL (d :: u) = skipL u := fun u => by conv => lhs; unfold skipL
                                                          rw [if_pos hd]
    rw [List.cons_append, e]
    exact skipL_app0 s (by rw [← e]; exact h)
theorem keyL_app : ∀ {l : List Int} (s : List Int), (keyL l).2 ≠ [] → keyL (l ++ s) = ((keyL l).1, (keyL l).2 ++ s)
  | [], s, h => absurd rfl h
  | c :: t, s, h => by
    by_cases hc : spI c = true ∨ c = 61
    · have e : ∀ u, keyL (c :: u) = ([], c :: u) := fun u => by rw [keyL, if_pos hc]
      rw [List.cons_append, e, e]; rfl
    · have e : ∀ u, keyL (c :: u) = (c :: (keyL u).1, (keyL u).2) := fun u => by rw [keyL, if_neg hc]
      rw [e] at h
      rw [List.cons_append, e, e, keyL_app s h]
theorem q_app (s : List Int) : ∀ (n : Nat) (l v r : List Int), l.length ≤ n → qvalL l = some (v, r) → qvalL (l ++ s) = some (v, r ++ s) := by
  intro n
  induction n with
  | zero =>
    intro l v r hn h
    obtain rfl : l = [] := List.eq_nil_of_length_eq_zero (by omega)
    simp [qvalL] at h
  | succ n ih =>
    intro l v r hn h
    cases l with
    | nil => simp [qvalL] at h
    | cons c t =>
      simp only [List.length_cons] at hn
      have e39 : ∀ u, qvalL (39 :: u) = some ([], u) := fun u => by cases u <;> simp [qvalL]
      have ego : ∀ d, d ≠ 39 → d ≠ 92 → ∀ u, qvalL (d :: u) = (qvalL u).map (fun r => (d :: r.1, r.2)) := fun d h1 h2 u => by cases u <;> simp [qvalL, h1, h2]
      by_cases h39 : c = 39
      · subst h39
        rw [e39] at h
        injection h with h
        simp only [Prod.mk.injEq] at h
        obtain ⟨rfl, rfl⟩ := h
        rw [List.cons_append, e39]
      · by_cases h92 : c = 92
        · subst h92
          cases t with
          | nil => simp [qvalL] at h
          | cons d t =>
            simp only [List.length_cons] at hn
            rw [qvalL, if_neg h39, if_pos rfl] at h
            obtain ⟨q, hq, e⟩ := Option.map_eq_some_iff.1 h
            simp only [Prod.mk.injEq] at e
            obtain ⟨rfl, rfl⟩ := e
            rw [List.cons_append, List.cons_append, qvalL, if_neg h39, if_pos rfl, ih t q.1 q.2 (by omega) hq]
            rfl
        · rw [ego c h39 h92] at h
          obtain ⟨q, hq, e⟩ := Option.map_eq_some_iff.1 h
          simp only [Prod.mk.injEq] at e
          obtain ⟨rfl, rfl⟩ := e
          rw [List.cons_append, ego c h39 h92, ih t q.1 q.2 (by omega) hq]
          rfl
theorem u_app (b : List Int) : ∀ (n : Nat) (l v r : List Int), l.length ≤ n → uvalL l = some (v, r) → ∃ r', uvalL (l ++ 32 :: b) = some (v, r') ∧ skipL r' = skipL (r ++ 32 :: b) := by
  have esp : ∀ d, spI d = true → ∀ u, uvalL (d :: u) = some ([], u) := fun d h1 u => by cases u <;> simp [uvalL, h1]
  have ego : ∀ d, ¬ spI d = true → d ≠ 92 → ∀ u, uvalL (d :: u) = (uvalL u).map (fun r => (d :: r.1, r.2)) := fun d h1 h2 u => by cases u <;> simp [uvalL, h1, h2]
  have e0 : ∃ r', uvalL ([] ++ 32 :: b) = some ([], r') ∧ skipL r' = skipL ([] ++ 32 :: b) := ⟨b, esp 32 rfl b, rfl⟩
  intro n
  induction n with
  | zero =>
    intro l v r hn h
    obtain rfl : l = [] := List.eq_nil_of_length_eq_zero (by omega)
    simp [uvalL] at h
    obtain ⟨rfl, rfl⟩ := h
    exact e0
  | succ n ih =>
    intro l v r hn h
    cases l with
    | nil =>
      simp [uvalL] at h
      obtain ⟨rfl, rfl⟩ := h
      exact e0
    | cons c t =>
      simp only [List.length_cons] at hn
      by_cases hc : spI c = true
      · rw [esp c hc] at h
        injection h with h
        simp only [Prod.mk.injEq] at h
        obtain ⟨rfl, rfl⟩ := h
        exact ⟨_, by rw [List.cons_append, esp c hc], rfl⟩
      · by_cases h92 : c = 92
        · subst h92
          cases t with
          | nil => simp [uvalL, hc] at h
          | cons d t =>
            simp only [List.length_cons] at hn
            rw [uvalL, if_neg hc, if_pos rfl] at h
            obtain ⟨q, hq, e⟩ := Option.map_eq_some_iff.1 h
            simp only [Prod.mk.injEq] at e
            obtain ⟨rfl, rfl⟩ := e
            obtain ⟨r', h1, h2⟩ := ih t q.1 q.2 (by omega) hq
            exact ⟨r', by rw [List.cons_append, List.cons_append, uvalL, if_neg hc, if_pos rfl, h1]; rfl, h2⟩
        · rw [ego c hc h92] at h
          obtain ⟨q, hq, e⟩ := Option.map_eq_some_iff.1 h
          simp only [Prod.mk.injEq] at e
          obtain ⟨rfl, rfl⟩ := e
          obtain ⟨r', h1, h2⟩ := ih t q.1 q.2 (by omega) hq
          exact ⟨r', by rw [List.cons_append, ego c hc h92, h1]; rfl, h2⟩
theorem val_app (b : List Int) {l v r : List Int} (hl : l ≠ []) (h : valL l = some (v, r)) : ∃ r', valL (l ++ 32 :: b) = some (v, r') ∧ skipL r' = skipL (r ++ 32 :: b) := by
  cases l with
  | nil => exact absurd rfl hl
  | cons c t =>
    unfold valL at h ⊢
    by_cases h39 : c = 39
    · subst h39
      rw [if_pos (show hd0 (39 :: t) = 39 from rfl)] at h
      rw [if_pos (show hd0 (39 :: t ++ 32 :: b) = 39 from rfl)]
      exact ⟨_, q_app (32 :: b) _ t v r (Nat.le_refl _) h, rfl⟩
    · rw [if_neg (show ¬ hd0 (c :: t) = 39 from h39)] at h
      rw [if_neg (show ¬ hd0 (c :: t ++ 32 :: b) = 39 from h39)]
      exact u_app b _ (c :: t) v r (Nat.le_refl _) h
theorem u_suf : ∀ (n : Nat) (l v r : List Int), l.length ≤ n → uvalL l = some (v, r) → ∃ p, l = p ++ r := by
  have esp : ∀ d, spI d = true → ∀ u, uvalL (d :: u) = some ([], u) := fun d h1 u => by cases u <;> simp [uvalL, h1]
  have ego : ∀ d, ¬ spI d = true → d ≠ 92 → ∀ u, uvalL (d :: u) = (uvalL u).map (fun r => (d :: r.1, r.2)) := fun d h1 h2 u => by cases u <;> simp [uvalL, h1, h2]
  intro n
  induction n with
  | zero =>
    intro l v r hn h
    obtain rfl : l = [] := List.eq_nil_of_length_eq_zero (by omega)
    simp [uvalL] at h
    exact ⟨[], by rw [h.2]; rfl⟩
  | succ n ih =>
    intro l v r hn h
    cases l with
    | nil => simp [uvalL] at h; exact ⟨[], by rw [h.2]; rfl⟩
    | cons c t =>
      simp only [List.length_cons] at hn
      by_cases hc : spI c = true
      · rw [esp c hc] at h
        injection h with h
        simp only [Prod.mk.injEq] at h
        exact ⟨[c], by rw [h.2]; rfl⟩
      · by_cases h92 : c = 92
        · subst h92
          cases t with
          | nil => simp [uvalL, hc] at h
          | cons d t =>
            simp only [List.length_cons] at hn
            rw [uvalL, if_neg hc, if_pos rfl] at h
            obtain ⟨q, hq, e⟩ := Option.map_eq_some_iff.1 h
            simp only [Prod.mk.injEq] at e
            obtain ⟨rfl, rfl⟩ := e
            obtain ⟨p, hp⟩ := ih t q.1 q.2 (by omega) hq
            exact ⟨92 :: d :: p, by rw [List.cons_append, List.cons_append, ← hp]⟩
        · rw [ego c hc h92] at h
          obtain ⟨q, hq, e⟩ := Option.map_eq_some_iff.1 h
          simp only [Prod.mk.injEq] at e
          obtain ⟨rfl, rfl⟩ := e
          obtain ⟨p, hp⟩ := ih t q.1 q.2 (by omega) hq
          exact ⟨c :: p, by rw [List.cons_append, ← hp]⟩
theorem q_suf : ∀ (n : Nat) (l v r : List Int), l.length ≤ n → qvalL l = some (v, r) → ∃ p, l = p ++ r := by
  intro n
  induction n with
  | zero =>
    intro l v r hn h
    obtain rfl : l = [] := List.eq_nil_of_length_eq_zero (by omega)
    simp [qvalL] at h
  | succ n ih =>
    intro l v r hn h
    have e39 : ∀ u, qvalL (39 :: u) = some ([], u) := fun u => by cases u <;> simp [qvalL]
    have ego : ∀ d, d ≠ 39 → d ≠ 92 → ∀ u, qvalL (d :: u) = (qvalL u).map (fun r => (d :: r.1, r.2)) := fun d h1 h2 u => by cases u <;> simp [qvalL, h1, h2]
    cases l with
    | nil => simp [qvalL] at h
    | cons c t =>
      simp only [List.length_cons] at hn
      by_cases h39 : c = 39
      · subst h39
        rw [e39] at h
        injection h with h
        simp only [Prod.mk.injEq] at h
        exact ⟨[39], by rw [h.2]; rfl⟩
      · by_cases h92 : c = 92
        · subst h92
          cases t with
          | nil => simp [qvalL] at h
          | cons d t =>
            simp only [List.length_cons] at hn
            rw [qvalL, if_neg h39, if_pos rfl] at h
            obtain ⟨q, hq, e⟩ := Option.map_eq_some_iff.1 h
            simp only [Prod.mk.injEq] at e
            obtain ⟨rfl, rfl⟩ := e
            obtain ⟨p, hp⟩ := ih t q.1 q.2 (by omega) hq
            exact ⟨92 :: d :: p, by rw [List.cons_append, List.cons_append, ← hp]⟩
        · rw [ego c h39 h92] at h
          obtain ⟨q, hq, e⟩ := Option.map_eq_some_iff.1 h
          simp only [Prod.mk.injEq] at e
          obtain ⟨rfl, rfl⟩ := e
          obtain ⟨p, hp⟩ := ih t q.1 q.2 (by omega) hq
          exact ⟨c :: p, by rw [List.cons_append, ← hp]⟩
theorem val_suf {l v r : List Int} (h : valL l = some (v, r)) : ∃ p, l = p ++ r := by
  unfold valL at h
  split at h
  · obtain ⟨p, hp⟩ := q_suf _ l.tail v r (Nat.le_refl _) h
    cases l with
    | nil => exact ⟨p, hp⟩
    | cons c t => exact ⟨c :: p, by rw [List.cons_append, ← hp]; rfl⟩
  · exact u_suf _ l v r (Nat.le_refl _) h
theorem ne_of {l : List Int} (h : l ≠ []) : ne l = true := by cases l with
  | nil => exact absurd rfl h
  | cons c t => rfl
theorem eo_of {l : List Int} (h61 : hd0 (skipL (keyL (skipL l)).2) = 61) (h4 : skipL (skipL (keyL (skipL l)).2).tail = []) : EO l := by
  obtain ⟨p1, e1⟩ := skipL_sub l
  have e2 := keyL_sub (skipL l)
  obtain ⟨p3, e3⟩ := skipL_sub (keyL (skipL l)).2
  cases h7 : skipL (keyL (skipL l)).2 with
  | nil => rw [h7] at h61; cases h61
  | cons c t =>
    rw [h7] at h61 h4 e3
    have hc : c = 61 := h61
    subst hc
    refine ⟨p1 ++ ((keyL (skipL l)).1 ++ p3), t, ?_, skipL_all h4⟩
    conv => lhs; rw [e1, e2, e3]
    simp only [List.append_assoc]
theorem parse_mono : ∀ (n : Nat) (l : List Int) (A : List (List Int × List Int)), parseL n l = some A → parseL (n + 1) l = some A
  | 0, l, A, h => by cases h
  | n + 1, l, A, h => by
    unfold parseL at h ⊢
    split at h
    · rename_i h1; rw [if_pos h1]; exact h
    · rename_i h1
      rw [if_neg h1]
      split at h
      · rename_i h2
        rw [if_pos h2]
        split at h
        · rename_i h3; rw [if_pos h3]; exact h
        · rename_i h3
          rw [if_neg h3]
          obtain ⟨v, hv, h4⟩ := Option.bind_eq_some_iff.1 h
          obtain ⟨r, h5, rfl⟩ := Option.map_eq_some_iff.1 h4
          rw [hv, Option.bind_some, parse_mono n _ _ h5]
          rfl
      · cases h
theorem parse_up {n : Nat} {l : List Int} {A : List (List Int × List Int)} (h : parseL n l = some A) : ∀ m, n ≤ m → parseL m l = some A := by
  intro m hm
  induction m with
  | zero => obtain rfl : n = 0 := by omega
            exact h
  | succ m ih =>
    by_cases e : n = m + 1
    · subst e; exact h
    · exact parse_mono _ _ _ (ih (by omega))
theorem parse_yes1 (n : Nat) {l l1 : List Int} (h1 : skipL l = l1) (hn : l1 ≠ []) (h : hd0 (skipL (keyL l1).2) = 61) (h4 : skipL (skipL (keyL l1).2).tail ≠ []) :
    parseL (n + 1) l = (valL (skipL (skipL (keyL l1).2).tail)).bind fun v => (parseL n v.2).map (fun r => ((keyL l1).1, v.1) :: r) := by
  conv => lhs; unfold parseL
  rw [h1, ne_of hn, if_neg (by decide), eqL_skip, if_pos h, ne_of h4, if_neg (by decide)]
/-- Behind a text that is read, another one. -/
theorem parse_app {b : List Int} {m : Nat} {B : List (List Int × List Int)} (hB : parseL (m + 1) b = some B) : ∀ (n : Nat) (l : List Int) (A : List (List Int × List Int)), parseL (n + 1) l = some A → ¬ EO l → parseL (n + m + 1) (l ++ 32 :: b) = some (A ++ B) := by
  have hsb : skipL (32 :: b) = skipL b := by conv => lhs; unfold skipL
                                             rw [if_pos (show spI 32 = true from rfl)]
  intro n
  induction n with
  | zero =>
    intro l A h he
    by_cases h1 : skipL l = []
    · rw [parse_nil 0 h1] at h
      injection h with h
      subst h
      rw [parse_skip _ (by rw [skipL_app0 _ h1, hsb] : skipL (l ++ 32 :: b) = skipL b)]
      exact parse_up hB _ (by omega)
    · by_cases h61 : hd0 (skipL (keyL (skipL l)).2) = 61
      · by_cases h4 : skipL (skipL (keyL (skipL l)).2).tail = []
        · exact absurd (eo_of h61 h4) he
        · rw [parse_yes1 0 rfl h1 h61 h4] at h
          obtain ⟨v, _, h5⟩ := Option.bind_eq_some_iff.1 h
          cases h5
      · rw [parse_no 0 rfl (ne_of h1) h61] at h
        cases h
  | succ n ih =>
    intro l A h he
    by_cases h1 : skipL l = []
    · rw [parse_nil _ h1] at h
      injection h with h
      subst h
      rw [parse_skip _ (by rw [skipL_app0 _ h1, hsb] : skipL (l ++ 32 :: b) = skipL b)]
      exact parse_up hB _ (by omega)
    · by_cases h61 : hd0 (skipL (keyL (skipL l)).2) = 61
      · by_cases h4 : skipL (skipL (keyL (skipL l)).2).tail = []
        · exact absurd (eo_of h61 h4) he
        · rw [parse_yes1 _ rfl h1 h61 h4] at h
          obtain ⟨⟨v, r⟩, hv, h5⟩ := Option.bind_eq_some_iff.1 h
          obtain ⟨A', h6, rfl⟩ := Option.map_eq_some_iff.1 h5
          have hsuf : ∃ p, l = p ++ r := by
            obtain ⟨p1, e1⟩ := skipL_sub l
            have e2 := keyL_sub (skipL l)
            obtain ⟨p3, e3⟩ := skipL_sub (keyL (skipL l)).2
            obtain ⟨p5, e5⟩ := skipL_sub (skipL (keyL (skipL l)).2).tail
            obtain ⟨p6, e6⟩ := val_suf hv
            have e4 : ∃ p4, skipL (keyL (skipL l)).2 = p4 ++ (skipL (keyL (skipL l)).2).tail := by
              cases skipL (keyL (skipL l)).2 with
              | nil => exact ⟨[], rfl⟩
              | cons c t => exact ⟨[c], rfl⟩
            obtain ⟨p4, e4⟩ := e4
            refine ⟨p1 ++ ((keyL (skipL l)).1 ++ (p3 ++ (p4 ++ (p5 ++ p6)))), ?_⟩
            conv => lhs; rw [e1, e2, e3, e4, e5, e6]
            simp only [List.append_assoc]
          have her : ¬ EO r := fun hr => he (by obtain ⟨p, hp⟩ := hsuf; rw [hp]; exact hr.suf)
          have hI := ih r A' h6 her
          have hk2 : (keyL (skipL l)).2 ≠ [] := fun e => by rw [e] at h61; cases h61
          have hk3 : skipL (keyL (skipL l)).2 ≠ [] := fun e => by rw [e] at h61; cases h61
          have hs1 : skipL (l ++ 32 :: b) = skipL l ++ 32 :: b := skipL_app _ h1
          have hkk := keyL_app (32 :: b) hk2
          have hs3 := skipL_app (32 :: b) hk3
          have ht : (skipL (keyL (skipL l)).2 ++ 32 :: b).tail = (skipL (keyL (skipL l)).2).tail ++ 32 :: b := by
            cases h7 : skipL (keyL (skipL l)).2 with
            | nil => exact absurd h7 hk3
            | cons c t => rfl
          have hh : hd0 (skipL (keyL (skipL l)).2 ++ 32 :: b) = 61 := by
            cases h7 : skipL (keyL (skipL l)).2 with
            | nil => exact absurd h7 hk3
            | cons c t => rw [h7] at h61; exact h61
          have hs4 := skipL_app (32 :: b) h4
          obtain ⟨r', hv', hr'⟩ := val_app b h4 hv
          have hy := parse_yes1 (n + m + 1) hs1 (by simp) (by rw [hkk]; show hd0 (skipL _) = 61; rw [hs3]; exact hh) (by rw [hkk]; show skipL (skipL _).tail ≠ []; rw [hs3, ht, hs4]; simp)
          rw [show n + 1 + m + 1 = n + m + 1 + 1 by omega, hy, hkk]
          show Option.bind (valL (skipL (skipL ((keyL (skipL l)).2 ++ 32 :: b)).tail)) _ = _
          rw [hs3, ht, hs4, hv', Option.bind_some]
          show Option.map _ (parseL (n + m + 1) r') = _
          rw [parse_skip _ hr', hI]
          rfl
      · rw [parse_no _ rfl (ne_of h1) h61] at h
        cases h
end Go.Proofs.Ytlhjblbmhlelbaa.P
