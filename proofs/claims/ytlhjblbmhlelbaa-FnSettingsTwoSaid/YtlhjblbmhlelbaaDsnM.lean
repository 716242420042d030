/- The spec's reader of settings, as plain functions on lists. Conditions: named by each theorem. -/
import Derived.Test.YtlhjblbmhlelbaaDsnL
import Derived.Test.YtlhjblbmhlelbaaPx2
import Derived.Test.YtlhjblbmhlelbaaPx3
import Derived.Test.YtlhjblbmhlelbaaPx4
namespace Go.Proofs.Ytlhjblbmhlelbaa.P
open Go.RowKit Go.Proofs.YtlhjblbmhlelbaaW.PrintWords Go.Proofs.YtlhjblbmhlelbaaW.PrintLast Go.Proofs.YtlhjblbmhlelbaaW.PrintMore Go.Proofs.Ytlhjblbmhlelbaa.Lib
set_option linter.unusedVariables false
set_option linter.unusedSimpArgs false
theorem isBlank_ok (c : Int) : spec_isBlank.f c = some (spI c) := by
  unfold spec_isBlank.f spI
  by_cases h : c = 32 ∨ (9 ≤ c ∧ c ≤ 13)
  · rw [decide_eq_true h]
    have : c = 9 ∨ c = 10 ∨ c = 11 ∨ c = 12 ∨ c = 13 ∨ c = 32 := by omega
    rcases this with h | h | h | h | h | h <;> subst h <;> rfl
  · rw [decide_eq_false h]
    rw [if_neg (by omega), if_neg (by omega), if_neg (by omega), if_neg (by omega), if_neg (by omega)]
    have : (c == 11) = false := beq_eq_false_iff_ne.2 (by omega)
    rw [this]
theorem At.wrap {s : ByteArray} {i c : Int} {t : List Int} (hs : s.size ≤ 1000000) (h : At (bytesOf s) i (c :: t)) : wrap64 (i + 1) = i + 1 := by
  have h1 := h.slt; have h0 := h.1
  exact wrap64_id (by omega) (by omega)
theorem blanks_at (s : ByteArray) (hs : s.size ≤ 1000000) : ∀ (l : List Int) (i : Int) (k : Nat), l.length < k → At (bytesOf s) i l → ∃ i', spec_settingReader_blanks.f k s i = some (s, i') ∧ At (bytesOf s) i' (skipL l) := by
  intro l
  unfold spec_settingReader_blanks.f
  induction l with
  | nil =>
    intro i k hk h
    obtain ⟨k, rfl⟩ : ∃ m, k = m + 1 := ⟨k - 1, by simp at hk; omega⟩
    refine ⟨i, ?_, h⟩
    rw [spec_settingReader_blanks.l0, if_neg (by have := h.snil; omega)]
  | cons c t ih =>
    intro i k hk h
    simp only [List.length_cons] at hk
    obtain ⟨k, rfl⟩ : ∃ m, k = m + 1 := ⟨k - 1, by omega⟩
    rw [spec_settingReader_blanks.l0, if_pos h.slt, if_pos h.1, h.bt, isBlank_ok, Option.bind_some]
    cases hc : spI c with
    | true =>
      rw [if_pos rfl, At.wrap hs h]
      obtain ⟨i', h1, h2⟩ := ih (i + 1) k (by omega) h.tail
      exact ⟨i', h1, by unfold skipL; rw [if_pos hc]; exact h2⟩
    | false =>
      rw [if_neg (by decide)]
      exact ⟨i, rfl, by unfold skipL; rw [if_neg (by rw [hc]; decide)]; exact h⟩
section
variable {s x4 : ByteArray} {i c d : Int} {t : List Int} {q : Bool} {k : Nat}
theorem v_nil (h : At (bytesOf s) i []) : spec_settingReader_value.l0 (k + 1) x4 q s i = some (x4, !q, s, i) := by
  rw [spec_settingReader_value.l0, if_neg (by have := h.snil; omega)]
theorem v_l0 (h : At (bytesOf s) i (c :: t)) : spec_settingReader_value.l0 (k + 1) x4 q s i = spec_settingReader_value.j3 k x4 q c (q && c == 39) s i := by
  rw [spec_settingReader_value.l0, if_pos h.slt, if_pos h.1, h.bt]
  cases q <;> simp
theorem v_j3 {b : Bool} : spec_settingReader_value.j3 (k + 1) x4 q c b s i = if b = true then some (x4, true, s, wrap64 (i + 1)) else spec_settingReader_value.j4 k x4 q c (!q && spI c) s i := by
  rw [spec_settingReader_value.j3, isBlank_ok, Option.bind_some]
  cases q <;> simp
theorem v_q (hs : s.size ≤ 1000000) (h : At (bytesOf s) i (39 :: t)) : spec_settingReader_value.l0 (k + 3) x4 true s i = some (x4, true, s, i + 1) := by
  rw [v_l0 h, v_j3, if_pos (by decide), At.wrap hs h]
theorem v_b (h : At (bytesOf s) i (c :: t)) (hc : spI c = true) : spec_settingReader_value.l0 (k + 3) x4 false s i = some (x4, true, s, i) := by
  rw [v_l0 h, v_j3, if_neg (by simp), spec_settingReader_value.j4, if_pos (by simp [hc])]
theorem v_bs0 (hs : s.size ≤ 1000000) (h : At (bytesOf s) i [92]) : spec_settingReader_value.l0 (k + 3) x4 q s i = some (⟨#[]⟩, false, s, i + 1) := by
  have hw := At.wrap hs h
  have he := h.tail.snil
  rw [v_l0 h, v_j3, if_neg (by cases q <;> decide), spec_settingReader_value.j4, if_neg (by cases q <;> decide), if_pos rfl, hw, if_pos he]
theorem v_bs (hs : s.size ≤ 1000000) (hx : x4.size ≤ 1000000) (h : At (bytesOf s) i (92 :: d :: t)) :
    spec_settingReader_value.l0 (k + 3) x4 q s i = spec_settingReader_value.l0 k (x4 ++ s.extract (i + 1).toNat (i + 1 + 1).toNat) q s (i + 1 + 1) := by
  have hw := At.wrap hs h
  have hw2 := At.wrap hs h.tail
  have he := h.tail.slt
  have h0 := h.1
  have h1 := h.tail.one_size
  rw [v_l0 h, v_j3, if_neg (by cases q <;> decide), spec_settingReader_value.j4, if_neg (by cases q <;> decide), if_pos rfl, hw, hw2, if_neg (by omega), if_pos (by omega), if_pos (by omega), if_pos (by omega), if_pos (by rw [h1]; omega)]
theorem v_step (hs : s.size ≤ 1000000) (hx : x4.size ≤ 1000000) (h : At (bytesOf s) i (c :: t)) (h92 : c ≠ 92) (hq : (q && c == 39) = false) (hb : (!q && spI c) = false) :
    spec_settingReader_value.l0 (k + 3) x4 q s i = spec_settingReader_value.l0 k (x4 ++ s.extract i.toNat (i + 1).toNat) q s (i + 1) := by
  have hw := At.wrap hs h
  have he := h.slt
  have h0 := h.1
  have h1 := h.one_size
  rw [v_l0 h, v_j3, hq, hb, if_neg (by decide), spec_settingReader_value.j4, if_neg (by decide), if_neg h92, hw, if_pos (by omega), if_pos (by omega), if_pos (by omega), if_pos (by rw [h1]; omega)]
end
/-- What value tells: r is what is read behind l. -/
def VRes (s x4 : ByteArray) (i : Int) (r : Option (List Int × List Int)) (o : Option (ByteArray × Bool × ByteArray × Int)) : Prop :=
  (r = none → ∃ out i', o = some (out, false, s, i')) ∧
  (∀ v rest, r = some (v, rest) → ∃ out i' l', o = some (out, true, s, i') ∧ bytesOf out = bytesOf x4 ++ v ∧ At (bytesOf s) i' l' ∧ skipL l' = skipL rest ∧ i ≤ i')
theorem VRes.map {s x4 x5 : ByteArray} {i i2 : Int} {d : Int} {r : Option (List Int × List Int)} {o : Option (ByteArray × Bool × ByteArray × Int)} (h : VRes s x5 i2 r o) (hi : i ≤ i2) (he : bytesOf x5 = bytesOf x4 ++ [d]) : VRes s x4 i (r.map (fun r => (d :: r.1, r.2))) o := by
  refine ⟨fun e => h.1 (by cases r <;> simp at e; rfl), fun v rest e => ?_⟩
  obtain ⟨q, hq, e2⟩ := Option.map_eq_some_iff.1 e
  simp only [Prod.mk.injEq] at e2
  obtain ⟨rfl, rfl⟩ := e2
  obtain ⟨out, i', l', h1, h2, h3, h4, h5⟩ := h.2 q.1 q.2 hq
  exact ⟨out, i', l', h1, by rw [h2, he]; simp, h3, h4, by omega⟩
theorem VRes.low {s x4 : ByteArray} {i i2 : Int} {r : Option (List Int × List Int)} {o : Option (ByteArray × Bool × ByteArray × Int)} (h : VRes s x4 i2 r o) (hi : i ≤ i2) : VRes s x4 i r o :=
  ⟨h.1, fun v rest e => by
    obtain ⟨out, i', l', h1, h2, h3, h4, h5⟩ := h.2 v rest e
    exact ⟨out, i', l', h1, h2, h3, h4, by omega⟩⟩
theorem value_q (s : ByteArray) (hs : s.size ≤ 1000000) : ∀ (n : Nat) (l : List Int) (i : Int) (k : Nat) (x4 : ByteArray), l.length ≤ n → At (bytesOf s) i l → x4.size + l.length ≤ 1000000 → 3 * l.length + 1 ≤ k → VRes s x4 i (qvalL l) (spec_settingReader_value.l0 k x4 true s i) := by
  intro n
  induction n with
  | zero =>
    intro l i k x4 hn h hx hk
    obtain rfl : l = [] := List.eq_nil_of_length_eq_zero (by omega)
    obtain ⟨k, rfl⟩ : ∃ m, k = m + 1 := ⟨k - 1, by simp at hk; omega⟩
    rw [v_nil h]
    exact ⟨fun _ => ⟨_, _, rfl⟩, fun v rest e => by simp [qvalL] at e⟩
  | succ n ih =>
    intro l i k x4 hn h hx hk
    cases l with
    | nil =>
      obtain ⟨k, rfl⟩ : ∃ m, k = m + 1 := ⟨k - 1, by simp at hk; omega⟩
      rw [v_nil h]
      exact ⟨fun _ => ⟨_, _, rfl⟩, fun v rest e => by simp [qvalL] at e⟩
    | cons c t =>
      simp only [List.length_cons] at hn hx hk
      obtain ⟨k, rfl⟩ : ∃ m, k = m + 3 := ⟨k - 3, by omega⟩
      by_cases h39 : c = 39
      · subst h39
        rw [v_q hs h]
        refine ⟨fun e => by cases t <;> simp [qvalL] at e, fun v rest e => ?_⟩
        have : (v, rest) = ([], t) := by cases t <;> (simp [qvalL] at e; simp [e])
        simp only [Prod.mk.injEq] at this
        obtain ⟨rfl, rfl⟩ := this
        exact ⟨_, _, _, rfl, by simp, h.tail, rfl, by omega⟩
      · by_cases h92 : c = 92
        · subst h92
          cases t with
          | nil =>
            rw [v_bs0 hs h]
            exact ⟨fun _ => ⟨_, _, rfl⟩, fun v rest e => by simp [qvalL] at e⟩
          | cons d t =>
            simp only [List.length_cons] at hn hx hk
            have h1 := h.tail.one_size
            rw [v_bs hs (by omega) h, qvalL, if_neg h39, if_pos rfl]
            exact (ih t _ k _ (by omega) h.tail.tail (by rw [size_append, h1]; omega) (by omega)).map (by omega) (by rw [bytesOf_append, h.tail.one])
        · have h1 := h.one_size
          rw [v_step hs (by omega) h h92 (by simp [h39]) (by simp)]
          have e : qvalL (c :: t) = (qvalL t).map (fun r => (c :: r.1, r.2)) := by
            cases t with
            | nil => simp [qvalL, h39]
            | cons d t => rw [qvalL, if_neg h39, if_neg h92]
          rw [e]
          exact (ih t _ k _ (by omega) h.tail (by rw [size_append, h1]; omega) (by omega)).map (by omega) (by rw [bytesOf_append, h.one])
theorem value_u (s : ByteArray) (hs : s.size ≤ 1000000) : ∀ (n : Nat) (l : List Int) (i : Int) (k : Nat) (x4 : ByteArray), l.length ≤ n → At (bytesOf s) i l → x4.size + l.length ≤ 1000000 → 3 * l.length + 1 ≤ k → VRes s x4 i (uvalL l) (spec_settingReader_value.l0 k x4 false s i) := by
  intro n
  induction n with
  | zero =>
    intro l i k x4 hn h hx hk
    obtain rfl : l = [] := List.eq_nil_of_length_eq_zero (by omega)
    obtain ⟨k, rfl⟩ : ∃ m, k = m + 1 := ⟨k - 1, by simp at hk; omega⟩
    rw [v_nil h]
    exact ⟨fun e => by simp [uvalL] at e, fun v rest e => by simp [uvalL] at e; obtain ⟨rfl, rfl⟩ := e; exact ⟨_, _, _, rfl, by simp, h, rfl, Int.le_refl _⟩⟩
  | succ n ih =>
    intro l i k x4 hn h hx hk
    cases l with
    | nil =>
      obtain ⟨k, rfl⟩ : ∃ m, k = m + 1 := ⟨k - 1, by simp at hk; omega⟩
      rw [v_nil h]
      exact ⟨fun e => by simp [uvalL] at e, fun v rest e => by simp [uvalL] at e; obtain ⟨rfl, rfl⟩ := e; exact ⟨_, _, _, rfl, by simp, h, rfl, Int.le_refl _⟩⟩
    | cons c t =>
      simp only [List.length_cons] at hn hx hk
      obtain ⟨k, rfl⟩ : ∃ m, k = m + 3 := ⟨k - 3, by omega⟩
      by_cases hb : spI c = true
      · rw [v_b h hb]
        have e : uvalL (c :: t) = some ([], t) := by cases t <;> simp [uvalL, hb]
        rw [e]
        refine ⟨fun e => by (cases e), fun v rest e => ?_⟩
        injection e with e
        simp only [Prod.mk.injEq] at e
        obtain ⟨rfl, rfl⟩ := e
        exact ⟨_, _, _, rfl, by simp, h, by conv => lhs; unfold skipL
                                            rw [if_pos hb], Int.le_refl _⟩
      · by_cases h92 : c = 92
        · subst h92
          cases t with
          | nil =>
            rw [v_bs0 hs h]
            exact ⟨fun _ => ⟨_, _, rfl⟩, fun v rest e => by simp [uvalL, hb] at e⟩
          | cons d t =>
            simp only [List.length_cons] at hn hx hk
            have h1 := h.tail.one_size
            rw [v_bs hs (by omega) h, uvalL, if_neg hb, if_pos rfl]
            exact (ih t _ k _ (by omega) h.tail.tail (by rw [size_append, h1]; omega) (by omega)).map (by omega) (by rw [bytesOf_append, h.tail.one])
        · have h1 := h.one_size
          rw [v_step hs (by omega) h h92 (by simp) (by simp [hb])]
          have e : uvalL (c :: t) = (uvalL t).map (fun r => (c :: r.1, r.2)) := by
            cases t with
            | nil => simp [uvalL, hb, h92]
            | cons d t => rw [uvalL, if_neg hb, if_neg h92]
          rw [e]
          exact (ih t _ k _ (by omega) h.tail (by rw [size_append, h1]; omega) (by omega)).map (by omega) (by rw [bytesOf_append, h.one])
theorem value_at (s : ByteArray) (hs : s.size ≤ 1000000) (l : List Int) (i : Int) (h : At (bytesOf s) i l) : ∃ k, VRes s ⟨#[]⟩ i (valL l) (spec_settingReader_value.f k s i) := by
  have hl : l.length ≤ 1000000 := by have := h.slen; have := h.1; omega
  refine ⟨3 * l.length + 4, ?_⟩
  unfold spec_settingReader_value.f valL
  cases l with
  | nil =>
    rw [if_neg (show ¬ hd0 [] = 39 by decide), if_neg (show ¬ i < (s.size : Int) by have := h.snil; omega), spec_settingReader_value.j0, if_neg (by decide), spec_settingReader_value.j1]
    exact value_u s hs _ [] i _ _ (Nat.le_refl _) h (by simp; decide) (by simp)
  | cons c t =>
    simp only [List.length_cons] at hl
    rw [if_pos h.slt, if_pos h.1, h.bt, spec_settingReader_value.j0]
    by_cases h39 : c = 39
    · subst h39
      rw [if_pos (show hd0 (39 :: t) = 39 from rfl), if_pos (show ((39 : Int) == 39) = true from rfl), spec_settingReader_value.j1, At.wrap hs h]
      exact (value_q s hs _ t (i + 1) _ _ (Nat.le_refl _) h.tail (by show 0 + t.length ≤ _; omega) (by simp; omega)).low (by omega)
    · have e : (c == 39) = false := beq_eq_false_iff_ne.2 h39
      rw [e, if_neg (show ¬ hd0 (c :: t) = 39 from h39), if_neg (show ¬ false = true by decide), spec_settingReader_value.j1]
      exact value_u s hs _ (c :: t) i _ _ (Nat.le_refl _) h (by show 0 + (t.length + 1) ≤ _; omega) (by simp)
end Go.Proofs.Ytlhjblbmhlelbaa.P
