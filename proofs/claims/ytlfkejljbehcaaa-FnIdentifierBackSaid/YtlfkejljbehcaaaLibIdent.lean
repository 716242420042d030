/- What impl.Identifier and spec.Identifier tell, and that spec.UTF8 answers, as plain lists. Conditions: the text's size is within the form's bound. -/
import Derived.Test.YtlfkejljbehcaaaPx3
import Derived.Test.YtlfkejljbehcaaaPx2
import Derived.Test.YtlfkejljbehcaaaLibQuote
import Derived.Laws.RangeAny
namespace Go.Proofs.Ytlfkejljbehcaaa.Lib
open Go.RowKit Go.Proofs.Ytlfkejljbehcaaa.P Go.Proofs.YtlfkejljbehcaaaW.PrintWords Go.Proofs.YtlfkejljbehcaaaW.PrintLast Go.Proofs.YtlfkejljbehcaaaW.PrintMore

/-- A list up to its first zero. -/
def upTo (l : List Int) : List Int := l.takeWhile (· ≠ 0)

theorem get_bt (s : ByteArray) (pos : Nat) (h : pos < s.size) : ((s[pos]'h).toNat : Int) = bt s pos := by
  unfold bt
  rw [dif_pos (by omega)]; rfl

/-- What a place of a text decodes as: nought for a zero byte alone; no less than one byte, and no zero byte within. -/
theorem decode_step (s : ByteArray) (pos : Nat) (h : pos < s.size) :
    (bt s pos = 0 → (Utf8.decode s pos).1 = 0) ∧ (bt s pos ≠ 0 → (Utf8.decode s pos).1 ≠ 0) ∧ 1 ≤ (Utf8.decode s pos).2 ∧ (∀ j : Nat, pos < j → j < pos + (Utf8.decode s pos).2 → j < s.size → bt s j ≠ 0) := by
  have hg := get_bt s pos h
  by_cases ha : (s[pos]'h).toNat < 128
  · rw [decode_ascii s pos h ha]
    exact ⟨fun e => by simp only; omega, fun e => by simp only; omega, Nat.le_refl _, fun j h1 h2 => by simp only at h2; omega⟩
  · have hd := decode_high s pos h (by omega)
    refine ⟨fun e => by omega, fun _ => by omega, hd.2, ?_⟩
    intro j h1 h2 h3 hz
    -- the bytes behind the first one are of 128 and more
    have hj := get_bt s j h3
    have key : ∀ k, 0 < k → k < (Utf8.decode s pos).2 → 128 ≤ (s.get! (pos + k)).toNat := by
      intro k hk0 hk
      simp only [Utf8.decode] at hk
      repeat' split at hk
      all_goals (try (simp only at hk; omega))
      all_goals rename_i hc _
      all_goals simp only [Bool.and_eq_true, decide_eq_true_eq, beq_iff_eq] at hc
      all_goals simp only at hk
      · obtain rfl : k = 1 := by omega
        omega
      · rcases (show k = 1 ∨ k = 2 by omega) with rfl | rfl <;> omega
      · rcases (show k = 1 ∨ k = 2 ∨ k = 3 by omega) with rfl | rfl | rfl <;> omega
    have := key (j - pos) (by omega) (by omega)
    rw [show pos + (j - pos) = j from by omega] at this
    have e : s.get! j = s[j]'h3 := by have := get_at s j h3; simpa using this
    rw [e] at this
    omega


theorem upTo_nil : upTo [] = [] := rfl
theorem upTo_none {l : List Int} (h : 0 ∉ l) : upTo l = l := by
  induction l with
  | nil => rfl
  | cons c p ih =>
    have hc : c ≠ 0 := fun e => h (by simp [e])
    have hp : 0 ∉ p := fun e => h (by simp [e])
    have := ih hp
    unfold upTo at this ⊢
    rw [List.takeWhile_cons, if_pos (by simpa using hc), this]
theorem upTo_at {p t : List Int} (h : 0 ∉ p) : upTo (p ++ 0 :: t) = p := by
  induction p with
  | nil => simp [upTo]
  | cons c p ih =>
    have hc : c ≠ 0 := fun e => h (by simp [e])
    have hp : 0 ∉ p := fun e => h (by simp [e])
    have := ih hp
    unfold upTo at this ⊢
    rw [List.cons_append, List.takeWhile_cons, if_pos (by simpa using hc), this]

/-- zzIndexRune at the zero byte. -/
theorem indexRune_l (s : ByteArray) : ∀ (n : Nat) (l : List Int) (pos : Nat), l.length ≤ n → At (bytesOf s) (pos : Int) l →
    (0 ∉ l → Ev (fun k => pq_zzIndexRune.l0 k s 0 pos) (-1)) ∧ (∀ p t, l = p ++ 0 :: t → 0 ∉ p → Ev (fun k => pq_zzIndexRune.l0 k s 0 pos) ((pos : Int) + p.length)) := by
  intro n
  induction n with
  | zero =>
    intro l pos hn h
    obtain rfl : l = [] := List.length_eq_zero_iff.1 (by omega)
    exact ⟨fun _ => Ev.step (fun k => pq_zzIndexRune.l0.eq_2 _ _ _ _) <| Ev.if_neg (by have := h.snil; omega) <| Ev.now _, fun p t e => by simp at e⟩
  | succ n ih =>
    intro l pos hn h
    cases l with
    | nil => exact ⟨fun _ => Ev.step (fun k => pq_zzIndexRune.l0.eq_2 _ _ _ _) <| Ev.if_neg (by have := h.snil; omega) <| Ev.now _, fun p t e => by simp at e⟩
    | cons c t =>
      have hlt : pos < s.size := by have := h.slt; omega
      have hbt := h.bt
      have hlen := h.slen
      obtain ⟨d1, d2, d3, d4⟩ := decode_step s pos hlt
      by_cases hc : c = 0
      · subst hc
        have hz := d1 hbt
        have hit : Ev (fun k => pq_zzIndexRune.l0 k s 0 pos) (pos : Int) :=
          Ev.step (fun k => pq_zzIndexRune.l0.eq_2 _ _ _ _) <| Ev.if_pos hlt <| Ev.if_pos (by omega) <| Ev.now _
        refine ⟨fun hn => absurd (by simp) hn, fun p t' e hp => ?_⟩
        cases p with
        | nil => exact Ev.to (by simp) hit
        | cons c' p' => simp at e; exact absurd (by simp [e.1]) hp
      · have hz := d2 (by omega)
        have step : ∀ x, Ev (fun k => pq_zzIndexRune.l0 k s 0 (pos + (Utf8.decode s pos).2)) x → Ev (fun k => pq_zzIndexRune.l0 k s 0 pos) x := fun x hx =>
          Ev.step (fun k => pq_zzIndexRune.l0.eq_2 _ _ _ _) <| Ev.if_pos hlt <| Ev.if_neg (by omega) hx
        -- the places that are passed over hold no zero byte
        generalize (Utf8.decode s pos).2 = m at *
        have hm : ∃ q r, c :: t = q ++ r ∧ 0 ∉ q ∧ 0 < q.length ∧ (r ≠ [] → q.length = m) ∧ q.length ≤ m := by
          refine ⟨(c :: t).take m, (c :: t).drop m, (List.take_append_drop _ _).symm, ?_, by simp; omega, fun hr => ?_, by rw [List.length_take]; omega⟩
          · intro hmem
            obtain ⟨j, hj1, hj2⟩ := List.mem_iff_getElem.1 hmem
            rw [List.length_take] at hj1
            simp only [List.getElem_take] at hj2
            by_cases hj0 : j = 0
            · subst hj0; exact hc (by simpa using hj2)
            · have hb := d4 (pos + j) (by omega) (by omega) (by omega)
              refine hb ?_
              have hat : At (bytesOf s) ((pos : Int) + j) ((c :: t).drop j) := by
                have h5 : c :: t = (c :: t).take j ++ (c :: t).drop j := (List.take_append_drop _ _).symm
                rw [h5] at h
                have h6 := h.drop
                rwa [List.length_take, show min j (c :: t).length = j from by omega] at h6
              rw [List.drop_eq_getElem_cons (by omega)] at hat
              have := hat.bt
              rw [show ((pos + j : Nat) : Int) = (pos : Int) + j from by omega, this, hj2]
          · have : m < (c :: t).length := by
              rcases Nat.lt_or_ge m (c :: t).length with h' | h'
              · exact h'
              · exact absurd (List.drop_eq_nil_of_le h') hr
            rw [List.length_take]; omega
        obtain ⟨q, r, e, hq, hq0, hqr, hqm⟩ := hm
        have he : c :: t = q ++ r := e
        have hl2 : (c :: t).length = q.length + r.length := by rw [e]; simp
        by_cases hr : r = []
        · subst hr
          have hno : 0 ∉ c :: t := by rw [e]; simpa using hq
          have hend : Ev (fun k => pq_zzIndexRune.l0 k s 0 (pos + m)) (-1) :=
            Ev.step (fun k => pq_zzIndexRune.l0.eq_2 _ _ _ _) <| Ev.if_neg (by simp at hl2 hlen; omega) <| Ev.now _
          refine ⟨fun _ => step _ hend, fun p t' e' hp => absurd (by rw [e']; simp) hno⟩
        · have hat : At (bytesOf s) ((pos + m : Nat) : Int) r := by
            rw [e] at h
            have h6 := h.drop
            rwa [hqr hr, show (pos : Int) + (m : Int) = ((pos + m : Nat) : Int) from by omega] at h6
          obtain ⟨i1, i2⟩ := ih r (pos + m) (by simp at hn hl2; omega) hat
          refine ⟨fun hn => step _ (i1 fun hx => hn (by rw [e]; simp [hx])), fun p t' e' hp => ?_⟩
          -- the zero byte stands in r
          rw [e] at e'
          obtain ⟨p2, rfl, hr2⟩ : ∃ p2, p = q ++ p2 ∧ r = p2 ++ 0 :: t' := by
            rcases List.append_eq_append_iff.1 e' with ⟨a, ha, hb⟩ | ⟨a, ha, hb⟩
            · exact ⟨a, ha, hb⟩
            · cases a with
              | nil => exact ⟨[], by simpa using ha.symm, by simpa using hb.symm⟩
              | cons x a' =>
                simp at hb
                exact absurd (by rw [ha, ← hb.1]; simp) hq
          refine Ev.to ?_ (step _ (i2 p2 t' hr2 fun hx => hp (by simp [hx])))
          rw [List.length_append, hqr hr]; omega

theorem indexRune_no (s : ByteArray) (h : 0 ∉ bytesOf s) : Ev (fun k => pq_zzIndexRune.f k s 0) (-1) := by
  unfold pq_zzIndexRune.f
  exact Ev.if_pos (by omega) <| Ev.if_pos (by omega) ((indexRune_l s _ _ 0 (Nat.le_refl _) (At.zero _)).1 h)
theorem indexRune_yes (s : ByteArray) (p t : List Int) (e : bytesOf s = p ++ 0 :: t) (h : 0 ∉ p) : Ev (fun k => pq_zzIndexRune.f k s 0) (p.length : Int) := by
  unfold pq_zzIndexRune.f
  exact Ev.if_pos (by omega) <| Ev.if_pos (by omega) (Ev.to (by simp) ((indexRune_l s _ _ 0 (Nat.le_refl _) (At.zero _)).2 p t e h))

/-- An identifier's bytes. -/
def identOf (l : List Int) : List Int := [34] ++ dbl 34 (upTo l) ++ [34]

theorem quoteIdent (s : ByteArray) (hs : s.size ≤ 140737488351232) : ∃ r, Ev (fun k => pq_QuoteIdentifier.f k s) r ∧ bytesOf r = identOf (bytesOf s) := by
  have fin : ∀ x : ByteArray, x.size ≤ s.size → ∃ r2, Ev (fun k => (pq_zzReplace.f k x (⟨#[34]⟩ : ByteArray) (⟨#[34, 34]⟩ : ByteArray)).bind fun t181 => (if 1 + t181.size ≤ 9223372036854775807 then (if ((⟨#[34]⟩ : ByteArray) ++ t181).size + 1 ≤ 9223372036854775807 then (some (((⟨#[34]⟩ : ByteArray) ++ t181) ++ (⟨#[34]⟩ : ByteArray))) else (none)) else (none))) r2 ∧ bytesOf r2 = [34] ++ dbl 34 (bytesOf x) ++ [34] := by
    intro x hx
    obtain ⟨r1, h1, b1⟩ := replace x (⟨#[34]⟩ : ByteArray) (⟨#[34, 34]⟩ : ByteArray) (by omega) 34 rfl rfl
    have l1 := dbl_length 34 (bytesOf x)
    have z1 : r1.size = (dbl 34 (bytesOf x)).length := piece_size b1
    rw [bytesOf_length] at l1
    have z3 : ((⟨#[34]⟩ : ByteArray) ++ r1).size = 1 + r1.size := by rw [size_append]; rfl
    refine ⟨(⟨#[34]⟩ : ByteArray) ++ r1 ++ (⟨#[34]⟩ : ByteArray), Ev.bind h1 <| Ev.if_pos (by omega) <| Ev.if_pos (by omega) <| Ev.now _, ?_⟩
    rw [bytesOf_append, bytesOf_append, b1]; rfl
  unfold pq_QuoteIdentifier.f
  rcases split_at 0 (bytesOf s) with h | ⟨p, t, e, hp⟩
  · obtain ⟨r, hr, hb⟩ := fin s (Nat.le_refl _)
    exact ⟨r, Ev.bind (indexRune_no s h) <| Ev.if_neg (by omega) hr, by rw [hb, identOf, upTo_none h]⟩
  · have hl : s.size = p.length + 1 + t.length := by rw [← bytesOf_length, e]; simp; omega
    have hp1 : bytesOf (s.extract 0 (p.length : Int).toNat) = p := by
      have hat : At (bytesOf s) 0 (p ++ 0 :: t) := by rw [← e]; exact At.zero _
      have := At.piece (p := p) (t := 0 :: t) (j := (p.length : Int)) hat (by omega)
      simpa using this
    obtain ⟨r, hr, hb⟩ := fin (s.extract 0 (p.length : Int).toNat) (by rw [piece_size hp1]; omega)
    exact ⟨r, Ev.bind (indexRune_yes s p t e hp) <| Ev.if_pos (by omega) <| Ev.if_pos (by omega) <| Ev.if_pos (by omega) hr, by rw [hb, identOf, e, upTo_at hp, hp1]⟩
theorem identifier (s : ByteArray) (hs : s.size ≤ 140737488351232) : ∃ r, Ev (fun k => impl_Identifier.f k s) r ∧ bytesOf r = identOf (bytesOf s) := by
  obtain ⟨r, h, b⟩ := quoteIdent s hs
  unfold impl_Identifier.f
  exact ⟨r, Ev.bind h <| Ev.now _, b⟩

/-- spec.UTF8 answers. -/
theorem utf8_l (s : ByteArray) : ∀ (n pos : Nat), s.size ≤ pos + n → ∃ b, Ev (fun k => spec_UTF8.l0 k s pos) b := by
  intro n
  induction n with
  | zero => intro pos h; exact ⟨true, Ev.step (fun k => spec_UTF8.l0.eq_2 _ _ _) <| Ev.if_neg (by omega) <| Ev.now _⟩
  | succ n ih =>
    intro pos h
    by_cases hp : pos < s.size
    · obtain ⟨_, _, d3, _⟩ := decode_step s pos hp
      obtain ⟨b, hb⟩ := ih (pos + (Utf8.decode s pos).2) (by omega)
      by_cases h1 : ((Utf8.decode s pos).1 : Int) = 65533
      · by_cases h2 : (s.size : Int) - pos < 3
        · exact ⟨false, Ev.step (fun k => spec_UTF8.l0.eq_2 _ _ _) <| Ev.if_pos hp <| Ev.if_pos h1 <| Ev.if_pos h2 <| Ev.now _⟩
        · by_cases h3 : (s.extract pos (pos + 3)).toList = ([239, 191, 189] : List UInt8)
          · exact ⟨b, Ev.step (fun k => spec_UTF8.l0.eq_2 _ _ _) <| Ev.if_pos hp <| Ev.if_pos h1 <| Ev.if_neg h2 <| Ev.if_pos h3 hb⟩
          · exact ⟨false, Ev.step (fun k => spec_UTF8.l0.eq_2 _ _ _) <| Ev.if_pos hp <| Ev.if_pos h1 <| Ev.if_neg h2 <| Ev.if_neg h3 <| Ev.now _⟩
      · exact ⟨b, Ev.step (fun k => spec_UTF8.l0.eq_2 _ _ _) <| Ev.if_pos hp <| Ev.if_neg h1 hb⟩
    · exact ⟨true, Ev.step (fun k => spec_UTF8.l0.eq_2 _ _ _) <| Ev.if_neg hp <| Ev.now _⟩
theorem utf8 (s : ByteArray) (hs : s.size ≤ 140737488351232) : ∃ b, Ev (fun k => spec_UTF8.f k s) b := by
  unfold spec_UTF8.f
  obtain ⟨b, hb⟩ := utf8_l s s.size 0 (by omega)
  exact ⟨b, Ev.if_pos (by omega) hb⟩

/-- spec.Identifier. -/
theorem specIdent_end (x : ByteArray) (i : Int) (hx : x.size ≤ 140737488351232) (hi : ¬ i < (x.size : Int)) : ∃ r, Ev (fun k => spec_Identifier.l0 k x i) r ∧ bytesOf r = [34] ++ dbl 34 (bytesOf x) ++ [34] := by
  obtain ⟨r1, h1, b1⟩ := doubled x (by omega) 34
  have l1 := dbl_length 34 (bytesOf x)
  have z1 : r1.size = (dbl 34 (bytesOf x)).length := piece_size b1
  rw [bytesOf_length] at l1
  have z3 : ((⟨#[34]⟩ : ByteArray) ++ r1).size = 1 + r1.size := by rw [size_append]; rfl
  refine ⟨(⟨#[34]⟩ : ByteArray) ++ r1 ++ (⟨#[34]⟩ : ByteArray), Ev.step (fun k => spec_Identifier.l0.eq_2 _ _ _) <| Ev.if_neg hi <| Ev.bind h1 <| Ev.if_pos (by omega) <| Ev.if_pos (by omega) <| Ev.now _, ?_⟩
  rw [bytesOf_append, bytesOf_append, b1]; rfl
theorem specIdent_l (s : ByteArray) (hs : s.size ≤ 140737488351232) : ∀ (l : List Int) (i : Int), At (bytesOf s) i l → 0 ∉ (bytesOf s).take i.toNat → ∃ r, Ev (fun k => spec_Identifier.l0 k s i) r ∧ bytesOf r = identOf (bytesOf s) := by
  intro l
  induction l with
  | nil =>
    intro i h hz
    obtain ⟨r, hr, hb⟩ := specIdent_end s i hs (by have := h.snil; omega)
    refine ⟨r, hr, ?_⟩
    have hall : (bytesOf s).take i.toNat = bytesOf s := List.take_of_length_le (by have := h.nil; omega)
    rw [hb, identOf, upTo_none (by rwa [hall] at hz)]
  | cons c t ih =>
    intro i h hz
    have hlt := h.slt
    have h0 := h.nonneg
    have hbt := h.bt
    have e2 : wrap64 (i + 1) = i + 1 := wrap64_id (by omega) (by omega)
    have hsp := h.split
    by_cases hc : c = 0
    · subst hc
      have hp1 : bytesOf (s.extract 0 i.toNat) = (bytesOf s).take i.toNat := by rw [bytesOf_extract]; simp
      have hz1 : (s.extract 0 i.toNat).size = i.toNat := by
        have := piece_size hp1
        rw [List.length_take, bytesOf_length] at this
        omega
      obtain ⟨r, hr, hb⟩ := specIdent_end (s.extract 0 i.toNat) (i + 1) (by omega) (by omega)
      refine ⟨r, Ev.step (fun k => spec_Identifier.l0.eq_2 _ _ _) <| Ev.if_pos hlt <| Ev.if_pos h0 <| Ev.if_pos hbt <| Ev.if_pos (by omega) ?_, ?_⟩
      · rw [e2]; exact hr
      · rw [hb, hp1, identOf]
        congr 3
        conv => rhs; rw [hsp]
        exact (upTo_at hz).symm
    · obtain ⟨r, hr, hb⟩ := ih (i + 1) h.tail (by
        have : (i + 1).toNat = i.toNat + 1 := by omega
        rw [this, hsp, List.take_append, List.take_of_length_le (by rw [List.length_take]; omega), List.length_take, bytesOf_length, show i.toNat + 1 - min i.toNat s.size = 1 from by omega]
        simp; exact ⟨hz, fun e => hc e.symm⟩)
      refine ⟨r, Ev.step (fun k => spec_Identifier.l0.eq_2 _ _ _) <| Ev.if_pos hlt <| Ev.if_pos h0 <| Ev.if_neg (by omega) ?_, hb⟩
      rw [e2]; exact hr
theorem specIdent (s : ByteArray) (hs : s.size ≤ 140737488351232) : ∃ r, Ev (fun k => spec_Identifier.f k s) r ∧ bytesOf r = identOf (bytesOf s) :=
  specIdent_l s hs _ 0 (At.zero _) (by simp)

end Go.Proofs.Ytlfkejljbehcaaa.Lib
