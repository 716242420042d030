/- What zzIndex, zzReplace, zzContains, spec.doubled, spec.HasByte and text9 tell, as plain lists. Conditions: the texts' sizes are within the form's bound. -/
import Derived.Test.YtlfkejljbehcaaaPx1
import Derived.Test.YtlfkejljbehcaaaPx3
import Derived.Test.YtlfkejljbehcaaaLib
namespace Go.Proofs.Ytlfkejljbehcaaa.Lib
open Go.RowKit Go.Proofs.Ytlfkejljbehcaaa.P Go.Proofs.YtlfkejljbehcaaaW.PrintWords Go.Proofs.YtlfkejljbehcaaaW.PrintLast Go.Proofs.YtlfkejljbehcaaaW.PrintMore

/-- A list in which each d stands twice. -/
def dbl (d : Int) (l : List Int) : List Int := l.flatMap fun c => if c = d then [d, d] else [c]
theorem dbl_nil (d : Int) : dbl d [] = [] := rfl
theorem dbl_cons (d c : Int) (l : List Int) : dbl d (c :: l) = (if c = d then [d, d] else [c]) ++ dbl d l := by simp [dbl]
theorem dbl_append (d : Int) (l m : List Int) : dbl d (l ++ m) = dbl d l ++ dbl d m := by simp [dbl]
theorem dbl_none {d : Int} {l : List Int} (h : d ∉ l) : dbl d l = l := by
  induction l with
  | nil => rfl
  | cons c t ih =>
    rw [dbl_cons, if_neg (fun e => h (by simp [e])), ih (fun e => h (by simp [e]))]; rfl
theorem dbl_length (d : Int) (l : List Int) : l.length ≤ (dbl d l).length ∧ (dbl d l).length ≤ 2 * l.length := by
  induction l with
  | nil => simp [dbl]
  | cons c t ih =>
    rw [dbl_cons]
    split <;> simp <;> omega
theorem mem_dbl {d x : Int} {l : List Int} : x ∈ dbl d l ↔ x ∈ l := by
  induction l with
  | nil => simp [dbl]
  | cons c t ih =>
    rw [dbl_cons, List.mem_append, ih]
    split
    · rename_i h; subst h; simp
    · simp
theorem dbl_comm {d e : Int} (h : d ≠ e) (l : List Int) : dbl d (dbl e l) = dbl e (dbl d l) := by
  induction l with
  | nil => rfl
  | cons c t ih =>
    rw [dbl_cons e, dbl_cons d, dbl_append, dbl_append, ih]
    congr 1
    by_cases h1 : c = e
    · subst h1
      have : ¬ c = d := fun x => h x.symm
      simp [dbl, this]
    · by_cases h2 : c = d
      · subst h2; simp [dbl, h]
      · simp [dbl, h1, h2]

/-- The first place of d, or none. -/
theorem split_at (d : Int) (l : List Int) : d ∉ l ∨ ∃ p t, l = p ++ d :: t ∧ d ∉ p := by
  induction l with
  | nil => left; simp
  | cons c t ih =>
    by_cases h : c = d
    · right; exact ⟨[], t, by simp [h], by simp⟩
    · rcases ih with ih | ⟨p, t', e, hp⟩
      · left; simp [ih]; exact fun x => h x.symm
      · right; exact ⟨c :: p, t', by simp [e], by simp [hp]; exact fun x => h x.symm⟩

theorem wr {s : ByteArray} {i : Int} (hs : s.size ≤ 2305843009213693952) (h0 : 0 ≤ i) (h1 : i ≤ (s.size : Int)) {d : Int} (hd0 : -10 ≤ d) (hd : d ≤ 10) : wrap64 (i + d) = i + d := wrap64_id (by omega) (by omega)

theorem text9_l (s : ByteArray) (hs : s.size ≤ 2305843009213693952) : ∀ (l : List Int) (i : Int), At (bytesOf s) i l → Ev (fun k => laws_text9.l0 k s i) (!decide (0 ∈ l)) := by
  intro l
  induction l with
  | nil =>
    intro i h
    exact Ev.step (fun k => laws_text9.l0.eq_2 _ _ _) <| Ev.if_neg (by have := h.snil; omega) <| Ev.now _
  | cons c t ih =>
    intro i h
    have hb := ih (i + 1) h.tail
    have hbt := h.bt
    by_cases hc : c = 0
    · subst hc
      exact Ev.to (by simp) (Ev.step (fun k => laws_text9.l0.eq_2 _ _ _) <| Ev.if_pos h.slt <| Ev.if_pos h.nonneg <| Ev.if_pos hbt <| Ev.now _)
    · refine Ev.step (fun k => laws_text9.l0.eq_2 _ _ _) <| Ev.if_pos h.slt <| Ev.if_pos h.nonneg <| Ev.if_neg (by omega) ?_
      rw [wr hs h.nonneg h.sle (by omega) (by omega)]
      exact Ev.to (by simp [Ne.symm hc]) hb
/-- Is a text looked at: no more than 1000 bytes, none zero. -/
theorem text9 (s : ByteArray) (hs : s.size ≤ 2305843009213693952) : Ev (fun k => laws_text9.f k s) (decide (s.size ≤ 1000 ∧ 0 ∉ bytesOf s)) := by
  unfold laws_text9.f
  by_cases h : (s.size : Int) > 1000
  · exact Ev.to (by simp; intro h2; omega) (Ev.if_pos h <| Ev.now _)
  · exact Ev.to (by
      have : s.size ≤ 1000 := by omega
      simp [this]) (Ev.if_neg h (text9_l s hs _ 0 (At.zero _)))

/-- zzIndex of one byte. -/
theorem index_l (s sub : ByteArray) (hs : s.size ≤ 2305843009213693952) (d : Int) (hsub : bytesOf sub = [d]) : ∀ (l : List Int) (i : Int), At (bytesOf s) i l →
    (d ∉ l → Ev (fun k => pq_zzIndex.l0 k s sub i) (-1)) ∧ (∀ p t, l = p ++ d :: t → d ∉ p → Ev (fun k => pq_zzIndex.l0 k s sub i) (i + p.length)) := by
  have h1 : sub.size = 1 := by rw [← bytesOf_length, hsub]; rfl
  intro l
  induction l with
  | nil =>
    intro i h
    refine ⟨fun _ => Ev.step (fun k => pq_zzIndex.l0.eq_2 _ _ _ _) <| Ev.if_neg ?_ <| Ev.now _, fun p t e => by simp at e⟩
    rw [h1, wrap64_id (by have := h.nonneg; omega) (by have := h.sle; omega)]
    have := h.snil; omega
  | cons c t ih =>
    intro i h
    have hlt := h.slt
    have h0 := h.nonneg
    have e1 : wrap64 (i + ((sub.size : Nat) : Int)) = i + 1 := by rw [h1]; exact wrap64_id (by omega) (by omega)
    have e2 : wrap64 (i + 1) = i + 1 := wrap64_id (by omega) (by omega)
    obtain ⟨ih1, ih2⟩ := ih (i + 1) h.tail
    have hit : c = d ↔ (s.extract i.toNat (i + 1).toNat).toList = sub.toList := by
      rw [toList_eq_iff, h.one, hsub]; simp
    constructor
    · intro hd
      refine Ev.step (fun k => pq_zzIndex.l0.eq_2 _ _ _ _) ?_
      rw [e1, e2]
      exact Ev.if_pos (by omega) <| Ev.if_pos h0 <| Ev.if_pos (by omega) <| Ev.if_neg (fun hq => hd (by simp [hit.2 hq])) <| ih1 (fun hx => hd (by simp [hx]))
    · intro p t' e hp
      refine Ev.step (fun k => pq_zzIndex.l0.eq_2 _ _ _ _) ?_
      rw [e1, e2]
      refine Ev.if_pos (by omega) <| Ev.if_pos h0 <| Ev.if_pos (by omega) ?_
      cases p with
      | nil =>
        simp at e
        exact Ev.to (by simp) (Ev.if_pos (hit.1 e.1) <| Ev.now _)
      | cons c' p' =>
        simp at e hp
        refine Ev.to ?_ (Ev.if_neg (fun hq => hp.1 (by rw [← e.1]; exact (hit.2 hq).symm)) <| ih2 p' t' e.2 hp.2)
        simp only [List.length_cons]; omega
theorem index_no (s sub : ByteArray) (hs : s.size ≤ 2305843009213693952) (d : Int) (hsub : bytesOf sub = [d]) (h : d ∉ bytesOf s) : Ev (fun k => pq_zzIndex.f k s sub) (-1) :=
  (index_l s sub hs d hsub _ 0 (At.zero _)).1 h
theorem index_yes (s sub : ByteArray) (hs : s.size ≤ 2305843009213693952) (d : Int) (hsub : bytesOf sub = [d]) (p t : List Int) (e : bytesOf s = p ++ d :: t) (h : d ∉ p) : Ev (fun k => pq_zzIndex.f k s sub) (p.length : Int) :=
  Ev.to (by simp) ((index_l s sub hs d hsub _ 0 (At.zero _)).2 p t e h)
/-- zzReplace of one byte by two of it. -/
theorem replace_l (old new : ByteArray) (d : Int) (ho : bytesOf old = [d]) (hn : bytesOf new = [d, d]) : ∀ (n : Nat) (x out : ByteArray), x.size ≤ n → out.size + 2 * x.size ≤ 2305843009213693952 →
    ∃ r, Ev (fun k => pq_zzReplace.l0 k x old new out) r ∧ bytesOf r = bytesOf out ++ dbl d (bytesOf x) := by
  have h1 : old.size = 1 := by rw [← bytesOf_length, ho]; rfl
  have h2 : new.size = 2 := by rw [← bytesOf_length, hn]; rfl
  intro n
  induction n with
  | zero =>
    intro x out hx hb
    have hx0 : bytesOf x = [] := List.length_eq_zero_iff.1 (by rw [bytesOf_length]; omega)
    refine ⟨out ++ x, Ev.step (fun k => pq_zzReplace.l0.eq_2 _ _ _ _ _) <| Ev.bind (index_no x old (by omega) d ho (by simp [hx0])) <| Ev.if_pos (by omega) <| Ev.if_pos (by omega) <| Ev.now _, ?_⟩
    rw [bytesOf_append, hx0]; rfl
  | succ n ih =>
    intro x out hx hb
    rcases split_at d (bytesOf x) with h | ⟨p, t, e, hp⟩
    · refine ⟨out ++ x, Ev.step (fun k => pq_zzReplace.l0.eq_2 _ _ _ _ _) <| Ev.bind (index_no x old (by omega) d ho h) <| Ev.if_pos (by omega) <| Ev.if_pos (by omega) <| Ev.now _, ?_⟩
      rw [bytesOf_append, dbl_none h]
    · have hl : x.size = p.length + 1 + t.length := by rw [← bytesOf_length, e]; simp; omega
      have hat : At (bytesOf x) 0 (p ++ d :: t) := by rw [← e]; exact At.zero _
      have hp1 : bytesOf (x.extract 0 (p.length : Int).toNat) = p := by
        have := At.piece (p := p) (t := d :: t) (j := (p.length : Int)) hat (by omega)
        simpa using this
      have hat2 : At (bytesOf x) ((p.length : Int) + 1) t := by
        have h3 := (hat.drop).tail
        rwa [show (0 : Int) + p.length + 1 = (p.length : Int) + 1 from by omega] at h3
      have hp2 := hat2.rest
      have hs1 : (x.extract 0 (p.length : Int).toNat).size = p.length := piece_size hp1
      have hs2 : (x.extract ((p.length : Int) + 1).toNat x.size).size = t.length := piece_size hp2
      have ew : wrap64 ((p.length : Int) + ((old.size : Nat) : Int)) = (p.length : Int) + 1 := by rw [h1]; exact wrap64_id (by omega) (by omega)
      obtain ⟨r, hr, hbr⟩ := ih (x.extract ((p.length : Int) + 1).toNat x.size) (out ++ (x.extract 0 (p.length : Int).toNat ++ new)) (by omega) (by simp only [size_append]; omega)
      refine ⟨r, Ev.step (fun k => pq_zzReplace.l0.eq_2 _ _ _ _ _) <| Ev.bind (index_yes x old (by omega) d ho p t e hp) <| Ev.if_neg (by omega) <| Ev.if_pos (by omega) <| Ev.if_pos (by omega) <| Ev.if_pos (by omega) <| Ev.if_pos (by simp only [size_append]; omega) ?_, ?_⟩
      · rw [ew]
        exact Ev.if_pos (by omega) <| Ev.if_pos (by omega) hr
      · rw [hbr, bytesOf_append, bytesOf_append, hp1, hp2, hn, e, dbl_append, dbl_none hp, dbl_cons]; simp
theorem replace (s old new : ByteArray) (hs : 2 * s.size ≤ 2305843009213693952) (d : Int) (ho : bytesOf old = [d]) (hn : bytesOf new = [d, d]) : ∃ r, Ev (fun k => pq_zzReplace.f k s old new) r ∧ bytesOf r = dbl d (bytesOf s) := by
  obtain ⟨r, hr, hb⟩ := replace_l old new d ho hn s.size s ⟨#[]⟩ (Nat.le_refl _) (by show 0 + 2 * s.size ≤ _; omega)
  exact ⟨r, hr, by rw [hb]; rfl⟩

/-- spec.doubled. -/
theorem doubled_l (s : ByteArray) (hs : s.size ≤ 2305843009213693952) (d : Int) : ∀ (l : List Int) (i : Int) (out : ByteArray), At (bytesOf s) i l → out.size + 2 * l.length ≤ 6917529027641081856 →
    ∃ r, Ev (fun k => spec_doubled.l0 k s d out i) r ∧ bytesOf r = bytesOf out ++ dbl d l := by
  intro l
  induction l with
  | nil =>
    intro i out h _
    exact ⟨out, Ev.step (fun k => spec_doubled.l0.eq_2 _ _ _ _ _) <| Ev.if_neg (by have := h.snil; omega) <| Ev.now _, by simp [dbl]⟩
  | cons c t ih =>
    intro i out h hb
    have hlt := h.slt
    have h0 := h.nonneg
    have e2 : wrap64 (i + 1) = i + 1 := wrap64_id (by omega) (by omega)
    have hone := h.one
    have hsz : (s.extract i.toNat (i + 1).toNat).size = 1 := piece_size hone
    simp only [List.length_cons] at hb
    have key : ∀ r, Ev (fun k => if bt s i = d then spec_doubled.l0 k s d (out ++ s.extract i.toNat (i + 1).toNat ++ s.extract i.toNat (i + 1).toNat) (i + 1) else spec_doubled.l0 k s d (out ++ s.extract i.toNat (i + 1).toNat) (i + 1)) r → Ev (fun k => spec_doubled.l0 k s d out i) r := by
      intro r hr
      refine Ev.step (fun k => spec_doubled.l0.eq_2 _ _ _ _ _) <| Ev.if_pos hlt <| Ev.if_pos h0 ?_
      rw [e2]
      refine Ev.if_pos (by omega) <| Ev.if_pos (by omega) <| Ev.if_pos (by omega) ?_
      by_cases hc : bt s i = d
      · refine Ev.if_pos hc <| Ev.if_pos (by simp only [size_append]; omega) ?_
        simpa only [_root_.if_pos hc] using hr
      · refine Ev.if_neg hc ?_
        simpa only [_root_.if_neg hc] using hr
    by_cases hc : c = d
    · obtain ⟨r, hr, hbr⟩ := ih (i + 1) (out ++ s.extract i.toNat (i + 1).toNat ++ s.extract i.toNat (i + 1).toNat) h.tail (by simp only [size_append]; omega)
      refine ⟨r, key r <| Ev.if_pos (by rw [h.bt]; exact hc) hr, ?_⟩
      rw [hbr, bytesOf_append, bytesOf_append, hone, dbl_cons, _root_.if_pos hc, hc]; simp
    · obtain ⟨r, hr, hbr⟩ := ih (i + 1) (out ++ s.extract i.toNat (i + 1).toNat) h.tail (by simp only [size_append]; omega)
      refine ⟨r, key r <| Ev.if_neg (by rw [h.bt]; exact hc) hr, ?_⟩
      rw [hbr, bytesOf_append, hone, dbl_cons, _root_.if_neg hc]; simp
theorem doubled (s : ByteArray) (hs : s.size ≤ 2305843009213693952) (d : Int) : ∃ r, Ev (fun k => spec_doubled.f k s d) r ∧ bytesOf r = dbl d (bytesOf s) := by
  obtain ⟨r, hr, hb⟩ := doubled_l s hs d _ 0 ⟨#[]⟩ (At.zero _) (by rw [bytesOf_length]; show 0 + 2 * s.size ≤ _; omega)
  exact ⟨r, hr, by rw [hb]; rfl⟩

end Go.Proofs.Ytlfkejljbehcaaa.Lib
