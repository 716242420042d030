/- What zzIndex tells of one byte. Conditions: the text's size is within the form's bound. -/
import Derived.Test.YthcikkjjegfblacDoorPx1
import Derived.Test.YthcikkjjegfblacDoorLib
namespace Go.Proofs.YthcikkjjegfblacDoor.Lib
open Go.RowKit Go.Proofs.YthcikkjjegfblacDoor.P Go.Proofs.YthcikkjjegfblacDoorW.PrintWords Go.Proofs.YthcikkjjegfblacDoorW.PrintLast Go.Proofs.YthcikkjjegfblacDoorW.PrintMore

/-- The first place of d, or none. -/
theorem split_at (d : Int) (l : List Int) : d ∉ l ∨ ∃ p t, l = p ++ d :: t ∧ d ∉ p := by
  induction l with
  | nil => left; simp
  | cons c t ih =>
    by_cases h : c = d
    · right; exact ⟨[], t, by simp [h], by simp⟩
    · rcases ih with ih | ⟨p, t', e, hp⟩
      · left; simp [ih]; exact fun x => h x.symm
      · right; exact ⟨c :: p, t', by simp [e], by simp [hp]; exact fun x => h x.symm⟩

theorem wr {s : ByteArray} {i : Int} (hs : s.size ≤ 2305843009213693952) (h0 : 0 ≤ i) (h1 : i ≤ (s.size : Int)) {d : Int} (hd0 : -10 ≤ d) (hd : d ≤ 10) : wrap64 (i + d) = i + d := wrap64_id (by omega) (by omega)

/-- zzIndex of one byte. -/
theorem index_l (s sub : ByteArray) (hs : s.size ≤ 2305843009213693952) (d : Int) (hsub : bytesOf sub = [d]) : ∀ (l : List Int) (i : Int), At (bytesOf s) i l →
    (d ∉ l → Ev (fun k => pq_zzIndex.l0 k s sub i) (-1)) ∧ (∀ p t, l = p ++ d :: t → d ∉ p → Ev (fun k => pq_zzIndex.l0 k s sub i) (i + p.length)) := by
  have h1 : sub.size = 1 := by rw [← bytesOf_length, hsub]; rfl
  intro l
  induction l with
  | nil =>
    intro i h
    refine ⟨fun _ => Ev.step (fun k => pq_zzIndex.l0.eq_2 _ _ _ _) <| Ev.if_neg ?_ <| Ev.now _, fun p t e => by simp at e⟩
    rw [h1, wrap64_id (by have := h.nonneg; omega) (by have := h.sle; omega)]
    have := h.snil; omega
  | cons c t ih =>
    intro i h
    have hlt := h.slt
    have h0 := h.nonneg
    have e1 : wrap64 (i + ((sub.size : Nat) : Int)) = i + 1 := by rw [h1]; exact wrap64_id (by omega) (by omega)
    have e2 : wrap64 (i + 1) = i + 1 := wrap64_id (by omega) (by omega)
    obtain ⟨ih1, ih2⟩ := ih (i + 1) h.tail
    have hit : c = d ↔ (s.extract i.toNat (i + 1).toNat).toList = sub.toList := by
      rw [toList_eq_iff, h.one, hsub]; simp
    constructor
    · intro hd
      refine Ev.step (fun k => pq_zzIndex.l0.eq_2 _ _ _ _) ?_
      rw [e1, e2]
      exact Ev.if_pos (by omega) <| Ev.if_pos h0 <| Ev.if_pos (by omega) <| Ev.if_neg (fun hq => hd (by simp [hit.2 hq])) <| ih1 (fun hx => hd (by simp [hx]))
    · intro p t' e hp
      refine Ev.step (fun k => pq_zzIndex.l0.eq_2 _ _ _ _) ?_
      rw [e1, e2]
      refine Ev.if_pos (by omega) <| Ev.if_pos h0 <| Ev.if_pos (by omega) ?_
      cases p with
      | nil =>
        simp at e
        exact Ev.to (by simp) (Ev.if_pos (hit.1 e.1) <| Ev.now _)
      | cons c' p' =>
        simp at e hp
        refine Ev.to ?_ (Ev.if_neg (fun hq => hp.1 (by rw [← e.1]; exact (hit.2 hq).symm)) <| ih2 p' t' e.2 hp.2)
        simp only [List.length_cons]; omega
theorem index_no (s sub : ByteArray) (hs : s.size ≤ 2305843009213693952) (d : Int) (hsub : bytesOf sub = [d]) (h : d ∉ bytesOf s) : Ev (fun k => pq_zzIndex.f k s sub) (-1) :=
  (index_l s sub hs d hsub _ 0 (At.zero _)).1 h
theorem index_yes (s sub : ByteArray) (hs : s.size ≤ 2305843009213693952) (d : Int) (hsub : bytesOf sub = [d]) (p t : List Int) (e : bytesOf s = p ++ d :: t) (h : d ∉ p) : Ev (fun k => pq_zzIndex.f k s sub) (p.length : Int) :=
  Ev.to (by simp) ((index_l s sub hs d hsub _ 0 (At.zero _)).2 p t e h)

end Go.Proofs.YthcikkjjegfblacDoor.Lib
