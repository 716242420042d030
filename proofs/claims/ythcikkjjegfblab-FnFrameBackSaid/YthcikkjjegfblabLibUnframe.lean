/- What reading pieces comes to, piece by piece, of the package and of the reference. Conditions: named by each lemma. -/
import Derived.Test.YthcikkjjegfblabPx3
import Derived.Test.YthcikkjjegfblabPx2
import Derived.Test.YthcikkjjegfblabLibIndex
namespace Go.Proofs.Ythcikkjjegfblab.Lib
open Go.RowKit Go.Proofs.Ythcikkjjegfblab.P Go.Proofs.YthcikkjjegfblabW.PrintWords Go.Proofs.YthcikkjjegfblabW.PrintLast Go.Proofs.YthcikkjjegfblabW.PrintMore

abbrev Pc := S25
theorem rdT_at {l : List Pc} {i : Nat} {x : Pc} {t : List Pc} (h : l.drop i = x :: t) : rd_T25 l (i : Int) = x ∧ i < l.length ∧ l.drop (i + 1) = t := by
  have hl : i < l.length := by
    rcases Nat.lt_or_ge i l.length with hl | hl
    · exact hl
    · rw [List.drop_of_length_le hl] at h; cases h
  rw [List.drop_eq_getElem_cons hl] at h
  injection h with h1 h2
  refine ⟨?_, hl, h2⟩
  simp [rd_T25, List.getD_eq_getElem?_getD, List.getElem?_eq_getElem hl, h1]
theorem zeroAt_split {p t : List Int} (hp : (0 : Int) ∉ p) : zeroAt (p ++ 0 :: t) = p.length := by
  unfold zeroAt
  induction p with
  | nil => simp [List.findIdx_cons]
  | cons c p ih =>
    simp at hp
    have hc : (c == 0) = false := by simpa using fun e => hp.1 e.symm
    simp [List.findIdx_cons, hc, ih hp.2]
theorem zeroAt_none {f : List Int} (hp : (0 : Int) ∉ f) : zeroAt f = f.length := by
  unfold zeroAt
  rw [List.findIdx_eq_length]
  intro x hx
  have : ¬ x = 0 := fun e => hp (by rw [← e]; exact hx)
  simpa using this
theorem ends_l (s : ByteArray) (hs : s.size ≤ 2305843009213693952) : ∀ (l : List Int) (i : Int), At (bytesOf s) i l → Ev (fun k => impl_ends.l0 k s i) (decide ((0 : Int) ∈ l)) := by
  intro l
  induction l with
  | nil =>
    intro i h
    exact Ev.to (by simp) (Ev.step (fun k => impl_ends.l0.eq_2 _ _ _) <| Ev.if_neg (by have := h.snil; omega) <| Ev.now false)
  | cons c t ih =>
    intro i h
    have h0 := h.nonneg
    have hlt := h.slt
    have e2 : wrap64 (i + 1) = i + 1 := wrap64_id (by omega) (by omega)
    refine Ev.step (fun k => impl_ends.l0.eq_2 _ _ _) <| Ev.if_pos hlt <| Ev.if_pos h0 ?_
    rw [h.bt, e2]
    by_cases hc : c = 0
    · exact Ev.to (by simp [hc]) (Ev.if_pos hc <| Ev.now true)
    · exact Ev.to (by simp [show ¬ (0 : Int) = c from fun e => hc e.symm]) (Ev.if_neg hc <| ih _ h.tail)
theorem ends_of {f : List Int} (hb : Bytes f) (hl : f.length ≤ 2305843009213693952) : Ev (fun k => impl_ends.f k (strOfNums f)) (decide ((0 : Int) ∈ f)) := by
  have h := ends_l (strOfNums f) (by rw [strOfNums_size]; exact hl) _ 0 (At.zero _)
  rw [bytesOf_strOfNums' hb] at h
  exact h
theorem zero_of {p t : List Int} (hb : Bytes (p ++ 0 :: t)) (hl : (p ++ 0 :: t).length ≤ 2305843009213693952) (hp : (0 : Int) ∉ p) : Ev (fun k => pq_zzIndex.f k (strOfNums (p ++ 0 :: t)) (⟨#[0]⟩ : ByteArray)) (p.length : Int) :=
  index_yes _ _ (by rw [strOfNums_size]; exact hl) 0 rfl p t (bytesOf_strOfNums' hb) hp

/-- What the package tells of one kind: its piece, and what is left. -/
def implOne (x : Pc) (f : List Int) : Option (Pc × List Int) :=
  if x.f0 = 1 then (if 1 ≤ f.length then some (⟨1, rd f 0, ⟨#[]⟩⟩, f.drop 1) else none)
  else if x.f0 = 2 then (if 2 ≤ f.length then some (⟨2, rd f 0 * 256 + rd f 1, ⟨#[]⟩⟩, f.drop 2) else none)
  else if x.f0 = 3 then (if 4 ≤ f.length then some (⟨3, IntKind.i32.wrap (rd f 0 * 16777216 + rd f 1 * 65536 + rd f 2 * 256 + rd f 3), ⟨#[]⟩⟩, f.drop 4) else none)
  else if x.f0 = 4 then (if (0 : Int) ∈ f then some (⟨4, 0, strOfNums (f.take (zeroAt f))⟩, f.drop (zeroAt f + 1)) else none)
  else if 0 ≤ x.f1 ∧ x.f1 ≤ f.length then some (⟨5, x.f1, strOfNums (f.take x.f1.toNat)⟩, f.drop x.f1.toNat) else none
theorem impl_end {l : List Pc} {f : List Int} {out : List Pc} {i : Nat} (h : l.drop i = []) : Ev (fun k => impl_Unframed.l0 k l f out (i : Int)) (out, strOfNums f, true) := by
  have hl : l.length ≤ i := by simpa using h
  exact Ev.step (fun k => impl_Unframed.l0.eq_2 _ _ _ _ _) <| Ev.if_neg (by omega) <| Ev.now _
theorem impl_step {l : List Pc} {f : List Int} {out : List Pc} {i : Nat} {x : Pc} {t : List Pc} (h : l.drop i = x :: t) (hk : 1 ≤ x.f0 ∧ x.f0 ≤ 5) (hb : Bytes f) (hl : f.length ≤ 2305843009213693952) (hll : l.length ≤ 2305843009213693952) (ho : out.length < 4398046511104) :
    (implOne x f = none → Ev (fun k => impl_Unframed.l0 k l f out (i : Int)) ([], ⟨#[]⟩, false)) ∧
    (∀ p g r, implOne x f = some (p, g) → Ev (fun k => impl_Unframed.l0 k l g (out ++ [p]) ((i + 1 : Nat) : Int)) r → Ev (fun k => impl_Unframed.l0 k l f out (i : Int)) r) := by
  obtain ⟨hx, hil, ht⟩ := rdT_at h
  have e2 : wrap64 ((i : Int) + 1) = ((i + 1 : Nat) : Int) := by rw [wrap64_id (by omega) (by omega)]; omega
  have go : ∀ {r : List Pc × ByteArray × Bool}, Ev (fun k => (if x.f0 = 1 then (if 1 ≤ f.length then impl_Unframed.l0 k l (f.drop 1) (out ++ [⟨1, rd f 0, ⟨#[]⟩⟩]) ((i + 1 : Nat) : Int) else some ([], ⟨#[]⟩, false))
       else if x.f0 = 2 then (if 2 ≤ f.length then impl_Unframed.l0 k l (f.drop 2) (out ++ [⟨2, rd f 0 * 256 + rd f 1, ⟨#[]⟩⟩]) ((i + 1 : Nat) : Int) else some ([], ⟨#[]⟩, false))
       else if x.f0 = 3 then (if 4 ≤ f.length then impl_Unframed.l0 k l (f.drop 4) (out ++ [⟨3, IntKind.i32.wrap (rd f 0 * 16777216 + rd f 1 * 65536 + rd f 2 * 256 + rd f 3), ⟨#[]⟩⟩]) ((i + 1 : Nat) : Int) else some ([], ⟨#[]⟩, false))
       else if x.f0 = 4 then ((impl_ends.f k (strOfNums f)).bind fun b => if b = true then ((pq_zzIndex.f k (strOfNums f) (⟨#[0]⟩ : ByteArray)).bind fun j => if 0 ≤ j ∧ j < f.length then impl_Unframed.l0 k l (f.drop (j.toNat + 1)) (out ++ [⟨4, 0, strOfNums (f.take j.toNat)⟩]) ((i + 1 : Nat) : Int) else none) else some ([], ⟨#[]⟩, false))
       else if x.f0 = 5 then (if 0 ≤ x.f1 then (if x.f1 ≤ f.length then impl_Unframed.l0 k l (f.drop x.f1.toNat) (out ++ [⟨5, x.f1, strOfNums (f.take x.f1.toNat)⟩]) ((i + 1 : Nat) : Int) else some ([], ⟨#[]⟩, false)) else some ([], ⟨#[]⟩, false))
       else some ([], ⟨#[]⟩, false))) r → Ev (fun k => impl_Unframed.l0 k l f out (i : Int)) r := by
    intro r hr
    refine Ev.step (fun k => impl_Unframed.l0.eq_2 _ _ _ _ _) <| Ev.if_pos (by omega) <| Ev.if_pos (by omega) <| Ev.if_pos ho ?_
    rw [hx, e2]
    exact hr
  unfold implOne
  by_cases h1 : x.f0 = 1
  · simp only [_root_.if_pos h1]
    by_cases hf : 1 ≤ f.length
    · simp only [_root_.if_pos hf]
      exact ⟨fun e => by simp at e, fun p g r e hr => by simp only [Option.some.injEq, Prod.mk.injEq] at e; obtain ⟨rfl, rfl⟩ := e; exact go (Ev.if_pos h1 <| Ev.if_pos hf hr)⟩
    · simp only [_root_.if_neg hf]
      exact ⟨fun _ => go (Ev.if_pos h1 <| Ev.if_neg hf <| Ev.now _), fun p g r e => by simp at e⟩
  simp only [_root_.if_neg h1]
  by_cases h2 : x.f0 = 2
  · simp only [_root_.if_pos h2]
    by_cases hf : 2 ≤ f.length
    · simp only [_root_.if_pos hf]
      exact ⟨fun e => by simp at e, fun p g r e hr => by simp only [Option.some.injEq, Prod.mk.injEq] at e; obtain ⟨rfl, rfl⟩ := e; exact go (Ev.if_neg h1 <| Ev.if_pos h2 <| Ev.if_pos hf hr)⟩
    · simp only [_root_.if_neg hf]
      exact ⟨fun _ => go (Ev.if_neg h1 <| Ev.if_pos h2 <| Ev.if_neg hf <| Ev.now _), fun p g r e => by simp at e⟩
  simp only [_root_.if_neg h2]
  by_cases h3 : x.f0 = 3
  · simp only [_root_.if_pos h3]
    by_cases hf : 4 ≤ f.length
    · simp only [_root_.if_pos hf]
      exact ⟨fun e => by simp at e, fun p g r e hr => by simp only [Option.some.injEq, Prod.mk.injEq] at e; obtain ⟨rfl, rfl⟩ := e; exact go (Ev.if_neg h1 <| Ev.if_neg h2 <| Ev.if_pos h3 <| Ev.if_pos hf hr)⟩
    · simp only [_root_.if_neg hf]
      exact ⟨fun _ => go (Ev.if_neg h1 <| Ev.if_neg h2 <| Ev.if_pos h3 <| Ev.if_neg hf <| Ev.now _), fun p g r e => by simp at e⟩
  simp only [_root_.if_neg h3]
  by_cases h4 : x.f0 = 4
  · simp only [_root_.if_pos h4]
    have he := ends_of hb hl
    rcases split_at 0 f with hz | ⟨p, t', e, hz⟩
    · simp only [_root_.if_neg hz]
      refine ⟨fun _ => go (Ev.if_neg h1 <| Ev.if_neg h2 <| Ev.if_neg h3 <| Ev.if_pos h4 <| Ev.bind he <| Ev.if_neg (by simp [hz]) <| Ev.now _), fun p g r e => by simp at e⟩
    · have hm : (0 : Int) ∈ f := by rw [e]; simp
      simp only [_root_.if_pos hm]
      refine ⟨fun e => by simp at e, fun p' g r e' hr => ?_⟩
      simp only [Option.some.injEq, Prod.mk.injEq] at e'
      obtain ⟨rfl, rfl⟩ := e'
      have hzi : Ev (fun k => pq_zzIndex.f k (strOfNums f) (⟨#[0]⟩ : ByteArray)) (p.length : Int) := by
        have := zero_of (p := p) (t := t') (by rw [← e]; exact hb) (by rw [← e]; exact hl) hz
        rwa [← e] at this
      have hza : zeroAt f = p.length := by rw [e]; exact zeroAt_split hz
      have hpl : p.length < f.length := by rw [e]; simp
      rw [hza] at hr
      exact go (Ev.if_neg h1 <| Ev.if_neg h2 <| Ev.if_neg h3 <| Ev.if_pos h4 <| Ev.bind he <| Ev.if_pos (by simp [hm]) <| Ev.bind hzi <| Ev.if_pos ⟨by omega, by omega⟩ hr)
  simp only [_root_.if_neg h4]
  have h5 : x.f0 = 5 := by omega
  by_cases hf : 0 ≤ x.f1 ∧ x.f1 ≤ f.length
  · simp only [_root_.if_pos hf]
    exact ⟨fun e => by simp at e, fun p g r e hr => by simp only [Option.some.injEq, Prod.mk.injEq] at e; obtain ⟨rfl, rfl⟩ := e; exact go (Ev.if_neg h1 <| Ev.if_neg h2 <| Ev.if_neg h3 <| Ev.if_neg h4 <| Ev.if_pos h5 <| Ev.if_pos hf.1 <| Ev.if_pos hf.2 hr)⟩
  · simp only [_root_.if_neg hf]
    refine ⟨fun _ => go (Ev.if_neg h1 <| Ev.if_neg h2 <| Ev.if_neg h3 <| Ev.if_neg h4 <| Ev.if_pos h5 ?_), fun p g r e => by simp at e⟩
    by_cases h0 : 0 ≤ x.f1
    · exact Ev.if_pos h0 <| Ev.if_neg (fun h => hf ⟨h0, h⟩) <| Ev.now _
    · exact Ev.if_neg h0 <| Ev.now _
theorem implOne_less {x p : Pc} {f g : List Int} (h : implOne x f = some (p, g)) : g.length ≤ f.length ∧ (∀ y, y ∈ g → y ∈ f) := by
  have hd : ∃ n, g = f.drop n := by
    unfold implOne at h
    repeat' split at h
    all_goals first | (simp only [Option.some.injEq, Prod.mk.injEq] at h; exact ⟨_, h.2.symm⟩) | exact absurd h (by simp)
  obtain ⟨n, rfl⟩ := hd
  exact ⟨by rw [List.length_drop]; omega, fun y hy => List.mem_of_mem_drop hy⟩

end Go.Proofs.Ythcikkjjegfblab.Lib
