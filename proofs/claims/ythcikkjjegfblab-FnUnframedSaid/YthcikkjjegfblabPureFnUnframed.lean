/- FnUnframed, for every body and kinds: pieces are read from bytes by their kinds, and what is left is told; too few bytes, and a text without its zero byte, are refused (at most 30 kinds, 1000 bytes, by the law's own guard).
   Conditions: none beyond the form's own bounds on the sizes. -/
import Derived.Test.YthcikkjjegfblabPx5
import Derived.Test.YthcikkjjegfblabPx4
import Derived.Test.YthcikkjjegfblabPx2
import Derived.Test.YthcikkjjegfblabLibUnframe
namespace Go.Proofs.Ythcikkjjegfblab.Pure
open Go.RowKit Go.Proofs.Ythcikkjjegfblab.P Go.Proofs.YthcikkjjegfblabW.PrintWords Go.Proofs.YthcikkjjegfblabW.PrintLast Go.Proofs.YthcikkjjegfblabW.PrintMore Go.Proofs.Ythcikkjjegfblab.Lib

/-- A kind that is looked at. -/
def Good (x : Pc) : Prop := 1 ≤ x.f0 ∧ x.f0 ≤ 5 ∧ 0 ≤ x.f1 ∧ x.f1 ≤ 2000
/-- Pieces that count as the same. -/
def Same1 (a b : Pc) : Prop := a.f0 = b.f0 ∧ a.f2 = b.f2 ∧ (a.f0 ≠ 5 → a.f1 = b.f1)
inductive Same : List Pc → List Pc → Prop
  | nil : Same [] []
  | cons {a b : Pc} {l m : List Pc} : Same1 a b → Same l m → Same (a :: l) (b :: m)
theorem Same.snoc {l m : List Pc} (h : Same l m) {a b : Pc} (h1 : Same1 a b) : Same (l ++ [a]) (m ++ [b]) := by
  induction h with
  | nil => exact .cons h1 .nil
  | cons h2 _ ih => exact .cons h2 ih
theorem Same.length {l m : List Pc} (h : Same l m) : l.length = m.length := by
  induction h with
  | nil => rfl
  | cons _ _ ih => simp [ih]
theorem spec_bad {x : Pc} {f : List Int} {out : List Pc} {t : List Pc} (g : Good x) (hl : f.length ≤ 1000) (ho : out.length < 4398046511104) (h : implOne x f = none) : specUnframed (x :: t) f out = some ([], ⟨#[]⟩, false) := by
  obtain ⟨g1, g2, g3, g4⟩ := g
  unfold implOne at h
  simp only [specUnframed]
  rw [_root_.if_pos ho]
  have e1 : x.f0 ≠ 4 → (if x.f0 = 4 then (if zeroAt f = f.length then some (([] : List Pc), (⟨#[]⟩ : ByteArray), false) else specUnframed t (f.drop (zeroAt f + 1)) (out ++ [⟨4, 0, strOfNums (f.take (zeroAt f))⟩])) else if 1 ≤ x.f0 ∧ x.f0 ≤ 5 then (if manyOf x < 0 ∨ (f.length : Int) < manyOf x then some ([], ⟨#[]⟩, false) else specUnframed t (f.drop (manyOf x).toNat) (out ++ [⟨x.f0, if x.f0 = 5 then 0 else if x.f0 = 3 ∧ P.valOf f 4 ≥ 2147483648 then P.valOf f 4 - 4294967296 else P.valOf f (manyOf x).toNat, if x.f0 = 5 then strOfNums (f.take (manyOf x).toNat) else ⟨#[]⟩⟩])) else none) = (if manyOf x < 0 ∨ (f.length : Int) < manyOf x then some ([], ⟨#[]⟩, false) else specUnframed t (f.drop (manyOf x).toNat) (out ++ [⟨x.f0, if x.f0 = 5 then 0 else if x.f0 = 3 ∧ P.valOf f 4 ≥ 2147483648 then P.valOf f 4 - 4294967296 else P.valOf f (manyOf x).toNat, if x.f0 = 5 then strOfNums (f.take (manyOf x).toNat) else ⟨#[]⟩⟩])) := by
    intro h4
    rw [_root_.if_neg h4, _root_.if_pos ⟨g1, g2⟩]
  by_cases h4 : x.f0 = 4
  · rw [_root_.if_pos h4]
    rw [_root_.if_neg (by omega), _root_.if_neg (by omega), _root_.if_neg (by omega), _root_.if_pos h4] at h
    by_cases hz : (0 : Int) ∈ f
    · rw [_root_.if_pos hz] at h; exact absurd h (by simp)
    · rw [_root_.if_pos (zeroAt_none hz)]
  · rw [e1 h4]
    have hbad : manyOf x < 0 ∨ (f.length : Int) < manyOf x := by
      unfold manyOf
      by_cases h1 : x.f0 = 1
      · rw [_root_.if_pos h1] at h ⊢
        split at h
        · exact absurd h (by simp)
        · omega
      rw [_root_.if_neg h1] at h ⊢
      by_cases h2 : x.f0 = 2
      · rw [_root_.if_pos h2] at h ⊢
        split at h
        · exact absurd h (by simp)
        · omega
      rw [_root_.if_neg h2] at h ⊢
      by_cases h3 : x.f0 = 3
      · rw [_root_.if_pos h3] at h ⊢
        split at h
        · exact absurd h (by simp)
        · omega
      rw [_root_.if_neg h3] at h ⊢
      rw [_root_.if_neg h4] at h
      split at h
      · exact absurd h (by simp)
      · omega
    rw [_root_.if_pos hbad]
theorem spec_good {x : Pc} {f : List Int} {out : List Pc} {t : List Pc} {p : Pc} {g : List Int} (gx : Good x) (hb : Bytes f) (ho : out.length < 4398046511104) (h : implOne x f = some (p, g)) :
    ∃ q, Same1 p q ∧ specUnframed (x :: t) f out = specUnframed t g (out ++ [q]) := by
  obtain ⟨g1, g2, g3, g4⟩ := gx
  unfold implOne at h
  simp only [specUnframed]
  rw [_root_.if_pos ho]
  have b0 := hb.rd 0
  have b1 := hb.rd 1
  have b2 := hb.rd 2
  have b3 := hb.rd 3
  by_cases h4 : x.f0 = 4
  · rw [_root_.if_pos h4]
    rw [_root_.if_neg (by omega), _root_.if_neg (by omega), _root_.if_neg (by omega), _root_.if_pos h4] at h
    rcases split_at 0 f with hz | ⟨p', t', e, hz⟩
    · rw [_root_.if_neg hz] at h; exact absurd h (by simp)
    · have hm : (0 : Int) ∈ f := by rw [e]; simp
      rw [_root_.if_pos hm] at h
      simp only [Option.some.injEq, Prod.mk.injEq] at h
      obtain ⟨rfl, rfl⟩ := h
      have hza : zeroAt f = p'.length := by rw [e]; exact zeroAt_split hz
      rw [_root_.if_neg (by rw [hza, e]; simp)]
      exact ⟨_, ⟨rfl, rfl, fun _ => rfl⟩, rfl⟩
  rw [_root_.if_neg h4, _root_.if_pos ⟨g1, g2⟩]
  by_cases h1 : x.f0 = 1
  · rw [_root_.if_pos h1] at h
    split at h
    · rename_i hf
      simp only [Option.some.injEq, Prod.mk.injEq] at h
      obtain ⟨rfl, rfl⟩ := h
      have hm : manyOf x = 1 := by unfold manyOf; simp [h1]
      rw [hm, _root_.if_neg (by omega)]
      refine ⟨⟨1, rd f 0, ⟨#[]⟩⟩, ⟨rfl, rfl, fun _ => rfl⟩, ?_⟩
      rw [show (1 : Int).toNat = 1 from rfl, h1]
      rw [_root_.if_neg (by omega), _root_.if_neg (by omega)]
      rw [_root_.if_neg (by omega), show P.valOf f 1 = rd f 0 from by simp [P.valOf]]
    · exact absurd h (by simp)
  rw [_root_.if_neg h1] at h
  by_cases h2 : x.f0 = 2
  · rw [_root_.if_pos h2] at h
    split at h
    · rename_i hf
      simp only [Option.some.injEq, Prod.mk.injEq] at h
      obtain ⟨rfl, rfl⟩ := h
      have hm : manyOf x = 2 := by unfold manyOf; simp [h2]
      rw [hm, _root_.if_neg (by omega)]
      refine ⟨⟨2, rd f 0 * 256 + rd f 1, ⟨#[]⟩⟩, ⟨rfl, rfl, fun _ => rfl⟩, ?_⟩
      rw [show (2 : Int).toNat = 2 from rfl, h2]
      rw [_root_.if_neg (by omega), _root_.if_neg (by omega)]
      rw [_root_.if_neg (by omega), show P.valOf f 2 = rd f 0 * 256 + rd f 1 from by simp [P.valOf]]
    · exact absurd h (by simp)
  rw [_root_.if_neg h2] at h
  by_cases h3 : x.f0 = 3
  · rw [_root_.if_pos h3] at h
    split at h
    · rename_i hf
      simp only [Option.some.injEq, Prod.mk.injEq] at h
      obtain ⟨rfl, rfl⟩ := h
      have hm : manyOf x = 4 := by unfold manyOf; simp [h3]
      have hv : P.valOf f 4 = rd f 0 * 16777216 + rd f 1 * 65536 + rd f 2 * 256 + rd f 3 := by simp [P.valOf]; omega
      rw [hm, _root_.if_neg (by omega)]
      refine ⟨⟨3, IntKind.i32.wrap (rd f 0 * 16777216 + rd f 1 * 65536 + rd f 2 * 256 + rd f 3), ⟨#[]⟩⟩, ⟨rfl, rfl, fun _ => rfl⟩, ?_⟩
      have e : (if (3 : Int) = 3 ∧ P.valOf f 4 ≥ 2147483648 then P.valOf f 4 - 4294967296 else P.valOf f 4) = IntKind.i32.wrap (rd f 0 * 16777216 + rd f 1 * 65536 + rd f 2 * 256 + rd f 3) := by
        rw [hv, IntKind.wrap_i32]
        split <;> omega
      rw [show (4 : Int).toNat = 4 from rfl, h3, _root_.if_neg (by omega), e, _root_.if_neg (by omega)]
    · exact absurd h (by simp)
  rw [_root_.if_neg h3, _root_.if_neg h4] at h
  have h5 : x.f0 = 5 := by omega
  split at h
  · rename_i hf
    simp only [Option.some.injEq, Prod.mk.injEq] at h
    obtain ⟨rfl, rfl⟩ := h
    have hm : manyOf x = x.f1 := by unfold manyOf; simp [h5]
    rw [hm, _root_.if_neg (by omega)]
    refine ⟨⟨5, 0, strOfNums (f.take x.f1.toNat)⟩, ⟨rfl, rfl, fun h => absurd rfl h⟩, ?_⟩
    rw [h5, _root_.if_pos rfl, _root_.if_pos rfl]
  · exact absurd h (by simp)
/-- Both readers, side by side. -/
theorem both (l : List Pc) (hll : l.length ≤ 30) : ∀ (t : List Pc) (i : Nat) (f : List Int) (a b : List Pc), l.drop i = t → (∀ x ∈ t, Good x) → Bytes f → f.length ≤ 1000 → Same a b → a.length = i → i ≤ l.length →
    ∃ ra rb rest ok, Ev (fun k => impl_Unframed.l0 k l f a (i : Int)) (ra, rest, ok) ∧ specUnframed t f b = some (rb, rest, ok) ∧ (ok = true → Same ra rb) ∧ ra.length ≤ 30 := by
  intro t
  induction t with
  | nil =>
    intro i f a b h _ hb hl hs hi hle
    exact ⟨a, b, strOfNums f, true, impl_end h, rfl, fun _ => hs, by omega⟩
  | cons x t ih =>
    intro i f a b h hg hb hl hs hi hle
    obtain ⟨hx, hil, ht⟩ := rdT_at h
    have gx := hg x (by simp)
    have hbl := hs.length
    obtain ⟨s1, s2⟩ := impl_step (out := a) h ⟨gx.1, gx.2.1⟩ hb (by omega) (by omega) (by omega)
    cases e : implOne x f with
    | none => exact ⟨[], [], ⟨#[]⟩, false, s1 e, spec_bad gx hl (by omega) e, (fun h => by cases h), by simp⟩
    | some pg =>
      obtain ⟨p, g⟩ := pg
      obtain ⟨q, hq, hs2⟩ := spec_good (t := t) (out := b) gx hb (by omega) e
      obtain ⟨l1, l2⟩ := implOne_less e
      obtain ⟨ra, rb, rest, ok, r1, r2, r3, r4⟩ := ih (i + 1) g (a ++ [p]) (b ++ [q]) ht (fun y hy => hg y (by simp [hy])) (fun y hy => hb y (l2 y hy)) (by omega) (hs.snoc hq) (by simp [hi]) (by omega)
      exact ⟨ra, rb, rest, ok, s2 p g _ e r1, hs2.trans r2, r3, r4⟩
theorem same_l (a b : List Pc) (hl : a.length = b.length) (hn : a.length ≤ 1000) : ∀ (la lb : List Pc) (i : Nat), a.drop i = la → b.drop i = lb → Same la lb → Ev (fun k => laws_same7Pieces.l0 k a b (i : Int)) true := by
  intro la
  induction la with
  | nil =>
    intro lb i h1 h2 hs
    have h3 : a.length ≤ i := by simpa using h1
    refine Ev.step (fun k => laws_same7Pieces.l0.eq_2 _ _ _ _) <| Ev.if_neg (by omega) ?_
    exact Ev.to (beq_iff_eq.2 (by omega)) (Ev.step (fun k => laws_same7Pieces.j1.eq_2 _ _ _ _ _) <| Ev.if_neg (by simp) <| Ev.now _)
  | cons x t ih =>
    intro lb i h1 h2 hs
    cases hs with
    | cons hq hs' =>
      obtain ⟨e1, i1, d1⟩ := rdT_at h1
      obtain ⟨e2, i2, d2⟩ := rdT_at h2
      have ew : wrap64 ((i : Int) + 1) = ((i + 1 : Nat) : Int) := by rw [wrap64_id (by omega) (by omega)]; omega
      have hr := ih _ (i + 1) d1 d2 hs'
      refine Ev.step (fun k => laws_same7Pieces.l0.eq_2 _ _ _ _) <| Ev.if_pos (by omega) ?_
      rw [decide_eq_true (show (i : Int) < (b.length : Int) by omega)]
      refine Ev.step (fun k => laws_same7Pieces.j1.eq_2 _ _ _ _ _) <| Ev.if_pos rfl <| Ev.if_pos (by omega) <| Ev.if_pos (by omega) <| Ev.if_pos (by omega) ?_
      rw [e1, e2, ew]
      refine Ev.if_pos hq.1 <| Ev.if_pos (by rw [hq.2.1]) ?_
      by_cases h5 : x.f0 = 5
      · exact Ev.if_pos h5 hr
      · exact Ev.if_neg h5 <| Ev.if_pos (hq.2.2 h5) hr
theorem fits7 (l : List Pc) (hl : l.length ≤ 2305843009213693952) : ∃ b, Ev (fun k => laws_zzFits7.f k l) b := by
  have go : ∀ (t : List Pc) (i : Nat), l.drop i = t → ∃ b, Ev (fun k => laws_zzFits7.l0 k l (l.length : Int) (i : Int)) b := by
    intro t
    induction t with
    | nil =>
      intro i h
      have h3 : l.length ≤ i := by simpa using h
      exact ⟨true, Ev.step (fun k => laws_zzFits7.l0.eq_2 _ _ _ _) <| Ev.if_neg (by omega) <| Ev.now _⟩
    | cons x t ih =>
      intro i h
      obtain ⟨e1, i1, d1⟩ := rdT_at h
      have ew : wrap64 ((i : Int) + 1) = ((i + 1 : Nat) : Int) := by rw [wrap64_id (by omega) (by omega)]; omega
      obtain ⟨b, hb⟩ := ih (i + 1) d1
      by_cases hz : (x.f2.size : Int) > 2147483647
      · refine ⟨false, Ev.step (fun k => laws_zzFits7.l0.eq_2 _ _ _ _) <| Ev.if_pos (by omega) <| Ev.if_pos (by omega) <| Ev.if_pos (by omega) ?_⟩
        rw [e1]
        exact Ev.bind (Ev.const (show laws_zzFits8.f x.f0 x.f1 x.f2 = some false by unfold laws_zzFits8.f; rw [_root_.if_pos hz])) <| Ev.if_neg (by simp) <| Ev.now _
      · refine ⟨b, Ev.step (fun k => laws_zzFits7.l0.eq_2 _ _ _ _) <| Ev.if_pos (by omega) <| Ev.if_pos (by omega) <| Ev.if_pos (by omega) ?_⟩
        rw [e1, ew]
        exact Ev.bind (Ev.const (show laws_zzFits8.f x.f0 x.f1 x.f2 = some true by unfold laws_zzFits8.f; rw [_root_.if_neg hz])) <| Ev.if_pos rfl hb
  unfold laws_zzFits7.f
  by_cases hz : (l.length : Int) > 2147483647
  · exact ⟨false, Ev.if_pos hz <| Ev.now _⟩
  · obtain ⟨b, hb⟩ := go l 0 rfl
    exact ⟨b, Ev.if_neg hz hb⟩
/-- What the law asks of kinds that are looked at. -/
def Tail (k : Nat) (s : ByteArray) (l : List Pc) : Option Bool := ((spec_Unframed.f s l).bind fun bt116 => ((impl_Unframed.f k s l).bind fun bt121 => (if bt116.2.2 = true then (if bt121.2.2 = true then (if bt121.2.1.toList = bt116.2.1.toList then ((laws_same7Pieces.f k bt121.1 bt116.1).bind fun t126 => (some t126)) else (some false)) else (some false)) else ((impl_Unframed.f k (⟨#[97]⟩ : ByteArray) (([(⟨1, 0, (⟨#[]⟩ : ByteArray)⟩ : Pc)] : List Pc))).bind fun bt130 => (if bt121.2.2 = true then (some false) else (some bt130.2.2))))))
theorem tail (s : ByteArray) (l : List Pc) (hs : s.size ≤ 1000) (hl : l.length ≤ 30) (hg : ∀ x ∈ l, Good x) : Ev (fun k => Tail k s l) true := by
  obtain ⟨ra, rb, rest, ok, r1, r2, r3, r4⟩ := both l hl l 0 (bytesOf s) [] [] rfl hg (bytesOf_bytes s) (by rw [bytesOf_length]; omega) .nil rfl (by omega)
  have h1 : spec_Unframed.f s l = some (rb, rest, ok) := by unfold spec_Unframed.f; rw [_root_.if_pos (by omega)]; exact r2
  have h2 : Ev (fun k => impl_Unframed.f k s l) (ra, rest, ok) := by unfold impl_Unframed.f; exact Ev.if_pos (by omega) r1
  unfold Tail
  refine Ev.bind (Ev.const h1) <| Ev.bind h2 ?_
  cases ok with
  | true =>
    have hsm := r3 rfl
    refine Ev.if_pos rfl <| Ev.if_pos rfl <| Ev.if_pos rfl ?_
    exact Ev.bind (show Ev (fun k => laws_same7Pieces.f k ra rb) true from same_l ra rb hsm.length (by omega) ra rb 0 rfl rfl hsm) <| Ev.now _
  | false =>
    refine Ev.if_neg (by simp) ?_
    have h3 : Ev (fun k => impl_Unframed.f k (⟨#[97]⟩ : ByteArray) (([(⟨1, 0, (⟨#[]⟩ : ByteArray)⟩ : Pc)] : List Pc))) ([⟨1, 97, ⟨#[]⟩⟩], ⟨#[]⟩, true) := by
      unfold impl_Unframed.f
      refine Ev.if_pos (by decide) ?_
      have hb : Bytes (bytesOf (⟨#[97]⟩ : ByteArray)) := bytesOf_bytes _
      have hll : (bytesOf (⟨#[97]⟩ : ByteArray)).length ≤ 1000 := by decide
      obtain ⟨_, s2⟩ := impl_step (l := [(⟨1, 0, (⟨#[]⟩ : ByteArray)⟩ : Pc)]) (i := 0) (f := bytesOf (⟨#[97]⟩ : ByteArray)) (out := []) rfl ⟨by decide, by decide⟩ hb (by omega) (by decide) (by decide)
      exact s2 ⟨1, 97, ⟨#[]⟩⟩ [] _ (by rfl) (impl_end rfl)
    exact Ev.bind h3 <| Ev.if_neg (by simp) <| Ev.now _
theorem guard (s : ByteArray) (l : List Pc) (hl : l.length ≤ 30) (hfin : (∀ x ∈ l, Good x) → Ev (fun k => Tail k s l) true) : ∀ (t : List Pc) (i : Nat), l.drop i = t → (∀ x ∈ l.take i, Good x) → Ev (fun k => laws_FnUnframed.l0 k s l (i : Int)) true := by
  intro t
  induction t with
  | nil =>
    intro i h hg
    have h3 : l.length ≤ i := by simpa using h
    rw [List.take_of_length_le h3] at hg
    exact Ev.step (fun k => laws_FnUnframed.l0.eq_2 _ _ _ _) <| Ev.if_neg (by omega) <| hfin hg
  | cons x t ih =>
    intro i h hg
    obtain ⟨e1, i1, d1⟩ := rdT_at h
    have ew : wrap64 ((i : Int) + 1) = ((i + 1 : Nat) : Int) := by rw [wrap64_id (by omega) (by omega)]; omega
    refine Ev.step (fun k => laws_FnUnframed.l0.eq_2 _ _ _ _) <| Ev.if_pos (by omega) <| Ev.if_pos (by omega) ?_
    rw [e1, ew]
    by_cases c1 : x.f0 < 1
    · exact Ev.if_pos c1 <| Ev.now _
    refine Ev.if_neg c1 ?_
    by_cases c2 : x.f0 > 5
    · exact Ev.if_pos c2 <| Ev.now _
    refine Ev.if_neg c2 ?_
    by_cases c3 : x.f2.toList = ([] : List UInt8)
    · refine Ev.if_pos c3 ?_
      by_cases c4 : x.f1 < 0
      · exact Ev.if_pos c4 <| Ev.now _
      refine Ev.if_neg c4 ?_
      by_cases c5 : x.f1 > 2000
      · exact Ev.if_pos c5 <| Ev.now _
      refine Ev.if_neg c5 ?_
      have hx : Good x := ⟨by omega, by omega, by omega, by omega⟩
      have hr := ih (i + 1) d1 (by
        intro y hy
        rw [List.take_add_one, List.getElem?_eq_getElem i1] at hy
        rcases List.mem_append.1 hy with hy | hy
        · exact hg y hy
        · have : l[i] = x := by rw [List.drop_eq_getElem_cons i1] at h; injection h
          simp at hy
          rw [hy, this]; exact hx)
      by_cases c6 : x.f0 = 5
      · exact Ev.if_pos c6 hr
      refine Ev.if_neg c6 ?_
      by_cases c7 : x.f1 = 0
      · exact Ev.if_pos c7 hr
      · exact Ev.if_neg c7 <| Ev.now _
    · exact Ev.if_neg c3 <| Ev.now _
theorem law (s : ByteArray) (l : List Pc) (hl : l.length * 32 ≤ 140737488351232) : Ev (fun k => laws_FnUnframed.f k s l) true := by
  have j1 : ∀ b, (b = false → s.size ≤ 1000 ∧ l.length ≤ 30) → Ev (fun k => laws_FnUnframed.j1 k s l b) true := by
    intro b hb
    refine Ev.step (fun k => laws_FnUnframed.j1.eq_2 _ _ _ _) ?_
    by_cases h : b = true
    · exact Ev.if_pos h <| Ev.now _
    · obtain ⟨h1, h2⟩ := hb (by simpa using h)
      exact Ev.if_neg h <| guard s l h2 (tail s l h1 h2) l 0 rfl (by simp)
  have j0 : ∀ b, Ev (fun k => laws_FnUnframed.j0 k s l b) true := by
    intro b
    refine Ev.step (fun k => laws_FnUnframed.j0.eq_2 _ _ _ _) ?_
    by_cases h : b = true
    · exact Ev.if_pos h <| Ev.now _
    refine Ev.if_neg h ?_
    by_cases h2 : (s.size : Int) > 1000
    · exact Ev.if_pos h2 <| j1 _ (fun h => by cases h)
    · exact Ev.if_neg h2 <| j1 _ (fun h => by simp at h; omega)
  unfold laws_FnUnframed.f
  by_cases h : (s.size : Int) > 2147483647
  · exact Ev.if_pos h <| j0 _
  · obtain ⟨b, hb⟩ := fits7 l (by omega)
    exact Ev.if_neg h <| Ev.bind hb <| j0 _
theorem FnUnframed (s : ByteArray) (l : List Pc) (_hs : s.size ≤ 140737488351232) (hl : l.length * 32 ≤ 140737488351232) (_hg : ∀ a ∈ l, (Lit.int .i64 a.f0).wf = true ∧ (Lit.int .i64 a.f1).wf = true ∧ a.f2.size ≤ maxLen) : ∃ k, laws_FnUnframed.f k s l = some true := Ev.rounds (law s l hl)

end Go.Proofs.Ythcikkjjegfblab.Pure
