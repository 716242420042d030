/- FnFrameBack, for every code and pieces: pieces that are written as a message are read from its body as they were (at most 30 pieces, by the law's own guard).
   Conditions: none beyond the form's own bounds on the sizes. -/
import Derived.Test.YthcikkjjegfblabPx8
import Derived.Test.YthcikkjjegfblabPx4
import Derived.Test.YthcikkjjegfblabPx2
import Derived.Test.YthcikkjjegfblabLibUnframe
import Derived.Test.YthcikkjjegfblabLibFrame
namespace Go.Proofs.Ythcikkjjegfblab.Pure.Back
open Go.RowKit Go.Proofs.Ythcikkjjegfblab.P Go.Proofs.YthcikkjjegfblabW.PrintWords Go.Proofs.YthcikkjjegfblabW.PrintLast Go.Proofs.YthcikkjjegfblabW.PrintMore Go.Proofs.Ythcikkjjegfblab.Lib

/-- Pieces that count as the same. -/
def Same1 (a b : Pc) : Prop := a.f0 = b.f0 ∧ a.f2 = b.f2 ∧ (a.f0 ≠ 5 → a.f1 = b.f1)
inductive Same : List Pc → List Pc → Prop
  | nil : Same [] []
  | cons {a b : Pc} {l m : List Pc} : Same1 a b → Same l m → Same (a :: l) (b :: m)
theorem Same.length {l m : List Pc} (h : Same l m) : l.length = m.length := by
  induction h with
  | nil => rfl
  | cons _ _ ih => simp [ih]
theorem same_l (a b : List Pc) (hl : a.length = b.length) (hn : a.length ≤ 1000) : ∀ (la lb : List Pc) (i : Nat), a.drop i = la → b.drop i = lb → Same la lb → Ev (fun k => laws_same7Pieces.l0 k a b (i : Int)) true := by
  intro la
  induction la with
  | nil =>
    intro lb i h1 h2 hs
    have h3 : a.length ≤ i := by simpa using h1
    refine Ev.step (fun k => laws_same7Pieces.l0.eq_2 _ _ _ _) <| Ev.if_neg (by omega) ?_
    exact Ev.to (beq_iff_eq.2 (by omega)) (Ev.step (fun k => laws_same7Pieces.j1.eq_2 _ _ _ _ _) <| Ev.if_neg (by simp) <| Ev.now _)
  | cons x t ih =>
    intro lb i h1 h2 hs
    cases hs with
    | cons hq hs' =>
      obtain ⟨e1, i1, d1⟩ := rdT_at h1
      obtain ⟨e2, i2, d2⟩ := rdT_at h2
      have ew : wrap64 ((i : Int) + 1) = ((i + 1 : Nat) : Int) := by rw [wrap64_id (by omega) (by omega)]; omega
      have hr := ih _ (i + 1) d1 d2 hs'
      refine Ev.step (fun k => laws_same7Pieces.l0.eq_2 _ _ _ _) <| Ev.if_pos (by omega) ?_
      rw [decide_eq_true (show (i : Int) < (b.length : Int) by omega)]
      refine Ev.step (fun k => laws_same7Pieces.j1.eq_2 _ _ _ _ _) <| Ev.if_pos rfl <| Ev.if_pos (by omega) <| Ev.if_pos (by omega) <| Ev.if_pos (by omega) ?_
      rw [e1, e2, ew]
      refine Ev.if_pos hq.1 <| Ev.if_pos (by rw [hq.2.1]) ?_
      by_cases h5 : x.f0 = 5
      · exact Ev.if_pos h5 hr
      · exact Ev.if_neg h5 <| Ev.if_pos (hq.2.2 h5) hr
theorem fits7 (l : List Pc) (hl : l.length ≤ 2305843009213693952) : ∃ b, Ev (fun k => laws_zzFits7.f k l) b ∧ (b = true → ∀ x ∈ l, x.f2.size ≤ 2147483647) := by
  have go : ∀ (t : List Pc) (i : Nat), l.drop i = t → ∃ b, Ev (fun k => laws_zzFits7.l0 k l (l.length : Int) (i : Int)) b ∧ (b = true → ∀ x ∈ t, x.f2.size ≤ 2147483647) := by
    intro t
    induction t with
    | nil =>
      intro i h
      have h3 : l.length ≤ i := by simpa using h
      exact ⟨true, Ev.step (fun k => laws_zzFits7.l0.eq_2 _ _ _ _) <| Ev.if_neg (by omega) <| Ev.now _, fun _ x hx => by cases hx⟩
    | cons x t ih =>
      intro i h
      obtain ⟨e1, i1, d1⟩ := rdT_at h
      have ew : wrap64 ((i : Int) + 1) = ((i + 1 : Nat) : Int) := by rw [wrap64_id (by omega) (by omega)]; omega
      obtain ⟨b, hb, hg⟩ := ih (i + 1) d1
      by_cases hz : (x.f2.size : Int) > 2147483647
      · refine ⟨false, Ev.step (fun k => laws_zzFits7.l0.eq_2 _ _ _ _) <| Ev.if_pos (by omega) <| Ev.if_pos (by omega) <| Ev.if_pos (by omega) ?_, fun h => by cases h⟩
        rw [e1]
        exact Ev.bind (Ev.const (show laws_zzFits8.f x.f0 x.f1 x.f2 = some false by unfold laws_zzFits8.f; rw [_root_.if_pos hz])) <| Ev.if_neg (by simp) <| Ev.now _
      · refine ⟨b, Ev.step (fun k => laws_zzFits7.l0.eq_2 _ _ _ _) <| Ev.if_pos (by omega) <| Ev.if_pos (by omega) <| Ev.if_pos (by omega) ?_, fun h y hy => ?_⟩
        · rw [e1, ew]
          exact Ev.bind (Ev.const (show laws_zzFits8.f x.f0 x.f1 x.f2 = some true by unfold laws_zzFits8.f; rw [_root_.if_neg hz])) <| Ev.if_pos rfl hb
        · rcases List.mem_cons.1 hy with rfl | hy
          · omega
          · exact hg h y hy
  unfold laws_zzFits7.f
  by_cases hz : (l.length : Int) > 2147483647
  · exact ⟨false, Ev.if_pos hz <| Ev.now _, fun h => by cases h⟩
  · obtain ⟨b, hb, hg⟩ := go l 0 rfl
    exact ⟨b, Ev.if_neg hz hb, hg⟩
theorem empty_of {s : ByteArray} (h : s.toList = ([] : List UInt8)) : s = ⟨#[]⟩ := by
  have h2 : bytesOf s = bytesOf ⟨#[]⟩ := toList_eq_iff.1 (h.trans ByteArray.toList_empty.symm)
  rw [← strOfNums_bytes s, h2]
  rfl
/-- A piece that the reference writes is read again. -/
theorem one_back {x : Pc} {ys f : List Int} (h : specPiece x = some ys) : ∃ p, implOne (fbKind x) (ys ++ f) = some (p, f) ∧ Same1 p x ∧ Bytes ys ∧ 1 ≤ (fbKind x).f0 ∧ (fbKind x).f0 ≤ 5 := by
  unfold specPiece at h
  have e0 : (fbKind x).f0 = x.f0 := rfl
  unfold implOne
  rw [e0]
  by_cases h1 : x.f0 = 1 ∧ 0 ≤ x.f1 ∧ x.f1 < 256 ∧ x.f2.toList = ([] : List UInt8)
  · rw [_root_.if_pos h1, Option.some.injEq] at h
    subst h
    have e : IntKind.u64.wrap x.f1 % 256 = x.f1 := by rw [IntKind.wrap_u64]; omega
    rw [_root_.if_pos h1.1, _root_.if_pos (by simp), e]
    exact ⟨_, rfl, ⟨h1.1.symm, (empty_of h1.2.2.2).symm, fun _ => rfl⟩, fun y hy => by simp at hy; omega, by omega, by omega⟩
  rw [_root_.if_neg h1] at h
  by_cases h2 : x.f0 = 2 ∧ 0 ≤ x.f1 ∧ x.f1 < 65536 ∧ x.f2.toList = ([] : List UInt8)
  · rw [_root_.if_pos h2, Option.some.injEq] at h
    subst h
    have e : IntKind.u64.wrap x.f1 = x.f1 := by rw [IntKind.wrap_u64]; omega
    rw [e, _root_.if_neg (by omega), _root_.if_pos h2.1, _root_.if_pos (by simp)]
    refine ⟨_, rfl, ⟨h2.1.symm, (empty_of h2.2.2.2).symm, fun _ => ?_⟩, fun y hy => by simp at hy; omega, by omega, by omega⟩
    show x.f1 / 256 % 256 * 256 + x.f1 % 256 = x.f1
    omega
  rw [_root_.if_neg h2] at h
  by_cases h3 : x.f0 = 3 ∧ -2147483648 ≤ x.f1 ∧ x.f1 < 2147483648 ∧ x.f2.toList = ([] : List UInt8)
  · rw [_root_.if_pos h3, Option.some.injEq] at h
    subst h
    rw [_root_.if_neg (by omega), _root_.if_neg (by omega), _root_.if_pos h3.1, _root_.if_pos (by simp)]
    refine ⟨_, rfl, ⟨h3.1.symm, (empty_of h3.2.2.2).symm, fun _ => ?_⟩, fun y hy => by simp at hy; omega, by omega, by omega⟩
    show IntKind.i32.wrap (IntKind.u64.wrap x.f1 / 16777216 % 256 * 16777216 + IntKind.u64.wrap x.f1 / 65536 % 256 * 65536 + IntKind.u64.wrap x.f1 / 256 % 256 * 256 + IntKind.u64.wrap x.f1 % 256) = x.f1
    have e : IntKind.u64.wrap x.f1 / 16777216 % 256 * 16777216 + IntKind.u64.wrap x.f1 / 65536 % 256 * 65536 + IntKind.u64.wrap x.f1 / 256 % 256 * 256 + IntKind.u64.wrap x.f1 % 256 = x.f1 % 4294967296 := by
      rw [IntKind.wrap_u64]
      have e1 : x.f1 % 18446744073709551616 % 4294967296 = x.f1 % 4294967296 := by omega
      generalize x.f1 % 18446744073709551616 = a at e1 ⊢
      omega
    rw [e, IntKind.wrap_i32]
    omega
  rw [_root_.if_neg h3] at h
  by_cases h4 : x.f0 = 4 ∧ x.f1 = 0 ∧ (0 : Int) ∉ bytesOf x.f2
  · rw [_root_.if_pos h4, Option.some.injEq] at h
    subst h
    have ea : bytesOf x.f2 ++ [0] ++ f = bytesOf x.f2 ++ 0 :: f := by simp
    rw [_root_.if_neg (by omega), _root_.if_neg (by omega), _root_.if_neg (by omega), _root_.if_pos h4.1, ea, _root_.if_pos (by simp), zeroAt_split h4.2.2]
    refine ⟨⟨4, 0, x.f2⟩, ?_, ⟨h4.1.symm, rfl, fun _ => h4.2.1.symm⟩, fun y hy => ?_, by omega, by omega⟩
    · rw [List.take_left, strOfNums_bytes]
      have : (bytesOf x.f2 ++ 0 :: f).drop ((bytesOf x.f2).length + 1) = f := by
        rw [List.drop_append]; simp
      rw [this]
    · rcases List.mem_append.1 hy with hy | hy
      · exact bytesOf_bytes _ y hy
      · simp at hy; omega
  rw [_root_.if_neg h4] at h
  by_cases h5 : x.f0 = 5 ∧ x.f1 = 0
  · rw [_root_.if_pos h5, Option.some.injEq] at h
    subst h
    have e1 : (fbKind x).f1 = ((bytesOf x.f2).length : Int) := by unfold fbKind; simp only [_root_.if_pos h5.1, bytesOf_length]
    rw [_root_.if_neg (by omega), _root_.if_neg (by omega), _root_.if_neg (by omega), _root_.if_neg (by omega), e1, _root_.if_pos ⟨by omega, by simp only [List.length_append]; omega⟩]
    refine ⟨⟨5, ((bytesOf x.f2).length : Int), x.f2⟩, ?_, ⟨h5.1.symm, rfl, fun h => absurd rfl h⟩, fun y hy => bytesOf_bytes _ y hy, by omega, by omega⟩
    rw [Int.toNat_natCast, List.take_left, List.drop_left, strOfNums_bytes]
  · rw [_root_.if_neg h5] at h; cases h
theorem back {t : List Pc} : ∀ {out r : List Int}, specPieces t out = some r → out.length ≤ 20000 → ∃ s, r = out ++ s ∧ Bytes s ∧ ∀ (l : List Pc) (i : Nat) (a : List Pc), l.length ≤ 30 → l.drop i = t.map fbKind → a.length = i → i ≤ l.length →
    ∃ ra, Ev (fun k => impl_Unframed.l0 k l s a (i : Int)) (a ++ ra, ⟨#[]⟩, true) ∧ Same ra t := by
  induction t with
  | nil =>
    intro out r h ho
    simp only [specPieces, Option.some.injEq] at h
    subst h
    refine ⟨[], by simp, (fun y hy => by cases hy), fun l i a hl hd ha hi => ⟨[], ?_, .nil⟩⟩
    rw [List.append_nil]
    exact impl_end hd
  | cons x t ih =>
    intro out r h ho
    have hrl := specPieces_len h ho
    simp only [specPieces] at h
    cases e : specPiece x with
    | none => rw [e] at h; cases h
    | some ys =>
      rw [e] at h
      simp only at h
      by_cases hb : out.length + ys.length ≤ 20000
      · rw [_root_.if_pos hb] at h
        obtain ⟨s, hs, hbs, go⟩ := ih h (by rw [List.length_append]; exact hb)
        obtain ⟨p, hp, hsm, hby, k1, k5⟩ := one_back (f := s) e
        refine ⟨ys ++ s, by rw [hs, List.append_assoc], fun y hy => ?_, fun l i a hl hd ha hi => ?_⟩
        · rcases List.mem_append.1 hy with hy | hy
          · exact hby y hy
          · exact hbs y hy
        · rw [List.map_cons] at hd
          obtain ⟨hx, hil, ht⟩ := rdT_at hd
          have hby2 : Bytes (ys ++ s) := fun y hy => by
            rcases List.mem_append.1 hy with hy | hy
            · exact hby y hy
            · exact hbs y hy
          have hlen : (ys ++ s).length ≤ 20000 := by
            have : r.length = out.length + (ys ++ s).length := by rw [hs]; simp only [List.length_append]; omega
            omega
          obtain ⟨_, s2⟩ := impl_step (out := a) hd ⟨k1, k5⟩ hby2 (by omega) (by omega) (by omega)
          obtain ⟨ra, hra, hsa⟩ := go l (i + 1) (a ++ [p]) hl ht (by simp [ha]) (by omega)
          exact ⟨p :: ra, Ev.to (by simp) (s2 p s _ hp hra), .cons hsm hsa⟩
      · rw [_root_.if_neg hb] at h; cases h
theorem law (c : Int) (l : List Pc) (hl : l.length * 32 ≤ 140737488351232) : Ev (fun k => laws_FnFrameBack.f k c l) true := by
  obtain ⟨b, hb, hg⟩ := fits7 l (by omega)
  unfold laws_FnFrameBack.f
  refine Ev.bind hb ?_
  by_cases hbt : b = true
  case neg => exact Ev.if_neg hbt <| Ev.now _
  refine Ev.if_pos hbt ?_
  by_cases hc : c = 0
  · exact Ev.if_pos hc <| Ev.now _
  refine Ev.if_neg hc ?_
  unfold laws_FnFrameBack.j0
  by_cases h30 : (l.length : Int) > 30
  · exact Ev.if_pos (decide_eq_true h30) <| Ev.now _
  refine Ev.if_neg (by simpa using h30) ?_
  have hsz := hg hbt
  refine Ev.bind (pieces l (by omega) (fun x hx => by have := hsz x hx; omega)) ?_
  cases hp : specPieces l [] with
  | none => exact Ev.if_neg (by simp [told]) <| Ev.now _
  | some r =>
    have hr := specPieces_len hp (Nat.zero_le _)
    refine Ev.if_pos rfl ?_
    have hf : specFramed [(⟨c, l⟩ : FMs)] [] = some (hdr c ((r.length + 4 : Nat) : Int) ++ r) := by
      simp only [specFramed, hp]
      rw [_root_.if_neg hc]
      rfl
    have hi := implFramed_of hf (by simp) (by simp) (fun m hm x hx => by
      simp at hm
      subst hm
      have := hsz x hx
      omega)
    refine Ev.bind (Ev.const hi) <| Ev.if_pos rfl ?_
    have hlen : (strOfNums (hdr c ((r.length + 4 : Nat) : Int) ++ r)).size = (hdr c ((r.length + 4 : Nat) : Int) ++ r).length := strOfNums_size _
    have h5 : (hdr c ((r.length + 4 : Nat) : Int)).length = 5 := rfl
    have hcut : (strOfNums (hdr c ((r.length + 4 : Nat) : Int) ++ r)).extract 5 (strOfNums (hdr c ((r.length + 4 : Nat) : Int) ++ r)).size = strOfNums r := by
      rw [hlen, strOfNums_rest]
      rfl
    unfold laws_FnFrameBack.e0
    refine Ev.if_pos (by rw [hlen, List.length_append, h5]; omega) ?_
    rw [hcut]
    obtain ⟨s, hs, hbs, go⟩ := back hp (Nat.zero_le _)
    rw [List.nil_append] at hs
    subst hs
    obtain ⟨ra, hra, hsa⟩ := go (l.map fbKind) 0 [] (by rw [List.length_map]; omega) rfl rfl (Nat.zero_le _)
    rw [List.nil_append] at hra
    have hu : Ev (fun k => impl_Unframed.f k (strOfNums r) (l.map fbKind)) (ra, ⟨#[]⟩, true) := by
      unfold impl_Unframed.f
      refine Ev.if_pos (by rw [strOfNums_size]; omega) ?_
      rw [bytesOf_strOfNums' hbs]
      exact hra
    refine Ev.bind hu <| Ev.if_pos ⟨rfl, rfl⟩ ?_
    have := hsa.length
    exact (show Ev (fun k => laws_same7Pieces.f k ra l) true from same_l ra l this (by omega) ra l 0 rfl rfl hsa)
end Go.Proofs.Ythcikkjjegfblab.Pure.Back
namespace Go.Proofs.Ythcikkjjegfblab.Pure
open Go.RowKit Go.Proofs.Ythcikkjjegfblab.P Go.Proofs.YthcikkjjegfblabW.PrintWords Go.Proofs.YthcikkjjegfblabW.PrintLast Go.Proofs.YthcikkjjegfblabW.PrintMore Go.Proofs.Ythcikkjjegfblab.Lib
theorem FnFrameBack (c : Int) (l : List Pc) (_hc : (Lit.int .u8 c).wf = true) (hl : l.length * 32 ≤ 140737488351232) (_hg : ∀ a ∈ l, (Lit.int .i64 a.f0).wf = true ∧ (Lit.int .i64 a.f1).wf = true ∧ a.f2.size ≤ maxLen) : ∃ k, laws_FnFrameBack.f k c l = some true := Ev.rounds (Back.law c l hl)

end Go.Proofs.Ythcikkjjegfblab.Pure
