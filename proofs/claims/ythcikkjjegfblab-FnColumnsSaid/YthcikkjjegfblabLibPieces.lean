/- What writing pieces comes to, of the reference. Conditions: named by each lemma. -/
import Derived.Test.YthcikkjjegfblabPx3
import Derived.Test.YthcikkjjegfblabPx2
import Derived.Test.YthcikkjjegfblabPx1
import Derived.Test.YthcikkjjegfblabLib
namespace Go.Proofs.Ythcikkjjegfblab.Lib
open Go.RowKit Go.Proofs.Ythcikkjjegfblab.P Go.Proofs.YthcikkjjegfblabW.PrintWords Go.Proofs.YthcikkjjegfblabW.PrintLast Go.Proofs.YthcikkjjegfblabW.PrintMore

set_option linter.unusedSimpArgs false
abbrev FPc := S25
theorem strOfNums_append (a b : List Int) : strOfNums (a ++ b) = strOfNums a ++ strOfNums b := by
  apply ByteArray.ext
  simp [strOfNums]
theorem strOfNums_bytes (s : ByteArray) : strOfNums (bytesOf s) = s := strOfNums_of s
def specPiece (x : FPc) : Option (List Int) :=
  if x.f0 = 1 ∧ 0 ≤ x.f1 ∧ x.f1 < 256 ∧ x.f2.toList = ([] : List UInt8) then some [IntKind.u64.wrap x.f1 % 256]
  else if x.f0 = 2 ∧ 0 ≤ x.f1 ∧ x.f1 < 65536 ∧ x.f2.toList = ([] : List UInt8) then some [IntKind.u64.wrap x.f1 / 256 % 256, IntKind.u64.wrap x.f1 % 256]
  else if x.f0 = 3 ∧ -2147483648 ≤ x.f1 ∧ x.f1 < 2147483648 ∧ x.f2.toList = ([] : List UInt8) then some [IntKind.u64.wrap x.f1 / 16777216 % 256, IntKind.u64.wrap x.f1 / 65536 % 256, IntKind.u64.wrap x.f1 / 256 % 256, IntKind.u64.wrap x.f1 % 256]
  else if x.f0 = 4 ∧ x.f1 = 0 ∧ (0 : Int) ∉ bytesOf x.f2 then some (bytesOf x.f2 ++ [0])
  else if x.f0 = 5 ∧ x.f1 = 0 then some (bytesOf x.f2)
  else none
def told : Option (List Int) → ByteArray × Bool
  | some ys => (strOfNums ys, true)
  | none => (⟨#[]⟩, false)
theorem hasZero_l (s : ByteArray) (hs : s.size ≤ 2305843009213693952) : ∀ (l : List Int) (i : Int), At (bytesOf s) i l → Ev (fun k => spec_hasZero.l0 k s i) (decide ((0 : Int) ∈ l)) := by
  intro l
  induction l with
  | nil =>
    intro i h
    exact Ev.to (by simp) (Ev.step (fun k => spec_hasZero.l0.eq_2 _ _ _) <| Ev.if_neg (by have := h.snil; omega) <| Ev.now false)
  | cons c t ih =>
    intro i h
    have h0 := h.nonneg
    have hlt := h.slt
    have e2 : wrap64 (i + 1) = i + 1 := wrap64_id (by omega) (by omega)
    refine Ev.step (fun k => spec_hasZero.l0.eq_2 _ _ _) <| Ev.if_pos hlt <| Ev.if_pos h0 ?_
    rw [h.bt, e2]
    by_cases hc : c = 0
    · exact Ev.to (by simp [hc]) (Ev.if_pos hc <| Ev.now true)
    · exact Ev.to (by simp [show ¬ (0 : Int) = c from fun e => hc e.symm]) (Ev.if_neg hc <| ih _ h.tail)
theorem hasZero (s : ByteArray) (hs : s.size ≤ 2305843009213693952) : Ev (fun k => spec_hasZero.f k s) (decide ((0 : Int) ∈ bytesOf s)) := hasZero_l s hs _ 0 (At.zero _)
theorem pieceBytes (x : FPc) (hs : x.f2.size ≤ 2305843009213693952) : Ev (fun k => spec_PieceBytes.f k x.f0 x.f1 x.f2) (told (specPiece x)) := by
  have j3 : ∀ b : Bool, (x.f0 = 1 ∧ 0 ≤ x.f1 ∧ x.f1 < 256 ∧ x.f2.toList = ([] : List UInt8)) = False → (x.f0 = 2 ∧ 0 ≤ x.f1 ∧ x.f1 < 65536 ∧ x.f2.toList = ([] : List UInt8)) = False → (x.f0 = 3 ∧ -2147483648 ≤ x.f1 ∧ x.f1 < 2147483648 ∧ x.f2.toList = ([] : List UInt8)) = False → b = decide (x.f0 = 4 ∧ x.f1 = 0 ∧ (0 : Int) ∉ bytesOf x.f2) → Ev (fun k => spec_PieceBytes.j3 k b x.f0 x.f1 x.f2) (told (specPiece x)) := by
    intro b n1 n2 n3 hb
    refine Ev.step (fun k => spec_PieceBytes.j3.eq_2 _ _ _ _ _) ?_
    unfold specPiece
    simp only [n1, n2, n3, if_false]
    by_cases h4 : x.f0 = 4 ∧ x.f1 = 0 ∧ (0 : Int) ∉ bytesOf x.f2
    · rw [_root_.if_pos h4]
      exact Ev.if_pos (by rw [hb]; exact decide_eq_true h4) <| Ev.if_pos (by omega) <| Ev.to (by simp only [told, strOfNums_append, strOfNums_bytes]; rfl) (Ev.now _)
    · rw [_root_.if_neg h4]
      refine Ev.if_neg (by rw [hb]; simpa using h4) ?_
      by_cases h5 : x.f0 = 5 ∧ x.f1 = 0
      · rw [_root_.if_pos h5]
        exact Ev.if_pos h5.1 <| Ev.if_pos h5.2 <| Ev.to (by simp only [told, strOfNums_bytes]) (Ev.now _)
      · rw [_root_.if_neg h5]
        by_cases h50 : x.f0 = 5
        · exact Ev.if_pos h50 <| Ev.if_neg (fun h => h5 ⟨h50, h⟩) <| Ev.now _
        · exact Ev.if_neg h50 <| Ev.now _
  have j2 : ∀ b : Bool, (x.f0 = 1 ∧ 0 ≤ x.f1 ∧ x.f1 < 256 ∧ x.f2.toList = ([] : List UInt8)) = False → (x.f0 = 2 ∧ 0 ≤ x.f1 ∧ x.f1 < 65536 ∧ x.f2.toList = ([] : List UInt8)) = False → b = decide (x.f0 = 3 ∧ -2147483648 ≤ x.f1 ∧ x.f1 < 2147483648 ∧ x.f2.toList = ([] : List UInt8)) → Ev (fun k => spec_PieceBytes.j2 k (IntKind.u64.wrap x.f1) b x.f0 x.f1 x.f2) (told (specPiece x)) := by
    intro b n1 n2 hb
    refine Ev.step (fun k => spec_PieceBytes.j2.eq_2 _ _ _ _ _ _) ?_
    by_cases h3 : x.f0 = 3 ∧ -2147483648 ≤ x.f1 ∧ x.f1 < 2147483648 ∧ x.f2.toList = ([] : List UInt8)
    · refine Ev.if_pos (by rw [hb]; exact decide_eq_true h3) ?_
      unfold specPiece
      simp only [n1, n2, if_false, _root_.if_pos h3]
      exact Ev.now _
    · refine Ev.if_neg (by rw [hb]; simpa using h3) ?_
      have n3 := eq_false h3
      by_cases h4 : x.f0 = 4
      · refine Ev.if_pos h4 ?_
        by_cases h0 : x.f1 = 0
        · exact Ev.if_pos h0 <| Ev.bind (hasZero x.f2 hs) <| j3 _ n1 n2 n3 (by simp [h4, h0])
        · exact Ev.if_neg h0 <| j3 _ n1 n2 n3 (by simp [h0])
      · exact Ev.if_neg h4 <| j3 _ n1 n2 n3 (by simp [h4])
  have j1 : ∀ b : Bool, (x.f0 = 1 ∧ 0 ≤ x.f1 ∧ x.f1 < 256 ∧ x.f2.toList = ([] : List UInt8)) = False → b = decide (x.f0 = 2 ∧ 0 ≤ x.f1 ∧ x.f1 < 65536 ∧ x.f2.toList = ([] : List UInt8)) → Ev (fun k => spec_PieceBytes.j1 k (IntKind.u64.wrap x.f1) b x.f0 x.f1 x.f2) (told (specPiece x)) := by
    intro b n1 hb
    refine Ev.step (fun k => spec_PieceBytes.j1.eq_2 _ _ _ _ _ _) ?_
    by_cases h2 : x.f0 = 2 ∧ 0 ≤ x.f1 ∧ x.f1 < 65536 ∧ x.f2.toList = ([] : List UInt8)
    · refine Ev.if_pos (by rw [hb]; exact decide_eq_true h2) ?_
      unfold specPiece
      simp only [n1, if_false, _root_.if_pos h2]
      exact Ev.now _
    · refine Ev.if_neg (by rw [hb]; simpa using h2) ?_
      have n2 := eq_false h2
      by_cases h3 : x.f0 = 3
      · refine Ev.if_pos h3 ?_
        by_cases ha : x.f1 ≥ -2147483648
        · refine Ev.if_pos ha ?_
          by_cases hb : x.f1 < 2147483648
          · exact Ev.if_pos hb <| j2 _ n1 n2 (by rw [Bool.eq_iff_iff]; simp [h3, hb]; omega)
          · exact Ev.if_neg hb <| j2 _ n1 n2 (by simp [hb])
        · exact Ev.if_neg ha <| j2 _ n1 n2 (by simp; omega)
      · exact Ev.if_neg h3 <| j2 _ n1 n2 (by simp [h3])
  have j0 : ∀ b : Bool, b = decide (x.f0 = 1 ∧ 0 ≤ x.f1 ∧ x.f1 < 256 ∧ x.f2.toList = ([] : List UInt8)) → Ev (fun k => spec_PieceBytes.j0 k (IntKind.u64.wrap x.f1) b x.f0 x.f1 x.f2) (told (specPiece x)) := by
    intro b hb
    refine Ev.step (fun k => spec_PieceBytes.j0.eq_2 _ _ _ _ _ _) ?_
    by_cases h1 : x.f0 = 1 ∧ 0 ≤ x.f1 ∧ x.f1 < 256 ∧ x.f2.toList = ([] : List UInt8)
    · refine Ev.if_pos (by rw [hb]; exact decide_eq_true h1) ?_
      unfold specPiece
      rw [_root_.if_pos h1]
      exact Ev.now _
    · refine Ev.if_neg (by rw [hb]; simpa using h1) ?_
      have n1 := eq_false h1
      by_cases h2 : x.f0 = 2
      · refine Ev.if_pos h2 ?_
        by_cases ha : x.f1 ≥ 0
        · refine Ev.if_pos ha ?_
          by_cases hb : x.f1 < 65536
          · exact Ev.if_pos hb <| j1 _ n1 (by rw [Bool.eq_iff_iff]; simp [h2, hb]; omega)
          · exact Ev.if_neg hb <| j1 _ n1 (by simp [hb])
        · exact Ev.if_neg ha <| j1 _ n1 (by simp; omega)
      · exact Ev.if_neg h2 <| j1 _ n1 (by simp [h2])
  unfold spec_PieceBytes.f
  by_cases h1 : x.f0 = 1
  · refine Ev.if_pos h1 ?_
    by_cases ha : x.f1 ≥ 0
    · refine Ev.if_pos ha ?_
      by_cases hb : x.f1 < 256
      · exact Ev.if_pos hb <| j0 _ (by rw [Bool.eq_iff_iff]; simp [h1, hb]; omega)
      · exact Ev.if_neg hb <| j0 _ (by simp [hb])
    · exact Ev.if_neg ha <| j0 _ (by simp; omega)
  · exact Ev.if_neg h1 <| j0 _ (by simp [h1])
/-- Pieces as the reference writes them. -/
def specPieces : List FPc → List Int → Option (List Int)
  | [], out => some out
  | x :: t, out => match specPiece x with
    | some ys => if out.length + ys.length ≤ 20000 then specPieces t (out ++ ys) else none
    | none => none
theorem rdF_at {l : List FPc} {i : Nat} {x : FPc} {t : List FPc} (h : l.drop i = x :: t) : rd_T25 l (i : Int) = x ∧ i < l.length ∧ l.drop (i + 1) = t := by
  have hl : i < l.length := by
    rcases Nat.lt_or_ge i l.length with hl | hl
    · exact hl
    · rw [List.drop_of_length_le hl] at h; cases h
  rw [List.drop_eq_getElem_cons hl] at h
  injection h with h1 h2
  refine ⟨?_, hl, h2⟩
  simp [rd_T25, List.getD_eq_getElem?_getD, List.getElem?_eq_getElem hl, h1]
theorem strOfNums_len (f : List Int) : (strOfNums f).size = f.length := strOfNums_size f
theorem pieces_l (l : List FPc) (hl : l.length ≤ 2305843009213693952) (hs : ∀ x ∈ l, x.f2.size ≤ 2305843009213693952) : ∀ (t : List FPc) (i : Nat) (out : List Int), l.drop i = t → out.length ≤ 20000 → Ev (fun k => spec_Pieces.l0 k l (strOfNums out) (i : Int)) (told (specPieces t out)) := by
  intro t
  induction t with
  | nil =>
    intro i out h ho
    have h3 : l.length ≤ i := by simpa using h
    exact Ev.step (fun k => spec_Pieces.l0.eq_2 _ _ _ _) <| Ev.if_neg (by omega) <| Ev.now _
  | cons x t ih =>
    intro i out h ho
    obtain ⟨e1, i1, d1⟩ := rdF_at h
    have ew : wrap64 ((i : Int) + 1) = ((i + 1 : Nat) : Int) := by rw [wrap64_id (by omega) (by omega)]; omega
    have hx : x ∈ l := by rw [← List.take_append_drop i l, h]; simp
    refine Ev.step (fun k => spec_Pieces.l0.eq_2 _ _ _ _) <| Ev.if_pos (by omega) <| Ev.if_pos (by omega) ?_
    rw [e1, ew]
    refine Ev.bind (pieceBytes x (hs x hx)) ?_
    simp only [specPieces]
    cases hp : specPiece x with
    | none => exact Ev.if_neg (by simp [told]) <| Ev.now _
    | some ys =>
      have hyl : ys.length ≤ 2305843009213693953 := by
        have := hs x hx
        unfold specPiece at hp
        repeat' split at hp
        all_goals first | (injection hp with hp; rw [← hp]; simp [bytesOf_length]; done) | (injection hp with hp; rw [← hp]; simp only [List.length_append, List.length_cons, List.length_nil, bytesOf_length]; omega) | exact absurd hp (by simp)
      refine Ev.if_pos rfl ?_
      simp only [told, strOfNums_len]
      by_cases hb : out.length + ys.length ≤ 20000
      · simp only [_root_.if_pos hb]
        refine Ev.if_neg (by rw [wrap64_id (by omega) (by omega)]; omega) <| Ev.if_pos (by omega) ?_
        rw [← strOfNums_append]
        exact ih (i + 1) (out ++ ys) d1 (by rw [List.length_append]; exact hb)
      · simp only [_root_.if_neg hb]
        exact Ev.if_pos (by rw [wrap64_id (by omega) (by omega)]; omega) <| Ev.now _
theorem pieces (l : List FPc) (hl : l.length ≤ 2305843009213693952) (hs : ∀ x ∈ l, x.f2.size ≤ 2305843009213693952) : Ev (fun k => spec_Pieces.f k l) (told (specPieces l [])) := pieces_l l hl hs l 0 [] rfl (by simp)
end Go.Proofs.Ythcikkjjegfblab.Lib
