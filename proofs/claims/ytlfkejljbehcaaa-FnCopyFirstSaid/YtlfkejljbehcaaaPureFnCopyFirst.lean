/- FnCopyFirst, for every text: whether a statement begins with COPY behind white space and comments, as the reference says it wherever the reference is sure (texts of at most 1000 bytes without zero bytes, by the law's own guard).
   Conditions: none beyond the form's own bound on a text's size. -/
import Derived.Test.YtlfkejljbehcaaaPx5
import Derived.Test.YtlfkejljbehcaaaLib
namespace Go.Proofs.Ytlfkejljbehcaaa.Pure
open Go.RowKit Go.Proofs.Ytlfkejljbehcaaa.P Go.Proofs.YtlfkejljbehcaaaW.PrintWords Go.Proofs.YtlfkejljbehcaaaW.PrintLast Go.Proofs.YtlfkejljbehcaaaW.PrintMore Go.Proofs.Ytlfkejljbehcaaa.Lib

namespace CopyFirst

theorem wr1 {s : ByteArray} {i : Int} (hs : s.size ≤ 140737488351232) (h0 : 0 ≤ i) (h1 : i ≤ (s.size : Int)) {d : Int} (hd0 : -10 ≤ d) (hd : d ≤ 10) : wrap64 (i + d) = i + d := wrap64_id (by omega) (by omega)

/-- Is a text looked at? -/
theorem text9_l (s : ByteArray) (hs : s.size ≤ 140737488351232) : ∀ (l : List Int) (i : Int), At (bytesOf s) i l → ∃ b, Ev (fun k => laws_text9.l0 k s i) b := by
  intro l
  induction l with
  | nil =>
    intro i h
    exact ⟨true, Ev.step (fun k => laws_text9.l0.eq_2 _ _ _) <| Ev.if_neg (by have := h.snil; omega) <| Ev.now _⟩
  | cons c t ih =>
    intro i h
    obtain ⟨b, hb⟩ := ih (i + 1) h.tail
    by_cases hc : bt s i = 0
    · exact ⟨false, Ev.step (fun k => laws_text9.l0.eq_2 _ _ _) <| Ev.if_pos h.slt <| Ev.if_pos h.nonneg <| Ev.if_pos hc <| Ev.now _⟩
    · refine ⟨b, Ev.step (fun k => laws_text9.l0.eq_2 _ _ _) <| Ev.if_pos h.slt <| Ev.if_pos h.nonneg <| Ev.if_neg hc ?_⟩
      rw [wr1 hs h.nonneg h.sle (by omega) (by omega)]
      exact hb
theorem text9 (s : ByteArray) (hs : s.size ≤ 140737488351232) : ∃ b, Ev (fun k => laws_text9.f k s) b := by
  unfold laws_text9.f
  by_cases h : (s.size : Int) > 1000
  · exact ⟨false, Ev.if_pos h <| Ev.now _⟩
  · obtain ⟨b, hb⟩ := text9_l s hs _ 0 (At.zero _)
    exact ⟨b, Ev.if_neg h hb⟩

/-- Behind a line's comment. -/
theorem line (s : ByteArray) (hs : s.size ≤ 140737488351232) (y : Bool) : ∀ (l : List Int) (i : Int), At (bytesOf s) i l →
    ∃ j l', i ≤ j ∧ At (bytesOf s) j l' ∧ (l' = [] ∨ ∃ t, l' = 10 :: t) ∧ (∀ r, Ev (fun k => spec_passed.l0 k s j) r → Ev (fun k => spec_passed.l1 k s i) r) ∧
      (∀ b, Ev (fun k => pqsql_StartsWithCopy.l0 k s true y j) b → Ev (fun k => pqsql_StartsWithCopy.l0 k s true y i) b) := by
  intro l
  induction l with
  | nil =>
    intro i h
    refine ⟨i, [], Int.le_refl _, h, .inl rfl, fun r hr => ?_, fun b hb => hb⟩
    exact Ev.step (fun k => spec_passed.l1.eq_2 _ _ _) <| Ev.if_neg (by have := h.snil; omega) hr
  | cons c t ih =>
    intro i h
    by_cases hc : c = 10
    · subst hc
      refine ⟨i, _, Int.le_refl _, h, .inr ⟨t, rfl⟩, fun r hr => ?_, fun b hb => hb⟩
      exact Ev.step (fun k => spec_passed.l1.eq_2 _ _ _) <| Ev.if_pos h.slt <| Ev.if_pos h.nonneg <| Ev.if_pos h.bt hr
    · obtain ⟨j, l', hj, hl', ho, h1, h2⟩ := ih (i + 1) h.tail
      refine ⟨j, l', by omega, hl', ho, fun r hr => ?_, fun b hb => ?_⟩
      · refine Ev.step (fun k => spec_passed.l1.eq_2 _ _ _) <| Ev.if_pos h.slt <| Ev.if_pos h.nonneg <| Ev.if_neg (by rw [h.bt]; exact hc) ?_
        rw [wr1 hs h.nonneg h.sle (by omega) (by omega)]
        exact h1 r hr
      · refine Ev.step (fun k => pqsql_StartsWithCopy.l0.eq_2 _ _ _ _ _) <| Ev.if_pos h.slt <| Ev.if_pos h.nonneg <| Ev.if_pos rfl ?_
        rw [wr1 hs h.nonneg h.sle (by omega) (by omega), h.bt, bne_iff_ne.2 hc]
        exact h2 b hb

/-- Behind a comment between signs. -/
theorem block (s : ByteArray) (hs : s.size ≤ 140737488351232) (at0 : Int) : ∀ (l : List Int) (i : Int), At (bytesOf s) i l → 1 ≤ i →
    ∃ j l', i ≤ j ∧ At (bytesOf s) j l' ∧ (l' = [] ∨ ∃ t, l' = 47 :: t ∧ bt s (j - 1) = 42) ∧ (∀ r, Ev (fun k => spec_passed.l2 k s at0 j) r → Ev (fun k => spec_passed.l2 k s at0 i) r) ∧
      (∀ b, Ev (fun k => pqsql_StartsWithCopy.l0 k s false true j) b → Ev (fun k => pqsql_StartsWithCopy.l0 k s false true i) b) := by
  intro l
  induction l with
  | nil =>
    intro i h _
    exact ⟨i, [], Int.le_refl _, h, .inl rfl, fun r hr => hr, fun b hb => hb⟩
  | cons c t ih =>
    intro i h hi
    have hlt := h.slt
    have e1 : wrap64 (i - 1) = i - 1 := wrap64_id (by omega) (by omega)
    have e2 : wrap64 (i + 1) = i + 1 := wrap64_id (by omega) (by omega)
    by_cases hc : c = 47 ∧ bt s (i - 1) = 42
    · obtain ⟨rfl, hb⟩ := hc
      exact ⟨i, _, Int.le_refl _, h, .inr ⟨t, rfl, hb⟩, fun r hr => hr, fun b hb => hb⟩
    · obtain ⟨j, l', hj, hl', ho, h1, h2⟩ := ih (i + 1) h.tail (by omega)
      refine ⟨j, l', by omega, hl', ho, fun r hr => ?_, fun b hb => ?_⟩
      · have h1 := h1 r hr
        refine Ev.step (fun k => spec_passed.l2.eq_2 _ _ _ _) <| Ev.if_pos h.slt <| Ev.if_pos h.nonneg ?_
        rw [e1, e2]
        by_cases h47 : bt s i = 47
        · refine Ev.if_pos h47 <| Ev.if_pos (by omega) <| Ev.if_pos (by omega) <| Ev.if_neg (fun hq => hc ⟨by rw [← h.bt]; exact h47, hq⟩) h1
        · exact Ev.if_neg h47 h1
      · have h2 := h2 b hb
        refine Ev.step (fun k => pqsql_StartsWithCopy.l0.eq_2 _ _ _ _ _) <| Ev.if_pos h.slt <| Ev.if_pos h.nonneg <| Ev.if_neg (by simp) <| Ev.if_pos rfl ?_
        rw [e1, e2]
        by_cases h47 : bt s i = 47
        · refine Ev.if_pos h47 <| Ev.if_pos (by omega) <| Ev.if_pos (by omega) ?_
          rw [beq_eq_false_iff_ne.2 (fun hq => hc ⟨by rw [← h.bt]; exact h47, hq⟩)]
          exact h2
        · exact Ev.if_neg h47 h2

/-- What begins at a place where neither white space nor a comment begins. -/
def Bare (l : List Int) : Prop := ∀ c t, l = c :: t → c ≠ 32 ∧ c ≠ 9 ∧ c ≠ 13 ∧ c ≠ 10 ∧ (c = 45 → ∀ t', t ≠ 45 :: t') ∧ (c = 47 → ∀ t', t ≠ 42 :: t')

theorem at_end {s : ByteArray} {i : Int} {b x y x' y' : Bool} (h : ¬ i < (s.size : Int)) (hb : Ev (fun k => pqsql_StartsWithCopy.l0 k s x y i) b) : Ev (fun k => pqsql_StartsWithCopy.l0 k s x' y' i) b := by
  obtain ⟨K, hK⟩ := hb
  have e : (some false : Option Bool) = some b := by
    have := hK (K + 1) (by omega)
    simp only at this
    rw [pqsql_StartsWithCopy.l0.eq_2, _root_.if_neg h] at this
    exact this
  injection e with e
  subst e
  exact Ev.step (fun k => pqsql_StartsWithCopy.l0.eq_2 _ _ _ _ _) <| Ev.if_neg h <| Ev.now _

theorem Bare.nil : Bare [] := by intro c t hc; cases hc

theorem passed_l (s : ByteArray) (hs : s.size ≤ 140737488351232) : ∀ (n : Nat) (l : List Int) (i : Int), l.length ≤ n → At (bytesOf s) i l →
    ∃ r : Int × Bool, Ev (fun k => spec_passed.l0 k s i) r ∧ (0 ≤ r.1 ∧ r.1 ≤ (s.size : Int)) ∧ (r.2 = true → ∃ l', At (bytesOf s) r.1 l' ∧ Bare l' ∧ (∀ b, Ev (fun k => pqsql_StartsWithCopy.l0 k s false false r.1) b → Ev (fun k => pqsql_StartsWithCopy.l0 k s false false i) b)) := by
  intro n
  induction n with
  | zero =>
    intro l i hn h
    obtain rfl : l = [] := List.length_eq_zero_iff.1 (by omega)
    exact ⟨(i, true), Ev.step (fun k => spec_passed.l0.eq_2 _ _ _) <| Ev.if_neg (by have := h.snil; omega) <| Ev.now _, ⟨h.nonneg, h.sle⟩, fun _ => ⟨[], h, Bare.nil, fun b hb => hb⟩⟩
  | succ n ih =>
    intro l i hn h
    cases l with
    | nil => exact ⟨(i, true), Ev.step (fun k => spec_passed.l0.eq_2 _ _ _) <| Ev.if_neg (by have := h.snil; omega) <| Ev.now _, ⟨h.nonneg, h.sle⟩, fun _ => ⟨[], h, Bare.nil, fun b hb => hb⟩⟩
    | cons c t =>
      have hlt := h.slt
      have h0 := h.nonneg
      have hbt := h.bt
      have e1 : wrap64 (i + 1) = i + 1 := wrap64_id (by omega) (by omega)
      have e2 : wrap64 (i + 2) = i + 2 := wrap64_id (by omega) (by omega)
      -- a test that reads the next byte
      have nxt : ∀ d : Int, (i + 1 < (s.size : Int) ∧ bt s (i + 1) = d) ↔ ∃ t', t = d :: t' := by
        intro d
        constructor
        · rintro ⟨ha, hb⟩
          cases t with
          | nil => have := h.tail.snil; omega
          | cons d' t' => have hq := h.tail.bt; exact ⟨t', by rw [← hq, ‹bt s (i + 1) = d›]⟩
        · rintro ⟨t', rfl⟩
          exact ⟨h.tail.slt, h.tail.bt⟩
      by_cases hw : c = 32 ∨ c = 9 ∨ c = 13 ∨ c = 10
      · -- white space
        obtain ⟨r, hr, hbd, hi⟩ := ih t (i + 1) (by simp at hn; omega) h.tail
        refine ⟨r, ?_, hbd, fun hr2 => ?_⟩
        · have hj : Ev (fun k => spec_passed.j1 k s i (bt s i) true) r := by
            refine Ev.step (fun k => spec_passed.j1.eq_2 _ _ _ _ _) <| Ev.if_pos rfl ?_
            rw [e1]; exact hr
          refine Ev.step (fun k => spec_passed.l0.eq_2 _ _ _) <| Ev.if_pos hlt <| Ev.if_pos h0 ?_
          rcases hw with hw | hw | hw | hw
          · exact Ev.if_pos (by omega) hj
          · exact Ev.if_neg (by omega) <| Ev.if_pos (by omega) hj
          · exact Ev.if_neg (by omega) <| Ev.if_neg (by omega) <| Ev.if_pos (by omega) hj
          · refine Ev.if_neg (by omega) <| Ev.if_neg (by omega) <| Ev.if_neg (by omega) ?_
            rw [beq_iff_eq.2 (show bt s i = 10 by omega)]; exact hj
        · obtain ⟨l', hl', hb', hp⟩ := hi hr2
          refine ⟨l', hl', hb', fun b hb => ?_⟩
          have hb := hp b hb
          have hj2 : Ev (fun k => pqsql_StartsWithCopy.j2 k s false false i (bt s i) false) b := by
            refine Ev.step (fun k => pqsql_StartsWithCopy.j2.eq_2 _ _ _ _ _ _ _) <| Ev.if_neg (by simp) ?_
            rw [e1]
            rcases hw with hw | hw | hw | hw
            · exact Ev.if_pos (by omega) hb
            · exact Ev.if_neg (by omega) <| Ev.if_pos (by omega) hb
            · exact Ev.if_neg (by omega) <| Ev.if_neg (by omega) <| Ev.if_pos (by omega) hb
            · exact Ev.if_neg (by omega) <| Ev.if_neg (by omega) <| Ev.if_neg (by omega) <| Ev.if_pos (by omega) hb
          have hj1 : Ev (fun k => pqsql_StartsWithCopy.j1 k s false false i (bt s i) false) b :=
            Ev.step (fun k => pqsql_StartsWithCopy.j1.eq_2 _ _ _ _ _ _ _) <| Ev.if_neg (by simp) <| Ev.if_neg (by omega) hj2
          exact Ev.step (fun k => pqsql_StartsWithCopy.l0.eq_2 _ _ _ _ _) <| Ev.if_pos hlt <| Ev.if_pos h0 <| Ev.if_neg (by simp) <| Ev.if_neg (by simp) <| Ev.if_neg (by omega) hj1
      · have hw1 : ∀ r, Ev (fun k => spec_passed.j1 k s i (bt s i) false) r → Ev (fun k => spec_passed.l0 k s i) r := by
          intro r hr
          refine Ev.step (fun k => spec_passed.l0.eq_2 _ _ _) <| Ev.if_pos hlt <| Ev.if_pos h0 <| Ev.if_neg (by omega) <| Ev.if_neg (by omega) <| Ev.if_neg (by omega) ?_
          rw [beq_eq_false_iff_ne.2 (show bt s i ≠ 10 by omega)]; exact hr
        by_cases hv : c = 11 ∨ c = 12
        · refine ⟨(i, false), hw1 _ ?_, ⟨h.nonneg, h.sle⟩, fun h => by cases h⟩
          have hj2 : Ev (fun k => spec_passed.j2 k s i (bt s i) true) (i, false) :=
            Ev.step (fun k => spec_passed.j2.eq_2 _ _ _ _ _) <| Ev.if_pos rfl <| Ev.now _
          refine Ev.step (fun k => spec_passed.j1.eq_2 _ _ _ _ _) <| Ev.if_neg (by simp) ?_
          rcases hv with hv | hv
          · exact Ev.if_pos (by omega) hj2
          · refine Ev.if_neg (by omega) ?_
            rw [beq_iff_eq.2 (show bt s i = 12 by omega)]; exact hj2
        · have hw2 : ∀ r, Ev (fun k => spec_passed.j2 k s i (bt s i) false) r → Ev (fun k => spec_passed.l0 k s i) r := by
            intro r hr
            refine hw1 r <| Ev.step (fun k => spec_passed.j1.eq_2 _ _ _ _ _) <| Ev.if_neg (by simp) <| Ev.if_neg (by omega) ?_
            rw [beq_eq_false_iff_ne.2 (show bt s i ≠ 12 by omega)]; exact hr
          by_cases hd : c = 45 ∧ ∃ t', t = 45 :: t'
          · -- a comment to the line's end
            obtain ⟨rfl, t', rfl⟩ := hd
            have hn1 := (nxt 45).2 ⟨t', rfl⟩
            obtain ⟨j, l', hj, hl', ho, h1, h2⟩ := line s hs false t' (i + 2) (by have := h.tail.tail; rwa [show i + 1 + 1 = i + 2 from by omega] at this)
            -- the reference comes to l0 at j, the program's flag to the same place
            have hsp : ∀ r, Ev (fun k => spec_passed.l0 k s j) r → Ev (fun k => spec_passed.l0 k s i) r := by
              intro r hr
              have hl1 : Ev (fun k => spec_passed.l1 k s i) r := by
                refine Ev.step (fun k => spec_passed.l1.eq_2 _ _ _) <| Ev.if_pos hlt <| Ev.if_pos h0 <| Ev.if_neg (by omega) ?_
                rw [e1]
                refine Ev.step (fun k => spec_passed.l1.eq_2 _ _ _) <| Ev.if_pos hn1.1 <| Ev.if_pos (by omega) <| Ev.if_neg (by omega) ?_
                rw [wrap64_id (n := i + 1 + 1) (by omega) (by omega), show i + 1 + 1 = i + 2 from by omega]
                exact h1 r hr
              have hj3 : Ev (fun k => spec_passed.j3 k s i (bt s i) true) r := Ev.step (fun k => spec_passed.j3.eq_2 _ _ _ _ _) <| Ev.if_pos rfl hl1
              refine hw2 r <| Ev.step (fun k => spec_passed.j2.eq_2 _ _ _ _ _) <| Ev.if_neg (by simp) <| Ev.if_pos hbt ?_
              rw [e1]
              refine Ev.if_pos hn1.1 <| Ev.if_pos (by omega) ?_
              rw [beq_iff_eq.2 hn1.2]; exact hj3
            have hpr : ∀ b, Ev (fun k => pqsql_StartsWithCopy.l0 k s true false j) b → Ev (fun k => pqsql_StartsWithCopy.l0 k s false false i) b := by
              intro b hb
              have hl1 : Ev (fun k => pqsql_StartsWithCopy.l0 k s true false (i + 1)) b := by
                refine Ev.step (fun k => pqsql_StartsWithCopy.l0.eq_2 _ _ _ _ _) <| Ev.if_pos hn1.1 <| Ev.if_pos (by omega) <| Ev.if_pos rfl ?_
                rw [wrap64_id (n := i + 1 + 1) (by omega) (by omega), show i + 1 + 1 = i + 2 from by omega, bne_iff_ne.2 (show bt s (i + 1) ≠ 10 by omega)]
                exact h2 b hb
              have hj1 : Ev (fun k => pqsql_StartsWithCopy.j1 k s false false i (bt s i) true) b := by
                refine Ev.step (fun k => pqsql_StartsWithCopy.j1.eq_2 _ _ _ _ _ _ _) <| Ev.if_pos rfl ?_
                rw [e1]; exact hl1
              refine Ev.step (fun k => pqsql_StartsWithCopy.l0.eq_2 _ _ _ _ _) <| Ev.if_pos hlt <| Ev.if_pos h0 <| Ev.if_neg (by simp) <| Ev.if_neg (by simp) <| Ev.if_pos hbt ?_
              rw [e1]
              refine Ev.if_pos (by omega) <| Ev.if_pos (by omega) <| Ev.if_pos hn1.1 ?_
              rw [beq_iff_eq.2 hn1.2]; exact hj1
            rcases ho with rfl | ⟨t2, rfl⟩
            · refine ⟨(j, true), hsp _ <| Ev.step (fun k => spec_passed.l0.eq_2 _ _ _) <| Ev.if_neg (by have := hl'.snil; omega) <| Ev.now _, ⟨hl'.nonneg, hl'.sle⟩, fun _ => ⟨[], hl', Bare.nil, fun b hb => hpr b ?_⟩⟩
              exact at_end (by have := hl'.snil; omega) hb
            · have hll := hl'.slt
              have hlj := hl'.slen
              have hli := h.slen
              have hs1 : wrap64 (j + 1) = j + 1 := wrap64_id (by omega) (by omega)
              obtain ⟨r, hr, hbd, hi⟩ := ih t2 (j + 1) (by simp at hn hlj hli; omega) hl'.tail
              refine ⟨r, hsp r ?_, hbd, fun hr2 => ?_⟩
              · refine Ev.step (fun k => spec_passed.l0.eq_2 _ _ _) <| Ev.if_pos hl'.slt <| Ev.if_pos hl'.nonneg <| Ev.if_neg (by rw [hl'.bt]; omega) <| Ev.if_neg (by rw [hl'.bt]; omega) <| Ev.if_neg (by rw [hl'.bt]; omega) ?_
                rw [beq_iff_eq.2 hl'.bt]
                refine Ev.step (fun k => spec_passed.j1.eq_2 _ _ _ _ _) <| Ev.if_pos rfl ?_
                rw [hs1]; exact hr
              · obtain ⟨l3, hl3, hb3, hp⟩ := hi hr2
                refine ⟨l3, hl3, hb3, fun b hb => hpr b ?_⟩
                refine Ev.step (fun k => pqsql_StartsWithCopy.l0.eq_2 _ _ _ _ _) <| Ev.if_pos hl'.slt <| Ev.if_pos hl'.nonneg <| Ev.if_pos rfl ?_
                rw [hs1, hl'.bt]
                exact hp b hb
          · have hd' : ¬ (c = 45 ∧ i + 1 < (s.size : Int) ∧ bt s (i + 1) = 45) := fun ⟨ha, hb⟩ => hd ⟨ha, (nxt 45).1 hb⟩
            have hw3 : ∀ r, Ev (fun k => spec_passed.j3 k s i (bt s i) false) r → Ev (fun k => spec_passed.l0 k s i) r := by
              intro r hr
              refine hw2 r <| Ev.step (fun k => spec_passed.j2.eq_2 _ _ _ _ _) <| Ev.if_neg (by simp) ?_
              by_cases h45 : bt s i = 45
              · refine Ev.if_pos h45 ?_
                rw [e1]
                by_cases hn1 : i + 1 < (s.size : Int)
                · refine Ev.if_pos hn1 <| Ev.if_pos (by omega) ?_
                  rw [beq_eq_false_iff_ne.2 (fun hb => hd' ⟨by omega, hn1, hb⟩)]; exact hr
                · exact Ev.if_neg hn1 hr
              · exact Ev.if_neg h45 hr
            have hp1 : ∀ b, Ev (fun k => pqsql_StartsWithCopy.j1 k s false false i (bt s i) false) b → Ev (fun k => pqsql_StartsWithCopy.l0 k s false false i) b := by
              intro b hb
              refine Ev.step (fun k => pqsql_StartsWithCopy.l0.eq_2 _ _ _ _ _) <| Ev.if_pos hlt <| Ev.if_pos h0 <| Ev.if_neg (by simp) <| Ev.if_neg (by simp) ?_
              by_cases h45 : bt s i = 45
              · refine Ev.if_pos h45 ?_
                rw [e1]
                by_cases hn1 : i + 1 < (s.size : Int)
                · refine Ev.if_pos (by omega) <| Ev.if_pos (by omega) <| Ev.if_pos hn1 ?_
                  rw [beq_eq_false_iff_ne.2 (fun hb => hd' ⟨by omega, hn1, hb⟩)]; exact hb
                · exact Ev.if_neg (by omega) hb
              · exact Ev.if_neg h45 hb
            by_cases he : c = 47 ∧ ∃ t', t = 42 :: t'
            · -- a comment between signs
              obtain ⟨rfl, t', rfl⟩ := he
              have hn1 := (nxt 42).2 ⟨t', rfl⟩
              obtain ⟨j, l', hj, hl', ho, h1, h2⟩ := block s hs i t' (i + 2) (by have := h.tail.tail; rwa [show i + 1 + 1 = i + 2 from by omega] at this) (by omega)
              have hsp : ∀ r, Ev (fun k => spec_passed.l2 k s i j) r → Ev (fun k => spec_passed.l0 k s i) r := by
                intro r hr
                have hj5 : Ev (fun k => spec_passed.j5 k s i true) r := by
                  refine Ev.step (fun k => spec_passed.j5.eq_2 _ _ _ _) <| Ev.if_pos rfl ?_
                  rw [e2]; exact h1 r hr
                refine hw3 r <| Ev.step (fun k => spec_passed.j3.eq_2 _ _ _ _ _) <| Ev.if_neg (by simp) <| Ev.if_pos hbt ?_
                rw [e1]
                refine Ev.if_pos hn1.1 <| Ev.if_pos (by omega) ?_
                rw [beq_iff_eq.2 hn1.2]; exact hj5
              have hpr : ∀ b, Ev (fun k => pqsql_StartsWithCopy.l0 k s false true j) b → Ev (fun k => pqsql_StartsWithCopy.l0 k s false false i) b := by
                intro b hb
                have hl1 : Ev (fun k => pqsql_StartsWithCopy.l0 k s false true (i + 1)) b := by
                  refine Ev.step (fun k => pqsql_StartsWithCopy.l0.eq_2 _ _ _ _ _) <| Ev.if_pos hn1.1 <| Ev.if_pos (by omega) <| Ev.if_neg (by simp) <| Ev.if_pos rfl <| Ev.if_neg (by omega) ?_
                  rw [wrap64_id (n := i + 1 + 1) (by omega) (by omega), show i + 1 + 1 = i + 2 from by omega]
                  exact h2 b hb
                have hj2 : Ev (fun k => pqsql_StartsWithCopy.j2 k s false false i (bt s i) true) b := by
                  refine Ev.step (fun k => pqsql_StartsWithCopy.j2.eq_2 _ _ _ _ _ _ _) <| Ev.if_pos rfl ?_
                  rw [e1]; exact hl1
                refine hp1 b <| Ev.step (fun k => pqsql_StartsWithCopy.j1.eq_2 _ _ _ _ _ _ _) <| Ev.if_neg (by simp) <| Ev.if_pos hbt ?_
                rw [e1]
                refine Ev.if_pos (by omega) <| Ev.if_pos (by omega) <| Ev.if_pos hn1.1 ?_
                rw [beq_iff_eq.2 hn1.2]; exact hj2
              rcases ho with rfl | ⟨t2, rfl, h42⟩
              · -- it has no end
                have hje := hl'.snil
                have hm : mn (wrap64 (j + 1)) (s.size : Int) = (s.size : Int) := by
                  rw [wrap64_id (by omega) (by omega)]; unfold mn; omega
                by_cases h2' : j = i + 2
                · refine ⟨(i, false), hsp _ <| Ev.step (fun k => spec_passed.l2.eq_2 _ _ _ _) <| Ev.if_neg (by omega) ?_, ⟨h.nonneg, h.sle⟩, fun h => by cases h⟩
                  rw [e2]
                  exact Ev.if_pos (by omega) <| Ev.if_pos h2' <| Ev.now _
                · have hend : At (bytesOf s) (s.size : Int) [] := by rw [← hje]; exact hl'
                  refine ⟨((s.size : Int), true), hsp _ <| Ev.step (fun k => spec_passed.l2.eq_2 _ _ _ _) <| Ev.if_neg (by omega) ?_, ⟨hend.nonneg, hend.sle⟩, fun _ => ⟨[], hend, Bare.nil, fun b hb => hpr b ?_⟩⟩
                  · rw [e2, hm]
                    exact Ev.if_pos (by omega) <| Ev.if_neg h2' <| Ev.step (fun k => spec_passed.l0.eq_2 _ _ _) <| Ev.if_neg (by omega) <| Ev.now _
                  · rw [hje]; exact at_end (by omega) hb
              · have hll := hl'.slt
                have hlj := hl'.slen
                have hli := h.slen
                have hs1 : wrap64 (j + 1) = j + 1 := wrap64_id (by omega) (by omega)
                have hs2 : wrap64 (j - 1) = j - 1 := wrap64_id (by omega) (by omega)
                have hm : mn (wrap64 (j + 1)) (s.size : Int) = j + 1 := by
                  rw [hs1]; unfold mn; omega
                have hl2 : ∀ r, Ev (fun k => if j ≥ i + 2 then (if j = i + 2 then some (i, false) else spec_passed.l0 k s (j + 1)) else spec_passed.l0 k s (j + 1)) r → Ev (fun k => spec_passed.l2 k s i j) r := by
                  intro r hr
                  refine Ev.step (fun k => spec_passed.l2.eq_2 _ _ _ _) <| Ev.if_pos hl'.slt <| Ev.if_pos hl'.nonneg <| Ev.if_pos hl'.bt ?_
                  rw [hs2, e2, hm]
                  exact Ev.if_pos (by omega) <| Ev.if_pos (by omega) <| Ev.if_pos h42 hr
                by_cases h2' : j = i + 2
                · exact ⟨(i, false), hsp _ <| hl2 _ <| Ev.if_pos (by omega) <| Ev.if_pos h2' <| Ev.now _, ⟨h.nonneg, h.sle⟩, fun h => by cases h⟩
                · obtain ⟨r, hr, hbd, hi⟩ := ih t2 (j + 1) (by simp at hn hlj hli; omega) hl'.tail
                  refine ⟨r, hsp r <| hl2 r <| Ev.if_pos (by omega) <| Ev.if_neg h2' hr, hbd, fun hr2 => ?_⟩
                  obtain ⟨l3, hl3, hb3, hp⟩ := hi hr2
                  refine ⟨l3, hl3, hb3, fun b hb => hpr b ?_⟩
                  refine Ev.step (fun k => pqsql_StartsWithCopy.l0.eq_2 _ _ _ _ _) <| Ev.if_pos hl'.slt <| Ev.if_pos hl'.nonneg <| Ev.if_neg (by simp) <| Ev.if_pos rfl <| Ev.if_pos hl'.bt ?_
                  rw [hs1, hs2]
                  refine Ev.if_pos (by omega) <| Ev.if_pos (by omega) ?_
                  rw [beq_iff_eq.2 h42]
                  exact hp b hb
            · -- neither white space nor a comment
              have he' : ¬ (c = 47 ∧ i + 1 < (s.size : Int) ∧ bt s (i + 1) = 42) := fun ⟨ha, hb⟩ => he ⟨ha, (nxt 42).1 hb⟩
              refine ⟨(i, true), hw3 _ <| Ev.step (fun k => spec_passed.j3.eq_2 _ _ _ _ _) <| Ev.if_neg (by simp) ?_, ⟨h.nonneg, h.sle⟩, fun _ => ⟨_, h, ?_, fun b hb => hb⟩⟩
              · have hj5 : Ev (fun k => spec_passed.j5 k s i false) (i, true) := Ev.step (fun k => spec_passed.j5.eq_2 _ _ _ _) <| Ev.if_neg (by simp) <| Ev.now _
                by_cases h47 : bt s i = 47
                · refine Ev.if_pos h47 ?_
                  rw [e1]
                  by_cases hn1 : i + 1 < (s.size : Int)
                  · refine Ev.if_pos hn1 <| Ev.if_pos (by omega) ?_
                    rw [beq_eq_false_iff_ne.2 (fun hb => he' ⟨by omega, hn1, hb⟩)]; exact hj5
                  · exact Ev.if_neg hn1 hj5
                · exact Ev.if_neg h47 hj5
              · intro c' t2 hc
                injection hc with hc1 hc2
                subst hc1 hc2
                exact ⟨by omega, by omega, by omega, by omega, fun hc t' ht => hd ⟨hc, t', ht⟩, fun hc t' ht => he ⟨hc, t', ht⟩⟩

/-- A letter as a great one. -/
def U (c : Int) : Int := if 97 ≤ c ∧ c ≤ 122 then c - 32 else c
theorem or32' : ∀ n : Fin 256, (Go.bits .or .u8 (n.val : Int) 32 = 99 ↔ U n.val = 67) ∧ (Go.bits .or .u8 (n.val : Int) 32 = 111 ↔ U n.val = 79) ∧ (Go.bits .or .u8 (n.val : Int) 32 = 112 ↔ U n.val = 80) ∧ (Go.bits .or .u8 (n.val : Int) 32 = 121 ↔ U n.val = 89) := by
  unfold U
  decide +kernel
theorem or32 (s : ByteArray) (i : Int) : (Go.bits .or .u8 (bt s i) 32 = 99 ↔ U (bt s i) = 67) ∧ (Go.bits .or .u8 (bt s i) 32 = 111 ↔ U (bt s i) = 79) ∧ (Go.bits .or .u8 (bt s i) 32 = 112 ↔ U (bt s i) = 80) ∧ (Go.bits .or .u8 (bt s i) 32 = 121 ↔ U (bt s i) = 89) := by
  have h := bt_range s i
  have := or32' ⟨(bt s i).toNat, by omega⟩
  have e : ((bt s i).toNat : Int) = bt s i := by omega
  simp only [e] at this
  exact this

theorem tree (u : Int) (x3 : Bool) : ∃ q, (if u ≥ 65 then (if x3 = true then (if u ≤ 90 then (some (false, true)) else (if u ≥ 32 then (some (false, decide (u < 64))) else (some (false, false)))) else (some (false, false))) else (if x3 = true then (if u ≥ 32 then (some (false, decide (u < 64))) else (some (false, false))) else (some (false, false)))) = some (false, q) ∧ (x3 = false → q = false) := by
  cases x3
  · exact ⟨false, by simp, fun _ => rfl⟩
  · by_cases h1 : u ≥ 65
    · by_cases h2 : u ≤ 90
      · exact ⟨true, by rw [_root_.if_pos h1, _root_.if_pos rfl, _root_.if_pos h2], fun h => by cases h⟩
      · exact ⟨decide (u < 64), by rw [_root_.if_pos h1, _root_.if_pos rfl, _root_.if_neg h2, _root_.if_pos (by omega)], fun h => by cases h⟩
    · by_cases h2 : u ≥ 32
      · exact ⟨decide (u < 64), by rw [_root_.if_neg h1, _root_.if_pos rfl, _root_.if_pos h2], fun h => by cases h⟩
      · exact ⟨false, by rw [_root_.if_neg h1, _root_.if_pos rfl, _root_.if_neg h2], fun h => by cases h⟩

theorem spec_step (s : ByteArray) (hs : s.size ≤ 140737488351232) (x3 : Bool) (a i e : Int) (h0 : 0 ≤ i) (h4 : i < 4) (ha : 0 ≤ a) (hle : a + 4 ≤ (s.size : Int)) (he : bt (⟨#[67, 79, 80, 89]⟩ : ByteArray) i = e) :
    (U (bt s (a + i)) = e → ∀ r, Ev (fun k => spec_CopyFirst.l0 k s x3 a (i + 1)) r → Ev (fun k => spec_CopyFirst.l0 k s x3 a i) r) ∧
    (U (bt s (a + i)) ≠ e → ∃ q, (x3 = false → q = false) ∧ Ev (fun k => spec_CopyFirst.l0 k s x3 a i) (false, q)) := by
  have hr := bt_range s (a + i)
  have e1 : wrap64 (a + i) = a + i := wrap64_id (by omega) (by omega)
  have e2 : wrap64 (i + 1) = i + 1 := wrap64_id (by omega) (by omega)
  by_cases hu : 97 ≤ bt s (a + i) ∧ bt s (a + i) ≤ 122
  · have hU : U (bt s (a + i)) = bt s (a + i) - 32 := _root_.if_pos hu
    have hm : (bt s (a + i) - 32) % 256 = U (bt s (a + i)) := by rw [hU]; omega
    have go : ∀ r, Ev (fun k => spec_CopyFirst.j1 k s x3 a i (bt s (a + i)) true) r → Ev (fun k => spec_CopyFirst.l0 k s x3 a i) r := by
      intro r hr
      refine Ev.step (fun k => spec_CopyFirst.l0.eq_2 _ _ _ _ _) <| Ev.if_pos h4 ?_
      rw [e1]
      refine Ev.if_pos (by omega) <| Ev.if_pos (by omega) <| Ev.if_pos hu.1 ?_
      rw [decide_eq_true hu.2]; exact hr
    constructor
    · intro hq r hr
      refine go r <| Ev.step (fun k => spec_CopyFirst.j1.eq_2 _ _ _ _ _ _ _) <| Ev.if_pos rfl <| Ev.if_pos h0 <| Ev.if_pos h4 ?_
      rw [hm, he, e2]
      exact Ev.if_pos hq hr
    · intro hq
      obtain ⟨q, ht, hq3⟩ := tree (U (bt s (a + i))) x3
      refine ⟨q, hq3, go _ <| Ev.step (fun k => spec_CopyFirst.j1.eq_2 _ _ _ _ _ _ _) <| Ev.if_pos rfl <| Ev.if_pos h0 <| Ev.if_pos h4 ?_⟩
      rw [hm, he]
      exact Ev.if_neg hq <| Ev.const ht
  · have hU : U (bt s (a + i)) = bt s (a + i) := _root_.if_neg hu
    have go : ∀ r, Ev (fun k => spec_CopyFirst.j1 k s x3 a i (bt s (a + i)) false) r → Ev (fun k => spec_CopyFirst.l0 k s x3 a i) r := by
      intro r hr
      refine Ev.step (fun k => spec_CopyFirst.l0.eq_2 _ _ _ _ _) <| Ev.if_pos h4 ?_
      rw [e1]
      refine Ev.if_pos (by omega) <| Ev.if_pos (by omega) ?_
      by_cases h97 : bt s (a + i) ≥ 97
      · refine Ev.if_pos h97 ?_
        rw [decide_eq_false (by omega)]; exact hr
      · exact Ev.if_neg h97 hr
    constructor
    · intro hq r hr
      refine go r <| Ev.step (fun k => spec_CopyFirst.j1.eq_2 _ _ _ _ _ _ _) <| Ev.if_neg (by simp) <| Ev.if_pos h0 <| Ev.if_pos h4 ?_
      rw [he, e2]
      exact Ev.if_pos (by rw [← hq, hU]) hr
    · intro hq
      obtain ⟨q, ht, hq3⟩ := tree (bt s (a + i)) x3
      refine ⟨q, hq3, go _ <| Ev.step (fun k => spec_CopyFirst.j1.eq_2 _ _ _ _ _ _ _) <| Ev.if_neg (by simp) <| Ev.if_pos h0 <| Ev.if_pos h4 ?_⟩
      rw [he]
      exact Ev.if_neg (by rw [← hU]; exact hq) <| Ev.const ht

/-- The program at a place that neither white space nor a comment begins. -/
theorem prog_end (s : ByteArray) (hs : s.size ≤ 140737488351232) (i c : Int) (t : List Int) (h : At (bytesOf s) i (c :: t)) (hb : Bare (c :: t)) (b : Bool)
    (hj : Ev (fun k => pqsql_StartsWithCopy.j2 k s false false i (bt s i) false) b) : Ev (fun k => pqsql_StartsWithCopy.l0 k s false false i) b := by
  obtain ⟨_, _, _, _, h45, h47⟩ := hb c t rfl
  have hlt := h.slt
  have h0 := h.nonneg
  have hbt := h.bt
  have e1 : wrap64 (i + 1) = i + 1 := wrap64_id (by omega) (by omega)
  have nxt : ∀ d : Int, i + 1 < (s.size : Int) → bt s (i + 1) = d → ∃ t', t = d :: t' := by
    intro d ha hb
    cases t with
    | nil => have := h.tail.snil; omega
    | cons d' t' => have hq := h.tail.bt; exact ⟨t', by rw [← hq, ‹bt s (i + 1) = d›]⟩
  have hj1 : Ev (fun k => pqsql_StartsWithCopy.j1 k s false false i (bt s i) false) b := by
    refine Ev.step (fun k => pqsql_StartsWithCopy.j1.eq_2 _ _ _ _ _ _ _) <| Ev.if_neg (by simp) ?_
    by_cases hc : bt s i = 47
    · refine Ev.if_pos hc ?_
      rw [e1]
      by_cases hn : i + 1 < (s.size : Int)
      · refine Ev.if_pos (by omega) <| Ev.if_pos (by omega) <| Ev.if_pos hn ?_
        rw [beq_eq_false_iff_ne.2 (fun hd => by obtain ⟨t', ht⟩ := nxt 42 hn hd; exact h47 (by omega) t' ht)]
        exact hj
      · exact Ev.if_neg (by omega) hj
    · exact Ev.if_neg hc hj
  refine Ev.step (fun k => pqsql_StartsWithCopy.l0.eq_2 _ _ _ _ _) <| Ev.if_pos hlt <| Ev.if_pos h0 <| Ev.if_neg (by simp) <| Ev.if_neg (by simp) ?_
  by_cases hc : bt s i = 45
  · refine Ev.if_pos hc ?_
    rw [e1]
    by_cases hn : i + 1 < (s.size : Int)
    · refine Ev.if_pos (by omega) <| Ev.if_pos (by omega) <| Ev.if_pos hn ?_
      rw [beq_eq_false_iff_ne.2 (fun hd => by obtain ⟨t', ht⟩ := nxt 45 hn hd; exact h45 (by omega) t' ht)]
      exact hj1
    · exact Ev.if_neg (by omega) hj1
  · exact Ev.if_neg hc hj1

/-- The whole: where the reference is sure the two agree. -/
theorem both (s : ByteArray) (hs : s.size ≤ 140737488351232) : ∃ w q, Ev (fun k => spec_CopyFirst.f k s) (w, q) ∧ (q = true → Ev (fun k => pqsql_StartsWithCopy.f k s) w) := by
  obtain ⟨⟨a, x3⟩, hp, hbd, hi⟩ := passed_l s hs _ _ 0 (Nat.le_refl _) (At.zero _)
  simp only at hi hbd
  have hp' : Ev (fun k => spec_passed.f k s) (a, x3) := hp
  have e4 : wrap64 (a + 4) = a + 4 := wrap64_id (by omega) (by omega)
  have spec : ∀ r, Ev (fun k => if a + 4 > (s.size : Int) then some (false, x3) else spec_CopyFirst.l0 k s x3 a 0) r → Ev (fun k => spec_CopyFirst.f k s) r := by
    intro r hr
    unfold spec_CopyFirst.f
    refine Ev.bind hp' ?_
    simp only [e4]
    exact hr
  by_cases h4 : (s.size : Int) < 4
  · refine ⟨false, x3, spec _ <| Ev.if_pos (by omega) <| Ev.now _, fun _ => ?_⟩
    unfold pqsql_StartsWithCopy.f
    exact Ev.if_pos h4 <| Ev.now _
  · have prog : ∀ b, x3 = true → (∀ l', At (bytesOf s) a l' → Bare l' → Ev (fun k => pqsql_StartsWithCopy.l0 k s false false a) b) → Ev (fun k => pqsql_StartsWithCopy.f k s) b := by
      intro b hx hb
      obtain ⟨l', hl', hbare, hpr⟩ := hi hx
      unfold pqsql_StartsWithCopy.f
      exact Ev.if_neg h4 (hpr b (hb l' hl' hbare))
    have j2 : ∀ (b : Bool) (c : Int) (t : List Int), At (bytesOf s) a (c :: t) → Bare (c :: t) →
        Ev (fun k => if (s.size : Int) > a + 3 then (if (Go.bits .or .u8 (bt s a) 32) = 99 then (if 0 ≤ a + 1 then (if a + 1 < (s.size : Int) then (if (Go.bits .or .u8 (bt s (a + 1)) 32) = 111 then (if 0 ≤ a + 2 then (if a + 2 < (s.size : Int) then (if (Go.bits .or .u8 (bt s (a + 2)) 32) = 112 then (if 0 ≤ a + 3 then (if a + 3 < (s.size : Int) then (some ((Go.bits .or .u8 (bt s (a + 3)) 32) == 121)) else (none)) else (none)) else (some false)) else (none)) else (none)) else (some false)) else (none)) else (none)) else (some false)) else (some false)) b →
        Ev (fun k => pqsql_StartsWithCopy.l0 k s false false a) b := by
      intro b c t hat hbare hev
      obtain ⟨h32, h9, h13, h10, _, _⟩ := hbare c t rfl
      have hbt := hat.bt
      refine prog_end s hs a c t hat hbare b <| Ev.step (fun k => pqsql_StartsWithCopy.j2.eq_2 _ _ _ _ _ _ _) <| Ev.if_neg (by simp) <| Ev.if_neg (by omega) <| Ev.if_neg (by omega) <| Ev.if_neg (by omega) <| Ev.if_neg (by omega) ?_
      rw [wrap64_id (n := a + 1) (by omega) (by omega), wrap64_id (n := a + 2) (by omega) (by omega), wrap64_id (n := a + 3) (by omega) (by omega)]
      exact hev
    by_cases hle : a + 4 > (s.size : Int)
    · refine ⟨false, x3, spec _ <| Ev.if_pos hle <| Ev.now _, fun hx => prog _ hx fun l' hl' hbare => ?_⟩
      cases l' with
      | nil => exact Ev.step (fun k => pqsql_StartsWithCopy.l0.eq_2 _ _ _ _ _) <| Ev.if_neg (by have := hl'.snil; omega) <| Ev.now _
      | cons c t => exact j2 _ c t hl' hbare <| Ev.if_neg (by omega) <| Ev.now _
    · have prog2 : ∀ b, x3 = true → Ev (fun _ => (if (Go.bits .or .u8 (bt s a) 32) = 99 then (if 0 ≤ a + 1 then (if a + 1 < (s.size : Int) then (if (Go.bits .or .u8 (bt s (a + 1)) 32) = 111 then (if 0 ≤ a + 2 then (if a + 2 < (s.size : Int) then (if (Go.bits .or .u8 (bt s (a + 2)) 32) = 112 then (if 0 ≤ a + 3 then (if a + 3 < (s.size : Int) then (some ((Go.bits .or .u8 (bt s (a + 3)) 32) == 121)) else (none)) else (none)) else (some false)) else (none)) else (none)) else (some false)) else (none)) else (none)) else (some false))) b → Ev (fun k => pqsql_StartsWithCopy.f k s) b := by
        intro b hx hev
        refine prog b hx fun l' hl' hbare => ?_
        cases l' with
        | nil => have := hl'.snil; omega
        | cons c t => exact j2 b c t hl' hbare <| Ev.if_pos (by omega) hev
      have s0 := spec_step s hs x3 a 0 67 (by omega) (by omega) hbd.1 (by omega) rfl
      have s1 := spec_step s hs x3 a 1 79 (by omega) (by omega) hbd.1 (by omega) rfl
      have s2 := spec_step s hs x3 a 2 80 (by omega) (by omega) hbd.1 (by omega) rfl
      have s3 := spec_step s hs x3 a 3 89 (by omega) (by omega) hbd.1 (by omega) rfl
      have o0 := (or32 s a).1
      have o1 := (or32 s (a + 1)).2.1
      have o2 := (or32 s (a + 2)).2.2.1
      have o3 := (or32 s (a + 3)).2.2.2
      rw [Int.add_zero] at s0
      have yes : ∀ q : Bool, (x3 = false → q = false) → q = true → x3 = true := by
        intro q h1 h2
        cases x3 with
        | true => rfl
        | false => rw [h1 rfl] at h2; cases h2
      by_cases u0 : U (bt s a) = 67
      · by_cases u1 : U (bt s (a + 1)) = 79
        · by_cases u2 : U (bt s (a + 2)) = 80
          · by_cases u3 : U (bt s (a + 3)) = 89
            · refine ⟨true, x3, spec _ <| Ev.if_neg hle <| s0.1 u0 _ <| s1.1 u1 _ <| s2.1 u2 _ <| s3.1 u3 _ <| Ev.step (fun k => spec_CopyFirst.l0.eq_2 _ _ _ _ _) <| Ev.if_neg (by omega) <| Ev.now _, fun hx => prog2 _ hx ?_⟩
              refine Ev.if_pos (o0.2 u0) <| Ev.if_pos (by omega) <| Ev.if_pos (by omega) <| Ev.if_pos (o1.2 u1) <| Ev.if_pos (by omega) <| Ev.if_pos (by omega) <| Ev.if_pos (o2.2 u2) <| Ev.if_pos (by omega) <| Ev.if_pos (by omega) ?_
              rw [beq_iff_eq.2 (o3.2 u3)]
              exact Ev.now _
            · obtain ⟨q, hq, hev⟩ := s3.2 u3
              refine ⟨false, q, spec _ <| Ev.if_neg hle <| s0.1 u0 _ <| s1.1 u1 _ <| s2.1 u2 _ hev, fun hx => prog2 _ (yes q hq hx) ?_⟩
              refine Ev.if_pos (o0.2 u0) <| Ev.if_pos (by omega) <| Ev.if_pos (by omega) <| Ev.if_pos (o1.2 u1) <| Ev.if_pos (by omega) <| Ev.if_pos (by omega) <| Ev.if_pos (o2.2 u2) <| Ev.if_pos (by omega) <| Ev.if_pos (by omega) ?_
              rw [beq_eq_false_iff_ne.2 (fun h => u3 (o3.1 h))]
              exact Ev.now _
          · obtain ⟨q, hq, hev⟩ := s2.2 u2
            exact ⟨false, q, spec _ <| Ev.if_neg hle <| s0.1 u0 _ <| s1.1 u1 _ hev, fun hx => prog2 _ (yes q hq hx) <| Ev.if_pos (o0.2 u0) <| Ev.if_pos (by omega) <| Ev.if_pos (by omega) <| Ev.if_pos (o1.2 u1) <| Ev.if_pos (by omega) <| Ev.if_pos (by omega) <| Ev.if_neg (fun h => u2 (o2.1 h)) <| Ev.now _⟩
        · obtain ⟨q, hq, hev⟩ := s1.2 u1
          exact ⟨false, q, spec _ <| Ev.if_neg hle <| s0.1 u0 _ hev, fun hx => prog2 _ (yes q hq hx) <| Ev.if_pos (o0.2 u0) <| Ev.if_pos (by omega) <| Ev.if_pos (by omega) <| Ev.if_neg (fun h => u1 (o1.1 h)) <| Ev.now _⟩
      · obtain ⟨q, hq, hev⟩ := s0.2 u0
        exact ⟨false, q, spec _ <| Ev.if_neg hle hev, fun hx => prog2 _ (yes q hq hx) <| Ev.if_neg (fun h => u0 (o0.1 h)) <| Ev.now _⟩

theorem copyText : Ev (fun k => pqsql_StartsWithCopy.f k (⟨#[99, 111, 112, 121, 32]⟩ : ByteArray)) true :=
  Ev.of (fun k => pqsql_StartsWithCopy.mono _ k) (k := 5) (by decide +kernel)

theorem impl_of {s : ByteArray} {b : Bool} (h : Ev (fun k => pqsql_StartsWithCopy.f k s) b) : Ev (fun k => impl_CopyFirst.f k s) b := by
  unfold impl_CopyFirst.f
  exact Ev.bind h <| Ev.now _

end CopyFirst
open CopyFirst
theorem FnCopyFirst : laws_FnCopyFirst.Pure := by
  intro s hs
  refine Ev.rounds ?_
  unfold laws_FnCopyFirst.f
  by_cases h : (s.size : Int) > 2147483647
  · exact Ev.if_pos h <| Ev.now _
  refine Ev.if_neg h ?_
  obtain ⟨b, hb⟩ := text9 s hs
  refine Ev.bind hb ?_
  cases b with
  | false => exact Ev.if_neg (by simp) <| Ev.now _
  | true =>
    refine Ev.if_pos rfl ?_
    obtain ⟨w, q, h1, h2⟩ := both s hs
    refine Ev.bind h1 ?_
    simp only
    cases q with
    | false => exact Ev.if_neg (by simp) <| Ev.now _
    | true =>
      refine Ev.if_pos rfl <| Ev.bind (impl_of (h2 rfl)) <| Ev.if_pos (by simp) <| Ev.bind (impl_of copyText) <| Ev.now _

end Go.Proofs.Ytlfkejljbehcaaa.Pure
