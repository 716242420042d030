/- What Decimal writes is a word: digits, with a minus sign ahead or none. Conditions: none. -/
import Derived.Test.YthcikkjjegfblaaPx5
import Derived.Test.YthcikkjjegfblaaLib
namespace Go.Proofs.Ythcikkjjegfblaa.Lib
open Go.RowKit Go.Proofs.Ythcikkjjegfblaa.P Go.Proofs.YthcikkjjegfblaaW.PrintWords Go.Proofs.YthcikkjjegfblaaW.PrintLast Go.Proofs.YthcikkjjegfblaaW.PrintMore
set_option linter.unusedVariables false
set_option linter.unusedSimpArgs false

theorem u64_range (x : Int) : 0 ≤ IntKind.u64.wrap x ∧ IntKind.u64.wrap x < 18446744073709551616 := by
  have h : IntKind.u64.wrap x = x % 18446744073709551616 := by
    unfold IntKind.wrap
    simp [IntKind.signed, IntKind.bits]
  rw [h]; omega
theorem u64_id {x : Int} (h0 : 0 ≤ x) (h1 : x < 18446744073709551616) : IntKind.u64.wrap x = x := by
  have h : IntKind.u64.wrap x = x % 18446744073709551616 := by
    unfold IntKind.wrap
    simp [IntKind.signed, IntKind.bits]
  rw [h]; omega
theorem digit_text (a : Int) (h0 : 0 ≤ a) (h1 : a < 10) : bytesOf (strOfNums [(48 + a % 256) % 256]) = [48 + a] := by
  have e : (48 + a % 256) % 256 = 48 + a := by omega
  rw [e]
  exact bytesOf_strOfNums (fun c hc => by simp at hc; omega)
theorem digits_word : ∀ (N : Nat) (a : Int), 0 ≤ a → a < 18446744073709551616 → a < 10 ^ (N + 1) → N ≤ 20 → ∃ t, Ev (fun k => spec_digits.f k a) t ∧ (∀ x ∈ bytesOf t, 48 ≤ x ∧ x ≤ 57) ∧ 1 ≤ t.size ∧ t.size ≤ N + 1 := by
  intro N
  induction N with
  | zero =>
    intro a h0 hm h1 _
    have h10 : a < 10 := by simpa using h1
    have hd := digit_text a h0 h10
    refine ⟨strOfNums [(48 + a % 256) % 256], Ev.step (fun k => spec_digits.f.eq_2 _ _) <| Ev.if_pos h10 <| Ev.now _, fun x hx => ?_, ?_, ?_⟩
    · rw [hd] at hx; simp at hx; omega
    · rw [piece_size hd]; simp
    · rw [piece_size hd]; simp
  | succ N ih =>
    intro a h0 hm h1 hN
    by_cases h10 : a < 10
    · have hd := digit_text a h0 h10
      refine ⟨strOfNums [(48 + a % 256) % 256], Ev.step (fun k => spec_digits.f.eq_2 _ _) <| Ev.if_pos h10 <| Ev.now _, fun x hx => ?_, ?_, ?_⟩
      · rw [hd] at hx; simp at hx; omega
      · rw [piece_size hd]; simp
      · rw [piece_size hd]; simp
    · have ht : Int.tdiv a 10 = a / 10 := Int.tdiv_eq_ediv_of_nonneg h0
      have hr : Int.tmod a 10 = a % 10 := Int.tmod_eq_emod_of_nonneg h0
      have hlt : a / 10 < 10 ^ (N + 1) := by
        have : (10 : Int) ^ (N + 1 + 1) = 10 ^ (N + 1) * 10 := Int.pow_succ ..
        omega
      obtain ⟨t, e1, e2, e3, e4⟩ := ih (a / 10) (by omega) (by omega) hlt (by omega)
      have hw : IntKind.u64.wrap (Int.tdiv a 10) = a / 10 := by rw [ht]; exact u64_id (by omega) (by omega)
      have hd := digit_text (a % 10) (by omega) (by omega)
      have hs : (strOfNums [(48 + a % 10 % 256) % 256]).size = 1 := piece_size hd
      refine ⟨t ++ strOfNums [(48 + a % 10 % 256) % 256], Ev.step (fun k => spec_digits.f.eq_2 _ _) <| Ev.if_neg h10 ?_, fun x hx => ?_, ?_, ?_⟩
      · rw [hw, hr]
        refine Ev.bind e1 <| Ev.bind (Ev.now _) <| Ev.if_pos (by rw [hs]; omega) <| Ev.now _
      · rw [bytesOf_append, hd] at hx
        rcases List.mem_append.mp hx with hx | hx
        · exact e2 x hx
        · simp at hx; omega
      · rw [size_append]; omega
      · rw [size_append, hs]; omega
/-- A word: no sign between, no bracket, no quote. -/
def Word (l : List Int) : Prop := l ≠ [] ∧ ∀ x ∈ l, x = 45 ∨ (48 ≤ x ∧ x ≤ 57)
theorem decimal_word (v : Int) : ∃ t, Ev (fun k => spec_Decimal.f k v) t ∧ Word (bytesOf t) ∧ t.size ≤ 22 := by
  have hne : ∀ t : ByteArray, 1 ≤ t.size → bytesOf t ≠ [] := fun t h e => by
    have := bytesOf_length t
    rw [e] at this
    simp at this
    omega
  by_cases hv : v < 0
  · obtain ⟨t, e1, e2, e3, e4⟩ := digits_word 20 (IntKind.u64.wrap ((IntKind.u64.wrap (wrap64 (-(wrap64 (v + 1))))) + 1)) (u64_range _).1 (u64_range _).2 (by have := (u64_range ((IntKind.u64.wrap (wrap64 (-(wrap64 (v + 1))))) + 1)).2; omega) (by omega)
    refine ⟨⟨#[45]⟩ ++ t, ?_, ⟨?_, fun x hx => ?_⟩, ?_⟩
    · unfold spec_Decimal.f
      exact Ev.if_pos hv <| Ev.bind e1 <| Ev.if_pos (by omega) <| Ev.now _
    · rw [bytesOf_append]; intro h; have h2 := congrArg List.length h; simp [bytesOf] at h2
    · rw [bytesOf_append] at hx
      rcases List.mem_append.mp hx with hx | hx
      · left; have h3 : bytesOf ⟨#[45]⟩ = [45] := by decide
        rw [h3] at hx; simpa using hx
      · exact .inr (e2 x hx)
    · rw [size_append]; have h3 : (⟨#[45]⟩ : ByteArray).size = 1 := rfl
      omega
  · obtain ⟨t, e1, e2, e3, e4⟩ := digits_word 20 (IntKind.u64.wrap v) (u64_range _).1 (u64_range _).2 (by have := (u64_range v).2; omega) (by omega)
    refine ⟨t, ?_, ⟨hne t e3, fun x hx => .inr (e2 x hx)⟩, by omega⟩
    unfold spec_Decimal.f
    exact Ev.if_neg hv <| Ev.bind e1 <| Ev.now _
end Go.Proofs.Ythcikkjjegfblaa.Lib
