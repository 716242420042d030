/- The order of texts by their bytes. Conditions: none. -/
import Derived.Test.YtlhjblbmhlelbaaWMore
namespace Go.Proofs.Ytlhjblbmhlelbaa.P
open Go
theorem bl_nil (x : List UInt8) : Op.bytesLess x [] = false := by cases x <;> rfl
theorem bl_nil' (c : UInt8) (x : List UInt8) : Op.bytesLess [] (c :: x) = true := rfl
theorem bl_cons (c d : UInt8) (x y : List UInt8) : Op.bytesLess (c :: x) (d :: y) = (decide (c < d) || (c == d && Op.bytesLess x y)) := rfl
theorem bl_irrefl : ∀ x : List UInt8, Op.bytesLess x x = false
  | [] => rfl
  | c :: x => by
    rw [bl_cons, bl_irrefl x]
    simp
theorem bl_asymm : ∀ x y : List UInt8, Op.bytesLess x y = true → Op.bytesLess y x = false
  | [], [], h => by cases h
  | [], d :: y, _ => bl_nil _
  | c :: x, [], h => by rw [bl_nil] at h; cases h
  | c :: x, d :: y, h => by
    rw [bl_cons] at h ⊢
    simp only [Bool.or_eq_true, Bool.and_eq_true, decide_eq_true_eq, beq_iff_eq] at h
    simp only [Bool.or_eq_false_iff, Bool.and_eq_false_iff, decide_eq_false_iff_not, beq_eq_false_iff_ne]
    rcases h with h | ⟨rfl, h⟩
    · refine ⟨fun h2 => ?_, .inl (fun h2 => ?_)⟩
      · rw [UInt8.lt_iff_toNat_lt] at h h2; omega
      · subst h2; rw [UInt8.lt_iff_toNat_lt] at h; omega
    · exact ⟨fun h2 => by rw [UInt8.lt_iff_toNat_lt] at h2; omega, .inr (bl_asymm x y h)⟩
theorem bl_total : ∀ x y : List UInt8, Op.bytesLess x y = false → Op.bytesLess y x = false → x = y
  | [], [], _, _ => rfl
  | [], d :: y, h, _ => by cases h
  | c :: x, [], _, h => by cases h
  | c :: x, d :: y, h, h' => by
    rw [bl_cons] at h h'
    simp only [Bool.or_eq_false_iff, Bool.and_eq_false_iff, decide_eq_false_iff_not, beq_eq_false_iff_ne] at h h'
    have e : c = d := by
      apply UInt8.toNat_inj.1
      have h1 := h.1
      have h2 := h'.1
      rw [UInt8.lt_iff_toNat_lt] at h1 h2
      omega
    subst e
    rw [bl_total x y (by rcases h.2 with h | h; exact absurd rfl h; exact h) (by rcases h'.2 with h | h; exact absurd rfl h; exact h)]
theorem bl_trans : ∀ x y z : List UInt8, Op.bytesLess x y = true → Op.bytesLess y z = true → Op.bytesLess x z = true
  | x, [], _, h, _ => by rw [bl_nil] at h; cases h
  | _, d :: y, [], _, h => by rw [bl_nil] at h; cases h
  | [], d :: y, e :: z, _, _ => rfl
  | c :: x, d :: y, e :: z, h, h' => by
    rw [bl_cons] at h h' ⊢
    simp only [Bool.or_eq_true, Bool.and_eq_true, decide_eq_true_eq, beq_iff_eq] at h h' ⊢
    rcases h with h | ⟨rfl, h⟩
    · rcases h' with h' | ⟨rfl, h'⟩
      · left; rw [UInt8.lt_iff_toNat_lt] at h h' ⊢; omega
      · left; exact h
    · rcases h' with h' | ⟨rfl, h'⟩
      · left; exact h'
      · right; exact ⟨rfl, bl_trans x y z h h'⟩
/-- '<=' as the negation of '>'. -/
theorem leq_bytes (x y : List UInt8) : (Op.bytesLess x y || x == y) = !Op.bytesLess y x := by
  cases h : Op.bytesLess x y
  · cases h2 : Op.bytesLess y x
    · rw [bl_total x y h h2]; simp
    · simp only [Bool.false_or, Bool.not_true, beq_eq_false_iff_ne]
      intro e
      subst e
      rw [bl_irrefl] at h2
      cases h2
  · rw [bl_asymm x y h]; rfl
theorem isEmpty_ne (l : List UInt8) : Ending.returned (.bool (!l.isEmpty)) = Ending.returned (.bool (l != [])) := by cases l <;> rfl
end Go.Proofs.Ytlhjblbmhlelbaa.P
