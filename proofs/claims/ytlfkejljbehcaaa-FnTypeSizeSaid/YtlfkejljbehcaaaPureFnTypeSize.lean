/- FnTypeSize, for all numbers: the modifier of a varchar less 4 is its length, and that of a numeric less 4 has the digits in its upper 16 bits and the scale in its lower ones.
   Conditions: none beyond the kinds of the three numbers (lengths up to 10485760, digits up to 1000, by the law's own guard). -/
import Derived.Test.YtlfkejljbehcaaaPFnTypeSizex1
namespace Go.Proofs.Ytlfkejljbehcaaa.Pure
open Go.RowKit Go.Proofs.Ytlfkejljbehcaaa.PFnTypeSize Go.Proofs.YtlfkejljbehcaaaW.PrintWords Go.Proofs.YtlfkejljbehcaaaW.PrintLast

theorem i64_wraps (n : Int) (h₀ : 0 ≤ n) (h₁ : n < 2 ^ 32) : IntKind.i64.wrap n = n := by rw [IntKind.wrap_i64]; omega

theorem wrap64_id {n : Int} (h₀ : -9223372036854775808 ≤ n) (h₁ : n ≤ 9223372036854775807) : wrap64 n = n := by unfold wrap64; omega

theorem typeLength (k : Nat) (n : Int) (h0 : 0 ≤ n) (h1 : n ≤ 10485760) : impl_TypeLength.f (k + 2) 1043 (n + 4) = some (n, true) := by
  unfold impl_TypeLength.f pq_ColumnLength.f pq_fieldDesc_Length.f
  rw [if_neg (by omega)]
  simp only [pq_fieldDesc_Length.j0, pq_fieldDesc_Length.j1]
  have e : wrap64 n = n := by unfold wrap64; omega
  simp [e]

theorem typeScale (p s : Int) (h0 : 0 ≤ p) (h1 : p ≤ 1000) (h2 : 0 ≤ s) (h3 : s < 65536) : impl_TypeScale.f 1700 (p * 65536 + s + 4) = some (p, s, true) := by
  unfold impl_TypeScale.f pq_ColumnScale.f pq_fieldDesc_PrecisionScale.f
  rw [if_pos rfl]
  have e : wrap64 (p * 65536 + s + 4 - 4) = p * 65536 + s := by unfold wrap64; omega
  have m : (65535 : Int) = 2 ^ 16 - 1 := by decide
  rw [e, show (p * 65536 + s) / 65536 = p from by omega, m,
    bits_mask .i64 32 (by decide) i64_wraps 16 (by decide) p h0 (by omega),
    bits_mask .i64 32 (by decide) i64_wraps 16 (by decide) (p * 65536 + s) (by omega) (by omega)]
  rw [show p % 2 ^ 16 = p from by omega, show (p * 65536 + s) % 2 ^ 16 = s from by omega]
  rfl

/-- YOURS: ∀ (a0 : Int) (a1 : Int) (a2 : Int), (Lit.int .u32 a0).wf = true → (Lit.int .u16 a1).wf = true → (Lit.int .u16 a2).wf = true → ∃ k, laws_FnTypeSize.f k a0 a1 a2 = some true -/
theorem FnTypeSize : laws_FnTypeSize.Pure := by
  intro a b c ha hb hc
  refine ⟨4, ?_⟩
  unfold laws_FnTypeSize.f
  by_cases h0 : a < 1
  · rw [if_pos h0]; rfl
  rw [if_neg h0]
  by_cases h1 : a > 10485760
  · rw [if_pos h1]; rfl
  rw [if_neg h1]
  by_cases h2 : b < 1
  · rw [if_pos h2]; rfl
  rw [if_neg h2]
  by_cases h3 : b > 1000
  · rw [if_pos h3]; rfl
  rw [if_neg h3]
  by_cases h4 : c > b
  · simp only [laws_FnTypeSize.j0, h4, decide_true, if_true]
  have hc' : 0 ≤ c ∧ c < 65536 := by
    simp [Lit.wf, IntKind.min, IntKind.max, IntKind.bits, IntKind.signed] at hc; omega
  simp only [laws_FnTypeSize.j0, h4, decide_false]
  rw [wrap64_id (n := a) (by omega) (by omega), wrap64_id (n := b) (by omega) (by omega), wrap64_id (n := c) (by omega) (by omega), wrap64_id (n := a + 4) (by omega) (by omega), wrap64_id (n := b * 65536) (by omega) (by omega)]
  rw [bits_join .i64 32 (by decide) i64_wraps 16 (b * 65536) c (by omega) (by omega) (by omega) (by omega) (by omega) (by omega)]
  rw [wrap64_id (n := b * 65536 + c + 4) (by omega) (by omega), typeLength 1 a (by omega) (by omega), typeScale b c (by omega) (by omega) (by omega) (by omega)]
  simp

end Go.Proofs.Ytlfkejljbehcaaa.Pure
