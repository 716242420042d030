import Derived.Lib.ParseIntBCases
import Derived.Lib.ItoaMem
namespace Go.Proofs.YthcikkjjegfblacDoor.Lib
open Go.Lib
theorem dig (d : Nat) (h : d < 10) : (UInt8.ofNat (48 + d)).toNat = 48 + d := by
  rw [UInt8.toNat_ofNat']; omega
theorem parseM_dec (M : Nat) (hM : M ≤ 18446744073709551615) : ∀ (u : Nat) (r : List UInt8), u ≤ M → parseUintM M 0 (decDigits u ++ r) = parseUintM M u r := by
  intro u
  induction u using Nat.strongRecOn with
  | _ u ih =>
    intro r hu
    by_cases h : u < 10
    · rw [decDigits_one h, List.singleton_append, parseUintM, dig u h, if_pos (by omega), if_neg (by omega), if_neg (by omega)]
      congr 1; omega
    · rw [decDigits, dif_neg h, List.append_assoc, ih (u / 10) (by omega) _ (by omega), List.singleton_append, parseUintM, dig (u % 10) (by omega), if_pos (by omega), if_neg (by omega), if_neg (by omega)]
      congr 1; omega
theorem dec_ne (u : Nat) : ∃ c r, decDigits u = c :: r ∧ 48 ≤ c.toNat ∧ c.toNat ≤ 57 := by
  induction u using Nat.strongRecOn with
  | _ u ih =>
    by_cases h : u < 10
    · exact ⟨_, _, decDigits_one h, by rw [dig u h]; omega, by rw [dig u h]; omega⟩
    · obtain ⟨c, r, h1, h2, h3⟩ := ih (u / 10) (by omega)
      exact ⟨c, r ++ [UInt8.ofNat (48 + u % 10)], by rw [decDigits, dif_neg h, h1]; rfl, h2, h3⟩
theorem dec_all (u : Nat) : ∀ c ∈ decDigits u, 48 ≤ c.toNat ∧ c.toNat ≤ 57 := by
  induction u using Nat.strongRecOn with
  | _ u ih =>
    by_cases h : u < 10
    · intro c hc
      rw [decDigits_one h, List.mem_singleton] at hc
      rw [hc, dig u h]; omega
    · intro c hc
      rw [decDigits, dif_neg h] at hc
      rcases List.mem_append.1 hc with hc | hc
      · exact ih (u / 10) (by omega) c hc
      · rw [List.mem_singleton.1 hc, dig (u % 10) (by omega)]; omega
theorem parse_itoa (n : Int) (h0 : 0 ≤ n) (h1 : n ≤ 9223372036854775807) : parseIntB 64 (itoa n) = .ok n := by
  obtain ⟨u, rfl⟩ := Int.eq_ofNat_of_zero_le h0
  rw [itoa_nonneg]
  obtain ⟨c, r, h, h2, h3⟩ := dec_ne u
  have hp : parseUintB 64 (decDigits u) = .ok u := by
    unfold parseUintB
    rw [if_neg (by rw [h]; exact List.cons_ne_nil _ _)]
    have := parseM_dec (2 ^ 64 - 1) (by omega) u [] (by omega)
    rw [List.append_nil] at this
    rw [this]; rfl
  rw [h] at hp ⊢
  rw [parseIntB_plain 64 c r (by omega) (by omega), hp]
  unfold signlessC
  simp
  try omega
theorem parse_letters (c : UInt8) (r : List UInt8) (h : 97 ≤ c.toNat) : parseIntB 64 (c :: r) = .syntax := by
  rw [parseIntB_plain 64 c r (by omega) (by omega)]
  have : parseUintB 64 (c :: r) = .syntax := by
    unfold parseUintB
    rw [if_neg (List.cons_ne_nil _ _), parseUintM, if_neg (by omega)]
  rw [this]; rfl
end Go.Proofs.YthcikkjjegfblacDoor.Lib
