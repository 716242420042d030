/- FnDecodedBinary, for every number, kind and text: the binary format of an integer is the number, one byte fewer is refused, and bytes are themselves (at most 500 bytes, by the law's own guard).
   Conditions: none beyond the form's own bounds on the sizes. -/
import Derived.Test.YthcikkjjegfblabPx14
import Derived.Test.YthcikkjjegfblabPx2
import Derived.Test.YthcikkjjegfblabLib
namespace Go.Proofs.Ythcikkjjegfblab.Pure.Bin
open Go.RowKit Go.Proofs.Ythcikkjjegfblab.P Go.Proofs.YthcikkjjegfblabW.PrintWords Go.Proofs.YthcikkjjegfblabW.PrintLast Go.Proofs.YthcikkjjegfblabW.PrintMore Go.Proofs.Ythcikkjjegfblab.Lib

/-- The byte of a number that stands i bytes ahead of its last. -/
def byteAt (n : Int) (i : Nat) : Int := (shr .u64 (IntKind.u64.wrap n) (8 * (i : Int))) % 256
def be (n : Int) : Nat → List Int
  | 0 => []
  | m + 1 => byteAt n m :: be n m
theorem be_length (n : Int) (m : Nat) : (be n m).length = m := by
  induction m with
  | zero => rfl
  | succ m ih => simp [be, ih]
theorem be_bytes (n : Int) (m : Nat) : Bytes (be n m) := by
  induction m with
  | zero => intro x hx; cases hx
  | succ m ih =>
    intro x hx
    rcases List.mem_cons.1 hx with rfl | hx
    · unfold byteAt; omega
    · exact ih x hx
theorem app (a b : List Int) : strOfNums a ++ strOfNums b = strOfNums (a ++ b) := by
  apply ByteArray.ext
  simp [strOfNums]
theorem loop (a0 a1 : Int) (a2 : ByteArray) (r : Bool) : ∀ (m : Nat) (out : List Int), m + out.length ≤ 8 → laws_FnDecodedBinary.e0 a0 a1 a2 (strOfNums (out ++ be a1 m)) = some r → Ev (fun k => laws_FnDecodedBinary.l0 k a0 a1 a2 (strOfNums out) ((m : Int) - 1)) r := by
  intro m
  induction m with
  | zero =>
    intro out _ h
    rw [show out ++ be a1 0 = out from by simp [be]] at h
    exact Ev.step (fun k => laws_FnDecodedBinary.l0.eq_2 _ _ _ _ _ _) <| Ev.if_neg (by omega) <| Ev.const h
  | succ m ih =>
    intro out hl h
    have e1 : ((m + 1 : Nat) : Int) - 1 = (m : Int) := by omega
    have e2 : wrap64 (8 * (m : Int)) = 8 * (m : Int) := wrap64_id (by omega) (by omega)
    have e3 : wrap64 ((m : Int) - 1) = (m : Int) - 1 := wrap64_id (by omega) (by omega)
    rw [e1]
    refine Ev.step (fun k => laws_FnDecodedBinary.l0.eq_2 _ _ _ _ _ _) <| Ev.if_pos (by omega) ?_
    rw [e2, e3]
    refine Ev.if_pos (by omega) <| Ev.bind (Ev.now _) <| Ev.if_pos (by simp only [strOfNums_size, List.length_cons, List.length_nil]; omega) ?_
    rw [app]
    exact ih _ (by simp only [List.length_append, List.length_cons, List.length_nil]; omega) (by rw [List.append_assoc]; exact h)
theorem b0 (n : Int) : byteAt n 0 = IntKind.u64.wrap n % 256 := by
  have h : (2 : Int) ^ (min (8 * ((0 : Nat) : Int)).toNat 64) = 1 := by decide
  show (IntKind.u64.wrap n / 2 ^ (min (8 * ((0 : Nat) : Int)).toNat 64)) % 256 = _
  rw [h]; omega
theorem b1 (n : Int) : byteAt n 1 = IntKind.u64.wrap n / 256 % 256 := by
  have h : (2 : Int) ^ (min (8 * ((1 : Nat) : Int)).toNat 64) = 256 := by decide
  show (IntKind.u64.wrap n / 2 ^ (min (8 * ((1 : Nat) : Int)).toNat 64)) % 256 = _
  rw [h]
theorem b2 (n : Int) : byteAt n 2 = IntKind.u64.wrap n / 65536 % 256 := by
  have h : (2 : Int) ^ (min (8 * ((2 : Nat) : Int)).toNat 64) = 65536 := by decide
  show (IntKind.u64.wrap n / 2 ^ (min (8 * ((2 : Nat) : Int)).toNat 64)) % 256 = _
  rw [h]
theorem b3 (n : Int) : byteAt n 3 = IntKind.u64.wrap n / 16777216 % 256 := by
  have h : (2 : Int) ^ (min (8 * ((3 : Nat) : Int)).toNat 64) = 16777216 := by decide
  show (IntKind.u64.wrap n / 2 ^ (min (8 * ((3 : Nat) : Int)).toNat 64)) % 256 = _
  rw [h]
theorem b4 (n : Int) : byteAt n 4 = IntKind.u64.wrap n / 4294967296 % 256 := by
  have h : (2 : Int) ^ (min (8 * ((4 : Nat) : Int)).toNat 64) = 4294967296 := by decide
  show (IntKind.u64.wrap n / 2 ^ (min (8 * ((4 : Nat) : Int)).toNat 64)) % 256 = _
  rw [h]
theorem b5 (n : Int) : byteAt n 5 = IntKind.u64.wrap n / 1099511627776 % 256 := by
  have h : (2 : Int) ^ (min (8 * ((5 : Nat) : Int)).toNat 64) = 1099511627776 := by decide
  show (IntKind.u64.wrap n / 2 ^ (min (8 * ((5 : Nat) : Int)).toNat 64)) % 256 = _
  rw [h]
theorem b6 (n : Int) : byteAt n 6 = IntKind.u64.wrap n / 281474976710656 % 256 := by
  have h : (2 : Int) ^ (min (8 * ((6 : Nat) : Int)).toNat 64) = 281474976710656 := by decide
  show (IntKind.u64.wrap n / 2 ^ (min (8 * ((6 : Nat) : Int)).toNat 64)) % 256 = _
  rw [h]
theorem b7 (n : Int) : byteAt n 7 = IntKind.u64.wrap n / 72057594037927936 % 256 := by
  have h : (2 : Int) ^ (min (8 * ((7 : Nat) : Int)).toNat 64) = 72057594037927936 := by decide
  show (IntKind.u64.wrap n / 2 ^ (min (8 * ((7 : Nat) : Int)).toNat 64)) % 256 = _
  rw [h]
theorem num2 (n : Int) : wrap64 (IntKind.i16.wrap (rd (be n 2) 0 * 256 + rd (be n 2) 1)) = wrap64 (IntKind.i16.wrap n) := by
  show wrap64 (IntKind.i16.wrap (byteAt n 1 * 256 + byteAt n 0)) = _
  have hw : ∀ x y : Int, x % 65536 = y % 65536 → IntKind.i16.wrap x = IntKind.i16.wrap y := fun x y h => by simp [IntKind.wrap, IntKind.bits, IntKind.signed]; omega
  rw [b0, b1, IntKind.wrap_u64]
  have e : n % 18446744073709551616 % 65536 = n % 65536 := by omega
  generalize n % 18446744073709551616 = a at e ⊢
  rw [hw _ n (by omega)]
theorem num4 (n : Int) : wrap64 (wrap32 (rd (be n 4) 0 * 16777216 + rd (be n 4) 1 * 65536 + rd (be n 4) 2 * 256 + rd (be n 4) 3)) = wrap64 (wrap32 n) := by
  show wrap64 (wrap32 (byteAt n 3 * 16777216 + byteAt n 2 * 65536 + byteAt n 1 * 256 + byteAt n 0)) = _
  rw [b0, b1, b2, b3, IntKind.wrap_u64]
  have e : n % 18446744073709551616 % 4294967296 = n % 4294967296 := by omega
  generalize n % 18446744073709551616 = a at e ⊢
  have e2 : a / 16777216 % 256 * 16777216 + a / 65536 % 256 * 65536 + a / 256 % 256 * 256 + a % 256 = a % 4294967296 := by omega
  rw [e2, e]
  congr 1
  unfold wrap32
  omega
theorem num8 (n : Int) (h0 : -9223372036854775808 ≤ n) (h1 : n ≤ 9223372036854775807) : wrap64 (u64Of (be n 8)) = n := by
  show wrap64 (byteAt n 7 * 72057594037927936 + byteAt n 6 * 281474976710656 + byteAt n 5 * 1099511627776 + byteAt n 4 * 4294967296 + byteAt n 3 * 16777216 + byteAt n 2 * 65536 + byteAt n 1 * 256 + byteAt n 0) = _
  rw [b0, b1, b2, b3, b4, b5, b6, b7, IntKind.wrap_u64]
  have hb : 0 ≤ n % 18446744073709551616 ∧ n % 18446744073709551616 < 18446744073709551616 := by omega
  have e : n % 18446744073709551616 = n ∨ n % 18446744073709551616 = n + 18446744073709551616 := by omega
  generalize n % 18446744073709551616 = a at e hb ⊢
  have e2 : a / 72057594037927936 % 256 * 72057594037927936 + a / 281474976710656 % 256 * 281474976710656 + a / 1099511627776 % 256 * 1099511627776 + a / 4294967296 % 256 * 4294967296 + a / 16777216 % 256 * 16777216 + a / 65536 % 256 * 65536 + a / 256 % 256 * 256 + a % 256 = a := by omega
  rw [e2]
  unfold wrap64
  omega
theorem last (a0 a1 : Int) (a2 : ByteArray) (h : Int.tmod a0 3 = 0 ∨ Int.tmod a0 3 = 1 ∨ Int.tmod a0 3 = 2) (h0 : -9223372036854775808 ≤ a1) (h1 : a1 ≤ 9223372036854775807) : laws_FnDecodedBinary.e0 a0 a1 a2 (strOfNums (be a1 (decMost (dbTyp a0)))) = some true := by
  unfold laws_FnDecodedBinary.e0
  refine _root_.if_pos ⟨by rw [strOfNums_size, be_length], ?_, ?_, ?_⟩
  · rw [bytesOf_strOfNums' (be_bytes _ _)]
    unfold dbTyp dbNum
    rcases h with h | h | h <;> rw [h]
    · exact num2 a1
    · exact num4 a1
    · exact num8 a1 h0 h1
  · unfold dbTyp; rcases h with h | h | h <;> rw [h] <;> rfl
  · unfold dbTyp; rcases h with h | h | h <;> rw [h] <;> rfl
theorem law (a0 a1 : Int) (a2 : ByteArray) (h : 0 ≤ a0) (h0 : -9223372036854775808 ≤ a1) (h1 : a1 ≤ 9223372036854775807) : Ev (fun k => laws_FnDecodedBinary.f k a0 a1 a2) true := by
  have ht : Int.tmod a0 3 = 0 ∨ Int.tmod a0 3 = 1 ∨ Int.tmod a0 3 = 2 := by rw [Int.tmod_eq_emod_of_nonneg h]; omega
  unfold laws_FnDecodedBinary.f
  by_cases c1 : (a2.size : Int) > 2147483647
  · exact Ev.if_pos c1 <| Ev.now _
  refine Ev.if_neg c1 ?_
  by_cases c2 : (a2.size : Int) > 500
  · exact Ev.if_pos c2 <| Ev.now _
  refine Ev.if_neg c2 <| Ev.if_pos (by omega) <| Ev.if_pos (by simp; omega) <| Ev.bind (Ev.now _) <| Ev.if_pos (by simp; omega) ?_
  have e4 : rd [2, 4, 8] (Int.tmod a0 3) = (decMost (dbTyp a0) : Int) := by unfold dbTyp; rcases ht with h | h | h <;> rw [h] <;> rfl
  have em : decMost (dbTyp a0) ≤ 8 := by unfold dbTyp; rcases ht with h | h | h <;> rw [h] <;> decide
  rw [e4, wrap64_id (by omega) (by omega)]
  have := loop a0 a1 a2 true (decMost (dbTyp a0)) [] (by simpa using em) (by rw [List.nil_append]; exact last a0 a1 a2 ht h0 h1)
  exact this
end Go.Proofs.Ythcikkjjegfblab.Pure.Bin
namespace Go.Proofs.Ythcikkjjegfblab.Pure
open Go.RowKit Go.Proofs.Ythcikkjjegfblab.P Go.Proofs.YthcikkjjegfblabW.PrintWords Go.Proofs.YthcikkjjegfblabW.PrintLast Go.Proofs.YthcikkjjegfblabW.PrintMore Go.Proofs.Ythcikkjjegfblab.Lib
theorem FnDecodedBinary (a0 a1 : Int) (a2 : ByteArray) (h0 : (Lit.int .u8 a0).wf = true) (h1 : (Lit.int .i64 a1).wf = true) (_h2 : a2.size ≤ 140737488351232) : ∃ k, laws_FnDecodedBinary.f k a0 a1 a2 = some true := by
  have g0 : 0 ≤ a0 := by have := (Bool.and_eq_true _ _).mp h0; exact of_decide_eq_true this.1
  have g1 : -9223372036854775808 ≤ a1 ∧ a1 ≤ 9223372036854775807 := by have := (Bool.and_eq_true _ _).mp h1; exact ⟨of_decide_eq_true this.1, of_decide_eq_true this.2⟩
  exact Ev.rounds (Bin.law a0 a1 a2 g0 g1.1 g1.2)

end Go.Proofs.Ythcikkjjegfblab.Pure
