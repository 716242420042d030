/- FnByteaRefused's walk at every argument, and what the listed variable ErrLength gives. Conditions: ErrLength's cell holds an interface value. -/
import Derived.Test.YthcikkjjegfbladDoorHexPlain
import Derived.Test.YthcikkjjegfbladDoorPx6
import Derived.Stop.LaidErr
import Derived.LaidLaws
import Derived.OpenShut
namespace Go.Proofs.YthcikkjjegfbladDoor.Lib
open Go.RowKit Go.Proofs.YthcikkjjegfbladDoor.P Go.Proofs.YthcikkjjegfbladDoorW.PrintWords Go.Proofs.YthcikkjjegfbladDoorW.PrintLast Go.Proofs.YthcikkjjegfbladDoorW.PrintMore
set_option linter.unusedVariables false
set_option linter.unusedSimpArgs false
theorem star : "*" ++ "errors.errorString" = "*errors.errorString" := by decide
theorem row_es (u : TypeId) (h : Tryd.prog.typeName? 3 u = some "*errors.errorString") : u = 46 :=
  typeName_ptr_named (nm := "errors.errorString") (by rw [star]; kernel_rfl) (by kernel_rfl) (by decide) u (by rw [star]; exact h)
theorem gEL : Tryd.prog.globalNamed "encoding/hex.ErrLength" = some 0 := by kernel_rfl
theorem errlen_cell {W : World} {text : List UInt8} {r : List (String × DataW Unit)} (h : laidMet Tryd.prog (("encoding/hex.ErrLength", .iface "*errors.errorString" (.ptr (.agg [.lit (.string text)]))) :: r) W) : ∃ te xe, W.cell? ⟨0, 0, none⟩ = some (.iface te xe) := by
  obtain ⟨a0, s0, hv0, -, -, -⟩ := laid_sentinel h gEL (ti := 32) (by kernel_rfl) Tryd.underlying32 row_es Tryd.underlying46 Tryd.underlying48 rfl rfl Tryd.underlying9 (by kernel_rfl) (by kernel_rfl)
  exact ⟨_, _, by simpa using World.var?_cell gEL hv0 0⟩
theorem isHex_some (a : Int) : ∃ b, spec_IsHex.f a = some b := by
  unfold spec_IsHex.f
  repeat' split
  all_goals exact ⟨_, rfl⟩
theorem wf_byte {a : Int} (h : (Lit.int .u8 a).wf = true) : 0 ≤ a ∧ a ≤ 255 := by
  unfold Lit.wf at h
  simp only [Bool.and_eq_true, decide_eq_true_eq] at h
  exact h
theorem refused_walk (a0 : ByteArray) (a1 a2 : Int) (w : World) (w1 : (Lit.int .u8 a1).wf = true) (w2 : (Lit.int .u8 a2).wf = true) (hE : ∃ te xe, w.cell? ⟨0, 0, none⟩ = some (.iface te xe)) :
    Calls Tryd.prog 3 #[.string a0, .int .u8 a1, .int .u8 a2] w fun e w' => e = .returned (.bool true) ∧ Below w.heap.size w w' := by
  have r1 : 0 ≤ a1 ∧ a1 ≤ 255 := wf_byte w1
  have r2 : 0 ≤ a2 ∧ a2 ≤ 255 := wf_byte w2
  obtain ⟨b, hb⟩ := isHex_some a2
  have j0t : laws_FnByteaRefused.j0 1 a0 true = some true := by rw [laws_FnByteaRefused.j0, if_pos rfl]
  by_cases hg : 0 < a0.size ∧ a0.size ≤ 200 ∧ b = false
  · obtain ⟨h1, h2, rfl⟩ := hg
    obtain ⟨te, xe, hE⟩ := hE
    obtain ⟨k, hk⟩ := (hex_small a0 (by omega)).rounds
    have hl : (nat8 (Go.Lib.Hx.encode a0.data.toList)).length = 2 * a0.size := by
      rw [List.length_map, Go.Lib.Hx.encode_length]; simp
    have hin : ∀ x ∈ nat8 (Go.Lib.Hx.encode a0.data.toList), 0 ≤ x ∧ x < 256 := by
      intro x hx
      obtain ⟨b, _, rfl⟩ := List.mem_map.1 hx
      have := b.toNat_lt
      omega
    have hback : bytesOf (strOfNums (92 :: 120 :: nat8 (Go.Lib.Hx.encode a0.data.toList))) = 92 :: 120 :: nat8 (Go.Lib.Hx.encode a0.data.toList) := bytes_back (by
      intro x hx
      rcases List.mem_cons.1 hx with rfl | hx
      · omega
      rcases List.mem_cons.1 hx with rfl | hx
      · omega
      exact hin x hx)
    have hm0 : (0 : Int) < ((2 * a0.size : Nat) : Int) := by omega
    have hi0 := Int.emod_nonneg a1 (show ((2 * a0.size : Nat) : Int) ≠ 0 by omega)
    have hi1 := Int.emod_lt_of_pos a1 hm0
    obtain ⟨i, hi⟩ : ∃ i : Nat, a1 % ((2 * a0.size : Nat) : Int) = (i : Int) := ⟨(a1 % ((2 * a0.size : Nat) : Int)).toNat, by rw [Int.toNat_of_nonneg hi0]⟩
    rw [hi] at hi1
    exact laws_FnByteaRefused_main k a0 _ a1 a2 _ (2 * a0.size) i w te xe hE h1 h2 hb hk hback hl (by omega) (by omega) ⟨r1.1, by omega⟩ hi (by omega) ⟨r2.1, by omega⟩ hin (bad_digit _ i a2 (by rw [hl]; omega) ⟨r2.1, by omega⟩ hb)
  · refine laws_FnByteaRefused.calls 1 a0 a1 a2 true w ?_
    unfold laws_FnByteaRefused.f
    split
    · rfl
    · split
      · exact j0t
      · split
        · exact j0t
        · rw [hb]
          have : b = true := by
            cases b
            · exact absurd ⟨by omega, by omega, rfl⟩ hg
            · rfl
          rw [this]
          exact j0t
end Go.Proofs.YthcikkjjegfbladDoor.Lib
