/- FnByteaHex's own walk, and the law at every argument. Conditions: what ErrLength's cell holds. -/
import Derived.Test.YthcikkjjegfbladDoorHexBoth
namespace Go.Proofs.YthcikkjjegfbladDoor.Lib
open Go.RowKit Go.Proofs.YthcikkjjegfbladDoor.P Go.Proofs.YthcikkjjegfbladDoorW.PrintWords Go.Proofs.YthcikkjjegfbladDoorW.PrintLast Go.Proofs.YthcikkjjegfbladDoorW.PrintMore
set_option linter.unusedVariables false
set_option linter.unusedSimpArgs false
theorem append_bytes (a b : ByteArray) : bytesOf (a ++ b) = bytesOf a ++ bytesOf b := by unfold bytesOf; simp
set_option maxHeartbeats 4000000 in
set_option maxRecDepth 100000 in
theorem hex_main (k k2 : Nat) (a0 T T2 : ByteArray) (b : Bool) (X : List Int) (w : World) (te : TypeId) (xe : Value) (hE : w.cell? ⟨0, 0, none⟩ = some (.iface te xe)) (hs : a0.size ≤ 500) (hk : spec_Hex.f k a0 b = some T) (hT : bytesOf T = 92 :: 120 :: X) (hX : X.length = 2 * a0.size) (hby : ∀ x ∈ X, 0 ≤ x ∧ x < 256) (hok : hexD X = (a0.data.toList, .ok))
    (hk2 : spec_Hex.f k2 a0 false = some T2) (hw : strOfNums (92 :: 120 :: enc8 (bytesOf a0)) = T2) :
    Calls Tryd.prog 4 #[.string a0, .bool b] w fun e w' => e = .returned (.bool true) ∧ Below w.heap.size w w' := by
  have hr1 : ∀ W : World, W.cell? ⟨0, 0, none⟩ = some (.iface te xe) → Calls Tryd.prog 7 #[.string T] W fun e w' => Below W.heap.size W w' ∧ e = .returned (.tuple #[.string a0, .bool true]) := by
    intro W hW
    by_cases h0 : a0.size = 0
    · have hXn : X = [] := by
        cases X with
        | nil => rfl
        | cons x t => simp at hX; omega
      have hTe : T = ⟨#[92, 120]⟩ := bytesOf_inj (by rw [hT, hXn]; decide)
      have hae : a0 = ⟨#[]⟩ := bytesOf_inj (by
        have : (bytesOf a0).length = 0 := by rw [bytesOf_length]; exact h0
        rw [List.length_eq_zero_iff.1 this]; rfl)
      rw [hTe, hae]
      exact impl_ByteaRead_bare W te xe hW
    · refine (impl_ByteaRead_hex T X W te xe hT hby (by omega) (by omega) hW).mono ?_
      rintro e w' ⟨hb, h1, _⟩
      refine ⟨hb, ?_⟩
      rw [h1 (by rw [hok]), hok]
      have : strOfNums (a0.data.toList.map fun b => (b.toNat : Int)) = a0 := strOfNums_bytesOf a0
      rw [this]
  have hr2 : ∀ W : World, W.cell? ⟨0, 0, none⟩ = some (.iface te xe) → Calls Tryd.prog 7 #[.string (T ++ ⟨#[48]⟩)] W fun e w' => Below W.heap.size W w' ∧ e = .returned (.tuple #[.string ⟨#[]⟩, .bool false]) := by
    intro W hW
    have h48 : bytesOf ⟨#[48]⟩ = [48] := by decide
    refine (impl_ByteaRead_hex (T ++ ⟨#[48]⟩) (X ++ [48]) W te xe (by rw [append_bytes, hT, h48, List.cons_append, List.cons_append]) (by
      intro x hx
      rcases List.mem_append.1 hx with hx | hx
      · exact hby x hx
      · rw [List.mem_singleton.1 hx]; omega) (by rw [List.length_append, List.length_singleton]; omega) (by rw [List.length_append, List.length_singleton]; omega) hW).mono ?_
    rintro e w' ⟨hb, _, h2⟩
    exact ⟨hb, h2 (hexD_odd _ (by rw [List.length_append, hX]; first | omega | (simp only [List.length_singleton]; omega) | simp))⟩
  have hr3 : ∀ W : World, Calls Tryd.prog 8 #[.string a0] W fun e w' => Below W.heap.size W w' ∧ e = .returned (.string T2) := fun W => by
    have := impl_ByteaWritten_all a0 W (by omega)
    rw [hw] at this
    exact this
  have hTs : T.size ≤ 10000 := by rw [← bytesOf_length, hT]; simp only [List.length_cons]; omega
  have g1 : ((2147483647 : Int) < (a0.size : Int)) = False := eq_false (by omega)
  have g1b : decide ((2147483647 : Int) < (a0.size : Int)) = false := decide_eq_false (by omega)
  have g1c : decide (2147483647 < a0.size) = false := decide_eq_false (by omega)
  have g3 : ((500 : Int) < (a0.size : Int)) = False := eq_false (by omega)
  have g3b : decide ((500 : Int) < (a0.size : Int)) = false := decide_eq_false (by omega)
  have g3c : decide (500 < a0.size) = false := decide_eq_false (by omega)
  have g5 : (9223372036854775807 < T.size + 1) = False := eq_false (by omega)
  have g6 : (T.size + 1 ≤ 9223372036854775807) = True := eq_true (by omega)
  have g7 : (T.size ≤ 9223372036854775806) = True := eq_true (by omega)
  have HR1 := Aside0.mk hr1
  have HR2 := Aside0.mk hr2
  have HR3 := Aside0.mk hr3
  have HK := Aside0.mk hk
  have HK2 := Aside0.mk hk2
  have HE := Aside0.mk hE
  have HS := Aside0.mk hTs
  clear hr1 hr2 hr3 hk hk2 hE hs hT hX hby hok hw hTs
  go_enter Tryd.func4, Tryd.ntmps4
  go_wp2_with (first | (go_at_call 6; ((with_reducible refine (spec_Hex.calls k a0 b _ _ HK.out).mono ?_); rintro e w1 ⟨rfl, hb1⟩; have HB1 := Aside0.mk hb1; have E1 := Aside0.mk ((hb1.cell (World.block_lt_of_cell? _ _ HE.out)).trans HE.out); clear hb1)) | (go_at_call 7; ((with_reducible refine (HR1.out _ E1.out).mono ?_); rintro e w2 ⟨hb2, rfl⟩; have HB2 := Aside0.mk hb2; have E2 := Aside0.mk ((hb2.cell (World.block_lt_of_cell? _ _ E1.out)).trans E1.out); clear hb2)) | (go_at_call 7; ((with_reducible refine (HR2.out _ E2.out).mono ?_); rintro e w3 ⟨hb3, rfl⟩; have HB3 := Aside0.mk hb3; clear hb3)) | (go_at_call 8; ((with_reducible refine (HR3.out _).mono ?_); rintro e w4 ⟨hb4, rfl⟩; have HB4 := Aside0.mk hb4; clear hb4)) | (go_at_call 6; ((with_reducible refine (spec_Hex.calls k2 a0 false _ _ HK2.out).mono ?_); rintro e w5 ⟨rfl, hb5⟩; have HB5 := Aside0.mk hb5; clear hb5)))
  go_ret
  exact ⟨rfl, below_step (below_step (below_step (below_step HB1.out HB2.out) HB3.out) HB4.out) HB5.out⟩
theorem enc8_bytes (a0 : ByteArray) : enc8 (bytesOf a0) = nat8 (Go.Lib.Hx.encode a0.data.toList) := by
  have : Go.Lib.bytesOf (bytesOf a0) = a0.data.toList := libBytes_nat8 a0.data.toList
  show (Go.Lib.Hx.encode (Go.Lib.bytesOf (bytesOf a0))).map _ = _
  rw [this]
theorem hex_walk (a0 : ByteArray) (b : Bool) (w : World) (hE : ∃ te xe, w.cell? ⟨0, 0, none⟩ = some (.iface te xe)) :
    Calls Tryd.prog 4 #[.string a0, .bool b] w fun e w' => e = .returned (.bool true) ∧ Below w.heap.size w w' := by
  by_cases hg : a0.size ≤ 500
  · obtain ⟨te, xe, hE⟩ := hE
    obtain ⟨k2, hk2⟩ := (hex_small a0 (by omega)).rounds
    have hl : (nat8 (Go.Lib.Hx.encode a0.data.toList)).length = 2 * a0.size := by
      rw [List.length_map, Go.Lib.Hx.encode_length]; simp
    have hin : ∀ x ∈ nat8 (Go.Lib.Hx.encode a0.data.toList), 0 ≤ x ∧ x < 256 := by
      intro x hx
      obtain ⟨b, _, rfl⟩ := List.mem_map.1 hx
      have := b.toNat_lt
      omega
    have back : ∀ X : List Int, (∀ x ∈ X, 0 ≤ x ∧ x < 256) → bytesOf (strOfNums (92 :: 120 :: X)) = 92 :: 120 :: X := fun X h => bytes_back (by
      intro x hx
      rcases List.mem_cons.1 hx with rfl | hx
      · omega
      rcases List.mem_cons.1 hx with rfl | hx
      · omega
      exact h x hx)
    have hw := congrArg (fun l => strOfNums (92 :: 120 :: l)) (enc8_bytes a0)
    cases b with
    | false =>
      exact hex_main k2 k2 a0 _ _ false _ w te xe hE hg hk2 (back _ hin) hl hin (hexD_small _) hk2 hw
    | true =>
      obtain ⟨k, hk⟩ := (hex_cap a0 (by omega)).rounds
      have hin2 : ∀ x ∈ upH (nat8 (Go.Lib.Hx.encode a0.data.toList)), 0 ≤ x ∧ x < 256 := by
        intro x hx
        obtain ⟨y, hy, rfl⟩ := List.mem_map.1 hx
        have := hin y hy
        split <;> omega
      exact hex_main k k2 a0 _ _ true _ w te xe hE hg hk (back _ hin2) (by unfold upH; rw [List.length_map]; exact hl) hin2 (hexD_cap _) hk2 hw
  · refine laws_FnByteaHex.calls 1 a0 b true w ?_
    unfold laws_FnByteaHex.f
    split
    · rfl
    · rw [if_pos (by omega)]
end Go.Proofs.YthcikkjjegfbladDoor.Lib
