/- What spec.Hex tells, on lists, and when its digits are refused. Conditions: the sizes that each lemma names. -/
import Derived.Test.YthcikkjjegfbladDoorHexLaw
import Derived.Test.YthcikkjjegfbladDoorLib
namespace Go.Proofs.YthcikkjjegfbladDoor.Lib
open Go.RowKit Go.Proofs.YthcikkjjegfbladDoor.P Go.Proofs.YthcikkjjegfbladDoorW.PrintWords Go.Proofs.YthcikkjjegfbladDoorW.PrintLast Go.Proofs.YthcikkjjegfbladDoorW.PrintMore
set_option linter.unusedVariables false
set_option linter.unusedSimpArgs false
abbrev nat8 (l : List UInt8) : List Int := l.map fun b => (b.toNat : Int)
theorem and15 : ∀ c : Fin 256, Go.bits .and .u8 (c.val : Int) 15 = (c.val : Int) % 16 := by decide +kernel
theorem dig_bt : ∀ n : Fin 16, bt (⟨#[48, 49, 50, 51, 52, 53, 54, 55, 56, 57, 97, 98, 99, 100, 101, 102]⟩ : ByteArray) (n.val : Int) = ((Go.Lib.Hx.digit n.val).toNat : Int) := by decide +kernel
theorem hex_l0 (s : ByteArray) (b : Bool) (r : ByteArray) : ∀ (l : List UInt8) (i : Nat) (x5 : List Int), s.data.toList.drop i = l → i ≤ s.size → x5.length + 2 * l.length ≤ 100000 → s.size ≤ 100000 → Ev (fun k => spec_Hex.l1 k b (x5 ++ nat8 (Go.Lib.Hx.encode l)) 2) r → Ev (fun k => spec_Hex.l0 k s b x5 (i : Int)) r := by
  intro l
  induction l with
  | nil =>
    intro i x5 h hi hb hsz hr
    have he : s.size = i := by
      have := congrArg List.length h
      rw [List.length_drop, List.length_nil] at this
      have h2 : s.data.toList.length = s.size := by simp
      omega
    refine Ev.step (fun k => spec_Hex.l0.eq_2 _ _ _ _ _) <| Ev.if_neg (by omega) ?_
    simpa [Go.Lib.Hx.encode] using hr
  | cons c t ih =>
    intro i x5 h hi hb hsz hr
    have hlt : i < s.size := by
      rcases Nat.lt_or_ge i s.size with hl | hl
      · exact hl
      · rw [List.drop_of_length_le (by simpa using hl)] at h; cases h
    have hl2 : i < s.data.toList.length := by simpa using hlt
    rw [List.drop_eq_getElem_cons hl2] at h
    injection h with h1 h2
    have hbt : bt s (i : Int) = (c.toNat : Int) := by
      unfold bt
      rw [dif_pos (by simpa using hlt), ← h1]
      rfl
    have hc := c.toNat_lt
    have e1 : (c.toNat : Int) / 16 = ((c.toNat / 16 : Nat) : Int) := by omega
    have e2 : Go.bits .and .u8 (c.toNat : Int) 15 = ((c.toNat % 16 : Nat) : Int) := by
      show Go.bits .and .u8 ((⟨c.toNat, hc⟩ : Fin 256).val : Int) 15 = _
      rw [and15]
      show (c.toNat : Int) % 16 = _
      omega
    have d1 : bt (⟨#[48, 49, 50, 51, 52, 53, 54, 55, 56, 57, 97, 98, 99, 100, 101, 102]⟩ : ByteArray) ((c.toNat / 16 : Nat) : Int) = ((Go.Lib.Hx.digit (c.toNat / 16)).toNat : Int) := dig_bt ⟨c.toNat / 16, by omega⟩
    have d2 : bt (⟨#[48, 49, 50, 51, 52, 53, 54, 55, 56, 57, 97, 98, 99, 100, 101, 102]⟩ : ByteArray) ((c.toNat % 16 : Nat) : Int) = ((Go.Lib.Hx.digit (c.toNat % 16)).toNat : Int) := dig_bt ⟨c.toNat % 16, by omega⟩
    have ew : wrap64 ((i : Int) + 1) = ((i + 1 : Nat) : Int) := by rw [wrap64_id (by omega) (by omega)]; omega
    simp only [List.length_cons] at hb
    refine Ev.step (fun k => spec_Hex.l0.eq_2 _ _ _ _ _) ?_
    rw [hbt, e1, e2, ew, d1, d2]
    clear hbt e1 e2 ew d1 d2
    refine Ev.if_pos (by omega) <| Ev.if_pos (by omega) <| Ev.if_pos (by omega) <| Ev.if_pos (by omega) <| Ev.if_pos (by omega) <| Ev.if_pos (by omega) <| Ev.bind (Ev.now _) <| Ev.if_pos (by simp; omega) ?_
    refine ih (i + 1) _ h2 (by omega) (by simp; omega) hsz ?_
    rw [Go.Lib.Hx.encode_cons] at hr
    simpa using hr
/-- Hex, with small digits. -/
theorem hex_small (s : ByteArray) (hs : s.size ≤ 1000) : Ev (fun k => spec_Hex.f k s false) (strOfNums (92 :: 120 :: nat8 (Go.Lib.Hx.encode s.data.toList))) := by
  unfold spec_Hex.f
  have hl : s.data.toList.length = s.size := by simp
  refine hex_l0 s false _ s.data.toList 0 [92, 120] (List.drop_zero) (Nat.zero_le _) (by simp; omega) (by omega) ?_
  refine Ev.step (fun k => spec_Hex.l1.eq_2 _ _ _ _) ?_
  have hj : Ev (fun k => spec_Hex.j2 k false (92 :: 120 :: nat8 (Go.Lib.Hx.encode s.data.toList)) 2 false) (strOfNums (92 :: 120 :: nat8 (Go.Lib.Hx.encode s.data.toList))) :=
    Ev.step (fun k => spec_Hex.j2.eq_2 _ _ _ _ _) <| Ev.if_neg (by simp) <| Ev.now _
  by_cases hx : (2 : Int) < (([92, 120] ++ nat8 (Go.Lib.Hx.encode s.data.toList) : List Int).length : Int)
  · exact Ev.if_pos hx hj
  · exact Ev.if_neg hx hj
theorem decode_good : ∀ l : List UInt8, (Go.Lib.Hx.decode l).2 = .ok → ∀ b ∈ l, Go.Lib.Hx.v b ≤ 15 := by
  intro l
  induction l using Go.Lib.Hx.decode.induct with
  | case1 => intro _ b hb; cases hb
  | case2 c hc => intro h; rw [Go.Lib.Hx.decode_one, if_pos hc] at h; cases h
  | case3 c hc => intro h; rw [Go.Lib.Hx.decode_one, if_neg hc] at h; cases h
  | case4 p q t hp => intro h; rw [Go.Lib.Hx.decode_two, if_pos hp] at h; cases h
  | case5 p q t hp hq => intro h; rw [Go.Lib.Hx.decode_two, if_neg hp, if_pos hq] at h; cases h
  | case6 p q t hp hq ih =>
    intro h b hb
    rw [Go.Lib.Hx.decode_two, if_neg hp, if_neg hq] at h
    rcases List.mem_cons.1 hb with rfl | hb
    · omega
    rcases List.mem_cons.1 hb with rfl | hb
    · omega
    exact ih h b hb
theorem v_bad : ∀ c : Fin 256, spec_IsHex.f (c.val : Int) = some false → 15 < Go.Lib.Hx.v (UInt8.ofNat c.val) := by decide +kernel
theorem bad_digit (t : List Int) (i : Nat) (a2 : Int) (hi : i < t.length) (hc : 0 ≤ a2 ∧ a2 < 256) (hx : spec_IsHex.f a2 = some false) : (hexD (t.set i a2)).2 ≠ .ok := by
  intro h
  have hg := decode_good _ h (UInt8.ofNat a2.toNat) (by
    unfold Go.Lib.bytesOf
    refine List.mem_map.2 ⟨a2, ?_, rfl⟩
    exact List.mem_iff_getElem.2 ⟨i, by simpa using hi, by simp⟩)
  have hv := v_bad ⟨a2.toNat, by omega⟩ (by
    have : ((a2.toNat : Nat) : Int) = a2 := by omega
    show spec_IsHex.f ((a2.toNat : Nat) : Int) = _
    rw [this]; exact hx)
  have : Go.Lib.Hx.v (UInt8.ofNat a2.toNat) = Go.Lib.Hx.v (UInt8.ofNat (⟨a2.toNat, by omega⟩ : Fin 256).val) := rfl
  omega
end Go.Proofs.YthcikkjjegfbladDoor.Lib
