/- FnByteaHex's walk and what its digits are. Conditions: ErrLength's cell holds an interface value. -/
import Derived.Test.YthcikkjjegfbladDoorHexWrite
import Derived.Test.YthcikkjjegfbladDoorPx6
namespace Go.Proofs.YthcikkjjegfbladDoor.Lib
open Go.RowKit Go.Proofs.YthcikkjjegfbladDoor.P Go.Proofs.YthcikkjjegfbladDoorW.PrintWords Go.Proofs.YthcikkjjegfbladDoorW.PrintLast Go.Proofs.YthcikkjjegfbladDoorW.PrintMore
set_option linter.unusedVariables false
set_option linter.unusedSimpArgs false
def upH (l : List Int) : List Int := l.map fun c => if c ≥ 97 then c - 32 else c
theorem cap_l1 (r : ByteArray) : ∀ (t pre : List Int), pre.length + t.length ≤ 100000 → (∀ x ∈ t, 0 ≤ x ∧ x < 256) → Ev (fun k => spec_Hex.l1 k true (pre ++ t) (pre.length : Int)) (strOfNums (pre ++ upH t)) := by
  intro t
  induction t with
  | nil =>
    intro pre hb hby
    refine Ev.step (fun k => spec_Hex.l1.eq_2 _ _ _ _) <| Ev.if_neg (by simp) ?_
    exact Ev.step (fun k => spec_Hex.j2.eq_2 _ _ _ _ _) <| Ev.if_neg (by simp) <| Ev.now _
  | cons c t ih =>
    intro pre hb hby
    simp only [List.length_cons] at hb
    have hc := hby c (by simp)
    have hrd : rd (pre ++ c :: t) (pre.length : Int) = c := by simp [rd, List.getD_eq_getElem?_getD]
    have hset : ∀ y : Int, (pre ++ c :: t).set (pre.length : Int).toNat y = (pre ++ [y]) ++ t := by
      intro y
      rw [Int.toNat_natCast, List.set_append_right _ _ (Nat.le_refl _), Nat.sub_self, List.set_cons_zero]
      simp
    have ew : wrap64 ((pre.length : Int) + 1) = ((pre ++ [c]).length : Int) := by rw [wrap64_id (by omega) (by omega)]; simp
    have ih' := fun y : Int => ih (pre ++ [y]) (by simp; omega) (fun x hx => hby x (by simp [hx]))
    refine Ev.step (fun k => spec_Hex.l1.eq_2 _ _ _ _) <| Ev.if_pos (by simp; omega) <| Ev.step (fun k => spec_Hex.j2.eq_2 _ _ _ _ _) <| Ev.if_pos rfl <| Ev.if_pos (by omega) <| Ev.if_pos (by simp; omega) ?_
    by_cases h97 : c ≥ 97
    · refine Ev.if_pos (by rw [hrd]; exact h97) ?_
      rw [hrd, hset, ew]
      have h := ih' ((c - 32) % 256)
      have e1 : ((pre ++ [c]).length : Int) = ((pre ++ [(c - 32) % 256]).length : Int) := by simp
      rw [e1]
      have e2 : pre ++ upH (c :: t) = (pre ++ [(c - 32) % 256]) ++ upH t := by
        unfold upH
        rw [List.map_cons, if_pos h97]
        have : (c - 32) % 256 = c - 32 := by omega
        rw [this]; simp
      rw [e2]
      exact h
    · refine Ev.if_neg (by rw [hrd]; exact h97) ?_
      rw [ew]
      have h := ih' c
      have e2 : pre ++ upH (c :: t) = (pre ++ [c]) ++ upH t := by
        unfold upH
        rw [List.map_cons, if_neg h97]; simp
      have e3 : pre ++ c :: t = (pre ++ [c]) ++ t := by simp
      rw [e2, e3]
      exact h
/-- Hex, with capital digits. -/
theorem hex_cap (s : ByteArray) (hs : s.size ≤ 1000) : Ev (fun k => spec_Hex.f k s true) (strOfNums (92 :: 120 :: upH (nat8 (Go.Lib.Hx.encode s.data.toList)))) := by
  unfold spec_Hex.f
  have hl : s.data.toList.length = s.size := by simp
  refine hex_l0 s true _ s.data.toList 0 [92, 120] (List.drop_zero) (Nat.zero_le _) (by simp; omega) (by omega) ?_
  have h := cap_l1 ByteArray.empty (nat8 (Go.Lib.Hx.encode s.data.toList)) [92, 120] (by
    rw [List.length_map, Go.Lib.Hx.encode_length]; simp; omega) (by
    intro x hx
    obtain ⟨b, _, rfl⟩ := List.mem_map.1 hx
    have := b.toNat_lt
    omega)
  exact h
theorem decode_of (D : Nat → UInt8) (hD : ∀ n, n < 16 → Go.Lib.Hx.v (D n) = n) : ∀ l : List UInt8, Go.Lib.Hx.decode (l.flatMap fun b => [D (b.toNat / 16), D (b.toNat % 16)]) = (l, .ok) := by
  intro l
  induction l with
  | nil => exact Go.Lib.Hx.decode_nil
  | cons b t ih =>
    have hb := b.toNat_lt
    have h1 := hD (b.toNat / 16) (by omega)
    have h2 := hD (b.toNat % 16) (by omega)
    rw [List.flatMap_cons]
    show Go.Lib.Hx.decode (D (b.toNat / 16) :: D (b.toNat % 16) :: t.flatMap _) = _
    rw [Go.Lib.Hx.decode_two, if_neg (by omega), if_neg (by omega), ih, h1, h2]
    have : UInt8.ofNat (b.toNat / 16 * 16 + b.toNat % 16) = b := by
      rw [show b.toNat / 16 * 16 + b.toNat % 16 = b.toNat by omega]
      exact UInt8.toNat_inj.1 (by rw [UInt8.toNat_ofNat']; omega)
    rw [this]
theorem v_dig : ∀ n : Fin 16, Go.Lib.Hx.v (Go.Lib.Hx.digit n.val) = n.val := by decide +kernel
def upB (b : UInt8) : UInt8 := if (b.toNat : Int) ≥ 97 then UInt8.ofNat (b.toNat - 32) else b
theorem v_cap : ∀ n : Fin 16, Go.Lib.Hx.v (upB (Go.Lib.Hx.digit n.val)) = n.val := by decide +kernel
theorem libBytes_nat8 (l : List UInt8) : Go.Lib.bytesOf (nat8 l) = l := by
  unfold Go.Lib.bytesOf nat8
  rw [List.map_map]
  conv => rhs; rw [← List.map_id l]
  apply List.map_congr_left
  intro b _
  have := b.toNat_lt
  simp
theorem libBytes_upH (l : List UInt8) : Go.Lib.bytesOf (upH (nat8 l)) = l.map upB := by
  unfold Go.Lib.bytesOf nat8 upH
  rw [List.map_map, List.map_map]
  apply List.map_congr_left
  intro b _
  have := b.toNat_lt
  simp only [Function.comp, upB]
  split
  · congr 1
    omega
  · simp
theorem hexD_small (l : List UInt8) : hexD (nat8 (Go.Lib.Hx.encode l)) = (l, .ok) := by
  unfold hexD
  rw [libBytes_nat8]
  exact decode_of Go.Lib.Hx.digit (fun n hn => v_dig ⟨n, hn⟩) l
theorem hexD_cap (l : List UInt8) : hexD (upH (nat8 (Go.Lib.Hx.encode l))) = (l, .ok) := by
  unfold hexD
  rw [libBytes_upH]
  have : (Go.Lib.Hx.encode l).map upB = l.flatMap fun b => [upB (Go.Lib.Hx.digit (b.toNat / 16)), upB (Go.Lib.Hx.digit (b.toNat % 16))] := by
    unfold Go.Lib.Hx.encode
    rw [List.map_flatMap]
    rfl
  rw [this]
  exact decode_of (fun n => upB (Go.Lib.Hx.digit n)) (fun n hn => v_cap ⟨n, hn⟩) l
theorem decode_even : ∀ l : List UInt8, (Go.Lib.Hx.decode l).2 = .ok → l.length % 2 = 0 := by
  intro l
  induction l using Go.Lib.Hx.decode.induct with
  | case1 => intro _; rfl
  | case2 c hc => intro h; rw [Go.Lib.Hx.decode_one, if_pos hc] at h; cases h
  | case3 c hc => intro h; rw [Go.Lib.Hx.decode_one, if_neg hc] at h; cases h
  | case4 p q t hp => intro h; rw [Go.Lib.Hx.decode_two, if_pos hp] at h; cases h
  | case5 p q t hp hq => intro h; rw [Go.Lib.Hx.decode_two, if_neg hp, if_pos hq] at h; cases h
  | case6 p q t hp hq ih =>
    intro h
    rw [Go.Lib.Hx.decode_two, if_neg hp, if_neg hq] at h
    have := ih h
    simp only [List.length_cons]
    omega
theorem hexD_odd (xs : List Int) (h : xs.length % 2 = 1) : (hexD xs).2 ≠ .ok := by
  intro h2
  have := decode_even _ h2
  simp [Go.Lib.bytesOf] at this
  omega
end Go.Proofs.YthcikkjjegfbladDoor.Lib
