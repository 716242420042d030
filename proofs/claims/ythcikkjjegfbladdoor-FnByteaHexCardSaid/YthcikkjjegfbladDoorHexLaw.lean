/- FnByteaRefused's own walk, behind its guards. Conditions: what ErrLength's cell holds; what spec.Hex tells; that the digit put in is refused. -/
import Derived.Test.YthcikkjjegfbladDoorHexShort
import Derived.Test.YthcikkjjegfbladDoorPx1
namespace Go.Proofs.YthcikkjjegfbladDoor.P
open Go.RowKit Go.Proofs.YthcikkjjegfbladDoorW.PrintWords Go.Proofs.YthcikkjjegfbladDoorW.PrintLast Go.Proofs.YthcikkjjegfbladDoorW.PrintMore
set_option linter.unusedVariables false
set_option linter.unusedSimpArgs false
theorem bytes_back {f : List Int} (h : ∀ x ∈ f, 0 ≤ x ∧ x < 256) : bytesOf (strOfNums f) = f := by
  have hd : (strOfNums f).data.toList = f.map (fun x => UInt8.ofNat x.toNat) := by simp [strOfNums]
  unfold bytesOf
  rw [hd, List.map_map]
  conv => rhs; rw [← List.map_id f]
  apply List.map_congr_left
  intro x hx
  have := h x hx
  simp
  omega
/-- Bytes of a conversion, some of them stored into. -/
structure UB (w : World) (G N : Nat) (xs : List Int) (W : World) : Prop where
  cs : ∃ cs, W.heap[G]? = some (.cells cs 5 (N, N + 1)) ∧ cs.size = N ∧ ∀ j, j < xs.length → cs[j]? = some (.int .u8 (xs.getD j 0))
  lt : xs.length ≤ N
  mx : xs.length ≤ 1000000
  hB : Below w.heap.size w W
  ge : w.heap.size ≤ G
theorem UB.cell {w W : World} {G N : Nat} {xs : List Int} (h : UB w G N xs W) (j : Nat) (hj : j < xs.length) : W.cell? ⟨G, j, none⟩ = some (.int .u8 (xs.getD j 0)) := by
  obtain ⟨cs, h1, h2, h3⟩ := h.cs
  simp [World.cell?, h1, h3 j hj]
theorem UB.frozen {w W : World} {G N : Nat} {xs : List Int} (h : UB w G N xs W) (j : Nat) (hj : j < xs.length) : W.frozen? ⟨G, j, none⟩ = false := by
  obtain ⟨cs, h1, h2, h3⟩ := h.cs
  have := h.lt
  simp [World.frozen?, h1]
  omega
theorem UB.set {w W : World} {G N : Nat} {xs : List Int} (h : UB w G N xs W) (i : Nat) (x : Int) (hi : i < xs.length) : UB w G N (xs.set i x) (W.setCell ⟨G, i, none⟩ (.int .u8 x)) := by
  obtain ⟨cs, h1, h2, h3⟩ := h.cs
  refine ⟨⟨cs.setIfInBounds i (.int .u8 x), by simp [World.setCell, Array.getElem?_modify, h1], by simp [h2], fun j hj => ?_⟩, by simpa using h.lt, by simpa using h.mx, h.hB.setCell h.ge _, h.ge⟩
  rw [List.length_set] at hj
  have hlt := h.lt
  rw [Array.getElem?_setIfInBounds]
  by_cases hij : i = j
  · subst hij
    rw [if_pos rfl, if_pos (by omega)]
    simp [List.getD_eq_getElem?_getD, hi]
  · rw [if_neg hij, h3 j hj]
    simp [List.getD_eq_getElem?_getD, List.getElem?_set, hij]
theorem UB.reads {w W : World} {G N : Nat} {xs : List Int} (h : UB w G N xs W) : Kd.C (Kd.int .u8) W (some ⟨G, 0, none⟩) xs.length xs :=
  Kd.C_of_reads (d := (0 : Int)) (h1 := fun _ => rfl) ⟨rfl, by have := h.mx; omega, fun _ => ⟨_, rfl, fun j hj => by
    have e : (⟨G, 0, none⟩ : Addr).add j = ⟨G, j, none⟩ := by
      unfold Addr.add
      split <;> simp_all
    rw [e]
    exact h.cell j hj⟩⟩
theorem UB.start (w : World) (t : ByteArray) (ht : t.size ≤ 1000000) : UB w w.heap.size (Lib.bytesCells w 5 t).size (bytesOf t) (Lib.bytesWorld w 5 t) := by
  have hc : ∀ j, j < (bytesOf t).length → (Lib.bytesCells w 5 t)[j]? = some (.int .u8 ((bytesOf t).getD j 0)) := by
    intro j hj
    rw [bytesOf_length] at hj
    have h := Lib.bytesWorld_cell w 5 t j hj
    simp only [World.cell?, Lib.bytesWorld_at_new] at h
    rw [show (bytesOf t).getD j 0 = ((t.data.toList.getD j 0).toNat : Int) by
      have hj2 : j < t.data.toList.length := by simpa using hj
      simp [bytesOf, List.getD_eq_getElem?_getD, List.getElem?_eq_getElem hj2]]
    exact h
  refine ⟨⟨_, Lib.bytesWorld_at_new w 5 t, rfl, hc⟩, ?_, by rw [bytesOf_length]; exact ht, bytes_below (Below.refl _ _) (Nat.le_refl _) 5 t, Nat.le_refl _⟩
  rcases Nat.eq_zero_or_pos (bytesOf t).length with h0 | h0
  · omega
  · have := hc ((bytesOf t).length - 1) (by omega)
    rcases Nat.lt_or_ge ((bytesOf t).length - 1) (Lib.bytesCells w 5 t).size with h1 | h1
    · omega
    · rw [Array.getElem?_eq_none h1] at this; cases this
set_option maxHeartbeats 4000000 in
set_option maxRecDepth 100000 in
theorem laws_FnByteaRefused_main (k : Nat) (a0 S : ByteArray) (a1 a2 : Int) (t : List Int) (m i : Nat) (w : World) (te : TypeId) (xe : Value) (hE : w.cell? ⟨0, 0, none⟩ = some (.iface te xe)) (h1 : 0 < a0.size) (h2 : a0.size ≤ 200) (hx : spec_IsHex.f a2 = some false)
    (hs : spec_Hex.f k a0 false = some S) (hSb : bytesOf S = 92 :: 120 :: t) (hm : t.length = m) (hm0 : 0 < m) (hm1 : m ≤ 1000) (h0 : 0 ≤ a1 ∧ a1 < 256) (hi : a1 % (m : Int) = (i : Int)) (him : i < m) (hc : 0 ≤ a2 ∧ a2 < 256) (hb : ∀ x ∈ t, 0 ≤ x ∧ x < 256) (hbad : (hexD (t.set i a2)).2 ≠ .ok) :
    Calls Tryd.prog 3 #[.string a0, .int .u8 a1, .int .u8 a2] w fun e w' => e = .returned (.bool true) ∧ Below w.heap.size w w' := by
  have hS : S.size = m + 2 := by rw [← bytesOf_length, hSb]; simp only [List.length_cons]; omega
  have g1 : ((2147483647 : Int) < (a0.size : Int)) = False := eq_false (by omega)
  have g1b : decide ((2147483647 : Int) < (a0.size : Int)) = false := decide_eq_false (by omega)
  have g1c : decide (2147483647 < a0.size) = false := decide_eq_false (by omega)
  have g2 : ((a0.size : Int) == 0) = false := beq_eq_false_iff_ne.mpr (by omega)
  have g3 : ((200 : Int) < (a0.size : Int)) = False := eq_false (by omega)
  have g3b : decide ((200 : Int) < (a0.size : Int)) = false := decide_eq_false (by omega)
  have g3c : decide (200 < a0.size) = false := decide_eq_false (by omega)
  have g4 : (a0.size == 0) = false := beq_eq_false_iff_ne.mpr (by omega)
  have kb := fun W => print_bytes (P := Tryd.prog) 9 23 5 Tryd.underlying9 Tryd.underlying23 Tryd.underlying5 S W
  obtain ⟨M, hM⟩ : ∃ M : Int, M = (m : Int) := ⟨_, rfl⟩
  obtain ⟨I, hI⟩ : ∃ I : Int, I = (i : Int) := ⟨_, rfl⟩
  obtain ⟨J, hJ⟩ : ∃ J : Int, J = (i : Int) + 2 := ⟨_, rfl⟩
  have w1 : wrap64 ((S.size : Int) - 2) = M := by unfold wrap64; omega
  have w3 : (M == 0) = false := beq_eq_false_iff_ne.mpr (by omega)
  have w4 : (M = 0) = False := eq_false (by omega)
  have w5 : a1 % M = I := by rw [hM, hI]; exact hi
  have w6 : a1.tmod M = I := by rw [Int.tmod_eq_emod_of_nonneg h0.1]; exact w5
  have w7 : wrap64 (2 + I) = J := by unfold wrap64; omega
  have w7b : wrap64 (I + 2) = J := by unfold wrap64; omega
  have w7c : wrap64 I = I := by unfold wrap64; omega
  have w0 : wrap64 a1 = a1 := by unfold wrap64; omega
  have w8 : (0 ≤ J) = True := eq_true (by omega)
  have w8b : decide (0 ≤ J) = true := decide_eq_true (by omega)
  have w9 : (J < (S.size : Int)) = True := eq_true (by omega)
  have w9b : decide (J < (S.size : Int)) = true := decide_eq_true (by omega)
  have HJ : Aside0 (J.toNat = i + 2) := ⟨by omega⟩
  have HS : Aside0 (S.size ≤ 1000000) := ⟨by omega⟩
  have HLEN : Aside0 ((bytesOf S).length = S.size) := ⟨bytesOf_length S⟩
  have HIS : Aside0 (i + 2 < (bytesOf S).length) := ⟨by rw [bytesOf_length]; omega⟩
  have HE := Aside0.mk hE
  have hset : (bytesOf S).set (i + 2) a2 = 92 :: 120 :: t.set i a2 := by rw [hSb]; rfl
  have HSET := Aside0.mk hset
  have htb : ∀ x ∈ t.set i a2, 0 ≤ x ∧ x < 256 := by
    intro x hx
    rcases List.mem_or_eq_of_mem_set hx with h | h
    · exact hb x h
    · rw [h]; exact hc
  have HTB := Aside0.mk htb
  have HBAD := Aside0.mk hbad
  have HLT : Aside0 ((t.set i a2).length = m) := ⟨by rw [List.length_set]; exact hm⟩
  have HM := Aside0.mk (And.intro hm0 hm1)
  have hback : bytesOf (strOfNums (92 :: 120 :: t.set i a2)) = 92 :: 120 :: t.set i a2 := bytes_back (by
    intro x hx
    rcases List.mem_cons.1 hx with rfl | hx
    · omega
    rcases List.mem_cons.1 hx with rfl | hx
    · omega
    exact htb x hx)
  obtain ⟨Z, hZ⟩ : ∃ Z, Z = strOfNums (92 :: 120 :: t.set i a2) := ⟨_, rfl⟩
  rw [← hZ] at hback
  have HZ := Aside0.mk hZ
  have HBK := Aside0.mk hback
  have HX := Aside0.mk hx
  have HH := Aside0.mk hs
  have h00 : (hexD [48, 48]).2 = .ok := by
    unfold hexD
    rw [show Go.Lib.bytesOf [48, 48] = [48, 48] from rfl, Go.Lib.Hx.decode_two, if_neg (by decide), if_neg (by decide), Go.Lib.Hx.decode_nil]
  have H00 := Aside0.mk h00
  clear hS hSb hm hm0 hm1 h0 hi him hc hb hbad hM hI hJ hset htb hback hx hs hE h1 h2 hZ h00
  go_enter Tryd.func3, Tryd.ntmps3
  go_wp2_with (first | (go_at_call 5; (with_reducible refine (spec_IsHex.calls a2 false _ HX.out).mono ?_); rintro e w1 ⟨rfl, ⟨nd, rfl⟩⟩) | (go_at_call 6; (with_reducible refine (spec_Hex.calls k a0 false _ _ HH.out).mono ?_); rintro e w2 ⟨rfl, hb2⟩; have HB2 : Aside0 (Below w.heap.size w w2) := ⟨below_step (pw_below_drewN (Below.refl _ _) nd) hb2⟩; have hU := UB.start w2 S HS.out; have x0 : (Lib.bytesWorld w2 5 S).cell? ⟨w2.heap.size, J.toNat, none⟩ = some (.int .u8 ((bytesOf S).getD J.toNat 0)) := hU.cell J.toNat (by rw [HJ.out]; exact HIS.out); have f0 : (Lib.bytesWorld w2 5 S).frozen? ⟨w2.heap.size, J.toNat, none⟩ = false := hU.frozen J.toNat (by rw [HJ.out]; exact HIS.out); have hset2 := hU.set J.toNat a2 (by rw [HJ.out]; exact HIS.out); have HST := Aside0.mk hset2; have E2 : w2.cell? ⟨0, 0, none⟩ = some (.iface te xe) := (HB2.out.cell (World.block_lt_of_cell? w _ HE.out)).trans HE.out; have E3 := Aside0.mk ((hset2.hB.cell (World.block_lt_of_cell? w2 _ E2)).trans E2); clear E2; have hcv := fun (c_ : Nat) => Kd.C_string (P := Tryd.prog) (c := c_) Tryd.underlying23 Tryd.underlying5 Tryd.underlying9 hset2.reads; rw [List.length_set, HLEN.out, show (bytesOf S).set J.toNat a2 = 92 :: 120 :: t.set i a2 by rw [HJ.out]; exact HSET.out, ← HZ.out] at hcv; clear hU hset2 hb2) | (go_at_call 7; ((with_reducible refine (impl_ByteaRead_hex Z (t.set i a2) _ te xe HBK.out HTB.out (by have := HLT.out; have := HM.out; omega) (by have := HLT.out; have := HM.out; omega) E3.out).mono ?_); rintro e w3 ⟨hb3, _, hne⟩; obtain rfl := hne HBAD.out; have HB3 := Aside0.mk hb3; have E4 := Aside0.mk ((hb3.cell (World.block_lt_of_cell? _ _ E3.out)).trans E3.out); clear hb3 hne)) | (go_at_call 7; ((with_reducible refine (impl_ByteaRead_short _).mono ?_); rintro e w4 ⟨hb4, rfl⟩; have HB4 := Aside0.mk hb4; have E5 := Aside0.mk ((hb4.cell (World.block_lt_of_cell? _ _ E4.out)).trans E4.out); clear hb4)) | (go_at_call 7; ((with_reducible refine (impl_ByteaRead_hex ⟨#[92, 120, 48, 48]⟩ [48, 48] _ te xe (by decide) (by decide) (by decide) (by decide) E5.out).mono ?_); rintro e w5 ⟨hb5, hok, _⟩; obtain rfl := hok H00.out; have HB5 := Aside0.mk hb5; clear hb5 hok)))
  go_ret
  exact ⟨rfl, below_step (below_step (below_step (below_step HB2.out HST.out.hB) HB3.out) HB4.out) HB5.out⟩
end Go.Proofs.YthcikkjjegfbladDoor.P
