-- Written by the program wip/myprint.py of this session, over the kit's print of the translation. Lean checks it.
import Derived.Test.YthcikkjjegfblaaLibArr
import Derived.ScopeJumps
import Derived.WalkMore
import Derived.Test.YthcikkjjegfblaaPx0
namespace Go.Proofs.Ythcikkjjegfblaa.P
open Go.RowKit Go.Proofs.YthcikkjjegfblaaW.PrintWords Go.Proofs.YthcikkjjegfblaaW.PrintLast Go.Proofs.YthcikkjjegfblaaW.PrintMore
attribute [local go_sem] max2_int min2_int max_two min_two max_three min_three max_four min_four   -- for this text's walks alone
set_option linter.unusedVariables false
set_option linter.unusedSimpArgs false

/-! ### spec_upper: function 34 -/
def spec_upper.f (a0 : ByteArray) : Option ByteArray := none
theorem spec_upper.calls (a0 : ByteArray) (r : ByteArray) (w : World) (h : spec_upper.f a0 = some r) :
    Calls Try.prog 34 #[.string a0] w fun e w' => e = .returned (.string r) ∧ Below w.heap.size w w' := by
  unfold spec_upper.f at h; cases h
/-- Bytes of a conversion, some of them stored into. -/
structure UB (w : World) (G N : Nat) (xs : List Int) (W : World) : Prop where
  cs : ∃ cs, W.heap[G]? = some (.cells cs 5 (N, N + 1)) ∧ cs.size = N ∧ ∀ j, j < xs.length → cs[j]? = some (.int .u8 (xs.getD j 0))
  lt : xs.length ≤ N
  mx : xs.length ≤ 1000000
  hB : Below w.heap.size w W
  ge : w.heap.size ≤ G
theorem UB.cell {w W : World} {G N : Nat} {xs : List Int} (h : UB w G N xs W) (j : Nat) (hj : j < xs.length) : W.cell? ⟨G, j, none⟩ = some (.int .u8 (xs.getD j 0)) := by
  obtain ⟨cs, h1, h2, h3⟩ := h.cs
  simp [World.cell?, h1, h3 j hj]
theorem UB.frozen {w W : World} {G N : Nat} {xs : List Int} (h : UB w G N xs W) (j : Nat) (hj : j < xs.length) : W.frozen? ⟨G, j, none⟩ = false := by
  obtain ⟨cs, h1, h2, h3⟩ := h.cs
  have := h.lt
  simp [World.frozen?, h1]
  omega
theorem UB.set {w W : World} {G N : Nat} {xs : List Int} (h : UB w G N xs W) (i : Nat) (x : Int) (hi : i < xs.length) : UB w G N (xs.set i x) (W.setCell ⟨G, i, none⟩ (.int .u8 x)) := by
  obtain ⟨cs, h1, h2, h3⟩ := h.cs
  refine ⟨⟨cs.setIfInBounds i (.int .u8 x), by simp [World.setCell, Array.getElem?_modify, h1], by simp [h2], fun j hj => ?_⟩, by simpa using h.lt, by simpa using h.mx, h.hB.setCell h.ge _, h.ge⟩
  rw [List.length_set] at hj
  have hlt := h.lt
  rw [Array.getElem?_setIfInBounds]
  by_cases hij : i = j
  · subst hij
    rw [if_pos rfl, if_pos (by omega)]
    simp [List.getD_eq_getElem?_getD, hi]
  · rw [if_neg hij, h3 j hj]
    simp [List.getD_eq_getElem?_getD, List.getElem?_set, hij]
theorem UB.reads {w W : World} {G N : Nat} {xs : List Int} (h : UB w G N xs W) : Kd.C (Kd.int .u8) W (some ⟨G, 0, none⟩) xs.length xs :=
  Kd.C_of_reads (d := (0 : Int)) (h1 := fun _ => rfl) ⟨rfl, by have := h.mx; omega, fun _ => ⟨_, rfl, fun j hj => by
    have e : (⟨G, 0, none⟩ : Addr).add j = ⟨G, j, none⟩ := by
      unfold Addr.add
      split <;> simp_all
    rw [e]
    exact h.cell j hj⟩⟩
theorem UB.start (w : World) (t : ByteArray) (ht : t.size ≤ 1000000) : UB w w.heap.size (Lib.bytesCells w 5 t).size (bytesOf t) (Lib.bytesWorld w 5 t) := by
  have hc : ∀ j, j < (bytesOf t).length → (Lib.bytesCells w 5 t)[j]? = some (.int .u8 ((bytesOf t).getD j 0)) := by
    intro j hj
    rw [bytesOf_length] at hj
    have h := Lib.bytesWorld_cell w 5 t j hj
    simp only [World.cell?, Lib.bytesWorld_at_new] at h
    rw [show (bytesOf t).getD j 0 = ((t.data.toList.getD j 0).toNat : Int) by
      have hj2 : j < t.data.toList.length := by simpa using hj
      simp [bytesOf, List.getD_eq_getElem?_getD, List.getElem?_eq_getElem hj2]]
    exact h
  refine ⟨⟨_, Lib.bytesWorld_at_new w 5 t, rfl, hc⟩, ?_, by rw [bytesOf_length]; exact ht, bytes_below (Below.refl _ _) (Nat.le_refl _) 5 t, Nat.le_refl _⟩
  rcases Nat.eq_zero_or_pos (bytesOf t).length with h0 | h0
  · omega
  · have := hc ((bytesOf t).length - 1) (by omega)
    rcases Nat.lt_or_ge ((bytesOf t).length - 1) (Lib.bytesCells w 5 t).size with h1 | h1
    · omega
    · rw [Array.getElem?_eq_none h1] at this; cases this
/-- The first i letters great. -/
def upTo (l : List Int) (i : Nat) : List Int := Arr.upperI (l.take i) ++ l.drop i
def upC (c : Int) : Int := if 97 ≤ c ∧ c ≤ 122 then c - 32 else c
theorem upTo_length (l : List Int) (i : Nat) : (upTo l i).length = l.length := by
  simp [upTo, Arr.upperI]; omega
theorem upTo_zero (l : List Int) : upTo l 0 = l := by simp [upTo, Arr.upperI]
theorem upTo_all (l : List Int) : upTo l l.length = Arr.upperI l := by simp [upTo]
theorem upTo_at (l : List Int) (i : Nat) (h : i < l.length) : (upTo l i).getD i 0 = l.getD i 0 := by
  have h1 : (Arr.upperI (l.take i)).length = i := by simp [Arr.upperI]; omega
  rw [upTo, List.getD_eq_getElem?_getD, List.getElem?_append_right (by omega), h1, Nat.sub_self, List.getElem?_drop, List.getD_eq_getElem?_getD]
  rfl
theorem upTo_succ (l : List Int) (i : Nat) (h : i < l.length) : upTo l (i + 1) = (upTo l i).set i (upC (l.getD i 0)) := by
  have h1 : (Arr.upperI (l.take i)).length = i := by simp [Arr.upperI]; omega
  have h2 : l.drop i = l[i] :: l.drop (i + 1) := List.drop_eq_getElem_cons h
  unfold upTo
  rw [h2, List.set_append_right _ _ (by omega), h1, Nat.sub_self, List.set_cons_zero, List.take_add_one, List.getElem?_eq_getElem h]
  have h3 : l.getD i 0 = l[i] := by simp [List.getD_eq_getElem?_getD, List.getElem?_eq_getElem h]
  rw [h3]
  show List.map _ (l.take i ++ [l[i]]) ++ l.drop (i + 1) = List.map _ (l.take i) ++ upC l[i] :: l.drop (i + 1)
  rw [List.map_append, List.append_assoc]
  rfl
theorem upTo_same (l : List Int) (i : Nat) (h : i < l.length) (hc : upC (l.getD i 0) = l.getD i 0) : upTo l (i + 1) = upTo l i := by
  rw [upTo_succ l i h, hc, ← upTo_at l i h]
  apply List.ext_getElem?
  intro j
  rw [List.getElem?_set]
  split
  · rename_i hj; subst hj
    have : i < (upTo l i).length := by rw [upTo_length]; exact h
    simp [List.getD_eq_getElem?_getD, this]
  · rfl
set_option maxHeartbeats 1000000 in
set_option maxRecDepth 100000 in
theorem spec_upper.main (t : ByteArray) (w : World) (ht : t.size ≤ 1000000) :
    Calls Try.prog 34 #[.string t] w fun e w' => e = .returned (.string (strOfNums (Arr.upperI (bytesOf t)))) ∧ Below w.heap.size w w' := by
  have kb := fun W => print_bytes (P := Try.prog) 9 61 5 Try.underlying9 Try.underlying61 Try.underlying5 t W
  have HU := Aside0.mk (UB.start w t ht)
  have HT := Aside0.mk ht
  clear ht
  go_enter Try.func34, Try.ntmps34
  go_wp2_with fail
  go_loopg [4] (t.size + 1) (fun kq s4 wx => ∃ i : Nat, s4 = .int .i64 (i : Int) ∧ Aside0 (kq + i ≥ t.size + 1) ∧ Aside0 (i ≤ t.size) ∧ Aside0 (UB w w.heap.size (Lib.bytesCells w 5 t).size (upTo (bytesOf t) i) wx))
  case atStart => exact ⟨0, rfl, ⟨by omega⟩, ⟨Nat.zero_le _⟩, ⟨by rw [upTo_zero]; exact HU.out⟩⟩
  case round =>
    obtain ⟨i, rfl, HK, HI, HS⟩ := hrel
    clear kb HU
    by_cases ci : i < t.size
    · have hil : i < (bytesOf t).length := by rw [bytesOf_length]; exact ci
      have hul : i < (upTo (bytesOf t) i).length := by rw [upTo_length]; exact hil
      have x0 := HS.out.cell i hul
      have f0 := HS.out.frozen i hul
      rw [upTo_at _ _ hil] at x0
      obtain ⟨c, hc⟩ : ∃ c, c = (bytesOf t).getD i 0 := ⟨_, rfl⟩
      rw [← hc] at x0
      have g1 : ((i : Int) < (t.size : Int)) = True := eq_true (by omega)
      have g1b : decide ((i : Int) < (t.size : Int)) = true := decide_eq_true (by omega)
      have g1c : decide (i < t.size) = true := decide_eq_true ci
      have g1d : (i < t.size) = True := eq_true ci
      have hi1 : wrap64 ((i : Int) + 1) = ((i + 1 : Nat) : Int) := by have := HT.out; unfold wrap64; omega
      have HC := Aside0.mk hc
      have HCI := Aside0.mk ci
      have HIL := Aside0.mk hil
      have HUL := Aside0.mk hul
      clear hc ci hil hul
      by_cases c1 : 97 ≤ c
      · have c1b : decide (97 ≤ c) = true := decide_eq_true c1
        by_cases c2 : c ≤ 122
        · have c2b : decide (c ≤ 122) = true := decide_eq_true c2
          have hw : IntKind.u8.wrap (c - 32) = c - 32 := by rw [IntKind.wrap_u8]; omega
          have hup : upC c = c - 32 := by unfold upC; rw [if_pos ⟨c1, c2⟩]
          have HUP := Aside0.mk hup
          clear c1 c2 hup
          --{A
          go_wp2_with fail
          go_roundg (t.size - i)
          case measure => have := HK.out; have := HCI.out; omega
          case rel =>
            refine ⟨i + 1, by first | rfl | go_num, ⟨by have := HCI.out; omega⟩, ⟨HCI.out⟩, ⟨?_⟩⟩
            rw [upTo_succ _ _ HIL.out, ← HC.out, HUP.out]
            exact HS.out.set i (c - 32) HUL.out
          --}A
        · have c2b : decide (c ≤ 122) = false := decide_eq_false c2
          have hup : upC c = c := by unfold upC; rw [if_neg (fun h => c2 h.2)]
          have HUP := Aside0.mk hup
          clear c1 c2 hup
          --{B
          go_wp2_with fail
          go_roundg (t.size - i)
          case measure => have := HK.out; have := HCI.out; omega
          case rel =>
            refine ⟨i + 1, by first | rfl | go_num, ⟨by have := HCI.out; omega⟩, ⟨HCI.out⟩, ⟨?_⟩⟩
            rw [upTo_same _ _ HIL.out (by rw [← HC.out]; exact HUP.out)]
            exact HS.out
          --}B
      · have c1b : decide (97 ≤ c) = false := decide_eq_false c1
        have hup : upC c = c := by unfold upC; rw [if_neg (fun h => c1 h.1)]
        have HUP := Aside0.mk hup
        clear c1 hup
        --{C
        go_wp2_with fail
        go_roundg (t.size - i)
        case measure => have := HK.out; have := HCI.out; omega
        case rel =>
          refine ⟨i + 1, by first | rfl | go_num, ⟨by have := HCI.out; omega⟩, ⟨HCI.out⟩, ⟨?_⟩⟩
          rw [upTo_same _ _ HIL.out (by rw [← HC.out]; exact HUP.out)]
          exact HS.out
        --}C
    · have hie : i = t.size := by have := HI.out; omega
      have hr := HS.out.reads
      rw [hie, ← bytesOf_length, upTo_all] at hr
      have hlu : (Arr.upperI (bytesOf t)).length = t.size := by simp [Arr.upperI, bytesOf_length]
      have hcv := fun (c_ : Nat) => Kd.C_string (P := Try.prog) (c := c_) Try.underlying61 Try.underlying5 Try.underlying9 hr
      rw [hlu] at hcv
      have g1 : ((i : Int) < (t.size : Int)) = False := eq_false (by omega)
      have g1b : decide ((i : Int) < (t.size : Int)) = false := decide_eq_false (by omega)
      have g1c : decide (i < t.size) = false := decide_eq_false ci
      have g1d : (i < t.size) = False := eq_false ci
      clear hr hlu hie ci
      --{D
      go_wp2_with fail
      go_ret
      exact ⟨rfl, HS.out.hB⟩
      --}D

end Go.Proofs.Ythcikkjjegfblaa.P
