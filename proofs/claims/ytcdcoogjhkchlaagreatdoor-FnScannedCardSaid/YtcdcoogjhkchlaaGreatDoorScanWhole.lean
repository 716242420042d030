/- What spec.Whole tells is what strconv.ParseInt tells, where it is sure. Conditions: at most 2000 bytes. -/
import Derived.Test.YtcdcoogjhkchlaaGreatDoorPw
import Derived.Test.YtcdcoogjhkchlaaGreatDoorLib
import Derived.Lib.ParseIntBCases
namespace Go.Proofs.YtcdcoogjhkchlaaGreatDoor.Lib
open Go.RowKit Go.Proofs.YtcdcoogjhkchlaaGreatDoor.P Go.Proofs.YtcdcoogjhkchlaaGreatDoorW.PrintWords Go.Proofs.YtcdcoogjhkchlaaGreatDoorW.PrintLast Go.Proofs.YtcdcoogjhkchlaaGreatDoorW.PrintMore
set_option linter.unusedVariables false
set_option linter.unusedSimpArgs false
def nat8 (l : List UInt8) : List Int := l.map fun b => (b.toNat : Int)
def allD (l : List UInt8) : Prop := ∀ c ∈ l, 48 ≤ c.toNat ∧ c.toNat ≤ 57
instance (l : List UInt8) : Decidable (allD l) := by unfold allD; infer_instance
def valD : Nat → List Nat → Nat
  | acc, [] => acc
  | acc, d :: r => valD (acc * 10 + d) r
theorem valD_cons (acc d : Nat) (r : List Nat) : valD acc (d :: r) = valD (acc * 10 + d) r := rfl
def valN (acc : Nat) (l : List UInt8) : Nat := valD acc (l.map fun c => c.toNat - 48)
theorem valN_cons (acc : Nat) (c : UInt8) (r : List UInt8) : valN acc (c :: r) = valN (acc * 10 + (c.toNat - 48)) r := by
  unfold valN
  rw [List.map_cons, valD_cons]
theorem valN_nil (acc : Nat) : valN acc [] = acc := rfl
theorem valN_ge (l : List UInt8) : ∀ (acc : Nat), acc ≤ valN acc l := by
  induction l with
  | nil => intro acc; rw [valN_nil]; exact Nat.le_refl _
  | cons c r ih =>
    intro acc
    rw [valN_cons]
    have h := ih (acc * 10 + (c.toNat - 48))
    omega
def p10 : Nat → Nat
  | 0 => 1
  | j + 1 => p10 j * 10
theorem p10_succ (j : Nat) : p10 (j + 1) = p10 j * 10 := rfl
theorem p10_mono (k j : Nat) : p10 j ≤ p10 (j + k) := by
  induction k with
  | zero => exact Nat.le_refl _
  | succ k ih => rw [← Nat.add_assoc, p10_succ]; omega
theorem pow18 (j : Nat) (h : j ≤ 18) : p10 j ≤ 1000000000000000000 := by
  have h1 := p10_mono (18 - j) j
  rw [show j + (18 - j) = 18 by omega] at h1
  exact h1
theorem pow17 (j : Nat) (h : j ≤ 17) : p10 j ≤ 100000000000000000 := by
  have h1 := p10_mono (17 - j) j
  rw [show j + (17 - j) = 17 by omega] at h1
  exact h1
theorem pu_ok (M : Nat) (l : List UInt8) : ∀ (acc j : Nat), allD l → acc < p10 j → j + l.length ≤ 18 → acc ≤ M → Go.Lib.parseUintM M acc l = if valN acc l ≤ M then .ok (valN acc l) else .range := by
  induction l with
  | nil =>
    intro acc j _ _ _ hM
    rw [Go.Lib.parseUintM, valN_nil, if_pos hM]
  | cons c r ih =>
    intro acc j hd h hj hM
    have hc := hd c (by simp)
    rw [List.length_cons] at hj
    have h18 := pow17 j (by omega)
    rw [Go.Lib.parseUintM, if_pos hc, if_neg (by omega), valN_cons]
    by_cases hm : M < acc * 10 + (c.toNat - 48)
    · rw [if_pos hm, if_neg (by have := valN_ge r (acc * 10 + (c.toNat - 48)); omega)]
    · rw [if_neg hm]
      exact ih _ (j + 1) (fun x hx => hd x (by simp [hx])) (by rw [p10_succ]; omega) (by omega) (by omega)
theorem pu_bad (M : Nat) : ∀ (l : List UInt8) (acc u : Nat), ¬ allD l → Go.Lib.parseUintM M acc l ≠ .ok u
  | [], acc, u, hd => absurd (fun c hc => by cases hc) hd
  | c :: r, acc, u, hd => by
    rw [Go.Lib.parseUintM]
    by_cases hc : 48 ≤ c.toNat ∧ c.toNat ≤ 57
    · rw [if_pos hc]
      split
      · intro h; cases h
      · split
        · intro h; cases h
        · exact pu_bad M r _ u (fun h => hd (fun x hx => by
            rcases List.mem_cons.1 hx with rfl | hx
            · exact hc
            · exact h x hx))
    · rw [if_neg hc]; intro h; cases h
theorem puB_ok (B : Nat) (l : List UInt8) (hl : l ≠ []) (hd : allD l) (h18 : l.length ≤ 18) : Go.Lib.parseUintB B l = if valN 0 l ≤ 2 ^ B - 1 then .ok (valN 0 l) else .range := by
  unfold Go.Lib.parseUintB
  rw [if_neg hl]
  exact pu_ok _ l 0 0 hd (by show 0 < 1; omega) (by omega) (Nat.zero_le _)
theorem puB_bad (B : Nat) (l : List UInt8) (hd : l = [] ∨ ¬ allD l) (u : Nat) : Go.Lib.parseUintB B l ≠ .ok u := by
  unfold Go.Lib.parseUintB
  by_cases hl : l = []
  · rw [if_pos hl]; intro h; cases h
  · rw [if_neg hl]; exact pu_bad _ l 0 u (hd.resolve_left hl)
/-- An integer's bits. -/
def fitsB (B : Nat) (n : Int) : Prop := -((2 ^ (B - 1) : Nat) : Int) ≤ n ∧ n < ((2 ^ (B - 1) : Nat) : Int)
def splitS (l : List UInt8) : Bool × List UInt8 := match l with
  | [] => (false, [])
  | c :: r => if c.toNat = 45 then (true, r) else if c.toNat = 43 then (false, r) else (false, c :: r)
theorem pi_bad (B : Nat) (l : List UInt8) (h : (splitS l).2 = [] ∨ ¬ allD (splitS l).2) (v : Int) : Go.Lib.parseIntB B l ≠ .ok v := by
  unfold splitS at h
  unfold Go.Lib.parseIntB
  cases l with
  | nil => intro h2; cases h2
  | cons c r =>
    simp only at h ⊢
    by_cases h1 : c.toNat = 45
    · rw [if_pos h1] at h
      rw [if_pos (.inr h1)]
      cases hq : Go.Lib.parseUintB B r with
      | ok u => exact absurd hq (puB_bad B r h u)
      | «syntax» => intro h2; cases h2
      | range => intro h2; cases h2
    · rw [if_neg h1] at h
      by_cases h2 : c.toNat = 43
      · rw [if_pos h2] at h
        rw [if_pos (.inl h2)]
        cases hq : Go.Lib.parseUintB B r with
        | ok u => exact absurd hq (puB_bad B r h u)
        | «syntax» => intro h2; cases h2
        | range => intro h2; cases h2
      · rw [if_neg h2] at h
        rw [if_neg (by omega)]
        cases hq : Go.Lib.parseUintB B (c :: r) with
        | ok u => exact absurd hq (puB_bad B (c :: r) h u)
        | «syntax» => intro h2; cases h2
        | range => intro h2; cases h2
theorem splitS_cons (c : UInt8) (r : List UInt8) : splitS (c :: r) = if c.toNat = 45 then (true, r) else if c.toNat = 43 then (false, r) else (false, c :: r) := rfl
/-- What the digits say. -/
def numS (l : List UInt8) : Int := if (splitS l).1 then -(valN 0 (splitS l).2 : Int) else (valN 0 (splitS l).2 : Int)
theorem pi_ok (B : Nat) (hB : B = 64 ∨ B = 32) (l : List UInt8) (h0 : (splitS l).2 ≠ []) (hd : allD (splitS l).2) (h18 : (splitS l).2.length ≤ 18) :
    (fitsB B (numS l) → Go.Lib.parseIntB B l = .ok (numS l)) ∧ (¬ fitsB B (numS l) → ∀ v, Go.Lib.parseIntB B l ≠ .ok v) := by
  have hp2 : 2 * 2 ^ (B - 1) = 2 ^ B := by rcases hB with rfl | rfl <;> decide
  have hp1 : 1 ≤ 2 ^ (B - 1) := by rcases hB with rfl | rfl <;> decide
  obtain ⟨Q, hQ⟩ : ∃ Q : Nat, Q = 2 ^ (B - 1) := ⟨_, rfl⟩
  cases l with
  | nil => exact absurd rfl h0
  | cons c r =>
    by_cases h1 : c.toNat = 45
    · have e : splitS (c :: r) = (true, r) := by rw [splitS_cons, if_pos h1]
      rw [e] at h0 hd h18
      have en : numS (c :: r) = -(valN 0 r : Int) := by unfold numS; rw [e]; rfl
      rw [en]
      have hu := puB_ok B r h0 hd h18
      unfold Go.Lib.parseIntB fitsB
      simp only
      rw [if_pos (.inr h1), hu, ← hQ]
      rw [← hp2, ← hQ]
      obtain ⟨V, hV⟩ : ∃ V, V = valN 0 r := ⟨_, rfl⟩
      rw [← hV]
      rw [← hQ] at hp1
      constructor
      · intro hf
        rw [if_pos (by omega)]
        simp only
        rw [if_neg (fun h => h.1 h1), if_neg (by intro h; omega), if_pos h1]
      · intro hf v
        split
        · intro h; cases h
        · intro h; cases h
        · rename_i u hq
          split at hq
          · injection hq with hq
            subst hq
            rw [if_neg (fun h => h.1 h1), if_pos ⟨h1, by omega⟩]
            intro h; cases h
          · cases hq
    · have hS : ∃ t, splitS (c :: r) = (false, t) ∧ (if c.toNat = 43 ∨ c.toNat = 45 then r else c :: r) = t := by
        rw [splitS_cons, if_neg h1]
        by_cases h2 : c.toNat = 43
        · rw [if_pos h2, if_pos (.inl h2)]; exact ⟨_, rfl, rfl⟩
        · rw [if_neg h2, if_neg (by omega)]; exact ⟨_, rfl, rfl⟩
      obtain ⟨t, e, et⟩ := hS
      rw [e] at h0 hd h18
      have en : numS (c :: r) = (valN 0 t : Int) := by unfold numS; rw [e]; rfl
      rw [en]
      have hu := puB_ok B t h0 hd h18
      unfold Go.Lib.parseIntB fitsB
      simp only
      rw [et, hu, ← hQ]
      rw [← hp2, ← hQ]
      obtain ⟨V, hV⟩ : ∃ V, V = valN 0 t := ⟨_, rfl⟩
      rw [← hV]
      rw [← hQ] at hp1
      constructor
      · intro hf
        rw [if_pos (by omega)]
        simp only
        rw [if_neg (by intro h; omega), if_neg (fun h => h1 h.1), if_neg h1]
      · intro hf v
        split
        · intro h; cases h
        · intro h; cases h
        · rename_i u hq
          split at hq
          · injection hq with hq
            subst hq
            rw [if_pos ⟨h1, by omega⟩]
            intro h; cases h
          · cases hq
theorem bytes_nat8 (s : ByteArray) : bytesOf s = nat8 s.data.toList := rfl
/-- The loop over the digits. -/
theorem whole_l (s : ByteArray) (hs : s.size ≤ 1000000) (a : Int) (ha0 : 0 ≤ a) (ha1 : a ≤ 1) (h0 : 0 < s.size) : ∀ (l : List UInt8) (i : Int) (x : Nat), At (bytesOf s) i (nat8 l) → a ≤ i → (i - a ≤ 18 → x < p10 (i - a).toNat) → (x : Int) < 1000000000000000000 →
    ∃ R, Ev (fun k => spec_Whole.l0 k s (x : Int) a i) R ∧ (R.2.2 = true → (R.2.1 = false ∧ ¬ allD l) ∨ (R.2.1 = true ∧ allD l ∧ (s.size : Int) - a ≤ 18 ∧ bt s 0 ≠ 43 ∧ R.1 = if bt s 0 = 45 then -(valN x l : Int) else (valN x l : Int))) := by
  intro l
  induction l with
  | nil =>
    intro i x h hi hx hx2
    have he := h.snil
    have hw : wrap64 ((s.size : Int) - a) = (s.size : Int) - a := wrap64_id (by omega) (by omega)
    by_cases h18 : (s.size : Int) - a > 18
    · refine ⟨(0, false, false), ?_, (fun h => by cases h)⟩
      refine Ev.step (fun k => spec_Whole.l0.eq_2 _ _ _ _ _) <| Ev.if_neg (by omega) <| Ev.if_pos (by rw [hw]; exact h18) ?_
      exact Ev.step (fun k => spec_Whole.j4.eq_2 _ _ _ _) <| Ev.if_pos rfl <| Ev.now _
    · have step : ∀ R, Ev (fun k => spec_Whole.j4 k s (x : Int) (bt s 0 == 43)) R → Ev (fun k => spec_Whole.l0 k s (x : Int) a i) R := fun R hR =>
        Ev.step (fun k => spec_Whole.l0.eq_2 _ _ _ _ _) <| Ev.if_neg (by omega) <| Ev.if_neg (by rw [hw]; exact h18) <| Ev.if_pos (by omega) hR
      by_cases h43 : bt s 0 = 43
      · refine ⟨(0, false, false), step _ ?_, (fun h => by cases h)⟩
        exact Ev.step (fun k => spec_Whole.j4.eq_2 _ _ _ _) <| Ev.if_pos (by simp [h43]) <| Ev.now _
      · by_cases h45 : bt s 0 = 45
        · refine ⟨(-(x : Int), true, true), step _ ?_, fun _ => .inr ⟨rfl, (fun c hc => by cases hc), by omega, h43, by rw [if_pos h45, valN_nil]⟩⟩
          refine Ev.step (fun k => spec_Whole.j4.eq_2 _ _ _ _) <| Ev.if_neg (by simp [h43]) <| Ev.if_pos (by omega) <| Ev.if_pos h45 ?_
          rw [show wrap64 (-(x : Int)) = -(x : Int) from wrap64_id (by omega) (by omega)]
          exact Ev.now _
        · refine ⟨((x : Int), true, true), step _ ?_, fun _ => .inr ⟨rfl, (fun c hc => by cases hc), by omega, h43, by rw [if_neg h45, valN_nil]⟩⟩
          exact Ev.step (fun k => spec_Whole.j4.eq_2 _ _ _ _) <| Ev.if_neg (by simp [h43]) <| Ev.if_pos (by omega) <| Ev.if_neg h45 <| Ev.now _
  | cons c t ih =>
    intro i x h hi hx hx2
    have hlt := h.slt
    have h0i := h.nonneg
    have hb : bt s i = (c.toNat : Int) := h.bt
    have step : ∀ R, Ev (fun k => spec_Whole.j3 k s (x : Int) a i (decide (¬ (48 ≤ c.toNat ∧ c.toNat ≤ 57)))) R → Ev (fun k => spec_Whole.l0 k s (x : Int) a i) R := fun R hR => by
      refine Ev.step (fun k => spec_Whole.l0.eq_2 _ _ _ _ _) <| Ev.if_pos hlt <| Ev.if_pos h0i ?_
      rw [hb]
      by_cases h1 : (c.toNat : Int) < 48
      · have e : decide (¬ (48 ≤ c.toNat ∧ c.toNat ≤ 57)) = true := decide_eq_true (by omega)
        rw [e] at hR
        exact Ev.if_pos h1 hR
      · have e : decide (¬ (48 ≤ c.toNat ∧ c.toNat ≤ 57)) = decide ((c.toNat : Int) > 57) := by
          by_cases h2 : (c.toNat : Int) > 57
          · rw [decide_eq_true h2, decide_eq_true (by omega)]
          · rw [decide_eq_false h2, decide_eq_false (by omega)]
        rw [e] at hR
        exact Ev.if_neg h1 hR
    by_cases hd : 48 ≤ c.toNat ∧ c.toNat ≤ 57
    · have e : decide (¬ (48 ≤ c.toNat ∧ c.toNat ≤ 57)) = false := decide_eq_false (by omega)
      rw [e] at step
      have HWI := Aside0.mk (show wrap64 (i - a) = i - a from wrap64_id (by omega) (by omega))
      have HWN := Aside0.mk (show wrap64 (i + 1) = i + 1 from wrap64_id (by omega) (by omega))
      have hall : ∀ {l : List UInt8}, allD (c :: l) ↔ allD l := fun {l} => ⟨fun h x hx => h x (by simp [hx]), fun h x hx => by
        rcases List.mem_cons.1 hx with rfl | hx
        · exact hd
        · exact h x hx⟩
      by_cases h18 : i - a < 18
      · have hxl := hx (by omega)
        have h17 : x < 100000000000000000 := Nat.lt_of_lt_of_le hxl (pow17 _ (by omega))
        have hm : ((c.toNat : Int) - 48) % 256 = ((c.toNat - 48 : Nat) : Int) := by omega
        obtain ⟨y, hy⟩ : ∃ y, y = x * 10 + (c.toNat - 48) := ⟨_, rfl⟩
        have HV := Aside0.mk (show wrap64 (wrap64 ((x : Int) * 10) + ((c.toNat : Int) - 48) % 256) = (y : Int) by
          rw [hm, show wrap64 ((x : Int) * 10) = (x : Int) * 10 from wrap64_id (by omega) (by omega), wrap64_id (by omega) (by omega)]
          omega)
        have e1 : p10 (i + 1 - a).toNat = p10 (i - a).toNat * 10 := (congrArg p10 (show (i + 1 - a).toNat = (i - a).toNat + 1 by omega)).trans (p10_succ _)
        have hy1 : y < p10 (i + 1 - a).toNat := by rw [e1, hy]; omega
        have hy2 : (y : Int) < 1000000000000000000 := by rw [hy]; omega
        obtain ⟨R, hR, hc⟩ := ih (i + 1) y h.tail (by omega) (fun _ => hy1) hy2
        refine ⟨R, step R ?_, fun h => ?_⟩
        · refine Ev.step (fun k => spec_Whole.j3.eq_2 _ _ _ _ _ _) <| Ev.if_neg (by simp) <| Ev.if_pos (by rw [HWI.out]; exact h18) <| Ev.if_pos h0i <| Ev.if_pos hlt ?_
          rw [hb, HV.out, HWN.out]
          exact hR
        · rcases hc h with ⟨h1, h2⟩ | ⟨h1, h2, h3, h4, h5⟩
          · exact .inl ⟨h1, fun h => h2 (hall.1 h)⟩
          · exact .inr ⟨h1, hall.2 h2, h3, h4, by rw [valN_cons, ← hy]; exact h5⟩
      · obtain ⟨R, hR, hc⟩ := ih (i + 1) x h.tail (by omega) (fun h => by omega) hx2
        have hlen := h.slen
        refine ⟨R, step R ?_, fun hq => ?_⟩
        · refine Ev.step (fun k => spec_Whole.j3.eq_2 _ _ _ _ _ _) <| Ev.if_neg (by simp) <| Ev.if_neg (by rw [HWI.out]; exact h18) ?_
          rw [HWN.out]
          exact hR
        · rcases hc hq with ⟨h1, h2⟩ | ⟨h1, h2, h3, h4, h5⟩
          · exact .inl ⟨h1, fun h => h2 (hall.1 h)⟩
          · exfalso
            simp [nat8] at hlen
            omega
    · have e : decide (¬ (48 ≤ c.toNat ∧ c.toNat ≤ 57)) = true := decide_eq_true hd
      rw [e] at step
      refine ⟨(0, false, (c.toNat : Int) != 95), step _ ?_, fun _ => .inl ⟨rfl, fun h => hd (h c (by simp))⟩⟩
      refine Ev.step (fun k => spec_Whole.j3.eq_2 _ _ _ _ _ _) <| Ev.if_pos rfl <| Ev.if_pos h0i <| Ev.if_pos hlt ?_
      rw [hb]
      exact Ev.now _
theorem whole (s : ByteArray) (hs : s.size ≤ 1000000) : ∃ R, Ev (fun k => spec_Whole.f k s) R ∧ (R.2.2 = true → (R.2.1 = false ∧ ((splitS s.data.toList).2 = [] ∨ ¬ allD (splitS s.data.toList).2)) ∨ (R.2.1 = true ∧ (splitS s.data.toList).2 ≠ [] ∧ allD (splitS s.data.toList).2 ∧ (splitS s.data.toList).2.length ≤ 18 ∧ R.1 = numS s.data.toList)) := by
  unfold spec_Whole.f
  cases hL : s.data.toList with
  | nil =>
    have hz : s.size = 0 := by
      have : s.data.toList.length = s.size := by simp
      rw [hL] at this; simpa using this.symm
    refine ⟨(0, false, true), ?_, fun _ => .inl ⟨rfl, .inl rfl⟩⟩
    refine Ev.if_neg (by omega) <| Ev.step (fun k => spec_Whole.j0.eq_2 _ _ _ _ _) <| Ev.if_neg (by simp) <| Ev.step (fun k => spec_Whole.j1.eq_2 _ _ _ _) <| Ev.if_pos (by omega) <| Ev.now _
  | cons c r =>
    have hlen : s.size = r.length + 1 := by
      have : s.data.toList.length = s.size := by simp
      rw [hL] at this; simpa using this.symm
    have hat : At (bytesOf s) 0 ((c.toNat : Int) :: nat8 r) := by
      have := At.zero (bytesOf s)
      rw [bytes_nat8, hL] at this ⊢
      exact this
    have hb0 : bt s 0 = (c.toNat : Int) := hat.bt
    rw [hb0]
    -- one sign ahead
    have signed : (c.toNat = 45 ∨ c.toNat = 43) → ∃ R, Ev (fun k => spec_Whole.j0 k s 0 0 true) R ∧ (R.2.2 = true → (R.2.1 = false ∧ (r = [] ∨ ¬ allD r)) ∨ (R.2.1 = true ∧ r ≠ [] ∧ allD r ∧ r.length ≤ 18 ∧ c.toNat ≠ 43 ∧ R.1 = if c.toNat = 45 then -(valN 0 r : Int) else (valN 0 r : Int))) := by
      intro hc
      have hw : wrap64 (0 + 1) = 1 := by unfold wrap64; omega
      have step : ∀ R, Ev (fun k => spec_Whole.j1 k s 0 1) R → Ev (fun k => spec_Whole.j0 k s 0 0 true) R := fun R hR => by
        refine Ev.step (fun k => spec_Whole.j0.eq_2 _ _ _ _ _) <| Ev.if_pos rfl ?_
        rw [hw]; exact hR
      cases hr : r with
      | nil =>
        rw [hr] at hlen
        refine ⟨(0, false, true), step _ ?_, fun _ => .inl ⟨rfl, .inl rfl⟩⟩
        exact Ev.step (fun k => spec_Whole.j1.eq_2 _ _ _ _) <| Ev.if_pos (by simp at hlen; omega) <| Ev.now _
      | cons c2 r2 =>
        rw [← hr]
        have hrl : r.length = r2.length + 1 := by rw [hr]; rfl
        obtain ⟨R, hR, hq⟩ := whole_l s hs 1 (by omega) (by omega) (by omega) r 1 0 hat.tail (by omega) (fun _ => by show 0 < p10 _; exact Nat.lt_of_lt_of_le (show 0 < p10 0 from Nat.one_pos) (by have := p10_mono ((1 : Int) - 1).toNat 0; simp)) (by decide)
        refine ⟨R, step R ?_, fun h => ?_⟩
        · exact Ev.step (fun k => spec_Whole.j1.eq_2 _ _ _ _) <| Ev.if_neg (by omega) hR
        · rcases hq h with ⟨h1, h2⟩ | ⟨h1, h2, h3, h4, h5⟩
          · exact .inl ⟨h1, .inr h2⟩
          · rw [hb0] at h4 h5
            refine .inr ⟨h1, by rw [hr]; simp, h2, by omega, by omega, ?_⟩
            rw [h5]
            by_cases h45 : c.toNat = 45
            · rw [if_pos h45, if_pos (by omega)]
            · rw [if_neg h45, if_neg (by omega)]
    by_cases h45 : c.toNat = 45
    · have e : splitS (c :: r) = (true, r) := by rw [splitS_cons, if_pos h45]
      obtain ⟨R, hR, hq⟩ := signed (.inl h45)
      refine ⟨R, Ev.if_pos (by omega) <| Ev.if_pos (by omega) hR, fun h => ?_⟩
      rw [e]
      rcases hq h with h1 | ⟨h1, h2, h3, h4, h5, h6⟩
      · exact .inl h1
      · refine .inr ⟨h1, h2, h3, h4, ?_⟩
        rw [h6, if_pos h45]; unfold numS; rw [e]; rfl
    · by_cases h43 : c.toNat = 43
      · have e : splitS (c :: r) = (false, r) := by rw [splitS_cons, if_neg h45, if_pos h43]
        obtain ⟨R, hR, hq⟩ := signed (.inr h43)
        have hbe : ((c.toNat : Int) == 43) = true := beq_iff_eq.mpr (by omega)
        refine ⟨R, Ev.if_pos (by omega) <| Ev.if_neg (by omega) (by rw [hbe]; exact hR), fun h => ?_⟩
        rw [e]
        rcases hq h with h1 | ⟨h1, h2, h3, h4, h5, h6⟩
        · exact .inl h1
        · exact absurd h43 h5
      · have e : splitS (c :: r) = (false, c :: r) := by rw [splitS_cons, if_neg h45, if_neg h43]
        have hbe : ((c.toNat : Int) == 43) = false := beq_eq_false_iff_ne.mpr (by omega)
        obtain ⟨R, hR, hq⟩ := whole_l s hs 0 (by omega) (by omega) (by omega) (c :: r) 0 0 hat (by omega) (fun _ => by show 0 < p10 _; exact Nat.lt_of_lt_of_le (show 0 < p10 0 from Nat.one_pos) (by have := p10_mono ((1 : Int) - 1).toNat 0; simp)) (by decide)
        refine ⟨R, Ev.if_pos (by omega) <| Ev.if_neg (by omega) (by
          rw [hbe]
          exact Ev.step (fun k => spec_Whole.j0.eq_2 _ _ _ _ _) <| Ev.if_neg (by simp) <| Ev.step (fun k => spec_Whole.j1.eq_2 _ _ _ _) <| Ev.if_neg (by omega) hR), fun h => ?_⟩
        rw [e]
        rcases hq h with ⟨h1, h2⟩ | ⟨h1, h2, h3, h4, h5⟩
        · exact .inl ⟨h1, .inr h2⟩
        · refine .inr ⟨h1, by simp, h2, by simp; omega, ?_⟩
          rw [h5, hb0, if_neg (by omega)]
          unfold numS; rw [e]; rfl
end Go.Proofs.YtcdcoogjhkchlaaGreatDoor.Lib
