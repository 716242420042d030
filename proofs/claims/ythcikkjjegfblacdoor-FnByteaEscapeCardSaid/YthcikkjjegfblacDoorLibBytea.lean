/- What spec.Escaped and parseBytea tell of texts in the escape format, as plain lists. Conditions: sizes within the form's bound. -/
import Derived.Test.YthcikkjjegfblacDoorPx4
import Derived.Test.YthcikkjjegfblacDoorPx3
import Derived.Test.YthcikkjjegfblacDoorLibIndex
import Derived.Laws.BitsLemmas
namespace Go.Proofs.YthcikkjjegfblacDoor.Lib
open Go.RowKit Go.Proofs.YthcikkjjegfblacDoor.P Go.Proofs.YthcikkjjegfblacDoorW.PrintWords Go.Proofs.YthcikkjjegfblacDoorW.PrintLast Go.Proofs.YthcikkjjegfblacDoorW.PrintMore

/-- A byte that stands for itself. -/
def isPlain (c : Int) : Prop := 32 ≤ c ∧ c ≤ 126 ∧ c ≠ 92
instance (c : Int) : Decidable (isPlain c) := by unfold isPlain; infer_instance
/-- One byte in the escape format. -/
def esc1 (c : Int) : List Int := if c = 92 then [92, 92] else if isPlain c then [c] else [92, 48 + c / 64, 48 + c / 8 % 8, 48 + c % 8]
/-- Bytes in the escape format. -/
def escB (l : List Int) : List Int := l.flatMap esc1
theorem escB_cons (c : Int) (l : List Int) : escB (c :: l) = esc1 c ++ escB l := by simp [escB]
theorem escB_length (l : List Int) : (escB l).length ≤ 4 * l.length := by
  induction l with
  | nil => simp [escB]
  | cons c t ih =>
    rw [escB_cons, List.length_append]
    have : (esc1 c).length ≤ 4 := by
      unfold esc1
      by_cases h1 : c = 92
      · rw [if_pos h1]; simp
      · by_cases h2 : isPlain c
        · rw [if_neg h1, if_pos h2]; simp
        · rw [if_neg h1, if_neg h2]; simp
    simp only [List.length_cons]; omega
theorem escB_bytes {l : List Int} (h : ∀ c ∈ l, 0 ≤ c ∧ c ≤ 255) : ∀ c ∈ escB l, 0 ≤ c ∧ c ≤ 255 := by
  intro c hc
  unfold escB at hc
  obtain ⟨d, hd, hc⟩ := List.mem_flatMap.1 hc
  have := h d hd
  unfold esc1 at hc
  split at hc
  · simp at hc; omega
  · split at hc
    · simp at hc; omega
    · simp at hc; omega
theorem esc1_plain {c : Int} (h : isPlain c) : esc1 c = [c] := by
  unfold esc1
  rw [if_neg h.2.2, if_pos h]
theorem esc1_head {c : Int} (h : ¬ isPlain c) : ∃ t, esc1 c = 92 :: t := by
  unfold esc1
  by_cases h1 : c = 92
  · rw [if_pos h1]; exact ⟨_, rfl⟩
  · rw [if_neg h1, if_neg h]; exact ⟨_, rfl⟩
/-- What stands ahead of the first backslash stands for itself. -/
theorem escB_split : ∀ (p l r : List Int), escB l = p ++ 92 :: r → 92 ∉ p → ∃ l', l = p ++ l' ∧ escB l' = 92 :: r := by
  intro p
  induction p with
  | nil => intro l r h _; exact ⟨l, rfl, h⟩
  | cons x p ih =>
    intro l r h hp
    cases l with
    | nil => simp [escB] at h
    | cons c t =>
      rw [escB_cons] at h
      by_cases hc : isPlain c
      · rw [esc1_plain hc] at h
        simp at h
        obtain ⟨l', hl', he⟩ := ih t r h.2 (fun hx => hp (by simp [hx]))
        exact ⟨l', by rw [hl', h.1]; rfl, he⟩
      · obtain ⟨t', ht⟩ := esc1_head hc
        rw [ht] at h
        simp at h
        exact absurd (by rw [← h.1]; simp) hp
theorem escB_none : ∀ (l : List Int), 92 ∉ escB l → escB l = l := by
  intro l
  induction l with
  | nil => intro _; rfl
  | cons c t ih =>
    intro h
    rw [escB_cons] at h ⊢
    by_cases hc : isPlain c
    · rw [esc1_plain hc] at h ⊢
      rw [ih (fun hx => h (by simp [hx]))]; rfl
    · obtain ⟨t', ht⟩ := esc1_head hc
      exact absurd (by rw [ht]; simp) h

/-- strconv.ParseUint of three octal digits. -/
theorem parseOctal (a b c : Int) (ha : 0 ≤ a ∧ a ≤ 3) (hb : 0 ≤ b ∧ b ≤ 7) (hc : 0 ≤ c ∧ c ≤ 7) (s : ByteArray) (hs : bytesOf s = [48 + a, 48 + b, 48 + c]) :
    Ev (fun k => strconv_ParseUint.f k s 8 8) (a * 64 + b * 8 + c, none) := by
  have hz : s.size = 3 := by rw [← bytesOf_length, hs]; rfl
  have e0 : Ev (fun k => internal_strconv_ParseUint.l0 k [] (a * 64 + b * 8 + c)) (a * 64 + b * 8 + c, none) := Ev.step (fun k => internal_strconv_ParseUint.l0.eq_2 _ _) <| Ev.now _
  have one : ∀ (n d : Int) (t : List Int) (r : Int × Option Int), 0 ≤ d → d ≤ 7 → n * 8 + d ≤ 255 → Ev (fun k => internal_strconv_ParseUint.l0 k t (n * 8 + d)) r → Ev (fun k => internal_strconv_ParseUint.l0 k ((48 + d) :: t) n) r := by
    intro n d t r h0 h1 h2 hr
    refine Ev.step (fun k => internal_strconv_ParseUint.l0.eq_3 _ _ _ _) ?_
    show Ev (fun k => if 48 ≤ 48 + d then (if 48 + d ≤ 55 then (if n * 8 + (48 + d - 48) ≤ 255 then internal_strconv_ParseUint.l0 k t (n * 8 + (48 + d - 48)) else none) else none) else none) r
    rw [show 48 + d - 48 = d from by omega]
    exact Ev.if_pos (by omega) <| Ev.if_pos (by omega) <| Ev.if_pos h2 hr
  have e3 : Ev (fun k => internal_strconv_ParseUint.f k s 8 8) (a * 64 + b * 8 + c, none) := by
    unfold internal_strconv_ParseUint.f
    refine Ev.if_pos (by omega) <| Ev.if_pos (by omega) <| Ev.if_pos rfl <| Ev.if_pos rfl ?_
    rw [hs]
    refine one 0 a _ _ (by omega) (by omega) (by omega) <| one _ b _ _ (by omega) (by omega) (by omega) <| one _ c _ _ (by omega) (by omega) (by omega) ?_
    rw [show ((0 * 8 + a) * 8 + b) * 8 + c = a * 64 + b * 8 + c from by omega]
    exact e0
  unfold strconv_ParseUint.f
  exact Ev.bind e3 <| Ev.if_pos rfl <| Ev.now _

theorem esc_loop : ∀ (n : Nat) (l out : List Int), l.length ≤ n → (∀ c ∈ l, 0 ≤ c ∧ c ≤ 255) → out.length + 8 * l.length < 140737488355328 →
    Ev (fun k => pq_parseBytea.l0 k (escB l) out) (out ++ l, none) := by
  intro n
  induction n with
  | zero =>
    intro l out hn _ _
    obtain rfl : l = [] := List.length_eq_zero_iff.1 (by omega)
    exact Ev.to (by simp) (Ev.step (fun k => pq_parseBytea.l0.eq_2 _ _ _) <| Ev.if_neg (by simp [escB]) <| Ev.now _)
  | succ n ih =>
    intro l out hn hb hz
    cases l with
    | nil => exact Ev.to (by simp) (Ev.step (fun k => pq_parseBytea.l0.eq_2 _ _ _) <| Ev.if_neg (by simp [escB]) <| Ev.now _)
    | cons c t =>
      have hlen := escB_length (c :: t)
      have hcb := hb c (by simp)
      have htb : ∀ x ∈ t, 0 ≤ x ∧ x ≤ 255 := fun x hx => hb x (by simp [hx])
      simp only [List.length_cons] at hn hz hlen
      by_cases h92 : c = 92
      · -- a backslash, doubled
        subst h92
        have he : escB (92 :: t) = 92 :: 92 :: escB t := by rw [escB_cons]; rfl
        rw [he]
        have hl2 : (((92 :: 92 :: escB t).length : Nat) : Int) = (escB t).length + 2 := by simp; omega
        have hrec := ih t (out ++ [92]) (by omega) htb (by simp; omega)
        refine Ev.to (r := (out ++ [92] ++ t, none)) (by simp) (Ev.step (fun k => pq_parseBytea.l0.eq_2 _ _ _) <| Ev.if_pos (by omega) <| Ev.if_pos (by omega) <| Ev.if_pos rfl <| Ev.if_pos (by omega) <| Ev.if_pos (by omega) ?_)
        exact Ev.step (fun k => pq_parseBytea.j2.eq_2 _ _ _ _) <| Ev.if_pos rfl <| Ev.if_pos (by omega) <| Ev.if_pos (by omega) hrec
      · by_cases hp : isPlain c
        · -- a run of bytes that stand for themselves
          have hhead : ∃ r, escB (c :: t) = c :: r := ⟨escB t, by rw [escB_cons, esc1_plain hp]; rfl⟩
          obtain ⟨r0, hr0⟩ := hhead
          have hpos : 0 < (escB (c :: t)).length := by rw [hr0]; simp
          have hrd : rd (escB (c :: t)) 0 = c := by rw [hr0]; rfl
          have hbs : bytesOf (strOfNums (escB (c :: t))) = escB (c :: t) := bytesOf_strOfNums (escB_bytes hb)
          have hsz : (strOfNums (escB (c :: t))).size ≤ 2305843009213693952 := by rw [← bytesOf_length, hbs]; omega
          rcases split_at 92 (escB (c :: t)) with h | ⟨p, r, e, hpn⟩
          · have hn92 := escB_none _ h
            refine Ev.to (r := (out ++ escB (c :: t), none)) (by rw [hn92]) (Ev.step (fun k => pq_parseBytea.l0.eq_2 _ _ _) <| Ev.if_pos (by omega) <| Ev.if_pos (by omega) <| Ev.if_neg (by rw [hrd]; exact h92) <|
              Ev.bind (index_no (strOfNums (escB (c :: t))) (⟨#[92]⟩ : ByteArray) hsz 92 rfl (by rw [hbs]; exact h)) <| Ev.if_pos rfl <| Ev.if_pos (by omega) <| Ev.now _)
          · obtain ⟨l', hl', he'⟩ := escB_split p (c :: t) r e hpn
            have hp0 : 0 < p.length := by
              cases p with
              | nil => simp at e; rw [hr0] at e; simp at e; exact absurd e.1 h92
              | cons _ _ => simp
            have hle : (escB (c :: t)).length = p.length + r.length + 1 := by rw [e]; simp; omega
            have hl3 : t.length + 1 = p.length + l'.length := by have := congrArg List.length hl'; simpa using this
            have htake : (escB (c :: t)).take (p.length : Int).toNat = p := by rw [e]; simp
            have hdrop : (escB (c :: t)).drop (p.length : Int).toNat = escB l' := by rw [e, he']; simp
            have hrec := ih l' (out ++ p) (by omega) (fun x hx => hb x (by rw [hl']; simp [hx])) (by simp; omega)
            refine Ev.to (r := (out ++ p ++ l', none)) (by rw [hl']; simp) (Ev.step (fun k => pq_parseBytea.l0.eq_2 _ _ _) <| Ev.if_pos (by omega) <| Ev.if_pos (by omega) <| Ev.if_neg (by rw [hrd]; exact h92) <|
              Ev.bind (index_yes (strOfNums (escB (c :: t))) (⟨#[92]⟩ : ByteArray) hsz 92 rfl p r (by rw [hbs]; exact e) hpn) ?_)
            rw [htake, hdrop]
            exact Ev.if_neg (by omega) <| Ev.if_pos (by omega) <| Ev.if_pos (by omega) <| Ev.bind (Ev.now _) <| Ev.if_pos (by omega) hrec
        · -- three octal digits
          have he : escB (c :: t) = 92 :: (48 + c / 64) :: (48 + c / 8 % 8) :: (48 + c % 8) :: escB t := by
            rw [escB_cons, esc1, if_neg h92, if_neg hp]; rfl
          rw [he]
          have hl2 : (((92 :: (48 + c / 64) :: (48 + c / 8 % 8) :: (48 + c % 8) :: escB t).length : Nat) : Int) = (escB t).length + 4 := by simp; omega
          have hrec := ih t (out ++ [c]) (by omega) htb (by simp; omega)
          have hd3 : bytesOf (strOfNums [48 + c / 64, 48 + c / 8 % 8, 48 + c % 8]) = [48 + c / 64, 48 + c / 8 % 8, 48 + c % 8] := bytesOf_strOfNums (by intro x hx; simp at hx; omega)
          have hpu := parseOctal (c / 64) (c / 8 % 8) (c % 8) (by omega) (by omega) (by omega) _ hd3
          have hv : (c / 64 * 64 + c / 8 % 8 * 8 + c % 8) % 256 = c := by omega
          refine Ev.to (r := (out ++ [c] ++ t, none)) (by simp) (Ev.step (fun k => pq_parseBytea.l0.eq_2 _ _ _) <| Ev.if_pos (by omega) <| Ev.if_pos (by omega) <| Ev.if_pos rfl <| Ev.if_pos (by omega) <| Ev.if_pos (by omega) ?_)
          have hb2 : (rd (92 :: (48 + c / 64) :: (48 + c / 8 % 8) :: (48 + c % 8) :: escB t) 1 == 92) = false := by
            rw [beq_eq_false_iff_ne]
            show 48 + c / 64 ≠ 92
            omega
          rw [hb2]
          refine Ev.step (fun k => pq_parseBytea.j2.eq_2 _ _ _ _) <| Ev.if_neg (by simp) <| Ev.if_neg (by omega) <| Ev.if_pos (by omega) <| Ev.if_pos (by omega) <| Ev.bind hpu <| Ev.if_pos rfl <| Ev.if_pos (by omega) ?_
          rw [hv]
          exact hrec

/-- parseBytea of bytes in the escape format. -/
theorem parseEsc (l : List Int) (hb : ∀ c ∈ l, 0 ≤ c ∧ c ≤ 255) (hz : 8 * l.length < 140737488355328) : Ev (fun k => pq_parseBytea.f k (escB l)) (l, none) := by
  have hloop := esc_loop l.length l [] (Nat.le_refl _) hb (by simp; omega)
  have hj : Ev (fun k => pq_parseBytea.j0 k (escB l) [] false) (l, none) := Ev.to (by simp) (Ev.step (fun k => pq_parseBytea.j0.eq_2 _ _ _ _) <| Ev.if_neg (by simp) hloop)
  unfold pq_parseBytea.f
  by_cases h2 : ((escB l).length : Int) ≥ 2
  · have hx : ((strOfNums ((escB l).take 2)).toList == ([92, 120] : List UInt8)) = false := by
      rw [beq_eq_false_iff_ne]
      intro he
      have hbs : bytesOf (strOfNums ((escB l).take 2)) = (escB l).take 2 := bytesOf_strOfNums fun c hc => escB_bytes hb c (List.mem_of_mem_take hc)
      have h3 : bytesOf (strOfNums ((escB l).take 2)) = [92, 120] := by
        rw [ByteArray.toList_eq] at he
        unfold bytesOf; rw [he]; rfl
      rw [hbs] at h3
      cases l with
      | nil => simp [escB] at h2
      | cons c t =>
        have hcb := hb c (by simp)
        rw [escB_cons] at h3
        unfold esc1 at h3
        split at h3
        · simp at h3
        · split at h3
          · rename_i h92 _
            simp at h3
            exact h92 h3.1
          · simp at h3
            omega
    rw [hx]
    exact Ev.if_pos h2 <| Ev.if_pos h2 hj
  · exact Ev.if_neg h2 hj

end Go.Proofs.YthcikkjjegfblacDoor.Lib
