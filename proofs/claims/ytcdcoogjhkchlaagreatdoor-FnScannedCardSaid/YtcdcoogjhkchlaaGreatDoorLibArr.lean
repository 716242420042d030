/- Literals of arrays on lists of bytes: what the package's reading comes to (pm), what the reference's reading comes to (spGo), that they agree where the reference is sure (top), and that written literals are read (lit_good, rows_read). Conditions: named by each lemma. -/
import Derived.Below
namespace Go.Proofs.YtcdcoogjhkchlaaGreatDoor.Arr
set_option linter.unusedVariables false
set_option linter.unusedSimpArgs false
/-! plain machine -/
abbrev El := Option (List Int)
def scanEl (d : Int) : List Int → List Int × List Int
  | [] => ([], [])
  | c :: t => if c = d ∨ c = 125 then ([], c :: t) else (c :: (scanEl d t).1, (scanEl d t).2)
/-- what stands in quotes, behind the first one; what follows -/
def scanQ : List Int → Bool → List Int → Option (List Int × List Int)
  | [], _, _ => none
  | c :: t, true, acc => scanQ t false (acc ++ [c])
  | c :: t, false, acc => if c = 92 then scanQ t true acc else if c = 34 then some (acc, t) else scanQ t false (acc ++ [c])
theorem scanEl_le (d : Int) : ∀ l, (scanEl d l).2.length ≤ l.length
  | [] => Nat.le_refl _
  | c :: t => by
    have := scanEl_le d t
    unfold scanEl
    split
    · exact Nat.le_refl _
    · simp only [List.length_cons]; omega
theorem scanEl_app (d : Int) : ∀ l, (scanEl d l).1 ++ (scanEl d l).2 = l
  | [] => rfl
  | c :: t => by
    have := scanEl_app d t
    unfold scanEl
    split
    · rfl
    · simp only [List.cons_append, this]
theorem scanQ_le : ∀ (l : List Int) (b : Bool) (acc e t), scanQ l b acc = some (e, t) → t.length < l.length
  | [], b, acc, e, t, h => by unfold scanQ at h; cases h
  | c :: l, true, acc, e, t, h => by
    unfold scanQ at h
    have := scanQ_le l false _ e t h
    simp only [List.length_cons]; omega
  | c :: l, false, acc, e, t, h => by
    unfold scanQ at h
    split at h
    · have := scanQ_le l true _ e t h; simp only [List.length_cons]; omega
    · split at h
      · injection h with h; injection h with _ h; subst h; simp
      · have := scanQ_le l false _ e t h; simp only [List.length_cons]; omega
def nullW : List Int := [78, 85, 76, 76]
def elOf (e : List Int) : El := if e = nullW then none else some e
/-- where an element is to come (true), or what stands behind one (false) -/
def pm (d : Int) (n : Nat) (m : Bool) (r : List Int) (k : Nat) (D : List Int) (els : List El) : Option (List Int × List El) :=
  match m, r with
  | true, [] => none
  | true, c :: t =>
    if c = 123 then (if k = n then none else pm d n true t (k + 1) (D.set k 0) els)
    else if c = 34 then (match h : scanQ t false [] with
      | none => none
      | some p => have := scanQ_le t false [] p.1 p.2 h; pm d n false p.2 k D (els ++ [some p.1]))
    else if (scanEl d (c :: t)).2 = [] then none
    else if h : (scanEl d (c :: t)).1 = [] then none
    else
      have : (scanEl d (c :: t)).2.length < (c :: t).length := by
        have h2 := congrArg List.length (scanEl_app d (c :: t))
        have h3 : 0 < (scanEl d (c :: t)).1.length := List.length_pos_iff.mpr h
        rw [List.length_append] at h2; omega
      pm d n false (scanEl d (c :: t)).2 k D (els ++ [elOf (scanEl d (c :: t)).1])
  | false, [] => if k = 0 then (if ∀ x ∈ D, (els.length : Int) % x = 0 then some (D, els) else none) else none
  | false, c :: t =>
    if c = d ∧ 0 < k then pm d n true t k (D.set (k - 1) (D.getD (k - 1) 0 + 1)) els
    else if c = 125 ∧ 0 < k then pm d n false t (k - 1) (D.set (k - 1) (D.getD (k - 1) 0 + 1)) els
    else none
termination_by r.length
decreasing_by all_goals (simp_all; try omega)
section
variable {d : Int} {n k : Nat} {D : List Int} {els : List El} {t r : List Int} {c : Int}
theorem pm_open (hk : k < n) : pm d n true (123 :: t) k D els = pm d n true t (k + 1) (D.set k 0) els := by
  rw [pm]; rw [if_pos rfl, if_neg (by omega)]
theorem pm_del (hk : 0 < k) : pm d n false (d :: t) k D els = pm d n true t k (D.set (k - 1) (D.getD (k - 1) 0 + 1)) els := by
  rw [pm]; rw [if_pos ⟨rfl, hk⟩]
theorem pm_close (hd : d ≠ 125) (hk : 0 < k) : pm d n false (125 :: t) k D els = pm d n false t (k - 1) (D.set (k - 1) (D.getD (k - 1) 0 + 1)) els := by
  rw [pm]; rw [if_neg (by intro h; exact hd h.1.symm), if_pos ⟨rfl, hk⟩]
theorem pm_other (h1 : c ≠ d) (h2 : c ≠ 125) : pm d n false (c :: t) k D els = none := by
  rw [pm]; rw [if_neg (by intro h; exact h1 h.1), if_neg (by intro h; exact h2 h.1)]
theorem pm_zero : pm d n false (c :: t) 0 D els = none := by
  rw [pm]; rw [if_neg (by intro h; exact absurd h.2 (Nat.lt_irrefl 0)), if_neg (by intro h; exact absurd h.2 (Nat.lt_irrefl 0))]
theorem pm_end (hk : 0 < k) : pm d n false [] k D els = none := by
  rw [pm]; rw [if_neg (by omega)]
theorem pm_quote {e : List Int} (h : scanQ t false [] = some (e, r)) : pm d n true (34 :: t) k D els = pm d n false r k D (els ++ [some e]) := by
  rw [pm]; rw [if_neg (by decide), if_pos rfl]
  split
  · rename_i h'; rw [h] at h'; cases h'
  · rename_i p h'; rw [h] at h'; injection h' with h'; subst h'; rfl
theorem pm_quote_none (h : scanQ t false [] = none) : pm d n true (34 :: t) k D els = none := by
  rw [pm]; rw [if_neg (by decide), if_pos rfl]
  split
  · rfl
  · rename_i p h'; rw [h] at h'; cases h'
theorem pm_word (h1 : c ≠ 123) (h2 : c ≠ 34) (h3 : (scanEl d (c :: t)).2 ≠ []) (h4 : (scanEl d (c :: t)).1 ≠ []) : pm d n true (c :: t) k D els = pm d n false (scanEl d (c :: t)).2 k D (els ++ [elOf (scanEl d (c :: t)).1]) := by
  rw [pm]; rw [if_neg h1, if_neg h2, if_neg h3, dif_neg h4]
theorem pm_word_none (h1 : c ≠ 123) (h2 : c ≠ 34) (h3 : (scanEl d (c :: t)).2 = [] ∨ (scanEl d (c :: t)).1 = []) : pm d n true (c :: t) k D els = none := by
  rw [pm]; rw [if_neg h1, if_neg h2]
  rcases h3 with h3 | h3
  · rw [if_pos h3]
  · rw [dif_pos h3]; split <;> rfl
end
/-! the reference's reader, on lists -/
abbrev blankI (c : Int) : Prop := c = 32 ∨ (9 ≤ c ∧ c ≤ 13)
structure Rd where
  rest : List Int
  dims : List Int
  set : List Bool
  opn : Bool
  bad : Bool
  l : List El
abbrev stopC (c : Int) : Prop := c = 123 ∨ c = 34 ∨ c = 92 ∨ blankI c
/-- the prefix, what follows, whether it is open -/
def spScan (d : Int) : List Int → List Int × List Int × Bool
  | [] => ([], [], false)
  | c :: t => if c = d ∨ c = 125 then ([], c :: t, false) else if stopC c then ([], c :: t, true) else (c :: (spScan d t).1, (spScan d t).2.1, (spScan d t).2.2)
def upperI (l : List Int) : List Int := l.map fun c => if 97 ≤ c ∧ c ≤ 122 then c - 32 else c
def spWord (d : Int) (st : Rd) : Rd :=
  if (spScan d st.rest).2.2 = true then { st with rest := (spScan d st.rest).2.1, opn := true }
  else if (spScan d st.rest).1 ≠ nullW ∧ upperI (spScan d st.rest).1 = nullW then { st with rest := (spScan d st.rest).2.1, opn := true }
  else if (spScan d st.rest).1 = [] ∨ (spScan d st.rest).2.1 = [] then { st with rest := (spScan d st.rest).2.1, bad := true }
  else { st with rest := (spScan d st.rest).2.1, l := st.l ++ [elOf (spScan d st.rest).1] }
def spEl (d : Int) (st : Rd) : Rd :=
  match st.rest with
  | [] => spWord d st
  | c :: t => if c = 34 then (match scanQ t false [] with
      | none => { st with rest := [], bad := true }
      | some p => { st with rest := p.2, l := st.l ++ [some p.1], opn := (match p.2 with | [] => false | x :: _ => decide (x ≠ d ∧ x ≠ 125)) })
    else spWord d st
def spRefuse (st : Rd) : Rd := { st with opn := (match st.rest with | [] => false | c :: _ => decide (blankI c ∨ c = 123)), bad := true }
/-- a level (true), or what stands behind its bracket, or behind something between (false) -/
def spGo (d : Int) (n : Nat) : Nat → Bool → Nat → Int → Rd → Option Rd
  | 0, _, _, _, _ => none
  | fuel + 1, true, k, _, st =>
    match st.rest with
    | [] => some { st with opn := true }
    | c :: t => if c = 123 then (match t with
        | [] => spGo d n fuel false k 0 { st with rest := [] }
        | x :: _ => if x = 125 then some { st with rest := t, opn := true } else spGo d n fuel false k 0 { st with rest := t })
      else some { st with opn := true }
  | fuel + 1, false, k, many, st =>
    (if k + 1 < n then spGo d n fuel true (k + 1) 0 st else some (spEl d st)).bind fun st1 =>
      if st1.opn = true ∨ st1.bad = true then some st1
      else match st1.rest with
        | [] => some (spRefuse st1)
        | c :: t => if c = d then spGo d n fuel false k (many + 1) { st1 with rest := t }
          else if c = 125 then some { st1 with rest := t, opn := (st1.set.getD k false && decide (st1.dims.getD k 0 ≠ many + 1)), dims := st1.dims.set k (many + 1), set := st1.set.set k true }
          else some (spRefuse st1)
abbrev spLevel (d : Int) (n fuel k : Nat) (st : Rd) : Option Rd := spGo d n fuel true k 0 st
abbrev spLoop (d : Int) (n fuel k : Nat) (many : Int) (st : Rd) : Option Rd := spGo d n fuel false k many st
/-! what the two have in common -/
def prodN (f : Nat → Int) : Nat → Nat → Int
  | _, 0 => 1
  | k, m + 1 => f k * prodN f (k + 1) m
theorem prodN_congr {f g : Nat → Int} : ∀ (m k : Nat), (∀ j, k ≤ j → j < k + m → f j = g j) → prodN f k m = prodN g k m
  | 0, _, _ => rfl
  | m + 1, k, h => by
    unfold prodN
    rw [h k (by omega) (by omega), prodN_congr m (k + 1) (fun j a b => h j (by omega) (by omega))]
theorem getD_set {α : Type} (l : List α) (i j : Nat) (x z : α) (hi : i < l.length) : (l.set i x).getD j z = if i = j then x else l.getD j z := by
  simp only [List.getD_eq_getElem?_getD, List.getElem?_set]
  split
  · simp_all
  · rfl
theorem spScan_scan (d : Int) : ∀ l, (spScan d l).2.2 = false → (spScan d l).1 = (scanEl d l).1 ∧ (spScan d l).2.1 = (scanEl d l).2
  | [], _ => ⟨rfl, rfl⟩
  | c :: t, h => by
    unfold spScan at h ⊢
    unfold scanEl
    split
    · exact ⟨rfl, rfl⟩
    · rename_i h1
      rw [if_neg h1] at h
      split
      · rename_i h2; rw [if_pos h2] at h; cases h
      · rename_i h2
        rw [if_neg h2] at h
        have := spScan_scan d t h
        exact ⟨by rw [this.1], this.2⟩
theorem spScan_head (d : Int) {c : Int} {t : List Int} (h : (spScan d (c :: t)).2.2 = false) (h0 : (spScan d (c :: t)).1 ≠ []) : c ≠ 123 ∧ c ≠ 34 := by
  unfold spScan at h h0
  split at h
  · rename_i h1; rw [if_pos h1] at h0; exact absurd rfl h0
  · split at h
    · cases h
    · rename_i h2
      exact ⟨fun e => h2 (.inl e), fun e => h2 (.inr (.inl e))⟩
theorem spScan_head' (d : Int) {c : Int} {t : List Int} (hd : d ≠ 123) (hd2 : d ≠ 34) (h : (spScan d (c :: t)).2.2 = false) : c ≠ 123 ∧ c ≠ 34 := by
  unfold spScan at h
  split at h
  · rename_i h1
    rcases h1 with rfl | rfl
    · exact ⟨hd, hd2⟩
    · decide
  · split at h
    · cases h
    · rename_i h2
      exact ⟨fun e => h2 (.inl e), fun e => h2 (.inr (.inl e))⟩
section
variable (d : Int) (n : Nat) (hd : d ≠ 125) (hd1 : d ≠ 123) (hd2 : d ≠ 34)
include hd1 hd2
/-- one element -/
theorem word_same (st : Rd) (hb : st.bad = false) (ho : (spWord d st).opn = false) :
    ((spWord d st).bad = true → ∀ k D els, pm d n true st.rest k D els = none) ∧
    ((spWord d st).bad = false → ∃ e, (spWord d st).l = st.l ++ [e] ∧ (spWord d st).dims = st.dims ∧ (spWord d st).set = st.set ∧ ∀ k D els, pm d n true st.rest k D els = pm d n false (spWord d st).rest k D (els ++ [e])) := by
  unfold spWord at ho ⊢
  by_cases h1 : (spScan d st.rest).2.2 = true
  · rw [if_pos h1] at ho; cases ho
  rw [if_neg h1] at ho ⊢
  have h1' : (spScan d st.rest).2.2 = false := by simpa using h1
  have hs := spScan_scan d st.rest h1'
  by_cases h2 : (spScan d st.rest).1 ≠ nullW ∧ upperI (spScan d st.rest).1 = nullW
  · rw [if_pos h2] at ho; cases ho
  rw [if_neg h2] at ho ⊢
  by_cases h3 : (spScan d st.rest).1 = [] ∨ (spScan d st.rest).2.1 = []
  · rw [if_pos h3]
    refine ⟨fun _ k D els => ?_, fun h => by cases h⟩
    cases hr : st.rest with
    | nil => rw [pm]
    | cons c t =>
      rw [hr] at h1' h3 hs
      have hc := spScan_head' d hd1 hd2 h1'
      refine pm_word_none hc.1 hc.2 ?_
      rw [← hs.1, ← hs.2]
      exact h3.symm
  · rw [if_neg h3]
    refine ⟨(fun h => by rw [hb] at h; cases h), fun _ => ⟨_, rfl, rfl, rfl, fun k D els => ?_⟩⟩
    cases hr : st.rest with
    | nil => rw [hr] at h3; exact absurd (.inl rfl) h3
    | cons c t =>
      rw [hr] at h1' h3 hs
      have hc := spScan_head' d hd1 hd2 h1'
      rw [pm_word hc.1 hc.2 (by rw [← hs.2]; exact fun h => h3 (.inr h)) (by rw [← hs.1]; exact fun h => h3 (.inl h)), hs.1, hs.2]
theorem el_same (st : Rd) (hb : st.bad = false) (ho : (spEl d st).opn = false) :
    ((spEl d st).bad = true → ∀ k D els, pm d n true st.rest k D els = none) ∧
    ((spEl d st).bad = false → ∃ e, (spEl d st).l = st.l ++ [e] ∧ (spEl d st).dims = st.dims ∧ (spEl d st).set = st.set ∧ ∀ k D els, pm d n true st.rest k D els = pm d n false (spEl d st).rest k D (els ++ [e])) := by
  unfold spEl at ho ⊢
  cases hr : st.rest with
  | nil =>
    rw [hr] at ho
    have := word_same d n hd1 hd2 st hb ho
    rw [hr] at this
    exact this
  | cons c t =>
    rw [hr] at ho
    simp only at ho ⊢
    by_cases hc : c = 34
    · subst hc
      rw [if_pos rfl] at ho ⊢
      cases hq : scanQ t false [] with
      | none => exact ⟨fun _ k D els => pm_quote_none hq, fun h => by cases h⟩
      | some p => exact ⟨(fun h => by simp only at h; rw [hb] at h; cases h), fun _ => ⟨some p.1, rfl, rfl, rfl, fun k D els => pm_quote hq⟩⟩
    · rw [if_neg hc] at ho ⊢
      have := word_same d n hd1 hd2 st hb ho
      rw [hr] at this
      exact this
structure Fine (k : Nat) (st st' : Rd) (new : List El) : Prop where
  l : st'.l = st.l ++ new
  dl : st'.dims.length = n
  sl : st'.set.length = n
  low : ∀ j, j < k → st'.dims.getD j 0 = st.dims.getD j 0 ∧ st'.set.getD j false = st.set.getD j false
  kept : ∀ j, st.set.getD j false = true → st'.dims.getD j 0 = st.dims.getD j 0 ∧ st'.set.getD j false = true
  isset : ∀ j, k ≤ j → j < n → st'.set.getD j false = true
  pos : ∀ j, k ≤ j → j < n → 1 ≤ st'.dims.getD j 0
include hd in
theorem both (fuel : Nat) : (∀ (k : Nat) (st st' : Rd), spLevel d n fuel k st = some st' → st.opn = false → st.bad = false → k < n → st.dims.length = n → st.set.length = n → st'.opn = false →
      (st'.bad = true → ∀ D els, D.length = n → pm d n true st.rest k D els = none) ∧
      (st'.bad = false → ∃ new, Fine n k st st' new ∧ (new.length : Int) = prodN (fun j => st'.dims.getD j 0) k (n - k) ∧ ∀ D els, D.length = n → ∃ D', D'.length = n ∧ (∀ j, j < k → D'.getD j 0 = D.getD j 0) ∧ (∀ j, k ≤ j → j < n → D'.getD j 0 = st'.dims.getD j 0) ∧ pm d n true st.rest k D els = pm d n false st'.rest k D' (els ++ new))) ∧
    (∀ (k : Nat) (many : Int) (st st' : Rd), spLoop d n fuel k many st = some st' → st.opn = false → st.bad = false → k < n → st.dims.length = n → st.set.length = n → 0 ≤ many → (0 < many → ∀ j, k < j → j < n → st.set.getD j false = true) → st'.opn = false →
      (st'.bad = true → ∀ D els, D.length = n → D.getD k 0 = many → pm d n true st.rest (k + 1) D els = none) ∧
      (st'.bad = false → ∃ new, Fine n k st st' new ∧ (new.length : Int) = (st'.dims.getD k 0 - many) * prodN (fun j => st'.dims.getD j 0) (k + 1) (n - (k + 1)) ∧ many < st'.dims.getD k 0 ∧ ∀ D els, D.length = n → D.getD k 0 = many → ∃ D', D'.length = n ∧ (∀ j, j < k → D'.getD j 0 = D.getD j 0) ∧ (∀ j, k ≤ j → j < n → D'.getD j 0 = st'.dims.getD j 0) ∧ pm d n true st.rest (k + 1) D els = pm d n false st'.rest k D' (els ++ new))) := by
  induction fuel with
  | zero => exact ⟨(fun k st st' h => by rw [spLevel, spGo] at h; cases h), (fun k many st st' h => by rw [spLoop, spGo] at h; cases h)⟩
  | succ fuel ih =>
    obtain ⟨ihL, ihS⟩ := ih
    constructor
    · intro k st st' h ho hb hk hdl hsl ho'
      rw [spLevel, spGo] at h
      cases hr : st.rest with
      | nil => rw [hr] at h; simp only [Option.some.injEq] at h; subst h; cases ho'
      | cons c t =>
        rw [hr] at h
        simp only at h
        by_cases hc : c = 123
        case neg => rw [if_neg hc] at h; simp only [Option.some.injEq] at h; subst h; cases ho'
        subst hc
        rw [if_pos rfl] at h
        have hS : spLoop d n fuel k 0 { st with rest := t } = some st' := by
          cases t with
          | nil => exact h
          | cons x u =>
            simp only at h
            by_cases hx : x = 125
            · rw [if_pos hx] at h; simp only [Option.some.injEq] at h; subst h; cases ho'
            · rw [if_neg hx] at h; exact h
        obtain ⟨h1, h2⟩ := ihS k 0 { st with rest := t } st' hS ho hb hk hdl hsl (Int.le_refl 0) (fun h => absurd h (Int.lt_irrefl 0)) ho'
        have hset : ∀ D : List Int, D.length = n → (D.set k 0).length = n ∧ (D.set k 0).getD k 0 = 0 := fun D hD => ⟨by simpa using hD, by rw [getD_set _ _ _ _ _ (by omega), if_pos rfl]⟩
        refine ⟨fun hb' D els hD => ?_, fun hb' => ?_⟩
        · rw [pm_open hk]
          exact h1 hb' _ _ (hset D hD).1 (hset D hD).2
        · obtain ⟨new, hf, hn, hm, hp⟩ := h2 hb'
          refine ⟨new, ⟨hf.l, hf.dl, hf.sl, hf.low, hf.kept, hf.isset, hf.pos⟩, ?_, fun D els hD => ?_⟩
          · rw [hn, show n - k = (n - (k + 1)) + 1 by omega, prodN, Int.sub_zero]
          · obtain ⟨D', e1, e2, e3, e4⟩ := hp (D.set k 0) els (hset D hD).1 (hset D hD).2
            refine ⟨D', e1, fun j hj => ?_, e3, ?_⟩
            · rw [e2 j hj, getD_set _ _ _ _ _ (by omega), if_neg (by omega)]
            · rw [pm_open hk]; exact e4
    · intro k many st st' h ho hb hk hdl hsl hmany hset ho'
      rw [spLoop, spGo] at h
      obtain ⟨st1, hst1, h⟩ := Option.bind_eq_some_iff.mp h
      -- what the part did
      have key : st1.opn = false →
          (st1.bad = true → ∀ D els, D.length = n → pm d n true st.rest (k + 1) D els = none) ∧
          (st1.bad = false → ∃ new, Fine n (k + 1) st st1 new ∧ (new.length : Int) = prodN (fun j => st1.dims.getD j 0) (k + 1) (n - (k + 1)) ∧ ∀ D els, D.length = n → ∃ D', D'.length = n ∧ (∀ j, j < k + 1 → D'.getD j 0 = D.getD j 0) ∧ (∀ j, k + 1 ≤ j → j < n → D'.getD j 0 = st1.dims.getD j 0) ∧ pm d n true st.rest (k + 1) D els = pm d n false st1.rest (k + 1) D' (els ++ new)) := by
        intro ho1
        by_cases hkn : k + 1 < n
        · rw [if_pos hkn] at hst1
          exact ihL (k + 1) st st1 hst1 ho hb hkn hdl hsl ho1
        · rw [if_neg hkn] at hst1
          simp only [Option.some.injEq] at hst1
          subst hst1
          obtain ⟨h1, h2⟩ := el_same d n hd1 hd2 st hb ho1
          refine ⟨fun hb1 D els _ => h1 hb1 _ _ _, fun hb1 => ?_⟩
          obtain ⟨e, e1, e2, e3, e4⟩ := h2 hb1
          refine ⟨[e], ⟨e1, by rw [e2]; exact hdl, by rw [e3]; exact hsl, fun j _ => ⟨by rw [e2], by rw [e3]⟩, fun j hj => ⟨by rw [e2], by rw [e3]; exact hj⟩, fun j a b => absurd b (by omega), fun j a b => absurd b (by omega)⟩, ?_, fun D els hD => ⟨D, hD, fun _ _ => rfl, fun j a b => absurd b (by omega), e4 _ _ _⟩⟩
          rw [show n - (k + 1) = 0 by omega]
          rfl
      by_cases hx : st1.opn = true ∨ st1.bad = true
      · rw [if_pos hx] at h
        simp only [Option.some.injEq] at h
        subst h
        have hb1 : st1.bad = true := by rcases hx with hx | hx; · rw [ho'] at hx; cases hx
                                        · exact hx
        exact ⟨fun _ D els hD _ => (key ho').1 hb1 D els hD, fun hb' => by rw [hb1] at hb'; cases hb'⟩
      rw [if_neg hx] at h
      have ho1 : st1.opn = false := by simpa using fun e => hx (.inl e)
      have hb1 : st1.bad = false := by simpa using fun e => hx (.inr e)
      obtain ⟨new1, hf1, hn1, hp1⟩ := (key ho1).2 hb1
      cases hr : st1.rest with
      | nil =>
        rw [hr] at h hp1
        simp only [Option.some.injEq] at h
        subst h
        refine ⟨fun _ D els hD _ => ?_, fun hb' => by simp [spRefuse] at hb'⟩
        obtain ⟨D', e1, e2, e3, e4⟩ := hp1 D els hD
        rw [e4]
        exact pm_end (by omega)
      | cons c t =>
        rw [hr] at h hp1
        simp only at h
        by_cases hcd : c = d
        · subst hcd
          rw [if_pos rfl] at h
          obtain ⟨h1, h2⟩ := ihS k (many + 1) { st1 with rest := t } st' h ho1 hb1 hk hf1.dl hf1.sl (by omega) (fun _ j a b => hf1.isset j (by omega) b) ho'
          have step : ∀ D els, D.length = n → D.getD k 0 = many → ∃ D1, D1.length = n ∧ (∀ j, j < k → D1.getD j 0 = D.getD j 0) ∧ D1.getD k 0 = many + 1 ∧ pm c n true st.rest (k + 1) D els = pm c n true t (k + 1) D1 (els ++ new1) := by
            intro D els hD hDk
            obtain ⟨D', e1, e2, e3, e4⟩ := hp1 D els hD
            refine ⟨D'.set k (D'.getD k 0 + 1), by simpa using e1, fun j hj => ?_, ?_, ?_⟩
            · rw [getD_set _ _ _ _ _ (by omega), if_neg (by omega), e2 j (by omega)]
            · rw [getD_set _ _ _ _ _ (by omega), if_pos rfl, e2 k (by omega), hDk]
            · rw [e4, pm_del (by omega), Nat.add_sub_cancel]
          refine ⟨fun hb' D els hD hDk => ?_, fun hb' => ?_⟩
          · obtain ⟨D1, a1, a2, a3, a4⟩ := step D els hD hDk
            rw [a4]
            exact h1 hb' D1 _ a1 a3
          · obtain ⟨new2, hf2, hn2, hm2, hp2⟩ := h2 hb'
            have hP : prodN (fun j => st1.dims.getD j 0) (k + 1) (n - (k + 1)) = prodN (fun j => st'.dims.getD j 0) (k + 1) (n - (k + 1)) :=
              prodN_congr _ _ (fun j a b => ((hf2.kept j (hf1.isset j a (by omega))).1).symm)
            refine ⟨new1 ++ new2, ⟨by rw [hf2.l, hf1.l, List.append_assoc], hf2.dl, hf2.sl, fun j hj => ?_, fun j hj => ?_, hf2.isset, hf2.pos⟩, ?_, by omega, fun D els hD hDk => ?_⟩
            · exact ⟨(hf2.low j hj).1.trans (hf1.low j (by omega)).1, (hf2.low j hj).2.trans (hf1.low j (by omega)).2⟩
            · have a := hf1.kept j hj
              have b := hf2.kept j a.2
              exact ⟨b.1.trans a.1, b.2⟩
            · rw [List.length_append, Int.natCast_add, hn1, hn2, hP, Int.sub_mul, Int.sub_mul, Int.add_mul]; omega
            · obtain ⟨D1, a1, a2, a3, a4⟩ := step D els hD hDk
              obtain ⟨D', e1, e2, e3, e4⟩ := hp2 D1 (els ++ new1) a1 a3
              refine ⟨D', e1, fun j hj => (e2 j hj).trans (a2 j hj), e3, ?_⟩
              rw [a4, e4, List.append_assoc]
        · rw [if_neg hcd] at h
          by_cases hc : c = 125
          · subst hc
            rw [if_pos rfl] at h
            simp only [Option.some.injEq] at h
            subst h
            have hold : st1.set.getD k false = true → st1.dims.getD k 0 = many + 1 := by
              intro e
              simp only at ho'
              rw [e] at ho'
              simpa using ho'
            refine ⟨(fun hb' => by simp only at hb'; rw [hb1] at hb'; cases hb'), fun _ => ⟨new1, ⟨hf1.l, by simpa using hf1.dl, by simpa using hf1.sl, fun j hj => ?_, fun j hj => ?_, fun j a b => ?_, fun j a b => ?_⟩, ?_, ?_, fun D els hD hDk => ?_⟩⟩
            · simp only
              rw [getD_set _ _ _ _ _ (by rw [hf1.dl]; exact hk), if_neg (by omega), getD_set _ _ _ _ _ (by rw [hf1.sl]; exact hk), if_neg (by omega)]
              exact hf1.low j (by omega)
            · simp only
              rw [getD_set _ _ _ _ _ (by rw [hf1.dl]; exact hk), getD_set _ _ _ _ _ (by rw [hf1.sl]; exact hk)]
              have a := hf1.kept j hj
              by_cases e : k = j
              · subst e
                rw [if_pos rfl, if_pos rfl]
                exact ⟨by rw [← a.1, hold a.2], rfl⟩
              · rw [if_neg e, if_neg e]
                exact a
            · simp only
              rw [getD_set _ _ _ _ _ (by rw [hf1.sl]; exact hk)]
              by_cases e : k = j
              · rw [if_pos e]
              · rw [if_neg e]; exact hf1.isset j (by omega) b
            · simp only
              rw [getD_set _ _ _ _ _ (by rw [hf1.dl]; exact hk)]
              by_cases e : k = j
              · rw [if_pos e]; omega
              · rw [if_neg e]; exact hf1.pos j (by omega) b
            · simp only
              rw [hn1, getD_set _ _ _ _ _ (by rw [hf1.dl]; exact hk), if_pos rfl, show many + 1 - many = 1 by omega, Int.one_mul]
              refine prodN_congr _ _ (fun j a b => ?_)
              rw [getD_set _ _ _ _ _ (by rw [hf1.dl]; exact hk), if_neg (by omega)]
            · simp only
              rw [getD_set _ _ _ _ _ (by rw [hf1.dl]; exact hk), if_pos rfl]
              omega
            · obtain ⟨D', e1, e2, e3, e4⟩ := hp1 D els hD
              refine ⟨D'.set k (many + 1), by simpa using e1, fun j hj => ?_, fun j a b => ?_, ?_⟩
              · rw [getD_set _ _ _ _ _ (by omega), if_neg (by omega), e2 j (by omega)]
              · simp only
                rw [getD_set _ _ _ _ _ (by omega), getD_set _ _ _ _ _ (by rw [hf1.dl]; exact hk)]
                by_cases e : k = j
                · rw [if_pos e, if_pos e]
                · rw [if_neg e, if_neg e]; exact e3 j (by omega) b
              · rw [e4, pm_close hd (by omega), Nat.add_sub_cancel, e2 k (by omega), hDk]
          · rw [if_neg hc] at h
            simp only [Option.some.injEq] at h
            subst h
            refine ⟨fun _ D els hD _ => ?_, fun hb' => by simp [spRefuse] at hb'⟩
            obtain ⟨D', e1, e2, e3, e4⟩ := hp1 D els hD
            rw [e4]
            exact pm_other hcd hc
end
theorem prodN_dvd (f : Nat → Int) : ∀ (m k j : Nat), k ≤ j → j < k + m → ∃ q, prodN f k m = f j * q
  | 0, k, j, h, h' => absurd h' (by omega)
  | m + 1, k, j, h, h' => by
    unfold prodN
    by_cases e : k = j
    · subst e; exact ⟨_, rfl⟩
    · obtain ⟨q, hq⟩ := prodN_dvd f m (k + 1) j (by omega) (by omega)
      exact ⟨f k * q, by rw [hq, Int.mul_left_comm]⟩
theorem set_zero (n k : Nat) : (List.replicate n (0 : Int)).set k 0 = List.replicate n 0 := by
  apply List.ext_getElem?
  intro i
  rw [List.getElem?_set]
  split
  · rename_i h; subst h
    simp only [List.length_replicate, List.getElem?_replicate]
  · rfl
theorem pm_opens (d : Int) (n : Nat) (r : List Int) (els : List El) : ∀ m k, k + m = n → pm d n true (List.replicate m 123 ++ r) k (List.replicate n 0) els = pm d n true r n (List.replicate n 0) els
  | 0, k, h => by obtain rfl : k = n := by omega
                  rfl
  | m + 1, k, h => by
    rw [List.replicate_succ, List.cons_append, pm_open (by omega), set_zero]
    exact pm_opens d n r els m (k + 1) (by omega)
theorem ext_getD {a b : List Int} (hl : a.length = b.length) (h : ∀ j, j < a.length → a.getD j 0 = b.getD j 0) : a = b := by
  apply List.ext_getElem hl
  intro i h1 h2
  have := h i h1
  simpa [List.getD_eq_getElem?_getD, h1, h2] using this
/-- what the package tells of n brackets and what follows them, where the reference is sure -/
theorem top (d : Int) (n : Nat) (hd : d ≠ 125) (hd1 : d ≠ 123) (hd2 : d ≠ 34) (hn : 0 < n) (r : List Int) (fuel : Nat) (st' : Rd)
    (h : spLevel d n fuel 0 ⟨List.replicate n 123 ++ r, List.replicate n 0, List.replicate n false, false, false, []⟩ = some st') (ho : st'.opn = false) :
    pm d n true r n (List.replicate n 0) [] = if st'.bad = true ∨ st'.rest ≠ [] then none else some (st'.dims, st'.l) := by
  obtain ⟨h1, h2⟩ := (both d n hd hd1 hd2 fuel).1 0 _ st' h rfl rfl hn (by simp) (by simp) ho
  rw [← pm_opens d n r [] n 0 (by omega)]
  by_cases hb : st'.bad = true
  · rw [if_pos (.inl hb)]
    exact h1 hb _ _ (by simp)
  · have hb' : st'.bad = false := by simpa using hb
    obtain ⟨new, hf, hl, hp⟩ := h2 hb'
    obtain ⟨D', e1, e2, e3, e4⟩ := hp (List.replicate n 0) [] (by simp)
    simp only at e4
    rw [e4]
    have hD : D' = st'.dims := ext_getD (by rw [e1, hf.dl]) (fun j hj => e3 j (Nat.zero_le _) (by omega))
    have hnew : st'.l = new := by simpa using hf.l
    by_cases hr : st'.rest = []
    · rw [if_neg (by rintro (a | a); exact hb a; exact a hr), hr, pm, if_pos rfl, List.nil_append, if_pos, hD, hnew]
      intro x hx
      rw [hD] at hx
      obtain ⟨j, hj, rfl⟩ := List.getElem_of_mem hx
      rw [hf.dl] at hj
      obtain ⟨q, hq⟩ := prodN_dvd (fun j => st'.dims.getD j 0) (n - 0) 0 j (Nat.zero_le _) (by omega)
      rw [hl, hq]
      have e : st'.dims.getD j 0 = st'.dims[j]'(by rw [hf.dl]; exact hj) := by simp [List.getD_eq_getElem?_getD, hf.dl, hj]
      simp only [e]
      exact Int.mul_emod_right _ _
    · rw [if_pos (.inr hr)]
      cases hr' : st'.rest with
      | nil => exact absurd hr' hr
      | cons c t => exact pm_zero
/-! literals that are written -/
def joinR (d : Int) : List (List Int) → List Int
  | [] => []
  | [p] => p
  | p :: q :: t => p ++ d :: joinR d (q :: t)
/-- A text that is read as new, from depth k on; X: the dimensions from k on behind it. -/
def GoodAt (d : Int) (n k : Nat) (p : List Int) (new : List El) (X : Nat → Int) : Prop :=
  ∀ (c : Int) (rest D : List Int) (els : List El), c = d ∨ c = 125 → D.length = n → ∃ D', D'.length = n ∧ (∀ j, j < k → D'.getD j 0 = D.getD j 0) ∧ (∀ j, k ≤ j → j < n → D'.getD j 0 = X j) ∧ pm d n true (p ++ c :: rest) k D els = pm d n false (c :: rest) k D' (els ++ new)
/-- .. whatever follows. -/
def GoodEnd (d : Int) (n k : Nat) (p : List Int) (new : List El) (X : Nat → Int) : Prop :=
  ∀ (rest D : List Int) (els : List El), D.length = n → ∃ D', D'.length = n ∧ (∀ j, j < k → D'.getD j 0 = D.getD j 0) ∧ (∀ j, k ≤ j → j < n → D'.getD j 0 = X j) ∧ pm d n true (p ++ rest) k D els = pm d n false rest k D' (els ++ new)
theorem GoodEnd.at {d : Int} {n k : Nat} {p : List Int} {new : List El} {X : Nat → Int} (h : GoodEnd d n k p new X) : GoodAt d n k p new X := fun c rest D els _ hD => h (c :: rest) D els hD
structure Part where
  text : List Int
  new : List El
  X : Nat → Int
def lastX : List Part → Nat → Int
  | [] => fun _ => 0
  | [p] => p.X
  | _ :: q :: t => lastX (q :: t)
theorem row_aux (d : Int) (n k : Nat) (hd : d ≠ 125) (hk : k < n) : ∀ (ps : List Part), ps ≠ [] → (∀ p ∈ ps, GoodAt d n (k + 1) p.text p.new p.X) → ∀ (m : Int) (rest D : List Int) (els : List El), D.length = n → D.getD k 0 = m →
    ∃ D', D'.length = n ∧ (∀ j, j < k → D'.getD j 0 = D.getD j 0) ∧ D'.getD k 0 = m + ps.length ∧ (∀ j, k < j → j < n → D'.getD j 0 = lastX ps j) ∧ pm d n true (joinR d (ps.map (·.text)) ++ 125 :: rest) (k + 1) D els = pm d n false rest k D' (els ++ (ps.map (·.new)).flatten)
  | [], h, _ => absurd rfl h
  | [p], _, hp => fun m rest D els hD hm => by
    obtain ⟨D1, e1, e2, e3, e4⟩ := hp p (by simp) 125 rest D els (.inr rfl) hD
    refine ⟨D1.set k (m + 1), by simpa using e1, fun j hj => ?_, ?_, fun j a b => ?_, ?_⟩
    · rw [getD_set _ _ _ _ _ (by omega), if_neg (by omega), e2 j (by omega)]
    · rw [getD_set _ _ _ _ _ (by omega), if_pos rfl]; rfl
    · rw [getD_set _ _ _ _ _ (by omega), if_neg (by omega)]; exact e3 j (by omega) b
    · show pm d n true (p.text ++ 125 :: rest) (k + 1) D els = _
      rw [e4, pm_close hd (by omega), Nat.add_sub_cancel, e2 k (by omega), hm]
      simp
  | p :: q :: t, _, hp => fun m rest D els hD hm => by
    obtain ⟨D1, e1, e2, e3, e4⟩ := hp p (by simp) d (joinR d ((q :: t).map (·.text)) ++ 125 :: rest) D els (.inl rfl) hD
    obtain ⟨D2, f1, f2, f3, f4, f5⟩ := row_aux d n k hd hk (q :: t) (by simp) (fun x hx => hp x (List.mem_cons_of_mem _ hx)) (m + 1) rest (D1.set k (m + 1)) (els ++ p.new) (by simpa using e1) (by rw [getD_set _ _ _ _ _ (by omega), if_pos rfl])
    refine ⟨D2, f1, fun j hj => ?_, ?_, f4, ?_⟩
    · rw [f2 j hj, getD_set _ _ _ _ _ (by omega), if_neg (by omega), e2 j (by omega)]
    · rw [f3]; simp only [List.length_cons, Int.natCast_add]; omega
    · have e : joinR d ((p :: q :: t).map (·.text)) ++ 125 :: rest = p.text ++ d :: (joinR d ((q :: t).map (·.text)) ++ 125 :: rest) := by
        simp [joinR]
      rw [e, e4, pm_del (by omega), Nat.add_sub_cancel, e2 k (by omega), hm, f5]
      simp
theorem row_good (d : Int) (n k : Nat) (hd : d ≠ 125) (hk : k < n) (ps : List Part) (h0 : ps ≠ []) (hp : ∀ p ∈ ps, GoodAt d n (k + 1) p.text p.new p.X) :
    GoodEnd d n k (123 :: (joinR d (ps.map (·.text)) ++ [125])) (ps.map (·.new)).flatten (fun j => if j = k then (ps.length : Int) else lastX ps j) := by
  intro rest D els hD
  obtain ⟨D', e1, e2, e3, e4, e5⟩ := row_aux d n k hd hk ps h0 hp 0 rest (D.set k 0) els (by simpa using hD) (by rw [getD_set _ _ _ _ _ (by omega), if_pos rfl])
  refine ⟨D', e1, fun j hj => ?_, fun j a b => ?_, ?_⟩
  · rw [e2 j hj, getD_set _ _ _ _ _ (by omega), if_neg (by omega)]
  · by_cases e : j = k
    · subst e; simp only [if_true]; omega
    · simp only [if_neg e]; exact e4 j (by omega) b
  · rw [List.cons_append, pm_open hk, List.append_assoc]
    exact e5
/-! the elements -/
def escB (l : List Int) : List Int := l.flatMap fun c => if c = 34 ∨ c = 92 then [92, c] else [c]
theorem scanQ_esc : ∀ (l acc rest : List Int), scanQ (escB l ++ 34 :: rest) false acc = some (acc ++ l, rest)
  | [], acc, rest => by simp [escB, scanQ]
  | c :: l, acc, rest => by
    have ih := scanQ_esc l (acc ++ [c]) rest
    rw [List.append_assoc] at ih
    unfold escB at ih ⊢
    rw [List.flatMap_cons, List.append_assoc]
    by_cases h : c = 34 ∨ c = 92
    · rw [if_pos h]
      show scanQ (92 :: c :: _) false acc = _
      rw [scanQ, if_pos rfl, scanQ]
      exact ih
    · rw [if_neg h]
      show scanQ (c :: _) false acc = _
      rw [scanQ, if_neg (fun e => h (.inr e)), if_neg (fun e => h (.inl e))]
      exact ih
theorem quoted_good (d : Int) (n k : Nat) (l : List Int) (X : Nat → Int) (hk : n ≤ k) : GoodAt d n k (34 :: (escB l ++ [34])) [some l] X := by
  intro c rest D els _ hD
  refine ⟨D, hD, fun _ _ => rfl, fun j a b => absurd b (by omega), ?_⟩
  rw [List.cons_append, List.append_assoc]
  exact pm_quote (scanQ_esc l [] (c :: rest))
theorem scanEl_word (d c : Int) (hc : c = d ∨ c = 125) (rest : List Int) : ∀ (w : List Int), (∀ x ∈ w, x ≠ d ∧ x ≠ 125) → scanEl d (w ++ c :: rest) = (w, c :: rest)
  | [], _ => by show scanEl d (c :: rest) = _; rw [scanEl, if_pos hc]
  | x :: w, h => by
    have hx := h x (by simp)
    show scanEl d (x :: (w ++ c :: rest)) = _
    rw [scanEl, if_neg (by rintro (a | a); exact hx.1 a; exact hx.2 a), scanEl_word d c hc rest w (fun y hy => h y (List.mem_cons_of_mem _ hy))]
theorem word_good (d : Int) (n k : Nat) (w : List Int) (X : Nat → Int) (hk : n ≤ k) (h0 : w ≠ []) (h : ∀ x ∈ w, x ≠ d ∧ x ≠ 125) (hh : ∀ x, w.head? = some x → x ≠ 123 ∧ x ≠ 34) : GoodAt d n k w [elOf w] X := by
  intro c rest D els hc hD
  refine ⟨D, hD, fun _ _ => rfl, fun j a b => absurd b (by omega), ?_⟩
  cases hw : w with
  | nil => exact absurd hw h0
  | cons x t =>
    have hx := hh x (by rw [hw]; rfl)
    have hs := scanEl_word d c hc rest w h
    rw [hw] at hs
    rw [List.cons_append] at hs ⊢
    rw [pm_word hx.1 hx.2 (by rw [hs]; simp) (by rw [hs]; simp), hs]
/-- a literal of dimensions -/
def litL (d : Int) : List Nat → List (List Int) → List Int
  | [], _ => [123, 125]
  | [a], l => 123 :: (joinR d (l.take a) ++ [125])
  | a :: b :: ds, l => 123 :: (joinR d ((List.range a).map fun i => litL d (b :: ds) ((l.drop (i * (l.length / a))).take (l.length / a))) ++ [125])
def prodL (ds : List Nat) : Nat := ds.foldr (· * ·) 1
theorem flatten_chunks {α : Type} (p : Nat) : ∀ (a : Nat) (l : List α), l.length = a * p → ((List.range a).map fun i => (l.drop (i * p)).take p).flatten = l
  | 0, l, h => by
    have : l = [] := List.eq_nil_of_length_eq_zero (by omega)
    simp [this]
  | a + 1, l, h => by
    rw [List.range_succ_eq_map, List.map_cons, List.map_map, List.flatten_cons, Nat.zero_mul, List.drop_zero]
    have ih := flatten_chunks p a (l.drop p) (by rw [List.length_drop, h, Nat.succ_mul]; omega)
    have e : (List.range a).map ((fun i => (l.drop (i * p)).take p) ∘ Nat.succ) = (List.range a).map fun i => ((l.drop p).drop (i * p)).take p := by
      refine List.map_congr_left fun i _ => ?_
      simp only [Function.comp, List.drop_drop]
      rw [Nat.succ_mul, Nat.add_comm]
    rw [e, ih, List.take_append_drop]
/-- texts with what they say, each good for an element -/
def Texts (d : Int) (n : Nat) (l : List (List Int)) (es : List El) : Prop := l.length = es.length ∧ ∀ (i : Nat) (t : List Int) (e : El), l[i]? = some t → es[i]? = some e → GoodAt d n n t [e] (fun _ => 0)
theorem Texts.part {d : Int} {n : Nat} {l : List (List Int)} {es : List El} (h : Texts d n l es) (i p : Nat) : Texts d n ((l.drop i).take p) ((es.drop i).take p) := by
  refine ⟨by simp [h.1], fun j t e h1 h2 => ?_⟩
  rw [List.getElem?_take] at h1 h2
  split at h1
  · rw [if_pos ‹_›] at h2
    rw [List.getElem?_drop] at h1 h2
    exact h.2 _ t e h1 h2
  · cases h1
theorem lastX_const (X : Nat → Int) : ∀ (ps : List Part), ps ≠ [] → (∀ p ∈ ps, p.X = X) → lastX ps = X
  | [], h, _ => absurd rfl h
  | [p], _, h => h p (by simp)
  | p :: q :: t, _, h => lastX_const X (q :: t) (by simp) (fun x hx => h x (List.mem_cons_of_mem _ hx))
theorem flat_one {α : Type} : ∀ es : List α, (es.map fun e => [e]).flatten = es
  | [] => rfl
  | x :: t => by rw [List.map_cons, List.flatten_cons, flat_one t]; rfl
theorem lit_good (d : Int) (n : Nat) (hd : d ≠ 125) : ∀ (ds : List Nat) (k : Nat) (l : List (List Int)) (es : List El), ds ≠ [] → k + ds.length = n → (∀ a ∈ ds, 1 ≤ a) → l.length = prodL ds → Texts d n l es →
    GoodEnd d n k (litL d ds l) es (fun j => ((ds.getD (j - k) 0 : Nat) : Int))
  | [], _, _, _, h, _, _, _, _ => absurd rfl h
  | [a], k, l, es, _, hk, ha, hl, ht => by
    have hl' : l.length = a := by simpa [prodL] using hl
    have hn : n = k + 1 := by simpa using hk.symm
    let ps : List Part := (l.zip es).map fun x => ⟨x.1, [x.2], fun _ => 0⟩
    have hps : ps.length = a := by simp [ps, ← ht.1, hl']
    have e1 : ps.map (·.text) = l := by
      simp only [ps, List.map_map]
      show (l.zip es).map Prod.fst = l
      exact List.map_fst_zip (by rw [ht.1]; exact Nat.le_refl _)
    have e2 : (ps.map (·.new)).flatten = es := by
      simp only [ps, List.map_map]
      have : ((l.zip es).map ((fun x : Part => x.new) ∘ fun x => (⟨x.1, [x.2], fun _ => 0⟩ : Part))) = (l.zip es).map fun x => [x.2] := rfl
      rw [this]
      have e3 : (l.zip es).map (fun x => [x.2]) = es.map fun e => [e] := by
        have h4 : (l.zip es).map Prod.snd = es := List.map_snd_zip (by rw [ht.1]; exact Nat.le_refl _)
        conv => rhs; rw [← h4, List.map_map]
        rfl
      rw [e3]
      exact flat_one es
    have hgood : ∀ p ∈ ps, GoodAt d n (k + 1) p.text p.new p.X := by
      intro p hp
      obtain ⟨i, hi, rfl⟩ := List.getElem_of_mem hp
      simp only [ps, List.getElem_map, List.getElem_zip]
      simp only [ps, List.length_map, List.length_zip] at hi
      rw [hn] at ht ⊢
      exact ht.2 i _ _ (List.getElem?_eq_getElem (by omega)) (List.getElem?_eq_getElem (by omega))
    have ha1 : 1 ≤ a := ha a (by simp)
    have g := row_good d n k hd (by omega) ps (by intro e; rw [e] at hps; simp at hps; omega) hgood
    rw [e1, e2, hps] at g
    have e4 : l.take a = l := List.take_of_length_le (by omega)
    intro rest D els hD
    obtain ⟨D', f1, f2, f3, f4⟩ := g rest D els hD
    refine ⟨D', f1, f2, fun j x y => ?_, by rw [litL, e4]; exact f4⟩
    obtain rfl : j = k := by omega
    rw [f3 j x y]; simp
  | a :: b :: ds, k, l, es, _, hk, ha, hl, ht => by
    have ha1 : 1 ≤ a := ha a (by simp)
    have hl' : l.length = a * prodL (b :: ds) := hl
    have hp : l.length / a = prodL (b :: ds) := by rw [hl', Nat.mul_comm]; exact Nat.mul_div_cancel _ (by omega)
    let X : Nat → Int := fun j => (((b :: ds).getD (j - (k + 1)) 0 : Nat) : Int)
    let P := prodL (b :: ds)
    let ps : List Part := (List.range a).map fun i => ⟨litL d (b :: ds) ((l.drop (i * P)).take P), (es.drop (i * P)).take P, X⟩
    have hps : ps.length = a := by simp [ps]
    have e1 : ps.map (·.text) = (List.range a).map fun i => litL d (b :: ds) ((l.drop (i * P)).take P) := by simp only [ps, List.map_map]; rfl
    have e2 : (ps.map (·.new)).flatten = es := by
      simp only [ps, List.map_map]
      exact flatten_chunks P a es (by rw [← ht.1]; exact hl')
    have hgood : ∀ p ∈ ps, GoodAt d n (k + 1) p.text p.new p.X := by
      intro p hp'
      simp only [ps, List.mem_map, List.mem_range] at hp'
      obtain ⟨i, hi, rfl⟩ := hp'
      have hle : i * P + P ≤ l.length := by
        rw [hl', ← Nat.succ_mul]
        exact Nat.mul_le_mul_right _ (by omega)
      refine (lit_good d n hd (b :: ds) (k + 1) _ _ (by simp) (by simp at hk ⊢; omega) (fun x hx => ha x (List.mem_cons_of_mem _ hx)) ?_ (ht.part (i * P) P)).at
      rw [List.length_take, List.length_drop]
      omega
    have hne : ps ≠ [] := by intro e; rw [e] at hps; simp at hps; omega
    have g := row_good d n k hd (by simp at hk; omega) ps hne hgood
    rw [e1, e2, hps, lastX_const X ps hne (fun p hp' => by simp only [ps, List.mem_map] at hp'; obtain ⟨i, _, rfl⟩ := hp'; rfl)] at g
    intro rest D els hD
    obtain ⟨D', f1, f2, f3, f4⟩ := g rest D els hD
    refine ⟨D', f1, f2, fun j x y => ?_, by rw [litL, hp]; exact f4⟩
    rw [f3 j x y]
    by_cases e : j = k
    · subst e; simp
    · simp only [if_neg e]
      show (((b :: ds).getD (j - (k + 1)) 0 : Nat) : Int) = _
      rw [show j - k = (j - (k + 1)) + 1 by omega]
      rfl
/-- two levels, each row by itself -/
theorem rows_read (d : Int) (hd : d ≠ 125) (rows : List (List (List Int) × List El)) (h0 : rows ≠ []) (h : ∀ x ∈ rows, x.1 ≠ [] ∧ Texts d 2 x.1 x.2) (els : List El) :
    ∃ z : Nat, (∃ x, rows.getLast? = some x ∧ z = x.1.length) ∧
      pm d 2 true (123 :: (joinR d (rows.map fun x => litL d [x.1.length] x.1) ++ [125])) 0 [0, 0] els = pm d 2 false [] 0 [(rows.length : Int), (z : Int)] (els ++ (rows.map (·.2)).flatten) := by
  let ps : List Part := rows.map fun x => ⟨litL d [x.1.length] x.1, x.2, fun j => (([x.1.length].getD (j - 1) 0 : Nat) : Int)⟩
  have hps : ps.length = rows.length := by simp [ps]
  have e1 : ps.map (·.text) = rows.map fun x => litL d [x.1.length] x.1 := by simp only [ps, List.map_map]; rfl
  have e2 : ps.map (·.new) = rows.map (·.2) := by simp only [ps, List.map_map]; rfl
  have hg : ∀ p ∈ ps, GoodAt d 2 1 p.text p.new p.X := by
    intro p hp
    simp only [ps, List.mem_map] at hp
    obtain ⟨x, hx, rfl⟩ := hp
    have hx' := h x hx
    refine (lit_good d 2 hd [x.1.length] 1 x.1 x.2 (by simp) rfl (fun a ha => ?_) (by simp [prodL]) hx'.2).at
    simp only [List.mem_singleton] at ha
    subst ha
    exact List.length_pos_iff.mpr hx'.1
  have hne : ps ≠ [] := by intro e; rw [e] at hps; exact h0 (List.eq_nil_of_length_eq_zero hps.symm)
  obtain ⟨D', f1, f2, f3, f4⟩ := row_good d 2 0 hd (by omega) ps hne hg [] [0, 0] els rfl
  rw [e1, e2, List.append_nil] at f4
  have hlast : ∀ (rows : List (List (List Int) × List El)), rows ≠ [] → ∃ x, rows.getLast? = some x ∧ lastX (rows.map fun x => (⟨litL d [x.1.length] x.1, x.2, fun j => (([x.1.length].getD (j - 1) 0 : Nat) : Int)⟩ : Part)) 1 = (x.1.length : Int) := by
    intro rows
    induction rows with
    | nil => intro h; exact absurd rfl h
    | cons x t ih =>
      intro _
      cases t with
      | nil => exact ⟨x, rfl, rfl⟩
      | cons y u =>
        obtain ⟨z, h1, h2⟩ := ih (by simp)
        exact ⟨z, by rw [List.getLast?_cons_cons]; exact h1, h2⟩
  obtain ⟨x, hx, hl⟩ := hlast rows h0
  refine ⟨x.1.length, ⟨x, hx, rfl⟩, ?_⟩
  rw [f4]
  congr 1
  refine ext_getD (by rw [f1]; rfl) (fun j hj => ?_)
  rw [f1] at hj
  rw [f3 j (Nat.zero_le _) hj]
  rcases (show j = 0 ∨ j = 1 by omega) with rfl | rfl
  · simp [hps]
  · simp only [Nat.one_ne_zero, if_false]
    exact hl
/-! the reference's reader ends -/
theorem spScan_le (d : Int) : ∀ l, (spScan d l).2.1.length ≤ l.length
  | [] => Nat.le_refl _
  | c :: t => by
    have := spScan_le d t
    unfold spScan
    split
    · exact Nat.le_refl _
    · split
      · exact Nat.le_refl _
      · simp only [List.length_cons]; omega
theorem spWord_le (d : Int) (st : Rd) : (spWord d st).rest.length ≤ st.rest.length := by
  have := spScan_le d st.rest
  unfold spWord
  split
  · exact this
  · split
    · exact this
    · split <;> exact this
theorem spEl_le (d : Int) (st : Rd) : (spEl d st).rest.length ≤ st.rest.length := by
  unfold spEl
  split
  · exact spWord_le d st
  · rename_i c t hr
    split
    · split
      · simp
      · rename_i p hp
        have := scanQ_le t false [] p.1 p.2 hp
        simp only [hr, List.length_cons]; omega
    · exact spWord_le d st
theorem spGo_ends (d : Int) (n : Nat) : ∀ (fuel : Nat) (m : Bool) (k : Nat) (many : Int) (st : Rd), 2 * st.rest.length + (if m = true then 1 else 2) ≤ fuel → ∃ st', spGo d n fuel m k many st = some st' ∧ st'.rest.length ≤ st.rest.length := by
  intro fuel
  induction fuel with
  | zero => intro m k many st h; cases m <;> simp at h
  | succ fuel ih =>
    intro m k many st h
    cases m with
    | true =>
      simp only [if_true] at h
      rw [spGo]
      cases hr : st.rest with
      | nil => exact ⟨_, rfl, by simp [hr]⟩
      | cons c t =>
        rw [hr] at h
        simp only [List.length_cons] at h ⊢
        by_cases hc : c = 123
        · rw [if_pos hc]
          cases t with
          | nil =>
            obtain ⟨st', h1, h2⟩ := ih false k 0 { st with rest := [] } (by simp at h ⊢; omega)
            exact ⟨st', h1, by simp at h2; simp [h2]⟩
          | cons x u =>
            simp only
            by_cases hx : x = 125
            · rw [if_pos hx]; exact ⟨_, rfl, by simp⟩
            · rw [if_neg hx]
              obtain ⟨st', h1, h2⟩ := ih false k 0 { st with rest := x :: u } (by simp at h ⊢; omega)
              exact ⟨st', h1, by simp at h2 ⊢; omega⟩
        · rw [if_neg hc]
          exact ⟨_, rfl, by simp [hr]⟩
    | false =>
      simp only [Bool.false_eq_true, if_false] at h
      rw [spGo]
      have h1 : ∃ st1, (if k + 1 < n then spGo d n fuel true (k + 1) 0 st else some (spEl d st)) = some st1 ∧ st1.rest.length ≤ st.rest.length := by
        by_cases hk : k + 1 < n
        · rw [if_pos hk]; exact ih true (k + 1) 0 st (by simp only [if_true]; omega)
        · rw [if_neg hk]; exact ⟨_, rfl, spEl_le d st⟩
      obtain ⟨st1, e1, l1⟩ := h1
      rw [e1]
      simp only [Option.bind_some]
      by_cases hx : st1.opn = true ∨ st1.bad = true
      · rw [if_pos hx]; exact ⟨_, rfl, l1⟩
      · rw [if_neg hx]
        cases hr : st1.rest with
        | nil => exact ⟨_, rfl, by simp [spRefuse, hr]⟩
        | cons c t =>
          rw [hr] at l1
          simp only [List.length_cons] at l1
          simp only
          by_cases hc : c = d
          · rw [if_pos hc]
            obtain ⟨st', h1, h2⟩ := ih false k (many + 1) { st1 with rest := t } (by simp only [Bool.false_eq_true, if_false]; omega)
            exact ⟨st', h1, by simp at h2; omega⟩
          · rw [if_neg hc]
            by_cases hc2 : c = 125
            · rw [if_pos hc2]; exact ⟨_, rfl, by simp only; omega⟩
            · rw [if_neg hc2]; exact ⟨_, rfl, by simp [spRefuse, hr]; omega⟩
end Go.Proofs.YtcdcoogjhkchlaaGreatDoor.Arr
