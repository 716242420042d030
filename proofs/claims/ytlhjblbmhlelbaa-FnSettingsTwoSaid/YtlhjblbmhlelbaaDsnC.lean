/- Runes and texts of ASCII; what fromDSN reads, as plain functions on lists. Conditions: named by each theorem. -/
import Derived.Test.YtlhjblbmhlelbaaDsnB
import Derived.Laws.Cover4
import Derived.Laws.RangeString
import Derived.Laws.IdiomStrings
namespace Go.Proofs.Ytlhjblbmhlelbaa.P
open Go.RowKit Go.Proofs.YtlhjblbmhlelbaaW.PrintWords Go.Proofs.YtlhjblbmhlelbaaW.PrintLast Go.Proofs.YtlhjblbmhlelbaaW.PrintMore
set_option linter.unusedVariables false
set_option linter.unusedSimpArgs false
/-- Signs of ASCII. -/
def Asc (l : List Int) : Prop := ∀ c ∈ l, 0 ≤ c ∧ c < 128
theorem encode_ascii (c : Int) (h0 : 0 ≤ c) (h1 : c < 128) : bytesOf (Utf8.encode c) = [c] := by
  obtain ⟨n, rfl⟩ := Int.eq_ofNat_of_zero_le h0
  have hn : n < 128 := by omega
  have hv : Utf8.valid (n : Int) = true := by unfold Utf8.valid; simp; omega
  unfold Utf8.encode
  simp only [hv, if_true, Int.toNat_natCast]
  rw [if_pos hn]
  simp [bytesOf]
  omega
theorem runesBytes_ascii (l : List Int) (h : Asc l) : runesBytes l = strOfNums l := by
  have key : ∀ (l : List Int) (s : ByteArray), Asc l → bytesOf (l.foldl (fun r n => r ++ Utf8.encode n) s) = bytesOf s ++ l := by
    intro l
    induction l with
    | nil => intro s _; simp
    | cons c t ih =>
      intro s h
      rw [List.foldl_cons, ih _ (fun x hx => h x (List.mem_cons_of_mem _ hx)), Lib.bytesOf_append, encode_ascii c (h c (by simp)).1 (h c (by simp)).2]
      simp
  apply Lib.bytesOf_inj
  have := key l ByteArray.empty h
  rw [Lib.bytesOf_strOfNums (fun c hc => by have := h c hc; omega)]
  show bytesOf (l.foldl _ _) = l
  rw [this]
  rfl
/-- 'string(runes)' of a row of the call's own. -/
theorem runes_string {P : Program} {w : World} {base : Nat} {e e' src dst : TypeId} {ok : Nat → Prop} {v : Value} {ks : List Int} (hs : P.underlying src = some (.slice e)) (he : P.underlying e = some (.int .i32)) (hd : P.underlying dst = some .string)
    (h : Kd.R (Kd.int .i32) e' w base ok v ks) (ha : Asc ks) : (convert src dst v).run P w = .ok (.string (strOfNums ks)) w := by
  have ho := Kd.own_of_R h
  have hl : ks.length = ks.length := rfl
  rcases ho.2 with ⟨rfl, h0⟩ | ⟨g, cap, cur, rfl, _⟩
  · obtain rfl : ks = [] := List.eq_nil_of_length_eq_zero h0
    exact run_convert_runes_nil w src dst e 0 0 hs he hd
  · have hc := run_convert_runes (P := P) w src dst e ⟨g, 0, none⟩ ks.length cap ks (Nat.le_refl _) hs he hd (fun j hj => by
      have := ho.cells (g := g) rfl j (.int .i32 (ks.getD j 0)) (by simp [encs, List.getElem?_eq_getElem hj, List.getD_eq_getElem?_getD])
      exact this)
    rw [List.take_length, runesBytes_ascii ks ha] at hc
    exact hc
theorem runesFrom_ascii (s : ByteArray) (h : Asc (bytesOf s)) : Conv.runesFrom s s.size 0 #[] = ((bytesOf s).map (Value.int .i32)).toArray := by
  have key : ∀ (n i : Nat) (acc : Array Value), i + n = s.size → Conv.runesFrom s n i acc = acc ++ (((bytesOf s).drop i).map (Value.int .i32)).toArray := by
    intro n
    induction n with
    | zero =>
      intro i acc hi
      have : (bytesOf s).drop i = [] := List.drop_eq_nil_of_le (by rw [bytesOf_length]; omega)
      rw [this]
      simp [Conv.runesFrom]
    | succ n ih =>
      intro i acc hi
      have hlt : i < s.size := by omega
      have hb : (bytesOf s)[i]? = some ((s[i]'hlt).toNat : Int) := by
        have hd : i < s.data.toList.length := by simpa using hlt
        simp only [bytesOf, List.getElem?_map, List.getElem?_eq_getElem hd, Option.map_some]
        rfl
      have ha : (s[i]'hlt).toNat < 128 := by have := h _ (List.mem_of_getElem? hb); omega
      unfold Conv.runesFrom
      rw [if_pos hlt]
      simp only [decode_ascii s i hlt ha]
      rw [ih (i + 1) _ (by omega)]
      have hdrop : (bytesOf s).drop i = ((s[i]'hlt).toNat : Int) :: (bytesOf s).drop (i + 1) := by
        rw [List.drop_eq_getElem_cons (by rw [bytesOf_length]; exact hlt)]
        congr 1
        rw [List.getElem?_eq_getElem (by rw [bytesOf_length]; exact hlt)] at hb
        injection hb
      rw [hdrop]
      apply Array.ext'
      simp
  have := key s.size 0 #[] (by omega)
  rw [this]
  simp
/-! ### what is read -/
def keyL : List Int → List Int × List Int
  | [] => ([], [])
  | c :: t => if spI c = true ∨ c = 61 then ([], c :: t) else (c :: (keyL t).1, (keyL t).2)
/-- A value without apostrophes: the value, and what is left behind the blank. -/
def uvalL : List Int → Option (List Int × List Int)
  | [] => some ([], [])
  | [c] => if spI c = true then some ([], []) else if c = 92 then none else some ([c], [])
  | c :: d :: t => if spI c = true then some ([], d :: t) else if c = 92 then (uvalL t).map (fun r => (d :: r.1, r.2)) else (uvalL (d :: t)).map (fun r => (c :: r.1, r.2))
/-- A value in apostrophes, behind the first one. -/
def qvalL : List Int → Option (List Int × List Int)
  | [] => none
  | [c] => if c = 39 then some ([], []) else none
  | c :: d :: t => if c = 39 then some ([], d :: t) else if c = 92 then (qvalL t).map (fun r => (d :: r.1, r.2)) else (qvalL (d :: t)).map (fun r => (c :: r.1, r.2))
/-- The list that stands at the equals sign, if one stands there. -/
def eqL (l : List Int) : List Int := if hd0 l = 61 then l else skipL l.tail
def valL (l : List Int) : Option (List Int × List Int) := if hd0 l = 39 then qvalL l.tail else uvalL l
/-- The settings in their order; none if it is refused. -/
def parseL : Nat → List Int → Option (List (List Int × List Int))
  | 0, _ => none
  | n + 1, l =>
    if ne (skipL l) = false then some []
    else if hd0 (eqL (keyL (skipL l)).2) = 61 then
      (if ne (skipL (eqL (keyL (skipL l)).2).tail) = false then some [((keyL (skipL l)).1, [])]
       else (valL (skipL (eqL (keyL (skipL l)).2).tail)).bind fun v => (parseL n v.2).map (fun r => ((keyL (skipL l)).1, v.1) :: r))
    else none
theorem skipL_sub : ∀ l : List Int, ∃ p, l = p ++ skipL l
  | [] => ⟨[], rfl⟩
  | c :: t => by
    unfold skipL
    split
    · obtain ⟨p, hp⟩ := skipL_sub t
      exact ⟨c :: p, by rw [List.cons_append, ← hp]⟩
    · exact ⟨[], rfl⟩
theorem skipL_len (l : List Int) : (skipL l).length ≤ l.length := by
  obtain ⟨p, hp⟩ := skipL_sub l
  have := congrArg List.length hp
  rw [List.length_append] at this
  omega
theorem skipL_asc {l : List Int} (h : Asc l) : Asc (skipL l) := by
  obtain ⟨p, hp⟩ := skipL_sub l
  intro c hc
  exact h c (by rw [hp]; exact List.mem_append_right _ hc)
theorem tail_asc {l : List Int} (h : Asc l) : Asc l.tail := fun c hc => h c (List.mem_of_mem_tail hc)
theorem keyL_sub : ∀ l : List Int, l = (keyL l).1 ++ (keyL l).2
  | [] => rfl
  | c :: t => by
    unfold keyL
    split
    · rfl
    · show c :: t = c :: ((keyL t).1 ++ (keyL t).2)
      rw [← keyL_sub t]
theorem keyL_asc {l : List Int} (h : Asc l) : Asc (keyL l).1 ∧ Asc (keyL l).2 :=
  ⟨fun c hc => h c (by rw [keyL_sub l]; exact List.mem_append_left _ hc), fun c hc => h c (by rw [keyL_sub l]; exact List.mem_append_right _ hc)⟩
theorem eqL_asc {l : List Int} (h : Asc l) : Asc (eqL l) := by
  unfold eqL
  split
  · exact h
  · exact skipL_asc (tail_asc h)
theorem eqL_len (l : List Int) : (eqL l).length ≤ l.length := by
  unfold eqL
  split
  · exact Nat.le_refl _
  · have := skipL_len l.tail
    rw [List.length_tail] at this
    omega
theorem uvalL_len : ∀ (n : Nat) (l : List Int) (r : List Int × List Int), l.length ≤ n → uvalL l = some r → r.1.length + r.2.length ≤ l.length
  | 0, l, r, hn, h => by
    have : l = [] := List.eq_nil_of_length_eq_zero (by omega)
    subst this
    simp [uvalL] at h
    subst h
    simp
  | n + 1, [], r, hn, h => by simp [uvalL] at h; subst h; simp
  | n + 1, [c], r, hn, h => by
    unfold uvalL at h
    split at h
    · simp at h; subst h; simp
    · split at h
      · cases h
      · simp at h; subst h; simp
  | n + 1, c :: d :: t, r, hn, h => by
    unfold uvalL at h
    simp only [List.length_cons] at hn
    split at h
    · simp at h; subst h; simp
    · split at h
      · obtain ⟨q, hq, rfl⟩ := Option.map_eq_some_iff.1 h
        have := uvalL_len n t q (by omega) hq
        simp; omega
      · obtain ⟨q, hq, rfl⟩ := Option.map_eq_some_iff.1 h
        have := uvalL_len n (d :: t) q (by simp; omega) hq
        simp at this ⊢; omega
theorem qvalL_len : ∀ (n : Nat) (l : List Int) (r : List Int × List Int), l.length ≤ n → qvalL l = some r → r.1.length + r.2.length ≤ l.length
  | 0, l, r, hn, h => by
    have : l = [] := List.eq_nil_of_length_eq_zero (by omega)
    subst this
    simp [qvalL] at h
  | n + 1, [], r, hn, h => by simp [qvalL] at h
  | n + 1, [c], r, hn, h => by
    unfold qvalL at h
    split at h
    · simp at h; subst h; simp
    · cases h
  | n + 1, c :: d :: t, r, hn, h => by
    unfold qvalL at h
    simp only [List.length_cons] at hn
    split at h
    · simp at h; subst h; simp
    · split at h
      · obtain ⟨q, hq, rfl⟩ := Option.map_eq_some_iff.1 h
        have := qvalL_len n t q (by omega) hq
        simp; omega
      · obtain ⟨q, hq, rfl⟩ := Option.map_eq_some_iff.1 h
        have := qvalL_len n (d :: t) q (by simp; omega) hq
        simp at this ⊢; omega
end Go.Proofs.Ytlhjblbmhlelbaa.P
