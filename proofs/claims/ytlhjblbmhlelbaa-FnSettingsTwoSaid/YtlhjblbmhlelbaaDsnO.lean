/- spec.Settings: what its walk keeps. Conditions: named by each theorem. -/
import Derived.Test.YtlhjblbmhlelbaaDsnN
namespace Go.Proofs.Ytlhjblbmhlelbaa.P
open Go.RowKit Go.Proofs.YtlhjblbmhlelbaaW.PrintWords Go.Proofs.YtlhjblbmhlelbaaW.PrintLast Go.Proofs.YtlhjblbmhlelbaaW.PrintMore Go.Proofs.Ytlhjblbmhlelbaa.Lib
set_option linter.unusedVariables false
set_option linter.unusedSimpArgs false
theorem RowS.keep {B : Nat} {v : Value} {xs : List Se} {W W1 : World} (h : RowS B v xs W) {g : Nat} {cells : Array Value} (hb : W.heap[g]? = some (.cells cells 38 (0, 0))) (hk : KeepBut W W1 g none) : RowS B v xs W1 :=
  Kd.R_mono (Kd.R_keep (Kd.R_types h hb (by decide)) hk (fun _ h => h.2)) (fun _ h => h.1)
theorem RowS.set {B : Nat} {v : Value} {xs : List Se} {W : World} (h : RowS B v xs W) {g : Nat} {cells : Array Value} (hb : W.heap[g]? = some (.cells cells 38 (0, 0))) (j : Nat) (u : Value) : RowS B v xs (W.setCell ⟨g, j, none⟩ u) :=
  Kd.R_set h hb (by decide) j u
/-- The reader stands ahead of l; v is the row of the settings xs. -/
structure SI (w W : World) (g : Nat) (a : ByteArray) (l : List Int) (i : Int) (v : Value) (xs : List Se) : Prop where
  at_ : At (bytesOf a) i l
  st : IsS38 w W g a i
  row : RowS w.heap.size v xs W
  bl : Below w.heap.size w W
section
variable {w W : World} {g : Nat} {a : ByteArray} {l : List Int} {i : Int} {v : Value} {xs : List Se}
theorem SI.drewN (h : SI w W g a l i v xs) (n : Nat) : SI w (W.drewN n) g a l i v xs := ⟨h.at_, h.st.drewN n, Kd.R_drewN h.row n, pw_below_drewN h.bl n⟩
theorem SI.set (h : SI w W g a l i v xs) {l2 : List Int} {j : Int} (hj : At (bytesOf a) j l2) : SI w (W.setCell ⟨g, 1, none⟩ (.int .i64 j)) g a l2 j v xs :=
  ⟨hj, h.st.set_1 j, h.row.set h.st.1 1 _, below_set h.bl (IsS38.ge h.st)⟩
theorem blanks_SI (hs : a.size ≤ 1000000) (h : SI w W g a l i v xs) :
    Calls Try.prog 17 #[.pointer (some ⟨g, 0, none⟩)] W fun e W1 => e = .returned (.tuple #[]) ∧ ∃ i', SI w W1 g a (skipL l) i' v xs := by
  obtain ⟨i', h1, h2⟩ := blanks_at a hs l i (l.length + 1) (Nat.lt_succ_self _) h.at_
  refine (spec_settingReader_blanks.calls _ g a i a i' w W h.st h.bl h1).mono ?_
  rintro e W1 ⟨he, hst, hbl, hk⟩
  exact ⟨he, i', h2, hst, h.row.keep h.st.1 hk, hbl⟩
theorem value_none (hs : a.size ≤ 1000000) (h : SI w W g a l i v xs) (hv : valL l = none) :
    Calls Try.prog 19 #[.pointer (some ⟨g, 0, none⟩)] W fun e W1 => ∃ out, e = .returned (.tuple #[.string out, .bool false]) ∧ Below w.heap.size w W1 := by
  obtain ⟨k, h1⟩ := value_at a hs l i h.at_
  obtain ⟨out, i', h2⟩ := h1.1 hv
  refine (spec_settingReader_value.calls _ g a i _ _ _ _ w W h.st h.bl h2).mono ?_
  rintro e W1 ⟨he, hst, hbl, hk⟩
  exact ⟨out, he, hbl⟩
theorem value_some (hs : a.size ≤ 1000000) (h : SI w W g a l i v xs) {val rest : List Int} (hv : valL l = some (val, rest)) :
    Calls Try.prog 19 #[.pointer (some ⟨g, 0, none⟩)] W fun e W1 => e = .returned (.tuple #[.string (strOfNums val), .bool true]) ∧ ∃ i' l', SI w W1 g a l' i' v xs ∧ skipL l' = skipL rest ∧ l'.length ≤ l.length := by
  obtain ⟨k, h1⟩ := value_at a hs l i h.at_
  obtain ⟨out, i', l', h2, h3, h4, h5, h6⟩ := h1.2 _ _ hv
  refine (spec_settingReader_value.calls _ g a i _ _ _ _ w W h.st h.bl h2).mono ?_
  rintro e W1 ⟨rfl, hst, hbl, hk⟩
  have ho : out = strOfNums val := by rw [← strOfNums_bytesOf out, h3]; rfl
  subst ho
  exact ⟨rfl, i', l', ⟨h4, hst, h.row.keep h.st.1 hk, hbl⟩, h5, by have := h4.len; have := h.at_.len; omega⟩
theorem put_SI (h : SI w W g a l i v xs) (x : Se) (hz : xs.length ≤ 1000000) :
    Calls Try.prog 20 #[v, .agg #[.string x.f0, .string x.f1]] W fun e W1 => ∃ v1, e = .returned v1 ∧ SI w W1 g a l i v1 (putG x false xs) := by
  obtain ⟨A, c, rfl, hc, hC⟩ := Kd.R_reads h.row
  refine (spec_put.calls _ A c xs x.f0 x.f1 _ W hC hc (put_f x xs hz)).mono ?_
  rintro e W1 ⟨v1, he, hr, hb⟩
  exact ⟨v1, he, h.at_, h.st.below hb, Kd.R_lower hr h.bl.size, below_step h.bl hb⟩
end
/-! ### one setting -/
theorem keyL_stop : ∀ l : List Int, (keyL l).2 = [] ∨ ∃ c t, (keyL l).2 = c :: t ∧ (spI c = true ∨ c = 61)
  | [] => .inl rfl
  | c :: t => by
    rw [keyL]
    split
    · rename_i h; exact .inr ⟨c, t, rfl, h⟩
    · exact keyL_stop t
theorem eqL_skip (l : List Int) : eqL (keyL l).2 = skipL (keyL l).2 := by
  unfold eqL
  rcases keyL_stop l with e | ⟨c, t, e, h⟩
  · rw [e]; rfl
  · rw [e]
    by_cases h61 : c = 61
    · subst h61; rw [if_pos (show hd0 (61 :: t) = 61 from rfl)]; rfl
    · rw [if_neg (show ¬ hd0 (c :: t) = 61 from h61)]
      rcases h with h | h
      · show skipL t = skipL (c :: t)
        conv => rhs; unfold skipL
        rw [if_pos h]
      · exact absurd h h61
theorem parse_nil (n : Nat) {l : List Int} (h : skipL l = []) : parseL (n + 1) l = some [] := by unfold parseL; rw [h]; rfl
theorem parse_skip (n : Nat) {l l' : List Int} (h : skipL l = skipL l') : parseL n l = parseL n l' := by cases n with
  | zero => rfl
  | succ n => unfold parseL; rw [h]
theorem parse_no (n : Nat) {l l1 : List Int} (h1 : skipL l = l1) (hn : ne l1 = true) (h : hd0 (skipL (keyL l1).2) ≠ 61) : parseL (n + 1) l = none := by
  unfold parseL
  rw [h1, hn, if_neg (by decide), eqL_skip, if_neg h]
theorem parse_yes (n : Nat) {l l1 : List Int} (h1 : skipL l = l1) (hn : ne l1 = true) (h : hd0 (skipL (keyL l1).2) = 61) :
    parseL (n + 2) l = (valL (skipL (skipL (keyL l1).2).tail)).bind fun v => (parseL (n + 1) v.2).map (fun r => ((keyL l1).1, v.1) :: r) := by
  conv => lhs; unfold parseL
  rw [h1, hn, if_neg (by decide), eqL_skip, if_pos h]
  split
  · rename_i h2
    have e : skipL (skipL (keyL l1).2).tail = [] := by cases h3 : skipL (skipL (keyL l1).2).tail with
      | nil => rfl
      | cons c t => rw [h3] at h2; cases h2
    rw [e]
    have e2 : valL [] = some ([], []) := rfl
    rw [e2, Option.bind_some, parse_nil n (show skipL [] = [] from rfl)]
    rfl
  · rfl
end Go.Proofs.Ytlhjblbmhlelbaa.P
