/- The spec's list of settings: put, and that a list of a map's entries in their order is one. Conditions: named by each theorem. -/
import Derived.Test.YtlhjblbmhlelbaaDsnM
namespace Go.Proofs.Ytlhjblbmhlelbaa.P
open Go.RowKit Go.Proofs.YtlhjblbmhlelbaaW.PrintWords Go.Proofs.YtlhjblbmhlelbaaW.PrintLast Go.Proofs.YtlhjblbmhlelbaaW.PrintMore Go.Proofs.Ytlhjblbmhlelbaa.Lib
set_option linter.unusedVariables false
set_option linter.unusedSimpArgs false
def putG (x : Se) : Bool → List Se → List Se
  | true, [] => []
  | false, [] => [x]
  | true, y :: t => if y.f0 = x.f0 then putG x true t else y :: putG x true t
  | false, y :: t => if Op.bytesLess y.f0.toList x.f0.toList = true then y :: putG x false t
    else if y.f0 = x.f0 then x :: putG x true t else x :: y :: putG x true t
theorem toList_inj {a b : ByteArray} : a.toList = b.toList ↔ a = b := ⟨fun h => bytesOf_inj (toList_eq_iff.1 h), fun h => by rw [h]⟩
theorem rd_here (pre : List Se) (y : Se) (t : List Se) : rd_T34 (pre ++ y :: t) (pre.length : Int) = y := by
  unfold rd_T34
  simp [List.getD_eq_getElem?_getD]
theorem put_ok (x : Se) (L : List Se) (hL : L.length ≤ 1000000) : ∀ (suf pre out : List Se) (done : Bool) (k : Nat), L = pre ++ suf → 2 * suf.length + 1 ≤ k → out.length + 2 * suf.length + 1 ≤ 3000000 →
    spec_put.l0 k L out done pre.length x.f0 x.f1 = some (out ++ putG x done suf) := by
  intro suf
  induction suf with
  | nil =>
    intro pre out done k e hk ho
    obtain ⟨k, rfl⟩ : ∃ m, k = m + 1 := ⟨k - 1, by omega⟩
    have el := congrArg List.length e
    simp only [List.append_nil, List.length_append] at el
    rw [spec_put.l0, if_neg (by omega)]
    cases done with
    | true => simp [putG]
    | false =>
      rw [if_neg (by decide), if_pos (by simp at ho; omega)]
      rfl
  | cons y t ih =>
    intro pre out done k e hk ho
    simp only [List.length_cons] at hk ho
    obtain ⟨k, rfl⟩ : ∃ m, k = m + 2 := ⟨k - 2, by omega⟩
    have hrd : rd_T34 L (pre.length : Int) = y := by rw [e]; exact rd_here pre y t
    have el := congrArg List.length e
    simp only [List.length_append, List.length_cons] at el
    have hlt : (pre.length : Int) < (L.length : Int) := by omega
    have hw : wrap64 ((pre.length : Int) + 1) = ((pre ++ [y]).length : Int) := by rw [wrap64_id (by omega) (by omega)]; simp
    have e2 : L = (pre ++ [y]) ++ t := by rw [e]; simp
    have h0 : (0 : Int) ≤ (pre.length : Int) := by omega
    rw [spec_put.l0, if_pos hlt]
    cases done with
    | true =>
      rw [if_pos rfl, spec_put.j1, if_neg (by decide), if_pos h0, if_pos hlt, hrd, hw]
      by_cases hy : y.f0 = x.f0
      · rw [if_pos (toList_inj.2 hy), ih _ _ _ _ e2 (by omega) (by omega), putG, if_pos hy]
      · rw [if_neg (fun h => hy (toList_inj.1 h)), if_pos (by omega), ih _ _ _ _ e2 (by omega) (by simp; omega), putG, if_neg hy]
        simp
    | false =>
      rw [if_neg (by decide), if_pos h0, hrd, spec_put.j1]
      cases hb : Op.bytesLess y.f0.toList x.f0.toList with
      | true =>
        have hy : y.f0 ≠ x.f0 := fun h => by rw [h, bl_irrefl] at hb; cases hb
        rw [if_neg (by decide), if_pos h0, if_pos hlt, hrd, hw, if_neg (fun h => hy (toList_inj.1 h)), if_pos (by omega), ih _ _ _ _ e2 (by omega) (by simp; omega), putG, if_pos hb]
        simp
      | false =>
        rw [if_pos (by decide), if_pos (by omega), Option.bind_some, if_pos h0, if_pos hlt, hrd, hw]
        by_cases hy : y.f0 = x.f0
        · rw [if_pos (toList_inj.2 hy), ih _ _ _ _ e2 (by omega) (by simp; omega), putG, if_neg (by rw [hb]; decide), if_pos hy]
          simp
        · rw [if_neg (fun h => hy (toList_inj.1 h)), if_pos (by simp; omega), ih _ _ _ _ e2 (by omega) (by simp; omega), putG, if_neg (by rw [hb]; decide), if_neg hy]
          simp
theorem putG_len (x : Se) : ∀ (l : List Se) (d : Bool), (putG x d l).length ≤ l.length + 1 := by
  intro l
  induction l with
  | nil => intro d; cases d <;> simp [putG]
  | cons y t ih =>
    intro d
    have h1 := ih true
    have h2 := ih false
    cases d with
    | true => rw [putG]; split <;> simp <;> omega
    | false => 
      rw [putG]
      have h3 : (putG x true t).length ≤ t.length := by
        clear ih h1 h2
        induction t with
        | nil => simp [putG]
        | cons z t ih => rw [putG]; split <;> simp <;> omega
      split
      · simp; omega
      · split <;> simp <;> omega
theorem put_f (x : Se) (L : List Se) (hL : L.length ≤ 1000000) : spec_put.f (2 * L.length + 1) L x.f0 x.f1 = some (putG x false L) := by
  unfold spec_put.f
  have := put_ok x L hL L [] [] false (2 * L.length + 1) rfl (Nat.le_refl _) (by simp; omega)
  simpa using this
theorem putG_true (x : Se) : ∀ l, putG x true l = l.filter (fun y => decide (y.f0 ≠ x.f0)) := by
  intro l
  induction l with
  | nil => rfl
  | cons y t ih =>
    rw [putG, ih]
    by_cases hy : y.f0 = x.f0
    · rw [if_pos hy, List.filter_cons_of_neg (by simp [hy])]
    · rw [if_neg hy, List.filter_cons_of_pos (by simp [hy])]
theorem mem_putG (x z : Se) : ∀ l, z ∈ putG x false l ↔ (z ∈ l ∧ z.f0 ≠ x.f0) ∨ z = x := by
  intro l
  induction l with
  | nil => simp [putG]
  | cons y t ih =>
    rw [putG]
    by_cases hb : Op.bytesLess y.f0.toList x.f0.toList = true
    · have hy : y.f0 ≠ x.f0 := fun h => by rw [h, bl_irrefl] at hb; cases hb
      rw [if_pos hb, List.mem_cons, ih, List.mem_cons]
      constructor
      · rintro (rfl | ⟨h1, h2⟩ | h)
        · exact .inl ⟨.inl rfl, hy⟩
        · exact .inl ⟨.inr h1, h2⟩
        · exact .inr h
      · rintro (⟨h1 | h1, h2⟩ | h)
        · exact .inl h1
        · exact .inr (.inl ⟨h1, h2⟩)
        · exact .inr (.inr h)
    · rw [if_neg hb, putG_true]
      by_cases hy : y.f0 = x.f0
      · rw [if_pos hy, List.mem_cons, List.mem_filter, List.mem_cons]
        constructor
        · rintro (rfl | ⟨h1, h2⟩)
          · exact .inr rfl
          · exact .inl ⟨.inr h1, by simpa using h2⟩
        · rintro (⟨h1 | h1, h2⟩ | h)
          · rw [h1] at h2; exact absurd hy h2
          · exact .inr ⟨h1, by simpa using h2⟩
          · exact .inl h
      · rw [if_neg hy, List.mem_cons, List.mem_cons, List.mem_filter, List.mem_cons]
        constructor
        · rintro (rfl | rfl | ⟨h1, h2⟩)
          · exact .inr rfl
          · exact .inl ⟨.inl rfl, hy⟩
          · exact .inl ⟨.inr h1, by simpa using h2⟩
        · rintro (⟨h1 | h1, h2⟩ | h)
          · exact .inr (.inl h1)
          · exact .inr (.inr ⟨h1, by simpa using h2⟩)
          · exact .inl h
/-- Strictly ascending. -/
def St (xs : List Se) : Prop := xs.Pairwise (fun x y => ltS x y = true)
theorem lt_of (x y : Se) (h : ltS y x = false) (hn : x.f0 ≠ y.f0) : ltS x y = true := by
  cases h2 : ltS x y with
  | true => rfl
  | false => exact absurd (toList_inj.1 (bl_total _ _ h2 h)) hn
theorem ltS_trans {x y z : Se} (h : ltS x y = true) (h2 : ltS y z = true) : ltS x z = true := bl_trans _ _ _ h h2
theorem ltS_irrefl (x : Se) : ltS x x = false := bl_irrefl _
theorem ltS_key {x y z : Se} (h : ltS x z = true) (e : x.f0 = y.f0) : ltS y z = true := by unfold ltS at *; rw [← e]; exact h
theorem St.of {xs : List Se} (hu : Up xs) (hd : xs.Pairwise (fun x y => x.f0 ≠ y.f0)) : St xs :=
  (hu.and hd).imp (fun h => lt_of _ _ h.1 h.2)
theorem St.put {xs : List Se} (h : St xs) (x : Se) : St (putG x false xs) := by
  induction xs with
  | nil => exact List.pairwise_singleton _ _
  | cons y t ih =>
    obtain ⟨h1, h2⟩ := List.pairwise_cons.1 h
    rw [putG]
    by_cases hb : Op.bytesLess y.f0.toList x.f0.toList = true
    · rw [if_pos hb]
      refine List.pairwise_cons.2 ⟨fun z hz => ?_, ih h2⟩
      rcases (mem_putG x z t).1 hz with ⟨hz, _⟩ | rfl
      · exact h1 z hz
      · exact hb
    · have hs : St (putG x true t) := by rw [putG_true]; exact h2.sublist List.filter_sublist
      have hm : ∀ z ∈ putG x true t, ltS y z = true := fun z hz => h1 z (by rw [putG_true] at hz; exact (List.mem_filter.1 hz).1)
      rw [if_neg hb]
      by_cases hy : y.f0 = x.f0
      · rw [if_pos hy]
        exact List.pairwise_cons.2 ⟨fun z hz => ltS_key (hm z hz) hy, hs⟩
      · rw [if_neg hy]
        have hxy : ltS x y = true := lt_of x y (by unfold ltS; simpa using hb) (fun e => hy e.symm)
        refine List.pairwise_cons.2 ⟨fun z hz => ?_, List.pairwise_cons.2 ⟨hm, hs⟩⟩
        rcases List.mem_cons.1 hz with rfl | hz
        · exact hxy
        · exact ltS_trans hxy (hm z hz)
theorem St.eq : ∀ {xs ys : List Se}, St xs → St ys → (∀ x, x ∈ xs ↔ x ∈ ys) → xs = ys
  | [], [], _, _, _ => rfl
  | [], y :: t, _, _, h => by have := (h y).2 (by simp); cases this
  | x :: s, [], _, _, h => by have := (h x).1 (by simp); cases this
  | x :: s, y :: t, hx, hy, h => by
    obtain ⟨x1, x2⟩ := List.pairwise_cons.1 hx
    obtain ⟨y1, y2⟩ := List.pairwise_cons.1 hy
    have e : x = y := by
      rcases List.mem_cons.1 ((h x).1 (by simp)) with e | hm
      · exact e
      · rcases List.mem_cons.1 ((h y).2 (by simp)) with e | hm2
        · exact e.symm
        · have := ltS_trans (x1 y hm2) (y1 x hm)
          rw [ltS_irrefl] at this; cases this
    subst e
    have hne : ∀ {l : List Se} (z : Se), (∀ w ∈ l, ltS x w = true) → z ∈ l → z ≠ x := fun z hl hz e => by have := hl z hz; rw [e, ltS_irrefl] at this; cases this
    rw [St.eq x2 y2 (fun z => ⟨fun hz => ?_, fun hz => ?_⟩)]
    · rcases List.mem_cons.1 ((h z).1 (List.mem_cons_of_mem _ hz)) with e | hm
      · exact absurd e (hne z x1 hz)
      · exact hm
    · rcases List.mem_cons.1 ((h z).2 (List.mem_cons_of_mem _ hz)) with e | hm
      · exact absurd e (hne z y1 hz)
      · exact hm
theorem Done.eq {D : DataW Nat} {xs ys : List Se} (hx : Done D (fun _ => false) xs) (hy : Done D (fun _ => false) ys) (sx : St xs) (sy : St ys) : xs = ys := by
  have key : ∀ {a b : List Se}, Done D (fun _ => false) a → Done D (fun _ => false) b → ∀ z, z ∈ a → z ∈ b := by
    intro a b ha hb z hz
    obtain ⟨_, h1, h2⟩ := ha.b z hz
    rcases hb.a _ h1 with h | ⟨w, hw, e⟩
    · cases h
    · have ek := keyB_inj e
      have h3 := (hb.b w hw).2.2 (.map [])
      rw [← e, h2] at h3
      injection h3 with h3
      have ev := keyB_inj h3
      have : z = w := by cases z; cases w; simp_all
      rw [this]; exact hw
  exact St.eq sx sy (fun z => ⟨key hx hy z, key hy hx z⟩)
theorem isKey_keyB (x : ByteArray) : WideAt.IsKeyLit (keyB x) := show WideAt.IsKeyLit (.string x.data.toList) from trivial
theorem Done.put {D : DataW Nat} {xs : List Se} (h : Done D (fun _ => false) xs) (hs : St xs) (hm : Maps.IsMap D) (x : Se) : Done (D.put (keyB x.f0) (.lit (keyB x.f1))) (fun _ => false) (putG x false xs) := by
  refine ⟨fun kl hk => .inr ?_, fun y hy => ?_, ?_, fun kl hk => by cases hk⟩
  · by_cases e : kl = keyB x.f0
    · exact ⟨x, (mem_putG x x xs).2 (.inr rfl), e⟩
    · rw [Maps.has_put_other e] at hk
      rcases h.a kl hk with h | ⟨y, hy, e2⟩
      · cases h
      · exact ⟨y, (mem_putG x y xs).2 (.inl ⟨hy, fun e3 => e (by rw [e2, e3])⟩), e2⟩
  · rcases (mem_putG x y xs).1 hy with ⟨h1, h2⟩ | rfl
    · obtain ⟨_, b1, b2⟩ := h.b y h1
      have hn : keyB y.f0 ≠ keyB x.f0 := fun e => h2 (keyB_inj e)
      exact ⟨rfl, by rw [Maps.has_put_other hn]; exact b1, fun z => by rw [Maps.atKey_put_other hn]; exact b2 z⟩
    · exact ⟨rfl, Maps.has_put_same hm (isKey_keyB _) _, fun z => Maps.atKey_put_same hm (isKey_keyB _) _ _⟩
  · exact (hs.put x).imp (fun {a b} hab e => by have h2 : ltS a a = true := by unfold ltS at *; rw [← e] at hab; exact hab
                                                rw [ltS_irrefl] at h2; cases h2)
def seOf (p : List Int × List Int) : Se := ⟨strOfNums p.1, strOfNums p.2⟩
/-- The settings, of each keyword the last one, put one behind the other into xs. -/
def putAll (xs : List Se) (A : List (List Int × List Int)) : List Se := A.foldl (fun M p => putG (seOf p) false M) xs
theorem putAll_done : ∀ (A : List (List Int × List Int)) (D : DataW Nat) (xs : List Se), Done D (fun _ => false) xs → St xs → Maps.IsMap D → Done (A.foldl (fun D p => D.put (keyLit p.1) (.lit (keyLit p.2))) D) (fun _ => false) (putAll xs A) ∧ St (putAll xs A)
  | [], D, xs, h, hs, _ => ⟨h, hs⟩
  | p :: A, D, xs, h, hs, hm => putAll_done A _ _ (h.put hs hm (seOf p)) (hs.put _) (hm.put _ _)
theorem all_eq (A : List (List Int × List Int)) (ys : List Se) (hu : Up ys) (hd : Done (putL A) (fun _ => false) ys) : ys = putAll [] A := by
  obtain ⟨h1, h2⟩ := putAll_done A (.map []) [] ⟨fun kl h => (by cases h), fun x h => (by cases h), List.Pairwise.nil, fun kl h => (by cases h)⟩ List.Pairwise.nil Maps.isMap_empty
  exact Done.eq hd h1 (St.of hu hd.c) h2
end Go.Proofs.Ytlhjblbmhlelbaa.P
