/- FnFault, for every list of fields: an error's message tells its fields, whatever their order is (codes that there are, each once, texts that are not empty, of at most 200 bytes without zero bytes, by the law's own guard).
   Conditions: none beyond the form's own bounds on the sizes. -/
import Derived.Test.YthcikkjjegfblabPx5
import Derived.Test.YthcikkjjegfblabPx2
import Derived.Test.YthcikkjjegfblabPx4
import Derived.Test.YthcikkjjegfblabPx3
import Derived.Test.YthcikkjjegfblabLibIndex
namespace Go.Proofs.Ythcikkjjegfblab.Pure
open Go.RowKit Go.Proofs.Ythcikkjjegfblab.P Go.Proofs.YthcikkjjegfblabW.PrintWords Go.Proofs.YthcikkjjegfblabW.PrintLast Go.Proofs.YthcikkjjegfblabW.PrintMore Go.Proofs.Ythcikkjjegfblab.Lib
set_option linter.unusedVariables false
set_option linter.unusedSimpArgs false

abbrev Fl := S54
theorem rd_at {l : List Fl} {i : Nat} {x : Fl} {t : List Fl} (h : l.drop i = x :: t) : rd_T54 l (i : Int) = x ∧ i < l.length ∧ l.drop (i + 1) = t := by
  have hl : i < l.length := by
    rcases Nat.lt_or_ge i l.length with hl | hl
    · exact hl
    · rw [List.drop_of_length_le hl] at h; cases h
  rw [List.drop_eq_getElem_cons hl] at h
  injection h with h1 h2
  refine ⟨?_, hl, h2⟩
  simp [rd_T54, List.getD_eq_getElem?_getD, List.getElem?_eq_getElem hl, h1]
theorem rd_lt {l : List Fl} {i : Nat} (h : i < l.length) : rd_T54 l (i : Int) = l[i] := by
  simp [rd_T54, List.getD_eq_getElem?_getD, List.getElem?_eq_getElem h]
theorem fits (l : List Fl) (hl : l.length ≤ 9223372036854775807) : ∃ b, Ev (fun k => laws_zzFits11.f k l) b ∧ (b = true → l.length ≤ 2147483647 ∧ ∀ x ∈ l, x.f1.size ≤ 2147483647) := by
  have go : ∀ (t : List Fl) (i : Nat), l.drop i = t → ∃ b, Ev (fun k => laws_zzFits11.l0 k l (l.length : Int) (i : Int)) b ∧ (b = true → ∀ x ∈ t, x.f1.size ≤ 2147483647) := by
    intro t
    induction t with
    | nil =>
      intro i h
      have h3 : l.length ≤ i := by simpa using h
      exact ⟨true, Ev.step (fun k => laws_zzFits11.l0.eq_2 _ _ _ _) <| Ev.if_neg (by omega) <| Ev.now _, fun _ x hx => by cases hx⟩
    | cons x t ih =>
      intro i h
      obtain ⟨e1, i1, d1⟩ := rd_at h
      have ew : wrap64 ((i : Int) + 1) = ((i + 1 : Nat) : Int) := by rw [wrap64_id (by omega) (by omega)]; omega
      obtain ⟨b, hb, hg⟩ := ih (i + 1) d1
      by_cases hz : (x.f1.size : Int) > 2147483647
      · refine ⟨false, Ev.step (fun k => laws_zzFits11.l0.eq_2 _ _ _ _) <| Ev.if_pos (by omega) <| Ev.if_pos (by omega) <| Ev.if_pos (by omega) ?_, fun h => by cases h⟩
        rw [e1]
        exact Ev.bind (Ev.const (show laws_zzFits12.f x.f0 x.f1 = some false by unfold laws_zzFits12.f; rw [_root_.if_pos hz])) <| Ev.if_neg (by simp) <| Ev.now _
      · refine ⟨b, Ev.step (fun k => laws_zzFits11.l0.eq_2 _ _ _ _) <| Ev.if_pos (by omega) <| Ev.if_pos (by omega) <| Ev.if_pos (by omega) ?_, fun h y hy => ?_⟩
        · rw [e1, ew]
          exact Ev.bind (Ev.const (show laws_zzFits12.f x.f0 x.f1 = some true by unfold laws_zzFits12.f; rw [_root_.if_neg hz])) <| Ev.if_pos rfl hb
        · rcases List.mem_cons.1 hy with rfl | hy
          · omega
          · exact hg h y hy
  unfold laws_zzFits11.f
  by_cases hz : (l.length : Int) > 2147483647
  · exact ⟨false, Ev.if_pos hz <| Ev.now _, fun h => by cases h⟩
  · obtain ⟨b, hb, hg⟩ := go l 0 rfl
    exact ⟨b, Ev.if_neg hz hb, fun h => ⟨by omega, hg h⟩⟩
abbrev letterS : ByteArray := ⟨#[83, 67, 77, 68, 72, 80, 112, 113, 87, 115, 116, 99, 100, 110, 70, 76, 82]⟩
theorem letterS_l : bytesOf letterS = letterL := rfl
theorem place_l (s : ByteArray) (hs : s.size ≤ 2305843009213693952) (c : Int) : ∀ (t : List Int) (i : Int), At (bytesOf s) i t → ∃ r, Ev (fun k => spec_place.l0 k s c i) r ∧ (0 ≤ r → c ∈ t) := by
  intro t
  induction t with
  | nil =>
    intro i h
    exact ⟨-1, Ev.step (fun k => spec_place.l0.eq_2 _ _ _ _) <| Ev.if_neg (by have := h.snil; omega) <| Ev.now _, fun h => by omega⟩
  | cons d t ih =>
    intro i h
    have h0 := h.nonneg
    have hlt := h.slt
    by_cases hc : d = c
    · exact ⟨i, Ev.step (fun k => spec_place.l0.eq_2 _ _ _ _) <| Ev.if_pos hlt <| Ev.if_pos h0 <| Ev.if_pos (by rw [h.bt]; exact hc) <| Ev.now _, fun _ => by simp [hc]⟩
    · obtain ⟨r, hr, hm⟩ := ih (i + 1) h.tail
      refine ⟨r, Ev.step (fun k => spec_place.l0.eq_2 _ _ _ _) <| Ev.if_pos hlt <| Ev.if_pos h0 <| Ev.if_neg (by rw [h.bt]; exact hc) ?_, fun hx => List.mem_cons_of_mem _ (hm hx)⟩
      rw [wrap64_id (by omega) (by omega)]
      exact hr
theorem place_of (c : Int) : ∃ r, Ev (fun k => spec_place.f k letterS c) r ∧ (0 ≤ r → c ∈ letterL) := place_l letterS (by decide) c _ 0 (At.zero _)
theorem zero_l (s : ByteArray) (hs : s.size ≤ 2305843009213693952) : ∀ (t : List Int) (i : Int), At (bytesOf s) i t → ∃ b, Ev (fun k => spec_hasZero.l0 k s i) b ∧ (b = false → (0 : Int) ∉ t) := by
  intro t
  induction t with
  | nil =>
    intro i h
    exact ⟨false, Ev.step (fun k => spec_hasZero.l0.eq_2 _ _ _) <| Ev.if_neg (by have := h.snil; omega) <| Ev.now _, fun _ => by simp⟩
  | cons d t ih =>
    intro i h
    have h0 := h.nonneg
    have hlt := h.slt
    by_cases hc : d = 0
    · exact ⟨true, Ev.step (fun k => spec_hasZero.l0.eq_2 _ _ _) <| Ev.if_pos hlt <| Ev.if_pos h0 <| Ev.if_pos (by rw [h.bt]; exact hc) <| Ev.now _, fun h => by cases h⟩
    · obtain ⟨r, hr, hm⟩ := ih (i + 1) h.tail
      refine ⟨r, Ev.step (fun k => spec_hasZero.l0.eq_2 _ _ _) <| Ev.if_pos hlt <| Ev.if_pos h0 <| Ev.if_neg (by rw [h.bt]; exact hc) ?_, fun hx => ?_⟩
      · rw [wrap64_id (by omega) (by omega)]
        exact hr
      · intro hm'
        rcases List.mem_cons.1 hm' with e | e
        · exact hc e.symm
        · exact hm hx e
theorem hasZero_of (s : ByteArray) (hs : s.size ≤ 2305843009213693952) : ∃ b, Ev (fun k => spec_hasZero.f k s) b ∧ (b = false → (0 : Int) ∉ bytesOf s) := zero_l s hs _ 0 (At.zero _)
/-- What is asked of a field by itself. -/
def OkF (x : Fl) : Prop := x.f0 ∈ letterL ∧ bytesOf x.f1 ≠ [] ∧ (0 : Int) ∉ bytesOf x.f1 ∧ x.f1.size ≤ 200
theorem right (l : List Fl) (hl : l.length ≤ 9223372036854775807) (hsz : ∀ x ∈ l, x.f1.size ≤ 2305843009213693952) : ∃ b, Ev (fun k => spec_FieldsRight.f k l) b ∧ (b = true → (∀ x ∈ l, OkF x) ∧ ∀ i j, i < j → ∀ (hi : i < l.length) (hj : j < l.length), l[i].f0 ≠ l[j].f0) := by
  have inner : ∀ (i : Nat) (hi : i < l.length) (rest : Bool) (P : Prop), (Ev (fun k => spec_FieldsRight.l0 k l ((i + 1 : Nat) : Int)) rest) → ∀ (d j : Nat), j + d = i →
      ∃ b, Ev (fun k => spec_FieldsRight.l1 k l (i : Int) (j : Int)) b ∧ (b = true → rest = true ∧ ∀ m, j ≤ m → ∀ (hm : m < i), l[m].f0 ≠ l[i].f0) := by
    intro i hi rest P hrest d
    induction d with
    | zero =>
      intro j hj
      obtain rfl : j = i := by omega
      refine ⟨rest, Ev.step (fun k => spec_FieldsRight.l1.eq_2 _ _ _ _) <| Ev.if_neg (by omega) ?_, fun h => ⟨h, fun m a b => by omega⟩⟩
      rw [show wrap64 ((j : Int) + 1) = ((j + 1 : Nat) : Int) from by rw [wrap64_id (by omega) (by omega)]; omega]
      exact hrest
    | succ d ih =>
      intro j hj
      have hji : j < i := by omega
      by_cases he : l[j].f0 = l[i].f0
      · refine ⟨false, Ev.step (fun k => spec_FieldsRight.l1.eq_2 _ _ _ _) <| Ev.if_pos (by omega) <| Ev.if_pos (by omega) <| Ev.if_pos (by omega) <| Ev.if_pos (by omega) <| Ev.if_pos (by omega) <| Ev.if_pos ?_ <| Ev.now _, fun h => by cases h⟩
        rw [rd_lt (by omega), rd_lt hi]; exact he
      · obtain ⟨b, hb, hg⟩ := ih (j + 1) (by omega)
        refine ⟨b, Ev.step (fun k => spec_FieldsRight.l1.eq_2 _ _ _ _) <| Ev.if_pos (by omega) <| Ev.if_pos (by omega) <| Ev.if_pos (by omega) <| Ev.if_pos (by omega) <| Ev.if_pos (by omega) <| Ev.if_neg ?_ ?_, fun h => ⟨(hg h).1, fun m a hm => ?_⟩⟩
        · rw [rd_lt (by omega), rd_lt hi]; exact he
        · rw [show wrap64 ((j : Int) + 1) = ((j + 1 : Nat) : Int) from by rw [wrap64_id (by omega) (by omega)]; omega]
          exact hb
        · by_cases e : m = j
          · subst e; exact he
          · exact (hg h).2 m (by omega) hm
  have go : ∀ (t : List Fl) (i : Nat), l.drop i = t → ∃ b, Ev (fun k => spec_FieldsRight.l0 k l (i : Int)) b ∧ (b = true → (∀ x ∈ t, OkF x) ∧ ∀ j, i ≤ j → ∀ (hj : j < l.length), ∀ m, ∀ (hm : m < j), l[m].f0 ≠ l[j].f0) := by
    intro t
    induction t with
    | nil =>
      intro i h
      have h3 : l.length ≤ i := by simpa using h
      exact ⟨true, Ev.step (fun k => spec_FieldsRight.l0.eq_2 _ _ _) <| Ev.if_neg (by omega) <| Ev.now _, fun _ => ⟨(fun x hx => by cases hx), fun j a b => by omega⟩⟩
    | cons x t ih =>
      intro i h
      obtain ⟨e1, i1, d1⟩ := rd_at h
      obtain ⟨rest, hrest, hg⟩ := ih (i + 1) d1
      obtain ⟨b1, hb1, hg1⟩ := inner i i1 rest True hrest i 0 (by omega)
      have hx : x ∈ l := by have : x ∈ l.drop i := by rw [h]; simp
                            exact List.mem_of_mem_drop this
      have hxs := hsz x hx
      obtain ⟨r, hr, hrm⟩ := place_of x.f0
      obtain ⟨z, hz, hzm⟩ := hasZero_of x.f1 hxs
      have stop : ∀ (v : Bool), v = true → Ev (fun k => spec_FieldsRight.j1 k l (i : Int) v) false := fun v hv => Ev.step (fun k => spec_FieldsRight.j1.eq_2 _ _ _ _) <| Ev.if_pos hv <| Ev.now _
      have base : ∀ (q : Bool), Ev (fun k => (spec_place.f k letterS x.f0).bind fun t106 => (if t106 < 0 then (spec_FieldsRight.j1 k l (i : Int) true) else (if (x.f1).toList = ([] : List UInt8) then (spec_FieldsRight.j1 k l (i : Int) true) else ((spec_hasZero.f k (x.f1)).bind fun t109 => (if t109 = true then (spec_FieldsRight.j1 k l (i : Int) true) else (spec_FieldsRight.j1 k l (i : Int) (decide (((x.f1).size : Int) > 200)))))))) q → Ev (fun k => spec_FieldsRight.l0 k l (i : Int)) q := by
        intro q hq
        refine Ev.step (fun k => spec_FieldsRight.l0.eq_2 _ _ _) <| Ev.if_pos (by omega) <| Ev.if_pos (by omega) ?_
        rw [e1]
        exact hq
      by_cases c1 : r < 0
      · exact ⟨false, base _ <| Ev.bind hr <| Ev.if_pos c1 <| stop _ rfl, fun h => by cases h⟩
      by_cases c2 : (x.f1).toList = ([] : List UInt8)
      · exact ⟨false, base _ <| Ev.bind hr <| Ev.if_neg c1 <| Ev.if_pos c2 <| stop _ rfl, fun h => by cases h⟩
      cases z with
      | true => exact ⟨false, base _ <| Ev.bind hr <| Ev.if_neg c1 <| Ev.if_neg c2 <| Ev.bind hz <| Ev.if_pos rfl <| stop _ rfl, fun h => by cases h⟩
      | false =>
        by_cases c3 : (x.f1.size : Int) > 200
        · exact ⟨false, base _ <| Ev.bind hr <| Ev.if_neg c1 <| Ev.if_neg c2 <| Ev.bind hz <| Ev.if_neg (by simp) <| stop _ (decide_eq_true c3), fun h => by cases h⟩
        · refine ⟨b1, base _ <| Ev.bind hr <| Ev.if_neg c1 <| Ev.if_neg c2 <| Ev.bind hz <| Ev.if_neg (by simp) <| Ev.step (fun k => spec_FieldsRight.j1.eq_2 _ _ _ _) <| Ev.if_neg (by simpa using c3) hb1, fun h => ?_⟩
          obtain ⟨hr1, hm1⟩ := hg1 h
          obtain ⟨ho, hd⟩ := hg hr1
          refine ⟨fun y hy => ?_, fun j hj hjl m hm => ?_⟩
          · rcases List.mem_cons.1 hy with rfl | hy
            · exact ⟨hrm (by omega), fun e => c2 (by rw [ByteArray.toList_eq]; unfold bytesOf at e; simpa using e), hzm rfl, by omega⟩
            · exact ho y hy
          · by_cases e : j = i
            · subst e; exact hm1 m (Nat.zero_le _) hm
            · exact hd j (by omega) hjl m hm
  obtain ⟨b, hb, hg⟩ := go l 0 rfl
  exact ⟨b, hb, fun h => ⟨(hg h).1, fun i j hij hi hj => (hg h).2 j (Nat.zero_le _) hj i hij⟩⟩
/-- A field as bytes, and all. -/
def fB (x : Fl) : List Int := x.f0 :: (bytesOf x.f1 ++ [0])
def fsB (l : List Fl) : List Int := l.flatMap fB ++ [0]
theorem letter_range {c : Int} (h : c ∈ letterL) : 0 < c ∧ c < 256 := by
  unfold letterL at h
  simp only [List.mem_cons, List.not_mem_nil, or_false] at h
  omega
theorem letter_slot {c : Int} (h : c ∈ letterL) : ∃ j, slotOf c = some j := by
  unfold letterL at h
  simp only [List.mem_cons, List.not_mem_nil, or_false] at h
  rcases h with rfl | rfl | rfl | rfl | rfl | rfl | rfl | rfl | rfl | rfl | rfl | rfl | rfl | rfl | rfl | rfl | rfl <;> exact ⟨_, rfl⟩
theorem slot_inj {c d : Int} (h : c ∈ letterL) (h' : d ∈ letterL) (e : slotOf c = slotOf d) : c = d := by
  unfold letterL at h h'
  simp only [List.mem_cons, List.not_mem_nil, or_false] at h h'
  rcases h with rfl | rfl | rfl | rfl | rfl | rfl | rfl | rfl | rfl | rfl | rfl | rfl | rfl | rfl | rfl | rfl | rfl <;> rcases h' with rfl | rfl | rfl | rfl | rfl | rfl | rfl | rfl | rfl | rfl | rfl | rfl | rfl | rfl | rfl | rfl | rfl <;> first | rfl | (exact absurd e (by decide))
theorem size_le {t : List Int} {n : Nat} (h : t.length ≤ n) : (strOfNums t).size ≤ n := by rw [strOfNums_size]; exact h
theorem nums_app (a b : List Int) : strOfNums (a ++ b) = strOfNums a ++ strOfNums b := by
  apply ByteArray.ext
  apply Array.ext'
  simp [strOfNums_data]
theorem body (l : List Fl) (hl : l.length ≤ 2147483647) (hok : ∀ x ∈ l, OkF x) : Ev (fun k => spec_FieldsBody.f k l) (strOfNums (fsB l)) := by
  have go : ∀ (t : List Fl) (i : Nat) (acc : List Int), l.drop i = t → i ≤ l.length → acc.length ≤ i * 202 → Ev (fun k => spec_FieldsBody.l0 k l (strOfNums acc) (i : Int)) (strOfNums (acc ++ fsB t)) := by
    intro t
    induction t with
    | nil =>
      intro i acc h hi ha
      have h3 : l.length ≤ i := by simpa using h
      have hz : (strOfNums acc).size + 1 ≤ 9223372036854775807 := by rw [strOfNums_size]; omega
      refine Ev.step (fun k => spec_FieldsBody.l0.eq_2 _ _ _ _) <| Ev.if_neg (by omega) <| Ev.to ?_ (Ev.if_pos hz <| Ev.now _)
      rw [nums_app]; rfl
    | cons x t ih =>
      intro i acc h hi ha
      obtain ⟨e1, i1, d1⟩ := rd_at h
      have hx : x ∈ l := by have : x ∈ l.drop i := by rw [h]; simp
                            exact List.mem_of_mem_drop this
      obtain ⟨o1, o2, o3, o4⟩ := hok x hx
      have ew : wrap64 ((i : Int) + 1) = ((i + 1 : Nat) : Int) := by rw [wrap64_id (by omega) (by omega)]; omega
      have hxl : (bytesOf x.f1).length ≤ 200 := by rw [bytesOf_length]; exact o4
      have s1 : (strOfNums [x.f0]).size + x.f1.size ≤ 9223372036854775807 := by rw [strOfNums_size]; simp only [List.length_singleton]; omega
      have s2 : ((strOfNums [x.f0]) ++ x.f1).size + 1 ≤ 9223372036854775807 := by rw [size_append, strOfNums_size]; simp only [List.length_singleton]; omega
      have e0 : (strOfNums [x.f0] ++ x.f1) ++ (⟨#[0]⟩ : ByteArray) = strOfNums (fB x) := by
        have : fB x = ([x.f0] ++ bytesOf x.f1) ++ [0] := rfl
        rw [this, nums_app, nums_app, strOfNums_bytesOf]; rfl
      have hfl : (fB x).length ≤ 202 := by unfold fB; simp only [List.length_cons, List.length_append, List.length_nil]; omega
      have s3 : (strOfNums acc).size + ((strOfNums [x.f0] ++ x.f1) ++ (⟨#[0]⟩ : ByteArray)).size ≤ 9223372036854775807 := by rw [e0, strOfNums_size, strOfNums_size]; omega
      refine Ev.step (fun k => spec_FieldsBody.l0.eq_2 _ _ _ _) <| Ev.if_pos (by omega) <| Ev.if_pos (by omega) ?_
      rw [e1, ew]
      refine Ev.bind (Ev.now _) <| Ev.if_pos s1 <| Ev.if_pos s2 <| Ev.if_pos s3 ?_
      rw [e0, ← nums_app]
      refine Ev.to ?_ (ih (i + 1) (acc ++ fB x) d1 (by omega) (by rw [List.length_append]; omega))
      congr 1
      unfold fsB
      simp [List.flatMap_cons]
  exact go l 0 [] rfl (Nat.zero_le _) (Nat.zero_le _)
theorem fsB_len (l : List Fl) (hok : ∀ x ∈ l, OkF x) : (fsB l).length ≤ l.length * 202 + 1 := by
  unfold fsB
  rw [List.length_append]
  induction l with
  | nil => simp
  | cons x t ih =>
    have := ih (fun y hy => hok y (List.mem_cons_of_mem _ hy))
    obtain ⟨o1, o2, o3, o4⟩ := hok x (by simp)
    have hxl : (bytesOf x.f1).length ≤ 200 := by rw [bytesOf_length]; exact o4
    rw [List.flatMap_cons, List.length_append]
    simp only [fB, List.length_cons, List.length_append, List.length_nil] at this ⊢
    omega
theorem fsB_range (l : List Fl) (hok : ∀ x ∈ l, OkF x) : ∀ c ∈ fsB l, 0 ≤ c ∧ c ≤ 255 := by
  intro c hc
  unfold fsB at hc
  rcases List.mem_append.1 hc with hc | hc
  · obtain ⟨x, hx, hc⟩ := List.mem_flatMap.1 hc
    have hr := letter_range (hok x hx).1
    unfold fB at hc
    rcases List.mem_cons.1 hc with rfl | hc
    · omega
    · rcases List.mem_append.1 hc with hc | hc
      · exact bytesOf_range hc
      · simp at hc; omega
  · simp at hc; omega
/-- What the package's reading comes to. -/
theorem reads (l : List Fl) (hok : ∀ x ∈ l, OkF x) (hb : (fsB l).length ≤ 2305843009213693952) (F : Nat → ByteArray) : ∀ (hr : ∀ c ∈ fsB l, 0 ≤ c ∧ c ≤ 255), ∃ K M, ∀ k m, K ≤ k → M ≤ m → pq_parseError.l0 k m (rd (fsB l) 0) ((fsB l).drop 1) F = some (l.foldl (fun F x => eStep F x.f0 x.f1) F) := by
  induction l generalizing F with
  | nil =>
    intro _
    refine ⟨0, 1, fun k m _ hm => ?_⟩
    obtain ⟨m, rfl⟩ : ∃ j, m = j + 1 := ⟨m - 1, by omega⟩
    rw [pq_parseError.l0]
    rfl
  | cons x t ih =>
    intro hr
    obtain ⟨o1, o2, o3, o4⟩ := hok x (by simp)
    have e : fsB (x :: t) = x.f0 :: (bytesOf x.f1 ++ 0 :: fsB t) := by unfold fsB; simp [List.flatMap_cons, fB]
    have hbt : (fsB t).length ≤ 2305843009213693952 := by rw [e] at hb; simp at hb; omega
    have hrt : ∀ c ∈ fsB t, 0 ≤ c ∧ c ≤ 255 := fun c hc => hr c (by rw [e]; simp [hc])
    obtain ⟨K, M, h⟩ := ih (fun y hy => hok y (List.mem_cons_of_mem _ hy)) hbt (eStep F x.f0 x.f1) hrt
    have hbo : bytesOf (strOfNums (bytesOf x.f1 ++ 0 :: fsB t)) = bytesOf x.f1 ++ 0 :: fsB t := bytesOf_strOfNums (fun c hc => hr c (by rw [e]; exact List.mem_cons_of_mem _ hc))
    obtain ⟨K2, h2⟩ := index_yes (strOfNums (bytesOf x.f1 ++ 0 :: fsB t)) ⟨#[0]⟩ (by rw [strOfNums_size]; rw [e] at hb; simp at hb ⊢; omega) 0 rfl (bytesOf x.f1) (fsB t) hbo o3
    refine ⟨max K K2, M + 1, fun k m hk hm => ?_⟩
    obtain ⟨m, rfl⟩ : ∃ j, m = j + 1 := ⟨m - 1, by omega⟩
    have hpos : 0 < (fsB t).length := by unfold fsB; simp
    rw [e]
    show pq_parseError.l0 k (m + 1) x.f0 (bytesOf x.f1 ++ 0 :: fsB t) F = _
    have hlr := letter_range o1
    have h3 : pq_zzIndex.f k (strOfNums (bytesOf x.f1 ++ 0 :: fsB t)) ⟨#[0]⟩ = some ((bytesOf x.f1).length : Int) := h2 k (by omega)
    rw [pq_parseError.l0, if_neg (by omega), h3]
    simp only [Option.bind_some]
    have hd : (bytesOf x.f1 ++ 0 :: fsB t).drop ((bytesOf x.f1).length + 1) = fsB t := by rw [List.drop_append]; simp
    have ht : (bytesOf x.f1 ++ 0 :: fsB t).take ((bytesOf x.f1).length) = bytesOf x.f1 := by simp
    rw [if_pos ⟨by omega, by simp only [Int.toNat_natCast, List.length_append, List.length_cons]; omega⟩]
    simp only [Int.toNat_natCast]
    rw [hd, ht, strOfNums_bytesOf, h k m (by omega) (by omega)]
    rfl
theorem fault_of (l : List Fl) (hl : l.length ≤ 2147483647) (hok : ∀ x ∈ l, OkF x) : Ev (fun k => impl_FaultRead.f k (strOfNums (fsB l))) (frList (l.foldl (fun F x => eStep F x.f0 x.f1) (eInit ⟨#[]⟩)) 17, true) := by
  have hr := fsB_range l hok
  have hlen := fsB_len l hok
  have hb : bytesOf (strOfNums (fsB l)) = fsB l := bytesOf_strOfNums hr
  unfold impl_FaultRead.f
  refine Ev.if_pos (by rw [strOfNums_size]; omega) ?_
  rw [hb]
  refine Ev.bind (a := l.foldl (fun F x => eStep F x.f0 x.f1) (eInit ⟨#[]⟩)) ?_ (Ev.now _)
  unfold pq_parseError.f
  have hne : fsB l ≠ [] := by unfold fsB; simp
  refine Ev.if_neg hne ?_
  obtain ⟨K, M, h⟩ := reads l hok (by omega) (eInit ⟨#[]⟩) hr
  exact ⟨max K M, fun k hk => h k k (by omega) (by omega)⟩
/-- What the reference's order comes to. -/
theorem ordered (l : List Fl) (hl : l.length ≤ 2147483647) : Ev (fun k => spec_FieldsOrdered.f k l) (letterL.flatMap fun c => l.filter fun x => decide (x.f0 = c)) := by
  have inner : ∀ (j : Nat) (hj : j < 17) (res : List Fl) (t : List Fl) (i : Nat) (acc : List Fl), l.drop i = t → acc.length + t.length ≤ 5864062014804 →
      Ev (fun k => spec_FieldsOrdered.l0 k l (acc ++ t.filter fun x => decide (x.f0 = letterL[j]'hj)) ((j + 1 : Nat) : Int)) res → Ev (fun k => spec_FieldsOrdered.l1 k l acc (j : Int) (i : Int)) res := by
    intro j hj res t
    have hbt : bt letterS (j : Int) = letterL[j]'hj := by
      rw [← rd_bytesOf, letterS_l]
      unfold Go.Proofs.YthcikkjjegfblabW.PrintWords.rd
      rw [Int.toNat_natCast, List.getD_eq_getElem?_getD, List.getElem?_eq_getElem (show j < letterL.length from hj)]
      rfl
    induction t with
    | nil =>
      intro i acc h hc hres
      have h3 : l.length ≤ i := by simpa using h
      refine Ev.step (fun k => spec_FieldsOrdered.l1.eq_2 _ _ _ _ _) <| Ev.if_neg (by omega) ?_
      rw [show wrap64 ((j : Int) + 1) = ((j + 1 : Nat) : Int) from by rw [wrap64_id (by omega) (by omega)]; omega]
      simpa using hres
    | cons x t ih =>
      intro i acc h hc hres
      obtain ⟨e1, i1, d1⟩ := rd_at h
      have ew : wrap64 ((i : Int) + 1) = ((i + 1 : Nat) : Int) := by rw [wrap64_id (by omega) (by omega)]; omega
      simp only [List.length_cons] at hc
      refine Ev.step (fun k => spec_FieldsOrdered.l1.eq_2 _ _ _ _ _) <| Ev.if_pos (by omega) <| Ev.if_pos (by omega) <| Ev.if_pos (by omega) <| Ev.if_pos (by omega) ?_
      rw [e1, ew, hbt]
      by_cases hx : x.f0 = letterL[j]'hj
      · refine Ev.if_pos hx <| Ev.if_pos (by omega) <| ih (i + 1) _ d1 (by rw [List.length_append]; simp only [List.length_singleton]; omega) ?_
        rw [List.filter_cons, if_pos (by simpa using hx)] at hres
        rw [List.append_assoc]
        exact hres
      · refine Ev.if_neg hx <| ih (i + 1) _ d1 (by omega) ?_
        rw [List.filter_cons, if_neg (by simpa using hx)] at hres
        exact hres
  have outer : ∀ (d j : Nat) (acc : List Fl), j + d = 17 → acc.length ≤ j * 2147483647 → Ev (fun k => spec_FieldsOrdered.l0 k l acc (j : Int)) (acc ++ (letterL.drop j).flatMap fun c => l.filter fun x => decide (x.f0 = c)) := by
    intro d
    induction d with
    | zero =>
      intro j acc hj _
      obtain rfl : j = 17 := by omega
      refine Ev.step (fun k => spec_FieldsOrdered.l0.eq_2 _ _ _ _) <| Ev.if_neg (by omega) <| Ev.to ?_ (Ev.now _)
      simp [letterL]
    | succ d ih =>
      intro j acc hj ha
      have hj17 : j < 17 := by omega
      refine Ev.step (fun k => spec_FieldsOrdered.l0.eq_2 _ _ _ _) <| Ev.if_pos (by omega) ?_
      refine inner j hj17 _ l 0 acc rfl (by omega) ?_
      have hfl := List.length_filter_le (fun x : Fl => decide (x.f0 = letterL[j]'hj17)) l
      refine Ev.to ?_ (ih (j + 1) _ (by omega) (by rw [List.length_append]; omega))
      rw [List.drop_eq_getElem_cons (show j < letterL.length from hj17), List.flatMap_cons, List.append_assoc]
      rfl
  have := outer 17 0 [] rfl (by simp)
  exact this
def optL {β : Type} : Option β → List β
  | some y => [y]
  | none => []
theorem fold_none (c : Int) (hc : c ∈ letterL) : ∀ (t : List Fl) (F : Nat → ByteArray), (∀ x ∈ t, OkF x) → (∀ x ∈ t, x.f0 ≠ c) → getF (t.foldl (fun F x => eStep F x.f0 x.f1) F) c = getF F c := by
  intro t
  induction t with
  | nil => intro F _ _; rfl
  | cons x t ih =>
    intro F ho h
    rw [List.foldl_cons, ih _ (fun y hy => ho y (List.mem_cons_of_mem _ hy)) (fun y hy => h y (List.mem_cons_of_mem _ hy))]
    obtain ⟨j, hj⟩ := letter_slot hc
    unfold getF
    rw [hj]
    simp only [eStep]
    rw [if_neg]
    intro e
    exact h x (by simp) (slot_inj (ho x (by simp)).1 hc (by rw [e, hj]))
theorem one (c : Int) (hc : c ∈ letterL) : ∀ (t : List Fl) (F : Nat → ByteArray), (∀ x ∈ t, OkF x) → (∀ i j, i < j → ∀ (hi : i < t.length) (hj : j < t.length), t[i].f0 ≠ t[j].f0) → getF F c = ⟨#[]⟩ →
    optL (frOne (t.foldl (fun F x => eStep F x.f0 x.f1) F) c) = t.filter fun x => decide (x.f0 = c) := by
  intro t
  induction t with
  | nil => intro F _ _ h; simp [frOne, h, optL]
  | cons x t ih =>
    intro F ho hd h
    have hd' : ∀ i j, i < j → ∀ (hi : i < t.length) (hj : j < t.length), t[i].f0 ≠ t[j].f0 := fun i j hij hi hj => hd (i + 1) (j + 1) (by omega) (by simp; omega) (by simp; omega)
    have ho' : ∀ y ∈ t, OkF y := fun y hy => ho y (List.mem_cons_of_mem _ hy)
    obtain ⟨o1, o2, o3, o4⟩ := ho x (by simp)
    obtain ⟨j, hj⟩ := letter_slot hc
    rw [List.foldl_cons, List.filter_cons]
    by_cases hx : x.f0 = c
    · have hn : ∀ y ∈ t, y.f0 ≠ c := by
        intro y hy e
        obtain ⟨i, hi, rfl⟩ := List.getElem_of_mem hy
        exact hd 0 (i + 1) (by omega) (by simp) (by simp; omega) (by simp only [List.getElem_cons_zero, List.getElem_cons_succ]; rw [hx, e])
      have hg : getF (t.foldl (fun F x => eStep F x.f0 x.f1) (eStep F x.f0 x.f1)) c = x.f1 := by
        rw [fold_none c hc t _ ho' hn]
        unfold getF
        rw [hj]
        simp only [eStep, hx, hj, if_true]
      have hne : ¬ x.f1 = ⟨#[]⟩ := fun e => o2 (by rw [e]; rfl)
      rw [if_pos (by simpa using hx)]
      have hf : t.filter (fun x => decide (x.f0 = c)) = [] := by
        rw [List.filter_eq_nil_iff]; intro y hy; simpa using hn y hy
      rw [hf]
      unfold frOne
      rw [hg, if_neg hne]
      cases x; simp only at hx; subst hx; rfl
    · rw [if_neg (by simpa using hx)]
      refine ih _ ho' hd' ?_
      unfold getF at h ⊢
      rw [hj] at h ⊢
      simp only [eStep] at h ⊢
      rw [if_neg]
      · exact h
      · intro e; exact hx (slot_inj o1 hc (by rw [e, hj]))
theorem filterMap_flat {α β : Type} (g : α → Option β) : ∀ (t : List α), t.filterMap g = t.flatMap fun c => optL (g c)
  | [] => rfl
  | c :: t => by
    rw [List.filterMap_cons, List.flatMap_cons, ← filterMap_flat g t]
    cases g c <;> rfl
theorem init_get (c : Int) : getF (eInit ⟨#[]⟩) c = ⟨#[]⟩ := by
  unfold getF eInit
  cases slotOf c <;> simp
theorem same (l : List Fl) (hok : ∀ x ∈ l, OkF x) (hd : ∀ i j, i < j → ∀ (hi : i < l.length) (hj : j < l.length), l[i].f0 ≠ l[j].f0) :
    frList (l.foldl (fun F x => eStep F x.f0 x.f1) (eInit ⟨#[]⟩)) 17 = letterL.flatMap fun c => l.filter fun x => decide (x.f0 = c) := by
  unfold frList
  rw [show letterL.take 17 = letterL from rfl, filterMap_flat]
  have : ∀ (t : List Int), (∀ c ∈ t, c ∈ letterL) → (t.flatMap fun c => optL (frOne (l.foldl (fun F x => eStep F x.f0 x.f1) (eInit ⟨#[]⟩)) c)) = t.flatMap fun c => l.filter fun x => decide (x.f0 = c) := by
    intro t
    induction t with
    | nil => intro _; rfl
    | cons c t ih =>
      intro h
      rw [List.flatMap_cons, List.flatMap_cons, ih (fun d hd => h d (List.mem_cons_of_mem _ hd)), one c (h c (by simp)) l _ hok hd (init_get c)]
  exact this letterL (fun _ h => h)
theorem alike (l : List Fl) (hl : l.length ≤ 9223372036854775807) : Ev (fun k => laws_FnFault.l0 k l l 0) true := by
  have go : ∀ (t : List Fl) (i : Nat), l.drop i = t → Ev (fun k => laws_FnFault.l0 k l l (i : Int)) true := by
    intro t
    induction t with
    | nil =>
      intro i h
      have h3 : l.length ≤ i := by simpa using h
      exact Ev.step (fun k => laws_FnFault.l0.eq_2 _ _ _ _) <| Ev.if_neg (by omega) <| Ev.now _
    | cons x t ih =>
      intro i h
      obtain ⟨e1, i1, d1⟩ := rd_at h
      have ew : wrap64 ((i : Int) + 1) = ((i + 1 : Nat) : Int) := by rw [wrap64_id (by omega) (by omega)]; omega
      refine Ev.step (fun k => laws_FnFault.l0.eq_2 _ _ _ _) <| Ev.if_pos (by omega) <| Ev.if_pos (by omega) <| Ev.if_pos (by omega) <| Ev.if_neg (by simp) ?_
      rw [ew]
      exact ih (i + 1) d1
  exact go l 0 rfl
theorem FnFault (l : List Fl) (hl : l.length * 24 ≤ 140737488351232) (hg : ∀ x ∈ l, (Lit.int .u8 x.f0).wf = true ∧ x.f1.size ≤ maxLen) : ∃ k, laws_FnFault.f k l = some true := by
  suffices h : Ev (fun k => laws_FnFault.f k l) true from h.rounds
  obtain ⟨b, hb, hb1⟩ := fits l (by omega)
  unfold laws_FnFault.f
  refine Ev.bind hb ?_
  cases b with
  | false => exact Ev.if_neg (by simp) <| Ev.now _
  | true =>
    have hl2 := (hb1 rfl).1
    refine Ev.if_pos rfl ?_
    have hsz : ∀ x ∈ l, x.f1.size ≤ 2305843009213693952 := fun x hx => Nat.le_trans ((hb1 rfl).2 x hx) (by omega)
    obtain ⟨q, hq, hq1⟩ := right l (by omega) hsz
    refine Ev.bind hq ?_
    cases q with
    | false => exact Ev.if_neg (by simp) <| Ev.now _
    | true =>
      obtain ⟨hok, hd⟩ := hq1 rfl
      have hs := same l hok hd
      have hf := fault_of l hl2 hok
      rw [hs] at hf
      refine Ev.if_pos rfl <| Ev.bind (body l hl2 hok) <| Ev.bind hf <| Ev.bind (ordered l hl2) <| Ev.if_pos rfl ?_
      refine Ev.step (fun k => laws_FnFault.j0.eq_2 _ _ _ _) <| Ev.if_neg (by simp) <| alike _ ?_
      have : ∀ (t : List Int), (t.flatMap fun c => l.filter fun x => decide (x.f0 = c)).length ≤ t.length * l.length := by
        intro t
        induction t with
        | nil => simp
        | cons c t ih =>
          have hfl := List.length_filter_le (fun x : Fl => decide (x.f0 = c)) l
          rw [List.flatMap_cons, List.length_append, List.length_cons, Nat.succ_mul]
          omega
      have h17 := this letterL
      have : letterL.length = 17 := rfl
      rw [this] at h17
      exact Nat.le_trans h17 (by omega)
end Go.Proofs.Ythcikkjjegfblab.Pure
