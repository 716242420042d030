/- What spec.Elements tells of a literal is what Scan tells, where it is sure. Conditions: at most 2000 bytes. -/
import Derived.Test.YtcdcoogjhkchlaaGreatDoorLibParsed2
import Derived.Test.YtcdcoogjhkchlaaGreatDoorScanWhole
import Derived.Test.YtcdcoogjhkchlaaGreatDoorScanT
import Derived.Test.YtcdcoogjhkchlaaGreatDoorPe
import Derived.Test.YtcdcoogjhkchlaaGreatDoorPs
namespace Go.Proofs.YtcdcoogjhkchlaaGreatDoor.Lib
open Go.RowKit Go.Proofs.YtcdcoogjhkchlaaGreatDoor.P Go.Proofs.YtcdcoogjhkchlaaGreatDoorW.PrintWords Go.Proofs.YtcdcoogjhkchlaaGreatDoorW.PrintLast Go.Proofs.YtcdcoogjhkchlaaGreatDoorW.PrintMore
set_option linter.unusedVariables false
set_option linter.unusedSimpArgs false
theorem bytes_in (s : ByteArray) : ∀ x ∈ bytesOf s, 0 ≤ x ∧ x < 256 := by
  intro x hx
  have := bytesOf_range hx
  omega
theorem array_f {s del : ByteArray} {d : Int} (hd : bytesOf del = [d]) (hs : s.size ≤ 1000000) : spec_Array.f s del = some (arrIt (spArr d (bytesOf s))) := by
  unfold spec_Array.f
  rw [hd]
  simp only [if_pos hs]
def In8 (l : List Int) : Prop := ∀ y ∈ l, 0 ≤ y ∧ y < 256
def Rng (els : List (Option (List Int))) : Prop := ∀ x ∈ els, ∀ l, x = some l → In8 l
theorem Rng.snoc {els : List (Option (List Int))} {x : Option (List Int)} (h : Rng els) (hx : ∀ l, x = some l → In8 l) : Rng (els ++ [x]) := by
  intro y hy
  rcases List.mem_append.1 hy with hy | hy
  · exact h y hy
  · rw [List.mem_singleton.1 hy]; exact hx
theorem scanQ_rng : ∀ (l : List Int) (b : Bool) (acc e t : List Int), Arr.scanQ l b acc = some (e, t) → In8 l → In8 acc → In8 e ∧ In8 t
  | [], b, acc, e, t, h, _, _ => by unfold Arr.scanQ at h; cases h
  | c :: l, true, acc, e, t, h, hl, ha => by
    unfold Arr.scanQ at h
    refine scanQ_rng l false _ e t h (fun y hy => hl y (by simp [hy])) (fun y hy => ?_)
    rcases List.mem_append.1 hy with hy | hy
    · exact ha y hy
    · rw [List.mem_singleton.1 hy]; exact hl c (by simp)
  | c :: l, false, acc, e, t, h, hl, ha => by
    have hl2 : In8 l := fun y hy => hl y (by simp [hy])
    unfold Arr.scanQ at h
    split at h
    · exact scanQ_rng l true _ e t h hl2 ha
    · split at h
      · injection h with h; injection h with h1 h2; subst h1; subst h2; exact ⟨ha, hl2⟩
      · refine scanQ_rng l false _ e t h hl2 (fun y hy => ?_)
        rcases List.mem_append.1 hy with hy | hy
        · exact ha y hy
        · rw [List.mem_singleton.1 hy]; exact hl c (by simp)
theorem elOf_rng (w l : List Int) (h : Arr.elOf w = some l) (hw : In8 w) : In8 l := by
  unfold Arr.elOf at h
  split at h
  · cases h
  · injection h with h; subst h; exact hw
theorem pm_rng (d : Int) (n : Nat) : ∀ (N : Nat) (m : Bool) (r : List Int) (k : Nat) (D : List Int) (els : List (Option (List Int))) (D' : List Int) (els' : List (Option (List Int))), r.length ≤ N → In8 r → Rng els → Arr.pm d n m r k D els = some (D', els') → Rng els' := by
  intro N
  induction N with
  | zero =>
    intro m r k D els D' els' hN hM hS h
    cases r with
    | cons c t => simp at hN
    | nil =>
      cases m with
      | true => rw [Arr.pm] at h; cases h
      | false =>
        rw [Arr.pm] at h
        split at h
        · split at h
          · injection h with h; injection h with _ h; subst h; exact hS
          · cases h
        · cases h
  | succ N ih =>
    intro m r k D els D' els' hN hM hS h
    cases r with
    | nil =>
      cases m with
      | true => rw [Arr.pm] at h; cases h
      | false =>
        rw [Arr.pm] at h
        split at h
        · split at h
          · injection h with h; injection h with _ h; subst h; exact hS
          · cases h
        · cases h
    | cons c t =>
      simp only [List.length_cons] at hN
      have hMt : In8 t := fun y hy => hM y (by simp [hy])
      cases m with
      | false =>
        rw [Arr.pm] at h
        split at h
        · exact ih _ _ _ _ _ _ _ (by omega) hMt hS h
        · split at h
          · exact ih _ _ _ _ _ _ _ (by omega) hMt hS h
          · cases h
      | true =>
        by_cases h1 : c = 123
        · rw [Arr.pm, if_pos h1] at h
          split at h
          · cases h
          · exact ih _ _ _ _ _ _ _ (by omega) hMt hS h
        by_cases h2 : c = 34
        · subst h2
          cases hq : Arr.scanQ t false [] with
          | none => rw [Arr.pm_quote_none hq] at h; cases h
          | some p =>
            rw [Arr.pm_quote hq] at h
            have hl := Arr.scanQ_le t false [] p.1 p.2 hq
            have hr := scanQ_rng t false [] p.1 p.2 hq hMt (fun y hy => by cases hy)
            exact ih _ _ _ _ _ _ _ (by omega) hr.2 (hS.snoc (fun l hl2 => by injection hl2 with hl2; subst hl2; exact hr.1)) h
        by_cases h3 : (Arr.scanEl d (c :: t)).2 = [] ∨ (Arr.scanEl d (c :: t)).1 = []
        · rw [Arr.pm_word_none h1 h2 h3] at h; cases h
        · rw [Arr.pm_word h1 h2 (fun e => h3 (.inl e)) (fun e => h3 (.inr e))] at h
          have hap := Arr.scanEl_app d (c :: t)
          have ha := congrArg List.length hap
          rw [List.length_append] at ha
          have hp : 0 < (Arr.scanEl d (c :: t)).1.length := List.length_pos_iff.mpr (fun e => h3 (.inr e))
          simp only [List.length_cons] at ha
          have hm1 : In8 (Arr.scanEl d (c :: t)).1 := fun y hy => hM y (by rw [← hap]; exact List.mem_append_left _ hy)
          have hm2 : In8 (Arr.scanEl d (c :: t)).2 := fun y hy => hM y (by rw [← hap]; exact List.mem_append_right _ hy)
          exact ih _ _ _ _ _ _ _ (by omega) hm2 (hS.snoc (fun l hl2 => elOf_rng _ _ hl2 hm1)) h
theorem lnF_rng (l : List Int) (hp : paIs 44 l) : ∀ els, lnF 44 l = some els → Rng els := by
  intro els h
  have hl : In8 l := hp.2.2.2.2.1
  unfold lnF at h
  split at h
  · cases h
  · rename_i p hp2
    split at h
    · cases h
    · injection h with h
      subst h
      unfold paF at hp2
      split at hp2
      · injection hp2 with hp2; rw [← hp2]; intro x hx; cases hx
      · split at hp2
        · cases hp2
        · refine pm_rng 44 (braces l) (l.drop (braces l)).length true (l.drop (braces l)) (braces l) (List.replicate (braces l) 0) [] p.1 p.2 (Nat.le_refl _) (fun y hy => hl y (List.mem_of_mem_drop hy)) (fun x hx => by cases hx) ?_
          exact hp2
theorem son_list (l : List Int) (h : In8 l) : (strOfNums l).toList = l.map (fun n => UInt8.ofNat n.toNat) := by
  rw [ByteArray.toList_eq]
  unfold strOfNums
  simp
theorem son_one (l : List Int) (h : In8 l) (c : Int) (hc : 0 ≤ c ∧ c < 256) : (strOfNums l).toList = [UInt8.ofNat c.toNat] ↔ l = [c] := by
  rw [son_list l h]
  constructor
  · intro e
    cases l with
    | nil => cases e
    | cons a t =>
      cases t with
      | cons b r => simp at e
      | nil =>
        have ha := h a (by simp)
        rw [List.map_cons, List.map_nil] at e
        injection e with e _
        have e2 := congrArg UInt8.toNat e
        rw [UInt8.toNat_ofNat', UInt8.toNat_ofNat'] at e2
        have : a = c := by omega
        rw [this]
  · intro e; subst e; rfl
/-- What the reference says of an element of a kind. -/
def oneOk {α : Type} (kind : Int) (f : Option (List Int) → Option α) (it : α → S34) (x : Option (List Int)) : Prop :=
  ∃ R : Bool × ByteArray × Int × Nat × Bool × Bool × Bool, Ev (fun k => spec_one.f k kind (sIt x).f0 (sIt x).f1 (sIt x).f2 (sIt x).f3 (sIt x).f4) R ∧ (R.2.2.2.2.2.2 = true → (R.2.2.2.2.2.1 = true → ∃ v, f x = some v ∧ (⟨R.1, R.2.1, R.2.2.1, R.2.2.2.1, R.2.2.2.2.1⟩ : S34) = it v) ∧ (R.2.2.2.2.2.1 = false → f x = none))
theorem one_null {α : Type} (kind : Int) (f : Option (List Int) → Option α) (it : α → S34) (h : f none = none) : oneOk kind f it none := by
  refine ⟨(false, ⟨#[]⟩, 0, 0, false, false, true), ?_, fun _ => ⟨fun h => (by cases h), fun _ => h⟩⟩
  unfold spec_one.f
  exact Ev.if_pos rfl <| Ev.now _
theorem one_S (x : Option (List Int)) : oneOk 4 elS it_S x := by
  cases x with
  | none => exact one_null 4 elS it_S rfl
  | some l =>
    refine ⟨(false, strOfNums l, 0, 0, false, true, true), ?_, fun _ => ⟨fun _ => ⟨strOfNums l, rfl, rfl⟩, fun h => (by cases h)⟩⟩
    unfold spec_one.f
    exact Ev.if_neg (by simp [sIt]) <| Ev.if_neg (by decide) <| Ev.if_neg (by decide) <| Ev.if_neg (by decide) <| Ev.now _
theorem one_B (x : Option (List Int)) (hx : ∀ l, x = some l → In8 l) : oneOk 1 elB it_B x := by
  cases x with
  | none => exact one_null 1 elB it_B rfl
  | some l =>
    have h1 := son_one l (hx l rfl) 116 (by omega)
    have h2 := son_one l (hx l rfl) 102 (by omega)
    have e1 : (UInt8.ofNat (116 : Int).toNat) = 116 := rfl
    have e2 : (UInt8.ofNat (102 : Int).toNat) = 102 := rfl
    rw [e1] at h1
    rw [e2] at h2
    refine ⟨(false, ⟨#[]⟩, 0, 0, decide ((strOfNums l).toList = [116]), decide ((strOfNums l).toList = [116]) || decide ((strOfNums l).toList = [102]), true), ?_, fun _ => ?_⟩
    · unfold spec_one.f
      exact Ev.if_neg (by simp [sIt]) <| Ev.if_pos rfl <| Ev.now _
    · by_cases hl1 : l = [116]
      · have d1 : decide ((strOfNums l).toList = [116]) = true := decide_eq_true (h1.2 hl1)
        rw [d1]
        exact ⟨fun _ => ⟨true, by rw [hl1]; rfl, rfl⟩, fun h => (by cases h)⟩
      · have d1 : decide ((strOfNums l).toList = [116]) = false := decide_eq_false (fun h => hl1 (h1.1 h))
        rw [d1]
        by_cases hl2 : l = [102]
        · have d2 : decide ((strOfNums l).toList = [102]) = true := decide_eq_true (h2.2 hl2)
          rw [d2]
          exact ⟨fun _ => ⟨false, by rw [hl2]; rfl, rfl⟩, fun h => (by cases h)⟩
        · have d2 : decide ((strOfNums l).toList = [102]) = false := decide_eq_false (fun h => hl2 (h2.1 h))
          rw [d2]
          refine ⟨fun h => (by cases h), fun _ => ?_⟩
          cases l with
          | nil => rfl
          | cons a t => cases t with
            | cons b r => rfl
            | nil =>
              show (if a = 116 then some true else if a = 102 then some false else none) = none
              rw [if_neg (fun h => hl1 (by rw [h])), if_neg (fun h => hl2 (by rw [h]))]
theorem elI_of (B : Nat) (l : List Int) (v : Int) (h : Go.Lib.parseIntB B (strOfNums l).data.toList = .ok v) : elI B (some l) = some v := by
  show (match Go.Lib.parseIntB B (strOfNums l).data.toList with | .ok v => some v | _ => none) = some v
  rw [h]
theorem elI_no (B : Nat) (l : List Int) (h : ∀ v, Go.Lib.parseIntB B (strOfNums l).data.toList ≠ .ok v) : elI B (some l) = none := by
  show (match Go.Lib.parseIntB B (strOfNums l).data.toList with | .ok v => some v | _ => none) = none
  cases hq : Go.Lib.parseIntB B (strOfNums l).data.toList with
  | ok v => exact absurd hq (h v)
  | «syntax» => rfl
  | range => rfl
theorem fits64 (l : List UInt8) (hd : allD (splitS l).2) (h18 : (splitS l).2.length ≤ 18) : -1000000000000000000 < numS l ∧ numS l < 1000000000000000000 := by
  have hv : ∀ (l : List UInt8) (acc j : Nat), allD l → acc < p10 j → valN acc l < p10 (j + l.length) := by
    intro l
    induction l with
    | nil => intro acc j _ h; exact h
    | cons c r ih =>
      intro acc j hd h
      have hc := hd c (by simp)
      have := ih (acc * 10 + (c.toNat - 48)) (j + 1) (fun x hx => hd x (by simp [hx])) (by rw [p10_succ]; omega)
      rw [valN_cons, List.length_cons, show j + (r.length + 1) = j + 1 + r.length by omega]
      exact this
  have h1 := hv _ 0 0 hd (show 0 < 1 by omega)
  have h2 := pow18 (0 + (splitS l).2.length) (by omega)
  unfold numS
  split <;> omega
theorem one_I (x : Option (List Int)) (hx : ∀ l, x = some l → l.length ≤ 1000000) : oneOk 2 (elI 64) it_I x := by
  cases x with
  | none => exact one_null 2 (elI 64) it_I rfl
  | some l =>
    have hsz : (strOfNums l).size ≤ 1000000 := by rw [son_size]; exact hx l rfl
    obtain ⟨R, hR, hq⟩ := whole (strOfNums l) hsz
    refine ⟨(false, ⟨#[]⟩, R.1, 0, false, R.2.1, R.2.2), ?_, fun hc => ?_⟩
    · unfold spec_one.f
      exact Ev.if_neg (by simp [sIt]) <| Ev.if_neg (by decide) <| Ev.if_pos rfl <| Ev.bind hR <| Ev.now _
    · rcases hq hc with ⟨h1, h2⟩ | ⟨h1, h2, h3, h4, h5⟩
      · exact ⟨fun h => (by rw [show R.2.1 = true from h] at h1; cases h1), fun _ => elI_no 64 l (fun v => pi_bad 64 _ h2 v)⟩
      · refine ⟨fun _ => ⟨R.1, ?_, rfl⟩, fun h => (by rw [show R.2.1 = false from h] at h1; cases h1)⟩
        have hf := fits64 _ h3 h4
        rw [h5]
        have e : ((2 ^ (64 - 1) : Nat) : Int) = 9223372036854775808 := by decide
        exact elI_of 64 l _ ((pi_ok 64 (.inl rfl) _ h2 h3 h4).1 (by unfold fitsB; rw [e]; omega))
theorem one_J (x : Option (List Int)) (hx : ∀ l, x = some l → l.length ≤ 1000000) : oneOk 6 (elI 32) it_J x := by
  cases x with
  | none => exact one_null 6 (elI 32) it_J rfl
  | some l =>
    have hsz : (strOfNums l).size ≤ 1000000 := by rw [son_size]; exact hx l rfl
    obtain ⟨R, hR, hq⟩ := whole (strOfNums l) hsz
    have e31 : ((2 ^ (32 - 1) : Nat) : Int) = 2147483648 := by decide
    refine ⟨(false, ⟨#[]⟩, R.1, 0, false, R.2.1 && (IntKind.i32.wrap R.1 == R.1), R.2.2), ?_, fun hc => ?_⟩
    · unfold spec_one.f
      exact Ev.if_neg (by simp [sIt]) <| Ev.if_neg (by decide) <| Ev.if_neg (by decide) <| Ev.if_pos rfl <| Ev.bind hR <| Ev.now _
    · rcases hq hc with ⟨h1, h2⟩ | ⟨h1, h2, h3, h4, h5⟩
      · refine ⟨fun h => ?_, fun _ => elI_no 32 l (fun v => pi_bad 32 _ h2 v)⟩
        have h' : (R.2.1 && (IntKind.i32.wrap R.1 == R.1)) = true := h
        rw [h1] at h'; cases h'
      · have hw : IntKind.i32.wrap R.1 = R.1 ↔ fitsB 32 R.1 := by
          rw [i32_w]
          unfold fitsB wrap32
          rw [e31]
          omega
        have hp := pi_ok 32 (.inr rfl) _ h2 h3 h4
        rw [← h5] at hp
        by_cases hf : fitsB 32 R.1
        · have e1 : (IntKind.i32.wrap R.1 == R.1) = true := beq_iff_eq.mpr (hw.2 hf)
          rw [h1, e1]
          refine ⟨fun _ => ⟨R.1, elI_of 32 l _ (hp.1 hf), ?_⟩, fun h => (by cases h)⟩
          unfold fitsB at hf
          rw [e31] at hf
          show _ = (⟨false, ByteArray.empty, wrap64 R.1, 0, false⟩ : S34)
          rw [wrap64_id (by omega) (by omega)]
          rfl
        · have e1 : (IntKind.i32.wrap R.1 == R.1) = false := beq_eq_false_iff_ne.mpr (fun h => hf (hw.1 h))
          rw [h1, e1]
          exact ⟨fun h => (by cases h), fun _ => elI_no 32 l (hp.2 hf)⟩
theorem rd_sIt (els : List (Option (List Int))) (i : Nat) (hi : i < els.length) : rd_T34 (els.map sIt) (i : Int) = sIt (els.getD i none) := by
  unfold rd_T34
  rw [Int.toNat_natCast, List.getD_eq_getElem?_getD, List.getElem?_map, List.getD_eq_getElem?_getD, List.getElem?_eq_getElem hi]
  rfl
theorem elements_l {α : Type} (kind : Int) (f : Option (List Int) → Option α) (it : α → S34) (els : List (Option (List Int))) (hL : els.length ≤ 1000000) (hone : ∀ x ∈ els, oneOk kind f it x) : ∀ (m i : Nat) (u : List α), i + m = els.length → u.length = i → scanV f (els.take i) = some u →
    ∃ R : List S34 × Bool × Bool, Ev (fun k => spec_Elements.l0 k kind (u.map it) (els.map sIt) (i : Int)) R ∧ (R.2.2 = true → (R.2.1 = true → ∃ vs, scanV f els = some vs ∧ R.1 = vs.map it) ∧ (R.2.1 = false → scanV f els = none)) := by
  intro m
  induction m with
  | zero =>
    intro i u hi hu hs
    refine ⟨(u.map it, true, true), ?_, fun _ => ⟨fun _ => ⟨u, ?_, rfl⟩, fun h => (by cases h)⟩⟩
    · exact Ev.step (fun k => spec_Elements.l0.eq_2 _ _ _ _ _) <| Ev.if_neg (by rw [List.length_map]; omega) <| Ev.now _
    · rw [show i = els.length by omega, List.take_length] at hs; exact hs
  | succ m ih =>
    intro i u hi hu hs
    have hlt : i < els.length := by omega
    have hmem : els.getD i none ∈ els := by rw [List.getD_eq_getElem?_getD, List.getElem?_eq_getElem hlt]; exact List.getElem_mem hlt
    obtain ⟨R, hR, hq⟩ := hone _ hmem
    have hw : wrap64 ((i : Int) + 1) = ((i + 1 : Nat) : Int) := by unfold wrap64; omega
    have step : ∀ R2, Ev (fun k => (if R.2.2.2.2.2.2 = true then (if R.2.2.2.2.2.1 = true then (if (u.map it).length < 2932031007402 then (spec_Elements.l0 k kind (u.map it ++ [(⟨R.1, R.2.1, R.2.2.1, R.2.2.2.1, R.2.2.2.2.1⟩ : S34)]) (els.map sIt) (wrap64 ((i : Int) + 1))) else none) else some (([] : List S34), false, true)) else some (([] : List S34), false, false))) R2 → Ev (fun k => spec_Elements.l0 k kind (u.map it) (els.map sIt) (i : Int)) R2 := fun R2 hR2 => by
      refine Ev.step (fun k => spec_Elements.l0.eq_2 _ _ _ _ _) <| Ev.if_pos (by rw [List.length_map]; omega) <| Ev.if_pos (by omega) ?_
      rw [rd_sIt els i hlt]
      exact Ev.bind hR hR2
    by_cases h7 : R.2.2.2.2.2.2 = true
    · by_cases h6 : R.2.2.2.2.2.1 = true
      · obtain ⟨v, hv, he⟩ := (hq h7).1 h6
        obtain ⟨R2, hR2, hq2⟩ := ih (i + 1) (u ++ [v]) (by omega) (by rw [List.length_append, hu]; rfl) (scanV_yes hlt hs hv)
        refine ⟨R2, step R2 ?_, hq2⟩
        rw [he, hw]
        have e2 : u.map it ++ [it v] = (u ++ [v]).map it := by simp
        rw [e2]
        exact Ev.if_pos h7 <| Ev.if_pos h6 <| Ev.if_pos (by rw [List.length_map]; omega) hR2
      · have h6 : R.2.2.2.2.2.1 = false := Bool.eq_false_iff.mpr h6
        refine ⟨([], false, true), step _ (Ev.if_pos h7 <| Ev.if_neg (by rw [h6]; simp) <| Ev.now _), fun _ => ⟨fun h => (by cases h), fun _ => scanV_no hlt ((hq h7).2 h6)⟩⟩
    · exact ⟨([], false, false), step _ (Ev.if_neg h7 <| Ev.now _), fun h => by cases h⟩
/-- spec.Elements, where it is sure, and Scan. -/
theorem elements {α : Type} (kind : Int) (f : Option (List Int) → Option α) (it : α → S34) (t : ByteArray) (ht : t.size ≤ 2000) (hone : ∀ els, paIs 44 (bytesOf t) → lnF 44 (bytesOf t) = some els → ∀ x ∈ els, oneOk kind f it x) :
    ∃ R : List S34 × Bool × Bool, Ev (fun k => spec_Elements.f k kind t) R ∧ (R.2.2 = true → paIs 44 (bytesOf t) ∧ (R.2.1 = true → ∃ vs, scanAll f (bytesOf t) = some vs ∧ R.1 = vs.map it) ∧ (R.2.1 = false → scanAll f (bytesOf t) = none)) := by
  have hd : bytesOf (⟨#[44]⟩ : ByteArray) = [44] := by decide
  have ha := array_f (s := t) hd (by omega)
  unfold spec_Elements.f
  have stop : ∀ (b : Bool), Ev (fun k => spec_Elements.j0 k kind ([] : List S34) (arrIt (spArr 44 (bytesOf t))).2.1 b true) (([] : List S34), false, b) := fun b => Ev.step (fun k => spec_Elements.j0.eq_2 _ _ _ _ _ _) <| Ev.if_pos rfl <| Ev.now _
  by_cases hsure : (spArr 44 (bytesOf t)).2.2.2 = true
  · obtain ⟨hp, hy, hn⟩ := sure_of 44 (by decide) (by decide) (by decide) (by omega) (bytesOf t) (by rw [bytesOf_length]; omega) (bytes_in t) hsure
    by_cases hf : (spArr 44 (bytesOf t)).2.2.1 = true
    · have hpa := hy hf
      by_cases hlen : 1 < (spArr 44 (bytesOf t)).1.length
      · have hln : lnF 44 (bytesOf t) = none := by
          unfold lnF
          rw [hpa]
          exact if_pos hlen
        refine ⟨(([] : List S34), false, true), Ev.bind (Ev.const ha) <| Ev.if_pos hsure <| Ev.if_pos hf ?_, fun _ => ⟨hp, fun h => (by cases h), fun _ => ?_⟩⟩
        · have e : decide (((arrIt (spArr 44 (bytesOf t))).1.length : Int) > 1) = true := decide_eq_true (by show ((spArr 44 (bytesOf t)).1.length : Int) > 1; omega)
          rw [e]
          have := stop (arrIt (spArr 44 (bytesOf t))).2.2.2
          rw [show (arrIt (spArr 44 (bytesOf t))).2.2.2 = true from hsure] at this ⊢
          exact this
        · unfold scanAll; rw [hln]; rfl
      · have hln : lnF 44 (bytesOf t) = some (spArr 44 (bytesOf t)).2.1 := by
          unfold lnF
          rw [hpa]
          exact if_neg hlen
        obtain ⟨R, hR, hq⟩ := elements_l kind f it (spArr 44 (bytesOf t)).2.1 (lnF_len' 44 _ hp _ hln) (hone _ hp hln) (spArr 44 (bytesOf t)).2.1.length 0 [] (by omega) rfl rfl
        refine ⟨R, Ev.bind (Ev.const ha) <| Ev.if_pos hsure <| Ev.if_pos hf ?_, fun h => ⟨hp, ?_⟩⟩
        · have e : decide (((arrIt (spArr 44 (bytesOf t))).1.length : Int) > 1) = false := decide_eq_false (by show ¬ ((spArr 44 (bytesOf t)).1.length : Int) > 1; omega)
          rw [e]
          exact Ev.step (fun k => spec_Elements.j0.eq_2 _ _ _ _ _ _) <| Ev.if_neg (by simp) hR
        · have he : scanAll f (bytesOf t) = scanV f (spArr 44 (bytesOf t)).2.1 := by unfold scanAll; rw [hln]; rfl
          rw [he]
          exact hq h
    · have hpa := hn (by simpa using hf)
      have hln : lnF 44 (bytesOf t) = none := by
        unfold lnF
        rw [hpa]
      refine ⟨(([] : List S34), false, true), Ev.bind (Ev.const ha) <| Ev.if_pos hsure <| Ev.if_neg hf ?_, fun _ => ⟨hp, fun h => (by cases h), fun _ => ?_⟩⟩
      · have := stop (arrIt (spArr 44 (bytesOf t))).2.2.2
        rw [show (arrIt (spArr 44 (bytesOf t))).2.2.2 = true from hsure] at this ⊢
        exact this
      · unfold scanAll; rw [hln]; rfl
  · have hs2 : (spArr 44 (bytesOf t)).2.2.2 = false := Bool.eq_false_iff.mpr hsure
    refine ⟨(([] : List S34), false, false), Ev.bind (Ev.const ha) <| Ev.if_neg hsure ?_, fun h => by cases h⟩
    have := stop (arrIt (spArr 44 (bytesOf t))).2.2.2
    rw [show (arrIt (spArr 44 (bytesOf t))).2.2.2 = false from hs2] at this ⊢
    exact this
theorem same_it {α : Type} (it : α → S34) (h0 : ∀ v, (it v).f3 = 0) (vs : List α) (hl : vs.length ≤ 1000000) : spec_SameItems.f (vs.map it) (vs.map it) = some true := by
  have go : ∀ l : List α, sameL (l.map it) (l.map it) = true := by
    intro l
    induction l with
    | nil => rfl
    | cons x t ih =>
      rw [List.map_cons, sameL, ih]
      simp [sameS, h0]
  unfold spec_SameItems.f
  rw [if_pos ⟨go vs, by rw [List.length_map]; exact hl⟩]
end Go.Proofs.YtcdcoogjhkchlaaGreatDoor.Lib
