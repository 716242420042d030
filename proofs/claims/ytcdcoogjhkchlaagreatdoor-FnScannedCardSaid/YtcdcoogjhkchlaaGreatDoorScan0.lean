/- What the elements of an array say of a kind, and strconv.ParseInt over the shelf's contracts. Conditions: what the two error variables hold is named. -/
import Derived.Test.YtcdcoogjhkchlaaGreatDoorPl
import Derived.Test.YtcdcoogjhkchlaaGreatDoorShelf
import Derived.Lib.SliceRun
import Derived.WalkSpells
namespace Go.Proofs.YtcdcoogjhkchlaaGreatDoor.P
open Go.RowKit Go.Proofs.YtcdcoogjhkchlaaGreatDoorW.PrintWords Go.Proofs.YtcdcoogjhkchlaaGreatDoorW.PrintLast Go.Proofs.YtcdcoogjhkchlaaGreatDoorW.PrintMore
set_option linter.unusedVariables false
set_option linter.unusedSimpArgs false

theorem pm_len (d : Int) (n : Nat) : ∀ (N : Nat) (m : Bool) (r : List Int) (k : Nat) (D : List Int) (els : List (Option (List Int))) (D' : List Int) (els' : List (Option (List Int))), r.length ≤ N → Arr.pm d n m r k D els = some (D', els') → els'.length ≤ els.length + r.length := by
  intro N
  induction N with
  | zero =>
    intro m r k D els D' els' hN h
    cases r with
    | cons c t => simp at hN
    | nil =>
      cases m with
      | true => rw [Arr.pm] at h; cases h
      | false =>
        rw [Arr.pm] at h
        split at h
        · split at h
          · injection h with h; injection h with _ h; subst h; omega
          · cases h
        · cases h
  | succ N ih =>
    intro m r k D els D' els' hN h
    cases r with
    | nil =>
      cases m with
      | true => rw [Arr.pm] at h; cases h
      | false =>
        rw [Arr.pm] at h
        split at h
        · split at h
          · injection h with h; injection h with _ h; subst h; omega
          · cases h
        · cases h
    | cons c t =>
      simp only [List.length_cons] at hN ⊢
      cases m with
      | false =>
        rw [Arr.pm] at h
        split at h
        · have := ih _ _ _ _ _ _ _ (by omega) h; omega
        · split at h
          · have := ih _ _ _ _ _ _ _ (by omega) h; omega
          · cases h
      | true =>
        by_cases h1 : c = 123
        · rw [Arr.pm, if_pos h1] at h
          split at h
          · cases h
          · have := ih _ _ _ _ _ _ _ (by omega) h; omega
        by_cases h2 : c = 34
        · subst h2
          cases hq : Arr.scanQ t false [] with
          | none => rw [Arr.pm_quote_none hq] at h; cases h
          | some p =>
            rw [Arr.pm_quote hq] at h
            have hl := Arr.scanQ_le t false [] p.1 p.2 hq
            have := ih _ _ _ _ _ _ _ (by omega) h
            rw [List.length_append] at this
            simp only [List.length_cons, List.length_nil] at this
            omega
        by_cases h3 : (Arr.scanEl d (c :: t)).2 = [] ∨ (Arr.scanEl d (c :: t)).1 = []
        · rw [Arr.pm_word_none h1 h2 h3] at h; cases h
        · rw [Arr.pm_word h1 h2 (fun e => h3 (.inl e)) (fun e => h3 (.inr e))] at h
          have ha := congrArg List.length (Arr.scanEl_app d (c :: t))
          rw [List.length_append] at ha
          have hp : 0 < (Arr.scanEl d (c :: t)).1.length := List.length_pos_iff.mpr (fun e => h3 (.inr e))
          simp only [List.length_cons] at ha
          have := ih _ _ _ _ _ _ _ (by omega) h
          rw [List.length_append] at this
          simp only [List.length_cons, List.length_nil] at this
          omega
instance (d : Int) (l : List Int) : Decidable (paIs d l) := by unfold paIs; infer_instance
theorem paF_len (d : Int) (l : List Int) (hp : paIs d l) : ∀ D els, paF d l = some (D, els) → els.length ≤ 1000000 := by
  intro D els h
  have hl := hp.2.2.2.1
  unfold paF at h
  split at h
  · injection h with h; injection h with _ h; subst h; simp
  · split at h
    · cases h
    · have := pm_len d _ _ true _ _ _ [] D els (Nat.le_refl _) h
      rw [List.length_drop] at this
      simp only [List.length_nil] at this
      omega
theorem lnF_len' (d : Int) (l : List Int) (hp : paIs d l) : ∀ els, lnF d l = some els → els.length ≤ 1000000 := by
  intro els h
  unfold lnF at h
  split at h
  · cases h
  · rename_i p hp2
    split at h
    · cases h
    · injection h with h
      subst h
      exact paF_len d l hp p.1 p.2 hp2
def scanV {α : Type} (f : Option (List Int) → Option α) : List (Option (List Int)) → Option (List α)
  | [] => some []
  | x :: t => (f x).bind fun v => (scanV f t).map fun l => v :: l
theorem scanV_append {α : Type} (f : Option (List Int) → Option α) (b : List (Option (List Int))) : ∀ a, scanV f (a ++ b) = (scanV f a).bind fun u => (scanV f b).map fun l => u ++ l
  | [] => by simp [scanV]
  | x :: t => by
    rw [List.cons_append, scanV, scanV, scanV_append f b t]
    cases f x with
    | none => rfl
    | some v => cases scanV f t <;> cases scanV f b <;> rfl
theorem scanV_len {α : Type} (f : Option (List Int) → Option α) : ∀ (a : List (Option (List Int))) (u : List α), scanV f a = some u → u.length = a.length
  | [], u, h => by rw [scanV] at h; injection h with h; subst h; rfl
  | x :: t, u, h => by
    rw [scanV] at h
    obtain ⟨v, _, h2⟩ := Option.bind_eq_some_iff.mp h
    obtain ⟨l, h3, rfl⟩ := Option.map_eq_some_iff.mp h2
    rw [List.length_cons, List.length_cons, scanV_len f t l h3]
theorem scan_take {els : List (Option (List Int))} {i : Nat} (hi : i < els.length) : els.take (i + 1) = els.take i ++ [els.getD i none] := by
  rw [List.take_add_one, List.getD_eq_getElem?_getD]
  simp [hi]
theorem scanV_yes {α : Type} {f : Option (List Int) → Option α} {els : List (Option (List Int))} {i : Nat} {u : List α} {v : α} (hi : i < els.length) (hu : scanV f (els.take i) = some u) (hv : f (els.getD i none) = some v) : scanV f (els.take (i + 1)) = some (u ++ [v]) := by
  rw [scan_take hi, scanV_append, hu]
  simp only [scanV, hv, Option.bind_some, Option.map_some]
theorem scanV_no {α : Type} {f : Option (List Int) → Option α} {els : List (Option (List Int))} {i : Nat} (hi : i < els.length) (hv : f (els.getD i none) = none) : scanV f els = none := by
  have h : els = els.take (i + 1) ++ els.drop (i + 1) := (List.take_append_drop _ _).symm
  rw [h, scanV_append, scan_take hi, scanV_append]
  cases scanV f (els.take i) with
  | none => rfl
  | some u => simp only [scanV, hv, Option.bind_some, Option.bind_none, Option.map_none]
def scanAll {α : Type} (f : Option (List Int) → Option α) (l : List Int) : Option (List α) := (lnF 44 l).bind (scanV f)
def elB : Option (List Int) → Option Bool
  | some [c] => if c = 116 then some true else if c = 102 then some false else none
  | _ => none
def elS : Option (List Int) → Option ByteArray
  | some l => some (strOfNums l)
  | none => none
def elI (B : Nat) (x : Option (List Int)) : Option Int :=
  match Go.Lib.parseIntB B (strOfNums (x.getD [])).data.toList with
  | .ok v => some v
  | _ => none
/-- What Scan leaves. -/
def scRes {α : Type} (d : Kd α) (ty E : TypeId) (w0 : World) (b0 : Nat) (R : Option (List α)) (e : Ending) (w' : World) : Prop :=
  Below w0.heap.size w0 w' ∧ (∀ vs, R = some vs → e = .returned .nilIface ∧ ∃ v, w'.heap[b0]? = some (.cells #[v] ty (0, 0)) ∧ d.R E w' w0.heap.size (fun k => k ≠ b0) v vs) ∧ (R = none → (∃ t x, e = .returned (.iface t x)) ∧ w'.heap[b0]? = some (.cells #[.slice none 0 0] ty (0, 0)))
theorem lit44 (W : World) : Kd.C (Kd.int .u8) (W.alloc (.cells #[.int .u8 44] 5)) (some ⟨W.heap.size, 0, none⟩) 1 [44] :=
  Kd.C_of_reads (enc := Value.int .u8) (d := (0 : Int)) (h1 := fun _ => rfl) ⟨rfl, by omega, fun _ => ⟨_, rfl, fun i hi => by
    obtain rfl : i = 0 := by omega
    simp [Addr.add]⟩⟩
theorem son_size (l : List Int) : (strOfNums l).size = l.length := by
  unfold strOfNums
  show Array.size _ = _
  simp
theorem set_mid {α : Type} (u : List α) (z v : α) (m : Nat) : (u ++ List.replicate (m + 1) z).set u.length v = (u ++ [v]) ++ List.replicate m z := by
  rw [List.set_append_right _ _ (Nat.le_refl _), Nat.sub_self, List.replicate_succ, List.set_cons_zero, List.append_assoc, List.singleton_append]
def Short (M : Nat) (els : List (Option (List Int))) : Prop := ∀ x ∈ els, ∀ l, x = some l → l.length ≤ M
theorem Short.snoc {M : Nat} {els : List (Option (List Int))} {x : Option (List Int)} (h : Short M els) (hx : ∀ l, x = some l → l.length ≤ M) : Short M (els ++ [x]) := by
  intro y hy
  rcases List.mem_append.1 hy with hy | hy
  · exact h y hy
  · rw [List.mem_singleton.1 hy]; exact hx
theorem scanQ_acc : ∀ (l : List Int) (b : Bool) (acc e t : List Int), Arr.scanQ l b acc = some (e, t) → e.length ≤ acc.length + l.length
  | [], b, acc, e, t, h => by unfold Arr.scanQ at h; cases h
  | c :: l, true, acc, e, t, h => by
    unfold Arr.scanQ at h
    have := scanQ_acc l false _ e t h
    simp only [List.length_append, List.length_cons, List.length_nil] at *; omega
  | c :: l, false, acc, e, t, h => by
    unfold Arr.scanQ at h
    split at h
    · have := scanQ_acc l true _ e t h
      simp only [List.length_cons] at *; omega
    · split at h
      · injection h with h; injection h with h1 h2; subst h1; omega
      · have := scanQ_acc l false _ e t h
        simp only [List.length_append, List.length_cons, List.length_nil] at *; omega
theorem elOf_len (w l : List Int) (h : Arr.elOf w = some l) : l.length ≤ w.length := by
  unfold Arr.elOf at h
  split at h
  · cases h
  · injection h with h; subst h; exact Nat.le_refl _
theorem pm_short (M : Nat) (d : Int) (n : Nat) : ∀ (N : Nat) (m : Bool) (r : List Int) (k : Nat) (D : List Int) (els : List (Option (List Int))) (D' : List Int) (els' : List (Option (List Int))), r.length ≤ N → r.length ≤ M → Short M els → Arr.pm d n m r k D els = some (D', els') → Short M els' := by
  intro N
  induction N with
  | zero =>
    intro m r k D els D' els' hN hM hS h
    cases r with
    | cons c t => simp at hN
    | nil =>
      cases m with
      | true => rw [Arr.pm] at h; cases h
      | false =>
        rw [Arr.pm] at h
        split at h
        · split at h
          · injection h with h; injection h with _ h; subst h; exact hS
          · cases h
        · cases h
  | succ N ih =>
    intro m r k D els D' els' hN hM hS h
    cases r with
    | nil =>
      cases m with
      | true => rw [Arr.pm] at h; cases h
      | false =>
        rw [Arr.pm] at h
        split at h
        · split at h
          · injection h with h; injection h with _ h; subst h; exact hS
          · cases h
        · cases h
    | cons c t =>
      simp only [List.length_cons] at hN hM
      cases m with
      | false =>
        rw [Arr.pm] at h
        split at h
        · exact ih _ _ _ _ _ _ _ (by omega) (by omega) hS h
        · split at h
          · exact ih _ _ _ _ _ _ _ (by omega) (by omega) hS h
          · cases h
      | true =>
        by_cases h1 : c = 123
        · rw [Arr.pm, if_pos h1] at h
          split at h
          · cases h
          · exact ih _ _ _ _ _ _ _ (by omega) (by omega) hS h
        by_cases h2 : c = 34
        · subst h2
          cases hq : Arr.scanQ t false [] with
          | none => rw [Arr.pm_quote_none hq] at h; cases h
          | some p =>
            rw [Arr.pm_quote hq] at h
            have hl := Arr.scanQ_le t false [] p.1 p.2 hq
            have ha := scanQ_acc t false [] p.1 p.2 hq
            simp only [List.length_nil] at ha
            exact ih _ _ _ _ _ _ _ (by omega) (by omega) (hS.snoc (fun l hl2 => by injection hl2 with hl2; subst hl2; omega)) h
        by_cases h3 : (Arr.scanEl d (c :: t)).2 = [] ∨ (Arr.scanEl d (c :: t)).1 = []
        · rw [Arr.pm_word_none h1 h2 h3] at h; cases h
        · rw [Arr.pm_word h1 h2 (fun e => h3 (.inl e)) (fun e => h3 (.inr e))] at h
          have ha := congrArg List.length (Arr.scanEl_app d (c :: t))
          rw [List.length_append] at ha
          have hp : 0 < (Arr.scanEl d (c :: t)).1.length := List.length_pos_iff.mpr (fun e => h3 (.inr e))
          simp only [List.length_cons] at ha
          exact ih _ _ _ _ _ _ _ (by omega) (by omega) (hS.snoc (fun l hl2 => by have := elOf_len _ _ hl2; omega)) h
theorem lnF_short (l : List Int) (hp : paIs 44 l) : ∀ els, lnF 44 l = some els → Short 1000000 els := by
  intro els h
  have hl := hp.2.2.2.1
  unfold lnF at h
  split at h
  · cases h
  · rename_i p hp2
    split at h
    · cases h
    · injection h with h
      subst h
      unfold paF at hp2
      split at hp2
      · injection hp2 with hp2; rw [← hp2]; intro x hx; cases hx
      · split at hp2
        · cases hp2
        · refine pm_short 1000000 44 (braces l) (l.drop (braces l)).length true (l.drop (braces l)) (braces l) (List.replicate (braces l) 0) [] p.1 p.2 (Nat.le_refl _) (by rw [List.length_drop]; omega) (fun x hx => by cases hx) ?_
          exact hp2
theorem el_read {w0 w : World} {x : Option (List Int)} {cs : List Value} (hb : Below w0.heap.size w0 w) (h : (elKd w0).K w x cs) : ∃ A n c, cs = [.slice A n c] ∧ n ≤ c ∧ ((x = none ∧ A = none ∧ n = 0) ∨ ∃ ad l, x = some l ∧ A = some ad ∧ n = l.length ∧ (Kd.int .u8).C w (some ad) l.length l) := by
  obtain ⟨A, n, c, h1, h2, h3⟩ := h
  refine ⟨A, n, c, h1, h2, ?_⟩
  cases x with
  | none => exact .inl ⟨rfl, h3.1, h3.2⟩
  | some l =>
    obtain ⟨h4, h5, h6⟩ := h3
    cases A with
    | none => exact absurd rfl h4
    | some ad => exact .inr ⟨ad, l, rfl, rfl, h5, h6.elim (fun h => Kd.C_below h hb) id⟩
theorem byte_at {w : World} {a : Addr} {x0 : Int} {n : Nat} (h : Kd.C (Kd.int .u8) w (some a) n [x0]) : w.cell? (a.add 0) = some (.int .u8 x0) := by
  obtain ⟨ad, ea, hh⟩ := (Kd.reads_of_C (d := (0 : Int)) h).2.2 (by have := (Kd.reads_of_C (d := (0 : Int)) h).1; simp at this; omega)
  injection ea with ea
  subst ea
  have := hh 0 (by have := (Kd.reads_of_C (d := (0 : Int)) h).1; simp at this; omega)
  simpa using this
theorem byte_at0 {w : World} {a : Addr} {x0 : Int} {n : Nat} (h : Kd.C (Kd.int .u8) w (some a) n [x0]) : w.cell? a = some (.int .u8 x0) := by
  have h1 := byte_at h
  have : a.add 0 = a := by
    cases a
    unfold Addr.add
    split <;> simp_all
  rw [this] at h1
  exact h1
theorem grown_none {w w1 : World} (h : w.grownBy w1 none) : Below w.heap.size w w1 := ⟨h.os, h.tape, h.output, h.size, fun i hi => h.block i hi (by simp)⟩
section
variable {α : Type} {enc : α → Value} {h1 : ∀ x, (enc x).oneCell' = true} {e : Nat} {W : World} {base g cap L i : Nat} {ok : Nat → Prop} {u : List α} {z : α}
theorem made_row {v : Value} {N : Nat} (h : (Kd.scalar enc h1).R e W base ok v (List.replicate (L : Int).toNat z)) (hn : ∃ b, v.ownBlock = some b ∧ N ≤ b) : ∃ g cap, v = .slice (some ⟨g, 0, none⟩) L cap ∧ N ≤ g ∧ (Kd.scalar enc h1).R e W base ok (.slice (some ⟨g, 0, none⟩) L cap) (List.replicate L z) := by
  rw [Int.toNat_natCast] at h
  have hown := Kd.own_of_R h
  obtain ⟨g, hgo, hgw⟩ := hn
  rcases hown.2 with ⟨e0, _⟩ | ⟨g', cap, cur, e0, _⟩
  · rw [e0] at hgo; simp [Value.ownBlock] at hgo
  · rw [List.length_replicate] at e0
    subst e0
    refine ⟨g', cap, rfl, ?_, h⟩
    have : g' = g := by simpa [Value.ownBlock] using hgo
    omega
theorem row_at (h : (Kd.scalar enc h1).R e W base ok (.slice (some ⟨g, 0, none⟩) L cap) (u ++ List.replicate (L - i) z)) (hu : u.length = i) (hi : i < L) : W.cell? ⟨g, i, none⟩ = some (enc z) ∧ W.frozen? ⟨g, i, none⟩ = false := by
  have hl : (u ++ List.replicate (L - i) z).length = L := by rw [List.length_append, List.length_replicate]; omega
  have h2 : (Kd.scalar enc h1).R e W base ok (.slice (some ⟨g, 0, none⟩) (u ++ List.replicate (L - i) z).length cap) (u ++ List.replicate (L - i) z) := by rw [hl]; exact h
  have h3 := Kd.R_cell z h2 (i : Int) (by omega) (by rw [hl]; omega)
  rw [Int.toNat_natCast] at h3
  have h4 : rdOf z (u ++ List.replicate (L - i) z) (i : Int) = z := by
    unfold rdOf
    rw [Int.toNat_natCast, List.getD_eq_getElem?_getD, List.getElem?_append_right (by omega)]
    cases h5 : (List.replicate (L - i) z)[i - u.length]? with
    | none => rfl
    | some y => exact (List.mem_replicate.1 (List.mem_of_getElem? h5)).2
  rw [h4] at h3
  exact h3
theorem row_put (h : (Kd.scalar enc h1).R e W base ok (.slice (some ⟨g, 0, none⟩) L cap) (u ++ List.replicate (L - i) z)) (hu : u.length = i) (hi : i < L) (v : α) : (Kd.scalar enc h1).R e (W.setCell ⟨g, i, none⟩ (enc v)) base ok (.slice (some ⟨g, 0, none⟩) L cap) ((u ++ [v]) ++ List.replicate (L - (i + 1)) z) := by
  have h3 := Kd.R_putn h (i : Int) v
  rw [Int.toNat_natCast] at h3
  obtain ⟨m, hm⟩ : ∃ m, L - i = m + 1 := ⟨L - i - 1, by omega⟩
  have hm2 : L - (i + 1) = m := by omega
  rw [hm, ← hu, set_mid] at h3
  rw [hm2, ← hu]
  exact h3
end
theorem pint64 (t : ByteArray) (ht : t.size ≤ 100000000) (W : World) (te tr : TypeId) (xe xr : Value) (hS : W.cell? ⟨0, 0, none⟩ = some (.iface te xe)) (hR : W.cell? ⟨1, 0, none⟩ = some (.iface tr xr)) :
    Calls Tryz.prog 31 #[.string t, .int .i64 10, .int .i64 64] W fun e w' => Below W.heap.size W w' ∧ ((∃ v, Go.Lib.parseIntB 64 t.data.toList = .ok v ∧ e = .returned (.tuple #[.int .i64 v, .nilIface])) ∨ ((∀ v, Go.Lib.parseIntB 64 t.data.toList ≠ .ok v) ∧ ∃ n t x, e = .returned (.tuple #[.int .i64 n, .iface t x]))) := by
  cases hP : Go.Lib.parseIntB 64 t.data.toList with
  | ok v =>
    refine (Tryz.strconv_ParseInt_10_at64_ok t (by omega) v hP W).mono ?_
    rintro e w' ⟨rfl, rfl | ⟨x, rfl⟩⟩
    · exact ⟨Below.refl _ _, .inl ⟨v, rfl, rfl⟩⟩
    · exact ⟨Go.Lib.bytesWorld_below _ _ _, .inl ⟨v, rfl, rfl⟩⟩
  | «syntax» =>
    refine (Tryz.strconv_ParseInt_10_at64_syntax t (by omega) hP _ W hS (.inr ⟨te, xe, rfl⟩)).mono ?_
    rintro e w' ⟨N, rfl, _, _, hb⟩
    exact ⟨hb, .inr ⟨fun v h => (by cases h), _, _, _, rfl⟩⟩
  | range =>
    refine (Tryz.strconv_ParseInt_10_at64_range t (by omega) hP _ W hR (.inr ⟨tr, xr, rfl⟩)).mono ?_
    rintro e w' ⟨N, rfl, _, _, hb⟩
    exact ⟨hb, .inr ⟨fun v h => (by cases h), _, _, _, rfl⟩⟩
theorem pint32 (t : ByteArray) (ht : t.size ≤ 100000000) (W : World) (te tr : TypeId) (xe xr : Value) (hS : W.cell? ⟨0, 0, none⟩ = some (.iface te xe)) (hR : W.cell? ⟨1, 0, none⟩ = some (.iface tr xr)) :
    Calls Tryz.prog 31 #[.string t, .int .i64 10, .int .i64 32] W fun e w' => Below W.heap.size W w' ∧ ((∃ v, Go.Lib.parseIntB 32 t.data.toList = .ok v ∧ e = .returned (.tuple #[.int .i64 v, .nilIface])) ∨ ((∀ v, Go.Lib.parseIntB 32 t.data.toList ≠ .ok v) ∧ ∃ n t x, e = .returned (.tuple #[.int .i64 n, .iface t x]))) := by
  cases hP : Go.Lib.parseIntB 32 t.data.toList with
  | ok v =>
    refine (Tryz.strconv_ParseInt_10_at32_ok t (by omega) v hP W).mono ?_
    rintro e w' ⟨rfl, rfl | ⟨x, rfl⟩⟩
    · exact ⟨Below.refl _ _, .inl ⟨v, rfl, rfl⟩⟩
    · exact ⟨Go.Lib.bytesWorld_below _ _ _, .inl ⟨v, rfl, rfl⟩⟩
  | «syntax» =>
    refine (Tryz.strconv_ParseInt_10_at32_syntax t (by omega) hP _ W hS (.inr ⟨te, xe, rfl⟩)).mono ?_
    rintro e w' ⟨N, rfl, _, _, hb⟩
    exact ⟨hb, .inr ⟨fun v h => (by cases h), _, _, _, rfl⟩⟩
  | range =>
    refine (Tryz.strconv_ParseInt_10_at32_range t (by omega) hP _ W hR (.inr ⟨tr, xr, rfl⟩)).mono ?_
    rintro e w' ⟨N, rfl, _, _, hb⟩
    exact ⟨hb, .inr ⟨fun v h => (by cases h), _, _, _, rfl⟩⟩
end Go.Proofs.YtcdcoogjhkchlaaGreatDoor.P
