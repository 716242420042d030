/- What the reference tells of the literal of an array is what the package tells, where it is sure. Conditions: what stands between elements is none of the brackets and quotation marks. -/
import Derived.Test.YtcdcoogjhkchlaaGreatDoorPx4
import Derived.Test.YtcdcoogjhkchlaaGreatDoorPl
import Derived.Test.YtcdcoogjhkchlaaGreatDoorLibArr
import Derived.Test.YtcdcoogjhkchlaaGreatDoorLib
namespace Go.Proofs.YtcdcoogjhkchlaaGreatDoor.Lib
open Go.RowKit Go.Proofs.YtcdcoogjhkchlaaGreatDoor.P Go.Proofs.YtcdcoogjhkchlaaGreatDoorW.PrintWords Go.Proofs.YtcdcoogjhkchlaaGreatDoorW.PrintLast Go.Proofs.YtcdcoogjhkchlaaGreatDoorW.PrintMore
set_option linter.unusedVariables false
set_option linter.unusedSimpArgs false
theorem nOpen_braces : ∀ l : List Int, nOpen l = braces l
  | [] => rfl
  | c :: t => by rw [nOpen, braces, nOpen_braces t]
theorem open125 (d : Int) (n : Nat) (r' : List Int) (S : List Bool) (D : List Int) (l : List (Option (List Int))) : ∀ (m fuel k : Nat) (st' : Arr.Rd), k + (m + 1) = n → Arr.spGo d n fuel true k 0 ⟨List.replicate (m + 1) 123 ++ 125 :: r', D, S, false, false, l⟩ = some st' → st'.opn = true := by
  intro m
  induction m with
  | zero =>
    intro fuel k st' hk h
    cases fuel with
    | zero => rw [Arr.spGo] at h; cases h
    | succ fuel =>
      rw [Arr.spGo] at h
      simp only [List.replicate_succ, List.replicate_zero, List.cons_append, List.nil_append, if_true] at h
      injection h with h
      rw [← h]
  | succ m ih =>
    intro fuel k st' hk h
    cases fuel with
    | zero => rw [Arr.spGo] at h; cases h
    | succ fuel =>
      rw [Arr.spGo] at h
      simp only [List.replicate_succ, List.cons_append, if_true, if_neg (show ¬ (123 : Int) = 125 by decide)] at h
      cases fuel with
      | zero => rw [Arr.spGo] at h; cases h
      | succ fuel =>
        rw [Arr.spGo, if_pos (by omega)] at h
        obtain ⟨st1, h1, h2⟩ := Option.bind_eq_some_iff.mp h
        have h3 := ih fuel (k + 1) st1 (by omega) (by simpa [List.replicate_succ] using h1)
        rw [if_pos (.inl h3)] at h2
        injection h2 with h2
        rw [← h2]; exact h3
theorem sure_of (d : Int) (hd : d ≠ 125) (hd1 : d ≠ 123) (hd2 : d ≠ 34) (hdb : 0 ≤ d ∧ d < 256) (l : List Int) (hl : l.length ≤ 1000000) (hb : ∀ x ∈ l, 0 ≤ x ∧ x < 256) (hs : (spArr d l).2.2.2 = true) :
    paIs d l ∧ ((spArr d l).2.2.1 = true → paF d l = some ((spArr d l).1, (spArr d l).2.1)) ∧ ((spArr d l).2.2.1 = false → paF d l = none) := by
  cases l with
  | nil => exact ⟨⟨hd, hd1, hdb, hl, hb, .inr (.inl rfl)⟩, (fun h => by cases h), fun _ => rfl⟩
  | cons c t =>
    by_cases hc : c = 123
    case neg =>
      have e : spArr d (c :: t) = ([], [], false, (!decide (Arr.blankI c)) && decide (c ≠ 91)) := by
        unfold spArr; simp only [if_pos (show c ≠ 123 from hc)]
      have hb0 : braces (c :: t) = 0 := by rw [braces, if_neg hc]
      rw [e]
      refine ⟨⟨hd, hd1, hdb, hl, hb, .inr (.inl hb0)⟩, (fun h => by cases h), fun _ => ?_⟩
      unfold paF
      rw [if_neg (by intro h; injection h with h; exact hc h), if_pos hb0]
    case pos =>
    by_cases hE : c :: t = [123, 125]
    · have e : spArr d (c :: t) = ([], [], true, true) := by
        unfold spArr; simp only [if_neg (show ¬ c ≠ 123 from fun h => h hc), if_pos hE]
      rw [e]
      refine ⟨⟨hd, hd1, hdb, hl, hb, .inl hE⟩, (fun _ => ?_), (fun h => by cases h)⟩
      unfold paF
      rw [if_pos hE]
    · obtain ⟨n, hn⟩ : ∃ n, n = braces (c :: t) := ⟨_, rfl⟩
      have hn0 : 0 < n := by rw [hn, braces, if_pos hc]; omega
      obtain ⟨st', hgo, _⟩ := Arr.spGo_ends d n (2 * (c :: t).length + 10) true 0 0 ⟨c :: t, List.replicate n 0, List.replicate n false, false, false, []⟩ (by simp only [if_true]; omega)
      have hsp : spArr d (c :: t) = if st'.opn = true then ([], [], false, false) else if st'.bad = true ∨ st'.rest ≠ [] then ([], [], false, !st'.rest.any (fun c => decide (Arr.blankI c))) else (st'.dims, st'.l, true, true) := by
        unfold spArr; simp only [if_neg (show ¬ c ≠ 123 from fun h => h hc), if_neg hE, nOpen_braces, ← hn]
        rw [hgo]
      have hop : st'.opn = false := by
        cases ho : st'.opn
        · rfl
        · rw [hsp, if_pos ho] at hs; cases hs
      have hsplit := (braces_split (c :: t)).1
      rw [← hn] at hsplit
      have hh : ((c :: t).drop n).head? ≠ some 125 := by
        intro h
        obtain ⟨r', hr'⟩ : ∃ r', (c :: t).drop n = 125 :: r' := by
          cases hx : (c :: t).drop n with
          | nil => rw [hx] at h; cases h
          | cons y u => rw [hx] at h; injection h with h; exact ⟨u, by rw [h]⟩
        obtain ⟨m, hm⟩ : ∃ m, n = m + 1 := ⟨n - 1, by omega⟩
        rw [hsplit, hr', hm] at hgo
        have := open125 d (m + 1) r' _ _ _ m _ 0 st' (by omega) hgo
        rw [hop] at this; cases this
      have hpa : paF d (c :: t) = Arr.pm d n true ((c :: t).drop n) n (List.replicate n 0) [] := by
        unfold paF
        rw [if_neg hE, ← hn, if_neg (by omega)]
      have hgo2 := hgo
      rw [hsplit] at hgo2
      have ht := Arr.top d n hd hd1 hd2 hn0 ((c :: t).drop n) _ st' hgo2 hop
      refine ⟨⟨hd, hd1, hdb, hl, hb, .inr (.inr (by rw [← hn]; exact hh))⟩, fun h => ?_, fun h => ?_⟩
      · rw [hsp, if_neg (by rw [hop]; simp)] at h
        rw [hsp, if_neg (by rw [hop]; simp), hpa, ht]
        by_cases hx : st'.bad = true ∨ st'.rest ≠ []
        · rw [if_pos hx] at h; cases h
        · rw [if_neg hx, if_neg hx]
      · rw [hsp, if_neg (by rw [hop]; simp)] at h
        rw [hpa, ht]
        by_cases hx : st'.bad = true ∨ st'.rest ≠ []
        · rw [if_pos hx]
        · rw [if_neg hx] at h; cases h
end Go.Proofs.YtcdcoogjhkchlaaGreatDoor.Lib
