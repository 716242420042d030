/- EndsOpen, Last, and the lists of two connection strings. Conditions: named by each theorem. -/
import Derived.Test.YtlhjblbmhlelbaaDsnR
namespace Go.Proofs.Ytlhjblbmhlelbaa.P
open Go.RowKit Go.Proofs.YtlhjblbmhlelbaaW.PrintWords Go.Proofs.YtlhjblbmhlelbaaW.PrintLast Go.Proofs.YtlhjblbmhlelbaaW.PrintMore Go.Proofs.Ytlhjblbmhlelbaa.Lib
set_option linter.unusedVariables false
set_option linter.unusedSimpArgs false
theorem eo_nil : ¬ EO [] := fun ⟨p, q, h, _⟩ => by
  have := congrArg List.length h
  simp at this
theorem eo_blank {l : List Int} {c : Int} (hc : spI c = true) (h : EO (l ++ [c])) : EO l := by
  obtain ⟨p, q, e, hq⟩ := h
  rcases List.eq_nil_or_concat q with rfl | ⟨q', d, rfl⟩
  · have e2 : l ++ [c] = p ++ [61] := e
    have := List.append_inj_right' e2 rfl
    injection this with this
    subst this
    cases hc
  · have e2 : l ++ [c] = (p ++ 61 :: q') ++ [d] := by rw [e]; simp
    have := List.append_inj_left' e2 rfl
    exact ⟨p, q', this, fun x hx => hq x (by simp [hx])⟩
theorem eo_sign {l : List Int} {c : Int} (hc : spI c = false) (h : EO (l ++ [c])) : c = 61 := by
  obtain ⟨p, q, e, hq⟩ := h
  rcases List.eq_nil_or_concat q with rfl | ⟨q', d, rfl⟩
  · have e2 : l ++ [c] = p ++ [61] := e
    have := List.append_inj_right' e2 rfl
    injection this
  · have e2 : l ++ [c] = (p ++ 61 :: q') ++ [d] := by rw [e]; simp
    have := List.append_inj_right' e2 rfl
    injection this with this
    have h2 := hq d (by simp)
    rw [← this, hc] at h2
    cases h2
theorem endsOpen_tot : ∀ (n : Nat) (a : ByteArray), a.size = n → n ≤ 1000000 → ∃ b, spec_EndsOpen.l0 (n + 1) a = some b ∧ (b = false → ¬ EO (bytesOf a)) := by
  intro n
  induction n with
  | zero =>
    intro a ha _
    refine ⟨false, by rw [spec_EndsOpen.l0, if_neg (by omega)], fun _ => ?_⟩
    have : bytesOf a = [] := List.eq_nil_of_length_eq_zero (by rw [bytesOf_length, ha])
    rw [this]
    exact eo_nil
  | succ n ih =>
    intro a ha hn
    have hw : wrap64 ((a.size : Int) - 1) = (n : Int) := by rw [wrap64_id (by omega) (by omega)]; omega
    have hx : bytesOf a = bytesOf (a.extract 0 (n : Int).toNat) ++ [bt a n] := by
      have h1 := At.of (bytesOf a) (i := (n : Int)) (by omega) (by rw [bytesOf_length]; omega)
      have hl : ((bytesOf a).drop (n : Int).toNat).length = 1 := by rw [List.length_drop, bytesOf_length]; omega
      obtain ⟨c, hc⟩ := List.length_eq_one_iff.1 hl
      rw [hc] at h1
      rw [h1.bt, bytesOf_extract, List.drop_zero, ← hc, List.take_append_drop]
    have hsz : (a.extract 0 (n : Int).toNat).size = n := by rw [← bytesOf_length, bytesOf_extract, List.drop_zero, List.length_take, bytesOf_length]; omega
    obtain ⟨b, hb, hb2⟩ := ih (a.extract 0 (n : Int).toNat) hsz (by omega)
    rw [spec_EndsOpen.l0, if_pos (by omega), hw, if_pos (by omega), if_pos (by omega), isBlank_ok, Option.bind_some]
    cases hc : spI (bt a n) with
    | true =>
      rw [if_pos rfl, if_pos (by omega), hb]
      exact ⟨b, rfl, fun e h => hb2 e (by rw [hx] at h; exact eo_blank hc h)⟩
    | false =>
      rw [if_neg (by decide)]
      refine ⟨_, rfl, fun e h => ?_⟩
      rw [hx] at h
      have := eo_sign hc h
      rw [this] at e
      cases e
/-! ### lists put one behind the other -/
def putSe (M L : List Se) : List Se := L.foldl (fun M x => putG x false M) M
theorem putAll_putSe (A : List (List Int × List Int)) (M : List Se) : putAll M A = putSe M (A.map seOf) := by
  unfold putAll putSe; rw [List.foldl_map]
theorem putSe_snoc (M L : List Se) (x : Se) : putSe M (L ++ [x]) = putG x false (putSe M L) := by unfold putSe; rw [List.foldl_append]; rfl
theorem putSe_app (M L L' : List Se) : putSe M (L ++ L') = putSe (putSe M L) L' := by unfold putSe; rw [List.foldl_append]
theorem snoc_ind {P : List Se → Prop} (h0 : P []) (h1 : ∀ L x, P L → P (L ++ [x])) (L : List Se) : P L := by
  have : ∀ (n : Nat) (L : List Se), L.length = n → P L := by
    intro n
    induction n with
    | zero => intro L h; rw [List.eq_nil_of_length_eq_zero h]; exact h0
    | succ n ih =>
      intro L h
      rcases List.eq_nil_or_concat L with rfl | ⟨L', x, rfl⟩
      · cases h
      · rw [List.concat_eq_append]; exact h1 L' x (ih L' (by simpa using h))
  exact this _ L rfl
theorem St.putSe {M : List Se} (h : St M) (L : List Se) : St (putSe M L) := by
  induction L generalizing M with
  | nil => exact h
  | cons x t ih => exact ih (h.put x)
theorem St.nil : St [] := List.Pairwise.nil
theorem mem_putSe (M : List Se) (z : Se) (L : List Se) : z ∈ putSe M L ↔ (z ∈ M ∧ ∀ y ∈ L, y.f0 ≠ z.f0) ∨ z ∈ putSe [] L := by
  induction L using snoc_ind with
  | h0 => simp [putSe]
  | h1 L x ih =>
    rw [putSe_snoc, putSe_snoc, mem_putG, mem_putG, ih]
    constructor
    · rintro (⟨⟨h1, h2⟩ | h1, h3⟩ | h)
      · refine .inl ⟨h1, fun y hy => ?_⟩
        rcases List.mem_append.1 hy with hy | hy
        · exact h2 y hy
        · rw [List.mem_singleton.1 hy]; exact fun e => h3 e.symm
      · exact .inr (.inl ⟨h1, h3⟩)
      · exact .inr (.inr h)
    · rintro (⟨h1, h2⟩ | ⟨h1, h2⟩ | h)
      · exact .inl ⟨.inl ⟨h1, fun y hy => h2 y (by simp [hy])⟩, fun e => h2 x (by simp) e.symm⟩
      · exact .inl ⟨.inr h1, h2⟩
      · exact .inr h
theorem keys_putSe (k : ByteArray) (L : List Se) : (∃ y ∈ putSe [] L, y.f0 = k) ↔ ∃ y ∈ L, y.f0 = k := by
  induction L using snoc_ind with
  | h0 => simp [putSe]
  | h1 L x ih =>
    constructor
    · rintro ⟨y, hy, e⟩
      rw [putSe_snoc, mem_putG] at hy
      rcases hy with ⟨hy, _⟩ | rfl
      · obtain ⟨z, hz, e2⟩ := ih.1 ⟨y, hy, e⟩
        exact ⟨z, by simp [hz], e2⟩
      · exact ⟨y, by simp, e⟩
    · rintro ⟨y, hy, e⟩
      by_cases hx : x.f0 = k
      · exact ⟨x, by rw [putSe_snoc, mem_putG]; exact .inr rfl, hx⟩
      · rcases List.mem_append.1 hy with hy | hy
        · obtain ⟨z, hz, e2⟩ := ih.2 ⟨y, hy, e⟩
          exact ⟨z, by rw [putSe_snoc, mem_putG]; exact .inl ⟨hz, fun e3 => hx (by rw [← e3, e2])⟩, e2⟩
        · rw [List.mem_singleton.1 hy] at e; exact absurd e hx
theorem st_keys {x : Se} : ∀ {L : List Se}, St (L ++ [x]) → ∀ z ∈ L, z.f0 ≠ x.f0 := fun h z hz e => by
  have h1 := (List.pairwise_append.1 h).2.2 z hz x (by simp)
  have : ltS z z = true := by unfold ltS at *; rw [← e] at h1; exact h1
  rw [ltS_irrefl] at this; cases this
theorem putSe_self (L : List Se) : St L → putSe [] L = L := by
  intro h
  refine St.eq (St.nil.putSe L) h ?_
  revert h
  induction L using snoc_ind with
  | h0 => intro _ z; simp [putSe]
  | h1 L x ih =>
    intro h z
    have hL : St L := (List.pairwise_append.1 h).1
    rw [putSe_snoc, mem_putG, ih hL z, List.mem_append, List.mem_singleton]
    constructor
    · rintro (⟨h1, _⟩ | h1)
      · exact .inl h1
      · exact .inr h1
    · rintro (h1 | h1)
      · exact .inl ⟨h1, st_keys h z h1⟩
      · exact .inr h1
theorem putSe_twice (M L : List Se) (hM : St M) : putSe M (putSe [] L) = putSe M L := by
  refine St.eq (hM.putSe _) (hM.putSe _) fun z => ?_
  rw [mem_putSe M z (putSe [] L), mem_putSe M z L, putSe_self _ (St.nil.putSe L)]
  have hk := keys_putSe z.f0 L
  constructor
  · rintro (⟨h1, h2⟩ | h)
    · exact .inl ⟨h1, fun y hy e => by
        obtain ⟨y', hy', e'⟩ := hk.2 ⟨y, hy, e⟩
        exact h2 y' hy' e'⟩
    · exact .inr h
  · rintro (⟨h1, h2⟩ | h)
    · exact .inl ⟨h1, fun y hy e => by
        obtain ⟨y', hy', e'⟩ := hk.1 ⟨y, hy, e⟩
        exact h2 y' hy' e'⟩
    · exact .inr h
/-- Two lists of settings, of each keyword the last one. -/
theorem two_lists (A B : List (List Int × List Int)) : putSe [] (putAll [] A ++ putAll [] B) = putAll [] (A ++ B) := by
  rw [putAll_putSe, putAll_putSe, putAll_putSe, putSe_app, putSe_self _ (St.nil.putSe _), putSe_twice _ _ (St.nil.putSe _), List.map_append, putSe_app]
theorem put_fk (x : Se) (L : List Se) (hL : L.length ≤ 1000000) {k : Nat} (hk : 2 * L.length + 1 ≤ k) : spec_put.f k L x.f0 x.f1 = some (putG x false L) := by
  unfold spec_put.f
  have := put_ok x L hL L [] [] false k rfl hk (by simp; omega)
  simpa using this
theorem last_l (L : List Se) (T : Nat) (hT : T ≤ 1000000) : ∀ (suf pre M : List Se) (k : Nat), L = pre ++ suf → L.length ≤ T → M.length ≤ pre.length → suf.length + 2 * T + 2 ≤ k → spec_Last.l0 k L M pre.length = some (putSe M suf) := by
  intro suf
  induction suf with
  | nil =>
    intro pre M k e hL hM hk
    obtain ⟨k, rfl⟩ : ∃ m, k = m + 1 := ⟨k - 1, by omega⟩
    rw [spec_Last.l0, if_neg (by rw [e]; simp)]
    rfl
  | cons y t ih =>
    intro pre M k e hL hM hk
    simp only [List.length_cons] at hk
    obtain ⟨k, rfl⟩ : ∃ m, k = m + 1 := ⟨k - 1, by omega⟩
    have el := congrArg List.length e
    simp only [List.length_append, List.length_cons] at el
    have hrd : rd_T34 L (pre.length : Int) = y := by rw [e]; exact rd_here pre y t
    have hw : wrap64 ((pre.length : Int) + 1) = ((pre ++ [y]).length : Int) := by rw [wrap64_id (by omega) (by omega)]; simp
    have hg := putG_len y M false
    rw [spec_Last.l0, if_pos (by omega), if_pos (by omega), hrd, put_fk y M (by omega) (by omega), Option.bind_some, hw, ih (pre ++ [y]) _ k (by rw [e]; simp) hL (by simp; omega) (by omega)]
    rfl
theorem last_f (L : List Se) (hL : L.length ≤ 1000000) : spec_Last.f (3 * L.length + 2) L = some (putSe [] L) := by
  unfold spec_Last.f
  exact last_l L L.length hL L [] [] _ rfl (Nat.le_refl _) (Nat.le_refl _) (by omega)
theorem two_parse {a b : ByteArray} {A B : List (List Int × List Int)} (hA : parseL (a.size + 1) (bytesOf a) = some A) (hB : parseL (b.size + 1) (bytesOf b) = some B) (he : ¬ EO (bytesOf a)) :
    parseL ((a ++ ⟨#[32]⟩ ++ b).size + 1) (bytesOf (a ++ ⟨#[32]⟩ ++ b)) = some (A ++ B) := by
  have h := parse_app hB a.size (bytesOf a) A hA he
  have e : bytesOf (a ++ ⟨#[32]⟩ ++ b) = bytesOf a ++ 32 :: bytesOf b := by rw [bytesOf_append, bytesOf_append]; simp [bytesOf]
  rw [e]
  have hs : (a ++ ⟨#[32]⟩ ++ b).size = a.size + 1 + b.size := by rw [size_append, size_append]; rfl
  exact parse_up h _ (by omega)
end Go.Proofs.Ytlhjblbmhlelbaa.P
