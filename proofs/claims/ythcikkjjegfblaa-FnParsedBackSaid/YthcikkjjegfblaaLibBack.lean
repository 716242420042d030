/- What Quoted, Count and Literal tell for the law of elements read back. Conditions: the sizes that each lemma names. -/
import Derived.Test.YthcikkjjegfblaaPx4
import Derived.Test.YthcikkjjegfblaaPx5
import Derived.Test.YthcikkjjegfblaaPx3
import Derived.Test.YthcikkjjegfblaaLibLit
namespace Go.Proofs.Ythcikkjjegfblaa.Lib
open Go.RowKit Go.Proofs.Ythcikkjjegfblaa.P Go.Proofs.YthcikkjjegfblaaW.PrintWords Go.Proofs.YthcikkjjegfblaaW.PrintLast Go.Proofs.YthcikkjjegfblaaW.PrintMore
set_option linter.unusedVariables false
set_option linter.unusedSimpArgs false

theorem wrap64_nat {n : Nat} (h : n ≤ 9223372036854775807) : wrap64 (n : Int) = (n : Int) := wrap64_id (by omega) (by omega)
theorem escB_cons (c : Int) (t : List Int) : Arr.escB (c :: t) = if c = 34 ∨ c = 92 then 92 :: c :: Arr.escB t else c :: Arr.escB t := by
  unfold Arr.escB
  rw [List.flatMap_cons]
  split <;> rfl
theorem escB_len : ∀ l : List Int, (Arr.escB l).length ≤ 2 * l.length
  | [] => Nat.le_refl _
  | c :: t => by
    have := escB_len t
    rw [escB_cons]
    split <;> (simp only [List.length_cons]; omega)
theorem escB_byte : ∀ l : List Int, (∀ x ∈ l, 0 ≤ x ∧ x ≤ 255) → ∀ x ∈ Arr.escB l, 0 ≤ x ∧ x ≤ 255
  | [], _, x, hx => by cases hx
  | c :: t, h, x, hx => by
    have ih := escB_byte t (fun y hy => h y (by simp [hy]))
    rw [escB_cons] at hx
    split at hx
    · rcases List.mem_cons.mp hx with rfl | hx
      · omega
      · rcases List.mem_cons.mp hx with rfl | hx
        · exact h x (by simp)
        · exact ih x hx
    · rcases List.mem_cons.mp hx with rfl | hx
      · exact h x (by simp)
      · exact ih x hx
theorem quoted_l (s : ByteArray) (hs : s.size ≤ 2305843009213693952) : ∀ (l : List Int) (i : Int) (out : List Int), At (bytesOf s) i l → out.length + 2 * l.length + 1 < 140737488355328 →
    Ev (fun k => spec_Quoted.l0 k s out i) (strOfNums (out ++ Arr.escB l ++ [34])) := by
  intro l
  induction l with
  | nil =>
    intro i out h hb
    simp at hb
    exact Ev.to (by simp [Arr.escB]) (Ev.step (fun k => spec_Quoted.l0.eq_2 _ _ _ _) <| Ev.if_neg (by have := h.snil; omega) <| Ev.if_pos (by omega) <| Ev.now _)
  | cons c t ih =>
    intro i out h hb
    have hlt := h.slt
    have h0 := h.nonneg
    have hbt := h.bt
    have e2 : wrap64 (i + 1) = i + 1 := wrap64_id (by omega) (by omega)
    simp only [List.length_cons] at hb
    by_cases hc : (c = 34 ∨ c = 92)
    · have hrec := ih (i + 1) (out ++ [92] ++ [c]) h.tail (by simp; omega)
      refine Ev.to (r := strOfNums (out ++ [92] ++ [c] ++ Arr.escB t ++ [34])) (by rw [escB_cons, if_pos hc]; simp) (Ev.step (fun k => spec_Quoted.l0.eq_2 _ _ _ _) <| Ev.if_pos hlt <| Ev.if_pos h0 ?_)
      rw [e2, hbt]
      by_cases h34 : c = 34
      · exact Ev.if_pos h34 <| Ev.if_pos (by omega) <| Ev.bind (Ev.now _) <| Ev.if_pos (by simp; omega) hrec
      · rcases hc with hc | hc
        · exact absurd hc h34
        · exact Ev.if_neg h34 <| Ev.if_pos hc <| Ev.if_pos (by omega) <| Ev.bind (Ev.now _) <| Ev.if_pos (by simp; omega) hrec
    · have hrec := ih (i + 1) (out ++ [c]) h.tail (by simp; omega)
      refine Ev.to (r := strOfNums (out ++ [c] ++ Arr.escB t ++ [34])) (by rw [escB_cons, if_neg hc]; simp) (Ev.step (fun k => spec_Quoted.l0.eq_2 _ _ _ _) <| Ev.if_pos hlt <| Ev.if_pos h0 ?_)
      rw [e2, hbt]
      exact Ev.if_neg (fun e => hc (.inl e)) <| Ev.if_neg (fun e => hc (.inr e)) <| Ev.if_pos (by omega) hrec
/-- spec.Quoted. -/
theorem specQuoted (s : ByteArray) (hs : 2 * s.size + 5 < 140737488355328) : Ev (fun k => spec_Quoted.f k s) (strOfNums ([34] ++ Arr.escB (bytesOf s) ++ [34])) :=
  quoted_l s (by omega) _ 0 [34] (At.zero _) (by rw [bytesOf_length]; simp; omega)

/-- Quoted, as bytes. -/
theorem quoted_text (s : ByteArray) (hs : s.size ≤ 200) : ∃ t, Ev (fun k => spec_Quoted.f k s) t ∧ bytesOf t = 34 :: (Arr.escB (bytesOf s) ++ [34]) ∧ t.size ≤ 402 := by
  have hb : bytesOf (strOfNums ([34] ++ Arr.escB (bytesOf s) ++ [34])) = 34 :: (Arr.escB (bytesOf s) ++ [34]) := by
    rw [bytesOf_strOfNums]
    · simp
    · intro c hc
      rcases List.mem_append.mp hc with hc | hc
      · rcases List.mem_append.mp hc with hc | hc
        · simp at hc; omega
        · exact escB_byte _ (fun x hx => bytesOf_range hx) c hc
      · simp at hc; omega
  refine ⟨_, specQuoted s (by omega), hb, ?_⟩
  rw [piece_size hb]
  have := escB_len (bytesOf s)
  rw [bytesOf_length] at this
  simp only [List.length_cons, List.length_append, List.length_nil]
  omega
theorem prodL_snoc (a : List Nat) (d : Nat) : Arr.prodL (a ++ [d]) = Arr.prodL a * d := by
  induction a with
  | nil => simp [Arr.prodL]
  | cons x t ih =>
    have h : Arr.prodL (x :: t ++ [d]) = x * Arr.prodL (t ++ [d]) := rfl
    rw [h, ih]
    show x * (Arr.prodL t * d) = x * Arr.prodL t * d
    rw [Nat.mul_assoc]
/-- Count. -/
theorem count_of (l : List Int) (hl : l.length ≤ 2305843009213693952) : ∃ n b, Ev (fun k => spec_Count.f k l) (n, b) ∧ (b = true → ∃ ds : List Nat, l = ds.map (fun a : Nat => (a : Int)) ∧ (∀ a ∈ ds, 1 ≤ a ∧ a ≤ 1000) ∧ n = (Arr.prodL ds : Nat) ∧ Arr.prodL ds ≤ 1000) := by
  have go : ∀ (m i : Nat) (ds : List Nat), i + m = l.length → l.take i = ds.map (fun a : Nat => (a : Int)) → (∀ a ∈ ds, 1 ≤ a ∧ a ≤ 1000) → Arr.prodL ds ≤ 1000 →
      ∃ n b, Ev (fun k => spec_Count.l0 k l ((Arr.prodL ds : Nat) : Int) (i : Int)) (n, b) ∧ (b = true → ∃ ds : List Nat, l = ds.map (fun a : Nat => (a : Int)) ∧ (∀ a ∈ ds, 1 ≤ a ∧ a ≤ 1000) ∧ n = (Arr.prodL ds : Nat) ∧ Arr.prodL ds ≤ 1000) := by
    intro m
    induction m with
    | zero =>
      intro i ds hi ht ha hp
      have hil : i = l.length := by omega
      rw [hil, List.take_length] at ht
      exact ⟨_, true, Ev.step (fun k => spec_Count.l0.eq_2 _ _ _ _) <| Ev.if_neg (by omega) <| Ev.now _, fun _ => ⟨ds, ht, ha, rfl, hp⟩⟩
    | succ m ih =>
      intro i ds hi ht ha hp
      have hil : i < l.length := by omega
      have ew : wrap64 ((i : Int) + 1) = ((i + 1 : Nat) : Int) := by rw [wrap64_id (by omega) (by omega)]; omega
      have hrd : rd l (i : Int) = l[i] := by simp [rd, List.getD_eq_getElem?_getD, List.getElem?_eq_getElem hil]
      by_cases h1 : l[i] < 1
      · exact ⟨0, false, Ev.step (fun k => spec_Count.l0.eq_2 _ _ _ _) <| Ev.if_pos (by omega) <| Ev.if_pos (by omega) <| Ev.if_pos (by rw [hrd]; exact h1) <| Ev.now _, fun h => by cases h⟩
      by_cases h2 : l[i] > 1000
      · exact ⟨0, false, Ev.step (fun k => spec_Count.l0.eq_2 _ _ _ _) <| Ev.if_pos (by omega) <| Ev.if_pos (by omega) <| Ev.if_neg (by rw [hrd]; exact h1) <| Ev.if_pos (by rw [hrd]; exact h2) <| Ev.now _, fun h => by cases h⟩
      obtain ⟨d, hd⟩ : ∃ d : Nat, l[i] = (d : Int) := ⟨(l[i]).toNat, by omega⟩
      have hq : Int.tdiv (1000 : Int) (rd l (i : Int)) = 1000 / (d : Int) := by rw [hrd, hd]; exact Int.tdiv_eq_ediv_of_nonneg (by omega)
      have hq2 : (0 : Int) ≤ 1000 / (d : Int) ∧ (1000 : Int) / (d : Int) ≤ 1000 := ⟨Int.ediv_nonneg (by omega) (by omega), Int.ediv_le_self _ (by omega)⟩
      have hqw : wrap64 (Int.tdiv (1000 : Int) (rd l (i : Int))) = 1000 / (d : Int) := by rw [hq, wrap64_id (by omega) (by omega)]
      by_cases h3 : ((Arr.prodL ds : Nat) : Int) > 1000 / (d : Int)
      · exact ⟨0, false, Ev.step (fun k => spec_Count.l0.eq_2 _ _ _ _) <| Ev.if_pos (by omega) <| Ev.if_pos (by omega) <| Ev.if_neg (by rw [hrd]; exact h1) <| Ev.if_neg (by rw [hrd]; exact h2) <| Ev.if_neg (by rw [hrd]; omega) <| Ev.if_pos (by rw [hqw]; exact h3) <| Ev.now _, fun h => by cases h⟩
      have hmul : ((Arr.prodL ds : Nat) : Int) * (d : Int) ≤ 1000 := (Int.le_ediv_iff_mul_le (by omega)).mp (by omega)
      have hmul2 : Arr.prodL ds * d ≤ 1000 := by
        have : ((Arr.prodL ds * d : Nat) : Int) ≤ 1000 := by rw [Int.natCast_mul]; exact hmul
        omega
      have hw : wrap64 (((Arr.prodL ds : Nat) : Int) * rd l (i : Int)) = ((Arr.prodL (ds ++ [d]) : Nat) : Int) := by
        rw [hrd, hd, prodL_snoc, ← Int.natCast_mul, wrap64_id (by omega) (by omega)]
      obtain ⟨n, b, e1, e2⟩ := ih (i + 1) (ds ++ [d]) (by omega) (by rw [List.take_add_one, List.getElem?_eq_getElem hil, ht, List.map_append, hd]; rfl) (fun a h => by
        rcases List.mem_append.mp h with h | h
        · exact ha a h
        · rw [List.mem_singleton.mp h]; omega) (by rw [prodL_snoc]; exact hmul2)
      refine ⟨n, b, Ev.step (fun k => spec_Count.l0.eq_2 _ _ _ _) <| Ev.if_pos (by omega) <| Ev.if_pos (by omega) <| Ev.if_neg (by rw [hrd]; exact h1) <| Ev.if_neg (by rw [hrd]; exact h2) <| Ev.if_neg (by rw [hrd]; omega) <| Ev.if_neg (by rw [hqw]; exact h3) ?_, e2⟩
      rw [hw, ew]
      exact e1
  unfold spec_Count.f
  exact go l.length 0 [] (by omega) rfl (fun a h => by cases h) (by decide)
set_option maxHeartbeats 1000000 in
theorem lit_step (a b : Nat) (ds : List Nat) (ih : ∀ l : List ByteArray, (b :: ds) ≠ [] → (∀ a ∈ (b :: ds), 1 ≤ a ∧ a ≤ 1000) → l.length = Arr.prodL (b :: ds) → Arr.prodL (b :: ds) ≤ 1000 → (b :: ds).length ≤ 6 → (∀ x ∈ l, x.size ≤ 402) → ∃ t, Ev (fun k => spec_Literal.f k ((b :: ds).map (fun a : Nat => (a : Int))) l ⟨#[44]⟩) t ∧ bytesOf t = Arr.litL 44 (b :: ds) (l.map bytesOf) ∧ t.size ≤ Arr.prodL (b :: ds) * (403 + 3 * (b :: ds).length)) (l : List ByteArray) (ha : ∀ x ∈ (a :: b :: ds), 1 ≤ x ∧ x ≤ 1000) (hl : l.length = Arr.prodL (a :: b :: ds)) (hp : Arr.prodL (a :: b :: ds) ≤ 1000) (h6 : (a :: b :: ds).length ≤ 6) (hs : ∀ x ∈ l, x.size ≤ 402) :
    ∃ t, Ev (fun k => spec_Literal.f k ((a :: b :: ds).map (fun a : Nat => (a : Int))) l ⟨#[44]⟩) t ∧ bytesOf t = Arr.litL 44 (a :: b :: ds) (l.map bytesOf) ∧ t.size ≤ Arr.prodL (a :: b :: ds) * (403 + 3 * (a :: b :: ds).length) := by
  have ha1 := ha a (by simp)
  have hP : Arr.prodL (a :: b :: ds) = a * Arr.prodL (b :: ds) := rfl
  obtain ⟨P, hPd⟩ : ∃ P, P = Arr.prodL (b :: ds) := ⟨_, rfl⟩
  rw [hP, ← hPd] at hl hp
  have hP1 : 1 ≤ P := by
    rcases Nat.eq_zero_or_pos P with h | h
    · exfalso
      have hall : ∀ (q : List Nat), (∀ x ∈ q, 1 ≤ x) → 1 ≤ Arr.prodL q := by
        intro q
        induction q with
        | nil => intro _; exact Nat.le_refl _
        | cons x t ih2 =>
          intro hq
          exact Nat.mul_pos (hq x (by simp)) (ih2 (fun y hy => hq y (by simp [hy])))
      have := hall (b :: ds) (fun x hx => (ha x (by simp at hx ⊢; exact .inr hx)).1)
      omega
    · exact h
  have hPle : P ≤ a * P := Nat.le_mul_of_pos_left _ (by omega)
  have h44 : (⟨#[44]⟩ : ByteArray).size = 1 := rfl
  have h125 : (⟨#[125]⟩ : ByteArray).size = 1 := rfl
  have hb125 : bytesOf ⟨#[125]⟩ = [125] := by decide
  have hdiv : l.length / a = P := by rw [hl]; exact Nat.mul_div_cancel_left _ (by omega)
  obtain ⟨x0, hx0⟩ : ∃ x0 : List Int, x0 = (a :: b :: ds).map (fun a : Nat => (a : Int)) := ⟨_, rfl⟩
  have hx0l : x0.length = ds.length + 2 := by rw [hx0]; simp
  have hx00 : rd x0 0 = (a : Int) := by rw [hx0]; rfl
  have hx0d : x0.drop 1 = (b :: ds).map (fun a : Nat => (a : Int)) := by rw [hx0]; rfl
  have hx8 : wrap64 ((l.length : Int) / rd x0 0) = (P : Int) := by
    rw [hx00, ← Int.natCast_ediv, hdiv, wrap64_id (by omega) (by omega)]
  obtain ⟨f, hf⟩ : ∃ f : Nat → List Int, f = fun i => Arr.litL 44 (b :: ds) (((l.map bytesOf).drop (i * P)).take P) := ⟨_, rfl⟩
  obtain ⟨K, hK⟩ : ∃ K, K = P * (403 + 3 * (b :: ds).length) := ⟨_, rfl⟩
  have hKb : K ≤ 1000 * 421 := by
    rw [hK]
    exact Nat.mul_le_mul (by omega) (by simp only [List.length_cons] at h6 ⊢; omega)
  have part : ∀ i, i < a → ∃ t, Ev (fun k => spec_Literal.f k (x0.drop 1) ((l.take (i * P + P)).drop (i * P)) ⟨#[44]⟩) t ∧ bytesOf t = f i ∧ t.size ≤ K := by
    intro i hia
    have hmul : i * P + P ≤ a * P := by rw [← Nat.succ_mul]; exact Nat.mul_le_mul_right _ hia
    obtain ⟨t, e1, e2, e3⟩ := ih ((l.take (i * P + P)).drop (i * P)) (by simp) (fun x hx => ha x (by simp at hx ⊢; exact .inr hx)) (by rw [List.length_drop, List.length_take, hl, ← hPd]; omega) (by omega) (by simp only [List.length_cons] at h6 ⊢; omega) (fun x hx => hs x (List.mem_of_mem_take (List.mem_of_mem_drop hx)))
    refine ⟨t, by rw [hx0d]; exact e1, ?_, by rw [hK, hPd]; exact e3⟩
    rw [e2, hf, List.map_drop, List.map_take, List.drop_take, Nat.add_sub_cancel_left]
  have hlit : Arr.litL 44 (a :: b :: ds) (l.map bytesOf) = 123 :: (Arr.joinR 44 ((List.range a).map f) ++ [125]) := by
    show 123 :: (Arr.joinR 44 ((List.range a).map fun i => Arr.litL 44 (b :: ds) (((l.map bytesOf).drop (i * ((l.map bytesOf).length / a))).take ((l.map bytesOf).length / a))) ++ [125]) = _
    rw [List.length_map, hdiv, hf]
  obtain ⟨M, hM⟩ : ∃ M, M = K + 1 := ⟨_, rfl⟩
  have hMb : M ≤ 421001 := by omega
  have hA : a ≤ 1000 := ha1.2
  have hLen : ∀ i, i < a → i * P + P ≤ l.length := fun i hia => by
    rw [hl, ← Nat.succ_mul]; exact Nat.mul_le_mul_right _ hia
  have hL1000 : l.length ≤ 1000 := by rw [hl]; exact hp
  have go : ∀ (m i : Nat) (x7 : ByteArray), i + m = a → bytesOf x7 = 123 :: Arr.joinR 44 ((List.range i).map f) → x7.size ≤ 1 + i * M →
      ∃ t, Ev (fun k => spec_Literal.l0 k x0 l ⟨#[44]⟩ x7 (P : Int) (i : Int)) t ∧ bytesOf t = 123 :: (Arr.joinR 44 ((List.range a).map f) ++ [125]) ∧ t.size ≤ 2 + a * M := by
    have hKM : K + 1 ≤ M := by omega
    obtain ⟨BB, hBB, hQ0⟩ : ∃ BB : Nat, BB ≤ 9000000000000 ∧ ∀ i, i ≤ 1000 → i * M ≤ BB := ⟨1000 * M, by omega, fun i hi => Nat.mul_le_mul_right M hi⟩
    clear ih ha hlit hdiv hx8 hPle hP hp hs hPd hl hK hKb hM hx0 hx0d h6 ha1 hP1 hf
    intro m
    induction m with
    | zero =>
      intro i x7 hi hb hsz
      have hia : i = a := by omega
      subst hia
      have hm2 := hQ0 i hA
      obtain ⟨Q, hQ⟩ : ∃ Q, Q = i * M := ⟨_, rfl⟩
      rw [← hQ] at hsz hm2 ⊢
      refine ⟨x7 ++ ⟨#[125]⟩, Ev.step (fun k => spec_Literal.l0.eq_2 _ _ _ _ _ _ _) <| Ev.if_pos (by omega) <| Ev.if_neg (by rw [hx00]; omega) <| Ev.if_pos (by omega) <| Ev.now _, ?_, ?_⟩
      · rw [bytesOf_append, hb, hb125]; rfl
      · rw [size_append, h125]; omega
    | succ m ihm =>
      intro i x7 hi hb hsz
      have hia : i < a := by omega
      obtain ⟨t, e1, e2, e3⟩ := part i hia
      have hm2 := hQ0 i (by omega)
      have hmul := hLen i hia
      have hsm : (i + 1) * M = i * M + M := Nat.succ_mul i M
      have hsp : (i + 1) * P = i * P + P := Nat.succ_mul i P
      obtain ⟨Q, hQ⟩ : ∃ Q, Q = i * M := ⟨_, rfl⟩
      obtain ⟨R, hR⟩ : ∃ R, R = i * P := ⟨_, rfl⟩
      rw [← hQ] at hsz hm2 hsm
      rw [← hR] at hmul hsp e1
      have hbi : i + 1 ≤ 9223372036854775807 := by omega
      have hbR : R ≤ 9223372036854775807 := by omega
      have hbRP : R + P ≤ 9223372036854775807 := by omega
      have EW : Aside0 (wrap64 ((i : Int) + 1) = ((i + 1 : Nat) : Int)) := ⟨wrap64_nat hbi⟩
      have W1 : Aside0 (wrap64 ((i : Int) * (P : Int)) = (R : Int)) := ⟨by rw [← Int.natCast_mul, ← hR]; exact wrap64_nat hbR⟩
      have W2 : Aside0 (wrap64 (wrap64 ((i : Int) + 1) * (P : Int)) = ((R + P : Nat) : Int)) := ⟨by rw [EW.out, ← Int.natCast_mul, hsp]; exact wrap64_nat hbRP⟩
      have c1 : 0 ≤ wrap64 ((i : Int) * (P : Int)) := by rw [W1.out]; omega
      have c2 : wrap64 ((i : Int) * (P : Int)) ≤ wrap64 (wrap64 ((i : Int) + 1) * (P : Int)) := by rw [W1.out, W2.out]; omega
      have c3 : wrap64 (wrap64 ((i : Int) + 1) * (P : Int)) ≤ (l.length : Int) := by rw [W2.out]; omega
      have C1 := Aside0.mk c1
      have C2 := Aside0.mk c2
      have C3 := Aside0.mk c3
      clear c1 c2 c3
      have hrng : (List.range (i + 1)).map f = (List.range i).map f ++ [f i] := by rw [List.range_succ, List.map_append]; rfl
      clear part hLen hQ0 hQ hR
      by_cases hi0 : i = 0
      · have hj : Arr.joinR 44 ((List.range (i + 1)).map f) = f i := by rw [hrng, hi0]; rfl
        have hj0 : Arr.joinR 44 ((List.range i).map f) = [] := by rw [hi0]; rfl
        obtain ⟨t2, f1, f2, f3⟩ := ihm (i + 1) (x7 ++ t) (by omega) (by rw [bytesOf_append, hb, hj, hj0, e2]; rfl) (by rw [size_append, hsm]; omega)
        refine ⟨t2, Ev.step (fun k => spec_Literal.l0.eq_2 _ _ _ _ _ _ _) <| Ev.if_pos (by omega) <| Ev.if_pos (by rw [hx00]; omega) <| Ev.if_neg (by omega) <| Ev.if_neg (by omega) <| Ev.if_pos (by omega) <| Ev.if_pos C1.out <| Ev.if_pos C2.out <| Ev.if_pos C3.out ?_, f2, f3⟩
        rw [W1.out, W2.out, Int.toNat_natCast, Int.toNat_natCast, EW.out]
        exact Ev.bind e1 <| Ev.if_pos (by omega) f1
      · have hj : Arr.joinR 44 ((List.range (i + 1)).map f) = Arr.joinR 44 ((List.range i).map f) ++ 44 :: f i := by
          rw [hrng, joinR_snoc, if_neg (by
            intro h
            have h3 := congrArg List.length h
            rw [List.length_map, List.length_range, List.length_nil] at h3
            omega)]
        obtain ⟨t2, f1, f2, f3⟩ := ihm (i + 1) ((x7 ++ ⟨#[44]⟩) ++ t) (by omega) (by rw [bytesOf_append, bytesOf_append, hb, hj, bytes_comma, e2]; simp) (by rw [size_append, size_append, h44, hsm]; omega)
        refine ⟨t2, Ev.step (fun k => spec_Literal.l0.eq_2 _ _ _ _ _ _ _) <| Ev.if_pos (by omega) <| Ev.if_pos (by rw [hx00]; omega) <| Ev.if_pos (by omega) <| Ev.if_pos (by rw [h44]; omega) <| Ev.if_neg (by omega) <| Ev.if_pos (by omega) <| Ev.if_pos C1.out <| Ev.if_pos C2.out <| Ev.if_pos C3.out ?_, f2, f3⟩
        rw [W1.out, W2.out, Int.toNat_natCast, Int.toNat_natCast, EW.out]
        exact Ev.bind e1 <| Ev.if_pos (by rw [size_append, h44]; omega) f1
  obtain ⟨t, e1, e2, e3⟩ := go a 0 ⟨#[123]⟩ (by omega) (show bytesOf ⟨#[123]⟩ = [123] by decide) (show (⟨#[123]⟩ : ByteArray).size ≤ 1 + 0 * M by rw [Nat.zero_mul]; exact Nat.le_refl 1)
  refine ⟨t, ?_, by rw [hlit]; exact e2, ?_⟩
  · rw [← hx0]
    refine Ev.step (fun k => spec_Literal.f.eq_2 _ _ _ _) <| Ev.if_neg (by omega) <| Ev.if_pos (by omega) <| Ev.if_neg (by rw [hx00]; omega) ?_
    rw [hx8]
    exact e1
  · refine Nat.le_trans e3 ?_
    have h1 : a * M = a * K + a := by rw [hM, Nat.mul_succ]
    have h2 : a * K = a * P * (403 + 3 * (b :: ds).length) := by rw [hK, Nat.mul_assoc]
    have h3 : Arr.prodL (a :: b :: ds) * (403 + 3 * (a :: b :: ds).length) = a * P * (403 + 3 * (b :: ds).length) + a * P * 3 := by
      rw [hP, ← hPd, ← Nat.mul_add]
      congr 1
    have h4 : a ≤ a * P := Nat.le_mul_of_pos_right _ hP1
    rw [h1, h2, h3]
    obtain ⟨X, hX⟩ : ∃ X, X = a * P * (403 + 3 * (b :: ds).length) := ⟨_, rfl⟩
    obtain ⟨Y, hY⟩ : ∃ Y, Y = a * P := ⟨_, rfl⟩
    rw [← hX]
    rw [← hY] at h4 ⊢
    have ha2 := ha1.1
    clear ih ha hlit hdiv hx8 hPle hP hp hs hPd hl hK hKb hx0 hx0d hf part go e1 e2 e3 h1 h2 h3 hX hY hLen
    omega
/-- Literal, of any dimensions. -/
theorem lit_text : ∀ (ds : List Nat) (l : List ByteArray), ds ≠ [] → (∀ a ∈ ds, 1 ≤ a ∧ a ≤ 1000) → l.length = Arr.prodL ds → Arr.prodL ds ≤ 1000 → ds.length ≤ 6 → (∀ x ∈ l, x.size ≤ 402) →
    ∃ t, Ev (fun k => spec_Literal.f k (ds.map (fun a : Nat => (a : Int))) l ⟨#[44]⟩) t ∧ bytesOf t = Arr.litL 44 ds (l.map bytesOf) ∧ t.size ≤ Arr.prodL ds * (403 + 3 * ds.length)
  | [], _, h, _, _, _, _, _ => absurd rfl h
  | [a], l, _, ha, hl, hp, _, hs => by
    have ha1 := ha a (by simp)
    have hla : l.length = a := by rw [hl]; simp [Arr.prodL]
    obtain ⟨t, e1, e2, e3⟩ := lit_row l (by intro e; rw [e] at hla; simp at hla; omega) (by omega) 402 (by omega) hs
    refine ⟨t, ?_, ?_, ?_⟩
    · rw [← hla]; exact e1
    · rw [e2]
      show _ = 123 :: (Arr.joinR 44 ((l.map bytesOf).take a) ++ [125])
      rw [← hla, ← List.length_map (f := bytesOf), List.take_length]
    · have : Arr.prodL [a] = a := by simp [Arr.prodL]
      rw [this, ← hla]
      simp only [List.length_cons, List.length_nil]
      omega
  | a :: b :: ds, l, _, ha, hl, hp, h6, hs => lit_step a b ds (fun l h1 h2 h3 h4 h5 h7 => lit_text (b :: ds) l h1 h2 h3 h4 h5 h7) l ha hl hp h6 hs
/-- SameItems of two lists that are the same, reals 0. -/
theorem sameItems_self (l : List S39) (hl : l.length ≤ 1000000) (h : ∀ x ∈ l, x.f3 = 0) : spec_SameItems.f l l = some true := by
  have go : ∀ l : List S39, (∀ x ∈ l, x.f3 = 0) → sameL l l = true := by
    intro l
    induction l with
    | nil => intro _; rfl
    | cons x t ih =>
      intro h
      rw [sameL, ih (fun y hy => h y (by simp [hy]))]
      have := h x (by simp)
      simp [sameS, this]
  unfold spec_SameItems.f
  rw [if_pos ⟨go l h, hl⟩]
end Go.Proofs.Ythcikkjjegfblaa.Lib
