/- How a law's arguments, slices of structs and structs among them, are read as lists and structures. Conditions: named by each lemma. -/
import Derived.Test.YtlhjblbmhlelbabDoorWMore
import Derived.Test.YtlhjblbmhlelbabDoorWSized
import Derived.Deep.Slices
import Derived.Deep.Fields
namespace Go.Proofs.YtlhjblbmhlelbabDoor.Lib
open Go.ChangeShapes Go.WideShapes Go.Deep Go.RowKit Go.Proofs.YtlhjblbmhlelbabDoorW.PrintWords Go.Proofs.YtlhjblbmhlelbabDoorW.PrintLast Go.Proofs.YtlhjblbmhlelbabDoorW.PrintMore

section
variable {H : Type} {enc : TypeId × Value → H} {P : Program} {w : World}
/-- What is read at type t is of a kind, and good. -/
def Opens (enc : TypeId × Value → H) (P : Program) (w : World) (t : TypeId) {α : Type} (d : Kd α) (g : α → Prop) : Prop :=
  ∀ (base : Nat) (spare : Nat → Bool) (held : Bool) (fuel : Nat) (cs : List Value) (x : DataW H × List MemPlace), DataW.trod enc P w base spare held fuel t cs = some x → ∃ a, d.K w a cs ∧ g a
theorem opens_int {t : TypeId} {k : IntKind} (ht : P.underlying t = some (.int k)) : Opens enc P w t (Kd.int k) (fun n => (Lit.int k n).wf = true) := fun _ _ _ _ _ _ h => by
  obtain ⟨n, rfl, _, hw⟩ := DataW.trod_int ht h
  exact ⟨n, rfl, hw⟩
theorem opens_bool {t : TypeId} (ht : P.underlying t = some .bool) : Opens enc P w t Kd.bool (fun _ => True) := fun _ _ _ _ _ _ h => by
  obtain ⟨n, rfl, _⟩ := DataW.trod_bool ht h
  exact ⟨n, rfl, trivial⟩
theorem opens_string {t : TypeId} (ht : P.underlying t = some .string) : Opens enc P w t Kd.string (fun s => s.size ≤ maxLen) := fun _ _ _ _ _ _ h => by
  obtain ⟨s, rfl, _, hs⟩ := DataW.trod_string ht h
  exact ⟨s, rfl, hs⟩
theorem opens_slice {t e : TypeId} {α : Type} {d : Kd α} {g : α → Prop} (ht : P.underlying t = some (.slice e)) (hC : P.cellsOf e = d.sz) (he : Opens enc P w e d g) : Opens enc P w t (Kd.slice e d) (fun xs => xs.length ≤ 9223372036854775807 ∧ ∀ a ∈ xs, g a) := fun base spare held fuel cs x h => by
  rcases open_slice ht h with ⟨rfl, _⟩ | ⟨ad, len, cap, m, n, D, Pl, rfl, _, hl, hm, hmm, _, hi⟩
  · exact ⟨[], ⟨none, 0, rfl, Nat.le_refl _, ⟨rfl, by simp, fun h => absurd h (by simp)⟩⟩, by simp, (fun a ha => by cases ha)⟩
  · have hlm : len ≤ m := by rw [hmm]; split <;> omega
    have build : ∀ k, k ≤ len → ∃ xs : List α, xs.length = k ∧ (∀ a ∈ xs, g a) ∧ ∀ j p, xs[j]? = some p → ∃ c, c.length = d.sz ∧ d.K w p c ∧ ∀ i u, c[i]? = some u → w.cell? (ad.add (j * d.sz + i)) = some u := by
      intro k
      induction k with
      | zero => intro _; exact ⟨[], rfl, (fun a ha => by cases ha), (fun j p h => by simp at h)⟩
      | succ k ih =>
        intro hk
        obtain ⟨xs, h1, h2, h3⟩ := ih (by omega)
        obtain ⟨cs', hc, ht'⟩ := hi k (by omega)
        obtain ⟨a, hK, hg⟩ := he _ _ _ _ _ _ ht'
        obtain ⟨_, hcl, hat⟩ := World.cells?_some hc
        rw [hC] at hcl hat
        refine ⟨xs ++ [a], by simp [h1], ?_, ?_⟩
        · intro b hb
          rcases List.mem_append.1 hb with hb | hb
          · exact h2 b hb
          · simp at hb; rw [hb]; exact hg
        · intro j p hj
          rcases Nat.lt_or_ge j xs.length with hlt | hge
          · rw [List.getElem?_append_left hlt] at hj
            exact h3 j p hj
          · have hj' : j = xs.length := by
              have := (List.getElem?_eq_some_iff.1 hj).1
              simp at this; omega
            subst hj'
            simp at hj
            subst hj
            refine ⟨cs', hcl, hK, fun i u hu => ?_⟩
            have hil : i < cs'.length := (List.getElem?_eq_some_iff.1 hu).1
            have := hat i (by omega)
            rw [h1, ← Go.Deep.add_add, this, hu]
    obtain ⟨xs, h1, h2, h3⟩ := build len (Nat.le_refl _)
    exact ⟨xs, ⟨some ad, cap, by rw [h1], by omega, ⟨rfl, by rw [h1]; unfold maxLen at hm; omega, fun _ => ⟨ad, rfl, h3⟩⟩⟩, by rw [h1]; unfold maxLen at hm; omega, h2⟩
/-- Fields in line, one cell each. -/
def OpensL (enc : TypeId × Value → H) (P : Program) (w : World) (ts : List TypeId) {α : Type} (d : Kd α) (g : α → Prop) : Prop :=
  ∀ (base : Nat) (spare : Nat → Bool) (held : Bool) (n : Nat) (cs : List Value), cs.length = ts.length → (∀ (j : Nat) t c, ts[j]? = some t → cs[j]? = some c → ∃ y, DataW.trod enc P w base spare held n t [c] = some y) → ∃ a, d.K w a cs ∧ g a
theorem opensL_one {t : TypeId} {α : Type} {d : Kd α} {g : α → Prop} (h : Opens enc P w t d g) : OpensL enc P w [t] d g := fun _ _ _ _ cs hl hc => by
  match cs, hl with
  | [c], _ =>
    obtain ⟨y, hy⟩ := hc 0 t c rfl rfl
    exact h _ _ _ _ _ _ hy
theorem opensL_cons {t : TypeId} {ts : List TypeId} {α β : Type} {d : Kd α} {d' : Kd β} {g : α → Prop} {g' : β → Prop} (h : Opens enc P w t d g) (h' : OpensL enc P w ts d' g') : OpensL enc P w (t :: ts) (Kd.pair d d') (fun x => g x.1 ∧ g' x.2) := fun base spare held n cs hl hc => by
  match cs, hl with
  | c :: cs, hl =>
    obtain ⟨y, hy⟩ := hc 0 t c rfl rfl
    obtain ⟨a, ha, ga⟩ := h _ _ _ _ _ _ hy
    obtain ⟨b, hb, gb⟩ := h' base spare held n cs (by simpa using hl) (fun j t c h1 h2 => hc (j + 1) t c (by simpa using h1) (by simpa using h2))
    exact ⟨(a, b), ⟨[c], cs, rfl, ha, hb⟩, ga, gb⟩
theorem opens_struct {t : TypeId} {fs : Array Field} {α β : Type} {d : Kd α} {g : α → Prop} (f : β → α) (ht : P.underlying t = some (.struct fs)) (hone : oneCellFields P fs = true) (hC : P.cellsOf t = fs.size) (hf : ∀ a, ∃ b, f b = a)
    (h : OpensL enc P w (fs.toList.map (·.type)) d g) : Opens enc P w t (Kd.iso d f) (fun b => g (f b)) := fun base spare held fuel cs x hx => by
  obtain ⟨ys, n', hn', hy, hlen, hyl, hg⟩ := DataW.trod_struct ht hx
  obtain ⟨a, ha, ga⟩ := h base spare held n' cs (by simp; omega) (fun j t' c h1 h2 => by
    rw [List.getElem?_map] at h1
    obtain ⟨fj, hj, rfl⟩ := Option.map_eq_some_iff.1 h1
    rw [Array.getElem?_toList] at hj
    obtain ⟨ho, hk⟩ := hone_of hone j fj hj
    have hjl : j < fs.size := (Array.getElem?_eq_some_iff.1 hj).1
    have e := hg j fj hj
    rw [ho, hk] at e
    have hone' : (cs.drop j).take 1 = [c] := by
      have hjc : j < cs.length := by omega
      rw [List.drop_eq_getElem_cons hjc]
      rw [List.getElem?_eq_getElem hjc] at h2
      injection h2 with h2
      simp [h2]
    rw [hone', List.getElem?_eq_getElem (by omega)] at e
    exact ⟨_, e⟩)
  obtain ⟨b, rfl⟩ := hf a
  exact ⟨b, ha, ga⟩
/-- An argument that is a slice. -/
theorem open_rows {t e : TypeId} {α : Type} {d : Kd α} {g : α → Prop} {base : Nat} {spare : Nat → Bool} {held : Bool} {A : Option Addr} {len cap : Nat} {x : DataW H} {ps : List MemPlace} (h : Opens enc P w t (Kd.slice e d) (fun xs => xs.length ≤ 9223372036854775807 ∧ ∀ a ∈ xs, g a)) (hx : DataW.Trod enc P w base spare held t (.slice A len cap) x ps) :
    ∃ xs : List α, len = xs.length ∧ xs.length ≤ cap ∧ d.C w A xs.length xs ∧ ∀ a ∈ xs, g a := by
  obtain ⟨fuel, hf⟩ := hx
  obtain ⟨xs, ⟨A', c', e1, e2, e3⟩, hg⟩ := h _ _ _ _ _ _ hf
  simp [Value.cells] at e1
  obtain ⟨rfl, rfl, rfl⟩ := e1
  exact ⟨xs, rfl, e2, e3, hg.2⟩
theorem sized_rows {base : Nat} {spare : Nat → Bool} {held : Bool} {t e : TypeId} {a : Option Addr} {len cap : Nat} {x : DataW H} {ps : List MemPlace} {ts : List TypeId} {ds : List (DataW H)} {j : Nat}
    (hsz : (DataW.weightsEach P ts ds).all (· ≤ reachBytes) = true) (ht : ts[j]? = some t) (hd : ds[j]? = some x) (hu : P.underlying t = some (.slice e)) {B : Nat} (hB : P.bytesOf e = B)
    (h : DataW.Trod enc P w base spare held t (.slice a len cap) x ps) : len * B ≤ 140737488351232 := by
  obtain ⟨fuel, hf⟩ := h
  rcases open_slice hu hf with ⟨hcs, _⟩ | ⟨ad, l, c, m, n, D, Pl, hcs, _, hl, hm, hmm, hx, hi⟩
  · simp [Value.cells] at hcs
    obtain ⟨rfl, rfl, rfl⟩ := hcs
    simp
  · simp [Value.cells] at hcs
    obtain ⟨rfl, rfl, rfl⟩ := hcs
    obtain ⟨hx, _⟩ := Prod.mk.inj hx
    subst hx
    have z := sized_slice hsz ht hd hu
    rw [hB] at z
    refine Nat.le_trans (Nat.mul_le_mul_right _ ?_) z
    simp
end
end Go.Proofs.YtlhjblbmhlelbabDoor.Lib
