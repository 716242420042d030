/- Plain lemmas of this session on byte strings, lists of whole numbers and rounds, for the pure statements of this seat. Conditions: none beyond those that each lemma names. -/
import Derived.Test.YtlhjblbmhlelbaaWMore
namespace Go.Proofs.Ytlhjblbmhlelbaa.Lib
open Go.RowKit Go.Proofs.YtlhjblbmhlelbaaW.PrintWords Go.Proofs.YtlhjblbmhlelbaaW.PrintLast Go.Proofs.YtlhjblbmhlelbaaW.PrintMore

theorem wrap64_id {n : Int} (h₀ : -9223372036854775808 ≤ n) (h₁ : n ≤ 9223372036854775807) : wrap64 n = n := by unfold wrap64; omega

/-! ### rounds -/
theorem Ev.to {α : Type} {g : Nat → Option α} {r r' : α} (e : r = r') (h : Ev g r) : Ev g r' := e ▸ h
theorem Ev.eq {α : Type} {g : Nat → Option α} {r r' : α} (h : Ev g r) (e : r = r') : Ev g r' := e ▸ h
theorem Ev.const {α : Type} {x : Option α} {r : α} (h : x = some r) : Ev (fun _ => x) r := ⟨0, fun _ _ => h⟩
theorem Ev.if_pos {α : Type} {c : Prop} [Decidable c] {f g : Nat → Option α} {r : α} (hc : c) (h : Ev f r) : Ev (fun k => if c then f k else g k) r :=
  Ev.congr (fun _ => _root_.if_pos hc) h
theorem Ev.if_neg {α : Type} {c : Prop} [Decidable c] {f g : Nat → Option α} {r : α} (hc : ¬ c) (h : Ev g r) : Ev (fun k => if c then f k else g k) r :=
  Ev.congr (fun _ => _root_.if_neg hc) h

/-! ### a place in a list -/
/-- From place i on the list goes on with l. -/
def At (xs : List Int) (i : Int) (l : List Int) : Prop := 0 ≤ i ∧ i ≤ xs.length ∧ xs.drop i.toNat = l
section
variable {xs l t p : List Int} {i c : Int}
theorem At.zero (xs : List Int) : At xs 0 xs := ⟨by omega, by omega, rfl⟩
theorem At.nonneg (h : At xs i l) : 0 ≤ i := h.1
theorem At.le (h : At xs i l) : i ≤ xs.length := h.2.1
theorem At.len (h : At xs i l) : i + l.length = xs.length := by
  obtain ⟨h0, h1, h2⟩ := h
  rw [← h2, List.length_drop]
  omega
theorem At.nil (h : At xs i []) : i = xs.length := by have := h.len; simpa using this
theorem At.lt (h : At xs i (c :: t)) : i < xs.length := by have := h.len; simp at this; omega
theorem At.rd (h : At xs i (c :: t)) : rd xs i = c := by
  obtain ⟨h0, h1, h2⟩ := h
  have : (xs.drop i.toNat)[0]? = some c := by rw [h2]; rfl
  unfold Go.Proofs.YtlhjblbmhlelbaaW.PrintWords.rd
  rw [List.getElem?_drop] at this
  simp only [Nat.add_zero] at this
  rw [List.getD_eq_getElem?_getD, this]; rfl
theorem At.tail (h : At xs i (c :: t)) : At xs (i + 1) t := by
  have hl := h.lt
  obtain ⟨h0, h1, h2⟩ := h
  refine ⟨by omega, by omega, ?_⟩
  have : (i + 1).toNat = i.toNat + 1 := by omega
  rw [this, ← List.drop_drop, h2]; rfl
theorem At.drop (h : At xs i (p ++ t)) : At xs (i + p.length) t := by
  have hl := h.len
  obtain ⟨h0, h1, h2⟩ := h
  rw [List.length_append] at hl
  refine ⟨by omega, by omega, ?_⟩
  have : (i + p.length).toNat = i.toNat + p.length := by omega
  rw [this, ← List.drop_drop, h2]; simp
theorem At.end (xs : List Int) : At xs xs.length [] := ⟨by omega, by omega, by simp⟩
/-- Every place of a list is one. -/
theorem At.of (xs : List Int) {i : Int} (h0 : 0 ≤ i) (h1 : i ≤ xs.length) : At xs i (xs.drop i.toNat) := ⟨h0, h1, rfl⟩
theorem At.ge (h : At xs i l) (hl : ¬ i < xs.length) : l = [] := by
  cases l with
  | nil => rfl
  | cons c t => exact absurd h.lt hl
theorem At.split (h : At xs i l) : xs = xs.take i.toNat ++ l := by rw [← h.2.2, List.take_append_drop]
end

/-! ### bytes -/
theorem bytesOf_range {s : ByteArray} {c : Int} (h : c ∈ bytesOf s) : 0 ≤ c ∧ c ≤ 255 := by
  unfold bytesOf at h
  obtain ⟨b, _, rfl⟩ := List.mem_map.1 h
  have := b.toNat_lt
  omega
theorem bytesOf_size (s : ByteArray) : (s.size : Int) = (bytesOf s).length := by rw [bytesOf_length]
theorem bytesOf_append (a b : ByteArray) : bytesOf (a ++ b) = bytesOf a ++ bytesOf b := by
  unfold bytesOf; simp
theorem bytesOf_extract (s : ByteArray) (a b : Nat) : bytesOf (s.extract a b) = ((bytesOf s).take b).drop a := by
  unfold bytesOf; simp [ByteArray.data_extract, List.map_drop, List.map_take, List.drop_take]
theorem bytesOf_inj {a b : ByteArray} (h : bytesOf a = bytesOf b) : a = b := by
  unfold bytesOf at h
  have h2 : a.data.toList = b.data.toList := by
    refine (List.map_inj_right ?_).1 h
    intro x y e
    exact UInt8.toNat_inj.1 (by omega)
  cases a; cases b
  simp only at h2
  rw [Array.toList_inj.1 h2]
theorem toList_eq_iff {a b : ByteArray} : a.toList = b.toList ↔ bytesOf a = bytesOf b := by
  constructor
  · intro h
    rw [ByteArray.toList_eq, ByteArray.toList_eq] at h
    unfold bytesOf; rw [h]
  · intro h; rw [bytesOf_inj h]
theorem toList_beq {a b : ByteArray} (h : bytesOf a = bytesOf b) : (a.toList == b.toList) = true := by
  rw [bytesOf_inj h]; simp
theorem bytesOf_strOfNums {xs : List Int} (h : ∀ c ∈ xs, 0 ≤ c ∧ c ≤ 255) : bytesOf (strOfNums xs) = xs := by
  unfold bytesOf
  rw [strOfNums_data, List.map_map]
  have : xs.map ((fun b : UInt8 => (b.toNat : Int)) ∘ fun n : Int => UInt8.ofNat n.toNat) = xs.map id := by
    refine List.map_congr_left fun c hc => ?_
    have := h c hc
    simp only [Function.comp, id, UInt8.toNat_ofNat']
    omega
  rw [this, List.map_id]
theorem strOfNums_bytesOf (s : ByteArray) : strOfNums (bytesOf s) = s := bytesOf_inj (bytesOf_strOfNums fun _ h => bytesOf_range h)
section
variable {s : ByteArray} {l t p : List Int} {i c : Int}
theorem At.bt (h : At (bytesOf s) i (c :: t)) : bt s i = c := by rw [← rd_bytesOf]; exact h.rd
theorem At.slt (h : At (bytesOf s) i (c :: t)) : i < (s.size : Int) := by rw [bytesOf_size]; exact h.lt
theorem At.sle (h : At (bytesOf s) i l) : i ≤ (s.size : Int) := by rw [bytesOf_size]; exact h.le
theorem At.slen (h : At (bytesOf s) i l) : i + l.length = (s.size : Int) := by rw [bytesOf_size]; exact h.len
theorem At.snil (h : At (bytesOf s) i []) : i = (s.size : Int) := by rw [bytesOf_size]; exact h.nil
theorem At.sge (h : At (bytesOf s) i l) (hl : ¬ i < (s.size : Int)) : l = [] := h.ge (by rw [← bytesOf_size]; exact hl)
theorem At.byte (h : At (bytesOf s) i (c :: t)) : 0 ≤ c ∧ c ≤ 255 := by rw [← h.bt]; exact bt_range s i
theorem At.mem (h : At (bytesOf s) i l) (hc : c ∈ l) : 0 ≤ c ∧ c ≤ 255 := by
  refine bytesOf_range (s := s) ?_
  rw [h.split]; exact List.mem_append_right _ hc
/-- A piece of a text. -/
theorem At.piece {j : Int} (h : At (bytesOf s) i (p ++ t)) (hj : j = i + p.length) : bytesOf (s.extract i.toNat j.toNat) = p := by
  have h0 := h.1
  have e : bytesOf s = (bytesOf s).take i.toNat ++ (p ++ t) := h.split
  have hl : ((bytesOf s).take i.toNat).length = i.toNat := by
    have := h.le
    rw [List.length_take]; omega
  rw [bytesOf_extract, hj, show (i + p.length).toNat = i.toNat + p.length from by omega]
  rw [e, List.take_append, hl]
  simp [hl, List.take_take]
theorem At.one (h : At (bytesOf s) i (c :: t)) : bytesOf (s.extract i.toNat (i + 1).toNat) = [c] := At.piece (p := [c]) h rfl
theorem At.rest (h : At (bytesOf s) i l) : bytesOf (s.extract i.toNat s.size) = l := by
  have h2 := h.slen
  have h0 := h.1
  have := At.piece (p := l) (t := []) (j := (s.size : Int)) (by simpa using h) (by omega)
  simpa using this
theorem piece_size {p : ByteArray} {l : List Int} (h : bytesOf p = l) : p.size = l.length := by rw [← bytesOf_length, h]
theorem At.one_size (h : At (bytesOf s) i (c :: t)) : (s.extract i.toNat (i + 1).toNat).size = 1 := piece_size h.one
end
theorem bytesOf_nil : bytesOf ⟨#[]⟩ = [] := rfl
theorem bytesOf_lit (l : List UInt8) : bytesOf ⟨l.toArray⟩ = l.map fun b => (b.toNat : Int) := by simp [bytesOf]
theorem size_append (a b : ByteArray) : (a ++ b).size = a.size + b.size := by simp

end Go.Proofs.Ytlhjblbmhlelbaa.Lib
