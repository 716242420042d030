/- What fromDSN keeps while it reads: the reader, the map, the rows; the closures' contracts over it. Conditions: named by each theorem. -/
import Derived.Test.YtlhjblbmhlelbaaDsnC
import Derived.Maps.Own
import Derived.Maps.Views
namespace Go.Proofs.Ytlhjblbmhlelbaa.P
open Go.RowKit Go.Proofs.YtlhjblbmhlelbaaW.PrintWords Go.Proofs.YtlhjblbmhlelbaaW.PrintLast Go.Proofs.YtlhjblbmhlelbaaW.PrintMore
set_option linter.unusedVariables false
set_option linter.unusedSimpArgs false
/-- A text of a map, as its datum's key. -/
def keyLit (l : List Int) : Lit := .string (strOfNums l).data.toList
/-- The map's datum behind these settings, one behind the other. -/
def putL (A : List (List Int × List Int)) : DataW Nat := A.foldl (fun D p => D.put (keyLit p.1) (.lit (keyLit p.2))) (.map [])
theorem putL_snoc (A : List (List Int × List Int)) (p : List Int × List Int) : putL (A ++ [p]) = (putL A).put (keyLit p.1) (.lit (keyLit p.2)) := by
  unfold putL; rw [List.foldl_append]; rfl
/-- Where all lies. -/
structure Lay (w : World) (p : Pl) (bm B0 : Nat) : Prop where
  h0 : w.heap.size ≤ p.bi
  h1 : p.off bm
  h2 : bm < B0
  h3 : p.bi < B0
  h4 : p.bs < B0
  h5 : p.br < B0
  h6 : p.bn < B0
  h7 : w.heap.size ≤ bm
  h8 : w.heap.size ≤ B0
theorem Lay.offB {w : World} {p : Pl} {bm B0 k : Nat} (h : Lay w p bm B0) (hk : B0 ≤ k) : p.off k := by
  have h3 := h.h3; have h4 := h.h4; have h5 := h.h5; have h6 := h.h6
  exact ⟨by omega, by omega, by omega, by omega⟩
structure Inv (w : World) (p : Pl) (bm B0 : Nat) (s : List Int) (A : List (List Int × List Int)) (l : List Int) (W : World) : Prop where
  ds : DS p s l W
  mp : W.ownsMap Try.prog 9 (plainElem Try.prog 9) bm A.length (putL A)
  bl : Below w.heap.size w W
  sz : B0 ≤ W.heap.size
  ly : Lay w p bm B0
section
variable {w W W1 : World} {p : Pl} {bm B0 : Nat} {s l : List Int} {A : List (List Int × List Int)}
theorem Inv.grown {row : Option Nat} (h : Inv w p bm B0 s A l W) (hg : W.grownBy W1 row) (hr : ∀ k, row = some k → B0 ≤ k) : Inv w p bm B0 s A l W1 :=
  ⟨h.ds.grown hg (fun k hk => h.ly.offB (hr k hk)), h.mp.kept hg (fun e => by have := hr bm e.symm; have := h.ly.h2; omega), h.bl.grown hg (Nat.le_trans h.ly.h8 h.sz) (fun k hk => Nat.le_trans h.ly.h8 (hr k hk)), Nat.le_trans h.sz hg.size, h.ly⟩
theorem Inv.next {l' : List Int} (h : Inv w p bm B0 s A l W) (hd : DS p s l' W1) (hg : W.grownBy W1 (some p.bi)) : Inv w p bm B0 s A l' W1 :=
  ⟨hd, h.mp.kept hg (fun e => by injection e with e; exact h.ly.h1.1 e), h.bl.grown hg (Nat.le_trans h.ly.h8 h.sz) (fun k hk => by injection hk with hk; subst hk; exact h.ly.h0), Nat.le_trans h.sz hg.size, h.ly⟩
theorem Inv.drewN (h : Inv w p bm B0 s A l W) (n : Nat) : Inv w p bm B0 s A l (W.drewN n) := h.grown (row := none) ⟨rfl, rfl, rfl, Nat.le_refl _, fun _ _ _ => rfl⟩ (fun k hk => by cases hk)
theorem Inv.alloc (h : Inv w p bm B0 s A l W) (o : Obj) : Inv w p bm B0 s A l (W.alloc o) := h.grown (World.grownBy_alloc W o none) (fun k hk => by cases hk)
theorem Inv.below (h : Inv w p bm B0 s A l W) (hb : Below W.heap.size W W1) : Inv w p bm B0 s A l W1 := h.grown (grown_of_below hb none) (fun k hk => by cases hk)
theorem Inv.put {x : List Int × List Int} (h : Inv w p bm B0 s A l W) (hm : W1.ownsMap Try.prog 9 (plainElem Try.prog 9) bm (A.length + 1) ((putL A).put (keyLit x.1) (.lit (keyLit x.2)))) (hg : W.grownBy W1 (some bm)) : Inv w p bm B0 s (A ++ [x]) l W1 :=
  ⟨h.ds.grown hg (fun k hk => by injection hk with hk; subst hk; exact h.ly.h1), by rw [putL_snoc, List.length_append]; exact hm, h.bl.grown hg (Nat.le_trans h.ly.h8 h.sz) (fun k hk => by injection hk with hk; subst hk; exact h.ly.h7), Nat.le_trans h.sz hg.size, h.ly⟩
theorem Inv.asc (h : Inv w p bm B0 s A l W) : Asc l := h.ds.mem
theorem next_inv (h : Inv w p bm B0 s A l W) :
    Calls Try.prog 29 #[.pointer (some ⟨p.bi, 0, none⟩), .pointer (some ⟨p.bs, 0, none⟩)] W fun e W1 => e = .returned (.tuple #[.int .i32 (hd0 l), .bool (ne l)]) ∧ Inv w p bm B0 s A l.tail W1 ∧ W.grownBy W1 (some p.bi) :=
  (next_any h.ds).mono fun _ _ ⟨he, hd, hg⟩ => ⟨he, h.next hd hg, hg⟩
theorem skip_inv (h : Inv w p bm B0 s A l W) :
    Calls Try.prog 30 #[.pointer (some ⟨p.bn, 0, none⟩)] W fun e W1 => e = .returned (.tuple #[.int .i32 (hd0 (skipL l)), .bool (ne (skipL l))]) ∧ Inv w p bm B0 s A (skipL l).tail W1 ∧ W.grownBy W1 (some p.bi) :=
  (skip_any h.ds).mono fun _ _ ⟨he, hd, hg⟩ => ⟨he, h.next hd hg, hg⟩
end
/-- A row of runes of the call's own, from block base on. -/
def Row (base : Nat) (v : Value) (ks : List Int) (W : World) : Prop := Kd.R (Kd.int .i32) 21 W base (fun _ => True) v ks
section
variable {W W1 : World} {base : Nat} {v : Value} {ks : List Int}
theorem Row.nil (base : Nat) (W : World) : Row base (.slice none 0 0) [] W := Kd.R_of_own (h1 := fun _ => rfl) ⟨rfl, .inl ⟨rfl, rfl⟩⟩ (fun _ _ => trivial)
theorem Row.lt (h : Row base v ks W) : ∀ k, v.ownBlock = some k → base ≤ k ∧ k < W.heap.size := fun k hk => ⟨own_base (Kd.own_of_R h) k hk, Kd.R_lt h k hk⟩
theorem Row.grown {row : Option Nat} (h : Row base v ks W) (hg : W.grownBy W1 row) (hr : ∀ k, row = some k → v.ownBlock ≠ some k) : Row base v ks W1 :=
  Kd.R_of_own (h1 := fun _ => rfl) (own_move (Kd.own_of_R h) (fun k hk => hg.block k (h.lt k hk).2 (fun e => hr k e.symm hk))) (fun _ _ => trivial)
theorem Row.low {k : Nat} (h : Row base v ks W) (hg : W.grownBy W1 (some k)) (hk : k < base) : Row base v ks W1 := h.grown hg (fun j hj e => by injection hj with hj; subst hj; have := (h.lt k e).1; omega)
theorem Row.drewN (h : Row base v ks W) (n : Nat) : Row base v ks (W.drewN n) := Kd.R_drewN h n
theorem Row.alloc (h : Row base v ks W) (o : Obj) : Row base v ks (W.alloc o) := Kd.R_alloc h o
end
end Go.Proofs.Ytlhjblbmhlelbaa.P
