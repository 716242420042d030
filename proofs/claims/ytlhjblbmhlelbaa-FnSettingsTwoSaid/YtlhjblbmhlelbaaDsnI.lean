/- A row of settings, sorted by sort.Slice. Conditions: named by each theorem. -/
import Derived.Test.YtlhjblbmhlelbaaDsnH
namespace Go.Proofs.Ytlhjblbmhlelbaa.P
open Go.RowKit Go.Proofs.YtlhjblbmhlelbaaW.PrintWords Go.Proofs.YtlhjblbmhlelbaaW.PrintLast Go.Proofs.YtlhjblbmhlelbaaW.PrintMore
open Go.Shelf Go.Sort
set_option linter.unusedVariables false
set_option linter.unusedSimpArgs false
/-- No later one is less than an earlier one. -/
def Up (xs : List Se) : Prop := xs.Pairwise (fun x y => ltS y x = false)
theorem grown_grow (W : World) (os : Array Obj) : W.grownBy (grow W os) none := by
  refine ⟨rfl, rfl, rfl, by simp [grow], fun k hk _ => ?_⟩
  show (W.heap ++ os)[k]? = _
  rw [Array.getElem?_append_left hk]
theorem sort_rows (base bl n c : Nat) (A : Option Addr) (xs : List Se) (W : World) (h : RowS base (.slice A n c) xs W) (hc : W.cell? ⟨bl, 0, none⟩ = some (.slice A n c)) (hbl : bl < W.heap.size) (hne : (Value.slice A n c).ownBlock ≠ some bl) (hsz : xs.length ≤ 1000000) :
    Calls Try.prog 27 #[.iface 23 (.slice A n c), .func (.func 28) #[] #[.pointer (some ⟨bl, 0, none⟩)]] W fun e w' => e = .returned (.tuple #[]) ∧ ∃ ys, ys.Perm xs ∧ Up ys ∧ RowS base (.slice A n c) ys w' ∧ W.grownBy w' (Value.slice A n c).ownBlock := by
  have hin := h.inner
  have hn : n = xs.length := by
    rcases hin.2 with ⟨h1, h2⟩ | ⟨g, cap, cur, h1, _⟩
    · injection h1 with h1 h3 h4; omega
    · injection h1
  by_cases h1 : n ≤ 1
  · refine (sort_one A n c h1 _ _ _ W).mono ?_
    rintro e w' ⟨rfl, os, rfl⟩
    have hg := grown_grow W os
    refine ⟨rfl, xs, List.Perm.refl _, ?_, RowS.of (own_move hin (fun k hk => hg.block k ?_ (by simp))), ⟨hg.os, hg.tape, hg.output, hg.size, fun k hk _ => hg.block k hk (by simp)⟩⟩
    · unfold Up
      match xs, hn with
      | [], _ => exact List.Pairwise.nil
      | [x], _ => exact List.pairwise_singleton _ _
      | x :: y :: t, hn => simp at hn; omega
    · rcases hin.2 with ⟨h2, _⟩ | ⟨g, cap, cur, h2, _, hgg, _⟩
      · rw [h2] at hk; cases hk
      · rw [h2] at hk
        injection hk with hk
        subst hk
        exact blk_lt hgg
  · rcases hin.2 with ⟨h2, h3⟩ | ⟨g, cap, cur, h2, hbg, hgg, hnc, hcm, hcs, htake⟩
    · omega
    · injection h2 with e1 e2 e3
      subst e1 e3
      have hlen : (xs.toArray).size = n := by simp [hn]
      have hlt : g < W.heap.size := blk_lt hgg
      have hblg : bl ≠ g := fun e => hne (by rw [e]; rfl)
      have hH : HoldsK encS 2 W g 0 xs.toArray := by
        intro j hj
        have hj' : j < (flatK encS 2 xs.toArray).toList.length := by simpa using hj
        have hcell : (flatK encS 2 xs.toArray).toList[j]? = cur.toList[j]? := by
          rw [← htake, List.getElem?_take, if_pos (by simp at hj; omega)]
        refine ⟨?_, ?_⟩
        · rw [Nat.zero_add]
          have h9 : W.cell? ⟨g, j, none⟩ = cur[j]? := blk_cell hgg j
          rw [h9]
          rw [List.getElem?_eq_getElem hj'] at hcell
          simp at hcell
          rw [← hcell]
          simp at hj
          simp [hj]
        · rw [Nat.zero_add]; exact blk_frozen hgg j
      have hs := sort_any g 0 c bl xs.toArray (by rw [hlen]; omega) (by simp; omega) W hH hlt (by rw [hlen]; exact hc) hbl hblg
      rw [hlen] at hs
      refine hs.mono ?_
      rintro e w' ⟨rfl, d', m, os, hp, hso, rfl⟩
      have hd' : d'.size = n := by rw [hp.1, hlen]
      have hg2 : (putRowK encS 2 (Sort.ahead W m) g 0 d').heap[g]? = some (.cells (putCells id 0 (flatK encS 2 d') cur) 34 (0, 0)) := by
        show (W.heap.modify g _)[g]? = _
        rw [Array.getElem?_modify, if_pos rfl, hgg]
        rfl
      have hoth : ∀ k, k ≠ g → (putRowK encS 2 (Sort.ahead W m) g 0 d').heap[k]? = W.heap[k]? := fun k hk => by
        show (W.heap.modify g _)[k]? = _
        rw [Array.getElem?_modify, if_neg (Ne.symm hk)]
      have hsz2 : (putRowK encS 2 (Sort.ahead W m) g 0 d').heap.size = W.heap.size := by
        show (W.heap.modify g _).size = _
        simp
      have hgr := grown_grow (putRowK encS 2 (Sort.ahead W m) g 0 d') os
      refine ⟨rfl, d'.toList, ?_, ?_, RowS.of ⟨by simp, .inr ⟨g, c, putCells id 0 (flatK encS 2 d') cur, by rw [Array.length_toList, hd'], hbg, (hgr.block g (by rw [hsz2]; exact hlt) (by simp)).trans hg2, by rw [Array.length_toList, hd']; omega, hcm, ?_, ?_⟩⟩, ⟨rfl, rfl, rfl, by have := hgr.size; omega, fun k hk hne2 => (hgr.block k (by rw [hsz2]; exact hk) (by simp)).trans (hoth k (fun e => hne2 (by rw [e]; rfl)))⟩⟩
      · have h5 := hp.2.2
        have ea : (d'.extract 0 n).toList = d'.toList := by rw [← hd']; simp
        have eb : ((xs.toArray).extract 0 n).toList = xs := by rw [← hlen]; simp
        rw [ea, eb] at h5
        exact h5
      · unfold Up
        rw [List.pairwise_iff_getElem]
        intro i j hi hj hij
        have := hso i j (Nat.zero_le _) hij (by simp at hj; omega)
        simp at hi hj
        simpa [hi, hj] using this
      · simp [putCells]; omega
      · rw [Array.length_toList, hd', show (d'.toList).toArray = d' by simp]
        apply List.ext_getElem
        · simp [putCells]; omega
        · intro i h6 h7
          simp [putCells] at h6 h7 ⊢
          rw [if_pos (by omega)]
          simp [show i < d'.size * 2 by omega]
end Go.Proofs.Ytlhjblbmhlelbaa.P
