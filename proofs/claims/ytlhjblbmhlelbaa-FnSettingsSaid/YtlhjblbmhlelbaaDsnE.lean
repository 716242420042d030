/- fromDSN: its start. Conditions: named by each theorem. -/
import Derived.Test.YtlhjblbmhlelbaaDsnD
import Derived.Carry
import Derived.Laws.EntriesVeiled
namespace Go.Proofs.Ytlhjblbmhlelbaa.P
open Go.RowKit Go.Proofs.YtlhjblbmhlelbaaW.PrintWords Go.Proofs.YtlhjblbmhlelbaaW.PrintLast Go.Proofs.YtlhjblbmhlelbaaW.PrintMore
set_option linter.unusedVariables false
set_option linter.unusedSimpArgs false
theorem sz_alloc (w : World) (o : Obj) : (w.alloc o).heap.size = w.heap.size + 1 := by simp
/-- The start of fromDSN. -/
theorem start_inv (w : World) (a : ByteArray) (hs : a.size ≤ 4000) (ha : Asc (bytesOf a)) (c : Nat) :
    Inv w ⟨w.heap.size + 1 + 1 + 1, w.heap.size + 1 + 1, w.heap.size + 1, w.heap.size + 1 + 1 + 1 + 1⟩ w.heap.size (w.heap.size + 5) (bytesOf a) [] (bytesOf a)
      ((((((w.alloc (Obj.map #[] 0)).alloc (Obj.cells ((List.map (Value.int IntKind.i32) (bytesOf a)).toArray ++ Array.replicate (c - (bytesOf a).length) (Value.int IntKind.i32 0)) 21)).alloc
        (Obj.cells #[Value.slice (some { block := w.heap.size + 1, off := 0 }) (bytesOf a).length c] 54)).alloc (Obj.cells #[Value.int IntKind.i64 0] 3)).alloc
        (Obj.cells #[Value.func (Fn.func 29) #[] #[Value.pointer (some { block := w.heap.size + 1 + 1 + 1, off := 0 }), Value.pointer (some { block := w.heap.size + 1 + 1, off := 0 })]] 55)).drew) := by
  obtain ⟨o1, h1⟩ : ∃ o, o = Obj.cells ((List.map (Value.int IntKind.i32) (bytesOf a)).toArray ++ Array.replicate (c - (bytesOf a).length) (Value.int IntKind.i32 0)) 21 := ⟨_, rfl⟩
  obtain ⟨o2, h2⟩ : ∃ o, o = Obj.cells #[Value.slice (some { block := w.heap.size + 1, off := 0 }) (bytesOf a).length c] 54 := ⟨_, rfl⟩
  obtain ⟨o3, h3⟩ : ∃ o, o = Obj.cells #[Value.int IntKind.i64 0] 3 := ⟨_, rfl⟩
  obtain ⟨o4, h4⟩ : ∃ o, o = Obj.cells #[Value.func (Fn.func 29) #[] #[Value.pointer (some { block := w.heap.size + 1 + 1 + 1, off := 0 }), Value.pointer (some { block := w.heap.size + 1 + 1, off := 0 })]] 55 := ⟨_, rfl⟩
  rw [← h1, ← h2, ← h3, ← h4]
  have b1 : ((w.alloc (Obj.map #[] 0)).alloc o1).heap[w.heap.size + 1]? = some o1 := by have := blk_new (w.alloc (Obj.map #[] 0)) o1; rwa [sz_alloc] at this
  have b2 : (((w.alloc (Obj.map #[] 0)).alloc o1).alloc o2).heap[w.heap.size + 1 + 1]? = some o2 := by have := blk_new ((w.alloc (Obj.map #[] 0)).alloc o1) o2; rwa [sz_alloc, sz_alloc] at this
  have b3 : ((((w.alloc (Obj.map #[] 0)).alloc o1).alloc o2).alloc o3).heap[w.heap.size + 1 + 1 + 1]? = some o3 := by have := blk_new (((w.alloc (Obj.map #[] 0)).alloc o1).alloc o2) o3; rwa [sz_alloc, sz_alloc, sz_alloc] at this
  have b4 : (((((w.alloc (Obj.map #[] 0)).alloc o1).alloc o2).alloc o3).alloc o4).heap[w.heap.size + 1 + 1 + 1 + 1]? = some o4 := by have := blk_new ((((w.alloc (Obj.map #[] 0)).alloc o1).alloc o2).alloc o3) o4; rwa [sz_alloc, sz_alloc, sz_alloc, sz_alloc] at this
  have keep : ∀ (W : World) (o x : Obj) (k : Nat), W.heap[k]? = some x → (W.alloc o).heap[k]? = some x := fun W o x k h => ((below_alloc (Below.refl W.heap.size W) o).block k (blk_lt h)).trans h
  refine ⟨⟨?_, ⟨c, ?_⟩, ⟨(List.map (Value.int IntKind.i32) (bytesOf a)).toArray ++ Array.replicate (c - (bytesOf a).length) (Value.int IntKind.i32 0), ?_, ?_⟩, ?_, by show _ ≠ _; simp, by show _ ≠ _; simp; omega, by show _ ≠ _; simp, by simp, by rw [bytesOf_length]; exact hs, ha⟩, ?_, ?_, ?_, ?_⟩
  · rw [Nat.sub_self]
    show _ = some (Obj.cells #[Value.int IntKind.i64 0] 3)
    rw [← h3]; exact keep _ _ _ _ b3
  · rw [← h2]; exact keep _ _ _ _ (keep _ _ _ _ b2)
  · rw [← h1]; exact keep _ _ _ _ (keep _ _ _ _ (keep _ _ _ _ b1))
  · intro j x hj
    have hlt : j < (bytesOf a).length := (List.getElem?_eq_some_iff.1 hj).1
    rw [Array.getElem?_append_left (by simpa using hlt)]
    simp [hj]
  · rw [← h4]; exact b4
  · exact ((((World.ownsMap_made w Try.prog 9 (plainElem Try.prog 9)).alloc o1).alloc o2).alloc o3).alloc o4
  · exact below_drew1 (below_alloc (below_alloc (below_alloc (below_alloc (below_alloc (Below.refl _ _) _) _) _) _) _)
  · simp
  · exact ⟨by show _ ≤ _; simp; omega, ⟨by show _ ≠ _; simp; omega, by show _ ≠ _; simp; omega, by show _ ≠ _; simp, by show _ ≠ _; simp; omega⟩, by omega, by show _ < _; simp, by show _ < _; simp, by show _ < _; simp, by show _ < _; simp, Nat.le_refl _, by omega⟩
end Go.Proofs.Ytlhjblbmhlelbaa.P
