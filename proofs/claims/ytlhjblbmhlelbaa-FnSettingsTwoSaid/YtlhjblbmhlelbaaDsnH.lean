/- sort.Slice at a slice of settings: its call. Conditions: named by each theorem. -/
import Derived.Test.YtlhjblbmhlelbaaDsnG
namespace Go.Proofs.Ytlhjblbmhlelbaa.P
open Go.RowKit Go.Proofs.YtlhjblbmhlelbaaW.PrintWords Go.Proofs.YtlhjblbmhlelbaaW.PrintLast Go.Proofs.YtlhjblbmhlelbaaW.PrintMore
open Go.Shelf Go.Sort
set_option linter.unusedVariables false
set_option linter.unusedSimpArgs false
noncomputable def svT : TypeInfo := (Try.prog.info? 23).get (by kernel_rfl)
noncomputable def svE : TypeInfo := (Try.prog.info? 34).get (by kernel_rfl)
theorem svK (n : Nat) (h2 : 2 ≤ n) : Lib.swapperK n svE 25 = 9 := by
  have a : svE.hasPointers = true := by kernel_rfl
  have b : svE.bytes = 32 := by kernel_rfl
  have c : (n == 0) = false := by simp; omega
  have d : (n == 1) = false := by simp; omega
  simp [Lib.swapperK, a, b, c, d]
set_option maxHeartbeats 2000000 in
theorem less_any (blk off c bl size : Nat) (W : World) (G : Nat → ByteArray) (hs : W.cell? ⟨bl, 0, none⟩ = some (.slice (some ⟨blk, off, none⟩) size c))
    (hc : ∀ t, t < size → W.cell? ⟨blk, off + t * 2, none⟩ = some (.string (G t))) (i j : Nat) (hi : i < size) (hj : j < size) (_hsz : size < 4611686018427387904) :
    Calls Try.prog 28 #[.int .i64 i, .int .i64 j, .pointer (some ⟨bl, 0, none⟩)] W fun e w' => e = .returned (.bool (Op.bytesLess (G i).toList (G j).toList)) ∧ ∃ q, w' = W.drewN q := by
  have ci := hc i hi
  have cj := hc j hj
  go_enter Try.func28, Try.ntmps28
  go_wp2
  go_quiet (fail)
  go_wp2
  go_ret
  exact ⟨rfl, nq, rfl⟩
theorem sort_any (blk off c bl : Nat) (d : Array Se) (h2 : 2 ≤ d.size) (hsz : d.size < 4611686018427387904) (w : World) (hH : HoldsK encS 2 w blk off d) (hblk : blk < w.heap.size)
    (hBs : w.cell? ⟨bl, 0, none⟩ = some (.slice (some ⟨blk, off, none⟩) d.size c)) (hB1 : bl < w.heap.size) (hB2 : bl ≠ blk) :
    Calls Try.prog 27 #[.iface 23 (.slice (some ⟨blk, off, none⟩) d.size c), .func (.func 28) #[] #[.pointer (some ⟨bl, 0, none⟩)]] w fun e w' =>
      e = .returned (.tuple #[]) ∧ ∃ d' n os, PermIn 0 d.size d d' ∧ SortedIn ltS 0 d.size d' ∧ w' = grow (putRowK encS 2 (Sort.ahead w n) blk off d') os := by
  have hless : LessReadsK Try.prog 28 #[.pointer (some ⟨bl, 0, none⟩)] encS 2 ltS blk off d.size w := by
    intro m os dk hs i j hi hj
    have e : sortWorldK encS 2 w blk off m dk os = putRowK encS 2 (grow (Sort.ahead w m) os) blk off dk := by
      unfold sortWorldK; rw [putRowK_grow _ _ (Sort.ahead w m) _ blk off _ hblk]
    have hHg : HoldsK encS 2 (grow (Sort.ahead w m) os) blk off d := holdsK_grow _ _ _ _ blk off d hblk (holdsK_ahead _ _ _ _ _ _ _ hH)
    refine less_any blk off c bl d.size _ (fun t => dk[t]!.f0) ?_ (fun t ht => ?_) i j hi hj (by omega)
    · rw [e, cell?_putRowK_other _ _ _ blk off dk _ (by exact hB2), cell?_grow _ _ _ (by exact hB1)]; exact hBs
    · rw [e]; exact ((holdsK_putRowK _ _ _ blk off d dk hHg hs).cell (i := t) (c := 0) (by omega) (by omega)).1
  exact Any.sort_Slice_cells_sorted Try.laysGg6 23 34 svT svE (by kernel_rfl) (by kernel_rfl) (by kernel_rfl) (by kernel_rfl) 25 (fun _ => by kernel_rfl) encS 2 (fun _ => rfl) (by kernel_rfl) (fun _ => by kernel_rfl)
    (fun x v hv => by simp [encS] at hv; rcases hv with rfl | rfl <;> rfl) ltS swo_ltS 28 _
    (enters_of Try.func28 (by kernel_rfl) rfl) blk off c d h2 hsz 46 (by rw [svK _ h2]; kernel_rfl) false
    (fun args W => run_callFunc_extern Try.func46 (by kernel_rfl) (by kernel_rfl) (by kernel_rfl) (e := Extern.ReflectliteSwapper.swap false) (by kernel_rfl) args W) w hless hH hblk
theorem sort_one (p : Option Addr) (n c : Nat) (h1 : n ≤ 1) (lf : Fn) (la lb : Array Value) (w : World) :
    Calls Try.prog 27 #[.iface 23 (.slice p n c), .func lf la lb] w fun e w' => e = .returned (.tuple #[]) ∧ ∃ os, w' = grow w os := by
  have h : n = 0 ∨ n = 1 := by omega
  rcases h with rfl | rfl
  · exact Any.sort_Slice_tiny Try.laysGg6 23 34 svT svE (by kernel_rfl) (by kernel_rfl) (by kernel_rfl) (by kernel_rfl) 25 (fun _ => by kernel_rfl) p 0 c (by omega) 38 (by kernel_rfl) lf la lb w
  · exact Any.sort_Slice_tiny Try.laysGg6 23 34 svT svE (by kernel_rfl) (by kernel_rfl) (by kernel_rfl) (by kernel_rfl) 25 (fun _ => by kernel_rfl) p 1 c (by omega) 39 (by kernel_rfl) lf la lb w
end Go.Proofs.Ytlhjblbmhlelbaa.P
