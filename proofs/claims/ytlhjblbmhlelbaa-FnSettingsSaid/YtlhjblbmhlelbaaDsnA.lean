/- fromDSN's reader of runes: the closures next and skipSpaces. Conditions: named by each theorem. -/
import Derived.Test.YtlhjblbmhlelbaaPx4
import Derived.Test.YtlhjblbmhlelbaaLib
namespace Go.Proofs.Ytlhjblbmhlelbaa.P
open Go.RowKit Go.Proofs.YtlhjblbmhlelbaaW.PrintWords Go.Proofs.YtlhjblbmhlelbaaW.PrintLast Go.Proofs.YtlhjblbmhlelbaaW.PrintMore
set_option linter.unusedVariables false
set_option linter.unusedSimpArgs false
/-- White space, of ASCII. -/
def spI (c : Int) : Bool := decide (c = 32 ∨ (9 ≤ c ∧ c ≤ 13))
theorem isSpace_f (c : Int) (h0 : 0 ≤ c) (h1 : c < 128) : pq_zzIsSpace.f c = some (spI c) := by
  unfold pq_zzIsSpace.f spI
  by_cases h : c = 32 ∨ (9 ≤ c ∧ c ≤ 13)
  · rw [decide_eq_true h]
    have : c = 9 ∨ c = 10 ∨ c = 11 ∨ c = 12 ∨ c = 13 ∨ c = 32 := by omega
    rcases this with rfl | rfl | rfl | rfl | rfl | rfl <;> rfl
  · rw [decide_eq_false h]
    iterate 14 rw [if_neg (by omega)]
    rw [if_neg (by omega)]
theorem isSpace_any (c : Int) (h0 : 0 ≤ c) (h1 : c < 128) (W : World) : Calls Try.prog 31 #[.int .i32 c] W fun e w' => e = .returned (.bool (spI c)) ∧ Drawn0 W w' := pq_zzIsSpace.calls c _ W (isSpace_f c h0 h1)
/-- Where the reader's things lie: the index, the variable that holds the runes, the runes, the closure next. -/
structure Pl where
  bi : Nat
  bs : Nat
  br : Nat
  bn : Nat
/-- No block of the reader. -/
def Pl.off (p : Pl) (k : Nat) : Prop := k ≠ p.bi ∧ k ≠ p.bs ∧ k ≠ p.br ∧ k ≠ p.bn
/-- The reader has the runes l left. -/
structure DS (p : Pl) (s l : List Int) (W : World) : Prop where
  ci : W.heap[p.bi]? = some (.cells #[.int .i64 ((s.length - l.length : Nat) : Int)] 3 (0, 0))
  cs : ∃ cap, W.heap[p.bs]? = some (.cells #[.slice (some ⟨p.br, 0, none⟩) s.length cap] 54 (0, 0))
  cr : ∃ cells : Array Value, W.heap[p.br]? = some (.cells cells 21 (0, 0)) ∧ ∀ (j : Nat) (c : Int), s[j]? = some c → cells[j]? = some (Value.int .i32 c)
  cn : W.heap[p.bn]? = some (.cells #[.func (.func 29) #[] #[.pointer (some ⟨p.bi, 0, none⟩), .pointer (some ⟨p.bs, 0, none⟩)]] 55 (0, 0))
  n1 : p.bi ≠ p.bs
  n2 : p.bi ≠ p.br
  n3 : p.bi ≠ p.bn
  tl : s.drop (s.length - l.length) = l
  sz : s.length ≤ 4000
  asc : ∀ c ∈ s, 0 ≤ c ∧ c < 128
theorem DS.le {p : Pl} {s l : List Int} {W : World} (h : DS p s l W) : l.length ≤ s.length := by
  have := congrArg List.length h.tl
  rw [List.length_drop] at this
  omega
theorem DS.keep {p : Pl} {s l : List Int} {W W1 : World} (h : DS p s l W) (hb : ∀ k, ¬ p.off k → k < W.heap.size → W1.heap[k]? = W.heap[k]?) : DS p s l W1 := by
  have f : ∀ k o, W.heap[k]? = some o → ¬ p.off k → W1.heap[k]? = some o := fun k o hk ho => (hb k ho (blk_lt hk)).trans hk
  obtain ⟨cap, hs⟩ := h.cs
  obtain ⟨cells, hr, hr2⟩ := h.cr
  exact ⟨f _ _ h.ci (fun e => e.1 rfl), ⟨cap, f _ _ hs (fun e => e.2.1 rfl)⟩, ⟨cells, f _ _ hr (fun e => e.2.2.1 rfl), hr2⟩, f _ _ h.cn (fun e => e.2.2.2 rfl), h.n1, h.n2, h.n3, h.tl, h.sz, h.asc⟩
theorem DS.grown {p : Pl} {s l : List Int} {W W1 : World} {row : Option Nat} (h : DS p s l W) (hg : W.grownBy W1 row) (hr : ∀ k, row = some k → p.off k) : DS p s l W1 :=
  h.keep (fun k ho hk => hg.block k hk (fun e => ho (hr k e.symm)))
theorem DS.below {p : Pl} {s l : List Int} {W W1 : World} (h : DS p s l W) (hg : Below W.heap.size W W1) : DS p s l W1 := h.keep (fun k _ hk => hg.block k hk)
theorem DS.mem {p : Pl} {s l : List Int} {W : World} (h : DS p s l W) : ∀ c ∈ l, 0 ≤ c ∧ c < 128 := fun c hc => h.asc c (by rw [← h.tl] at hc; exact List.mem_of_mem_drop hc)
theorem grown_set (W : World) (g j : Nat) (u : Value) : W.grownBy (W.setCell ⟨g, j, none⟩ u) (some g) := ⟨rfl, rfl, rfl, by simp [World.setCell], fun k _ hk => Below.heap_setCell W ⟨g, j, none⟩ u k (fun e => hk (by rw [e]))⟩
theorem DS.step {p : Pl} {s t : List Int} {c : Int} {W : World} (h : DS p s (c :: t) W) : DS p s t (W.setCell ⟨p.bi, 0, none⟩ (.int .i64 ((s.length - (c :: t).length : Nat) + 1 : Int))) := by
  have hle := h.le
  rw [List.length_cons] at hle
  have f : ∀ k o, W.heap[k]? = some o → k ≠ p.bi → (W.setCell ⟨p.bi, 0, none⟩ (.int .i64 ((s.length - (c :: t).length : Nat) + 1 : Int))).heap[k]? = some o := fun k o hk ho => (Below.heap_setCell W ⟨p.bi, 0, none⟩ _ k ho).trans hk
  obtain ⟨cap, hs⟩ := h.cs
  obtain ⟨cells, hr, hr2⟩ := h.cr
  refine ⟨?_, ⟨cap, f _ _ hs (Ne.symm h.n1)⟩, ⟨cells, f _ _ hr (Ne.symm h.n2), hr2⟩, f _ _ h.cn (Ne.symm h.n3), h.n1, h.n2, h.n3, ?_, h.sz, h.asc⟩
  · have := blk_set h.ci 0 (.int .i64 ((s.length - (c :: t).length : Nat) + 1 : Int))
    have e : ((s.length - (c :: t).length : Nat) + 1 : Int) = ((s.length - t.length : Nat) : Int) := by rw [List.length_cons]; omega
    rw [this]
    simp
    omega
  · have h2 := h.tl
    rw [List.length_cons] at h2
    have e : s.length - t.length = (s.length - (t.length + 1)) + 1 := by omega
    rw [e, ← List.drop_drop, h2]; rfl
theorem DS.head {p : Pl} {s t : List Int} {c : Int} {W : World} (h : DS p s (c :: t) W) : s[s.length - (c :: t).length]? = some c := by
  have h2 : (s.drop (s.length - (c :: t).length))[0]? = some c := by rw [h.tl]; rfl
  rw [List.getElem?_drop, Nat.add_zero] at h2
  exact h2
set_option maxHeartbeats 1000000 in
theorem next_some {p : Pl} {s t : List Int} {c : Int} {W : World} (h : DS p s (c :: t) W) :
    Calls Try.prog 29 #[.pointer (some ⟨p.bi, 0, none⟩), .pointer (some ⟨p.bs, 0, none⟩)] W fun e W1 => e = .returned (.tuple #[.int .i32 c, .bool true]) ∧ DS p s t W1 ∧ W.grownBy W1 (some p.bi) := by
  have hS := h.step
  have hh := h.head
  have hle := h.le
  have hsz := h.sz
  obtain ⟨cap, hs⟩ := h.cs
  obtain ⟨cells, hr, hr2⟩ := h.cr
  have hci : W.cell? ⟨p.bi, 0, none⟩ = some (.int .i64 ((s.length - (c :: t).length : Nat) : Int)) := (blk_cell h.ci 0).trans rfl
  have hfi := blk_frozen h.ci 0
  have hcs : W.cell? ⟨p.bs, 0, none⟩ = some (.slice (some ⟨p.br, 0, none⟩) s.length cap) := (blk_cell hs 0).trans rfl
  have hcr : W.cell? ⟨p.br, s.length - (c :: t).length, none⟩ = some (.int .i32 c) := (blk_cell hr _).trans (hr2 _ _ hh)
  have hG := grown_set W p.bi 0 (.int .i64 ((s.length - (c :: t).length : Nat) + 1 : Int))
  rw [List.length_cons] at hle
  obtain ⟨i, hi⟩ : ∃ i, i = s.length - (c :: t).length := ⟨_, rfl⟩
  rw [← hi] at hci hcr hS hG
  have hlt : i < s.length := by rw [hi, List.length_cons]; omega
  have HS := Aside0.mk hS
  have HG := Aside0.mk hG
  have hi0 : (0 : Int) ≤ i := by omega
  have hi1 : (i : Int) < s.length := by omega
  have hi2 : (i : Int) ≤ 4000 := by omega
  clear hS hG hi hh hle hs hr hr2 h
  go_enter Try.func29, Try.ntmps29
  go_wp2
  go_ret2
  exact ⟨rfl, HS.out, HG.out⟩
set_option maxHeartbeats 1000000 in
theorem next_none {p : Pl} {s : List Int} {W : World} (h : DS p s [] W) :
    Calls Try.prog 29 #[.pointer (some ⟨p.bi, 0, none⟩), .pointer (some ⟨p.bs, 0, none⟩)] W fun e W1 => e = .returned (.tuple #[.int .i32 0, .bool false]) ∧ DS p s [] W1 ∧ W.grownBy W1 (some p.bi) := by
  have hsz := h.sz
  obtain ⟨cap, hs⟩ := h.cs
  have hci : W.cell? ⟨p.bi, 0, none⟩ = some (.int .i64 (s.length : Int)) := (blk_cell h.ci 0).trans rfl
  have hcs : W.cell? ⟨p.bs, 0, none⟩ = some (.slice (some ⟨p.br, 0, none⟩) s.length cap) := (blk_cell hs 0).trans rfl
  have HD := Aside0.mk h
  clear hs h
  go_enter Try.func29, Try.ntmps29
  go_wp2
  go_ret2
  exact ⟨rfl, HD.out, ⟨rfl, rfl, rfl, Nat.le_refl _, fun _ _ _ => rfl⟩⟩
end Go.Proofs.Ytlhjblbmhlelbaa.P
