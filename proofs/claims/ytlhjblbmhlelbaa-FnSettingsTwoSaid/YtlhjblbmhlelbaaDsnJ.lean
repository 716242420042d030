/- impl.listed: the settings of a map, ascending by keyword. Conditions: named by each theorem. -/
import Derived.Test.YtlhjblbmhlelbaaDsnI
import Derived.Maps.RangeWalk
namespace Go.Proofs.Ytlhjblbmhlelbaa.P
open Go.RowKit Go.Proofs.YtlhjblbmhlelbaaW.PrintWords Go.Proofs.YtlhjblbmhlelbaaW.PrintLast Go.Proofs.YtlhjblbmhlelbaaW.PrintMore
set_option linter.unusedVariables false
set_option linter.unusedSimpArgs false
def keyB (b : ByteArray) : Lit := .string b.data.toList
theorem keyB_inj {a b : ByteArray} (h : keyB a = keyB b) : a = b := by
  unfold keyB at h
  injection h with h
  have : a.data = b.data := Array.toList_inj.1 h
  cases a; cases b; simp at this; rw [this]
theorem key_inv {key : Value} {kl : Lit} (h : keyOf Try.prog 9 key = some kl) : ∃ x : ByteArray, key = .string x := by
  cases key <;> simp [keyOf, Try.underlying9, mapKey] at h
  exact ⟨_, rfl⟩
theorem key_lit {x : ByteArray} {kl : Lit} (h : keyOf Try.prog 9 (.string x) = some kl) : kl = keyB x := by
  simp [keyOf, Try.underlying9, mapKey] at h
  exact h.2.symm
theorem elem_inv {v : Value} {y : DataW Nat × List MemPlace} (h : plainElem Try.prog 9 v = some y) : ∃ c : ByteArray, v = .string c := by
  unfold plainElem at h
  rw [Try.underlying9] at h
  cases v <;> simp at h
  exact ⟨_, rfl⟩
theorem elem_lit {c : ByteArray} {y : DataW Nat × List MemPlace} (h : plainElem Try.prog 9 (.string c) = some y) : y.1 = .lit (keyB c) := by
  unfold plainElem at h
  rw [Try.underlying9] at h
  simp at h
  rw [← h.2]
  rfl
/-- The settings ls are the map's entries that are not left. -/
structure Done (D : DataW Nat) (left : Lit → Bool) (ls : List Se) : Prop where
  a : ∀ kl, Maps.has D kl = true → left kl = true ∨ ∃ x ∈ ls, kl = keyB x.f0
  b : ∀ x ∈ ls, left (keyB x.f0) = false ∧ Maps.has D (keyB x.f0) = true ∧ ∀ z, D.atKey (keyB x.f0) z = .lit (keyB x.f1)
  c : ls.Pairwise (fun x y => x.f0 ≠ y.f0)
  d : ∀ kl, left kl = true → Maps.has D kl = true
theorem Done.start (D : DataW Nat) : Done D (Maps.has D) [] := ⟨fun kl h => .inl h, fun x h => (by cases h), List.Pairwise.nil, fun kl h => h⟩
theorem same_self (x : ByteArray) : (keyB x).sameKey (keyB x) = true := WideAt.sameKey_self (show WideAt.IsKeyLit (.string x.data.toList) from trivial)
theorem Done.step {D : DataW Nat} {left : Lit → Bool} {ls : List Se} (h : Done D left ls) (x c : ByteArray) (hl : left (keyB x) = true) (hat : ∀ z, D.atKey (keyB x) z = .lit (keyB c)) : Done D (fun z => left z && !z.sameKey (keyB x)) (ls ++ [⟨x, c⟩]) := by
  refine ⟨fun kl hk => ?_, fun y hy => ?_, ?_, fun kl hk => h.d kl (by simp at hk; exact hk.1)⟩
  · rcases h.a kl hk with h1 | ⟨y, hy, e⟩
    · by_cases e : kl = keyB x
      · exact .inr ⟨⟨x, c⟩, by simp, e⟩
      · left
        simp [h1, Maps.sameKey_ne e]
    · exact .inr ⟨y, by simp [hy], e⟩
  · rcases List.mem_append.1 hy with hy | hy
    · obtain ⟨b1, b2, b3⟩ := h.b y hy
      exact ⟨by simp [b1], b2, b3⟩
    · rw [List.mem_singleton.1 hy]
      exact ⟨by simp [same_self], h.d _ hl, hat⟩
  · rw [List.pairwise_append]
    refine ⟨h.c, List.pairwise_singleton _ _, fun y hy z hz e => ?_⟩
    rw [List.mem_singleton.1 hz] at e
    have h1 := (h.b y hy).1
    have e2 : y.f0 = x := e
    rw [e2, hl] at h1
    cases h1
theorem info_se : (Try.prog.info? 34).map (fun i => (i.zero, i.size, i.bytes)) = some (some (.agg #[.string ⟨#[]⟩, .string ⟨#[]⟩]), 2, 32) := by kernel_rfl
theorem row_appendS {ops : Array Oper} {rest : List Oper} {o : Oper} {a : Act} {Q : Exit → Act → World → Prop} {W : World} (base : Nat) (hgd : o.guard = none) (s x : Operand)
    (ho : o.op = .call { callee := .builtin .append, args := #[s, x], argTypes := #[23, 23] })
    (v : Value) (xs : List Se) (p : Se) (hs : a.eval s = v) (hx : a.eval x = .slice (some ⟨W.heap.size, 0, none⟩) 1 1) (HO : RowS base v xs W) (hbase : base ≤ W.heap.size) (hl : xs.length ≤ 1000000)
    (h : ∀ v1 w1, RowS base v1 (xs ++ [p]) w1 → W.grownBy w1 v.ownBlock → wpList Try.prog ops Q rest (a.put o.dst v1) w1) : wpList Try.prog ops Q (o :: rest) a (W.alloc (.cells #[.string p.f0, .string p.f1] 34)) :=
  Kd.R_append k34 (w0 := W) base hgd s x 23 34 (.agg #[.string ⟨#[]⟩, .string ⟨#[]⟩]) 32 ho Try.underlying23 info_se rfl (by decide) (by omega) v xs p [.string p.f0, .string p.f1] (fun _ => True) (fun _ => False) hs hx
    (k34_mkM _ _ _ p) (fun _ hk => hk.elim) (fun _ _ => trivial) HO (Below.refl _ _) hbase (by omega) (fun v1 w1 h1 _ h3 _ => h v1 w1 h1 h3)
theorem RowS.nil (base : Nat) (W : World) : RowS base (.slice none 0 0) [] W := RowS.of ⟨by simp, .inl ⟨rfl, rfl⟩⟩
theorem RowS.lt {base : Nat} {v : Value} {xs : List Se} {W : World} (h : RowS base v xs W) : ∀ k, v.ownBlock = some k → base ≤ k ∧ k < W.heap.size := fun k hk => ⟨own_base h.inner k hk, Kd.R_lt h k hk⟩
theorem RowS.grown {base : Nat} {v : Value} {xs : List Se} {W W1 : World} {row : Option Nat} (h : RowS base v xs W) (hg : W.grownBy W1 row) (hr : ∀ k, row = some k → v.ownBlock ≠ some k) : RowS base v xs W1 :=
  RowS.of (own_move h.inner (fun k hk => hg.block k (h.lt k hk).2 (fun e => hr k e.symm hk)))
/-- What the loop of listed keeps. -/
structure LI (w : World) (bm bl r B n : Nat) (D : DataW Nat) (v : Value) (ls : List Se) (left : Lit → Bool) (cnt : Nat) (W : World) : Prop where
  bk : W.heap[bl]? = some (.cells #[v] 23 (0, 0))
  rw_ : RowS B v ls W
  rg : W.ranges Try.prog 9 (plainElem Try.prog 9) bm r n D left cnt
  bl_ : Below w.heap.size w W
  sz : B ≤ W.heap.size
  dn : Done D left ls
  ly : w.heap.size ≤ bl ∧ bl < B ∧ r < B ∧ bm < w.heap.size ∧ bl ≠ r ∧ w.heap.size ≤ r ∧ w.heap.size ≤ B
section
variable {w : World} {bm bl r B n : Nat} {D : DataW Nat} {v : Value} {ls : List Se} {left : Lit → Bool} {cnt : Nat} {W W1 : World}
theorem LI.step (h : LI w bm bl r B n D v ls left cnt W) {cnt' : Nat} (x c : ByteArray) (hl : left (keyB x) = true) (hat : ∀ z, D.atKey (keyB x) z = .lit (keyB c)) {left' : Lit → Bool} (hl' : left' = fun z => left z && !z.sameKey (keyB x))
    (hr : W1.ranges Try.prog 9 (plainElem Try.prog 9) bm r n D left' cnt') (hg : W.grownBy W1 (some r)) {v1 : Value} {w2 : World} (hrow : RowS B v1 (ls ++ [⟨x, c⟩]) w2) (hg2 : W1.grownBy w2 v.ownBlock) :
    LI w bm bl r B n D v1 (ls ++ [⟨x, c⟩]) left' cnt' (w2.setCell ⟨bl, 0, none⟩ v1) := by
  obtain ⟨y1, y2, y3, y4, y5, y6, y7⟩ := h.ly
  have ho : ∀ k, v.ownBlock = some k → B ≤ k := fun k hk => (h.rw_.lt k hk).1
  have ho1 : ∀ k, v1.ownBlock = some k → B ≤ k := fun k hk => (hrow.lt k hk).1
  have hs1 := hg.size
  have hs2 := hg2.size
  have hsz := h.sz
  have b1 : W1.heap[bl]? = some (.cells #[v] 23 (0, 0)) := (hg.block bl (blk_lt h.bk) (fun e => y5 (by injection e))).trans h.bk
  have b2 : w2.heap[bl]? = some (.cells #[v] 23 (0, 0)) := (hg2.block bl (blk_lt b1) (fun e => by have := ho bl e.symm; omega)).trans b1
  have g3 := grown_set w2 bl 0 v1
  refine ⟨by simpa using blk_set b2 0 v1, hrow.grown g3 (fun k hk e => by injection hk with hk; subst hk; have := ho1 _ e; omega), ?_, ?_, ?_, ?_, h.ly⟩
  · exact (hr.kept hg2 (fun e => by have := ho bm e.symm; omega) (fun e => by have := ho r e.symm; omega)).kept g3 (fun e => by injection e with e; omega) (fun e => by injection e with e; exact y5 e.symm)
  · exact ((h.bl_.grown hg (by omega) (fun k hk => by injection hk with hk; omega)).grown hg2 (by omega) (fun k hk => by have := ho k hk; omega)).grown g3 (by omega) (fun k hk => by injection hk with hk; omega)
  · have := g3.size; omega
  · subst hl'; exact h.dn.step x c hl hat
end
end Go.Proofs.Ytlhjblbmhlelbaa.P
