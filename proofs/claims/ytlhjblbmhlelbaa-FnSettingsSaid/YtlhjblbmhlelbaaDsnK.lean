/- impl.listed: its walk. Conditions: named by each theorem. -/
import Derived.Test.YtlhjblbmhlelbaaDsnJ
namespace Go.Proofs.Ytlhjblbmhlelbaa.P
open Go.RowKit Go.Proofs.YtlhjblbmhlelbaaW.PrintWords Go.Proofs.YtlhjblbmhlelbaaW.PrintLast Go.Proofs.YtlhjblbmhlelbaaW.PrintMore
set_option linter.unusedVariables false
set_option linter.unusedSimpArgs false
/-- What listed hands back. -/
def ListedRes (W : World) (D : DataW Nat) (e : Ending) (w' : World) : Prop :=
  ∃ v ys, e = .returned v ∧ RowS W.heap.size v ys w' ∧ Below W.heap.size W w' ∧ Up ys ∧ ys.length ≤ 4001 ∧ Done D (fun _ => false) ys
theorem size_le {W : World} {bm n : Nat} {D : DataW Nat} (h : W.ownsMap Try.prog 9 (plainElem Try.prog 9) bm n D) : Maps.size D ≤ n := by
  obtain ⟨es, clock, _, _, hs, rfl⟩ := h
  show (List.foldr DataW.insert [] _).length ≤ n
  rw [length_sorted]
  simpa using hs
theorem left_all {left : Lit → Bool} (h : ∀ kl, left kl = false) : left = fun _ => false := funext h
theorem next_LI {ops : Array Oper} {rest : List Oper} {o : Oper} {a : Act} {Q : Exit → Act → World → Prop} {W0 W : World} {bm bl r B n : Nat} {D : DataW Nat} {v : Value} {ls : List Se} {left : Lit → Bool} {cnt : Nat}
    (hgd : o.guard = none) (it : Operand) (hop : o.op = Op.next it false) (hit : a.eval it = .pointer (some ⟨r, 0, none⟩)) (HI : Aside0 (LI W0 bm bl r B n D v ls left cnt W))
    (hDone : Aside0 (left = fun _ => false) → wpList Try.prog ops Q rest (a.put o.dst (.tuple #[.bool false])) W)
    (hMore : ∀ (x c : ByteArray) (w1 : World) (cnt1 : Nat), Aside0 (left (keyB x) = true) → Aside0 (∀ z, D.atKey (keyB x) z = .lit (keyB c)) →
      Aside0 (w1.ranges Try.prog 9 (plainElem Try.prog 9) bm r n D (fun z => left z && !z.sameKey (keyB x)) cnt1) → Aside0 (cnt1 < cnt) → Aside0 (W.grownBy w1 (some r)) →
      Aside0 (w1.heap[bl]? = some (.cells #[v] 23 (0, 0))) → Aside0 (RowS B v ls w1) → Aside0 (B ≤ w1.heap.size) →
      (Instr.entry (.pointer (some ⟨r, 0, none⟩))).run Try.prog w1 = .ok (.tuple #[.string x, .string c]) w1 → w1.cell? ⟨bl, 0, none⟩ = some v →
      wpList Try.prog ops Q rest (a.put o.dst (.tuple #[.bool true, .string x, .string c])) w1) :
    wpList Try.prog ops Q (o :: rest) a W := by
  have y := HI.out.ly
  refine wpList_next_ranges _ hgd it hop 9 (Maps.string_keyed Try.underlying9) (plainElem Try.prog 9) Value.string Value.string (fun _ _ h => key_inv h) (fun _ _ h => elem_inv h) bm r n D left cnt hit HI.out.rg (fun _ hl => hDone ⟨left_all hl⟩) ?_
  intro x c kl y0 w1 cnt1 hk hl hv hat hrg hlt hg hs hen
  have ek := key_lit hk
  subst ek
  have ey := elem_lit hv
  have hb : w1.heap[bl]? = some (.cells #[v] 23 (0, 0)) := (hg.block bl (blk_lt HI.out.bk) (fun e => HI.out.ly.2.2.2.2.1 (by injection e))).trans HI.out.bk
  exact hMore x c w1 cnt1 ⟨hl⟩ ⟨fun z => (hat z).trans ey⟩ ⟨hrg⟩ ⟨hlt⟩ ⟨hg⟩ ⟨hb⟩ ⟨HI.out.rw_.grown hg (fun k hk e => by injection hk with hk; subst hk; have := (HI.out.rw_.lt _ e).1; omega)⟩ ⟨Nat.le_trans HI.out.sz hg.size⟩ hen ((blk_cell hb 0).trans rfl)
theorem done_perm {D : DataW Nat} {left : Lit → Bool} {ls ys : List Se} (h : Done D left ls) (hp : ys.Perm ls) : Done D left ys :=
  ⟨fun kl hk => (h.a kl hk).imp id (fun ⟨x, hx, e⟩ => ⟨x, hp.mem_iff.2 hx, e⟩), fun x hx => h.b x (hp.mem_iff.1 hx), hp.symm.pairwise h.c (fun e => e.symm), h.d⟩
theorem lower_row {B C : Nat} {v : Value} {xs : List Se} {W : World} (h : RowS B v xs W) (hb : C ≤ B) : RowS C v xs W :=
  Kd.R_lower h hb
theorem listed_done {W0 W ws : World} {bm bl r B n : Nat} {D : DataW Nat} {v : Value} {ls ys : List Se} {left : Lit → Bool} {cnt : Nat} (HI : Aside0 (LI W0 bm bl r B n D v ls left cnt W)) (HL : Aside0 (left = fun _ => false))
    (HP : Aside0 (ys.Perm ls)) (HU : Aside0 (Up ys)) (HROW : Aside0 (RowS B v ys ws)) (HG : Aside0 (W.grownBy ws v.ownBlock)) (HZ : Aside0 (ls.length + cnt ≤ 4001)) : ListedRes W0 D (.returned v) ws := by
  have y := HI.out.ly
  refine ⟨v, ys, rfl, lower_row HROW.out (by omega), HI.out.bl_.grown HG.out (by have := HI.out.sz; omega) (fun k hk => by have := (HI.out.rw_.lt k hk).1; omega), HU.out, by have := HP.out.length_eq; have := HZ.out; omega, ?_⟩
  have := HI.out.dn
  rw [HL.out] at this
  exact done_perm this HP.out
set_option maxHeartbeats 4000000 in
set_option maxRecDepth 100000 in
theorem listed_any (bm n : Nat) (D : DataW Nat) (W : World) (hown : W.ownsMap Try.prog 9 (plainElem Try.prog 9) bm n D) (hn : n ≤ 4001) :
    Calls Try.prog 22 #[.map (some bm)] W fun e w' => ListedRes W D e w' := by
  have HO := Aside0.mk hown
  have HN := Aside0.mk hn
  have HSZ := Aside0.mk (size_le hown)
  have HLT := Aside0.mk hown.lt
  clear hown hn
  have hmf : ∀ (fn : Fn) (first cap : Array Value) (w : World), (Instr.makeFunc fn first cap).run Try.prog w = .ok (.func fn first cap) w := fun _ _ _ _ => rfl
  go_enter Try.func22, Try.ntmps22
  go_wp2_with (first | (at_range; refine wpList_range_own _ rfl _ 43 rfl 9 9 (Maps.string_keyed Try.underlying9) Try.underlying43 _ bm n D rfl (HO.out.alloc _) ?_; intro w0 hrg hg hs))
  have hbk : w0.heap[W.heap.size]? = some (.cells #[.slice none 0 0] 23 (0, 0)) := (hg.block W.heap.size (by rw [sz_alloc]; omega) (by simp)).trans (blk_new W _)
  have hL0 : LI W bm W.heap.size (W.heap.size + 1) (W.heap.size + 2) n D (.slice none 0 0) [] (Maps.has D) (Maps.size D) w0 := by
    rw [sz_alloc] at hs
    refine ⟨hbk, RowS.nil _ _, by rw [sz_alloc] at hrg; exact hrg, (below_alloc (Below.refl _ _) _).grown hg (by rw [sz_alloc]; omega) (fun k hk => by cases hk), by omega, Done.start D, by have := HLT.out; exact ⟨by omega, by omega, by omega, by omega, by omega, by omega, by omega⟩⟩
  have HL0 := Aside0.mk hL0
  clear hL0 hbk hrg hg hs
  go_frame
  rw [sz_alloc]
  obtain ⟨bl, hbl⟩ : ∃ bl, bl = W.heap.size := ⟨_, rfl⟩
  obtain ⟨r, hr⟩ : ∃ r, r = W.heap.size + 1 := ⟨_, rfl⟩
  obtain ⟨B, hB⟩ : ∃ B, B = W.heap.size + 2 := ⟨_, rfl⟩
  rw [← hr, ← hbl]
  have HL1 : Aside0 (LI W bm bl r B n D (.slice none 0 0) [] (Maps.has D) (Maps.size D) w0) := ⟨by rw [hbl, hr, hB]; exact HL0.out⟩
  have HW := Aside0.mk hbl
  clear HL0 hr hB hbl
  go_loopg [] (Maps.size D + 1) (fun kq wx => ∃ (v : Value) (ls : List Se) (left : Lit → Bool) (cnt : Nat), Aside0 (LI W bm bl r B n D v ls left cnt wx) ∧ Aside0 (cnt + 1 ≤ kq) ∧ Aside0 (ls.length + cnt ≤ 4001))
  case atStart => exact ⟨_, [], _, _, HL1, ⟨Nat.le_refl _⟩, ⟨by have := HSZ.out; have := HN.out; simp; omega⟩⟩
  case round =>
    obtain ⟨v, ls, left, cnt, HI, HK, HZ⟩ := hrel
    obtain ⟨A, c0, rfl⟩ := Kd.R_slice HI.out.rw_
    have hcb : wr.cell? ⟨bl, 0, none⟩ = some (.slice A ls.length c0) := (blk_cell HI.out.bk 0).trans rfl
    have HNE : Aside0 ((Value.slice A ls.length c0).ownBlock ≠ some bl) := ⟨fun e => by have := (HI.out.rw_.lt bl e).1; have := HI.out.ly; omega⟩
    have HLS : Aside0 (ls.length ≤ 1000000) := ⟨by have := HZ.out; omega⟩
    have HSO := Aside0.mk (sort_rows B bl ls.length c0 A ls wr HI.out.rw_ hcb (blk_lt HI.out.bk) HNE.out (by have := HZ.out; omega))
    go_wp2_with (first | (at_next; refine next_LI rfl _ rfl rfl HI ?_ ?_; (intro HL); rotate_left; (intro x c w1 cnt1 HLX HAT HRG HLT2 HG HB1 HR1 HS1 hen hcb2); rotate_left) | (go_at_call 27; (with_reducible refine HSO.out.mono ?_); rintro e ws ⟨rfl, ys, hp, hu, hrow, hg⟩; have HP := Aside0.mk hp; have HU := Aside0.mk hu; have HROW := Aside0.mk hrow; have HG := Aside0.mk hg; clear hp hu hrow hg hcb; have hcb : ws.cell? ⟨bl, 0, none⟩ = some (.slice A ls.length c0) := (blk_cell ((HG.out.block bl (blk_lt HI.out.bk) (fun e => HNE.out e.symm)).trans HI.out.bk) 0).trans rfl) | ((with_reducible refine gate_dst (N := 18) rfl ?_); refine row_appendS B rfl (.tmp 13) _ rfl _ ls ⟨x, c⟩ rfl rfl HR1.out HS1.out HLS.out ?_; intro v2 w2 hrow hg2; obtain ⟨A2, c2, rfl⟩ := Kd.R_slice hrow; have HROW := Aside0.mk hrow; have HG2 := Aside0.mk hg2; clear hrow hcb2; have HB2 : Aside0 (w2.heap[bl]? = some (.cells #[.slice A ls.length c0] 23 (0, 0))) := ⟨(hg2.block bl (blk_lt HB1.out) (fun e => HNE.out e.symm)).trans HB1.out⟩; clear hg2; have hcb3 : w2.cell? ⟨bl, 0, none⟩ = some (.slice A ls.length c0) := (blk_cell HB2.out 0).trans rfl; have hfb2 := blk_frozen HB2.out 0))
    · go_ret
      exact listed_done HI HL HP HU HROW HG HZ
    · go_roundg (cnt1 + 1)
      case measure => have := HK.out; have := HLT2.out; omega
      case rel => exact ⟨_, _, _, _, ⟨HI.out.step x c HLX.out HAT.out rfl HRG.out HG.out (by have h := HROW.out; rw [List.length_append] at h; exact h) HG2.out⟩, ⟨Nat.le_refl _⟩, ⟨by have := HZ.out; have := HLT2.out; simp; omega⟩⟩
end Go.Proofs.Ytlhjblbmhlelbaa.P
