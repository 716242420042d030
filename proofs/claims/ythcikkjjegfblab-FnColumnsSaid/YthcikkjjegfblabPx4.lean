-- Written by the program wip/myprint.py of this session, over the kit's print of the translation. Lean checks it.
import Derived.Laws.Pointers
import Derived.Recover
import Derived.Defers
import Derived.Test.YthcikkjjegfblabLibMsg
import Derived.Test.YthcikkjjegfblabPx0
import Derived.Test.YthcikkjjegfblabPx3
namespace Go.Proofs.Ythcikkjjegfblab.P
open Go.RowKit Go.Proofs.YthcikkjjegfblabW.PrintWords Go.Proofs.YthcikkjjegfblabW.PrintLast Go.Proofs.YthcikkjjegfblabW.PrintMore
attribute [local go_sem] max2_int min2_int max_two min_two max_three min_three max_four min_four   -- for this text's walks alone
set_option linter.unusedVariables false
set_option linter.unusedSimpArgs false

/-! ### pq_parseStatementRowDescribe: function 69 -/
/-- Cells by a function. -/
def tabl (F : Nat → Value) (n : Nat) : Array Value := ((List.range n).map F).toArray
def upd (F : Nat → Value) (p : Nat) (v : Value) : Nat → Value := fun m => if m = p then v else F m
theorem tabl_at (F : Nat → Value) (n j : Nat) (hj : j < n) : (tabl F n)[j]? = some (F j) := by simp [tabl, hj]
theorem tabl_set (F : Nat → Value) (n p : Nat) (v : Value) : (tabl F n).setIfInBounds p v = tabl (upd F p v) n := by
  apply Array.ext'
  apply List.ext_getElem?
  intro i
  simp only [Array.toList_setIfInBounds, tabl, List.getElem?_set, List.length_map, List.length_range, List.getElem?_map]
  by_cases hi : i < n
  · have h : (List.range n)[i]? = some i := by simp [hi]
    by_cases e : p = i
    · subst e; simp [hi, h, upd]
    · rw [if_neg e, h]; simp only [Option.map_some, upd]; rw [if_neg (fun x => e x.symm)]
  · have h : (List.range n)[i]? = none := by simp; omega
    rw [h]
    by_cases e : p = i
    · subst e; simp [hi]
    · rw [if_neg e]; rfl
theorem tabl_made (z : Array Value) (n : Nat) : madeCells z n = tabl (fun m => z[m % z.size]!) n := by
  apply Array.ext'
  simp [madeCells, tabl]
theorem upd_same (F : Nat → Value) (p : Nat) (v : Value) : upd F p v p = v := by simp [upd]
theorem upd_other (F : Nat → Value) {p q : Nat} (v : Value) (h : q ≠ p) : upd F p v q = F q := by simp [upd, h]
theorem tblk_set {w : World} {g : Nat} {t : TypeId} {F : Nat → Value} {n : Nat} (h : w.heap[g]? = some (.cells (tabl F n) t (0, 0))) (p : Nat) (v : Value) : (w.setCell ⟨g, p, none⟩ v).heap[g]? = some (.cells (tabl (upd F p v) n) t (0, 0)) := by
  rw [← tabl_set]; exact blk_set h p v
theorem tblk_cell {w : World} {g : Nat} {t : TypeId} {F : Nat → Value} {n : Nat} (h : w.heap[g]? = some (.cells (tabl F n) t (0, 0))) (p : Nat) (hp : p < n) : w.cell? ⟨g, p, none⟩ = some (F p) := (blk_cell h p).trans (tabl_at F n p hp)
theorem mk_run {P : Program} (t e : TypeId) (z : Value) (size bytes : Nat) (ht : P.underlying t = some (.slice e)) (hinfo : (P.info? e).map (fun i => (i.zero, i.size, i.bytes)) = some (some z, size, bytes)) (hb0 : 0 < bytes) (n : Nat) (hl : n * bytes ≤ 281474976710656) (W : World) :
    (Instr.makeSlice t (.int .i64 (n : Int)) (.int .i64 (n : Int))).run P W = .ok (.slice (some ⟨W.heap.size, 0, none⟩) n n) (W.alloc (.cells (madeCells z.cells (n * size)) e)) := by
  obtain ⟨i0, hi, hzz⟩ := Option.map_eq_some_iff.1 hinfo
  simp only [Prod.mk.injEq] at hzz
  obtain ⟨hz0, hz1, hz2⟩ := hzz
  have hm : n ≤ 281474976710656 := Nat.le_trans (Nat.le_mul_of_pos_right _ hb0) hl
  have hr := run_make (P := P) (w := W) t e i0 z ht hi hz0 .i64 .i64 (n : Int) (n : Int) (by omega) (Int.le_refl _)
    (by
      have h3 : ((i0.bytes * n : Nat) : Int) ≤ 281474976710656 := by rw [hz2, Nat.mul_comm]; omega
      rwa [Int.natCast_mul] at h3) (by omega)
  simp only [Int.toNat_natCast, hz1] at hr
  exact hr
abbrev e16 (f : List Int) : Int := rd f 0 * 256 + rd f 1
abbrev e32 (f : List Int) : Int := rd f 0 * 16777216 + rd f 1 * 65536 + rd f 2 * 256 + rd f 3
abbrev PCol := S113
/-- One column, and what is left. -/
def decCol (k : Nat) (f : List Int) : Option (PCol × List Int) := (pq_zzIndex.f k (strOfNums f) (⟨#[0]⟩ : ByteArray)).bind fun j => if 0 ≤ j ∧ j.toNat + 19 ≤ f.length then
    some (⟨strOfNums (f.take j.toNat), e32 ((f.drop (j.toNat + 1)).drop 6), e16 (((f.drop (j.toNat + 1)).drop 6).drop 4), IntKind.i32.wrap (e32 ((((f.drop (j.toNat + 1)).drop 6).drop 4).drop 2)), e16 (((((f.drop (j.toNat + 1)).drop 6).drop 4).drop 2).drop 4)⟩, (((((f.drop (j.toNat + 1)).drop 6).drop 4).drop 2).drop 4).drop 2) else none
def decCols (k : Nat) : Nat → List Int → Option (List PCol)
  | 0, _ => some []
  | n + 1, f => (decCol k f).bind fun p => (decCols k n p.2).bind fun l => some (p.1 :: l)
def decBody (k : Nat) (f : List Int) : Option (List PCol) := if 2 ≤ f.length ∧ 0 ≤ e16 f then decCols k (e16 f).toNat (f.drop 2) else none
theorem decCol.mono (k : Nat) (f : List Int) : LeO (decCol k f) (decCol (k + 1) f) := LeO.bind (pq_zzIndex.mono _ _ _) (fun _ => LeO.refl _)
theorem decCols.mono (k : Nat) : ∀ (n : Nat) (f : List Int), LeO (decCols k n f) (decCols (k + 1) n f)
  | 0, _ => LeO.refl _
  | n + 1, f => LeO.bind (decCol.mono k f) (fun _ => LeO.bind (decCols.mono k n _) (fun _ => LeO.refl _))
theorem decBody.mono (k : Nat) (f : List Int) : LeO (decBody k f) (decBody (k + 1) f) := LeO.ite (decCols.mono k _ _) (LeO.none _)
theorem decCols_len (k : Nat) : ∀ (n : Nat) (f : List Int) (l : List PCol), decCols k n f = some l → l.length = n
  | 0, _, l, h => by rw [decCols] at h; injection h with h; rw [← h]; rfl
  | n + 1, f, l, h => by
    rw [decCols] at h
    obtain ⟨p, _, h⟩ := Option.bind_eq_some_iff.mp h
    obtain ⟨l', h1, h2⟩ := Option.bind_eq_some_iff.mp h
    injection h2 with h2
    rw [← h2, List.length_cons, decCols_len k n _ _ h1]
set_option maxHeartbeats 4000000 in
set_option maxRecDepth 100000 in
theorem pq_parseStatementRowDescribe.calls {tt : TypeId} (k g : Nat) (f0 : List Int) (cols : List PCol) (w0 w : World) (hI0 : IsRdT tt w0 w g f0) (hB0 : Below w0.heap.size w0 w) (h : decBody k f0 = some cols) :
    Calls Try.prog 69 #[.pointer (some ⟨g, 0, none⟩)] w fun e w' => ∃ g1 F1 g2 F2, e = .returned (.tuple #[.slice (some ⟨g1, 0, none⟩) cols.length cols.length, .slice (some ⟨g2, 0, none⟩) cols.length cols.length]) ∧ w'.heap[g1]? = some (.cells (tabl F1 cols.length) 9 (0, 0)) ∧ w'.heap[g2]? = some (.cells (tabl F2 (cols.length * 3)) 120 (0, 0)) ∧ (∀ j (hj : j < cols.length), F1 j = .string (cols[j]'hj).f0 ∧ F2 (j * 3) = .int .u32 (cols[j]'hj).f1 ∧ F2 (j * 3 + 1) = .int .i64 (cols[j]'hj).f2 ∧ F2 (j * 3 + 2) = .int .i64 (cols[j]'hj).f3) ∧ Below w0.heap.size w0 w' := by
  unfold decBody at h
  by_cases h2 : 2 ≤ f0.length ∧ 0 ≤ e16 f0
  case neg => rw [if_neg h2] at h; cases h
  rw [if_pos h2] at h
  obtain ⟨n, hn⟩ : ∃ n : Nat, e16 f0 = (n : Int) := ⟨(e16 f0).toNat, by have := h2.2; omega⟩
  rw [hn, Int.toNat_natCast] at h
  have hlen := decCols_len k n _ _ h
  have hby := hI0.bytes
  have hn2 : n ≤ 70000 := by have h0 := hby.rd 0; have h1 := hby.rd 1; have : rd f0 0 * 256 + rd f0 1 = (n : Int) := hn; omega
  have hmk1 := fun W => mk_run (P := Try.prog) 114 9 (.string ⟨#[]⟩) 1 16 Try.underlying114 (by kernel_rfl) (by omega) n (by omega) W
  simp only [Value.cells, Nat.mul_one] at hmk1
  have hmk2 := fun W => mk_run (P := Try.prog) 115 120 (.agg #[.int .u32 0, .int .i64 0, .int .i64 0]) 3 24 Try.underlying115 (by kernel_rfl) (by omega) n (by omega) W
  simp only [Value.cells, Nat.mul_one] at hmk2
  obtain ⟨hl2, h0e⟩ := h2
  have HH := Aside0.mk h
  have HLN := Aside0.mk hlen
  have HN2 := Aside0.mk hn2
  have HGL := Aside0.mk hI0.lt
  have HG0 := Aside0.mk hI0.ge
  have HWW := Aside0.mk hB0.size
  have hc := pq_readBuf_int16.calls g f0 w0 w hI0 hB0 hl2
  have HNN := Aside0.mk hn
  clear h hlen hn2 hI0 hB0 hl2 h0e hby hn
  go_enter Try.func69, Try.ntmps69
  go_wp2_with fail
  refine hc.mono ?_
  rintro e w1 ⟨rfl, hI1, hB1, hK1⟩
  rw [show (rd f0 0 * 256 + rd f0 1 : Int) = (n : Int) from HNN.out]
  obtain ⟨V, hV⟩ : ∃ V, V = ((w1.alloc (.cells (madeCells #[.string ⟨#[]⟩] n) 9 (0, 0))).alloc (.cells (madeCells #[.int .u32 0, .int .i64 0, .int .i64 0] (n * 3)) 120 (0, 0))) := ⟨_, rfl⟩
  have hszw : w.heap.size ≤ w1.heap.size := hK1.1
  have hV1 : V.heap[w1.heap.size]? = some (.cells (madeCells #[.string ⟨#[]⟩] n) 9 (0, 0)) := by rw [hV]; exact blk_alloc (by have := heap_alloc_new w1 (.cells (madeCells #[.string ⟨#[]⟩] n) 9 (0, 0)); first | exact this | simpa using this) _
  have hV2 : V.heap[w1.heap.size + 1]? = some (.cells (madeCells #[.int .u32 0, .int .i64 0, .int .i64 0] (n * 3)) 120 (0, 0)) := by rw [hV]; exact by have := heap_alloc_new (w1.alloc (.cells (madeCells #[.string ⟨#[]⟩] n) 9 (0, 0))) (.cells (madeCells #[.int .u32 0, .int .i64 0, .int .i64 0] (n * 3)) 120 (0, 0)); first | exact this | simpa using this
  rw [tabl_made] at hV1
  rw [tabl_made] at hV2
  have hIV : IsRdT tt w0 V g (f0.drop 2) := by rw [hV]; exact ((hI1.alloc _).alloc _)
  have hBV : Below w0.heap.size w0 V := by rw [hV]; exact below_alloc (below_alloc (hB1) _) _
  obtain ⟨g1, hg1⟩ : ∃ g1, g1 = w1.heap.size := ⟨_, rfl⟩
  rw [← hg1] at hV1
  have HG1 := Aside0.mk hg1
  clear hg1
  obtain ⟨g2, hg2⟩ : ∃ g2, g2 = w1.heap.size + 1 := ⟨_, rfl⟩
  rw [← hg2] at hV2
  have HG2 := Aside0.mk hg2
  clear hg2
  have HSW := Aside0.mk hszw
  have HV1 := Aside0.mk hV1
  have HV2 := Aside0.mk hV2
  have HIV := Aside0.mk hIV
  have HBV := Aside0.mk hBV
  clear hI1 hB1 hK1 hc hszw hIV hBV hV1 hV2
  go_wp2_with fail
  rw [← HG2.out]
  rw [← HG1.out]
  rw [← hV]
  clear hV hmk1 hmk2
  go_loopg [14] (n + 1) (fun kq v14 w' => ∃ (i : Nat) (f : List Int) (F1 F2 : Nat → Value), v14 = .int .i64 (i : Int) ∧ Aside0 (i ≤ n) ∧ Aside0 (kq + i = n + 1) ∧ IsRdT tt w0 w' g f ∧ w'.heap[g1]? = some (.cells (tabl F1 n) 9 (0, 0)) ∧ w'.heap[g2]? = some (.cells (tabl F2 (n * 3)) 120 (0, 0)) ∧ Aside0 (∀ j (hj : j < cols.length), j < i → F1 j = .string (cols[j]'hj).f0 ∧ F2 (j * 3) = .int .u32 (cols[j]'hj).f1 ∧ F2 (j * 3 + 1) = .int .i64 (cols[j]'hj).f2 ∧ F2 (j * 3 + 2) = .int .i64 (cols[j]'hj).f3) ∧ Aside0 (decCols k (n - i) f = some (cols.drop i)) ∧ Below w0.heap.size w0 w')
  case atStart => exact ⟨0, _, _, _, rfl, ⟨Nat.zero_le _⟩, ⟨rfl⟩, HIV.out, HV1.out, HV2.out, ⟨fun j hj h0 => absurd h0 (Nat.not_lt_zero _)⟩, ⟨HH.out⟩, HBV.out⟩
  case round =>
    obtain ⟨i, f, F1, F2, rfl, HI, HK, hI, h1, h2, HF, HD, hB⟩ := hrel
    clear HIV HBV HV1 HV2
    have hne : ∀ x, w1.heap.size ≤ x → g ≠ x := fun x hx => by have := HGL.out; have := HSW.out; omega
    have HNE := Aside0.mk hne
    clear hne
    by_cases ci : i < n
    · have c1 : ((i : Int) < (n : Int)) = True := eq_true (by omega)
      have c1b : decide ((i : Int) < (n : Int)) = true := decide_eq_true (by omega)
      have c2 : decide (0 ≤ (i : Int)) = true := decide_eq_true (by omega)
      obtain ⟨m, hm⟩ : ∃ m, n - i = m + 1 := ⟨n - i - 1, by omega⟩
      have hd := HD.out
      rw [hm, decCols] at hd
      obtain ⟨⟨c, fr⟩, hd1, hd⟩ := Option.bind_eq_some_iff.mp hd
      obtain ⟨l', hd2, hd⟩ := Option.bind_eq_some_iff.mp hd
      injection hd with hd
      have hil : i < cols.length := by rw [HLN.out]; exact ci
      rw [List.drop_eq_getElem_cons hil] at hd
      injection hd with hci hl'
      unfold decCol at hd1
      obtain ⟨j, hz, hd1⟩ := Option.bind_eq_some_iff.mp hd1
      by_cases hj : 0 ≤ j ∧ j.toNat + 19 ≤ f.length
      case neg => rw [if_neg hj] at hd1; cases hd1
      rw [if_pos hj] at hd1
      obtain ⟨q, rfl⟩ : ∃ q : Nat, j = (q : Int) := ⟨j.toNat, by omega⟩
      simp only [Int.toNat_natCast, Option.some.injEq, Prod.mk.injEq] at hd1 hj
      obtain ⟨hcc, hfr⟩ := hd1
      have hlen1 : (f.drop (q + 1)).length = f.length - (q + 1) := List.length_drop
      have HQ : Aside0 (q + 19 ≤ f.length) := ⟨hj.2⟩
      obtain ⟨f1, E1⟩ : ∃ x, Aside0 (f.drop (q + 1) = x) := ⟨_, ⟨rfl⟩⟩
      obtain ⟨f2, E2⟩ : ∃ x, Aside0 (f1.drop 6 = x) := ⟨_, ⟨rfl⟩⟩
      obtain ⟨f3, E3⟩ : ∃ x, Aside0 (f2.drop 4 = x) := ⟨_, ⟨rfl⟩⟩
      obtain ⟨f4, E4⟩ : ∃ x, Aside0 (f3.drop 2 = x) := ⟨_, ⟨rfl⟩⟩
      obtain ⟨f5, E5⟩ : ∃ x, Aside0 (f4.drop 4 = x) := ⟨_, ⟨rfl⟩⟩
      obtain ⟨f6, E6⟩ : ∃ x, Aside0 (f5.drop 2 = x) := ⟨_, ⟨rfl⟩⟩
      obtain ⟨sv, SV⟩ : ∃ x, Aside0 (strOfNums (f.take q) = x) := ⟨_, ⟨rfl⟩⟩
      obtain ⟨a2, A2⟩ : ∃ x, Aside0 (rd f2 0 * 16777216 + rd f2 1 * 65536 + rd f2 2 * 256 + rd f2 3 = x) := ⟨_, ⟨rfl⟩⟩
      obtain ⟨a3, A3⟩ : ∃ x, Aside0 (rd f3 0 * 256 + rd f3 1 = x) := ⟨_, ⟨rfl⟩⟩
      obtain ⟨a4, A4⟩ : ∃ x, Aside0 (IntKind.i32.wrap (rd f4 0 * 16777216 + rd f4 1 * 65536 + rd f4 2 * 256 + rd f4 3) = x) := ⟨_, ⟨rfl⟩⟩
      obtain ⟨a5, A5⟩ : ∃ x, Aside0 (rd f5 0 * 256 + rd f5 1 = x) := ⟨_, ⟨rfl⟩⟩
      have hs := pq_readBuf_string.calls g f k q w0 wr hI hB hz (by omega)
      have Z1 : Aside0 (18 ≤ f1.length) := ⟨by rw [← E1.out]; omega⟩
      have Z2 : Aside0 (12 ≤ f2.length) := ⟨by have := Z1.out; rw [← E2.out, List.length_drop]; omega⟩
      have Z3 : Aside0 (8 ≤ f3.length) := ⟨by have := Z2.out; rw [← E3.out, List.length_drop]; omega⟩
      have Z4 : Aside0 (6 ≤ f4.length) := ⟨by have := Z3.out; rw [← E4.out, List.length_drop]; omega⟩
      have Z5 : Aside0 (2 ≤ f5.length) := ⟨by have := Z4.out; rw [← E5.out, List.length_drop]; omega⟩
      rw [E1.out, E2.out, E3.out, E4.out, E5.out, SV.out] at hcc
      rw [E1.out, E2.out, E3.out, E4.out, E5.out, E6.out] at hfr
      have HC : Aside0 (cols[i]'hil = ⟨sv, a2, a3, a4, a5⟩) := ⟨by rw [← A2.out, ← A3.out, ← A4.out, ← A5.out]; exact (hcc.trans hci).symm⟩
      have HFR := Aside0.mk hfr
      have HD2 : Aside0 (decCols k m fr = some (cols.drop (i + 1))) := ⟨by rw [hd2, hl']⟩
      have HM := Aside0.mk hm
      clear hcc hfr hci hl' hd2 hd1 hd hm hj hz HD hI hB hlen1
      have K1 := Aside0.mk h1
      have K2 := Aside0.mk h2
      clear h1 h2
      go_wp2_with fail
      refine hs.mono ?_
      clear hs
      rintro e x0 ⟨he, jI, jB, jK⟩
      rw [SV.out] at he
      subst he
      rw [E1.out] at jI
      have L1 := jK.blk K1.out (fun e => HNE.out g1 (by have := HG1.out; omega) e.symm) (by simp)
      have L2 := jK.blk K2.out (fun e => HNE.out g2 (by have := HG2.out; omega) e.symm) (by simp)
      clear K1 K2 jK
      have hx := tblk_cell L1 i (by omega)
      have hy := blk_frozen L1 i
      have jI0 := Aside0.mk (jI.far (p := ⟨g1, i, none⟩) (HNE.out g1 (by have := HG1.out; omega)) (.string sv))
      have jB0 := Aside0.mk (below_set (j := i) (v := (.string sv)) jB (show w0.heap.size ≤ g1 by have := HG1.out; have := HWW.out; have := HSW.out; omega))
      have K1 := Aside0.mk (tblk_set L1 i (.string sv))
      have K2 := Aside0.mk (blk_far L2 (p := ⟨g1, i, none⟩) (by show g2 ≠ g1; have := HG1.out; have := HG2.out; omega) (.string sv))
      clear jI jB L1 L2
      go_wp2_with fail
      clear hx hy
      refine (pq_readBuf_next.calls g f1 6 w0 _ jI0.out jB0.out (by have := Z1.out; omega)).mono ?_
      rintro e x1 ⟨An1, cn1, rfl, _, _, jI, jB, jK⟩
      rw [E2.out] at jI
      have L1 := jK.blk K1.out (fun e => HNE.out g1 (by have := HG1.out; omega) e.symm) (by simp)
      have L2 := jK.blk K2.out (fun e => HNE.out g2 (by have := HG2.out; omega) e.symm) (by simp)
      clear K1 K2 jK
      have jI1 := Aside0.mk jI
      have jB1 := Aside0.mk jB
      have K1 := Aside0.mk L1
      have K2 := Aside0.mk L2
      clear jI jB L1 L2
      go_wp2_with fail
      refine (pq_readBuf_oid.calls g f2 w0 _ jI1.out jB1.out (by have := Z2.out; omega)).mono ?_
      rintro e x2 ⟨he, jI, jB, jK⟩
      rw [A2.out] at he
      subst he
      rw [E3.out] at jI
      have L1 := jK.blk K1.out (fun e => HNE.out g1 (by have := HG1.out; omega) e.symm) (by simp)
      have L2 := jK.blk K2.out (fun e => HNE.out g2 (by have := HG2.out; omega) e.symm) (by simp)
      clear K1 K2 jK
      have hx := tblk_cell L2 (i * 3) (by omega)
      have hy := blk_frozen L2 (i * 3)
      have jI2 := Aside0.mk (jI.far (p := ⟨g2, (i * 3), none⟩) (HNE.out g2 (by have := HG2.out; omega)) (.int .u32 a2))
      have jB2 := Aside0.mk (below_set (j := (i * 3)) (v := (.int .u32 a2)) jB (show w0.heap.size ≤ g2 by have := HG2.out; have := HWW.out; have := HSW.out; omega))
      have K1 := Aside0.mk (blk_far L1 (p := ⟨g2, (i * 3), none⟩) (by show g1 ≠ g2; have := HG1.out; have := HG2.out; omega) (.int .u32 a2))
      have K2 := Aside0.mk (tblk_set L2 (i * 3) (.int .u32 a2))
      clear jI jB L1 L2
      go_wp2_with fail
      clear hx hy
      refine (pq_readBuf_int16.calls g f3 w0 _ jI2.out jB2.out (by have := Z3.out; omega)).mono ?_
      rintro e x3 ⟨he, jI, jB, jK⟩
      rw [A3.out] at he
      subst he
      rw [E4.out] at jI
      have L1 := jK.blk K1.out (fun e => HNE.out g1 (by have := HG1.out; omega) e.symm) (by simp)
      have L2 := jK.blk K2.out (fun e => HNE.out g2 (by have := HG2.out; omega) e.symm) (by simp)
      clear K1 K2 jK
      have hx := tblk_cell L2 (i * 3 + 1) (by omega)
      have hy := blk_frozen L2 (i * 3 + 1)
      have jI3 := Aside0.mk (jI.far (p := ⟨g2, (i * 3 + 1), none⟩) (HNE.out g2 (by have := HG2.out; omega)) (.int .i64 a3))
      have jB3 := Aside0.mk (below_set (j := (i * 3 + 1)) (v := (.int .i64 a3)) jB (show w0.heap.size ≤ g2 by have := HG2.out; have := HWW.out; have := HSW.out; omega))
      have K1 := Aside0.mk (blk_far L1 (p := ⟨g2, (i * 3 + 1), none⟩) (by show g1 ≠ g2; have := HG1.out; have := HG2.out; omega) (.int .i64 a3))
      have K2 := Aside0.mk (tblk_set L2 (i * 3 + 1) (.int .i64 a3))
      clear jI jB L1 L2
      go_wp2_with fail
      clear hx hy
      refine (pq_readBuf_int32.calls g f4 w0 _ jI3.out jB3.out (by have := Z4.out; omega)).mono ?_
      rintro e x4 ⟨he, jI, jB, jK⟩
      rw [A4.out] at he
      subst he
      rw [E5.out] at jI
      have L1 := jK.blk K1.out (fun e => HNE.out g1 (by have := HG1.out; omega) e.symm) (by simp)
      have L2 := jK.blk K2.out (fun e => HNE.out g2 (by have := HG2.out; omega) e.symm) (by simp)
      clear K1 K2 jK
      have hx := tblk_cell L2 (i * 3 + 2) (by omega)
      have hy := blk_frozen L2 (i * 3 + 2)
      have jI4 := Aside0.mk (jI.far (p := ⟨g2, (i * 3 + 2), none⟩) (HNE.out g2 (by have := HG2.out; omega)) (.int .i64 a4))
      have jB4 := Aside0.mk (below_set (j := (i * 3 + 2)) (v := (.int .i64 a4)) jB (show w0.heap.size ≤ g2 by have := HG2.out; have := HWW.out; have := HSW.out; omega))
      have K1 := Aside0.mk (blk_far L1 (p := ⟨g2, (i * 3 + 2), none⟩) (by show g1 ≠ g2; have := HG1.out; have := HG2.out; omega) (.int .i64 a4))
      have K2 := Aside0.mk (tblk_set L2 (i * 3 + 2) (.int .i64 a4))
      clear jI jB L1 L2
      go_wp2_with fail
      clear hx hy
      refine (pq_readBuf_next.calls g f5 2 w0 _ jI4.out jB4.out (by have := Z5.out; omega)).mono ?_
      rintro e x5 ⟨An5, cn5, rfl, _, _, jI, jB, jK⟩
      rw [E6.out] at jI
      have L1 := jK.blk K1.out (fun e => HNE.out g1 (by have := HG1.out; omega) e.symm) (by simp)
      have L2 := jK.blk K2.out (fun e => HNE.out g2 (by have := HG2.out; omega) e.symm) (by simp)
      clear K1 K2 jK
      have jI5 := Aside0.mk jI
      have jB5 := Aside0.mk jB
      have K1 := Aside0.mk L1
      have K2 := Aside0.mk L2
      clear jI jB L1 L2
      go_wp2_with fail
      have hwr : wrap64 ((i : Int) + 1) = ((i + 1 : Nat) : Int) := by have := HN2.out; unfold wrap64; omega
      go_roundg (m + 1)
      case measure => have := HK.out; have := HM.out; omega
      case rel =>
        refine ⟨i + 1, _, _, _, by first | rw [hwr] | go_num, ⟨by omega⟩, ⟨by have := HK.out; have := HM.out; omega⟩, jI5.out, K1.out, K2.out, ⟨fun j hj hji => ?_⟩, ⟨by rw [show n - (i + 1) = m by have := HM.out; omega, ← HFR.out] at *; exact HD2.out⟩, jB5.out⟩
        by_cases e : j = i
        · subst e
          rw [HC.out]
          simp only [upd]
          refine ⟨by simp, by simp, by simp, by simp⟩
        · have h := HF.out j hj (by omega)
          simp only [upd]
          rw [if_neg e, if_neg (by omega), if_neg (by omega), if_neg (by omega), if_neg (by omega), if_neg (by omega), if_neg (by omega), if_neg (by omega), if_neg (by omega), if_neg (by omega)]
          try rw [if_neg e]
          exact h
    · have hie : i = n := by have := HI.out; omega
      subst hie
      clear HI HK HD
      have K1 := Aside0.mk h1
      have K2 := Aside0.mk h2
      have HB := Aside0.mk hB
      clear hB hI ci h1 h2
      go_wp2_with fail
      refine bodyPost_ret (v := .tuple #[.slice (some ⟨g1, 0, none⟩) i i, .slice (some ⟨g2, 0, none⟩) i i]) (by simp [results, Try.results69, go_sem]) rfl ?_
      have hl := HLN.out
      refine ⟨g1, F1, g2, F2, by rw [hl], by rw [hl]; exact K1.out, by rw [hl]; exact K2.out, fun j hj => HF.out j hj (by omega), HB.out⟩

/-! ### pq_StatementColumns: function 47 -/
def dropFmt (c : PCol) : PCol := ⟨c.f0, c.f1, c.f2, c.f3, 0⟩
set_option maxHeartbeats 4000000 in
set_option maxRecDepth 100000 in
theorem pq_StatementColumns.calls (k : Nat) (A : Option Addr) (c0 : Nat) (f : List Int) (cols : List PCol) (w : World) (hr : Kd.C (Kd.int .u8) w A f.length f) (hc : f.length ≤ c0) (hby : Bytes f) (h : decBody k f = some cols) (hcl : cols.length ≤ 70000) :
    Calls Try.prog 47 #[.slice A f.length c0] w fun e w' => ∃ v, e = .returned v ∧ Kd.R k113 113 w' w.heap.size (fun _ => True) v (cols.map dropFmt) ∧ Below w.heap.size w w' := by
  have hu := Try.underlying100
  have hI : IsRdT 100 w (w.alloc (.cells #[.slice A f.length c0] 100 (0, 0))) w.heap.size f := ⟨A, c0, by simpa using heap_alloc_new w _, Nat.le_refl _, hc, hr, hby⟩
  have hB : Below w.heap.size w (w.alloc (.cells #[.slice A f.length c0] 100 (0, 0))) := below_alloc (Below.refl _ _) _
  have hp := pq_parseStatementRowDescribe.calls k w.heap.size f cols w _ hI hB h
  have HCL := Aside0.mk hcl
  clear hr hc hby h hI hB hcl
  go_enter Try.func47, Try.ntmps47
  go_wp2_with fail
  refine hp.mono ?_
  rintro e w1 ⟨g1, F1, g2, F2, rfl, h1, h2, hF, hB1⟩
  have HF := Aside0.mk hF
  have H1 := Aside0.mk h1
  have H2 := Aside0.mk h2
  have HB1 := Aside0.mk hB1
  clear hp h1 h2 hF hB1
  go_wp2_with fail
  go_loopg [2, 14] (cols.length + 1) (fun kq v2 v14 w' => ∃ i : Nat, v14 = .int .i64 (i : Int) ∧ Aside0 (i ≤ cols.length) ∧ Aside0 (kq + i = cols.length + 1) ∧ w'.heap[g1]? = some (.cells (tabl F1 cols.length) 9 (0, 0)) ∧ w'.heap[g2]? = some (.cells (tabl F2 (cols.length * 3)) 120 (0, 0)) ∧ Aside0 (Kd.R k113 113 w' w.heap.size (fun _ => True) v2 ((cols.take i).map dropFmt)) ∧ Below w.heap.size w w')
  case atStart => exact ⟨0, rfl, ⟨Nat.zero_le _⟩, ⟨rfl⟩, H1.out, H2.out, ⟨Kd.R_nil _ _ _ _ _⟩, HB1.out⟩
  case round =>
    obtain ⟨i, rfl, HI, HK, h1, h2, HR, hB⟩ := hrel
    clear HB1 H1 H2
    by_cases ci : i < cols.length
    · have c1 : ((i : Int) < (cols.length : Int)) = True := eq_true (by omega)
      have c1b : decide ((i : Int) < (cols.length : Int)) = true := decide_eq_true (by omega)
      have c2 : decide (0 ≤ (i : Int)) = true := decide_eq_true (by omega)
      have hf := HF.out i ci
      have x1 := (tblk_cell h1 i ci).trans (congrArg some hf.1)
      have x2 := (tblk_cell h2 (i * 3) (by omega)).trans (congrArg some hf.2.1)
      have x3 := (tblk_cell h2 (i * 3 + 1) (by omega)).trans (congrArg some hf.2.2.1)
      have x4 := (tblk_cell h2 (i * 3 + 2) (by omega)).trans (congrArg some hf.2.2.2)
      obtain ⟨c, hcd⟩ : ∃ c, c = cols[i]'ci := ⟨_, rfl⟩
      rw [← hcd] at x1 x2 x3 x4
      have HCD := Aside0.mk hcd
      have hll : ((cols.take i).map dropFmt).length = i := by rw [List.length_map]; rw [List.length_take]; omega
      have ht1 : (((cols.take i).map dropFmt).length + 1) * 56 ≤ 140737488355328 := by rw [hll]; have := HCL.out; omega
      have htk : ((cols.take (i + 1)).map dropFmt) = ((cols.take i).map dropFmt) ++ [(dropFmt c)] := by rw [hcd, List.take_succ_eq_append_getElem ci, List.map_append]; rfl
      have HTK := Aside0.mk htk
      have HT := Aside0.mk ht1
      have hwr : wrap64 ((i : Int) + 1) = ((i + 1 : Nat) : Int) := by have := HCL.out; unfold wrap64; omega
      have HRd := Aside0.mk (Kd.R_drew HR.out)
      have HBd := Aside0.mk (below_drew hB)
      have hsz := hB.size
      have HSZ : Aside0 (w.heap.size ≤ wr.drew.heap.size) := ⟨hsz⟩
      have B1 := Aside0.mk (show wr.drew.heap[g1]? = _ from h1)
      have E1 := Aside0.mk (Kd.R_ne HR.out h1 (by decide))
      have B2 := Aside0.mk (show wr.drew.heap[g2]? = _ from h2)
      have E2 := Aside0.mk (Kd.R_ne HR.out h2 (by decide))
      have zx1 := fun o => (blk_cell (blk_alloc B1.out o) (i)).trans ((blk_cell B1.out (i)).symm.trans (show wr.drew.cell? ⟨g1, i, none⟩ = _ from x1))
      have zx2 := fun o => (blk_cell (blk_alloc B2.out o) (i * 3)).trans ((blk_cell B2.out (i * 3)).symm.trans (show wr.drew.cell? ⟨g2, i * 3, none⟩ = _ from x2))
      have zx3 := fun o => (blk_cell (blk_alloc B2.out o) (i * 3 + 1)).trans ((blk_cell B2.out (i * 3 + 1)).symm.trans (show wr.drew.cell? ⟨g2, i * 3 + 1, none⟩ = _ from x3))
      have zx4 := fun o => (blk_cell (blk_alloc B2.out o) (i * 3 + 2)).trans ((blk_cell B2.out (i * 3 + 2)).symm.trans (show wr.drew.cell? ⟨g2, i * 3 + 2, none⟩ = _ from x4))
      have HB := Aside0.mk hB
      clear hB h1 h2 hf hcd hll ht1 htk hsz
      go_wp2_with fail
      go_region_held3 (fun w' => w'.cell? ⟨g1, i, none⟩ = some (.string c.f0) ∧ w'.cell? ⟨g2, i * 3, none⟩ = some (.int .u32 c.f1) ∧ w'.cell? ⟨g2, i * 3 + 1, none⟩ = some (.int .i64 c.f2) ∧ w'.cell? ⟨g2, i * 3 + 2, none⟩ = some (.int .i64 c.f3)) (first | exact ⟨x1, x2, x3, x4⟩ | exact ⟨zx1 _, zx2 _, zx3 _, zx4 _⟩ | exact ⟨tx1, tx2, tx3, tx4⟩)
        ((refine Kd.R_append_step k113 (w0 := w) (W := wr.drew) w.heap.size (by rfl) (.tmp 17) (.tmp 38) 86 113 (.agg #[.string ⟨#[]⟩, .int .u32 0, .int .i64 0, .int .i64 0, .int .i64 0]) 48 (by rfl) Try.underlying86 (by kernel_rfl) (by rfl) (by decide) (by omega) u2 ((cols.take i).map dropFmt) (dropFmt c) [.string c.f0, .int .u32 c.f1, .int .i64 c.f2, .int .i64 c.f3, .int .i64 0] (fun _ => True) (fun _ => False) (by rfl) (by first | (go_simp; done) | (go_simp; rfl)) (k113_mkM _ _ _ (dropFmt c)) (fun _ hk => hk.elim) (fun _ _ => trivial) HRd.out HBd.out HSZ.out (by have := HT.out; omega) ?_; intro v1 w8 ho hb hg hat; have b1 := blk_grown B1.out hg E1.out; have b2 := blk_grown B2.out hg E2.out; have tx1 := (blk_cell b1 (i)).trans ((blk_cell B1.out (i)).symm.trans (show wr.drew.cell? ⟨g1, i, none⟩ = _ from x1)); have tx2 := (blk_cell b2 (i * 3)).trans ((blk_cell B2.out (i * 3)).symm.trans (show wr.drew.cell? ⟨g2, i * 3, none⟩ = _ from x2)); have tx3 := (blk_cell b2 (i * 3 + 1)).trans ((blk_cell B2.out (i * 3 + 1)).symm.trans (show wr.drew.cell? ⟨g2, i * 3 + 1, none⟩ = _ from x3)); have tx4 := (blk_cell b2 (i * 3 + 2)).trans ((blk_cell B2.out (i * 3 + 2)).symm.trans (show wr.drew.cell? ⟨g2, i * 3 + 2, none⟩ = _ from x4))))
      go_wp2
      go_roundg (cols.length - i)
      case measure => have := HK.out; omega
      case rel => exact ⟨i + 1, by first | rw [hwr] | go_num, ⟨by omega⟩, ⟨by have := HK.out; omega⟩, b1, b2, ⟨by rw [HTK.out]; exact ho⟩, hb⟩
    · have hie : i = cols.length := by have := HI.out; omega
      subst hie
      have HR2 := HR.out
      rw [List.take_length] at HR2
      have HRR := Aside0.mk HR2
      have HB := Aside0.mk hB
      clear HI HK HR HR2 hB ci h1 h2
      go_wp2_with fail
      go_ret
      exact ⟨_, rfl, HRR.out, HB.out⟩

/-! ### impl_StatementColumns: function 20 -/
def impl_StatementColumns.f (k : Nat) (a0 : ByteArray) : Option ((List (S43)) × Bool) := if a0.size ≤ 1000000000000 then (decBody k (bytesOf a0)).bind fun cols => if cols.length ≤ 70000 then (impl_columns.f k (cols.map dropFmt)).bind fun l => some (l, true) else none else none
theorem impl_StatementColumns.mono (k : Nat) (a0 : ByteArray) : LeO (impl_StatementColumns.f k a0) (impl_StatementColumns.f (k + 1) a0) :=
  LeO.ite (LeO.bind (decBody.mono _ _) (fun _ => LeO.ite (LeO.bind (impl_columns.mono _ _) (fun _ => LeO.refl _)) (LeO.none _))) (LeO.none _)
theorem impl_StatementColumns.idle (p q : Addr) (w : World) :
    CallsD Try.prog 45 #[.pointer (some p), .pointer (some q)] .returning w fun e u' w' => e = .returned (.tuple #[]) ∧ u' = .returning ∧ w' = w := by
  refine callsD_of_wpS Try.func45 rfl fun c₀ cs hu => ?_
  apply wpS_seq
  apply wpS_region
  simp [wpOpsS, go_sem, recoverD, hu, Try.ntmps45, Exit.thenS]
  refine wpS_cond (t := false) (by simp [Act.eval, Array.replicate]) ?_
  simp only [Bool.false_eq_true, if_false]
  refine wpS_of_wp (wp_skip ?_)
  cases c₀
  simp_all [bodyPostS, results, Try.results45]
set_option maxHeartbeats 4000000 in
set_option maxRecDepth 100000 in
theorem impl_StatementColumns.calls (k : Nat) (a0 : ByteArray) (r1 : List (S43)) (r2 : Bool) (w : World) (h : impl_StatementColumns.f k a0 = some (r1, r2)) :
    Calls Try.prog 20 #[.string a0] w fun e w' => ∃ v0_ : Value, e = .returned (.tuple #[v0_, .bool r2]) ∧ Kd.R k43 43 w' w.heap.size (fun _ => True) v0_ r1 ∧ Below w.heap.size w w' := by
  unfold impl_StatementColumns.f at h
  by_cases hsz : a0.size ≤ 1000000000000
  case neg => rw [if_neg hsz] at h; cases h
  rw [if_pos hsz] at h
  obtain ⟨cols, hD, h'⟩ := Option.bind_eq_some_iff.mp h
  clear h
  have h := h'
  clear h'
  by_cases hcl : cols.length ≤ 70000
  case neg => rw [if_neg hcl] at h; cases h
  rw [if_pos hcl] at h
  obtain ⟨l, hl, hr⟩ := Option.bind_eq_some_iff.mp h
  simp only [Option.some.injEq, Prod.mk.injEq] at hr
  obtain ⟨rfl, rfl⟩ := hr
  clear h
  have hu := Try.underlying38
  have hmf : ∀ (fn : Fn) (first cap : Array Value) (w : World), (Instr.makeFunc fn first cap).run Try.prog w = .ok (.func fn first cap) w := fun _ _ _ _ => rfl
  obtain ⟨W0, hW0⟩ : ∃ W0, W0 = (w.alloc (.cells #[.slice none 0 0] 38 (0, 0))).alloc (.cells #[.bool false] 4 (0, 0)) := ⟨_, rfl⟩
  have hL0 : W0.heap[w.heap.size]? = some (.cells #[.slice none 0 0] 38 (0, 0)) := by
    rw [hW0]
    exact blk_alloc (by exact heap_alloc_new w _) _
  have hO0 : W0.heap[w.heap.size + 1]? = some (.cells #[.bool false] 4 (0, 0)) := by
    rw [hW0]
    have := heap_alloc_new (w.alloc (.cells #[.slice none 0 0] 38 (0, 0))) (.cells #[.bool false] 4 (0, 0))
    simpa using this
  have hB0 : Below w.heap.size w W0 := by rw [hW0]; exact below_alloc (below_alloc (Below.refl _ _) _) _
  have hz0 : W0.heap.size = w.heap.size + 2 := by rw [hW0]; simp
  have kb := print_bytes (P := Try.prog) 9 58 5 Try.underlying9 Try.underlying58 Try.underlying5 a0 W0
  have hC : Kd.C (Kd.int .u8) (Lib.bytesWorld W0 5 a0) (some ⟨W0.heap.size, 0, none⟩) (bytesOf a0).length (bytesOf a0) := by rw [bytesOf_length]; exact Kd.C_of_reads (d := (0 : Int)) (h1 := fun _ => rfl) (bytes_reads W0 5 a0 (by omega))
  have hBB : Below W0.heap.size W0 (Lib.bytesWorld W0 5 a0) := bytes_below (Below.refl W0.heap.size W0) (Nat.le_refl _) 5 a0
  have hpe := pq_StatementColumns.calls k (some ⟨W0.heap.size, 0, none⟩) (grownCap W0 a0.size 0 5) (bytesOf a0) cols (Lib.bytesWorld W0 5 a0) hC (by rw [bytesOf_length]; exact grownCap_ge _ _ _ _) (bytesOf_bytes a0) hD hcl
  rw [bytesOf_length] at hpe
  obtain ⟨Lc, HLC⟩ : ∃ L, Aside0 (cols.map dropFmt = L) := ⟨_, ⟨rfl⟩⟩
  rw [HLC.out] at hpe hl
  have HL0 := Aside0.mk hL0
  have HO0 := Aside0.mk hO0
  have HB0 := Aside0.mk hB0
  have HZ0 := Aside0.mk hz0
  have HBB := Aside0.mk hBB
  have HCO := Aside0.mk hl
  clear hL0 hO0 hB0 hD hC hBB hsz hl hcl
  rw [hz0] at kb hpe
  clear hz0
  subst hW0
  go_enter_defers Try.func20, Try.ntmps20
  go_wp2_with fail
  refine hpe.mono ?_
  rintro e w1 ⟨v, rfl, h1, h3⟩
  obtain ⟨A2, c2, e2, hc2, HC2⟩ := Kd.R_reads h1
  subst e2
  have hB1 := Below.trans HBB.out (h3.mono HBB.out.size)
  have HL1 := Aside0.mk ((hB1.block w.heap.size (by rw [HZ0.out]; omega)).trans HL0.out)
  have HO1 := Aside0.mk ((hB1.block (w.heap.size + 1) (by rw [HZ0.out]; omega)).trans HO0.out)
  have HB1 := Aside0.mk (Below.trans HB0.out (hB1.mono HB0.out.size))
  have HW1 : Aside0 (w.heap.size + 2 ≤ w1.heap.size) := ⟨by have := hB1.size; rw [HZ0.out] at this; exact this⟩
  have HC3 := Aside0.mk HC2
  have HC4 := Aside0.mk hc2
  clear hpe kb h1 h3 hB1 HL0 HO0 HB0 HZ0 HBB HC2 hc2
  go_wp2_with fail
  refine (impl_columns.calls k A2 c2 Lc l w1 HC3.out HC4.out HCO.out).mono ?_
  rintro e w2 ⟨v2, rfl, hR, hb2⟩
  obtain ⟨A7, c7, e7, hc7, HC7⟩ := Kd.R_reads hR
  subst e7
  have hL := (hb2.block _ (blk_lt HL1.out)).trans HL1.out
  have hO := (hb2.block _ (blk_lt HO1.out)).trans HO1.out
  have HL := Aside0.mk hL
  have HO := Aside0.mk hO
  have HR := Aside0.mk (Kd.R_lower hR HW1.out)
  have HB := Aside0.mk (below_step HB1.out hb2)
  have x1 := blk_cell hL 0
  have y1 := blk_frozen hL 0
  have HLs := fun u => blk_set hL 0 u
  have z1 := fun u => (blk_cell (blk_far hO (p := ⟨w.heap.size, 0, none⟩) (by show w.heap.size + 1 ≠ w.heap.size; omega) u) 0)
  have z2 := fun u => (blk_frozen (blk_far hO (p := ⟨w.heap.size, 0, none⟩) (by show w.heap.size + 1 ≠ w.heap.size; omega) u) 0)
  clear hL hO hR hb2 hc7 HC7 HL1 HO1 HB1
  go_wp2
  refine leaves_cons (f := 45) (args := #[.pointer (some ⟨w.heap.size, 0, none⟩), .pointer (some ⟨w.heap.size + 1, 0, none⟩)]) (by simp) (by simp [go_sem]) ?_
  refine (impl_StatementColumns.idle _ _ _).mono ?_
  rintro e u' w'' ⟨rfl, rfl, rfl⟩
  have hL2 := blk_far (HLs (.slice A7 l.length c7)) (p := ⟨w.heap.size + 1, 0, none⟩) (by show w.heap.size ≠ w.heap.size + 1; omega) (.bool true)
  have hO2 := blk_set (blk_far HO.out (p := ⟨w.heap.size, 0, none⟩) (by show w.heap.size + 1 ≠ w.heap.size; omega) (.slice A7 l.length c7)) 0 (.bool true)
  have fL := blk_cell hL2 0
  have fO := blk_cell hO2 0
  have hR1 := Kd.R_set HR.out HL.out (by decide) 0 (.slice A7 l.length c7)
  have hR2 := Kd.R_set hR1 (blk_far HO.out (p := ⟨w.heap.size, 0, none⟩) (by show w.heap.size + 1 ≠ w.heap.size; omega) (.slice A7 l.length c7)) (by decide) 0 (.bool true)
  simp [Leaves, settle, results, Try.results20, go_sem, fL, fO]
  exact ⟨Kd.R_lower hR2 (by omega), below_set (below_set HB.out (Nat.le_refl _)) (by omega)⟩

/-! ### pq_parsePortalRowDescribe: function 70 -/
set_option maxHeartbeats 4000000 in
set_option maxRecDepth 100000 in
theorem pq_parsePortalRowDescribe.calls {tt : TypeId} (k g : Nat) (f0 : List Int) (cols : List PCol) (w0 w : World) (hI0 : IsRdT tt w0 w g f0) (hB0 : Below w0.heap.size w0 w) (h : decBody k f0 = some cols) :
    Calls Try.prog 70 #[.pointer (some ⟨g, 0, none⟩)] w fun e w' => ∃ g1 F1 g2 F2 g3 F3, e = .returned (.agg #[.slice (some ⟨g1, 0, none⟩) cols.length cols.length, .slice (some ⟨g2, 0, none⟩) cols.length cols.length, .slice (some ⟨g3, 0, none⟩) cols.length cols.length]) ∧ w'.heap[g1]? = some (.cells (tabl F1 cols.length) 9 (0, 0)) ∧ w'.heap[g2]? = some (.cells (tabl F2 (cols.length * 3)) 120 (0, 0)) ∧ w'.heap[g3]? = some (.cells (tabl F3 cols.length) 125 (0, 0)) ∧ (∀ j (hj : j < cols.length), F1 j = .string (cols[j]'hj).f0 ∧ F2 (j * 3) = .int .u32 (cols[j]'hj).f1 ∧ F2 (j * 3 + 1) = .int .i64 (cols[j]'hj).f2 ∧ F2 (j * 3 + 2) = .int .i64 (cols[j]'hj).f3 ∧ F3 j = .int .i64 (cols[j]'hj).f4) ∧ Below w0.heap.size w0 w' := by
  unfold decBody at h
  by_cases h2 : 2 ≤ f0.length ∧ 0 ≤ e16 f0
  case neg => rw [if_neg h2] at h; cases h
  rw [if_pos h2] at h
  obtain ⟨n, hn⟩ : ∃ n : Nat, e16 f0 = (n : Int) := ⟨(e16 f0).toNat, by have := h2.2; omega⟩
  rw [hn, Int.toNat_natCast] at h
  have hlen := decCols_len k n _ _ h
  have hby := hI0.bytes
  have hn2 : n ≤ 70000 := by have h0 := hby.rd 0; have h1 := hby.rd 1; have : rd f0 0 * 256 + rd f0 1 = (n : Int) := hn; omega
  have hmk1 := fun W => mk_run (P := Try.prog) 114 9 (.string ⟨#[]⟩) 1 16 Try.underlying114 (by kernel_rfl) (by omega) n (by omega) W
  simp only [Value.cells, Nat.mul_one] at hmk1
  have hmk3 := fun W => mk_run (P := Try.prog) 121 125 (.int .i64 0) 1 8 Try.underlying121 (by kernel_rfl) (by omega) n (by omega) W
  simp only [Value.cells, Nat.mul_one] at hmk3
  have hmk2 := fun W => mk_run (P := Try.prog) 115 120 (.agg #[.int .u32 0, .int .i64 0, .int .i64 0]) 3 24 Try.underlying115 (by kernel_rfl) (by omega) n (by omega) W
  simp only [Value.cells, Nat.mul_one] at hmk2
  obtain ⟨hl2, h0e⟩ := h2
  have HH := Aside0.mk h
  have HLN := Aside0.mk hlen
  have HN2 := Aside0.mk hn2
  have HGL := Aside0.mk hI0.lt
  have HG0 := Aside0.mk hI0.ge
  have HWW := Aside0.mk hB0.size
  obtain ⟨w00, hw00⟩ : ∃ w00, w00 = w.alloc (.cells #[.slice none 0 0, .slice none 0 0, .slice none 0 0] 123 (0, 0)) := ⟨_, rfl⟩
  have hH0 : w00.heap[w.heap.size]? = some (.cells #[.slice none 0 0, .slice none 0 0, .slice none 0 0] 123 (0, 0)) := by rw [hw00]; exact heap_alloc_new w _
  have hc := pq_readBuf_int16.calls g f0 w0 w00 (by rw [hw00]; exact hI0.alloc _) (by rw [hw00]; exact below_alloc hB0 _) hl2
  have HH0 := Aside0.mk hH0
  have HZ0 : Aside0 (w00.heap.size = w.heap.size + 1) := ⟨by rw [hw00]; simp⟩
  clear hH0
  subst hw00
  have HNN := Aside0.mk hn
  clear h hlen hn2 hI0 hB0 hl2 h0e hby hn
  go_enter Try.func70, Try.ntmps70
  go_wp2_with fail
  refine hc.mono ?_
  rintro e w1 ⟨rfl, hI1, hB1, hK1⟩
  rw [show (rd f0 0 * 256 + rd f0 1 : Int) = (n : Int) from HNN.out]
  have hH1 := hK1.blk HH0.out (by have := HGL.out; omega) (by simp)
  obtain ⟨V, hV⟩ : ∃ V, V = (((w1.alloc (.cells (madeCells #[.string ⟨#[]⟩] n) 9 (0, 0))).alloc (.cells (madeCells #[.int .i64 0] n) 125 (0, 0))).alloc (.cells (madeCells #[.int .u32 0, .int .i64 0, .int .i64 0] (n * 3)) 120 (0, 0))) := ⟨_, rfl⟩
  have hh1 : w.heap.size + 1 ≤ w1.heap.size := by have := hK1.1; rw [HZ0.out] at this; exact this
  have HH1 := Aside0.mk hh1
  have hszw : w.heap.size ≤ w1.heap.size := by omega
  clear hh1
  have hV1 : V.heap[w1.heap.size]? = some (.cells (madeCells #[.string ⟨#[]⟩] n) 9 (0, 0)) := by rw [hV]; exact blk_alloc (blk_alloc (by have := heap_alloc_new w1 (.cells (madeCells #[.string ⟨#[]⟩] n) 9 (0, 0)); first | exact this | simpa using this) _) _
  have hV3 : V.heap[w1.heap.size + 1]? = some (.cells (madeCells #[.int .i64 0] n) 125 (0, 0)) := by rw [hV]; exact blk_alloc (by have := heap_alloc_new (w1.alloc (.cells (madeCells #[.string ⟨#[]⟩] n) 9 (0, 0))) (.cells (madeCells #[.int .i64 0] n) 125 (0, 0)); first | exact this | simpa using this) _
  have hV2 : V.heap[w1.heap.size + 2]? = some (.cells (madeCells #[.int .u32 0, .int .i64 0, .int .i64 0] (n * 3)) 120 (0, 0)) := by rw [hV]; exact by have := heap_alloc_new ((w1.alloc (.cells (madeCells #[.string ⟨#[]⟩] n) 9 (0, 0))).alloc (.cells (madeCells #[.int .i64 0] n) 125 (0, 0))) (.cells (madeCells #[.int .u32 0, .int .i64 0, .int .i64 0] (n * 3)) 120 (0, 0)); first | exact this | simpa using this
  rw [tabl_made] at hV1
  rw [tabl_made] at hV3
  rw [tabl_made] at hV2
  have hIV : IsRdT tt w0 V g (f0.drop 2) := by rw [hV]; exact (((hI1.alloc _).alloc _).alloc _)
  have hBV : Below w0.heap.size w0 V := by rw [hV]; exact below_alloc (below_alloc (below_alloc (hB1) _) _) _
  have hHV : V.heap[w.heap.size]? = some (.cells #[.slice none 0 0, .slice none 0 0, .slice none 0 0] 123 (0, 0)) := by rw [hV]; exact blk_alloc (blk_alloc (blk_alloc (hH1) _) _) _
  obtain ⟨g1, hg1⟩ : ∃ g1, g1 = w1.heap.size := ⟨_, rfl⟩
  rw [← hg1] at hV1
  have HG1 := Aside0.mk hg1
  clear hg1
  obtain ⟨g3, hg3⟩ : ∃ g3, g3 = w1.heap.size + 1 := ⟨_, rfl⟩
  rw [← hg3] at hV3
  have HG3 := Aside0.mk hg3
  clear hg3
  obtain ⟨g2, hg2⟩ : ∃ g2, g2 = w1.heap.size + 2 := ⟨_, rfl⟩
  rw [← hg2] at hV2
  have HG2 := Aside0.mk hg2
  clear hg2
  have HSW := Aside0.mk hszw
  have HV1 := Aside0.mk hV1
  have HV3 := Aside0.mk hV3
  have HV2 := Aside0.mk hV2
  have HIV := Aside0.mk hIV
  have HBV := Aside0.mk hBV
  have HHV := Aside0.mk hHV
  clear hI1 hB1 hK1 hc hszw hIV hBV hV1 hV3 hV2 hHV hH1 HH0
  go_wp2_with fail
  rw [← HG2.out]
  rw [← HG3.out]
  rw [← HG1.out]
  rw [← hV]
  clear hV hmk1 hmk3 hmk2
  go_loopg [18] (n + 1) (fun kq v14 w' => ∃ (i : Nat) (f : List Int) (F1 F2 F3 : Nat → Value), v14 = .int .i64 (i : Int) ∧ Aside0 (i ≤ n) ∧ Aside0 (kq + i = n + 1) ∧ IsRdT tt w0 w' g f ∧ w'.heap[w.heap.size]? = some (.cells #[.slice none 0 0, .slice none 0 0, .slice none 0 0] 123 (0, 0)) ∧ w'.heap[g1]? = some (.cells (tabl F1 n) 9 (0, 0)) ∧ w'.heap[g2]? = some (.cells (tabl F2 (n * 3)) 120 (0, 0)) ∧ w'.heap[g3]? = some (.cells (tabl F3 n) 125 (0, 0)) ∧ Aside0 (∀ j (hj : j < cols.length), j < i → F1 j = .string (cols[j]'hj).f0 ∧ F2 (j * 3) = .int .u32 (cols[j]'hj).f1 ∧ F2 (j * 3 + 1) = .int .i64 (cols[j]'hj).f2 ∧ F2 (j * 3 + 2) = .int .i64 (cols[j]'hj).f3 ∧ F3 j = .int .i64 (cols[j]'hj).f4) ∧ Aside0 (decCols k (n - i) f = some (cols.drop i)) ∧ Below w0.heap.size w0 w')
  case atStart => exact ⟨0, _, _, _, _, rfl, ⟨Nat.zero_le _⟩, ⟨rfl⟩, HIV.out, HHV.out, HV1.out, HV2.out, HV3.out, ⟨fun j hj h0 => absurd h0 (Nat.not_lt_zero _)⟩, ⟨HH.out⟩, HBV.out⟩
  case round =>
    obtain ⟨i, f, F1, F2, F3, rfl, HI, HK, hI, hH, h1, h2, h3, HF, HD, hB⟩ := hrel
    clear HIV HBV HV1 HV2 HV3 HHV
    have hne : ∀ x, w1.heap.size ≤ x → g ≠ x := fun x hx => by have := HGL.out; have := HSW.out; omega
    have HNE := Aside0.mk hne
    clear hne
    by_cases ci : i < n
    · have c1 : ((i : Int) < (n : Int)) = True := eq_true (by omega)
      have c1b : decide ((i : Int) < (n : Int)) = true := decide_eq_true (by omega)
      have c2 : decide (0 ≤ (i : Int)) = true := decide_eq_true (by omega)
      obtain ⟨m, hm⟩ : ∃ m, n - i = m + 1 := ⟨n - i - 1, by omega⟩
      have hd := HD.out
      rw [hm, decCols] at hd
      obtain ⟨⟨c, fr⟩, hd1, hd⟩ := Option.bind_eq_some_iff.mp hd
      obtain ⟨l', hd2, hd⟩ := Option.bind_eq_some_iff.mp hd
      injection hd with hd
      have hil : i < cols.length := by rw [HLN.out]; exact ci
      rw [List.drop_eq_getElem_cons hil] at hd
      injection hd with hci hl'
      unfold decCol at hd1
      obtain ⟨j, hz, hd1⟩ := Option.bind_eq_some_iff.mp hd1
      by_cases hj : 0 ≤ j ∧ j.toNat + 19 ≤ f.length
      case neg => rw [if_neg hj] at hd1; cases hd1
      rw [if_pos hj] at hd1
      obtain ⟨q, rfl⟩ : ∃ q : Nat, j = (q : Int) := ⟨j.toNat, by omega⟩
      simp only [Int.toNat_natCast, Option.some.injEq, Prod.mk.injEq] at hd1 hj
      obtain ⟨hcc, hfr⟩ := hd1
      have hlen1 : (f.drop (q + 1)).length = f.length - (q + 1) := List.length_drop
      have HQ : Aside0 (q + 19 ≤ f.length) := ⟨hj.2⟩
      obtain ⟨f1, E1⟩ : ∃ x, Aside0 (f.drop (q + 1) = x) := ⟨_, ⟨rfl⟩⟩
      obtain ⟨f2, E2⟩ : ∃ x, Aside0 (f1.drop 6 = x) := ⟨_, ⟨rfl⟩⟩
      obtain ⟨f3, E3⟩ : ∃ x, Aside0 (f2.drop 4 = x) := ⟨_, ⟨rfl⟩⟩
      obtain ⟨f4, E4⟩ : ∃ x, Aside0 (f3.drop 2 = x) := ⟨_, ⟨rfl⟩⟩
      obtain ⟨f5, E5⟩ : ∃ x, Aside0 (f4.drop 4 = x) := ⟨_, ⟨rfl⟩⟩
      obtain ⟨f6, E6⟩ : ∃ x, Aside0 (f5.drop 2 = x) := ⟨_, ⟨rfl⟩⟩
      obtain ⟨sv, SV⟩ : ∃ x, Aside0 (strOfNums (f.take q) = x) := ⟨_, ⟨rfl⟩⟩
      obtain ⟨a2, A2⟩ : ∃ x, Aside0 (rd f2 0 * 16777216 + rd f2 1 * 65536 + rd f2 2 * 256 + rd f2 3 = x) := ⟨_, ⟨rfl⟩⟩
      obtain ⟨a3, A3⟩ : ∃ x, Aside0 (rd f3 0 * 256 + rd f3 1 = x) := ⟨_, ⟨rfl⟩⟩
      obtain ⟨a4, A4⟩ : ∃ x, Aside0 (IntKind.i32.wrap (rd f4 0 * 16777216 + rd f4 1 * 65536 + rd f4 2 * 256 + rd f4 3) = x) := ⟨_, ⟨rfl⟩⟩
      obtain ⟨a5, A5⟩ : ∃ x, Aside0 (rd f5 0 * 256 + rd f5 1 = x) := ⟨_, ⟨rfl⟩⟩
      have hs := pq_readBuf_string.calls g f k q w0 wr hI hB hz (by omega)
      have Z1 : Aside0 (18 ≤ f1.length) := ⟨by rw [← E1.out]; omega⟩
      have Z2 : Aside0 (12 ≤ f2.length) := ⟨by have := Z1.out; rw [← E2.out, List.length_drop]; omega⟩
      have Z3 : Aside0 (8 ≤ f3.length) := ⟨by have := Z2.out; rw [← E3.out, List.length_drop]; omega⟩
      have Z4 : Aside0 (6 ≤ f4.length) := ⟨by have := Z3.out; rw [← E4.out, List.length_drop]; omega⟩
      have Z5 : Aside0 (2 ≤ f5.length) := ⟨by have := Z4.out; rw [← E5.out, List.length_drop]; omega⟩
      rw [E1.out, E2.out, E3.out, E4.out, E5.out, SV.out] at hcc
      rw [E1.out, E2.out, E3.out, E4.out, E5.out, E6.out] at hfr
      have HC : Aside0 (cols[i]'hil = ⟨sv, a2, a3, a4, a5⟩) := ⟨by rw [← A2.out, ← A3.out, ← A4.out, ← A5.out]; exact (hcc.trans hci).symm⟩
      have HFR := Aside0.mk hfr
      have HD2 : Aside0 (decCols k m fr = some (cols.drop (i + 1))) := ⟨by rw [hd2, hl']⟩
      have HM := Aside0.mk hm
      clear hcc hfr hci hl' hd2 hd1 hd hm hj hz HD hI hB hlen1
      have K1 := Aside0.mk h1
      have K2 := Aside0.mk h2
      have K3 := Aside0.mk h3
      have KH := Aside0.mk hH
      clear h1 h2 h3 hH
      go_wp2_with fail
      refine hs.mono ?_
      clear hs
      rintro e x0 ⟨he, jI, jB, jK⟩
      rw [SV.out] at he
      subst he
      rw [E1.out] at jI
      have L1 := jK.blk K1.out (fun e => HNE.out g1 (by have := HG1.out; omega) e.symm) (by simp)
      have L2 := jK.blk K2.out (fun e => HNE.out g2 (by have := HG2.out; omega) e.symm) (by simp)
      have L3 := jK.blk K3.out (fun e => HNE.out g3 (by have := HG3.out; omega) e.symm) (by simp)
      have LH := jK.blk KH.out (by have := HGL.out; omega) (by simp)
      clear K1 K2 K3 KH jK
      have hx := tblk_cell L1 i (by omega)
      have hy := blk_frozen L1 i
      have jI0 := Aside0.mk (jI.far (p := ⟨g1, i, none⟩) (HNE.out g1 (by have := HG1.out; omega)) (.string sv))
      have jB0 := Aside0.mk (below_set (j := i) (v := (.string sv)) jB (show w0.heap.size ≤ g1 by have := HG1.out; have := HWW.out; have := HSW.out; omega))
      have K1 := Aside0.mk (tblk_set L1 i (.string sv))
      have K2 := Aside0.mk (blk_far L2 (p := ⟨g1, i, none⟩) (by show g2 ≠ g1; have := HG1.out; have := HG2.out; have := HG3.out; omega) (.string sv))
      have K3 := Aside0.mk (blk_far L3 (p := ⟨g1, i, none⟩) (by show g3 ≠ g1; have := HG1.out; have := HG2.out; have := HG3.out; omega) (.string sv))
      have KH := Aside0.mk (blk_far LH (p := ⟨g1, i, none⟩) (by show w.heap.size ≠ g1; have := HG1.out; have := HH1.out; omega) (.string sv))
      clear jI jB L1 L2 L3 LH
      go_wp2_with fail
      clear hx hy
      refine (pq_readBuf_next.calls g f1 6 w0 _ jI0.out jB0.out (by have := Z1.out; omega)).mono ?_
      rintro e x1 ⟨An1, cn1, rfl, _, _, jI, jB, jK⟩
      rw [E2.out] at jI
      have L1 := jK.blk K1.out (fun e => HNE.out g1 (by have := HG1.out; omega) e.symm) (by simp)
      have L2 := jK.blk K2.out (fun e => HNE.out g2 (by have := HG2.out; omega) e.symm) (by simp)
      have L3 := jK.blk K3.out (fun e => HNE.out g3 (by have := HG3.out; omega) e.symm) (by simp)
      have LH := jK.blk KH.out (by have := HGL.out; omega) (by simp)
      clear K1 K2 K3 KH jK
      have jI1 := Aside0.mk jI
      have jB1 := Aside0.mk jB
      have K1 := Aside0.mk L1
      have K2 := Aside0.mk L2
      have K3 := Aside0.mk L3
      have KH := Aside0.mk LH
      clear jI jB L1 L2 L3 LH
      go_wp2_with fail
      refine (pq_readBuf_oid.calls g f2 w0 _ jI1.out jB1.out (by have := Z2.out; omega)).mono ?_
      rintro e x2 ⟨he, jI, jB, jK⟩
      rw [A2.out] at he
      subst he
      rw [E3.out] at jI
      have L1 := jK.blk K1.out (fun e => HNE.out g1 (by have := HG1.out; omega) e.symm) (by simp)
      have L2 := jK.blk K2.out (fun e => HNE.out g2 (by have := HG2.out; omega) e.symm) (by simp)
      have L3 := jK.blk K3.out (fun e => HNE.out g3 (by have := HG3.out; omega) e.symm) (by simp)
      have LH := jK.blk KH.out (by have := HGL.out; omega) (by simp)
      clear K1 K2 K3 KH jK
      have hx := tblk_cell L2 (i * 3) (by omega)
      have hy := blk_frozen L2 (i * 3)
      have jI2 := Aside0.mk (jI.far (p := ⟨g2, (i * 3), none⟩) (HNE.out g2 (by have := HG2.out; omega)) (.int .u32 a2))
      have jB2 := Aside0.mk (below_set (j := (i * 3)) (v := (.int .u32 a2)) jB (show w0.heap.size ≤ g2 by have := HG2.out; have := HWW.out; have := HSW.out; omega))
      have K1 := Aside0.mk (blk_far L1 (p := ⟨g2, (i * 3), none⟩) (by show g1 ≠ g2; have := HG1.out; have := HG2.out; have := HG3.out; omega) (.int .u32 a2))
      have K2 := Aside0.mk (tblk_set L2 (i * 3) (.int .u32 a2))
      have K3 := Aside0.mk (blk_far L3 (p := ⟨g2, (i * 3), none⟩) (by show g3 ≠ g2; have := HG1.out; have := HG2.out; have := HG3.out; omega) (.int .u32 a2))
      have KH := Aside0.mk (blk_far LH (p := ⟨g2, (i * 3), none⟩) (by show w.heap.size ≠ g2; have := HG2.out; have := HH1.out; omega) (.int .u32 a2))
      clear jI jB L1 L2 L3 LH
      go_wp2_with fail
      clear hx hy
      refine (pq_readBuf_int16.calls g f3 w0 _ jI2.out jB2.out (by have := Z3.out; omega)).mono ?_
      rintro e x3 ⟨he, jI, jB, jK⟩
      rw [A3.out] at he
      subst he
      rw [E4.out] at jI
      have L1 := jK.blk K1.out (fun e => HNE.out g1 (by have := HG1.out; omega) e.symm) (by simp)
      have L2 := jK.blk K2.out (fun e => HNE.out g2 (by have := HG2.out; omega) e.symm) (by simp)
      have L3 := jK.blk K3.out (fun e => HNE.out g3 (by have := HG3.out; omega) e.symm) (by simp)
      have LH := jK.blk KH.out (by have := HGL.out; omega) (by simp)
      clear K1 K2 K3 KH jK
      have hx := tblk_cell L2 (i * 3 + 1) (by omega)
      have hy := blk_frozen L2 (i * 3 + 1)
      have jI3 := Aside0.mk (jI.far (p := ⟨g2, (i * 3 + 1), none⟩) (HNE.out g2 (by have := HG2.out; omega)) (.int .i64 a3))
      have jB3 := Aside0.mk (below_set (j := (i * 3 + 1)) (v := (.int .i64 a3)) jB (show w0.heap.size ≤ g2 by have := HG2.out; have := HWW.out; have := HSW.out; omega))
      have K1 := Aside0.mk (blk_far L1 (p := ⟨g2, (i * 3 + 1), none⟩) (by show g1 ≠ g2; have := HG1.out; have := HG2.out; have := HG3.out; omega) (.int .i64 a3))
      have K2 := Aside0.mk (tblk_set L2 (i * 3 + 1) (.int .i64 a3))
      have K3 := Aside0.mk (blk_far L3 (p := ⟨g2, (i * 3 + 1), none⟩) (by show g3 ≠ g2; have := HG1.out; have := HG2.out; have := HG3.out; omega) (.int .i64 a3))
      have KH := Aside0.mk (blk_far LH (p := ⟨g2, (i * 3 + 1), none⟩) (by show w.heap.size ≠ g2; have := HG2.out; have := HH1.out; omega) (.int .i64 a3))
      clear jI jB L1 L2 L3 LH
      go_wp2_with fail
      clear hx hy
      refine (pq_readBuf_int32.calls g f4 w0 _ jI3.out jB3.out (by have := Z4.out; omega)).mono ?_
      rintro e x4 ⟨he, jI, jB, jK⟩
      rw [A4.out] at he
      subst he
      rw [E5.out] at jI
      have L1 := jK.blk K1.out (fun e => HNE.out g1 (by have := HG1.out; omega) e.symm) (by simp)
      have L2 := jK.blk K2.out (fun e => HNE.out g2 (by have := HG2.out; omega) e.symm) (by simp)
      have L3 := jK.blk K3.out (fun e => HNE.out g3 (by have := HG3.out; omega) e.symm) (by simp)
      have LH := jK.blk KH.out (by have := HGL.out; omega) (by simp)
      clear K1 K2 K3 KH jK
      have hx := tblk_cell L2 (i * 3 + 2) (by omega)
      have hy := blk_frozen L2 (i * 3 + 2)
      have jI4 := Aside0.mk (jI.far (p := ⟨g2, (i * 3 + 2), none⟩) (HNE.out g2 (by have := HG2.out; omega)) (.int .i64 a4))
      have jB4 := Aside0.mk (below_set (j := (i * 3 + 2)) (v := (.int .i64 a4)) jB (show w0.heap.size ≤ g2 by have := HG2.out; have := HWW.out; have := HSW.out; omega))
      have K1 := Aside0.mk (blk_far L1 (p := ⟨g2, (i * 3 + 2), none⟩) (by show g1 ≠ g2; have := HG1.out; have := HG2.out; have := HG3.out; omega) (.int .i64 a4))
      have K2 := Aside0.mk (tblk_set L2 (i * 3 + 2) (.int .i64 a4))
      have K3 := Aside0.mk (blk_far L3 (p := ⟨g2, (i * 3 + 2), none⟩) (by show g3 ≠ g2; have := HG1.out; have := HG2.out; have := HG3.out; omega) (.int .i64 a4))
      have KH := Aside0.mk (blk_far LH (p := ⟨g2, (i * 3 + 2), none⟩) (by show w.heap.size ≠ g2; have := HG2.out; have := HH1.out; omega) (.int .i64 a4))
      clear jI jB L1 L2 L3 LH
      go_wp2_with fail
      clear hx hy
      refine (pq_readBuf_int16.calls g f5 w0 _ jI4.out jB4.out (by have := Z5.out; omega)).mono ?_
      rintro e x5 ⟨he, jI, jB, jK⟩
      rw [A5.out] at he
      subst he
      rw [E6.out] at jI
      have L1 := jK.blk K1.out (fun e => HNE.out g1 (by have := HG1.out; omega) e.symm) (by simp)
      have L2 := jK.blk K2.out (fun e => HNE.out g2 (by have := HG2.out; omega) e.symm) (by simp)
      have L3 := jK.blk K3.out (fun e => HNE.out g3 (by have := HG3.out; omega) e.symm) (by simp)
      have LH := jK.blk KH.out (by have := HGL.out; omega) (by simp)
      clear K1 K2 K3 KH jK
      have hx := tblk_cell L3 i (by omega)
      have hy := blk_frozen L3 i
      have jI5 := Aside0.mk (jI.far (p := ⟨g3, i, none⟩) (HNE.out g3 (by have := HG3.out; omega)) (.int .i64 a5))
      have jB5 := Aside0.mk (below_set (j := i) (v := (.int .i64 a5)) jB (show w0.heap.size ≤ g3 by have := HG3.out; have := HWW.out; have := HSW.out; omega))
      have K1 := Aside0.mk (blk_far L1 (p := ⟨g3, i, none⟩) (by show g1 ≠ g3; have := HG1.out; have := HG2.out; have := HG3.out; omega) (.int .i64 a5))
      have K2 := Aside0.mk (blk_far L2 (p := ⟨g3, i, none⟩) (by show g2 ≠ g3; have := HG1.out; have := HG2.out; have := HG3.out; omega) (.int .i64 a5))
      have K3 := Aside0.mk (tblk_set L3 i (.int .i64 a5))
      have KH := Aside0.mk (blk_far LH (p := ⟨g3, i, none⟩) (by show w.heap.size ≠ g3; have := HG3.out; have := HH1.out; omega) (.int .i64 a5))
      clear jI jB L1 L2 L3 LH
      go_wp2_with fail
      clear hx hy
      have hwr : wrap64 ((i : Int) + 1) = ((i + 1 : Nat) : Int) := by have := HN2.out; unfold wrap64; omega
      go_roundg (m + 1)
      case measure => have := HK.out; have := HM.out; omega
      case rel =>
        refine ⟨i + 1, _, _, _, _, by first | rw [hwr] | go_num, ⟨by omega⟩, ⟨by have := HK.out; have := HM.out; omega⟩, jI5.out, KH.out, K1.out, K2.out, K3.out, ⟨fun j hj hji => ?_⟩, ⟨by rw [show n - (i + 1) = m by have := HM.out; omega, ← HFR.out] at *; exact HD2.out⟩, jB5.out⟩
        by_cases e : j = i
        · subst e
          rw [HC.out]
          simp only [upd]
          refine ⟨by simp, by simp, by simp, by simp, by simp⟩
        · have h := HF.out j hj (by omega)
          simp only [upd]
          rw [if_neg e, if_neg (by omega), if_neg (by omega), if_neg (by omega), if_neg (by omega), if_neg (by omega), if_neg (by omega), if_neg (by omega), if_neg (by omega), if_neg (by omega)]
          try rw [if_neg e]
          exact h
    · have hie : i = n := by have := HI.out; omega
      subst hie
      clear HI HK HD
      have K1 := Aside0.mk h1
      have K2 := Aside0.mk h2
      have K3 := Aside0.mk h3
      have KH := Aside0.mk hH
      have HB := Aside0.mk hB
      clear hB hI ci h1 h2 h3 hH
      go_wp2_with (first | (refine wpList_store_row (hgd := ?h1) 123 (.tmp 2) (.tmp 55) ?h2 w.heap.size #[.slice (some ⟨g1, 0, none⟩) i i, .slice (some ⟨g2, 0, none⟩) i i, .slice (some ⟨g3, 0, none⟩) i i] ?h3 ?h4 123 _ KH.out ?h5 ?h6 ?h7 ?_; (case h2 => rfl); (case h1 => rfl); (case h3 => rfl); (case h4 => rfl); (case h5 => kernel_rfl); (case h6 => rfl); (case h7 => simp [Value.oneCell'])))
      have hl := HLN.out
      have hq1 : ∀ x, w1.heap.size ≤ x → x ≠ w.heap.size := fun x hx => by have := HH1.out; omega
      refine bodyPost_ret (results_cell_row (d := _) rfl _ _ w.heap.size 123 _ _ rfl (setRow_heap _ _ _ _ _ _ KH.out) Try.underlying123 rfl (by kernel_rfl)) rfl ?_
      refine ⟨g1, F1, g2, F2, g3, F3, by rw [hl], by rw [hl]; exact (setRow_other _ _ _ _ (hq1 _ (by have := HG1.out; omega))).trans K1.out, by rw [hl]; exact (setRow_other _ _ _ _ (hq1 _ (by have := HG2.out; omega))).trans K2.out, by rw [hl]; exact (setRow_other _ _ _ _ (hq1 _ (by have := HG3.out; omega))).trans K3.out, fun j hj => HF.out j hj (by omega), ?_⟩
      have hBl := HB.out
      exact ⟨hBl.os, hBl.tape, hBl.output, by have := hBl.size; simpa using this, fun x hx => (setRow_other _ _ _ _ (by have := HWW.out; omega)).trans (hBl.block x hx)⟩

/-! ### pq_PortalColumns: function 49 -/
set_option maxHeartbeats 4000000 in
set_option maxRecDepth 100000 in
theorem pq_PortalColumns.calls (k : Nat) (A : Option Addr) (c0 : Nat) (f : List Int) (cols : List PCol) (w : World) (hr : Kd.C (Kd.int .u8) w A f.length f) (hc : f.length ≤ c0) (hby : Bytes f) (h : decBody k f = some cols) (hcl : cols.length ≤ 70000) :
    Calls Try.prog 49 #[.slice A f.length c0] w fun e w' => ∃ v, e = .returned v ∧ Kd.R k113 113 w' w.heap.size (fun _ => True) v cols ∧ Below w.heap.size w w' := by
  have hu := Try.underlying100
  have hI : IsRdT 100 w (w.alloc (.cells #[.slice A f.length c0] 100 (0, 0))) w.heap.size f := ⟨A, c0, by simpa using heap_alloc_new w _, Nat.le_refl _, hc, hr, hby⟩
  have hB : Below w.heap.size w (w.alloc (.cells #[.slice A f.length c0] 100 (0, 0))) := below_alloc (Below.refl _ _) _
  have hp := pq_parsePortalRowDescribe.calls k w.heap.size f cols w _ hI hB h
  have HCL := Aside0.mk hcl
  clear hr hc hby h hI hB hcl
  go_enter Try.func49, Try.ntmps49
  go_wp2_with fail
  refine hp.mono ?_
  rintro e w1 ⟨g1, F1, g2, F2, g3, F3, rfl, h1, h2, h3, hF, hB1⟩
  have HF := Aside0.mk hF
  obtain ⟨V, hV⟩ : ∃ V, V = w1.alloc (.cells #[.slice (some ⟨g1, 0, none⟩) cols.length cols.length, .slice (some ⟨g2, 0, none⟩) cols.length cols.length, .slice (some ⟨g3, 0, none⟩) cols.length cols.length] 123 (0, 0)) := ⟨_, rfl⟩
  have hH : V.heap[w1.heap.size]? = some (.cells #[.slice (some ⟨g1, 0, none⟩) cols.length cols.length, .slice (some ⟨g2, 0, none⟩) cols.length cols.length, .slice (some ⟨g3, 0, none⟩) cols.length cols.length] 123 (0, 0)) := by rw [hV]; exact heap_alloc_new w1 _
  obtain ⟨hh, hhd⟩ : ∃ hh, hh = w1.heap.size := ⟨_, rfl⟩
  rw [← hhd] at hH
  have HHD := Aside0.mk hhd
  have hBV : Below w.heap.size w V := by rw [hV]; exact below_alloc hB1 _
  have H1 : Aside0 (V.heap[g1]? = some (.cells (tabl F1 cols.length) 9 (0, 0))) := ⟨by rw [hV]; exact blk_alloc h1 _⟩
  have H2 : Aside0 (V.heap[g2]? = some (.cells (tabl F2 (cols.length * 3)) 120 (0, 0))) := ⟨by rw [hV]; exact blk_alloc h2 _⟩
  have H3 : Aside0 (V.heap[g3]? = some (.cells (tabl F3 cols.length) 125 (0, 0))) := ⟨by rw [hV]; exact blk_alloc h3 _⟩
  have HH := Aside0.mk hH
  have HB1 := Aside0.mk hBV
  have x0 := blk_cell hH 0
  clear hp h1 h2 h3 hF hB1 hBV hH hhd
  go_wp2_with fail
  rw [← HHD.out, ← hV]
  clear hV x0
  go_loopg [2, 11] (cols.length + 1) (fun kq v2 v14 w' => ∃ i : Nat, v14 = .int .i64 (i : Int) ∧ Aside0 (i ≤ cols.length) ∧ Aside0 (kq + i = cols.length + 1) ∧ w'.heap[hh]? = some (.cells #[.slice (some ⟨g1, 0, none⟩) cols.length cols.length, .slice (some ⟨g2, 0, none⟩) cols.length cols.length, .slice (some ⟨g3, 0, none⟩) cols.length cols.length] 123 (0, 0)) ∧ w'.heap[g1]? = some (.cells (tabl F1 cols.length) 9 (0, 0)) ∧ w'.heap[g2]? = some (.cells (tabl F2 (cols.length * 3)) 120 (0, 0)) ∧ w'.heap[g3]? = some (.cells (tabl F3 cols.length) 125 (0, 0)) ∧ Aside0 (Kd.R k113 113 w' w.heap.size (fun _ => True) v2 (cols.take i)) ∧ Below w.heap.size w w')
  case atStart => exact ⟨0, rfl, ⟨Nat.zero_le _⟩, ⟨rfl⟩, HH.out, H1.out, H2.out, H3.out, ⟨Kd.R_nil _ _ _ _ _⟩, HB1.out⟩
  case round =>
    obtain ⟨i, rfl, HI, HK, hH, h1, h2, h3, HR, hB⟩ := hrel
    clear HB1 H1 H2 H3 HH
    by_cases ci : i < cols.length
    · have c1 : ((i : Int) < (cols.length : Int)) = True := eq_true (by omega)
      have c1b : decide ((i : Int) < (cols.length : Int)) = true := decide_eq_true (by omega)
      have c2 : decide (0 ≤ (i : Int)) = true := decide_eq_true (by omega)
      have hf := HF.out i ci
      have x1 := (tblk_cell h1 i ci).trans (congrArg some hf.1)
      have x2 := (tblk_cell h2 (i * 3) (by omega)).trans (congrArg some hf.2.1)
      have x3 := (tblk_cell h2 (i * 3 + 1) (by omega)).trans (congrArg some hf.2.2.1)
      have x4 := (tblk_cell h2 (i * 3 + 2) (by omega)).trans (congrArg some hf.2.2.2.1)
      have x5 := (tblk_cell h3 i ci).trans (congrArg some hf.2.2.2.2)
      obtain ⟨c, hcd⟩ : ∃ c, c = cols[i]'ci := ⟨_, rfl⟩
      rw [← hcd] at x1 x2 x3 x4 x5
      have HCD := Aside0.mk hcd
      have hll : (cols.take i).length = i := by rw [List.length_take]; omega
      have ht1 : ((cols.take i).length + 1) * 56 ≤ 140737488355328 := by rw [hll]; have := HCL.out; omega
      have htk : (cols.take (i + 1)) = (cols.take i) ++ [c] := by rw [hcd, List.take_succ_eq_append_getElem ci]
      have HTK := Aside0.mk htk
      have HT := Aside0.mk ht1
      have hwr : wrap64 ((i : Int) + 1) = ((i + 1 : Nat) : Int) := by have := HCL.out; unfold wrap64; omega
      have HRd := Aside0.mk (Kd.R_drew HR.out)
      have HBd := Aside0.mk (below_drew hB)
      have hsz := hB.size
      have HSZ : Aside0 (w.heap.size ≤ wr.drew.heap.size) := ⟨hsz⟩
      have B1 := Aside0.mk (show wr.drew.heap[g1]? = _ from h1)
      have E1 := Aside0.mk (Kd.R_ne HR.out h1 (by decide))
      have B2 := Aside0.mk (show wr.drew.heap[g2]? = _ from h2)
      have E2 := Aside0.mk (Kd.R_ne HR.out h2 (by decide))
      have B3 := Aside0.mk (show wr.drew.heap[g3]? = _ from h3)
      have E3 := Aside0.mk (Kd.R_ne HR.out h3 (by decide))
      have BH := Aside0.mk (show wr.drew.heap[hh]? = _ from hH)
      have EH := Aside0.mk (Kd.R_ne HR.out hH (by decide))
      have y0 := blk_cell hH 0
      have y1 := blk_cell hH 1
      have y2 := blk_cell hH 2
      have zx1 := fun o => (blk_cell (blk_alloc B1.out o) (i)).trans ((blk_cell B1.out (i)).symm.trans (show wr.drew.cell? ⟨g1, i, none⟩ = _ from x1))
      have zx2 := fun o => (blk_cell (blk_alloc B2.out o) (i * 3)).trans ((blk_cell B2.out (i * 3)).symm.trans (show wr.drew.cell? ⟨g2, i * 3, none⟩ = _ from x2))
      have zx3 := fun o => (blk_cell (blk_alloc B2.out o) (i * 3 + 1)).trans ((blk_cell B2.out (i * 3 + 1)).symm.trans (show wr.drew.cell? ⟨g2, i * 3 + 1, none⟩ = _ from x3))
      have zx4 := fun o => (blk_cell (blk_alloc B2.out o) (i * 3 + 2)).trans ((blk_cell B2.out (i * 3 + 2)).symm.trans (show wr.drew.cell? ⟨g2, i * 3 + 2, none⟩ = _ from x4))
      have zx5 := fun o => (blk_cell (blk_alloc B3.out o) (i)).trans ((blk_cell B3.out (i)).symm.trans (show wr.drew.cell? ⟨g3, i, none⟩ = _ from x5))
      have zy0 := fun o => (blk_cell (blk_alloc BH.out o) (0)).trans ((blk_cell BH.out (0)).symm.trans (show wr.drew.cell? ⟨hh, 0, none⟩ = _ from y0))
      have zy1 := fun o => (blk_cell (blk_alloc BH.out o) (1)).trans ((blk_cell BH.out (1)).symm.trans (show wr.drew.cell? ⟨hh, 1, none⟩ = _ from y1))
      have zy2 := fun o => (blk_cell (blk_alloc BH.out o) (2)).trans ((blk_cell BH.out (2)).symm.trans (show wr.drew.cell? ⟨hh, 2, none⟩ = _ from y2))
      have HB := Aside0.mk hB
      clear hB h1 h2 h3 hH hf hcd hll ht1 htk hsz
      go_wp2_with fail
      go_region_held3 (fun w' => w'.cell? ⟨g1, i, none⟩ = some (.string c.f0) ∧ w'.cell? ⟨g2, i * 3, none⟩ = some (.int .u32 c.f1) ∧ w'.cell? ⟨g2, i * 3 + 1, none⟩ = some (.int .i64 c.f2) ∧ w'.cell? ⟨g2, i * 3 + 2, none⟩ = some (.int .i64 c.f3) ∧ w'.cell? ⟨g3, i, none⟩ = some (.int .i64 c.f4) ∧ w'.cell? ⟨hh, 0, none⟩ = some (.slice (some ⟨g1, 0, none⟩) cols.length cols.length) ∧ w'.cell? ⟨hh, 1, none⟩ = some (.slice (some ⟨g2, 0, none⟩) cols.length cols.length) ∧ w'.cell? ⟨hh, 2, none⟩ = some (.slice (some ⟨g3, 0, none⟩) cols.length cols.length)) (first | exact ⟨x1, x2, x3, x4, x5, y0, y1, y2⟩ | exact ⟨zx1 _, zx2 _, zx3 _, zx4 _, zx5 _, zy0 _, zy1 _, zy2 _⟩ | exact ⟨tx1, tx2, tx3, tx4, tx5, ty0, ty1, ty2⟩)
        ((refine Kd.R_append_step k113 (w0 := w) (W := wr.drew) w.heap.size (by rfl) (.tmp 14) (.tmp 44) 86 113 (.agg #[.string ⟨#[]⟩, .int .u32 0, .int .i64 0, .int .i64 0, .int .i64 0]) 48 (by rfl) Try.underlying86 (by kernel_rfl) (by rfl) (by decide) (by omega) u2 (cols.take i) c [.string c.f0, .int .u32 c.f1, .int .i64 c.f2, .int .i64 c.f3, .int .i64 c.f4] (fun _ => True) (fun _ => False) (by rfl) (by first | (go_simp; done) | (go_simp; rfl)) (k113_mkM _ _ _ c) (fun _ hk => hk.elim) (fun _ _ => trivial) HRd.out HBd.out HSZ.out (by have := HT.out; omega) ?_; intro v1 w8 ho hb hg hat; have b1 := blk_grown B1.out hg E1.out; have b2 := blk_grown B2.out hg E2.out; have b3 := blk_grown B3.out hg E3.out; have bH := blk_grown BH.out hg EH.out; have tx1 := (blk_cell b1 (i)).trans ((blk_cell B1.out (i)).symm.trans (show wr.drew.cell? ⟨g1, i, none⟩ = _ from x1)); have tx2 := (blk_cell b2 (i * 3)).trans ((blk_cell B2.out (i * 3)).symm.trans (show wr.drew.cell? ⟨g2, i * 3, none⟩ = _ from x2)); have tx3 := (blk_cell b2 (i * 3 + 1)).trans ((blk_cell B2.out (i * 3 + 1)).symm.trans (show wr.drew.cell? ⟨g2, i * 3 + 1, none⟩ = _ from x3)); have tx4 := (blk_cell b2 (i * 3 + 2)).trans ((blk_cell B2.out (i * 3 + 2)).symm.trans (show wr.drew.cell? ⟨g2, i * 3 + 2, none⟩ = _ from x4)); have tx5 := (blk_cell b3 (i)).trans ((blk_cell B3.out (i)).symm.trans (show wr.drew.cell? ⟨g3, i, none⟩ = _ from x5)); have ty0 := (blk_cell bH (0)).trans ((blk_cell BH.out (0)).symm.trans (show wr.drew.cell? ⟨hh, 0, none⟩ = _ from y0)); have ty1 := (blk_cell bH (1)).trans ((blk_cell BH.out (1)).symm.trans (show wr.drew.cell? ⟨hh, 1, none⟩ = _ from y1)); have ty2 := (blk_cell bH (2)).trans ((blk_cell BH.out (2)).symm.trans (show wr.drew.cell? ⟨hh, 2, none⟩ = _ from y2))))
      go_wp2
      go_roundg (cols.length - i)
      case measure => have := HK.out; omega
      case rel => exact ⟨i + 1, by first | rw [hwr] | go_num, ⟨by omega⟩, ⟨by have := HK.out; omega⟩, bH, b1, b2, b3, ⟨by rw [HTK.out]; exact ho⟩, hb⟩
    · have hie : i = cols.length := by have := HI.out; omega
      subst hie
      have HR2 := HR.out
      rw [List.take_length] at HR2
      have HRR := Aside0.mk HR2
      have HB := Aside0.mk hB
      clear HI HK HR HR2 hB ci h1 h2 h3 hH
      go_wp2_with fail
      go_ret
      exact ⟨_, rfl, HRR.out, HB.out⟩

end Go.Proofs.Ythcikkjjegfblab.P
