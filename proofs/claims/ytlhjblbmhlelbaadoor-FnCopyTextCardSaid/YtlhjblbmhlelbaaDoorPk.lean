-- Written by the program wip/myprint.py of this session, over the kit's print of the translation. Lean checks it.
import Derived.Lib.SlBytesConst
import Derived.Test.YtlhjblbmhlelbaaDoorPx0
namespace Go.Proofs.YtlhjblbmhlelbaaDoor.P
open Go.RowKit Go.Proofs.YtlhjblbmhlelbaaDoorW.PrintWords Go.Proofs.YtlhjblbmhlelbaaDoorW.PrintLast Go.Proofs.YtlhjblbmhlelbaaDoorW.PrintMore
attribute [local go_sem] max2_int min2_int max_two min_two max_three min_three max_four min_four   -- for this text's walks alone
set_option linter.unusedVariables false
set_option linter.unusedSimpArgs false

/-! ### hex_EncodedLen: function 64 -/
def hex_EncodedLen.f (a0 : Int) : Option (Int) := some (wrap64 (a0 * 2))
set_option maxHeartbeats 8000000 in
set_option maxRecDepth 100000 in
theorem hex_EncodedLen.calls (a0 : Int) (r : Int) (w : World) (h : hex_EncodedLen.f a0 = some r) :
    Calls Tryd.prog 64 #[.int .i64 a0] w fun e w' => e = .returned (.int .i64 r) ∧ Drawn0 w w' := by
  have H : (some (wrap64 (a0 * 2))) = some r := h
  clear h
  obtain rfl := Option.some.inj H
  go_enter Tryd.func64, Tryd.ntmps64
  go_wp2
  go_ret
  exact ⟨by first | rfl | (simp; done) | (simp [*]; done), by repeat (first | exact Drawn0.refl _ | apply Drawn0.step)⟩

/-! ### spec_Hex: function 15 -/
/-- A row that the call owns, or the marked row that a constant's bytes lie in. -/
def MkR (e : Nat) (w : World) (base : Nat) (ok : Nat → Prop) (v : Value) (xs : List Int) : Prop := Kd.R (Kd.int .u8) e w base ok v xs ∨ (xs = [92, 120] ∧ ∃ g, v = .slice (some ⟨g, 0, none⟩) 2 2 ∧ base ≤ g ∧ ok g ∧ w.heap[g]? = some (.cells #[.int .u8 92, .int .u8 120] e (2, 3)))
theorem MkR.below {e : Nat} {w w1 : World} {base : Nat} {ok : Nat → Prop} {v : Value} {xs : List Int} (h : MkR e w base ok v xs) (hb : Below w.heap.size w w1) : MkR e w1 base ok v xs := by
  rcases h with h | ⟨rfl, g, rfl, hg, ho, hh⟩
  · exact .inl (Kd.R_below h hb)
  · exact .inr ⟨rfl, g, rfl, hg, ho, (hb.block g (blk_lt hh)).trans hh⟩
theorem MkR.lt {e : Nat} {w : World} {base : Nat} {ok : Nat → Prop} {v : Value} {xs : List Int} (h : MkR e w base ok v xs) : ∀ k, v.ownBlock = some k → k < w.heap.size := by
  rcases h with h | ⟨rfl, g, rfl, hg, ho, hh⟩
  · exact Kd.R_lt h
  · intro k hk
    have : g = k := by simpa [Value.ownBlock] using hk
    subst this
    exact blk_lt hh
theorem MkR.elder {e : Nat} {w w1 : World} {base : Nat} {ok : Nat → Prop} {u v : Value} {xs : List Int} (hu : MkR e w base ok u xs) (hbase : ∀ k, v.ownBlock = some k → w.heap.size ≤ k) (hb : Below w.heap.size w w1) : MkR e w1 base (fun k => ok k ∧ some k ≠ v.ownBlock) u xs := by
  rcases hu with h | ⟨rfl, g, rfl, hg, ho, hh⟩
  · exact .inl (Kd.R_elder' h hbase hb)
  · refine .inr ⟨rfl, g, rfl, hg, ⟨ho, fun he => ?_⟩, (hb.block g (blk_lt hh)).trans hh⟩
    have := hbase g he.symm
    have := blk_lt hh
    omega
theorem MkR.mono {e : Nat} {w : World} {base : Nat} {ok ok' : Nat → Prop} {v : Value} {xs : List Int} (h : MkR e w base ok v xs) (hok : ∀ k, ok k → ok' k) : MkR e w base ok' v xs := by
  rcases h with h | ⟨rfl, g, rfl, hg, ho, hh⟩
  · exact .inl (Kd.R_mono h hok)
  · exact .inr ⟨rfl, g, rfl, hg, hok g ho, hh⟩
theorem MkR.append {P : Program} {ops : Array Oper} {o : Oper} {a : Act} {Q : Exit → Act → World → Prop} {Kc : Act → World → Prop} {w0 W : World} (base : Nat) (hw : Region.wanted o (yielded ops a.tmps) = true) (s x : Operand) (t e : TypeId)
    (ho : o.op = .call { callee := .builtin .append, args := #[s, x], argTypes := #[t, t] })
    (ht : P.underlying t = some (.slice e)) (hinfo : (P.info? e).map (fun i => (i.zero, i.size, i.bytes)) = some (some (.int .u8 0), 1, 1))
    (v : Value) (xs ys : List Int) (A : Option Addr) (m c : Nat) (ok : Nat → Prop) (hs : a.eval s = v) (hx : a.eval x = .slice A m c)
    (HO : MkR e W base ok v xs) (HR : Kd.C (Kd.int .u8) W A m ys) (hm0 : 0 < m) (hfresh : ∀ k, W.heap.size ≤ k → ok k)
    (HB : Below base w0 W) (hbase : base ≤ W.heap.size) (hl : (xs.length + m) * 1 ≤ 140737488355328)
    (h : ∀ v1 w1, Kd.R (Kd.int .u8) e w1 base ok v1 (xs ++ ys) → Below base w0 w1 → W.grownBy w1 v.ownBlock → (v1.ownBlock = v.ownBlock ∨ ∃ b, v1.ownBlock = some b ∧ W.heap.size ≤ b) → Kc (a.put o.dst v1) w1) :
    if Region.wanted o (yielded ops a.tmps) = true then Oper.wp P o a W Kc Q else Kc (a.put o.dst undef) W := by
  rcases HO with HO | ⟨rfl, g, rfl, hg, hok, hh⟩
  · exact Kd.R_append_rows_step (Kd.int .u8) base hw s x t e (.int .u8 0) 1 ho ht hinfo rfl (by decide) (by omega) v xs ys A m c ok (fun _ => False) hs hx HO HR (fun _ _ h => h) (fun _ h => h.elim) hfresh HB hbase hl h
  · rw [if_pos hw]
    obtain ⟨i0, hi, hzz⟩ := Option.map_eq_some_iff.1 hinfo
    simp only [Prod.mk.injEq] at hzz
    obtain ⟨hz0, hz1, hz2⟩ := hzz
    have hR := Kd.reads_of_C (d := (0 : Int)) HR
    have hm : ys.length = m := hR.1
    obtain ⟨ad, rfl, hc⟩ := hR.2.2 hm0
    have holds : ∀ j u, [Value.int .u8 92, .int .u8 120][j]? = some u → W.cell? ((⟨g, 0, none⟩ : Addr).add j) = some u := by
      intro j u hu
      have e1 : (⟨g, 0, none⟩ : Addr).add j = ⟨g, j, none⟩ := by simp [Addr.add]; try omega
      rw [e1]
      simpa [World.cell?, hh] using hu
    have hnews : ∀ j u, (encs (Value.int .u8) ys)[j]? = some u → W.cell? (ad.add j) = some u := by
      intro j u hu
      have hj : j < ys.length := by
        rcases Nat.lt_or_ge j ys.length with h | h
        · exact h
        · simp [encs, List.getElem?_eq_none h] at hu
      rw [encs_get (d := (0 : Int)) ys j hj] at hu
      rw [← hu]
      exact hc j (by omega)
    obtain ⟨v', w', hrun, r1, r2⟩ := run_append_arg_grows (P := P) W t o.type e i0 (.int .u8 0) 1 1 ht hi hz0 hz1 hz2 rfl (by omega) ⟨g, 0, none⟩ 2 2 _ rfl holds ad m c (encs (Value.int .u8) ys) (by simp [encs, hm]) hnews (by omega) (by simp only [maxLen]; have := hl; simp at this; omega) (by simpa using hl)
    have hown : w'.ownsRow W.heap.size e 1 v' ([92, 120] ++ ys).length (encs (Value.int .u8) ([92, 120] ++ ys)) := by
      have e1 : ([92, 120] ++ ys : List Int).length = 2 + m := by simp only [List.length_append, List.length_cons, List.length_nil]; omega
      rw [e1]
      exact r1
    have hat : ∀ k, v'.ownBlock = some k → W.heap.size ≤ k := own_base hown
    unfold Oper.wp execOp
    simp only [ho, resolve, invoke, builtin, Sem.run_bind, Sem.run_pure, Result.andThen_ok, List.map_toArray, List.map_cons, List.map_nil, hs, hx, hrun]
    refine h v' w' (Kd.R_of_own (own_weaken hown hbase) (fun k hk => hfresh k (hat k hk))) (HB.grown (row := none) r2 hbase (by simp)) ?_ ?_
    · exact ⟨r2.os, r2.tape, r2.output, r2.size, fun k hk _ => r2.block k hk (by simp)⟩
    · rcases hown.2 with ⟨_, h0⟩ | ⟨g', cap', cur', e', _⟩
      · simp at h0
      · exact .inr ⟨g', by rw [e']; simp [Value.ownBlock], hat g' (by rw [e']; simp [Value.ownBlock])⟩
mutual
def spec_Hex.l0 : Nat → ByteArray → Bool → List Int → Int → Option (ByteArray)
  | 0, _, _, _, _ => none
  | k + 1, x0, x1, x5, x6 => if x6 < (x0.size : Int) then (if 0 ≤ x6 then (if 0 ≤ ((bt x0 x6) / 16) then (if ((bt x0 x6) / 16) < 16 then (if 0 ≤ (Go.bits .and .u8 (bt x0 x6) 15) then (if (Go.bits .and .u8 (bt x0 x6) 15) < 16 then ((some (([bt (⟨#[48, 49, 50, 51, 52, 53, 54, 55, 56, 57, 97, 98, 99, 100, 101, 102]⟩ : ByteArray) ((bt x0 x6) / 16), bt (⟨#[48, 49, 50, 51, 52, 53, 54, 55, 56, 57, 97, 98, 99, 100, 101, 102]⟩ : ByteArray) (Go.bits .and .u8 (bt x0 x6) 15)] : List Int) : List Int)).bind fun y104 => (if x5.length + y104.length < 140737488355328 then (spec_Hex.l0 k x0 x1 (x5 ++ y104) (wrap64 (x6 + 1))) else (none))) else (none)) else (none)) else (none)) else (none)) else (none)) else (spec_Hex.l1 k x1 x5 2)
def spec_Hex.l1 : Nat → Bool → List Int → Int → Option (ByteArray)
  | 0, _, _, _ => none
  | k + 1, x1, x5, x7 => if x7 < (x5.length : Int) then (spec_Hex.j2 k x1 x5 x7 x1) else (spec_Hex.j2 k x1 x5 x7 false)
def spec_Hex.j2 : Nat → Bool → List Int → Int → Bool → Option (ByteArray)
  | 0, _, _, _, _ => none
  | k + 1, x1, x5, x7, x35 => if x35 = true then (if 0 ≤ x7 then (if x7 < (x5.length : Int) then (if (rd x5 x7) ≥ 97 then (spec_Hex.l1 k x1 (x5.set (x7 : Int).toNat (((rd x5 x7) - 32) % 256)) (wrap64 (x7 + 1))) else (spec_Hex.l1 k x1 x5 (wrap64 (x7 + 1)))) else (none)) else (none)) else (some (strOfNums x5))
end
def spec_Hex.f (k : Nat) (a0 : ByteArray) (a1 : Bool) : Option (ByteArray) := spec_Hex.l0 k a0 a1 (([92, 120] : List Int)) 0
theorem spec_Hex.mono_l : ∀ k, (∀ y0 y1 y2 y3, LeO (spec_Hex.l0 k y0 y1 y2 y3) (spec_Hex.l0 (k + 1) y0 y1 y2 y3)) ∧ (∀ y0 y1 y2, LeO (spec_Hex.l1 k y0 y1 y2) (spec_Hex.l1 (k + 1) y0 y1 y2)) ∧ (∀ y0 y1 y2 y3, LeO (spec_Hex.j2 k y0 y1 y2 y3) (spec_Hex.j2 (k + 1) y0 y1 y2 y3))
  | 0 => ⟨fun _ _ _ _ r h => by simp [spec_Hex.l0] at h, fun _ _ _ r h => by simp [spec_Hex.l1] at h, fun _ _ _ _ r h => by simp [spec_Hex.j2] at h⟩
  | k + 1 => by
    obtain ⟨ih0, ih1, ih2⟩ := spec_Hex.mono_l k
    refine ⟨?_, ?_, ?_⟩
    · intro y0 y1 y2 y3
      unfold spec_Hex.l0
      repeat' first
      | (with_reducible exact ih0 _ _ _ _)
      | (with_reducible exact ih1 _ _ _)
      | (with_reducible exact ih2 _ _ _ _)
      | (with_reducible exact LeO.refl _)
      | (with_reducible exact LeO.none _)
      | (with_reducible refine LeO.ite ?_ ?_)
      | (with_reducible refine LeO.bind ?_ (fun _ => ?_))
      | exact ih0 _ _ _ _
      | exact ih1 _ _ _
      | exact ih2 _ _ _ _
      | exact LeO.none _
      | refine LeO.ite ?_ ?_
      | refine LeO.bind ?_ (fun _ => ?_)
    · intro y0 y1 y2
      unfold spec_Hex.l1
      repeat' first
      | (with_reducible exact ih0 _ _ _ _)
      | (with_reducible exact ih1 _ _ _)
      | (with_reducible exact ih2 _ _ _ _)
      | (with_reducible exact LeO.refl _)
      | (with_reducible exact LeO.none _)
      | (with_reducible refine LeO.ite ?_ ?_)
      | (with_reducible refine LeO.bind ?_ (fun _ => ?_))
      | exact ih0 _ _ _ _
      | exact ih1 _ _ _
      | exact ih2 _ _ _ _
      | exact LeO.none _
      | refine LeO.ite ?_ ?_
      | refine LeO.bind ?_ (fun _ => ?_)
    · intro y0 y1 y2 y3
      unfold spec_Hex.j2
      repeat' first
      | (with_reducible exact ih0 _ _ _ _)
      | (with_reducible exact ih1 _ _ _)
      | (with_reducible exact ih2 _ _ _ _)
      | (with_reducible exact LeO.refl _)
      | (with_reducible exact LeO.none _)
      | (with_reducible refine LeO.ite ?_ ?_)
      | (with_reducible refine LeO.bind ?_ (fun _ => ?_))
      | exact ih0 _ _ _ _
      | exact ih1 _ _ _
      | exact ih2 _ _ _ _
      | exact LeO.none _
      | refine LeO.ite ?_ ?_
      | refine LeO.bind ?_ (fun _ => ?_)
theorem spec_Hex.mono : ∀ a0 a1 k, LeO (spec_Hex.f k a0 a1) (spec_Hex.f (k + 1) a0 a1) := by
  intro a0 a1 k
  obtain ⟨ih0, ih1, ih2⟩ := spec_Hex.mono_l k
  unfold spec_Hex.f
  repeat' first
      | (with_reducible exact ih0 _ _ _ _)
      | (with_reducible exact ih1 _ _ _)
      | (with_reducible exact ih2 _ _ _ _)
      | (with_reducible exact LeO.refl _)
      | (with_reducible exact LeO.none _)
      | (with_reducible refine LeO.ite ?_ ?_)
      | (with_reducible refine LeO.bind ?_ (fun _ => ?_))
      | exact ih0 _ _ _ _
      | exact ih1 _ _ _
      | exact ih2 _ _ _ _
      | exact LeO.none _
      | refine LeO.ite ?_ ?_
      | refine LeO.bind ?_ (fun _ => ?_)
def spec_Hex.T5 : Bool × List (List Nat × List Nat) := (true, [([], []), ([], []), ([], []), ([1, 2], [1, 2]), ([3], [3]), ([4], [4]), ([], []), ([], []), ([6, 7], [6, 7]), ([8], [8]), ([9], [9]), ([5, 10], [5, 10]), ([0, 11], [0, 11]), ([12, 12, 0, 1, 2, 3, 4, 5, 6, 7, 8, 9, 10, 11, 12], [0, 12])])
def spec_Hex.B5 : List Nat := [0, 0, 0, 6, 14, 30, 0, 0, 192, 448, 960, 2046, 4095, 8191]
theorem spec_Hex.tab5 : rtab .any (opsOf Tryd.f15 5) = spec_Hex.T5 := by kernel_rfl
theorem spec_Hex.bits5 : waitsOk spec_Hex.T5.2 spec_Hex.B5 = true := by kernel_rfl
set_option maxHeartbeats 8000000 in
set_option maxRecDepth 100000 in
theorem spec_Hex.calls (k : Nat) (a0 : ByteArray) (a1 : Bool) (r : ByteArray) (w : World) (h : spec_Hex.f k a0 a1 = some r) :
    Calls Tryd.prog 15 #[.string a0, .bool a1] w fun e w' => e = .returned (.string r) ∧ Below w.heap.size w w' := by
  have HB := Aside0.mk (Below.refl w.heap.size w)
  have kc := fun (W : World) (C : Array Value) (n c : Nat) => Lib.run_convert_bytes_const (P := Tryd.prog) W 47 5 C n c Tryd.underlying47 Tryd.underlying5
  have H : (spec_Hex.l0 k a0 a1 (([92, 120] : List Int)) 0) = some r := h
  clear h
  obtain ⟨y101, hy101⟩ : ∃ y_ : List Int, y_ = (([92, 120] : List Int)) := ⟨_, rfl⟩
  replace H : (spec_Hex.l0 k a0 a1 y101 0) = some r := by first | (rw [hy101]; with_reducible exact H) | (have H2_ := (Option.bind_some _ _).symm.trans H; rw [hy101]; with_reducible exact H2_) | (have H2_ := (Option.bind_some _ _).symm.trans H; with_reducible exact H2_) | with_reducible exact H | (rw [hy101]; exact H) | exact H
  have Ny101 := Aside0.mk hy101
  clear hy101
  have H' := Aside0.mk H
  clear H
  go_enter Tryd.func15, Tryd.ntmps15
  go_wp2_with fail
  go_loopg [5, 6] k (fun kq v5 v6 w' => ∃ (x5_1 : List Int) (x6_1 : Int), v6 = .int .i64 x6_1 ∧ Aside0 (spec_Hex.l0 kq a0 a1 x5_1 x6_1 = some r) ∧ Aside0 (kq ≤ k) ∧ Aside0 (MkR 5 w' w.heap.size (fun _ => True) v5 x5_1) ∧ Aside0 (Below w.heap.size w w'))
  case atStart => exact ⟨y101, 0, rfl, H', ⟨Nat.le_refl _⟩, ⟨.inr ⟨Ny101.out, w.heap.size, rfl, Nat.le_refl _, trivial, heap_alloc_new _ _⟩⟩, ⟨below_alloc (Below.refl _ _) _⟩⟩
  case round =>
    clear H'
    try clear p2
    obtain ⟨x5_1, x6_1, rfl, HA, HK1, HO_5, HB⟩ := hrel
    cases gk with
    | zero => exact absurd HA.out (by simp [spec_Hex.l0])
    | succ k1 =>
      have H := HA.out
      clear HA
      simp only [spec_Hex.l0] at H
      by_cases c5 : x6_1 < (a0.size : Int)
      · rw [if_pos c5] at H
        have c5b0 : decide (x6_1 < (a0.size : Int)) = true := decide_eq_true c5
        clear c5
        by_cases c6 : 0 ≤ x6_1
        · rw [if_pos c6] at H
          have c6b0 : decide (0 ≤ x6_1) = true := decide_eq_true c6
          clear c6
          obtain ⟨ji8, hji8⟩ : ∃ j_ : Int, ((bt a0 x6_1) / 16) = j_ := ⟨_, rfl⟩
          replace H : (if 0 ≤ (ji8) then (if (ji8) < 16 then (if 0 ≤ (Go.bits .and .u8 (bt a0 x6_1) 15) then (if (Go.bits .and .u8 (bt a0 x6_1) 15) < 16 then ((some (([bt (⟨#[48, 49, 50, 51, 52, 53, 54, 55, 56, 57, 97, 98, 99, 100, 101, 102]⟩ : ByteArray) (ji8), bt (⟨#[48, 49, 50, 51, 52, 53, 54, 55, 56, 57, 97, 98, 99, 100, 101, 102]⟩ : ByteArray) (Go.bits .and .u8 (bt a0 x6_1) 15)] : List Int) : List Int)).bind fun y104 => (if x5_1.length + y104.length < 140737488355328 then (spec_Hex.l0 k1 a0 a1 (x5_1 ++ y104) (wrap64 (x6_1 + 1))) else (none))) else (none)) else (none)) else (none)) else (none)) = some r := by first | (rw [hji8] at H; exact H) | (simp only [hji8] at H ⊢; exact H)
          by_cases c9 : 0 ≤ (ji8)
          · rw [if_pos c9] at H
            have c9b0 : decide (0 ≤ (ji8)) = true := decide_eq_true c9
            clear c9
            by_cases c10 : (ji8) < 16
            · rw [if_pos c10] at H
              have c10b0 : decide ((ji8) < 16) = true := decide_eq_true c10
              clear c10
              by_cases c13 : 0 ≤ (Go.bits .and .u8 (bt a0 x6_1) 15)
              · rw [if_pos c13] at H
                have c13b0 : decide (0 ≤ (Go.bits .and .u8 (bt a0 x6_1) 15)) = true := decide_eq_true c13
                clear c13
                by_cases c14 : (Go.bits .and .u8 (bt a0 x6_1) 15) < 16
                · rw [if_pos c14] at H
                  have c14b0 : decide ((Go.bits .and .u8 (bt a0 x6_1) 15) < 16) = true := decide_eq_true c14
                  clear c14
                  obtain ⟨y104, hy104⟩ : ∃ y_ : List Int, y_ = (([bt (⟨#[48, 49, 50, 51, 52, 53, 54, 55, 56, 57, 97, 98, 99, 100, 101, 102]⟩ : ByteArray) (ji8), bt (⟨#[48, 49, 50, 51, 52, 53, 54, 55, 56, 57, 97, 98, 99, 100, 101, 102]⟩ : ByteArray) (Go.bits .and .u8 (bt a0 x6_1) 15)] : List Int)) := ⟨_, rfl⟩
                  replace H : (if x5_1.length + y104.length < 140737488355328 then (spec_Hex.l0 k1 a0 a1 (x5_1 ++ y104) (wrap64 (x6_1 + 1))) else (none)) = some r := by first | (rw [hy104]; with_reducible exact H) | (have H2_ := (Option.bind_some _ _).symm.trans H; rw [hy104]; with_reducible exact H2_) | (have H2_ := (Option.bind_some _ _).symm.trans H; with_reducible exact H2_) | with_reducible exact H | (rw [hy104]; exact H) | exact H
                  have Ny104 := Aside0.mk hy104
                  clear hy104
                  by_cases c16 : x5_1.length + y104.length < 140737488355328
                  · rw [if_pos c16] at H
                    have LMc16 := Aside0.mk c16
                    clear c16
                    obtain ⟨y107, hy107⟩ : ∃ y_ : List Int, y_ = (x5_1 ++ y104) := ⟨_, rfl⟩
                    replace H : (spec_Hex.l0 k1 a0 a1 y107 (wrap64 (x6_1 + 1))) = some r := by first | (rw [hy107]; with_reducible exact H) | (have H2_ := (Option.bind_some _ _).symm.trans H; rw [hy107]; with_reducible exact H2_) | (have H2_ := (Option.bind_some _ _).symm.trans H; with_reducible exact H2_) | with_reducible exact H | (rw [hy107]; exact H) | exact H
                    have Ny107 := Aside0.mk hy107
                    clear hy107
                    have H' := Aside0.mk H
                    clear H
                    try go_wp2
                    have n0_ := Aside0.mk (HO_5.out.below (below_drew1 (Below.refl _ _)))
                    have n1_ := Aside0.mk (below_drew1 HB.out)
                    clear HO_5
                    clear HB
                    have HO_5 := n0_
                    have HB := n1_
                    clear n0_ n1_
                    have p7 : 0 ≤ (x6_1 : Int) := of_decide_eq_true (by first | (with_reducible assumption) | assumption)
                    have q7 : x6_1 < (a0.size : Int) := of_decide_eq_true (by first | (with_reducible assumption) | assumption)
                    have hx7 := bt_at a0 x6_1
                    replace p7 := eq_true p7
                    replace q7 := eq_true q7
                    have p11 : 0 ≤ ((ji8) : Int) := of_decide_eq_true (by first | (with_reducible assumption) | assumption)
                    have q11 : (ji8) < (16 : Int) := of_decide_eq_true (by first | (with_reducible assumption) | assumption)
                    have hx11 := bt_at (⟨#[48, 49, 50, 51, 52, 53, 54, 55, 56, 57, 97, 98, 99, 100, 101, 102]⟩ : ByteArray) (ji8)
                    replace p11 := eq_true p11
                    replace q11 := eq_true q11
                    have p12 : 0 ≤ (x6_1 : Int) := of_decide_eq_true (by first | (with_reducible assumption) | assumption)
                    have q12 : x6_1 < (a0.size : Int) := of_decide_eq_true (by first | (with_reducible assumption) | assumption)
                    have hx12 := bt_at a0 x6_1
                    replace p12 := eq_true p12
                    replace q12 := eq_true q12
                    have p15 : 0 ≤ ((Go.bits .and .u8 (bt a0 x6_1) 15) : Int) := of_decide_eq_true (by first | (with_reducible assumption) | assumption)
                    have q15 : (Go.bits .and .u8 (bt a0 x6_1) 15) < (16 : Int) := of_decide_eq_true (by first | (with_reducible assumption) | assumption)
                    have hx15 := bt_at (⟨#[48, 49, 50, 51, 52, 53, 54, 55, 56, 57, 97, 98, 99, 100, 101, 102]⟩ : ByteArray) (Go.bits .and .u8 (bt a0 x6_1) 15)
                    replace p15 := eq_true p15
                    replace q15 := eq_true q15
                    refine start_ (n := 14) (S := fun w' => True) (ds := []) #[false, false, false, false, false, false, false, false, false, false, false, false, false, false] (by kernel_rfl) rfl rfl trivial (fun hHeld => ?_); refine with_tabW spec_Hex.tab5 spec_Hex.bits5 (fun HT_ HW_ => ?_)
                    generalize wr.drew = w17 at HO_5 HB hHeld ⊢
                    refine pure_ (i := 0) (N := some 16) (v := ?_) (a' := ?_) #[true, false, false, false, false, false, false, false, false, false, false, false, false, false] rfl rfl (any_of HT_.out (by kernel_rfl)) (fun _ _ _ h => h) (Or.inl ⟨by rfl, ?_⟩) ?_ ?_
                    rotate_left
                    · intro w'
                      go_simp
                      with_reducible rfl
                    rotate_left
                    · simp only [Act.put, List.setIfInBounds_toArray, List.set_cons_zero, List.set_cons_succ, i64_w, i32_w]
                      rfl
                    refine pure_ (i := 1) (N := some 17) (v := ?_) (a' := ?_) #[true, true, false, false, false, false, false, false, false, false, false, false, false, false] rfl rfl (any_of HT_.out (by kernel_rfl)) (fun _ _ _ h => h) (Or.inl ⟨by rfl, ?_⟩) ?_ ?_
                    rotate_left
                    · intro w'
                      go_simp
                      with_reducible rfl
                    rotate_left
                    · simp only [Act.put, List.setIfInBounds_toArray, List.set_cons_zero, List.set_cons_succ, i64_w, i32_w]
                      rfl
                    refine pure_ (i := 2) (N := some 18) (v := ?_) (a' := ?_) #[true, true, true, false, false, false, false, false, false, false, false, false, false, false] rfl rfl (any_of HT_.out (by kernel_rfl)) (fun _ _ _ h => h) (Or.inl ⟨by rfl, ?_⟩) ?_ ?_
                    rotate_left
                    · intro w'
                      go_simp
                      with_reducible rfl
                    rotate_left
                    · simp only [Act.put, List.setIfInBounds_toArray, List.set_cons_zero, List.set_cons_succ, i64_w, i32_w]
                      rfl
                    refine pure_ (i := 6) (N := some 22) (v := ?_) (a' := ?_) #[true, true, true, false, false, false, true, false, false, false, false, false, false, false] rfl rfl (any_of HT_.out (by kernel_rfl)) (fun _ _ _ h => h) (Or.inl ⟨by rfl, ?_⟩) ?_ ?_
                    rotate_left
                    · intro w'
                      go_simp
                      with_reducible rfl
                    rotate_left
                    · simp only [Act.put, List.setIfInBounds_toArray, List.set_cons_zero, List.set_cons_succ, i64_w, i32_w]
                      rfl
                    refine pure_ (i := 7) (N := some 23) (v := ?_) (a' := ?_) #[true, true, true, false, false, false, true, true, false, false, false, false, false, false] rfl rfl (any_of HT_.out (by kernel_rfl)) (fun _ _ _ h => h) (Or.inl ⟨by rfl, ?_⟩) ?_ ?_
                    rotate_left
                    · intro w'
                      go_simp
                      with_reducible rfl
                    rotate_left
                    · simp only [Act.put, List.setIfInBounds_toArray, List.set_cons_zero, List.set_cons_succ, i64_w, i32_w]
                      rfl
                    refine take_ (i := 3) (N := some 19) (v := ?_) (a' := ?_) #[true, true, true, true, false, false, true, true, false, false, false, false, false, false] rfl rfl (take_ofW HT_.out HW_.out (by kernel_rfl)) (fun _ _ _ h => h) (Or.inl ⟨by rfl, ?_⟩) hHeld ?_ ?_
                    rotate_left
                    · intro w' _
                      go_simp
                      with_reducible rfl
                    rotate_left
                    · simp only [Act.put, List.setIfInBounds_toArray, List.set_cons_zero, List.set_cons_succ, i64_w, i32_w]
                      rfl
                    refine pure_ (i := 4) (N := some 20) (v := ?_) (a' := ?_) #[true, true, true, true, true, false, true, true, false, false, false, false, false, false] rfl rfl (any_of HT_.out (by kernel_rfl)) (fun _ _ _ h => h) (Or.inl ⟨by rfl, ?_⟩) ?_ ?_
                    rotate_left
                    · intro w'
                      go_simp
                      with_reducible rfl
                    rotate_left
                    · simp only [Act.put, List.setIfInBounds_toArray, List.set_cons_zero, List.set_cons_succ, i64_w, i32_w]
                      rfl
                    refine take_ (i := 5) (N := some 21) (v := ?_) (a' := ?_) #[true, true, true, true, true, true, true, true, false, false, false, false, false, false] rfl rfl (take_ofW HT_.out HW_.out (by kernel_rfl)) (fun _ _ _ h => h) (Or.inl ⟨by rfl, ?_⟩) hHeld ?_ ?_
                    rotate_left
                    · intro w' _
                      go_simp
                      with_reducible rfl
                    rotate_left
                    · simp only [Act.put, List.setIfInBounds_toArray, List.set_cons_zero, List.set_cons_succ, i64_w, i32_w]
                      rfl
                    refine take_ (i := 8) (N := some 24) (v := ?_) (a' := ?_) #[true, true, true, true, true, true, true, true, true, false, false, false, false, false] rfl rfl (take_ofW HT_.out HW_.out (by kernel_rfl)) (fun _ _ _ h => h) (Or.inl ⟨by rfl, ?_⟩) hHeld ?_ ?_
                    rotate_left
                    · intro w' _
                      go_simp
                      with_reducible rfl
                    rotate_left
                    · simp only [Act.put, List.setIfInBounds_toArray, List.set_cons_zero, List.set_cons_succ, i64_w, i32_w]
                      rfl
                    refine pure_ (i := 9) (N := some 25) (v := ?_) (a' := ?_) #[true, true, true, true, true, true, true, true, true, true, false, false, false, false] rfl rfl (any_of HT_.out (by kernel_rfl)) (fun _ _ _ h => h) (Or.inl ⟨by rfl, ?_⟩) ?_ ?_
                    rotate_left
                    · intro w'
                      go_simp
                      with_reducible rfl
                    rotate_left
                    · simp only [Act.put, List.setIfInBounds_toArray, List.set_cons_zero, List.set_cons_succ, i64_w, i32_w]
                      rfl
                    refine take_ (i := 10) (N := some 26) (v := ?_) (a' := ?_) #[true, true, true, true, true, true, true, true, true, true, true, false, false, false] rfl rfl (take_ofW HT_.out HW_.out (by kernel_rfl)) (fun _ _ _ h => h) (Or.inl ⟨by rfl, ?_⟩) hHeld ?_ ?_
                    rotate_left
                    · intro w' _
                      go_simp
                      with_reducible rfl
                    rotate_left
                    · simp only [Act.put, List.setIfInBounds_toArray, List.set_cons_zero, List.set_cons_succ, i64_w, i32_w]
                      rfl
                    refine one_ (i := 11) (N := some 27) #[true, true, true, true, true, true, true, true, true, true, true, true, false, false] rfl rfl (one_of HT_.out (by kernel_rfl)) (by decide) (fun K hK => ?_)
                    refine Kd.R_lit_step (Kd.int .u8) _ 5 ?hg (N := 27) ?hd (xs := ([bt (⟨#[48, 49, 50, 51, 52, 53, 54, 55, 56, 57, 97, 98, 99, 100, 101, 102]⟩ : ByteArray) (ji8), bt (⟨#[48, 49, 50, 51, 52, 53, 54, 55, 56, 57, 97, 98, 99, 100, 101, 102]⟩ : ByteArray) (Go.bits .and .u8 (bt a0 x6_1) 15)] : List Int)) (inner := [.int .u8 (bt (⟨#[48, 49, 50, 51, 52, 53, 54, 55, 56, 57, 97, 98, 99, 100, 101, 102]⟩ : ByteArray) (ji8)), .int .u8 (bt (⟨#[48, 49, 50, 51, 52, 53, 54, 55, 56, 57, 97, 98, 99, 100, 101, 102]⟩ : ByteArray) (Go.bits .and .u8 (bt a0 x6_1) 15))]) (ok := fun _ => True) (okp := fun _ => True) ?hr ?hp (fun _ hk => hk) trivial (Below.refl _ _) (Nat.le_refl _) (by simp) ?_; (case hd => rfl); (case hg => rfl); (case hr => first | (go_simp; done) | (go_simp; rfl) | (go_simp; simp [IntKind.wrap_u8]; done)); (case hp => exact (Reps.one (show Kd.M (Kd.int .u8) _ _ _ (bt (⟨#[48, 49, 50, 51, 52, 53, 54, 55, 56, 57, 97, 98, 99, 100, 101, 102]⟩ : ByteArray) (ji8)) [.int .u8 (bt (⟨#[48, 49, 50, 51, 52, 53, 54, 55, 56, 57, 97, 98, 99, 100, 101, 102]⟩ : ByteArray) (ji8))] from rfl) (Reps.one (show Kd.M (Kd.int .u8) _ _ _ (bt (⟨#[48, 49, 50, 51, 52, 53, 54, 55, 56, 57, 97, 98, 99, 100, 101, 102]⟩ : ByteArray) (Go.bits .and .u8 (bt a0 x6_1) 15)) [.int .u8 (bt (⟨#[48, 49, 50, 51, 52, 53, 54, 55, 56, 57, 97, 98, 99, 100, 101, 102]⟩ : ByteArray) (Go.bits .and .u8 (bt a0 x6_1) 15))] from rfl) (Reps.none _ _))))
                    intro v105 w18 ho19 hb hg_ hnew_
                    clear hg_ hnew_
                    (first | rw [← Ny104.out] at ho19 | (simp only [Int.reduceToNat] at ho19; rw [← Ny104.out] at ho19))
                    have n0_ := Aside0.mk (MkR.elder HO_5.out (Kd.R_base ho19) hb)
                    have n1_ := Aside0.mk (Kd.R_lower (Kd.R_new' ho19 (MkR.lt HO_5.out)) (below_size (by repeat (first | (with_reducible first | exact HB.out | apply below_alloc | apply pw_below_drewN | apply below_drew1) | exact HB.out))))
                    have n2_ := Aside0.mk (below_step (by repeat (first | (with_reducible first | exact HB.out | apply below_alloc | apply pw_below_drewN | apply below_drew1) | exact HB.out)) hb)
                    clear HO_5
                    clear HB
                    have HO_5 := n0_
                    have HO106 := n1_
                    have HB := n2_
                    clear n0_ n1_ n2_
                    clear hb ho19
                    obtain ⟨Ao21, co21, eo21⟩ := Kd.R_slice HO106.out
                    (first | subst eo21 | (injection eo21 with f1_ f2_ f3_; have f4_ := f1_.symm; have f5_ := f3_.symm; clear f1_ f2_ f3_; subst f4_; subst f5_))
                    refine hK.out _ _ trivial (fun hHeld => ?_)
                    clear hK K
                    refine norm_ (a' := ?_) ?_ ?_
                    rotate_left
                    · show Act.put _ (some 27) _ = _
                      simp only [Act.put, List.setIfInBounds_toArray, List.set_cons_zero, List.set_cons_succ, i64_w, i32_w]
                      rfl
                    refine one_ (i := 12) (N := some 28) #[true, true, true, true, true, true, true, true, true, true, true, true, true, false] rfl rfl (one_of HT_.out (by kernel_rfl)) (by decide) (fun K hK => ?_)
                    refine MkR.append (w0 := w) w.heap.size (by rfl) (.tmp 16) (.tmp 27) 47 5 rfl Tryd.underlying47 info5 u5 x5_1 y104 _ _ _ (fun k_ => some k_ ≠ (.slice Ao21 y104.length co21 : Value).ownBlock) rfl rfl ?aO ?aR ?aM ?aF ?aB ?aS ?aL ?_
                    (case aM => rw [Ny104.out]; exact Nat.succ_pos _)
                    (case aR => repeat (first | exact (Kd.R_reads' HO106.out).2.2 | (with_reducible refine Kd.C_alloc ?_ _) | (with_reducible refine Kd.C_drewN ?_ _) | (with_reducible refine Kd.C_drew ?_)))
                    (case aB => exact (by repeat (first | (with_reducible first | exact HB.out | apply below_alloc | apply pw_below_drewN | apply below_drew1) | exact HB.out)))
                    (case aF => exact (fun k_ hk => Kd.fresh' (Kd.R_lt (by (with_reducible repeat (first | apply Kd.R_alloc | apply Kd.R_drewN | apply Kd.R_drew)); exact HO106.out)) k_ hk))
                    (case aO => exact MkR.mono HO_5.out (fun _ hk => hk.2))
                    (case aS => exact (below_size (by repeat (first | (with_reducible first | exact HB.out | apply below_alloc | apply pw_below_drewN | apply below_drew1) | exact HB.out))))
                    (case aL => have := LMc16.out; omega)
                    intro v108 w20 ho hb hg hat
                    rw [← Ny107.out] at ho
                    have n0_ := Aside0.mk (Kd.R_after (ok := (fun _ => True)) (by (with_reducible repeat (first | apply Kd.R_alloc | apply Kd.R_drewN | apply Kd.R_drew)); exact HO106.out) hg hat)
                    have n1_ := Aside0.mk (hb)
                    have n2_ := Aside0.mk (ho)
                    clear HO106
                    clear HB
                    clear HO_5
                    have HO106 := n0_
                    have HB := n1_
                    have HO109 := n2_
                    clear n0_ n1_ n2_
                    clear ho hb hg hat
                    refine hK.out _ _ trivial (fun hHeld => ?_)
                    clear hK K
                    refine norm_ (a' := ?_) ?_ ?_
                    rotate_left
                    · show Act.put _ (some 28) _ = _
                      simp only [Act.put, List.setIfInBounds_toArray, List.set_cons_zero, List.set_cons_succ, i64_w, i32_w]
                      rfl
                    refine pure_ (i := 13) (N := some 5) (v := ?_) (a' := ?_) #[true, true, true, true, true, true, true, true, true, true, true, true, true, true] rfl rfl (any_of HT_.out (by kernel_rfl)) (fun _ _ _ h => h) (Or.inl ⟨by rfl, ?_⟩) ?_ ?_
                    rotate_left
                    · intro w'
                      go_simp
                      with_reducible rfl
                    rotate_left
                    · simp only [Act.put, List.setIfInBounds_toArray, List.set_cons_zero, List.set_cons_succ, i64_w, i32_w]
                      rfl
                    refine done_ (done_of HT_.out (by kernel_rfl)) ?_
                    try go_wp2
                    go_roundg k1
                    case measure => have := HK1.out; omega
                    case rel => exact ⟨(y107), (wrap64 (x6_1 + 1)), (by first | rfl | (simp; done) | (simp [*]; done)), H', ⟨by have := HK1.out; omega⟩, ⟨.inl (by (with_reducible repeat (first | apply Kd.R_alloc | apply Kd.R_drewN | apply Kd.R_drew)); exact Kd.R_mono HO109.out (fun _ hk => trivial))⟩, ⟨by repeat (first | (with_reducible first | exact HB.out | apply below_alloc | apply pw_below_drewN | apply below_drew1) | exact HB.out)⟩⟩
                  · rw [if_neg c16] at H
                    exact absurd H (by simp)
                · rw [if_neg c14] at H
                  exact absurd H (by simp)
              · rw [if_neg c13] at H
                exact absurd H (by simp)
            · rw [if_neg c10] at H
              exact absurd H (by simp)
          · rw [if_neg c9] at H
            exact absurd H (by simp)
        · rw [if_neg c6] at H
          exact absurd H (by simp)
      · rw [if_neg c5] at H
        rcases HO_5.out with hR_ | ⟨hx_, g_, hv_, hg_, _, hh_⟩
        case inr =>
          subst hx_
          cases hv_
          have c5b0 : decide (x6_1 < (a0.size : Int)) = false := decide_eq_false c5
          clear c5
          have hr : strOfNums [92, 120] = r := by
            cases k1 with
            | zero => simp [spec_Hex.l1] at H
            | succ k2 =>
              simp only [spec_Hex.l1] at H
              rw [if_neg (by decide)] at H
              cases k2 with
              | zero => simp [spec_Hex.j2] at H
              | succ k3 =>
                simp only [spec_Hex.j2] at H
                rw [if_neg (by decide)] at H
                exact Option.some.inj H
          subst hr
          clear H
          have HH := Aside0.mk hh_
          clear hh_
          go_wp2
          go_loopg [7] 1 (fun kq v7 w' => v7 = .int .i64 2 ∧ Aside0 (w'.heap[g_]? = some (.cells #[.int .u8 92, .int .u8 120] 5 (2, 3))) ∧ Aside0 (Below w.heap.size w w'))
          case atStart => exact ⟨rfl, HH, HB⟩
          case round =>
            clear HB HH
            obtain ⟨rfl, HH, HB⟩ := hrel
            have hC : Kd.C (Kd.int .u8) wr (some ⟨g_, 0, none⟩) 2 [(92 : Int), 120] := by
              refine Kd.C_of_reads (d := (0 : Int)) (h1 := fun _ => rfl) ⟨rfl, by decide, fun _ => ⟨_, rfl, fun j hj => ?_⟩⟩
              have e1 : (⟨g_, 0, none⟩ : Addr).add j = ⟨g_, j, none⟩ := by simp [Addr.add]; try omega
              rw [e1]
              have : j = 0 ∨ j = 1 := by omega
              rcases this with rfl | rfl <;> simp [World.cell?, HH.out]
            have hcs := fun c_ : Nat => Kd.C_string (P := Tryd.prog) (c := c_) Tryd.underlying47 Tryd.underlying5 Tryd.underlying9 hC
            go_wp2
            go_ret
            exact ⟨rfl, HB.out⟩
        replace HO_5 := Aside0.mk hR_
        have c5b0 : decide (x6_1 < (a0.size : Int)) = false := decide_eq_false c5
        clear c5
        have H' := Aside0.mk H
        clear H
        go_wp2
        go_loopg [7] k1 (fun kq v7 w' => ∃ (x5_2 : List Int) (x7_2 : Int), v7 = .int .i64 x7_2 ∧ Aside0 (spec_Hex.l1 kq a1 x5_2 x7_2 = some r) ∧ Aside0 (kq ≤ k1) ∧ Aside0 (Kd.R (Kd.int .u8) 5 w' w.heap.size (fun _ => True) u5 x5_2) ∧ Aside0 (Below w.heap.size w w'))
        case atStart => exact ⟨(x5_1), (2), (by first | rfl | (simp; done) | (simp [*]; done)), H', ⟨Nat.le_refl _⟩, ⟨by (with_reducible repeat (first | apply Kd.R_alloc | apply Kd.R_drewN | apply Kd.R_drew)); exact HO_5.out⟩, ⟨by repeat (first | (with_reducible first | exact HB.out | apply below_alloc | apply pw_below_drewN | apply below_drew1) | exact HB.out)⟩⟩
        case round =>
          clear H'
          try clear c1
          try clear p1
          try clear q1
          try clear hx1
          try clear p2
          try clear c5
          try clear c5b0
          try clear c6
          try clear c6b0
          try clear p6
          try clear p7
          try clear q7
          try clear hx7
          try clear c9
          try clear c9b0
          try clear c10
          try clear c10b0
          try clear p11
          try clear q11
          try clear hx11
          try clear p12
          try clear q12
          try clear hx12
          try clear c13
          try clear c13b0
          try clear c14
          try clear c14b0
          try clear p15
          try clear q15
          try clear hx15
          try clear c16
          try clear p11
          try clear p12
          try clear p15
          try clear p2
          try clear p7
          try clear q11
          try clear q12
          try clear q15
          try clear q7
          obtain ⟨x5_2, x7_2, rfl, HA, HK2, HO_5, HB⟩ := hrel
          cases gk with
          | zero => exact absurd HA.out (by simp [spec_Hex.l1])
          | succ k2 =>
            have H := HA.out
            clear HA
            simp only [spec_Hex.l1] at H
            have HC22 := Aside0.mk H
            clear H
            go_upto_region 7 with (fail)
            go_cut [35] (fun v35 wc => ∃ (kq : Nat) (x35_21 : Bool), v35 = .bool x35_21 ∧ Aside0 (spec_Hex.j2 kq a1 x5_2 x7_2 x35_21 = some r) ∧ Aside0 (kq ≤ k2) ∧ Aside0 (Kd.R (Kd.int .u8) 5 wc w.heap.size (fun _ => True) u5 x5_2) ∧ Aside0 (Below w.heap.size w wc))
            case first =>
              have H := HC22.out
              clear HC22
              by_cases c23 : x7_2 < (x5_2.length : Int)
              · rw [if_pos c23] at H
                have c23b0 : decide (x7_2 < (x5_2.length : Int)) = true := decide_eq_true c23
                clear c23
                (first | rw [c23b0] | (simp only [i64_w, i32_w]; rw [c23b0]) | skip)
                have H' := Aside0.mk H
                clear H
                obtain ⟨Ao24, co24, eo24⟩ := Kd.R_slice HO_5.out
                subst eo24
                go_wp2
                go_meet
                case rel => exact ⟨_, (a1), (by first | rfl | (simp; done) | (simp [*]; done)), H', ⟨by have := HK1.out; have := HK2.out; first | omega | exact Nat.le_refl _⟩, ⟨by (with_reducible repeat (first | apply Kd.R_alloc | apply Kd.R_drewN | apply Kd.R_drew)); exact HO_5.out⟩, ⟨by repeat (first | (with_reducible first | exact HB.out | apply below_alloc | apply pw_below_drewN | apply below_drew1) | exact HB.out)⟩⟩
              · rw [if_neg c23] at H
                have c23b0 : decide (x7_2 < (x5_2.length : Int)) = false := decide_eq_false c23
                clear c23
                (first | rw [c23b0] | (simp only [i64_w, i32_w]; rw [c23b0]) | skip)
                have H' := Aside0.mk H
                clear H
                obtain ⟨Ao25, co25, eo25⟩ := Kd.R_slice HO_5.out
                subst eo25
                go_wp2
                go_meet
                case rel => exact ⟨_, (false), (by first | rfl | (simp; done) | (simp [*]; done)), H', ⟨by have := HK1.out; have := HK2.out; first | omega | exact Nat.le_refl _⟩, ⟨by (with_reducible repeat (first | apply Kd.R_alloc | apply Kd.R_drewN | apply Kd.R_drew)); exact HO_5.out⟩, ⟨by repeat (first | (with_reducible first | exact HB.out | apply below_alloc | apply pw_below_drewN | apply below_drew1) | exact HB.out)⟩⟩
            case rest =>
              clear HC22
              try clear c1
              try clear p1
              try clear q1
              try clear hx1
              try clear c2
              try clear p2
              try clear c5
              try clear c5b0
              try clear c6
              try clear c6b0
              try clear p6
              try clear p7
              try clear q7
              try clear hx7
              try clear c9
              try clear c9b0
              try clear c10
              try clear c10b0
              try clear p11
              try clear q11
              try clear hx11
              try clear p12
              try clear q12
              try clear hx12
              try clear c13
              try clear c13b0
              try clear c14
              try clear c14b0
              try clear p15
              try clear q15
              try clear hx15
              try clear c16
              try clear c23
              try clear c23b0
              try clear p1
              try clear p11
              try clear p12
              try clear p15
              try clear p2
              try clear p6
              try clear p7
              try clear q1
              try clear q11
              try clear q12
              try clear q15
              try clear q7
              obtain ⟨kq, x35_21, rfl, HA, HJ21, HO_5, HB⟩ := hcut
              cases kq with
              | zero => exact absurd HA.out (by simp [spec_Hex.j2])
              | succ kj21 =>
                have H := HA.out
                clear HA
                simp only [spec_Hex.j2] at H
                by_cases c26 : x35_21 = true
                · subst c26
                  have H1 : (if 0 ≤ x7_2 then (if x7_2 < (x5_2.length : Int) then (if (rd x5_2 x7_2) ≥ 97 then (spec_Hex.l1 kj21 a1 (x5_2.set (x7_2 : Int).toNat (((rd x5_2 x7_2) - 32) % 256)) (wrap64 (x7_2 + 1))) else (spec_Hex.l1 kj21 a1 x5_2 (wrap64 (x7_2 + 1)))) else (none)) else (none)) = some r := by rw [if_pos rfl] at H; exact H
                  clear H
                  have H := H1
                  clear H1
                  by_cases c27 : 0 ≤ x7_2
                  · rw [if_pos c27] at H
                    have c27b0 : decide (0 ≤ x7_2) = true := decide_eq_true c27
                    clear c27
                    by_cases c28 : x7_2 < (x5_2.length : Int)
                    · rw [if_pos c28] at H
                      have c28b0 : decide (x7_2 < (x5_2.length : Int)) = true := decide_eq_true c28
                      clear c28
                      by_cases c29 : (rd x5_2 x7_2) ≥ 97
                      · rw [if_pos c29] at H
                        have c29b0 : decide (97 ≤ (rd x5_2 x7_2)) = true := decide_eq_true c29
                        clear c29
                        obtain ⟨y112, hy112⟩ : ∃ y_ : List Int, y_ = (x5_2.set (x7_2 : Int).toNat (((rd x5_2 x7_2) - 32) % 256)) := ⟨_, rfl⟩
                        replace H : (spec_Hex.l1 kj21 a1 y112 (wrap64 (x7_2 + 1))) = some r := by first | (rw [hy112]; with_reducible exact H) | (have H2_ := (Option.bind_some _ _).symm.trans H; rw [hy112]; with_reducible exact H2_) | (have H2_ := (Option.bind_some _ _).symm.trans H; with_reducible exact H2_) | with_reducible exact H | (rw [hy112]; exact H) | exact H
                        have Ny112 := Aside0.mk hy112
                        clear hy112
                        have H' := Aside0.mk H
                        clear H
                        obtain ⟨Ao31, co31, eo31⟩ := Kd.R_slice HO_5.out
                        subst eo31
                        have p110 : 0 ≤ (x7_2 : Int) := of_decide_eq_true (by first | (with_reducible assumption) | assumption)
                        have q110 : x7_2 < (x5_2.length : Int) := of_decide_eq_true (by first | (with_reducible assumption) | assumption)
                        obtain ⟨ad110, e110, hx110_0⟩ := Kd.at_int (Kd.R_reads' HO_5.out).2.2 x7_2 p110 q110
                        cases e110
                        replace p110 := eq_true p110
                        replace q110 := eq_true q110
                        have p111 : 0 ≤ (x7_2 : Int) := of_decide_eq_true (by first | (with_reducible assumption) | assumption)
                        have q111 : x7_2 < (x5_2.length : Int) := of_decide_eq_true (by first | (with_reducible assumption) | assumption)
                        obtain ⟨ad111, e111, hx111_0⟩ := Kd.at_int (Kd.R_reads' HO_5.out).2.2 x7_2 p111 q111
                        obtain rfl : ad110 = ad111 := (by injection e111)
                        replace p111 := eq_true p111
                        replace q111 := eq_true q111
                        have p30 : 0 ≤ (x7_2 : Int) := of_decide_eq_true (by first | (with_reducible assumption) | assumption)
                        have q30 : (x7_2 : Int) < ((x5_2.length : Int) : Int) := of_decide_eq_true (by first | (with_reducible assumption) | assumption)
                        obtain ⟨go30, co30, eo30, gb30, gl30, cl30, HG30⟩ := Kd.R_form HO_5.out (by omega)
                        (first | cases eo30 | (injection eo30 with ea_ en_ ec_; (first | subst ea_ | (injection ea_ with ea_; subst ea_)); subst ec_; clear en_))
                        have GB30 := Aside0.mk gb30
                        have GG30 := Aside0.mk HG30
                        clear gb30 gl30 HG30
                        (first | simp only [add_plain] at hx110_0 | skip)
                        (first | simp only [add_plain] at hx111_0 | skip)
                        obtain ⟨hx30_0, hf30_0⟩ := Kd.R_celln 0 HO_5.out (x7_2 : Int) p30 q30
                        replace p30 := eq_true p30
                        replace q30 := eq_true q30
                        have HP32 := Kd.R_putg HO_5.out (x7_2 : Int) (((rd x5_2 x7_2) - 32) % 256)
                        go_wp2_with (first | ((with_reducible refine gate_store (t := 5) (p := 48) rfl ?_); refine store_event (t := 5) (p := 48) (v := ?vo_w33) (w1 := (wc.setCell ⟨go30, (x7_2 : Int).toNat, none⟩ (.int .u8 (((rd x5_2 x7_2) - 32) % 256)))) ?hg ?ho ?hn ?hr ?_; (case ho => rfl); (case hg => rfl); (case hn => rfl); (case hr => first | (go_simp; done) | (go_simp; rfl) | (go_simp; simp [IntKind.wrap_u8]; done)); intro w33 hw; have hg : wc.grownBy w33 (some go30) := (by rw [hw]; exact HP32.2); have hp_ : Kd.R (Kd.int .u8) 5 w33 w.heap.size (fun _ => True) (.slice (some ⟨go30, 0, none⟩) x5_2.length co31) y112 := (by rw [hw, Ny112.out]; exact HP32.1); clear HP32; have n0_ := Aside0.mk (hp_); have n1_ := Aside0.mk ((by rw [hw]; exact below_set (HB.out) GB30.out : Below w.heap.size w w33)); clear HO_5; clear HB; have HO_5 := n0_; have HB := n1_; clear n0_ n1_; clear hg hw hp_))
                        go_roundg kj21
                        case measure => have := HK1.out; have := HK2.out; have := HJ21.out; omega
                        case rel => exact ⟨(y112), (wrap64 (x7_2 + 1)), (by first | rfl | (simp; done) | (simp [*]; done)), H', ⟨by have := HK1.out; have := HK2.out; have := HJ21.out; omega⟩, ⟨by (with_reducible repeat (first | apply Kd.R_alloc | apply Kd.R_drewN | apply Kd.R_drew)); exact HO_5.out⟩, ⟨by repeat (first | (with_reducible first | exact HB.out | apply below_alloc | apply pw_below_drewN | apply below_drew1) | exact HB.out)⟩⟩
                      · rw [if_neg c29] at H
                        have c29b0 : decide (97 ≤ (rd x5_2 x7_2)) = false := decide_eq_false c29
                        clear c29
                        have H' := Aside0.mk H
                        clear H
                        obtain ⟨Ao34, co34, eo34⟩ := Kd.R_slice HO_5.out
                        subst eo34
                        have p110 : 0 ≤ (x7_2 : Int) := of_decide_eq_true (by first | (with_reducible assumption) | assumption)
                        have q110 : x7_2 < (x5_2.length : Int) := of_decide_eq_true (by first | (with_reducible assumption) | assumption)
                        obtain ⟨ad110, e110, hx110_0⟩ := Kd.at_int (Kd.R_reads' HO_5.out).2.2 x7_2 p110 q110
                        cases e110
                        replace p110 := eq_true p110
                        replace q110 := eq_true q110
                        go_wp2
                        go_roundg kj21
                        case measure => have := HK1.out; have := HK2.out; have := HJ21.out; omega
                        case rel => exact ⟨(x5_2), (wrap64 (x7_2 + 1)), (by first | rfl | (simp; done) | (simp [*]; done)), H', ⟨by have := HK1.out; have := HK2.out; have := HJ21.out; omega⟩, ⟨by (with_reducible repeat (first | apply Kd.R_alloc | apply Kd.R_drewN | apply Kd.R_drew)); exact HO_5.out⟩, ⟨by repeat (first | (with_reducible first | exact HB.out | apply below_alloc | apply pw_below_drewN | apply below_drew1) | exact HB.out)⟩⟩
                    · rw [if_neg c28] at H
                      exact absurd H (by simp)
                  · rw [if_neg c27] at H
                    exact absurd H (by simp)
                · replace c26 := Bool.eq_false_iff.mpr c26
                  subst c26
                  have H1 : (some (strOfNums x5_2)) = some r := by rw [if_neg (show ¬ (false = true) by decide)] at H; exact H
                  clear H
                  have H := H1
                  clear H1
                  obtain rfl := Option.some.inj H
                  have hcv35 := own_string (P := Tryd.prog) Tryd.underlying47 Tryd.underlying5 Tryd.underlying9 (Kd.own_of_R HO_5.out)
                  go_wp2
                  go_ret
                  exact ⟨by first | rfl | (simp [errW_none, errW_some] <;> rfl) | (simp [*, errW_none, errW_some] <;> rfl), by repeat (first | (with_reducible first | exact HB.out | apply below_alloc | apply pw_below_drewN | apply below_drew1) | exact HB.out)⟩

end Go.Proofs.YtlhjblbmhlelbaaDoor.P
