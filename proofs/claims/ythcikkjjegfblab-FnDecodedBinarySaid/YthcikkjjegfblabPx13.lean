-- Written by the program wip/myprint.py of this session, over the kit's print of the translation. Lean checks it.
import Derived.Test.YthcikkjjegfblabPx0
import Derived.Test.YthcikkjjegfblabPx2
import Derived.Test.YthcikkjjegfblabPx3
import Derived.Test.YthcikkjjegfblabPx12
namespace Go.Proofs.Ythcikkjjegfblab.P
open Go.RowKit Go.Proofs.YthcikkjjegfblabW.PrintWords Go.Proofs.YthcikkjjegfblabW.PrintLast Go.Proofs.YthcikkjjegfblabW.PrintMore
attribute [local go_sem] max2_int min2_int max_two min_two max_three min_three max_four min_four   -- for this text's walks alone
set_option linter.unusedVariables false
set_option linter.unusedSimpArgs false

/-! ### binary_bigEndian_Uint64: function 84 -/
theorem or64 (a b c d e f g h : Int) (ha₀ : 0 ≤ a) (ha₁ : a < 256) (hb₀ : 0 ≤ b) (hb₁ : b < 256) (hc₀ : 0 ≤ c) (hc₁ : c < 256) (hd₀ : 0 ≤ d) (hd₁ : d < 256) (he₀ : 0 ≤ e) (he₁ : e < 256) (hf₀ : 0 ≤ f) (hf₁ : f < 256) (hg₀ : 0 ≤ g) (hg₁ : g < 256) (hh₀ : 0 ≤ h) (hh₁ : h < 256) :
    bits .or .u64 (bits .or .u64 (bits .or .u64 (bits .or .u64 (bits .or .u64 (bits .or .u64 (bits .or .u64 (IntKind.u64.wrap h) (IntKind.u64.wrap (IntKind.u64.wrap g * 256))) (IntKind.u64.wrap (IntKind.u64.wrap f * 65536))) (IntKind.u64.wrap (IntKind.u64.wrap e * 16777216))) (IntKind.u64.wrap (IntKind.u64.wrap d * 4294967296))) (IntKind.u64.wrap (IntKind.u64.wrap c * 1099511627776))) (IntKind.u64.wrap (IntKind.u64.wrap b * 281474976710656))) (IntKind.u64.wrap (IntKind.u64.wrap a * 72057594037927936)) = a * 72057594037927936 + b * 281474976710656 + c * 1099511627776 + d * 4294967296 + e * 16777216 + f * 65536 + g * 256 + h := by
  have hw : ∀ n : Int, 0 ≤ n → n < 2 ^ 64 → IntKind.u64.wrap n = n := fun n h0 h1 => by rw [IntKind.wrap_u64]; omega
  rw [hw a ha₀ (by omega), hw b hb₀ (by omega), hw c hc₀ (by omega), hw d hd₀ (by omega), hw e he₀ (by omega), hw f hf₀ (by omega), hw g hg₀ (by omega), hw h hh₀ (by omega), hw (g * 256) (by omega) (by omega), hw (f * 65536) (by omega) (by omega), hw (e * 16777216) (by omega) (by omega), hw (d * 4294967296) (by omega) (by omega), hw (c * 1099511627776) (by omega) (by omega), hw (b * 281474976710656) (by omega) (by omega), hw (a * 72057594037927936) (by omega) (by omega)]
  rw [or_lo .u64 64 (by decide) hw 8 (g * 256) _ (by omega) (by omega) (by omega) (by omega) (by omega) (by omega), or_lo .u64 64 (by decide) hw 16 (f * 65536) _ (by omega) (by omega) (by omega) (by omega) (by omega) (by omega), or_lo .u64 64 (by decide) hw 24 (e * 16777216) _ (by omega) (by omega) (by omega) (by omega) (by omega) (by omega), or_lo .u64 64 (by decide) hw 32 (d * 4294967296) _ (by omega) (by omega) (by omega) (by omega) (by omega) (by omega), or_lo .u64 64 (by decide) hw 40 (c * 1099511627776) _ (by omega) (by omega) (by omega) (by omega) (by omega) (by omega), or_lo .u64 64 (by decide) hw 48 (b * 281474976710656) _ (by omega) (by omega) (by omega) (by omega) (by omega) (by omega), or_lo .u64 64 (by decide) hw 56 (a * 72057594037927936) _ (by omega) (by omega) (by omega) (by omega) (by omega) (by omega)]
  omega
set_option maxHeartbeats 1000000 in
set_option maxRecDepth 100000 in
theorem binary_bigEndian_Uint64.calls (A : Option Addr) (n c : Nat) (f : List Int) (w : World) (hr : (Kd.int .u8).C w A n f) (hn : 8 ≤ n) (hf : Bytes f) :
    Calls Try.prog 84 #[.agg #[], .slice A n c] w fun e w' => e = .returned (.int .u64 (rd f 0 * 72057594037927936 + rd f 1 * 281474976710656 + rd f 2 * 1099511627776 + rd f 3 * 4294967296 + rd f 4 * 16777216 + rd f 5 * 65536 + rd f 6 * 256 + rd f 7)) ∧ Below w.heap.size w w' := by
  have hr' := fun o q => Kd.C_drewN (Kd.C_alloc hr o) q
  have hA : ∃ ad, A = some ad := by obtain ⟨ad, e, _⟩ := rd_cell hr (by omega); exact ⟨ad, e⟩
  obtain ⟨ad, rfl⟩ := hA
  have hc : ∀ o q i, i < n → ((w.alloc o).drewN q).cell? (ad.add i) = some (.int .u8 (rd f i)) := by
    intro o q i hi
    obtain ⟨ad', e, hc⟩ := rd_cell (hr' o q) (by omega)
    injection e with e
    subst e
    exact hc i hi
  have c0 : ∀ o q, ((w.alloc o).drewN q).cell? ad = some (.int .u8 (rd f 0)) := fun o q => by simpa [Addr.add] using hc o q 0 (by omega)
  have c1 : ∀ o q, ((w.alloc o).drewN q).cell? ⟨ad.block, ad.off + 1, none⟩ = some (.int .u8 (rd f 1)) := fun o q => by simpa [Addr.add] using hc o q 1 (by omega)
  have c2 : ∀ o q, ((w.alloc o).drewN q).cell? ⟨ad.block, ad.off + 2, none⟩ = some (.int .u8 (rd f 2)) := fun o q => by simpa [Addr.add] using hc o q 2 (by omega)
  have c3 : ∀ o q, ((w.alloc o).drewN q).cell? ⟨ad.block, ad.off + 3, none⟩ = some (.int .u8 (rd f 3)) := fun o q => by simpa [Addr.add] using hc o q 3 (by omega)
  have c4 : ∀ o q, ((w.alloc o).drewN q).cell? ⟨ad.block, ad.off + 4, none⟩ = some (.int .u8 (rd f 4)) := fun o q => by simpa [Addr.add] using hc o q 4 (by omega)
  have c5 : ∀ o q, ((w.alloc o).drewN q).cell? ⟨ad.block, ad.off + 5, none⟩ = some (.int .u8 (rd f 5)) := fun o q => by simpa [Addr.add] using hc o q 5 (by omega)
  have c6 : ∀ o q, ((w.alloc o).drewN q).cell? ⟨ad.block, ad.off + 6, none⟩ = some (.int .u8 (rd f 6)) := fun o q => by simpa [Addr.add] using hc o q 6 (by omega)
  have c7 : ∀ o q, ((w.alloc o).drewN q).cell? ⟨ad.block, ad.off + 7, none⟩ = some (.int .u8 (rd f 7)) := fun o q => by simpa [Addr.add] using hc o q 7 (by omega)
  have c70 : ∀ o, (w.alloc o).cell? ⟨ad.block, ad.off + 7, none⟩ = some (.int .u8 (rd f 7)) := fun o => c7 o 0
  have h0 : (0 : Int) < (n : Int) := by omega
  have h1 : (1 : Int) < (n : Int) := by omega
  have h2 : (2 : Int) < (n : Int) := by omega
  have h3 : (3 : Int) < (n : Int) := by omega
  have h4 : (4 : Int) < (n : Int) := by omega
  have h5 : (5 : Int) < (n : Int) := by omega
  have h6 : (6 : Int) < (n : Int) := by omega
  have h7 : (7 : Int) < (n : Int) := by omega
  go_enter Try.func84, Try.ntmps84
  go_wp2
  go_quiet (fail)
  go_wp2
  go_ret
  exact ⟨by rw [or64 _ _ _ _ _ _ _ _ (hf.rd 0).1 (hf.rd 0).2 (hf.rd 1).1 (hf.rd 1).2 (hf.rd 2).1 (hf.rd 2).2 (hf.rd 3).1 (hf.rd 3).2 (hf.rd 4).1 (hf.rd 4).2 (hf.rd 5).1 (hf.rd 5).2 (hf.rd 6).1 (hf.rd 6).2 (hf.rd 7).1 (hf.rd 7).2]; rfl, pw_below_drewN (below_alloc (Below.refl _ _) _) _⟩

/-! ### hex_Encode: function 87 -/
def hex_Encode.l0 : Nat → List Int → List Int → Int → List Int → Int → Int → Option (Int × List Int)
  | 0, _, _, _, _, _, _ => none
  | k + 1, x0, x1, x5, x8, x9, x10 => if x10 < x9 then (if 0 ≤ x10 then (if x10 < (x8.length : Int) then (if 0 ≤ ((rd x8 x10) / 16) then (if ((rd x8 x10) / 16) < 16 then (if 0 ≤ x5 then (if x5 < (x0.length : Int) then (if 0 ≤ (Go.bits .and .u8 (rd x8 x10) 15) then (if (Go.bits .and .u8 (rd x8 x10) 15) < 16 then (if 0 ≤ (wrap64 (x5 + 1)) then (if (wrap64 (x5 + 1)) < (x0.length : Int) then (hex_Encode.l0 k ((x0.set (x5 : Int).toNat (bt (⟨#[48, 49, 50, 51, 52, 53, 54, 55, 56, 57, 97, 98, 99, 100, 101, 102]⟩ : ByteArray) ((rd x8 x10) / 16))).set ((wrap64 (x5 + 1)) : Int).toNat (bt (⟨#[48, 49, 50, 51, 52, 53, 54, 55, 56, 57, 97, 98, 99, 100, 101, 102]⟩ : ByteArray) (Go.bits .and .u8 (rd x8 x10) 15))) x1 (wrap64 (x5 + 2)) x8 x9 (wrap64 (x10 + 1))) else (none)) else (none)) else (none)) else (none)) else (none)) else (none)) else (none)) else (none)) else (none)) else (none)) else (some (wrap64 ((x1.length : Int) * 2), x0))
def hex_Encode.f (k : Nat) (l0 : List Int) (l1 : List Int) : Option (Int × List Int) := hex_Encode.l0 k l0 l1 0 l1 (l1.length : Int) 0
theorem hex_Encode.mono_l : ∀ k, (∀ y0 y1 y2 y3 y4 y5, LeO (hex_Encode.l0 k y0 y1 y2 y3 y4 y5) (hex_Encode.l0 (k + 1) y0 y1 y2 y3 y4 y5))
  | 0 => fun _ _ _ _ _ _ r h => by simp [hex_Encode.l0] at h
  | k + 1 => by
    have ih0 := hex_Encode.mono_l k
    · intro y0 y1 y2 y3 y4 y5
      unfold hex_Encode.l0
      repeat' first
      | (with_reducible exact ih0 _ _ _ _ _ _)
      | (with_reducible exact LeO.refl _)
      | (with_reducible exact LeO.none _)
      | (with_reducible refine LeO.ite ?_ ?_)
      | (with_reducible refine LeO.bind ?_ (fun _ => ?_))
      | exact ih0 _ _ _ _ _ _
      | exact LeO.none _
      | refine LeO.ite ?_ ?_
      | refine LeO.bind ?_ (fun _ => ?_)
theorem hex_Encode.mono : ∀ a0 a1 k, LeO (hex_Encode.f k a0 a1) (hex_Encode.f (k + 1) a0 a1) := by
  intro a0 a1 k
  have ih0 := hex_Encode.mono_l k
  unfold hex_Encode.f
  repeat' first
      | (with_reducible exact ih0 _ _ _ _ _ _)
      | (with_reducible exact LeO.refl _)
      | (with_reducible exact LeO.none _)
      | (with_reducible refine LeO.ite ?_ ?_)
      | (with_reducible refine LeO.bind ?_ (fun _ => ?_))
      | exact ih0 _ _ _ _ _ _
      | exact LeO.none _
      | refine LeO.ite ?_ ?_
      | refine LeO.bind ?_ (fun _ => ?_)
set_option maxHeartbeats 8000000 in
set_option maxRecDepth 100000 in
theorem hex_Encode.calls (k : Nat) (P0_ : Nat → Prop) (u9000_ : Value) (l0 : List Int) (A1 : Option Addr) (c1 : Nat) (l1 : List Int) (r1 : Int) (r2 : List Int) (w0 w : World) (hB : Below w0.heap.size w0 w) (ho0 : Kd.R (Kd.int .u8) 5 w w0.heap.size P0_ u9000_ l0) (hr1 : ∀ W_, Kept w W_ (fun k_ => P0_ k_) → Kd.C (Kd.int .u8) W_ A1 l1.length l1) (hc1 : l1.length ≤ c1) (h : hex_Encode.f k l0 l1 = some (r1, r2)) :
    Calls Try.prog 87 #[u9000_, .slice A1 l1.length c1] w fun e w' => e = .returned (.int .i64 r1) ∧ Kd.R (Kd.int .u8) 5 w' w0.heap.size (fun k_ => (P0_ k_ ∨ w.heap.size ≤ k_)) u9000_ r2 ∧ Below w0.heap.size w0 w' ∧ Kept w w' (fun k_ => P0_ k_) := by
  have HO0 := Aside0.mk (show Kd.R (Kd.int .u8) 5 w w0.heap.size (fun k_ => (P0_ k_ ∨ w.heap.size ≤ k_)) u9000_ l0 from Kd.R_mono ho0 (fun k_ hk => (.inl hk)))
  have HR1 := Aside0.mk hr1
  have HC1 := Aside0.mk hc1
  clear hr1 hc1
  have HK := Aside0.mk (Kept.refl w (fun k_ => P0_ k_))
  have HW0 := Aside0.mk hB.size
  have HB := Aside0.mk hB
  clear hB
  have H : (hex_Encode.l0 k l0 l1 0 l1 (l1.length : Int) 0) = some (r1, r2) := h
  clear h
  have H' := Aside0.mk H
  clear H
  go_enter Try.func87, Try.ntmps87
  go_wp2
  go_loopg [5, 10] k (fun kq v5 v10 w' => ∃ (x0_1 : List Int) (x5_1 : Int) (x10_1 : Int), v5 = .int .i64 x5_1 ∧ v10 = .int .i64 x10_1 ∧ Aside0 (hex_Encode.l0 kq x0_1 l1 x5_1 l1 (l1.length : Int) x10_1 = some (r1, r2)) ∧ Aside0 (kq ≤ k) ∧ Aside0 (Kd.R (Kd.int .u8) 5 w' w0.heap.size (fun k_ => (P0_ k_ ∨ w.heap.size ≤ k_)) u9000_ x0_1) ∧ Aside0 (Kept w w' (fun k_ => P0_ k_)) ∧ Aside0 (Below w0.heap.size w0 w'))
  case atStart => exact ⟨(l0), (0), (0), (by first | rfl | (simp; done) | (simp [*]; done)), (by first | rfl | (simp; done) | (simp [*]; done)), H', ⟨Nat.le_refl _⟩, ⟨by (with_reducible repeat (first | apply Kd.R_alloc | apply Kd.R_drewN | apply Kd.R_drew)); exact HO0.out⟩, ⟨by repeat (first | (with_reducible first | exact HK.out | apply Kept.alloc | apply Kept.drewN | apply Kept.drew) | exact HK.out)⟩, ⟨by repeat (first | (with_reducible first | exact HB.out | apply below_alloc | apply pw_below_drewN | apply below_drew1) | exact HB.out)⟩⟩
  case round =>
    clear H'
    try clear c1
    try clear p2
    obtain ⟨x0_1, x5_1, x10_1, rfl, rfl, HA, HK1, HO_0, HK, HB⟩ := hrel
    cases gk with
    | zero => exact absurd HA.out (by simp [hex_Encode.l0])
    | succ k1 =>
      have H := HA.out
      clear HA
      simp only [hex_Encode.l0] at H
      by_cases c3 : x10_1 < (l1.length : Int)
      · rw [if_pos c3] at H
        have c3b0 : decide (x10_1 < (l1.length : Int)) = true := decide_eq_true c3
        clear c3
        by_cases c4 : 0 ≤ x10_1
        · rw [if_pos c4] at H
          have c4b0 : decide (0 ≤ x10_1) = true := decide_eq_true c4
          clear c4
          by_cases c5 : x10_1 < (l1.length : Int)
          · rw [if_pos c5] at H
            have c5b0 : decide (x10_1 < (l1.length : Int)) = true := decide_eq_true c5
            clear c5
            obtain ⟨ji6, hji6⟩ : ∃ j_ : Int, ((rd l1 x10_1) / 16) = j_ := ⟨_, rfl⟩
            replace H : (if 0 ≤ (ji6) then (if (ji6) < 16 then (if 0 ≤ x5_1 then (if x5_1 < (x0_1.length : Int) then (if 0 ≤ (Go.bits .and .u8 (rd l1 x10_1) 15) then (if (Go.bits .and .u8 (rd l1 x10_1) 15) < 16 then (if 0 ≤ (wrap64 (x5_1 + 1)) then (if (wrap64 (x5_1 + 1)) < (x0_1.length : Int) then (hex_Encode.l0 k1 ((x0_1.set (x5_1 : Int).toNat (bt (⟨#[48, 49, 50, 51, 52, 53, 54, 55, 56, 57, 97, 98, 99, 100, 101, 102]⟩ : ByteArray) (ji6))).set ((wrap64 (x5_1 + 1)) : Int).toNat (bt (⟨#[48, 49, 50, 51, 52, 53, 54, 55, 56, 57, 97, 98, 99, 100, 101, 102]⟩ : ByteArray) (Go.bits .and .u8 (rd l1 x10_1) 15))) l1 (wrap64 (x5_1 + 2)) l1 (l1.length : Int) (wrap64 (x10_1 + 1))) else (none)) else (none)) else (none)) else (none)) else (none)) else (none)) else (none)) else (none)) = some (r1, r2) := by first | (rw [hji6] at H; exact H) | (simp only [hji6] at H ⊢; exact H)
            by_cases c7 : 0 ≤ (ji6)
            · rw [if_pos c7] at H
              have c7b0 : decide (0 ≤ (ji6)) = true := decide_eq_true c7
              clear c7
              by_cases c8 : (ji6) < 16
              · rw [if_pos c8] at H
                have c8b0 : decide ((ji6) < 16) = true := decide_eq_true c8
                clear c8
                by_cases c10 : 0 ≤ x5_1
                · rw [if_pos c10] at H
                  have c10b0 : decide (0 ≤ x5_1) = true := decide_eq_true c10
                  clear c10
                  by_cases c11 : x5_1 < (x0_1.length : Int)
                  · rw [if_pos c11] at H
                    have c11b0 : decide (x5_1 < (x0_1.length : Int)) = true := decide_eq_true c11
                    clear c11
                    obtain ⟨y244, hy244⟩ : ∃ y_ : List Int, y_ = (x0_1.set (x5_1 : Int).toNat (bt (⟨#[48, 49, 50, 51, 52, 53, 54, 55, 56, 57, 97, 98, 99, 100, 101, 102]⟩ : ByteArray) (ji6))) := ⟨_, rfl⟩
                    replace H : (if 0 ≤ (Go.bits .and .u8 (rd l1 x10_1) 15) then (if (Go.bits .and .u8 (rd l1 x10_1) 15) < 16 then (if 0 ≤ (wrap64 (x5_1 + 1)) then (if (wrap64 (x5_1 + 1)) < (x0_1.length : Int) then (hex_Encode.l0 k1 (y244.set ((wrap64 (x5_1 + 1)) : Int).toNat (bt (⟨#[48, 49, 50, 51, 52, 53, 54, 55, 56, 57, 97, 98, 99, 100, 101, 102]⟩ : ByteArray) (Go.bits .and .u8 (rd l1 x10_1) 15))) l1 (wrap64 (x5_1 + 2)) l1 (l1.length : Int) (wrap64 (x10_1 + 1))) else (none)) else (none)) else (none)) else (none)) = some (r1, r2) := by first | (rw [hy244]; with_reducible exact H) | (have H2_ := (Option.bind_some _ _).symm.trans H; rw [hy244]; with_reducible exact H2_) | (have H2_ := (Option.bind_some _ _).symm.trans H; with_reducible exact H2_) | with_reducible exact H | (rw [hy244]; exact H) | exact H
                    have Ny244 := Aside0.mk hy244
                    clear hy244
                    by_cases c13 : 0 ≤ (Go.bits .and .u8 (rd l1 x10_1) 15)
                    · rw [if_pos c13] at H
                      have c13b0 : decide (0 ≤ (Go.bits .and .u8 (rd l1 x10_1) 15)) = true := decide_eq_true c13
                      clear c13
                      by_cases c14 : (Go.bits .and .u8 (rd l1 x10_1) 15) < 16
                      · rw [if_pos c14] at H
                        have c14b0 : decide ((Go.bits .and .u8 (rd l1 x10_1) 15) < 16) = true := decide_eq_true c14
                        clear c14
                        obtain ⟨ji16, hji16⟩ : ∃ j_ : Int, (wrap64 (x5_1 + 1)) = j_ := ⟨_, rfl⟩
                        replace H : (if 0 ≤ (ji16) then (if (ji16) < (x0_1.length : Int) then (hex_Encode.l0 k1 (y244.set ((ji16) : Int).toNat (bt (⟨#[48, 49, 50, 51, 52, 53, 54, 55, 56, 57, 97, 98, 99, 100, 101, 102]⟩ : ByteArray) (Go.bits .and .u8 (rd l1 x10_1) 15))) l1 (wrap64 (x5_1 + 2)) l1 (l1.length : Int) (wrap64 (x10_1 + 1))) else (none)) else (none)) = some (r1, r2) := by first | (rw [hji16] at H; exact H) | (simp only [hji16] at H ⊢; exact H)
                        have hji16w : (IntKind.i64.wrap (x5_1 + 1)) = ji16 := (i64_w _).trans hji16
                        by_cases c17 : 0 ≤ (ji16)
                        · rw [if_pos c17] at H
                          have c17b0 : decide (0 ≤ (ji16)) = true := decide_eq_true c17
                          clear c17
                          by_cases c18 : (ji16) < (x0_1.length : Int)
                          · rw [if_pos c18] at H
                            have c18b0 : decide ((ji16) < (x0_1.length : Int)) = true := decide_eq_true c18
                            clear c18
                            obtain ⟨y245, hy245⟩ : ∃ y_ : List Int, y_ = (y244.set ((ji16) : Int).toNat (bt (⟨#[48, 49, 50, 51, 52, 53, 54, 55, 56, 57, 97, 98, 99, 100, 101, 102]⟩ : ByteArray) (Go.bits .and .u8 (rd l1 x10_1) 15))) := ⟨_, rfl⟩
                            replace H : (hex_Encode.l0 k1 y245 l1 (wrap64 (x5_1 + 2)) l1 (l1.length : Int) (wrap64 (x10_1 + 1))) = some (r1, r2) := by first | (rw [hy245]; with_reducible exact H) | (have H2_ := (Option.bind_some _ _).symm.trans H; rw [hy245]; with_reducible exact H2_) | (have H2_ := (Option.bind_some _ _).symm.trans H; with_reducible exact H2_) | with_reducible exact H | (rw [hy245]; exact H) | exact H
                            have Ny245 := Aside0.mk hy245
                            clear hy245
                            have H' := Aside0.mk H
                            clear H
                            have p243 : 0 ≤ (x10_1 : Int) := of_decide_eq_true (by first | (with_reducible assumption) | assumption)
                            have q243 : x10_1 < (l1.length : Int) := of_decide_eq_true (by first | (with_reducible assumption) | assumption)
                            obtain ⟨ad243, e243, hx243_0⟩ := Kd.at_int (Kd.C_kept_now HR1.out HK.out) x10_1 p243 q243
                            cases e243
                            replace p243 := eq_true p243
                            replace q243 := eq_true q243
                            have p9 : 0 ≤ ((ji6) : Int) := of_decide_eq_true (by first | (with_reducible assumption) | assumption)
                            have q9 : (ji6) < (16 : Int) := of_decide_eq_true (by first | (with_reducible assumption) | assumption)
                            have hx9 := bt_at (⟨#[48, 49, 50, 51, 52, 53, 54, 55, 56, 57, 97, 98, 99, 100, 101, 102]⟩ : ByteArray) (ji6)
                            replace p9 := eq_true p9
                            replace q9 := eq_true q9
                            have p12 : 0 ≤ (x5_1 : Int) := of_decide_eq_true (by first | (with_reducible assumption) | assumption)
                            have q12 : (x5_1 : Int) < ((x0_1.length : Int) : Int) := of_decide_eq_true (by first | (with_reducible assumption) | assumption)
                            obtain ⟨go12, co12, eo12, gb12, gl12, cl12, HG12⟩ := Kd.R_form HO_0.out (by omega)
                            (first | cases eo12 | (injection eo12 with ea_ en_ ec_; (first | subst ea_ | (injection ea_ with ea_; subst ea_)); subst ec_; clear en_))
                            have GB12 := Aside0.mk gb12
                            have GG12 := Aside0.mk HG12
                            clear gb12 gl12 HG12
                            have HMgo12 := Aside0.mk (show (P0_ go12 ∨ w.heap.size ≤ go12) from (HO_0.out.1 _ rfl))
                            obtain ⟨hx12_0, hf12_0⟩ := Kd.R_celln 0 HO_0.out (x5_1 : Int) p12 q12
                            replace p12 := eq_true p12
                            replace q12 := eq_true q12
                            have HP20 := Kd.R_putg HO_0.out (x5_1 : Int) (bt (⟨#[48, 49, 50, 51, 52, 53, 54, 55, 56, 57, 97, 98, 99, 100, 101, 102]⟩ : ByteArray) (ji6))
                            go_wp2_with (first | ((with_reducible refine gate_store (t := 5) (p := 19) rfl ?_); refine store_event (t := 5) (p := 19) (v := ?vo_w21) (w1 := (wr.setCell ⟨go12, (x5_1 : Int).toNat, none⟩ (.int .u8 (bt (⟨#[48, 49, 50, 51, 52, 53, 54, 55, 56, 57, 97, 98, 99, 100, 101, 102]⟩ : ByteArray) (ji6))))) ?hg ?ho ?hn ?hr ?_; (case ho => rfl); (case hg => rfl); (case hn => rfl); (case hr => first | (go_simp; done) | (go_simp; rfl)); intro w21 hw; have hg : wr.grownBy w21 (some go12) := (by rw [hw]; exact HP20.2); have hp_ : Kd.R (Kd.int .u8) 5 w21 w0.heap.size (fun k_ => (P0_ k_ ∨ w.heap.size ≤ k_)) (.slice (some ⟨go12, 0, none⟩) x0_1.length co12) y244 := (by rw [hw, Ny244.out]; exact HP20.1); clear HP20; have n0_ := Aside0.mk (hp_); have n1_ := Aside0.mk ((by rw [hw]; exact below_set (HB.out) GB12.out : Below w0.heap.size w0 w21)); have n2_ := Aside0.mk (Kept.of_grown (S := (fun k_ => P0_ k_)) hg (by repeat (first | (with_reducible first | exact HK.out | apply Kept.alloc | apply Kept.drewN | apply Kept.drew) | exact HK.out)) (fun k_ e_ => (HO_0.out.1 k_ e_))); clear HO_0; clear HB; clear HK; have HO_0 := n0_; have HB := n1_; have HK := n2_; clear n0_ n1_ n2_; clear hg hw hp_; have p15 : 0 ≤ ((Go.bits .and .u8 (rd l1 x10_1) 15) : Int) := of_decide_eq_true (by first | (with_reducible assumption) | assumption); have q15 : (Go.bits .and .u8 (rd l1 x10_1) 15) < (16 : Int) := of_decide_eq_true (by first | (with_reducible assumption) | assumption); have hx15 := bt_at (⟨#[48, 49, 50, 51, 52, 53, 54, 55, 56, 57, 97, 98, 99, 100, 101, 102]⟩ : ByteArray) (Go.bits .and .u8 (rd l1 x10_1) 15); replace p15 := eq_true p15; replace q15 := eq_true q15; have p19 : 0 ≤ ((ji16) : Int) := of_decide_eq_true (by first | (with_reducible assumption) | assumption); have q19 : ((ji16) : Int) < ((x0_1.length : Int) : Int) := of_decide_eq_true (by first | (with_reducible assumption) | assumption); obtain ⟨hx19_0, hf19_0⟩ := Kd.R_celln 0 HO_0.out ((ji16) : Int) p19 q19; replace p19 := eq_true p19; replace q19 := eq_true q19; obtain ⟨hy22_, hz22_⟩ := Kd.R_celln 0 HO_0.out ((ji16) : Int) (of_decide_eq_true (by first | (with_reducible assumption) | assumption)) (of_decide_eq_true (by first | (with_reducible assumption) | assumption)); have HP22 := Kd.R_putg HO_0.out ((ji16) : Int) (bt (⟨#[48, 49, 50, 51, 52, 53, 54, 55, 56, 57, 97, 98, 99, 100, 101, 102]⟩ : ByteArray) (Go.bits .and .u8 (rd l1 x10_1) 15))) | ((with_reducible refine gate_store (t := 5) (p := 26) rfl ?_); refine store_event (t := 5) (p := 26) (v := ?vo_w23) (w1 := (w21.setCell ⟨go12, ((ji16) : Int).toNat, none⟩ (.int .u8 (bt (⟨#[48, 49, 50, 51, 52, 53, 54, 55, 56, 57, 97, 98, 99, 100, 101, 102]⟩ : ByteArray) (Go.bits .and .u8 (rd l1 x10_1) 15))))) ?hg ?ho ?hn ?hr ?_; (case ho => rfl); (case hg => rfl); (case hn => rfl); (case hr => first | (go_simp; done) | (go_simp; rfl)); intro w23 hw; have hg : w21.grownBy w23 (some go12) := (by rw [hw]; exact HP22.2); have hp_ : Kd.R (Kd.int .u8) 5 w23 w0.heap.size (fun k_ => (P0_ k_ ∨ w.heap.size ≤ k_)) (.slice (some ⟨go12, 0, none⟩) x0_1.length co12) y245 := (by rw [hw, Ny245.out]; exact HP22.1); clear HP22; have n0_ := Aside0.mk (hp_); have n1_ := Aside0.mk ((by rw [hw]; exact below_set (HB.out) GB12.out : Below w0.heap.size w0 w23)); have n2_ := Aside0.mk (Kept.of_grown (S := (fun k_ => P0_ k_)) hg (by repeat (first | (with_reducible first | exact HK.out | apply Kept.alloc | apply Kept.drewN | apply Kept.drew) | exact HK.out)) (fun k_ e_ => (HO_0.out.1 k_ e_))); clear HO_0; clear HB; clear HK; have HO_0 := n0_; have HB := n1_; have HK := n2_; clear n0_ n1_ n2_; clear hg hw hp_))
                            go_roundg k1
                            case measure => have := HK1.out; omega
                            case rel => exact ⟨(y245), (wrap64 (x5_1 + 2)), (wrap64 (x10_1 + 1)), (by first | rfl | (simp; done) | (simp [*]; done)), (by first | rfl | (simp; done) | (simp [*]; done)), H', ⟨by have := HK1.out; omega⟩, ⟨by (with_reducible repeat (first | apply Kd.R_alloc | apply Kd.R_drewN | apply Kd.R_drew)); exact HO_0.out⟩, ⟨by repeat (first | (with_reducible first | exact HK.out | apply Kept.alloc | apply Kept.drewN | apply Kept.drew) | exact HK.out)⟩, ⟨by repeat (first | (with_reducible first | exact HB.out | apply below_alloc | apply pw_below_drewN | apply below_drew1) | exact HB.out)⟩⟩
                          · rw [if_neg c18] at H
                            exact absurd H (by simp)
                        · rw [if_neg c17] at H
                          exact absurd H (by simp)
                      · rw [if_neg c14] at H
                        exact absurd H (by simp)
                    · rw [if_neg c13] at H
                      exact absurd H (by simp)
                  · rw [if_neg c11] at H
                    exact absurd H (by simp)
                · rw [if_neg c10] at H
                  exact absurd H (by simp)
              · rw [if_neg c8] at H
                exact absurd H (by simp)
            · rw [if_neg c7] at H
              exact absurd H (by simp)
          · rw [if_neg c5] at H
            exact absurd H (by simp)
        · rw [if_neg c4] at H
          exact absurd H (by simp)
      · rw [if_neg c3] at H
        have c3b0 : decide (x10_1 < (l1.length : Int)) = false := decide_eq_false c3
        clear c3
        simp only [Option.some.injEq, Prod.mk.injEq] at H
        obtain ⟨rfl, rfl⟩ := H
        go_wp2
        go_ret
        exact ⟨by first | rfl | (simp [errW_none, errW_some] <;> rfl) | (simp [*, errW_none, errW_some] <;> rfl), by (with_reducible repeat (first | apply Kd.R_alloc | apply Kd.R_drewN | apply Kd.R_drew)); exact HO_0.out, by repeat (first | (with_reducible first | exact HB.out | apply below_alloc | apply pw_below_drewN | apply below_drew1) | exact HB.out), by repeat (first | (with_reducible first | exact HK.out | apply Kept.alloc | apply Kept.drewN | apply Kept.drew) | exact HK.out)⟩

/-! ### pq_decodeUUIDBinary: function 85 -/
def pq_decodeUUIDBinary.f (l0 : List Int) : Option (List Int × Option Int) := if (l0.length : Int) = 16 then (if 36 ≤ 281474976710656 then ((some (List.replicate 36 0 : List Int)).bind fun y247 => (if 8 < (y247.length : Int) then (if 13 < (y247.length : Int) then (if 18 < (y247.length : Int) then (if 23 < (y247.length : Int) then (if 0 ≤ (y247.length : Int) then (if 0 ≤ 4 then (if 4 ≤ (l0.length : Int) then (none) else (none)) else (none)) else (none)) else (none)) else (none)) else (none)) else (none))) else (none)) else ((errors_New.f (⟨#[112, 113, 58, 32, 117, 110, 97, 98, 108, 101, 32, 116, 111, 32, 100, 101, 99, 111, 100, 101, 32, 117, 117, 105, 100, 59, 32, 98, 97, 100, 32, 108, 101, 110, 103, 116, 104, 58, 32, 37, 100]⟩ : ByteArray)).bind fun t246 => (some (([] : List Int), t246)))
set_option maxHeartbeats 8000000 in
set_option maxRecDepth 100000 in
theorem pq_decodeUUIDBinary.calls (A0 : Option Addr) (c0 : Nat) (l0 : List Int) (r1 : List Int) (r2 : Option Int) (w : World) (hr0 : Kd.C (Kd.int .u8) w A0 l0.length l0) (hc0 : l0.length ≤ c0) (h : pq_decodeUUIDBinary.f l0 = some (r1, r2)) :
    Calls Try.prog 85 #[.slice A0 l0.length c0] w fun e w' => ∃ v0_ : Value, e = .returned (.tuple #[v0_, errW r2]) ∧ Kd.R (Kd.int .u8) 5 w' w.heap.size (fun _ => True) v0_ r1 ∧ Below w.heap.size w w' := by
  have HR0 := Aside0.mk hr0
  have HC0 := Aside0.mk hc0
  clear hr0 hc0
  have HB := Aside0.mk (Below.refl w.heap.size w)
  have H : (if (l0.length : Int) = 16 then (if 36 ≤ 281474976710656 then ((some (List.replicate 36 0 : List Int)).bind fun y247 => (if 8 < (y247.length : Int) then (if 13 < (y247.length : Int) then (if 18 < (y247.length : Int) then (if 23 < (y247.length : Int) then (if 0 ≤ (y247.length : Int) then (if 0 ≤ 4 then (if 4 ≤ (l0.length : Int) then (none) else (none)) else (none)) else (none)) else (none)) else (none)) else (none)) else (none))) else (none)) else ((errors_New.f (⟨#[112, 113, 58, 32, 117, 110, 97, 98, 108, 101, 32, 116, 111, 32, 100, 101, 99, 111, 100, 101, 32, 117, 117, 105, 100, 59, 32, 98, 97, 100, 32, 108, 101, 110, 103, 116, 104, 58, 32, 37, 100]⟩ : ByteArray)).bind fun t246 => (some (([] : List Int), t246)))) = some (r1, r2) := h
  clear h
  by_cases c2 : (l0.length : Int) = 16
  · rw [if_pos c2] at H
    have c2b0 : ((l0.length : Int) == 16) = true := beq_iff_eq.mpr c2
    have c2b1 : ((l0.length : Int) != 16) = false := bne_eq_false_iff_eq.mpr c2
    clear c2
    by_cases c3 : 36 ≤ 281474976710656
    · rw [if_pos c3] at H
      have c3b0 := eq_true c3
      have c3b1 : decide (36 ≤ 281474976710656) = true := decide_eq_true c3
      clear c3
      obtain ⟨y247, hy247⟩ : ∃ y_ : List Int, y_ = (List.replicate 36 0) := ⟨_, rfl⟩
      replace H : (if 8 < (y247.length : Int) then (if 13 < (y247.length : Int) then (if 18 < (y247.length : Int) then (if 23 < (y247.length : Int) then (if 0 ≤ (y247.length : Int) then (if 0 ≤ 4 then (if 4 ≤ (l0.length : Int) then (none) else (none)) else (none)) else (none)) else (none)) else (none)) else (none)) else (none)) = some (r1, r2) := by first | (rw [hy247]; with_reducible exact H) | (have H2_ := (Option.bind_some _ _).symm.trans H; rw [hy247]; with_reducible exact H2_) | (have H2_ := (Option.bind_some _ _).symm.trans H; with_reducible exact H2_) | with_reducible exact H | (rw [hy247]; exact H) | exact H
      have Ny247 := Aside0.mk hy247
      clear hy247
      by_cases c4 : 8 < (y247.length : Int)
      · rw [if_pos c4] at H
        have c4b0 : decide (8 < (y247.length : Int)) = true := decide_eq_true c4
        have c4b1 : decide (8 < y247.length) = true := decide_eq_true (by omega)
        clear c4
        obtain ⟨y250, hy250⟩ : ∃ y_ : List Int, y_ = (y247.set (8 : Int).toNat 45) := ⟨_, rfl⟩
        replace H : (if 13 < (y247.length : Int) then (if 18 < (y247.length : Int) then (if 23 < (y247.length : Int) then (if 0 ≤ (y247.length : Int) then (if 0 ≤ 4 then (if 4 ≤ (l0.length : Int) then (none) else (none)) else (none)) else (none)) else (none)) else (none)) else (none)) = some (r1, r2) := by first | (rw [hy250]; with_reducible exact H) | (have H2_ := (Option.bind_some _ _).symm.trans H; rw [hy250]; with_reducible exact H2_) | (have H2_ := (Option.bind_some _ _).symm.trans H; with_reducible exact H2_) | with_reducible exact H | (rw [hy250]; exact H) | exact H
        have Ny250 := Aside0.mk hy250
        clear hy250
        by_cases c6 : 13 < (y247.length : Int)
        · rw [if_pos c6] at H
          have c6b0 : decide (13 < (y247.length : Int)) = true := decide_eq_true c6
          have c6b1 : decide (13 < y247.length) = true := decide_eq_true (by omega)
          clear c6
          obtain ⟨y251, hy251⟩ : ∃ y_ : List Int, y_ = (y250.set (13 : Int).toNat 45) := ⟨_, rfl⟩
          replace H : (if 18 < (y247.length : Int) then (if 23 < (y247.length : Int) then (if 0 ≤ (y247.length : Int) then (if 0 ≤ 4 then (if 4 ≤ (l0.length : Int) then (none) else (none)) else (none)) else (none)) else (none)) else (none)) = some (r1, r2) := by first | (rw [hy251]; with_reducible exact H) | (have H2_ := (Option.bind_some _ _).symm.trans H; rw [hy251]; with_reducible exact H2_) | (have H2_ := (Option.bind_some _ _).symm.trans H; with_reducible exact H2_) | with_reducible exact H | (rw [hy251]; exact H) | exact H
          have Ny251 := Aside0.mk hy251
          clear hy251
          by_cases c8 : 18 < (y247.length : Int)
          · rw [if_pos c8] at H
            have c8b0 : decide (18 < (y247.length : Int)) = true := decide_eq_true c8
            have c8b1 : decide (18 < y247.length) = true := decide_eq_true (by omega)
            clear c8
            obtain ⟨y252, hy252⟩ : ∃ y_ : List Int, y_ = (y251.set (18 : Int).toNat 45) := ⟨_, rfl⟩
            replace H : (if 23 < (y247.length : Int) then (if 0 ≤ (y247.length : Int) then (if 0 ≤ 4 then (if 4 ≤ (l0.length : Int) then (none) else (none)) else (none)) else (none)) else (none)) = some (r1, r2) := by first | (rw [hy252]; with_reducible exact H) | (have H2_ := (Option.bind_some _ _).symm.trans H; rw [hy252]; with_reducible exact H2_) | (have H2_ := (Option.bind_some _ _).symm.trans H; with_reducible exact H2_) | with_reducible exact H | (rw [hy252]; exact H) | exact H
            have Ny252 := Aside0.mk hy252
            clear hy252
            by_cases c10 : 23 < (y247.length : Int)
            · rw [if_pos c10] at H
              have c10b0 : decide (23 < (y247.length : Int)) = true := decide_eq_true c10
              have c10b1 : decide (23 < y247.length) = true := decide_eq_true (by omega)
              clear c10
              obtain ⟨y253, hy253⟩ : ∃ y_ : List Int, y_ = (y252.set (23 : Int).toNat 45) := ⟨_, rfl⟩
              replace H : (if 0 ≤ (y247.length : Int) then (if 0 ≤ 4 then (if 4 ≤ (l0.length : Int) then (none) else (none)) else (none)) else (none)) = some (r1, r2) := by first | (rw [hy253]; with_reducible exact H) | (have H2_ := (Option.bind_some _ _).symm.trans H; rw [hy253]; with_reducible exact H2_) | (have H2_ := (Option.bind_some _ _).symm.trans H; with_reducible exact H2_) | with_reducible exact H | (rw [hy253]; exact H) | exact H
              have Ny253 := Aside0.mk hy253
              clear hy253
              by_cases c12 : 0 ≤ (y247.length : Int)
              · rw [if_pos c12] at H
                have c12b0 := eq_true c12
                have c12b1 : decide (0 ≤ (y247.length : Int)) = true := decide_eq_true c12
                clear c12
                obtain ⟨y254, hy254⟩ : ∃ y_ : List Int, y_ = (y253.drop 0) := ⟨_, rfl⟩
                replace H : (if 0 ≤ 4 then (if 4 ≤ (l0.length : Int) then (none) else (none)) else (none)) = some (r1, r2) := by first | (rw [hy254]; with_reducible exact H) | (have H2_ := (Option.bind_some _ _).symm.trans H; rw [hy254]; with_reducible exact H2_) | (have H2_ := (Option.bind_some _ _).symm.trans H; with_reducible exact H2_) | with_reducible exact H | (rw [hy254]; exact H) | exact H
                have Ny254 := Aside0.mk hy254
                clear hy254
                by_cases c13 : 0 ≤ 4
                · rw [if_pos c13] at H
                  have c13b0 := eq_true c13
                  have c13b1 : decide (0 ≤ 4) = true := decide_eq_true c13
                  clear c13
                  by_cases c14 : 4 ≤ (l0.length : Int)
                  · rw [if_pos c14] at H
                    have c14b0 := eq_true c14
                    have c14b1 : decide (4 ≤ (l0.length : Int)) = true := decide_eq_true c14
                    clear c14
                    exact absurd H (by simp)
                  · rw [if_neg c14] at H
                    exact absurd H (by simp)
                · rw [if_neg c13] at H
                  exact absurd H (by simp)
              · rw [if_neg c12] at H
                exact absurd H (by simp)
            · rw [if_neg c10] at H
              exact absurd H (by simp)
          · rw [if_neg c8] at H
            exact absurd H (by simp)
        · rw [if_neg c6] at H
          exact absurd H (by simp)
      · rw [if_neg c4] at H
        exact absurd H (by simp)
    · rw [if_neg c3] at H
      exact absurd H (by simp)
  · rw [if_neg c2] at H
    have c2b0 : ((l0.length : Int) == 16) = false := beq_eq_false_iff_ne.mpr c2
    have c2b1 : ((l0.length : Int) != 16) = true := bne_iff_ne.mpr c2
    replace H := Option.bind_eq_some_iff.mp H
    obtain ⟨t246, A150, H⟩ := H
    replace H : (some (([] : List Int), t246)) = some (r1, r2) := H
    have A15 := Aside0.mk A150
    clear A150
    simp only [Option.some.injEq, Prod.mk.injEq] at H
    obtain ⟨rfl, rfl⟩ := H
    go_enter Try.func85, Try.ntmps85
    go_wp2_with (first | ((with_reducible refine gate_callee (f := 76) rfl ?_); refine goesL_ (some 8) rfl rfl Try.func76 (by kernel_rfl) rfl #[.string (⟨#[112, 113, 58, 32, 117, 110, 97, 98, 108, 101, 32, 116, 111, 32, 100, 101, 99, 111, 100, 101, 32, 117, 117, 105, 100, 59, 32, 98, 97, 100, 32, 108, 101, 110, 103, 116, 104, 58, 32, 37, 100]⟩ : ByteArray)] rfl (by (try simp only [List.map_toArray, List.map_cons, List.map_nil]); first | done | rfl | (simp only [List.length_drop, List.length_take]; rfl)) ?_; (with_reducible refine (errors_New.calls (⟨#[112, 113, 58, 32, 117, 110, 97, 98, 108, 101, 32, 116, 111, 32, 100, 101, 99, 111, 100, 101, 32, 117, 117, 105, 100, 59, 32, 98, 97, 100, 32, 108, 101, 110, 103, 116, 104, 58, 32, 37, 100]⟩ : ByteArray) t246 _ A15.out).mono ?_); rintro e w16 ⟨rfl, hb⟩; refine ⟨_, rfl, ?_⟩; have n0_ := Aside0.mk (below_step (by repeat (first | (with_reducible first | exact HB.out | apply below_alloc | apply pw_below_drewN | apply below_drew1) | exact HB.out)) hb); clear HB; have HB := n0_; clear n0_; (try clear hb); (try clear hb2); (try clear hk); (try clear hi); (try simp only [errW_none, errW_some])))
    go_ret2
    exact ⟨_, by first | rfl | (simp [errW_none, errW_some] <;> rfl) | (simp [*, errW_none, errW_some] <;> rfl), by first | exact Kd.R_nil _ _ _ _ _ | exact Kd.N_nil _ _ _ _ _ | exact Kd.V_nil _ _ _ _ _ | exact Kd.Q_nil _ _ _ _ _ | exact Kd.S_nil _ _ _ _ _, by repeat (first | (with_reducible first | exact HB.out | apply below_alloc | apply pw_below_drewN | apply below_drew1) | exact HB.out)⟩

/-! ### pq_binaryDecode: function 72 -/
def u64Of (f : List Int) : Int := rd f 0 * 72057594037927936 + rd f 1 * 281474976710656 + rd f 2 * 1099511627776 + rd f 3 * 4294967296 + rd f 4 * 16777216 + rd f 5 * 65536 + rd f 6 * 256 + rd f 7
set_option maxHeartbeats 1000000 in
set_option maxRecDepth 100000 in
theorem pq_binaryDecode.bytes (A : Option Addr) (n c : Nat) (w : World) :
    Calls Try.prog 72 #[.slice A n c, .int .u32 17] w fun e w' => e = .returned (.tuple #[.iface 58 (.slice A n c), .nilIface]) ∧ Below w.heap.size w w' := by
  go_enter Try.func72, Try.ntmps72
  go_wp2_with fail
  go_ret2
  exact ⟨rfl, Below.refl _ _⟩
set_option maxHeartbeats 1000000 in
set_option maxRecDepth 100000 in
theorem pq_binaryDecode.int8 (A : Option Addr) (n c : Nat) (f : List Int) (w : World) (hr : (Kd.int .u8).C w A n f) (hn : 8 ≤ n) (hf : Bytes f) :
    Calls Try.prog 72 #[.slice A n c, .int .u32 20] w fun e w' => e = .returned (.tuple #[.iface 2 (.int .i64 (wrap64 (u64Of f))), .nilIface]) ∧ Below w.heap.size w w' := by
  go_enter Try.func72, Try.ntmps72
  go_wp2_with fail
  refine (binary_bigEndian_Uint64.calls A n c f w hr hn hf).mono ?_
  rintro e w1 ⟨rfl, hb⟩
  go_wp2_with fail
  go_ret2
  exact ⟨rfl, hb⟩
set_option maxHeartbeats 1000000 in
set_option maxRecDepth 100000 in
theorem pq_binaryDecode.int4 (A : Option Addr) (n c : Nat) (f : List Int) (w : World) (hr : (Kd.int .u8).C w A n f) (hn : 4 ≤ n) (hf : Bytes f) :
    Calls Try.prog 72 #[.slice A n c, .int .u32 23] w fun e w' => e = .returned (.tuple #[.iface 2 (.int .i64 (wrap64 (wrap32 (rd f 0 * 16777216 + rd f 1 * 65536 + rd f 2 * 256 + rd f 3)))), .nilIface]) ∧ Below w.heap.size w w' := by
  go_enter Try.func72, Try.ntmps72
  go_wp2_with fail
  refine (binary_bigEndian_Uint32.calls A n c f w hr hn hf).mono ?_
  rintro e w1 ⟨rfl, hb⟩
  go_wp2_with fail
  go_ret2
  exact ⟨rfl, hb⟩
set_option maxHeartbeats 1000000 in
set_option maxRecDepth 100000 in
theorem pq_binaryDecode.int2 (A : Option Addr) (n c : Nat) (f : List Int) (w : World) (hr : (Kd.int .u8).C w A n f) (hn : 2 ≤ n) (hf : Bytes f) :
    Calls Try.prog 72 #[.slice A n c, .int .u32 21] w fun e w' => e = .returned (.tuple #[.iface 2 (.int .i64 (wrap64 (IntKind.i16.wrap (rd f 0 * 256 + rd f 1)))), .nilIface]) ∧ Below w.heap.size w w' := by
  go_enter Try.func72, Try.ntmps72
  go_wp2_with fail
  refine (binary_bigEndian_Uint16.calls A n c f w hr hn hf).mono ?_
  rintro e w1 ⟨rfl, hb⟩
  go_wp2_with fail
  go_ret2
  exact ⟨rfl, hb⟩
/-- What BinaryDecode's callers ask for: its value by the type. -/
def decNum (typ : Int) (f : List Int) : Int := if typ = 20 then wrap64 (u64Of f) else if typ = 23 then wrap64 (wrap32 (rd f 0 * 16777216 + rd f 1 * 65536 + rd f 2 * 256 + rd f 3)) else wrap64 (IntKind.i16.wrap (rd f 0 * 256 + rd f 1))
def decMost (typ : Int) : Nat := if typ = 20 then 8 else if typ = 23 then 4 else 2
theorem pq_binaryDecode.num (A : Option Addr) (n c : Nat) (f : List Int) (w : World) (typ : Int) (ht : typ = 21 ∨ typ = 23 ∨ typ = 20) (hr : (Kd.int .u8).C w A n f) (hn : decMost typ ≤ n) (hf : Bytes f) :
    Calls Try.prog 72 #[.slice A n c, .int .u32 typ] w fun e w' => e = .returned (.tuple #[.iface 2 (.int .i64 (decNum typ f)), .nilIface]) ∧ Below w.heap.size w w' := by
  rcases ht with rfl | rfl | rfl
  · exact pq_binaryDecode.int2 A n c f w hr hn hf
  · exact pq_binaryDecode.int4 A n c f w hr hn hf
  · exact pq_binaryDecode.int8 A n c f w hr hn hf
set_option maxRecDepth 100000 in
theorem pq_BinaryDecode.num (A : Option Addr) (n c : Nat) (f : List Int) (w : World) (typ : Int) (ht : typ = 21 ∨ typ = 23 ∨ typ = 20) (hr : (Kd.int .u8).C w A n f) (hn : decMost typ ≤ n) (hf : Bytes f) :
    Calls Try.prog 56 #[.slice A n c, .int .u32 typ] w fun e w' => e = .returned (.tuple #[.iface 2 (.int .i64 (decNum typ f)), .nilIface]) ∧ Below w.heap.size w w' := by
  go_enter Try.func56, Try.ntmps56
  go_wp2_with fail
  refine (pq_binaryDecode.num A n c f w typ ht hr hn hf).mono ?_
  rintro e w1 ⟨rfl, hb⟩
  go_wp2_with fail
  go_ret2
  exact ⟨rfl, hb⟩
set_option maxRecDepth 100000 in
theorem pq_BinaryDecode.bytes (A : Option Addr) (n c : Nat) (w : World) :
    Calls Try.prog 56 #[.slice A n c, .int .u32 17] w fun e w' => e = .returned (.tuple #[.iface 58 (.slice A n c), .nilIface]) ∧ Below w.heap.size w w' := by
  go_enter Try.func56, Try.ntmps56
  go_wp2_with fail
  refine (pq_binaryDecode.bytes A n c w).mono ?_
  rintro e w1 ⟨rfl, hb⟩
  go_wp2_with fail
  go_ret2
  exact ⟨rfl, hb⟩

-- NOT PRINTED: function 56 (pq_BinaryDecode)

/-! ### impl_DecodedBinary: function 27 -/
attribute [local go_sem] run_store_flt
theorem below_setRow' {B g : Nat} {w0 w : World} (h : Below B w0 w) (hg : B ≤ g) (cs : Array Value) : Below B w0 (w.setRow g cs) := ⟨h.os, h.tape, h.output, by have := h.size; simpa using this, fun i hi => (setRow_other _ _ _ _ (by omega)).trans (h.block i hi)⟩
/-- What the literal's map tells: how many bytes a type takes at least. -/
def decMap : List (Int × Int) := [(20, 8), (23, 4), (21, 2)]
set_option maxHeartbeats 1000000 in
set_option maxRecDepth 100000 in
theorem impl_DecodedBinary.num (typ : Int) (s : ByteArray) (w : World) (ht : typ = 21 ∨ typ = 23 ∨ typ = 20) (hs : s.size ≤ 9223372036854775807) (hn : decMost typ ≤ s.size) :
    Calls Try.prog 27 #[.int .u32 typ, .string s] w fun e w' => e = .returned (.tuple #[datumV 1 (decNum typ (bytesOf s)) ⟨#[]⟩, .bool true]) ∧ Below w.heap.size w w' := by
  have hmm := @run_makeMap Try.prog
  have hins : ∀ (W : World) b l k v, W.heap[b]? = some (mapObj .u32 l) → (∀ p ∈ l, p.1 ≠ k) → (Instr.mapUpdate 94 (.map (some b)) (.int .u32 k) (.int .i64 v)).run Try.prog W = .ok () (ChangeMaps.setBlock W b (mapObj .u32 (l ++ [(k, v)]))) := fun W b l k v hb hn => run_lit_insert Try.underlying94 Try.underlying93 hb hn
  have hlk : ∀ (W : World) b l k, W.heap[b]? = some (mapObj .u32 l) → (Instr.lookup 94 (.map (some b)) (.int .u32 k) false).run Try.prog W = .ok (.int .i64 (look l k)) W := fun W b l k hb => run_lit_lookup Try.underlying94 Try.underlying93 (by kernel_rfl) hb
  obtain ⟨W0, hW0⟩ : ∃ W0, W0 = w.alloc (.cells #[.int .i64 0, .int .i64 0, .float .f64 0, .string ⟨#[]⟩, .bool false, .int .i64 0, .int .i64 0, .int .i64 0, .int .i64 0, .int .i64 0, .int .i64 0, .int .i64 0, .int .i64 0] 64 (0, 0)) := ⟨_, rfl⟩
  have z0 : W0.heap.size = w.heap.size + 1 := by rw [hW0]; show (w.heap.push _).size = _; simp
  have m0 : (W0.alloc (Obj.map #[] 0)).heap[w.heap.size + 1]? = some (mapObj .u32 []) := by rw [← z0]; exact heap_alloc_new _ _
  obtain ⟨W1, hW1⟩ : ∃ W1, W1 = W0.alloc (Obj.map #[] 0) := ⟨_, rfl⟩
  rw [← hW1] at m0
  have i1 := hins W1 _ [] 20 8 m0 (by simp)
  have l1 := blk_lt m0
  have i2 := hins _ (w.heap.size + 1) _ 23 4 (setBlock_at W1 (w.heap.size + 1) (mapObj .u32 [(20, 8)]) l1) (by simp)
  rw [setBlock_twice] at i2
  have i3 := hins _ (w.heap.size + 1) _ 21 2 (setBlock_at W1 (w.heap.size + 1) (mapObj .u32 [(20, 8), (23, 4)]) l1) (by simp)
  rw [setBlock_twice] at i3
  have i4 := hlk _ (w.heap.size + 1) _ typ (setBlock_at W1 (w.heap.size + 1) (mapObj .u32 [(20, 8), (23, 4), (21, 2)]) l1)
  have hlook : look [(20, 8), (23, 4), (21, 2)] typ = (decMost typ : Int) := by rcases ht with rfl | rfl | rfl <;> rfl
  rw [hlook] at i4
  have h64 : W0.heap[w.heap.size]? = some (.cells #[.int .i64 0, .int .i64 0, .float .f64 0, .string ⟨#[]⟩, .bool false, .int .i64 0, .int .i64 0, .int .i64 0, .int .i64 0, .int .i64 0, .int .i64 0, .int .i64 0, .int .i64 0] 64 (0, 0)) := by rw [hW0]; exact heap_alloc_new _ _
  obtain ⟨W2, hW2⟩ : ∃ W2, W2 = ChangeMaps.setBlock W1 (w.heap.size + 1) (mapObj .u32 [(20, 8), (23, 4), (21, 2)]) := ⟨_, rfl⟩
  have hB2 : Below w.heap.size w W2 := by
    rw [hW2, hW1, hW0]
    exact below_setBlock (below_alloc (below_alloc (Below.refl _ _) _) _) _ (by omega)
  have g64 : W2.heap[w.heap.size]? = some (.cells #[.int .i64 0, .int .i64 0, .float .f64 0, .string ⟨#[]⟩, .bool false, .int .i64 0, .int .i64 0, .int .i64 0, .int .i64 0, .int .i64 0, .int .i64 0, .int .i64 0, .int .i64 0] 64 (0, 0)) := by
    rw [hW2, setBlock_other _ _ _ _ (by omega), hW1]
    exact ((below_alloc (Below.refl W0.heap.size W0) _).block w.heap.size (by omega)).trans h64
  have z2 : W2.heap.size = w.heap.size + 2 := by
    have e1 : ∀ o, (ChangeMaps.setBlock W1 (w.heap.size + 1) o).heap.size = W1.heap.size := fun o => by simp [ChangeMaps.setBlock]
    have e2 : W1.heap.size = W0.heap.size + 1 := by rw [hW1]; show (W0.heap.push _).size = _; simp
    rw [hW2, e1, e2, z0]
  simp only [List.nil_append, List.cons_append] at i1 i2 i3
  rw [← hW2] at i3 i4
  have kb := print_bytes (P := Try.prog) 9 58 5 Try.underlying9 Try.underlying58 Try.underlying5 s W2
  have hC : Kd.C (Kd.int .u8) (Lib.bytesWorld W2 5 s) (some ⟨W2.heap.size, 0, none⟩) (bytesOf s).length (bytesOf s) := by rw [bytesOf_length]; exact Kd.C_of_reads (d := (0 : Int)) (h1 := fun _ => rfl) (bytes_reads W2 5 s hs)
  rw [bytesOf_length] at hC
  have hlt : decide ((s.size : Int) < (decMost typ : Int)) = false := decide_eq_false (by omega)
  have hlt2 : ((s.size : Int) < (decMost typ : Int)) = False := eq_false (by omega)
  have hlt3 : (s.size < decMost typ) = False := eq_false (by omega)
  rw [z2] at hC
  have hnum := fun W hr => pq_BinaryDecode.num (some ⟨w.heap.size + 2, 0, none⟩) s.size (grownCap W2 s.size 0 5) (bytesOf s) W typ ht hr hn (bytesOf_bytes s)
  clear hW2
  subst hW1 hW0
  go_enter Try.func27, Try.ntmps27
  go_wp2_with fail
  refine (hnum _ hC).mono ?_
  rintro e w5 ⟨rfl, hb5⟩
  have hB5 : Below W2.heap.size W2 w5 := Below.trans (bytes_below (Below.refl W2.heap.size W2) (Nat.le_refl _) 5 s) (hb5.mono (by rw [Lib.bytesWorld_size]; omega))
  clear i1 i2 i3 i4 hmm hins hlk kb hC hnum hlt hlt2 hlt3 m0 l1 z0 h64
  go_wp2_with fail
  refine (impl_datum.int (decNum typ (bytesOf s)) w5).mono ?_
  rintro e w6 ⟨rfl, hb6⟩
  have hB6 := below_step hB5 hb6
  have g6 := (hB6.block w.heap.size (by omega)).trans g64
  have hB7 : Below w.heap.size w w6 := Below.trans hB2 (hB6.mono hB2.size)
  go_wp2_with (first | (refine wpList_store_row (hgd := ?h1) 64 (.tmp 4) (.tmp 23) ?h2 w.heap.size #[.int .i64 1, .int .i64 (decNum typ (bytesOf s)), .float .f64 0, .string ⟨#[]⟩, .bool false, .int .i64 0, .int .i64 0, .int .i64 0, .int .i64 0, .int .i64 0, .int .i64 0, .int .i64 0, .int .i64 0] ?h3 ?h4 64 _ g6 ?h5 ?h6 ?h7 ?_; (case h2 => rfl); (case h1 => rfl); (case h3 => rfl); (case h4 => rfl); (case h5 => kernel_rfl); (case h6 => rfl); (case h7 => simp [Value.oneCell'])))
  exact bodyPost_ret (results_ct (d := _) rfl _ _ w.heap.size 64 _ _ rfl (setRow_heap _ _ _ _ _ _ g6) Try.underlying64 rfl (by kernel_rfl)) rfl ⟨rfl, below_setRow' hB7 (Nat.le_refl _) _⟩
set_option maxHeartbeats 1000000 in
set_option maxRecDepth 100000 in
theorem impl_DecodedBinary.short (typ : Int) (s : ByteArray) (w : World) (ht : typ = 21 ∨ typ = 23 ∨ typ = 20) (hs : s.size ≤ 9223372036854775807) (hn : s.size < decMost typ) :
    Calls Try.prog 27 #[.int .u32 typ, .string s] w fun e w' => e = .returned (.tuple #[datumV 0 0 ⟨#[]⟩, .bool false]) ∧ Below w.heap.size w w' := by
  have hmm := @run_makeMap Try.prog
  have hins : ∀ (W : World) b l k v, W.heap[b]? = some (mapObj .u32 l) → (∀ p ∈ l, p.1 ≠ k) → (Instr.mapUpdate 94 (.map (some b)) (.int .u32 k) (.int .i64 v)).run Try.prog W = .ok () (ChangeMaps.setBlock W b (mapObj .u32 (l ++ [(k, v)]))) := fun W b l k v hb hn => run_lit_insert Try.underlying94 Try.underlying93 hb hn
  have hlk : ∀ (W : World) b l k, W.heap[b]? = some (mapObj .u32 l) → (Instr.lookup 94 (.map (some b)) (.int .u32 k) false).run Try.prog W = .ok (.int .i64 (look l k)) W := fun W b l k hb => run_lit_lookup Try.underlying94 Try.underlying93 (by kernel_rfl) hb
  obtain ⟨W0, hW0⟩ : ∃ W0, W0 = w.alloc (.cells #[.int .i64 0, .int .i64 0, .float .f64 0, .string ⟨#[]⟩, .bool false, .int .i64 0, .int .i64 0, .int .i64 0, .int .i64 0, .int .i64 0, .int .i64 0, .int .i64 0, .int .i64 0] 64 (0, 0)) := ⟨_, rfl⟩
  have z0 : W0.heap.size = w.heap.size + 1 := by rw [hW0]; show (w.heap.push _).size = _; simp
  have m0 : (W0.alloc (Obj.map #[] 0)).heap[w.heap.size + 1]? = some (mapObj .u32 []) := by rw [← z0]; exact heap_alloc_new _ _
  obtain ⟨W1, hW1⟩ : ∃ W1, W1 = W0.alloc (Obj.map #[] 0) := ⟨_, rfl⟩
  rw [← hW1] at m0
  have i1 := hins W1 _ [] 20 8 m0 (by simp)
  have l1 := blk_lt m0
  have i2 := hins _ (w.heap.size + 1) _ 23 4 (setBlock_at W1 (w.heap.size + 1) (mapObj .u32 [(20, 8)]) l1) (by simp)
  rw [setBlock_twice] at i2
  have i3 := hins _ (w.heap.size + 1) _ 21 2 (setBlock_at W1 (w.heap.size + 1) (mapObj .u32 [(20, 8), (23, 4)]) l1) (by simp)
  rw [setBlock_twice] at i3
  have i4 := hlk _ (w.heap.size + 1) _ typ (setBlock_at W1 (w.heap.size + 1) (mapObj .u32 [(20, 8), (23, 4), (21, 2)]) l1)
  have hlook : look [(20, 8), (23, 4), (21, 2)] typ = (decMost typ : Int) := by rcases ht with rfl | rfl | rfl <;> rfl
  rw [hlook] at i4
  have h64 : W0.heap[w.heap.size]? = some (.cells #[.int .i64 0, .int .i64 0, .float .f64 0, .string ⟨#[]⟩, .bool false, .int .i64 0, .int .i64 0, .int .i64 0, .int .i64 0, .int .i64 0, .int .i64 0, .int .i64 0, .int .i64 0] 64 (0, 0)) := by rw [hW0]; exact heap_alloc_new _ _
  obtain ⟨W2, hW2⟩ : ∃ W2, W2 = ChangeMaps.setBlock W1 (w.heap.size + 1) (mapObj .u32 [(20, 8), (23, 4), (21, 2)]) := ⟨_, rfl⟩
  have hB2 : Below w.heap.size w W2 := by
    rw [hW2, hW1, hW0]
    exact below_setBlock (below_alloc (below_alloc (Below.refl _ _) _) _) _ (by omega)
  have g64 : W2.heap[w.heap.size]? = some (.cells #[.int .i64 0, .int .i64 0, .float .f64 0, .string ⟨#[]⟩, .bool false, .int .i64 0, .int .i64 0, .int .i64 0, .int .i64 0, .int .i64 0, .int .i64 0, .int .i64 0, .int .i64 0] 64 (0, 0)) := by
    rw [hW2, setBlock_other _ _ _ _ (by omega), hW1]
    exact ((below_alloc (Below.refl W0.heap.size W0) _).block w.heap.size (by omega)).trans h64
  have z2 : W2.heap.size = w.heap.size + 2 := by
    have e1 : ∀ o, (ChangeMaps.setBlock W1 (w.heap.size + 1) o).heap.size = W1.heap.size := fun o => by simp [ChangeMaps.setBlock]
    have e2 : W1.heap.size = W0.heap.size + 1 := by rw [hW1]; show (W0.heap.push _).size = _; simp
    rw [hW2, e1, e2, z0]
  simp only [List.nil_append, List.cons_append] at i1 i2 i3
  rw [← hW2] at i3 i4
  have hlt : decide ((s.size : Int) < (decMost typ : Int)) = true := decide_eq_true (by omega)
  have hlt2 : ((s.size : Int) < (decMost typ : Int)) = True := eq_true (by omega)
  have hlt3 : (s.size < decMost typ) = True := eq_true (by omega)
  clear hW2
  subst hW1 hW0
  go_enter Try.func27, Try.ntmps27
  go_wp2_with (first | (refine wpList_store_row (hgd := ?h1) 64 (.tmp 4) (.tmp 15) ?h2 w.heap.size #[.int .i64 0, .int .i64 (0), .float .f64 0, .string (⟨#[]⟩), .bool false, .int .i64 0, .int .i64 0, .int .i64 0, .int .i64 0, .int .i64 0, .int .i64 0, .int .i64 0, .int .i64 0] ?h3 ?h4 64 _ g64 ?h5 ?h6 ?h7 ?_; (case h2 => rfl); (case h1 => rfl); (case h3 => rfl); (case h4 => rfl); (case h5 => kernel_rfl); (case h6 => rfl); (case h7 => simp [Value.oneCell'])))
  exact bodyPost_ret (results_ct (d := _) rfl _ _ w.heap.size 64 _ _ rfl (setRow_heap _ _ _ _ _ _ g64) Try.underlying64 rfl (by kernel_rfl)) rfl ⟨rfl, below_setRow' hB2 (Nat.le_refl _) _⟩
set_option maxHeartbeats 1000000 in
set_option maxRecDepth 100000 in
theorem impl_DecodedBinary.bytes (s : ByteArray) (w : World) (hs : s.size ≤ 9223372036854775807) :
    Calls Try.prog 27 #[  .int .u32 17, .string s] w fun e w' => e = .returned (.tuple #[datumV 4 0 s, .bool true]) ∧ Below w.heap.size w w' := by
  have hmm := @run_makeMap Try.prog
  have hins : ∀ (W : World) b l k v, W.heap[b]? = some (mapObj .u32 l) → (∀ p ∈ l, p.1 ≠ k) → (Instr.mapUpdate 94 (.map (some b)) (.int .u32 k) (.int .i64 v)).run Try.prog W = .ok () (ChangeMaps.setBlock W b (mapObj .u32 (l ++ [(k, v)]))) := fun W b l k v hb hn => run_lit_insert Try.underlying94 Try.underlying93 hb hn
  have hlk : ∀ (W : World) b l k, W.heap[b]? = some (mapObj .u32 l) → (Instr.lookup 94 (.map (some b)) (.int .u32 k) false).run Try.prog W = .ok (.int .i64 (look l k)) W := fun W b l k hb => run_lit_lookup Try.underlying94 Try.underlying93 (by kernel_rfl) hb
  obtain ⟨W0, hW0⟩ : ∃ W0, W0 = w.alloc (.cells #[.int .i64 0, .int .i64 0, .float .f64 0, .string ⟨#[]⟩, .bool false, .int .i64 0, .int .i64 0, .int .i64 0, .int .i64 0, .int .i64 0, .int .i64 0, .int .i64 0, .int .i64 0] 64 (0, 0)) := ⟨_, rfl⟩
  have z0 : W0.heap.size = w.heap.size + 1 := by rw [hW0]; show (w.heap.push _).size = _; simp
  have m0 : (W0.alloc (Obj.map #[] 0)).heap[w.heap.size + 1]? = some (mapObj .u32 []) := by rw [← z0]; exact heap_alloc_new _ _
  obtain ⟨W1, hW1⟩ : ∃ W1, W1 = W0.alloc (Obj.map #[] 0) := ⟨_, rfl⟩
  rw [← hW1] at m0
  have i1 := hins W1 _ [] 20 8 m0 (by simp)
  have l1 := blk_lt m0
  have i2 := hins _ (w.heap.size + 1) _ 23 4 (setBlock_at W1 (w.heap.size + 1) (mapObj .u32 [(20, 8)]) l1) (by simp)
  rw [setBlock_twice] at i2
  have i3 := hins _ (w.heap.size + 1) _ 21 2 (setBlock_at W1 (w.heap.size + 1) (mapObj .u32 [(20, 8), (23, 4)]) l1) (by simp)
  rw [setBlock_twice] at i3
  have i4 := hlk _ (w.heap.size + 1) _ 17 (setBlock_at W1 (w.heap.size + 1) (mapObj .u32 [(20, 8), (23, 4), (21, 2)]) l1)
  have hlook : look [(20, 8), (23, 4), (21, 2)] 17 = 0 := rfl
  rw [hlook] at i4
  have h64 : W0.heap[w.heap.size]? = some (.cells #[.int .i64 0, .int .i64 0, .float .f64 0, .string ⟨#[]⟩, .bool false, .int .i64 0, .int .i64 0, .int .i64 0, .int .i64 0, .int .i64 0, .int .i64 0, .int .i64 0, .int .i64 0] 64 (0, 0)) := by rw [hW0]; exact heap_alloc_new _ _
  obtain ⟨W2, hW2⟩ : ∃ W2, W2 = ChangeMaps.setBlock W1 (w.heap.size + 1) (mapObj .u32 [(20, 8), (23, 4), (21, 2)]) := ⟨_, rfl⟩
  have hB2 : Below w.heap.size w W2 := by
    rw [hW2, hW1, hW0]
    exact below_setBlock (below_alloc (below_alloc (Below.refl _ _) _) _) _ (by omega)
  have g64 : W2.heap[w.heap.size]? = some (.cells #[.int .i64 0, .int .i64 0, .float .f64 0, .string ⟨#[]⟩, .bool false, .int .i64 0, .int .i64 0, .int .i64 0, .int .i64 0, .int .i64 0, .int .i64 0, .int .i64 0, .int .i64 0] 64 (0, 0)) := by
    rw [hW2, setBlock_other _ _ _ _ (by omega), hW1]
    exact ((below_alloc (Below.refl W0.heap.size W0) _).block w.heap.size (by omega)).trans h64
  have z2 : W2.heap.size = w.heap.size + 2 := by
    have e1 : ∀ o, (ChangeMaps.setBlock W1 (w.heap.size + 1) o).heap.size = W1.heap.size := fun o => by simp [ChangeMaps.setBlock]
    have e2 : W1.heap.size = W0.heap.size + 1 := by rw [hW1]; show (W0.heap.push _).size = _; simp
    rw [hW2, e1, e2, z0]
  simp only [List.nil_append, List.cons_append] at i1 i2 i3
  rw [← hW2] at i3 i4
  have kb := print_bytes (P := Try.prog) 9 58 5 Try.underlying9 Try.underlying58 Try.underlying5 s W2
  have hC : Kd.C (Kd.int .u8) (Lib.bytesWorld W2 5 s) (some ⟨W2.heap.size, 0, none⟩) (bytesOf s).length (bytesOf s) := by rw [bytesOf_length]; exact Kd.C_of_reads (d := (0 : Int)) (h1 := fun _ => rfl) (bytes_reads W2 5 s hs)
  rw [bytesOf_length] at hC
  have hlt : decide ((s.size : Int) < 0) = false := decide_eq_false (by omega)
  have hlt2 : ((s.size : Int) < 0) = False := eq_false (by omega)
  have hlt3 : ((s.size : Int) < 0) = False := eq_false (by omega)
  rw [z2] at hC
  have hnum := fun W => pq_BinaryDecode.bytes (some ⟨w.heap.size + 2, 0, none⟩) s.size (grownCap W2 s.size 0 5) W
  clear hW2
  subst hW1 hW0
  go_enter Try.func27, Try.ntmps27
  go_wp2_with fail
  refine (hnum _).mono ?_
  rintro e w5 ⟨rfl, hb5⟩
  have hB5 : Below W2.heap.size W2 w5 := Below.trans (bytes_below (Below.refl W2.heap.size W2) (Nat.le_refl _) 5 s) (hb5.mono (by rw [Lib.bytesWorld_size]; omega))
  have hC5 := Kd.C_below (bytesOf_length s ▸ hC) hb5
  clear i1 i2 i3 i4 hmm hins hlk kb hC hnum hlt hlt2 hlt3 m0 l1 z0 h64
  go_wp2_with fail
  have hdb := impl_datum.bytes (some ⟨w.heap.size + 2, 0, none⟩) (grownCap W2 s.size 0 5) (bytesOf s) w5 hC5
  rw [bytesOf_length, strOfNums_of] at hdb
  refine hdb.mono ?_
  rintro e w6 ⟨rfl, hb6⟩
  have hB6 := below_step hB5 hb6
  have g6 := (hB6.block w.heap.size (by omega)).trans g64
  have hB7 : Below w.heap.size w w6 := Below.trans hB2 (hB6.mono hB2.size)
  go_wp2_with (first | (refine wpList_store_row (hgd := ?h1) 64 (.tmp 4) (.tmp 23) ?h2 w.heap.size #[.int .i64 4, .int .i64 0, .float .f64 0, .string s, .bool false, .int .i64 0, .int .i64 0, .int .i64 0, .int .i64 0, .int .i64 0, .int .i64 0, .int .i64 0, .int .i64 0] ?h3 ?h4 64 _ g6 ?h5 ?h6 ?h7 ?_; (case h2 => rfl); (case h1 => rfl); (case h3 => rfl); (case h4 => rfl); (case h5 => kernel_rfl); (case h6 => rfl); (case h7 => simp [Value.oneCell'])))
  exact bodyPost_ret (results_ct (d := _) rfl _ _ w.heap.size 64 _ _ rfl (setRow_heap _ _ _ _ _ _ g6) Try.underlying64 rfl (by kernel_rfl)) rfl ⟨rfl, below_setRow' hB7 (Nat.le_refl _) _⟩

end Go.Proofs.Ythcikkjjegfblab.P
