/- encodeBytea over the shelf's contract of encoding/hex.Encode, and what spec.Hex tells. Conditions: at most 1000 bytes. -/
import Derived.Test.YtlhjblbmhlelbaaDoorPk
import Derived.Test.YtlhjblbmhlelbaaDoorShelf
import Derived.Test.YtlhjblbmhlelbaaDoorLib
namespace Go.Proofs.YtlhjblbmhlelbaaDoor.P
open Go.RowKit Go.Proofs.YtlhjblbmhlelbaaDoorW.PrintWords Go.Proofs.YtlhjblbmhlelbaaDoorW.PrintLast Go.Proofs.YtlhjblbmhlelbaaDoorW.PrintMore
set_option linter.unusedVariables false
set_option linter.unusedSimpArgs false
theorem HB3_of {w w2 w3 : World} {g : Nat} (h : Below w.heap.size w w2) (hg : w.heap.size ≤ g) (h3 : w2.grownBy w3 (some g)) : Below w.heap.size w w3 :=
  ⟨h3.os.trans h.os, h3.tape.trans h.tape, h3.output.trans h.output, Nat.le_trans h.size h3.size, fun i hi => (h3.block i (Nat.lt_of_lt_of_le hi h.size) (by simp; omega)).trans (h.block i hi)⟩
theorem mkb_run {P : Program} (t e : TypeId) (z : Value) (size bytes : Nat) (ht : P.underlying t = some (.slice e)) (hinfo : (P.info? e).map (fun i => (i.zero, i.size, i.bytes)) = some (some z, size, bytes)) (hb0 : 0 < bytes) (n : Nat) (M : Int) (hM : M = (n : Int)) (hl : n * bytes ≤ 281474976710656) (W : World) :
    (Instr.makeSlice t (.int .i64 M) (.int .i64 M)).run P W = .ok (.slice (some ⟨W.heap.size, 0, none⟩) n n) (W.alloc (.cells (madeCells z.cells (n * size)) e)) := by
  subst hM
  obtain ⟨i0, hi, hzz⟩ := Option.map_eq_some_iff.1 hinfo
  simp only [Prod.mk.injEq] at hzz
  obtain ⟨hz0, hz1, hz2⟩ := hzz
  have hm : n ≤ 281474976710656 := Nat.le_trans (Nat.le_mul_of_pos_right _ hb0) hl
  have hr := run_make (P := P) (w := W) t e i0 z ht hi hz0 .i64 .i64 (n : Int) (n : Int) (by omega) (Int.le_refl _)
    (by
      have h3 : ((i0.bytes * n : Nat) : Int) ≤ 281474976710656 := by rw [hz2, Nat.mul_comm]; omega
      rwa [Int.natCast_mul] at h3) (by omega)
  simp only [Int.toNat_natCast, hz1] at hr
  exact hr
def zeros8 (n : Nat) : Array Value := madeCells #[.int .u8 0] n
theorem zeros8_size (n : Nat) : (zeros8 n).size = n := by simp [zeros8, madeCells]
theorem zeros8_at (n j : Nat) (h : j < n) : (zeros8 n)[j]? = some (.int .u8 0) := by
  simp [zeros8, madeCells, h, Nat.mod_one]
abbrev enc8 (xs : List Int) : List Int := (Go.Lib.Hx.encode (Go.Lib.bytesOf xs)).map fun b => (b.toNat : Int)
/-- The cells behind the two stores. -/
def headCells (m : Nat) : Array Value := ((zeros8 m).setIfInBounds 0 (.int .u8 92)).setIfInBounds 1 (.int .u8 120)
theorem headCells_size (m : Nat) : (headCells m).size = m := by simp [headCells, zeros8_size]
theorem head_own {w W3 w4 : World} {g n m od : Nat} {xs : List Int} (hm : m = 2 * n + 2) (hx : xs.length = n) (hod : n = 0 ∨ od = 2) (hn : n ≤ 1000)
    (h4 : w4.rowIs g 5 m (Go.Lib.Hx.row (fun i => ((headCells m)[i]?).getD undef) od (Go.Lib.bytesOf xs) n)) (base : Nat) (hb : base ≤ g) :
    Kd.R (Kd.int .u8) 5 w4 base (fun _ => True) (.slice (some ⟨g, 0, none⟩) m m) (92 :: 120 :: enc8 xs) := by
  obtain ⟨c, hh, hs, hc⟩ := h4
  have hel : (enc8 xs).length = 2 * n := by
    rw [List.length_map, Go.Lib.Hx.encode_length]
    simp [Go.Lib.bytesOf, hx]
  have hlen : (92 :: 120 :: enc8 xs : List Int).length = m := by simp only [List.length_cons, hel]; omega
  have hzs := zeros8_size m
  refine Kd.R_of_own (enc := Value.int .u8) (h1 := fun _ => rfl) ⟨by rw [Nat.mul_one]; simp only [encs, List.length_map], .inr ⟨g, m, c, by rw [hlen], hb, hh, by rw [hlen]; exact Nat.le_refl _, by simp only [maxLen]; omega, by omega, ?_⟩⟩ (fun _ _ => trivial)
  rw [hlen, Nat.mul_one]
  apply List.ext_getElem?
  intro i
  by_cases hi : i < m
  · rw [List.getElem?_take, if_pos hi, Array.getElem?_toList, hc i hi]
    unfold Go.Lib.Hx.row
    rcases Nat.lt_or_ge i 2 with h2 | h2
    · rw [if_neg (by rcases hod with h | h <;> omega)]
      have hi01 : i = 0 ∨ i = 1 := by omega
      rcases hi01 with rfl | rfl
      · simp [headCells, encs, hzs, Array.getElem?_setIfInBounds, hi]
      · simp [headCells, encs, hzs, Array.getElem?_setIfInBounds, hi]
    · have hod2 : od = 2 := by rcases hod with h | h; omega; exact h
      rw [if_pos (by omega), hod2]
      have hlt : i - 2 < (Go.Lib.Hx.encode (Go.Lib.bytesOf xs)).length := by rw [List.length_map] at hel; omega
      obtain ⟨k, rfl⟩ : ∃ k, i = k + 2 := ⟨i - 2, by omega⟩
      have hlt' : k < (Go.Lib.Hx.encode (Go.Lib.bytesOf xs)).length := by simpa using hlt
      simp [encs, List.getElem?_eq_getElem hlt']
  · rw [List.getElem?_take, if_neg hi, List.getElem?_eq_none (by simp only [encs, List.length_map, hlen]; omega)]
set_option maxHeartbeats 4000000 in
set_option maxRecDepth 100000 in
theorem pq_encodeBytea_all (b n c0 : Nat) (xs : List Int) (w : World) (hx : xs.length = n) (hn : n ≤ 1000) (hblk : b < w.heap.size) (hr : Kd.C (Kd.int .u8) w (some ⟨b, 0, none⟩) n xs) (hby : ∀ x ∈ xs, 0 ≤ x ∧ x < 256) :
    Calls Tryd.prog 46 #[.slice (some ⟨b, 0, none⟩) n c0] w fun e w' => Below w.heap.size w w' ∧ ∃ v, e = .returned v ∧ Kd.R (Kd.int .u8) 5 w' w.heap.size (fun _ => True) v (92 :: 120 :: enc8 xs) := by
  obtain ⟨m, hm⟩ : ∃ m, m = 2 * n + 2 := ⟨_, rfl⟩
  obtain ⟨E1, hE1⟩ : ∃ E1 : Int, E1 = ((2 * n : Nat) : Int) := ⟨_, rfl⟩
  obtain ⟨M, hM⟩ : ∃ M : Int, M = (m : Int) := ⟨_, rfl⟩
  have hel : hex_EncodedLen.f (n : Int) = some E1 := by
    unfold hex_EncodedLen.f
    rw [hE1]
    congr 1
    unfold wrap64
    omega
  have HEL := Aside0.mk hel
  have hw1 : wrap64 (2 + E1) = M := by unfold wrap64; omega
  have hmk := fun W => mkb_run (P := Tryd.prog) 47 5 (.int .u8 0) 1 1 Tryd.underlying47 (by kernel_rfl) (by omega) m M hM (by omega) W
  rw [show madeCells (Value.int .u8 0).cells (m * 1) = zeros8 m by rw [Nat.mul_one]; rfl] at hmk
  have z0 : ∀ nd : Nat, ((w.drewN nd).alloc (.cells (zeros8 m) 5)).cell? ⟨w.heap.size, 0, none⟩ = some (.int .u8 0) := fun nd => (blk_cell (heap_alloc_new (w.drewN nd) (.cells (zeros8 m) 5)) 0).trans (zeros8_at m 0 (by omega))
  have z1 : ∀ nd : Nat, ((w.drewN nd).alloc (.cells (zeros8 m) 5)).cell? ⟨w.heap.size, 1, none⟩ = some (.int .u8 0) := fun nd => (blk_cell (heap_alloc_new (w.drewN nd) (.cells (zeros8 m) 5)) 1).trans (zeros8_at m 1 (by omega))
  have y0 : ∀ nd : Nat, ((w.drewN nd).alloc (.cells (zeros8 m) 5)).frozen? ⟨w.heap.size, 0, none⟩ = false := fun nd => blk_frozen (heap_alloc_new (w.drewN nd) (.cells (zeros8 m) 5)) 0
  have y1 : ∀ nd : Nat, ((w.drewN nd).alloc (.cells (zeros8 m) 5)).frozen? ⟨w.heap.size, 1, none⟩ = false := fun nd => blk_frozen (heap_alloc_new (w.drewN nd) (.cells (zeros8 m) 5)) 1
  have q0 : ((0 : Int) < (m : Int)) = True := eq_true (by omega)
  have q1 : ((1 : Int) < (m : Int)) = True := eq_true (by omega)
  have q2 : (0 < m) = True := eq_true (by omega)
  have q3 : (1 < m) = True := eq_true (by omega)
  have q4 : ((2 : Int) ≤ (m : Int)) = True := eq_true (by omega)
  have q5 : (2 ≤ m) = True := eq_true (by omega)
  have hsrc : ∀ (W : World), Below w.heap.size w W → ∀ i, i < n → W.cell? ⟨b, 0 + i, none⟩ = some (.int .u8 (xs.getD i 0)) := by
    intro W hW i hi
    obtain ⟨ad, ea, hh⟩ := (Kd.reads_of_C (d := (0 : Int)) hr).2.2 (by omega)
    injection ea with ea
    subst ea
    have h1 := hh i (by omega)
    have h2 : (⟨b, 0, none⟩ : Addr).add i = ⟨b, 0 + i, none⟩ := by
      unfold Addr.add
      split <;> simp_all
    rw [h2] at h1
    exact (hW.cell hblk).trans h1
  have hbr : ∀ i, i < n → 0 ≤ xs.getD i 0 ∧ xs.getD i 0 < 256 := fun i hi => by
    rw [List.getD_eq_getElem?_getD, List.getElem?_eq_getElem (by omega)]
    exact hby _ (List.getElem_mem (by omega))
  have hW3 : ∀ nd : Nat, Below w.heap.size w ((((w.drewN nd).alloc (.cells (zeros8 m) 5)).setCell ⟨w.heap.size, 0, none⟩ (.int .u8 92)).setCell ⟨w.heap.size, 1, none⟩ (.int .u8 120)) ∧ ((((w.drewN nd).alloc (.cells (zeros8 m) 5)).setCell ⟨w.heap.size, 0, none⟩ (.int .u8 92)).setCell ⟨w.heap.size, 1, none⟩ (.int .u8 120)).heap[w.heap.size]? = some (.cells (headCells m) 5 (0, 0)) := fun nd =>
    ⟨((below_alloc (pw_below_drewN (Below.refl _ _) nd) _).setCell (Nat.le_refl _) _).setCell (Nat.le_refl _) _, blk_set (blk_set (heap_alloc_new (w.drewN nd) (.cells (zeros8 m) 5)) 0 _) 1 _⟩
  have hcall : ∀ (od nd2 cd : Nat) (W : World), (n = 0 ∨ od = 2) → od + nd2 ≤ m → 2 * n ≤ nd2 → Below w.heap.size w W → W.heap[w.heap.size]? = some (.cells (headCells m) 5 (0, 0)) → Calls Tryd.prog 65 #[.slice (some ⟨w.heap.size, od, none⟩) nd2 cd, .slice (some ⟨b, 0, none⟩) n c0] W fun e w' => (∃ r, e = .returned (.int .i64 r)) ∧ Below w.heap.size w w' ∧ Kd.R (Kd.int .u8) 5 w' w.heap.size (fun _ => True) (.slice (some ⟨w.heap.size, 0, none⟩) m m) (92 :: 120 :: enc8 xs) := by
    intro od nd2 cd W hod hfit hlen hW hh
    have hrow : W.rowIs w.heap.size 5 m (fun i => ((headCells m)[i]?).getD undef) := ⟨_, hh, headCells_size m, fun i hi => by
      have : i < (headCells m).size := by rw [headCells_size]; exact hi
      simp [this]⟩
    refine (Tryd.hex_Encode_tag 5 w.heap.size od nd2 cd m _ b 0 n c0 xs W hx hbr (hsrc W hW) hrow hfit hlen (by omega) (by omega)).mono ?_
    rintro e w4 ⟨rfl, hrow4, hg4⟩
    exact ⟨⟨_, rfl⟩, HB3_of hW (Nat.le_refl _) hg4, head_own (w := w) (W3 := W) hm hx hod hn hrow4 _ (Nat.le_refl _)⟩
  have HCALL := Aside0.mk hcall
  have HW3 := Aside0.mk hW3
  have HN := Aside0.mk hn
  have HMM := Aside0.mk hm
  clear hel hE1 hM hr hsrc hbr hW3 hcall hby hx hblk hn
  by_cases hn0 : n = 0
  · have hm2 : m = 2 := by omega
    clear hm
    subst hn0
    subst hm2
    --{A
    go_enter Tryd.func46, Tryd.ntmps46
    go_wp2_with (first | (go_at_call 64; (refine (hex_EncodedLen.calls _ _ _ HEL.out).mono ?_); rintro e w1 ⟨rfl, ⟨nd, rfl⟩⟩) | (go_at_call 65; refine (HCALL.out 0 0 _ _ (by simp) (by simp) (by simp) (HW3.out _).1 (HW3.out _).2).mono ?_; rintro e w4 ⟨⟨r, rfl⟩, hb4, hR4⟩; have HB4 := Aside0.mk hb4; have HR4 := Aside0.mk hR4; clear hb4 hR4))
    go_ret
    exact ⟨HB4.out, _, rfl, HR4.out⟩
    --}A
  · have r1 : (m = 2) = False := eq_false (by omega)
    have r2 : ((m : Int) < 2) = False := eq_false (by omega)
    have r3 : (m < 2) = False := eq_false (by omega)
    clear hm
    --{B
    go_enter Tryd.func46, Tryd.ntmps46
    go_wp2_with (first | (go_at_call 64; (refine (hex_EncodedLen.calls _ _ _ HEL.out).mono ?_); rintro e w1 ⟨rfl, ⟨nd, rfl⟩⟩) | (go_at_call 65; refine (HCALL.out 2 (m - 2) _ _ (.inr rfl) (by have := HMM.out; omega) (by have := HMM.out; omega) (HW3.out _).1 (HW3.out _).2).mono ?_; rintro e w4 ⟨⟨r, rfl⟩, hb4, hR4⟩; have HB4 := Aside0.mk hb4; have HR4 := Aside0.mk hR4; clear hb4 hR4))
    go_ret
    exact ⟨HB4.out, _, rfl, HR4.out⟩
    --}B
end Go.Proofs.YtlhjblbmhlelbaaDoor.P
namespace Go.Proofs.YtlhjblbmhlelbaaDoor.Lib
open Go.RowKit Go.Proofs.YtlhjblbmhlelbaaDoor.P Go.Proofs.YtlhjblbmhlelbaaDoorW.PrintWords Go.Proofs.YtlhjblbmhlelbaaDoorW.PrintLast Go.Proofs.YtlhjblbmhlelbaaDoorW.PrintMore
abbrev nat8 (l : List UInt8) : List Int := l.map fun b => (b.toNat : Int)
theorem and15 : ∀ c : Fin 256, Go.bits .and .u8 (c.val : Int) 15 = (c.val : Int) % 16 := by decide +kernel
theorem dig_bt : ∀ n : Fin 16, bt (⟨#[48, 49, 50, 51, 52, 53, 54, 55, 56, 57, 97, 98, 99, 100, 101, 102]⟩ : ByteArray) (n.val : Int) = ((Go.Lib.Hx.digit n.val).toNat : Int) := by decide +kernel
theorem hex_l0 (s : ByteArray) (b : Bool) (r : ByteArray) : ∀ (l : List UInt8) (i : Nat) (x5 : List Int), s.data.toList.drop i = l → i ≤ s.size → x5.length + 2 * l.length ≤ 100000 → s.size ≤ 100000 → Ev (fun k => spec_Hex.l1 k b (x5 ++ nat8 (Go.Lib.Hx.encode l)) 2) r → Ev (fun k => spec_Hex.l0 k s b x5 (i : Int)) r := by
  intro l
  induction l with
  | nil =>
    intro i x5 h hi hb hsz hr
    have he : s.size = i := by
      have := congrArg List.length h
      rw [List.length_drop, List.length_nil] at this
      have h2 : s.data.toList.length = s.size := by simp
      omega
    refine Ev.step (fun k => spec_Hex.l0.eq_2 _ _ _ _ _) <| Ev.if_neg (by omega) ?_
    simpa [Go.Lib.Hx.encode] using hr
  | cons c t ih =>
    intro i x5 h hi hb hsz hr
    have hlt : i < s.size := by
      rcases Nat.lt_or_ge i s.size with hl | hl
      · exact hl
      · rw [List.drop_of_length_le (by simpa using hl)] at h; cases h
    have hl2 : i < s.data.toList.length := by simpa using hlt
    rw [List.drop_eq_getElem_cons hl2] at h
    injection h with h1 h2
    have hbt : bt s (i : Int) = (c.toNat : Int) := by
      unfold bt
      rw [dif_pos (by simpa using hlt), ← h1]
      rfl
    have hc := c.toNat_lt
    have e1 : (c.toNat : Int) / 16 = ((c.toNat / 16 : Nat) : Int) := by omega
    have e2 : Go.bits .and .u8 (c.toNat : Int) 15 = ((c.toNat % 16 : Nat) : Int) := by
      show Go.bits .and .u8 ((⟨c.toNat, hc⟩ : Fin 256).val : Int) 15 = _
      rw [and15]
      show (c.toNat : Int) % 16 = _
      omega
    have d1 : bt (⟨#[48, 49, 50, 51, 52, 53, 54, 55, 56, 57, 97, 98, 99, 100, 101, 102]⟩ : ByteArray) ((c.toNat / 16 : Nat) : Int) = ((Go.Lib.Hx.digit (c.toNat / 16)).toNat : Int) := dig_bt ⟨c.toNat / 16, by omega⟩
    have d2 : bt (⟨#[48, 49, 50, 51, 52, 53, 54, 55, 56, 57, 97, 98, 99, 100, 101, 102]⟩ : ByteArray) ((c.toNat % 16 : Nat) : Int) = ((Go.Lib.Hx.digit (c.toNat % 16)).toNat : Int) := dig_bt ⟨c.toNat % 16, by omega⟩
    have ew : wrap64 ((i : Int) + 1) = ((i + 1 : Nat) : Int) := by rw [wrap64_id (by omega) (by omega)]; omega
    simp only [List.length_cons] at hb
    refine Ev.step (fun k => spec_Hex.l0.eq_2 _ _ _ _ _) ?_
    rw [hbt, e1, e2, ew, d1, d2]
    clear hbt e1 e2 ew d1 d2
    refine Ev.if_pos (by omega) <| Ev.if_pos (by omega) <| Ev.if_pos (by omega) <| Ev.if_pos (by omega) <| Ev.if_pos (by omega) <| Ev.if_pos (by omega) <| Ev.bind (Ev.now _) <| Ev.if_pos (by simp; omega) ?_
    refine ih (i + 1) _ h2 (by omega) (by simp; omega) hsz ?_
    rw [Go.Lib.Hx.encode_cons] at hr
    simpa using hr
/-- Hex, with small digits. -/
theorem hex_small (s : ByteArray) (hs : s.size ≤ 1000) : Ev (fun k => spec_Hex.f k s false) (strOfNums (92 :: 120 :: nat8 (Go.Lib.Hx.encode s.data.toList))) := by
  unfold spec_Hex.f
  have hl : s.data.toList.length = s.size := by simp
  refine hex_l0 s false _ s.data.toList 0 [92, 120] (List.drop_zero) (Nat.zero_le _) (by simp; omega) (by omega) ?_
  refine Ev.step (fun k => spec_Hex.l1.eq_2 _ _ _ _) ?_
  have hj : Ev (fun k => spec_Hex.j2 k false (92 :: 120 :: nat8 (Go.Lib.Hx.encode s.data.toList)) 2 false) (strOfNums (92 :: 120 :: nat8 (Go.Lib.Hx.encode s.data.toList))) :=
    Ev.step (fun k => spec_Hex.j2.eq_2 _ _ _ _ _) <| Ev.if_neg (by simp) <| Ev.now _
  by_cases hx : (2 : Int) < (([92, 120] ++ nat8 (Go.Lib.Hx.encode s.data.toList) : List Int).length : Int)
  · exact Ev.if_pos hx hj
  · exact Ev.if_neg hx hj
end Go.Proofs.YtlhjblbmhlelbaaDoor.Lib
