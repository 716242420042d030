/- The walks of parseBytea and ByteaRead on texts in the hex format, over the shelf's contract of encoding/hex.Decode. Conditions: what the variable ErrLength holds is named (ev). -/
import Derived.Test.YthcikkjjegfbladDoorPx5
import Derived.Test.YthcikkjjegfbladDoorPx1
import Derived.Test.YthcikkjjegfbladDoorShelf
namespace Go.Proofs.YthcikkjjegfbladDoor.P
open Go.RowKit Go.Proofs.YthcikkjjegfbladDoorW.PrintWords Go.Proofs.YthcikkjjegfbladDoorW.PrintLast Go.Proofs.YthcikkjjegfbladDoorW.PrintMore
set_option linter.unusedVariables false
set_option linter.unusedSimpArgs false
/-- What decoding tells of the digits xs. -/
def hexD (xs : List Int) : List UInt8 × Go.Lib.Hx.Out := Go.Lib.Hx.decode (Go.Lib.bytesOf xs)
theorem hexD_len (xs : List Int) : (hexD xs).2 = .ok → (hexD xs).1.length = xs.length / 2 := by
  have h : ∀ l : List UInt8, (Go.Lib.Hx.decode l).2 = .ok → (Go.Lib.Hx.decode l).1.length = l.length / 2 := by
    intro l
    induction l using Go.Lib.Hx.decode.induct with
    | case1 => intro _; rw [Go.Lib.Hx.decode_nil]; rfl
    | case2 c hc => intro h; rw [Go.Lib.Hx.decode_one, if_pos hc] at h; cases h
    | case3 c hc => intro h; rw [Go.Lib.Hx.decode_one, if_neg hc] at h; cases h
    | case4 p q t hp => intro h; rw [Go.Lib.Hx.decode_two, if_pos hp] at h; cases h
    | case5 p q t hp hq => intro h; rw [Go.Lib.Hx.decode_two, if_neg hp, if_pos hq] at h; cases h
    | case6 p q t hp hq ih => intro h; rw [Go.Lib.Hx.decode_two, if_neg hp, if_neg hq] at h ⊢; have := ih h; simp only [List.length_cons]; omega
  intro h0
  have := h _ h0
  rw [show (hexD xs).1 = (Go.Lib.Hx.decode (Go.Lib.bytesOf xs)).1 from rfl, this]
  simp [Go.Lib.bytesOf]
theorem rowP_own {w : World} {G : Nat} {t : TypeId} {cap : Nat} {f : Nat → Value} {D : List UInt8} (h : w.rowIs G t cap (Go.Lib.Hx.rowP f 0 D)) (hD : D.length ≤ cap) (hcap : cap ≤ maxLen) (base : Nat) (hb : base ≤ G) :
    w.ownsRow base t 1 (.slice (some ⟨G, 0, none⟩) D.length cap) D.length (encs (Value.int .u8) (D.map fun b => (b.toNat : Int))) := by
  obtain ⟨c, hh, hs, hc⟩ := h
  refine ⟨by simp [encs], .inr ⟨G, cap, c, rfl, hb, hh, hD, hcap, by omega, ?_⟩⟩
  rw [Nat.mul_one]
  apply List.ext_getElem?
  intro i
  by_cases hi : i < D.length
  · have h1 := hc i (by omega)
    rw [List.getElem?_take, if_pos hi, Array.getElem?_toList, h1]
    simp [Go.Lib.Hx.rowP, hi, encs]
  · rw [List.getElem?_take, if_neg hi, List.getElem?_eq_none (by simp only [encs, List.length_map]; omega)]
theorem HB3_of {w w2 w3 : World} {g : Nat} (h : Below w.heap.size w w2) (hg : w.heap.size ≤ g) (h3 : w2.grownBy w3 (some g)) : Below w.heap.size w w3 :=
  ⟨h3.os.trans h.os, h3.tape.trans h.tape, h3.output.trans h.output, Nat.le_trans h.size h3.size, fun i hi => (h3.block i (Nat.lt_of_lt_of_le hi h.size) (by simp; omega)).trans (h.block i hi)⟩
set_option maxHeartbeats 4000000 in
set_option maxRecDepth 100000 in
theorem pq_parseBytea_hex (b c0 : Nat) (xs : List Int) (w : World) (te : TypeId) (xe : Value) (hr : Kd.C (Kd.int .u8) w (some ⟨b, 0, none⟩) (xs.length + 2) ((92 : Int) :: 120 :: xs)) (hc : xs.length + 2 ≤ c0) (hx : ∀ x ∈ xs, 0 ≤ x ∧ x < 256) (hl : xs.length ≤ 1000000) (h0 : 0 < xs.length) (hE : w.cell? ⟨0, 0, none⟩ = some (.iface te xe)) :
    Calls Tryd.prog 11 #[.slice (some ⟨b, 0, none⟩) (xs.length + 2) c0] w fun e w' => Below w.heap.size w w' ∧
      ((hexD xs).2 = .ok → ∃ v, e = .returned (.tuple #[v, .nilIface]) ∧ Kd.R (Kd.int .u8) 5 w' w.heap.size (fun _ => True) v ((hexD xs).1.map (fun b => (b.toNat : Int)))) ∧
      ((hexD xs).2 ≠ .ok → ∃ t x, e = .returned (.tuple #[.slice none 0 0, .iface t x])) := by
  have hu32 := Tryd.underlying32
  have hcell := fun (i : Nat) (hi : i < xs.length + 2) => Kd.C_get hr (0 : Int) (i : Int) (by omega) (by omega)
  have HR := Aside0.mk hr
  have HX := Aside0.mk hx
  have HL := Aside0.mk hl
  have HE := Aside0.mk hE
  have HC := Aside0.mk hc
  have hcv : Kd.C (Kd.int .u8) w (some ⟨b, 0, none⟩) 2 [(92 : Int), 120] := by
    have := Kd.C_take (m := 2) (xs := (92 : Int) :: 120 :: xs) (by simpa using hr) (by simp)
    simpa using this
  have hcs := fun c_ : Nat => Kd.C_string (P := Tryd.prog) (c := c_) Tryd.underlying23 Tryd.underlying5 Tryd.underlying9 hcv
  have hs1 : strOfNums [92, 120] = ⟨#[92, 120]⟩ := rfl
  rw [hs1] at hcs
  have hc2 : (c0 = 2) = False := eq_false (by omega)
  have hc3 : ((c0 : Int) < 2) = False := eq_false (by omega)
  have hc4 : (c0 < 2) = False := eq_false (by omega)
  have H0 := Aside0.mk h0
  have g2 : decide ((2 : Int) ≤ ((xs.length + 2 : Nat) : Int)) = true := decide_eq_true (by omega)
  have g2b : ((2 : Int) ≤ ((xs.length + 2 : Nat) : Int)) = True := eq_true (by omega)
  have hn : ((xs.length + 2 : Nat) : Int) = (xs.length : Int) + 2 := by omega
  clear hr hx hl hE hc hcv hcell hs1
  go_enter Tryd.func11, Tryd.ntmps11
  go_wp2_with fail
  rotate_left
  · exfalso; have := HC.out; omega
  have hdl : hex_DecodedLen.f (xs.length : Int) = some (((xs.length / 2 : Nat)) : Int) := by
    unfold hex_DecodedLen.f
    rw [Int.tdiv_eq_ediv_of_nonneg (by omega)]
    congr 1
    have := HL.out
    unfold wrap64
    omega
  refine (hex_DecodedLen.calls _ _ _ hdl).mono ?_
  rintro e w1 ⟨rfl, ⟨nd, rfl⟩⟩
  clear hdl hcs hc2 hc3 hc4 g2 g2b
  have m0 : (0 : Int) ≤ ((xs.length / 2 : Nat) : Int) := by omega
  have m1 : ((xs.length / 2 : Nat) : Int).toNat * 1 ≤ 281474976710656 := by have := HL.out; omega
  go_wp2_with (first | ((with_reducible refine gate_dst (N := 23) rfl ?_); refine Kd.R_make (Kd.int .u8) (w0 := w) w.heap.size 5 rfl (N := 23) rfl 23 _ _ rfl ((xs.length / 2 : Nat) : Int) rfl rfl Tryd.underlying23 (.int .u8 0) 1 info5 rfl (by decide) (by omega) 0 (ok := fun _ => True) (okp := fun _ => True) rfl (fun _ hk => hk) trivial m0 m1 (pw_below_drewN (Below.refl _ _) _) (Nat.le_refl _) ?_; intro v1 w2 hR2 hB2 hg2 hnew2; rw [Int.toNat_natCast] at hR2; obtain ⟨A2, c2, e2, hc2, HC2⟩ := Kd.R_reads hR2; subst e2))
  have hown := Kd.own_of_R hR2
  obtain ⟨g, hgo, hgw⟩ := hnew2
  rcases hown.2 with ⟨e0, _⟩ | ⟨g', cap, cur, e0, hbg, hheap, hcm, hcM, hcs, _⟩
  · rw [e0] at hgo; simp [Value.ownBlock] at hgo
  injection e0 with e1 e2 e3
  subst e1 e3
  have B2 : Below w.heap.size w w2 := hB2
  have hblk : b < w.heap.size := by
    obtain ⟨ad, ea, hh⟩ := (Kd.reads_of_C (d := (0 : Int)) HR.out).2.2 (by omega)
    injection ea with ea
    subst ea
    exact World.block_lt_of_cell? w _ (hh 0 (by omega))
  have hrow : w2.rowIs g' 5 c2 (fun i => (cur[i]?).getD undef) := ⟨cur, hheap, by simpa using hcs, fun i hi => by
    have : i < cur.size := by have := hcs; omega
    simp [this]⟩
  have hsrc : ∀ i, i < xs.length → w2.cell? ⟨b, 2 + i, none⟩ = some (.int .u8 (xs.getD i 0)) := by
    intro i hi
    obtain ⟨ad, ea, hh⟩ := (Kd.reads_of_C (d := (0 : Int)) HR.out).2.2 (by omega)
    injection ea with ea
    subst ea
    have h1 := hh (i + 2) (by omega)
    have h2 : (⟨b, 0, none⟩ : Addr).add (i + 2) = ⟨b, 2 + i, none⟩ := by simp [Addr.add]; try omega
    rw [h2] at h1
    exact (B2.cell hblk).trans (h1.trans (by simp))
  have hr' : ∀ i, i < xs.length → 0 ≤ xs.getD i 0 ∧ xs.getD i 0 < 256 := fun i hi => by
    rw [List.getD_eq_getElem?_getD, List.getElem?_eq_getElem hi]
    exact HX.out _ (List.getElem_mem hi)
  have hE2 : w2.cell? ⟨0, 0, none⟩ = some (.iface te xe) := (B2.cell (World.block_lt_of_cell? w _ HE.out)).trans HE.out
  have h0g : 0 ≠ g' := by have := World.block_lt_of_cell? w _ HE.out; simp at this; omega
  refine (Tryd.hex_Decode_tag 5 g' 0 (xs.length / 2) c2 c2 _ b 2 xs.length (c0 - 2) xs w2 (.iface te xe) rfl hr' hsrc hrow (by have := hcm; simp at this; omega) (Nat.le_refl _) (by omega) (by have := HL.out; omega) hE2 h0g).mono ?_
  rintro e w3 ⟨rfl, hrow3, hg3⟩
  have HB3 : Below w.heap.size w w3 := HB3_of B2 hbg hg3
  have hlen := hexD_len xs
  obtain ⟨⟨D, o⟩, hD⟩ : ∃ q, Go.Lib.Hx.decode (Go.Lib.bytesOf xs) = q := ⟨_, rfl⟩
  have hDx : hexD xs = (D, o) := hD
  rw [hDx] at hlen
  rw [hD] at hrow3 ⊢
  have HQ := Aside0.mk hDx
  clear hD hDx hcs hheap hsrc hr' hE2 h0g hrow hown hgo hgw hR2 HC2 hg2
  cases o with
  | ok =>
    have hl2 := hlen rfl
    have hle : D.length ≤ c2 := by have := hcm; simp at this hl2; omega
    have hfin := rowP_own hrow3 hle hcM w.heap.size hbg
    simp only [Go.Lib.Hx.errVal]
    go_wp2_with fail
    go_ret2
    refine ⟨HB3, (fun _ => ⟨_, rfl, ?_⟩), (fun h => absurd (by rw [HQ.out]) h)⟩
    rw [HQ.out]
    rw [hl2] at hfin
    have hml : (D.map (fun b => (b.toNat : Int))).length = xs.length / 2 := by rw [List.length_map, hl2]
    exact Kd.R_of_own (by rw [hml]; exact hfin) (fun _ _ => trivial)
  | bad c =>
    simp only [Go.Lib.Hx.errVal]
    go_wp2_with fail
    go_ret2
    exact ⟨HB3, (fun h => by rw [HQ.out] at h; cases h), fun _ => ⟨_, _, rfl⟩⟩
  | odd =>
    simp only [Go.Lib.Hx.errVal]
    go_wp2_with fail
    go_ret2
    exact ⟨HB3, (fun h => by rw [HQ.out] at h; cases h), fun _ => ⟨_, _, rfl⟩⟩
set_option maxRecDepth 100000 in
theorem pq_ParseBytea_hex (b c0 : Nat) (xs : List Int) (w : World) (te : TypeId) (xe : Value) (hr : Kd.C (Kd.int .u8) w (some ⟨b, 0, none⟩) (xs.length + 2) ((92 : Int) :: 120 :: xs)) (hc : xs.length + 2 ≤ c0) (hx : ∀ x ∈ xs, 0 ≤ x ∧ x < 256) (hl : xs.length ≤ 1000000) (h0 : 0 < xs.length) (hE : w.cell? ⟨0, 0, none⟩ = some (.iface te xe)) :
    Calls Tryd.prog 9 #[.slice (some ⟨b, 0, none⟩) (xs.length + 2) c0] w fun e w' => Below w.heap.size w w' ∧
      ((hexD xs).2 = .ok → ∃ v, e = .returned (.tuple #[v, .nilIface]) ∧ Kd.R (Kd.int .u8) 5 w' w.heap.size (fun _ => True) v ((hexD xs).1.map (fun b => (b.toNat : Int)))) ∧
      ((hexD xs).2 ≠ .ok → ∃ t x, e = .returned (.tuple #[.slice none 0 0, .iface t x])) := by
  go_enter Tryd.func9, Tryd.ntmps9
  go_wp2_with fail
  refine (pq_parseBytea_hex b c0 xs w te xe hr hc hx hl h0 hE).mono ?_
  rintro e w1 ⟨hB, h1, h2⟩
  by_cases ho : (hexD xs).2 = .ok
  · obtain ⟨v, rfl, hR⟩ := h1 ho
    have HO := Aside0.mk ho
    have HR := Aside0.mk hR
    clear h1 h2 ho hR
    go_wp2_with fail
    go_ret2
    exact ⟨hB, (fun _ => ⟨_, rfl, HR.out⟩), (fun h => absurd HO.out h)⟩
  · obtain ⟨t, x, rfl⟩ := h2 ho
    have HO := Aside0.mk ho
    clear h1 h2 ho
    go_wp2_with fail
    go_ret2
    exact ⟨hB, (fun h => absurd h HO.out), (fun _ => ⟨_, _, rfl⟩)⟩
set_option maxHeartbeats 1000000 in
set_option maxRecDepth 100000 in
theorem impl_ByteaRead_hex (a0 : ByteArray) (xs : List Int) (w : World) (te : TypeId) (xe : Value) (hb : bytesOf a0 = (92 : Int) :: 120 :: xs) (hx : ∀ x ∈ xs, 0 ≤ x ∧ x < 256) (hl : xs.length ≤ 1000000) (h0 : 0 < xs.length) (hE : w.cell? ⟨0, 0, none⟩ = some (.iface te xe)) :
    Calls Tryd.prog 7 #[.string a0] w fun e w' => Below w.heap.size w w' ∧
      ((hexD xs).2 = .ok → e = .returned (.tuple #[.string (strOfNums ((hexD xs).1.map (fun b => (b.toNat : Int)))), .bool true])) ∧
      ((hexD xs).2 ≠ .ok → e = .returned (.tuple #[.string ⟨#[]⟩, .bool false])) := by
  have hsz : a0.size = xs.length + 2 := by rw [← bytesOf_length, hb]; rfl
  have hu := Tryd.underlying32
  have kb := fun W => print_bytes (P := Tryd.prog) 9 23 5 Tryd.underlying9 Tryd.underlying23 Tryd.underlying5 a0 W
  have hBW : Below w.heap.size w (Lib.bytesWorld w 5 a0) := bytes_below (Below.refl w.heap.size w) (Nat.le_refl _) 5 a0
  have hc := pq_ParseBytea_hex w.heap.size (grownCap w a0.size 0 5) xs (Lib.bytesWorld w 5 a0) te xe (by
    have := Kd.C_of_reads (d := (0 : Int)) (h1 := fun _ => rfl) (bytes_reads w 5 a0 (by rw [hsz]; omega))
    rw [hb, hsz] at this
    exact this) (by rw [← hsz]; exact grownCap_ge _ _ _ _) hx hl h0 ((hBW.cell (World.block_lt_of_cell? w _ hE)).trans hE)
  rw [hsz] at hc
  have HBW := Aside0.mk hBW
  clear hBW hE
  go_enter Tryd.func7, Tryd.ntmps7
  go_wp2_with fail
  refine hc.mono ?_
  rintro e w1 ⟨hB, h1, h2⟩
  have HB := Aside0.mk (Below.trans HBW.out (hB.mono HBW.out.size))
  clear hc hB HBW kb
  by_cases ho : (hexD xs).2 = .ok
  · obtain ⟨v, rfl, hR⟩ := h1 ho
    have HO := Aside0.mk ho
    have HR := Aside0.mk hR
    clear h1 h2 ho hR
    have hcv := fun nq : Nat => own_string (P := Tryd.prog) Tryd.underlying23 Tryd.underlying5 Tryd.underlying9 (Kd.own_of_R (show Kd.R (Kd.int .u8) 5 (w1.drewN nq) _ _ v ((hexD xs).1.map (fun b => (b.toNat : Int))) from by apply Kd.R_drewN; exact HR.out))
    go_wp2
    go_quiet (fail)
    go_wp2
    go_ret2
    exact ⟨by repeat (first | exact HB.out | apply pw_below_drewN | apply below_drew1), (fun _ => rfl), (fun h => absurd HO.out h)⟩
  · obtain ⟨t, x, rfl⟩ := h2 ho
    have HO := Aside0.mk ho
    clear h1 h2 ho
    have hcv := fun nq : Nat => own_string (P := Tryd.prog) Tryd.underlying23 Tryd.underlying5 Tryd.underlying9 (Kd.own_of_R (Kd.R_nil (Kd.int .u8) 5 (w1.drewN nq) w.heap.size (fun _ => True)))
    go_wp2
    go_quiet (fail)
    go_wp2
    go_ret2
    exact ⟨by repeat (first | exact HB.out | apply pw_below_drewN | apply below_drew1), (fun h => absurd h HO.out), (fun _ => rfl)⟩
end Go.Proofs.YthcikkjjegfbladDoor.P
