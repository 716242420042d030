/- ByteaRead of the text \x alone. Conditions: ErrLength's cell holds an interface value. -/
import Derived.Test.YthcikkjjegfbladDoorHexFull
import Derived.Test.YthcikkjjegfbladDoorPx6
namespace Go.Proofs.YthcikkjjegfbladDoor.P
open Go.RowKit Go.Proofs.YthcikkjjegfbladDoorW.PrintWords Go.Proofs.YthcikkjjegfbladDoorW.PrintLast Go.Proofs.YthcikkjjegfbladDoorW.PrintMore
set_option linter.unusedVariables false
set_option linter.unusedSimpArgs false
set_option maxHeartbeats 4000000 in
set_option maxRecDepth 100000 in
theorem pq_parseBytea_bare (b c0 : Nat) (w : World) (te : TypeId) (xe : Value) (hr : Kd.C (Kd.int .u8) w (some ⟨b, 0, none⟩) 2 [(92 : Int), 120]) (hc : 2 ≤ c0) (hE : w.cell? ⟨0, 0, none⟩ = some (.iface te xe)) :
    Calls Tryd.prog 11 #[.slice (some ⟨b, 0, none⟩) 2 c0] w fun e w' => Below w.heap.size w w' ∧
      ∃ v, e = .returned (.tuple #[v, .nilIface]) ∧ Kd.R (Kd.int .u8) 5 w' w.heap.size (fun _ => True) v [] := by
  have hu32 := Tryd.underlying32
  have hcs := fun c_ : Nat => Kd.C_string (P := Tryd.prog) (c := c_) Tryd.underlying23 Tryd.underlying5 Tryd.underlying9 hr
  have hs1 : strOfNums [92, 120] = ⟨#[92, 120]⟩ := rfl
  rw [hs1] at hcs
  have HE := Aside0.mk hE
  have HC := Aside0.mk hc
  have hdl : hex_DecodedLen.f (0 : Int) = some 0 := by
    unfold hex_DecodedLen.f wrap64
    rfl
  have HDL := Aside0.mk hdl
  have hblk : b < w.heap.size := by
    obtain ⟨ad, ea, hh⟩ := (Kd.reads_of_C (d := (0 : Int)) hr).2.2 (by omega)
    injection ea with ea
    subst ea
    exact World.block_lt_of_cell? w _ (hh 0 (by omega))
  have HBLK := Aside0.mk hblk
  have hk : ∀ (os cs' : Nat) (v1 : Value) (w2 : World), Kd.R (Kd.int .u8) 5 w2 w.heap.size (fun _ => True) v1 (List.replicate (0 : Int).toNat 0) → Below w.heap.size w w2 → (∃ g, v1.ownBlock = some g ∧ w.heap.size ≤ g) →
      ∃ A2 c2, v1 = .slice (some A2) 0 c2 ∧ Calls Tryd.prog 14 #[.slice (some A2) 0 c2, .slice (some ⟨b, os, none⟩) 0 cs'] w2 fun e w' => (∃ n, e = .returned (.tuple #[.int .i64 n, .nilIface])) ∧ Below w.heap.size w w' ∧ Kd.R (Kd.int .u8) 5 w' w.heap.size (fun _ => True) (.slice (some A2) 0 c2) [] := by
    intro os cs' v1 w2 hR2 hB2 hnew
    have hown := Kd.own_of_R hR2
    obtain ⟨g, hgo, hgw⟩ := hnew
    rcases hown.2 with ⟨e0, _⟩ | ⟨g', cap, cur, e0, hbg, hheap, hcm, hcM, hcs, _⟩
    · rw [e0] at hgo; simp [Value.ownBlock] at hgo
    have e0' : v1 = .slice (some ⟨g', 0, none⟩) 0 cap := by rw [e0]; rfl
    refine ⟨_, _, e0', ?_⟩
    have hrow : w2.rowIs g' 5 cap (fun i => (cur[i]?).getD undef) := ⟨cur, hheap, by simpa using hcs, fun i hi => by
      have : i < cur.size := by have := hcs; omega
      simp [this]⟩
    have hE2 : w2.cell? ⟨0, 0, none⟩ = some (.iface te xe) := (hB2.cell (World.block_lt_of_cell? w _ HE.out)).trans HE.out
    have h0g : 0 ≠ g' := by have := World.block_lt_of_cell? w _ HE.out; simp at this; omega
    refine (Tryd.hex_Decode_tag 5 g' 0 0 cap cap _ b os 0 cs' [] w2 (.iface te xe) rfl (fun i hi => by omega) (fun i hi => by omega) hrow (by omega) (Nat.le_refl _) (by have := HBLK.out; omega) (by omega) hE2 h0g).mono ?_
    rintro e w3 ⟨rfl, hrow3, hg3⟩
    rw [show Go.Lib.Hx.decode (Go.Lib.bytesOf []) = ([], .ok) from Go.Lib.Hx.decode_nil] at hrow3 ⊢
    refine ⟨⟨_, rfl⟩, HB3_of hB2 hbg hg3, ?_⟩
    have hfin := rowP_own hrow3 (by simp) hcM w.heap.size hbg
    exact Kd.R_of_own hfin (fun _ _ => trivial)
  have HK := Aside0.mk hk
  clear hr hE hdl hs1 hblk hk
  have m1 : (0 : Int).toNat * 1 ≤ 281474976710656 := by decide
  by_cases hc2 : c0 = 2
  · subst hc2
    clear hc
    go_enter Tryd.func11, Tryd.ntmps11
    go_wp2_with fail
    refine (hex_DecodedLen.calls _ _ _ HDL.out).mono ?_
    rintro e w1 ⟨rfl, ⟨nd, rfl⟩⟩
    go_wp2_with (first | ((with_reducible refine gate_dst (N := 23) rfl ?_); refine Kd.R_make (Kd.int .u8) (w0 := w) w.heap.size 5 rfl (N := 23) rfl 23 _ _ rfl (0 : Int) rfl rfl Tryd.underlying23 (.int .u8 0) 1 info5 rfl (by decide) (by omega) 0 (ok := fun _ => True) (okp := fun _ => True) rfl (fun _ hk => hk) trivial (by decide) m1 (pw_below_drewN (Below.refl _ _) _) (Nat.le_refl _) ?_; intro v1 w2 hR2 hB2 hg2 hnew2; obtain ⟨A2, c2, rfl, hcall⟩ := HK.out 0 (2 - 2) v1 w2 hR2 hB2 hnew2; have HCALL := Aside0.mk hcall; clear hR2 hB2 hg2 hnew2 hcall) | (go_at_call 14; refine HCALL.out.mono ?_; rintro e w3 ⟨⟨n, rfl⟩, hb3, hR3⟩; have HB3 := Aside0.mk hb3; have HR3 := Aside0.mk hR3; clear hb3 hR3))
    go_ret2
    exact ⟨HB3.out, _, rfl, HR3.out⟩
  · have hc3 : (c0 = 2) = False := eq_false hc2
    have hc4 : (c0 < 2) = False := eq_false (by omega)
    have hc5 : ((c0 : Int) < 2) = False := eq_false (by omega)
    have hc6 : ((2 : Int) ≤ (c0 : Int)) = True := eq_true (by omega)
    have hc7 : (2 ≤ c0) = True := eq_true (by omega)
    have hc8 : decide ((2 : Int) ≤ (c0 : Int)) = true := decide_eq_true (by omega)
    clear hc hc2
    go_enter Tryd.func11, Tryd.ntmps11
    go_wp2_with fail
    refine (hex_DecodedLen.calls _ _ _ HDL.out).mono ?_
    rintro e w1 ⟨rfl, ⟨nd, rfl⟩⟩
    go_wp2_with (first | ((with_reducible refine gate_dst (N := 23) rfl ?_); refine Kd.R_make (Kd.int .u8) (w0 := w) w.heap.size 5 rfl (N := 23) rfl 23 _ _ rfl (0 : Int) rfl rfl Tryd.underlying23 (.int .u8 0) 1 info5 rfl (by decide) (by omega) 0 (ok := fun _ => True) (okp := fun _ => True) rfl (fun _ hk => hk) trivial (by decide) m1 (pw_below_drewN (Below.refl _ _) _) (Nat.le_refl _) ?_; intro v1 w2 hR2 hB2 hg2 hnew2; obtain ⟨A2, c2, rfl, hcall⟩ := HK.out 2 (c0 - 2) v1 w2 hR2 hB2 hnew2; have HCALL := Aside0.mk hcall; clear hR2 hB2 hg2 hnew2 hcall) | (go_at_call 14; refine HCALL.out.mono ?_; rintro e w3 ⟨⟨n, rfl⟩, hb3, hR3⟩; have HB3 := Aside0.mk hb3; have HR3 := Aside0.mk hR3; clear hb3 hR3))
    go_ret2
    exact ⟨HB3.out, _, rfl, HR3.out⟩
set_option maxRecDepth 100000 in
theorem pq_ParseBytea_bare (b c0 : Nat) (w : World) (te : TypeId) (xe : Value) (hr : Kd.C (Kd.int .u8) w (some ⟨b, 0, none⟩) 2 [(92 : Int), 120]) (hc : 2 ≤ c0) (hE : w.cell? ⟨0, 0, none⟩ = some (.iface te xe)) :
    Calls Tryd.prog 9 #[.slice (some ⟨b, 0, none⟩) 2 c0] w fun e w' => Below w.heap.size w w' ∧
      ∃ v, e = .returned (.tuple #[v, .nilIface]) ∧ Kd.R (Kd.int .u8) 5 w' w.heap.size (fun _ => True) v [] := by
  go_enter Tryd.func9, Tryd.ntmps9
  go_wp2_with fail
  refine (pq_parseBytea_bare b c0 w te xe hr hc hE).mono ?_
  rintro e w1 ⟨hB, v, rfl, hR⟩
  have HR := Aside0.mk hR
  clear hR
  go_wp2_with fail
  go_ret2
  exact ⟨hB, _, rfl, HR.out⟩
set_option maxHeartbeats 1000000 in
set_option maxRecDepth 100000 in
theorem impl_ByteaRead_bare (w : World) (te : TypeId) (xe : Value) (hE : w.cell? ⟨0, 0, none⟩ = some (.iface te xe)) :
    Calls Tryd.prog 7 #[.string ⟨#[92, 120]⟩] w fun e w' => Below w.heap.size w w' ∧ e = .returned (.tuple #[.string ⟨#[]⟩, .bool true]) := by
  have hu := Tryd.underlying32
  obtain ⟨a0, ha0⟩ : ∃ a0 : ByteArray, a0 = ⟨#[92, 120]⟩ := ⟨_, rfl⟩
  have hb : bytesOf a0 = [92, 120] := by rw [ha0]; decide
  have hsz : a0.size = 2 := by rw [← bytesOf_length, hb]; rfl
  rw [← ha0]
  have kb := fun W => print_bytes (P := Tryd.prog) 9 23 5 Tryd.underlying9 Tryd.underlying23 Tryd.underlying5 a0 W
  have hBW : Below w.heap.size w (Lib.bytesWorld w 5 a0) := bytes_below (Below.refl w.heap.size w) (Nat.le_refl _) 5 a0
  have hc := pq_ParseBytea_bare w.heap.size (grownCap w a0.size 0 5) (Lib.bytesWorld w 5 a0) te xe (by
    have := Kd.C_of_reads (d := (0 : Int)) (h1 := fun _ => rfl) (bytes_reads w 5 a0 (by rw [hsz]; omega))
    rw [hb, hsz] at this
    exact this) (by rw [← hsz]; exact grownCap_ge _ _ _ _) ((hBW.cell (World.block_lt_of_cell? w _ hE)).trans hE)
  rw [hsz] at hc
  have HBW := Aside0.mk hBW
  clear hBW hE ha0 hb
  go_enter Tryd.func7, Tryd.ntmps7
  go_wp2_with fail
  refine hc.mono ?_
  rintro e w1 ⟨hB, v, rfl, hR⟩
  have HB := Aside0.mk (Below.trans HBW.out (hB.mono HBW.out.size))
  clear hc hB HBW kb
  have HR := Aside0.mk hR
  have hcv := fun nq : Nat => own_string (P := Tryd.prog) Tryd.underlying23 Tryd.underlying5 Tryd.underlying9 (Kd.own_of_R (show Kd.R (Kd.int .u8) 5 (w1.drewN nq) _ _ v [] from by apply Kd.R_drewN; exact HR.out))
  clear hR
  go_wp2
  go_quiet (fail)
  go_wp2
  go_ret2
  exact ⟨by repeat (first | exact HB.out | apply pw_below_drewN | apply below_drew1), rfl⟩
end Go.Proofs.YthcikkjjegfbladDoor.P
