/- impl.ByteaRead at the text a\12: an escape of less than three digits is refused. Conditions: none. -/
import Derived.Test.YthcikkjjegfbladDoorHexWalk
namespace Go.Proofs.YthcikkjjegfbladDoor.P
open Go.RowKit Go.Proofs.YthcikkjjegfbladDoorW.PrintWords Go.Proofs.YthcikkjjegfbladDoorW.PrintLast Go.Proofs.YthcikkjjegfbladDoorW.PrintMore
set_option linter.unusedVariables false
set_option linter.unusedSimpArgs false
set_option maxHeartbeats 1000000 in
set_option maxRecDepth 100000 in
theorem errors_New_plain (s : ByteArray) (w : World) :
    Calls Tryd.prog 15 #[.string s] w fun e w' => (∃ t x, e = .returned (.iface t x)) ∧ Below w.heap.size w w' := by
  go_enter Tryd.func15, Tryd.ntmps15
  go_wp2_with fail
  go_ret
  exact ⟨⟨_, _, rfl⟩, below_alloc (Below.refl _ _) _⟩
set_option maxHeartbeats 4000000 in
set_option maxRecDepth 100000 in
theorem pq_parseBytea_short (b c0 : Nat) (w : World) (hr : Kd.C (Kd.int .u8) w (some ⟨b, 0, none⟩) 4 [(97 : Int), 92, 49, 50]) (hc : 4 ≤ c0) :
    Calls Tryd.prog 11 #[.slice (some ⟨b, 0, none⟩) 4 c0] w fun e w' => Below w.heap.size w w' ∧ ∃ t x, e = .returned (.tuple #[.slice none 0 0, .iface t x]) := by
  have hu32 := Tryd.underlying32
  have hcell : ∀ i, i < 4 → w.cell? ⟨b, i, none⟩ = some (.int .u8 ([(97 : Int), 92, 49, 50].getD i 0)) := by
    intro i hi
    obtain ⟨ad, ea, hh⟩ := (Kd.reads_of_C (d := (0 : Int)) hr).2.2 (by omega)
    injection ea with ea
    subst ea
    have h1 := hh i hi
    have h2 : (⟨b, 0, none⟩ : Addr).add i = ⟨b, i, none⟩ := by simp [Addr.add]; try omega
    rw [h2] at h1
    exact h1
  have x0 : w.cell? ⟨b, 0, none⟩ = some (.int .u8 97) := hcell 0 (by omega)
  have x1 : w.cell? ⟨b, 1, none⟩ = some (.int .u8 92) := hcell 1 (by omega)
  have x2 : w.cell? ⟨b, 2, none⟩ = some (.int .u8 49) := hcell 2 (by omega)
  have hcs2 := fun c_ : Nat => Kd.C_string (P := Tryd.prog) (c := c_) Tryd.underlying23 Tryd.underlying5 Tryd.underlying9 (show Kd.C (Kd.int .u8) w (some ⟨b, 0, none⟩) 2 [(97 : Int), 92] from by simpa using Kd.C_take (m := 2) (xs := [(97 : Int), 92, 49, 50]) hr (by simp))
  have hs1 : strOfNums [97, 92] = ⟨#[97, 92]⟩ := rfl
  rw [hs1] at hcs2
  have hc3 : ((c0 : Int) < 2) = False := eq_false (by omega)
  have HR := Aside0.mk hr
  have HC := Aside0.mk hc
  clear hr hc hs1
  go_enter Tryd.func11, Tryd.ntmps11
  go_wp2_with fail
  rotate_left
  · exfalso; have := HC.out; omega
  go_loopg [0, 2] 2 (fun kq v0 v2 w' => Below w.heap.size w w' ∧ ((kq = 2 ∧ v0 = .slice (some ⟨b, 0, none⟩) 4 c0 ∧ v2 = .slice none 0 0) ∨ (kq = 1 ∧ v0 = .slice (some ⟨b, 1, none⟩) 3 (c0 - 1))))
  case atStart => exact ⟨Below.refl _ _, .inl ⟨rfl, rfl, rfl⟩⟩
  case round =>
    obtain ⟨hB, ⟨rfl, rfl, rfl⟩ | ⟨rfl, rfl⟩⟩ := hrel
    · have HB := Aside0.mk hB
      have hR4 := Kd.C_below HR.out hB
      replace x0 := (hB.cell (World.block_lt_of_cell? w _ x0)).trans x0
      have hcs4 := fun c_ : Nat => Kd.C_string (P := Tryd.prog) (c := c_) Tryd.underlying23 Tryd.underlying5 Tryd.underlying9 (show Kd.C (Kd.int .u8) wr (some ⟨b, 0, none⟩) 4 [(97 : Int), 92, 49, 50] from hR4)
      have hs4 : strOfNums [97, 92, 49, 50] = ⟨#[97, 92, 49, 50]⟩ := rfl
      rw [hs4] at hcs4
      have hz : pq_zzIndex.f 10 ⟨#[97, 92, 49, 50]⟩ ⟨#[92]⟩ = some 1 := by decide +kernel
      have hc0 : ((c0 : Int) < 1) = False := eq_false (by have := HC.out; omega)
      have hc1 : (c0 = 1) = False := eq_false (by have := HC.out; omega)
      go_wp2_with fail
      refine (pq_zzIndex.calls 10 _ _ _ _ hz).mono ?_
      rintro e w1 ⟨rfl, ⟨nd, rfl⟩⟩
      go_wp2_with fail
      go_roundg 1
      case measure => omega
      case rel => exact ⟨below_alloc (pw_below_drewN HB.out _) _, .inr ⟨rfl, rfl⟩⟩
    · have HB := Aside0.mk hB
      replace x1 := (hB.cell (World.block_lt_of_cell? w _ x1)).trans x1
      replace x2 := (hB.cell (World.block_lt_of_cell? w _ x2)).trans x2
      go_wp2_with fail
      refine (errors_New_plain _ wr).mono ?_
      rintro e w1 ⟨⟨t, x, rfl⟩, hb1⟩
      have HB1 := Aside0.mk (below_step HB.out hb1)
      clear hb1
      go_wp2_with fail
      go_ret2
      exact ⟨HB1.out, _, _, rfl⟩
set_option maxRecDepth 100000 in
theorem pq_ParseBytea_short (b c0 : Nat) (w : World) (hr : Kd.C (Kd.int .u8) w (some ⟨b, 0, none⟩) 4 [(97 : Int), 92, 49, 50]) (hc : 4 ≤ c0) :
    Calls Tryd.prog 9 #[.slice (some ⟨b, 0, none⟩) 4 c0] w fun e w' => Below w.heap.size w w' ∧ ∃ t x, e = .returned (.tuple #[.slice none 0 0, .iface t x]) := by
  go_enter Tryd.func9, Tryd.ntmps9
  go_wp2_with fail
  refine (pq_parseBytea_short b c0 w hr hc).mono ?_
  rintro e w1 ⟨hB, t, x, rfl⟩
  go_wp2_with fail
  go_ret2
  exact ⟨hB, _, _, rfl⟩
set_option maxHeartbeats 1000000 in
set_option maxRecDepth 100000 in
theorem impl_ByteaRead_short (w : World) :
    Calls Tryd.prog 7 #[.string ⟨#[97, 92, 49, 50]⟩] w fun e w' => Below w.heap.size w w' ∧ e = .returned (.tuple #[.string ⟨#[]⟩, .bool false]) := by
  have hu := Tryd.underlying32
  have kb := fun W => print_bytes (P := Tryd.prog) 9 23 5 Tryd.underlying9 Tryd.underlying23 Tryd.underlying5 ⟨#[97, 92, 49, 50]⟩ W
  have hBW : Below w.heap.size w (Lib.bytesWorld w 5 ⟨#[97, 92, 49, 50]⟩) := bytes_below (Below.refl w.heap.size w) (Nat.le_refl _) 5 _
  have hc := pq_ParseBytea_short w.heap.size (grownCap w 4 0 5) (Lib.bytesWorld w 5 ⟨#[97, 92, 49, 50]⟩) (Kd.C_of_reads (d := (0 : Int)) (h1 := fun _ => rfl) (bytes_reads w 5 ⟨#[97, 92, 49, 50]⟩ (by decide))) (grownCap_ge _ _ _ _)
  have HBW := Aside0.mk hBW
  clear hBW
  go_enter Tryd.func7, Tryd.ntmps7
  go_wp2_with fail
  refine hc.mono ?_
  rintro e w1 ⟨hB, t, x, rfl⟩
  have HB := Aside0.mk (Below.trans HBW.out (hB.mono HBW.out.size))
  clear hc hB HBW kb
  have hcv := fun nq : Nat => own_string (P := Tryd.prog) Tryd.underlying23 Tryd.underlying5 Tryd.underlying9 (Kd.own_of_R (Kd.R_nil (Kd.int .u8) 5 (w1.drewN nq) w.heap.size (fun _ => True)))
  go_wp2
  go_quiet (fail)
  go_wp2
  go_ret2
  exact ⟨by repeat (first | exact HB.out | apply pw_below_drewN | apply below_drew1), rfl⟩
end Go.Proofs.YthcikkjjegfbladDoor.P
