/- Scan of the kind I: the elements of the text's literal, or an error. Conditions: the text is one that is read (paIs). -/
import Derived.Test.YtcdcoogjhkchlaaGreatDoorScan0
namespace Go.Proofs.YtcdcoogjhkchlaaGreatDoor.P
open Go.RowKit Go.Proofs.YtcdcoogjhkchlaaGreatDoorW.PrintWords Go.Proofs.YtcdcoogjhkchlaaGreatDoorW.PrintLast Go.Proofs.YtcdcoogjhkchlaaGreatDoorW.PrintMore
set_option linter.unusedVariables false
set_option linter.unusedSimpArgs false
theorem info_I : ((Tryz.prog).info? 2).map (fun i => (i.zero, i.size, i.bytes)) = some (some (.int .i64 0), 1, 8) := by kernel_rfl
set_option maxHeartbeats 4000000 in
set_option maxRecDepth 100000 in
theorem scanB_I (b0 : Nat) (A0 : Option Addr) (c : Nat) (s : List Int) (w0 w : World) (hB : Below w0.heap.size w0 w) (hb0 : w0.heap.size ≤ b0) (hcell : w.heap[b0]? = some (.cells #[.slice none 0 0] 43 (0, 0))) (hp : paIs 44 s) (hr : Kd.C (Kd.int .u8) w A0 s.length s) (hc : s.length ≤ c) (te tr : TypeId) (xe xr : Value) (hS : w.cell? ⟨0, 0, none⟩ = some (.iface te xe)) (hR : w.cell? ⟨1, 0, none⟩ = some (.iface tr xr)) :
    Calls Tryz.prog 21 #[.pointer (some ⟨b0, 0, none⟩), .slice A0 s.length c] w (scRes (Kd.int .i64) 43 2 w0 b0 (scanAll (elI 64) s)) := by
  have hm := fun ty => pq_scanLinearArray.all A0 c 1 (some ⟨w.heap.size, 0, none⟩) s 44 (w.alloc (.cells #[.int .u8 44] 5)) ty hp (Kd.C_alloc hr _) hc (lit44 w) (Nat.le_refl _)
  have hlt := blk_lt hcell
  have hneq := fun (W : World) (a : Option Addr) (n c' : Nat) => run_neq_slice_nil_any (P := Tryz.prog) W 43 2 a n c' 0 0 Tryz.underlying43
  have hu40 := Tryz.underlying40
  unfold scanAll
  have hlen := lnF_len' 44 s hp
  have HB := Aside0.mk hB
  have HB0 := Aside0.mk (And.intro hb0 hlt)
  have HCELL := Aside0.mk hcell
  have HS := Aside0.mk hS
  have HR2 := Aside0.mk hR
  clear hS hR
  cases hT : lnF 44 s with
  | none =>
    rw [hT] at hm
    have HM := Aside0.mk hm
    clear hm hT hr hc hp hB hb0 hcell hlt hlen
    --{N
    go_enter Tryz.func21, Tryz.ntmps21
    go_wp2_with (go_at_call 30; refine (HM.out _).mono ?_; rintro e w' ⟨hb, _, h2⟩; obtain ⟨v1, t, x, rfl⟩ := h2 rfl; have HB1 := Aside0.mk hb; clear hb h2)
    go_ret
    have hb2 := below_step (below_alloc HB.out _) HB1.out
    exact ⟨hb2, (fun vs h => by cases h), fun _ => ⟨⟨_, _, rfl⟩, blk_below (blk_alloc HCELL.out _) HB1.out⟩⟩
    --}N
  | some els =>
    rw [hT] at hm
    obtain ⟨L, hLd⟩ : ∃ L, L = els.length := ⟨_, rfl⟩
    have hm2 : ∀ ty, Calls Tryz.prog 30 #[.slice A0 s.length c, .slice (some ⟨w.heap.size, 0, none⟩) 1 1, .string ty] (w.alloc (.cells #[.int .u8 44] 5)) fun e w' => Below (w.alloc (.cells #[.int .u8 44] 5)).heap.size (w.alloc (.cells #[.int .u8 44] 5)) w' ∧ ∃ A5 c5, e = .returned (.tuple #[.slice A5 L c5, .nilIface]) ∧ L ≤ c5 ∧ (elKd (w.alloc (.cells #[.int .u8 44] 5))).C w' A5 L els := fun ty => (hm ty).mono (by
      rintro e w' ⟨hb, h1, _⟩
      obtain ⟨v1, rfl, hv⟩ := h1 els rfl
      obtain ⟨A5, c5, rfl, hc5, hC5⟩ := Kd.R_reads hv
      rw [hLd]
      exact ⟨hb, A5, c5, rfl, hc5, hC5⟩)
    have HM := Aside0.mk hm2
    have HEL := Aside0.mk (show L ≤ 1000000 by rw [hLd]; exact hlen els hT)
    have HSH := Aside0.mk (lnF_short s hp els hT)
    have HLD := Aside0.mk hLd
    have m0 : (0 : Int) ≤ (L : Int) := by omega
    have m1 : ((L : Int)).toNat * 8 ≤ 281474976710656 := by have := HEL.out; omega
    have hle : ∀ y, y = (L : Int) → 0 ≤ y := fun y hy => by omega
    clear hm hm2 hT hr hc hp hB hb0 hcell hlt hlen hLd hle
    --{L
    go_enter Tryz.func21, Tryz.ntmps21
    go_wp2_with (first | (go_at_call 30; refine (HM.out _).mono ?_; rintro e w1 ⟨hb, A5, c5, rfl, hc5, hC5⟩; have HB1 := Aside0.mk hb; have HC5 := Aside0.mk hC5; have HBK := Aside0.mk (blk_below (blk_alloc HCELL.out _) hb); have hbc := blk_cell HBK.out 0; have HB01 := Aside0.mk (below_step (below_alloc HB.out _) hb); clear hb hC5 hc5) | ((with_reducible refine gate_dst (N := 36) rfl ?_); refine Kd.R_make (Kd.int .i64) (w0 := w0) w0.heap.size 2 rfl (N := 36) rfl 43 _ _ rfl (L : Int) rfl rfl Tryz.underlying43 (.int .i64 0) 8 info_I rfl (by decide) (by omega) 0 (ok := fun k => k ≠ b0) (okp := fun k => k ≠ b0) rfl (fun _ hk => hk) ?fr m0 m1 ?bb ?bs ?_; (case fr => exact (Nat.ne_of_gt (blk_lt HBK.out))); (case bb => exact HB01.out); (case bs => exact HB01.out.size); intro v1 w2 hR2 hB2 hg2 hnew2; obtain ⟨g, cap, rfl, hgw, hR3⟩ := made_row hR2 hnew2; have HR3 := Aside0.mk hR3; have HGW := Aside0.mk hgw; have HB2 := Aside0.mk (grown_none hg2); clear hR2 hB2 hg2 hnew2 hR3 hgw hbc))
    clear m0 m1
    go_loopg [39] (L + 1) (fun kq s39 wx => ∃ (i : Nat) (u : List Int), s39 = .int .i64 (i : Int) ∧ Aside0 (kq + i ≥ L + 1) ∧ Aside0 (i ≤ L) ∧ Aside0 (scanV (elI 64) (els.take i) = some u) ∧ Aside0 ((Kd.int .i64).R 2 wx w0.heap.size (fun k => k ≠ b0) (.slice (some ⟨g, 0, none⟩) L cap) (u ++ List.replicate (L - i) 0)) ∧ Aside0 (Below w1.heap.size w1 wx))
    case atStart => exact ⟨0, [], rfl, ⟨by omega⟩, ⟨Nat.zero_le _⟩, ⟨rfl⟩, ⟨HR3.out⟩, ⟨HB2.out⟩⟩
    case round =>
      obtain ⟨i, u, rfl, HK, HI, HU, HO, HBW⟩ := hrel
      have hul : u.length = i := by have := scanV_len _ _ _ HU.out; rw [this, List.length_take, ← HLD.out]; have := HI.out; omega
      have HUL := Aside0.mk hul
      have HBL := Aside0.mk (blk_below HBK.out HBW.out)
      clear hul HR3 HB2
      by_cases ci : i < L
      · have c1 : ((i : Int) < (L : Int)) = True := eq_true (by omega)
        have c1b : decide ((i : Int) < (L : Int)) = true := decide_eq_true (by omega)
        have c1c : (i < L) = True := eq_true ci
        have c1d : decide (i < L) = true := decide_eq_true ci
        have c2 : decide (0 ≤ (i : Int)) = true := decide_eq_true (by omega)
        have hi1 : wrap64 ((i : Int) + 1) = ((i + 1 : Nat) : Int) := by have := HEL.out; unfold wrap64; omega
        obtain ⟨ad, cs, rfl, hcl, hK, hcell⟩ := ReadsRow.get_ (Kd.C_below HC5.out HBW.out) none (i : Int) (by omega) (by omega)
        rw [Int.toNat_natCast] at hK hcell
        have HIE := Aside0.mk (show i < els.length by rw [← HLD.out]; exact ci)
        obtain ⟨x, hx⟩ : ∃ x, x = els.getD i none := ⟨_, rfl⟩
        rw [← hx] at hK
        obtain ⟨A, n, c7, rfl, hnc, hcase⟩ := el_read (below_step HB1.out HBW.out) hK
        have xc : wr.cell? (ad.add i) = some (.slice A n c7) := by
          have := hcell 0 _ rfl
          simpa [elKd] using this
        obtain ⟨y0, y1⟩ := row_at HO.out HUL.out ci
        have HX := Aside0.mk hx
        have HCI := Aside0.mk ci
        clear hcl hK hcell hx hnc ci
        have HLX := Aside0.mk (show (x.getD []).length ≤ 1000000 by
          cases hxx : x with
          | none => simp
          | some l => exact HSH.out x (by rw [HX.out, List.getD_eq_getElem?_getD, List.getElem?_eq_getElem HIE.out]; exact List.getElem_mem HIE.out) l hxx)
        obtain ⟨t, ht⟩ : ∃ t, t = strOfNums (x.getD []) := ⟨_, rfl⟩
        have HTS := Aside0.mk (show t.size ≤ 100000000 by rw [ht, son_size]; have := HLX.out; omega)
        have hcv : ∀ c_, (convert 58 9 (.slice A n c_)).run Tryz.prog wr = .ok (.string t) wr := by
          intro c_
          rcases hcase with ⟨rfl, rfl, rfl⟩ | ⟨ae, l, rfl, rfl, rfl, hC⟩
          · rw [ht]; exact Kd.C_string (P := Tryz.prog) (c := c_) (xs := []) Tryz.underlying58 Tryz.underlying5 Tryz.underlying9 (w := wr) (A := none) (n := 0) ⟨rfl, by omega, fun h => by omega⟩
          · rw [ht]; exact Kd.C_string (P := Tryz.prog) (c := c_) Tryz.underlying58 Tryz.underlying5 Tryz.underlying9 hC
        have HT := Aside0.mk ht
        have hbw : Below w.heap.size w wr := below_step (below_step (below_alloc (Below.refl _ _) _) HB1.out) HBW.out
        have HPI := Aside0.mk (pint64 t HTS.out wr te tr xe xr ((hbw.cell (World.block_lt_of_cell? _ _ HS.out)).trans HS.out) ((hbw.cell (World.block_lt_of_cell? _ _ HR2.out)).trans HR2.out))
        clear hcase ht hbw y0 y1
        cases hpr : Go.Lib.parseIntB 64 t.data.toList with
        | ok v =>
          have hpi : Calls Tryz.prog 31 #[.string t, .int .i64 10, .int .i64 64] wr fun e w' => Below wr.heap.size wr w' ∧ e = .returned (.tuple #[.int .i64 v, .nilIface]) := HPI.out.mono (by
            rintro e w' ⟨hb, ⟨v2, h1, rfl⟩ | ⟨h1, _⟩⟩
            · rw [hpr] at h1; injection h1 with h1; subst h1; exact ⟨hb, rfl⟩
            · exact absurd hpr (h1 v))
          have HPJ := Aside0.mk hpi
          have HPR := Aside0.mk hpr
          clear hpi hpr HPI
          have HYES := Aside0.mk (show scanV (elI 64) (els.take (i + 1)) = some (u ++ [v]) from scanV_yes HIE.out HU.out (by rw [← HX.out]; show (match Go.Lib.parseIntB 64 (strOfNums (x.getD [])).data.toList with | .ok v => some v | _ => none) = some v; rw [← HT.out, HPR.out]))
          go_wp2_with (go_at_call 31; refine HPJ.out.mono ?_; rintro e w5 ⟨hb5, rfl⟩; have HB5 := Aside0.mk hb5; have HO5 := Aside0.mk (Kd.R_below HO.out hb5); obtain ⟨y0, y1⟩ := row_at HO5.out HUL.out HCI.out; clear hb5)
          go_roundg (L - i)
          case measure => have := HK.out; have := HCI.out; omega
          case rel => exact ⟨i + 1, u ++ [v], by first | rfl | go_num, ⟨by have := HCI.out; omega⟩, ⟨HCI.out⟩, ⟨HYES.out⟩, ⟨row_put HO5.out HUL.out HCI.out v⟩, ⟨Below.setCell (below_step HBW.out HB5.out) (by first | exact HGW.out | (have := HGW.out; omega)) _⟩⟩
        | «syntax» =>
          have HPN := Aside0.mk (show ∀ v, Go.Lib.parseIntB 64 t.data.toList ≠ .ok v from fun v h => by rw [hpr] at h; cases h)
          have hpi : Calls Tryz.prog 31 #[.string t, .int .i64 10, .int .i64 64] wr fun e w' => Below wr.heap.size wr w' ∧ ∃ n t x, e = .returned (.tuple #[.int .i64 n, .iface t x]) := HPI.out.mono (by
            rintro e w' ⟨hb, ⟨v2, h1, rfl⟩ | ⟨_, h2⟩⟩
            · rw [hpr] at h1; cases h1
            · exact ⟨hb, h2⟩)
          have HPJ := Aside0.mk hpi
          clear hpi hpr HPI
          have HNO := Aside0.mk (show scanV (elI 64) els = none from scanV_no HIE.out (by rw [← HX.out]; (show (match Go.Lib.parseIntB 64 (strOfNums (x.getD [])).data.toList with | .ok v => some v | _ => none) = none; rw [← HT.out]; cases hq : Go.Lib.parseIntB 64 t.data.toList with | ok v => exact absurd hq (HPN.out v) | «syntax» => rfl | range => rfl)))
          go_wp2_with (first | (go_at_call 31; refine HPJ.out.mono ?_; rintro e w5 ⟨hb5, nn, tt, xx, rfl⟩; have HB5 := Aside0.mk hb5; have HO5 := Aside0.mk (Kd.R_below HO.out hb5); obtain ⟨y0, y1⟩ := row_at HO5.out HUL.out HCI.out; clear hb5) | (go_at_call 20; refine (errors_New.plain _ _).mono ?_; rintro e we ⟨⟨t_, v_, rfl⟩, hbe⟩; have HBE := Aside0.mk hbe; clear hbe))
          go_ret
          exact ⟨below_step (below_step (below_step HB01.out HBW.out) HB5.out |>.setCell (by have := HGW.out; have := HB01.out.size; first | exact Nat.le_trans HB01.out.size HGW.out | omega) _) HBE.out, (fun vs h => by rw [Option.bind_some, HNO.out] at h; cases h), fun _ => ⟨⟨_, _, rfl⟩, blk_below (blk_far (blk_below HBL.out HB5.out) (show b0 ≠ g from Nat.ne_of_lt (Nat.lt_of_lt_of_le (blk_lt HBK.out) HGW.out)) _) HBE.out⟩⟩
        | range =>
          have HPN := Aside0.mk (show ∀ v, Go.Lib.parseIntB 64 t.data.toList ≠ .ok v from fun v h => by rw [hpr] at h; cases h)
          have hpi : Calls Tryz.prog 31 #[.string t, .int .i64 10, .int .i64 64] wr fun e w' => Below wr.heap.size wr w' ∧ ∃ n t x, e = .returned (.tuple #[.int .i64 n, .iface t x]) := HPI.out.mono (by
            rintro e w' ⟨hb, ⟨v2, h1, rfl⟩ | ⟨_, h2⟩⟩
            · rw [hpr] at h1; cases h1
            · exact ⟨hb, h2⟩)
          have HPJ := Aside0.mk hpi
          clear hpi hpr HPI
          have HNO := Aside0.mk (show scanV (elI 64) els = none from scanV_no HIE.out (by rw [← HX.out]; (show (match Go.Lib.parseIntB 64 (strOfNums (x.getD [])).data.toList with | .ok v => some v | _ => none) = none; rw [← HT.out]; cases hq : Go.Lib.parseIntB 64 t.data.toList with | ok v => exact absurd hq (HPN.out v) | «syntax» => rfl | range => rfl)))
          go_wp2_with (first | (go_at_call 31; refine HPJ.out.mono ?_; rintro e w5 ⟨hb5, nn, tt, xx, rfl⟩; have HB5 := Aside0.mk hb5; have HO5 := Aside0.mk (Kd.R_below HO.out hb5); obtain ⟨y0, y1⟩ := row_at HO5.out HUL.out HCI.out; clear hb5) | (go_at_call 20; refine (errors_New.plain _ _).mono ?_; rintro e we ⟨⟨t_, v_, rfl⟩, hbe⟩; have HBE := Aside0.mk hbe; clear hbe))
          go_ret
          exact ⟨below_step (below_step (below_step HB01.out HBW.out) HB5.out |>.setCell (by have := HGW.out; have := HB01.out.size; first | exact Nat.le_trans HB01.out.size HGW.out | omega) _) HBE.out, (fun vs h => by rw [Option.bind_some, HNO.out] at h; cases h), fun _ => ⟨⟨_, _, rfl⟩, blk_below (blk_far (blk_below HBL.out HB5.out) (show b0 ≠ g from Nat.ne_of_lt (Nat.lt_of_lt_of_le (blk_lt HBK.out) HGW.out)) _) HBE.out⟩⟩
      · have hie : i = L := by have := HI.out; omega
        have c1 : ((i : Int) < (L : Int)) = False := eq_false (by omega)
        have c1b : decide ((i : Int) < (L : Int)) = false := decide_eq_false (by omega)
        have c1d : decide (i < L) = false := decide_eq_false ci
        have hall : els.take i = els := by rw [hie, HLD.out, List.take_length]
        have HA := Aside0.mk hall
        have HIL := Aside0.mk hie
        have hbc := blk_cell HBL.out 0
        have hbf := blk_frozen HBL.out 0
        clear hall ci hie
        go_wp2_with fail
        go_ret
        have hR := HO.out
        rw [HIL.out, Nat.sub_self, List.replicate_zero, List.append_nil] at hR
        have hU := HU.out
        rw [HA.out] at hU
        refine ⟨(below_step HB01.out HBW.out).setCell HB0.out.1 _, (fun vs h => ?_), (fun h => by rw [Option.bind_some, hU] at h; cases h)⟩
        rw [Option.bind_some, hU] at h
        injection h with h
        subst h
        exact ⟨rfl, _, blk_set HBL.out 0 _, Kd.R_far hR (fun k hk => hk) _⟩
    --}L
end Go.Proofs.YtcdcoogjhkchlaaGreatDoor.P
