/- Scan at a text, and impl.Scanned, of the four kinds. Conditions: the text is one that is read (paIs); what the two error variables hold is named. -/
import Derived.Test.YtcdcoogjhkchlaaGreatDoorScanB
import Derived.Test.YtcdcoogjhkchlaaGreatDoorScanI
import Derived.Test.YtcdcoogjhkchlaaGreatDoorScanS
import Derived.Test.YtcdcoogjhkchlaaGreatDoorScanJ
namespace Go.Proofs.YtcdcoogjhkchlaaGreatDoor.P
open Go.RowKit Go.Proofs.YtcdcoogjhkchlaaGreatDoorW.PrintWords Go.Proofs.YtcdcoogjhkchlaaGreatDoorW.PrintLast Go.Proofs.YtcdcoogjhkchlaaGreatDoorW.PrintMore
set_option linter.unusedVariables false
set_option linter.unusedSimpArgs false
theorem it_info2 : ((Tryz.prog).info? 34).map (fun i => (i.zero, i.size, i.bytes)) = some (some (.agg #[.bool false, .string ⟨#[]⟩, .int .i64 0, .float .f64 0, .bool false]), 5, 48) := by kernel_rfl
set_option maxHeartbeats 4000000 in
set_option maxRecDepth 100000 in
theorem scan_B (b0 : Nat) (t : ByteArray) (w0 w : World) (hB : Below w0.heap.size w0 w) (hb0 : w0.heap.size ≤ b0) (hcell : w.heap[b0]? = some (.cells #[.slice none 0 0] 38 (0, 0))) (hp : paIs 44 (bytesOf t)) (ht : t.size ≤ 1000000) :
    Calls Tryz.prog 9 #[.pointer (some ⟨b0, 0, none⟩), .iface 9 (.string t)] w (scRes Kd.bool 38 4 w0 b0 (scanAll elB (bytesOf t))) := by
  have t0 : ∀ W, (Instr.typeAssert (.iface 9 (.string t)) 20 58 true).run Tryz.prog W = .ok (.tuple #[.slice none 0 0, .bool false]) W := fun W => by kernel_rfl
  have t1 : ∀ W, (Instr.typeAssert (.iface 9 (.string t)) 20 9 true).run Tryz.prog W = .ok (.tuple #[.string t, .bool true]) W := fun W => by kernel_rfl
  have kb := print_bytes (P := Tryz.prog) 9 58 5 Tryz.underlying9 Tryz.underlying58 Tryz.underlying5 t w
  have hBW : Below w.heap.size w (Lib.bytesWorld w 5 t) := bytes_below (Below.refl w.heap.size w) (Nat.le_refl _) 5 t
  have hc := scanB_B b0 (some ⟨w.heap.size, 0, none⟩) (grownCap w t.size 0 5) (bytesOf t) w0 (Lib.bytesWorld w 5 t) (bytes_below hB hB.size 5 t) hb0 (blk_below hcell hBW) hp (by
      have := Kd.C_of_reads (d := (0 : Int)) (h1 := fun _ => rfl) (bytes_reads w 5 t (by omega))
      rw [bytesOf_length]
      exact this) (by rw [bytesOf_length]; exact grownCap_ge _ _ _ _)
  rw [bytesOf_length] at hc
  have HC := Aside0.mk hc
  clear hc hBW hB hb0 hcell hp ht
  go_enter Tryz.func9, Tryz.ntmps9
  go_wp2_with (go_at_call 19; refine HC.out.mono ?_; rintro e w1 hres; have HRES := Aside0.mk hres; obtain ⟨y, rfl⟩ : ∃ y, e = .returned y := (by
    rcases hR : scanAll elB (bytesOf t) with _ | vs
    · obtain ⟨⟨a, b, h⟩, _⟩ := hres.2.2 hR; exact ⟨_, h⟩
    · exact ⟨_, (hres.2.1 vs hR).1⟩); clear hres)
  go_ret
  exact HRES.out
def it_B (v : Bool) : S34 := ⟨false, ByteArray.empty, 0, 0, v⟩
set_option maxHeartbeats 4000000 in
set_option maxRecDepth 100000 in
theorem scanned_B (t : ByteArray) (w : World) (hp : paIs 44 (bytesOf t)) (ht : t.size ≤ 1000000) :
    Calls Tryz.prog 5 #[.int .i64 1, .string t] w fun e w' => Below w.heap.size w w' ∧ (∀ vs, scanAll elB (bytesOf t) = some vs → ∃ v, e = .returned (.tuple #[v, .bool true]) ∧ Kd.R k34 34 w' w.heap.size (fun _ => True) v (vs.map it_B)) ∧ (scanAll elB (bytesOf t) = none → ∃ v, e = .returned (.tuple #[v, .bool false])) := by
  have hc := scan_B w.heap.size t w (w.alloc (.cells #[.slice none 0 0] 38)) (below_alloc (Below.refl _ _) _) (Nat.le_refl _) (blk_new w _) hp ht
  have hu40 := Tryz.underlying40
  cases hR : scanAll elB (bytesOf t) with
  | none =>
    have hc2 := hc.mono (R' := fun e w' => Below w.heap.size w w' ∧ (∃ t x, e = .returned (.iface t x)) ∧ w'.heap[w.heap.size]? = some (.cells #[.slice none 0 0] 38 (0, 0))) (fun e w' h => ⟨h.1, (h.2.2 hR).1, (h.2.2 hR).2⟩)
    have HC := Aside0.mk hc2
    clear hc hc2 hR hp ht
    go_enter Tryz.func5, Tryz.ntmps5
    go_wp2_with (go_at_call 9; refine HC.out.mono ?_; rintro e w1 ⟨hb, ⟨tt, xx, rfl⟩, hbk⟩; have HB := Aside0.mk hb; have hbc := blk_cell hbk 0; clear hb hbk)
    go_loopg [30] 1 (fun kq s30 wx => s30 = .int .i64 0 ∧ Aside0 (kq = 1) ∧ wx = w1)
    case atStart => exact ⟨rfl, ⟨rfl⟩, rfl⟩
    case round =>
      obtain ⟨rfl, HK, rfl⟩ := hrel
      go_wp2_with fail
      go_quiet (fail)
      go_wp2_with fail
      go_ret2
      exact ⟨pw_below_drewN HB.out _, (fun vs h => by cases h), fun _ => ⟨_, rfl⟩⟩
  | some vs =>
    have hc2 := hc.mono (R' := fun e w' => Below w.heap.size w w' ∧ e = .returned .nilIface ∧ ∃ A c, w'.heap[w.heap.size]? = some (.cells #[.slice A vs.length c] 38 (0, 0)) ∧ Kd.C Kd.bool w' A vs.length vs) (fun e w' h => by
      obtain ⟨h1, v, h2, h3⟩ := h.2.1 vs hR
      obtain ⟨A, c, rfl, _, hC⟩ := Kd.R_reads h3
      exact ⟨h.1, h1, A, c, h2, hC⟩)
    obtain ⟨L, hL⟩ : ∃ L, L = vs.length := ⟨_, rfl⟩
    rw [← hL] at hc2
    have hLb : L ≤ 1000000 := by
      unfold scanAll at hR
      obtain ⟨els, h1, h2⟩ := Option.bind_eq_some_iff.mp hR
      rw [hL, scanV_len _ _ _ h2]
      exact lnF_len' 44 _ hp els h1
    have HC := Aside0.mk hc2
    have HL := Aside0.mk hL
    have HLB := Aside0.mk hLb
    clear hc hc2 hR hp ht hL hLb
    go_enter Tryz.func5, Tryz.ntmps5
    go_wp2_with (go_at_call 9; refine HC.out.mono ?_; rintro e w1 ⟨hb, rfl, A, c, hbk, hC⟩; have HB1 := Aside0.mk hb; have hbc := blk_cell hbk 0; have HCC := Aside0.mk hC; clear hb hbk hC)
    go_loopg [4, 30] (L + 1) (fun kq s4 s30 wx => ∃ i : Nat, s30 = .int .i64 (i : Int) ∧ Aside0 (kq + i ≥ L + 1) ∧ Aside0 (i ≤ L) ∧ Aside0 (Kd.R k34 34 wx w1.heap.size (fun _ => True) s4 ((vs.take i).map it_B)) ∧ Aside0 (Below w1.heap.size w1 wx))
    case atStart => exact ⟨0, rfl, ⟨by omega⟩, ⟨Nat.zero_le _⟩, ⟨Kd.R_nil _ _ _ _ _⟩, ⟨Below.refl _ _⟩⟩
    case round =>
      obtain ⟨i, rfl, HK, HI, HO, HB⟩ := hrel
      by_cases ci : i < L
      · have c1 : ((i : Int) < (L : Int)) = True := eq_true (by omega)
        have c1b : decide ((i : Int) < (L : Int)) = true := decide_eq_true (by omega)
        have c1c : (i < L) = True := eq_true ci
        have c1d : decide (i < L) = true := decide_eq_true ci
        have c2 : decide (0 ≤ (i : Int)) = true := decide_eq_true (by omega)
        have hi1 : wrap64 ((i : Int) + 1) = ((i + 1 : Nat) : Int) := by have := HLB.out; unfold wrap64; omega
        obtain ⟨ad, cs, rfl, hcl, hK, hcell⟩ := ReadsRow.get_ (Kd.C_below HCC.out HB.out) false (i : Int) (by omega) (by omega)
        rw [Int.toNat_natCast] at hK hcell
        obtain ⟨v, hv⟩ : ∃ v, v = vs.getD i false := ⟨_, rfl⟩
        rw [← hv] at hK
        obtain rfl : cs = [Value.bool v] := hK
        have xc : wr.cell? (ad.add i) = some (Value.bool v) := by
          have := hcell 0 _ rfl
          simpa [Kd.bool, Kd.int, Kd.string, Kd.scalar] using this
        have HTK := Aside0.mk (show vs.take (i + 1) = vs.take i ++ [v] by
          have hl : i < vs.length := by rw [← HL.out]; exact ci
          rw [hv, List.take_add_one, List.getD_eq_getElem?_getD]
          simp [hl])
        have HCI := Aside0.mk ci
        clear hcl hcell hv ci
        go_wp2_with (first | ((with_reducible refine gate_builtin (b := .append) (xs := #[.tmp 34, .tmp 37]) rfl ?_); at_builtin; refine Kd.R_append k34 (w0 := w1) w1.heap.size rfl (.tmp 34) (.tmp 37) 22 34 (.agg #[.bool false, .string ⟨#[]⟩, .int .i64 0, .float .f64 0, .bool false]) 48 rfl Tryz.underlying22 it_info2 rfl (by decide) (by omega) u4 ((vs.take i).map it_B) (it_B v) [.bool false, .string ByteArray.empty, .int .i64 0, .float .f64 0, .bool v] (fun _ => True) (fun _ => False) rfl (by first | (go_simp; done) | (go_simp; rfl)) ?aP (fun _ hk => hk.elim) ?aF ?aO ?aB ?aS ?aL ?_; (case aP => exact k34_mkM _ _ _ (it_B v)); (case aB => exact HB.out); (case aF => exact (fun _ _ => trivial)); (case aO => exact HO.out); (case aS => exact HB.out.size); (case aL => have := HLB.out; have := HI.out; simp only [List.length_map, List.length_take]; omega); intro v1 w8 ho hb hg hat))
        go_roundg (L - i)
        case measure => have := HK.out; have := HCI.out; omega
        case rel => exact ⟨i + 1, by first | rfl | go_num, ⟨by have := HCI.out; omega⟩, ⟨HCI.out⟩, ⟨by rw [HTK.out, List.map_append]; exact ho⟩, ⟨hb⟩⟩
      · have hie : i = L := by have := HI.out; omega
        subst hie
        have hall : vs.take i = vs := by rw [HL.out, List.take_length]
        have HA := Aside0.mk hall
        clear hall ci
        go_wp2_with fail
        go_quiet (fail)
        go_wp2_with fail
        go_ret2
        refine ⟨pw_below_drewN (below_step HB1.out HB.out) _, (fun vs2 h => ?_), (fun h => by cases h)⟩
        injection h with h
        subst h
        refine ⟨_, rfl, ?_⟩
        apply Kd.R_drewN
        have := HO.out
        rw [HA.out] at this
        exact Kd.R_lower this HB1.out.size
set_option maxHeartbeats 4000000 in
set_option maxRecDepth 100000 in
theorem scan_I (b0 : Nat) (t : ByteArray) (w0 w : World) (hB : Below w0.heap.size w0 w) (hb0 : w0.heap.size ≤ b0) (hcell : w.heap[b0]? = some (.cells #[.slice none 0 0] 43 (0, 0))) (hp : paIs 44 (bytesOf t)) (ht : t.size ≤ 1000000) (te tr : TypeId) (xe xr : Value) (hS : w.cell? ⟨0, 0, none⟩ = some (.iface te xe)) (hG : w.cell? ⟨1, 0, none⟩ = some (.iface tr xr)) :
    Calls Tryz.prog 10 #[.pointer (some ⟨b0, 0, none⟩), .iface 9 (.string t)] w (scRes (Kd.int .i64) 43 2 w0 b0 (scanAll (elI 64) (bytesOf t))) := by
  have t0 : ∀ W, (Instr.typeAssert (.iface 9 (.string t)) 20 58 true).run Tryz.prog W = .ok (.tuple #[.slice none 0 0, .bool false]) W := fun W => by kernel_rfl
  have t1 : ∀ W, (Instr.typeAssert (.iface 9 (.string t)) 20 9 true).run Tryz.prog W = .ok (.tuple #[.string t, .bool true]) W := fun W => by kernel_rfl
  have kb := print_bytes (P := Tryz.prog) 9 58 5 Tryz.underlying9 Tryz.underlying58 Tryz.underlying5 t w
  have hBW : Below w.heap.size w (Lib.bytesWorld w 5 t) := bytes_below (Below.refl w.heap.size w) (Nat.le_refl _) 5 t
  have hS2 := (hBW.cell (World.block_lt_of_cell? _ _ hS)).trans hS
  have hG2 := (hBW.cell (World.block_lt_of_cell? _ _ hG)).trans hG
  have hc := scanB_I b0 (some ⟨w.heap.size, 0, none⟩) (grownCap w t.size 0 5) (bytesOf t) w0 (Lib.bytesWorld w 5 t) (bytes_below hB hB.size 5 t) hb0 (blk_below hcell hBW) hp (by
      have := Kd.C_of_reads (d := (0 : Int)) (h1 := fun _ => rfl) (bytes_reads w 5 t (by omega))
      rw [bytesOf_length]
      exact this) (by rw [bytesOf_length]; exact grownCap_ge _ _ _ _) te tr xe xr hS2 hG2
  rw [bytesOf_length] at hc
  have HC := Aside0.mk hc
  clear hc hBW hB hb0 hcell hp ht hS hG hS2 hG2
  go_enter Tryz.func10, Tryz.ntmps10
  go_wp2_with (go_at_call 21; refine HC.out.mono ?_; rintro e w1 hres; have HRES := Aside0.mk hres; obtain ⟨y, rfl⟩ : ∃ y, e = .returned y := (by
    rcases hR : scanAll (elI 64) (bytesOf t) with _ | vs
    · obtain ⟨⟨a, b, h⟩, _⟩ := hres.2.2 hR; exact ⟨_, h⟩
    · exact ⟨_, (hres.2.1 vs hR).1⟩); clear hres)
  go_ret
  exact HRES.out
def it_I (v : Int) : S34 := ⟨false, ByteArray.empty, v, 0, false⟩
set_option maxHeartbeats 4000000 in
set_option maxRecDepth 100000 in
theorem scanned_I (t : ByteArray) (w : World) (hp : paIs 44 (bytesOf t)) (ht : t.size ≤ 1000000) (te tr : TypeId) (xe xr : Value) (hS : w.cell? ⟨0, 0, none⟩ = some (.iface te xe)) (hG : w.cell? ⟨1, 0, none⟩ = some (.iface tr xr)) :
    Calls Tryz.prog 5 #[.int .i64 2, .string t] w fun e w' => Below w.heap.size w w' ∧ (∀ vs, scanAll (elI 64) (bytesOf t) = some vs → ∃ v, e = .returned (.tuple #[v, .bool true]) ∧ Kd.R k34 34 w' w.heap.size (fun _ => True) v (vs.map it_I)) ∧ (scanAll (elI 64) (bytesOf t) = none → ∃ v, e = .returned (.tuple #[v, .bool false])) := by
  have hBa : Below w.heap.size w (w.alloc (.cells #[.slice none 0 0] 43)) := below_alloc (Below.refl _ _) _
  have hS3 := (hBa.cell (World.block_lt_of_cell? _ _ hS)).trans hS
  have hG3 := (hBa.cell (World.block_lt_of_cell? _ _ hG)).trans hG
  have hc := scan_I w.heap.size t w (w.alloc (.cells #[.slice none 0 0] 43)) (below_alloc (Below.refl _ _) _) (Nat.le_refl _) (blk_new w _) hp ht te tr xe xr hS3 hG3
  have hu40 := Tryz.underlying40
  cases hR : scanAll (elI 64) (bytesOf t) with
  | none =>
    have hc2 := hc.mono (R' := fun e w' => Below w.heap.size w w' ∧ (∃ t x, e = .returned (.iface t x)) ∧ w'.heap[w.heap.size]? = some (.cells #[.slice none 0 0] 43 (0, 0))) (fun e w' h => ⟨h.1, (h.2.2 hR).1, (h.2.2 hR).2⟩)
    have HC := Aside0.mk hc2
    clear hc hc2 hR hp ht hS hG hS3 hG3 hBa
    go_enter Tryz.func5, Tryz.ntmps5
    go_wp2_with (go_at_call 10; refine HC.out.mono ?_; rintro e w1 ⟨hb, ⟨tt, xx, rfl⟩, hbk⟩; have HB := Aside0.mk hb; have hbc := blk_cell hbk 0; clear hb hbk)
    go_loopg [50] 1 (fun kq s30 wx => s30 = .int .i64 0 ∧ Aside0 (kq = 1) ∧ wx = w1)
    case atStart => exact ⟨rfl, ⟨rfl⟩, rfl⟩
    case round =>
      obtain ⟨rfl, HK, rfl⟩ := hrel
      go_wp2_with fail
      go_quiet (fail)
      go_wp2_with fail
      go_ret2
      exact ⟨pw_below_drewN HB.out _, (fun vs h => by cases h), fun _ => ⟨_, rfl⟩⟩
  | some vs =>
    have hc2 := hc.mono (R' := fun e w' => Below w.heap.size w w' ∧ e = .returned .nilIface ∧ ∃ A c, w'.heap[w.heap.size]? = some (.cells #[.slice A vs.length c] 43 (0, 0)) ∧ Kd.C (Kd.int .i64) w' A vs.length vs) (fun e w' h => by
      obtain ⟨h1, v, h2, h3⟩ := h.2.1 vs hR
      obtain ⟨A, c, rfl, _, hC⟩ := Kd.R_reads h3
      exact ⟨h.1, h1, A, c, h2, hC⟩)
    obtain ⟨L, hL⟩ : ∃ L, L = vs.length := ⟨_, rfl⟩
    rw [← hL] at hc2
    have hLb : L ≤ 1000000 := by
      unfold scanAll at hR
      obtain ⟨els, h1, h2⟩ := Option.bind_eq_some_iff.mp hR
      rw [hL, scanV_len _ _ _ h2]
      exact lnF_len' 44 _ hp els h1
    have HC := Aside0.mk hc2
    have HL := Aside0.mk hL
    have HLB := Aside0.mk hLb
    clear hc hc2 hR hp ht hL hLb hS hG hS3 hG3 hBa
    go_enter Tryz.func5, Tryz.ntmps5
    go_wp2_with (go_at_call 10; refine HC.out.mono ?_; rintro e w1 ⟨hb, rfl, A, c, hbk, hC⟩; have HB1 := Aside0.mk hb; have hbc := blk_cell hbk 0; have HCC := Aside0.mk hC; clear hb hbk hC)
    go_loopg [4, 50] (L + 1) (fun kq s4 s30 wx => ∃ i : Nat, s30 = .int .i64 (i : Int) ∧ Aside0 (kq + i ≥ L + 1) ∧ Aside0 (i ≤ L) ∧ Aside0 (Kd.R k34 34 wx w1.heap.size (fun _ => True) s4 ((vs.take i).map it_I)) ∧ Aside0 (Below w1.heap.size w1 wx))
    case atStart => exact ⟨0, rfl, ⟨by omega⟩, ⟨Nat.zero_le _⟩, ⟨Kd.R_nil _ _ _ _ _⟩, ⟨Below.refl _ _⟩⟩
    case round =>
      obtain ⟨i, rfl, HK, HI, HO, HB⟩ := hrel
      by_cases ci : i < L
      · have c1 : ((i : Int) < (L : Int)) = True := eq_true (by omega)
        have c1b : decide ((i : Int) < (L : Int)) = true := decide_eq_true (by omega)
        have c1c : (i < L) = True := eq_true ci
        have c1d : decide (i < L) = true := decide_eq_true ci
        have c2 : decide (0 ≤ (i : Int)) = true := decide_eq_true (by omega)
        have hi1 : wrap64 ((i : Int) + 1) = ((i + 1 : Nat) : Int) := by have := HLB.out; unfold wrap64; omega
        obtain ⟨ad, cs, rfl, hcl, hK, hcell⟩ := ReadsRow.get_ (Kd.C_below HCC.out HB.out) 0 (i : Int) (by omega) (by omega)
        rw [Int.toNat_natCast] at hK hcell
        obtain ⟨v, hv⟩ : ∃ v, v = vs.getD i 0 := ⟨_, rfl⟩
        rw [← hv] at hK
        obtain rfl : cs = [Value.int .i64 v] := hK
        have xc : wr.cell? (ad.add i) = some (Value.int .i64 v) := by
          have := hcell 0 _ rfl
          simpa [Kd.bool, Kd.int, Kd.string, Kd.scalar] using this
        have HTK := Aside0.mk (show vs.take (i + 1) = vs.take i ++ [v] by
          have hl : i < vs.length := by rw [← HL.out]; exact ci
          rw [hv, List.take_add_one, List.getD_eq_getElem?_getD]
          simp [hl])
        have HCI := Aside0.mk ci
        clear hcl hcell hv ci
        go_wp2_with (first | ((with_reducible refine gate_builtin (b := .append) (xs := #[.tmp 54, .tmp 57]) rfl ?_); at_builtin; refine Kd.R_append k34 (w0 := w1) w1.heap.size rfl (.tmp 54) (.tmp 57) 22 34 (.agg #[.bool false, .string ⟨#[]⟩, .int .i64 0, .float .f64 0, .bool false]) 48 rfl Tryz.underlying22 it_info2 rfl (by decide) (by omega) u4 ((vs.take i).map it_I) (it_I v) [.bool false, .string ByteArray.empty, .int .i64 v, .float .f64 0, .bool false] (fun _ => True) (fun _ => False) rfl (by first | (go_simp; done) | (go_simp; rfl)) ?aP (fun _ hk => hk.elim) ?aF ?aO ?aB ?aS ?aL ?_; (case aP => exact k34_mkM _ _ _ (it_I v)); (case aB => exact HB.out); (case aF => exact (fun _ _ => trivial)); (case aO => exact HO.out); (case aS => exact HB.out.size); (case aL => have := HLB.out; have := HI.out; simp only [List.length_map, List.length_take]; omega); intro v1 w8 ho hb hg hat))
        go_roundg (L - i)
        case measure => have := HK.out; have := HCI.out; omega
        case rel => exact ⟨i + 1, by first | rfl | go_num, ⟨by have := HCI.out; omega⟩, ⟨HCI.out⟩, ⟨by rw [HTK.out, List.map_append]; exact ho⟩, ⟨hb⟩⟩
      · have hie : i = L := by have := HI.out; omega
        subst hie
        have hall : vs.take i = vs := by rw [HL.out, List.take_length]
        have HA := Aside0.mk hall
        clear hall ci
        go_wp2_with fail
        go_quiet (fail)
        go_wp2_with fail
        go_ret2
        refine ⟨pw_below_drewN (below_step HB1.out HB.out) _, (fun vs2 h => ?_), (fun h => by cases h)⟩
        injection h with h
        subst h
        refine ⟨_, rfl, ?_⟩
        apply Kd.R_drewN
        have := HO.out
        rw [HA.out] at this
        exact Kd.R_lower this HB1.out.size
set_option maxHeartbeats 4000000 in
set_option maxRecDepth 100000 in
theorem scan_S (b0 : Nat) (t : ByteArray) (w0 w : World) (hB : Below w0.heap.size w0 w) (hb0 : w0.heap.size ≤ b0) (hcell : w.heap[b0]? = some (.cells #[.slice none 0 0] 47 (0, 0))) (hp : paIs 44 (bytesOf t)) (ht : t.size ≤ 1000000) :
    Calls Tryz.prog 12 #[.pointer (some ⟨b0, 0, none⟩), .iface 9 (.string t)] w (scRes Kd.string 47 9 w0 b0 (scanAll elS (bytesOf t))) := by
  have t0 : ∀ W, (Instr.typeAssert (.iface 9 (.string t)) 20 58 true).run Tryz.prog W = .ok (.tuple #[.slice none 0 0, .bool false]) W := fun W => by kernel_rfl
  have t1 : ∀ W, (Instr.typeAssert (.iface 9 (.string t)) 20 9 true).run Tryz.prog W = .ok (.tuple #[.string t, .bool true]) W := fun W => by kernel_rfl
  have kb := print_bytes (P := Tryz.prog) 9 58 5 Tryz.underlying9 Tryz.underlying58 Tryz.underlying5 t w
  have hBW : Below w.heap.size w (Lib.bytesWorld w 5 t) := bytes_below (Below.refl w.heap.size w) (Nat.le_refl _) 5 t
  have hc := scanB_S b0 (some ⟨w.heap.size, 0, none⟩) (grownCap w t.size 0 5) (bytesOf t) w0 (Lib.bytesWorld w 5 t) (bytes_below hB hB.size 5 t) hb0 (blk_below hcell hBW) hp (by
      have := Kd.C_of_reads (d := (0 : Int)) (h1 := fun _ => rfl) (bytes_reads w 5 t (by omega))
      rw [bytesOf_length]
      exact this) (by rw [bytesOf_length]; exact grownCap_ge _ _ _ _)
  rw [bytesOf_length] at hc
  have HC := Aside0.mk hc
  clear hc hBW hB hb0 hcell hp ht
  go_enter Tryz.func12, Tryz.ntmps12
  go_wp2_with (go_at_call 23; refine HC.out.mono ?_; rintro e w1 hres; have HRES := Aside0.mk hres; obtain ⟨y, rfl⟩ : ∃ y, e = .returned y := (by
    rcases hR : scanAll elS (bytesOf t) with _ | vs
    · obtain ⟨⟨a, b, h⟩, _⟩ := hres.2.2 hR; exact ⟨_, h⟩
    · exact ⟨_, (hres.2.1 vs hR).1⟩); clear hres)
  go_ret
  exact HRES.out
def it_S (v : ByteArray) : S34 := ⟨false, v, 0, 0, false⟩
set_option maxHeartbeats 4000000 in
set_option maxRecDepth 100000 in
theorem scanned_S (t : ByteArray) (w : World) (hp : paIs 44 (bytesOf t)) (ht : t.size ≤ 1000000) :
    Calls Tryz.prog 5 #[.int .i64 4, .string t] w fun e w' => Below w.heap.size w w' ∧ (∀ vs, scanAll elS (bytesOf t) = some vs → ∃ v, e = .returned (.tuple #[v, .bool true]) ∧ Kd.R k34 34 w' w.heap.size (fun _ => True) v (vs.map it_S)) ∧ (scanAll elS (bytesOf t) = none → ∃ v, e = .returned (.tuple #[v, .bool false])) := by
  have hc := scan_S w.heap.size t w (w.alloc (.cells #[.slice none 0 0] 47)) (below_alloc (Below.refl _ _) _) (Nat.le_refl _) (blk_new w _) hp ht
  have hu40 := Tryz.underlying40
  cases hR : scanAll elS (bytesOf t) with
  | none =>
    have hc2 := hc.mono (R' := fun e w' => Below w.heap.size w w' ∧ (∃ t x, e = .returned (.iface t x)) ∧ w'.heap[w.heap.size]? = some (.cells #[.slice none 0 0] 47 (0, 0))) (fun e w' h => ⟨h.1, (h.2.2 hR).1, (h.2.2 hR).2⟩)
    have HC := Aside0.mk hc2
    clear hc hc2 hR hp ht
    go_enter Tryz.func5, Tryz.ntmps5
    go_wp2_with (go_at_call 12; refine HC.out.mono ?_; rintro e w1 ⟨hb, ⟨tt, xx, rfl⟩, hbk⟩; have HB := Aside0.mk hb; have hbc := blk_cell hbk 0; clear hb hbk)
    go_loopg [90] 1 (fun kq s30 wx => s30 = .int .i64 0 ∧ Aside0 (kq = 1) ∧ wx = w1)
    case atStart => exact ⟨rfl, ⟨rfl⟩, rfl⟩
    case round =>
      obtain ⟨rfl, HK, rfl⟩ := hrel
      go_wp2_with fail
      go_quiet (fail)
      go_wp2_with fail
      go_ret2
      exact ⟨pw_below_drewN HB.out _, (fun vs h => by cases h), fun _ => ⟨_, rfl⟩⟩
  | some vs =>
    have hc2 := hc.mono (R' := fun e w' => Below w.heap.size w w' ∧ e = .returned .nilIface ∧ ∃ A c, w'.heap[w.heap.size]? = some (.cells #[.slice A vs.length c] 47 (0, 0)) ∧ Kd.C Kd.string w' A vs.length vs) (fun e w' h => by
      obtain ⟨h1, v, h2, h3⟩ := h.2.1 vs hR
      obtain ⟨A, c, rfl, _, hC⟩ := Kd.R_reads h3
      exact ⟨h.1, h1, A, c, h2, hC⟩)
    obtain ⟨L, hL⟩ : ∃ L, L = vs.length := ⟨_, rfl⟩
    rw [← hL] at hc2
    have hLb : L ≤ 1000000 := by
      unfold scanAll at hR
      obtain ⟨els, h1, h2⟩ := Option.bind_eq_some_iff.mp hR
      rw [hL, scanV_len _ _ _ h2]
      exact lnF_len' 44 _ hp els h1
    have HC := Aside0.mk hc2
    have HL := Aside0.mk hL
    have HLB := Aside0.mk hLb
    clear hc hc2 hR hp ht hL hLb
    go_enter Tryz.func5, Tryz.ntmps5
    go_wp2_with (go_at_call 12; refine HC.out.mono ?_; rintro e w1 ⟨hb, rfl, A, c, hbk, hC⟩; have HB1 := Aside0.mk hb; have hbc := blk_cell hbk 0; have HCC := Aside0.mk hC; clear hb hbk hC)
    go_loopg [4, 90] (L + 1) (fun kq s4 s30 wx => ∃ i : Nat, s30 = .int .i64 (i : Int) ∧ Aside0 (kq + i ≥ L + 1) ∧ Aside0 (i ≤ L) ∧ Aside0 (Kd.R k34 34 wx w1.heap.size (fun _ => True) s4 ((vs.take i).map it_S)) ∧ Aside0 (Below w1.heap.size w1 wx))
    case atStart => exact ⟨0, rfl, ⟨by omega⟩, ⟨Nat.zero_le _⟩, ⟨Kd.R_nil _ _ _ _ _⟩, ⟨Below.refl _ _⟩⟩
    case round =>
      obtain ⟨i, rfl, HK, HI, HO, HB⟩ := hrel
      by_cases ci : i < L
      · have c1 : ((i : Int) < (L : Int)) = True := eq_true (by omega)
        have c1b : decide ((i : Int) < (L : Int)) = true := decide_eq_true (by omega)
        have c1c : (i < L) = True := eq_true ci
        have c1d : decide (i < L) = true := decide_eq_true ci
        have c2 : decide (0 ≤ (i : Int)) = true := decide_eq_true (by omega)
        have hi1 : wrap64 ((i : Int) + 1) = ((i + 1 : Nat) : Int) := by have := HLB.out; unfold wrap64; omega
        obtain ⟨ad, cs, rfl, hcl, hK, hcell⟩ := ReadsRow.get_ (Kd.C_below HCC.out HB.out) ⟨#[]⟩ (i : Int) (by omega) (by omega)
        rw [Int.toNat_natCast] at hK hcell
        obtain ⟨v, hv⟩ : ∃ v, v = vs.getD i ⟨#[]⟩ := ⟨_, rfl⟩
        rw [← hv] at hK
        obtain rfl : cs = [Value.string v] := hK
        have xc : wr.cell? (ad.add i) = some (Value.string v) := by
          have := hcell 0 _ rfl
          simpa [Kd.bool, Kd.int, Kd.string, Kd.scalar] using this
        have HTK := Aside0.mk (show vs.take (i + 1) = vs.take i ++ [v] by
          have hl : i < vs.length := by rw [← HL.out]; exact ci
          rw [hv, List.take_add_one, List.getD_eq_getElem?_getD]
          simp [hl])
        have HCI := Aside0.mk ci
        clear hcl hcell hv ci
        go_wp2_with (first | ((with_reducible refine gate_builtin (b := .append) (xs := #[.tmp 94, .tmp 97]) rfl ?_); at_builtin; refine Kd.R_append k34 (w0 := w1) w1.heap.size rfl (.tmp 94) (.tmp 97) 22 34 (.agg #[.bool false, .string ⟨#[]⟩, .int .i64 0, .float .f64 0, .bool false]) 48 rfl Tryz.underlying22 it_info2 rfl (by decide) (by omega) u4 ((vs.take i).map it_S) (it_S v) [.bool false, .string v, .int .i64 0, .float .f64 0, .bool false] (fun _ => True) (fun _ => False) rfl (by first | (go_simp; done) | (go_simp; rfl)) ?aP (fun _ hk => hk.elim) ?aF ?aO ?aB ?aS ?aL ?_; (case aP => exact k34_mkM _ _ _ (it_S v)); (case aB => exact HB.out); (case aF => exact (fun _ _ => trivial)); (case aO => exact HO.out); (case aS => exact HB.out.size); (case aL => have := HLB.out; have := HI.out; simp only [List.length_map, List.length_take]; omega); intro v1 w8 ho hb hg hat))
        go_roundg (L - i)
        case measure => have := HK.out; have := HCI.out; omega
        case rel => exact ⟨i + 1, by first | rfl | go_num, ⟨by have := HCI.out; omega⟩, ⟨HCI.out⟩, ⟨by rw [HTK.out, List.map_append]; exact ho⟩, ⟨hb⟩⟩
      · have hie : i = L := by have := HI.out; omega
        subst hie
        have hall : vs.take i = vs := by rw [HL.out, List.take_length]
        have HA := Aside0.mk hall
        clear hall ci
        go_wp2_with fail
        go_quiet (fail)
        go_wp2_with fail
        go_ret2
        refine ⟨pw_below_drewN (below_step HB1.out HB.out) _, (fun vs2 h => ?_), (fun h => by cases h)⟩
        injection h with h
        subst h
        refine ⟨_, rfl, ?_⟩
        apply Kd.R_drewN
        have := HO.out
        rw [HA.out] at this
        exact Kd.R_lower this HB1.out.size
set_option maxHeartbeats 4000000 in
set_option maxRecDepth 100000 in
theorem scan_J (b0 : Nat) (t : ByteArray) (w0 w : World) (hB : Below w0.heap.size w0 w) (hb0 : w0.heap.size ≤ b0) (hcell : w.heap[b0]? = some (.cells #[.slice none 0 0] 67 (0, 0))) (hp : paIs 44 (bytesOf t)) (ht : t.size ≤ 1000000) (te tr : TypeId) (xe xr : Value) (hS : w.cell? ⟨0, 0, none⟩ = some (.iface te xe)) (hG : w.cell? ⟨1, 0, none⟩ = some (.iface tr xr)) :
    Calls Tryz.prog 25 #[.pointer (some ⟨b0, 0, none⟩), .iface 9 (.string t)] w (scRes (Kd.int .i32) 67 21 w0 b0 (scanAll (elI 32) (bytesOf t))) := by
  have t0 : ∀ W, (Instr.typeAssert (.iface 9 (.string t)) 20 58 true).run Tryz.prog W = .ok (.tuple #[.slice none 0 0, .bool false]) W := fun W => by kernel_rfl
  have t1 : ∀ W, (Instr.typeAssert (.iface 9 (.string t)) 20 9 true).run Tryz.prog W = .ok (.tuple #[.string t, .bool true]) W := fun W => by kernel_rfl
  have kb := print_bytes (P := Tryz.prog) 9 58 5 Tryz.underlying9 Tryz.underlying58 Tryz.underlying5 t w
  have hBW : Below w.heap.size w (Lib.bytesWorld w 5 t) := bytes_below (Below.refl w.heap.size w) (Nat.le_refl _) 5 t
  have hS2 := (hBW.cell (World.block_lt_of_cell? _ _ hS)).trans hS
  have hG2 := (hBW.cell (World.block_lt_of_cell? _ _ hG)).trans hG
  have hc := scanB_J b0 (some ⟨w.heap.size, 0, none⟩) (grownCap w t.size 0 5) (bytesOf t) w0 (Lib.bytesWorld w 5 t) (bytes_below hB hB.size 5 t) hb0 (blk_below hcell hBW) hp (by
      have := Kd.C_of_reads (d := (0 : Int)) (h1 := fun _ => rfl) (bytes_reads w 5 t (by omega))
      rw [bytesOf_length]
      exact this) (by rw [bytesOf_length]; exact grownCap_ge _ _ _ _) te tr xe xr hS2 hG2
  rw [bytesOf_length] at hc
  have HC := Aside0.mk hc
  clear hc hBW hB hb0 hcell hp ht hS hG hS2 hG2
  go_enter Tryz.func25, Tryz.ntmps25
  go_wp2_with (go_at_call 34; refine HC.out.mono ?_; rintro e w1 hres; have HRES := Aside0.mk hres; obtain ⟨y, rfl⟩ : ∃ y, e = .returned y := (by
    rcases hR : scanAll (elI 32) (bytesOf t) with _ | vs
    · obtain ⟨⟨a, b, h⟩, _⟩ := hres.2.2 hR; exact ⟨_, h⟩
    · exact ⟨_, (hres.2.1 vs hR).1⟩); clear hres)
  go_ret
  exact HRES.out
def it_J (v : Int) : S34 := ⟨false, ByteArray.empty, wrap64 v, 0, false⟩
set_option maxHeartbeats 4000000 in
set_option maxRecDepth 100000 in
theorem scanned_J (t : ByteArray) (w : World) (hp : paIs 44 (bytesOf t)) (ht : t.size ≤ 1000000) (te tr : TypeId) (xe xr : Value) (hS : w.cell? ⟨0, 0, none⟩ = some (.iface te xe)) (hG : w.cell? ⟨1, 0, none⟩ = some (.iface tr xr)) :
    Calls Tryz.prog 13 #[.int .i64 6, .string t] w fun e w' => Below w.heap.size w w' ∧ (∀ vs, scanAll (elI 32) (bytesOf t) = some vs → ∃ v, e = .returned (.tuple #[v, .bool true]) ∧ Kd.R k34 34 w' w.heap.size (fun _ => True) v (vs.map it_J)) ∧ (scanAll (elI 32) (bytesOf t) = none → ∃ v, e = .returned (.tuple #[v, .bool false])) := by
  have hBa : Below w.heap.size w (w.alloc (.cells #[.slice none 0 0] 67)) := below_alloc (Below.refl _ _) _
  have hS3 := (hBa.cell (World.block_lt_of_cell? _ _ hS)).trans hS
  have hG3 := (hBa.cell (World.block_lt_of_cell? _ _ hG)).trans hG
  have hc := scan_J w.heap.size t w (w.alloc (.cells #[.slice none 0 0] 67)) (below_alloc (Below.refl _ _) _) (Nat.le_refl _) (blk_new w _) hp ht te tr xe xr hS3 hG3
  have hu40 := Tryz.underlying40
  cases hR : scanAll (elI 32) (bytesOf t) with
  | none =>
    have hc2 := hc.mono (R' := fun e w' => Below w.heap.size w w' ∧ (∃ t x, e = .returned (.iface t x)) ∧ w'.heap[w.heap.size]? = some (.cells #[.slice none 0 0] 67 (0, 0))) (fun e w' h => ⟨h.1, (h.2.2 hR).1, (h.2.2 hR).2⟩)
    have HC := Aside0.mk hc2
    clear hc hc2 hR hp ht hS hG hS3 hG3 hBa
    go_enter Tryz.func13, Tryz.ntmps13
    go_wp2_with (go_at_call 25; refine HC.out.mono ?_; rintro e w1 ⟨hb, ⟨tt, xx, rfl⟩, hbk⟩; have HB := Aside0.mk hb; have hbc := blk_cell hbk 0; clear hb hbk)
    go_loopg [47] 1 (fun kq s30 wx => s30 = .int .i64 0 ∧ Aside0 (kq = 1) ∧ wx = w1)
    case atStart => exact ⟨rfl, ⟨rfl⟩, rfl⟩
    case round =>
      obtain ⟨rfl, HK, rfl⟩ := hrel
      go_wp2_with fail
      go_quiet (fail)
      go_wp2_with fail
      go_ret2
      exact ⟨pw_below_drewN HB.out _, (fun vs h => by cases h), fun _ => ⟨_, rfl⟩⟩
  | some vs =>
    have hc2 := hc.mono (R' := fun e w' => Below w.heap.size w w' ∧ e = .returned .nilIface ∧ ∃ A c, w'.heap[w.heap.size]? = some (.cells #[.slice A vs.length c] 67 (0, 0)) ∧ Kd.C (Kd.int .i32) w' A vs.length vs) (fun e w' h => by
      obtain ⟨h1, v, h2, h3⟩ := h.2.1 vs hR
      obtain ⟨A, c, rfl, _, hC⟩ := Kd.R_reads h3
      exact ⟨h.1, h1, A, c, h2, hC⟩)
    obtain ⟨L, hL⟩ : ∃ L, L = vs.length := ⟨_, rfl⟩
    rw [← hL] at hc2
    have hLb : L ≤ 1000000 := by
      unfold scanAll at hR
      obtain ⟨els, h1, h2⟩ := Option.bind_eq_some_iff.mp hR
      rw [hL, scanV_len _ _ _ h2]
      exact lnF_len' 44 _ hp els h1
    have HC := Aside0.mk hc2
    have HL := Aside0.mk hL
    have HLB := Aside0.mk hLb
    clear hc hc2 hR hp ht hL hLb hS hG hS3 hG3 hBa
    go_enter Tryz.func13, Tryz.ntmps13
    go_wp2_with (go_at_call 25; refine HC.out.mono ?_; rintro e w1 ⟨hb, rfl, A, c, hbk, hC⟩; have HB1 := Aside0.mk hb; have hbc := blk_cell hbk 0; have HCC := Aside0.mk hC; clear hb hbk hC)
    go_loopg [4, 47] (L + 1) (fun kq s4 s30 wx => ∃ i : Nat, s30 = .int .i64 (i : Int) ∧ Aside0 (kq + i ≥ L + 1) ∧ Aside0 (i ≤ L) ∧ Aside0 (Kd.R k34 34 wx w1.heap.size (fun _ => True) s4 ((vs.take i).map it_J)) ∧ Aside0 (Below w1.heap.size w1 wx))
    case atStart => exact ⟨0, rfl, ⟨by omega⟩, ⟨Nat.zero_le _⟩, ⟨Kd.R_nil _ _ _ _ _⟩, ⟨Below.refl _ _⟩⟩
    case round =>
      obtain ⟨i, rfl, HK, HI, HO, HB⟩ := hrel
      by_cases ci : i < L
      · have c1 : ((i : Int) < (L : Int)) = True := eq_true (by omega)
        have c1b : decide ((i : Int) < (L : Int)) = true := decide_eq_true (by omega)
        have c1c : (i < L) = True := eq_true ci
        have c1d : decide (i < L) = true := decide_eq_true ci
        have c2 : decide (0 ≤ (i : Int)) = true := decide_eq_true (by omega)
        have hi1 : wrap64 ((i : Int) + 1) = ((i + 1 : Nat) : Int) := by have := HLB.out; unfold wrap64; omega
        obtain ⟨ad, cs, rfl, hcl, hK, hcell⟩ := ReadsRow.get_ (Kd.C_below HCC.out HB.out) 0 (i : Int) (by omega) (by omega)
        rw [Int.toNat_natCast] at hK hcell
        obtain ⟨v, hv⟩ : ∃ v, v = vs.getD i 0 := ⟨_, rfl⟩
        rw [← hv] at hK
        obtain rfl : cs = [Value.int .i32 v] := hK
        have xc : wr.cell? (ad.add i) = some (Value.int .i32 v) := by
          have := hcell 0 _ rfl
          simpa [Kd.bool, Kd.int, Kd.string, Kd.scalar] using this
        have HTK := Aside0.mk (show vs.take (i + 1) = vs.take i ++ [v] by
          have hl : i < vs.length := by rw [← HL.out]; exact ci
          rw [hv, List.take_add_one, List.getD_eq_getElem?_getD]
          simp [hl])
        have HCI := Aside0.mk ci
        clear hcl hcell hv ci
        go_wp2_with (first | ((with_reducible refine gate_builtin (b := .append) (xs := #[.tmp 51, .tmp 55]) rfl ?_); at_builtin; refine Kd.R_append k34 (w0 := w1) w1.heap.size rfl (.tmp 51) (.tmp 55) 22 34 (.agg #[.bool false, .string ⟨#[]⟩, .int .i64 0, .float .f64 0, .bool false]) 48 rfl Tryz.underlying22 it_info2 rfl (by decide) (by omega) u4 ((vs.take i).map it_J) (it_J v) [.bool false, .string ByteArray.empty, .int .i64 (wrap64 v), .float .f64 0, .bool false] (fun _ => True) (fun _ => False) rfl (by first | (go_simp; done) | (go_simp; rfl)) ?aP (fun _ hk => hk.elim) ?aF ?aO ?aB ?aS ?aL ?_; (case aP => exact k34_mkM _ _ _ (it_J v)); (case aB => exact HB.out); (case aF => exact (fun _ _ => trivial)); (case aO => exact HO.out); (case aS => exact HB.out.size); (case aL => have := HLB.out; have := HI.out; simp only [List.length_map, List.length_take]; omega); intro v1 w8 ho hb hg hat))
        go_roundg (L - i)
        case measure => have := HK.out; have := HCI.out; omega
        case rel => exact ⟨i + 1, by first | rfl | go_num, ⟨by have := HCI.out; omega⟩, ⟨HCI.out⟩, ⟨by rw [HTK.out, List.map_append]; exact ho⟩, ⟨hb⟩⟩
      · have hie : i = L := by have := HI.out; omega
        subst hie
        have hall : vs.take i = vs := by rw [HL.out, List.take_length]
        have HA := Aside0.mk hall
        clear hall ci
        go_wp2_with fail
        go_quiet (fail)
        go_wp2_with fail
        go_ret2
        refine ⟨pw_below_drewN (below_step HB1.out HB.out) _, (fun vs2 h => ?_), (fun h => by cases h)⟩
        injection h with h
        subst h
        refine ⟨_, rfl, ?_⟩
        apply Kd.R_drewN
        have := HO.out
        rw [HA.out] at this
        exact Kd.R_lower this HB1.out.size
set_option maxHeartbeats 4000000 in
set_option maxRecDepth 100000 in
theorem scanned_J6 (t : ByteArray) (w : World) (hp : paIs 44 (bytesOf t)) (ht : t.size ≤ 1000000) (te tr : TypeId) (xe xr : Value) (hS : w.cell? ⟨0, 0, none⟩ = some (.iface te xe)) (hG : w.cell? ⟨1, 0, none⟩ = some (.iface tr xr)) :
    Calls Tryz.prog 5 #[.int .i64 6, .string t] w fun e w' => Below w.heap.size w w' ∧ (∀ vs, scanAll (elI 32) (bytesOf t) = some vs → ∃ v, e = .returned (.tuple #[v, .bool true]) ∧ Kd.R k34 34 w' w.heap.size (fun _ => True) v (vs.map it_J)) ∧ (scanAll (elI 32) (bytesOf t) = none → ∃ v, e = .returned (.tuple #[v, .bool false])) := by
  have hc := scanned_J t w hp ht te tr xe xr hS hG
  cases hR2 : scanAll (elI 32) (bytesOf t) with
  | none =>
    have HC := Aside0.mk (hc.mono (R' := fun e w' => Below w.heap.size w w' ∧ ∃ v, e = .returned (.tuple #[v, .bool false])) (fun e w' h => ⟨h.1, h.2.2 hR2⟩))
    clear hc hR2 hp ht hS hG
    go_enter Tryz.func5, Tryz.ntmps5
    go_wp2_with (go_at_call 13; refine HC.out.mono ?_; rintro e w1 ⟨hb, v, rfl⟩; have HB := Aside0.mk hb; clear hb)
    go_ret2
    exact ⟨HB.out, (fun vs h => by cases h), fun _ => ⟨_, rfl⟩⟩
  | some vs =>
    have HC := Aside0.mk (hc.mono (R' := fun e w' => Below w.heap.size w w' ∧ ∃ v, e = .returned (.tuple #[v, .bool true]) ∧ Kd.R k34 34 w' w.heap.size (fun _ => True) v (vs.map it_J)) (fun e w' h => ⟨h.1, h.2.1 vs hR2⟩))
    clear hc hR2 hp ht hS hG
    go_enter Tryz.func5, Tryz.ntmps5
    go_wp2_with (go_at_call 13; refine HC.out.mono ?_; rintro e w1 ⟨hb, v, rfl, hq⟩; have HB := Aside0.mk hb; have HQ := Aside0.mk hq; clear hb hq)
    go_ret2
    exact ⟨HB.out, (fun vs2 h => by injection h with h; subst h; exact ⟨_, rfl, HQ.out⟩), fun h => by cases h⟩
end Go.Proofs.YtcdcoogjhkchlaaGreatDoor.P
