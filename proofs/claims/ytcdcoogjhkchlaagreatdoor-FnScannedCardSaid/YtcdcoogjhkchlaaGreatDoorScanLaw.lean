/- FnScanned's walk. Conditions: what the two error variables hold. -/
import Derived.Test.YtcdcoogjhkchlaaGreatDoorScanPure
import Derived.Stop.LaidErr
import Derived.LaidLaws
import Derived.OpenShut
namespace Go.Proofs.YtcdcoogjhkchlaaGreatDoor.Lib
open Go.RowKit Go.Proofs.YtcdcoogjhkchlaaGreatDoor.P Go.Proofs.YtcdcoogjhkchlaaGreatDoorW.PrintWords Go.Proofs.YtcdcoogjhkchlaaGreatDoorW.PrintLast Go.Proofs.YtcdcoogjhkchlaaGreatDoorW.PrintMore
set_option linter.unusedVariables false
set_option linter.unusedSimpArgs false
set_option maxHeartbeats 4000000 in
set_option maxRecDepth 100000 in
theorem fs_long (a0 : Int) (a1 : ByteArray) (w : World) (h : 2000 < a1.size) (h2 : a1.size ≤ 140737488351232) :
    Calls Tryz.prog 3 #[.int .i64 a0, .string a1] w fun e w' => e = .returned (.bool true) ∧ Below w.heap.size w w' := by
  have g3b : decide ((2000 : Int) < (a1.size : Int)) = true := decide_eq_true (by omega)
  have g3c : decide (2000 < a1.size) = true := decide_eq_true (by omega)
  by_cases hh : 2147483647 < a1.size
  · have g1b : decide ((2147483647 : Int) < (a1.size : Int)) = true := decide_eq_true (by omega)
    have g1c : decide (2147483647 < a1.size) = true := decide_eq_true (by omega)
    clear h h2
    go_enter Tryz.func3, Tryz.ntmps3
    go_wp2_with fail
    go_ret
    exact ⟨rfl, Below.refl _ _⟩
  · have g1b : decide ((2147483647 : Int) < (a1.size : Int)) = false := decide_eq_false (by omega)
    have g1c : decide (2147483647 < a1.size) = false := decide_eq_false (by omega)
    clear h h2
    go_enter Tryz.func3, Tryz.ntmps3
    go_wp2_with fail
    go_ret
    exact ⟨rfl, Below.refl _ _⟩
set_option maxHeartbeats 4000000 in
set_option maxRecDepth 100000 in
theorem fs_other (a0 : Int) (a1 : ByteArray) (w : World) (h : a1.size ≤ 2000) (k1 : a0 ≠ 1) (k2 : a0 ≠ 2) (k4 : a0 ≠ 4) (k6 : a0 ≠ 6) :
    Calls Tryz.prog 3 #[.int .i64 a0, .string a1] w fun e w' => e = .returned (.bool true) ∧ Below w.heap.size w w' := by
  have g3b : decide ((2000 : Int) < (a1.size : Int)) = false := decide_eq_false (by omega)
  have g3c : decide (2000 < a1.size) = false := decide_eq_false (by omega)
  have g1b : decide ((2147483647 : Int) < (a1.size : Int)) = false := decide_eq_false (by omega)
  have g1c : decide (2147483647 < a1.size) = false := decide_eq_false (by omega)
  have e1 : (a0 != 1) = true := bne_iff_ne.mpr k1
  have e2 : (a0 != 2) = true := bne_iff_ne.mpr k2
  have e4 : (a0 != 4) = true := bne_iff_ne.mpr k4
  have e6 : (a0 != 6) = true := bne_iff_ne.mpr k6
  have d1 : (a0 == 1) = false := beq_eq_false_iff_ne.mpr k1
  have d2 : (a0 == 2) = false := beq_eq_false_iff_ne.mpr k2
  have d4 : (a0 == 4) = false := beq_eq_false_iff_ne.mpr k4
  have d6 : (a0 == 6) = false := beq_eq_false_iff_ne.mpr k6
  clear h k1 k2 k4 k6
  go_enter Tryz.func3, Tryz.ntmps3
  go_wp2_with fail
  go_ret
  exact ⟨rfl, Below.refl _ _⟩
set_option maxHeartbeats 4000000 in
set_option maxRecDepth 100000 in
theorem fs_B (a1 : ByteArray) (w : World) (h : a1.size ≤ 2000) (hS : paIs 44 (bytesOf a1) → ∀ W, Below w.heap.size w W → Calls Tryz.prog 5 #[.int .i64 1, .string a1] W fun e w' => Below W.heap.size W w' ∧ (∀ vs, scanAll elB (bytesOf a1) = some vs → ∃ v, e = .returned (.tuple #[v, .bool true]) ∧ Kd.R k34 34 w' W.heap.size (fun _ => True) v (vs.map it_B)) ∧ (scanAll elB (bytesOf a1) = none → ∃ v, e = .returned (.tuple #[v, .bool false]))) :
    Calls Tryz.prog 3 #[.int .i64 1, .string a1] w fun e w' => e = .returned (.bool true) ∧ Below w.heap.size w w' := by
  have g3b : decide ((2000 : Int) < (a1.size : Int)) = false := decide_eq_false (by omega)
  have g3c : decide (2000 < a1.size) = false := decide_eq_false (by omega)
  have g1b : decide ((2147483647 : Int) < (a1.size : Int)) = false := decide_eq_false (by omega)
  have g1c : decide (2147483647 < a1.size) = false := decide_eq_false (by omega)
  obtain ⟨R, hR, hq⟩ := elements 1 elB it_B a1 h (fun els hp he x hx => one_B x (fun l hl => lnF_rng _ hp els he x hx l hl))
  obtain ⟨r1, r2, r3⟩ := R
  obtain ⟨k, hk⟩ := hR.rounds
  have hE : ∀ W, Calls Tryz.prog 4 #[.int .i64 1, .string a1] W fun e w' => Below W.heap.size W w' ∧ ∃ A n c, e = .returned (.tuple #[.slice A n c, .bool r2, .bool r3]) ∧ n = r1.length ∧ n ≤ c ∧ Kd.C k34 w' A n r1 := fun W => (spec_Elements.calls k 1 a1 r1 r2 r3 W hk).mono (by
    rintro e w' ⟨v, rfl, hv, hb⟩
    obtain ⟨A, c, rfl, hc, hC⟩ := Kd.R_reads hv
    exact ⟨hb, A, _, c, rfl, rfl, hc, hC⟩)
  have HE := Aside0.mk hE
  have HB0 := Aside0.mk (Below.refl w.heap.size w)
  cases r3 with
  | false =>
    clear hE hR hq hk hS h
    go_enter Tryz.func3, Tryz.ntmps3
    go_wp2_with (go_at_call 4; refine (HE.out _).mono ?_; rintro e w1 ⟨hb, A, n, c, rfl, _, _, _⟩; have HB1 := Aside0.mk hb; clear hb)
    go_ret
    exact ⟨rfl, HB1.out⟩
  | true =>
    obtain ⟨hp, hy, hn⟩ := hq rfl
    cases r2 with
    | false =>
      have hno := hn rfl
      have HS := Aside0.mk (fun W hW => (hS hp W hW).mono (R' := fun e w' => Below W.heap.size W w' ∧ ∃ v, e = .returned (.tuple #[v, .bool false])) (fun e w' h => ⟨h.1, h.2.2 hno⟩))
      clear hE hR hq hk hS h hp hy hn hno
      go_enter Tryz.func3, Tryz.ntmps3
      go_wp2_with (first | (go_at_call 4; refine (HE.out _).mono ?_; rintro e w1 ⟨hb, A, n, c, rfl, _, _, _⟩; have HB1 := Aside0.mk hb; clear hb) | (go_at_call 5; refine (HS.out _ HB1.out).mono ?_; rintro e w2 ⟨hb, v, rfl⟩; have HB2 := Aside0.mk hb; clear hb))
      go_ret
      exact ⟨rfl, below_step HB1.out HB2.out⟩
    | true =>
      obtain ⟨vs, hvs, hr1⟩ := hy rfl
      have hr1 : r1 = vs.map it_B := hr1
      have hvl : vs.length ≤ 1000000 := by
        unfold scanAll at hvs
        obtain ⟨els, h1, h2⟩ := Option.bind_eq_some_iff.mp hvs
        rw [scanV_len _ _ _ h2]
        exact lnF_len' 44 _ hp els h1
      have HS := Aside0.mk (fun W hW => (hS hp W hW).mono (R' := fun e w' => Below W.heap.size W w' ∧ ∃ A n c, e = .returned (.tuple #[.slice A n c, .bool true]) ∧ n = (vs.map it_B).length ∧ n ≤ c ∧ Kd.C k34 w' A n (vs.map it_B)) (fun e w' h => by
        obtain ⟨v, he, hv⟩ := h.2.1 vs hvs
        obtain ⟨A, c, rfl, hc, hC⟩ := Kd.R_reads hv
        exact ⟨h.1, A, _, c, he, rfl, hc, hC⟩))
      have HSM := Aside0.mk (same_it it_B (fun v => rfl) vs hvl)
      have HR1 := Aside0.mk hr1
      have hsame : ∀ (A0 : Option Addr) (n0 c0 : Nat) (A1 : Option Addr) (n1 c1 : Nat) (W : World), n0 = (vs.map it_B).length → n1 = (vs.map it_B).length → n0 ≤ c0 → n1 ≤ c1 → Kd.C k34 W A0 n0 (vs.map it_B) → Kd.C k34 W A1 n1 (vs.map it_B) → Calls Tryz.prog 6 #[.slice A0 n0 c0, .slice A1 n1 c1] W fun e w' => e = .returned (.bool true) ∧ Below W.heap.size W w' := by
        rintro A0 n0 c0 A1 n1 c1 W rfl rfl h0 h1 hC0 hC1
        exact spec_SameItems.calls A0 c0 _ A1 c1 _ true W hC0 h0 hC1 h1 HSM.out
      have HSAME := Aside0.mk hsame
      clear hE hR hq hk hS h hp hy hn hvs hr1 hvl hsame
      go_enter Tryz.func3, Tryz.ntmps3
      go_wp2_with (first | (go_at_call 4; refine (HE.out _).mono ?_; rintro e w1 ⟨hb, A, n, c, rfl, hn1, hc1, hC1⟩; have HB1 := Aside0.mk hb; have HN1 := Aside0.mk hn1; have HC1 := Aside0.mk hc1; have HCC1 := Aside0.mk hC1; clear hb hn1 hc1 hC1) | (go_at_call 5; refine (HS.out _ HB1.out).mono ?_; rintro e w2 ⟨hb, A2, n2, c2, rfl, hn2, hc2, hC2⟩; have HB2 := Aside0.mk hb; have HN2 := Aside0.mk hn2; have HC2 := Aside0.mk hc2; have HCC2 := Aside0.mk hC2; clear hb hn2 hc2 hC2) | (go_at_call 6; refine (HSAME.out _ _ _ _ _ _ _ HN2.out (by rw [HN1.out, HR1.out]) HC2.out HC1.out HCC2.out (by have := Kd.C_below HCC1.out HB2.out; rw [HR1.out] at this; exact this)).mono ?_; rintro e w3 ⟨rfl, hb⟩; have HB3 := Aside0.mk hb; clear hb))
      go_ret
      exact ⟨rfl, below_step (below_step HB1.out HB2.out) HB3.out⟩
set_option maxHeartbeats 4000000 in
set_option maxRecDepth 100000 in
theorem fs_I (a1 : ByteArray) (w : World) (h : a1.size ≤ 2000) (hS : paIs 44 (bytesOf a1) → ∀ W, Below w.heap.size w W → Calls Tryz.prog 5 #[.int .i64 2, .string a1] W fun e w' => Below W.heap.size W w' ∧ (∀ vs, scanAll (elI 64) (bytesOf a1) = some vs → ∃ v, e = .returned (.tuple #[v, .bool true]) ∧ Kd.R k34 34 w' W.heap.size (fun _ => True) v (vs.map it_I)) ∧ (scanAll (elI 64) (bytesOf a1) = none → ∃ v, e = .returned (.tuple #[v, .bool false]))) :
    Calls Tryz.prog 3 #[.int .i64 2, .string a1] w fun e w' => e = .returned (.bool true) ∧ Below w.heap.size w w' := by
  have g3b : decide ((2000 : Int) < (a1.size : Int)) = false := decide_eq_false (by omega)
  have g3c : decide (2000 < a1.size) = false := decide_eq_false (by omega)
  have g1b : decide ((2147483647 : Int) < (a1.size : Int)) = false := decide_eq_false (by omega)
  have g1c : decide (2147483647 < a1.size) = false := decide_eq_false (by omega)
  obtain ⟨R, hR, hq⟩ := elements 2 (elI 64) it_I a1 h (fun els hp he x hx => one_I x (fun l hl => lnF_short _ hp els he x hx l hl))
  obtain ⟨r1, r2, r3⟩ := R
  obtain ⟨k, hk⟩ := hR.rounds
  have hE : ∀ W, Calls Tryz.prog 4 #[.int .i64 2, .string a1] W fun e w' => Below W.heap.size W w' ∧ ∃ A n c, e = .returned (.tuple #[.slice A n c, .bool r2, .bool r3]) ∧ n = r1.length ∧ n ≤ c ∧ Kd.C k34 w' A n r1 := fun W => (spec_Elements.calls k 2 a1 r1 r2 r3 W hk).mono (by
    rintro e w' ⟨v, rfl, hv, hb⟩
    obtain ⟨A, c, rfl, hc, hC⟩ := Kd.R_reads hv
    exact ⟨hb, A, _, c, rfl, rfl, hc, hC⟩)
  have HE := Aside0.mk hE
  have HB0 := Aside0.mk (Below.refl w.heap.size w)
  cases r3 with
  | false =>
    clear hE hR hq hk hS h
    go_enter Tryz.func3, Tryz.ntmps3
    go_wp2_with (go_at_call 4; refine (HE.out _).mono ?_; rintro e w1 ⟨hb, A, n, c, rfl, _, _, _⟩; have HB1 := Aside0.mk hb; clear hb)
    go_ret
    exact ⟨rfl, HB1.out⟩
  | true =>
    obtain ⟨hp, hy, hn⟩ := hq rfl
    cases r2 with
    | false =>
      have hno := hn rfl
      have HS := Aside0.mk (fun W hW => (hS hp W hW).mono (R' := fun e w' => Below W.heap.size W w' ∧ ∃ v, e = .returned (.tuple #[v, .bool false])) (fun e w' h => ⟨h.1, h.2.2 hno⟩))
      clear hE hR hq hk hS h hp hy hn hno
      go_enter Tryz.func3, Tryz.ntmps3
      go_wp2_with (first | (go_at_call 4; refine (HE.out _).mono ?_; rintro e w1 ⟨hb, A, n, c, rfl, _, _, _⟩; have HB1 := Aside0.mk hb; clear hb) | (go_at_call 5; refine (HS.out _ HB1.out).mono ?_; rintro e w2 ⟨hb, v, rfl⟩; have HB2 := Aside0.mk hb; clear hb))
      go_ret
      exact ⟨rfl, below_step HB1.out HB2.out⟩
    | true =>
      obtain ⟨vs, hvs, hr1⟩ := hy rfl
      have hr1 : r1 = vs.map it_I := hr1
      have hvl : vs.length ≤ 1000000 := by
        unfold scanAll at hvs
        obtain ⟨els, h1, h2⟩ := Option.bind_eq_some_iff.mp hvs
        rw [scanV_len _ _ _ h2]
        exact lnF_len' 44 _ hp els h1
      have HS := Aside0.mk (fun W hW => (hS hp W hW).mono (R' := fun e w' => Below W.heap.size W w' ∧ ∃ A n c, e = .returned (.tuple #[.slice A n c, .bool true]) ∧ n = (vs.map it_I).length ∧ n ≤ c ∧ Kd.C k34 w' A n (vs.map it_I)) (fun e w' h => by
        obtain ⟨v, he, hv⟩ := h.2.1 vs hvs
        obtain ⟨A, c, rfl, hc, hC⟩ := Kd.R_reads hv
        exact ⟨h.1, A, _, c, he, rfl, hc, hC⟩))
      have HSM := Aside0.mk (same_it it_I (fun v => rfl) vs hvl)
      have HR1 := Aside0.mk hr1
      have hsame : ∀ (A0 : Option Addr) (n0 c0 : Nat) (A1 : Option Addr) (n1 c1 : Nat) (W : World), n0 = (vs.map it_I).length → n1 = (vs.map it_I).length → n0 ≤ c0 → n1 ≤ c1 → Kd.C k34 W A0 n0 (vs.map it_I) → Kd.C k34 W A1 n1 (vs.map it_I) → Calls Tryz.prog 6 #[.slice A0 n0 c0, .slice A1 n1 c1] W fun e w' => e = .returned (.bool true) ∧ Below W.heap.size W w' := by
        rintro A0 n0 c0 A1 n1 c1 W rfl rfl h0 h1 hC0 hC1
        exact spec_SameItems.calls A0 c0 _ A1 c1 _ true W hC0 h0 hC1 h1 HSM.out
      have HSAME := Aside0.mk hsame
      clear hE hR hq hk hS h hp hy hn hvs hr1 hvl hsame
      go_enter Tryz.func3, Tryz.ntmps3
      go_wp2_with (first | (go_at_call 4; refine (HE.out _).mono ?_; rintro e w1 ⟨hb, A, n, c, rfl, hn1, hc1, hC1⟩; have HB1 := Aside0.mk hb; have HN1 := Aside0.mk hn1; have HC1 := Aside0.mk hc1; have HCC1 := Aside0.mk hC1; clear hb hn1 hc1 hC1) | (go_at_call 5; refine (HS.out _ HB1.out).mono ?_; rintro e w2 ⟨hb, A2, n2, c2, rfl, hn2, hc2, hC2⟩; have HB2 := Aside0.mk hb; have HN2 := Aside0.mk hn2; have HC2 := Aside0.mk hc2; have HCC2 := Aside0.mk hC2; clear hb hn2 hc2 hC2) | (go_at_call 6; refine (HSAME.out _ _ _ _ _ _ _ HN2.out (by rw [HN1.out, HR1.out]) HC2.out HC1.out HCC2.out (by have := Kd.C_below HCC1.out HB2.out; rw [HR1.out] at this; exact this)).mono ?_; rintro e w3 ⟨rfl, hb⟩; have HB3 := Aside0.mk hb; clear hb))
      go_ret
      exact ⟨rfl, below_step (below_step HB1.out HB2.out) HB3.out⟩
set_option maxHeartbeats 4000000 in
set_option maxRecDepth 100000 in
theorem fs_S (a1 : ByteArray) (w : World) (h : a1.size ≤ 2000) (hS : paIs 44 (bytesOf a1) → ∀ W, Below w.heap.size w W → Calls Tryz.prog 5 #[.int .i64 4, .string a1] W fun e w' => Below W.heap.size W w' ∧ (∀ vs, scanAll elS (bytesOf a1) = some vs → ∃ v, e = .returned (.tuple #[v, .bool true]) ∧ Kd.R k34 34 w' W.heap.size (fun _ => True) v (vs.map it_S)) ∧ (scanAll elS (bytesOf a1) = none → ∃ v, e = .returned (.tuple #[v, .bool false]))) :
    Calls Tryz.prog 3 #[.int .i64 4, .string a1] w fun e w' => e = .returned (.bool true) ∧ Below w.heap.size w w' := by
  have g3b : decide ((2000 : Int) < (a1.size : Int)) = false := decide_eq_false (by omega)
  have g3c : decide (2000 < a1.size) = false := decide_eq_false (by omega)
  have g1b : decide ((2147483647 : Int) < (a1.size : Int)) = false := decide_eq_false (by omega)
  have g1c : decide (2147483647 < a1.size) = false := decide_eq_false (by omega)
  obtain ⟨R, hR, hq⟩ := elements 4 elS it_S a1 h (fun els hp he x hx => one_S x)
  obtain ⟨r1, r2, r3⟩ := R
  obtain ⟨k, hk⟩ := hR.rounds
  have hE : ∀ W, Calls Tryz.prog 4 #[.int .i64 4, .string a1] W fun e w' => Below W.heap.size W w' ∧ ∃ A n c, e = .returned (.tuple #[.slice A n c, .bool r2, .bool r3]) ∧ n = r1.length ∧ n ≤ c ∧ Kd.C k34 w' A n r1 := fun W => (spec_Elements.calls k 4 a1 r1 r2 r3 W hk).mono (by
    rintro e w' ⟨v, rfl, hv, hb⟩
    obtain ⟨A, c, rfl, hc, hC⟩ := Kd.R_reads hv
    exact ⟨hb, A, _, c, rfl, rfl, hc, hC⟩)
  have HE := Aside0.mk hE
  have HB0 := Aside0.mk (Below.refl w.heap.size w)
  cases r3 with
  | false =>
    clear hE hR hq hk hS h
    go_enter Tryz.func3, Tryz.ntmps3
    go_wp2_with (go_at_call 4; refine (HE.out _).mono ?_; rintro e w1 ⟨hb, A, n, c, rfl, _, _, _⟩; have HB1 := Aside0.mk hb; clear hb)
    go_ret
    exact ⟨rfl, HB1.out⟩
  | true =>
    obtain ⟨hp, hy, hn⟩ := hq rfl
    cases r2 with
    | false =>
      have hno := hn rfl
      have HS := Aside0.mk (fun W hW => (hS hp W hW).mono (R' := fun e w' => Below W.heap.size W w' ∧ ∃ v, e = .returned (.tuple #[v, .bool false])) (fun e w' h => ⟨h.1, h.2.2 hno⟩))
      clear hE hR hq hk hS h hp hy hn hno
      go_enter Tryz.func3, Tryz.ntmps3
      go_wp2_with (first | (go_at_call 4; refine (HE.out _).mono ?_; rintro e w1 ⟨hb, A, n, c, rfl, _, _, _⟩; have HB1 := Aside0.mk hb; clear hb) | (go_at_call 5; refine (HS.out _ HB1.out).mono ?_; rintro e w2 ⟨hb, v, rfl⟩; have HB2 := Aside0.mk hb; clear hb))
      go_ret
      exact ⟨rfl, below_step HB1.out HB2.out⟩
    | true =>
      obtain ⟨vs, hvs, hr1⟩ := hy rfl
      have hr1 : r1 = vs.map it_S := hr1
      have hvl : vs.length ≤ 1000000 := by
        unfold scanAll at hvs
        obtain ⟨els, h1, h2⟩ := Option.bind_eq_some_iff.mp hvs
        rw [scanV_len _ _ _ h2]
        exact lnF_len' 44 _ hp els h1
      have HS := Aside0.mk (fun W hW => (hS hp W hW).mono (R' := fun e w' => Below W.heap.size W w' ∧ ∃ A n c, e = .returned (.tuple #[.slice A n c, .bool true]) ∧ n = (vs.map it_S).length ∧ n ≤ c ∧ Kd.C k34 w' A n (vs.map it_S)) (fun e w' h => by
        obtain ⟨v, he, hv⟩ := h.2.1 vs hvs
        obtain ⟨A, c, rfl, hc, hC⟩ := Kd.R_reads hv
        exact ⟨h.1, A, _, c, he, rfl, hc, hC⟩))
      have HSM := Aside0.mk (same_it it_S (fun v => rfl) vs hvl)
      have HR1 := Aside0.mk hr1
      have hsame : ∀ (A0 : Option Addr) (n0 c0 : Nat) (A1 : Option Addr) (n1 c1 : Nat) (W : World), n0 = (vs.map it_S).length → n1 = (vs.map it_S).length → n0 ≤ c0 → n1 ≤ c1 → Kd.C k34 W A0 n0 (vs.map it_S) → Kd.C k34 W A1 n1 (vs.map it_S) → Calls Tryz.prog 6 #[.slice A0 n0 c0, .slice A1 n1 c1] W fun e w' => e = .returned (.bool true) ∧ Below W.heap.size W w' := by
        rintro A0 n0 c0 A1 n1 c1 W rfl rfl h0 h1 hC0 hC1
        exact spec_SameItems.calls A0 c0 _ A1 c1 _ true W hC0 h0 hC1 h1 HSM.out
      have HSAME := Aside0.mk hsame
      clear hE hR hq hk hS h hp hy hn hvs hr1 hvl hsame
      go_enter Tryz.func3, Tryz.ntmps3
      go_wp2_with (first | (go_at_call 4; refine (HE.out _).mono ?_; rintro e w1 ⟨hb, A, n, c, rfl, hn1, hc1, hC1⟩; have HB1 := Aside0.mk hb; have HN1 := Aside0.mk hn1; have HC1 := Aside0.mk hc1; have HCC1 := Aside0.mk hC1; clear hb hn1 hc1 hC1) | (go_at_call 5; refine (HS.out _ HB1.out).mono ?_; rintro e w2 ⟨hb, A2, n2, c2, rfl, hn2, hc2, hC2⟩; have HB2 := Aside0.mk hb; have HN2 := Aside0.mk hn2; have HC2 := Aside0.mk hc2; have HCC2 := Aside0.mk hC2; clear hb hn2 hc2 hC2) | (go_at_call 6; refine (HSAME.out _ _ _ _ _ _ _ HN2.out (by rw [HN1.out, HR1.out]) HC2.out HC1.out HCC2.out (by have := Kd.C_below HCC1.out HB2.out; rw [HR1.out] at this; exact this)).mono ?_; rintro e w3 ⟨rfl, hb⟩; have HB3 := Aside0.mk hb; clear hb))
      go_ret
      exact ⟨rfl, below_step (below_step HB1.out HB2.out) HB3.out⟩
set_option maxHeartbeats 4000000 in
set_option maxRecDepth 100000 in
theorem fs_J (a1 : ByteArray) (w : World) (h : a1.size ≤ 2000) (hS : paIs 44 (bytesOf a1) → ∀ W, Below w.heap.size w W → Calls Tryz.prog 5 #[.int .i64 6, .string a1] W fun e w' => Below W.heap.size W w' ∧ (∀ vs, scanAll (elI 32) (bytesOf a1) = some vs → ∃ v, e = .returned (.tuple #[v, .bool true]) ∧ Kd.R k34 34 w' W.heap.size (fun _ => True) v (vs.map it_J)) ∧ (scanAll (elI 32) (bytesOf a1) = none → ∃ v, e = .returned (.tuple #[v, .bool false]))) :
    Calls Tryz.prog 3 #[.int .i64 6, .string a1] w fun e w' => e = .returned (.bool true) ∧ Below w.heap.size w w' := by
  have g3b : decide ((2000 : Int) < (a1.size : Int)) = false := decide_eq_false (by omega)
  have g3c : decide (2000 < a1.size) = false := decide_eq_false (by omega)
  have g1b : decide ((2147483647 : Int) < (a1.size : Int)) = false := decide_eq_false (by omega)
  have g1c : decide (2147483647 < a1.size) = false := decide_eq_false (by omega)
  obtain ⟨R, hR, hq⟩ := elements 6 (elI 32) it_J a1 h (fun els hp he x hx => one_J x (fun l hl => lnF_short _ hp els he x hx l hl))
  obtain ⟨r1, r2, r3⟩ := R
  obtain ⟨k, hk⟩ := hR.rounds
  have hE : ∀ W, Calls Tryz.prog 4 #[.int .i64 6, .string a1] W fun e w' => Below W.heap.size W w' ∧ ∃ A n c, e = .returned (.tuple #[.slice A n c, .bool r2, .bool r3]) ∧ n = r1.length ∧ n ≤ c ∧ Kd.C k34 w' A n r1 := fun W => (spec_Elements.calls k 6 a1 r1 r2 r3 W hk).mono (by
    rintro e w' ⟨v, rfl, hv, hb⟩
    obtain ⟨A, c, rfl, hc, hC⟩ := Kd.R_reads hv
    exact ⟨hb, A, _, c, rfl, rfl, hc, hC⟩)
  have HE := Aside0.mk hE
  have HB0 := Aside0.mk (Below.refl w.heap.size w)
  cases r3 with
  | false =>
    clear hE hR hq hk hS h
    go_enter Tryz.func3, Tryz.ntmps3
    go_wp2_with (go_at_call 4; refine (HE.out _).mono ?_; rintro e w1 ⟨hb, A, n, c, rfl, _, _, _⟩; have HB1 := Aside0.mk hb; clear hb)
    go_ret
    exact ⟨rfl, HB1.out⟩
  | true =>
    obtain ⟨hp, hy, hn⟩ := hq rfl
    cases r2 with
    | false =>
      have hno := hn rfl
      have HS := Aside0.mk (fun W hW => (hS hp W hW).mono (R' := fun e w' => Below W.heap.size W w' ∧ ∃ v, e = .returned (.tuple #[v, .bool false])) (fun e w' h => ⟨h.1, h.2.2 hno⟩))
      clear hE hR hq hk hS h hp hy hn hno
      go_enter Tryz.func3, Tryz.ntmps3
      go_wp2_with (first | (go_at_call 4; refine (HE.out _).mono ?_; rintro e w1 ⟨hb, A, n, c, rfl, _, _, _⟩; have HB1 := Aside0.mk hb; clear hb) | (go_at_call 5; refine (HS.out _ HB1.out).mono ?_; rintro e w2 ⟨hb, v, rfl⟩; have HB2 := Aside0.mk hb; clear hb))
      go_ret
      exact ⟨rfl, below_step HB1.out HB2.out⟩
    | true =>
      obtain ⟨vs, hvs, hr1⟩ := hy rfl
      have hr1 : r1 = vs.map it_J := hr1
      have hvl : vs.length ≤ 1000000 := by
        unfold scanAll at hvs
        obtain ⟨els, h1, h2⟩ := Option.bind_eq_some_iff.mp hvs
        rw [scanV_len _ _ _ h2]
        exact lnF_len' 44 _ hp els h1
      have HS := Aside0.mk (fun W hW => (hS hp W hW).mono (R' := fun e w' => Below W.heap.size W w' ∧ ∃ A n c, e = .returned (.tuple #[.slice A n c, .bool true]) ∧ n = (vs.map it_J).length ∧ n ≤ c ∧ Kd.C k34 w' A n (vs.map it_J)) (fun e w' h => by
        obtain ⟨v, he, hv⟩ := h.2.1 vs hvs
        obtain ⟨A, c, rfl, hc, hC⟩ := Kd.R_reads hv
        exact ⟨h.1, A, _, c, he, rfl, hc, hC⟩))
      have HSM := Aside0.mk (same_it it_J (fun v => rfl) vs hvl)
      have HR1 := Aside0.mk hr1
      have hsame : ∀ (A0 : Option Addr) (n0 c0 : Nat) (A1 : Option Addr) (n1 c1 : Nat) (W : World), n0 = (vs.map it_J).length → n1 = (vs.map it_J).length → n0 ≤ c0 → n1 ≤ c1 → Kd.C k34 W A0 n0 (vs.map it_J) → Kd.C k34 W A1 n1 (vs.map it_J) → Calls Tryz.prog 6 #[.slice A0 n0 c0, .slice A1 n1 c1] W fun e w' => e = .returned (.bool true) ∧ Below W.heap.size W w' := by
        rintro A0 n0 c0 A1 n1 c1 W rfl rfl h0 h1 hC0 hC1
        exact spec_SameItems.calls A0 c0 _ A1 c1 _ true W hC0 h0 hC1 h1 HSM.out
      have HSAME := Aside0.mk hsame
      clear hE hR hq hk hS h hp hy hn hvs hr1 hvl hsame
      go_enter Tryz.func3, Tryz.ntmps3
      go_wp2_with (first | (go_at_call 4; refine (HE.out _).mono ?_; rintro e w1 ⟨hb, A, n, c, rfl, hn1, hc1, hC1⟩; have HB1 := Aside0.mk hb; have HN1 := Aside0.mk hn1; have HC1 := Aside0.mk hc1; have HCC1 := Aside0.mk hC1; clear hb hn1 hc1 hC1) | (go_at_call 5; refine (HS.out _ HB1.out).mono ?_; rintro e w2 ⟨hb, A2, n2, c2, rfl, hn2, hc2, hC2⟩; have HB2 := Aside0.mk hb; have HN2 := Aside0.mk hn2; have HC2 := Aside0.mk hc2; have HCC2 := Aside0.mk hC2; clear hb hn2 hc2 hC2) | (go_at_call 6; refine (HSAME.out _ _ _ _ _ _ _ HN2.out (by rw [HN1.out, HR1.out]) HC2.out HC1.out HCC2.out (by have := Kd.C_below HCC1.out HB2.out; rw [HR1.out] at this; exact this)).mono ?_; rintro e w3 ⟨rfl, hb⟩; have HB3 := Aside0.mk hb; clear hb))
      go_ret
      exact ⟨rfl, below_step (below_step HB1.out HB2.out) HB3.out⟩
theorem scan_walk (a0 : Int) (a1 : ByteArray) (w : World) (hS : ∃ te xe, w.cell? ⟨0, 0, none⟩ = some (.iface te xe)) (hG : ∃ te xe, w.cell? ⟨1, 0, none⟩ = some (.iface te xe)) (v0 : (Lit.int .i64 a0).wf = true) (v1 : a1.size ≤ 140737488351232) :
    Calls Tryz.prog 3 #[.int .i64 a0, .string a1] w fun e w' => e = .returned (.bool true) ∧ Below w.heap.size w w' := by
  obtain ⟨te, xe, hS⟩ := hS
  obtain ⟨tr, xr, hG⟩ := hG
  by_cases hs : a1.size ≤ 2000
  · have cS : ∀ W, Below w.heap.size w W → W.cell? ⟨0, 0, none⟩ = some (.iface te xe) := fun W hB => (hB.cell (World.block_lt_of_cell? _ _ hS)).trans hS
    have cG : ∀ W, Below w.heap.size w W → W.cell? ⟨1, 0, none⟩ = some (.iface tr xr) := fun W hB => (hB.cell (World.block_lt_of_cell? _ _ hG)).trans hG
    by_cases k1 : a0 = 1
    · subst k1
      exact fs_B a1 w hs (fun hp W hB => scanned_B a1 W hp (by omega))
    by_cases k2 : a0 = 2
    · subst k2
      exact fs_I a1 w hs (fun hp W hB => scanned_I a1 W hp (by omega) te tr xe xr (cS W hB) (cG W hB))
    by_cases k4 : a0 = 4
    · subst k4
      exact fs_S a1 w hs (fun hp W hB => scanned_S a1 W hp (by omega))
    by_cases k6 : a0 = 6
    · subst k6
      exact fs_J a1 w hs (fun hp W hB => scanned_J6 a1 W hp (by omega) te tr xe xr (cS W hB) (cG W hB))
    exact fs_other a0 a1 w hs k1 k2 k4 k6
  · exact fs_long a0 a1 w (by omega) v1
end Go.Proofs.YtcdcoogjhkchlaaGreatDoor.Lib
