/- CopyText at a text, a number, nothing and bytes; FnCopyText's walk. Conditions: what the listed table holds. -/
import Derived.Test.YtlhjblbmhlelbaaDoorEncLaw
import Derived.Test.YtlhjblbmhlelbaaDoorCopyPure
namespace Go.Proofs.YtlhjblbmhlelbaaDoor.Lib
open Go.RowKit Go.Proofs.YtlhjblbmhlelbaaDoor.P Go.Proofs.YtlhjblbmhlelbaaDoorW.PrintWords Go.Proofs.YtlhjblbmhlelbaaDoorW.PrintLast Go.Proofs.YtlhjblbmhlelbaaDoorW.PrintMore
set_option linter.unusedVariables false
set_option linter.unusedSimpArgs false
set_option maxHeartbeats 4000000 in
set_option maxRecDepth 100000 in
theorem app_int (n : Int) (h0 : -9223372036854775808 ≤ n) (h1 : n ≤ 9223372036854775807) (w : World) (ht : Tab w) :
    Calls Tryd.prog 34 #[.slice none 0 0, .iface 2 (.int .i64 n)] w fun e w' => Below w.heap.size w w' ∧ ∃ v, e = .returned (.tuple #[v, .nilIface]) ∧ Kd.R (Kd.int .u8) 5 w' w.heap.size (fun _ => True) v (bytesOf (num n)) := by
  have hc := Tryd.strconv_AppendInt_10 w.heap.size 0 n h0 h1 (.slice none 0 0) [] w ⟨rfl, .inl ⟨rfl, rfl⟩⟩ (Nat.le_refl _) (by omega) (Go.Lib.tabBelow_of_tabIs ht)
  have t0 : ∀ W, (Instr.typeAssert (.iface 2 (.int .i64 n)) 20 2 true).run Tryd.prog W = .ok (.tuple #[.int .i64 n, .bool true]) W := fun W => by kernel_rfl
  clear ht
  go_enter Tryd.func34, Tryd.ntmps34
  go_wp2_with fail
  refine hc.mono ?_
  rintro e w' ⟨v, rfl, ho, hb, _⟩
  have HO := Aside0.mk ho
  have HB := Aside0.mk hb
  clear ho hb hc
  go_wp2_with fail
  go_ret2
  refine ⟨HB.out, v, rfl, Kd.R_of_own (enc := Value.int .u8) (h1 := fun _ => rfl) ?_ (fun _ _ => trivial)⟩
  rw [num_cells]
  have hl : (bytesOf (num n)).length = (Go.Lib.itoa n).length := by simp [bytesOf, num]
  rw [hl]
  have := HO.out
  simpa using this
set_option maxHeartbeats 4000000 in
set_option maxRecDepth 100000 in
theorem app_text (s : ByteArray) (hs : s.size ≤ 2000) (w : World) :
    Calls Tryd.prog 34 #[.slice none 0 0, .iface 9 (.string s)] w fun e w' => Below w.heap.size w w' ∧ ∃ v, e = .returned (.tuple #[v, .nilIface]) ∧ Kd.R (Kd.int .u8) 5 w' w.heap.size (fun _ => True) v (esc (bytesOf s)) := by
  obtain ⟨k, hk⟩ := (escaped s hs).rounds
  have hc := fun W => pq_appendEscapedText.calls k [] s (esc (bytesOf s)) W hk
  have HC := Aside0.mk hc
  have t0 : ∀ W, (Instr.typeAssert (.iface 9 (.string s)) 20 2 true).run Tryd.prog W = .ok (.tuple #[.int .i64 0, .bool false]) W := fun W => by kernel_rfl
  have t1 : ∀ W, (Instr.typeAssert (.iface 9 (.string s)) 20 31 true).run Tryd.prog W = .ok (.tuple #[.float .f64 0, .bool false]) W := fun W => by kernel_rfl
  have t2 : ∀ W, (Instr.typeAssert (.iface 9 (.string s)) 20 47 true).run Tryd.prog W = .ok (.tuple #[.slice none 0 0, .bool false]) W := fun W => by kernel_rfl
  have t3 : ∀ W, (Instr.typeAssert (.iface 9 (.string s)) 20 9 true).run Tryd.prog W = .ok (.tuple #[.string s, .bool true]) W := fun W => by kernel_rfl
  clear hc hk hs
  go_enter Tryd.func34, Tryd.ntmps34
  go_wp2_with (go_at_call 53; refine (HC.out _).mono ?_; rintro e w1 ⟨v, rfl, hR, hb⟩; have HB := Aside0.mk hb; have HR := Aside0.mk hR; clear hb hR)
  go_ret2
  exact ⟨HB.out, _, rfl, HR.out⟩
set_option maxHeartbeats 4000000 in
set_option maxRecDepth 100000 in
theorem app_nil (w : World) :
    Calls Tryd.prog 34 #[.slice none 0 0, .nilIface] w fun e w' => Below w.heap.size w w' ∧ ∃ v, e = .returned (.tuple #[v, .nilIface]) ∧ Kd.R (Kd.int .u8) 5 w' w.heap.size (fun _ => True) v (bytesOf (⟨#[92, 78]⟩ : ByteArray)) := by
  have ho : w.ownsRow w.heap.size 5 1 (.slice none 0 0) ([] : List Int).length (nums .u8 []) := World.ownsRow_nil _ _ _ _
  have HO := Aside0.mk ho
  clear ho
  have hu32 := Tryd.underlying20
  have t0 : ∀ W, (Instr.typeAssert (.nilIface) 20 2 true).run Tryd.prog W = .ok (.tuple #[.int .i64 0, .bool false]) W := fun W => by kernel_rfl
  have t1 : ∀ W, (Instr.typeAssert (.nilIface) 20 31 true).run Tryd.prog W = .ok (.tuple #[.float .f64 0, .bool false]) W := fun W => by kernel_rfl
  have t2 : ∀ W, (Instr.typeAssert (.nilIface) 20 47 true).run Tryd.prog W = .ok (.tuple #[.slice none 0 0, .bool false]) W := fun W => by kernel_rfl
  have t3 : ∀ W, (Instr.typeAssert (.nilIface) 20 9 true).run Tryd.prog W = .ok (.tuple #[.string ⟨#[]⟩, .bool false]) W := fun W => by kernel_rfl
  have t4 : ∀ W, (Instr.typeAssert (.nilIface) 20 4 true).run Tryd.prog W = .ok (.tuple #[.bool false, .bool false]) W := fun W => by kernel_rfl
  have t5 : ∀ W, (Instr.typeAssert (.nilIface) 20 81 true).run Tryd.prog W = .ok (.tuple #[.agg #[.int .i64 0, .int .i64 0, .int .i64 0], .bool false]) W := fun W => by kernel_rfl
  go_enter Tryd.func34, Tryd.ntmps34
  go_wp2_with (at_builtin; refine print_append_str (w0 := w) w.heap.size rfl (.tmp 58) _ 47 9 5 rfl Tryd.underlying47 Tryd.underlying9 info5 (.slice none 0 0) [] (⟨#[92, 78]⟩ : ByteArray) rfl rfl HO.out (Below.refl _ _) (Nat.le_refl _) (by decide) ?_; intro v1 w1 ho1 hb1 _; have HO1 := Aside0.mk ho1; have HB1 := Aside0.mk hb1; clear ho1 hb1)
  go_ret2
  exact ⟨HB1.out, _, rfl, Kd.R_of_own (h1 := fun _ => rfl) HO1.out (fun _ _ => trivial)⟩
set_option maxHeartbeats 4000000 in
set_option maxRecDepth 100000 in
theorem app_bytes (b n c0 : Nat) (xs : List Int) (w : World) (hx : xs.length = n) (hn : n ≤ 900) (hblk : b < w.heap.size) (hr : Kd.C (Kd.int .u8) w (some ⟨b, 0, none⟩) n xs) (hby : ∀ x ∈ xs, 0 ≤ x ∧ x < 256) (T : ByteArray) (hT : strOfNums (92 :: 120 :: enc8 xs) = T) (hTs : T.size ≤ 2000) :
    Calls Tryd.prog 34 #[.slice none 0 0, .iface 47 (.slice (some ⟨b, 0, none⟩) n c0)] w fun e w' => Below w.heap.size w w' ∧ ∃ v, e = .returned (.tuple #[v, .nilIface]) ∧ Kd.R (Kd.int .u8) 5 w' w.heap.size (fun _ => True) v (esc (bytesOf T)) := by
  obtain ⟨k, hk⟩ := (escaped T hTs).rounds
  have hc := fun W => pq_appendEscapedText.calls k [] T (esc (bytesOf T)) W hk
  have HC := Aside0.mk hc
  have t0 : ∀ W, (Instr.typeAssert (.iface 47 (.slice (some ⟨b, 0, none⟩) n c0)) 20 2 true).run Tryd.prog W = .ok (.tuple #[.int .i64 0, .bool false]) W := fun W => by kernel_rfl
  have t1 : ∀ W, (Instr.typeAssert (.iface 47 (.slice (some ⟨b, 0, none⟩) n c0)) 20 31 true).run Tryd.prog W = .ok (.tuple #[.float .f64 0, .bool false]) W := fun W => by kernel_rfl
  have t2 : ∀ W, (Instr.typeAssert (.iface 47 (.slice (some ⟨b, 0, none⟩) n c0)) 20 47 true).run Tryd.prog W = .ok (.tuple #[.slice (some ⟨b, 0, none⟩) n c0, .bool true]) W := fun W => by kernel_rfl
  have hm := pq_encodeBytea_all b n c0 xs w hx (by omega) hblk hr hby
  have HM := Aside0.mk hm
  have HT := Aside0.mk hT
  clear hm hx hn hblk hr hby hc hk hT hTs
  go_enter Tryd.func34, Tryd.ntmps34
  go_wp2_with fail
  refine HM.out.mono ?_
  rintro e w1 ⟨hb, v, rfl, hR⟩
  have HB := Aside0.mk hb
  have hcv := own_string (P := Tryd.prog) Tryd.underlying47 Tryd.underlying5 Tryd.underlying9 (Kd.own_of_R hR)
  rw [HT.out] at hcv
  clear hb hR
  go_wp2_with (go_at_call 53; refine (HC.out _).mono ?_; rintro e w2 ⟨v, rfl, hR, hb⟩; have HB2 := Aside0.mk hb; have HR := Aside0.mk hR; clear hb hR)
  go_ret2
  exact ⟨below_step HB.out HB2.out, _, rfl, Kd.R_lower HR.out HB.out.size⟩
set_option maxHeartbeats 4000000 in
set_option maxRecDepth 100000 in
theorem CopyText_any (x : Value) (xs : List Int) (w : World)
    (ht : Calls Tryd.prog 30 #[x] w fun e w' => Below w.heap.size w w' ∧ e = .returned (.tuple #[x, .bool true]))
    (he : ∀ w0, Below w.heap.size w w0 → Calls Tryd.prog 34 #[.slice none 0 0, x] w0 fun e w' => Below w0.heap.size w0 w' ∧ ∃ v, e = .returned (.tuple #[v, .nilIface]) ∧ Kd.R (Kd.int .u8) 5 w' w0.heap.size (fun _ => True) v xs) :
    Calls Tryd.prog 24 #[x] w fun e w' => Below w.heap.size w w' ∧ ∃ v, e = .returned (.tuple #[v, .nilIface]) ∧ ∃ base, Kd.R (Kd.int .u8) 5 w' base (fun _ => True) v xs := by
  have HE := Aside0.mk he
  have HT := Aside0.mk ht
  clear he ht
  go_enter Tryd.func24, Tryd.ntmps24
  go_wp2_with fail
  refine HT.out.mono ?_
  rintro e w1 ⟨hb, rfl⟩
  have HB := Aside0.mk hb
  clear hb
  go_wp2_with fail
  refine (HE.out _ HB.out).mono ?_
  rintro e w2 ⟨hb, v, rfl, hq⟩
  have HB2 := Aside0.mk (below_step HB.out hb)
  have HQ := Aside0.mk hq
  clear hb hq
  go_wp2_with fail
  go_ret2
  exact ⟨HB2.out, v, rfl, _, HQ.out⟩
set_option maxHeartbeats 4000000 in
set_option maxRecDepth 100000 in
theorem CopyText_gen (k n : Int) (s : ByteArray) (b : Bool) (xs : List Int) (w : World) (X : World → Value → Prop)
    (hg : ∀ W, Calls Tryd.prog 21 #[dv k n s b] W fun e w' => Below W.heap.size W w' ∧ ∃ x, e = .returned (.tuple #[x, .bool true]) ∧ X w' x)
    (hE : ∀ W x, Below w.heap.size w W → X W x → Calls Tryd.prog 24 #[x] W fun e w' => Below W.heap.size W w' ∧ ∃ v, e = .returned (.tuple #[v, .nilIface]) ∧ ∃ base, Kd.R (Kd.int .u8) 5 w' base (fun _ => True) v xs) :
    Calls Tryd.prog 16 #[dv k n s b] w fun e w' => Below w.heap.size w w' ∧ e = .returned (.tuple #[.string (strOfNums xs), .bool true]) := by
  have HE := Aside0.mk hE
  have HG := Aside0.mk hg
  have hu32 := Tryd.underlying49
  clear hE hg
  unfold dv at HG ⊢
  go_enter Tryd.func16, Tryd.ntmps16
  go_wp2_with fail
  refine (HG.out _).mono ?_
  rintro e w1 ⟨hb, x, rfl, hX⟩
  have HB := Aside0.mk (below_step (below_alloc (Below.refl _ _) _) hb)
  have HX := Aside0.mk hX
  clear hb hX
  go_wp2_with fail
  refine (HE.out _ _ HB.out HX.out).mono ?_
  rintro e w2 ⟨hb, v, rfl, base, hR⟩
  have HR := Aside0.mk hR
  have HB2 := Aside0.mk (below_step HB.out hb)
  have hcv := fun nq : Nat => own_string (P := Tryd.prog) Tryd.underlying47 Tryd.underlying5 Tryd.underlying9 (Kd.own_of_R (show Kd.R (Kd.int .u8) 5 (w2.drewN nq) _ _ v xs from by apply Kd.R_drewN; exact HR.out))
  clear hb hR
  go_wp2_with fail
  go_quiet (fail)
  go_wp2_with fail
  go_ret2
  exact ⟨pw_below_drewN HB2.out _, rfl⟩
theorem ct_int (n : Int) (h0 : -9223372036854775808 ≤ n) (h1 : n ≤ 9223372036854775807) (w : World) (ht : Tab w) :
    Calls Tryd.prog 16 #[dv 1 n ⟨#[]⟩ false] w fun e w' => Below w.heap.size w w' ∧ e = .returned (.tuple #[.string (num n), .bool true]) := by
  have h := CopyText_gen 1 n ⟨#[]⟩ false (bytesOf (num n)) w (fun _ x => x = .iface 2 (.int .i64 n)) (fun W => (goOf_int n W).mono (by rintro e w' ⟨hb, rfl⟩; exact ⟨hb, _, rfl, rfl⟩)) (by
    rintro W x hB rfl
    exact CopyText_any _ _ W (timed_int n W) (fun W2 hB2 => app_int n h0 h1 W2 (tab_below (tab_below ht hB) hB2)))
  rw [strOfNums_bytesOf] at h
  exact h
theorem ct_nil (w : World) :
    Calls Tryd.prog 16 #[dv 0 0 ⟨#[]⟩ false] w fun e w' => Below w.heap.size w w' ∧ e = .returned (.tuple #[.string ⟨#[92, 78]⟩, .bool true]) := by
  have h := CopyText_gen 0 0 ⟨#[]⟩ false (bytesOf (⟨#[92, 78]⟩ : ByteArray)) w (fun _ x => x = .nilIface) (fun W => (goOf_null W).mono (by rintro e w' ⟨hb, rfl⟩; exact ⟨hb, _, rfl, rfl⟩)) (by
    rintro W x hB rfl
    exact CopyText_any _ _ W (timed_null W) (fun W2 hB2 => app_nil W2))
  rw [strOfNums_bytesOf] at h
  exact h
theorem ct_text (s : ByteArray) (hs : s.size ≤ 2000) (w : World) :
    Calls Tryd.prog 16 #[dv 3 0 s false] w fun e w' => Below w.heap.size w w' ∧ e = .returned (.tuple #[.string (strOfNums (esc (bytesOf s))), .bool true]) :=
  CopyText_gen 3 0 s false _ w (fun _ x => x = .iface 9 (.string s)) (fun W => (goOf_text s W).mono (by rintro e w' ⟨hb, rfl⟩; exact ⟨hb, _, rfl, rfl⟩)) (by
    rintro W x hB rfl
    exact CopyText_any _ _ W (timed_text s W) (fun W2 hB2 => app_text s hs W2))
theorem ct_bytes (s : ByteArray) (hs : s.size ≤ 900) (T : ByteArray) (hT : strOfNums (92 :: 120 :: enc8 (bytesOf s)) = T) (hTs : T.size ≤ 2000) (w : World) :
    Calls Tryd.prog 16 #[dv 4 0 s false] w fun e w' => Below w.heap.size w w' ∧ e = .returned (.tuple #[.string (strOfNums (esc (bytesOf T))), .bool true]) :=
  CopyText_gen 4 0 s false _ w (BoxB s) (fun W => goOf_bytes s (by omega) W) (by
    rintro W x hB ⟨b, c0, rfl, hlt, hC⟩
    exact CopyText_any _ _ W (timed_bytes _ _ _ W) (fun W2 hB2 => app_bytes b s.size c0 (bytesOf s) W2 (bytesOf_length s) hs (Nat.lt_of_lt_of_le hlt hB2.size) (Kd.C_below hC hB2) (fun x hx => by have := bytesOf_range hx; omega) T hT hTs))
set_option maxHeartbeats 4000000 in
set_option maxRecDepth 100000 in
theorem ftx_long (a0 : ByteArray) (a1 : Int) (w : World) (h : 500 < a0.size) (h2 : a0.size ≤ 140737488351232) :
    Calls Tryd.prog 5 #[.string a0, .int .i64 a1] w fun e w' => e = .returned (.bool true) ∧ Below w.heap.size w w' := by
  have g3b : decide ((500 : Int) < (a0.size : Int)) = true := decide_eq_true (by omega)
  have g3c : decide (500 < a0.size) = true := decide_eq_true (by omega)
  by_cases hh : 2147483647 < a0.size
  · have g1b : decide ((2147483647 : Int) < (a0.size : Int)) = true := decide_eq_true (by omega)
    have g1c : decide (2147483647 < a0.size) = true := decide_eq_true (by omega)
    clear h h2
    go_enter Tryd.func5, Tryd.ntmps5
    go_wp2_with fail
    go_ret
    exact ⟨rfl, Below.refl _ _⟩
  · have g1b : decide ((2147483647 : Int) < (a0.size : Int)) = false := decide_eq_false (by omega)
    have g1c : decide (2147483647 < a0.size) = false := decide_eq_false (by omega)
    clear h h2
    go_enter Tryd.func5, Tryd.ntmps5
    go_wp2_with fail
    go_ret
    exact ⟨rfl, Below.refl _ _⟩
set_option maxHeartbeats 4000000 in
set_option maxRecDepth 100000 in
theorem ftx_short (k k2 k3 : Nat) (a0 : ByteArray) (a1 : Int) (w : World) (hs : a0.size ≤ 500) (h0 : -9223372036854775808 ≤ a1) (h1 : a1 ≤ 9223372036854775807) (hT : Tab w) (S T S2 : ByteArray)
    (hk : spec_Hex.f k a0 false = some T) (hTT : strOfNums (92 :: 120 :: enc8 (bytesOf a0)) = T) (hTs : T.size ≤ 2000)
    (hk2 : spec_Copied.f k2 a0 = some S) (hS : strOfNums (esc (bytesOf a0)) = S) (hk3 : spec_Copied.f k3 T = some S2) (hS2 : strOfNums (esc (bytesOf T)) = S2) :
    Calls Tryd.prog 5 #[.string a0, .int .i64 a1] w fun e w' => e = .returned (.bool true) ∧ Below w.heap.size w w' := by
  have g3b : decide ((500 : Int) < (a0.size : Int)) = false := decide_eq_false (by omega)
  have g3c : decide (500 < a0.size) = false := decide_eq_false (by omega)
  have g1b : decide ((2147483647 : Int) < (a0.size : Int)) = false := decide_eq_false (by omega)
  have g1c : decide (2147483647 < a0.size) = false := decide_eq_false (by omega)
  have k1 : ∀ W, Below w.heap.size w W → _ := fun W (_ : Below w.heap.size w W) => ct_text a0 (by omega) W
  have k2' : ∀ W, Below w.heap.size w W → _ := fun W hB => ct_int a1 h0 h1 W (tab_below hT hB)
  have k3' : ∀ W, Below w.heap.size w W → _ := fun W (_ : Below w.heap.size w W) => ct_nil W
  have k4 : ∀ W, Below w.heap.size w W → _ := fun W (_ : Below w.heap.size w W) => ct_bytes a0 (by omega) T hTT hTs W
  have k5 : ∀ W, Below w.heap.size w W → _ := fun W (_ : Below w.heap.size w W) => spec_Copied.calls k2 a0 S W hk2
  have k6 : ∀ W, Below w.heap.size w W → _ := fun W hB => number a1 h0 h1 W (tab_below hT hB)
  have k7 : ∀ W, Below w.heap.size w W → _ := fun W (_ : Below w.heap.size w W) => spec_Hex.calls k a0 false T W hk
  have k8 : ∀ W, Below w.heap.size w W → _ := fun W (_ : Below w.heap.size w W) => spec_Copied.calls k3 T S2 W hk3
  rw [hS] at k1
  rw [hS2] at k4
  have K1 := Aside0.mk k1
  have K2 := Aside0.mk k2'
  have K3 := Aside0.mk k3'
  have K4 := Aside0.mk k4
  have K5 := Aside0.mk k5
  have K6 := Aside0.mk k6
  have K7 := Aside0.mk k7
  have K8 := Aside0.mk k8
  have HB0 := Aside0.mk (Below.refl w.heap.size w)
  clear k1 k2' k3' k4 k5 k6 k7 k8 hs h0 h1 hT hk hTT hTs hk2 hS hk3 hS2
  unfold dv at K1 K2 K3 K4
  go_enter Tryd.func5, Tryd.ntmps5
  go_wp2_with (first | (go_at_call 16; ((with_reducible refine (K1.out _ HB0.out).mono ?_); rintro e w1 ⟨hb1, rfl⟩; have HB1 := Aside0.mk (below_step HB0.out hb1); clear hb1)) | (go_at_call 16; ((with_reducible refine (K2.out _ HB1.out).mono ?_); rintro e w2 ⟨hb2, rfl⟩; have HB2 := Aside0.mk (below_step HB1.out hb2); clear hb2)) | (go_at_call 16; ((with_reducible refine (K3.out _ HB2.out).mono ?_); rintro e w3 ⟨hb3, rfl⟩; have HB3 := Aside0.mk (below_step HB2.out hb3); clear hb3)) | (go_at_call 16; ((with_reducible refine (K4.out _ HB3.out).mono ?_); rintro e w4 ⟨hb4, rfl⟩; have HB4 := Aside0.mk (below_step HB3.out hb4); clear hb4)) | (go_at_call 17; ((with_reducible refine (K5.out _ HB4.out).mono ?_); rintro e w5 ⟨rfl, hb5⟩; have HB5 := Aside0.mk (below_step HB4.out hb5); clear hb5)) | (go_at_call 14; ((with_reducible refine (K6.out _ HB5.out).mono ?_); rintro e w6 ⟨rfl, hb6⟩; have HB6 := Aside0.mk (below_step HB5.out hb6); clear hb6)) | (go_at_call 15; ((with_reducible refine (K7.out _ HB6.out).mono ?_); rintro e w7 ⟨rfl, hb7⟩; have HB7 := Aside0.mk (below_step HB6.out hb7); clear hb7)) | (go_at_call 17; ((with_reducible refine (K8.out _ HB7.out).mono ?_); rintro e w8 ⟨rfl, hb8⟩; have HB8 := Aside0.mk (below_step HB7.out hb8); clear hb8)))
  go_ret
  exact ⟨rfl, HB8.out⟩
theorem copy_walk (a0 : ByteArray) (a1 : Int) (w : World) (hT : Tab w) (v0 : a0.size ≤ 140737488351232) (v1 : (Lit.int .i64 a1).wf = true) :
    Calls Tryd.prog 5 #[.string a0, .int .i64 a1] w fun e w' => e = .returned (.bool true) ∧ Below w.heap.size w w' := by
  have r1 : IntKind.i64.min ≤ a1 ∧ a1 ≤ IntKind.i64.max := by simpa [Lit.wf] using v1
  have e2 : IntKind.i64.min = -9223372036854775808 := rfl
  have e3 : IntKind.i64.max = 9223372036854775807 := rfl
  by_cases hs : a0.size ≤ 500
  · obtain ⟨k, hk⟩ := (hex_small a0 (by omega)).rounds
    obtain ⟨k2, hk2⟩ := (copied a0 (by omega)).rounds
    have hx : bytesOf (strOfNums (92 :: 120 :: nat8 (Go.Lib.Hx.encode a0.data.toList))) = 92 :: 120 :: nat8 (Go.Lib.Hx.encode a0.data.toList) := bytesOf_strOfNums (by
      intro x hx
      rcases List.mem_cons.1 hx with rfl | hx
      · omega
      rcases List.mem_cons.1 hx with rfl | hx
      · omega
      obtain ⟨b, _, rfl⟩ := List.mem_map.1 hx
      have := b.toNat_lt
      omega)
    have hTs : (strOfNums (92 :: 120 :: nat8 (Go.Lib.Hx.encode a0.data.toList))).size ≤ 2000 := by
      rw [← bytesOf_length, hx]
      simp only [List.length_cons, List.length_map, Go.Lib.Hx.encode_length]
      have : a0.data.toList.length = a0.size := by simp
      omega
    obtain ⟨k3, hk3⟩ := (copied _ hTs).rounds
    exact ftx_short k k2 k3 a0 a1 w hs (by omega) (by omega) hT _ _ _ hk (by rw [enc8_bytes]) hTs hk2 rfl hk3 rfl
  · exact ftx_long a0 a1 w (by omega) v0
end Go.Proofs.YtlhjblbmhlelbaaDoor.Lib
