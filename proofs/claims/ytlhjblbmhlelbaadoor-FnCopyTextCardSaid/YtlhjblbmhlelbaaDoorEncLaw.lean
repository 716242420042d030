/- FnEncoded's walk. Conditions: what the listed table holds. -/
import Derived.Test.YtlhjblbmhlelbaaDoorEncRest
import Derived.Lib.ItoaMem
import Derived.Stop.LaidErr
import Derived.LaidLaws
import Derived.OpenShut
import Derived.Lib.AppendIntMem
namespace Go.Proofs.YtlhjblbmhlelbaaDoor.Lib
open Go.RowKit Go.Proofs.YtlhjblbmhlelbaaDoor.P Go.Proofs.YtlhjblbmhlelbaaDoorW.PrintWords Go.Proofs.YtlhjblbmhlelbaaDoorW.PrintLast Go.Proofs.YtlhjblbmhlelbaaDoorW.PrintMore
set_option linter.unusedVariables false
set_option linter.unusedSimpArgs false
/-- The numeral. -/
def num (n : Int) : ByteArray := ⟨(Go.Lib.itoa n).toArray⟩
abbrev Tab (w : World) : Prop := Go.Lib.TabIs Tryd.prog w "internal/strconv.uint64pow10" .u64 Go.Lib.pow10Tab
theorem tab_below {w w' : World} (h : Tab w) (hb : Below w.heap.size w w') : Tab w' := by
  unfold Tab Go.Lib.TabIs World.var? at *
  cases hg : Tryd.prog.globalNamed "internal/strconv.uint64pow10" with
  | none => simp [hg] at h
  | some g =>
    simp only [hg, Option.bind_some] at h ⊢
    have hlt : g < w.heap.size := by
      rcases Nat.lt_or_ge g w.heap.size with h' | h'
      · exact h'
      · rw [Array.getElem?_eq_none h'] at h; simp at h
    rw [hb.block g hlt]
    exact h
set_option maxHeartbeats 4000000 in
set_option maxRecDepth 100000 in
theorem number (n : Int) (h0 : -9223372036854775808 ≤ n) (h1 : n ≤ 9223372036854775807) (w : World) (ht : Tab w) :
    Calls Tryd.prog 14 #[.int .i64 n] w fun e w' => e = .returned (.string (num n)) ∧ Below w.heap.size w w' := by
  have hc := Tryd.strconv_FormatInt_10 n h0 h1
  have HT := Aside0.mk ht
  clear ht
  go_enter Tryd.func14, Tryd.ntmps14
  go_wp2_with fail
  refine (hc _ HT.out).mono ?_
  rintro e w' ⟨rfl, k, os, rfl⟩
  have HB := Aside0.mk (Go.Lib.below_grow w.heap.size w (Nat.le_refl _) k os)
  go_wp2_with fail
  go_ret
  exact ⟨rfl, HB.out⟩
theorem tab_of {W : World} {D : DataW Unit} {r : List (String × DataW Unit)} (h : laidMet Tryd.prog (("internal/strconv.uint64pow10", D) :: r) W) (hD : D = Go.Lib.tabData .u64 Go.Lib.pow10Tab) : Tab W := by
  subst hD
  exact Go.Lib.tabIs_of_head (g := 1) (t := 111) (e := 92) (n := 20) (by kernel_rfl) (by kernel_rfl) Tryd.underlying111 Tryd.underlying92 (by kernel_rfl) (by kernel_rfl) h
theorem num_cells (n : Int) : encs (Value.int .u8) (bytesOf (num n)) = Go.Lib.byteCells (Go.Lib.itoa n) := by
  simp [encs, bytesOf, num, Go.Lib.byteCells]
theorem enc_int (n : Int) (h0 : -9223372036854775808 ≤ n) (h1 : n ≤ 9223372036854775807) (w : World) (ht : Tab w) :
    Calls Tryd.prog 13 #[dv 1 n ⟨#[]⟩ false, .int .u32 20] w fun e w' => Below w.heap.size w w' ∧ e = .returned (.tuple #[.string (num n), .bool true]) := by
  have h := Encoded_gen 1 n ⟨#[]⟩ false (bytesOf (num n)) 20 w (fun _ x => x = .iface 2 (.int .i64 n)) (fun W => (goOf_int n W).mono (by rintro e w' ⟨hb, rfl⟩; exact ⟨hb, _, rfl, rfl⟩)) (by
    rintro W x hB rfl
    refine (Encode_any (.iface 2 (.int .i64 n)) 20 W (fun w' v => ∃ base, Kd.R (Kd.int .u8) 5 w' base (fun _ => True) v (bytesOf (num n))) (timed_int n W) (fun W2 hB2 => ?_)).mono ?_
    · refine (encode_int n 20 h0 h1 W2 (tab_below (tab_below ht hB) hB2)).mono ?_
      rintro e w' ⟨hb, v, rfl, ho⟩
      refine ⟨hb, v, rfl, W2.heap.size, Kd.R_of_own (enc := Value.int .u8) (h1 := fun _ => rfl) ?_ (fun _ _ => trivial)⟩
      rw [num_cells]
      have hl : (bytesOf (num n)).length = (Go.Lib.itoa n).length := by simp [bytesOf, num]
      rw [hl]; exact ho
    · rintro e w' ⟨hb, v, rfl, hq⟩
      exact ⟨hb, v, rfl, hq⟩)
  rw [strOfNums_bytesOf] at h
  exact h
theorem enc_bool (b : Bool) (w : World) :
    Calls Tryd.prog 13 #[dv 5 0 ⟨#[]⟩ b, .int .u32 16] w fun e w' => Below w.heap.size w w' ∧ e = .returned (.tuple #[.string (boolText b), .bool true]) := by
  have h := Encoded_gen 5 0 ⟨#[]⟩ b (bytesOf (boolText b)) 16 w (fun _ x => x = .iface 4 (.bool b)) (fun W => (goOf_bool b W).mono (by rintro e w' ⟨hb, rfl⟩; exact ⟨hb, _, rfl, rfl⟩)) (by
    rintro W x hB rfl
    refine (Encode_any (.iface 4 (.bool b)) 16 W (fun w' v => ∃ base, Kd.R (Kd.int .u8) 5 w' base (fun _ => True) v (bytesOf (boolText b))) (timed_bool b W) (fun W2 hB2 => ?_)).mono ?_
    · refine (encode_bool b 16 W2).mono ?_
      rintro e w' ⟨hb, v, rfl, ho⟩
      exact ⟨hb, v, rfl, W2.heap.size, ho⟩
    · rintro e w' ⟨hb, v, rfl, hq⟩
      exact ⟨hb, v, rfl, hq⟩)
  rw [strOfNums_bytesOf] at h
  exact h
theorem enc_text (s : ByteArray) (hs : s.size ≤ 1000) (w : World) :
    Calls Tryd.prog 13 #[dv 3 0 s false, .int .u32 25] w fun e w' => Below w.heap.size w w' ∧ e = .returned (.tuple #[.string s, .bool true]) := by
  have h := Encoded_reads 3 0 s false (.iface 9 (.string s)) (bytesOf s) 25 w (fun W => goOf_text s W) (by
    rintro W hB
    refine (Encode_any (.iface 9 (.string s)) 25 W (fun w' v => ∃ A m c, v = .slice A m c ∧ Kd.C (Kd.int .u8) w' A m (bytesOf s)) (timed_text s W) (fun W2 hB2 => ?_)).mono ?_
    · exact encode_text s 25 hs (by omega) W2
    · rintro e w' ⟨hb, v, rfl, hq⟩
      exact ⟨hb, v, rfl, hq⟩)
  rw [strOfNums_bytesOf] at h
  exact h
theorem enc_bytes (s : ByteArray) (hs : s.size ≤ 1000) (w : World) :
    Calls Tryd.prog 13 #[dv 4 0 s false, .int .u32 17] w fun e w' => Below w.heap.size w w' ∧ e = .returned (.tuple #[.string (strOfNums (92 :: 120 :: enc8 (bytesOf s))), .bool true]) :=
  Encoded_gen 4 0 s false (92 :: 120 :: enc8 (bytesOf s)) 17 w (BoxB s) (fun W => goOf_bytes s hs W) (by
    rintro W x hB ⟨b, c0, rfl, hlt, hC⟩
    refine (Encode_any _ 17 W (fun w' v => ∃ base, Kd.R (Kd.int .u8) 5 w' base (fun _ => True) v (92 :: 120 :: enc8 (bytesOf s))) (timed_bytes _ _ _ W) (fun W2 hB2 => ?_)).mono ?_
    · refine (encode_bytes b s.size c0 (bytesOf s) W2 (bytesOf_length s) hs (Nat.lt_of_lt_of_le hlt hB2.size) (Kd.C_below hC hB2) (fun x hx => by have := bytesOf_range hx; omega)).mono ?_
      rintro e w' ⟨hb, v, rfl, ho⟩
      exact ⟨hb, v, rfl, W2.heap.size, ho⟩
    · rintro e w' ⟨hb, v, rfl, hq⟩
      exact ⟨hb, v, rfl, hq⟩)
theorem enc8_bytes (a0 : ByteArray) : enc8 (bytesOf a0) = nat8 (Go.Lib.Hx.encode a0.data.toList) := by
  have : Go.Lib.bytesOf (bytesOf a0) = a0.data.toList := by
    unfold Go.Lib.bytesOf bytesOf
    rw [List.map_map]
    conv => rhs; rw [← List.map_id a0.data.toList]
    apply List.map_congr_left
    intro b _
    have := b.toNat_lt
    simp
  show (Go.Lib.Hx.encode (Go.Lib.bytesOf (bytesOf a0))).map _ = _
  rw [this]
set_option maxHeartbeats 4000000 in
set_option maxRecDepth 100000 in
theorem fe_long (a0 : Int) (a1 : ByteArray) (a2 : Bool) (w : World) (h : 500 < a1.size) (h2 : a1.size ≤ 140737488351232) :
    Calls Tryd.prog 4 #[.int .i64 a0, .string a1, .bool a2] w fun e w' => e = .returned (.bool true) ∧ Below w.heap.size w w' := by
  have g3b : decide ((500 : Int) < (a1.size : Int)) = true := decide_eq_true (by omega)
  have g3c : decide (500 < a1.size) = true := decide_eq_true (by omega)
  by_cases hh : 2147483647 < a1.size
  · have g1b : decide ((2147483647 : Int) < (a1.size : Int)) = true := decide_eq_true (by omega)
    have g1c : decide (2147483647 < a1.size) = true := decide_eq_true (by omega)
    clear h h2
    go_enter Tryd.func4, Tryd.ntmps4
    go_wp2_with fail
    go_ret
    exact ⟨rfl, Below.refl _ _⟩
  · have g1b : decide ((2147483647 : Int) < (a1.size : Int)) = false := decide_eq_false (by omega)
    have g1c : decide (2147483647 < a1.size) = false := decide_eq_false (by omega)
    clear h h2
    go_enter Tryd.func4, Tryd.ntmps4
    go_wp2_with fail
    go_ret
    exact ⟨rfl, Below.refl _ _⟩
set_option maxHeartbeats 4000000 in
set_option maxRecDepth 100000 in
theorem fe_short (k : Nat) (a0 : Int) (a1 : ByteArray) (a2 : Bool) (w : World) (hs : a1.size ≤ 500) (h0 : -9223372036854775808 ≤ a0) (h1 : a0 ≤ 9223372036854775807) (hT : Tab w) (T : ByteArray) (hk : spec_Hex.f k a1 false = some T) (hTT : strOfNums (92 :: 120 :: enc8 (bytesOf a1)) = T) :
    Calls Tryd.prog 4 #[.int .i64 a0, .string a1, .bool a2] w fun e w' => e = .returned (.bool true) ∧ Below w.heap.size w w' := by
  have g3b : decide ((500 : Int) < (a1.size : Int)) = false := decide_eq_false (by omega)
  have g3c : decide (500 < a1.size) = false := decide_eq_false (by omega)
  have g1b : decide ((2147483647 : Int) < (a1.size : Int)) = false := decide_eq_false (by omega)
  have g1c : decide (2147483647 < a1.size) = false := decide_eq_false (by omega)
  have k1 : ∀ W, Below w.heap.size w W → _ := fun W hB => enc_int a0 h0 h1 W (tab_below hT hB)
  have k2 : ∀ W, Below w.heap.size w W → _ := fun W (_ : Below w.heap.size w W) => enc_text a1 (by omega) W
  have k3 : ∀ W, Below w.heap.size w W → _ := fun W (_ : Below w.heap.size w W) => enc_bool a2 W
  have k4 : ∀ W, Below w.heap.size w W → _ := fun W (_ : Below w.heap.size w W) => enc_bytes a1 (by omega) W
  rw [hTT] at k4
  have k5 : ∀ W, Below w.heap.size w W → _ := fun W hB => number a0 h0 h1 W (tab_below hT hB)
  have k6 : ∀ W, Below w.heap.size w W → _ := fun W (_ : Below w.heap.size w W) => spec_Hex.calls k a1 false T W hk
  have K1 := Aside0.mk k1
  have K2 := Aside0.mk k2
  have K3 := Aside0.mk k3
  have K4 := Aside0.mk k4
  have K5 := Aside0.mk k5
  have K6 := Aside0.mk k6
  have HB0 := Aside0.mk (Below.refl w.heap.size w)
  clear k1 k2 k3 k4 k5 k6 hs h0 h1 hT hk hTT
  unfold dv at K1 K2 K3 K4
  cases a2 with
  | true => 
    unfold boolText at K3
    go_enter Tryd.func4, Tryd.ntmps4
    go_wp2_with (first | (go_at_call 13; ((with_reducible refine (K1.out _ HB0.out).mono ?_); rintro e w1 ⟨hb1, rfl⟩; have HB1 := Aside0.mk (below_step HB0.out hb1); clear hb1)) | (go_at_call 13; ((with_reducible refine (K2.out _ HB1.out).mono ?_); rintro e w2 ⟨hb2, rfl⟩; have HB2 := Aside0.mk (below_step HB1.out hb2); clear hb2)) | (go_at_call 13; ((with_reducible refine (K3.out _ HB2.out).mono ?_); rintro e w3 ⟨hb3, rfl⟩; have HB3 := Aside0.mk (below_step HB2.out hb3); clear hb3)) | (go_at_call 13; ((with_reducible refine (K4.out _ HB3.out).mono ?_); rintro e w4 ⟨hb4, rfl⟩; have HB4 := Aside0.mk (below_step HB3.out hb4); clear hb4)) | (go_at_call 14; ((with_reducible refine (K5.out _ HB4.out).mono ?_); rintro e w5 ⟨rfl, hb5⟩; have HB5 := Aside0.mk (below_step HB4.out hb5); clear hb5)) | (go_at_call 15; ((with_reducible refine (K6.out _ HB5.out).mono ?_); rintro e w6 ⟨rfl, hb6⟩; have HB6 := Aside0.mk (below_step HB5.out hb6); clear hb6)))
    go_ret
    exact ⟨rfl, HB6.out⟩
  | false => 
    unfold boolText at K3
    go_enter Tryd.func4, Tryd.ntmps4
    go_wp2_with (first | (go_at_call 13; ((with_reducible refine (K1.out _ HB0.out).mono ?_); rintro e w1 ⟨hb1, rfl⟩; have HB1 := Aside0.mk (below_step HB0.out hb1); clear hb1)) | (go_at_call 13; ((with_reducible refine (K2.out _ HB1.out).mono ?_); rintro e w2 ⟨hb2, rfl⟩; have HB2 := Aside0.mk (below_step HB1.out hb2); clear hb2)) | (go_at_call 13; ((with_reducible refine (K3.out _ HB2.out).mono ?_); rintro e w3 ⟨hb3, rfl⟩; have HB3 := Aside0.mk (below_step HB2.out hb3); clear hb3)) | (go_at_call 13; ((with_reducible refine (K4.out _ HB3.out).mono ?_); rintro e w4 ⟨hb4, rfl⟩; have HB4 := Aside0.mk (below_step HB3.out hb4); clear hb4)) | (go_at_call 14; ((with_reducible refine (K5.out _ HB4.out).mono ?_); rintro e w5 ⟨rfl, hb5⟩; have HB5 := Aside0.mk (below_step HB4.out hb5); clear hb5)) | (go_at_call 15; ((with_reducible refine (K6.out _ HB5.out).mono ?_); rintro e w6 ⟨rfl, hb6⟩; have HB6 := Aside0.mk (below_step HB5.out hb6); clear hb6)))
    go_ret
    exact ⟨rfl, HB6.out⟩
theorem enc_walk (a0 : Int) (a1 : ByteArray) (a2 : Bool) (w : World) (hT : Tab w) (v0 : (Lit.int .i64 a0).wf = true) (v1 : a1.size ≤ 140737488351232) :
    Calls Tryd.prog 4 #[.int .i64 a0, .string a1, .bool a2] w fun e w' => e = .returned (.bool true) ∧ Below w.heap.size w w' := by
  have r1 : IntKind.i64.min ≤ a0 ∧ a0 ≤ IntKind.i64.max := by simpa [Lit.wf] using v0
  have e2 : IntKind.i64.min = -9223372036854775808 := rfl
  have e3 : IntKind.i64.max = 9223372036854775807 := rfl
  by_cases hs : a1.size ≤ 500
  · obtain ⟨k, hk⟩ := (hex_small a1 (by omega)).rounds
    exact fe_short k a0 a1 a2 w hs (by omega) (by omega) hT _ hk (by rw [enc8_bytes])
  · exact fe_long a0 a1 a2 w (by omega) v1
end Go.Proofs.YtlhjblbmhlelbaaDoor.Lib
