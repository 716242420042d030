/- pq.encode and impl.Encoded at texts, booleans and bytes. Conditions: named by each theorem. -/
import Derived.Test.YtlhjblbmhlelbaaDoorEncWalk
import Derived.Test.YtlhjblbmhlelbaaDoorEncHex
import Derived.Lib.SliceRun
namespace Go.Proofs.YtlhjblbmhlelbaaDoor.P
open Go.RowKit Go.Proofs.YtlhjblbmhlelbaaDoorW.PrintWords Go.Proofs.YtlhjblbmhlelbaaDoorW.PrintLast Go.Proofs.YtlhjblbmhlelbaaDoorW.PrintMore
set_option linter.unusedVariables false
set_option linter.unusedSimpArgs false
def boolText (b : Bool) : ByteArray := if b then ⟨#[116, 114, 117, 101]⟩ else ⟨#[102, 97, 108, 115, 101]⟩
set_option maxHeartbeats 4000000 in
set_option maxRecDepth 100000 in
theorem ibool (b : Bool) (w : World) : Calls Tryd.prog 66 #[.slice none 0 0, .bool b] w fun e w' => Below w.heap.size w w' ∧ ∃ v, e = .returned v ∧ Kd.R (Kd.int .u8) 5 w' w.heap.size (fun _ => True) v (bytesOf (boolText b)) := by
  have ho : w.ownsRow w.heap.size 5 1 (.slice none 0 0) ([] : List Int).length (nums .u8 []) := World.ownsRow_nil _ _ _ _
  have HO := Aside0.mk ho
  clear ho
  cases b with
  | true =>
    go_enter Tryd.func66, Tryd.ntmps66
    go_wp2_with (at_builtin; refine print_append_str (w0 := w) w.heap.size rfl (.tmp 6) _ 47 9 5 rfl Tryd.underlying47 Tryd.underlying9 info5 (.slice none 0 0) [] (⟨#[116, 114, 117, 101]⟩ : ByteArray) rfl rfl HO.out (Below.refl _ _) (Nat.le_refl _) (by decide) ?_; intro v1 w1 ho1 hb1 _; have HO1 := Aside0.mk ho1; have HB1 := Aside0.mk hb1; clear ho1 hb1)
    go_ret
    exact ⟨HB1.out, _, rfl, Kd.R_of_own (h1 := fun _ => rfl) HO1.out (fun _ _ => trivial)⟩
  | false =>
    go_enter Tryd.func66, Tryd.ntmps66
    go_wp2_with (at_builtin; refine print_append_str (w0 := w) w.heap.size rfl (.tmp 8) _ 47 9 5 rfl Tryd.underlying47 Tryd.underlying9 info5 (.slice none 0 0) [] (⟨#[102, 97, 108, 115, 101]⟩ : ByteArray) rfl rfl HO.out (Below.refl _ _) (Nat.le_refl _) (by decide) ?_; intro v1 w1 ho1 hb1 _; have HO1 := Aside0.mk ho1; have HB1 := Aside0.mk hb1; clear ho1 hb1)
    go_ret
    exact ⟨HB1.out, _, rfl, Kd.R_of_own (h1 := fun _ => rfl) HO1.out (fun _ _ => trivial)⟩
set_option maxHeartbeats 4000000 in
set_option maxRecDepth 100000 in
theorem sbool (b : Bool) (w : World) : Calls Tryd.prog 47 #[.slice none 0 0, .bool b] w fun e w' => Below w.heap.size w w' ∧ ∃ v, e = .returned v ∧ Kd.R (Kd.int .u8) 5 w' w.heap.size (fun _ => True) v (bytesOf (boolText b)) := by
  go_enter Tryd.func47, Tryd.ntmps47
  go_wp2_with (go_at_call 66; refine (ibool b _).mono ?_; rintro e w1 ⟨hb, v, rfl, hR⟩; have HB := Aside0.mk hb; have HR := Aside0.mk hR; clear hb hR)
  go_ret
  exact ⟨HB.out, _, rfl, HR.out⟩
set_option maxHeartbeats 4000000 in
set_option maxRecDepth 100000 in
theorem encode_bool (b : Bool) (oid : Int) (w : World) :
    Calls Tryd.prog 32 #[.iface 4 (.bool b), .int .u32 oid] w fun e w' => Below w.heap.size w w' ∧ ∃ v, e = .returned (.tuple #[v, .nilIface]) ∧ Kd.R (Kd.int .u8) 5 w' w.heap.size (fun _ => True) v (bytesOf (boolText b)) := by
  have t0 : ∀ W, (Instr.typeAssert (.iface 4 (.bool b)) 20 2 true).run Tryd.prog W = .ok (.tuple #[.int .i64 0, .bool false]) W := fun W => by kernel_rfl
  have t1 : ∀ W, (Instr.typeAssert (.iface 4 (.bool b)) 20 31 true).run Tryd.prog W = .ok (.tuple #[.float .f64 0, .bool false]) W := fun W => by kernel_rfl
  have t2 : ∀ W, (Instr.typeAssert (.iface 4 (.bool b)) 20 47 true).run Tryd.prog W = .ok (.tuple #[.slice none 0 0, .bool false]) W := fun W => by kernel_rfl
  have t3 : ∀ W, (Instr.typeAssert (.iface 4 (.bool b)) 20 9 true).run Tryd.prog W = .ok (.tuple #[.string ⟨#[]⟩, .bool false]) W := fun W => by kernel_rfl
  have t4 : ∀ W, (Instr.typeAssert (.iface 4 (.bool b)) 20 4 true).run Tryd.prog W = .ok (.tuple #[.bool b, .bool true]) W := fun W => by kernel_rfl
  go_enter Tryd.func32, Tryd.ntmps32
  go_wp2_with (go_at_call 47; refine (sbool b _).mono ?_; rintro e w1 ⟨hb, v, rfl, hR⟩; have HB := Aside0.mk hb; have HR := Aside0.mk hR; clear hb hR)
  go_ret2
  exact ⟨HB.out, _, rfl, HR.out⟩
set_option maxHeartbeats 4000000 in
set_option maxRecDepth 100000 in
theorem encode_text (s : ByteArray) (oid : Int) (hs : s.size ≤ 1000) (ho : oid ≠ 17) (w : World) :
    Calls Tryd.prog 32 #[.iface 9 (.string s), .int .u32 oid] w fun e w' => Below w.heap.size w w' ∧ ∃ v, e = .returned (.tuple #[v, .nilIface]) ∧ ∃ A m c, v = .slice A m c ∧ Kd.C (Kd.int .u8) w' A m (bytesOf s) := by
  have t0 : ∀ W, (Instr.typeAssert (.iface 9 (.string s)) 20 2 true).run Tryd.prog W = .ok (.tuple #[.int .i64 0, .bool false]) W := fun W => by kernel_rfl
  have t1 : ∀ W, (Instr.typeAssert (.iface 9 (.string s)) 20 31 true).run Tryd.prog W = .ok (.tuple #[.float .f64 0, .bool false]) W := fun W => by kernel_rfl
  have t2 : ∀ W, (Instr.typeAssert (.iface 9 (.string s)) 20 47 true).run Tryd.prog W = .ok (.tuple #[.slice none 0 0, .bool false]) W := fun W => by kernel_rfl
  have t3 : ∀ W, (Instr.typeAssert (.iface 9 (.string s)) 20 9 true).run Tryd.prog W = .ok (.tuple #[.string s, .bool true]) W := fun W => by kernel_rfl
  have o1 : (oid == 17) = false := beq_eq_false_iff_ne.mpr ho
  have kb := fun W => print_bytes (P := Tryd.prog) 9 47 5 Tryd.underlying9 Tryd.underlying47 Tryd.underlying5 s W
  clear ho
  have HS := Aside0.mk hs
  clear hs
  go_enter Tryd.func32, Tryd.ntmps32
  go_wp2_with fail
  go_ret2
  exact ⟨bytes_below (Below.refl w.heap.size w) (Nat.le_refl _) 5 s, _, rfl, _, _, _, rfl, Kd.C_of_reads (d := (0 : Int)) (h1 := fun _ => rfl) (bytes_reads w 5 s (by have := HS.out; omega))⟩
set_option maxHeartbeats 4000000 in
set_option maxRecDepth 100000 in
theorem encode_bytes (b n c0 : Nat) (xs : List Int) (w : World) (hx : xs.length = n) (hn : n ≤ 1000) (hblk : b < w.heap.size) (hr : Kd.C (Kd.int .u8) w (some ⟨b, 0, none⟩) n xs) (hby : ∀ x ∈ xs, 0 ≤ x ∧ x < 256) :
    Calls Tryd.prog 32 #[.iface 47 (.slice (some ⟨b, 0, none⟩) n c0), .int .u32 17] w fun e w' => Below w.heap.size w w' ∧ ∃ v, e = .returned (.tuple #[v, .nilIface]) ∧ Kd.R (Kd.int .u8) 5 w' w.heap.size (fun _ => True) v (92 :: 120 :: enc8 xs) := by
  have t0 : ∀ W, (Instr.typeAssert (.iface 47 (.slice (some ⟨b, 0, none⟩) n c0)) 20 2 true).run Tryd.prog W = .ok (.tuple #[.int .i64 0, .bool false]) W := fun W => by kernel_rfl
  have t1 : ∀ W, (Instr.typeAssert (.iface 47 (.slice (some ⟨b, 0, none⟩) n c0)) 20 31 true).run Tryd.prog W = .ok (.tuple #[.float .f64 0, .bool false]) W := fun W => by kernel_rfl
  have t2 : ∀ W, (Instr.typeAssert (.iface 47 (.slice (some ⟨b, 0, none⟩) n c0)) 20 47 true).run Tryd.prog W = .ok (.tuple #[.slice (some ⟨b, 0, none⟩) n c0, .bool true]) W := fun W => by kernel_rfl
  have hnil := fun (W : World) (a : Option Addr) (m k : Nat) => Lib.run_eql_slice_nil (P := Tryd.prog) W 47 5 a m k 0 0 Tryd.underlying47
  have hm := pq_encodeBytea_all b n c0 xs w hx hn hblk hr hby
  have HM := Aside0.mk hm
  clear hm hx hn hblk hr hby
  go_enter Tryd.func32, Tryd.ntmps32
  go_wp2_with (go_at_call 46; refine HM.out.mono ?_; rintro e w1 ⟨hb, v, rfl, hR⟩; have HB := Aside0.mk hb; have HR := Aside0.mk hR; clear hb hR)
  go_ret2
  exact ⟨HB.out, _, rfl, HR.out⟩
set_option maxHeartbeats 4000000 in
set_option maxRecDepth 100000 in
theorem timed_bytes (A : Option Addr) (n c0 : Nat) (w : World) :
    Calls Tryd.prog 30 #[.iface 47 (.slice A n c0)] w fun e w' => Below w.heap.size w w' ∧ e = .returned (.tuple #[.iface 47 (.slice A n c0), .bool true]) := by
  have ts : ∀ W, (Instr.typeAssert (.iface 47 (.slice A n c0)) 20 63 true).run Tryd.prog W = .ok (.tuple #[.agg #[.int .i64 0, .int .i64 0, .int .i64 0, .int .i64 0, .int .i64 0, .int .i64 0, .int .i64 0, .int .i64 0], .bool false]) W := fun W => by kernel_rfl
  go_enter Tryd.func30, Tryd.ntmps30
  go_wp2_with fail
  go_ret2
  exact ⟨below_alloc (Below.refl _ _) _, rfl⟩
/-- The bytes of a text, boxed. -/
def BoxB (s : ByteArray) (w : World) (x : Value) : Prop := ∃ b c0, x = .iface 47 (.slice (some ⟨b, 0, none⟩) s.size c0) ∧ b < w.heap.size ∧ Kd.C (Kd.int .u8) w (some ⟨b, 0, none⟩) s.size (bytesOf s)
set_option maxHeartbeats 4000000 in
set_option maxRecDepth 100000 in
theorem goOf_bytes (s : ByteArray) (hs : s.size ≤ 1000) (w : World) :
    Calls Tryd.prog 21 #[dv 4 0 s false] w fun e w' => Below w.heap.size w w' ∧ ∃ x, e = .returned (.tuple #[x, .bool true]) ∧ BoxB s w' x := by
  have kb := fun W => print_bytes (P := Tryd.prog) 9 47 5 Tryd.underlying9 Tryd.underlying47 Tryd.underlying5 s W
  have HS := Aside0.mk hs
  clear hs
  unfold dv
  go_enter Tryd.func21, Tryd.ntmps21
  go_wp2_with fail
  go_ret2
  have key : ∀ (W : World) (N : Nat), N = W.heap.size → N < (Lib.bytesWorld W 5 s).heap.size ∧ Kd.C (Kd.int .u8) (Lib.bytesWorld W 5 s) (some ⟨N, 0, none⟩) s.size (bytesOf s) := by
    rintro W N rfl
    exact ⟨(Array.getElem?_eq_some_iff.1 (Lib.bytesWorld_at_new W 5 s)).1, Kd.C_of_reads (d := (0 : Int)) (h1 := fun _ => rfl) (bytes_reads _ 5 s (by have := HS.out; omega))⟩
  exact ⟨bytes_below (below_alloc (Below.refl _ _) _) (by simp) 5 s, _, rfl, _, _, rfl, (key _ _ (by simp)).1, (key _ _ (by simp)).2⟩
set_option maxHeartbeats 4000000 in
set_option maxRecDepth 100000 in
theorem Encoded_gen (k n : Int) (s : ByteArray) (b : Bool) (xs : List Int) (oid : Int) (w : World) (X : World → Value → Prop)
    (hg : ∀ W, Calls Tryd.prog 21 #[dv k n s b] W fun e w' => Below W.heap.size W w' ∧ ∃ x, e = .returned (.tuple #[x, .bool true]) ∧ X w' x)
    (hE : ∀ W x, Below w.heap.size w W → X W x → Calls Tryd.prog 22 #[x, .int .u32 oid] W fun e w' => Below W.heap.size W w' ∧ ∃ v, e = .returned (.tuple #[v, .nilIface]) ∧ ∃ base, Kd.R (Kd.int .u8) 5 w' base (fun _ => True) v xs) :
    Calls Tryd.prog 13 #[dv k n s b, .int .u32 oid] w fun e w' => Below w.heap.size w w' ∧ e = .returned (.tuple #[.string (strOfNums xs), .bool true]) := by
  have HE := Aside0.mk hE
  have HG := Aside0.mk hg
  have hu32 := Tryd.underlying49
  clear hE hg
  unfold dv at HG ⊢
  go_enter Tryd.func13, Tryd.ntmps13
  go_wp2_with fail
  refine (HG.out _).mono ?_
  rintro e w1 ⟨hb, x, rfl, hX⟩
  have HB := Aside0.mk (below_step (below_alloc (Below.refl _ _) _) hb)
  have HX := Aside0.mk hX
  clear hb hX
  go_wp2_with fail
  refine (HE.out _ _ HB.out HX.out).mono ?_
  rintro e w2 ⟨hb, v, rfl, base, hR⟩
  have HR := Aside0.mk hR
  have HB2 := Aside0.mk (below_step HB.out hb)
  have hcv := fun nq : Nat => own_string (P := Tryd.prog) Tryd.underlying47 Tryd.underlying5 Tryd.underlying9 (Kd.own_of_R (show Kd.R (Kd.int .u8) 5 (w2.drewN nq) _ _ v xs from by apply Kd.R_drewN; exact HR.out))
  clear hb hR
  go_wp2_with fail
  go_quiet (fail)
  go_wp2_with fail
  go_ret2
  exact ⟨pw_below_drewN HB2.out _, rfl⟩
end Go.Proofs.YtlhjblbmhlelbaaDoor.P
