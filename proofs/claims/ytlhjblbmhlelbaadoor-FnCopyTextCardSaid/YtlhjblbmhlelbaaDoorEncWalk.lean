/- impl.goOf and pq.timed at a whole number, a text, a boolean and bytes; pq.encode at a whole number. Conditions: named by each theorem. -/
import Derived.Test.YtlhjblbmhlelbaaDoorPx0
import Derived.Test.YtlhjblbmhlelbaaDoorShelf
namespace Go.Proofs.YtlhjblbmhlelbaaDoor.P
open Go.RowKit Go.Proofs.YtlhjblbmhlelbaaDoorW.PrintWords Go.Proofs.YtlhjblbmhlelbaaDoorW.PrintLast Go.Proofs.YtlhjblbmhlelbaaDoorW.PrintMore
set_option linter.unusedVariables false
set_option linter.unusedSimpArgs false
/-- A datum. -/
def dv (kind n : Int) (s : ByteArray) (b : Bool) : Value := .agg #[.int .i64 kind, .int .i64 n, .float .f64 0, .string s, .bool b, .int .i64 0, .int .i64 0, .int .i64 0, .int .i64 0, .int .i64 0, .int .i64 0, .int .i64 0, .int .i64 0]
set_option maxHeartbeats 2000000 in
set_option maxRecDepth 100000 in
theorem goOf_int (n : Int) (w : World) :
    Calls Tryd.prog 21 #[dv 1 n ⟨#[]⟩ false] w fun e w' => Below w.heap.size w w' ∧ e = .returned (.tuple #[.iface 2 (.int .i64 n), .bool true]) := by
  unfold dv
  go_enter Tryd.func21, Tryd.ntmps21
  go_wp2_with fail
  go_ret2
  exact ⟨below_alloc (Below.refl _ _) _, rfl⟩
set_option maxHeartbeats 2000000 in
set_option maxRecDepth 100000 in
theorem timed_int (n : Int) (w : World) :
    Calls Tryd.prog 30 #[.iface 2 (.int .i64 n)] w fun e w' => Below w.heap.size w w' ∧ e = .returned (.tuple #[.iface 2 (.int .i64 n), .bool true]) := by
  have ts : ∀ W, (Instr.typeAssert (.iface 2 (.int .i64 n)) 20 63 true).run Tryd.prog W = .ok (.tuple #[.agg #[.int .i64 0, .int .i64 0, .int .i64 0, .int .i64 0, .int .i64 0, .int .i64 0, .int .i64 0, .int .i64 0], .bool false]) W := fun W => by kernel_rfl
  go_enter Tryd.func30, Tryd.ntmps30
  go_wp2_with fail
  go_ret2
  exact ⟨below_alloc (Below.refl _ _) _, rfl⟩
set_option maxHeartbeats 2000000 in
set_option maxRecDepth 100000 in
theorem goOf_text (s : ByteArray) (w : World) :
    Calls Tryd.prog 21 #[dv 3 0 s false] w fun e w' => Below w.heap.size w w' ∧ e = .returned (.tuple #[.iface 9 (.string s), .bool true]) := by
  unfold dv
  go_enter Tryd.func21, Tryd.ntmps21
  go_wp2_with fail
  go_ret2
  exact ⟨below_alloc (Below.refl _ _) _, rfl⟩
set_option maxHeartbeats 2000000 in
set_option maxRecDepth 100000 in
theorem timed_text (s : ByteArray) (w : World) :
    Calls Tryd.prog 30 #[.iface 9 (.string s)] w fun e w' => Below w.heap.size w w' ∧ e = .returned (.tuple #[.iface 9 (.string s), .bool true]) := by
  have ts : ∀ W, (Instr.typeAssert (.iface 9 (.string s)) 20 63 true).run Tryd.prog W = .ok (.tuple #[.agg #[.int .i64 0, .int .i64 0, .int .i64 0, .int .i64 0, .int .i64 0, .int .i64 0, .int .i64 0, .int .i64 0], .bool false]) W := fun W => by kernel_rfl
  go_enter Tryd.func30, Tryd.ntmps30
  go_wp2_with fail
  go_ret2
  exact ⟨below_alloc (Below.refl _ _) _, rfl⟩
set_option maxHeartbeats 2000000 in
set_option maxRecDepth 100000 in
theorem goOf_bool (b : Bool) (w : World) :
    Calls Tryd.prog 21 #[dv 5 0 ⟨#[]⟩ b] w fun e w' => Below w.heap.size w w' ∧ e = .returned (.tuple #[.iface 4 (.bool b), .bool true]) := by
  unfold dv
  go_enter Tryd.func21, Tryd.ntmps21
  go_wp2_with fail
  go_ret2
  exact ⟨below_alloc (Below.refl _ _) _, rfl⟩
set_option maxHeartbeats 2000000 in
set_option maxRecDepth 100000 in
theorem timed_bool (b : Bool) (w : World) :
    Calls Tryd.prog 30 #[.iface 4 (.bool b)] w fun e w' => Below w.heap.size w w' ∧ e = .returned (.tuple #[.iface 4 (.bool b), .bool true]) := by
  have ts : ∀ W, (Instr.typeAssert (.iface 4 (.bool b)) 20 63 true).run Tryd.prog W = .ok (.tuple #[.agg #[.int .i64 0, .int .i64 0, .int .i64 0, .int .i64 0, .int .i64 0, .int .i64 0, .int .i64 0, .int .i64 0], .bool false]) W := fun W => by kernel_rfl
  go_enter Tryd.func30, Tryd.ntmps30
  go_wp2_with fail
  go_ret2
  exact ⟨below_alloc (Below.refl _ _) _, rfl⟩
set_option maxHeartbeats 2000000 in
set_option maxRecDepth 100000 in
theorem goOf_null  (w : World) :
    Calls Tryd.prog 21 #[dv 0 0 ⟨#[]⟩ false] w fun e w' => Below w.heap.size w w' ∧ e = .returned (.tuple #[.nilIface, .bool true]) := by
  unfold dv
  go_enter Tryd.func21, Tryd.ntmps21
  go_wp2_with fail
  go_ret2
  exact ⟨below_alloc (Below.refl _ _) _, rfl⟩
set_option maxHeartbeats 2000000 in
set_option maxRecDepth 100000 in
theorem timed_null  (w : World) :
    Calls Tryd.prog 30 #[.nilIface] w fun e w' => Below w.heap.size w w' ∧ e = .returned (.tuple #[.nilIface, .bool true]) := by
  have ts : ∀ W, (Instr.typeAssert (.nilIface) 20 63 true).run Tryd.prog W = .ok (.tuple #[.agg #[.int .i64 0, .int .i64 0, .int .i64 0, .int .i64 0, .int .i64 0, .int .i64 0, .int .i64 0, .int .i64 0], .bool false]) W := fun W => by kernel_rfl
  go_enter Tryd.func30, Tryd.ntmps30
  go_wp2_with fail
  go_ret2
  exact ⟨below_alloc (Below.refl _ _) _, rfl⟩
set_option maxHeartbeats 2000000 in
set_option maxRecDepth 100000 in
theorem encode_int (n : Int) (oid : Int) (h0 : -9223372036854775808 ≤ n) (h1 : n ≤ 9223372036854775807) (w : World) (ht : Go.Lib.TabIs Tryd.prog w "internal/strconv.uint64pow10" .u64 Go.Lib.pow10Tab) :
    Calls Tryd.prog 32 #[.iface 2 (.int .i64 n), .int .u32 oid] w fun e w' => Below w.heap.size w w' ∧ ∃ v, e = .returned (.tuple #[v, .nilIface]) ∧ w'.ownsRow w.heap.size 5 1 v (Go.Lib.itoa n).length (Go.Lib.byteCells (Go.Lib.itoa n)) := by
  have hc := Tryd.strconv_AppendInt_10 w.heap.size 0 n h0 h1 (.slice none 0 0) [] w ⟨rfl, .inl ⟨rfl, rfl⟩⟩ (Nat.le_refl _) (by omega) (Go.Lib.tabBelow_of_tabIs ht)
  have ta : ∀ W, (Instr.typeAssert (.iface 2 (.int .i64 n)) 20 2 true).run Tryd.prog W = .ok (.tuple #[.int .i64 n, .bool true]) W := fun W => by kernel_rfl
  clear ht
  go_enter Tryd.func32, Tryd.ntmps32
  go_wp2_with fail
  refine hc.mono ?_
  rintro e w' ⟨v, rfl, ho, hb, _⟩
  have HO := Aside0.mk ho
  have HB := Aside0.mk hb
  clear ho hb hc
  go_wp2_with fail
  go_ret2
  exact ⟨HB.out, v, rfl, by have := HO.out; simpa using this⟩
set_option maxHeartbeats 2000000 in
set_option maxRecDepth 100000 in
theorem Encode_any (x : Value) (oid : Int) (w : World) (Q : World → Value → Prop)
    (ht : Calls Tryd.prog 30 #[x] w fun e w' => Below w.heap.size w w' ∧ e = .returned (.tuple #[x, .bool true]))
    (he : ∀ W, Below w.heap.size w W → Calls Tryd.prog 32 #[x, .int .u32 oid] W fun e w' => Below W.heap.size W w' ∧ ∃ v, e = .returned (.tuple #[v, .nilIface]) ∧ Q w' v) :
    Calls Tryd.prog 22 #[x, .int .u32 oid] w fun e w' => Below w.heap.size w w' ∧ ∃ v, e = .returned (.tuple #[v, .nilIface]) ∧ Q w' v := by
  have HE := Aside0.mk he
  have HT := Aside0.mk ht
  clear he ht
  go_enter Tryd.func22, Tryd.ntmps22
  go_wp2_with fail
  refine HT.out.mono ?_
  rintro e w1 ⟨hb, rfl⟩
  have HB := Aside0.mk hb
  clear hb
  go_wp2_with fail
  refine (HE.out _ HB.out).mono ?_
  rintro e w2 ⟨hb, v, rfl, hq⟩
  have HB2 := Aside0.mk (below_step HB.out hb)
  have HQ := Aside0.mk hq
  clear hb hq
  go_wp2_with fail
  go_ret2
  exact ⟨HB2.out, v, rfl, HQ.out⟩
set_option maxHeartbeats 2000000 in
set_option maxRecDepth 100000 in
theorem Encoded_any (k n : Int) (s : ByteArray) (b : Bool) (x : Value) (xs : List Int) (oid : Int) (w : World)
    (hg : ∀ W, Calls Tryd.prog 21 #[dv k n s b] W fun e w' => Below W.heap.size W w' ∧ e = .returned (.tuple #[x, .bool true]))
    (hE : ∀ W, Below w.heap.size w W → Calls Tryd.prog 22 #[x, .int .u32 oid] W fun e w' => Below W.heap.size W w' ∧ ∃ v, e = .returned (.tuple #[v, .nilIface]) ∧ ∃ base, Kd.R (Kd.int .u8) 5 w' base (fun _ => True) v xs) :
    Calls Tryd.prog 13 #[dv k n s b, .int .u32 oid] w fun e w' => Below w.heap.size w w' ∧ e = .returned (.tuple #[.string (strOfNums xs), .bool true]) := by
  have HE := Aside0.mk hE
  have HG := Aside0.mk hg
  have hu32 := Tryd.underlying49
  clear hE hg
  unfold dv at HG ⊢
  go_enter Tryd.func13, Tryd.ntmps13
  go_wp2_with fail
  refine (HG.out _).mono ?_
  rintro e w1 ⟨hb, rfl⟩
  have HB := Aside0.mk (below_step (below_alloc (Below.refl _ _) _) hb)
  clear hb
  go_wp2_with fail
  refine (HE.out _ HB.out).mono ?_
  rintro e w2 ⟨hb, v, rfl, base, hR⟩
  have HR := Aside0.mk hR
  have HB2 := Aside0.mk (below_step HB.out hb)
  have hcv := fun nq : Nat => own_string (P := Tryd.prog) Tryd.underlying47 Tryd.underlying5 Tryd.underlying9 (Kd.own_of_R (show Kd.R (Kd.int .u8) 5 (w2.drewN nq) _ _ v xs from by apply Kd.R_drewN; exact HR.out))
  clear hb hR
  go_wp2_with fail
  go_quiet (fail)
  go_wp2_with fail
  go_ret2
  exact ⟨pw_below_drewN HB2.out _, rfl⟩
set_option maxHeartbeats 2000000 in
set_option maxRecDepth 100000 in
theorem Encoded_reads (k n : Int) (s : ByteArray) (b : Bool) (x : Value) (xs : List Int) (oid : Int) (w : World)
    (hg : ∀ W, Calls Tryd.prog 21 #[dv k n s b] W fun e w' => Below W.heap.size W w' ∧ e = .returned (.tuple #[x, .bool true]))
    (hE : ∀ W, Below w.heap.size w W → Calls Tryd.prog 22 #[x, .int .u32 oid] W fun e w' => Below W.heap.size W w' ∧ ∃ v, e = .returned (.tuple #[v, .nilIface]) ∧ ∃ A m c, v = .slice A m c ∧ Kd.C (Kd.int .u8) w' A m xs) :
    Calls Tryd.prog 13 #[dv k n s b, .int .u32 oid] w fun e w' => Below w.heap.size w w' ∧ e = .returned (.tuple #[.string (strOfNums xs), .bool true]) := by
  have HE := Aside0.mk hE
  have HG := Aside0.mk hg
  have hu32 := Tryd.underlying49
  clear hE hg
  unfold dv at HG ⊢
  go_enter Tryd.func13, Tryd.ntmps13
  go_wp2_with fail
  refine (HG.out _).mono ?_
  rintro e w1 ⟨hb, rfl⟩
  have HB := Aside0.mk (below_step (below_alloc (Below.refl _ _) _) hb)
  clear hb
  go_wp2_with fail
  refine (HE.out _ HB.out).mono ?_
  rintro e w2 ⟨hb, v, rfl, A, m, c, rfl, hR⟩
  have HB2 := Aside0.mk (below_step HB.out hb)
  have hcv := fun nq c_ : Nat => Kd.C_string (P := Tryd.prog) (c := c_) Tryd.underlying47 Tryd.underlying5 Tryd.underlying9 (Kd.C_below hR (pw_below_drewN (Below.refl _ _) nq))
  clear hb hR
  go_wp2_with fail
  go_quiet (fail)
  go_wp2_with fail
  go_ret2
  exact ⟨pw_below_drewN HB2.out _, rfl⟩
end Go.Proofs.YtlhjblbmhlelbaaDoor.P
