/- strconv.AppendInt of a number below 100 onto a row whose mark, if it has one, lies behind its last cell. Conditions: named by each theorem. -/
import Derived.Test.YtlhjblbmhlelbabDoorPx7
import Derived.Test.YtlhjblbmhlelbabDoorMark
namespace Go.Proofs.YtlhjblbmhlelbabDoor.P
open Go.RowKit Go.Proofs.YtlhjblbmhlelbabDoorW.PrintWords Go.Proofs.YtlhjblbmhlelbabDoorW.PrintLast Go.Proofs.YtlhjblbmhlelbabDoorW.PrintMore
set_option linter.unusedVariables false
set_option linter.unusedSimpArgs false
def smallDigits (n : Int) : List Int := if n < 10 then [48 + n] else [48 + n / 10, 48 + n % 10]
theorem small_all : (List.range 60).all (fun n => (strconv_small.f (n : Int)).map bytesOf == some (smallDigits (n : Int))) = true := by decide +kernel
theorem small_at (n : Int) (h0 : 0 ≤ n) (h1 : n < 60) : ∃ t : ByteArray, strconv_small.f n = some t ∧ bytesOf t = smallDigits n := by
  obtain ⟨m, rfl⟩ := Int.eq_ofNat_of_zero_le h0
  have := (List.all_eq_true.1 small_all) m (List.mem_range.2 (by omega))
  have := eq_of_beq this
  obtain ⟨t, ht, hb⟩ := Option.map_eq_some_iff.1 this
  exact ⟨t, ht, hb⟩
theorem smallDigits_size {t : ByteArray} {n : Int} (h : bytesOf t = smallDigits n) : t.size ≤ 2 := by
  rw [← bytesOf_length, h]
  unfold smallDigits
  split <;> simp
set_option maxHeartbeats 1000000 in
set_option maxRecDepth 100000 in
theorem appendUint_B (n : Int) (t : ByteArray) (h0 : 0 ≤ n) (h1 : n < 60) (ht : strconv_small.f n = some t) (v : Value) (l : List Int) (w0 w : World) (hO : OwnB 5 w w0.heap.size v l) (hB : Below w0.heap.size w0 w) (hl : l.length + t.size ≤ 140737488355328) :
    Calls Tryd.prog 36 #[v, .int .u64 n, .int .i64 10] w fun e w' => ∃ v', e = .returned v' ∧ OwnB 5 w' w0.heap.size v' (l ++ bytesOf t) ∧ Below w0.heap.size w0 w' := by
  have HO := Aside0.mk hO
  have HB := Aside0.mk hB
  have HT := Aside0.mk ht
  have HL := Aside0.mk hl
  clear hO hB ht hl
  have h2 : n < 100 := by omega
  go_enter Tryd.func36, Tryd.ntmps36
  go_wp2_with (first | (go_at_call 37; (with_reducible refine (strconv_small.calls n t _ HT.out).mono ?_); rintro e w1 ⟨rfl, ⟨nd, rfl⟩⟩) | (at_builtin; refine append_strB (w0 := w0) w0.heap.size rfl (.tmp 13) _ 34 9 5 rfl Tryd.underlying34 Tryd.underlying9 info5 v l t rfl rfl ?aO ?aB ?aS ?aL ?_; (case aB => exact pw_below_drewN HB.out _); (case aO => exact HO.out.drewN _); (case aS => exact below_size (pw_below_drewN HB.out _)); (case aL => exact HL.out); intro v1 w2 ho hb hg; have HO2 := Aside0.mk ho; have HB2 := Aside0.mk hb; clear ho hb hg))
  go_ret
  exact ⟨_, rfl, HO2.out, HB2.out⟩
set_option maxHeartbeats 1000000 in
set_option maxRecDepth 100000 in
theorem appendInt_B0 (n : Int) (t : ByteArray) (h0 : 0 ≤ n) (h1 : n < 60) (ht : strconv_small.f n = some t) (v : Value) (l : List Int) (w0 w : World) (hO : OwnB 5 w w0.heap.size v l) (hB : Below w0.heap.size w0 w) (hl : l.length + t.size ≤ 140737488355328) :
    Calls Tryd.prog 35 #[v, .int .i64 n, .int .i64 10] w fun e w' => ∃ v', e = .returned v' ∧ OwnB 5 w' w0.heap.size v' (l ++ bytesOf t) ∧ Below w0.heap.size w0 w' := by
  have HC := Aside0.mk (appendUint_B n t h0 h1 ht v l w0 w hO hB hl)
  clear hO hB ht hl
  have hw : IntKind.u64.wrap n = n := by rw [IntKind.wrap_u64]; omega
  have hn : ¬ n < 0 := by omega
  go_enter Tryd.func35, Tryd.ntmps35
  go_wp2_with (first | (go_at_call 36; (with_reducible refine HC.out.mono ?_); rintro e w1 ⟨v1, rfl, ho, hb⟩; have HO2 := Aside0.mk ho; have HB2 := Aside0.mk hb; clear ho hb))
  go_ret
  exact ⟨_, rfl, HO2.out, HB2.out⟩
set_option maxHeartbeats 1000000 in
set_option maxRecDepth 100000 in
theorem appendInt_B (n : Int) (t : ByteArray) (h0 : 0 ≤ n) (h1 : n < 60) (ht : strconv_small.f n = some t) (v : Value) (l : List Int) (w0 w : World) (hO : OwnB 5 w w0.heap.size v l) (hB : Below w0.heap.size w0 w) (hl : l.length + t.size ≤ 140737488355328) :
    Calls Tryd.prog 32 #[v, .int .i64 n, .int .i64 10] w fun e w' => ∃ v', e = .returned v' ∧ OwnB 5 w' w0.heap.size v' (l ++ bytesOf t) ∧ Below w0.heap.size w0 w' := by
  have HC := Aside0.mk (appendInt_B0 n t h0 h1 ht v l w0 w hO hB hl)
  clear hO hB ht hl
  go_enter Tryd.func32, Tryd.ntmps32
  go_wp2_with (first | (go_at_call 35; (with_reducible refine HC.out.mono ?_); rintro e w1 ⟨v1, rfl, ho, hb⟩; have HO2 := Aside0.mk ho; have HB2 := Aside0.mk hb; clear ho hb))
  go_ret
  exact ⟨_, rfl, HO2.out, HB2.out⟩
end Go.Proofs.YtlhjblbmhlelbabDoor.P
