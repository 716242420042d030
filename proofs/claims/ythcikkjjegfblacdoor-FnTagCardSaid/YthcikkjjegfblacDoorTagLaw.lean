/- impl.Tag, spec.Number, and what splitting at blanks tells; FnTagRefused's walk. Conditions: what the listed variables hold is named. -/
import Derived.Test.YthcikkjjegfblacDoorTagWalk
import Derived.Test.YthcikkjjegfblacDoorLibIndex
import Derived.Test.YthcikkjjegfblacDoorPx5
import Derived.Stop.LaidErr
import Derived.LaidLaws
import Derived.OpenShut
import Derived.Lib.AppendIntMem
namespace Go.Proofs.YthcikkjjegfblacDoor.Lib
open Go.RowKit Go.Proofs.YthcikkjjegfblacDoor.P Go.Proofs.YthcikkjjegfblacDoorW.PrintWords Go.Proofs.YthcikkjjegfblacDoorW.PrintLast Go.Proofs.YthcikkjjegfblacDoorW.PrintMore
set_option linter.unusedVariables false
set_option linter.unusedSimpArgs false
theorem append_bytes (a b : ByteArray) : bytesOf (a ++ b) = bytesOf a ++ bytesOf b := by unfold bytesOf; simp
set_option maxHeartbeats 4000000 in
set_option maxRecDepth 100000 in
theorem tag_ok (s c : ByteArray) (v : Int) (w : World) (h : Calls Tryd.prog 33 #[.string s] w fun e w' => Below w.heap.size w w' ∧ e = .returned (.tuple #[.int .i64 v, .string c, .nilIface])) :
    Calls Tryd.prog 15 #[.string s] w fun e w' => Below w.heap.size w w' ∧ e = .returned (.tuple #[.string c, .int .i64 v, .bool true]) := by
  have hu32 := Tryd.underlying51
  have hp : Calls Tryd.prog 23 #[.string s] w fun e w' => Below w.heap.size w w' ∧ e = .returned (.tuple #[.int .i64 v, .string c, .nilIface]) := by
    go_enter Tryd.func23, Tryd.ntmps23
    go_wp2_with fail
    refine h.mono ?_
    rintro e w' ⟨hb, rfl⟩
    have HB := Aside0.mk hb
    clear hb
    go_wp2_with fail
    go_ret3
    exact ⟨HB.out, rfl⟩
  clear h
  go_enter Tryd.func15, Tryd.ntmps15
  go_wp2_with fail
  refine hp.mono ?_
  rintro e w' ⟨hb, rfl⟩
  have HB := Aside0.mk hb
  clear hb hp
  go_wp2_with fail
  go_quiet (fail)
  go_wp2_with fail
  go_ret3
  exact ⟨pw_below_drewN HB.out _, rfl⟩
set_option maxHeartbeats 4000000 in
set_option maxRecDepth 100000 in
theorem tag_bad (s : ByteArray) (w : World) (h : Calls Tryd.prog 33 #[.string s] w fun e w' => Below w.heap.size w w' ∧ ∃ t x, e = .returned (.tuple #[.int .i64 0, .string ⟨#[]⟩, .iface t x])) :
    Calls Tryd.prog 15 #[.string s] w fun e w' => Below w.heap.size w w' ∧ e = .returned (.tuple #[.string ⟨#[]⟩, .int .i64 0, .bool false]) := by
  have hu32 := Tryd.underlying51
  have hp : Calls Tryd.prog 23 #[.string s] w fun e w' => Below w.heap.size w w' ∧ ∃ t x, e = .returned (.tuple #[.int .i64 0, .string ⟨#[]⟩, .iface t x]) := by
    go_enter Tryd.func23, Tryd.ntmps23
    go_wp2_with fail
    refine h.mono ?_
    rintro e w' ⟨hb, t, x, rfl⟩
    have HB := Aside0.mk hb
    clear hb
    go_wp2_with fail
    go_ret3
    exact ⟨HB.out, _, _, rfl⟩
  clear h
  go_enter Tryd.func15, Tryd.ntmps15
  go_wp2_with fail
  refine hp.mono ?_
  rintro e w' ⟨hb, t, x, rfl⟩
  have HB := Aside0.mk hb
  clear hb hp
  go_wp2_with fail
  go_quiet (fail)
  go_wp2_with fail
  go_ret3
  exact ⟨pw_below_drewN HB.out _, rfl⟩
/-- The numeral. -/
def num (n : Int) : ByteArray := ⟨(Go.Lib.itoa n).toArray⟩
abbrev Tab (w : World) : Prop := Go.Lib.TabIs Tryd.prog w "internal/strconv.uint64pow10" .u64 Go.Lib.pow10Tab
theorem tab_below {w w' : World} (h : Tab w) (hb : Below w.heap.size w w') : Tab w' := by
  unfold Tab Go.Lib.TabIs World.var? at *
  cases hg : Tryd.prog.globalNamed "internal/strconv.uint64pow10" with
  | none => simp [hg] at h
  | some g =>
    simp only [hg, Option.bind_some] at h ⊢
    have hlt : g < w.heap.size := by
      rcases Nat.lt_or_ge g w.heap.size with h' | h'
      · exact h'
      · rw [Array.getElem?_eq_none h'] at h; simp at h
    rw [hb.block g hlt]
    exact h
set_option maxHeartbeats 4000000 in
set_option maxRecDepth 100000 in
theorem number (n : Int) (h0 : -9223372036854775808 ≤ n) (h1 : n ≤ 9223372036854775807) (w : World) (ht : Tab w) :
    Calls Tryd.prog 14 #[.int .i64 n] w fun e w' => e = .returned (.string (num n)) ∧ Below w.heap.size w w' := by
  have hc := Tryd.strconv_FormatInt_10 n h0 h1
  have HT := Aside0.mk ht
  clear ht
  go_enter Tryd.func14, Tryd.ntmps14
  go_wp2_with fail
  refine (hc _ HT.out).mono ?_
  rintro e w' ⟨rfl, k, os, rfl⟩
  have HB := Aside0.mk (Go.Lib.below_grow w.heap.size w (Nat.le_refl _) k os)
  go_wp2_with fail
  go_ret
  exact ⟨rfl, HB.out⟩
theorem spl_step (s : ByteArray) (hs : s.size ≤ 1000) (acc : List ByteArray) (ha : acc.length < 100) (p t : List Int) (e : bytesOf s = p ++ 32 :: t) (h : (32 : Int) ∉ p) (R : List ByteArray)
    (hR : Ev (fun k => pq_zzSplit.l1 k (s.extract (p.length + 1) s.size) ⟨#[32]⟩ (acc ++ [s.extract 0 p.length])) R) : Ev (fun k => pq_zzSplit.l1 k s ⟨#[32]⟩ acc) R := by
  have hl : p.length + 1 + t.length = s.size := by rw [← bytesOf_length, e]; simp; omega
  have hw : wrap64 ((p.length : Int) + ((⟨#[32]⟩ : ByteArray).size : Int)) = (p.length : Int) + 1 := by
    have h1 : (⟨#[32]⟩ : ByteArray).size = 1 := rfl
    rw [h1]
    exact wrap64_id (by omega) (by omega)
  refine Ev.step (fun k => pq_zzSplit.l1.eq_2 _ _ _ _) <| Ev.bind (index_yes s ⟨#[32]⟩ (by omega) 32 rfl p t e h) ?_
  rw [hw]
  refine Ev.if_neg (by omega) <| Ev.if_pos (by omega) <| Ev.if_pos (by omega) <| Ev.if_pos (by omega) <| Ev.if_pos (by omega) <| Ev.if_pos (by omega) ?_
  rw [show ((p.length : Int) + 1).toNat = p.length + 1 by omega, Int.toNat_natCast]
  exact hR
theorem spl_end (s : ByteArray) (hs : s.size ≤ 1000) (acc : List ByteArray) (ha : acc.length < 100) (h : (32 : Int) ∉ bytesOf s) : Ev (fun k => pq_zzSplit.l1 k s ⟨#[32]⟩ acc) (acc ++ [s]) :=
  Ev.step (fun k => pq_zzSplit.l1.eq_2 _ _ _ _) <| Ev.bind (index_no s ⟨#[32]⟩ (by omega) 32 rfl h) <| Ev.if_pos (by omega) <| Ev.if_pos (by omega) <| Ev.now _
theorem num_no32 (n : Int) (h0 : 0 ≤ n) : (32 : Int) ∉ bytesOf (num n) := by
  obtain ⟨u, rfl⟩ := Int.eq_ofNat_of_zero_le h0
  intro h
  unfold num bytesOf at h
  rw [Go.Lib.itoa_nonneg] at h
  obtain ⟨c, hc, e⟩ := List.mem_map.1 h
  have := dec_all u c (by simpa using hc)
  omega
theorem num_size (n : Int) (h0 : 0 ≤ n) (h1 : n ≤ 9223372036854775807) : (num n).size ≤ 20 := by
  obtain ⟨u, rfl⟩ := Int.eq_ofNat_of_zero_le h0
  show (Go.Lib.itoa _).toArray.size ≤ 20
  rw [Go.Lib.itoa_nonneg, List.size_toArray, Go.Lib.decDigits_length]
  have hd : ∀ k u, u < 10 ^ (k + 1) → Go.Lib.nDigits u ≤ k + 1 := by
    intro k
    induction k with
    | zero => intro u hu; rw [Go.Lib.nDigits_small (by omega)]; exact Nat.le_refl _
    | succ k ih =>
      intro u hu
      by_cases h : u < 10
      · rw [Go.Lib.nDigits_small h]; omega
      · rw [Go.Lib.nDigits_big h]
        have := ih (u / 10) (by rw [Nat.pow_succ] at hu; omega)
        omega
  exact hd 19 u (by omega)
end Go.Proofs.YthcikkjjegfblacDoor.Lib
