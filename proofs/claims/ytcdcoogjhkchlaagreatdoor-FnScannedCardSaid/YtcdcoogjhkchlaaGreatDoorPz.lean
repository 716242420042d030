-- Written by the program wip/myprint.py of this session, over the kit's print of the translation. Lean checks it.
import Derived.Test.YtcdcoogjhkchlaaGreatDoorPx0
namespace Go.Proofs.YtcdcoogjhkchlaaGreatDoor.P
open Go.RowKit Go.Proofs.YtcdcoogjhkchlaaGreatDoorW.PrintWords Go.Proofs.YtcdcoogjhkchlaaGreatDoorW.PrintLast Go.Proofs.YtcdcoogjhkchlaaGreatDoorW.PrintMore
attribute [local go_sem] max2_int min2_int max_two min_two max_three min_three max_four min_four   -- for this text's walks alone
set_option linter.unusedVariables false
set_option linter.unusedSimpArgs false

/-! ### errors_New: function 20 -/
def errors_New.f (a0 : ByteArray) : Option (Option Int) := none
set_option maxHeartbeats 8000000 in
set_option maxRecDepth 100000 in
theorem errors_New.calls (a0 : ByteArray) (r : Option Int) (w : World) (h : errors_New.f a0 = some r) :
    Calls Tryz.prog 20 #[.string a0] w fun e w' => e = .returned (errW r) ∧ Below w.heap.size w w' := by
  have hu75 := Tryz.underlying75
  have hu40 := Tryz.underlying40
  have HB := Aside0.mk (Below.refl w.heap.size w)
  have H : (none) = some r := h
  clear h
  exact absurd H (by simp)

/-! ### pq_zzBegins: function 43 -/
def pq_zzBegins.f (l0 : List Int) (l1 : List Int) : Option (Bool) := none
theorem pq_zzBegins.calls (A0 : Option Addr) (c0 : Nat) (l0 : List Int) (A1 : Option Addr) (c1 : Nat) (l1 : List Int) (r : Bool) (w : World) (hr0 : Kd.C (Kd.int .u8) w A0 l0.length l0) (hc0 : l0.length ≤ c0) (hr1 : Kd.C (Kd.int .u8) w A1 l1.length l1) (hc1 : l1.length ≤ c1) (h : pq_zzBegins.f l0 l1 = some r) :
    Calls Tryz.prog 43 #[.slice A0 l0.length c0, .slice A1 l1.length c1] w fun e w' => e = .returned (.bool r) ∧ Drawn0 w w' := by
  unfold pq_zzBegins.f at h; cases h
theorem one_str {x d : Int} (hx : 0 ≤ x ∧ x < 256) (hd : 0 ≤ d ∧ d < 256) : ((strOfNums [x]).toList == (strOfNums [d]).toList) = decide (x = d) := by
  rw [ByteArray.toList_eq, ByteArray.toList_eq, strOfNums_data, strOfNums_data]
  simp only [List.map_cons, List.map_nil]
  by_cases h : x = d
  · subst h; simp
  · have : UInt8.ofNat x.toNat ≠ UInt8.ofNat d.toNat := by
      intro e
      have := congrArg UInt8.toNat e
      simp only [UInt8.toNat_ofNat'] at this
      omega
    simp [h, this]
set_option maxHeartbeats 1000000 in
set_option maxRecDepth 100000 in
theorem pq_zzBegins.one (ad : Addr) (m c0 : Nat) (x : Int) (t : List Int) (Ad : Option Addr) (cd : Nat) (d : Int) (w : World) (hm : m = t.length + 1) (hr : Kd.C (Kd.int .u8) w (some ad) m (x :: t)) (hc : m ≤ c0) (hrd : Kd.C (Kd.int .u8) w Ad 1 [d]) (hcd : 1 ≤ cd) (hx : 0 ≤ x ∧ x < 256) (hd : 0 ≤ d ∧ d < 256) :
    Calls Tryz.prog 43 #[.slice (some ad) m c0, .slice Ad 1 cd] w fun e w' => e = .returned (.bool (decide (x = d))) ∧ Drawn0 w w' := by
  have hr' : Kd.C (Kd.int .u8) w (some ad) (x :: t).length (x :: t) := by rw [hm] at hr; exact hr
  have ht : Kd.C (Kd.int .u8) w (some ad) 1 [x] := Kd.C_take (m := 1) hr' (by simp)
  clear hr'
  have hcv1 := fun (c_ : Nat) (nq : Nat) => Kd.C_string (P := Tryz.prog) (c := c_) Tryz.underlying58 Tryz.underlying5 Tryz.underlying9 (Kd.C_drewN ht nq)
  have hcv2 := fun (c_ : Nat) (nq : Nat) => Kd.C_string (P := Tryz.prog) (c := c_) Tryz.underlying58 Tryz.underlying5 Tryz.underlying9 (Kd.C_drewN hrd nq)
  have hcv3 := fun (c_ : Nat) => Kd.C_string (P := Tryz.prog) (c := c_) Tryz.underlying58 Tryz.underlying5 Tryz.underlying9 ht
  have hcv4 := fun (c_ : Nat) => Kd.C_string (P := Tryz.prog) (c := c_) Tryz.underlying58 Tryz.underlying5 Tryz.underlying9 hrd
  have h1 : decide ((1 : Int) ≤ (m : Int)) = true := decide_eq_true (by omega)
  have h2 : ((1 : Int) ≤ (m : Int)) = True := eq_true (by omega)
  have h3 : ((m : Int) < 1) = False := eq_false (by omega)
  have h4 : ((1 : Int) ≤ (c0 : Int)) = True := eq_true (by omega)
  have h5 : (1 ≤ m) = True := eq_true (by omega)
  have h6 : (1 ≤ c0) = True := eq_true (by omega)
  have ho := one_str hx hd
  have HO := Aside0.mk ho
  obtain ⟨s1, e1⟩ : ∃ s1, s1 = strOfNums [x] := ⟨_, rfl⟩
  obtain ⟨s2, e2⟩ : ∃ s2, s2 = strOfNums [d] := ⟨_, rfl⟩
  rw [← e1] at hcv1 hcv3
  rw [← e2] at hcv2 hcv4
  have E1 := Aside0.mk e1
  have E2 := Aside0.mk e2
  clear hm hr hc hrd hcd hx hd ht ho e1 e2
  go_enter Tryz.func43, Tryz.ntmps43
  go_wp2
  go_quiet (fail)
  go_wp2
  go_ret
  exact ⟨by rw [← HO.out, ← E1.out, ← E2.out]; rfl, by first | exact Drawn0.refl _ | exact ⟨⟨_, rfl⟩⟩⟩

end Go.Proofs.YtcdcoogjhkchlaaGreatDoor.P
