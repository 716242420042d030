/- FnClock, for every clock: a time of day is read with its fraction, and with its zone, if it has one (not the zone one second west of Greenwich, by the law's own guard).
   Conditions: none beyond the form's own bounds on whole numbers. -/
import Derived.Test.YtlhjblbmhlelbabPx9
import Derived.Test.YtlhjblbmhlelbabClockParse
namespace Go.Proofs.Ytlhjblbmhlelbab.Pure
open Go.RowKit Go.Proofs.Ytlhjblbmhlelbab.P Go.Proofs.YtlhjblbmhlelbabW.PrintWords Go.Proofs.YtlhjblbmhlelbabW.PrintLast Go.Proofs.YtlhjblbmhlelbabW.PrintMore Go.Proofs.Ytlhjblbmhlelbab.Lib
set_option linter.unusedVariables false
set_option linter.unusedSimpArgs false
namespace Clock
theorem j0_read {h m s ns o : Int} (hF : Fields h m s ns) (h1 : o ≠ -1) (f x : ByteArray) {Z : List Int} (hz : Zoned f.size Z o) (H : List Int) (hH : H.length ≤ 9) (hd : ∀ c ∈ H, 48 ≤ c ∧ c ≤ 57) (hv : vl 0 (H ++ List.replicate (9 - H.length) 48) = ns) (hx : bytesOf x = clockText h m s H Z) :
    Ev (fun k => pq_parseTime.j0 k x f) (clockRes h m s ns o) := by
  have hs : 8 ≤ x.size := by rw [piece_size hx, clock_len]; omega
  refine Ev.step (fun k => pq_parseTime.j0.eq_2 _ _ _) <| Ev.bind (Ev.const (no_24 x hF.1 hx hs)) <| Ev.if_neg (by decide) ?_
  exact Ev.step (fun k => pq_parseTime.j1.eq_2 _ _ _ _) <| Ev.bind (parse_read hF h1 f x hz H hH hd hv hx) <| Ev.if_pos rfl <| Ev.if_neg (by decide) <| Ev.now _
/-- The day's number and the second of the day. -/
theorem date_core (k : Nat) (t : Int) : zztime_Time_date.j0 (k + 2) (-719528) t = some (0, 1, 1, t) := by kernel_rfl
theorem date_f {s n o t : Int} (ht : 0 ≤ t ∧ t < 86400) (ho : -57599 ≤ o ∧ o ≤ 57599) (hs : s = -62167219200 + t - o) : Ev (fun k => zztime_Time_date.f k s n o) (0, 1, 1, t) := by
  have e0 : wrap64 (s + o) = -(62167219200 - t) := by rw [wrap64_id (by omega) (by omega)]; omega
  have core : Ev (fun k => zztime_Time_date.j0 k (-719528) t) (0, 1, 1, t) := ⟨2, fun k hk => by
    obtain ⟨j, rfl⟩ := Nat.exists_eq_add_of_le' hk
    exact date_core j t⟩
  have em : Int.tmod (-(62167219200 - t)) 86400 = -((62167219200 - t) % 86400) := by rw [Int.neg_tmod, Int.tmod_eq_emod_of_nonneg (by omega)]
  have ed : Int.tdiv (-(62167219200 - t)) 86400 = -((62167219200 - t) / 86400) := by rw [Int.neg_tdiv, Int.tdiv_eq_ediv_of_nonneg (by omega)]
  unfold zztime_Time_date.f
  rw [e0, em, ed]
  by_cases h0 : t = 0
  · subst h0
    refine Ev.if_neg (by omega) ?_
    rw [show -((62167219200 - 0 : Int) / 86400) = -719528 by omega, show -((62167219200 - 0 : Int) % 86400) = 0 by omega, wrap64_id (by omega) (by omega)]
    exact core
  · refine Ev.if_pos (by omega) ?_
    rw [show -((62167219200 - t) / 86400) = -719527 by omega, show -((62167219200 - t) % 86400) = t - 86400 by omega, wrap64_id (n := -719527) (by omega) (by omega), wrap64_id (by omega) (by omega), wrap64_id (by omega) (by omega)]
    rw [show (-719527 : Int) - 1 = -719528 by omega, show t - 86400 + 86400 = t by omega]
    exact core
theorem stamp {h m s ns o : Int} (hF : Fields h m s ns) (ho : -57599 ≤ o ∧ o ≤ 57599) : Ev (fun k => pq_stampOf.f k (-62167219200 + h * 3600 + m * 60 + s - o) ns o) (0, 1, 1, h, m, s, ns, o) := by
  obtain ⟨a, b, c, d⟩ := hF
  have hD := date_f (s := -62167219200 + h * 3600 + m * 60 + s - o) (n := ns) (o := o) (t := h * 3600 + m * 60 + s) (by omega) ho (by omega)
  have t0 : 0 ≤ h * 3600 + m * 60 + s := by omega
  have e1 : wrap64 (Int.tdiv (h * 3600 + m * 60 + s) 3600) = h := by rw [Int.tdiv_eq_ediv_of_nonneg t0, wrap64_id (by omega) (by omega)]; omega
  have e2 : Int.tmod (wrap64 (Int.tdiv (h * 3600 + m * 60 + s) 60)) 60 = m := by rw [Int.tdiv_eq_ediv_of_nonneg t0, wrap64_id (by omega) (by omega), Int.tmod_eq_emod_of_nonneg (by omega)]; omega
  have e3 : Int.tmod (h * 3600 + m * 60 + s) 60 = s := by rw [Int.tmod_eq_emod_of_nonneg t0]; omega
  unfold pq_stampOf.f zztime_Time_Zone.f zztime_Time_Year.f zztime_Time_Month.f zztime_Time_Day.f zztime_Time_Hour.f zztime_Time_Minute.f zztime_Time_Second.f zztime_Time_Nanosecond.f
  exact Ev.bind (Ev.now _) <| Ev.bind (Ev.bind hD (Ev.now _)) <| Ev.bind (Ev.bind hD (Ev.now _)) <| Ev.bind (Ev.bind hD (Ev.now _)) <| Ev.bind (a := h) (Ev.bind hD (Ev.const (by show some (wrap64 (Int.tdiv (h * 3600 + m * 60 + s) 3600)) = some h; rw [e1]))) <| Ev.bind (a := m) (Ev.bind hD (Ev.const (by show some (Int.tmod (wrap64 (Int.tdiv (h * 3600 + m * 60 + s) 60)) 60) = some m; rw [e2]))) <| Ev.bind (a := s) (Ev.bind hD (Ev.const (by show some (Int.tmod (h * 3600 + m * 60 + s) 60) = some s; rw [e3]))) <| Ev.bind (Ev.now _) <| Ev.now _
theorem read {h m s ns o : Int} (z : Bool) (hF : Fields h m s ns) (ho : -57599 ≤ o ∧ o ≤ 57599) (x : ByteArray) (hs : x.size ≤ 1000000) (hp : Ev (fun k => pq_parseTime.f k (if z = true then 1266 else 1083) (bytesOf x)) (clockRes h m s ns o)) :
    Ev (fun k => impl_ClockRead.f k x z) (0, 1, 1, h, m, s, ns, o, true) := by
  unfold impl_ClockRead.f pq_ParseClock.f
  exact Ev.bind (Ev.bind hp (Ev.bind (stamp hF ho) (Ev.now _))) <| Ev.if_pos ⟨hs, rfl⟩ <| Ev.now _
theorem law (a0 a1 a2 h m s ns o d p : Int) (z : Bool) (hd : 0 ≤ d) (hp : 0 ≤ p) (hd2 : d ≤ 255) (hp2 : p ≤ 255) : Ev (fun k => laws_FnClock.f k a0 a1 a2 h m s ns o d p z) true := by
  have ed : wrap64 (Int.tmod d 10) = d % 10 := by rw [Int.tmod_eq_emod_of_nonneg hd, wrap64_id (by omega) (by omega)]
  have ep : wrap64 (1 + wrap64 (Int.tmod p 3)) = 1 + p % 3 := by rw [Int.tmod_eq_emod_of_nonneg hp, wrap64_id (n := p % 3) (by omega) (by omega), wrap64_id (by omega) (by omega)]
  have tt : ∀ b : Bool, b = true → ∀ o', Ev (fun k => laws_FnClock.j1 k d p z b 0 1 1 h m s ns o') true := fun b hb o' => Ev.step (fun k => laws_FnClock.j1.eq_2 _ _ _ _ _ _ _ _ _ _ _ _ _) <| Ev.if_pos hb <| Ev.now _
  have main : ∀ o', (z = false → o' = 0) → Ev (fun k => laws_FnClock.j0 k d p z 0 1 1 h m s ns o') true := by
    intro o' hz
    have hsr : spec_StampRight.f 0 1 1 h m s ns o' = some (decide (stampOk h m s ns o')) := by unfold spec_StampRight.f; rw [_root_.if_pos ⟨rfl, rfl, rfl⟩]
    refine Ev.step (fun k => laws_FnClock.j0.eq_2 _ _ _ _ _ _ _ _ _ _ _ _) <| Ev.bind (Ev.const hsr) ?_
    by_cases hok : stampOk h m s ns o'
    · refine Ev.if_pos (decide_eq_true hok) ?_
      by_cases hm1 : o' = -1
      · exact tt _ (by rw [hm1]; rfl) o'
      · obtain ⟨k0, k1, k2, k3, k4, k5, k6, k7, k8, k9⟩ := hok
        have hF : Fields h m s ns := ⟨⟨k0, k1⟩, ⟨k2, k3⟩, ⟨k4, k5⟩, ⟨k6, k7⟩⟩
        have eq0 : (o' == -1) = false := beq_eq_false_iff_ne.2 hm1
        rw [eq0]
        obtain ⟨H, r, c1, c2, c3, c4⟩ := time_text 0 1 1 0 h m s ns (d % 10) ⟨k0, k1⟩ ⟨k2, k3⟩ ⟨k4, k5⟩ ⟨k6, k7⟩ (by omega) o'
        have dH : ∀ c ∈ H, 48 ≤ c ∧ c ≤ 57 := fun c hc => dgs_digit 9 ns k6 c (by rw [c2]; exact List.mem_append_left _ hc)
        have vH : vl 0 (H ++ List.replicate (9 - H.length) 48) = ns := by rw [← c2]; exact vl_dgs 9 ns k6 (by show ns < 1000000000; omega)
        have fl : (frac H).length ≤ 10 := by unfold frac; split <;> simp <;> omega
        refine Ev.step (fun k => laws_FnClock.j1.eq_2 _ _ _ _ _ _ _ _ _ _ _ _ _) <| Ev.if_neg (by decide) ?_
        rw [ed]
        refine Ev.bind c4 ?_
        cases z with
        | false =>
          have ho : o' = 0 := hz rfl
          subst ho
          have hx : bytesOf r = clockText h m s H [] := by rw [c3]; unfold clockText frac; simp
          have hs : r.size = 8 + (frac H).length := by rw [piece_size hx, clock_len]; simp
          have hP : Ev (fun k => pq_parseTime.f k (if false = true then 1266 else 1083) (bytesOf r)) (clockRes h m s ns 0) := by
            unfold pq_parseTime.f
            rw [strOfNums_bytesOf]
            exact Ev.if_neg (by decide) <| j0_read hF hm1 _ r (.inl ⟨rfl, rfl, rfl⟩) H c1 dH vH hx
          refine Ev.if_neg (by decide) <| Ev.bind (read false hF ⟨by omega, by omega⟩ r (by omega) hP) <| Ev.if_pos rfl <| Ev.const ?_
          simp
        | true =>
          obtain ⟨q, u, sg, t, u0, u1, hsg, hq, ht, vt⟩ := zone_text o' (1 + p % 3) k8 k9 (by omega)
          have hx : bytesOf (r ++ t) = clockText h m s H (sg :: zparts q u) := by rw [bytesOf_append, c3, ht]; unfold clockText frac; simp
          have zl : (zparts q u).length ≤ 8 := by unfold zparts; rcases hq with ⟨rfl, _⟩ | ⟨rfl, _⟩ | rfl <;> simp [dgs_length]
          have hs : (r ++ t).size = 8 + (frac H ++ sg :: zparts q u).length := by rw [piece_size hx, clock_len]
          rw [List.length_append, List.length_cons] at hs
          have hs2 : (r ++ t).size = r.size + t.size := ByteArray.size_append
          have hcount := count_f (r ++ t) (⟨#[58]⟩ : ByteArray) (by omega) 58 rfl
          rw [hx, clock_count hF H _ dH, howMany_other _ (by rcases hsg with h | h <;> omega), zparts_count q u u0 hq] at hcount
          have hP : Ev (fun k => pq_parseTime.f k (if true = true then 1266 else 1083) (bytesOf (r ++ t))) (clockRes h m s ns o') := by
            unfold pq_parseTime.f
            rw [strOfNums_bytesOf]
            refine Ev.if_pos rfl <| Ev.bind hcount ?_
            rcases hq with ⟨rfl, hu⟩ | ⟨rfl, hu⟩ | rfl
            · exact Ev.if_neg (by omega) <| Ev.if_neg (by omega) <| j0_read hF hm1 _ (r ++ t) (.inr ⟨1, u, sg, rfl, u0, u1, .inl ⟨rfl, hu⟩, rfl, hsg⟩) H c1 dH vH hx
            · exact Ev.if_neg (by omega) <| Ev.if_pos (by omega) <| j0_read hF hm1 _ (r ++ t) (.inr ⟨2, u, sg, rfl, u0, u1, .inr (.inl ⟨rfl, hu⟩), rfl, hsg⟩) H c1 dH vH hx
            · exact Ev.if_pos (by omega) <| j0_read hF hm1 _ (r ++ t) (.inr ⟨3, u, sg, rfl, u0, u1, .inr (.inr rfl), rfl, hsg⟩) H c1 dH vH hx
          refine Ev.if_pos rfl ?_
          rw [ep]
          refine Ev.bind vt <| Ev.if_pos (by omega) <| Ev.bind (read true hF ⟨k8, k9⟩ (r ++ t) (by omega) hP) <| Ev.if_pos rfl <| Ev.const ?_
          simp
    · exact Ev.if_neg (by rw [decide_eq_false hok]; decide) <| tt true rfl o'
  unfold laws_FnClock.f
  cases z with
  | false => exact Ev.if_neg (by decide) <| main 0 (fun _ => rfl)
  | true => exact Ev.if_pos rfl <| main o (fun e => by cases e)
end Clock
theorem FnClock (x : P.S34) (a1 a2 : Int) (a3 : Bool) {G : Prop} (_g0 : G) (w1 : (Lit.int .u8 a1).wf = true) (w2 : (Lit.int .u8 a2).wf = true) : ∃ k, laws_FnClock.f k x.f0 x.f1 x.f2 x.f3 x.f4 x.f5 x.f6 x.f7 a1 a2 a3 = some true := by
  have g1 : 0 ≤ a1 ∧ a1 ≤ 255 := by have := (Bool.and_eq_true _ _).mp w1; exact ⟨of_decide_eq_true this.1, of_decide_eq_true this.2⟩
  have g2 : 0 ≤ a2 ∧ a2 ≤ 255 := by have := (Bool.and_eq_true _ _).mp w2; exact ⟨of_decide_eq_true this.1, of_decide_eq_true this.2⟩
  exact Ev.rounds (Clock.law x.f0 x.f1 x.f2 x.f3 x.f4 x.f5 x.f6 x.f7 a1 a2 a3 g1.1 g2.1 g1.2 g2.2)
end Go.Proofs.Ytlhjblbmhlelbab.Pure
