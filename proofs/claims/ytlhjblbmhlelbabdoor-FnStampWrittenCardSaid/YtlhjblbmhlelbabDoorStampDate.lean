/- date, stampOf, Stamp.time and AddDate of a right date and time. Conditions: the ranges that each lemma names. -/
import Derived.Test.YtlhjblbmhlelbabDoorPx5
import Derived.Test.YtlhjblbmhlelbabDoorStampCal
namespace Go.Proofs.YtlhjblbmhlelbabDoor.Lib
open Go.RowKit Go.Proofs.YtlhjblbmhlelbabDoor.P Go.Proofs.YtlhjblbmhlelbabDoorW.PrintWords Go.Proofs.YtlhjblbmhlelbabDoorW.PrintLast Go.Proofs.YtlhjblbmhlelbabDoorW.PrintMore
set_option linter.unusedVariables false
set_option linter.unusedSimpArgs false
theorem td {a b : Int} (h0 : 0 ≤ a) (h1 : a ≤ 9223372036854775807) (hb : 0 < b) : wrap64 (Int.tdiv a b) = a / b := by
  have h2 : 0 ≤ a / b := Int.ediv_nonneg h0 (by omega)
  have h3 : a / b ≤ a := Int.ediv_le_self b h0
  rw [Int.tdiv_eq_ediv_of_nonneg h0, wrap64_id (by omega) (by omega)]
set_option maxRecDepth 20000 in
/-- The date out of the days since the year 0's March. -/
theorem date_j1 (y m d z x9 t : Int) (b : Bool) (hy : -4800 ≤ y ∧ y ≤ 299000) (m1 : 1 ≤ m) (m2 : m ≤ 12) (d1 : 1 ≤ d) (d2 : d ≤ Cal.daysIn y m) (hz : z = Cal.daysOf y m + d - 1 + 719468) (he : (if b = true then x9 - 1 else x9) = z / 146097) (k : Nat) :
    zztime_Time_date.j1 (k + 1) z t x9 b = some (y, m, d, t) := by
  have hb := daysOf_bd y m hy ⟨m1, m2⟩
  have h31 := daysIn_bd y m
  obtain ⟨era, hera⟩ : ∃ era, era = z / 146097 := ⟨_, rfl⟩
  obtain ⟨doe, hdoe⟩ : ∃ doe, doe = z - era * 146097 := ⟨_, rfl⟩
  obtain ⟨ys, hys⟩ : ∃ ys, ys = (doe - doe / 1460 + doe / 36524 - doe / 146096) / 365 := ⟨_, rfl⟩
  obtain ⟨doy, hdoy⟩ : ∃ doy, doy = doe - (ys * 365 + ys / 4 - ys / 100) := ⟨_, rfl⟩
  obtain ⟨part, hpart⟩ : ∃ part, part = (5 * doy + 2) / 153 := ⟨_, rfl⟩
  obtain ⟨c1, c2, c3, c4, c5, c6, c7, c8, c9, c10, c11⟩ := Cal.back y m d m1 m2 d1 d2 z era doe ys doy part hz hera hdoe hys hdoy hpart
  have hEb : -20 ≤ era ∧ era ≤ 760 := by omega
  have g0 : wrap64 (era * 146097) = era * 146097 := wrap64_id (by omega) (by omega)
  have g1 : wrap64 (z - era * 146097) = doe := by rw [wrap64_id (by omega) (by omega)]; exact hdoe.symm
  have g2 : wrap64 (Int.tdiv doe 1460) = doe / 1460 := td c1 (by omega) (by decide)
  have g3 : wrap64 (Int.tdiv doe 36524) = doe / 36524 := td c1 (by omega) (by decide)
  have g4 : wrap64 (Int.tdiv doe 146096) = doe / 146096 := td c1 (by omega) (by decide)
  have g5 : wrap64 (doe - doe / 1460) = doe - doe / 1460 := wrap64_id (by omega) (by omega)
  have g6 : wrap64 (doe - doe / 1460 + doe / 36524) = doe - doe / 1460 + doe / 36524 := wrap64_id (by omega) (by omega)
  have g7 : wrap64 (doe - doe / 1460 + doe / 36524 - doe / 146096) = doe - doe / 1460 + doe / 36524 - doe / 146096 := wrap64_id (by omega) (by omega)
  have g8 : wrap64 (Int.tdiv (doe - doe / 1460 + doe / 36524 - doe / 146096) 365) = ys := by rw [td (by omega) (by omega) (by decide)]; exact hys.symm
  have g9 : wrap64 (ys * 365) = ys * 365 := wrap64_id (by omega) (by omega)
  have g10 : wrap64 (Int.tdiv ys 4) = ys / 4 := td c3 (by omega) (by decide)
  have g11 : wrap64 (Int.tdiv ys 100) = ys / 100 := td c3 (by omega) (by decide)
  have g12 : wrap64 (ys * 365 + ys / 4) = ys * 365 + ys / 4 := wrap64_id (by omega) (by omega)
  have g13 : wrap64 (ys * 365 + ys / 4 - ys / 100) = ys * 365 + ys / 4 - ys / 100 := wrap64_id (by omega) (by omega)
  have g14 : wrap64 (doe - (ys * 365 + ys / 4 - ys / 100)) = doy := by rw [wrap64_id (by omega) (by omega)]; exact hdoy.symm
  have g15 : wrap64 (5 * doy) = 5 * doy := wrap64_id (by omega) (by omega)
  have g16 : wrap64 (5 * doy + 2) = 5 * doy + 2 := wrap64_id (by omega) (by omega)
  have g17 : wrap64 (Int.tdiv (5 * doy + 2) 153) = part := by rw [td (by omega) (by omega) (by decide)]; exact hpart.symm
  have g18 : wrap64 (153 * part) = 153 * part := wrap64_id (by omega) (by omega)
  have g19 : wrap64 (153 * part + 2) = 153 * part + 2 := wrap64_id (by omega) (by omega)
  have g20 : wrap64 (Int.tdiv (153 * part + 2) 5) = (153 * part + 2) / 5 := td (by omega) (by omega) (by decide)
  have g21 : wrap64 (doy - (153 * part + 2) / 5) = doy - (153 * part + 2) / 5 := wrap64_id (by omega) (by omega)
  have g22 : wrap64 (doy - (153 * part + 2) / 5 + 1) = d := by rw [wrap64_id (by omega) (by omega)]; exact c9
  have g23 : wrap64 (part + 3) = part + 3 := wrap64_id (by omega) (by omega)
  have g24 : wrap64 (era * 400) = era * 400 := wrap64_id (by omega) (by omega)
  have g25 : wrap64 (ys + era * 400) = ys + era * 400 := wrap64_id (by omega) (by omega)
  have g26 : wrap64 (part + 3 - 12) = part + 3 - 12 := wrap64_id (by omega) (by omega)
  have g27 : wrap64 (ys + era * 400 + 1) = ys + era * 400 + 1 := wrap64_id (by omega) (by omega)
  rw [zztime_Time_date.j1.eq_2]
  cases b with
  | true =>
    have e9 : wrap64 (x9 - 1) = era := by rw [_root_.if_pos rfl] at he; rw [wrap64_id (by omega) (by omega)]; omega
    rw [_root_.if_pos rfl]
    simp only [e9, g0, g1, g2, g3, g4, g5, g6, g7, g8, g9, g10, g11, g12, g13, g14, g15, g16, g17, g18, g19, g20, g21, g22, g23, g24, g25, g26, g27]
    by_cases h : part + 3 > 12
    · rw [_root_.if_pos h] at c10 c11 ⊢; rw [c10, c11]
    · rw [_root_.if_neg h] at c10 c11 ⊢; rw [c10, c11]
  | false =>
    have e9 : x9 = era := by rw [_root_.if_neg (by decide)] at he; omega
    rw [_root_.if_neg (by decide), e9]
    simp only [g0, g1, g2, g3, g4, g5, g6, g7, g8, g9, g10, g11, g12, g13, g14, g15, g16, g17, g18, g19, g20, g21, g22, g23, g24, g25, g26, g27]
    by_cases h : part + 3 > 12
    · rw [_root_.if_pos h] at c10 c11 ⊢; rw [c10, c11]
    · rw [_root_.if_neg h] at c10 c11 ⊢; rw [c10, c11]
/-- date. -/
theorem date_f (y m d t n o s : Int) (hy : -4800 ≤ y ∧ y ≤ 299000) (m1 : 1 ≤ m) (m2 : m ≤ 12) (d1 : 1 ≤ d) (d2 : d ≤ Cal.daysIn y m) (ht : 0 ≤ t ∧ t < 86400) (ho : -57599 ≤ o ∧ o ≤ 57599) (hs : s = (Cal.daysOf y m + d - 1) * 86400 + t - o) :
    Ev (fun k => zztime_Time_date.f k s n o) (y, m, d, t) := by
  have hb := daysOf_bd y m hy ⟨m1, m2⟩
  have h31 := daysIn_bd y m
  obtain ⟨D, hD⟩ : ∃ D, D = Cal.daysOf y m + d - 1 := ⟨_, rfl⟩
  rw [← hD] at hs
  have e0 : wrap64 (s + o) = D * 86400 + t := by rw [wrap64_id (by omega) (by omega)]; omega
  have core : Ev (fun k => zztime_Time_date.j0 k D t) (y, m, d, t) := by
    refine Ev.step (fun k => zztime_Time_date.j0.eq_2 _ _ _) ?_
    have ez : wrap64 (D + 719468) = D + 719468 := wrap64_id (by omega) (by omega)
    rw [ez]
    obtain ⟨z, hz⟩ : ∃ z, z = D + 719468 := ⟨_, rfl⟩
    rw [← hz]
    have hz2 : z = Cal.daysOf y m + d - 1 + 719468 := by omega
    have fin : ∀ (x9 : Int) (b : Bool), (if b = true then x9 - 1 else x9) = z / 146097 → Ev (fun k => zztime_Time_date.j1 k z t x9 b) (y, m, d, t) := fun x9 b h =>
      ⟨1, fun k hk => by
        obtain ⟨j, rfl⟩ := Nat.exists_eq_add_of_le' hk
        exact date_j1 y m d z x9 t b hy m1 m2 d1 d2 hz2 h j⟩
    by_cases h : z < 0
    · obtain ⟨t1, t2⟩ := tmod_neg (b := 146097) h (by decide)
      refine Ev.if_pos h (fin _ _ ?_)
      rw [t2]
      by_cases h4 : z % 146097 = 0
      · rw [_root_.if_pos h4, t1.2 h4, wrap64_id (by omega) (by omega)]; rfl
      · rw [_root_.if_neg h4, bne_iff_ne.2 (fun e => h4 (t1.1 e)), _root_.if_pos rfl, wrap64_id (by omega) (by omega)]; omega
    · refine Ev.if_neg h (fin _ _ ?_)
      rw [_root_.if_neg (by decide), td (by omega) (by omega) (by decide)]
  unfold zztime_Time_date.f
  rw [e0]
  by_cases h : D * 86400 + t < 0
  · obtain ⟨t1, t2⟩ := tmod_neg (b := 86400) h (by decide)
    have h5 : (D * 86400 + t) % 86400 = t := by omega
    have h6 : (D * 86400 + t) / 86400 = D := by omega
    rw [h5, h6] at t2
    rw [h5] at t1
    by_cases h0 : t = 0
    · rw [_root_.if_pos h0] at t2
      refine Ev.if_neg (by rw [t1.2 h0]; omega) ?_
      rw [t2, t1.2 h0, wrap64_id (by omega) (by omega), ← h0]
      exact core
    · rw [_root_.if_neg h0] at t2
      have h7 : Int.tmod (D * 86400 + t) 86400 = t - 86400 := by
        have := Int.tmod_def (D * 86400 + t) 86400
        rw [this, t2]; omega
      refine Ev.if_pos (by rw [h7]; omega) ?_
      rw [t2, h7, wrap64_id (n := D + 1) (by omega) (by omega), wrap64_id (by omega) (by omega), wrap64_id (by omega) (by omega)]
      rw [show D + 1 - 1 = D by omega, show t - 86400 + 86400 = t by omega]
      exact core
  · have h7 : Int.tmod (D * 86400 + t) 86400 = t := by rw [Int.tmod_eq_emod_of_nonneg (by omega)]; omega
    have h8 : Int.tdiv (D * 86400 + t) 86400 = D := by rw [Int.tdiv_eq_ediv_of_nonneg (by omega)]; omega
    refine Ev.if_neg (by rw [h7]; omega) ?_
    rw [h7, h8, wrap64_id (by omega) (by omega)]
    exact core
/-- The seconds of a date and time. -/
def secs (y m d t o : Int) : Int := (Cal.daysOf y m + d - 1) * 86400 + t - o
/-- A right date and time. -/
structure Right (y m d h mi s ns o : Int) : Prop where
  ry : -4711 ≤ y ∧ y ≤ 290000
  rm : 1 ≤ m ∧ m ≤ 12
  rd : 1 ≤ d ∧ d ≤ Cal.daysIn y m
  rh : 0 ≤ h ∧ h < 24
  rmi : 0 ≤ mi ∧ mi < 60
  rs : 0 ≤ s ∧ s < 60
  rns : 0 ≤ ns ∧ ns < 1000000000
  ro : -57599 ≤ o ∧ o ≤ 57599
theorem stamp_of {y m d h mi s ns o : Int} (H : Right y m d h mi s ns o) : Ev (fun k => pq_stampOf.f k (secs y m d (h * 3600 + mi * 60 + s) o) ns o) (y, m, d, h, mi, s, ns, o) := by
  obtain ⟨hy, hm, hd, hh, hmi, hs, hns, ho⟩ := H
  have hD := date_f y m d (h * 3600 + mi * 60 + s) ns o (secs y m d (h * 3600 + mi * 60 + s) o) (by omega) hm.1 hm.2 hd.1 hd.2 (by omega) ho rfl
  have t0 : 0 ≤ h * 3600 + mi * 60 + s := by omega
  have e1 : wrap64 (Int.tdiv (h * 3600 + mi * 60 + s) 3600) = h := by rw [td t0 (by omega) (by decide)]; omega
  have e2 : Int.tmod (wrap64 (Int.tdiv (h * 3600 + mi * 60 + s) 60)) 60 = mi := by rw [td t0 (by omega) (by decide), Int.tmod_eq_emod_of_nonneg (by omega)]; omega
  have e3 : Int.tmod (h * 3600 + mi * 60 + s) 60 = s := by rw [Int.tmod_eq_emod_of_nonneg t0]; omega
  unfold pq_stampOf.f zztime_Time_Zone.f zztime_Time_Year.f zztime_Time_Month.f zztime_Time_Day.f zztime_Time_Hour.f zztime_Time_Minute.f zztime_Time_Second.f zztime_Time_Nanosecond.f
  exact Ev.bind (Ev.now _) <| Ev.bind (Ev.bind hD (Ev.now _)) <| Ev.bind (Ev.bind hD (Ev.now _)) <| Ev.bind (Ev.bind hD (Ev.now _)) <| Ev.bind (a := h) (Ev.bind hD (Ev.const (by show some (wrap64 (Int.tdiv (h * 3600 + mi * 60 + s) 3600)) = some h; rw [e1]))) <| Ev.bind (a := mi) (Ev.bind hD (Ev.const (by show some (Int.tmod (wrap64 (Int.tdiv (h * 3600 + mi * 60 + s) 60)) 60) = some mi; rw [e2]))) <| Ev.bind (a := s) (Ev.bind hD (Ev.const (by show some (Int.tmod (h * 3600 + mi * 60 + s) 60) = some s; rw [e3]))) <| Ev.bind (Ev.now _) <| Ev.now _
/-- Stamp.time. -/
theorem stamp_time {y m d h mi s ns o : Int} (H : Right y m d h mi s ns o) : Ev (fun k => pq_Stamp_time.f k y m d h mi s ns o) (secs y m d (h * 3600 + mi * 60 + s) o, ns, o, true) := by
  have hst := stamp_of H
  obtain ⟨hy, hm, hd, hh, hmi, hs, hns, ho⟩ := H
  have h31 := daysIn_bd y m
  have hD := date_at y m d h mi s ns o (by omega) hm ⟨hd.1, by omega⟩ hh.1 hmi.1 hs.1 (by omega) hns ho
  unfold pq_Stamp_time.f
  refine Ev.bind (Ev.const hD) <| Ev.bind hst <| Ev.const ?_
  simp only [beq_self_eq_true, Bool.and_self]
  rfl
/-- AddDate of so many years that the year is the one wanted. -/
theorem add_date {y m d t ns o : Int} (y2 : Int) (hy : -4711 ≤ y ∧ y ≤ 290000) (hy2 : -4711 ≤ y2 ∧ y2 ≤ 290000) (hm : 1 ≤ m ∧ m ≤ 12) (hd : 1 ≤ d ∧ d ≤ Cal.daysIn y m) (ht : 0 ≤ t ∧ t < 86400) (hns : 0 ≤ ns ∧ ns < 1000000000) (ho : -57599 ≤ o ∧ o ≤ 57599) :
    Ev (fun k => zztime_Time_AddDate.f k (secs y m d t o) ns o (y2 - y) 0 0) (secs y2 m d t o, ns, o) := by
  have h31 := daysIn_bd y m
  have hD := date_f y m d t ns o (secs y m d t o) (by omega) hm.1 hm.2 hd.1 hd.2 ht ho rfl
  have hA := date_at y2 m d 0 0 t ns o (by omega) hm ⟨hd.1, by omega⟩ (by decide) (by decide) ht.1 (by omega) hns ho
  unfold zztime_Time_AddDate.f
  refine Ev.bind hD ?_
  simp only []
  rw [show y + (y2 - y) = y2 by omega, Int.add_zero, Int.add_zero, wrap64_id (n := y2) (by omega) (by omega), wrap64_id (n := m) (by omega) (by omega), wrap64_id (n := d) (by omega) (by omega)]
  refine Ev.bind (Ev.const hA) <| Ev.const ?_
  unfold secs
  simp
end Go.Proofs.YtlhjblbmhlelbabDoor.Lib
