/- The calendar: what Date, date and AddDate tell of a right date and time. Conditions: the ranges that each lemma names. -/
import Derived.Test.YtlhjblbmhlelbabDoorPx6
import Derived.Test.YtlhjblbmhlelbabDoorLib
namespace Go.Proofs.YtlhjblbmhlelbabDoor.Lib
open Go.RowKit Go.Proofs.YtlhjblbmhlelbabDoor.P Go.Proofs.YtlhjblbmhlelbabDoorW.PrintWords Go.Proofs.YtlhjblbmhlelbabDoorW.PrintLast Go.Proofs.YtlhjblbmhlelbabDoorW.PrintMore
set_option linter.unusedVariables false
set_option linter.unusedSimpArgs false
namespace Cal
def chk1 (of doy : Nat) : Bool :=
  let doe := 365 * of + of / 4 - of / 100 + doy
  Nat.beq ((doe - doe / 1460 + doe / 36524 - doe / 146096) / 365) of
def chkRow (of : Nat) : Nat → Bool
  | 0 => true
  | n + 1 => chk1 of n && chkRow of n
def chk : Nat → Bool
  | 0 => true
  | n + 1 => chkRow n 365 && (((n + 1) % 4 != 0) || (((n + 1) % 100 == 0) && ((n + 1) % 400 != 0)) || chk1 n 365) && chk n
set_option maxRecDepth 10000 in
theorem chk_true : chk 400 = true := by decide +kernel
theorem chkRow_at {of : Nat} : ∀ {n : Nat}, chkRow of n = true → ∀ k, k < n → chk1 of k = true
  | 0, _, k, h => absurd h (by omega)
  | n + 1, h, k, hk => by
    simp only [chkRow, Bool.and_eq_true] at h
    by_cases e : k = n
    · subst e; exact h.1
    · exact chkRow_at h.2 k (by omega)
theorem chk_at : ∀ {n : Nat}, chk n = true → ∀ of, of < n → ∀ doy, doy ≤ 365 → (doy = 365 → (of + 1) % 4 = 0 ∧ ((of + 1) % 100 ≠ 0 ∨ (of + 1) % 400 = 0)) → chk1 of doy = true
  | 0, _, k, h, _, _, _ => absurd h (by omega)
  | n + 1, h, of, ho, doy, hd, hl => by
    simp only [chk, Bool.and_eq_true] at h
    obtain ⟨⟨h1, h2⟩, h3⟩ := h
    by_cases e : of = n
    · subst e
      by_cases e2 : doy = 365
      · subst e2
        have := hl rfl
        simp only [Bool.or_eq_true, Bool.and_eq_true, bne_iff_ne, beq_iff_eq] at h2
        rcases h2 with (h2 | h2) | h2
        · omega
        · omega
        · exact h2
      · exact chkRow_at h1 doy (by omega)
    · exact chk_at h3 of (by omega) doy hd hl
/-- The year of the era (from March on) out of the day of the era. -/
theorem yoe (of doy : Int) (h0 : 0 ≤ of) (h1 : of < 400) (h2 : 0 ≤ doy) (h3 : doy ≤ 365) (hl : doy = 365 → (of + 1) % 4 = 0 ∧ ((of + 1) % 100 ≠ 0 ∨ (of + 1) % 400 = 0)) (doe : Int) (hd : doe = of * 365 + of / 4 - of / 100 + doy) :
    (doe - doe / 1460 + doe / 36524 - doe / 146096) / 365 = of := by
  obtain ⟨a, rfl⟩ := Int.eq_ofNat_of_zero_le h0
  obtain ⟨b, rfl⟩ := Int.eq_ofNat_of_zero_le h2
  have h := chk_at chk_true a (by omega) b (by omega) (fun e => by have := hl (by omega); omega)
  have h' := Nat.eq_of_beq_eq_true h
  subst hd
  have hle : (365 * a + a / 4 - a / 100 + b) / 1460 ≤ 365 * a + a / 4 - a / 100 + b := Nat.div_le_self _ _
  omega
def leap (y : Int) : Prop := y % 4 = 0 ∧ (y % 100 ≠ 0 ∨ y % 400 = 0)
instance (y : Int) : Decidable (leap y) := by unfold leap; infer_instance
def daysIn (y m : Int) : Int := if m = 4 ∨ m = 6 ∨ m = 9 ∨ m = 11 then 30 else if m = 2 then if leap y then 29 else 28 else 31
/-- Days from 1970-01-01 to the first day of a month. -/
def daysOf (y m : Int) : Int :=
  let Y := if m ≤ 2 then y - 1 else y
  let M := if m ≤ 2 then m + 12 else m
  (Y / 400) * 146097 + (Y % 400) * 365 + (Y % 400) / 4 - (Y % 400) / 100 + (153 * (M - 3) + 2) / 5 - 719468
theorem back (y m d : Int) (m1 : 1 ≤ m) (m2 : m ≤ 12) (d1 : 1 ≤ d) (d2 : d ≤ daysIn y m) (z era doe years doy part : Int)
    (hz : z = daysOf y m + d - 1 + 719468) (he : era = z / 146097) (hdoe : doe = z - era * 146097) (hy : years = (doe - doe / 1460 + doe / 36524 - doe / 146096) / 365)
    (hdy : doy = doe - (years * 365 + years / 4 - years / 100)) (hp : part = (5 * doy + 2) / 153) :
    0 ≤ doe ∧ doe ≤ 146096 ∧ 0 ≤ years ∧ years ≤ 399 ∧ 0 ≤ doy ∧ doy ≤ 365 ∧ 0 ≤ part ∧ part ≤ 11 ∧
    doy - (153 * part + 2) / 5 + 1 = d ∧ (if part + 3 > 12 then part + 3 - 12 else part + 3) = m ∧ (if part + 3 > 12 then years + era * 400 + 1 else years + era * 400) = y := by
  obtain ⟨Y, hY⟩ : ∃ Y, Y = if m ≤ 2 then y - 1 else y := ⟨_, rfl⟩
  obtain ⟨M, hM⟩ : ∃ M, M = if m ≤ 2 then m + 12 else m := ⟨_, rfl⟩
  obtain ⟨D, hD⟩ : ∃ D, D = (153 * (M - 3) + 2) / 5 + d - 1 := ⟨_, rfl⟩
  obtain ⟨of, hof⟩ : ∃ of, of = Y % 400 := ⟨_, rfl⟩
  obtain ⟨e, hee⟩ : ∃ e, e = Y / 400 := ⟨_, rfl⟩
  have hYe : Y = 400 * e + of := by omega
  have of0 : 0 ≤ of ∧ of < 400 := by omega
  have M3 : 3 ≤ M ∧ M ≤ 14 := by split at hM <;> omega
  have hDb : 0 ≤ D ∧ D ≤ 365 ∧ (D = 365 → (of + 1) % 4 = 0 ∧ ((of + 1) % 100 ≠ 0 ∨ (of + 1) % 400 = 0)) ∧ (5 * D + 2) / 153 = M - 3 := by
    unfold daysIn at d2
    split at hM
    · split at hY
      · have : m = 1 ∨ m = 2 := by omega
        rcases this with rfl | rfl
        · rw [if_neg (by omega), if_neg (by omega)] at d2
          omega
        · rw [if_neg (by omega), if_pos rfl] at d2
          by_cases hl : leap y
          · rw [if_pos hl] at d2; unfold leap at hl; omega
          · rw [if_neg hl] at d2; omega
      · omega
    · have : m = 3 ∨ m = 4 ∨ m = 5 ∨ m = 6 ∨ m = 7 ∨ m = 8 ∨ m = 9 ∨ m = 10 ∨ m = 11 ∨ m = 12 := by omega
      rcases this with rfl | rfl | rfl | rfl | rfl | rfl | rfl | rfl | rfl | rfl <;>
        first
        | (rw [if_pos (by omega)] at d2; omega)
        | (rw [if_neg (by omega), if_neg (by omega)] at d2; omega)
  have hz2 : z = e * 146097 + (of * 365 + of / 4 - of / 100 + D) := by
    rw [hz]
    unfold daysOf
    simp only
    rw [← hY, ← hM, ← hof, ← hee]
    omega
  have hera : era = e := by omega
  have hdoe2 : doe = of * 365 + of / 4 - of / 100 + D := by omega
  have hyears : years = of := by rw [hy]; exact yoe of D of0.1 of0.2 hDb.1 hDb.2.1 hDb.2.2.1 doe hdoe2
  have hdoy : doy = D := by rw [hdy, hyears]; omega
  have hpart : part = M - 3 := by rw [hp, hdoy]; exact hDb.2.2.2
  refine ⟨by omega, by omega, by omega, by omega, by omega, by omega, by omega, by omega, by rw [hdoy, hpart]; omega, ?_, ?_⟩
  · split at hM <;> split <;> omega
  · split at hM <;> split at hY <;> split <;> omega
end Cal
theorem norm_f (hi lo base : Int) (h0 : 0 ≤ lo) (hl : lo ≤ 1000000000000) (hh : -1000000000000 ≤ hi ∧ hi ≤ 1000000000000) (hb : 0 < base) (hb2 : base ≤ 1000000000) : zztime_norm.f hi lo base = some (hi + lo / base, lo % base) := by
  have hq : 0 ≤ lo / base := Int.ediv_nonneg h0 (by omega)
  have hq2 : lo / base ≤ lo := Int.ediv_le_self base h0
  have hm : base * (lo / base) + lo % base = lo := Int.mul_ediv_add_emod lo base
  have hr := Int.emod_nonneg lo (show base ≠ 0 by omega)
  have hr2 := Int.emod_lt_of_pos lo hb
  unfold zztime_norm.f
  rw [_root_.if_neg (by omega)]
  by_cases h : lo ≥ base
  · rw [_root_.if_pos h, _root_.if_neg (by omega), Int.tdiv_eq_ediv_of_nonneg h0, wrap64_id (n := lo / base) (by omega) (by omega), wrap64_id (n := hi + lo / base) (by omega) (by omega)]
    have e1 : lo / base * base = lo - lo % base := by rw [Int.mul_comm]; omega
    rw [e1, wrap64_id (n := lo - lo % base) (by omega) (by omega), wrap64_id (by omega) (by omega)]
    rw [show lo - (lo - lo % base) = lo % base by omega]
  · rw [_root_.if_neg h, Int.ediv_eq_zero_of_lt h0 (by omega), Int.emod_eq_of_lt h0 (by omega), Int.add_zero]
def dcore (Y M era : Int) : Int := (wrap64 ((wrap64 ((wrap64 ((wrap64 ((wrap64 ((wrap64 (era * 146097)) + (wrap64 ((wrap64 (Y - (wrap64 (era * 400)))) * 365)))) + (wrap64 (Int.tdiv (wrap64 (Y - (wrap64 (era * 400)))) 4)))) - (wrap64 (Int.tdiv (wrap64 (Y - (wrap64 (era * 400)))) 100)))) + (wrap64 (Int.tdiv (wrap64 ((wrap64 (153 * (wrap64 (M - 3)))) + 2)) 5)))) - 719468))
theorem dcore_eq (Y M era : Int) (hY : -5000 ≤ Y ∧ Y ≤ 300000) (hM : 3 ≤ M ∧ M ≤ 14) (he : era = Y / 400) : dcore Y M era = (Y / 400) * 146097 + (Y % 400) * 365 + (Y % 400) / 4 - (Y % 400) / 100 + (153 * (M - 3) + 2) / 5 - 719468 := by
  subst he
  obtain ⟨of, hof⟩ : ∃ of, of = Y % 400 := ⟨_, rfl⟩
  obtain ⟨e, hee⟩ : ∃ e, e = Y / 400 := ⟨_, rfl⟩
  have h1 : Y = 400 * e + of := by omega
  have h2 : 0 ≤ of ∧ of < 400 := by omega
  have h3 : -13 ≤ e ∧ e ≤ 750 := by omega
  rw [← hof, ← hee]
  unfold dcore
  have e1 : wrap64 (e * 400) = e * 400 := wrap64_id (by omega) (by omega)
  have e2 : wrap64 (Y - e * 400) = of := by rw [wrap64_id (by omega) (by omega)]; omega
  have e3 : wrap64 (e * 146097) = e * 146097 := wrap64_id (by omega) (by omega)
  have e4 : wrap64 (of * 365) = of * 365 := wrap64_id (by omega) (by omega)
  have e5 : wrap64 (Int.tdiv of 4) = of / 4 := by rw [Int.tdiv_eq_ediv_of_nonneg h2.1, wrap64_id (by omega) (by omega)]
  have e6 : wrap64 (Int.tdiv of 100) = of / 100 := by rw [Int.tdiv_eq_ediv_of_nonneg h2.1, wrap64_id (by omega) (by omega)]
  have e7 : wrap64 (M - 3) = M - 3 := wrap64_id (by omega) (by omega)
  have e8 : wrap64 (153 * (M - 3)) = 153 * (M - 3) := wrap64_id (by omega) (by omega)
  have e9 : wrap64 (153 * (M - 3) + 2) = 153 * (M - 3) + 2 := wrap64_id (by omega) (by omega)
  have e10 : wrap64 (Int.tdiv (153 * (M - 3) + 2) 5) = (153 * (M - 3) + 2) / 5 := by rw [Int.tdiv_eq_ediv_of_nonneg (by omega), wrap64_id (by omega) (by omega)]
  rw [e1, e2, e3, e4, e5, e6, e7, e8, e9, e10]
  rw [wrap64_id (n := e * 146097 + of * 365) (by omega) (by omega), wrap64_id (n := e * 146097 + of * 365 + of / 4) (by omega) (by omega), wrap64_id (n := e * 146097 + of * 365 + of / 4 - of / 100) (by omega) (by omega), wrap64_id (n := e * 146097 + of * 365 + of / 4 - of / 100 + (153 * (M - 3) + 2) / 5) (by omega) (by omega), wrap64_id (by omega) (by omega)]
theorem tmod_neg {y b : Int} (hy : y < 0) (hb : 0 < b) : (Int.tmod y b = 0 ↔ y % b = 0) ∧ Int.tdiv y b = if y % b = 0 then y / b else y / b + 1 := by
  obtain ⟨n, rfl⟩ : ∃ n, y = -n := ⟨-y, by omega⟩
  have hn : 0 ≤ n := by omega
  rw [Int.neg_tmod, Int.neg_tdiv, Int.tmod_eq_emod_of_nonneg hn, Int.tdiv_eq_ediv_of_nonneg hn]
  have h1 : b * (n / b) + n % b = n := Int.mul_ediv_add_emod n b
  have h2 := Int.emod_nonneg n (show b ≠ 0 by omega)
  have h3 := Int.emod_lt_of_pos n hb
  by_cases h : n % b = 0
  · have e : -n = b * (-(n / b)) := by rw [Int.mul_neg]; omega
    have e1 : (-n) % b = 0 := by rw [e]; exact Int.mul_emod_right _ _
    have e2 : (-n) / b = -(n / b) := by rw [e]; exact Int.mul_ediv_cancel_left _ (by omega)
    rw [e1, e2, _root_.if_pos rfl, h]; exact ⟨by simp, rfl⟩
  · have e : -n = (b - n % b) + b * (-(n / b) - 1) := by rw [Int.mul_sub, Int.mul_neg, Int.mul_one]; omega
    have e1 : (-n) % b = b - n % b := by rw [e, Int.add_mul_emod_self_left]; exact Int.emod_eq_of_lt (by omega) (by omega)
    have e2 : (-n) / b = -(n / b) - 1 := by rw [e, Int.add_mul_ediv_left _ _ (by omega), Int.ediv_eq_zero_of_lt (by omega) (by omega)]; omega
    rw [e1, e2, _root_.if_neg (by omega)]
    exact ⟨⟨fun h => by omega, fun h => by omega⟩, by omega⟩
theorem daysOf_f (y m : Int) (hy : -4800 ≤ y ∧ y ≤ 299000) (hm : 1 ≤ m ∧ m ≤ 12) : zztime_daysOf.f y m = some (Cal.daysOf y m) := by
  have ey : wrap64 (y - 1) = y - 1 := wrap64_id (by omega) (by omega)
  have em : wrap64 (m + 12) = m + 12 := wrap64_id (by omega) (by omega)
  unfold zztime_daysOf.f Cal.daysOf
  simp only [ey, em]
  have cases : ∀ (Y M : Int), (-5000 ≤ Y ∧ Y ≤ 300000) → (3 ≤ M ∧ M ≤ 14) → (if Y < 0 then (if Int.tmod Y 400 = 0 then some (dcore Y M (wrap64 (Int.tdiv Y 400))) else some (dcore Y M (wrap64 (wrap64 (Int.tdiv Y 400) - 1)))) else some (dcore Y M (wrap64 (Int.tdiv Y 400)))) = some ((Y / 400) * 146097 + (Y % 400) * 365 + (Y % 400) / 4 - (Y % 400) / 100 + (153 * (M - 3) + 2) / 5 - 719468) := by
    intro Y M hY hM
    by_cases h : Y < 0
    · rw [_root_.if_pos h]
      obtain ⟨t1, t2⟩ := tmod_neg (b := 400) h (by decide)
      by_cases h4 : Y % 400 = 0
      · rw [_root_.if_pos (t1.2 h4), t2, _root_.if_pos h4, wrap64_id (by omega) (by omega), dcore_eq Y M _ hY hM rfl]
      · rw [_root_.if_neg (fun e => h4 (t1.1 e)), t2, _root_.if_neg h4, wrap64_id (n := Y / 400 + 1) (by omega) (by omega), show Y / 400 + 1 - 1 = Y / 400 by omega, wrap64_id (by omega) (by omega), dcore_eq Y M _ hY hM rfl]
    · rw [_root_.if_neg h, Int.tdiv_eq_ediv_of_nonneg (by omega), wrap64_id (by omega) (by omega), dcore_eq Y M _ hY hM rfl]
  by_cases h2 : m ≤ 2
  · rw [_root_.if_pos h2, _root_.if_pos h2, _root_.if_pos h2]
    exact cases (y - 1) (m + 12) (by omega) (by omega)
  · rw [_root_.if_neg h2, _root_.if_neg h2, _root_.if_neg h2]
    exact cases y m (by omega) (by omega)
theorem daysOf_bd (y m : Int) (hy : -4800 ≤ y ∧ y ≤ 299000) (hm : 1 ≤ m ∧ m ≤ 12) : -2600000 ≤ Cal.daysOf y m ∧ Cal.daysOf y m ≤ 110000000 := by
  unfold Cal.daysOf
  simp only
  split <;> omega
theorem daysIn_bd (y m : Int) : Cal.daysIn y m ≤ 31 := by
  unfold Cal.daysIn
  split
  · decide
  · split
    · split <;> decide
    · decide
/-- Date. -/
theorem date_at (y m d hh mm ss ns o : Int) (hy : -4800 ≤ y ∧ y ≤ 299000) (hm : 1 ≤ m ∧ m ≤ 12) (hd : 1 ≤ d ∧ d ≤ 31) (h0 : 0 ≤ hh) (h1 : 0 ≤ mm) (h2 : 0 ≤ ss) (ht : hh * 3600 + mm * 60 + ss < 86400) (hn : 0 ≤ ns ∧ ns < 1000000000) (ho : -57599 ≤ o ∧ o ≤ 57599) :
    zztime_Date.f y m d hh mm ss ns o = some ((Cal.daysOf y m + d - 1) * 86400 + (hh * 3600 + mm * 60 + ss) - o, ns, o) := by
  have hb := daysOf_bd y m hy hm
  have n1 := norm_f y (m - 1) 12 (by omega) (by omega) (by omega) (by omega) (by omega)
  have n2 := norm_f ss ns 1000000000 (by omega) (by omega) (by omega) (by omega) (by omega)
  have e2 : ns / 1000000000 = 0 := Int.ediv_eq_zero_of_lt hn.1 hn.2
  have e3 : ns % 1000000000 = ns := Int.emod_eq_of_lt hn.1 hn.2
  rw [e2, e3, Int.add_zero] at n2
  have e4 : (m - 1) / 12 = 0 := by omega
  have e5 : (m - 1) % 12 = m - 1 := by omega
  rw [e4, e5, Int.add_zero] at n1
  have n3 := norm_f mm ss 60 (by omega) (by omega) (by omega) (by omega) (by omega)
  have n4 := norm_f hh (mm + ss / 60) 60 (by omega) (by omega) (by omega) (by omega) (by omega)
  have n5 := norm_f d (hh + (mm + ss / 60) / 60) 24 (by omega) (by omega) (by omega) (by omega) (by omega)
  have e6 : (hh + (mm + ss / 60) / 60) / 24 = 0 := by omega
  have e7 : (hh + (mm + ss / 60) / 60) % 24 = hh + (mm + ss / 60) / 60 := by omega
  rw [e6, e7, Int.add_zero] at n5
  have n6 := daysOf_f y m hy hm
  unfold zztime_Date.f
  rw [wrap64_id (n := m - 1) (by omega) (by omega), n1, Option.bind_some, n2, Option.bind_some, n3, Option.bind_some, n4, Option.bind_some, n5, Option.bind_some]
  simp only []
  rw [show m - 1 + 1 = m by omega, wrap64_id (n := m) (by omega) (by omega), n6, Option.bind_some]
  obtain ⟨D, hD⟩ : ∃ D, D = Cal.daysOf y m := ⟨_, rfl⟩
  rw [← hD] at hb ⊢
  obtain ⟨H, hH⟩ : ∃ H, H = hh + (mm + ss / 60) / 60 := ⟨_, rfl⟩
  obtain ⟨M, hM⟩ : ∃ M, M = (mm + ss / 60) % 60 := ⟨_, rfl⟩
  obtain ⟨S, hS⟩ : ∃ S, S = ss % 60 := ⟨_, rfl⟩
  rw [← hH, ← hM, ← hS]
  have hHb : 0 ≤ H ∧ H < 24 := by omega
  have hMb : 0 ≤ M ∧ M < 60 := by omega
  have hSb : 0 ≤ S ∧ S < 60 := by omega
  have hT : H * 3600 + M * 60 + S = hh * 3600 + mm * 60 + ss := by omega
  rw [wrap64_id (n := D + d) (by omega) (by omega), wrap64_id (n := D + d - 1) (by omega) (by omega), wrap64_id (n := (D + d - 1) * 86400) (by omega) (by omega), wrap64_id (n := H * 3600) (by omega) (by omega), wrap64_id (n := M * 60) (by omega) (by omega), wrap64_id (n := (D + d - 1) * 86400 + H * 3600) (by omega) (by omega), wrap64_id (n := (D + d - 1) * 86400 + H * 3600 + M * 60) (by omega) (by omega), wrap64_id (n := (D + d - 1) * 86400 + H * 3600 + M * 60 + S) (by omega) (by omega), wrap64_id (by omega) (by omega)]
  rw [← hT]
  congr 2
  omega
end Go.Proofs.YtlhjblbmhlelbabDoor.Lib
