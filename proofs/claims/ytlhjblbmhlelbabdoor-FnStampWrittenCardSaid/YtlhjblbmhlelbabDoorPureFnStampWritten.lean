/- FnStampWritten, for every date and time: it is written as its date, its time with its fraction, Z or its zone, and BC (not February 29 BC, not west of Greenwich by seconds, by the law's own guard).
   Conditions: none beyond the form's own bounds on whole numbers. -/
import Derived.Test.YtlhjblbmhlelbabDoorPx9
import Derived.Test.YtlhjblbmhlelbabDoorStampText
namespace Go.Proofs.YtlhjblbmhlelbabDoor.P
open Go.RowKit Go.Proofs.YtlhjblbmhlelbabDoorW.PrintWords Go.Proofs.YtlhjblbmhlelbabDoorW.PrintLast Go.Proofs.YtlhjblbmhlelbabDoorW.PrintMore
structure S23 where
  f0 : Int
  f1 : Int
  f2 : Int
  f3 : Int
  f4 : Int
  f5 : Int
  f6 : Int
  f7 : Int
def k23 : Kd S23 := Kd.iso (Kd.pair (Kd.int .i64) (Kd.pair (Kd.int .i64) (Kd.pair (Kd.int .i64) (Kd.pair (Kd.int .i64) (Kd.pair (Kd.int .i64) (Kd.pair (Kd.int .i64) (Kd.pair (Kd.int .i64) (Kd.int .i64)))))))) (fun x : S23 => (x.f0, x.f1, x.f2, x.f3, x.f4, x.f5, x.f6, x.f7))
theorem k23_open {w : World} {x : S23} {cs : List Value} (h : k23.K w x cs) : cs = [.int .i64 x.f0, .int .i64 x.f1, .int .i64 x.f2, .int .i64 x.f3, .int .i64 x.f4, .int .i64 x.f5, .int .i64 x.f6, .int .i64 x.f7] := by
  obtain ⟨_, _, rfl, rfl, ⟨_, _, rfl, rfl, ⟨_, _, rfl, rfl, ⟨_, _, rfl, rfl, ⟨_, _, rfl, rfl, ⟨_, _, rfl, rfl, ⟨_, _, rfl, rfl, rfl⟩⟩⟩⟩⟩⟩⟩ := h
  exact rfl
end Go.Proofs.YtlhjblbmhlelbabDoor.P
namespace Go.Proofs.YtlhjblbmhlelbabDoor.Pure
open Go.RowKit Go.Proofs.YtlhjblbmhlelbabDoor.P Go.Proofs.YtlhjblbmhlelbabDoorW.PrintWords Go.Proofs.YtlhjblbmhlelbabDoorW.PrintLast Go.Proofs.YtlhjblbmhlelbabDoorW.PrintMore Go.Proofs.YtlhjblbmhlelbabDoor.Lib
set_option linter.unusedVariables false
set_option linter.unusedSimpArgs false
namespace StampW
theorem tmod0 (y : Int) {b : Int} (hb : 0 < b) : Int.tmod y b = 0 ↔ y % b = 0 := by
  by_cases h : y < 0
  · exact (tmod_neg h hb).1
  · rw [Int.tmod_eq_emod_of_nonneg (by omega)]
theorem leap_f (y : Int) : spec_Leap.f y = some (decide (Cal.leap y)) := by
  unfold spec_Leap.f
  by_cases h4 : y % 4 = 0
  · rw [_root_.if_pos ((tmod0 y (by decide)).2 h4)]
    by_cases h100 : y % 100 = 0
    · rw [_root_.if_pos ((tmod0 y (by decide)).2 h100)]
      by_cases h400 : y % 400 = 0
      · rw [(tmod0 y (by decide)).2 h400, decide_eq_true (show Cal.leap y from ⟨h4, .inr h400⟩)]; rfl
      · rw [beq_eq_false_iff_ne.2 (fun e => h400 ((tmod0 y (by decide)).1 e)), decide_eq_false (show ¬ Cal.leap y from fun e => by rcases e.2 with h | h <;> omega)]
    · rw [_root_.if_neg (fun e => h100 ((tmod0 y (by decide)).1 e)), decide_eq_true (show Cal.leap y from ⟨h4, .inl h100⟩)]
  · rw [_root_.if_neg (fun e => h4 ((tmod0 y (by decide)).1 e)), decide_eq_false (show ¬ Cal.leap y from fun e => h4 e.1)]
theorem daysIn_ev (y m : Int) : Ev (fun k => spec_DaysIn.f k y m) (Cal.daysIn y m) := by
  have thirty : ∀ b : Bool, b = true → (m = 4 ∨ m = 6 ∨ m = 9 ∨ m = 11) → Ev (fun k => spec_DaysIn.j0 k y m b) (Cal.daysIn y m) := fun b hb hm =>
    Ev.step (fun k => spec_DaysIn.j0.eq_2 _ _ _ _) <| Ev.if_pos hb <| Ev.eq (Ev.now _) (by unfold Cal.daysIn; rw [_root_.if_pos hm])
  unfold spec_DaysIn.f
  by_cases h4 : m = 4
  · exact Ev.if_pos h4 (thirty _ (beq_iff_eq.2 h4) (.inl h4))
  · refine Ev.if_neg h4 ?_
    by_cases h6 : m = 6
    · exact Ev.if_pos h6 (thirty _ (beq_iff_eq.2 h6) (.inr (.inl h6)))
    · refine Ev.if_neg h6 ?_
      by_cases h9 : m = 9
      · exact Ev.if_pos h9 (thirty _ (beq_iff_eq.2 h9) (.inr (.inr (.inl h9))))
      · refine Ev.if_neg h9 ?_
        by_cases h11 : m = 11
        · exact thirty _ (beq_iff_eq.2 h11) (.inr (.inr (.inr h11)))
        · have hn : ¬ (m = 4 ∨ m = 6 ∨ m = 9 ∨ m = 11) := by omega
          rw [beq_eq_false_iff_ne.2 h11]
          refine Ev.step (fun k => spec_DaysIn.j0.eq_2 _ _ _ _) <| Ev.if_neg (by decide) ?_
          by_cases h2 : m = 2
          · have e2 : Cal.daysIn y m = if Cal.leap y then 29 else 28 := by unfold Cal.daysIn; rw [_root_.if_neg hn, _root_.if_pos h2]
            rw [e2]
            refine Ev.if_pos h2 <| Ev.bind (Ev.const (leap_f y)) ?_
            by_cases hl : Cal.leap y
            · exact Ev.if_pos (decide_eq_true hl) (Ev.eq (Ev.now _) (_root_.if_pos hl).symm)
            · exact Ev.if_neg (by rw [decide_eq_false hl]; decide) (Ev.eq (Ev.now _) (_root_.if_neg hl).symm)
          · have e2 : Cal.daysIn y m = 31 := by unfold Cal.daysIn; rw [_root_.if_neg hn, _root_.if_neg h2]
            rw [e2]
            exact Ev.if_neg h2 (Ev.now _)
/-- StampRight tells whether a date and time is right. -/
theorem right_ev (y m d h mi s ns o : Int) : (Ev (fun k => spec_StampRight.f k y m d h mi s ns o) true ∧ Right y m d h mi s ns o) ∨ Ev (fun k => spec_StampRight.f k y m d h mi s ns o) false := by
  unfold spec_StampRight.f
  by_cases h1 : dateOk y m d
  · by_cases h2 : ¬ Cal.daysIn y m < d ∧ stampOk h mi s ns o
    · refine .inl ⟨Ev.if_pos h1 <| Ev.bind (daysIn_ev y m) <| Ev.const (by rw [decide_eq_true h2]), ?_⟩
      obtain ⟨k0, k1, k2, k3, k4⟩ := h1
      obtain ⟨k5, k6, k7, k8, k9, k10, k11, k12, k13, k14, k15⟩ := h2
      exact ⟨⟨by omega, by omega⟩, ⟨by omega, by omega⟩, ⟨by omega, by omega⟩, ⟨k6, k7⟩, ⟨k8, k9⟩, ⟨k10, k11⟩, ⟨k12, k13⟩, ⟨k14, k15⟩⟩
    · exact .inr (Ev.if_pos h1 <| Ev.bind (daysIn_ev y m) <| Ev.const (by rw [decide_eq_false h2]))
  · exact .inr (Ev.if_neg h1 (Ev.now _))
/-- The dates that are written. -/
def Kept (y m d : Int) : Prop := 0 < y ∨ ¬ (m = 2 ∧ d = 29)
theorem writable (y m d h mi s ns o : Int) : (Ev (fun k => laws_writable7.f k y m d h mi s ns o) true ∧ Right y m d h mi s ns o ∧ Kept y m d ∧ ZoneOk o) ∨ Ev (fun k => laws_writable7.f k y m d h mi s ns o) false := by
  unfold laws_writable7.f
  rcases right_ev y m d h mi s ns o with ⟨e, hR⟩ | e
  · have zone : ∀ (K : Kept y m d), (Ev (fun _ => if o ≥ 0 then some true else some (Int.tmod o 60 == 0)) true ∧ Right y m d h mi s ns o ∧ Kept y m d ∧ ZoneOk o) ∨ Ev (fun _ : Nat => if o ≥ 0 then some true else some (Int.tmod o 60 == 0)) false := by
      intro K
      by_cases ho : o ≥ 0
      · exact .inl ⟨Ev.if_pos ho (Ev.now _), hR, K, .inl ho⟩
      · by_cases h6 : Int.tmod o 60 = 0
        · exact .inl ⟨Ev.if_neg ho (Ev.const (by rw [h6]; rfl)), hR, K, .inr h6⟩
        · exact .inr (Ev.if_neg ho (Ev.const (by rw [beq_eq_false_iff_ne.2 h6])))
    by_cases hy : y > 0
    · rcases zone (.inl hy) with ⟨a, b⟩ | a
      · exact .inl ⟨Ev.bind e <| Ev.if_pos rfl <| Ev.if_pos hy a, b⟩
      · exact .inr (Ev.bind e <| Ev.if_pos rfl <| Ev.if_pos hy a)
    · by_cases hm : m = 2
      · by_cases hd : d = 29
        · exact .inr (Ev.bind e <| Ev.if_pos rfl <| Ev.if_neg hy <| Ev.if_pos hm <| Ev.if_pos hd <| Ev.now _)
        · rcases zone (.inr (fun h => hd h.2)) with ⟨a, b⟩ | a
          · exact .inl ⟨Ev.bind e <| Ev.if_pos rfl <| Ev.if_neg hy <| Ev.if_pos hm <| Ev.if_neg hd a, b⟩
          · exact .inr (Ev.bind e <| Ev.if_pos rfl <| Ev.if_neg hy <| Ev.if_pos hm <| Ev.if_neg hd a)
      · rcases zone (.inr (fun h => hm h.1)) with ⟨a, b⟩ | a
        · exact .inl ⟨Ev.bind e <| Ev.if_pos rfl <| Ev.if_neg hy <| Ev.if_neg hm a, b⟩
        · exact .inr (Ev.bind e <| Ev.if_pos rfl <| Ev.if_neg hy <| Ev.if_neg hm a)
  · exact .inr (Ev.bind e <| Ev.if_neg (by decide) <| Ev.now _)
/-- The text up to the zone's minutes. -/
def L (j : Nat) (y m d h mi s o : Int) (H : List Int) : List Int := dateL (j + 1) y m d ++ 32 :: (timeL h mi s H ++ if o = 0 then [90] else zoneL o)
theorem frac_mem {H : List Int} {ns : Int} {n : Nat} (h0 : 0 ≤ ns) (hH : dgs 9 ns = H ++ List.replicate n 48) : ∀ c ∈ H, 0 ≤ c ∧ c ≤ 255 := fun c hc => by
  have := dgs_digit 9 ns h0 c (by rw [hH]; exact List.mem_append_left _ hc)
  omega
theorem dgs_mem {j : Nat} {x : Int} (h0 : 0 ≤ x) : ∀ c ∈ dgs j x, 0 ≤ c ∧ c ≤ 255 := fun c hc => by have := dgs_digit j x h0 c hc; omega
theorem mem_app {l m : List Int} (h1 : ∀ c ∈ l, 0 ≤ c ∧ c ≤ 255) (h2 : ∀ c ∈ m, 0 ≤ c ∧ c ≤ 255) : ∀ c ∈ l ++ m, 0 ≤ c ∧ c ≤ 255 := fun c hc => by
  rcases List.mem_append.1 hc with h | h
  · exact h1 c h
  · exact h2 c h
theorem mem_cons_ {a : Int} {l : List Int} (ha : 0 ≤ a ∧ a ≤ 255) (h : ∀ c ∈ l, 0 ≤ c ∧ c ≤ 255) : ∀ c ∈ a :: l, 0 ≤ c ∧ c ≤ 255 := fun c hc => by
  rcases List.mem_cons.1 hc with h2 | h2
  · rw [h2]; exact ha
  · exact h c h2
theorem L_mem {j : Nat} {y m d h mi s o : Int} {H : List Int} (hy : 0 ≤ y) (hm : 0 ≤ m) (hd : 0 ≤ d) (hh : 0 ≤ h) (hmi : 0 ≤ mi) (hs : 0 ≤ s) (hH : ∀ c ∈ H, 0 ≤ c ∧ c ≤ 255) : ∀ c ∈ L j y m d h mi s o H, 0 ≤ c ∧ c ≤ 255 := by
  unfold L dateL timeL zoneL
  refine mem_app (mem_app (dgs_mem hy) (mem_cons_ (by decide) (mem_app (dgs_mem hm) (mem_cons_ (by decide) (dgs_mem hd))))) (mem_cons_ (by decide) (mem_app (mem_app (dgs_mem hh) (mem_cons_ (by decide) (mem_app (dgs_mem hmi) (mem_cons_ (by decide) (mem_app (dgs_mem hs) ?_))))) ?_))
  · split
    · intro c hc; cases hc
    · exact mem_cons_ (by decide) hH
  · split
    · exact mem_cons_ (by decide) (fun c hc => by cases hc)
    · split
      · exact mem_cons_ (by decide) (mem_app (dgs_mem (by omega)) (mem_cons_ (by decide) (dgs_mem (by omega))))
      · exact mem_cons_ (by decide) (mem_app (dgs_mem (by omega)) (mem_cons_ (by decide) (dgs_mem (by omega))))
theorem L_len {j : Nat} {y m d h mi s o : Int} {H : List Int} (hj : j ≤ 5) (hH : H.length ≤ 9) : (L j y m d h mi s o H).length ≤ 100 := by
  unfold L dateL timeL zoneL
  simp only [List.length_append, List.length_cons, dgs_length]
  repeat' split
  all_goals simp [dgs_length]
  all_goals omega
/-- FormatTimestamp. -/
theorem format_ts {y m d h mi s ns o : Int} (hR : Right y m d h mi s ns o) (hK : Kept y m d) (hz : ZoneOk o) (j : Nat) (hj : j ≤ 5) (yy : Int) (hyy : yy = if y < 1 then 1 - y else y) (hw : yy < p10 (j + 1)) (hW : Wide (j + 1) 4 yy) (H : List Int) (n : Nat) (hH : dgs 9 ns = H ++ List.replicate n 48) (hC : Cut H) (hpos : 0 < ns ↔ H ≠ []) :
    Ev (fun k => pq_FormatTimestamp.f k (secs y m d (h * 3600 + mi * 60 + s) o) ns o) ((L j yy m d h mi s o H ++ zoneRest o) ++ (if decide (y < 1) = true then [32, 66, 67] else [])) := by
  have hl : H.length + n = 9 := by have := dgs_length 9 ns; rw [hH] at this; simpa using this
  have hR0 := hR
  obtain ⟨ry, rm, rd, rh, rmi, rs, rns, ro⟩ := hR
  have h31 := daysIn_bd y m
  have hmem := L_mem (j := j) (y := yy) (m := m) (d := d) (h := h) (mi := mi) (s := s) (o := o) (by split at hyy <;> omega) (by omega) (by omega) rh.1 rmi.1 rs.1 (frac_mem rns.1 hH)
  have hlen := L_len (j := j) (y := yy) (m := m) (d := d) (h := h) (mi := mi) (s := s) (o := o) hj (show H.length ≤ 9 by omega)
  have hb : bytesOf (strOfNums (L j yy m d h mi s o H)) = L j yy m d h mi s o H := bytesOf_strOfNums hmem
  have hsz : (strOfNums (L j yy m d h mi s o H)).size ≤ 1000 := by rw [← bytesOf_length, hb]; omega
  have hD := date_f y m d (h * 3600 + mi * 60 + s) ns o (secs y m d (h * 3600 + mi * 60 + s) o) (by omega) rm.1 rm.2 rd.1 rd.2 (by omega) ro rfl
  have hY : Ev (fun k => zztime_Time_Year.f k (secs y m d (h * 3600 + mi * 60 + s) o) ns o) y := by unfold zztime_Time_Year.f; exact Ev.bind hD (Ev.now _)
  have last : ∀ (S : Int) (b : Bool), (∀ lay, Ev (fun k => zztime_Time_Format.f k S ns o lay) (strOfNums (L j yy m d h mi s o H))) → Ev (fun k => pqtime_Format.j0 k S ns o b) ((L j yy m d h mi s o H ++ zoneRest o) ++ (if b = true then [32, 66, 67] else [])) := fun S b hF =>
    Ev.step (fun k => pqtime_Format.j0.eq_2 _ _ _ _ _) <| Ev.bind (hF _) <| Ev.if_pos hsz <| Ev.const (by unfold pqtime_Format.tail; rw [hb])
  unfold pq_FormatTimestamp.f pqtime_Format.f
  by_cases hy : y < 1
  · rw [_root_.if_pos hy] at hyy
    have hnl : ¬ (m = 2 ∧ d = 29) := by rcases hK with h | h <;> first | exact h | omega
    have hdl : d ≤ Cal.daysIn yy m := by
      have h1 := rd.2
      unfold Cal.daysIn at h1 ⊢
      split at h1
      · rename_i hc; rw [_root_.if_pos hc]; exact h1
      · rename_i hc
        rw [_root_.if_neg hc]
        split at h1
        · rename_i hc2
          rw [_root_.if_pos hc2]
          have : d ≤ 28 := by split at h1 <;> omega
          split <;> omega
        · rename_i hc2
          rw [_root_.if_neg hc2]; exact h1
    have hR2 : Right yy m d h mi s ns o := ⟨by omega, rm, ⟨rd.1, hdl⟩, rh, rmi, rs, rns, ro⟩
    have hA := add_date (y := y) (m := m) (d := d) (t := h * 3600 + mi * 60 + s) (ns := ns) (o := o) yy ry (by omega) rm rd (by omega) rns ro
    have hF := last (secs yy m d (h * 3600 + mi * 60 + s) o) true (fun lay => format_f hR2 (by omega) hz j hj hw hW H n hH hC hpos lay)
    refine Ev.bind (Ev.bind hY <| Ev.if_pos (by omega) <| Ev.bind hY ?_) (Ev.eq (Ev.now _) (by rw [decide_eq_true hy]))
    rw [wrap64_id (n := -y) (by omega) (by omega), wrap64_id (n := -y * 2) (by omega) (by omega), wrap64_id (n := -y * 2 + 1) (by omega) (by omega), show -y * 2 + 1 = yy - y by omega]
    exact Ev.bind hA hF
  · rw [_root_.if_neg hy] at hyy
    subst hyy
    have hF := last (secs yy m d (h * 3600 + mi * 60 + s) o) false (fun lay => format_f hR0 (by omega) hz j hj hw hW H n hH hC hpos lay)
    exact Ev.bind (Ev.bind hY <| Ev.if_neg (by omega) hF) (Ev.eq (Ev.now _) (by rw [decide_eq_false hy]))
/-- StampWritten. -/
theorem written {y m d h mi s ns o : Int} (hR : Right y m d h mi s ns o) {l : List Int} (hF : Ev (fun k => pq_FormatTimestamp.f k (secs y m d (h * 3600 + mi * 60 + s) o) ns o) l) : Ev (fun k => impl_StampWritten.f k y m d h mi s ns o) (strOfNums l, true) := by
  unfold impl_StampWritten.f pq_FormatStamp.f
  exact Ev.bind (Ev.bind (stamp_time hR) <| Ev.if_pos rfl <| Ev.bind hF <| Ev.now _) (Ev.now _)
theorem date_text {y m d : Int} (h mi s ns o : Int) (hy : -4711 ≤ y ∧ y ≤ 290000) (hm : 1 ≤ m ∧ m ≤ 12) (hd : 1 ≤ d ∧ d ≤ 31) (j : Nat) (hj : j ≤ 5) (yy : Int) (hyy : yy = if y < 1 then 1 - y else y) (hw : yy < p10 (j + 1)) (hW : Wide (j + 1) 4 yy) :
    ∃ r t : ByteArray, bytesOf r = dateL (j + 1) yy m d ∧ bytesOf t = (if decide (y < 1) = true then [32, 66, 67] else []) ∧ Ev (fun k => spec_DateText.f k y m d h mi s ns o) (r, t) := by
  obtain ⟨ry, ey, vy⟩ := padded_g j yy 4 (by omega) (by omega) (by split at hyy <;> omega) (by split at hyy <;> omega) hw hW
  obtain ⟨rm, em, vm⟩ := padded 1 m 2 (by omega) rfl (by omega) (by omega) (by show m < 100; omega)
  obtain ⟨rd, ed, vd⟩ := padded 1 d 2 (by omega) rfl (by omega) (by omega) (by show d < 100; omega)
  have ly : ry.size = j + 1 := by rw [piece_size ey, dgs_length]
  have lm : rm.size = 2 := by rw [piece_size em, dgs_length]
  have ld : rd.size = 2 := by rw [piece_size ed, dgs_length]
  have lc : (⟨#[45]⟩ : ByteArray).size = 1 := rfl
  have bc : bytesOf (⟨#[45]⟩ : ByteArray) = [45] := rfl
  have hr : bytesOf ((((ry ++ (⟨#[45]⟩ : ByteArray)) ++ rm) ++ (⟨#[45]⟩ : ByteArray)) ++ rd) = dateL (j + 1) yy m d := by
    simp only [bytesOf_append, ey, em, ed, bc, dateL]; simp
  unfold spec_DateText.f
  by_cases h1 : y < 1
  · rw [_root_.if_pos h1] at hyy
    refine ⟨_, (⟨#[32, 66, 67]⟩ : ByteArray), hr, by rw [decide_eq_true h1]; rfl, Ev.if_pos h1 ?_⟩
    rw [wrap64_id (n := 1 - y) (by omega) (by omega), ← hyy]
    exact Ev.bind vy <| Ev.if_pos (by omega) <| Ev.bind vm <| Ev.if_pos (by simp only [ByteArray.size_append, ly, lm, lc]; omega) <| Ev.if_pos (by simp only [ByteArray.size_append, ly, lm, lc]; omega) <| Ev.bind vd <| Ev.if_pos (by simp only [ByteArray.size_append, ly, lm, ld, lc]; omega) <| Ev.now _
  · rw [_root_.if_neg h1] at hyy
    subst hyy
    refine ⟨_, (⟨#[]⟩ : ByteArray), hr, by rw [decide_eq_false h1]; rfl, Ev.if_neg h1 ?_⟩
    exact Ev.bind vy <| Ev.if_pos (by omega) <| Ev.bind vm <| Ev.if_pos (by simp only [ByteArray.size_append, ly, lm, lc]; omega) <| Ev.if_pos (by simp only [ByteArray.size_append, ly, lm, lc]; omega) <| Ev.bind vd <| Ev.if_pos (by simp only [ByteArray.size_append, ly, lm, ld, lc]; omega) <| Ev.now _
theorem law (y m d h mi s ns o : Int) : Ev (fun k => laws_FnStampWritten.f k y m d h mi s ns o) true := by
  unfold laws_FnStampWritten.f
  rcases writable y m d h mi s ns o with ⟨e, hR, hK, hz⟩ | e
  · have hR0 := hR
    obtain ⟨ry, rm, rd, rh, rmi, rs, rns, ro⟩ := hR
    have h31 := daysIn_bd y m
    obtain ⟨yy, hyy⟩ : ∃ yy, yy = if y < 1 then 1 - y else y := ⟨_, rfl⟩
    have hyb : 1 ≤ yy ∧ yy ≤ 299000 := by split at hyy <;> omega
    obtain ⟨j, hj, hj3, hw, hW⟩ := year_wide yy hyb.1 hyb.2
    obtain ⟨H, n, hH, hC, hl, hpos⟩ := frac_ex ns rns.1 rns.2
    obtain ⟨rD, rE, eD, eE, vD⟩ := date_text h mi s ns o ry rm ⟨rd.1, by omega⟩ j hj yy hyy hw hW
    obtain ⟨rT, eT, vT⟩ := time_text0 y m d h mi s ns o rh rmi rs rns H n hH hC
    have hF := written hR0 (format_ts hR0 hK hz j hj yy hyy hw hW H n hH hC hpos)
    have lD : rD.size = j + 7 := by rw [piece_size eD]; unfold dateL; simp [dgs_length]
    have lT : rT.size ≤ 18 := by rw [piece_size eT]; unfold timeL; split <;> simp [dgs_length] <;> omega
    have lE : rE.size ≤ 3 := by rw [piece_size eE]; split <;> simp
    have b32 : bytesOf (⟨#[32]⟩ : ByteArray) = [32] := rfl
    have b90 : bytesOf (⟨#[90]⟩ : ByteArray) = [90] := rfl
    have l32 : (⟨#[32]⟩ : ByteArray).size = 1 := rfl
    have l90 : (⟨#[90]⟩ : ByteArray).size = 1 := rfl
    refine Ev.bind e <| Ev.if_pos rfl <| Ev.bind vD ?_
    have same : ∀ Z : ByteArray, bytesOf Z = (if o = 0 then [90] else zoneL o) ++ zoneRest o → strOfNums ((L j yy m d h mi s o H ++ zoneRest o) ++ (if decide (y < 1) = true then [32, 66, 67] else [])) = (((rD ++ (⟨#[32]⟩ : ByteArray)) ++ rT) ++ Z) ++ rE := by
      intro Z hZ
      rw [← strOfNums_bytesOf ((((rD ++ (⟨#[32]⟩ : ByteArray)) ++ rT) ++ Z) ++ rE)]
      congr 1
      rw [bytesOf_append, bytesOf_append, bytesOf_append, bytesOf_append, eD, eT, hZ, eE, b32]
      unfold L
      simp
    by_cases h0 : o = 0
    · have hS := same (⟨#[90]⟩ : ByteArray) (by rw [_root_.if_pos h0, h0]; rfl)
      rw [hS] at hF
      refine Ev.if_pos h0 <| Ev.bind hF <| Ev.if_pos rfl <| Ev.if_pos (by show rD.size + 1 ≤ _; omega) <| Ev.bind vT <| Ev.if_pos (by simp only [ByteArray.size_append, l32]; omega) <| Ev.if_pos (by simp only [ByteArray.size_append, l32]; omega) <| Ev.if_pos (by simp only [ByteArray.size_append, l32, l90]; omega) <| Ev.const ?_
      simp
    · obtain ⟨rZ, eZ, vZ⟩ := zone_text2 o ro.1 ro.2 hz
      have lZ : rZ.size ≤ 20 := by
        rw [piece_size eZ, List.length_append]
        have h1 : (zoneL o).length ≤ 6 := by unfold zoneL; split <;> simp [dgs_length]
        have h2 : (zoneRest o).length ≤ 4 := by
          rw [zoneRest_eq o _ _ rfl rfl]
          generalize (if Int.tmod o 60 < 0 then -(Int.tmod o 60) else Int.tmod o 60) = a
          have h3 : (smallDigits a).length ≤ 2 := by unfold smallDigits; split <;> simp
          split
          · simp
          · split <;> simp <;> omega
        omega
      have hS := same rZ (by rw [_root_.if_neg h0]; exact eZ)
      rw [hS] at hF
      refine Ev.if_neg h0 <| Ev.bind vZ <| Ev.bind hF <| Ev.if_pos rfl <| Ev.if_pos (by show rD.size + 1 ≤ _; omega) <| Ev.bind vT <| Ev.if_pos (by simp only [ByteArray.size_append, l32]; omega) <| Ev.if_pos (by simp only [ByteArray.size_append, l32]; omega) <| Ev.if_pos (by simp only [ByteArray.size_append, l32]; omega) <| Ev.const ?_
      simp
  · exact Ev.bind e <| Ev.if_neg (by decide) <| Ev.now _
end StampW
theorem FnStampWritten (x : P.S23) {G : Prop} (_g0 : G) : ∃ k, laws_FnStampWritten.f k x.f0 x.f1 x.f2 x.f3 x.f4 x.f5 x.f6 x.f7 = some true :=
  Ev.rounds (StampW.law x.f0 x.f1 x.f2 x.f3 x.f4 x.f5 x.f6 x.f7)
end Go.Proofs.YtlhjblbmhlelbabDoor.Pure
