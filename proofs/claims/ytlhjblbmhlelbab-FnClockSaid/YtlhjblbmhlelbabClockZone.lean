/- The text of a zone, the readers of digits and zones, and the count of colons. Conditions: the ranges that each lemma names. -/
import Derived.Test.YtlhjblbmhlelbabClockText
namespace Go.Proofs.Ytlhjblbmhlelbab.Lib
open Go.RowKit Go.Proofs.Ytlhjblbmhlelbab.P Go.Proofs.YtlhjblbmhlelbabW.PrintWords Go.Proofs.YtlhjblbmhlelbabW.PrintLast Go.Proofs.YtlhjblbmhlelbabW.PrintMore
set_option linter.unusedVariables false
set_option linter.unusedSimpArgs false
/-- The parts of a zone behind its sign. -/
def zparts (q : Nat) (u : Int) : List Int := dgs 2 (u / 3600) ++ ((if 2 ≤ q then 58 :: dgs 2 (u / 60 % 60) else []) ++ (if 3 ≤ q then 58 :: dgs 2 (u % 60) else []))
def zpast (q : Nat) (u : Int) : Prop := (q = 1 ∧ u % 3600 = 0) ∨ (q = 2 ∧ u % 60 = 0) ∨ q = 3
theorem zone_j0 (u p : Int) (h0 : 0 ≤ u) (h1 : u ≤ 57599) (hp : 1 ≤ p ∧ p ≤ 3) (x : ByteArray) (hx : x.size = 1) :
    ∃ (q : Nat) (r : ByteArray), zpast q u ∧ bytesOf r = bytesOf x ++ zparts q u ∧ Ev (fun k => spec_ZoneText.j0 k u p x) r := by
  have e1 : wrap64 (Int.tdiv u 3600) = u / 3600 := by rw [Int.tdiv_eq_ediv_of_nonneg h0, wrap64_id (by omega) (by omega)]
  have e2 : Int.tmod (wrap64 (Int.tdiv u 60)) 60 = u / 60 % 60 := by rw [Int.tdiv_eq_ediv_of_nonneg h0, wrap64_id (by omega) (by omega), Int.tmod_eq_emod_of_nonneg (by omega)]
  have e3 : Int.tmod u 60 = u % 60 := Int.tmod_eq_emod_of_nonneg h0
  have e4 : Int.tmod u 3600 = u % 3600 := Int.tmod_eq_emod_of_nonneg h0
  obtain ⟨rh, eh, vh⟩ := padded 1 (u / 3600) 2 (by omega) rfl (by omega) (by omega) (by show u / 3600 < 100; omega)
  obtain ⟨rm, em, vm⟩ := padded 1 (u / 60 % 60) 2 (by omega) rfl (by omega) (by omega) (by show u / 60 % 60 < 100; omega)
  obtain ⟨rs, es, vs⟩ := padded 1 (u % 60) 2 (by omega) rfl (by omega) (by omega) (by show u % 60 < 100; omega)
  have lh : rh.size = 2 := by rw [piece_size eh, dgs_length]
  have lm : rm.size = 2 := by rw [piece_size em, dgs_length]
  have ls : rs.size = 2 := by rw [piece_size es, dgs_length]
  have lc : (⟨#[58]⟩ : ByteArray).size = 1 := rfl
  have bc : bytesOf (⟨#[58]⟩ : ByteArray) = [58] := rfl
  have long : ∃ (q : Nat) (r : ByteArray), zpast q u ∧ bytesOf r = bytesOf x ++ zparts q u ∧ Ev (fun k => spec_ZoneText.j1 k u p (x ++ rh) true) r := by
    by_cases hs : u % 60 > 0
    · refine ⟨3, (x ++ rh ++ ((⟨#[58]⟩ : ByteArray) ++ rm)) ++ ((⟨#[58]⟩ : ByteArray) ++ rs), .inr (.inr rfl), by simp [bytesOf_append, eh, em, es, bc, zparts], Ev.step (fun k => spec_ZoneText.j1.eq_2 _ _ _ _ _) <| Ev.if_pos rfl ?_⟩
      rw [e2, e3]
      exact Ev.bind vm <| Ev.if_pos (by omega) <| Ev.if_pos (by simp only [ByteArray.size_append, lh, lm, ls, lc, hx]; omega) <| Ev.if_pos hs <| Ev.bind vs <| Ev.if_pos (by omega) <| Ev.if_pos (by simp only [ByteArray.size_append, lh, lm, ls, lc, hx]; omega) <| Ev.now _
    · by_cases hp2 : p > 2
      · refine ⟨3, (x ++ rh ++ ((⟨#[58]⟩ : ByteArray) ++ rm)) ++ ((⟨#[58]⟩ : ByteArray) ++ rs), .inr (.inr rfl), by simp [bytesOf_append, eh, em, es, bc, zparts], Ev.step (fun k => spec_ZoneText.j1.eq_2 _ _ _ _ _) <| Ev.if_pos rfl ?_⟩
        rw [e2, e3]
        exact Ev.bind vm <| Ev.if_pos (by omega) <| Ev.if_pos (by simp only [ByteArray.size_append, lh, lm, ls, lc, hx]; omega) <| Ev.if_neg hs <| Ev.if_pos hp2 <| Ev.bind vs <| Ev.if_pos (by omega) <| Ev.if_pos (by simp only [ByteArray.size_append, lh, lm, ls, lc, hx]; omega) <| Ev.now _
      · refine ⟨2, x ++ rh ++ ((⟨#[58]⟩ : ByteArray) ++ rm), .inr (.inl ⟨rfl, by omega⟩), by simp [bytesOf_append, eh, em, es, bc, zparts], Ev.step (fun k => spec_ZoneText.j1.eq_2 _ _ _ _ _) <| Ev.if_pos rfl ?_⟩
        rw [e2, e3]
        exact Ev.bind vm <| Ev.if_pos (by omega) <| Ev.if_pos (by simp only [ByteArray.size_append, lh, lm, ls, lc, hx]; omega) <| Ev.if_neg hs <| Ev.if_neg hp2 <| Ev.now _
  have start : ∀ (r : ByteArray), Ev (fun k => if u % 3600 > 0 then spec_ZoneText.j1 k u p (x ++ rh) true else spec_ZoneText.j1 k u p (x ++ rh) (decide (p > 1))) r → Ev (fun k => spec_ZoneText.j0 k u p x) r := by
    intro r h
    refine Ev.step (fun k => spec_ZoneText.j0.eq_2 _ _ _ _) ?_
    rw [e1, e4]
    exact Ev.bind vh <| Ev.if_pos (by omega) h
  by_cases ht : u % 3600 > 0
  · obtain ⟨q, r, a, b, c⟩ := long
    exact ⟨q, r, a, b, start r (Ev.if_pos ht c)⟩
  · by_cases hp1 : p > 1
    · obtain ⟨q, r, a, b, c⟩ := long
      exact ⟨q, r, a, b, start r (Ev.if_neg ht (by rw [decide_eq_true hp1]; exact c))⟩
    · refine ⟨1, x ++ rh, .inl ⟨rfl, by omega⟩, by simp [bytesOf_append, eh, zparts], start _ (Ev.if_neg ht ?_)⟩
      rw [decide_eq_false hp1]
      refine Ev.step (fun k => spec_ZoneText.j1.eq_2 _ _ _ _ _) <| Ev.if_neg (by decide) ?_
      rw [e3]
      exact Ev.if_neg (by omega) <| Ev.if_neg (by omega) <| Ev.now _
/-- ZoneText. -/
theorem zone_text (o p : Int) (h0 : -57599 ≤ o) (h1 : o ≤ 57599) (hp : 1 ≤ p ∧ p ≤ 3) :
    ∃ (q : Nat) (u sg : Int) (r : ByteArray), 0 ≤ u ∧ u ≤ 57599 ∧ ((sg = 45 ∧ o = -u) ∨ (sg = 43 ∧ o = u)) ∧ zpast q u ∧ bytesOf r = sg :: zparts q u ∧ Ev (fun k => spec_ZoneText.f k o p) r := by
  unfold spec_ZoneText.f
  by_cases h : o < 0
  · obtain ⟨q, r, a, b, c⟩ := zone_j0 (-o) p (by omega) (by omega) hp (⟨#[45]⟩ : ByteArray) rfl
    refine ⟨q, -o, 45, r, by omega, by omega, .inl ⟨rfl, by omega⟩, a, b, Ev.if_pos h ?_⟩
    rw [wrap64_id (by omega) (by omega)]; exact c
  · obtain ⟨q, r, a, b, c⟩ := zone_j0 o p (by omega) (by omega) hp (⟨#[43]⟩ : ByteArray) rfl
    exact ⟨q, o, 43, r, by omega, by omega, .inr ⟨rfl, rfl⟩, a, b, Ev.if_neg h c⟩
/-- digit. -/
theorem digit_at {s : ByteArray} {i c : Int} {t : List Int} (h : At (bytesOf s) i (c :: t)) : zztime_digit.f s i = some (decide (48 ≤ c ∧ c ≤ 57)) := by
  unfold zztime_digit.f
  rw [_root_.if_pos h.slt, _root_.if_pos h.nonneg, h.bt]
  by_cases h1 : c ≥ 48
  · rw [_root_.if_pos h1]
    by_cases h2 : c ≤ 57
    · rw [decide_eq_true h2, decide_eq_true ⟨h1, h2⟩]
    · rw [decide_eq_false h2, decide_eq_false (fun e => h2 e.2)]
  · rw [_root_.if_neg h1, decide_eq_false (fun e => h1 e.1)]
theorem digit_end {s : ByteArray} {i : Int} (h : At (bytesOf s) i []) : zztime_digit.f s i = some false := by
  unfold zztime_digit.f
  rw [_root_.if_neg (by have := h.snil; omega)]
/-- number, of two digits. -/
theorem number_two {s : ByteArray} {v : Int} {t : List Int} (h0 : 0 ≤ v) (h1 : v < 100) (hs : bytesOf s = dgs 2 v ++ t) (b : Bool) : ∃ r, bytesOf r = t ∧ Ev (fun k => zztime_number.f k s b) (v, r, true) := by
  have hs : bytesOf s = (48 + v / 10 % 10) :: (48 + v % 10) :: t := by rw [hs]; simp [dgs]
  have a0 : At (bytesOf s) 0 ((48 + v / 10 % 10) :: (48 + v % 10) :: t) := hs ▸ At.zero _
  have a1 : At (bytesOf s) 1 ((48 + v % 10) :: t) := a0.tail
  have a2 : At (bytesOf s) 2 t := a1.tail
  refine ⟨s.extract 2 s.size, a2.rest, ?_⟩
  unfold zztime_number.f
  refine Ev.bind (Ev.const (digit_at a0)) <| Ev.if_pos (decide_eq_true (by omega)) <| Ev.bind (Ev.const (digit_at a1)) ?_
  rw [decide_eq_true (by omega)]
  refine Ev.step (fun k => zztime_number.j0.eq_2 _ _ _ _) <| Ev.if_pos rfl <| Ev.if_pos a0.slt <| Ev.if_pos a1.slt <| Ev.if_pos a2.sle ?_
  rw [a0.bt, a1.bt]
  exact Ev.eq (Ev.now _) (by rw [show (48 + v / 10 % 10 - 48) % 256 * 10 + (48 + v % 10 - 48) % 256 = v by omega])
/-- One part of a zone. -/
theorem zone_part {s : ByteArray} (x1 x4 : Int) {i v li fi : Int} {t : List Int} (hi : 0 ≤ i ∧ i ≤ 2) (hx1 : i < x1) (h0 : 0 ≤ v) (h1 : v < 100) (hat : At (bytesOf s) (3 * i + 1) (dgs 2 v ++ t)) (hc : 0 < i → bt s (3 * i) = 58)
    (hl : rd ([24, 60, 60] : List Int) i = li) (hf : rd ([3600, 60, 1] : List Int) i = fi) (hv : v ≤ li) (hfi : 0 ≤ fi ∧ fi ≤ 3600) (h4 : 0 ≤ x4 ∧ x4 ≤ 1000000) {r : Int × ByteArray × Bool}
    (h : Ev (fun k => zztime_zone.l0 k s x1 (x4 + v * fi) ([24, 60, 60] : List Int) (i + 1)) r) : Ev (fun k => zztime_zone.l0 k s x1 x4 ([24, 60, 60] : List Int) i) r := by
  have hlen := hat.slen
  rw [List.length_append, dgs_length] at hlen
  have e3 : wrap64 (3 * i) = 3 * i := wrap64_id (by omega) (by omega)
  have e31 : wrap64 (3 * i + 1) = 3 * i + 1 := wrap64_id (by omega) (by omega)
  have e33 : wrap64 (3 * i + 3) = 3 * i + 3 := wrap64_id (by omega) (by omega)
  have hpiece : bytesOf (s.extract (3 * i + 1).toNat (3 * i + 3).toNat) = dgs 2 v := At.piece hat (by rw [dgs_length]; omega)
  obtain ⟨rr, er, vr⟩ := number_two (s := s.extract (3 * i + 1).toNat (3 * i + 3).toNat) (t := []) h0 h1 (by rw [hpiece]; simp) true
  have hvf : 0 ≤ v * fi ∧ v * fi ≤ 100 * 3600 := ⟨Int.mul_nonneg h0 hfi.1, Int.mul_le_mul (by omega) hfi.2 hfi.1 (by omega)⟩
  have e4 : wrap64 (x4 + wrap64 (v * fi)) = x4 + v * fi := by rw [wrap64_id (n := v * fi) (by omega) (by omega), wrap64_id (by omega) (by omega)]
  have e5 : wrap64 (i + 1) = i + 1 := wrap64_id (by omega) (by omega)
  have j2 : Ev (fun k => zztime_zone.j2 k s x1 x4 ([24, 60, 60] : List Int) i false) r := by
    refine Ev.step (fun k => zztime_zone.j2.eq_2 _ _ _ _ _ _ _) <| Ev.if_neg (by decide) ?_
    rw [e3, e31, e33]
    refine Ev.if_pos (by omega) <| Ev.if_pos (by omega) <| Ev.if_pos (by omega) <| Ev.bind vr <| Ev.if_pos rfl <| Ev.if_pos hi.1 <| Ev.if_pos (by show i < 3; omega) <| Ev.if_neg (by rw [hl]; show ¬ v > li; omega) <| Ev.bind (Ev.now _) <| Ev.if_pos (by show i < 3; omega) ?_
    show Ev (fun k => zztime_zone.l0 k s x1 (wrap64 (x4 + wrap64 (v * rd ([3600, 60, 1] : List Int) i))) ([24, 60, 60] : List Int) (wrap64 (i + 1))) r
    rw [hf, e4, e5]
    exact h
  refine Ev.step (fun k => zztime_zone.l0.eq_2 _ _ _ _ _ _) <| Ev.if_pos hx1 ?_
  by_cases hp : i > 0
  · refine Ev.if_pos hp ?_
    rw [e3]
    refine Ev.if_pos (by omega) <| Ev.if_pos (by omega) ?_
    rw [hc hp, show ((58 : Int) != 58) = false from rfl]
    exact j2
  · exact Ev.if_neg hp j2
/-- The zone's last step. -/
theorem zone_last {s : ByteArray} (x1 x4 sg : Int) {t : List Int} (hx : 1 ≤ x1 ∧ x1 ≤ 3) (hs : bytesOf s = sg :: t) (hl : (t.length : Int) + 1 = 3 * x1) (h4 : 0 ≤ x4 ∧ x4 ≤ 1000000) (l : List Int) :
    ∃ r : ByteArray, bytesOf r = [] ∧ Ev (fun k => zztime_zone.l0 k s x1 x4 l x1) (if sg = 45 then -x4 else x4, r, true) := by
  have a0 : At (bytesOf s) 0 (sg :: t) := hs ▸ At.zero _
  have hsz : (s.size : Int) = 3 * x1 := by rw [bytesOf_size, hs, List.length_cons]; omega
  have e3 : wrap64 (3 * x1) = 3 * x1 := wrap64_id (by omega) (by omega)
  have e4 : wrap64 (-x4) = -x4 := wrap64_id (by omega) (by omega)
  have hr : bytesOf (s.extract (3 * x1).toNat s.size) = [] := by
    rw [bytesOf_extract]
    apply List.eq_nil_of_length_eq_zero
    simp only [List.length_drop, List.length_take, bytesOf_length]
    omega
  refine ⟨s.extract (3 * x1).toNat s.size, hr, Ev.step (fun k => zztime_zone.l0.eq_2 _ _ _ _ _ _) <| Ev.if_neg (by omega) <| Ev.if_pos a0.slt ?_⟩
  rw [a0.bt, e3, e4]
  by_cases h : sg = 45
  · exact Ev.eq (Ev.if_pos h <| Ev.if_pos (by omega) <| Ev.if_pos (by omega) <| Ev.now _) (by rw [_root_.if_pos h])
  · exact Ev.eq (Ev.if_neg h <| Ev.if_pos (by omega) <| Ev.if_pos (by omega) <| Ev.now _) (by rw [_root_.if_neg h])
theorem zone_start {s : ByteArray} (x1 sg : Int) {t : List Int} (hx : 1 ≤ x1 ∧ x1 ≤ 3) (hs : bytesOf s = sg :: t) (hl : (t.length : Int) + 1 = 3 * x1) (hsg : sg = 45 ∨ sg = 43) {r : Int × ByteArray × Bool}
    (h : Ev (fun k => zztime_zone.l0 k s x1 0 ([24, 60, 60] : List Int) 0) r) : Ev (fun k => zztime_zone.f k s x1) r := by
  have a0 : At (bytesOf s) 0 (sg :: t) := hs ▸ At.zero _
  have hsz : (s.size : Int) = 3 * x1 := by rw [bytesOf_size, hs, List.length_cons]; omega
  have e3 : wrap64 (3 * x1) = 3 * x1 := wrap64_id (by omega) (by omega)
  have j0 : Ev (fun k => zztime_zone.j0 k s x1 0 false) r := Ev.step (fun k => zztime_zone.j0.eq_2 _ _ _ _ _) <| Ev.if_neg (by decide) h
  unfold zztime_zone.f
  refine Ev.if_neg (by rw [e3]; omega) <| Ev.if_pos a0.slt ?_
  rw [a0.bt]
  rcases hsg with rfl | rfl
  · exact Ev.if_neg (by decide) j0
  · exact Ev.if_pos rfl j0
/-- zone. -/
theorem zone_read (q : Nat) (u sg : Int) (h0 : 0 ≤ u) (h1 : u ≤ 57599) (hq : zpast q u) (hsg : sg = 45 ∨ sg = 43) (s : ByteArray) (hs : bytesOf s = sg :: zparts q u) :
    ∃ r : ByteArray, bytesOf r = [] ∧ Ev (fun k => zztime_zone.f k s (q : Int)) (if sg = 45 then -u else u, r, true) := by
  have a1 : At (bytesOf s) (3 * 0 + 1) (zparts q u) := At.of_eq (p := [sg]) hs rfl
  rcases hq with ⟨rfl, hu⟩ | ⟨rfl, hu⟩ | rfl
  · have hz : zparts 1 u = dgs 2 (u / 3600) ++ [] := by simp [zparts]
    have hl : ((zparts 1 u).length : Int) + 1 = 3 * (1 : Nat) := by rw [hz]; simp [dgs_length]
    obtain ⟨r, hr, e⟩ := zone_last (s := s) (x1 := 1) u sg (by omega) hs hl (by omega) ([24, 60, 60] : List Int)
    refine ⟨r, hr, zone_start 1 sg (by omega) hs hl hsg <| zone_part (li := 24) (fi := 3600) (v := u / 3600) (t := []) 1 0 (by omega) (by omega) (by omega) (by omega) (hz ▸ a1) (by omega) rfl rfl (by omega) (by omega) (by omega) ?_⟩
    rw [show 0 + u / 3600 * 3600 = u by omega]
    exact e
  · have hz : zparts 2 u = dgs 2 (u / 3600) ++ 58 :: (dgs 2 (u / 60 % 60) ++ []) := by simp [zparts]
    have hl : ((zparts 2 u).length : Int) + 1 = 3 * (2 : Nat) := by rw [hz]; simp [dgs_length]
    obtain ⟨r, hr, e⟩ := zone_last (s := s) (x1 := 2) u sg (by omega) hs hl (by omega) ([24, 60, 60] : List Int)
    have a1' : At (bytesOf s) (3 * 0 + 1) (dgs 2 (u / 3600) ++ 58 :: (dgs 2 (u / 60 % 60) ++ [])) := hz ▸ a1
    have a3 : At (bytesOf s) (3 * 1) (58 :: (dgs 2 (u / 60 % 60) ++ [])) := a1'.drop
    have a4 : At (bytesOf s) (3 * 1 + 1) (dgs 2 (u / 60 % 60) ++ []) := a3.tail
    refine ⟨r, hr, zone_start 2 sg (by omega) hs hl hsg <| zone_part (li := 24) (fi := 3600) (v := u / 3600) 2 0 (by omega) (by omega) (by omega) (by omega) a1' (by omega) rfl rfl (by omega) (by omega) (by omega) <|
      zone_part (li := 60) (fi := 60) (v := u / 60 % 60) (i := 1) 2 _ (by omega) (by omega) (by omega) (by omega) a4 (fun _ => a3.bt) rfl rfl (by omega) (by omega) (by omega) ?_⟩
    rw [show 0 + u / 3600 * 3600 + u / 60 % 60 * 60 = u by omega]
    exact e
  · have hz : zparts 3 u = dgs 2 (u / 3600) ++ 58 :: (dgs 2 (u / 60 % 60) ++ 58 :: (dgs 2 (u % 60) ++ [])) := by simp [zparts]
    have hl : ((zparts 3 u).length : Int) + 1 = 3 * (3 : Nat) := by rw [hz]; simp [dgs_length]
    obtain ⟨r, hr, e⟩ := zone_last (s := s) (x1 := 3) u sg (by omega) hs hl (by omega) ([24, 60, 60] : List Int)
    have a1' : At (bytesOf s) (3 * 0 + 1) (dgs 2 (u / 3600) ++ 58 :: (dgs 2 (u / 60 % 60) ++ 58 :: (dgs 2 (u % 60) ++ []))) := hz ▸ a1
    have a3 : At (bytesOf s) (3 * 1) (58 :: (dgs 2 (u / 60 % 60) ++ 58 :: (dgs 2 (u % 60) ++ []))) := a1'.drop
    have a4 : At (bytesOf s) (3 * 1 + 1) (dgs 2 (u / 60 % 60) ++ 58 :: (dgs 2 (u % 60) ++ [])) := a3.tail
    have a6 : At (bytesOf s) (3 * 2) (58 :: (dgs 2 (u % 60) ++ [])) := a4.drop
    have a7 : At (bytesOf s) (3 * 2 + 1) (dgs 2 (u % 60) ++ []) := a6.tail
    refine ⟨r, hr, zone_start 3 sg (by omega) hs hl hsg <| zone_part (li := 24) (fi := 3600) (v := u / 3600) 3 0 (by omega) (by omega) (by omega) (by omega) a1' (by omega) rfl rfl (by omega) (by omega) (by omega) <|
      zone_part (li := 60) (fi := 60) (v := u / 60 % 60) (i := 1) 3 _ (by omega) (by omega) (by omega) (by omega) a4 (fun _ => a3.bt) rfl rfl (by omega) (by omega) (by omega) <|
      zone_part (li := 60) (fi := 1) (v := u % 60) (i := 2) 3 _ (by omega) (by omega) (by omega) (by omega) a7 (fun _ => a6.bt) rfl rfl (by omega) (by omega) (by omega) ?_⟩
    rw [show 0 + u / 3600 * 3600 + u / 60 % 60 * 60 + u % 60 * 1 = u by omega]
    exact e
/-- How many bytes are d. -/
def howMany (d : Int) (l : List Int) : Int := (l.countP (fun c => decide (c = d)) : Nat)
theorem count_l (s sub : ByteArray) (hs : s.size ≤ 2305843009213693952) (d : Int) (hsub : bytesOf sub = [d]) : ∀ (l : List Int) (i n : Int), At (bytesOf s) i l → 0 ≤ n → n ≤ i →
    Ev (fun k => pq_zzCount.l1 k s sub n i) (n + howMany d l) := by
  have h1 : sub.size = 1 := by rw [← bytesOf_length, hsub]; rfl
  intro l
  induction l with
  | nil =>
    intro i n h hn hni
    refine Ev.step (fun k => pq_zzCount.l1.eq_2 _ _ _ _ _) <| Ev.if_neg ?_ <| Ev.eq (Ev.now _) (by simp [howMany])
    rw [h1, wrap64_id (by have := h.nonneg; omega) (by have := h.sle; omega)]
    have := h.snil; omega
  | cons c t ih =>
    intro i n h hn hni
    have hlt := h.slt
    have h0 := h.nonneg
    have e1 : wrap64 (i + ((sub.size : Nat) : Int)) = i + 1 := by rw [h1]; exact wrap64_id (by omega) (by omega)
    have e2 : wrap64 (i + 1) = i + 1 := wrap64_id (by omega) (by omega)
    have e3 : wrap64 (n + 1) = n + 1 := wrap64_id (by omega) (by omega)
    have hit : (s.extract i.toNat (i + 1).toNat).toList = sub.toList ↔ c = d := by
      rw [toList_eq_iff, h.one, hsub]; simp
    refine Ev.step (fun k => pq_zzCount.l1.eq_2 _ _ _ _ _) ?_
    rw [e1, e2, e3]
    refine Ev.if_pos (by omega) <| Ev.if_pos h0 <| Ev.if_pos (by omega) ?_
    by_cases hc : c = d
    · refine Ev.if_pos (hit.2 hc) ?_
      refine Ev.eq (ih (i + 1) (n + 1) h.tail (by omega) (by omega)) ?_
      unfold howMany
      rw [List.countP_cons_of_pos (by simp [hc])]
      omega
    · refine Ev.if_neg (fun e => hc (hit.1 e)) ?_
      refine Ev.eq (ih (i + 1) n h.tail (by omega) (by omega)) ?_
      unfold howMany
      rw [List.countP_cons_of_neg (by simp [hc])]
theorem count_f (s sub : ByteArray) (hs : s.size ≤ 2305843009213693952) (d : Int) (hsub : bytesOf sub = [d]) : Ev (fun k => pq_zzCount.f k s sub) (howMany d (bytesOf s)) := by
  have h1 : sub.size = 1 := by rw [← bytesOf_length, hsub]; rfl
  unfold pq_zzCount.f
  refine Ev.if_neg (by omega) ?_
  exact Ev.eq (count_l s sub hs d hsub _ 0 0 (At.zero _) (by omega) (by omega)) (by omega)
theorem howMany_append (d : Int) (l m : List Int) : howMany d (l ++ m) = howMany d l + howMany d m := by unfold howMany; rw [List.countP_append]; omega
theorem howMany_digits {d : Int} {l : List Int} (hd : d = 58) (h : ∀ c ∈ l, 48 ≤ c ∧ c ≤ 57) : howMany d l = 0 := by
  unfold howMany
  rw [List.countP_eq_zero.2 (fun c hc => by have := h c hc; simp; omega)]; rfl
theorem howMany_colon (l : List Int) : howMany 58 (58 :: l) = 1 + howMany 58 l := by
  unfold howMany; rw [List.countP_cons_of_pos (by simp)]; omega
theorem howMany_other {c : Int} (l : List Int) (h : c ≠ 58) : howMany 58 (c :: l) = howMany 58 l := by
  unfold howMany; rw [List.countP_cons_of_neg (by simp [h])]
theorem howMany_nil : howMany 58 [] = 0 := rfl
theorem zparts_count (q : Nat) (u : Int) (h0 : 0 ≤ u) (hq : zpast q u) : howMany 58 (zparts q u) = (q : Int) - 1 := by
  have d1 : howMany 58 (dgs 2 (u / 3600)) = 0 := howMany_digits rfl (dgs_digit 2 _ (by omega))
  have d2 : howMany 58 (dgs 2 (u / 60 % 60)) = 0 := howMany_digits rfl (dgs_digit 2 _ (by omega))
  have d3 : howMany 58 (dgs 2 (u % 60)) = 0 := howMany_digits rfl (dgs_digit 2 _ (by omega))
  unfold zparts
  rcases hq with ⟨rfl, hu⟩ | ⟨rfl, hu⟩ | rfl
  · simp [howMany_append, howMany_colon, howMany_nil, d1, d2, d3]
  · simp [howMany_append, howMany_colon, howMany_nil, d1, d2, d3]
  · simp [howMany_append, howMany_colon, howMany_nil, d1, d2, d3]
end Go.Proofs.Ytlhjblbmhlelbab.Lib
