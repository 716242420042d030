/- What time.Parse tells of a clock's text. Conditions: the ranges that each lemma names. -/
import Derived.Test.YtlhjblbmhlelbabClockZone
namespace Go.Proofs.Ytlhjblbmhlelbab.Lib
open Go.RowKit Go.Proofs.Ytlhjblbmhlelbab.P Go.Proofs.YtlhjblbmhlelbabW.PrintWords Go.Proofs.YtlhjblbmhlelbabW.PrintLast Go.Proofs.YtlhjblbmhlelbabW.PrintMore
set_option linter.unusedVariables false
set_option linter.unusedSimpArgs false
/-- A format's length, a zone's text and its offset. -/
def Zoned (n : Nat) (Z : List Int) (o : Int) : Prop :=
  (n = 8 ∧ Z = [] ∧ o = 0) ∨ ∃ (q : Nat) (u sg : Int), n = 8 + 3 * q ∧ 0 ≤ u ∧ u ≤ 57599 ∧ zpast q u ∧ Z = sg :: zparts q u ∧ ((sg = 45 ∧ o = -u) ∨ (sg = 43 ∧ o = u))
theorem Zoned.range {n : Nat} {Z : List Int} {o : Int} (h : Zoned n Z o) : -57599 ≤ o ∧ o ≤ 57599 := by
  rcases h with ⟨_, _, rfl⟩ | ⟨q, u, sg, _, h0, h1, _, _, h | h⟩
  · omega
  · omega
  · omega
abbrev Tm := Int × Int × Int × Option Int
def clockRes (h m s ns o : Int) : Tm := (-62167219200 + h * 3600 + m * 60 + s - o, ns, o, none)
def Fields (h m s ns : Int) : Prop := (0 ≤ h ∧ h < 24) ∧ (0 ≤ m ∧ m < 60) ∧ (0 ≤ s ∧ s < 60) ∧ (0 ≤ ns ∧ ns < 1000000000)
theorem parse_j7 {h m s ns o : Int} (hF : Fields h m s ns) (ho : -57599 ≤ o ∧ o ≤ 57599) (h1 : o ≠ -1) (x : ByteArray) (hx : bytesOf x = []) : Ev (fun k => zztime_Parse.j7 k x h m s ns o) (clockRes h m s ns o) := by
  obtain ⟨a, b, c, d⟩ := hF
  have hd : zztime_Date.f 0 1 1 h m s ns o = some (-62167219200 + h * 3600 + m * 60 + s - o, ns, o) := by
    unfold zztime_Date.f
    rw [_root_.if_pos ⟨⟨rfl, rfl, rfl⟩, a, b, c, d, by omega⟩]
  exact Ev.step (fun k => zztime_Parse.j7.eq_2 _ _ _ _ _ _ _) <| Ev.if_pos (empty_list hx) <| Ev.if_neg h1 <| Ev.bind (Ev.const hd) <| Ev.now _
theorem parse_j6 {h m s ns o : Int} (hF : Fields h m s ns) (h1 : o ≠ -1) (f x : ByteArray) {Z : List Int} (hz : Zoned f.size Z o) (hx : bytesOf x = Z) : Ev (fun k => zztime_Parse.j6 k f x h m s ns) (clockRes h m s ns o) := by
  have hr := hz.range
  refine Ev.step (fun k => zztime_Parse.j6.eq_2 _ _ _ _ _ _ _) ?_
  rcases hz with ⟨e, rfl, rfl⟩ | ⟨q, u, sg, e, u0, u1, hq, rfl, ho⟩
  · have e1 : wrap64 (Int.tdiv (wrap64 ((f.size : Int) - 8)) 3) = 0 := by rw [e]; first | decide | kernel_rfl
    rw [e1]
    exact Ev.if_neg (by omega) <| parse_j7 hF hr h1 x hx
  · have hq3 : 1 ≤ q ∧ q ≤ 3 := by rcases hq with h | h | h <;> omega
    have e1 : wrap64 (Int.tdiv (wrap64 ((f.size : Int) - 8)) 3) = q := by
      rw [e, wrap64_id (n := ((8 + 3 * q : Nat) : Int) - 8) (by omega) (by omega), Int.tdiv_eq_ediv_of_nonneg (by omega), wrap64_id (by omega) (by omega)]
      omega
    rw [e1]
    obtain ⟨r, hr2, ev⟩ := zone_read q u sg u0 u1 hq (by rcases ho with h | h; exact .inl h.1; exact .inr h.1) x hx
    have ho2 : (if sg = 45 then -u else u) = o := by
      rcases ho with ⟨a, b⟩ | ⟨a, b⟩
      · rw [_root_.if_pos a, b]
      · rw [_root_.if_neg (by omega), b]
    rw [ho2] at ev
    exact Ev.if_pos (by omega) <| Ev.bind ev <| Ev.if_pos rfl <| parse_j7 hF hr h1 r hr2
theorem parse_l1 {h m s ns o : Int} (hF : Fields h m s ns) (h1 : o ≠ -1) (f x : ByteArray) {Z : List Int} (hz : Zoned f.size Z o) {i : Int} (hat : At (bytesOf x) i Z) (hi : i ≤ 10) : ∀ (n : Nat) (acc j : Int), 0 ≤ acc → vl acc (List.replicate n 48) = ns → j + n = 10 → 1 ≤ j →
    Ev (fun k => zztime_Parse.l1 k f x h m s acc i j) (clockRes h m s ns o) := by
  intro n
  induction n with
  | zero =>
    intro acc j h0 hv hj hj1
    have : acc = ns := hv
    subst this
    refine Ev.step (fun k => zztime_Parse.l1.eq_2 _ _ _ _ _ _ _ _ _) <| Ev.if_neg (by omega) <| Ev.if_pos hat.nonneg <| Ev.if_pos hat.sle ?_
    exact parse_j6 hF h1 f _ hz hat.rest
  | succ n ih =>
    intro acc j h0 hv hj hj1
    rw [List.replicate_succ, vl_cons] at hv
    have hg := vl_ge (List.replicate n 48) (acc * 10 + (48 - 48)) (by omega) (fun c hc => by rw [(List.mem_replicate.1 hc).2]; omega)
    have hns := hF.2.2.2
    have e1 : wrap64 (acc * 10) = acc * 10 := wrap64_id (by omega) (by omega)
    have e2 : wrap64 (j + 1) = j + 1 := wrap64_id (by omega) (by omega)
    refine Ev.step (fun k => zztime_Parse.l1.eq_2 _ _ _ _ _ _ _ _ _) <| Ev.if_pos (by omega) ?_
    rw [e1, e2]
    exact ih (acc * 10) (j + 1) (by omega) (by rw [← hv]; congr 1; omega) (by omega) (by omega)
theorem zone_no_digit {n : Nat} {Z : List Int} {o : Int} (hz : Zoned n Z o) {x : ByteArray} {i : Int} (hat : At (bytesOf x) i Z) : zztime_digit.f x i = some false := by
  rcases hz with ⟨e, rfl, rfl⟩ | ⟨q, u, sg, e, u0, u1, hq, rfl, ho⟩
  · exact digit_end hat
  · rw [digit_at hat, decide_eq_false (by rcases ho with h | h <;> omega)]
theorem parse_l0 {h m s ns o : Int} (hF : Fields h m s ns) (h1 : o ≠ -1) (f x : ByteArray) {Z : List Int} (hz : Zoned f.size Z o) : ∀ (G : List Int) (n : Nat) (acc i : Int), At (bytesOf x) i (G ++ Z) → (∀ c ∈ G, 48 ≤ c ∧ c ≤ 57) → 0 ≤ acc → vl acc (G ++ List.replicate n 48) = ns → i + G.length + n = 10 → 1 ≤ i →
    Ev (fun k => zztime_Parse.l0 k f x h m s acc i) (clockRes h m s ns o) := by
  intro G
  induction G with
  | nil =>
    intro n acc i hat hG h0 hv hi hi1
    have hi' : i + n = 10 := by simpa using hi
    exact Ev.step (fun k => zztime_Parse.l0.eq_2 _ _ _ _ _ _ _ _) <| Ev.bind (Ev.const (zone_no_digit hz hat)) <| Ev.if_neg (by decide) <| parse_l1 hF h1 f x hz hat (by omega) n acc i h0 hv hi' hi1
  | cons c t ih =>
    intro n acc i hat hG h0 hv hi hi1
    have hc := hG c (by simp)
    have hns := hF.2.2.2
    have hat' : At (bytesOf x) i (c :: (t ++ Z)) := hat
    rw [List.length_cons] at hi
    have hv' : vl (acc * 10 + (c - 48)) (t ++ List.replicate n 48) = ns := hv
    have hg := vl_ge (t ++ List.replicate n 48) (acc * 10 + (c - 48)) (by omega) (fun y hy => by
      rcases List.mem_append.1 hy with hy | hy
      · exact hG y (by simp [hy])
      · rw [(List.mem_replicate.1 hy).2]; omega)
    have e1 : wrap64 (wrap64 (acc * 10) + (bt x i - 48) % 256) = acc * 10 + (c - 48) := by
      rw [hat'.bt, wrap64_id (n := acc * 10) (by omega) (by omega), wrap64_id (by omega) (by omega)]; omega
    have e2 : wrap64 (i + 1) = i + 1 := wrap64_id (by omega) (by omega)
    refine Ev.step (fun k => zztime_Parse.l0.eq_2 _ _ _ _ _ _ _ _) <| Ev.bind (Ev.const (digit_at hat')) <| Ev.if_pos (decide_eq_true hc) <| Ev.if_pos (by omega) <| Ev.if_pos hat'.nonneg <| Ev.if_pos hat'.slt ?_
    rw [e1, e2]
    exact ih n (acc * 10 + (c - 48)) (i + 1) hat'.tail (fun y hy => hG y (by simp [hy])) (by omega) hv' (by omega) (by omega)
def frac (H : List Int) : List Int := if H = [] then [] else 46 :: H
theorem parse_j2 {h m s ns o : Int} (hF : Fields h m s ns) (h1 : o ≠ -1) (f x : ByteArray) {Z : List Int} (hz : Zoned f.size Z o) (H : List Int) (hH : H.length ≤ 9) (hd : ∀ c ∈ H, 48 ≤ c ∧ c ≤ 57) (hv : vl 0 (H ++ List.replicate (9 - H.length) 48) = ns) (hx : bytesOf x = frac H ++ Z) :
    Ev (fun k => zztime_Parse.j2 k f x h m s false) (clockRes h m s ns o) := by
  refine Ev.step (fun k => zztime_Parse.j2.eq_2 _ _ _ _ _ _ _) <| Ev.if_neg (by decide) ?_
  cases H with
  | nil =>
    have hns : ns = 0 := by rw [← hv]; rfl
    subst hns
    have hx : bytesOf x = Z := hx
    have j3 : Ev (fun k => zztime_Parse.j3 k f x h m s 0 false) (clockRes h m s 0 o) := Ev.step (fun k => zztime_Parse.j3.eq_2 _ _ _ _ _ _ _ _) <| Ev.if_neg (by decide) <| parse_j6 hF h1 f x hz hx
    have hz2 := hz
    rcases hz with ⟨e, rfl, rfl⟩ | ⟨q, u, sg, e, u0, u1, hq, rfl, ho⟩
    · have : x.size = 0 := by rw [piece_size hx]; rfl
      exact Ev.if_neg (by omega) j3
    · have a0 : At (bytesOf x) 0 (sg :: zparts q u) := hx ▸ At.zero _
      have : x.size = (zparts q u).length + 1 := by rw [piece_size hx]; rfl
      have hl : 2 ≤ (zparts q u).length := by unfold zparts; rw [List.length_append, dgs_length]; omega
      refine Ev.if_pos (by omega) <| Ev.if_pos (by omega) ?_
      rw [a0.bt]
      exact Ev.if_neg (by rcases ho with h | h <;> omega) <| Ev.if_neg (by rcases ho with h | h <;> omega) j3
  | cons c t =>
    have hx : bytesOf x = 46 :: c :: (t ++ Z) := hx
    have a0 : At (bytesOf x) 0 (46 :: c :: (t ++ Z)) := hx ▸ At.zero _
    have a1 : At (bytesOf x) 1 (c :: (t ++ Z)) := a0.tail
    have hs : x.size = (t ++ Z).length + 1 + 1 := by rw [piece_size hx]; rfl
    refine Ev.if_pos (by omega) <| Ev.if_pos (by omega) <| Ev.if_pos a0.bt <| Ev.bind (Ev.const (digit_at a1)) ?_
    rw [decide_eq_true (hd c (by simp))]
    refine Ev.step (fun k => zztime_Parse.j3.eq_2 _ _ _ _ _ _ _ _) <| Ev.if_pos rfl ?_
    exact parse_l0 hF h1 f x hz (c :: t) (9 - (c :: t).length) 0 1 a1 hd (by omega) hv (by omega) (by omega)
/-- A clock's text. -/
def clockText (h m s : Int) (H Z : List Int) : List Int := dgs 2 h ++ 58 :: (dgs 2 m ++ 58 :: (dgs 2 s ++ (frac H ++ Z)))
theorem head_of {s : ByteArray} {c : Int} {t : List Int} (h : bytesOf s = c :: t) : 0 < (s.size : Int) ∧ bt s 0 = c ∧ bytesOf (s.extract 1 s.size) = t ∧ 1 ≤ s.size := by
  have a0 : At (bytesOf s) 0 (c :: t) := h ▸ At.zero _
  have a1 : At (bytesOf s) 1 t := a0.tail
  have := a0.slt
  exact ⟨this, a0.bt, a1.rest, by omega⟩
theorem parse_read {h m s ns o : Int} (hF : Fields h m s ns) (h1 : o ≠ -1) (f x : ByteArray) {Z : List Int} (hz : Zoned f.size Z o) (H : List Int) (hH : H.length ≤ 9) (hd : ∀ c ∈ H, 48 ≤ c ∧ c ≤ 57) (hv : vl 0 (H ++ List.replicate (9 - H.length) 48) = ns) (hx : bytesOf x = clockText h m s H Z) :
    Ev (fun k => zztime_Parse.f k f x) (clockRes h m s ns o) := by
  obtain ⟨a, b, c, d⟩ := hF
  obtain ⟨r1, b1, v1⟩ := number_two (s := x) (t := 58 :: (dgs 2 m ++ 58 :: (dgs 2 s ++ (frac H ++ Z)))) (v := h) (by omega) (by omega) hx false
  obtain ⟨p1, p2, p3, p4⟩ := head_of b1
  obtain ⟨r2, b2, v2⟩ := number_two (s := r1.extract 1 r1.size) (t := 58 :: (dgs 2 s ++ (frac H ++ Z))) (v := m) (by omega) (by omega) p3 true
  obtain ⟨q1, q2, q3, q4⟩ := head_of b2
  obtain ⟨r3, b3, v3⟩ := number_two (s := r2.extract 1 r2.size) (t := frac H ++ Z) (v := s) (by omega) (by omega) q3 true
  have j1 : Ev (fun k => zztime_Parse.j1 k f r2 h m false) (clockRes h m s ns o) := by
    refine Ev.step (fun k => zztime_Parse.j1.eq_2 _ _ _ _ _ _) <| Ev.if_neg (by decide) <| Ev.if_pos (by omega) <| Ev.bind v3 <| Ev.if_pos rfl ?_
    show Ev (fun k => zztime_Parse.j2 k f r3 h m s (decide (s ≥ 60))) _
    rw [decide_eq_false (by omega)]
    exact parse_j2 ⟨a, b, c, d⟩ h1 f r3 hz H hH hd hv b3
  have j0 : Ev (fun k => zztime_Parse.j0 k f r1 h false) (clockRes h m s ns o) := by
    refine Ev.step (fun k => zztime_Parse.j0.eq_2 _ _ _ _ _) <| Ev.if_neg (by decide) <| Ev.if_pos (by omega) <| Ev.bind v2 <| Ev.if_pos rfl <| Ev.if_neg (by show ¬ m ≥ 60; omega) <| Ev.if_neg (nonempty_list q4) <| Ev.if_pos q1 ?_
    show Ev (fun k => zztime_Parse.j1 k f r2 h m (bt r2 0 != 58)) _
    rw [q2]
    exact j1
  unfold zztime_Parse.f
  refine Ev.bind v1 <| Ev.if_pos rfl <| Ev.if_neg (by show ¬ h ≥ 24; omega) <| Ev.if_neg (nonempty_list p4) <| Ev.if_pos p1 ?_
  show Ev (fun k => zztime_Parse.j0 k f r1 h (bt r1 0 != 58)) _
  rw [p2]
  exact j0
/-- No clock of ours begins with 24:00:00. -/
theorem no_24 (x : ByteArray) {h : Int} {t : List Int} (h0 : 0 ≤ h ∧ h < 24) (hx : bytesOf x = dgs 2 h ++ t) (hs : 8 ≤ x.size) : strings_HasPrefix.f x (⟨#[50, 52, 58, 48, 48, 58, 48, 48]⟩ : ByteArray) = some false := by
  have e8 : ((⟨#[50, 52, 58, 48, 48, 58, 48, 48]⟩ : ByteArray)).size = 8 := rfl
  have hne : ((x.extract 0 (((8 : Nat) : Int)).toNat).toList == (⟨#[50, 52, 58, 48, 48, 58, 48, 48]⟩ : ByteArray).toList) = false := by
    rw [beq_eq_false_iff_ne]
    intro e
    have e2 := toList_eq_iff.1 e
    rw [bytesOf_extract, hx] at e2
    have e3 : (48 + h / 10 % 10) :: (48 + h % 10) :: ((t.take 6)) = [50, 52, 58, 48, 48, 58, 48, 48] := e2
    injection e3 with e4 e5
    injection e5 with e5 _
    omega
  unfold strings_HasPrefix.f stringslite_HasPrefix.f
  rw [e8, _root_.if_pos (by omega), _root_.if_pos (by omega), _root_.if_pos (by omega), hne]
  rfl
theorem clock_len (h m s : Int) (H Z : List Int) : (clockText h m s H Z).length = 8 + (frac H ++ Z).length := by
  unfold clockText
  simp only [List.length_append, List.length_cons, dgs_length]
  omega
theorem clock_count {h m s ns : Int} (hF : Fields h m s ns) (H Z : List Int) (hd : ∀ c ∈ H, 48 ≤ c ∧ c ≤ 57) : howMany 58 (clockText h m s H Z) = 2 + howMany 58 Z := by
  obtain ⟨a, b, c, d⟩ := hF
  have d1 : howMany 58 (dgs 2 h) = 0 := howMany_digits rfl (dgs_digit 2 _ (by omega))
  have d2 : howMany 58 (dgs 2 m) = 0 := howMany_digits rfl (dgs_digit 2 _ (by omega))
  have d3 : howMany 58 (dgs 2 s) = 0 := howMany_digits rfl (dgs_digit 2 _ (by omega))
  have d4 : howMany 58 (frac H) = 0 := by
    unfold frac
    split
    · rfl
    · rw [howMany_other _ (by decide)]; exact howMany_digits rfl hd
  unfold clockText
  simp only [howMany_append, howMany_colon, d1, d2, d3, d4]
  omega
end Go.Proofs.Ytlhjblbmhlelbab.Lib
