/- FnSettings: its walk, for every text. Conditions: named by each theorem. -/
import Derived.Test.YtlhjblbmhlelbaaDsnP
import Derived.Test.YtlhjblbmhlelbaaPx2
import Derived.Test.YtlhjblbmhlelbaaPx5
namespace Go.Proofs.Ytlhjblbmhlelbaa.P
open Go.RowKit Go.Proofs.YtlhjblbmhlelbaaW.PrintWords Go.Proofs.YtlhjblbmhlelbaaW.PrintLast Go.Proofs.YtlhjblbmhlelbaaW.PrintMore Go.Proofs.Ytlhjblbmhlelbaa.Lib
set_option linter.unusedVariables false
set_option linter.unusedSimpArgs false
theorem wr1 {s : ByteArray} {i : Int} (hs : s.size ≤ 140737488351232) (h0 : 0 ≤ i) (h1 : i ≤ (s.size : Int)) : wrap64 (i + 1) = i + 1 := wrap64_id (by omega) (by omega)
theorem text9_l (s : ByteArray) (hs : s.size ≤ 140737488351232) : ∀ (l : List Int) (i : Int), At (bytesOf s) i l → ∃ b, Ev (fun k => laws_text9.l0 k s i) b := by
  intro l
  induction l with
  | nil =>
    intro i h
    exact ⟨true, Ev.step (fun k => laws_text9.l0.eq_2 _ _ _) <| Ev.if_neg (by have := h.snil; omega) <| Ev.now _⟩
  | cons c t ih =>
    intro i h
    obtain ⟨b, hb⟩ := ih (i + 1) h.tail
    by_cases hc : bt s i = 0
    · exact ⟨false, Ev.step (fun k => laws_text9.l0.eq_2 _ _ _) <| Ev.if_pos h.slt <| Ev.if_pos h.nonneg <| Ev.if_pos hc <| Ev.now _⟩
    · refine ⟨b, Ev.step (fun k => laws_text9.l0.eq_2 _ _ _) <| Ev.if_pos h.slt <| Ev.if_pos h.nonneg <| Ev.if_neg hc ?_⟩
      rw [wr1 hs h.nonneg h.sle]
      exact hb
theorem text9_tot (s : ByteArray) (hs : s.size ≤ 140737488351232) : ∃ k b, laws_text9.f k s = some b ∧ (b = true → s.size ≤ 1000) := by
  unfold laws_text9.f
  by_cases h : (s.size : Int) > 1000
  · exact ⟨0, false, by rw [if_pos h], fun e => by cases e⟩
  · obtain ⟨b, hb⟩ := text9_l s hs _ 0 (At.zero _)
    obtain ⟨k, hk⟩ := hb.rounds
    exact ⟨k, b, by rw [if_neg h]; exact hk, fun _ => by omega⟩
theorem ascii9_l (s : ByteArray) (hs : s.size ≤ 140737488351232) : ∀ (l : List Int) (i : Int), At (bytesOf s) i l → ∃ b, Ev (fun k => laws_ascii9.l0 k s i) b ∧ (b = true → Asc l) := by
  intro l
  induction l with
  | nil =>
    intro i h
    exact ⟨true, Ev.step (fun k => laws_ascii9.l0.eq_2 _ _ _) <| Ev.if_neg (by have := h.snil; omega) <| Ev.now _, fun _ c hc => by cases hc⟩
  | cons c t ih =>
    intro i h
    obtain ⟨b, hb, ha⟩ := ih (i + 1) h.tail
    by_cases hc : bt s i ≥ 128
    · exact ⟨false, Ev.step (fun k => laws_ascii9.l0.eq_2 _ _ _) <| Ev.if_pos h.slt <| Ev.if_pos h.nonneg <| Ev.if_pos hc <| Ev.now _, fun e => by cases e⟩
    · refine ⟨b, Ev.step (fun k => laws_ascii9.l0.eq_2 _ _ _) <| Ev.if_pos h.slt <| Ev.if_pos h.nonneg <| Ev.if_neg hc ?_, fun e x hx => ?_⟩
      · rw [wr1 hs h.nonneg h.sle]
        exact hb
      · rcases List.mem_cons.1 hx with rfl | hx
        · have := h.byte; have := h.bt; omega
        · exact ha e x hx
theorem ascii9_tot (s : ByteArray) (hs : s.size ≤ 140737488351232) : ∃ k b, laws_ascii9.f k s = some b ∧ (b = true → Asc (bytesOf s)) := by
  obtain ⟨b, hb, ha⟩ := ascii9_l s hs _ 0 (At.zero _)
  obtain ⟨k, hk⟩ := hb.rounds
  exact ⟨k, b, hk, ha⟩
theorem url_l (a : ByteArray) (xs : List ByteArray) (hx : xs.length ≤ 100) : ∀ (n i : Nat), i + n = xs.length → ∃ r, spec_isURL.l0 (n + 1) a xs i = some r := by
  intro n
  induction n with
  | zero => intro i h; exact ⟨false, by rw [spec_isURL.l0, if_neg (by omega)]⟩
  | succ n ih =>
    intro i h
    obtain ⟨r, hr⟩ := ih (i + 1) (by omega)
    have hw : wrap64 ((i : Int) + 1) = ((i + 1 : Nat) : Int) := by rw [wrap64_id (by omega) (by omega)]; omega
    rw [spec_isURL.l0, if_pos (by omega), if_pos (by omega), hw, hr]
    by_cases h1 : (a.size : Int) ≥ ((rdOf ByteArray.empty xs (i : Int)).size : Int)
    · rw [if_pos h1, if_pos (by omega), if_pos h1]
      split
      · exact ⟨_, rfl⟩
      · exact ⟨_, rfl⟩
    · rw [if_neg h1]
      exact ⟨_, rfl⟩
theorem url_tot (a : ByteArray) : ∃ k r, spec_isURL.f k a = some r := by
  obtain ⟨r, hr⟩ := url_l a ([(⟨#[112, 111, 115, 116, 103, 114, 101, 115, 58, 47, 47]⟩ : ByteArray), (⟨#[112, 111, 115, 116, 103, 114, 101, 115, 113, 108, 58, 47, 47]⟩ : ByteArray)] : List ByteArray) (by decide) 2 0 rfl
  exact ⟨3, r, hr⟩
theorem same_l (xs : List Se) (hx : xs.length ≤ 1000000) : ∀ (n i : Nat), i + n = xs.length → spec_SameSettings.l0 (n + 1) xs xs i = some true := by
  intro n
  induction n with
  | zero => intro i h; rw [spec_SameSettings.l0, if_neg (by omega)]
  | succ n ih =>
    intro i h
    have hw : wrap64 ((i : Int) + 1) = ((i + 1 : Nat) : Int) := by rw [wrap64_id (by omega) (by omega)]; omega
    rw [spec_SameSettings.l0, if_pos (by omega), if_pos (by omega), if_pos (by omega), if_neg (by simp), hw, ih (i + 1) (by omega)]
theorem same_self_f (xs : List Se) (hx : xs.length ≤ 1000000) : spec_SameSettings.f (xs.length + 1) xs xs = some true := by
  unfold spec_SameSettings.f
  rw [if_pos rfl]
  exact same_l xs hx xs.length 0 (by omega)
theorem putAll_len : ∀ (A : List (List Int × List Int)) (xs : List Se), (putAll xs A).length ≤ xs.length + A.length
  | [], xs => Nat.le_refl _
  | p :: A, xs => by
    have h1 := putAll_len A (putG (seOf p) false xs)
    have h2 := putG_len (seOf p) xs false
    show (putAll (putG (seOf p) false xs) A).length ≤ _
    simp only [List.length_cons]
    omega
theorem parse_len : ∀ (n : Nat) (l : List Int) (A : List (List Int × List Int)), parseL n l = some A → A.length ≤ n
  | 0, l, A, h => by cases h
  | n + 1, l, A, h => by
    unfold parseL at h
    split at h
    · injection h with h; subst h; simp
    · split at h
      · split at h
        · injection h with h; subst h; simp
        · obtain ⟨v, _, h2⟩ := Option.bind_eq_some_iff.1 h
          obtain ⟨r, h3, rfl⟩ := Option.map_eq_some_iff.1 h2
          have := parse_len n _ _ h3
          simp; omega
      · cases h
/-- impl.Settings, by the list that the spec tells. -/
def ImplRes (w : World) (r : Option (List Se)) (e : Ending) (w' : World) : Prop :=
  (∀ xs, r = some xs → ∃ v, e = .returned (.tuple #[v, .bool true]) ∧ RowS w.heap.size v xs w') ∧ (r = none → e = .returned (.tuple #[.slice none 0 0, .bool false]))
theorem implSettings_any (a : ByteArray) (hz : a.size ≤ 4000) (ha : Asc (bytesOf a)) (w : World) :
    Calls Try.prog 9 #[.string a] w fun e w' => Below w.heap.size w w' ∧ ImplRes w ((parseL (a.size + 1) (bytesOf a)).map (putAll [])) e w' := by
  refine (Settings_any a w hz ha).mono fun e w' ⟨hb, h1, h2⟩ => ⟨hb, fun xs hx => ?_, fun hx => h2 (by simpa using hx)⟩
  obtain ⟨A, hA, rfl⟩ := Option.map_eq_some_iff.1 hx
  obtain ⟨v, ys, he, hr, hu, hd⟩ := h1 A hA
  rw [all_eq A ys hu hd] at hr
  exact ⟨v, he, hr⟩
set_option maxHeartbeats 4000000 in
set_option maxRecDepth 100000 in
theorem FnSettings_walk (a0 : ByteArray) (w : World) (w0 : a0.size ≤ 140737488351232) :
    Calls Try.prog 3 #[.string a0] w fun e w' => e = .returned (.bool true) ∧ Below w.heap.size w w' := by
  obtain ⟨k1, b1, h1, hs1⟩ := text9_tot a0 w0
  obtain ⟨k2, b2, h2, hs2⟩ := ascii9_tot a0 w0
  have HT := Aside0.mk (fun W => laws_text9.calls k1 a0 b1 W h1)
  have HA := Aside0.mk (fun W => laws_ascii9.calls k2 a0 b2 W h2)
  clear h1 h2
  by_cases hbig : (a0.size : Int) > 2147483647
  · have c2b0 : decide (2147483647 < (a0.size : Int)) = true := decide_eq_true hbig
    have c2b1 : decide (2147483647 < a0.size) = true := decide_eq_true (by omega)
    clear hbig
    go_enter Try.func3, Try.ntmps3
    go_wp2
    go_ret
    exact ⟨rfl, Below.refl _ _⟩
  have c2b0 : decide (2147483647 < (a0.size : Int)) = false := decide_eq_false hbig
  have c2b1 : decide (2147483647 < a0.size) = false := decide_eq_false (by omega)
  clear hbig
  cases b1 with
  | false =>
    clear hs1 hs2
    go_enter Try.func3, Try.ntmps3
    go_wp2_with (first | (go_at_call 6; (with_reducible refine (HT.out _).mono ?_); rintro e w' ⟨rfl, ⟨n1, rfl⟩⟩))
    go_ret
    exact ⟨rfl, by repeat (first | exact Below.refl _ _ | apply pw_below_drewN)⟩
  | true =>
  cases b2 with
  | false =>
    clear hs1 hs2
    go_enter Try.func3, Try.ntmps3
    go_wp2_with (first | (go_at_call 6; (with_reducible refine (HT.out _).mono ?_); rintro e w' ⟨rfl, ⟨n1, rfl⟩⟩) | (go_at_call 7; (with_reducible refine (HA.out _).mono ?_); rintro e w' ⟨rfl, ⟨n2, rfl⟩⟩))
    go_ret
    exact ⟨rfl, by repeat (first | exact Below.refl _ _ | apply pw_below_drewN)⟩
  | true =>
  have hz : a0.size ≤ 1000 := hs1 rfl
  have ha : Asc (bytesOf a0) := hs2 rfl
  obtain ⟨ku, url, hu⟩ := url_tot a0
  have HSP := Aside0.mk (specSettings_any a0 (by omega) ku url hu)
  have HIM := Aside0.mk (implSettings_any a0 (by omega) ha)
  have HPL := Aside0.mk (parse_len (a0.size + 1) (bytesOf a0))
  have HZ := Aside0.mk hz
  clear hs1 hs2 hz ha hu
  cases hp : parseL (a0.size + 1) (bytesOf a0) with
  | none =>
    rw [hp] at HSP HIM
    clear hp
    cases url with
    | true =>
      go_enter Try.func3, Try.ntmps3
      go_wp2_with (first | (go_at_call 6; (with_reducible refine (HT.out _).mono ?_); rintro e w' ⟨rfl, ⟨n1, rfl⟩⟩) | (go_at_call 7; (with_reducible refine (HA.out _).mono ?_); rintro e w' ⟨rfl, ⟨n2, rfl⟩⟩) | (go_at_call 8; (with_reducible refine (HSP.out _).mono ?_); rintro e w1 ⟨hb, h1, h2⟩; have HB1 := Aside0.mk (⟨hb.os, hb.tape, hb.output, hb.size, hb.block⟩ : Below w.heap.size w w1); obtain rfl := h2 rfl; clear hb h1 h2))
      go_ret
      exact ⟨rfl, HB1.out⟩
    | false =>
      go_enter Try.func3, Try.ntmps3
      go_wp2_with (first | (go_at_call 6; (with_reducible refine (HT.out _).mono ?_); rintro e w' ⟨rfl, ⟨n1, rfl⟩⟩) | (go_at_call 7; (with_reducible refine (HA.out _).mono ?_); rintro e w' ⟨rfl, ⟨n2, rfl⟩⟩) | (go_at_call 8; (with_reducible refine (HSP.out _).mono ?_); rintro e w1 ⟨hb, h1, h2⟩; have HB1 := Aside0.mk (⟨hb.os, hb.tape, hb.output, hb.size, hb.block⟩ : Below w.heap.size w w1); obtain rfl := h2 rfl; clear hb h1 h2) | (go_at_call 9; (with_reducible refine (HIM.out _).mono ?_); rintro e w2 ⟨hb, h1, h2⟩; have HB2 := Aside0.mk (below_step HB1.out hb); obtain rfl := h2 rfl; clear hb h1 h2))
      go_ret
      exact ⟨rfl, HB2.out⟩
  | some A =>
    rw [hp] at HSP HIM
    have HX : Aside0 ((putAll [] A).length ≤ 1000000) := ⟨by have h1 := HPL.out A hp; have h2 := putAll_len A []; have h3 := HZ.out; simp only [List.length_nil] at h2; omega⟩
    clear hp
    obtain ⟨xs, hxs⟩ : ∃ xs, xs = putAll [] A := ⟨_, rfl⟩
    have hm : (some A).map (putAll []) = some xs := by rw [hxs]; rfl
    rw [hm] at HSP HIM
    rw [← hxs] at HX
    clear hm hxs HPL
    cases url with
    | true =>
      go_enter Try.func3, Try.ntmps3
      go_wp2_with (first | (go_at_call 6; (with_reducible refine (HT.out _).mono ?_); rintro e w' ⟨rfl, ⟨n1, rfl⟩⟩) | (go_at_call 7; (with_reducible refine (HA.out _).mono ?_); rintro e w' ⟨rfl, ⟨n2, rfl⟩⟩) | (go_at_call 8; (with_reducible refine (HSP.out _).mono ?_); rintro e w1 ⟨hb, h1, h2⟩; have HB1 := Aside0.mk (⟨hb.os, hb.tape, hb.output, hb.size, hb.block⟩ : Below w.heap.size w w1); obtain ⟨v1, rfl, hr⟩ := h1 _ rfl; have HR1 := Aside0.mk hr; clear hr; clear hb h1 h2))
      go_ret
      exact ⟨rfl, HB1.out⟩
    | false =>
      go_enter Try.func3, Try.ntmps3
      go_wp2_with (first | (go_at_call 6; (with_reducible refine (HT.out _).mono ?_); rintro e w' ⟨rfl, ⟨n1, rfl⟩⟩) | (go_at_call 7; (with_reducible refine (HA.out _).mono ?_); rintro e w' ⟨rfl, ⟨n2, rfl⟩⟩) | (go_at_call 8; (with_reducible refine (HSP.out _).mono ?_); rintro e w1 ⟨hb, h1, h2⟩; have HB1 := Aside0.mk (⟨hb.os, hb.tape, hb.output, hb.size, hb.block⟩ : Below w.heap.size w w1); obtain ⟨v1, rfl, hr⟩ := h1 _ rfl; have HR1 := Aside0.mk hr; clear hr; clear hb h1 h2) | (go_at_call 9; (with_reducible refine (HIM.out _).mono ?_); rintro e w2 ⟨hb, h1, h2⟩; have HB2 := Aside0.mk (below_step HB1.out hb); obtain ⟨v2, rfl, hr⟩ := h1 _ rfl; obtain ⟨A1, c1, rfl, hle1, hC1⟩ := Kd.R_reads (Kd.R_below HR1.out hb); obtain ⟨A2, c2, rfl, hle2, hC2⟩ := Kd.R_reads hr; have HC := Aside0.mk (And.intro (And.intro hle1 hC1) (And.intro hle2 hC2)); clear hr hle1 hC1 hle2 hC2; clear hb h1 h2) | (go_at_call 10; (with_reducible refine (spec_SameSettings.calls _ A2 c2 xs A1 c1 xs true _ HC.out.2.2 HC.out.2.1 HC.out.1.2 HC.out.1.1 (same_self_f xs HX.out)).mono ?_); rintro e w' ⟨rfl, ⟨n3, rfl⟩⟩))
      go_ret
      exact ⟨rfl, pw_below_drewN HB2.out _⟩
end Go.Proofs.Ytlhjblbmhlelbaa.P
