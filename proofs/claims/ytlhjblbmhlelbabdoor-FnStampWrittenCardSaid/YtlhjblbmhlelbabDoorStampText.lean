/- The text of a date and time: what Format writes and what the law's own text is. Conditions: the ranges that each lemma names. -/
import Derived.Test.YtlhjblbmhlelbabDoorPx8
import Derived.Test.YtlhjblbmhlelbabDoorPx3
import Derived.Test.YtlhjblbmhlelbabDoorFmt
import Derived.Test.YtlhjblbmhlelbabDoorStampDate
import Derived.Test.YtlhjblbmhlelbabDoorClockText
namespace Go.Proofs.YtlhjblbmhlelbabDoor.Lib
open Go.RowKit Go.Proofs.YtlhjblbmhlelbabDoor.P Go.Proofs.YtlhjblbmhlelbabDoorW.PrintWords Go.Proofs.YtlhjblbmhlelbabDoorW.PrintLast Go.Proofs.YtlhjblbmhlelbabDoorW.PrintMore
set_option linter.unusedVariables false
set_option linter.unusedSimpArgs false
theorem p10_pos : ∀ j, 1 ≤ p10 j
  | 0 => Int.le_refl _
  | j + 1 => by have := p10_pos j; show 1 ≤ 10 * p10 j; omega
/-- So many digits a number has, w at least. -/
def Wide (j : Nat) (w x : Int) : Prop := (j : Int) = w ∨ (w ≤ j ∧ ∃ i, j = i + 1 ∧ p10 i ≤ x)
theorem wide_exact (w : Nat) (x : Int) : Wide w w x := .inl rfl
theorem pad_end (w : Int) (x : ByteArray) (h : w ≤ x.size) : Ev (fun k => spec_padded.l1 k w x) x := Ev.step (fun k => spec_padded.l1.eq_2 _ _ _) <| Ev.if_neg (by omega) <| Ev.now _
theorem pad_l0g (w : Int) (hw : w ≤ 100) : ∀ (j : Nat) (x : Int) (y : ByteArray), 0 ≤ x → x ≤ 2000000000 → x < p10 j → 1 ≤ y.size → y.size + j ≤ 50 → ((y.size : Int) + j = w ∨ (w ≤ y.size + j ∧ (j = 0 ∨ ∃ i, j = i + 1 ∧ p10 i ≤ x))) → ∃ r, bytesOf r = dgs j x ++ bytesOf y ∧ Ev (fun k => spec_padded.l0 k x w y) r
  | 0, x, y, h0, hx, h, hy, hb, hs => by
    have h : x < 1 := h
    exact ⟨y, rfl, Ev.step (fun k => spec_padded.l0.eq_2 _ _ _ _) <| Ev.if_neg (by omega) <| Ev.if_neg (nonempty_list hy) (pad_end w y (by rcases hs with h | h <;> omega))⟩
  | j + 1, x, y, h0, hx, h, hy, hb, hs => by
    have h : x < 10 * p10 j := h
    by_cases hp : x > 0
    · have hd := one_digit x h0 hx
      have h1 : (strOfNums [(wrap64 (48 + Int.tmod x 10)) % 256]).size = 1 := piece_size hd
      have hsz : (strOfNums [(wrap64 (48 + Int.tmod x 10)) % 256] ++ y).size = 1 + y.size := by rw [ByteArray.size_append, h1]
      obtain ⟨r, hr, e⟩ := pad_l0g w hw j (x / 10) (strOfNums [(wrap64 (48 + Int.tmod x 10)) % 256] ++ y) (by omega) (by omega) (by omega) (by omega) (by omega) (by
        rw [hsz]
        rcases hs with h2 | ⟨h2, h3⟩
        · left; omega
        · right
          refine ⟨by omega, ?_⟩
          rcases h3 with h3 | ⟨i, h3, h4⟩
          · omega
          · have hij : i = j := by omega
            subst hij
            cases i with
            | zero => exact .inl rfl
            | succ i =>
              have h4 : 10 * p10 i ≤ x := h4
              exact .inr ⟨i, rfl, by omega⟩)
      refine ⟨r, ?_, Ev.step (fun k => spec_padded.l0.eq_2 _ _ _ _) <| Ev.if_pos hp <| Ev.bind (Ev.now _) <| Ev.if_pos (by rw [h1]; omega) ?_⟩
      · rw [hr, bytesOf_append, hd]
        show _ = (dgs j (x / 10) ++ [48 + x % 10]) ++ bytesOf y
        simp
      · rw [tenth x h0 hx]; exact e
    · have : x = 0 := by omega
      subst this
      rcases hs with h2 | ⟨h2, h3⟩
      · obtain ⟨r, hr, e⟩ := pad_l1 w hw (j + 1) y h2
        exact ⟨r, by rw [hr, dgs_zero], Ev.step (fun k => spec_padded.l0.eq_2 _ _ _ _) <| Ev.if_neg hp <| Ev.if_neg (nonempty_list hy) e⟩
      · rcases h3 with h3 | ⟨i, h3, h4⟩
        · omega
        · have := p10_pos i; omega
/-- padded, of whatever width. -/
theorem padded_g (j : Nat) (x w : Int) (hw : w ≤ 100) (hj : j ≤ 40) (h0 : 0 ≤ x) (hx : x ≤ 2000000000) (h : x < p10 (j + 1)) (hs : Wide (j + 1) w x) : ∃ r, bytesOf r = dgs (j + 1) x ∧ Ev (fun k => spec_padded.f k x w) r := by
  have h : x < 10 * p10 j := h
  have hd := one_digit x h0 hx
  have h1 : (strOfNums [(wrap64 (48 + Int.tmod x 10)) % 256]).size = 1 := piece_size hd
  have e0 : ((⟨#[]⟩ : ByteArray)).size = 0 := rfl
  have hsz : (strOfNums [(wrap64 (48 + Int.tmod x 10)) % 256] ++ (⟨#[]⟩ : ByteArray)).size = 1 := by rw [ByteArray.size_append, h1, e0]
  obtain ⟨r, hr, e⟩ := pad_l0g w hw j (x / 10) (strOfNums [(wrap64 (48 + Int.tmod x 10)) % 256] ++ (⟨#[]⟩ : ByteArray)) (by omega) (by omega) (by omega) (by omega) (by omega) (by
    rw [hsz]
    rcases hs with h2 | ⟨h2, i, h3, h4⟩
    · left; omega
    · right
      refine ⟨by omega, ?_⟩
      have hij : i = j := by omega
      subst hij
      cases i with
      | zero => exact .inl rfl
      | succ i =>
        have h4 : 10 * p10 i ≤ x := h4
        exact .inr ⟨i, rfl, by omega⟩)
  have e' : Ev (fun k => spec_padded.l0 k (wrap64 (Int.tdiv x 10)) w (strOfNums [(wrap64 (48 + Int.tmod x 10)) % 256] ++ (⟨#[]⟩ : ByteArray))) r := by rw [tenth x h0 hx]; exact e
  refine ⟨r, ?_, ?_⟩
  · rw [hr, bytesOf_append, hd, bytesOf_nil]; rfl
  · unfold spec_padded.f
    by_cases hp : x > 0
    · exact Ev.step (fun k => spec_padded.l0.eq_2 _ _ _ _) <| Ev.if_pos hp <| Ev.bind (Ev.now _) <| Ev.if_pos (by rw [h1, e0]; omega) e'
    · exact Ev.step (fun k => spec_padded.l0.eq_2 _ _ _ _) <| Ev.if_neg hp <| Ev.if_pos nil_list <| Ev.bind (Ev.now _) <| Ev.if_pos (by rw [h1, e0]; omega) e'
/-! ### the library's own padded -/
theorem zp_l1 (b d : List Int) (hd : d.length ≤ 100) : ∀ (i : Nat) (b : List Int), i ≤ d.length → b.length + i ≤ 2000 → Ev (fun k => zztime_padded.l1 k b d ((i : Int) - 1)) (b ++ (d.take i).reverse)
  | 0, b, _, _ => Ev.step (fun k => zztime_padded.l1.eq_2 _ _ _ _) <| Ev.if_neg (by omega) <| Ev.eq (Ev.now _) (by simp)
  | i + 1, b, hi, hb => by
    have hrd : rd d (((i + 1 : Nat) : Int) - 1) = d[i] := by
      unfold Go.Proofs.YtlhjblbmhlelbabDoorW.PrintWords.rd
      rw [show ((((i + 1 : Nat) : Int) - 1)).toNat = i by omega, List.getD_eq_getElem?_getD, List.getElem?_eq_getElem (by omega)]; rfl
    have ih := zp_l1 b d hd i (b ++ [d[i]]) (by omega) (by simp; omega)
    refine Ev.step (fun k => zztime_padded.l1.eq_2 _ _ _ _) <| Ev.if_pos (by omega) <| Ev.if_pos (by omega) <| Ev.if_pos (by omega) <| Ev.if_pos (by omega) ?_
    rw [hrd, show wrap64 (((i + 1 : Nat) : Int) - 1 - 1) = (i : Int) - 1 by rw [wrap64_id (by omega) (by omega)]; omega]
    refine Ev.eq ih ?_
    rw [List.take_succ_eq_append_getElem (by omega), List.reverse_append]
    simp
theorem zdigit (x : Int) (h0 : 0 ≤ x) (h1 : x ≤ 2000000000) : (wrap64 (48 + (Int.tmod x 10))) % 256 = 48 + x % 10 := by
  rw [Int.tmod_eq_emod_of_nonneg h0, wrap64_id (by omega) (by omega)]; omega
theorem zp_l0 (w : Int) (hw : w ≤ 100) (b : List Int) (hb : b.length ≤ 900) : ∀ (j : Nat) (x : Int) (d : List Int), 0 ≤ x → x ≤ 2000000000 → x < p10 j → d.length + j ≤ 50 → ((d.length : Int) + j = w ∨ (w ≤ d.length + j ∧ (j = 0 ∨ ∃ i, j = i + 1 ∧ p10 i ≤ x))) → Ev (fun k => zztime_padded.l0 k b x w d) (b ++ dgs j x ++ d.reverse)
  | 0, x, d, h0, hx, h, hl, hs => by
    have h : x < 1 := h
    refine Ev.step (fun k => zztime_padded.l0.eq_2 _ _ _ _ _) <| Ev.if_neg (by omega) <| Ev.if_neg (by rcases hs with h | h <;> omega) ?_
    rw [wrap64_id (by omega) (by omega)]
    refine Ev.eq (zp_l1 b d (by omega) d.length b (Nat.le_refl _) (by omega)) ?_
    simp [dgs]
  | j + 1, x, d, h0, hx, h, hl, hs => by
    have h : x < 10 * p10 j := h
    have next : ∀ (hs' : (((d ++ [48 + x % 10]).length : Int) + j = w ∨ (w ≤ (d ++ [48 + x % 10]).length + j ∧ (j = 0 ∨ ∃ i, j = i + 1 ∧ p10 i ≤ x / 10)))), Ev (fun k => zztime_padded.l0 k b (wrap64 (Int.tdiv x 10)) w (d ++ [(wrap64 (48 + (Int.tmod x 10))) % 256])) (b ++ dgs (j + 1) x ++ d.reverse) := by
      intro hs'
      rw [tenth x h0 hx, zdigit x h0 hx]
      refine Ev.eq (zp_l0 w hw b hb j (x / 10) (d ++ [48 + x % 10]) (by omega) (by omega) (by omega) (by simp; omega) hs') ?_
      show _ = b ++ (dgs j (x / 10) ++ [48 + x % 10]) ++ d.reverse
      simp
    by_cases hp : x > 0
    · refine Ev.step (fun k => zztime_padded.l0.eq_2 _ _ _ _ _) <| Ev.if_pos hp <| Ev.if_pos (by omega) (next ?_)
      rw [List.length_append]
      rcases hs with h2 | ⟨h2, h3⟩
      · left; simp; omega
      · right
        refine ⟨by simp; omega, ?_⟩
        rcases h3 with h3 | ⟨i, h3, h4⟩
        · omega
        · have hij : i = j := by omega
          subst hij
          cases i with
          | zero => exact .inl rfl
          | succ i =>
            have h4 : 10 * p10 i ≤ x := h4
            exact .inr ⟨i, rfl, by omega⟩
    · have : x = 0 := by omega
      subst this
      rcases hs with h2 | ⟨h2, h3⟩
      · refine Ev.step (fun k => zztime_padded.l0.eq_2 _ _ _ _ _) <| Ev.if_neg hp <| Ev.if_pos (by omega) <| Ev.if_pos (by omega) (next ?_)
        left; rw [List.length_append]; simp; omega
      · rcases h3 with h3 | ⟨i, h3, h4⟩
        · omega
        · have := p10_pos i; omega
theorem zpad (b : List Int) (j : Nat) (x w : Int) (hb : b.length ≤ 900) (hw : w ≤ 100) (hj : j ≤ 40) (h0 : 0 ≤ x) (hx : x ≤ 2000000000) (h : x < p10 j) (hs : Wide j w x) : Ev (fun k => zztime_padded.f k b x w) (b ++ dgs j x) := by
  unfold zztime_padded.f
  refine Ev.eq (zp_l0 w hw b hb j x [] h0 hx h (by simp; omega) ?_) (by simp)
  rcases hs with h2 | ⟨h2, h3⟩
  · left; simpa using h2
  · right; exact ⟨by simpa using h2, .inr h3⟩
/-- The year's width. -/
theorem year_wide (y : Int) (h0 : 1 ≤ y) (h1 : y ≤ 299000) : ∃ j : Nat, j ≤ 5 ∧ 3 ≤ j ∧ y < p10 (j + 1) ∧ Wide (j + 1) 4 y := by
  by_cases a : y < 10000
  · exact ⟨3, by omega, by omega, a, .inl rfl⟩
  · by_cases b : y < 100000
    · exact ⟨4, by omega, by omega, b, .inr ⟨by omega, 4, rfl, by show (10000 : Int) ≤ y; omega⟩⟩
    · exact ⟨5, by omega, by omega, by show y < 1000000; omega, .inr ⟨by omega, 5, rfl, by show (100000 : Int) ≤ y; omega⟩⟩
/-! ### the fraction without its last noughts -/
def Cut (H : List Int) : Prop := H = [] ∨ ∃ H' c, H = H' ++ [c] ∧ c ≠ 48
theorem strip_ex : ∀ (n : Nat) (L : List Int), L.length = n → ∃ H m, L = H ++ List.replicate m 48 ∧ Cut H
  | 0, L, h => ⟨[], 0, by simpa using h, .inl rfl⟩
  | n + 1, L, h => by
    rcases List.eq_nil_or_concat L with e | ⟨L', c, e⟩
    · rw [e] at h; simp at h
    · subst e
      by_cases hc : c = 48
      · obtain ⟨H, m, e, hH⟩ := strip_ex n L' (by simpa using h)
        exact ⟨H, m + 1, by rw [e, hc, List.replicate_succ']; simp, hH⟩
      · exact ⟨L' ++ [c], 0, by simp, .inr ⟨L', c, rfl, hc⟩⟩
theorem frac_ex (ns : Int) (h0 : 0 ≤ ns) (h1 : ns < 1000000000) : ∃ H m, dgs 9 ns = H ++ List.replicate m 48 ∧ Cut H ∧ H.length + m = 9 ∧ (0 < ns ↔ H ≠ []) := by
  obtain ⟨H, m, e, hH⟩ := strip_ex 9 (dgs 9 ns) (dgs_length _ _)
  have hl : H.length + m = 9 := by have := dgs_length 9 ns; rw [e] at this; simpa using this
  refine ⟨H, m, e, hH, hl, ?_⟩
  constructor
  · intro hp hn
    subst hn
    have : m = 9 := by simpa using hl
    subst this
    have h2 := vl_dgs 9 ns h0 (by show ns < 1000000000; omega)
    rw [e] at h2
    have h3 : vl 0 ([] ++ List.replicate 9 48) = 0 := by decide
    omega
  · intro hn
    by_cases hp : 0 < ns
    · exact hp
    · have : ns = 0 := by omega
      subst this
      rw [dgs_zero] at e
      rcases hH with h | ⟨H', c, h, hc⟩
      · exact absurd h hn
      · have : c ∈ List.replicate 9 (48 : Int) := by rw [e, h]; simp
        exact absurd (List.eq_of_mem_replicate this) hc
theorem cut0 (x5 x6 : ByteArray) (h6 : x6.size = 9) (h5 : x5.size ≤ 100) (H : List Int) (n : Nat) (hx : bytesOf x6 = H ++ List.replicate n 48) (hH : Cut H) :
    ∃ r : ByteArray, bytesOf r = bytesOf x5 ++ (if H = [] then [] else 46 :: H) ∧ ∀ i, i ≤ n → Ev (fun k => spec_TimeText.l0 k 0 x5 x6 ((H.length + i : Nat) : Int)) r := by
  have hl : H.length + n = 9 := by have h7 := bytesOf_length x6; rw [hx, h6] at h7; simpa using h7
  have last : ∃ r : ByteArray, bytesOf r = bytesOf x5 ++ (if H = [] then [] else 46 :: H) ∧
      ∀ k : Nat, (if (H.length : Int) > 0 then (if 0 ≤ (H.length : Int) then (if (H.length : Int) ≤ (x6.size : Int) then (if 1 + (x6.extract 0 (H.length : Int).toNat).size ≤ 9223372036854775807 then (if x5.size + ((⟨#[46]⟩ : ByteArray) ++ (x6.extract 0 (H.length : Int).toNat)).size ≤ 9223372036854775807 then (some (x5 ++ ((⟨#[46]⟩ : ByteArray) ++ (x6.extract 0 (H.length : Int).toNat)))) else (none)) else (none)) else (none)) else (none)) else (some x5)) = some r := by
    by_cases h0 : H = []
    · exact ⟨x5, by rw [_root_.if_pos h0]; simp, fun k => _root_.if_neg (by rw [h0]; simp)⟩
    · have hp : 0 < H.length := List.length_pos_iff.2 h0
      have hE : bytesOf (x6.extract 0 (H.length : Int).toNat) = H := by
        rw [bytesOf_extract, hx, Int.toNat_natCast]
        simp
      have hEs : (x6.extract 0 (H.length : Int).toNat).size = H.length := piece_size hE
      refine ⟨x5 ++ ((⟨#[46]⟩ : ByteArray) ++ (x6.extract 0 (H.length : Int).toNat)), ?_, fun k => ?_⟩
      · rw [bytesOf_append, bytesOf_append, hE, _root_.if_neg h0]; rfl
      · rw [_root_.if_pos (by omega), _root_.if_pos (by omega), _root_.if_pos (by omega), _root_.if_pos (by omega), _root_.if_pos (by rw [ByteArray.size_append, hEs, show (⟨#[46]⟩ : ByteArray).size = 1 from rfl]; omega)]
  obtain ⟨r, hr, e⟩ := last
  refine ⟨r, hr, ?_⟩
  intro i
  induction i with
  | zero =>
    intro hi
    rw [Nat.add_zero]
    rcases hH with h | ⟨H', c, h, hc⟩
    · exact Ev.step (fun k => spec_TimeText.l0.eq_2 _ _ _ _ _) <| Ev.if_neg (by rw [h]; simp) <| Ev.congr e <| Ev.now _
    · have hHl : H.length = H'.length + 1 := by rw [h]; simp
      have hw : wrap64 ((H.length : Int) - 1) = (H'.length : Int) := by rw [wrap64_id (by omega) (by omega)]; omega
      have hat : At (bytesOf x6) (H'.length : Int) (c :: List.replicate n 48) := At.of_eq (p := H') (by rw [hx, h]; simp) rfl
      have hbt : bt x6 (H'.length : Int) = c := hat.bt
      refine Ev.step (fun k => spec_TimeText.l0.eq_2 _ _ _ _ _) <| Ev.if_pos (by omega) ?_
      rw [hw]
      exact Ev.if_pos (by omega) <| Ev.if_pos (by omega) <| Ev.if_neg (by rw [hbt]; exact hc) <| Ev.congr e <| Ev.now _
  | succ i ih =>
    intro hi
    have hw : wrap64 (((H.length + (i + 1) : Nat) : Int) - 1) = ((H.length + i : Nat) : Int) := by rw [wrap64_id (by omega) (by omega)]; omega
    have hat : At (bytesOf x6) ((H.length + i : Nat) : Int) (48 :: List.replicate (n - (i + 1)) 48) := At.of_eq (p := H ++ List.replicate i 48) (by
      rw [hx, List.append_assoc]
      congr 1
      rw [← List.replicate_succ, List.replicate_append_replicate]
      congr 1
      omega) (by simp)
    have hbt : bt x6 ((H.length + i : Nat) : Int) = 48 := hat.bt
    refine Ev.step (fun k => spec_TimeText.l0.eq_2 _ _ _ _ _) <| Ev.if_pos (by omega) ?_
    rw [hw]
    exact Ev.if_pos (by omega) <| Ev.if_pos (by omega) <| Ev.if_pos hbt (ih (by omega))
/-- The text of the time. -/
def timeL (h m s : Int) (H : List Int) : List Int := dgs 2 h ++ 58 :: (dgs 2 m ++ 58 :: (dgs 2 s ++ (if H = [] then [] else 46 :: H)))
theorem time_text0 (y o a h m s ns f : Int) (hh : 0 ≤ h ∧ h < 24) (hm : 0 ≤ m ∧ m < 60) (hs : 0 ≤ s ∧ s < 60) (hn : 0 ≤ ns ∧ ns < 1000000000) (H : List Int) (n : Nat) (hH : dgs 9 ns = H ++ List.replicate n 48) (hC : Cut H) :
    ∃ r : ByteArray, bytesOf r = timeL h m s H ∧ Ev (fun k => spec_TimeText.f k y o a h m s ns f 0) r := by
  obtain ⟨rh, eh, vh⟩ := padded 1 h 2 (by omega) rfl hh.1 (by omega) (by show h < 100; omega)
  obtain ⟨rm, em, vm⟩ := padded 1 m 2 (by omega) rfl hm.1 (by omega) (by show m < 100; omega)
  obtain ⟨rs, es, vs⟩ := padded 1 s 2 (by omega) rfl hs.1 (by omega) (by show s < 100; omega)
  obtain ⟨rn, en, vn⟩ := padded 8 ns 9 (by omega) rfl hn.1 (by omega) (by show ns < 1000000000; omega)
  have lh : rh.size = 2 := by rw [piece_size eh, dgs_length]
  have lm : rm.size = 2 := by rw [piece_size em, dgs_length]
  have ls : rs.size = 2 := by rw [piece_size es, dgs_length]
  have ln : rn.size = 9 := by rw [piece_size en, dgs_length]
  have lc : (⟨#[58]⟩ : ByteArray).size = 1 := rfl
  obtain ⟨r, a3, a4⟩ := cut0 ((((rh ++ (⟨#[58]⟩ : ByteArray)) ++ rm) ++ (⟨#[58]⟩ : ByteArray)) ++ rs) rn ln (by simp only [ByteArray.size_append, lh, lm, ls, lc]; omega) H n (by rw [en]; exact hH) hC
  have hl : H.length + n = 9 := by have := dgs_length 9 ns; rw [hH] at this; simpa using this
  have a5 := a4 n (Nat.le_refl _)
  rw [hl] at a5
  refine ⟨r, ?_, ?_⟩
  · rw [a3]
    simp only [bytesOf_append, eh, em, es, show bytesOf (⟨#[58]⟩ : ByteArray) = [58] from rfl, timeL]
    simp
  · unfold spec_TimeText.f
    exact Ev.bind vh <| Ev.if_pos (by omega) <| Ev.bind vm <| Ev.if_pos (by simp only [ByteArray.size_append, lh, lm, ls, lc]; omega) <| Ev.if_pos (by simp only [ByteArray.size_append, lh, lm, ls, lc]; omega) <| Ev.bind vs <| Ev.if_pos (by simp only [ByteArray.size_append, lh, lm, ls, lc]; omega) <| Ev.bind vn a5
/-! ### the zone -/
/-- The zone with its minutes, with its seconds if there are some. -/
def zoneL (o : Int) : List Int := if o < 0 then 45 :: (dgs 2 (-o / 3600) ++ 58 :: dgs 2 (-o / 60 % 60)) else 43 :: (dgs 2 (o / 3600) ++ 58 :: dgs 2 (o / 60 % 60))
theorem zone_j2 (u : Int) (h0 : 0 ≤ u) (h1 : u ≤ 57599) (x : ByteArray) (hx : x.size = 1) :
    ∃ r : ByteArray, bytesOf r = bytesOf x ++ (dgs 2 (u / 3600) ++ 58 :: dgs 2 (u / 60 % 60)) ++ (if u % 60 > 0 then 58 :: dgs 2 (u % 60) else []) ∧ Ev (fun k => spec_ZoneText.j0 k u 2 x) r := by
  have e1 : wrap64 (Int.tdiv u 3600) = u / 3600 := td h0 (by omega) (by decide)
  have e2 : Int.tmod (wrap64 (Int.tdiv u 60)) 60 = u / 60 % 60 := by rw [td h0 (by omega) (by decide), Int.tmod_eq_emod_of_nonneg (by omega)]
  have e3 : Int.tmod u 60 = u % 60 := Int.tmod_eq_emod_of_nonneg h0
  have e4 : Int.tmod u 3600 = u % 3600 := Int.tmod_eq_emod_of_nonneg h0
  obtain ⟨rh, eh, vh⟩ := padded 1 (u / 3600) 2 (by omega) rfl (by omega) (by omega) (by show u / 3600 < 100; omega)
  obtain ⟨rm, em, vm⟩ := padded 1 (u / 60 % 60) 2 (by omega) rfl (by omega) (by omega) (by show u / 60 % 60 < 100; omega)
  obtain ⟨rs, es, vs⟩ := padded 1 (u % 60) 2 (by omega) rfl (by omega) (by omega) (by show u % 60 < 100; omega)
  have lh : rh.size = 2 := by rw [piece_size eh, dgs_length]
  have lm : rm.size = 2 := by rw [piece_size em, dgs_length]
  have ls : rs.size = 2 := by rw [piece_size es, dgs_length]
  have lc : (⟨#[58]⟩ : ByteArray).size = 1 := rfl
  have bc : bytesOf (⟨#[58]⟩ : ByteArray) = [58] := rfl
  have long : ∃ r : ByteArray, bytesOf r = bytesOf x ++ (dgs 2 (u / 3600) ++ 58 :: dgs 2 (u / 60 % 60)) ++ (if u % 60 > 0 then 58 :: dgs 2 (u % 60) else []) ∧ Ev (fun k => spec_ZoneText.j1 k u 2 (x ++ rh) true) r := by
    by_cases hs : u % 60 > 0
    · refine ⟨(x ++ rh ++ ((⟨#[58]⟩ : ByteArray) ++ rm)) ++ ((⟨#[58]⟩ : ByteArray) ++ rs), by rw [_root_.if_pos hs]; simp [bytesOf_append, eh, em, es, bc], Ev.step (fun k => spec_ZoneText.j1.eq_2 _ _ _ _ _) <| Ev.if_pos rfl ?_⟩
      rw [e2, e3]
      exact Ev.bind vm <| Ev.if_pos (by omega) <| Ev.if_pos (by simp only [ByteArray.size_append, lh, lm, ls, lc, hx]; omega) <| Ev.if_pos hs <| Ev.bind vs <| Ev.if_pos (by omega) <| Ev.if_pos (by simp only [ByteArray.size_append, lh, lm, ls, lc, hx]; omega) <| Ev.now _
    · refine ⟨x ++ rh ++ ((⟨#[58]⟩ : ByteArray) ++ rm), by rw [_root_.if_neg hs]; simp [bytesOf_append, eh, em, es, bc], Ev.step (fun k => spec_ZoneText.j1.eq_2 _ _ _ _ _) <| Ev.if_pos rfl ?_⟩
      rw [e2, e3]
      exact Ev.bind vm <| Ev.if_pos (by omega) <| Ev.if_pos (by simp only [ByteArray.size_append, lh, lm, ls, lc, hx]; omega) <| Ev.if_neg hs <| Ev.if_neg (by decide) <| Ev.now _
  obtain ⟨r, hr, e⟩ := long
  refine ⟨r, hr, Ev.step (fun k => spec_ZoneText.j0.eq_2 _ _ _ _) ?_⟩
  rw [e1, e4]
  refine Ev.bind vh <| Ev.if_pos (by omega) ?_
  by_cases ht : u % 3600 > 0
  · exact Ev.if_pos ht e
  · exact Ev.if_neg ht (by rw [show decide ((2 : Int) > 1) = true from rfl]; exact e)
theorem small_dgs (a : Int) (h0 : 0 ≤ a) (h1 : a < 60) : (if a < 10 then [48] else []) ++ smallDigits a = dgs 2 a := by
  unfold smallDigits
  show _ = ([] ++ [48 + a / 10 % 10]) ++ [48 + a % 10]
  by_cases h : a < 10
  · rw [_root_.if_pos h, _root_.if_pos h, show a / 10 % 10 = 0 by omega, show a % 10 = a by omega]; rfl
  · rw [_root_.if_neg h, _root_.if_neg h, show a / 10 % 10 = a / 10 by omega]; rfl
/-- The zones that are written. -/
def ZoneOk (o : Int) : Prop := 0 ≤ o ∨ Int.tmod o 60 = 0
theorem zone_text2 (o : Int) (h0 : -57599 ≤ o) (h1 : o ≤ 57599) (hz : ZoneOk o) : ∃ r : ByteArray, bytesOf r = zoneL o ++ zoneRest o ∧ Ev (fun k => spec_ZoneText.f k o 2) r := by
  unfold spec_ZoneText.f
  by_cases h : o < 0
  · have h60 : Int.tmod o 60 = 0 := by rcases hz with h2 | h2 <;> first | exact h2 | omega
    have h61 : o % 60 = 0 := (tmod_neg (b := 60) h (by decide)).1.1 h60
    obtain ⟨r, hr, e⟩ := zone_j2 (-o) (by omega) (by omega) (⟨#[45]⟩ : ByteArray) rfl
    refine ⟨r, ?_, Ev.if_pos h ?_⟩
    · rw [hr, _root_.if_neg (by omega)]
      unfold zoneL zoneRest
      rw [_root_.if_pos h, _root_.if_pos h60]
      rfl
    · rw [wrap64_id (by omega) (by omega)]; exact e
  · obtain ⟨r, hr, e⟩ := zone_j2 o (by omega) (by omega) (⟨#[43]⟩ : ByteArray) rfl
    refine ⟨r, ?_, Ev.if_neg h e⟩
    rw [hr]
    have e3 : Int.tmod o 60 = o % 60 := Int.tmod_eq_emod_of_nonneg (by omega)
    unfold zoneL
    rw [_root_.if_neg h, zoneRest_eq o (o % 60) (o % 60) e3.symm (by rw [_root_.if_neg (by omega)])]
    by_cases hs : o % 60 > 0
    · rw [_root_.if_pos hs, _root_.if_neg (by omega), small_dgs _ (by omega) (by omega)]; rfl
    · rw [_root_.if_neg hs, _root_.if_pos (by omega)]; rfl
/-! ### Format -/
theorem zstrip (s n o : Int) {r : ByteArray} (X : List Int) (c : Int) (hc : c ≠ 48) (hX : X.length ≤ 800) (hr : Ev (fun k => zztime_Time_Format.j1 k (X ++ [c]) s n o) r) : ∀ m : Nat, m ≤ 20 → Ev (fun k => zztime_Time_Format.l0 k ((X ++ [c]) ++ List.replicate m 48) s n o) r
  | 0, _ => by
    have hl : (((X ++ [c]) ++ List.replicate 0 48).length : Int) = X.length + 1 := by simp
    have hw : wrap64 ((((X ++ [c]) ++ List.replicate 0 48).length : Int) - 1) = (X.length : Int) := by rw [hl, wrap64_id (by omega) (by omega)]; omega
    have hat : At ((X ++ [c]) ++ List.replicate 0 48) (X.length : Int) [c] := At.of_eq (p := X) (by simp) rfl
    refine Ev.step (fun k => zztime_Time_Format.l0.eq_2 _ _ _ _ _) ?_
    rw [hw, hl, hat.rd]
    refine Ev.if_pos (by omega) <| Ev.if_pos (by omega) <| Ev.if_neg hc ?_
    rw [List.replicate_zero, List.append_nil]
    exact hr
  | m + 1, hm => by
    have hl : (((X ++ [c]) ++ List.replicate (m + 1) 48).length : Int) = X.length + 1 + (m + 1) := by simp; omega
    have hw : wrap64 ((((X ++ [c]) ++ List.replicate (m + 1) 48).length : Int) - 1) = (X.length : Int) + 1 + m := by rw [hl, wrap64_id (by omega) (by omega)]; omega
    have hat : At ((X ++ [c]) ++ List.replicate (m + 1) 48) ((X.length : Int) + 1 + m) [48] := At.of_eq (p := (X ++ [c]) ++ List.replicate m 48) (by rw [List.replicate_succ']; simp) (by simp; omega)
    refine Ev.step (fun k => zztime_Time_Format.l0.eq_2 _ _ _ _ _) ?_
    rw [hw, hl, hat.rd]
    refine Ev.if_pos (by omega) <| Ev.if_pos (by omega) <| Ev.if_pos rfl <| Ev.if_pos (by omega) ?_
    have ht : ((X ++ [c]) ++ List.replicate (m + 1) 48).take ((X.length : Int) + 1 + m).toNat = (X ++ [c]) ++ List.replicate m 48 := by
      rw [List.replicate_succ', ← List.append_assoc]
      exact List.take_left' (by simp; omega)
    rw [ht]
    exact zstrip s n o X c hc hX hr m (by omega)
theorem format_zone (X : List Int) (hX : X.length ≤ 800) (s n o : Int) (h0 : -57599 ≤ o) (h1 : o ≤ 57599) (hz : ZoneOk o) : Ev (fun k => zztime_Time_Format.j1 k X s n o) (strOfNums (X ++ if o = 0 then [90] else zoneL o)) := by
  refine Ev.step (fun k => zztime_Time_Format.j1.eq_2 _ _ _ _ _) ?_
  by_cases e : o = 0
  · rw [_root_.if_pos e]
    exact Ev.if_pos e <| Ev.if_pos (by omega) <| Ev.now _
  · rw [_root_.if_neg e]
    refine Ev.if_neg e ?_
    by_cases h : o < 0
    · have h60 : Int.tmod o 60 = 0 := by rcases hz with h2 | h2 <;> first | exact h2 | omega
      obtain ⟨t1, t2⟩ := tmod_neg (b := 60) h (by decide)
      have h61 : o % 60 = 0 := t1.1 h60
      rw [_root_.if_pos h61] at t2
      have e1 : wrap64 (Int.tdiv o 60) = o / 60 := by rw [t2, wrap64_id (by omega) (by omega)]
      have e2 : wrap64 (-(o / 60)) = -(o / 60) := wrap64_id (by omega) (by omega)
      have e3 : wrap64 (Int.tdiv (-(o / 60)) 60) = -o / 3600 := by rw [td (by omega) (by omega) (by decide)]; omega
      have e4 : Int.tmod (-(o / 60)) 60 = -o / 60 % 60 := by rw [Int.tmod_eq_emod_of_nonneg (by omega)]; omega
      rw [e1, e2, e3, e4]
      have p1 := zpad (X ++ [45]) 2 (-o / 3600) 2 (by simp; omega) (by omega) (by omega) (by omega) (by omega) (by show -o / 3600 < 100; omega) (.inl rfl)
      have p2 := zpad ((X ++ [45]) ++ dgs 2 (-o / 3600) ++ [58]) 2 (-o / 60 % 60) 2 (by simp [dgs_length]; omega) (by omega) (by omega) (by omega) (by omega) (by show -o / 60 % 60 < 100; omega) (.inl rfl)
      refine Ev.if_pos (by omega) <| Ev.if_pos (by omega) <| Ev.bind p1 <| Ev.if_pos (by simp [dgs_length]; omega) <| Ev.bind p2 <| Ev.eq (Ev.now _) ?_
      unfold zoneL
      rw [_root_.if_pos h]
      simp
    · have e1 : wrap64 (Int.tdiv o 60) = o / 60 := td (by omega) (by omega) (by decide)
      have e3 : wrap64 (Int.tdiv (o / 60) 60) = o / 3600 := by rw [td (by omega) (by omega) (by decide)]; omega
      have e4 : Int.tmod (o / 60) 60 = o / 60 % 60 := Int.tmod_eq_emod_of_nonneg (by omega)
      rw [e1, e3, e4]
      have p1 := zpad (X ++ [43]) 2 (o / 3600) 2 (by simp; omega) (by omega) (by omega) (by omega) (by omega) (by show o / 3600 < 100; omega) (.inl rfl)
      have p2 := zpad ((X ++ [43]) ++ dgs 2 (o / 3600) ++ [58]) 2 (o / 60 % 60) 2 (by simp [dgs_length]; omega) (by omega) (by omega) (by omega) (by omega) (by show o / 60 % 60 < 100; omega) (.inl rfl)
      refine Ev.if_neg (by omega) <| Ev.if_pos (by omega) <| Ev.bind p1 <| Ev.if_pos (by simp [dgs_length]; omega) <| Ev.bind p2 <| Ev.eq (Ev.now _) ?_
      unfold zoneL
      rw [_root_.if_neg h]
      simp
/-- The text of a date, the year's digits being so many. -/
def dateL (j : Nat) (y m d : Int) : List Int := dgs j y ++ 45 :: (dgs 2 m ++ 45 :: dgs 2 d)
theorem format_f {y m d h mi s ns o : Int} (hR : Right y m d h mi s ns o) (hy : 1 ≤ y) (hz : ZoneOk o) (j : Nat) (hj : j ≤ 5) (hw : y < p10 (j + 1)) (hW : Wide (j + 1) 4 y) (H : List Int) (n : Nat) (hH : dgs 9 ns = H ++ List.replicate n 48) (hC : Cut H) (hpos : 0 < ns ↔ H ≠ []) (lay : ByteArray) :
    Ev (fun k => zztime_Time_Format.f k (secs y m d (h * 3600 + mi * 60 + s) o) ns o lay) (strOfNums (dateL (j + 1) y m d ++ 32 :: (timeL h mi s H ++ if o = 0 then [90] else zoneL o))) := by
  obtain ⟨hy', hm, hd, hh, hmi, hs, hns, ho⟩ := hR
  have h31 := daysIn_bd y m
  have hD := date_f y m d (h * 3600 + mi * 60 + s) ns o (secs y m d (h * 3600 + mi * 60 + s) o) (by omega) hm.1 hm.2 hd.1 hd.2 (by omega) ho rfl
  have t0 : 0 ≤ h * 3600 + mi * 60 + s := by omega
  have e1 : wrap64 (Int.tdiv (h * 3600 + mi * 60 + s) 3600) = h := by rw [td t0 (by omega) (by decide)]; omega
  have e2 : Int.tmod (wrap64 (Int.tdiv (h * 3600 + mi * 60 + s) 60)) 60 = mi := by rw [td t0 (by omega) (by decide), Int.tmod_eq_emod_of_nonneg (by omega)]; omega
  have e3 : Int.tmod (h * 3600 + mi * 60 + s) 60 = s := by rw [Int.tmod_eq_emod_of_nonneg t0]; omega
  have hl : H.length + n = 9 := by have := dgs_length 9 ns; rw [hH] at this; simpa using this
  obtain ⟨X, hX⟩ : ∃ X, X = dgs (j + 1) y ++ [45] ++ dgs 2 m ++ [45] ++ dgs 2 d ++ [32] ++ dgs 2 h ++ [58] ++ dgs 2 mi ++ [58] ++ dgs 2 s := ⟨_, rfl⟩
  have lX : X.length = j + 1 + 15 := by rw [hX]; simp [dgs_length]
  have p1 := zpad [] (j + 1) y 4 (by simp) (by omega) (by omega) (by omega) (by omega) hw hW
  have p2 := zpad (dgs (j + 1) y ++ [45]) 2 m 2 (by simp [dgs_length]; omega) (by omega) (by omega) (by omega) (by omega) (by show m < 100; omega) (.inl rfl)
  have p3 := zpad (dgs (j + 1) y ++ [45] ++ dgs 2 m ++ [45]) 2 d 2 (by simp [dgs_length]; omega) (by omega) (by omega) (by omega) (by omega) (by show d < 100; omega) (.inl rfl)
  have p4 := zpad (dgs (j + 1) y ++ [45] ++ dgs 2 m ++ [45] ++ dgs 2 d ++ [32]) 2 h 2 (by simp [dgs_length]; omega) (by omega) (by omega) (by omega) (by omega) (by show h < 100; omega) (.inl rfl)
  have p5 := zpad (dgs (j + 1) y ++ [45] ++ dgs 2 m ++ [45] ++ dgs 2 d ++ [32] ++ dgs 2 h ++ [58]) 2 mi 2 (by simp [dgs_length]; omega) (by omega) (by omega) (by omega) (by omega) (by show mi < 100; omega) (.inl rfl)
  have p6 := zpad (dgs (j + 1) y ++ [45] ++ dgs 2 m ++ [45] ++ dgs 2 d ++ [32] ++ dgs 2 h ++ [58] ++ dgs 2 mi ++ [58]) 2 s 2 (by simp [dgs_length]; omega) (by omega) (by omega) (by omega) (by omega) (by show s < 100; omega) (.inl rfl)
  rw [← hX] at p6
  rw [List.nil_append] at p1
  unfold zztime_Time_Format.f
  refine Ev.bind hD <| Ev.bind p1 <| Ev.if_pos (by simp [dgs_length]; omega) <| Ev.bind p2 <| Ev.if_pos (by simp [dgs_length]; omega) <| Ev.bind p3 <| Ev.if_pos (by simp [dgs_length]; omega) ?_
  simp only [e1, e2, e3]
  refine Ev.bind p4 <| Ev.if_pos (by simp [dgs_length]; omega) <| Ev.bind p5 <| Ev.if_pos (by simp [dgs_length]; omega) <| Ev.bind p6 ?_
  have fin : ∀ Y : List Int, Y = X ++ (if H = [] then [] else 46 :: H) → strOfNums (Y ++ if o = 0 then [90] else zoneL o) = strOfNums (dateL (j + 1) y m d ++ 32 :: (timeL h mi s H ++ if o = 0 then [90] else zoneL o)) := by
    intro Y hY
    rw [hY, hX]
    unfold dateL timeL
    simp
  by_cases hn : ns > 0
  · have hHn : H ≠ [] := hpos.1 hn
    have p7 := zpad (X ++ [46]) 9 ns 9 (by simp; omega) (by omega) (by omega) hns.1 (by omega) (by show ns < 1000000000; omega) (.inl rfl)
    refine Ev.if_pos hn <| Ev.if_pos (by omega) <| Ev.bind p7 ?_
    rcases hC with hC | ⟨H', c, hC, hc⟩
    · exact absurd hC hHn
    · have hHl : H.length = H'.length + 1 := by rw [hC]; simp
      have hz1 := format_zone ((X ++ [46] ++ H') ++ [c]) (by simp; omega) (secs y m d (h * 3600 + mi * 60 + s) o) ns o ho.1 ho.2 hz
      have hz2 := zstrip (secs y m d (h * 3600 + mi * 60 + s) o) ns o (X ++ [46] ++ H') c hc (by simp; omega) hz1 n (by omega)
      have e9 : X ++ [46] ++ dgs 9 ns = (X ++ [46] ++ H') ++ [c] ++ List.replicate n 48 := by rw [hH, hC]; simp
      rw [e9]
      exact Ev.eq hz2 (fin _ (by rw [_root_.if_neg hHn, hC]; simp))
  · have hHn : H = [] := by
      by_cases hc : H = []
      · exact hc
      · exact absurd (hpos.2 hc) hn
    exact Ev.if_neg hn (Ev.eq (format_zone X (by omega) (secs y m d (h * 3600 + mi * 60 + s) o) ns o ho.1 ho.2 hz) (fin X (by rw [_root_.if_pos hHn]; simp)))
end Go.Proofs.YtlhjblbmhlelbabDoor.Lib
