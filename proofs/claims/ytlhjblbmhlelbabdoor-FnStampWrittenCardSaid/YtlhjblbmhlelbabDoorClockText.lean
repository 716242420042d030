/- The text of a time of day and of its zone, and what the readers of a clock tell of it. Conditions: the ranges that each lemma names. -/
import Derived.Test.YtlhjblbmhlelbabDoorPx8
import Derived.Test.YtlhjblbmhlelbabDoorLib
namespace Go.Proofs.YtlhjblbmhlelbabDoor.Lib
open Go.RowKit Go.Proofs.YtlhjblbmhlelbabDoor.P Go.Proofs.YtlhjblbmhlelbabDoorW.PrintWords Go.Proofs.YtlhjblbmhlelbabDoorW.PrintLast Go.Proofs.YtlhjblbmhlelbabDoorW.PrintMore
set_option linter.unusedVariables false
set_option linter.unusedSimpArgs false
/-- The last j digits. -/
def dgs : Nat → Int → List Int
  | 0, _ => []
  | j + 1, x => dgs j (x / 10) ++ [48 + x % 10]
def p10 : Nat → Int
  | 0 => 1
  | j + 1 => 10 * p10 j
theorem dgs_zero : ∀ j, dgs j 0 = List.replicate j 48
  | 0 => rfl
  | j + 1 => by
    rw [List.replicate_succ']
    show dgs j (0 / 10) ++ [48 + 0 % 10] = _
    rw [show (0 : Int) / 10 = 0 from rfl, dgs_zero j]; rfl
theorem dgs_length : ∀ j x, (dgs j x).length = j
  | 0, _ => rfl
  | j + 1, x => by show (dgs j (x / 10) ++ [48 + x % 10]).length = _; rw [List.length_append, dgs_length j]; rfl
theorem dgs_digit : ∀ j x, 0 ≤ x → ∀ c ∈ dgs j x, 48 ≤ c ∧ c ≤ 57
  | 0, _, _, _, h => by cases h
  | j + 1, x, hx, c, h => by
    rcases List.mem_append.1 (show c ∈ dgs j (x / 10) ++ [48 + x % 10] from h) with h | h
    · exact dgs_digit j (x / 10) (by omega) c h
    · rw [List.mem_singleton.1 h]; omega
def vl (acc : Int) (l : List Int) : Int := l.foldl (fun a c => a * 10 + (c - 48)) acc
theorem vl_append (acc : Int) (l m : List Int) : vl acc (l ++ m) = vl (vl acc l) m := by unfold vl; rw [List.foldl_append]
theorem vl_cons (acc c : Int) (l : List Int) : vl acc (c :: l) = vl (acc * 10 + (c - 48)) l := rfl
theorem vl_ge : ∀ (l : List Int) (acc : Int), 0 ≤ acc → (∀ c ∈ l, 48 ≤ c ∧ c ≤ 57) → acc ≤ vl acc l
  | [], acc, _, _ => Int.le_refl _
  | c :: l, acc, h0, h => by
    have hc := h c (by simp)
    have := vl_ge l (acc * 10 + (c - 48)) (by omega) (fun y hy => h y (by simp [hy]))
    rw [vl_cons]; omega
theorem vl_dgs : ∀ j x, 0 ≤ x → x < p10 j → vl 0 (dgs j x) = x
  | 0, x, h0, h => by have : x < 1 := h; show (0 : Int) = x; omega
  | j + 1, x, h0, h => by
    have h' : x < 10 * p10 j := h
    show vl 0 (dgs j (x / 10) ++ [48 + x % 10]) = x
    rw [vl_append, vl_dgs j (x / 10) (by omega) (by omega)]
    show x / 10 * 10 + (48 + x % 10 - 48) = x
    omega
theorem one_digit (x : Int) (h0 : 0 ≤ x) (h1 : x ≤ 2000000000) : bytesOf (strOfNums [(wrap64 (48 + Int.tmod x 10)) % 256]) = [48 + x % 10] := by
  have e : (wrap64 (48 + Int.tmod x 10)) % 256 = 48 + x % 10 := by
    rw [Int.tmod_eq_emod_of_nonneg h0, wrap64_id (by omega) (by omega)]; omega
  rw [e]
  exact bytesOf_strOfNums (by intro c hc; rw [List.mem_singleton.1 hc]; omega)
theorem tenth (x : Int) (h0 : 0 ≤ x) (h1 : x ≤ 2000000000) : wrap64 (Int.tdiv x 10) = x / 10 := by
  rw [Int.tdiv_eq_ediv_of_nonneg h0, wrap64_id (by omega) (by omega)]
theorem pad_l1 (w : Int) (hw : w ≤ 100) : ∀ (m : Nat) (x : ByteArray), (x.size : Int) + m = w → ∃ r, bytesOf r = List.replicate m 48 ++ bytesOf x ∧ Ev (fun k => spec_padded.l1 k w x) r
  | 0, x, h => ⟨x, by simp, Ev.step (fun k => spec_padded.l1.eq_2 _ _ _) <| Ev.if_neg (by omega) <| Ev.now _⟩
  | m + 1, x, h => by
    obtain ⟨r, hr, e⟩ := pad_l1 w hw m ((⟨#[48]⟩ : ByteArray) ++ x) (by rw [ByteArray.size_append, show (⟨#[48]⟩ : ByteArray).size = 1 from rfl]; omega)
    refine ⟨r, ?_, Ev.step (fun k => spec_padded.l1.eq_2 _ _ _) <| Ev.if_pos (by omega) <| Ev.if_pos (by omega) e⟩
    rw [hr, bytesOf_append, List.replicate_succ', show bytesOf (⟨#[48]⟩ : ByteArray) = [48] from rfl]
    simp
theorem nil_list : (⟨#[]⟩ : ByteArray).toList = ([] : List UInt8) := by rw [ByteArray.toList, ByteArray.toList.loop]; rfl
theorem nonempty_list {x : ByteArray} (h : 1 ≤ x.size) : ¬ x.toList = ([] : List UInt8) := by
  intro e
  have e2 : x.toList = (⟨#[]⟩ : ByteArray).toList := by rw [e, nil_list]
  have := congrArg List.length (toList_eq_iff.1 e2)
  rw [bytesOf_length, bytesOf_nil] at this
  have h9 : x.size = 0 := this
  omega
theorem empty_list {x : ByteArray} (h : bytesOf x = []) : x.toList = ([] : List UInt8) := by
  have : x = ⟨#[]⟩ := bytesOf_inj h
  rw [this, nil_list]
theorem pad_l0 (w : Int) (hw : w ≤ 100) : ∀ (j : Nat) (x : Int) (y : ByteArray), 0 ≤ x → x ≤ 2000000000 → x < p10 j → 1 ≤ y.size → (y.size : Int) + j = w → ∃ r, bytesOf r = dgs j x ++ bytesOf y ∧ Ev (fun k => spec_padded.l0 k x w y) r
  | 0, x, y, h0, hx, h, hy, hs => by
    have h : x < 1 := h
    obtain ⟨r, hr, e⟩ := pad_l1 w hw 0 y hs
    exact ⟨r, hr, Ev.step (fun k => spec_padded.l0.eq_2 _ _ _ _) <| Ev.if_neg (by omega) <| Ev.if_neg (nonempty_list hy) e⟩
  | j + 1, x, y, h0, hx, h, hy, hs => by
    have h : x < 10 * p10 j := h
    by_cases hp : x > 0
    · have hd := one_digit x h0 hx
      have h1 : (strOfNums [(wrap64 (48 + Int.tmod x 10)) % 256]).size = 1 := piece_size hd
      obtain ⟨r, hr, e⟩ := pad_l0 w hw j (x / 10) (strOfNums [(wrap64 (48 + Int.tmod x 10)) % 256] ++ y) (by omega) (by omega) (by omega) (by rw [ByteArray.size_append]; omega) (by rw [ByteArray.size_append, h1]; omega)
      refine ⟨r, ?_, Ev.step (fun k => spec_padded.l0.eq_2 _ _ _ _) <| Ev.if_pos hp <| Ev.bind (Ev.now _) <| Ev.if_pos (by rw [h1]; omega) ?_⟩
      · rw [hr, bytesOf_append, hd]
        show _ = (dgs j (x / 10) ++ [48 + x % 10]) ++ bytesOf y
        simp
      · rw [tenth x h0 hx]; exact e
    · have : x = 0 := by omega
      subst this
      obtain ⟨r, hr, e⟩ := pad_l1 w hw (j + 1) y hs
      exact ⟨r, by rw [hr, dgs_zero], Ev.step (fun k => spec_padded.l0.eq_2 _ _ _ _) <| Ev.if_neg hp <| Ev.if_neg (nonempty_list hy) e⟩
/-- padded. -/
theorem padded (j : Nat) (x w : Int) (hw : w ≤ 100) (hj : w = j + 1) (h0 : 0 ≤ x) (hx : x ≤ 2000000000) (h : x < p10 (j + 1)) : ∃ r, bytesOf r = dgs (j + 1) x ∧ Ev (fun k => spec_padded.f k x w) r := by
  have h : x < 10 * p10 j := h
  have hd := one_digit x h0 hx
  have h1 : (strOfNums [(wrap64 (48 + Int.tmod x 10)) % 256]).size = 1 := piece_size hd
  have e0 : ((⟨#[]⟩ : ByteArray)).size = 0 := rfl
  obtain ⟨r, hr, e⟩ := pad_l0 w hw j (x / 10) (strOfNums [(wrap64 (48 + Int.tmod x 10)) % 256] ++ (⟨#[]⟩ : ByteArray)) (by omega) (by omega) (by omega) (by rw [ByteArray.size_append]; omega) (by rw [ByteArray.size_append, h1, e0]; omega)
  have e' : Ev (fun k => spec_padded.l0 k (wrap64 (Int.tdiv x 10)) w (strOfNums [(wrap64 (48 + Int.tmod x 10)) % 256] ++ (⟨#[]⟩ : ByteArray))) r := by rw [tenth x h0 hx]; exact e
  refine ⟨r, ?_, ?_⟩
  · rw [hr, bytesOf_append, hd, bytesOf_nil]; rfl
  · unfold spec_padded.f
    by_cases hp : x > 0
    · exact Ev.step (fun k => spec_padded.l0.eq_2 _ _ _ _) <| Ev.if_pos hp <| Ev.bind (Ev.now _) <| Ev.if_pos (by rw [h1, e0]; omega) e'
    · exact Ev.step (fun k => spec_padded.l0.eq_2 _ _ _ _) <| Ev.if_neg hp <| Ev.if_pos nil_list <| Ev.bind (Ev.now _) <| Ev.if_pos (by rw [h1, e0]; omega) e'
theorem At.of_eq {xs p l : List Int} {i : Int} (h : xs = p ++ l) (hi : i = p.length) : At xs i l := by
  have := At.zero xs
  have h2 : At xs 0 (p ++ l) := h ▸ this
  have := h2.drop
  rw [Int.zero_add] at this
  rw [hi]; exact this
/-- The cut of a fraction. -/
theorem cut_l (d : Int) (hd : 0 ≤ d) (x5 x6 : ByteArray) (h6 : x6.size = 9) (h5 : x5.size ≤ 100) : ∀ (m : Nat) (G : List Int), m ≤ 9 → G.length = m → bytesOf x6 = G ++ List.replicate (9 - m) 48 →
    ∃ (H : List Int) (r : ByteArray), H.length ≤ 9 ∧ bytesOf x6 = H ++ List.replicate (9 - H.length) 48 ∧ bytesOf r = bytesOf x5 ++ (if H = [] then [] else 46 :: H) ∧ Ev (fun k => spec_TimeText.l0 k d x5 x6 (m : Int)) r := by
  have last : ∀ (m : Nat) (G : List Int), m ≤ 9 → G.length = m → bytesOf x6 = G ++ List.replicate (9 - m) 48 → ∃ r : ByteArray, bytesOf r = bytesOf x5 ++ (if G = [] then [] else 46 :: G) ∧
      ∀ k : Nat, (if (m : Int) > 0 then (if 0 ≤ (m : Int) then (if (m : Int) ≤ (x6.size : Int) then (if 1 + (x6.extract 0 (m : Int).toNat).size ≤ 9223372036854775807 then (if x5.size + ((⟨#[46]⟩ : ByteArray) ++ (x6.extract 0 (m : Int).toNat)).size ≤ 9223372036854775807 then (some (x5 ++ ((⟨#[46]⟩ : ByteArray) ++ (x6.extract 0 (m : Int).toNat)))) else (none)) else (none)) else (none)) else (none)) else (some x5)) = some r := by
    intro m G hm hG hx
    by_cases h0 : m = 0
    · subst h0
      have : G = [] := List.eq_nil_of_length_eq_zero hG
      subst this
      exact ⟨x5, by simp, fun k => _root_.if_neg (by omega)⟩
    · have hGn : G ≠ [] := fun e => h0 (by rw [← hG, e]; rfl)
      have hE : bytesOf (x6.extract 0 (m : Int).toNat) = G := by
        rw [bytesOf_extract, hx, Int.toNat_natCast, ← hG]
        simp
      have hEs : (x6.extract 0 (m : Int).toNat).size = m := by rw [piece_size hE, hG]
      refine ⟨x5 ++ ((⟨#[46]⟩ : ByteArray) ++ (x6.extract 0 (m : Int).toNat)), ?_, fun k => ?_⟩
      · rw [bytesOf_append, bytesOf_append, hE, _root_.if_neg hGn]; rfl
      · rw [_root_.if_pos (by omega), _root_.if_pos (by omega), _root_.if_pos (by omega), _root_.if_pos (by omega), _root_.if_pos (by rw [ByteArray.size_append, hEs, show (⟨#[46]⟩ : ByteArray).size = 1 from rfl]; omega)]
  intro m
  induction m with
  | zero =>
    intro G hm hG hx
    obtain ⟨r, hr, e⟩ := last 0 G hm hG hx
    exact ⟨G, r, by omega, by rw [hG]; exact hx, hr, Ev.step (fun k => spec_TimeText.l0.eq_2 _ _ _ _ _) <| Ev.if_neg (by omega) <| Ev.congr e <| Ev.now _⟩
  | succ m ih =>
    intro G hm hG hx
    obtain ⟨r, hr, e⟩ := last (m + 1) G hm hG hx
    rcases List.eq_nil_or_concat G with h | ⟨G', c, h⟩
    · rw [h] at hG; simp at hG
    · have hG' : G'.length = m := by rw [h] at hG; simp at hG; exact hG
      by_cases hmd : ((m + 1 : Nat) : Int) > d
      · have hw : wrap64 (((m + 1 : Nat) : Int) - 1) = (m : Int) := by rw [wrap64_id (by omega) (by omega)]; omega
        have hat : At (bytesOf x6) (m : Int) (c :: List.replicate (9 - (m + 1)) 48) := At.of_eq (p := G') (by rw [hx, h]; simp) (by rw [hG'])
        have hbt : bt x6 (m : Int) = c := hat.bt
        by_cases hc : c = 48
        · obtain ⟨H, r, a1, a2, a3, a4⟩ := ih G' (by omega) hG' (by
            rw [hx, h, hc, show 9 - m = (9 - (m + 1)) + 1 by omega, List.replicate_succ]; simp)
          refine ⟨H, r, a1, a2, a3, Ev.step (fun k => spec_TimeText.l0.eq_2 _ _ _ _ _) <| Ev.if_pos hmd ?_⟩
          rw [hw]
          exact Ev.if_pos (by omega) <| Ev.if_pos (by omega) <| Ev.if_pos (by rw [hbt]; exact hc) a4
        · refine ⟨G, r, by omega, by rw [hG]; exact hx, hr, Ev.step (fun k => spec_TimeText.l0.eq_2 _ _ _ _ _) <| Ev.if_pos hmd ?_⟩
          rw [hw]
          exact Ev.if_pos (by omega) <| Ev.if_pos (by omega) <| Ev.if_neg (by rw [hbt]; exact hc) <| Ev.congr e <| Ev.now _
      · exact ⟨G, r, by omega, by rw [hG]; exact hx, hr, Ev.step (fun k => spec_TimeText.l0.eq_2 _ _ _ _ _) <| Ev.if_neg hmd <| Ev.congr e <| Ev.now _⟩
/-- TimeText. -/
theorem time_text (y o a b h m s ns d : Int) (hh : 0 ≤ h ∧ h < 24) (hm : 0 ≤ m ∧ m < 60) (hs : 0 ≤ s ∧ s < 60) (hn : 0 ≤ ns ∧ ns < 1000000000) (hd : 0 ≤ d) (f : Int) :
    ∃ (H : List Int) (r : ByteArray), H.length ≤ 9 ∧ dgs 9 ns = H ++ List.replicate (9 - H.length) 48 ∧ bytesOf r = dgs 2 h ++ 58 :: (dgs 2 m ++ 58 :: (dgs 2 s ++ (if H = [] then [] else 46 :: H))) ∧ Ev (fun k => spec_TimeText.f k y o a h m s ns f d) r := by
  obtain ⟨rh, eh, vh⟩ := padded 1 h 2 (by omega) rfl hh.1 (by omega) (by show h < 100; omega)
  obtain ⟨rm, em, vm⟩ := padded 1 m 2 (by omega) rfl hm.1 (by omega) (by show m < 100; omega)
  obtain ⟨rs, es, vs⟩ := padded 1 s 2 (by omega) rfl hs.1 (by omega) (by show s < 100; omega)
  obtain ⟨rn, en, vn⟩ := padded 8 ns 9 (by omega) rfl hn.1 (by omega) (by show ns < 1000000000; omega)
  have lh : rh.size = 2 := by rw [piece_size eh, dgs_length]
  have lm : rm.size = 2 := by rw [piece_size em, dgs_length]
  have ls : rs.size = 2 := by rw [piece_size es, dgs_length]
  have ln : rn.size = 9 := by rw [piece_size en, dgs_length]
  have lc : (⟨#[58]⟩ : ByteArray).size = 1 := rfl
  obtain ⟨H, r, a1, a2, a3, a4⟩ := cut_l d hd ((((rh ++ (⟨#[58]⟩ : ByteArray)) ++ rm) ++ (⟨#[58]⟩ : ByteArray)) ++ rs) rn ln (by simp only [ByteArray.size_append, lh, lm, ls, lc]; omega) 9 (dgs 9 ns) (by omega) (dgs_length _ _) (by rw [en]; simp)
  refine ⟨H, r, a1, by rw [← en]; exact a2, ?_, ?_⟩
  · rw [a3]
    simp only [bytesOf_append, eh, em, es, show bytesOf (⟨#[58]⟩ : ByteArray) = [58] from rfl]
    simp
  · unfold spec_TimeText.f
    exact Ev.bind vh <| Ev.if_pos (by omega) <| Ev.bind vm <| Ev.if_pos (by simp only [ByteArray.size_append, lh, lm, ls, lc]; omega) <| Ev.if_pos (by simp only [ByteArray.size_append, lh, lm, ls, lc]; omega) <| Ev.bind vs <| Ev.if_pos (by simp only [ByteArray.size_append, lh, lm, ls, lc]; omega) <| Ev.bind vn a4
end Go.Proofs.YtlhjblbmhlelbabDoor.Lib
