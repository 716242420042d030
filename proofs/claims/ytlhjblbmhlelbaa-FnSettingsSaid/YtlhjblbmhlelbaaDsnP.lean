/- spec.Settings: its walk. Conditions: named by each theorem. -/
import Derived.Test.YtlhjblbmhlelbaaDsnO
import Derived.Test.YtlhjblbmhlelbaaPx2
namespace Go.Proofs.Ytlhjblbmhlelbaa.P
open Go.RowKit Go.Proofs.YtlhjblbmhlelbaaW.PrintWords Go.Proofs.YtlhjblbmhlelbaaW.PrintLast Go.Proofs.YtlhjblbmhlelbaaW.PrintMore Go.Proofs.Ytlhjblbmhlelbaa.Lib
set_option linter.unusedVariables false
set_option linter.unusedSimpArgs false
/-- What spec.Settings hands back: r is what is read. -/
def SpecRes (w : World) (sure : Bool) (r : Option (List Se)) (e : Ending) (w' : World) : Prop :=
  (∀ xs, r = some xs → ∃ v, e = .returned (.tuple #[v, .bool true, .bool sure]) ∧ RowS w.heap.size v xs w') ∧
  (r = none → e = .returned (.tuple #[.slice none 0 0, .bool false, .bool sure]))
theorem res_some {w w' : World} {sure : Bool} {r : Option (List Se)} {xs : List Se} {v : Value} (hr : r = some xs) (h : RowS w.heap.size v xs w') : SpecRes w sure r (.returned (.tuple #[v, .bool true, .bool sure])) w' :=
  ⟨fun ys e => by rw [hr] at e; injection e with e; subst e; exact ⟨v, rfl, h⟩, fun e => by rw [hr] at e; cases e⟩
theorem res_none {w w' : World} {sure : Bool} {r : Option (List Se)} (hr : r = none) : SpecRes w sure r (.returned (.tuple #[.slice none 0 0, .bool false, .bool sure])) w' :=
  ⟨fun ys e => by rw [hr] at e; (cases e), fun _ => rfl⟩
theorem tail_w {s : ByteArray} {i c : Int} {t : List Int} (hs : s.size ≤ 1000000) (h : At (bytesOf s) i (c :: t)) : At (bytesOf s) (wrap64 (i + 1)) t := by rw [At.wrap hs h]; exact h.tail
theorem bne_of_eq {x d : Int} (h : x = d) : (x != d) = false := by rw [h]; simp
theorem bne_of_ne {x d y : Int} (h : x = d) (hn : (d != y) = true) : (x != y) = true := by rw [h]; exact hn
/-- Behind a part of the keyword: l2 is left of l1, at place j. -/
structure KeyAt (a : ByteArray) (i : Int) (l1 l2 : List Int) (j : Int) : Prop where
  at_ : At (bytesOf a) i l1
  ex : ∃ p, l1 = p ++ l2 ∧ j = i + p.length ∧ keyL l1 = (p ++ (keyL l2).1, (keyL l2).2)
section
variable {a : ByteArray} {i j : Int} {l1 l2 t : List Int} {d : Int}
theorem KeyAt.start (h : At (bytesOf a) i l1) : KeyAt a i l1 l1 i := ⟨h, [], rfl, by simp, by simp⟩
theorem KeyAt.lo (h : KeyAt a i l1 l2 j) : 0 ≤ i := h.at_.1
theorem KeyAt.le (h : KeyAt a i l1 l2 j) : i ≤ j := by obtain ⟨p, _, e, _⟩ := h.ex; omega
theorem KeyAt.stop (h : KeyAt a i l1 l2 j) (hs : keyL l2 = ([], l2)) : bytesOf (a.extract i.toNat j.toNat) = (keyL l1).1 ∧ (keyL l1).2 = l2 := by
  obtain ⟨p, e1, e2, e3⟩ := h.ex
  rw [e3, hs, List.append_nil]
  have := h.at_
  rw [e1] at this
  exact ⟨At.piece this e2, rfl⟩
theorem KeyAt.stop0 (h : KeyAt a i l1 [] j) : bytesOf (a.extract i.toNat j.toNat) = (keyL l1).1 ∧ (keyL l1).2 = [] := h.stop rfl
theorem KeyAt.step (h : KeyAt a i l1 (d :: t) j) (hs : ¬ (spI d = true ∨ d = 61)) : KeyAt a i l1 t (j + 1) := by
  obtain ⟨p, e1, e2, e3⟩ := h.ex
  refine ⟨h.at_, p ++ [d], by rw [e1]; simp, by rw [e2]; simp; omega, ?_⟩
  rw [e3]
  have : keyL (d :: t) = (d :: (keyL t).1, (keyL t).2) := by rw [keyL]; exact if_neg hs
  rw [this]
  simp
end
set_option maxHeartbeats 8000000 in
set_option maxRecDepth 100000 in
theorem specSettings_any (a : ByteArray) (hz : a.size ≤ 4000) (ku : Nat) (url : Bool) (hu : spec_isURL.f ku a = some url) (w : World) :
    Calls Try.prog 8 #[.string a] w fun e w' => Below w.heap.size w w' ∧ SpecRes w (!url) ((parseL (a.size + 1) (bytesOf a)).map (putAll [])) e w' := by
  have HU := Aside0.mk (spec_isURL.calls ku a url (w.alloc (.cells #[.string a, .int .i64 0] 38)) hu)
  have HZ := Aside0.mk hz
  have HS : Aside0 (a.size ≤ 1000000) := ⟨by omega⟩
  clear hu hz
  obtain ⟨R, hR⟩ : ∃ R, R = (parseL (a.size + 1) (bytesOf a)).map (putAll []) := ⟨_, rfl⟩
  rw [← hR]
  have HR := Aside0.mk hR
  clear hR
  go_enter Try.func8, Try.ntmps8
  go_wp2_with (first | (go_at_call 16; (with_reducible refine HU.out.mono ?_); rintro e w1 ⟨rfl, hb⟩; have HB := Aside0.mk hb; clear hb))
  have HI0 : Aside0 (SI w w1 w.heap.size a (bytesOf a) 0 (.slice none 0 0) []) := ⟨At.zero _, ⟨(HB.out.block _ (by rw [sz_alloc]; omega)).trans (blk_new w _), Nat.le_refl _⟩, RowS.nil _ _, below_step (below_alloc (Below.refl _ _) _) HB.out⟩
  go_loopg [2, 4] (a.size + 1) (fun kq v2 v4 wx => ∃ (l : List Int) (i : Int) (xs : List Se), v4 = .bool (!url) ∧ Aside0 (SI w wx w.heap.size a l i v2 xs) ∧ Aside0 (l.length + 1 ≤ kq) ∧ Aside0 (R = (parseL kq l).map (putAll xs)) ∧ Aside0 (xs.length + l.length ≤ 4000))
  case atStart => exact ⟨bytesOf a, 0, [], rfl, HI0, ⟨by rw [bytesOf_length]; exact Nat.le_refl _⟩, HR, ⟨by rw [bytesOf_length]; have := HZ.out; simp; omega⟩⟩
  case round =>
    clear HU HB HI0 HR
    obtain ⟨l, i, xs, rfl, HI, HN, HP, HL⟩ := hrel
    obtain ⟨A, c0, rfl⟩ := Kd.R_slice HI.out.row
    obtain ⟨kq, rfl⟩ : ∃ m, gk = m + 1 := ⟨gk - 1, by have := HN.out; omega⟩
    obtain ⟨l1, hl1⟩ : ∃ l1, l1 = skipL l := ⟨_, rfl⟩
    have HLL : Aside0 (l1.length ≤ l.length) := ⟨by rw [hl1]; exact skipL_len l⟩
    have hbl := blanks_SI HS.out HI.out
    rw [← hl1] at hbl
    have HBL := Aside0.mk hbl
    have HL1 := Aside0.mk hl1
    clear hbl hl1
    cases l1 with
    | nil =>
      go_wp2_with (first | (go_at_call 17; (with_reducible refine HBL.out.mono ?_); rintro e wn ⟨rfl, i_, hi⟩; obtain rfl := hi.at_.snil; have hcz := cellS38_1 hi.st.1; have hfz := blk_frozen hi.st.1 1; have HI2 := Aside0.mk hi; clear hi))
      go_ret3
      exact ⟨HI2.out.bl, res_some (by rw [HP.out, parse_nil kq HL1.out.symm]; rfl) HI2.out.row⟩
    | cons c t =>
      go_upto_block 2 with (first | (go_at_call 17; (with_reducible refine HBL.out.mono ?_); rintro e wn ⟨rfl, i_, hi⟩; have hne : (i_ == (a.size : Int)) = false := beq_eq_false_iff_ne.2 (Int.ne_of_lt hi.at_.slt); have hcz := cellS38_1 hi.st.1; have hfz := blk_frozen hi.st.1 1; have HI2 := Aside0.mk hi; clear hi))
      have HI3 := HI2
      clear HBL HI
      go_cut [] (fun wc => ∃ j, Aside0 (SI w wc w.heap.size a (keyL (c :: t)).2 j (.slice A xs.length c0) xs) ∧ Aside0 (bytesOf (a.extract i_.toNat j.toNat) = (keyL (c :: t)).1) ∧ Aside0 (0 ≤ i_ ∧ i_ ≤ j ∧ j ≤ (a.size : Int)))
      case first =>
        go_wp2
        go_loopg [] (t.length + 2) (fun kq2 wx => ∃ (l2 : List Int) (j : Int), Aside0 (SI w wx w.heap.size a l2 j (.slice A xs.length c0) xs) ∧ Aside0 (KeyAt a i_ (c :: t) l2 j) ∧ Aside0 (l2.length + 1 ≤ kq2))
        case atStart => exact ⟨c :: t, i_, HI2, ⟨KeyAt.start HI2.out.at_⟩, ⟨Nat.le_refl _⟩⟩
        case round =>
          clear HI2 hcz hfz HI3
          obtain ⟨l2, j, HI, HK, HM⟩ := hrel
          have hcz := cellS38_1 HI.out.st.1
          have hfz := blk_frozen HI.out.st.1 1
          cases l2 with
          | nil =>
            have hlt : decide (j < (a.size : Int)) = false := decide_eq_false (by have := HI.out.at_.snil; omega)
            go_wp2
            go_meet
            case rel => exact ⟨j, ⟨by rw [HK.out.stop0.2]; exact HI.out⟩, ⟨HK.out.stop0.1⟩, ⟨HK.out.lo, HK.out.le, HI.out.at_.sle⟩⟩
          | cons d t2 =>
            have hlt : decide (j < (a.size : Int)) = true := decide_eq_true HI.out.at_.slt
            have hd := HI.out.at_.bt
            have p4 := eq_true HI.out.at_.1
            have q4 := eq_true HI.out.at_.slt
            have hx4 := bt_at a j
            have HW := Aside0.mk (At.wrap HS.out HI.out.at_)
            by_cases h61 : d = 61
            · have c61 : (bt a j != 61) = false := by rw [hd, h61]; rfl
              have HST : Aside0 (keyL (d :: t2) = ([], d :: t2)) := ⟨by unfold keyL; rw [if_pos (Or.inr h61)]⟩
              clear hd h61
              go_wp2
              go_meet
              case rel => exact ⟨j, ⟨by rw [(HK.out.stop HST.out).2]; exact HI.out⟩, ⟨(HK.out.stop HST.out).1⟩, ⟨HK.out.lo, HK.out.le, HI.out.at_.sle⟩⟩
            · have c61 : (bt a j != 61) = true := by rw [hd]; exact bne_iff_ne.2 h61
              cases hsp : spI d with
              | true =>
                have hs9 : spI (bt a j) = true := by rw [hd]; exact hsp
                have HST : Aside0 (keyL (d :: t2) = ([], d :: t2)) := ⟨by unfold keyL; rw [if_pos (Or.inl hsp)]⟩
                clear hd h61 hsp
                go_wp2_with (first | (go_at_call 18; (with_reducible refine (spec_isBlank.calls _ _ _ (isBlank_ok _)).mono ?_); rintro e w' ⟨rfl, ⟨nd, rfl⟩⟩))
                go_meet
                case rel => exact ⟨j, ⟨by rw [(HK.out.stop HST.out).2]; exact HI.out.drewN _⟩, ⟨(HK.out.stop HST.out).1⟩, ⟨HK.out.lo, HK.out.le, HI.out.at_.sle⟩⟩
              | false =>
                have hs9 : spI (bt a j) = false := by rw [hd]; exact hsp
                have HGO : Aside0 (¬ (spI d = true ∨ d = 61)) := ⟨by rw [hsp]; simp [h61]⟩
                clear hd h61 hsp
                go_wp2_with (first | (go_at_call 18; (with_reducible refine (spec_isBlank.calls _ _ _ (isBlank_ok _)).mono ?_); rintro e w' ⟨rfl, ⟨nd, rfl⟩⟩))
                go_roundg (t2.length + 1)
                case measure => have := HM.out; simp at this; omega
                case rel => exact ⟨t2, _, ⟨(HI.out.drewN _).set (by rw [HW.out]; exact HI.out.at_.tail)⟩, ⟨by rw [HW.out]; exact HK.out.step HGO.out⟩, ⟨Nat.le_refl _⟩⟩
      case rest =>
        clear HI2 HI3 hcz hfz hne
        obtain ⟨j, HI, HKY, HJ⟩ := hcut
        obtain ⟨kq, rfl⟩ : ∃ m, kq = m + 1 := ⟨kq - 1, by have := HN.out; have := HLL.out; simp at this; omega⟩
        have hcz := cellS38_1 HI.out.st.1
        have hfz := blk_frozen HI.out.st.1 1
        have p1 := eq_true HJ.out.1
        have p2 := eq_true HJ.out.2.1
        have p3 := eq_true HJ.out.2.2
        have d1 : decide (0 ≤ i_) = true := decide_eq_true HJ.out.1
        have d2 : decide (i_ ≤ j) = true := decide_eq_true HJ.out.2.1
        have d3 : decide (j ≤ (a.size : Int)) = true := decide_eq_true HJ.out.2.2
        have HKX : Aside0 (a.extract i_.toNat j.toNat = strOfNums (keyL (c :: t)).1) := ⟨by rw [← HKY.out, strOfNums_bytesOf]⟩
        have hbl := blanks_SI HS.out HI.out
        obtain ⟨l3, hl3⟩ : ∃ l3, l3 = skipL (keyL (c :: t)).2 := ⟨_, rfl⟩
        have HL3 := Aside0.mk hl3
        have HL3Z : Aside0 (l3.length ≤ (c :: t).length) := ⟨by
          have h1 := skipL_len (keyL (c :: t)).2
          have h2 := congrArg List.length (keyL_sub (c :: t))
          rw [List.length_append] at h2
          rw [hl3]; omega⟩
        rw [← hl3] at hbl
        have HBL2 := Aside0.mk hbl
        clear hbl hl3
        cases l3 with
        | nil =>
          go_wp2_with (first | (go_at_call 17; (with_reducible refine HBL2.out.mono ?_); rintro e wn ⟨rfl, i3, hi⟩; obtain rfl := hi.at_.snil; have hczHI2 := cellS38_1 hi.st.1; have hfzHI2 := blk_frozen hi.st.1 1; have HI2 := Aside0.mk hi; clear hi))
          go_ret3
          exact ⟨HI2.out.bl, res_none (by rw [HP.out, parse_no _ HL1.out.symm rfl (by rw [← HL3.out]; decide)]; rfl)⟩
        | cons d t3 =>
          by_cases h61 : d = 61
          · subst h61
            cases hv : valL (skipL t3) with
            | none =>
              have HV := Aside0.mk hv
              clear hv
              go_wp2_with (first | (go_at_call 17; (with_reducible refine HBL2.out.mono ?_); rintro e wn ⟨rfl, i3, hi⟩; have hne := beq_eq_false_iff_ne.2 (Int.ne_of_lt hi.at_.slt); have p5 := eq_true hi.at_.1; have q5 := eq_true hi.at_.slt; have hx5 := bt_at a i3; have c61 : (bt a i3 != 61) = false := bne_of_eq hi.at_.bt; have HAT := Aside0.mk (tail_w HS.out hi.at_); have hczHI3 := cellS38_1 hi.st.1; have hfzHI3 := blk_frozen hi.st.1 1; have HI3 := Aside0.mk hi; clear hi) | (go_at_call 17; (with_reducible refine (blanks_SI HS.out (HI3.out.set HAT.out)).mono ?_); rintro e wn ⟨rfl, i4, hi⟩; have hczHI4 := cellS38_1 hi.st.1; have hfzHI4 := blk_frozen hi.st.1 1; have HI4 := Aside0.mk hi; clear hi) | (go_at_call 19; (with_reducible refine (value_none HS.out HI4.out HV.out).mono ?_); rintro e wn ⟨out, rfl, hb⟩; have HB5 := Aside0.mk hb; clear hb))
              go_ret3
              exact ⟨HB5.out, res_none (by rw [HP.out, parse_yes _ HL1.out.symm rfl (by rw [← HL3.out]; rfl), ← HL3.out]; show Option.map _ ((valL (skipL t3)).bind _) = none; rw [HV.out]; rfl)⟩
            | some vr =>
              obtain ⟨val, rest⟩ := vr
              have HV := Aside0.mk hv
              have HXZ : Aside0 (xs.length ≤ 1000000) := ⟨by have := HL.out; omega⟩
              clear hv
              go_wp2_with (first | (go_at_call 17; (with_reducible refine HBL2.out.mono ?_); rintro e wn ⟨rfl, i3, hi⟩; have hne := beq_eq_false_iff_ne.2 (Int.ne_of_lt hi.at_.slt); have p5 := eq_true hi.at_.1; have q5 := eq_true hi.at_.slt; have hx5 := bt_at a i3; have c61 : (bt a i3 != 61) = false := bne_of_eq hi.at_.bt; have HAT := Aside0.mk (tail_w HS.out hi.at_); have hczHI3 := cellS38_1 hi.st.1; have hfzHI3 := blk_frozen hi.st.1 1; have HI3 := Aside0.mk hi; clear hi) | (go_at_call 17; (with_reducible refine (blanks_SI HS.out (HI3.out.set HAT.out)).mono ?_); rintro e wn ⟨rfl, i4, hi⟩; have hczHI4 := cellS38_1 hi.st.1; have hfzHI4 := blk_frozen hi.st.1 1; have HI4 := Aside0.mk hi; clear hi) | (go_at_call 19; (with_reducible refine (value_some HS.out HI4.out HV.out).mono ?_); rintro e wn ⟨rfl, i5, l5, hi, hsk, hlen⟩; have HI5 := Aside0.mk hi; have HQ := Aside0.mk (And.intro hsk hlen); clear hi hsk hlen) | (go_at_call 20; (with_reducible refine (put_SI HI5.out ⟨a.extract i_.toNat j.toNat, strOfNums val⟩ HXZ.out).mono ?_); rintro e wn ⟨v1, rfl, hi⟩; have HI6 := Aside0.mk hi; clear hi))
              have HZ5 : Aside0 (l5.length + 1 ≤ (c :: t).length) := ⟨by have h1 := HQ.out.2; have h2 := skipL_len t3; have h3 := HL3Z.out; simp only [List.length_cons] at h3 ⊢; omega⟩
              go_roundg (kq + 1)
              case measure => omega
              case rel => exact ⟨l5, i5, _, rfl, HI6, ⟨by have := HZ5.out; have := HLL.out; have := HN.out; omega⟩, ⟨by
                rw [HP.out, parse_yes _ HL1.out.symm rfl (by rw [← HL3.out]; rfl), ← HL3.out]
                show Option.map _ ((valL (skipL t3)).bind _) = _
                rw [HV.out, Option.bind_some, Option.map_map, parse_skip _ HQ.out.1, HKX.out]
                rfl⟩, ⟨by have h1 := putG_len ⟨a.extract i_.toNat j.toNat, strOfNums val⟩ xs false; have := HZ5.out; have := HLL.out; have := HL.out; omega⟩⟩
          · have HNO : Aside0 (hd0 (d :: t3) ≠ 61) := ⟨h61⟩
            have HNB : Aside0 ((d != 61) = true) := ⟨bne_iff_ne.2 h61⟩
            clear h61
            go_wp2_with (first | (go_at_call 17; (with_reducible refine HBL2.out.mono ?_); rintro e wn ⟨rfl, i3, hi⟩; have hne := beq_eq_false_iff_ne.2 (Int.ne_of_lt hi.at_.slt); have p5 := eq_true hi.at_.1; have q5 := eq_true hi.at_.slt; have hx5 := bt_at a i3; have c61 : (bt a i3 != 61) = true := bne_of_ne hi.at_.bt HNB.out; have hczHI2 := cellS38_1 hi.st.1; have hfzHI2 := blk_frozen hi.st.1 1; have HI2 := Aside0.mk hi; clear hi))
            go_ret3
            exact ⟨HI2.out.bl, res_none (by rw [HP.out, parse_no _ HL1.out.symm rfl (by rw [← HL3.out]; exact HNO.out)]; rfl)⟩
end Go.Proofs.Ytlhjblbmhlelbaa.P
