-- Written by the program wip/myprint.py of this session, over the kit's print of the translation. Lean checks it.
import Derived.Test.YtcdcoogjhkchlaaGreatDoorLibArr
import Derived.ScopeJumps
import Derived.WalkMore
import Derived.Test.YtcdcoogjhkchlaaGreatDoorPx0
import Derived.Test.YtcdcoogjhkchlaaGreatDoorPx1
namespace Go.Proofs.YtcdcoogjhkchlaaGreatDoor.P
open Go.RowKit Go.Proofs.YtcdcoogjhkchlaaGreatDoorW.PrintWords Go.Proofs.YtcdcoogjhkchlaaGreatDoorW.PrintLast Go.Proofs.YtcdcoogjhkchlaaGreatDoorW.PrintMore
attribute [local go_sem] max2_int min2_int max_two min_two max_three min_three max_four min_four   -- for this text's walks alone
set_option linter.unusedVariables false
set_option linter.unusedSimpArgs false

/-! ### spec_reader_element: function 28 -/
/-- The reader's state, on lists. -/
def St (w0 : World) (s del : ByteArray) (g gd gs n : Nat) (st : Arr.Rd) (W : World) : Prop := ∃ a v, (bytesOf s).drop a = st.rest ∧ RS w0 s del g gd gs n a st.dims st.set st.opn st.bad st.l v W
theorem quoted_St {w0 : World} {s del : ByteArray} {g gd gs n a : Nat} {D : List Int} {S : List Bool} {els : List (Option (List Int))} {v : Value} {d : Int} {w' : World} {t : List Int}
    (h : qPost w0 s del g gd gs n D S els v d (Arr.scanQ t false []) w') : St w0 s del g gd gs n (Arr.spEl d ⟨34 :: t, D, S, false, false, els⟩) w' := by
  unfold Arr.spEl
  simp only [if_true]
  cases hq : Arr.scanQ t false [] with
  | none => rw [hq] at h; exact ⟨s.size, v, drop_end (Nat.le_refl _), h⟩
  | some p =>
    rw [hq] at h
    obtain ⟨v', a', h1, h2⟩ := h
    exact ⟨a', v', h1, h2⟩
theorem str_is {q : ByteArray} {p : List Int} (hq : bytesOf q = p) : (q.toList == [78, 85, 76, 76]) = decide (p = Arr.nullW) := by
  rw [ByteArray.toList_eq]
  by_cases hz : p = Arr.nullW
  · rw [decide_eq_true hz]
    have h1 : q.data.toList.map (fun b : UInt8 => (b.toNat : Int)) = [78, 85, 76, 76].map (fun b : UInt8 => (b.toNat : Int)) := by
      rw [show q.data.toList.map (fun b : UInt8 => (b.toNat : Int)) = p from hq, hz]; rfl
    rw [(List.map_inj_right (f := fun b : UInt8 => (b.toNat : Int)) (fun x y e => UInt8.toNat_inj.1 (by omega))).1 h1]
    rfl
  · rw [decide_eq_false hz]
    refine beq_eq_false_iff_ne.mpr (fun he => hz ?_)
    rw [← hq]
    show q.data.toList.map (fun b : UInt8 => (b.toNat : Int)) = _
    rw [he]; rfl
theorem str_empty {q : ByteArray} {p : List Int} (hq : bytesOf q = p) : q.toList.isEmpty = decide (p = []) ∧ (q.toList == []) = decide (p = []) := by
  have h : q.toList = [] ↔ p = [] := by
    rw [ByteArray.toList_eq, ← hq]
    show _ ↔ q.data.toList.map _ = []
    rw [List.map_eq_nil_iff]
  by_cases hp : p = []
  · rw [decide_eq_true hp, h.2 hp]; exact ⟨rfl, rfl⟩
  · rw [decide_eq_false hp]
    exact ⟨by rw [List.isEmpty_eq_false_iff]; exact fun e => hp (h.1 e), beq_eq_false_iff_ne.mpr (fun e => hp (h.1 e))⟩
theorem extract_take {s : ByteArray} {a a2 : Nat} (h1 : a ≤ a2) : bytesOf (s.extract a a2) = ((bytesOf s).drop a).take (a2 - a) := by
  unfold bytesOf
  have h2 : (s.extract a a2).data.toList = (s.data.toList.drop a).take (a2 - a) := by
    simp [ByteArray.data_extract, List.drop_take]
  rw [h2, List.map_take, List.map_drop]
theorem upper_byte {l : List Int} (h : ∀ x ∈ l, 0 ≤ x ∧ x ≤ 255) : bytesOf (strOfNums (Arr.upperI l)) = Arr.upperI l := by
  have h2 : ∀ x ∈ Arr.upperI l, 0 ≤ x ∧ x ≤ 255 := by
    intro x hx
    obtain ⟨y, hy, rfl⟩ := List.mem_map.mp hx
    have := h y hy
    split <;> omega
  have hd : (strOfNums (Arr.upperI l)).data.toList = (Arr.upperI l).map (fun x => UInt8.ofNat x.toNat) := by simp [strOfNums]
  unfold bytesOf
  rw [hd, List.map_map]
  conv => rhs; rw [← List.map_id (Arr.upperI l)]
  apply List.map_congr_left
  intro x hx
  have := h2 x hx
  simp
  omega
theorem bytes_ok (s : ByteArray) : ∀ x ∈ bytesOf s, 0 ≤ x ∧ x ≤ 255 := by
  intro x hx
  unfold bytesOf at hx
  obtain ⟨b, _, rfl⟩ := List.mem_map.1 hx
  have := b.toNat_lt
  omega
theorem back_bytes (q : ByteArray) : strOfNums (bytesOf q) = q := by
  have h : (strOfNums (bytesOf q)).data.toList = q.data.toList := by
    rw [strOfNums_data, bytesOf, List.map_map]
    conv => rhs; rw [← List.map_id q.data.toList]
    apply List.map_congr_left
    intro b _
    simp
  cases hq : strOfNums (bytesOf q); cases q
  rw [hq] at h
  simp only at h
  rw [Array.toList_inj.1 h]
/-- What spWord tells where the scan ends well. -/
theorem word_of {d : Int} {D : List Int} {S : List Bool} {els : List (Option (List Int))} {r p r2 : List Int} (h : Arr.spScan d r = (p, r2, false)) : Arr.spWord d ⟨r, D, S, false, false, els⟩ =
    if p ≠ Arr.nullW ∧ Arr.upperI p = Arr.nullW then ⟨r2, D, S, true, false, els⟩ else if p = [] ∨ r2 = [] then ⟨r2, D, S, false, true, els⟩ else ⟨r2, D, S, false, false, els ++ [Arr.elOf p]⟩ := by
  unfold Arr.spWord
  rw [h]
  rfl
set_option maxHeartbeats 4000000 in
set_option maxRecDepth 100000 in
theorem spec_reader_element.main {w0 : World} {s del : ByteArray} {g gd gs n a : Nat} {D : List Int} {S : List Bool} {els : List (Option (List Int))} {v : Value} {W : World} (h : RS w0 s del g gd gs n a D S false false els v W) (hL : s.size ≤ 1000000) (d : Int) (hdel : bytesOf del = [d]) :
    Calls Tryz.prog 28 #[.pointer (some ⟨g, 0, none⟩)] W fun e w' => e = .returned (.tuple #[]) ∧ St w0 s del g gd gs n (Arr.spEl d ⟨(bytesOf s).drop a, D, S, false, false, els⟩) w' := by
  have hb34 : bytesOf ⟨#[34]⟩ = [34] := by decide
  have his := fun nq : Nat => spec_reader_is.one (h.drewN nq) ⟨#[34]⟩ 34 hb34 hL
  have his0 := spec_reader_is.one h ⟨#[34]⟩ 34 hb34 hL
  have HL := Aside0.mk hL
  have HDL := Aside0.mk hdel
  have HH := Aside0.mk h
  have c1 := h.c 1 (.int .i64 (a : Int)) rfl
  by_cases hq : hdIs ((bytesOf s).drop a) 34 = true
  · rw [hq] at his0
    have hlt : a < s.size := by
      rcases Nat.lt_or_ge a s.size with hl | hl
      · exact hl
      · rw [drop_end hl] at hq; cases hq
    have hdr : (bytesOf s).drop a = 34 :: (bytesOf s).drop (a + 1) := by
      rw [drop_bt hlt] at hq ⊢
      rw [of_decide_eq_true hq]
    rw [hdr]
    have HLT := Aside0.mk hlt
    have HIS := Aside0.mk his0
    clear his his0 hq hlt hdr hb34 h hL hdel c1
    --{Q
    go_enter Tryz.func28, Tryz.ntmps28
    go_wp2_with (first | (go_at_call 27; refine HIS.out.mono ?_; rintro e w1 ⟨rfl, hd1⟩; have HD1 := Aside0.mk hd1; clear hd1) | (go_at_call 36; refine (spec_reader_quoted.main (HH.out.drawn HD1.out) HL.out d HDL.out HLT.out).mono ?_; rintro e w2 ⟨rfl, hp⟩; have HP := Aside0.mk hp; clear hp))
    refine bodyPost_ret (results_none rfl _ _ _) rfl ?_
    exact ⟨rfl, quoted_St (a := a) HP.out⟩
    --}Q
  · have hq' : hdIs ((bytesOf s).drop a) 34 = false := by simpa using hq
    rw [hq'] at his0
    have hsp : Arr.spEl d ⟨(bytesOf s).drop a, D, S, false, false, els⟩ = Arr.spWord d ⟨(bytesOf s).drop a, D, S, false, false, els⟩ := by
      unfold Arr.spEl
      cases hr : (bytesOf s).drop a with
      | nil => rfl
      | cons c t =>
        rw [hr] at hq'
        have : c ≠ 34 := of_decide_eq_false hq'
        simp only [if_neg this]
    rw [hsp]
    have HIS := Aside0.mk his0
    obtain ⟨fr, hfr⟩ : ∃ fr : Int, fr = (a : Int) := ⟨_, rfl⟩
    have HFR := Aside0.mk hfr
    rw [← hfr] at c1
    have al := h.al
    have HAL := Aside0.mk al
    clear his his0 hq hq' hsp hb34 h hL hdel al hfr
    --{R
    go_enter Tryz.func28, Tryz.ntmps28
    go_wp2_with (first | (go_at_call 27; refine HIS.out.mono ?_; rintro e w1 ⟨rfl, ⟨nd, rfl⟩⟩))
    go_loopg [3] (s.size + 1) (fun kq s3 wx => ∃ a2 : Nat, Aside0 (kq + a2 ≥ s.size + 1) ∧ Aside0 (a ≤ a2) ∧ Aside0 (RS w0 s del g gd gs n a2 D S false false els v wx) ∧ Aside0 (Arr.spScan d ((bytesOf s).drop a) = (((bytesOf s).drop a).take (a2 - a) ++ (Arr.spScan d ((bytesOf s).drop a2)).1, (Arr.spScan d ((bytesOf s).drop a2)).2)))
    case atStart => exact ⟨a, ⟨by have := HAL.out; omega⟩, ⟨Nat.le_refl _⟩, ⟨HH.out.drewN _⟩, ⟨by rw [Nat.sub_self, List.take_zero, List.nil_append]⟩⟩
    case round =>
      obtain ⟨a2, HK, HA, HS, HSC⟩ := hrel
      have c0 := HS.out.c 0 (.string s) rfl
      have c1 := HS.out.c 1 (.int .i64 (a2 : Int)) rfl
      have c2 := HS.out.c 2 (.string del) rfl
      have c5 := HS.out.c 5 (.bool false) rfl
      have f1 := HS.out.f 1
      have f5 := HS.out.f 5
      obtain ⟨i, hi⟩ : ∃ i : Int, i = (a2 : Int) := ⟨_, rfl⟩
      rw [← hi] at c1
      have hcall := fun nq : Nat => spec_reader_is.one (HS.out.drewN nq) del d HDL.out HL.out
      have al := HS.out.al
      by_cases ca : a2 < s.size
      · have hdr := drop_bt ca
        rw [← hi] at hdr
        have kbt := bt_at s i
        have g1 : (i < (s.size : Int)) = True := eq_true (by omega)
        have g1b : decide (i < (s.size : Int)) = true := decide_eq_true (by omega)
        have g3 : (0 ≤ i) = True := eq_true (by omega)
        have g3b : decide (0 ≤ i) = true := decide_eq_true (by omega)
        obtain ⟨c, hc⟩ : ∃ c, c = bt s i := ⟨_, rfl⟩
        have hcall2 : ∀ nq : Nat, Calls Tryz.prog 27 #[.pointer (some ⟨g, 0, none⟩), .string del] (wr.drewN nq) fun e w' => e = .returned (.bool (decide (c = d))) ∧ Drawn0 (wr.drewN nq) w' := fun nq => by
          have := hcall nq
          rw [hdr, ← hc] at this
          exact this
        clear hcall
        by_cases cd : c = d
        · rw [decide_eq_true cd] at hcall2
          have HC2 := Aside0.mk hcall2
          have hend : Arr.spScan d ((bytesOf s).drop a2) = ([], (bytesOf s).drop a2, false) := by rw [hdr, ← hc, Arr.spScan, if_pos (.inl cd)]
          have hne : ¬ a2 = s.size := by omega
          clear hcall2 cd hc hdr
          --{A
          obtain ⟨p, hp⟩ : ∃ p, p = ((bytesOf s).drop a).take (a2 - a) := ⟨_, rfl⟩
          have hscan : Arr.spScan d ((bytesOf s).drop a) = (p, (bytesOf s).drop a2, false) := by rw [HSC.out, hend, hp]; simp
          have hwd := word_of (D := D) (S := S) (els := els) hscan
          obtain ⟨q, hqd⟩ : ∃ q, q = s.extract fr.toNat i.toNat := ⟨_, rfl⟩
          have hqb : bytesOf q = p := by
            rw [hqd, hp, hi, HFR.out, Int.toNat_natCast, Int.toNat_natCast]
            exact extract_take HA.out
          have hqs : q.size ≤ 1000000 := by
            rw [← bytesOf_length, hqb, hp, List.length_take, List.length_drop, bytesOf_length]; have := HL.out; omega
          have hup := fun W => spec_upper.main q W hqs
          rw [hqb] at hup
          obtain ⟨u, hu⟩ : ∃ u, u = strOfNums (Arr.upperI p) := ⟨_, rfl⟩
          have hub : bytesOf u = Arr.upperI p := by
            rw [hu]; exact upper_byte (fun x hx => bytes_ok q x (by rw [hqb]; exact hx))
          have n1 := str_is hqb
          have n2 := str_is hub
          have n3 := (str_empty hqb).1
          have n4 := (str_empty hqb).2
          rw [← hu] at hup
          have HUP := Aside0.mk hup
          have HWD := Aside0.mk hwd
          have HQB := Aside0.mk hqb
          have hq' := hqd.symm
          have y1 : (fr ≤ i) = True := eq_true (by have := HFR.out; have := HA.out; omega)
          have y1b : decide (fr ≤ i) = true := decide_eq_true (by have := HFR.out; have := HA.out; omega)
          have y2 : (0 ≤ fr) = True := eq_true (by have := HFR.out; omega)
          have y2b : decide (0 ≤ fr) = true := decide_eq_true (by have := HFR.out; omega)
          have y3 : (i ≤ (s.size : Int)) = True := eq_true (by have := HS.out.al; omega)
          have y3b : decide (i ≤ (s.size : Int)) = true := decide_eq_true (by have := HS.out.al; omega)
          have hlen : p ≠ [] → a < a2 := by
            intro hpn
            rcases Nat.lt_or_ge a a2 with h | h
            · exact h
            · rw [Nat.sub_eq_zero_of_le h, List.take_zero] at hp; exact absurd hp hpn
          have HLN := Aside0.mk hlen
          have HI := Aside0.mk hi
          have y4 : (i == (s.size : Int)) = false := beq_eq_false_iff_ne.mpr (by omega)
          have hr2 : ((bytesOf s).drop a2 = []) = (False) := eq_false (fun e => by have := congrArg List.length e; rw [List.length_drop, bytesOf_length, List.length_nil] at this; have := HS.out.al; omega)
          have HR2 := Aside0.mk hr2
          clear hp hend hscan hwd hqd hqb hqs hup hu hub hi ca al hlen hne hr2
          by_cases p1 : p = Arr.nullW
          · rw [decide_eq_true p1] at n1
            have e0 : ¬ (p ≠ Arr.nullW ∧ Arr.upperI p = Arr.nullW) := fun h => h.1 p1
            have e1 : p ≠ [] := by rw [p1]; decide
            rw [decide_eq_false e1] at n3 n4
            have n1b : (q.toList != [78, 85, 76, 76]) = false := by unfold bne; rw [n1]; rfl
            have hel : Arr.elOf p = none := if_pos p1
            have hlt := HLN.out e1
            have HLT := Aside0.mk hlt
            have HLEN : Aside0 ((List.length (els.map sIt) + 1) * 48 ≤ 140737488355328) := ⟨by rw [List.length_map]; have := HS.out.el; have := HS.out.al; have := HL.out; omega⟩
            have HW := HWD.out
            rw [if_neg e0, hel] at HW
            rw [if_neg (by rintro (h | h); exact e1 h; exact (HR2.out.mp h))] at HW
            have HW2 := Aside0.mk HW
            clear p1 e0 e1 hel hlt HW
            go_wp2_with fail
            go_quiet ((go_at_call 27; exact quiet_d (HC2.out _)))
            go_wp2_with fail
            refine wp_gen (fun W3 => RS w0 s del g gd gs n a2 D S false false els v W3) (by first | exact HS.out.drewN _ | exact (HS.out.drewN _).drewN _) ?_
            clear c0 c1 c2 c5 f1 f5 kbt g1 g1b HC2
            intro W3 h3
            have c0 := h3.c 0 (.string s) rfl
            have c1 : W3.cell? ⟨g, 1, none⟩ = some (.int .i64 i) := by rw [HI.out]; exact h3.c 1 _ rfl
            have c5 := h3.c 5 (.bool false) rfl
            have f5 := h3.f 5
            have c6 := h3.c 6 (.bool false) rfl
            have f6 := h3.f 6
            have c7 := h3.c 7 v rfl
            have f7 := h3.f 7
            have H3 := Aside0.mk h3
            clear h3
            go_quiet (fail)
            go_wp2_with fail
            go_quiet (fail)
            go_wp2_with ((with_reducible refine gate_builtin (b := .append) (xs := #[.tmp 134, .tmp 136]) rfl ?_); at_builtin; refine Kd.R_append k34 (w0 := w0) w0.heap.size rfl (.tmp 134) (.tmp 136) 22 34 (.agg #[.bool false, .string ⟨#[]⟩, .int .i64 0, .float .f64 0, .bool false]) 48 rfl Tryz.underlying22 it_infoS rfl (by decide) (by omega) v (els.map sIt) (sIt none) [.bool true, .string ByteArray.empty, .int .i64 0, .float .f64 0, .bool false] (fun _ => True) (fun _ => False) rfl (by first | (go_simp; done) | (go_simp; rfl)) ?aP (fun _ hk => hk.elim) ?aF ?aO ?aB ?aS ?aL ?_; (case aP => exact k34_mkM _ _ _ (sIt none)); (case aF => exact (fun _ _ => trivial)); (case aO => first | exact (H3.out.drewN _).hl | exact ((H3.out.drewN _).drewN _).hl); (case aB => first | exact (H3.out.drewN _).hB | exact ((H3.out.drewN _).drewN _).hB); (case aS => first | exact (H3.out.drewN _).hB.size | exact ((H3.out.drewN _).drewN _).hB.size); (case aL => exact HLEN.out); intro v1 w8 ho hb hg hat; obtain ⟨A8, c8, e8, hc8, HC8⟩ := Kd.R_reads ho; subst e8; rw [show (List.map sIt els ++ [sIt none]).length = els.length + 1 by simp] at ho; have b8 : w8.heap[g]? = some (.cells (rsCells s del gd gs n a2 false false v) 52 (0, 0)) := (by first | exact blk_grown (H3.out.drewN _).blk hg HS.out.nv | exact blk_grown ((H3.out.drewN _).drewN _).blk hg HS.out.nv); have t7 := (blk_cell b8 7).trans (rfl : _ = some v); have tf7 := blk_frozen b8 7; have HO := Aside0.mk ho; have HBB := Aside0.mk hb; have HGG := Aside0.mk hg; clear ho hb hg hat HC8 hc8 b8)
            go_end0
            refine ⟨rfl, ?_⟩
            rw [HW2.out]
            exact ⟨a2, _, rfl, by first | exact RS.put (H3.out.drewN _) none _ HO.out HBB.out HGG.out (by have := HLT.out; have := HH.out.el; omega) | exact RS.put ((H3.out.drewN _).drewN _) none _ HO.out HBB.out HGG.out (by have := HLT.out; have := HH.out.el; omega)⟩
          · rw [decide_eq_false p1] at n1
            have n1b : (q.toList != [78, 85, 76, 76]) = true := by unfold bne; rw [n1]; rfl
            by_cases p2 : Arr.upperI p = Arr.nullW
            · rw [decide_eq_true p2] at n2
              have HW := HWD.out
              rw [if_pos ⟨p1, p2⟩] at HW
              have HW2 := Aside0.mk HW
              clear p1 p2 HW
              go_wp2_with fail
              go_quiet ((go_at_call 27; exact quiet_d (HC2.out _)))
              go_wp2_with fail
              refine wp_gen (fun W3 => RS w0 s del g gd gs n a2 D S false false els v W3) (by first | exact HS.out.drewN _ | exact (HS.out.drewN _).drewN _) ?_
              clear c0 c1 c2 c5 f1 f5 kbt g1 g1b HC2
              intro W3 h3
              have c0 := h3.c 0 (.string s) rfl
              have c1 : W3.cell? ⟨g, 1, none⟩ = some (.int .i64 i) := by rw [HI.out]; exact h3.c 1 _ rfl
              have c5 := h3.c 5 (.bool false) rfl
              have f5 := h3.f 5
              have c6 := h3.c 6 (.bool false) rfl
              have f6 := h3.f 6
              have c7 := h3.c 7 v rfl
              have f7 := h3.f 7
              have H3 := Aside0.mk h3
              clear h3
              go_quiet (fail)
              go_wp2_with (go_at_call 37; refine (HUP.out _).mono ?_; rintro e w1 ⟨rfl, hb1⟩; have h4 := (H3.out.drewN _).below hb1; have d5 := h4.c 5 (.bool false) rfl; have d5f := h4.f 5; have H4 := Aside0.mk h4; clear hb1 h4)
              go_end0
              refine ⟨rfl, ?_⟩
              rw [HW2.out]
              exact ⟨a2, v, rfl, by first | exact H4.out.setOpn | exact (H4.out.drewN _).setOpn⟩
            · rw [decide_eq_false p2] at n2
              have e0 : ¬ (p ≠ Arr.nullW ∧ Arr.upperI p = Arr.nullW) := fun h => p2 h.2
              have HW := HWD.out
              rw [if_neg e0] at HW
              by_cases p3 : p = []
              · rw [decide_eq_true p3] at n3 n4
                rw [if_pos (.inl p3)] at HW
                have HW2 := Aside0.mk HW
                clear p1 p2 p3 HW e0
                go_wp2_with fail
                go_quiet ((go_at_call 27; exact quiet_d (HC2.out _)))
                go_wp2_with fail
                refine wp_gen (fun W3 => RS w0 s del g gd gs n a2 D S false false els v W3) (by first | exact HS.out.drewN _ | exact (HS.out.drewN _).drewN _) ?_
                clear c0 c1 c2 c5 f1 f5 kbt g1 g1b HC2
                intro W3 h3
                have c0 := h3.c 0 (.string s) rfl
                have c1 : W3.cell? ⟨g, 1, none⟩ = some (.int .i64 i) := by rw [HI.out]; exact h3.c 1 _ rfl
                have c5 := h3.c 5 (.bool false) rfl
                have f5 := h3.f 5
                have c6 := h3.c 6 (.bool false) rfl
                have f6 := h3.f 6
                have c7 := h3.c 7 v rfl
                have f7 := h3.f 7
                have H3 := Aside0.mk h3
                clear h3
                go_quiet (fail)
                go_wp2_with (go_at_call 37; refine (HUP.out _).mono ?_; rintro e w1 ⟨rfl, hb1⟩; have h4 := (H3.out.drewN _).below hb1; have d6 := h4.c 6 (.bool false) rfl; have d6f := h4.f 6; have d0 := h4.c 0 (.string s) rfl; have d1 : w1.cell? ⟨g, 1, none⟩ = some (.int .i64 i) := (by rw [HI.out]; exact h4.c 1 _ rfl); have H4 := Aside0.mk h4; clear hb1 h4)
                go_quiet (fail)
                go_wp2_with fail
                go_end0
                refine ⟨rfl, ?_⟩
                rw [HW2.out]
                exact ⟨a2, v, rfl, by first | exact H4.out.setBad | exact (H4.out.drewN _).setBad⟩
              · rw [decide_eq_false p3] at n3 n4
                have hlt := HLN.out p3
                have HLT := Aside0.mk hlt
                have HLEN : Aside0 ((List.length (els.map sIt) + 1) * 48 ≤ 140737488355328) := ⟨by rw [List.length_map]; have := HS.out.el; have := HS.out.al; have := HL.out; omega⟩
                have hel : Arr.elOf p = some p := if_neg p1
                rw [hel] at HW
                rw [if_neg (by rintro (h | h); exact p3 h; exact (HR2.out.mp h))] at HW
                have HW2 := Aside0.mk HW
                have hqq : strOfNums p = q := by rw [← HQB.out]; exact back_bytes q
                have HQQ := Aside0.mk hqq
                clear p1 p2 p3 e0 hel hlt HW hqq
                go_wp2_with fail
                go_quiet ((go_at_call 27; exact quiet_d (HC2.out _)))
                go_wp2_with fail
                refine wp_gen (fun W3 => RS w0 s del g gd gs n a2 D S false false els v W3) (by first | exact HS.out.drewN _ | exact (HS.out.drewN _).drewN _) ?_
                clear c0 c1 c2 c5 f1 f5 kbt g1 g1b HC2
                intro W3 h3
                have c0 := h3.c 0 (.string s) rfl
                have c1 : W3.cell? ⟨g, 1, none⟩ = some (.int .i64 i) := by rw [HI.out]; exact h3.c 1 _ rfl
                have c5 := h3.c 5 (.bool false) rfl
                have f5 := h3.f 5
                have c6 := h3.c 6 (.bool false) rfl
                have f6 := h3.f 6
                have c7 := h3.c 7 v rfl
                have f7 := h3.f 7
                have H3 := Aside0.mk h3
                clear h3
                go_quiet (fail)
                go_wp2_with (go_at_call 37; refine (HUP.out _).mono ?_; rintro e w1 ⟨rfl, hb1⟩; have h4 := (H3.out.drewN _).below hb1; have d0 := h4.c 0 (.string s) rfl; have d1 : w1.cell? ⟨g, 1, none⟩ = some (.int .i64 i) := (by rw [HI.out]; exact h4.c 1 _ rfl); have d7 := h4.c 7 v rfl; have d7f := h4.f 7; have H5 := Aside0.mk h4; clear hb1 h4)
                go_quiet (fail)
                go_wp2_with ((with_reducible refine gate_builtin (b := .append) (xs := #[.tmp 91, .tmp 94]) rfl ?_); at_builtin; refine Kd.R_append k34 (w0 := w0) w0.heap.size rfl (.tmp 91) (.tmp 94) 22 34 (.agg #[.bool false, .string ⟨#[]⟩, .int .i64 0, .float .f64 0, .bool false]) 48 rfl Tryz.underlying22 it_infoS rfl (by decide) (by omega) v (els.map sIt) (sIt (some p)) [.bool false, .string q, .int .i64 0, .float .f64 0, .bool false] (fun _ => True) (fun _ => False) rfl (by first | (go_simp; done) | (go_simp; rfl)) ?aP (fun _ hk => hk.elim) ?aF ?aO ?aB ?aS ?aL ?_; (case aP => exact (by rw [← HQQ.out]; exact k34_mkM _ _ _ (sIt (some p)))); (case aF => exact (fun _ _ => trivial)); (case aO => first | exact H5.out.hl | exact (H5.out.drewN _).hl); (case aB => first | exact H5.out.hB | exact (H5.out.drewN _).hB); (case aS => first | exact H5.out.hB.size | exact (H5.out.drewN _).hB.size); (case aL => exact HLEN.out); intro v1 w8 ho hb hg hat; obtain ⟨A8, c8, e8, hc8, HC8⟩ := Kd.R_reads ho; subst e8; rw [show (List.map sIt els ++ [sIt (some p)]).length = els.length + 1 by simp] at ho; have b8 : w8.heap[g]? = some (.cells (rsCells s del gd gs n a2 false false v) 52 (0, 0)) := (by first | exact blk_grown H5.out.blk hg HS.out.nv | exact blk_grown (H5.out.drewN _).blk hg HS.out.nv); have t7 := (blk_cell b8 7).trans (rfl : _ = some v); have tf7 := blk_frozen b8 7; have HO := Aside0.mk ho; have HBB := Aside0.mk hb; have HGG := Aside0.mk hg; clear ho hb hg hat HC8 hc8 b8)
                go_end0
                refine ⟨rfl, ?_⟩
                rw [HW2.out]
                exact ⟨a2, _, rfl, by first | exact RS.put H5.out (some p) _ HO.out HBB.out HGG.out (by have := HLT.out; have := HH.out.el; omega) | exact RS.put (H5.out.drewN _) (some p) _ HO.out HBB.out HGG.out (by have := HLT.out; have := HH.out.el; omega)⟩
          --}A
        · rw [decide_eq_false cd] at hcall2
          have HC2 := Aside0.mk hcall2
          by_cases c125 : c = 125
          · have b125 : (bt s i != 125) = false := by rw [← hc]; exact bne_eq_false_iff_eq.mpr c125
            have hend : Arr.spScan d ((bytesOf s).drop a2) = ([], (bytesOf s).drop a2, false) := by rw [hdr, ← hc, Arr.spScan, if_pos (.inr c125)]
            have hne : ¬ a2 = s.size := by omega
            clear hcall2 cd hc hdr c125
            --{B
            obtain ⟨p, hp⟩ : ∃ p, p = ((bytesOf s).drop a).take (a2 - a) := ⟨_, rfl⟩
            have hscan : Arr.spScan d ((bytesOf s).drop a) = (p, (bytesOf s).drop a2, false) := by rw [HSC.out, hend, hp]; simp
            have hwd := word_of (D := D) (S := S) (els := els) hscan
            obtain ⟨q, hqd⟩ : ∃ q, q = s.extract fr.toNat i.toNat := ⟨_, rfl⟩
            have hqb : bytesOf q = p := by
              rw [hqd, hp, hi, HFR.out, Int.toNat_natCast, Int.toNat_natCast]
              exact extract_take HA.out
            have hqs : q.size ≤ 1000000 := by
              rw [← bytesOf_length, hqb, hp, List.length_take, List.length_drop, bytesOf_length]; have := HL.out; omega
            have hup := fun W => spec_upper.main q W hqs
            rw [hqb] at hup
            obtain ⟨u, hu⟩ : ∃ u, u = strOfNums (Arr.upperI p) := ⟨_, rfl⟩
            have hub : bytesOf u = Arr.upperI p := by
              rw [hu]; exact upper_byte (fun x hx => bytes_ok q x (by rw [hqb]; exact hx))
            have n1 := str_is hqb
            have n2 := str_is hub
            have n3 := (str_empty hqb).1
            have n4 := (str_empty hqb).2
            rw [← hu] at hup
            have HUP := Aside0.mk hup
            have HWD := Aside0.mk hwd
            have HQB := Aside0.mk hqb
            have hq' := hqd.symm
            have y1 : (fr ≤ i) = True := eq_true (by have := HFR.out; have := HA.out; omega)
            have y1b : decide (fr ≤ i) = true := decide_eq_true (by have := HFR.out; have := HA.out; omega)
            have y2 : (0 ≤ fr) = True := eq_true (by have := HFR.out; omega)
            have y2b : decide (0 ≤ fr) = true := decide_eq_true (by have := HFR.out; omega)
            have y3 : (i ≤ (s.size : Int)) = True := eq_true (by have := HS.out.al; omega)
            have y3b : decide (i ≤ (s.size : Int)) = true := decide_eq_true (by have := HS.out.al; omega)
            have hlen : p ≠ [] → a < a2 := by
              intro hpn
              rcases Nat.lt_or_ge a a2 with h | h
              · exact h
              · rw [Nat.sub_eq_zero_of_le h, List.take_zero] at hp; exact absurd hp hpn
            have HLN := Aside0.mk hlen
            have HI := Aside0.mk hi
            have y4 : (i == (s.size : Int)) = false := beq_eq_false_iff_ne.mpr (by omega)
            have hr2 : ((bytesOf s).drop a2 = []) = (False) := eq_false (fun e => by have := congrArg List.length e; rw [List.length_drop, bytesOf_length, List.length_nil] at this; have := HS.out.al; omega)
            have HR2 := Aside0.mk hr2
            clear hp hend hscan hwd hqd hqb hqs hup hu hub hi ca al hlen hne hr2
            by_cases p1 : p = Arr.nullW
            · rw [decide_eq_true p1] at n1
              have e0 : ¬ (p ≠ Arr.nullW ∧ Arr.upperI p = Arr.nullW) := fun h => h.1 p1
              have e1 : p ≠ [] := by rw [p1]; decide
              rw [decide_eq_false e1] at n3 n4
              have n1b : (q.toList != [78, 85, 76, 76]) = false := by unfold bne; rw [n1]; rfl
              have hel : Arr.elOf p = none := if_pos p1
              have hlt := HLN.out e1
              have HLT := Aside0.mk hlt
              have HLEN : Aside0 ((List.length (els.map sIt) + 1) * 48 ≤ 140737488355328) := ⟨by rw [List.length_map]; have := HS.out.el; have := HS.out.al; have := HL.out; omega⟩
              have HW := HWD.out
              rw [if_neg e0, hel] at HW
              rw [if_neg (by rintro (h | h); exact e1 h; exact (HR2.out.mp h))] at HW
              have HW2 := Aside0.mk HW
              clear p1 e0 e1 hel hlt HW
              go_wp2_with fail
              go_quiet ((go_at_call 27; exact quiet_d (HC2.out _)))
              go_wp2_with fail
              refine wp_gen (fun W3 => RS w0 s del g gd gs n a2 D S false false els v W3) (by first | exact HS.out.drewN _ | exact (HS.out.drewN _).drewN _) ?_
              clear c0 c1 c2 c5 f1 f5 kbt g1 g1b HC2
              intro W3 h3
              have c0 := h3.c 0 (.string s) rfl
              have c1 : W3.cell? ⟨g, 1, none⟩ = some (.int .i64 i) := by rw [HI.out]; exact h3.c 1 _ rfl
              have c5 := h3.c 5 (.bool false) rfl
              have f5 := h3.f 5
              have c6 := h3.c 6 (.bool false) rfl
              have f6 := h3.f 6
              have c7 := h3.c 7 v rfl
              have f7 := h3.f 7
              have H3 := Aside0.mk h3
              clear h3
              go_quiet (fail)
              go_wp2_with fail
              go_quiet (fail)
              go_wp2_with ((with_reducible refine gate_builtin (b := .append) (xs := #[.tmp 134, .tmp 136]) rfl ?_); at_builtin; refine Kd.R_append k34 (w0 := w0) w0.heap.size rfl (.tmp 134) (.tmp 136) 22 34 (.agg #[.bool false, .string ⟨#[]⟩, .int .i64 0, .float .f64 0, .bool false]) 48 rfl Tryz.underlying22 it_infoS rfl (by decide) (by omega) v (els.map sIt) (sIt none) [.bool true, .string ByteArray.empty, .int .i64 0, .float .f64 0, .bool false] (fun _ => True) (fun _ => False) rfl (by first | (go_simp; done) | (go_simp; rfl)) ?aP (fun _ hk => hk.elim) ?aF ?aO ?aB ?aS ?aL ?_; (case aP => exact k34_mkM _ _ _ (sIt none)); (case aF => exact (fun _ _ => trivial)); (case aO => first | exact (H3.out.drewN _).hl | exact ((H3.out.drewN _).drewN _).hl); (case aB => first | exact (H3.out.drewN _).hB | exact ((H3.out.drewN _).drewN _).hB); (case aS => first | exact (H3.out.drewN _).hB.size | exact ((H3.out.drewN _).drewN _).hB.size); (case aL => exact HLEN.out); intro v1 w8 ho hb hg hat; obtain ⟨A8, c8, e8, hc8, HC8⟩ := Kd.R_reads ho; subst e8; rw [show (List.map sIt els ++ [sIt none]).length = els.length + 1 by simp] at ho; have b8 : w8.heap[g]? = some (.cells (rsCells s del gd gs n a2 false false v) 52 (0, 0)) := (by first | exact blk_grown (H3.out.drewN _).blk hg HS.out.nv | exact blk_grown ((H3.out.drewN _).drewN _).blk hg HS.out.nv); have t7 := (blk_cell b8 7).trans (rfl : _ = some v); have tf7 := blk_frozen b8 7; have HO := Aside0.mk ho; have HBB := Aside0.mk hb; have HGG := Aside0.mk hg; clear ho hb hg hat HC8 hc8 b8)
              go_end0
              refine ⟨rfl, ?_⟩
              rw [HW2.out]
              exact ⟨a2, _, rfl, by first | exact RS.put (H3.out.drewN _) none _ HO.out HBB.out HGG.out (by have := HLT.out; have := HH.out.el; omega) | exact RS.put ((H3.out.drewN _).drewN _) none _ HO.out HBB.out HGG.out (by have := HLT.out; have := HH.out.el; omega)⟩
            · rw [decide_eq_false p1] at n1
              have n1b : (q.toList != [78, 85, 76, 76]) = true := by unfold bne; rw [n1]; rfl
              by_cases p2 : Arr.upperI p = Arr.nullW
              · rw [decide_eq_true p2] at n2
                have HW := HWD.out
                rw [if_pos ⟨p1, p2⟩] at HW
                have HW2 := Aside0.mk HW
                clear p1 p2 HW
                go_wp2_with fail
                go_quiet ((go_at_call 27; exact quiet_d (HC2.out _)))
                go_wp2_with fail
                refine wp_gen (fun W3 => RS w0 s del g gd gs n a2 D S false false els v W3) (by first | exact HS.out.drewN _ | exact (HS.out.drewN _).drewN _) ?_
                clear c0 c1 c2 c5 f1 f5 kbt g1 g1b HC2
                intro W3 h3
                have c0 := h3.c 0 (.string s) rfl
                have c1 : W3.cell? ⟨g, 1, none⟩ = some (.int .i64 i) := by rw [HI.out]; exact h3.c 1 _ rfl
                have c5 := h3.c 5 (.bool false) rfl
                have f5 := h3.f 5
                have c6 := h3.c 6 (.bool false) rfl
                have f6 := h3.f 6
                have c7 := h3.c 7 v rfl
                have f7 := h3.f 7
                have H3 := Aside0.mk h3
                clear h3
                go_quiet (fail)
                go_wp2_with (go_at_call 37; refine (HUP.out _).mono ?_; rintro e w1 ⟨rfl, hb1⟩; have h4 := (H3.out.drewN _).below hb1; have d5 := h4.c 5 (.bool false) rfl; have d5f := h4.f 5; have H4 := Aside0.mk h4; clear hb1 h4)
                go_end0
                refine ⟨rfl, ?_⟩
                rw [HW2.out]
                exact ⟨a2, v, rfl, by first | exact H4.out.setOpn | exact (H4.out.drewN _).setOpn⟩
              · rw [decide_eq_false p2] at n2
                have e0 : ¬ (p ≠ Arr.nullW ∧ Arr.upperI p = Arr.nullW) := fun h => p2 h.2
                have HW := HWD.out
                rw [if_neg e0] at HW
                by_cases p3 : p = []
                · rw [decide_eq_true p3] at n3 n4
                  rw [if_pos (.inl p3)] at HW
                  have HW2 := Aside0.mk HW
                  clear p1 p2 p3 HW e0
                  go_wp2_with fail
                  go_quiet ((go_at_call 27; exact quiet_d (HC2.out _)))
                  go_wp2_with fail
                  refine wp_gen (fun W3 => RS w0 s del g gd gs n a2 D S false false els v W3) (by first | exact HS.out.drewN _ | exact (HS.out.drewN _).drewN _) ?_
                  clear c0 c1 c2 c5 f1 f5 kbt g1 g1b HC2
                  intro W3 h3
                  have c0 := h3.c 0 (.string s) rfl
                  have c1 : W3.cell? ⟨g, 1, none⟩ = some (.int .i64 i) := by rw [HI.out]; exact h3.c 1 _ rfl
                  have c5 := h3.c 5 (.bool false) rfl
                  have f5 := h3.f 5
                  have c6 := h3.c 6 (.bool false) rfl
                  have f6 := h3.f 6
                  have c7 := h3.c 7 v rfl
                  have f7 := h3.f 7
                  have H3 := Aside0.mk h3
                  clear h3
                  go_quiet (fail)
                  go_wp2_with (go_at_call 37; refine (HUP.out _).mono ?_; rintro e w1 ⟨rfl, hb1⟩; have h4 := (H3.out.drewN _).below hb1; have d6 := h4.c 6 (.bool false) rfl; have d6f := h4.f 6; have d0 := h4.c 0 (.string s) rfl; have d1 : w1.cell? ⟨g, 1, none⟩ = some (.int .i64 i) := (by rw [HI.out]; exact h4.c 1 _ rfl); have H4 := Aside0.mk h4; clear hb1 h4)
                  go_quiet (fail)
                  go_wp2_with fail
                  go_end0
                  refine ⟨rfl, ?_⟩
                  rw [HW2.out]
                  exact ⟨a2, v, rfl, by first | exact H4.out.setBad | exact (H4.out.drewN _).setBad⟩
                · rw [decide_eq_false p3] at n3 n4
                  have hlt := HLN.out p3
                  have HLT := Aside0.mk hlt
                  have HLEN : Aside0 ((List.length (els.map sIt) + 1) * 48 ≤ 140737488355328) := ⟨by rw [List.length_map]; have := HS.out.el; have := HS.out.al; have := HL.out; omega⟩
                  have hel : Arr.elOf p = some p := if_neg p1
                  rw [hel] at HW
                  rw [if_neg (by rintro (h | h); exact p3 h; exact (HR2.out.mp h))] at HW
                  have HW2 := Aside0.mk HW
                  have hqq : strOfNums p = q := by rw [← HQB.out]; exact back_bytes q
                  have HQQ := Aside0.mk hqq
                  clear p1 p2 p3 e0 hel hlt HW hqq
                  go_wp2_with fail
                  go_quiet ((go_at_call 27; exact quiet_d (HC2.out _)))
                  go_wp2_with fail
                  refine wp_gen (fun W3 => RS w0 s del g gd gs n a2 D S false false els v W3) (by first | exact HS.out.drewN _ | exact (HS.out.drewN _).drewN _) ?_
                  clear c0 c1 c2 c5 f1 f5 kbt g1 g1b HC2
                  intro W3 h3
                  have c0 := h3.c 0 (.string s) rfl
                  have c1 : W3.cell? ⟨g, 1, none⟩ = some (.int .i64 i) := by rw [HI.out]; exact h3.c 1 _ rfl
                  have c5 := h3.c 5 (.bool false) rfl
                  have f5 := h3.f 5
                  have c6 := h3.c 6 (.bool false) rfl
                  have f6 := h3.f 6
                  have c7 := h3.c 7 v rfl
                  have f7 := h3.f 7
                  have H3 := Aside0.mk h3
                  clear h3
                  go_quiet (fail)
                  go_wp2_with (go_at_call 37; refine (HUP.out _).mono ?_; rintro e w1 ⟨rfl, hb1⟩; have h4 := (H3.out.drewN _).below hb1; have d0 := h4.c 0 (.string s) rfl; have d1 : w1.cell? ⟨g, 1, none⟩ = some (.int .i64 i) := (by rw [HI.out]; exact h4.c 1 _ rfl); have d7 := h4.c 7 v rfl; have d7f := h4.f 7; have H5 := Aside0.mk h4; clear hb1 h4)
                  go_quiet (fail)
                  go_wp2_with ((with_reducible refine gate_builtin (b := .append) (xs := #[.tmp 91, .tmp 94]) rfl ?_); at_builtin; refine Kd.R_append k34 (w0 := w0) w0.heap.size rfl (.tmp 91) (.tmp 94) 22 34 (.agg #[.bool false, .string ⟨#[]⟩, .int .i64 0, .float .f64 0, .bool false]) 48 rfl Tryz.underlying22 it_infoS rfl (by decide) (by omega) v (els.map sIt) (sIt (some p)) [.bool false, .string q, .int .i64 0, .float .f64 0, .bool false] (fun _ => True) (fun _ => False) rfl (by first | (go_simp; done) | (go_simp; rfl)) ?aP (fun _ hk => hk.elim) ?aF ?aO ?aB ?aS ?aL ?_; (case aP => exact (by rw [← HQQ.out]; exact k34_mkM _ _ _ (sIt (some p)))); (case aF => exact (fun _ _ => trivial)); (case aO => first | exact H5.out.hl | exact (H5.out.drewN _).hl); (case aB => first | exact H5.out.hB | exact (H5.out.drewN _).hB); (case aS => first | exact H5.out.hB.size | exact (H5.out.drewN _).hB.size); (case aL => exact HLEN.out); intro v1 w8 ho hb hg hat; obtain ⟨A8, c8, e8, hc8, HC8⟩ := Kd.R_reads ho; subst e8; rw [show (List.map sIt els ++ [sIt (some p)]).length = els.length + 1 by simp] at ho; have b8 : w8.heap[g]? = some (.cells (rsCells s del gd gs n a2 false false v) 52 (0, 0)) := (by first | exact blk_grown H5.out.blk hg HS.out.nv | exact blk_grown (H5.out.drewN _).blk hg HS.out.nv); have t7 := (blk_cell b8 7).trans (rfl : _ = some v); have tf7 := blk_frozen b8 7; have HO := Aside0.mk ho; have HBB := Aside0.mk hb; have HGG := Aside0.mk hg; clear ho hb hg hat HC8 hc8 b8)
                  go_end0
                  refine ⟨rfl, ?_⟩
                  rw [HW2.out]
                  exact ⟨a2, _, rfl, by first | exact RS.put H5.out (some p) _ HO.out HBB.out HGG.out (by have := HLT.out; have := HH.out.el; omega) | exact RS.put (H5.out.drewN _) (some p) _ HO.out HBB.out HGG.out (by have := HLT.out; have := HH.out.el; omega)⟩
            --}B
          · have b125 : (bt s i != 125) = true := by rw [← hc]; exact bne_iff_ne.mpr c125
            have hcase : ∀ (b : Bool), b = decide (Arr.stopC c) → (b = true → Arr.spScan d ((bytesOf s).drop a2) = ([], (bytesOf s).drop a2, true)) ∧ (b = false → Arr.spScan d ((bytesOf s).drop a) = (((bytesOf s).drop a).take (a2 + 1 - a) ++ (Arr.spScan d ((bytesOf s).drop (a2 + 1))).1, (Arr.spScan d ((bytesOf s).drop (a2 + 1))).2)) := by
              intro b hb
              refine ⟨fun h => ?_, fun h => ?_⟩
              · rw [hdr, ← hc, Arr.spScan, if_neg (by rintro (h | h); exact cd h; exact c125 h), if_pos (of_decide_eq_true (hb.symm.trans h))]
              · have h1 : ((bytesOf s).drop a).drop (a2 - a) = c :: (bytesOf s).drop (a2 + 1) := by
                  rw [List.drop_drop, Nat.add_sub_cancel' HA.out, hdr, ← hc]
                have h2 : a2 + 1 - a = (a2 - a) + 1 := by have := HA.out; omega
                rw [HSC.out, h2, List.take_add, h1, hdr, ← hc, Arr.spScan, if_neg (by rintro (h | h); exact cd h; exact c125 h), if_neg (of_decide_eq_false (hb.symm.trans h))]
                simp
            have HBL : ∀ (W : World), Calls Tryz.prog 14 #[.int .u8 (bt s i)] W fun e w' => e = .returned (.bool (decide (Arr.blankI c))) ∧ Drawn0 W w' := fun W => by
              rw [hc]; exact spec_blank.calls _ _ _ (blank_f _)
            have hw : wrap64 (i + 1) = ((a2 + 1 : Nat) : Int) := by have := HL.out; unfold wrap64; omega
            have HCAS := Aside0.mk hcase
            have HI := Aside0.mk hi
            have HCA := Aside0.mk ca
            by_cases k1 : c = 123
            · have b1 : (bt s i == 123) = true := by rw [← hc]; exact beq_iff_eq.mpr k1
              have hb := (hcase true (decide_eq_true (.inl k1)).symm).1 rfl
              have HB := Aside0.mk hb
              clear hb HBL k1 hcase hcall2 cd hc hdr c125 hi ca al
              --{C1
              go_wp2_with fail
              go_quiet ((go_at_call 27; exact quiet_d (HC2.out _)))
              go_wp2_with fail
              go_quiet (fail)
              go_wp2_with fail
              refine bodyPost_ret (results_none rfl _ _ _) rfl ?_
              refine ⟨rfl, ?_⟩
              have hw2 : Arr.spWord d ⟨(bytesOf s).drop a, D, S, false, false, els⟩ = ⟨(bytesOf s).drop a2, D, S, true, false, els⟩ := by
                unfold Arr.spWord
                have h3 := HSC.out
                rw [HB.out] at h3
                simp only [h3, if_true]
              rw [hw2]
              exact ⟨a2, v, rfl, by first | exact (HS.out.drewN _).setOpn | exact ((HS.out.drewN _).drewN _).setOpn | exact (((HS.out.drewN _).drewN _).drewN _).setOpn⟩
              --}C1
            have b1 : (bt s i == 123) = false := by rw [← hc]; exact beq_eq_false_iff_ne.mpr k1
            by_cases k2 : c = 34
            · have b2 : (bt s i == 34) = true := by rw [← hc]; exact beq_iff_eq.mpr k2
              have hb := (hcase true (decide_eq_true (.inr (.inl k2))).symm).1 rfl
              have HB := Aside0.mk hb
              clear hb HBL k1 k2 hcase hcall2 cd hc hdr c125 hi ca al
              --{C2
              go_wp2_with fail
              go_quiet ((go_at_call 27; exact quiet_d (HC2.out _)))
              go_wp2_with fail
              go_quiet (fail)
              go_wp2_with fail
              refine bodyPost_ret (results_none rfl _ _ _) rfl ?_
              refine ⟨rfl, ?_⟩
              have hw2 : Arr.spWord d ⟨(bytesOf s).drop a, D, S, false, false, els⟩ = ⟨(bytesOf s).drop a2, D, S, true, false, els⟩ := by
                unfold Arr.spWord
                have h3 := HSC.out
                rw [HB.out] at h3
                simp only [h3, if_true]
              rw [hw2]
              exact ⟨a2, v, rfl, by first | exact (HS.out.drewN _).setOpn | exact ((HS.out.drewN _).drewN _).setOpn | exact (((HS.out.drewN _).drewN _).drewN _).setOpn⟩
              --}C2
            have b2 : (bt s i == 34) = false := by rw [← hc]; exact beq_eq_false_iff_ne.mpr k2
            by_cases k3 : c = 92
            · have b3 : (bt s i == 92) = true := by rw [← hc]; exact beq_iff_eq.mpr k3
              have hb := (hcase true (decide_eq_true (.inr (.inr (.inl k3)))).symm).1 rfl
              have HB := Aside0.mk hb
              clear hb HBL k1 k2 k3 hcase hcall2 cd hc hdr c125 hi ca al
              --{C3
              go_wp2_with fail
              go_quiet ((go_at_call 27; exact quiet_d (HC2.out _)))
              go_wp2_with fail
              go_quiet (fail)
              go_wp2_with fail
              refine bodyPost_ret (results_none rfl _ _ _) rfl ?_
              refine ⟨rfl, ?_⟩
              have hw2 : Arr.spWord d ⟨(bytesOf s).drop a, D, S, false, false, els⟩ = ⟨(bytesOf s).drop a2, D, S, true, false, els⟩ := by
                unfold Arr.spWord
                have h3 := HSC.out
                rw [HB.out] at h3
                simp only [h3, if_true]
              rw [hw2]
              exact ⟨a2, v, rfl, by first | exact (HS.out.drewN _).setOpn | exact ((HS.out.drewN _).drewN _).setOpn | exact (((HS.out.drewN _).drewN _).drewN _).setOpn⟩
              --}C3
            have b3 : (bt s i == 92) = false := by rw [← hc]; exact beq_eq_false_iff_ne.mpr k3
            by_cases k4 : Arr.blankI c
            · rw [decide_eq_true k4] at HBL
              have hb := (hcase true (decide_eq_true (.inr (.inr (.inr k4)))).symm).1 rfl
              have HB := Aside0.mk hb
              have HB2 := Aside0.mk HBL
              clear hb HBL k1 k2 k3 k4 hcase hcall2 cd hc hdr c125 hi ca al
              --{C4
              go_wp2_with fail
              go_quiet ((go_at_call 27; exact quiet_d (HC2.out _)))
              go_wp2_with fail
              go_quiet (fail)
              go_wp2_with (go_at_call 14; refine (HB2.out _).mono ?_; rintro e w1 ⟨rfl, ⟨nd4, rfl⟩⟩)
              refine bodyPost_ret (results_none rfl _ _ _) rfl ?_
              refine ⟨rfl, ?_⟩
              have hw2 : Arr.spWord d ⟨(bytesOf s).drop a, D, S, false, false, els⟩ = ⟨(bytesOf s).drop a2, D, S, true, false, els⟩ := by
                unfold Arr.spWord
                have h3 := HSC.out
                rw [HB.out] at h3
                simp only [h3, if_true]
              rw [hw2]
              exact ⟨a2, v, rfl, by first | exact (HS.out.drewN _).setOpn | exact ((HS.out.drewN _).drewN _).setOpn | exact (((HS.out.drewN _).drewN _).drewN _).setOpn⟩
              --}C4
            · rw [decide_eq_false k4] at HBL
              have hb := (hcase false (decide_eq_false (by rintro (h | h | h | h); exact k1 h; exact k2 h; exact k3 h; exact k4 h)).symm).2 rfl
              have HB := Aside0.mk hb
              have HB2 := Aside0.mk HBL
              clear hb HBL k1 k2 k3 k4 hcase hcall2 cd hc hdr c125 hi ca al
              --{D
              go_wp2_with fail
              go_quiet ((go_at_call 27; exact quiet_d (HC2.out _)))
              go_wp2_with fail
              go_quiet (fail)
              go_wp2_with (go_at_call 14; refine (HB2.out _).mono ?_; rintro e w1 ⟨rfl, ⟨nd4, rfl⟩⟩)
              go_roundg (s.size - a2)
              case measure => have := HK.out; have := HCA.out; omega
              case rel =>
                refine ⟨a2 + 1, ⟨by have := HCA.out; omega⟩, ⟨by have := HA.out; omega⟩, ⟨?_⟩, HB⟩
                first | exact (HS.out.drewN _).setAt (a2 + 1) (by have := HCA.out; omega) (by have := HS.out.el; omega) | exact ((HS.out.drewN _).drewN _).setAt (a2 + 1) (by have := HCA.out; omega) (by have := HS.out.el; omega) | exact (((HS.out.drewN _).drewN _).drewN _).setAt (a2 + 1) (by have := HCA.out; omega) (by have := HS.out.el; omega)
              --}D
      · have g1 : (i < (s.size : Int)) = False := eq_false (by omega)
        have g1b : decide (i < (s.size : Int)) = false := decide_eq_false (by omega)
        have hend : Arr.spScan d ((bytesOf s).drop a2) = ([], (bytesOf s).drop a2, false) := by rw [drop_end (by omega)]; rfl
        have HC2 : True := trivial
        have kbt : True := trivial
        have hne : a2 = s.size := by omega
        clear hcall
        --{E
        obtain ⟨p, hp⟩ : ∃ p, p = ((bytesOf s).drop a).take (a2 - a) := ⟨_, rfl⟩
        have hscan : Arr.spScan d ((bytesOf s).drop a) = (p, (bytesOf s).drop a2, false) := by rw [HSC.out, hend, hp]; simp
        have hwd := word_of (D := D) (S := S) (els := els) hscan
        obtain ⟨q, hqd⟩ : ∃ q, q = s.extract fr.toNat i.toNat := ⟨_, rfl⟩
        have hqb : bytesOf q = p := by
          rw [hqd, hp, hi, HFR.out, Int.toNat_natCast, Int.toNat_natCast]
          exact extract_take HA.out
        have hqs : q.size ≤ 1000000 := by
          rw [← bytesOf_length, hqb, hp, List.length_take, List.length_drop, bytesOf_length]; have := HL.out; omega
        have hup := fun W => spec_upper.main q W hqs
        rw [hqb] at hup
        obtain ⟨u, hu⟩ : ∃ u, u = strOfNums (Arr.upperI p) := ⟨_, rfl⟩
        have hub : bytesOf u = Arr.upperI p := by
          rw [hu]; exact upper_byte (fun x hx => bytes_ok q x (by rw [hqb]; exact hx))
        have n1 := str_is hqb
        have n2 := str_is hub
        have n3 := (str_empty hqb).1
        have n4 := (str_empty hqb).2
        rw [← hu] at hup
        have HUP := Aside0.mk hup
        have HWD := Aside0.mk hwd
        have HQB := Aside0.mk hqb
        have hq' := hqd.symm
        have y1 : (fr ≤ i) = True := eq_true (by have := HFR.out; have := HA.out; omega)
        have y1b : decide (fr ≤ i) = true := decide_eq_true (by have := HFR.out; have := HA.out; omega)
        have y2 : (0 ≤ fr) = True := eq_true (by have := HFR.out; omega)
        have y2b : decide (0 ≤ fr) = true := decide_eq_true (by have := HFR.out; omega)
        have y3 : (i ≤ (s.size : Int)) = True := eq_true (by have := HS.out.al; omega)
        have y3b : decide (i ≤ (s.size : Int)) = true := decide_eq_true (by have := HS.out.al; omega)
        have hlen : p ≠ [] → a < a2 := by
          intro hpn
          rcases Nat.lt_or_ge a a2 with h | h
          · exact h
          · rw [Nat.sub_eq_zero_of_le h, List.take_zero] at hp; exact absurd hp hpn
        have HLN := Aside0.mk hlen
        have HI := Aside0.mk hi
        have y4 : (i == (s.size : Int)) = true := beq_iff_eq.mpr (by omega)
        have hr2 : ((bytesOf s).drop a2 = []) = (True) := eq_true (drop_end (by omega))
        have HR2 := Aside0.mk hr2
        clear hp hend hscan hwd hqd hqb hqs hup hu hub hi ca al hlen hne hr2
        by_cases p1 : p = Arr.nullW
        · rw [decide_eq_true p1] at n1
          have e0 : ¬ (p ≠ Arr.nullW ∧ Arr.upperI p = Arr.nullW) := fun h => h.1 p1
          have e1 : p ≠ [] := by rw [p1]; decide
          rw [decide_eq_false e1] at n3 n4
          have n1b : (q.toList != [78, 85, 76, 76]) = false := by unfold bne; rw [n1]; rfl
          have hel : Arr.elOf p = none := if_pos p1
          have hlt := HLN.out e1
          have HLT := Aside0.mk hlt
          have HLEN : Aside0 ((List.length (els.map sIt) + 1) * 48 ≤ 140737488355328) := ⟨by rw [List.length_map]; have := HS.out.el; have := HS.out.al; have := HL.out; omega⟩
          have HW := HWD.out
          rw [if_neg e0, hel] at HW
          rw [if_pos (.inr (HR2.out.mpr trivial))] at HW
          have HW2 := Aside0.mk HW
          clear p1 e0 e1 hel hlt HW
          go_wp2_with fail
          go_quiet (fail)
          go_wp2_with fail
          refine wp_gen (fun W3 => RS w0 s del g gd gs n a2 D S false false els v W3) (by first | exact HS.out.drewN _ | exact (HS.out.drewN _).drewN _) ?_
          clear c0 c1 c2 c5 f1 f5 kbt g1 g1b HC2
          intro W3 h3
          have c0 := h3.c 0 (.string s) rfl
          have c1 : W3.cell? ⟨g, 1, none⟩ = some (.int .i64 i) := by rw [HI.out]; exact h3.c 1 _ rfl
          have c5 := h3.c 5 (.bool false) rfl
          have f5 := h3.f 5
          have c6 := h3.c 6 (.bool false) rfl
          have f6 := h3.f 6
          have c7 := h3.c 7 v rfl
          have f7 := h3.f 7
          have H3 := Aside0.mk h3
          clear h3
          go_quiet (fail)
          go_wp2_with fail
          go_quiet (fail)
          go_wp2_with fail
          go_end0
          refine ⟨rfl, ?_⟩
          rw [HW2.out]
          exact ⟨a2, v, rfl, by first | exact (H3.out.drewN _).setBad | exact ((H3.out.drewN _).drewN _).setBad⟩
        · rw [decide_eq_false p1] at n1
          have n1b : (q.toList != [78, 85, 76, 76]) = true := by unfold bne; rw [n1]; rfl
          by_cases p2 : Arr.upperI p = Arr.nullW
          · rw [decide_eq_true p2] at n2
            have HW := HWD.out
            rw [if_pos ⟨p1, p2⟩] at HW
            have HW2 := Aside0.mk HW
            clear p1 p2 HW
            go_wp2_with fail
            go_quiet (fail)
            go_wp2_with fail
            refine wp_gen (fun W3 => RS w0 s del g gd gs n a2 D S false false els v W3) (by first | exact HS.out.drewN _ | exact (HS.out.drewN _).drewN _) ?_
            clear c0 c1 c2 c5 f1 f5 kbt g1 g1b HC2
            intro W3 h3
            have c0 := h3.c 0 (.string s) rfl
            have c1 : W3.cell? ⟨g, 1, none⟩ = some (.int .i64 i) := by rw [HI.out]; exact h3.c 1 _ rfl
            have c5 := h3.c 5 (.bool false) rfl
            have f5 := h3.f 5
            have c6 := h3.c 6 (.bool false) rfl
            have f6 := h3.f 6
            have c7 := h3.c 7 v rfl
            have f7 := h3.f 7
            have H3 := Aside0.mk h3
            clear h3
            go_quiet (fail)
            go_wp2_with (go_at_call 37; refine (HUP.out _).mono ?_; rintro e w1 ⟨rfl, hb1⟩; have h4 := (H3.out.drewN _).below hb1; have d5 := h4.c 5 (.bool false) rfl; have d5f := h4.f 5; have H4 := Aside0.mk h4; clear hb1 h4)
            go_end0
            refine ⟨rfl, ?_⟩
            rw [HW2.out]
            exact ⟨a2, v, rfl, by first | exact H4.out.setOpn | exact (H4.out.drewN _).setOpn⟩
          · rw [decide_eq_false p2] at n2
            have e0 : ¬ (p ≠ Arr.nullW ∧ Arr.upperI p = Arr.nullW) := fun h => p2 h.2
            have HW := HWD.out
            rw [if_neg e0] at HW
            by_cases p3 : p = []
            · rw [decide_eq_true p3] at n3 n4
              rw [if_pos (.inl p3)] at HW
              have HW2 := Aside0.mk HW
              clear p1 p2 p3 HW e0
              go_wp2_with fail
              go_quiet (fail)
              go_wp2_with fail
              refine wp_gen (fun W3 => RS w0 s del g gd gs n a2 D S false false els v W3) (by first | exact HS.out.drewN _ | exact (HS.out.drewN _).drewN _) ?_
              clear c0 c1 c2 c5 f1 f5 kbt g1 g1b HC2
              intro W3 h3
              have c0 := h3.c 0 (.string s) rfl
              have c1 : W3.cell? ⟨g, 1, none⟩ = some (.int .i64 i) := by rw [HI.out]; exact h3.c 1 _ rfl
              have c5 := h3.c 5 (.bool false) rfl
              have f5 := h3.f 5
              have c6 := h3.c 6 (.bool false) rfl
              have f6 := h3.f 6
              have c7 := h3.c 7 v rfl
              have f7 := h3.f 7
              have H3 := Aside0.mk h3
              clear h3
              go_quiet (fail)
              go_wp2_with (go_at_call 37; refine (HUP.out _).mono ?_; rintro e w1 ⟨rfl, hb1⟩; have h4 := (H3.out.drewN _).below hb1; have d6 := h4.c 6 (.bool false) rfl; have d6f := h4.f 6; have d0 := h4.c 0 (.string s) rfl; have d1 : w1.cell? ⟨g, 1, none⟩ = some (.int .i64 i) := (by rw [HI.out]; exact h4.c 1 _ rfl); have H4 := Aside0.mk h4; clear hb1 h4)
              go_quiet (fail)
              go_wp2_with fail
              go_end0
              refine ⟨rfl, ?_⟩
              rw [HW2.out]
              exact ⟨a2, v, rfl, by first | exact H4.out.setBad | exact (H4.out.drewN _).setBad⟩
            · rw [decide_eq_false p3] at n3 n4
              have hlt := HLN.out p3
              have HLT := Aside0.mk hlt
              have HLEN : Aside0 ((List.length (els.map sIt) + 1) * 48 ≤ 140737488355328) := ⟨by rw [List.length_map]; have := HS.out.el; have := HS.out.al; have := HL.out; omega⟩
              have hel : Arr.elOf p = some p := if_neg p1
              rw [hel] at HW
              rw [if_pos (.inr (HR2.out.mpr trivial))] at HW
              have HW2 := Aside0.mk HW
              clear p1 p2 p3 e0 hel hlt HW
              go_wp2_with fail
              go_quiet (fail)
              go_wp2_with fail
              refine wp_gen (fun W3 => RS w0 s del g gd gs n a2 D S false false els v W3) (by first | exact HS.out.drewN _ | exact (HS.out.drewN _).drewN _) ?_
              clear c0 c1 c2 c5 f1 f5 kbt g1 g1b HC2
              intro W3 h3
              have c0 := h3.c 0 (.string s) rfl
              have c1 : W3.cell? ⟨g, 1, none⟩ = some (.int .i64 i) := by rw [HI.out]; exact h3.c 1 _ rfl
              have c5 := h3.c 5 (.bool false) rfl
              have f5 := h3.f 5
              have c6 := h3.c 6 (.bool false) rfl
              have f6 := h3.f 6
              have c7 := h3.c 7 v rfl
              have f7 := h3.f 7
              have H3 := Aside0.mk h3
              clear h3
              go_quiet (fail)
              go_wp2_with (go_at_call 37; refine (HUP.out _).mono ?_; rintro e w1 ⟨rfl, hb1⟩; have h4 := (H3.out.drewN _).below hb1; have d6 := h4.c 6 (.bool false) rfl; have d6f := h4.f 6; have d0 := h4.c 0 (.string s) rfl; have d1 : w1.cell? ⟨g, 1, none⟩ = some (.int .i64 i) := (by rw [HI.out]; exact h4.c 1 _ rfl); have H4 := Aside0.mk h4; clear hb1 h4)
              go_quiet (fail)
              go_wp2_with fail
              go_end0
              refine ⟨rfl, ?_⟩
              rw [HW2.out]
              exact ⟨a2, v, rfl, by first | exact H4.out.setBad | exact (H4.out.drewN _).setBad⟩
        --}E
    --}R

end Go.Proofs.YtcdcoogjhkchlaaGreatDoor.P
