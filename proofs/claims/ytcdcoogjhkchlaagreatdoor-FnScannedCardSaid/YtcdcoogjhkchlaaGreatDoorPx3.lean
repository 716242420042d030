-- Written by the program wip/myprint.py of this session, over the kit's print of the translation. Lean checks it.
import Derived.Test.YtcdcoogjhkchlaaGreatDoorLibArr
import Derived.ScopeJumps
import Derived.WalkMore
import Derived.Test.YtcdcoogjhkchlaaGreatDoorPx0
import Derived.Test.YtcdcoogjhkchlaaGreatDoorPx1
import Derived.Test.YtcdcoogjhkchlaaGreatDoorPx2
namespace Go.Proofs.YtcdcoogjhkchlaaGreatDoor.P
open Go.RowKit Go.Proofs.YtcdcoogjhkchlaaGreatDoorW.PrintWords Go.Proofs.YtcdcoogjhkchlaaGreatDoorW.PrintLast Go.Proofs.YtcdcoogjhkchlaaGreatDoorW.PrintMore
attribute [local go_sem] max2_int min2_int max_two min_two max_three min_three max_four min_four   -- for this text's walks alone
set_option linter.unusedVariables false
set_option linter.unusedSimpArgs false

/-! ### spec_reader_refuse: function 29 -/
set_option maxHeartbeats 1000000 in
set_option maxRecDepth 100000 in
theorem spec_reader_refuse.main {w0 : World} {s del : ByteArray} {g gd gs n a : Nat} {D : List Int} {S : List Bool} {o b : Bool} {els : List (Option (List Int))} {v : Value} {W : World} (h : RS w0 s del g gd gs n a D S o b els v W) (hL : s.size ≤ 1000000) :
    Calls Tryz.prog 29 #[.pointer (some ⟨g, 0, none⟩)] W fun e w' => e = .returned (.tuple #[]) ∧ RS w0 s del g gd gs n a D S (o || refB ((bytesOf s).drop a)) true els v w' := by
  have c0 := h.c 0 (.string s) rfl
  have c1 := h.c 1 (.int .i64 (a : Int)) rfl
  have c5 := h.c 5 (.bool o) rfl
  have c6 := h.c 6 (.bool b) rfl
  have f5 := h.f 5
  have f6 := h.f 6
  have al := h.al
  have HH := Aside0.mk h
  clear h
  by_cases hlt : a < s.size
  · rw [drop_bt hlt]
    obtain ⟨i, hi⟩ : ∃ i : Int, i = (a : Int) := ⟨_, rfl⟩
    rw [← hi] at c1 ⊢
    have hb := blank_f (bt s i)
    have kbt := bt_at s i
    have g1 : (i < (s.size : Int)) = True := eq_true (by omega)
    have g1b : decide (i < (s.size : Int)) = true := decide_eq_true (by omega)
    have g3 : (0 ≤ i) = True := eq_true (by omega)
    have g3b : decide (0 ≤ i) = true := decide_eq_true (by omega)
    obtain ⟨c, hc⟩ : ∃ c, c = bt s i := ⟨_, rfl⟩
    have HBL : ∀ (W : World), Calls Tryz.prog 14 #[.int .u8 (bt s i)] W fun e w' => e = .returned (.bool (decide (Arr.blankI c))) ∧ Drawn0 W w' := fun W => by
      rw [hc]; exact spec_blank.calls _ _ _ hb
    have HB2 := Aside0.mk HBL
    clear hb hlt al hL hi HBL
    rw [← hc]
    by_cases k1 : Arr.blankI c
    · have e0 : (o || refB (c :: (bytesOf s).drop (a + 1))) = true := by
        show (o || decide (Arr.blankI c ∨ c = 123)) = true
        rw [decide_eq_true (.inl k1), Bool.or_true]
      rw [e0]
      rw [decide_eq_true k1] at HB2
      clear k1 e0 hc
      go_enter Tryz.func29, Tryz.ntmps29
      go_wp2
      go_quiet ((go_at_call 14; exact quiet_d (HB2.out _)))
      go_wp2
      go_end0
      exact ⟨rfl, (HH.out.drewN _).setOpn.setBad⟩
    · rw [decide_eq_false k1] at HB2
      by_cases k2 : c = 123
      · have e0 : (o || refB (c :: (bytesOf s).drop (a + 1))) = true := by
          show (o || decide (Arr.blankI c ∨ c = 123)) = true
          rw [decide_eq_true (.inr k2), Bool.or_true]
        rw [e0]
        have k2b : (bt s i == 123) = true := by rw [← hc]; exact beq_iff_eq.mpr k2
        clear k1 e0 hc k2
        go_enter Tryz.func29, Tryz.ntmps29
        go_wp2
        go_quiet ((go_at_call 14; exact quiet_d (HB2.out _)))
        go_wp2
        go_end0
        exact ⟨rfl, (HH.out.drewN _).setOpn.setBad⟩
      · have e0 : (o || refB (c :: (bytesOf s).drop (a + 1))) = o := by
          show (o || decide (Arr.blankI c ∨ c = 123)) = o
          rw [decide_eq_false (by rintro (h | h); exact k1 h; exact k2 h), Bool.or_false]
        rw [e0]
        have k2b : (bt s i == 123) = false := by rw [← hc]; exact beq_eq_false_iff_ne.mpr k2
        clear k1 e0 hc k2
        go_enter Tryz.func29, Tryz.ntmps29
        go_wp2
        go_quiet ((go_at_call 14; exact quiet_d (HB2.out _)))
        go_wp2
        go_end0
        exact ⟨rfl, (HH.out.drewN _).setBad⟩
  · have he : a = s.size := by omega
    rw [drop_end (by omega), show (o || refB []) = o from Bool.or_false o]
    obtain ⟨i, hi⟩ : ∃ i : Int, i = (a : Int) := ⟨_, rfl⟩
    rw [← hi] at c1
    have g1 : (i < (s.size : Int)) = False := eq_false (by omega)
    have g1b : decide (i < (s.size : Int)) = false := decide_eq_false (by omega)
    clear hlt he al hL hi
    go_enter Tryz.func29, Tryz.ntmps29
    go_wp2
    go_quiet (fail)
    go_wp2
    go_end0
    exact ⟨rfl, (HH.out.drewN _).setBad⟩

/-! ### spec_reader_level: function 16 -/
section
variable {w0 : World} {s del : ByteArray} {g gd gs n a : Nat} {D : List Int} {S : List Bool} {o b : Bool} {els : List (Option (List Int))} {v : Value} {W : World}
theorem RS.setDim (h : RS w0 s del g gd gs n a D S o b els v W) (k : Nat) (x : Int) : RS w0 s del g gd gs n a (D.set k x) S o b els v (W.setCell ⟨gd, k, none⟩ (.int .i64 x)) :=
  ⟨blk_far h.blk h.ngd _, Kd.R_set h.hl h.hd (by decide) k _, by rw [← icells_set]; exact blk_set h.hd k _, blk_far h.hs (fun e => h.nds e.symm) _, h.bg, h.bd, h.bs, h.hB.setCell h.bd _, by simpa using h.dl, h.sl, h.al, h.el⟩
theorem RS.setSet (h : RS w0 s del g gd gs n a D S o b els v W) (k : Nat) (x : Bool) : RS w0 s del g gd gs n a D (S.set k x) o b els v (W.setCell ⟨gs, k, none⟩ (.bool x)) :=
  ⟨blk_far h.blk h.ngs _, Kd.R_set h.hl h.hs (by decide) k _, blk_far h.hd h.nds _, by rw [← bcells_set]; exact blk_set h.hs k _, h.bg, h.bd, h.bs, h.hB.setCell h.bs _, h.dl, by simpa using h.sl, h.al, h.el⟩
end
set_option maxHeartbeats 8000000 in
set_option maxRecDepth 100000 in
theorem spec_reader_level.main {w0 : World} {s del : ByteArray} {g gd gs n : Nat} (hL : s.size ≤ 1000000) (hn : n ≤ 1000000) (d : Int) (hdel : bytesOf del = [d]) : ∀ (N fuel : Nat), fuel ≤ N → fuel ≤ 3000000 → ∀ (k : Nat) (st st' : Arr.Rd) (W : World), k < n → St w0 s del g gd gs n st W → st.opn = false → st.bad = false → Arr.spGo d n fuel true k 0 st = some st' →
    Calls Tryz.prog 16 #[.pointer (some ⟨g, 0, none⟩), .int .i64 (k : Int), .int .i64 (n : Int)] W fun e w' => e = .returned (.tuple #[]) ∧ St w0 s del g gd gs n st' w' := by
  intro N
  induction N with
  | zero =>
    intro fuel hf _ k st st' W hk hst ho hb h
    obtain rfl : fuel = 0 := by omega
    rw [Arr.spGo] at h; cases h
  | succ N ih =>
    intro fuel hf hF k st st' W hk hst ho hb h
    cases fuel with
    | zero => rw [Arr.spGo] at h; cases h
    | succ fuel =>
    obtain ⟨rest, D, S, o_, b_, els⟩ := st
    simp only at ho hb
    subst ho hb
    obtain ⟨a, v, hr, h0⟩ := hst
    simp only at hr h0
    have hb123 : bytesOf ⟨#[123]⟩ = [123] := by decide
    have hb125 : bytesOf ⟨#[125]⟩ = [125] := by decide
    have his := spec_reader_is.one h0 ⟨#[123]⟩ 123 hb123 hL
    rw [Arr.spGo] at h
    simp only at h
    have c5 := h0.c 5 (.bool false) rfl
    have f5 := h0.f 5
    have HL := Aside0.mk hL
    have HN := Aside0.mk hn
    have HK := Aside0.mk hk
    have HDL := Aside0.mk hdel
    have IH := Aside0.mk ih
    have HF := Aside0.mk hf
    have HFF := Aside0.mk hF
    have H0 := Aside0.mk h0
    rw [hr] at his
    by_cases h123 : hdIs rest 123 = true
    case neg =>
      have hq : hdIs rest 123 = false := by simpa using h123
      rw [hq] at his
      have hst' : st' = ⟨rest, D, S, true, false, els⟩ := by
        cases rest with
        | nil => injection h with h; exact h.symm
        | cons c t =>
          have : c ≠ 123 := of_decide_eq_false hq
          simp only [if_neg this] at h
          injection h with h; exact h.symm
      have HIS := Aside0.mk his
      have HST := Aside0.mk hst'
      have HR := Aside0.mk hr
      clear his h123 hq hst' h hr h0 hL hn hk hdel ih hf hF hb123 hb125
      --{A
      go_enter Tryz.func16, Tryz.ntmps16
      go_wp2_with (go_at_call 27; (with_reducible refine HIS.out.mono ?_); rintro e w1 ⟨rfl, ⟨nd, rfl⟩⟩)
      refine bodyPost_ret (results_none rfl _ _ _) rfl ?_
      refine ⟨rfl, ?_⟩
      rw [HST.out]
      exact ⟨a, v, HR.out, (H0.out.drewN _).setOpn⟩
      --}A
    case pos =>
    rw [h123] at his
    obtain ⟨t, rfl⟩ : ∃ t, rest = 123 :: t := by
      cases rest with
      | nil => cases h123
      | cons c t => exact ⟨t, by rw [of_decide_eq_true h123]⟩
    simp only [if_true] at h
    have hlt : a < s.size := by
      rcases Nat.lt_or_ge a s.size with hl | hl
      · exact hl
      · rw [drop_end hl] at hr; cases hr
    have hr1 : (bytesOf s).drop (a + 1) = t := by
      rw [drop_bt hlt] at hr
      injection hr
    have c1 := h0.c 1 (.int .i64 (a : Int)) rfl
    have f1 := h0.f 1
    obtain ⟨j, hj⟩ : ∃ j : Int, j = ((a + 1 : Nat) : Int) := ⟨_, rfl⟩
    have hw : wrap64 ((a : Int) + 1) = j := by unfold wrap64; omega
    have HJ := Aside0.mk hj
    have hel := h0.el
    have H1 : Aside0 (∀ nd : Nat, RS w0 s del g gd gs n (a + 1) D S false false els v ((W.drewN nd).setCell ⟨g, 1, none⟩ (.int .i64 j))) := ⟨fun nd => by rw [HJ.out]; exact (h0.drewN nd).setAt (a + 1) (by omega) (by omega)⟩
    have hcl : ∀ nd : Nat, Calls Tryz.prog 27 #[.pointer (some ⟨g, 0, none⟩), .string ⟨#[125]⟩] ((W.drewN nd).setCell ⟨g, 1, none⟩ (.int .i64 j)) fun e w' => e = .returned (.bool (hdIs t 125)) ∧ Drawn0 ((W.drewN nd).setCell ⟨g, 1, none⟩ (.int .i64 j)) w' := fun nd => by
      have := spec_reader_is.one (H1.out nd) ⟨#[125]⟩ 125 hb125 HL.out
      rw [hr1] at this
      exact this
    have HIS := Aside0.mk his
    have HR1 := Aside0.mk hr1
    have HLT := Aside0.mk hlt
    by_cases h125 : hdIs t 125 = true
    · rw [h125] at hcl
      have hst' : st' = ⟨t, D, S, true, false, els⟩ := by
        cases t with
        | nil => cases h125
        | cons x u =>
          have : x = 125 := of_decide_eq_true h125
          simp only [if_pos this] at h
          injection h with h; exact h.symm
      have HST := Aside0.mk hst'
      have HCL := Aside0.mk hcl
      have q5 : ∀ (x : Value) nd, ((W.drewN nd).setCell ⟨g, 1, none⟩ x).cell? ⟨g, 5, none⟩ = some (.bool false) := fun x nd => (blk_cell (blk_set (H0.out.drewN nd).blk 1 x) 5).trans rfl
      clear his h123 hst' h hr h0 hL hn hk hdel ih hf hF hb123 hb125 hcl h125 hr1 hlt hel q5 hj
      --{B
      go_enter Tryz.func16, Tryz.ntmps16
      go_wp2_with (first | (go_at_call 27; (with_reducible refine HIS.out.mono ?_); rintro e w1 ⟨rfl, ⟨nd, rfl⟩⟩) | (go_at_call 27; (with_reducible refine (HCL.out _).mono ?_); rintro e w1 ⟨rfl, ⟨nd2, rfl⟩⟩; have e5 := ((H1.out nd).drewN nd2).c 5 (.bool false) rfl; have e5f := ((H1.out nd).drewN nd2).f 5))
      refine bodyPost_ret (results_none rfl _ _ _) rfl ?_
      refine ⟨rfl, ?_⟩
      rw [HST.out]
      exact ⟨a + 1, v, HR1.out, ((H1.out nd).drewN _).setOpn⟩
      --}B
    · have hq : hdIs t 125 = false := by simpa using h125
      rw [hq] at hcl
      have hgo : Arr.spGo d n fuel false k 0 ⟨t, D, S, false, false, els⟩ = some st' := by
        cases t with
        | nil => exact h
        | cons x u =>
          have : x ≠ 125 := of_decide_eq_false hq
          simp only [if_neg this] at h
          exact h
      have HCL := Aside0.mk hcl
      have HGO := Aside0.mk hgo
      clear his h123 h hr h0 hL hn hk hdel ih hf hF hb123 hcl h125 hr1 hlt hel hq hgo hj
      --{C
      go_enter Tryz.func16, Tryz.ntmps16
      go_wp2_with (first | (go_at_call 27; (with_reducible refine HIS.out.mono ?_); rintro e w1 ⟨rfl, ⟨nd, rfl⟩⟩) | (go_at_call 27; (with_reducible refine (HCL.out _).mono ?_); rintro e w1 ⟨rfl, ⟨nd2, rfl⟩⟩))
      clear c1 f1 hw
      go_loopg [6] (fuel + 1) (fun kq s6 wx => (∃ (m fu : Nat) (st1 : Arr.Rd), s6 = .int .i64 (m : Int) ∧ Aside0 (fu + 1 ≤ kq) ∧ Aside0 (m + fu ≤ fuel) ∧ Aside0 (st1.opn = false ∧ st1.bad = false) ∧ Aside0 (St w0 s del g gd gs n st1 wx) ∧ Aside0 (Arr.spGo d n fu false k (m : Int) st1 = some st')) ∨ (∃ m : Nat, s6 = .int .i64 (m : Int) ∧ Aside0 (1 ≤ kq) ∧ Aside0 (st'.bad = true) ∧ Aside0 (St w0 s del g gd gs n st' wx)))
      case atStart => exact .inl ⟨0, fuel, ⟨t, D, S, false, false, els⟩, rfl, ⟨Nat.le_refl _⟩, ⟨by omega⟩, ⟨rfl, rfl⟩, ⟨a + 1, v, HR1.out, (H1.out nd).drewN _⟩, ⟨HGO.out⟩⟩
      case round =>
        rcases hrel with ⟨m, fu, st1, rfl, HK1, HM, HOB, HS, HG⟩ | ⟨m, rfl, HK1, HBAD, HS⟩
        case inr =>
          obtain ⟨r2, D2, S2, o2, b2, els2⟩ := st'
          have hb := HBAD.out
          simp only at hb
          subst hb
          obtain ⟨a2, v2, hr2, h2⟩ := HS.out
          simp only at hr2 h2
          have c5 := h2.c 5 (.bool o2) rfl
          have c6 := h2.c 6 (.bool true) rfl
          clear h2 hr2 HBAD HGO
          --{X
          cases o2
          · go_wp2_with fail
            go_end0
            exact ⟨rfl, HS.out⟩
          · go_wp2_with fail
            go_end0
            exact ⟨rfl, HS.out⟩
          --}X
        case inl =>
        cases fu with
        | zero => exact absurd HG.out (by rw [Arr.spGo]; simp)
        | succ fu =>
        obtain ⟨r1, D1, S1, o1, b1, els1⟩ := st1
        have ho := HOB.out.1
        have hb := HOB.out.2
        simp only at ho hb
        subst ho hb
        obtain ⟨a1, v1, hr1, h1⟩ := HS.out
        simp only at hr1 h1
        have hg := HG.out
        rw [Arr.spGo] at hg
        have c5 := h1.c 5 (.bool false) rfl
        have c6 := h1.c 6 (.bool false) rfl
        have hm1 : wrap64 ((m : Int) + 1) = ((m + 1 : Nat) : Int) := by have := HM.out; have := HFF.out; unfold wrap64; omega
        obtain ⟨K1, hK1⟩ : ∃ K1 : Int, K1 = ((k + 1 : Nat) : Int) := ⟨_, rfl⟩
        have hk1 : wrap64 ((k : Int) + 1) = K1 := by have := HK.out; have := HN.out; unfold wrap64; omega
        have HKK := Aside0.mk hK1
        obtain ⟨st2, hst2, hg2⟩ : ∃ st2, (if k + 1 < n then Arr.spGo d n fu true (k + 1) 0 ⟨r1, D1, S1, false, false, els1⟩ else some (Arr.spEl d ⟨r1, D1, S1, false, false, els1⟩)) = some st2 ∧ _ := Option.bind_eq_some_iff.mp hg
        have HG2 := Aside0.mk hg2
        have HR1 := Aside0.mk hr1
        have HS1 := Aside0.mk h1
        clear hg hg2 HG hr1 h1 HGO
        by_cases hkn : k + 1 < n
        · rw [if_pos hkn] at hst2
          have HCALL : Aside0 (Calls Tryz.prog 16 #[.pointer (some ⟨g, 0, none⟩), .int .i64 K1, .int .i64 (n : Int)] wr fun e w' => e = .returned (.tuple #[]) ∧ St w0 s del g gd gs n st2 w') :=
            ⟨by rw [HKK.out]; exact IH.out fu (by have := HM.out; have := HF.out; omega) (by have := HM.out; have := HFF.out; omega) (k + 1) _ st2 wr hkn HS.out rfl rfl hst2⟩
          have kn1 : (K1 < (n : Int)) = True := eq_true (by omega)
          have kn1b : decide (K1 < (n : Int)) = true := decide_eq_true (by omega)
          have kn1c : decide (k + 1 < n) = true := decide_eq_true hkn
          have kn1d : (k + 1 < n) = True := eq_true hkn
          clear hst2 hkn hK1
          obtain ⟨r2, D2, S2, o2, b2, els2⟩ := st2
          have hg2 := HG2.out
          simp only at hg2
          by_cases hob : o2 = true ∨ b2 = true
          · rw [if_pos hob] at hg2
            injection hg2 with hg2
            have HEQ := Aside0.mk hg2
            clear hg2 HG2
            --{Dl
            have HOB2 := Aside0.mk hob
            clear hob
            cases o2
            · have hb2 : b2 = true := by rcases HOB2.out with h | h; exact absurd h (by simp); exact h
              subst hb2
              clear HOB2
              go_wp2_with (go_at_call 16; (with_reducible refine HCALL.out.mono ?_); rintro e w1 ⟨rfl, hs2⟩; have HS2 := Aside0.mk hs2; obtain ⟨a2, v2, hr2, h2⟩ := hs2; simp only at hr2 h2; have d5 := h2.c 5 (.bool false) rfl; have d6 := h2.c 6 (.bool true) rfl; clear h2 hr2)
              refine bodyPost_ret (results_none rfl _ _ _) rfl ?_
              exact ⟨rfl, by rw [← HEQ.out]; exact HS2.out⟩
            · clear HOB2
              go_wp2_with (go_at_call 16; (with_reducible refine HCALL.out.mono ?_); rintro e w1 ⟨rfl, hs2⟩; have HS2 := Aside0.mk hs2; obtain ⟨a2, v2, hr2, h2⟩ := hs2; simp only at hr2 h2; have d5 := h2.c 5 (.bool true) rfl; have d6 := h2.c 6 (.bool b2) rfl; clear h2 hr2)
              refine bodyPost_ret (results_none rfl _ _ _) rfl ?_
              exact ⟨rfl, by rw [← HEQ.out]; exact HS2.out⟩
            --}Dl
          · rw [if_neg hob] at hg2
            have ho2 : o2 = false := by cases o2; rfl; exact absurd (.inl rfl) hob
            have hb2 : b2 = false := by cases b2; rfl; exact absurd (.inr rfl) hob
            subst ho2 hb2
            clear hob HG2
            have hb125 : bytesOf ⟨#[125]⟩ = [125] := by decide
            have HQ : Aside0 (∀ (w1 : World) (a2 : Nat) (v2 : Value), (bytesOf s).drop a2 = r2 → RS w0 s del g gd gs n a2 D2 S2 false false els2 v2 w1 → (Calls Tryz.prog 27 #[.pointer (some ⟨g, 0, none⟩), .string del] w1 fun e w' => e = .returned (.bool (hdIs r2 d)) ∧ Drawn0 w1 w') ∧ ∀ nd : Nat, (Calls Tryz.prog 27 #[.pointer (some ⟨g, 0, none⟩), .string ⟨#[125]⟩] (w1.drewN nd) fun e w' => e = .returned (.bool (hdIs r2 125)) ∧ Drawn0 (w1.drewN nd) w')) := ⟨fun w1 a2 v2 hr h => by
              have q1 := spec_reader_is.one h del d HDL.out HL.out
              have q2 := fun nd : Nat => spec_reader_is.one (h.drewN nd) ⟨#[125]⟩ 125 hb125 HL.out
              rw [hr] at q1 q2
              exact ⟨q1, q2⟩⟩
            by_cases hd : hdIs r2 d = true
            · obtain ⟨t2, rfl⟩ : ∃ t2, r2 = d :: t2 := by
                cases r2 with
                | nil => cases hd
                | cons c t2 => exact ⟨t2, by rw [of_decide_eq_true hd]⟩
              simp only [if_true] at hg2
              rw [hd] at HQ
              have HEQ := Aside0.mk hg2
              have hd1 : del.size = 1 := by rw [← bytesOf_length, HDL.out]; rfl
              clear hg2 hd hb125
              --{El
              go_wp2_with (first | (go_at_call 16; (with_reducible refine HCALL.out.mono ?_); rintro e w1 ⟨rfl, hs2⟩; obtain ⟨a2, v2, hr2, h2⟩ := hs2; simp only at hr2 h2; have d5 := h2.c 5 (.bool false) rfl; have d6 := h2.c 6 (.bool false) rfl; have d2 := h2.c 2 (.string del) rfl; have d1 := h2.c 1 (.int .i64 (a2 : Int)) rfl; have d1f := h2.f 1; have HS2 := Aside0.mk h2; have HR2 := Aside0.mk hr2; clear h2 hr2) | (go_at_call 27; (with_reducible refine (HQ.out _ a2 v2 HR2.out HS2.out).1.mono ?_); rintro e w2 ⟨rfl, ⟨nd5, rfl⟩⟩))
              have hlt2 : a2 < s.size := by
                rcases Nat.lt_or_ge a2 s.size with hl | hl
                · exact hl
                · have := HR2.out; rw [drop_end hl] at this; cases this
              have hr3 : (bytesOf s).drop (a2 + 1) = t2 := by
                have := HR2.out
                rw [drop_bt hlt2] at this
                injection this
              have hwa : IntKind.i64.wrap ((a2 : Int) + 1) = ((a2 + 1 : Nat) : Int) := by have := HL.out; rw [IntKind.wrap_i64]; omega
              have hwa2 : wrap64 ((a2 : Int) + 1) = ((a2 + 1 : Nat) : Int) := by have := HL.out; unfold wrap64; omega
              have HLT2 := Aside0.mk hlt2
              have HR3 := Aside0.mk hr3
              clear hlt2 hr3
              go_region
              go_wp2_with fail
              go_roundg (fu + 1)
              case measure => have := HK1.out; omega
              case rel =>
                refine .inl ⟨m + 1, fu, ⟨t2, D2, S2, false, false, els2⟩, by first | rfl | go_num, ⟨Nat.le_refl _⟩, ⟨by have := HM.out; omega⟩, ⟨rfl, rfl⟩, ⟨a2 + 1, v2, HR3.out, ?_⟩, ⟨HEQ.out⟩⟩
                first | exact ((HS2.out.drewN _).below (below_drew (Below.refl _ _))).setAt (a2 + 1) HLT2.out (by have := HS2.out.el; omega) | exact (HS2.out.drewN _).setAt (a2 + 1) HLT2.out (by have := HS2.out.el; omega) | exact ((HS2.out.drewN _).drewN _).setAt (a2 + 1) HLT2.out (by have := HS2.out.el; omega) | exact ((HS2.out.drewN _).below (below_drew (Below.refl _ _))).setAt (a2 + 1) HLT2.out (by have := HS2.out.el; omega)
              --}El
            have hdf : hdIs r2 d = false := by simpa using hd
            rw [hdf] at HQ
            by_cases h125 : hdIs r2 125 = true
            · obtain ⟨t2, rfl⟩ : ∃ t2, r2 = 125 :: t2 := by
                cases r2 with
                | nil => cases h125
                | cons c t2 => exact ⟨t2, by rw [of_decide_eq_true h125]⟩
              have hnd : (125 : Int) ≠ d := of_decide_eq_false hdf
              simp only [if_neg hnd, if_true] at hg2
              injection hg2 with hg2
              rw [h125] at HQ
              have HEQ := Aside0.mk hg2
              obtain ⟨bx, hbx⟩ : ∃ bx, bx = S2.getD k false := ⟨_, rfl⟩
              obtain ⟨dx, hdx⟩ : ∃ dx, dx = D2.getD k 0 := ⟨_, rfl⟩
              have HBX := Aside0.mk hbx
              have HDX := Aside0.mk hdx
              obtain ⟨M1, hM1⟩ : ∃ M1 : Int, M1 = ((m + 1 : Nat) : Int) := ⟨_, rfl⟩
              rw [← hM1] at hm1
              have HMM := Aside0.mk hM1
              have HDXM : Aside0 ((m : Int) + 1 = M1) := ⟨by omega⟩
              have k0 : decide ((0 : Int) ≤ (k : Int)) = true := decide_eq_true (by omega)
              have k1 : ((k : Int) < (n : Int)) = True := eq_true (by have := HK.out; omega)
              have k1b : decide ((k : Int) < (n : Int)) = true := decide_eq_true (by have := HK.out; omega)
              have k1c : decide (k < n) = true := decide_eq_true HK.out
              have k1d : (k < n) = True := eq_true HK.out
              have cases3 : (bx = false ∧ True ∧ (bx && decide (dx ≠ M1)) = false) ∨ (bx = true ∧ (dx != M1) = false ∧ (bx && decide (dx ≠ M1)) = false) ∨ (bx = true ∧ (dx != M1) = true ∧ (bx && decide (dx ≠ M1)) = true) := by
                cases bx
                · exact .inl ⟨rfl, trivial, rfl⟩
                · by_cases h : dx = M1
                  · exact .inr (.inl ⟨rfl, bne_eq_false_iff_eq.mpr h, by rw [decide_eq_false (fun g => g h)]; rfl⟩)
                  · exact .inr (.inr ⟨rfl, bne_iff_ne.mpr h, by rw [decide_eq_true h]; rfl⟩)
              have C3 := Aside0.mk cases3
              clear hg2 hd h125 hb125 hdf hnd hbx hdx hM1 cases3
              --{Fl
              rcases C3.out with ⟨hx, y1, hop2⟩ | ⟨hx, y1, hop2⟩ | ⟨hx, y1, hop2⟩
              all_goals
                have hop : (S2.getD k false && decide (D2.getD k 0 ≠ (m : Int) + 1)) = (bx && decide (dx ≠ M1)) := by rw [← HBX.out, ← HDX.out, HDXM.out]
                rw [hop, hop2, HDXM.out] at HEQ
                subst hx
                clear hop hop2 C3
                go_wp2_with (first | (go_at_call 16; (with_reducible refine HCALL.out.mono ?_); rintro e w1 ⟨rfl, hs2⟩; obtain ⟨a2, v2, hr2, h2⟩ := hs2; simp only at hr2 h2; have d5 := h2.c 5 (.bool false) rfl; have d5f := h2.f 5; have d6 := h2.c 6 (.bool false) rfl; have d2 := h2.c 2 (.string del) rfl; have d1 := h2.c 1 (.int .i64 (a2 : Int)) rfl; have d1f := h2.f 1; have e3 := h2.c 3 (.slice (some ⟨gd, 0, none⟩) n n) rfl; have e4 := h2.c 4 (.slice (some ⟨gs, 0, none⟩) n n) rfl; have x3 : w1.cell? ⟨gd, k, none⟩ = some (.int .i64 dx) := (by rw [HDX.out]; exact (blk_cell h2.hd k).trans (icells_at D2 k (by rw [h2.dl]; exact HK.out))); have x4 := ((blk_cell h2.hs k).trans (bcells_at S2 k (by rw [h2.sl]; exact HK.out))).trans (congrArg (fun b => some (Value.bool b)) HBX.out.symm); have x3f := blk_frozen h2.hd k; have x4f := blk_frozen h2.hs k; have n1 : (g = gd) = False := eq_false h2.ngd; have n2 : (gd = g) = False := eq_false (fun e => h2.ngd e.symm); have n3 : (g = gs) = False := eq_false h2.ngs; have n4 : (gs = g) = False := eq_false (fun e => h2.ngs e.symm); have n5 : (gd = gs) = False := eq_false h2.nds; have n6 : (gs = gd) = False := eq_false (fun e => h2.nds e.symm); have HS2 := Aside0.mk h2; have HR2 := Aside0.mk hr2; clear h2 hr2) | (go_at_call 27; (with_reducible refine (HQ.out _ a2 v2 HR2.out HS2.out).1.mono ?_); rintro e w2 ⟨rfl, ⟨nd5, rfl⟩⟩) | (go_at_call 27; (with_reducible refine ((HQ.out _ a2 v2 HR2.out HS2.out).2 _).mono ?_); rintro e w2 ⟨rfl, ⟨nd6, rfl⟩⟩; have hlt2 : a2 < s.size := (by rcases Nat.lt_or_ge a2 s.size with hl | hl; exact hl; (have := HR2.out; rw [drop_end hl] at this; cases this)); have hwa : wrap64 ((a2 : Int) + 1) = ((a2 + 1 : Nat) : Int) := (by have := HL.out; unfold wrap64; omega); have HLT2 := Aside0.mk hlt2; clear hlt2))
                go_region
                all_goals
                  go_wp2_with fail
                  refine bodyPost_ret (results_none rfl _ _ _) rfl ?_
                  refine ⟨rfl, ?_⟩
                  rw [← HEQ.out]
                  refine ⟨a2 + 1, v2, ?_, ?_⟩
                  · have := HR2.out
                    rw [drop_bt HLT2.out] at this
                    injection this
                  · have B1 := fun k1 k2 : Nat => ((HS2.out.drewN k1).drewN k2).setAt (a2 + 1) HLT2.out (by have := HS2.out.el; omega)
                    have B2 := fun k1 : Nat => (HS2.out.drewN k1).setAt (a2 + 1) HLT2.out (by have := HS2.out.el; omega)
                    first
                      | exact (((B2 _).below (below_drew (Below.refl _ _))).setDim k M1).setSet k true
                      | exact (((B2 _).below (below_drew (Below.refl _ _))).setSet k true).setDim k M1
                      | exact (((B2 _).setOpn.below (below_drew (Below.refl _ _))).setDim k M1).setSet k true
                      | exact (((B2 _).setOpn.below (below_drew (Below.refl _ _))).setSet k true).setDim k M1
                      | exact (((B1 _ _).below (below_drew (Below.refl _ _))).setDim k M1).setSet k true
                      | exact (((B1 _ _).below (below_drew (Below.refl _ _))).setSet k true).setDim k M1
                      | exact (((B1 _ _).setOpn.below (below_drew (Below.refl _ _))).setDim k M1).setSet k true
                      | exact (((B1 _ _).setOpn.below (below_drew (Below.refl _ _))).setSet k true).setDim k M1
              --}Fl
            · have h125f : hdIs r2 125 = false := by simpa using h125
              rw [h125f] at HQ
              have hg3 : st' = Arr.spRefuse ⟨r2, D2, S2, false, false, els2⟩ := by
                cases r2 with
                | nil => injection hg2 with hg2; exact hg2.symm
                | cons c t2 =>
                  have e1 : c ≠ d := of_decide_eq_false hdf
                  have e2 : c ≠ 125 := of_decide_eq_false h125f
                  simp only [if_neg e1, if_neg e2] at hg2
                  injection hg2 with hg2; exact hg2.symm
              have HEQ := Aside0.mk hg3
              clear hg2 hd h125 hb125 hdf h125f hg3
              --{Gl
              go_wp2_with (first | (go_at_call 16; (with_reducible refine HCALL.out.mono ?_); rintro e w1 ⟨rfl, hs2⟩; obtain ⟨a2, v2, hr2, h2⟩ := hs2; simp only at hr2 h2; have d5 := h2.c 5 (.bool false) rfl; have d6 := h2.c 6 (.bool false) rfl; have d2 := h2.c 2 (.string del) rfl; have HS2 := Aside0.mk h2; have HR2 := Aside0.mk hr2; clear h2 hr2) | (go_at_call 27; (with_reducible refine (HQ.out _ a2 v2 HR2.out HS2.out).1.mono ?_); rintro e w2 ⟨rfl, ⟨nd5, rfl⟩⟩) | (go_at_call 27; (with_reducible refine ((HQ.out _ a2 v2 HR2.out HS2.out).2 _).mono ?_); rintro e w2 ⟨rfl, ⟨nd6, rfl⟩⟩) | (go_at_call 29; refine (spec_reader_refuse.main (by first | exact HS2.out.drewN _ | exact (HS2.out.drewN _).drewN _) HL.out).mono ?_; rintro e w3 ⟨rfl, h3⟩; have HS3 := Aside0.mk h3; clear h3))
              go_roundg (fu + 1)
              case measure => have := HK1.out; omega
              case rel =>
                refine .inr ⟨m + 1, by first | rfl | go_num, ⟨by omega⟩, ⟨by rw [HEQ.out]; rfl⟩, ⟨a2, v2, ?_, ?_⟩⟩
                · rw [HEQ.out]; exact HR2.out
                · have := HS3.out
                  rw [HR2.out] at this
                  rw [HEQ.out]
                  exact this
              --}Gl
        · rw [if_neg hkn] at hst2
          injection hst2 with hst2
          have HCALL : Aside0 (Calls Tryz.prog 28 #[.pointer (some ⟨g, 0, none⟩)] wr fun e w' => e = .returned (.tuple #[]) ∧ St w0 s del g gd gs n st2 w') := ⟨by
            have := spec_reader_element.main HS1.out HL.out d HDL.out
            rw [HR1.out, hst2] at this
            exact this⟩
          have kn1 : (K1 < (n : Int)) = False := eq_false (by omega)
          have kn1b : decide (K1 < (n : Int)) = false := decide_eq_false (by omega)
          have kn1c : decide (k + 1 < n) = false := decide_eq_false hkn
          have kn1d : (k + 1 < n) = False := eq_false hkn
          clear hst2 hkn hK1
          obtain ⟨r2, D2, S2, o2, b2, els2⟩ := st2
          have hg2 := HG2.out
          simp only at hg2
          by_cases hob : o2 = true ∨ b2 = true
          · rw [if_pos hob] at hg2
            injection hg2 with hg2
            have HEQ := Aside0.mk hg2
            clear hg2 HG2
            --{De
            have HOB2 := Aside0.mk hob
            clear hob
            cases o2
            · have hb2 : b2 = true := by rcases HOB2.out with h | h; exact absurd h (by simp); exact h
              subst hb2
              clear HOB2
              go_wp2_with (go_at_call 28; (with_reducible refine HCALL.out.mono ?_); rintro e w1 ⟨rfl, hs2⟩; have HS2 := Aside0.mk hs2; obtain ⟨a2, v2, hr2, h2⟩ := hs2; simp only at hr2 h2; have d5 := h2.c 5 (.bool false) rfl; have d6 := h2.c 6 (.bool true) rfl; clear h2 hr2)
              refine bodyPost_ret (results_none rfl _ _ _) rfl ?_
              exact ⟨rfl, by rw [← HEQ.out]; exact HS2.out⟩
            · clear HOB2
              go_wp2_with (go_at_call 28; (with_reducible refine HCALL.out.mono ?_); rintro e w1 ⟨rfl, hs2⟩; have HS2 := Aside0.mk hs2; obtain ⟨a2, v2, hr2, h2⟩ := hs2; simp only at hr2 h2; have d5 := h2.c 5 (.bool true) rfl; have d6 := h2.c 6 (.bool b2) rfl; clear h2 hr2)
              refine bodyPost_ret (results_none rfl _ _ _) rfl ?_
              exact ⟨rfl, by rw [← HEQ.out]; exact HS2.out⟩
            --}De
          · rw [if_neg hob] at hg2
            have ho2 : o2 = false := by cases o2; rfl; exact absurd (.inl rfl) hob
            have hb2 : b2 = false := by cases b2; rfl; exact absurd (.inr rfl) hob
            subst ho2 hb2
            clear hob HG2
            have hb125 : bytesOf ⟨#[125]⟩ = [125] := by decide
            have HQ : Aside0 (∀ (w1 : World) (a2 : Nat) (v2 : Value), (bytesOf s).drop a2 = r2 → RS w0 s del g gd gs n a2 D2 S2 false false els2 v2 w1 → (Calls Tryz.prog 27 #[.pointer (some ⟨g, 0, none⟩), .string del] w1 fun e w' => e = .returned (.bool (hdIs r2 d)) ∧ Drawn0 w1 w') ∧ ∀ nd : Nat, (Calls Tryz.prog 27 #[.pointer (some ⟨g, 0, none⟩), .string ⟨#[125]⟩] (w1.drewN nd) fun e w' => e = .returned (.bool (hdIs r2 125)) ∧ Drawn0 (w1.drewN nd) w')) := ⟨fun w1 a2 v2 hr h => by
              have q1 := spec_reader_is.one h del d HDL.out HL.out
              have q2 := fun nd : Nat => spec_reader_is.one (h.drewN nd) ⟨#[125]⟩ 125 hb125 HL.out
              rw [hr] at q1 q2
              exact ⟨q1, q2⟩⟩
            by_cases hd : hdIs r2 d = true
            · obtain ⟨t2, rfl⟩ : ∃ t2, r2 = d :: t2 := by
                cases r2 with
                | nil => cases hd
                | cons c t2 => exact ⟨t2, by rw [of_decide_eq_true hd]⟩
              simp only [if_true] at hg2
              rw [hd] at HQ
              have HEQ := Aside0.mk hg2
              have hd1 : del.size = 1 := by rw [← bytesOf_length, HDL.out]; rfl
              clear hg2 hd hb125
              --{Ee
              go_wp2_with (first | (go_at_call 28; (with_reducible refine HCALL.out.mono ?_); rintro e w1 ⟨rfl, hs2⟩; obtain ⟨a2, v2, hr2, h2⟩ := hs2; simp only at hr2 h2; have d5 := h2.c 5 (.bool false) rfl; have d6 := h2.c 6 (.bool false) rfl; have d2 := h2.c 2 (.string del) rfl; have d1 := h2.c 1 (.int .i64 (a2 : Int)) rfl; have d1f := h2.f 1; have HS2 := Aside0.mk h2; have HR2 := Aside0.mk hr2; clear h2 hr2) | (go_at_call 27; (with_reducible refine (HQ.out _ a2 v2 HR2.out HS2.out).1.mono ?_); rintro e w2 ⟨rfl, ⟨nd5, rfl⟩⟩))
              have hlt2 : a2 < s.size := by
                rcases Nat.lt_or_ge a2 s.size with hl | hl
                · exact hl
                · have := HR2.out; rw [drop_end hl] at this; cases this
              have hr3 : (bytesOf s).drop (a2 + 1) = t2 := by
                have := HR2.out
                rw [drop_bt hlt2] at this
                injection this
              have hwa : IntKind.i64.wrap ((a2 : Int) + 1) = ((a2 + 1 : Nat) : Int) := by have := HL.out; rw [IntKind.wrap_i64]; omega
              have hwa2 : wrap64 ((a2 : Int) + 1) = ((a2 + 1 : Nat) : Int) := by have := HL.out; unfold wrap64; omega
              have HLT2 := Aside0.mk hlt2
              have HR3 := Aside0.mk hr3
              clear hlt2 hr3
              go_region
              go_wp2_with fail
              go_roundg (fu + 1)
              case measure => have := HK1.out; omega
              case rel =>
                refine .inl ⟨m + 1, fu, ⟨t2, D2, S2, false, false, els2⟩, by first | rfl | go_num, ⟨Nat.le_refl _⟩, ⟨by have := HM.out; omega⟩, ⟨rfl, rfl⟩, ⟨a2 + 1, v2, HR3.out, ?_⟩, ⟨HEQ.out⟩⟩
                first | exact ((HS2.out.drewN _).below (below_drew (Below.refl _ _))).setAt (a2 + 1) HLT2.out (by have := HS2.out.el; omega) | exact (HS2.out.drewN _).setAt (a2 + 1) HLT2.out (by have := HS2.out.el; omega) | exact ((HS2.out.drewN _).drewN _).setAt (a2 + 1) HLT2.out (by have := HS2.out.el; omega) | exact ((HS2.out.drewN _).below (below_drew (Below.refl _ _))).setAt (a2 + 1) HLT2.out (by have := HS2.out.el; omega)
              --}Ee
            have hdf : hdIs r2 d = false := by simpa using hd
            rw [hdf] at HQ
            by_cases h125 : hdIs r2 125 = true
            · obtain ⟨t2, rfl⟩ : ∃ t2, r2 = 125 :: t2 := by
                cases r2 with
                | nil => cases h125
                | cons c t2 => exact ⟨t2, by rw [of_decide_eq_true h125]⟩
              have hnd : (125 : Int) ≠ d := of_decide_eq_false hdf
              simp only [if_neg hnd, if_true] at hg2
              injection hg2 with hg2
              rw [h125] at HQ
              have HEQ := Aside0.mk hg2
              obtain ⟨bx, hbx⟩ : ∃ bx, bx = S2.getD k false := ⟨_, rfl⟩
              obtain ⟨dx, hdx⟩ : ∃ dx, dx = D2.getD k 0 := ⟨_, rfl⟩
              have HBX := Aside0.mk hbx
              have HDX := Aside0.mk hdx
              obtain ⟨M1, hM1⟩ : ∃ M1 : Int, M1 = ((m + 1 : Nat) : Int) := ⟨_, rfl⟩
              rw [← hM1] at hm1
              have HMM := Aside0.mk hM1
              have HDXM : Aside0 ((m : Int) + 1 = M1) := ⟨by omega⟩
              have k0 : decide ((0 : Int) ≤ (k : Int)) = true := decide_eq_true (by omega)
              have k1 : ((k : Int) < (n : Int)) = True := eq_true (by have := HK.out; omega)
              have k1b : decide ((k : Int) < (n : Int)) = true := decide_eq_true (by have := HK.out; omega)
              have k1c : decide (k < n) = true := decide_eq_true HK.out
              have k1d : (k < n) = True := eq_true HK.out
              have cases3 : (bx = false ∧ True ∧ (bx && decide (dx ≠ M1)) = false) ∨ (bx = true ∧ (dx != M1) = false ∧ (bx && decide (dx ≠ M1)) = false) ∨ (bx = true ∧ (dx != M1) = true ∧ (bx && decide (dx ≠ M1)) = true) := by
                cases bx
                · exact .inl ⟨rfl, trivial, rfl⟩
                · by_cases h : dx = M1
                  · exact .inr (.inl ⟨rfl, bne_eq_false_iff_eq.mpr h, by rw [decide_eq_false (fun g => g h)]; rfl⟩)
                  · exact .inr (.inr ⟨rfl, bne_iff_ne.mpr h, by rw [decide_eq_true h]; rfl⟩)
              have C3 := Aside0.mk cases3
              clear hg2 hd h125 hb125 hdf hnd hbx hdx hM1 cases3
              --{Fe
              rcases C3.out with ⟨hx, y1, hop2⟩ | ⟨hx, y1, hop2⟩ | ⟨hx, y1, hop2⟩
              all_goals
                have hop : (S2.getD k false && decide (D2.getD k 0 ≠ (m : Int) + 1)) = (bx && decide (dx ≠ M1)) := by rw [← HBX.out, ← HDX.out, HDXM.out]
                rw [hop, hop2, HDXM.out] at HEQ
                subst hx
                clear hop hop2 C3
                go_wp2_with (first | (go_at_call 28; (with_reducible refine HCALL.out.mono ?_); rintro e w1 ⟨rfl, hs2⟩; obtain ⟨a2, v2, hr2, h2⟩ := hs2; simp only at hr2 h2; have d5 := h2.c 5 (.bool false) rfl; have d5f := h2.f 5; have d6 := h2.c 6 (.bool false) rfl; have d2 := h2.c 2 (.string del) rfl; have d1 := h2.c 1 (.int .i64 (a2 : Int)) rfl; have d1f := h2.f 1; have e3 := h2.c 3 (.slice (some ⟨gd, 0, none⟩) n n) rfl; have e4 := h2.c 4 (.slice (some ⟨gs, 0, none⟩) n n) rfl; have x3 : w1.cell? ⟨gd, k, none⟩ = some (.int .i64 dx) := (by rw [HDX.out]; exact (blk_cell h2.hd k).trans (icells_at D2 k (by rw [h2.dl]; exact HK.out))); have x4 := ((blk_cell h2.hs k).trans (bcells_at S2 k (by rw [h2.sl]; exact HK.out))).trans (congrArg (fun b => some (Value.bool b)) HBX.out.symm); have x3f := blk_frozen h2.hd k; have x4f := blk_frozen h2.hs k; have n1 : (g = gd) = False := eq_false h2.ngd; have n2 : (gd = g) = False := eq_false (fun e => h2.ngd e.symm); have n3 : (g = gs) = False := eq_false h2.ngs; have n4 : (gs = g) = False := eq_false (fun e => h2.ngs e.symm); have n5 : (gd = gs) = False := eq_false h2.nds; have n6 : (gs = gd) = False := eq_false (fun e => h2.nds e.symm); have HS2 := Aside0.mk h2; have HR2 := Aside0.mk hr2; clear h2 hr2) | (go_at_call 27; (with_reducible refine (HQ.out _ a2 v2 HR2.out HS2.out).1.mono ?_); rintro e w2 ⟨rfl, ⟨nd5, rfl⟩⟩) | (go_at_call 27; (with_reducible refine ((HQ.out _ a2 v2 HR2.out HS2.out).2 _).mono ?_); rintro e w2 ⟨rfl, ⟨nd6, rfl⟩⟩; have hlt2 : a2 < s.size := (by rcases Nat.lt_or_ge a2 s.size with hl | hl; exact hl; (have := HR2.out; rw [drop_end hl] at this; cases this)); have hwa : wrap64 ((a2 : Int) + 1) = ((a2 + 1 : Nat) : Int) := (by have := HL.out; unfold wrap64; omega); have HLT2 := Aside0.mk hlt2; clear hlt2))
                go_region
                all_goals
                  go_wp2_with fail
                  refine bodyPost_ret (results_none rfl _ _ _) rfl ?_
                  refine ⟨rfl, ?_⟩
                  rw [← HEQ.out]
                  refine ⟨a2 + 1, v2, ?_, ?_⟩
                  · have := HR2.out
                    rw [drop_bt HLT2.out] at this
                    injection this
                  · have B1 := fun k1 k2 : Nat => ((HS2.out.drewN k1).drewN k2).setAt (a2 + 1) HLT2.out (by have := HS2.out.el; omega)
                    have B2 := fun k1 : Nat => (HS2.out.drewN k1).setAt (a2 + 1) HLT2.out (by have := HS2.out.el; omega)
                    first
                      | exact (((B2 _).below (below_drew (Below.refl _ _))).setDim k M1).setSet k true
                      | exact (((B2 _).below (below_drew (Below.refl _ _))).setSet k true).setDim k M1
                      | exact (((B2 _).setOpn.below (below_drew (Below.refl _ _))).setDim k M1).setSet k true
                      | exact (((B2 _).setOpn.below (below_drew (Below.refl _ _))).setSet k true).setDim k M1
                      | exact (((B1 _ _).below (below_drew (Below.refl _ _))).setDim k M1).setSet k true
                      | exact (((B1 _ _).below (below_drew (Below.refl _ _))).setSet k true).setDim k M1
                      | exact (((B1 _ _).setOpn.below (below_drew (Below.refl _ _))).setDim k M1).setSet k true
                      | exact (((B1 _ _).setOpn.below (below_drew (Below.refl _ _))).setSet k true).setDim k M1
              --}Fe
            · have h125f : hdIs r2 125 = false := by simpa using h125
              rw [h125f] at HQ
              have hg3 : st' = Arr.spRefuse ⟨r2, D2, S2, false, false, els2⟩ := by
                cases r2 with
                | nil => injection hg2 with hg2; exact hg2.symm
                | cons c t2 =>
                  have e1 : c ≠ d := of_decide_eq_false hdf
                  have e2 : c ≠ 125 := of_decide_eq_false h125f
                  simp only [if_neg e1, if_neg e2] at hg2
                  injection hg2 with hg2; exact hg2.symm
              have HEQ := Aside0.mk hg3
              clear hg2 hd h125 hb125 hdf h125f hg3
              --{Ge
              go_wp2_with (first | (go_at_call 28; (with_reducible refine HCALL.out.mono ?_); rintro e w1 ⟨rfl, hs2⟩; obtain ⟨a2, v2, hr2, h2⟩ := hs2; simp only at hr2 h2; have d5 := h2.c 5 (.bool false) rfl; have d6 := h2.c 6 (.bool false) rfl; have d2 := h2.c 2 (.string del) rfl; have HS2 := Aside0.mk h2; have HR2 := Aside0.mk hr2; clear h2 hr2) | (go_at_call 27; (with_reducible refine (HQ.out _ a2 v2 HR2.out HS2.out).1.mono ?_); rintro e w2 ⟨rfl, ⟨nd5, rfl⟩⟩) | (go_at_call 27; (with_reducible refine ((HQ.out _ a2 v2 HR2.out HS2.out).2 _).mono ?_); rintro e w2 ⟨rfl, ⟨nd6, rfl⟩⟩) | (go_at_call 29; refine (spec_reader_refuse.main (by first | exact HS2.out.drewN _ | exact (HS2.out.drewN _).drewN _) HL.out).mono ?_; rintro e w3 ⟨rfl, h3⟩; have HS3 := Aside0.mk h3; clear h3))
              go_roundg (fu + 1)
              case measure => have := HK1.out; omega
              case rel =>
                refine .inr ⟨m + 1, by first | rfl | go_num, ⟨by omega⟩, ⟨by rw [HEQ.out]; rfl⟩, ⟨a2, v2, ?_, ?_⟩⟩
                · rw [HEQ.out]; exact HR2.out
                · have := HS3.out
                  rw [HR2.out] at this
                  rw [HEQ.out]
                  exact this
              --}Ge
      --}C

/-! ### spec_blankIn: function 17 -/
def spec_blankIn.l0 : Nat → ByteArray → Int → Option (Bool)
  | 0, _, _ => none
  | k + 1, x0, x3 => if x3 < (x0.size : Int) then (if 0 ≤ x3 then ((spec_blank.f (bt x0 x3)).bind fun t101 => (if t101 = true then (some true) else (spec_blankIn.l0 k x0 (wrap64 (x3 + 1))))) else (none)) else (some false)
def spec_blankIn.f (k : Nat) (a0 : ByteArray) : Option (Bool) := spec_blankIn.l0 k a0 0
theorem spec_blankIn.mono_l : ∀ k, (∀ y0 y1, LeO (spec_blankIn.l0 k y0 y1) (spec_blankIn.l0 (k + 1) y0 y1))
  | 0 => fun _ _ r h => by simp [spec_blankIn.l0] at h
  | k + 1 => by
    have ih0 := spec_blankIn.mono_l k
    · intro y0 y1
      unfold spec_blankIn.l0
      repeat' first
      | (with_reducible exact ih0 _ _)
      | (with_reducible exact LeO.refl _)
      | (with_reducible exact LeO.none _)
      | (with_reducible refine LeO.ite ?_ ?_)
      | (with_reducible refine LeO.bind ?_ (fun _ => ?_))
      | exact ih0 _ _
      | exact LeO.none _
      | refine LeO.ite ?_ ?_
      | refine LeO.bind ?_ (fun _ => ?_)
theorem spec_blankIn.mono : ∀ a0 k, LeO (spec_blankIn.f k a0) (spec_blankIn.f (k + 1) a0) := by
  intro a0 k
  have ih0 := spec_blankIn.mono_l k
  unfold spec_blankIn.f
  repeat' first
      | (with_reducible exact ih0 _ _)
      | (with_reducible exact LeO.refl _)
      | (with_reducible exact LeO.none _)
      | (with_reducible refine LeO.ite ?_ ?_)
      | (with_reducible refine LeO.bind ?_ (fun _ => ?_))
      | exact ih0 _ _
      | exact LeO.none _
      | refine LeO.ite ?_ ?_
      | refine LeO.bind ?_ (fun _ => ?_)
set_option maxHeartbeats 8000000 in
set_option maxRecDepth 100000 in
theorem spec_blankIn.calls (k : Nat) (a0 : ByteArray) (r : Bool) (w : World) (h : spec_blankIn.f k a0 = some r) :
    Calls Tryz.prog 17 #[.string a0] w fun e w' => e = .returned (.bool r) ∧ Drawn0 w w' := by
  have H : (spec_blankIn.l0 k a0 0) = some r := h
  clear h
  have H' := Aside0.mk H
  clear H
  go_enter Tryz.func17, Tryz.ntmps17
  go_wp2
  go_loopg [3] k (fun kq v3 w' => ∃ (x3_1 : Int), v3 = .int .i64 x3_1 ∧ Aside0 (spec_blankIn.l0 kq a0 x3_1 = some r) ∧ Aside0 (kq ≤ k) ∧ Drawn0 w w')
  case atStart => exact ⟨(0), (by first | rfl | (simp; done) | (simp [*]; done)), H', ⟨Nat.le_refl _⟩, by repeat (first | exact Drawn0.refl _ | apply Drawn0.step)⟩
  case round =>
    clear H'
    try clear c1
    obtain ⟨x3_1, rfl, HA, HK1, ⟨m1, rfl⟩⟩ := hrel
    cases gk with
    | zero => exact absurd HA.out (by simp [spec_blankIn.l0])
    | succ k1 =>
      have H := HA.out
      clear HA
      simp only [spec_blankIn.l0] at H
      by_cases c2 : x3_1 < (a0.size : Int)
      · rw [if_pos c2] at H
        have c2b0 : decide (x3_1 < (a0.size : Int)) = true := decide_eq_true c2
        clear c2
        by_cases c3 : 0 ≤ x3_1
        · rw [if_pos c3] at H
          have c3b0 : decide (0 ≤ x3_1) = true := decide_eq_true c3
          clear c3
          replace H := Option.bind_eq_some_iff.mp H
          obtain ⟨t101, A50, H⟩ := H
          replace H : (if t101 = true then (some true) else (spec_blankIn.l0 k1 a0 (wrap64 (x3_1 + 1)))) = some r := H
          have A5 := Aside0.mk A50
          clear A50
          by_cases c6 : t101 = true
          · subst c6
            have H1 : (some true) = some r := by rw [if_pos rfl] at H; exact H
            clear H
            have H := H1
            clear H1
            obtain rfl := Option.some.inj H
            have p4 : 0 ≤ (x3_1 : Int) := of_decide_eq_true (by first | (with_reducible assumption) | assumption)
            have q4 : x3_1 < (a0.size : Int) := of_decide_eq_true (by first | (with_reducible assumption) | assumption)
            have hx4 := bt_at a0 x3_1
            replace p4 := eq_true p4
            replace q4 := eq_true q4
            go_wp2_with (first | ((with_reducible refine gate_callee (f := 14) rfl ?_); refine goesL_ (some 13) rfl rfl Tryz.func14 (by kernel_rfl) rfl #[.int .u8 (bt a0 x3_1)] rfl (by (try simp only [List.map_toArray, List.map_cons, List.map_nil]); first | done | rfl | (simp only [List.length_drop, List.length_take]; rfl)) ?_; (with_reducible refine (spec_blank.calls (bt a0 x3_1) true _ A5.out).mono ?_); rintro e w' ⟨rfl, ⟨nd, rfl⟩⟩; refine ⟨_, rfl, ?_⟩))
            go_ret
            exact ⟨by first | rfl | (simp; done) | (simp [*]; done), by repeat (first | exact Drawn0.refl _ | apply Drawn0.step)⟩
          · replace c6 := Bool.eq_false_iff.mpr c6
            subst c6
            have H1 : (spec_blankIn.l0 k1 a0 (wrap64 (x3_1 + 1))) = some r := by rw [if_neg (show ¬ (false = true) by decide)] at H; exact H
            clear H
            have H := H1
            clear H1
            have H' := Aside0.mk H
            clear H
            have p4 : 0 ≤ (x3_1 : Int) := of_decide_eq_true (by first | (with_reducible assumption) | assumption)
            have q4 : x3_1 < (a0.size : Int) := of_decide_eq_true (by first | (with_reducible assumption) | assumption)
            have hx4 := bt_at a0 x3_1
            replace p4 := eq_true p4
            replace q4 := eq_true q4
            go_wp2_with (first | ((with_reducible refine gate_callee (f := 14) rfl ?_); refine goesL_ (some 13) rfl rfl Tryz.func14 (by kernel_rfl) rfl #[.int .u8 (bt a0 x3_1)] rfl (by (try simp only [List.map_toArray, List.map_cons, List.map_nil]); first | done | rfl | (simp only [List.length_drop, List.length_take]; rfl)) ?_; (with_reducible refine (spec_blank.calls (bt a0 x3_1) false _ A5.out).mono ?_); rintro e w' ⟨rfl, ⟨nd, rfl⟩⟩; refine ⟨_, rfl, ?_⟩))
            go_roundg k1
            case measure => have := HK1.out; omega
            case rel => exact ⟨(wrap64 (x3_1 + 1)), (by first | rfl | (simp; done) | (simp [*]; done)), H', ⟨by have := HK1.out; omega⟩, by repeat (first | exact Drawn0.refl _ | apply Drawn0.step)⟩
        · rw [if_neg c3] at H
          exact absurd H (by simp)
      · rw [if_neg c2] at H
        have c2b0 : decide (x3_1 < (a0.size : Int)) = false := decide_eq_false c2
        clear c2
        obtain rfl := Option.some.inj H
        go_wp2
        go_ret
        exact ⟨by first | rfl | (simp; done) | (simp [*]; done), by repeat (first | exact Drawn0.refl _ | apply Drawn0.step)⟩

end Go.Proofs.YtcdcoogjhkchlaaGreatDoor.P
