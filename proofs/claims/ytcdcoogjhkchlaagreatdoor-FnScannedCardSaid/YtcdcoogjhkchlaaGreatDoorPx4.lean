-- Written by the program wip/myprint.py of this session, over the kit's print of the translation. Lean checks it.
import Derived.Test.YtcdcoogjhkchlaaGreatDoorLibArr
import Derived.ScopeJumps
import Derived.WalkMore
import Derived.Test.YtcdcoogjhkchlaaGreatDoorPx0
import Derived.Test.YtcdcoogjhkchlaaGreatDoorPx1
import Derived.Test.YtcdcoogjhkchlaaGreatDoorPx2
import Derived.Test.YtcdcoogjhkchlaaGreatDoorPx3
namespace Go.Proofs.YtcdcoogjhkchlaaGreatDoor.P
open Go.RowKit Go.Proofs.YtcdcoogjhkchlaaGreatDoorW.PrintWords Go.Proofs.YtcdcoogjhkchlaaGreatDoorW.PrintLast Go.Proofs.YtcdcoogjhkchlaaGreatDoorW.PrintMore
attribute [local go_sem] max2_int min2_int max_two min_two max_three min_three max_four min_four   -- for this text's walks alone
set_option linter.unusedVariables false
set_option linter.unusedSimpArgs false

/-! ### spec_Array: function 7 -/
/-- How many brackets a text begins with. -/
def nOpen : List Int → Nat
  | [] => 0
  | c :: t => if c = 123 then nOpen t + 1 else 0
/-- What Array tells, on lists. -/
def spArr (d : Int) (l : List Int) : List Int × List (Option (List Int)) × Bool × Bool :=
  match l with
  | [] => ([], [], false, true)
  | c :: t => if c ≠ 123 then ([], [], false, (!decide (Arr.blankI c)) && decide (c ≠ 91))
    else if c :: t = [123, 125] then ([], [], true, true)
    else match Arr.spGo d (nOpen (c :: t)) (2 * (c :: t).length + 10) true 0 0 ⟨c :: t, List.replicate (nOpen (c :: t)) 0, List.replicate (nOpen (c :: t)) false, false, false, []⟩ with
      | none => ([], [], false, false)
      | some st => if st.opn = true then ([], [], false, false) else if st.bad = true ∨ st.rest ≠ [] then ([], [], false, !st.rest.any (fun c => decide (Arr.blankI c))) else (st.dims, st.l, true, true)
def arrIt (x : List Int × List (Option (List Int)) × Bool × Bool) : List Int × List (S34) × Bool × Bool := (x.1, x.2.1.map sIt, x.2.2.1, x.2.2.2)
def spec_Array.f (a0 a1 : ByteArray) : Option (List Int × List (S34) × Bool × Bool) :=
  match bytesOf a1 with
  | [d] => if a0.size ≤ 1000000 then some (arrIt (spArr d (bytesOf a0))) else none
  | _ => none
theorem deep_l (s : ByteArray) (hs : s.size ≤ 1000000) : ∀ (l : List Int) (i : Nat), (bytesOf s).drop i = l → i ≤ s.size → ∃ k, spec_deep.l0 k s (i : Int) = some ((i + nOpen l : Nat) : Int) := by
  intro l
  induction l with
  | nil =>
    intro i h hi
    have he : i = s.size := by
      rcases Nat.lt_or_ge i s.size with hl | hl
      · rw [drop_bt hl] at h; cases h
      · omega
    refine ⟨1, ?_⟩
    rw [spec_deep.l0, if_neg (by omega)]
    rfl
  | cons c t ih =>
    intro i h hi
    have hlt : i < s.size := by
      rcases Nat.lt_or_ge i s.size with hl | hl
      · exact hl
      · rw [drop_end hl] at h; cases h
    rw [drop_bt hlt] at h
    injection h with h1 h2
    by_cases hc : c = 123
    · obtain ⟨k, hk⟩ := ih (i + 1) h2 (by omega)
      refine ⟨k + 1, ?_⟩
      rw [spec_deep.l0, if_pos (by omega), if_pos (by omega), if_pos (by rw [h1]; exact hc), show wrap64 ((i : Int) + 1) = ((i + 1 : Nat) : Int) by unfold wrap64; omega, hk, nOpen, if_pos hc]
      congr 2
      omega
    · refine ⟨1, ?_⟩
      rw [spec_deep.l0, if_pos (by omega), if_pos (by omega), if_neg (by rw [h1]; exact hc), nOpen, if_neg hc]
      rfl
theorem blankIn_l (s : ByteArray) (hs : s.size ≤ 1000000) : ∀ (l : List Int) (i : Nat), (bytesOf s).drop i = l → i ≤ s.size → ∃ k, spec_blankIn.l0 k s (i : Int) = some (l.any fun c => decide (Arr.blankI c)) := by
  intro l
  induction l with
  | nil =>
    intro i h hi
    have he : i = s.size := by
      rcases Nat.lt_or_ge i s.size with hl | hl
      · rw [drop_bt hl] at h; cases h
      · omega
    refine ⟨1, ?_⟩
    rw [spec_blankIn.l0, if_neg (by omega)]
    rfl
  | cons c t ih =>
    intro i h hi
    have hlt : i < s.size := by
      rcases Nat.lt_or_ge i s.size with hl | hl
      · exact hl
      · rw [drop_end hl] at h; cases h
    rw [drop_bt hlt] at h
    injection h with h1 h2
    obtain ⟨k, hk⟩ := ih (i + 1) h2 (by omega)
    refine ⟨k + 1, ?_⟩
    rw [spec_blankIn.l0, if_pos (by omega), if_pos (by omega), blank_f, h1]
    simp only [Option.bind_some, List.any_cons]
    by_cases hb : Arr.blankI c
    · rw [decide_eq_true hb]; simp
    · rw [decide_eq_false hb, if_neg (by simp), show wrap64 ((i : Int) + 1) = ((i + 1 : Nat) : Int) by unfold wrap64; omega, hk]
      simp
theorem icells_made (n : Nat) : madeCells #[.int .i64 0] n = icells (List.replicate n 0) := by
  apply Array.ext'
  simp [icells, madeCells, Nat.mod_one]
  apply List.ext_getElem
  · simp
  · intro i h1 h2; simp
theorem bcells_made (n : Nat) : madeCells #[.bool false] n = bcells (List.replicate n false) := by
  apply Array.ext'
  simp [bcells, madeCells, Nat.mod_one]
  apply List.ext_getElem
  · simp
  · intro i h1 h2; simp
theorem mk_run {P : Program} (t e : TypeId) (z : Value) (size bytes : Nat) (ht : P.underlying t = some (.slice e)) (hinfo : (P.info? e).map (fun i => (i.zero, i.size, i.bytes)) = some (some z, size, bytes)) (hb0 : 0 < bytes) (n : Nat) (hl : n * bytes ≤ 281474976710656) (W : World) :
    (Instr.makeSlice t (.int .i64 (n : Int)) (.int .i64 (n : Int))).run P W = .ok (.slice (some ⟨W.heap.size, 0, none⟩) n n) (W.alloc (.cells (madeCells z.cells (n * size)) e)) := by
  obtain ⟨i0, hi, hzz⟩ := Option.map_eq_some_iff.1 hinfo
  simp only [Prod.mk.injEq] at hzz
  obtain ⟨hz0, hz1, hz2⟩ := hzz
  have hm : n ≤ 281474976710656 := Nat.le_trans (Nat.le_mul_of_pos_right _ hb0) hl
  have hr := run_make (P := P) (w := W) t e i0 z ht hi hz0 .i64 .i64 (n : Int) (n : Int) (by omega) (Int.le_refl _)
    (by
      have h3 : ((i0.bytes * n : Nat) : Int) ≤ 281474976710656 := by rw [hz2, Nat.mul_comm]; omega
      rwa [Int.natCast_mul] at h3) (by omega)
  simp only [Int.toNat_natCast, hz1] at hr
  exact hr
theorem ints_own {w : World} {g base n : Nat} {D : List Int} (hg : w.heap[g]? = some (.cells (icells D) 3 (0, 0))) (hb : base ≤ g) (hl : D.length = n) (hn : n ≤ 1000000) : Kd.R (Kd.int .i64) 3 w base (fun _ => True) (.slice (some ⟨g, 0, none⟩) n n) D := by
  subst hl
  refine Kd.R_of_own (enc := Value.int .i64) (h1 := fun _ => rfl) ⟨by simp [encs], .inr ⟨g, D.length, icells D, rfl, hb, hg, Nat.le_refl _, by simp only [maxLen]; omega, by simp [icells], ?_⟩⟩ (fun _ _ => trivial)
  have : (D.map (Value.int IntKind.i64)).length = D.length := List.length_map ..
  simp only [icells, Nat.mul_one, encs]
  rw [← this, List.take_length]
theorem RS.start {w W : World} {s del : ByteArray} {g gd gs n : Nat} (hg : W.heap[g]? = some (.cells (rsCells s del gd gs n 0 false false (.slice none 0 0)) 52 (0, 0))) (hd : W.heap[gd]? = some (.cells (icells (List.replicate n 0)) 3 (0, 0))) (hs : W.heap[gs]? = some (.cells (bcells (List.replicate n false)) 4 (0, 0))) (b1 : w.heap.size ≤ g) (b2 : w.heap.size ≤ gd) (b3 : w.heap.size ≤ gs) (hB : Below w.heap.size w W) : RS w s del g gd gs n 0 (List.replicate n 0) (List.replicate n false) false false [] (.slice none 0 0) W :=
  ⟨hg, Kd.R_nil _ _ _ _ _, hd, hs, b1, b2, b3, hB, by simp, by simp, Nat.zero_le _, Nat.le_refl _⟩
theorem RS.start1 (w X : World) (s del : ByteArray) (n : Nat) (hX : Below w.heap.size w X) : RS w s del (X.heap.size + 2) X.heap.size (X.heap.size + 1) n 0 (List.replicate n 0) (List.replicate n false) false false [] (.slice none 0 0) (((X.alloc (.cells (icells (List.replicate n 0)) 3)).alloc (.cells (bcells (List.replicate n false)) 4)).alloc (.cells (rsCells s del X.heap.size (X.heap.size + 1) n 0 false false (.slice none 0 0)) 52)) := by
  have hs := hX.size
  refine RS.start (by simpa using heap_alloc_new ((X.alloc (.cells (icells (List.replicate n 0)) 3)).alloc (.cells (bcells (List.replicate n false)) 4)) (.cells (rsCells s del X.heap.size (X.heap.size + 1) n 0 false false (.slice none 0 0)) 52)) (blk_alloc (blk_alloc (heap_alloc_new X _) _) _) (blk_alloc (by simpa using heap_alloc_new (X.alloc (.cells (icells (List.replicate n 0)) 3)) (.cells (bcells (List.replicate n false)) 4)) _) (by omega) hs (by omega) ?_
  exact ((hX.alloc hs _).alloc (by simp; omega) _).alloc (by simp; omega) _
theorem RS.start2 (w X : World) (s del : ByteArray) (n : Nat) (hX : Below w.heap.size w X) : RS w s del (X.heap.size + 2) (X.heap.size + 1) X.heap.size n 0 (List.replicate n 0) (List.replicate n false) false false [] (.slice none 0 0) (((X.alloc (.cells (bcells (List.replicate n false)) 4)).alloc (.cells (icells (List.replicate n 0)) 3)).alloc (.cells (rsCells s del (X.heap.size + 1) X.heap.size n 0 false false (.slice none 0 0)) 52)) := by
  have hs := hX.size
  refine RS.start (by simpa using heap_alloc_new ((X.alloc (.cells (bcells (List.replicate n false)) 4)).alloc (.cells (icells (List.replicate n 0)) 3)) (.cells (rsCells s del (X.heap.size + 1) X.heap.size n 0 false false (.slice none 0 0)) 52)) (blk_alloc (by simpa using heap_alloc_new (X.alloc (.cells (bcells (List.replicate n false)) 4)) (.cells (icells (List.replicate n 0)) 3)) _) (blk_alloc (blk_alloc (heap_alloc_new X _) _) _) (by omega) (by omega) hs ?_
  exact ((hX.alloc hs _).alloc (by simp; omega) _).alloc (by simp; omega) _
/-- What Array leaves. -/
def arrPost (w : World) (T : List Int × List (Option (List Int)) × Bool × Bool) (e : Ending) (w' : World) : Prop :=
  ∃ v0_ v1_ : Value, e = .returned (.tuple #[v0_, v1_, .bool T.2.2.1, .bool T.2.2.2]) ∧ Kd.R (Kd.int .i64) 3 w' w.heap.size (fun _ => True) v0_ T.1 ∧ Kd.R k34 34 w' w.heap.size (fun _ => True) v1_ (T.2.1.map sIt) ∧ Below w.heap.size w w'
theorem arrPost.no {w w' : World} {b c : Bool} (h : Below w.heap.size w w') : arrPost w ([], [], b, c) (.returned (.tuple #[.slice none 0 0, .slice none 0 0, .bool b, .bool c])) w' := ⟨_, _, rfl, Kd.R_nil _ _ _ _ _, Kd.R_nil _ _ _ _ _, h⟩
set_option maxHeartbeats 8000000 in
set_option maxRecDepth 100000 in
theorem spec_Array.main (s del : ByteArray) (d : Int) (w : World) (hdel : bytesOf del = [d]) (hL : s.size ≤ 1000000) :
    Calls Tryz.prog 7 #[.string s, .string del] w (arrPost w (spArr d (bytesOf s))) := by
  have HL := Aside0.mk hL
  have HDL := Aside0.mk hdel
  by_cases h0 : s.size = 0
  · have hz : bytesOf s = [] := by
      have := drop_end (s := s) (a := 0) (by omega)
      simpa using this
    rw [hz]
    have e1 : ((s.size : Int) == 0) = true := beq_iff_eq.mpr (by omega)
    have e2 : (s.size == 0) = true := beq_iff_eq.mpr h0
    have e3 : (s.size = 0) = True := eq_true h0
    clear hdel hL h0 hz
    --{A
    go_enter Tryz.func7, Tryz.ntmps7
    go_wp2_with fail
    go_quiet (fail)
    go_wp2_with fail
    refine bodyPost_ret (results_list (rs := [.tmp 4, .tmp 5, .tmp 6, .tmp 7]) rfl (by simp) (.tmp (.tmp (.tmp (.tmp .nil))))) rfl ?_
    exact arrPost.no (pw_below_drewN (Below.refl _ _) _)
    --}A
  · have hlt : 0 < s.size := by omega
    have hdr := drop_bt hlt
    rw [List.drop_zero] at hdr
    obtain ⟨t, ht⟩ : ∃ t, t = (bytesOf s).drop (0 + 1) := ⟨_, rfl⟩
    rw [← ht] at hdr
    have kbt : ∀ h : 0 < s.size, ((s[0]'h).toNat : Int) = bt s 0 := fun h => bt_at s 0 h
    have e1 : ((s.size : Int) == 0) = false := beq_eq_false_iff_ne.mpr (by omega)
    have e2 : (s.size == 0) = false := beq_eq_false_iff_ne.mpr h0
    have e3 : (s.size = 0) = False := eq_false h0
    have e4 : ((0 : Int) < (s.size : Int)) = True := eq_true (by omega)
    have e4b : decide ((0 : Int) < (s.size : Int)) = true := decide_eq_true (by omega)
    have e5 : (0 < s.size) = True := eq_true hlt
    obtain ⟨c, hc⟩ : ∃ c, c = bt s 0 := ⟨_, rfl⟩
    have hdr2 : bytesOf s = c :: t := by rw [hdr, hc]; rfl
    have HBL : ∀ (W : World), Calls Tryz.prog 14 #[.int .u8 (bt s 0)] W fun e w' => e = .returned (.bool (decide (Arr.blankI c))) ∧ Drawn0 W w' := fun W => by
      rw [hc]; exact spec_blank.calls _ _ _ (blank_f _)
    have HT := Aside0.mk ht
    have HS := Aside0.mk hdr2
    by_cases h123 : c = 123
    case neg =>
      have b1 : (bt s 0 == 123) = false := by rw [← hc]; exact beq_eq_false_iff_ne.mpr h123
      have b1n : (bt s 0 != 123) = true := by rw [← hc]; exact bne_iff_ne.mpr h123
      rw [hdr2]
      have hsp : spArr d (c :: t) = ([], [], false, (!decide (Arr.blankI c)) && decide (c ≠ 91)) := by
        unfold spArr; simp only [if_pos (show c ≠ 123 from h123)]
      rw [hsp]
      by_cases hbl : Arr.blankI c
      · rw [decide_eq_true hbl] at HBL ⊢
        have HB2 := Aside0.mk HBL
        rw [show ((!true) && decide (c ≠ 91)) = false from rfl]
        clear hdel hL h0 hlt hdr hdr2 ht h123 hsp hbl HBL hc
        --{B
        go_enter Tryz.func7, Tryz.ntmps7
        go_wp2_with fail
        go_quiet ((go_at_call 14; exact quiet_d (HB2.out _)))
        go_wp2_with fail
        refine bodyPost_ret (results_list (rs := [.tmp 4, .tmp 5, .tmp 6, .tmp 7]) rfl (by simp) (.tmp (.tmp (.tmp (.tmp .nil))))) rfl ?_
        exact arrPost.no (pw_below_drewN (Below.refl _ _) _)
        --}B
      · rw [decide_eq_false hbl] at HBL ⊢
        have HB2 := Aside0.mk HBL
        by_cases h91 : c = 91
        · have b2 : (bt s 0 != 91) = false := by rw [← hc]; exact bne_eq_false_iff_eq.mpr h91
          rw [show ((!false) && decide (c ≠ 91)) = false by rw [decide_eq_false (fun h => h h91)]; rfl]
          clear hdel hL h0 hlt hdr hdr2 ht h123 hsp hbl HBL hc h91
          --{C
          go_enter Tryz.func7, Tryz.ntmps7
          go_wp2_with fail
          go_quiet ((go_at_call 14; exact quiet_d (HB2.out _)))
          go_wp2_with fail
          refine bodyPost_ret (results_list (rs := [.tmp 4, .tmp 5, .tmp 6, .tmp 7]) rfl (by simp) (.tmp (.tmp (.tmp (.tmp .nil))))) rfl ?_
          exact arrPost.no (pw_below_drewN (Below.refl _ _) _)
          --}C
        · have b2 : (bt s 0 != 91) = true := by rw [← hc]; exact bne_iff_ne.mpr h91
          rw [show ((!false) && decide (c ≠ 91)) = true by rw [decide_eq_true (show c ≠ 91 from h91)]; rfl]
          clear hdel hL h0 hlt hdr hdr2 ht h123 hsp hbl HBL hc h91
          --{D
          go_enter Tryz.func7, Tryz.ntmps7
          go_wp2_with fail
          go_quiet ((go_at_call 14; exact quiet_d (HB2.out _)))
          go_wp2_with fail
          refine bodyPost_ret (results_list (rs := [.tmp 4, .tmp 5, .tmp 6, .tmp 7]) rfl (by simp) (.tmp (.tmp (.tmp (.tmp .nil))))) rfl ?_
          exact arrPost.no (pw_below_drewN (Below.refl _ _) _)
          --}D
    case pos =>
    have b1 : (bt s 0 == 123) = true := by rw [← hc]; exact beq_iff_eq.mpr h123
    have b1n : (bt s 0 != 123) = false := by rw [← hc]; exact bne_eq_false_iff_eq.mpr h123
    have hst : (s.toList == [123, 125]) = decide (c :: t = [123, 125]) := by
      have h1 : s.toList = s.data.toList := ByteArray.toList_eq ..
      rw [h1]
      by_cases hz : c :: t = [123, 125]
      · rw [decide_eq_true hz]
        have h2 : s.data.toList.map (fun b : UInt8 => (b.toNat : Int)) = [123, 125].map (fun b : UInt8 => (b.toNat : Int)) := by
          rw [show s.data.toList.map (fun b : UInt8 => (b.toNat : Int)) = c :: t from hdr2, hz]; rfl
        rw [(List.map_inj_right (f := fun b : UInt8 => (b.toNat : Int)) (fun x y e => UInt8.toNat_inj.1 (by omega))).1 h2]
        rfl
      · rw [decide_eq_false hz]
        refine beq_eq_false_iff_ne.mpr (fun he => hz ?_)
        rw [← hdr2]
        show s.data.toList.map (fun b : UInt8 => (b.toNat : Int)) = _
        rw [he]; rfl
    by_cases hE : c :: t = [123, 125]
    · rw [decide_eq_true hE] at hst
      have hsp : spArr d (bytesOf s) = ([], [], true, true) := by
        rw [hdr2]; unfold spArr; simp only [if_neg (show ¬ c ≠ 123 from fun h => h h123), if_pos hE]
      rw [hsp]
      clear hdel hL h0 hlt hdr hdr2 ht h123 hsp hE HBL hc
      --{E
      go_enter Tryz.func7, Tryz.ntmps7
      go_wp2_with fail
      refine bodyPost_ret (results_list (rs := [.tmp 4, .tmp 5, .tmp 6, .tmp 7]) rfl (by simp) (.tmp (.tmp (.tmp (.tmp .nil))))) rfl ?_
      exact arrPost.no (Below.refl _ _)
      --}E
    rw [decide_eq_false hE] at hst
    obtain ⟨n, hn⟩ : ∃ n, n = nOpen (bytesOf s) := ⟨_, rfl⟩
    have hnl : n ≤ 1000000 ∧ 0 < n := by
      have h1 : ∀ l : List Int, nOpen l ≤ l.length := by
        intro l
        induction l with
        | nil => exact Nat.le_refl _
        | cons c t ih => rw [nOpen]; split <;> simp only [List.length_cons] <;> omega
      have h2 := h1 (bytesOf s)
      rw [bytesOf_length] at h2
      refine ⟨by omega, ?_⟩
      rw [hn, hdr2, nOpen, if_pos h123]; omega
    obtain ⟨kd, hkd⟩ := deep_l s hL (bytesOf s) 0 (by rw [List.drop_zero]) (Nat.zero_le _)
    rw [Nat.zero_add, ← hn] at hkd
    have hdeep := fun W => spec_deep.calls kd s (n : Int) W hkd
    obtain ⟨st', hgo, hle⟩ := Arr.spGo_ends d n (2 * (bytesOf s).length + 10) true 0 0 ⟨bytesOf s, List.replicate n 0, List.replicate n false, false, false, []⟩ (by simp only [if_true]; omega)
    have hsp : spArr d (bytesOf s) = if st'.opn = true then ([], [], false, false) else if st'.bad = true ∨ st'.rest ≠ [] then ([], [], false, !st'.rest.any (fun c => decide (Arr.blankI c))) else (st'.dims, st'.l, true, true) := by
      rw [hn, hdr2] at hgo
      rw [hdr2]; unfold spArr; simp only [if_neg (show ¬ c ≠ 123 from fun h => h h123), if_neg hE]
      rw [hgo]
    have HDEEP := Aside0.mk hdeep
    have HSP := Aside0.mk hsp
    have hlev : ∀ (g gd gs : Nat) (W : World), RS w s del g gd gs n 0 (List.replicate n 0) (List.replicate n false) false false [] (.slice none 0 0) W → Calls Tryz.prog 16 #[.pointer (some ⟨g, 0, none⟩), .int .i64 0, .int .i64 (n : Int)] W fun e w' => e = .returned (.tuple #[]) ∧ St w s del g gd gs n st' w' := fun g gd gs W h =>
      spec_reader_level.main hL hnl.1 d hdel _ _ (Nat.le_refl _) (by rw [bytesOf_length]; omega) 0 _ st' W hnl.2 ⟨0, _, by rw [List.drop_zero], h⟩ rfl rfl hgo
    have HLEV := Aside0.mk hlev
    have HN := Aside0.mk hnl
    have hk1 := fun W => mk_run (P := Tryz.prog) 29 3 (.int .i64 0) 1 8 Tryz.underlying29 (by kernel_rfl) (by omega) n (by have := hnl.1; omega) W
    have hk2 := fun W => mk_run (P := Tryz.prog) 37 4 (.bool false) 1 1 Tryz.underlying37 (by kernel_rfl) (by omega) n (by have := hnl.1; omega) W
    rw [show (Value.int .i64 0).cells = #[.int .i64 0] from rfl, Nat.mul_one, icells_made] at hk1
    rw [show (Value.bool false).cells = #[.bool false] from rfl, Nat.mul_one, bcells_made] at hk2
    clear hdel hL h0 hlt hdr hdr2 ht h123 hsp hE HBL hc hn hnl hkd hdeep hgo hle hlev
    --{F
    go_enter Tryz.func7, Tryz.ntmps7
    go_wp2_with (go_at_call 15; (with_reducible refine (HDEEP.out _).mono ?_); rintro e w1 ⟨rfl, ⟨nd, rfl⟩⟩)
    go_region
    all_goals
      obtain ⟨r2, D2, S2, o2, b2, els2⟩ := st'
      go_wp2_with fail
      first
        | refine (HLEV.out (w.heap.size + 1 + 1) w.heap.size (w.heap.size + 1) _ (RS.start1 w (w.drewN (nd + 1)) s del n (pw_below_drewN (Below.refl _ _) _))).mono ?_
        | refine (HLEV.out (w.heap.size + 1 + 1) (w.heap.size + 1) w.heap.size _ (RS.start2 w (w.drewN (nd + 1)) s del n (pw_below_drewN (Below.refl _ _) _))).mono ?_
      rintro e w2 ⟨rfl, hs2⟩
      obtain ⟨a2, v2, hr2, h2⟩ := hs2
      simp only at hr2 h2
      obtain ⟨i2, hi2⟩ : ∃ i2 : Int, i2 = (a2 : Int) := ⟨_, rfl⟩
      have d0 := h2.c 0 (.string s) rfl
      have d1 : w2.cell? ⟨w.heap.size + 1 + 1, 1, none⟩ = some (.int .i64 i2) := by rw [hi2]; exact h2.c 1 (.int .i64 (a2 : Int)) rfl
      have d3 := h2.c 3 (.slice (some ⟨_, 0, none⟩) n n) rfl
      have d5 := h2.c 5 (.bool o2) rfl
      have d6 := h2.c 6 (.bool b2) rfl
      have d7 := h2.c 7 v2 rfl
      have al := h2.al
      have H2 := Aside0.mk h2
      have HI2 := Aside0.mk hi2
      have hq : bytesOf (s.extract i2.toNat s.size) = r2 := by
        rw [hi2, Int.toNat_natCast, extract_take al, ← hr2]
        exact List.take_of_length_le (by rw [List.length_drop, bytesOf_length]; omega)
      obtain ⟨kb2, hkb2⟩ := blankIn_l (s.extract i2.toNat s.size) (by rw [← bytesOf_length, hq, ← hr2, List.length_drop, bytesOf_length]; have := HL.out; omega) (bytesOf (s.extract i2.toNat s.size)) 0 (by rw [List.drop_zero]) (Nat.zero_le _)
      rw [hq] at hkb2
      obtain ⟨qb, hqb⟩ : ∃ qb, qb = r2.any (fun c => decide (Arr.blankI c)) := ⟨_, rfl⟩
      rw [← hqb] at hkb2
      have HQB := Aside0.mk hqb
      clear hqb
      have HBI := Aside0.mk (fun W => spec_blankIn.calls kb2 (s.extract i2.toNat s.size) _ W hkb2)
      have z1 : (i2 ≤ (s.size : Int)) = True := eq_true (by omega)
      have z1b : decide (i2 ≤ (s.size : Int)) = true := decide_eq_true (by omega)
      have z2 : (0 ≤ i2) = True := eq_true (by omega)
      have z2b : decide (0 ≤ i2) = true := decide_eq_true (by omega)
      have z3 : min i2 (s.size : Int) = i2 := by omega
      have z4 : ((s.size : Int) < i2) = False := eq_false (by omega)
      have z4b : decide ((s.size : Int) < i2) = false := decide_eq_false (by omega)
      have HR2 := Aside0.mk hr2
      have HAL := Aside0.mk al
      clear h2 hq hkb2 hr2 hi2 al hk1 hk2
      cases o2
      case true =>
        have hsp : spArr d (bytesOf s) = ([], [], false, false) := by rw [HSP.out]; exact if_pos rfl
        have HSE := Aside0.mk hsp
        clear hsp HSP
        go_wp2_with fail
        refine bodyPost_ret (results_list (rs := [.tmp 4, .tmp 5, .tmp 6, .tmp 7]) rfl (by simp) (.tmp (.tmp (.tmp (.tmp .nil))))) rfl ?_
        rw [HSE.out]
        exact arrPost.no H2.out.hB
      cases b2
      case true =>
        have hsp : spArr d (bytesOf s) = ([], [], false, !r2.any (fun c => decide (Arr.blankI c))) := by
          rw [HSP.out]; simp only [Bool.false_eq_true, if_false]; exact if_pos (.inl trivial)
        have HSE := Aside0.mk hsp
        have HB := HBI.out
        clear hsp HSP
        go_wp2_with (go_at_call 17; (with_reducible refine (HB _).mono ?_); rintro e w3 ⟨rfl, ⟨nd3, rfl⟩⟩)
        refine bodyPost_ret (results_list (rs := [.tmp 4, .tmp 5, .tmp 6, .tmp 7]) rfl (by simp) (.tmp (.tmp (.tmp (.tmp .nil))))) rfl ?_
        rw [HSE.out, ← HQB.out]
        exact arrPost.no (pw_below_drewN H2.out.hB _)
      by_cases he : a2 = s.size
      · have hrn : r2 = [] := by rw [← HR2.out]; exact drop_end (by omega)
        have hsp : spArr d (bytesOf s) = (D2, els2, true, true) := by
          rw [HSP.out, hrn]; simp only [Bool.false_eq_true, if_false]; exact if_neg (by rintro (h | h); exact absurd h (by simp); exact h rfl)
        have HSE := Aside0.mk hsp
        have y1 : (i2 == (s.size : Int)) = true := beq_iff_eq.mpr (by have := HI2.out; omega)
        have y1n : (i2 != (s.size : Int)) = false := bne_eq_false_iff_eq.mpr (by have := HI2.out; omega)
        clear hsp HSP hrn he
        go_wp2_with fail
        go_quiet (fail)
        go_wp2_with fail
        refine bodyPost_ret (results_list (rs := [.tmp 4, .tmp 5, .tmp 6, .tmp 7]) rfl (by simp) (.tmp (.tmp (.tmp (.tmp .nil))))) rfl ?_
        rw [HSE.out]
        exact ⟨_, v2, rfl, ints_own (by first | exact H2.out.hd | exact (H2.out.drewN _).hd) H2.out.bd H2.out.dl HN.out.1, by first | exact (H2.out.drewN _).hl | exact H2.out.hl, pw_below_drewN H2.out.hB _⟩
      · have hrn : r2 ≠ [] := by
          intro h
          have := HR2.out
          rw [h] at this
          have := congrArg List.length this
          rw [List.length_drop, bytesOf_length, List.length_nil] at this
          have := HAL.out
          omega
        have y1 : (i2 == (s.size : Int)) = false := beq_eq_false_iff_ne.mpr (by have := HI2.out; omega)
        have y1n : (i2 != (s.size : Int)) = true := bne_iff_ne.mpr (by have := HI2.out; omega)
        have hsp : spArr d (bytesOf s) = ([], [], false, !r2.any (fun c => decide (Arr.blankI c))) := by
          rw [HSP.out]; simp only [Bool.false_eq_true, if_false]; exact if_pos (.inr hrn)
        have HSE := Aside0.mk hsp
        have HB := HBI.out
        clear hsp HSP
        go_wp2_with (go_at_call 17; (with_reducible refine (HB _).mono ?_); rintro e w3 ⟨rfl, ⟨nd3, rfl⟩⟩)
        refine bodyPost_ret (results_list (rs := [.tmp 4, .tmp 5, .tmp 6, .tmp 7]) rfl (by simp) (.tmp (.tmp (.tmp (.tmp .nil))))) rfl ?_
        rw [HSE.out, ← HQB.out]
        exact arrPost.no (pw_below_drewN H2.out.hB _)
    --}F
theorem spec_Array.calls (a0 a1 : ByteArray) (r1 : List Int) (r2 : List (S34)) (r3 r4 : Bool) (w : World) (h : spec_Array.f a0 a1 = some (r1, r2, r3, r4)) :
    Calls Tryz.prog 7 #[.string a0, .string a1] w fun e w' => ∃ v0_ v1_ : Value, e = .returned (.tuple #[v0_, v1_, .bool r3, .bool r4]) ∧ Kd.R (Kd.int .i64) 3 w' w.heap.size (fun _ => True) v0_ r1 ∧ Kd.R k34 34 w' w.heap.size (fun _ => True) v1_ r2 ∧ Below w.heap.size w w' := by
  unfold spec_Array.f at h
  split at h
  · rename_i d hd
    split at h
    · rename_i hs
      injection h with h
      have hm := spec_Array.main a0 a1 d w hd hs
      unfold arrIt at h
      simp only [Prod.mk.injEq] at h
      obtain ⟨rfl, rfl, rfl, rfl⟩ := h
      exact hm
    · cases h
  · cases h

end Go.Proofs.YtcdcoogjhkchlaaGreatDoor.P
