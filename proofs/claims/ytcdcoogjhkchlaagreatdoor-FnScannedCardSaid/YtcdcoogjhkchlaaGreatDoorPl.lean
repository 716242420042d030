/- zz_pa_all, pq_scanLinearArray: walks by hand. Conditions: named by each theorem. -/
import Derived.ScopeJumps
import Derived.WalkMore
import Derived.Test.YtcdcoogjhkchlaaGreatDoorPx0
import Derived.Test.YtcdcoogjhkchlaaGreatDoorPp
import Derived.Test.YtcdcoogjhkchlaaGreatDoorPz
import Derived.Test.YtcdcoogjhkchlaaGreatDoorLibArr
namespace Go.Proofs.YtcdcoogjhkchlaaGreatDoor.P
open Go.RowKit Go.Proofs.YtcdcoogjhkchlaaGreatDoorW.PrintWords Go.Proofs.YtcdcoogjhkchlaaGreatDoorW.PrintLast Go.Proofs.YtcdcoogjhkchlaaGreatDoorW.PrintMore
attribute [local go_sem] max2_int min2_int max_two min_two max_three min_three max_four min_four   -- for this text's walks alone
set_option linter.unusedVariables false
set_option linter.unusedSimpArgs false
/-- How many brackets a text begins with. -/
def braces : List Int → Nat
  | [] => 0
  | c :: t => if c = 123 then braces t + 1 else 0
theorem braces_split : ∀ l : List Int, l = List.replicate (braces l) 123 ++ l.drop (braces l) ∧ ∀ x t, l.drop (braces l) = x :: t → x ≠ 123
  | [] => ⟨rfl, fun x t h => by simp [braces] at h⟩
  | c :: t => by
    obtain ⟨h1, h2⟩ := braces_split t
    by_cases h : c = 123
    · have hb : braces (c :: t) = braces t + 1 := by rw [braces, if_pos h]
      rw [hb]
      refine ⟨?_, fun x u he => h2 x u he⟩
      rw [List.replicate_succ, List.cons_append, List.drop_succ_cons, ← h1, h]
    · have hb : braces (c :: t) = 0 := by rw [braces, if_neg h]
      rw [hb]
      refine ⟨rfl, fun x u he => ?_⟩
      injection he with he
      rw [← he]; exact h
/-- What parseArray tells. -/
def paF (d : Int) (l : List Int) : Option (List Int × List (Option (List Int))) :=
  if l = [123, 125] then some ([], []) else if braces l = 0 then none else Arr.pm d (braces l) true (l.drop (braces l)) (braces l) (List.replicate (braces l) 0) []
/-- Where it is told. -/
def paIs (d : Int) (l : List Int) : Prop := d ≠ 125 ∧ d ≠ 123 ∧ (0 ≤ d ∧ d < 256) ∧ l.length ≤ 1000000 ∧ (∀ x ∈ l, 0 ≤ x ∧ x < 256) ∧ (l = [123, 125] ∨ braces l = 0 ∨ (l.drop (braces l)).head? ≠ some 125)
def paOut (w0 : World) (T : Option (List Int × List (Option (List Int)))) (e : Ending) (w' : World) : Prop :=
  Below w0.heap.size w0 w' ∧ (∀ D els, T = some (D, els) → ∃ v0 v1, e = .returned (.tuple #[v0, v1, .nilIface]) ∧ Kd.R (Kd.int .i64) 3 w' w0.heap.size (fun _ => True) v0 D ∧ (elKd w0).R 58 w' w0.heap.size (fun _ => True) v1 els) ∧
    (T = none → ∃ v1 v2 t x, e = .returned (.tuple #[v1, v2, .iface t x]))
theorem dims_own {w : World} {g base : Nat} {D : List Int} (hg : w.heap[g]? = some (.cells (dcells D) 3 (0, 0))) (hb : base ≤ g) (hl : D.length ≤ 1000000000) : Kd.R (Kd.int .i64) 3 w base (fun _ => True) (.slice (some ⟨g, 0, none⟩) D.length D.length) D := by
  refine Kd.R_of_own (enc := Value.int .i64) (h1 := fun _ => rfl) ⟨by simp [encs], .inr ⟨g, D.length, dcells D, rfl, hb, hg, Nat.le_refl _, by simp only [maxLen]; omega, by simp [dcells], ?_⟩⟩ (fun _ _ => trivial)
  have : (D.map (Value.int IntKind.i64)).length = D.length := List.length_map ..
  simp only [dcells, Nat.mul_one, encs]
  rw [← this, List.take_length]
theorem paOut.of {w0 w' : World} {T : Option (List Int × List (Option (List Int)))} {e : Ending} (h : arrRes w0 T e w') : paOut w0 T e w' :=
  ⟨h.1, fun D els hT => by
    obtain ⟨g, v, h0, h00, he, hg, hv⟩ := h.2.1 D els hT
    exact ⟨_, v, he, dims_own hg h0 h00, hv⟩, h.2.2⟩
theorem el_lit0 (w0 W : World) (base : Nat) (hb : base ≤ W.heap.size) : (elKd w0).R 58 (W.alloc (.cells #[] 58)) base (fun _ => True) (.slice (some ⟨W.heap.size, 0, none⟩) 0 0) [] := by
  refine ⟨fun _ _ => trivial, [], ?_, ?_⟩
  · exact World.ownsRow_lit (base := base) (e := 58) (size := 1) W #[] 0 hb (by decide) (by simp)
  · exact ⟨rfl, fun j p hj => by simp at hj⟩
set_option maxHeartbeats 2000000 in
set_option maxRecDepth 100000 in
theorem pq_parseArray.no (A0 : Option Addr) (c cd : Nat) (Ad : Option Addr) (s : List Int) (w : World) (hr : Kd.C (Kd.int .u8) w A0 s.length s) (h : braces s = 0) (hL : s.length ≤ 1000000) :
    Calls Tryz.prog 38 #[.slice A0 s.length c, .slice Ad 1 cd] w fun e w' => Below w.heap.size w w' ∧ ∃ v1 v2 t x, e = .returned (.tuple #[v1, v2, .iface t x]) := by
  cases s with
  | nil =>
    clear hr h hL
    simp only [List.length_nil]
    go_enter Tryz.func38, Tryz.ntmps38
    go_wp2_with fail
    go_step3
    go_wp2_with (go_at_call 20; refine (errors_New.plain _ _).mono ?_; rintro e w' ⟨⟨t_, v_, rfl⟩, hb⟩; have HBE := Aside0.mk hb; clear hb)
    rw [Exit.noGoto_ret]
    go_ret3
    exact ⟨HBE.out, _, _, _, _, rfl⟩
  | cons x t =>
    have hx : x ≠ 123 := by
      intro e
      rw [braces, if_pos e] at h
      cases h
    obtain ⟨ad, ea, hc⟩ := Kd.at_int hr 0 (by omega) (by simp)
    subst ea
    have x0 : w.cell? ad = some (.int .u8 x) := by simpa [rd, Addr.add] using hc
    have b1 : (x == 123) = false := beq_eq_false_iff_ne.mpr hx
    have b1n : (x != 123) = true := bne_iff_ne.mpr hx
    obtain ⟨L, hLd⟩ : ∃ L, L = (x :: t).length := ⟨_, rfl⟩
    have hl1 : 1 ≤ L := by rw [hLd]; simp
    rw [← hLd] at hL ⊢
    have g1 : ((L : Int) < 1) = False := eq_false (by omega)
    have g1b : decide ((L : Int) < 1) = false := decide_eq_false (by omega)
    have g1c : (L < 1) = False := eq_false (by omega)
    have g2 : ((0 : Int) < (L : Int)) = True := eq_true (by omega)
    have g3 : (0 < L) = True := eq_true (by omega)
    have g4 : (L = 0) = False := eq_false (by omega)
    clear hr h hx hLd hl1 hc
    go_enter Tryz.func38, Tryz.ntmps38
    go_wp2_with fail
    go_step3
    go_wp2_with (go_at_call 20; refine (errors_New.plain _ _).mono ?_; rintro e w' ⟨⟨t_, v_, rfl⟩, hb⟩; have HBE := Aside0.mk hb; clear hb)
    rw [Exit.noGoto_ret]
    go_ret3
    exact ⟨HBE.out, _, _, _, _, rfl⟩
def JE (ad : Addr) (c : Nat) (Ad : Option Addr) (cd : Nat) (w0 : World) (u : Nat → Value) (a' : Act) (w' : World) : Prop :=
  a' = { tmps := #[.slice (some ad) 2 c, .slice Ad 1 cd, undef, undef, .slice none 0 0, .slice (some ⟨w0.heap.size, 0, none⟩) 0 0, .nilIface, .int .i64 1, .int .i64 1, u 9, u 10, u 11, u 12, u 13, u 14, u 15, u 16, u 17, u 18, u 19, u 20, u 21, u 22, u 23, u 24, u 25, u 26, u 27, u 28, u 29, u 30, u 31, u 32, u 33, u 34, u 35, u 36, u 37, u 38, u 39, u 40, u 41, u 42, u 43, u 44, u 45, u 46, u 47, u 48, u 49, u 50, u 51, u 52, u 53, u 54, u 55, u 56, u 57, u 58, u 59, u 60, u 61, u 62, u 63, u 64, u 65, u 66, u 67, u 68, u 69, u 70, u 71, u 72, u 73, u 74, u 75, u 76, u 77, u 78, u 79, u 80, u 81, u 82, u 83, u 84, u 85, u 86, u 87, u 88, u 89, u 90, u 91, u 92, u 93, u 94, u 95, u 96, u 97, u 98, u 99, u 100, u 101, u 102, u 103, u 104, u 105, u 106, u 107, u 108, u 109, u 110, u 111, u 112, u 113, u 114, u 115, u 116, u 117, u 118, u 119, u 120, u 121, u 122, u 123, u 124, u 125, u 126, u 127, u 128, u 129, u 130, u 131, u 132, u 133, u 134, u 135, u 136, u 137, u 138, u 139, u 140, u 141, u 142, u 143, u 144, u 145, u 146, u 147, u 148, u 149, u 150, u 151, u 152, u 153, u 154, u 155, u 156, u 157, u 158, u 159, u 160, u 161, u 162, u 163, u 164, u 165, u 166, u 167, u 168, u 169, u 170, u 171, u 172, u 173, u 174, u 175, u 176, u 177, u 178, u 179, u 180, u 181, u 182, u 183, u 184, u 185, u 186, u 187, u 188, u 189, u 190, u 191, u 192, u 193, u 194, u 195, u 196, u 197, u 198, u 199, u 200, u 201, u 202, u 203, u 204, u 205, u 206, u 207, u 208, u 209, u 210, u 211, u 212, u 213, u 214, u 215, u 216, u 217, u 218, u 219, u 220], defers := [] } ∧ Aside0 (w' = w0.alloc (.cells #[] 58))
attribute [local go_sem] jump_normal jump_exit jump_ret jump_panic
theorem JE_cap1 {J : (Nat → Value) → Act → World → Prop} {a' : Act} {w' : World} (h : J (fun j => a'.tmps.getD j undef) a' w') : ∃ u, J u a' w' := ⟨_, h⟩
set_option maxHeartbeats 8000000 in
set_option maxRecDepth 1000000 in
theorem pq_parseArray.empty (ad : Addr) (c cd : Nat) (Ad : Option Addr) (w : World) (hr : Kd.C (Kd.int .u8) w (some ad) 2 [123, 125]) (hc : 2 ≤ c) :
    Calls Tryz.prog 38 #[.slice (some ad) 2 c, .slice Ad 1 cd] w fun e w' => e = .returned (.tuple #[.slice none 0 0, .slice (some ⟨w.heap.size, 0, none⟩) 0 0, .nilIface]) ∧ w' = w.alloc (.cells #[] 58) := by
  have x0 : w.cell? ad = some (.int .u8 123) := by
    obtain ⟨ad', e, h⟩ := Kd.at_int hr 0 (by omega) (by omega)
    injection e with e
    subst e
    simpa [rd, Addr.add] using h
  have x1 : w.cell? (ad.add 1) = some (.int .u8 125) := by
    obtain ⟨ad', e, h⟩ := Kd.at_int hr 1 (by omega) (by omega)
    injection e with e
    subst e
    simpa [rd] using h
  have HB : Aside0 (∀ o : Obj, (w.alloc o).cell? (ad.add 1) = some (.int .u8 125)) := ⟨fun o => ((below_alloc (Below.refl _ _) o).cell (World.block_lt_of_cell? w _ x1)).trans x1⟩
  have y1 : w.cell? ⟨ad.block, ad.off + 1, none⟩ = some (.int .u8 125) := by simpa [Addr.add] using x1
  have hmk : ∀ W, (Instr.makeSlice 64 (.int .i64 0) (.int .i64 0)).run Tryz.prog W = .ok (.slice (some ⟨W.heap.size, 0, none⟩) 0 0) (W.alloc (.cells #[] 58)) := fun W => by
    have h := mkd_run (P := Tryz.prog) 64 58 (.slice none 0 0) 1 24 Tryz.underlying64 (by kernel_rfl) (by omega) 0 (by omega) W
    rw [show madeCells (Value.slice none 0 0).cells (0 * 1) = #[] by first | kernel_rfl | (apply Array.ext'; simp [madeCells])] at h
    exact h
  clear hr hc
  go_enter Tryz.func38, Tryz.ntmps38
  go_wp2_with fail
  refine wp_scope_two 0 (fun a' w' => ∃ u, JE ad c Ad cd w u a' w') (fun _ _ => 0) rfl ?_ ?_
  · rintro a' w' ⟨u, rfl, HW⟩
    have hw := HW.out
    subst hw
    have z1 : (w.alloc (.cells #[] 58)).cell? ⟨ad.block, ad.off + 1, none⟩ = some (.int .u8 125) := by simpa [Addr.add] using HB.out (.cells #[] 58)
    clear x0 x1 y1
    dsimp only []
    --{A
    go_wp2_with fail
    go_loopg [4, 5, 6, 7, 8] 4 (fun kq s4 s5 s6 s7 s8 wx => s4 = .slice none 0 0 ∧ s5 = .slice (some ⟨w.heap.size, 0, none⟩) 0 0 ∧ s6 = .nilIface ∧ ((s7 = .int .i64 1 ∧ s8 = .int .i64 1 ∧ Aside0 (kq ≥ 2)) ∨ (s7 = .int .i64 0 ∧ s8 = .int .i64 2 ∧ Aside0 (kq ≥ 1))) ∧ Aside0 (wx = w.alloc (.cells #[] 58)))
    case atStart => exact ⟨rfl, rfl, rfl, .inl ⟨rfl, rfl, ⟨by omega⟩⟩, ⟨rfl⟩⟩
    case round =>
      obtain ⟨rfl, rfl, rfl, ⟨rfl, rfl, HK⟩ | ⟨rfl, rfl, HK⟩, HX⟩ := hrel
      · have hx := HX.out
        subst hx
        clear HX
        go_wp2_with fail
        go_roundg 1
        case measure => have := HK.out; omega
        case rel => exact ⟨rfl, rfl, rfl, .inr ⟨rfl, rfl, ⟨Nat.le_refl _⟩⟩, ⟨rfl⟩⟩
      · have hx := HX.out
        subst hx
        clear HX
        go_wp2_with fail
        go_loopg [6, 14, 210] 1 (fun kq s6 s14 s210 wx => s6 = .nilIface ∧ s210 = .int .i64 0 ∧ Aside0 (wx = w.alloc (.cells #[] 58)))
        case atStart => exact ⟨rfl, rfl, ⟨rfl⟩⟩
        case round =>
          obtain ⟨rfl, rfl, HX⟩ := hrel
          have hx := HX.out
          subst hx
          clear HX
          go_wp2_with fail
          rw [jump_ret]
          go_ret3
          exact ⟨rfl, rfl⟩
    --}A
  · intro hrest
    --{B
    go_wp2_with fail
    go_step3
    go_wp2_with fail
    go_loopg [7, 8] 4 (fun kq s7 s8 wx => ((s7 = .int .i64 0 ∧ s8 = .int .i64 0 ∧ Aside0 (kq ≥ 2)) ∨ (s7 = .int .i64 1 ∧ s8 = .int .i64 1 ∧ Aside0 (kq ≥ 1))) ∧ Aside0 (wx = w))
    case atStart => exact ⟨.inl ⟨rfl, rfl, ⟨by omega⟩⟩, ⟨rfl⟩⟩
    case round =>
      obtain ⟨⟨rfl, rfl, HK⟩ | ⟨rfl, rfl, HK⟩, HX⟩ := hrel
      · have hx := HX.out
        subst hx
        clear HX
        go_wp2_with fail
        go_roundg 1
        case measure => have := HK.out; omega
        case rel => exact ⟨.inr ⟨rfl, rfl, ⟨Nat.le_refl _⟩⟩, ⟨rfl⟩⟩
      · have hx := HX.out
        subst hx
        clear HX
        go_wp2_with fail
        refine wp_goto ?_
        refine And.intro (rfl : (0 : Nat) = 0) ?_
        refine JE_cap1 ?_
        exact ⟨by first | rfl | kernel_rfl, ⟨rfl⟩⟩
    --}B
theorem pq_parseArray.all (A0 : Option Addr) (c cd : Nat) (Ad : Option Addr) (s : List Int) (d : Int) (w : World) (hp : paIs d s) (hr : Kd.C (Kd.int .u8) w A0 s.length s) (hc : s.length ≤ c) (hrd : Kd.C (Kd.int .u8) w Ad 1 [d]) (hcd : 1 ≤ cd) :
    Calls Tryz.prog 38 #[.slice A0 s.length c, .slice Ad 1 cd] w (paOut w (paF d s)) := by
  obtain ⟨hd, hd1, hdb, hL, hby, hh⟩ := hp
  by_cases hE : s = [123, 125]
  · subst hE
    obtain ⟨ad, ea, _⟩ := Kd.at_int hr 0 (by omega) (by simp)
    subst ea
    have he : paF d [123, 125] = some ([], []) := if_pos rfl
    rw [he]
    refine (pq_parseArray.empty ad c cd Ad w hr hc).mono ?_
    rintro e w' ⟨rfl, rfl⟩
    refine ⟨below_alloc (Below.refl _ _) _, fun D els h => ?_, fun h => (by cases h)⟩
    injection h with h
    injection h with h1 h2
    subst h1 h2
    exact ⟨_, _, rfl, Kd.R_nil _ _ _ _ _, el_lit0 w w _ (Nat.le_refl _)⟩
  · by_cases hz : braces s = 0
    · have he : paF d s = none := by unfold paF; rw [if_neg hE, if_pos hz]
      rw [he]
      refine (pq_parseArray.no A0 c cd Ad s w hr hz hL).mono ?_
      rintro e w' ⟨hb, h⟩
      exact ⟨hb, (fun D els h => by cases h), fun _ => h⟩
    · have he : paF d s = Arr.pm d (braces s) true (s.drop (braces s)) (braces s) (List.replicate (braces s) 0) [] := by unfold paF; rw [if_neg hE, if_neg hz]
      rw [he]
      have hsp := braces_split s
      have hne : 0 < s.length := by
        cases s with
        | nil => exact absurd rfl hz
        | cons x t => simp
      obtain ⟨ad, ea, _⟩ := Kd.at_int hr 0 (by omega) (by omega)
      subst ea
      refine (pq_parseArray.main ad c cd Ad s d (braces s) (s.drop (braces s)) w hr hc hrd hcd hsp.1 (by omega) (fun x t hx => ⟨hsp.2 x t hx, fun h125 => ?_⟩) hd hd1 hdb hby (by omega)).mono (fun _ _ h => paOut.of h)
      rcases hh with h | h | h
      · exact hE h
      · exact hz h
      · exact h (by rw [hx, h125]; rfl)

/-- What scanLinearArray tells. -/
def lnF (d : Int) (l : List Int) : Option (List (Option (List Int))) := match paF d l with
  | none => none
  | some p => if 1 < p.1.length then none else some p.2
def lnOut (w0 : World) (T : Option (List (Option (List Int)))) (e : Ending) (w' : World) : Prop :=
  Below w0.heap.size w0 w' ∧ (∀ els, T = some els → ∃ v1, e = .returned (.tuple #[v1, .nilIface]) ∧ (elKd w0).R 58 w' w0.heap.size (fun _ => True) v1 els) ∧ (T = none → ∃ v1 t x, e = .returned (.tuple #[v1, .iface t x]))
set_option maxHeartbeats 2000000 in
set_option maxRecDepth 100000 in
theorem pq_scanLinearArray.all (A0 : Option Addr) (c cd : Nat) (Ad : Option Addr) (s : List Int) (d : Int) (w : World) (ty : ByteArray) (hp : paIs d s) (hr : Kd.C (Kd.int .u8) w A0 s.length s) (hc : s.length ≤ c) (hrd : Kd.C (Kd.int .u8) w Ad 1 [d]) (hcd : 1 ≤ cd) :
    Calls Tryz.prog 30 #[.slice A0 s.length c, .slice Ad 1 cd, .string ty] w (lnOut w (lnF d s)) := by
  have hm := pq_parseArray.all A0 c cd Ad s d w hp hr hc hrd hcd
  obtain ⟨L, hLd⟩ : ∃ L, L = s.length := ⟨_, rfl⟩
  rw [← hLd] at hm ⊢
  unfold lnF
  cases hT : paF d s with
  | none =>
    rw [hT] at hm
    have HM := Aside0.mk hm
    clear hm hT hr hc hrd hcd hp hLd
    --{A
    go_enter Tryz.func30, Tryz.ntmps30
    go_wp2_with (go_at_call 38; refine HM.out.mono ?_; rintro e w' ⟨hb, _, h2⟩; obtain ⟨v1, v2, t, x, rfl⟩ := h2 rfl; have HB := Aside0.mk hb; clear hb h2)
    go_ret2
    exact ⟨HB.out, (fun els h => by cases h), fun _ => ⟨_, _, _, rfl⟩⟩
    --}A
  | some p =>
    obtain ⟨D, els⟩ := p
    rw [hT] at hm
    have HM := Aside0.mk hm
    clear hm hT hr hc hrd hcd hp hLd
    by_cases hD : 1 < D.length
    · have g1 : ((1 : Int) < (D.length : Int)) = True := eq_true (by omega)
      have g1b : decide ((1 : Int) < (D.length : Int)) = true := decide_eq_true (by omega)
      have g1c : decide (1 < D.length) = true := decide_eq_true hD
      have g1d : (1 < D.length) = True := eq_true hD
      simp only [if_pos hD]
      clear hD
      --{B
      go_enter Tryz.func30, Tryz.ntmps30
      go_wp2_with (first | (go_at_call 38; refine HM.out.mono ?_; rintro e w' ⟨hb, h1, _⟩; obtain ⟨v0, v1, rfl, hg, hv⟩ := h1 D els rfl; obtain ⟨A5, c5, rfl, hc5, hC5⟩ := Kd.R_reads hg; have HB := Aside0.mk hb; clear hb h1 hg hv hc5 hC5) | (go_at_call 20; refine (errors_New.plain _ _).mono ?_; rintro e w2 ⟨⟨t_, v_, rfl⟩, hb2⟩; have HB2 := Aside0.mk hb2; clear hb2))
      go_ret2
      exact ⟨below_step HB.out HB2.out, (fun els h => by cases h), fun _ => ⟨_, _, _, rfl⟩⟩
      --}B
    · have g1 : ((1 : Int) < (D.length : Int)) = False := eq_false (by omega)
      have g1b : decide ((1 : Int) < (D.length : Int)) = false := decide_eq_false (by omega)
      have g1c : decide (1 < D.length) = false := decide_eq_false hD
      have g1d : (1 < D.length) = False := eq_false hD
      simp only [if_neg hD]
      clear hD
      --{C
      go_enter Tryz.func30, Tryz.ntmps30
      go_wp2_with (first | (go_at_call 38; refine HM.out.mono ?_; rintro e w' ⟨hb, h1, _⟩; obtain ⟨v0, v1, rfl, hg, hv⟩ := h1 D els rfl; obtain ⟨A5, c5, rfl, hc5, hC5⟩ := Kd.R_reads hg; have HB := Aside0.mk hb; have HV := Aside0.mk hv; clear hb h1 hg hv hc5 hC5))
      go_ret2
      exact ⟨HB.out, fun els' h => (by injection h with h; subst h; exact ⟨v1, rfl, HV.out⟩), fun h => (by cases h)⟩
      --}C

end Go.Proofs.YtcdcoogjhkchlaaGreatDoor.P
