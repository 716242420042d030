-- Written by the program wip/myprint.py of this session, over the kit's print of the translation. Lean checks it.
import Derived.Lib.SliceRun
import Derived.Test.YthcikkjjegfblaaLibArr
import Derived.ScopeJumps
import Derived.WalkMore
import Derived.Test.YthcikkjjegfblaaPx0
import Derived.Test.YthcikkjjegfblaaPx6
namespace Go.Proofs.Ythcikkjjegfblaa.P
open Go.RowKit Go.Proofs.YthcikkjjegfblaaW.PrintWords Go.Proofs.YthcikkjjegfblaaW.PrintLast Go.Proofs.YthcikkjjegfblaaW.PrintMore
attribute [local go_sem] max2_int min2_int max_two min_two max_three min_three max_four min_four   -- for this text's walks alone
set_option linter.unusedVariables false
set_option linter.unusedSimpArgs false

/-! ### pq_ParseArray: function 24 -/
/-- How many brackets a text begins with. -/
def braces : List Int → Nat
  | [] => 0
  | c :: t => if c = 123 then braces t + 1 else 0
theorem braces_split : ∀ l : List Int, l = List.replicate (braces l) 123 ++ l.drop (braces l) ∧ ∀ x t, l.drop (braces l) = x :: t → x ≠ 123
  | [] => ⟨rfl, fun x t h => by simp [braces] at h⟩
  | c :: t => by
    obtain ⟨h1, h2⟩ := braces_split t
    by_cases h : c = 123
    · have hb : braces (c :: t) = braces t + 1 := by rw [braces, if_pos h]
      rw [hb]
      refine ⟨?_, fun x u he => h2 x u he⟩
      rw [List.replicate_succ, List.cons_append, List.drop_succ_cons, ← h1, h]
    · have hb : braces (c :: t) = 0 := by rw [braces, if_neg h]
      rw [hb]
      refine ⟨rfl, fun x u he => ?_⟩
      injection he with he
      rw [← he]; exact h
/-- What parseArray tells. -/
def paF (d : Int) (l : List Int) : Option (List Int × List (Option (List Int))) :=
  if l = [123, 125] then some ([], []) else if braces l = 0 then none else Arr.pm d (braces l) true (l.drop (braces l)) (braces l) (List.replicate (braces l) 0) []
/-- Where it is told. -/
def paIs (d : Int) (l : List Int) : Prop := d ≠ 125 ∧ d ≠ 123 ∧ (0 ≤ d ∧ d < 256) ∧ l.length ≤ 1000000 ∧ (∀ x ∈ l, 0 ≤ x ∧ x < 256) ∧ (l = [123, 125] ∨ braces l = 0 ∨ (l.drop (braces l)).head? ≠ some 125)
def paOut (w0 : World) (T : Option (List Int × List (Option (List Int)))) (e : Ending) (w' : World) : Prop :=
  Below w0.heap.size w0 w' ∧ (∀ D els, T = some (D, els) → ∃ v0 v1, e = .returned (.tuple #[v0, v1, .nilIface]) ∧ Kd.R (Kd.int .i64) 3 w' w0.heap.size (fun _ => True) v0 D ∧ (elKd w0).R 61 w' w0.heap.size (fun _ => True) v1 els) ∧
    (T = none → ∃ v1 v2 t x, e = .returned (.tuple #[v1, v2, .iface t x]))
theorem dims_own {w : World} {g base : Nat} {D : List Int} (hg : w.heap[g]? = some (.cells (dcells D) 3 (0, 0))) (hb : base ≤ g) (hl : D.length ≤ 1000000000) : Kd.R (Kd.int .i64) 3 w base (fun _ => True) (.slice (some ⟨g, 0, none⟩) D.length D.length) D := by
  refine Kd.R_of_own (enc := Value.int .i64) (h1 := fun _ => rfl) ⟨by simp [encs], .inr ⟨g, D.length, dcells D, rfl, hb, hg, Nat.le_refl _, by simp only [maxLen]; omega, by simp [dcells], ?_⟩⟩ (fun _ _ => trivial)
  have : (D.map (Value.int IntKind.i64)).length = D.length := List.length_map ..
  simp only [dcells, Nat.mul_one, encs]
  rw [← this, List.take_length]
theorem paOut.of {w0 w' : World} {T : Option (List Int × List (Option (List Int)))} {e : Ending} (h : arrRes w0 T e w') : paOut w0 T e w' :=
  ⟨h.1, fun D els hT => by
    obtain ⟨g, v, h0, h00, he, hg, hv⟩ := h.2.1 D els hT
    exact ⟨_, v, he, dims_own hg h0 h00, hv⟩, h.2.2⟩
theorem el_lit0 (w0 W : World) (base : Nat) (hb : base ≤ W.heap.size) : (elKd w0).R 61 (W.alloc (.cells #[] 61)) base (fun _ => True) (.slice (some ⟨W.heap.size, 0, none⟩) 0 0) [] := by
  refine ⟨fun _ _ => trivial, [], ?_, ?_⟩
  · exact World.ownsRow_lit (base := base) (e := 61) (size := 1) W #[] 0 hb (by decide) (by simp)
  · exact ⟨rfl, fun j p hj => by simp at hj⟩
set_option maxHeartbeats 2000000 in
set_option maxRecDepth 100000 in
theorem pq_parseArray.no (A0 : Option Addr) (c cd : Nat) (Ad : Option Addr) (s : List Int) (w : World) (hr : Kd.C (Kd.int .u8) w A0 s.length s) (h : braces s = 0) (hL : s.length ≤ 1000000) :
    Calls Try.prog 31 #[.slice A0 s.length c, .slice Ad 1 cd] w fun e w' => Below w.heap.size w w' ∧ ∃ v1 v2 t x, e = .returned (.tuple #[v1, v2, .iface t x]) := by
  cases s with
  | nil =>
    clear hr h hL
    simp only [List.length_nil]
    go_enter Try.func31, Try.ntmps31
    go_wp2_with fail
    go_step3
    go_wp2_with (go_at_call 35; refine (errors_New.plain _ _).mono ?_; rintro e w' ⟨⟨t_, v_, rfl⟩, hb⟩; have HBE := Aside0.mk hb; clear hb)
    rw [Exit.noGoto_ret]
    go_ret3
    exact ⟨HBE.out, _, _, _, _, rfl⟩
  | cons x t =>
    have hx : x ≠ 123 := by
      intro e
      rw [braces, if_pos e] at h
      cases h
    obtain ⟨ad, ea, hc⟩ := Kd.at_int hr 0 (by omega) (by simp)
    subst ea
    have x0 : w.cell? ad = some (.int .u8 x) := by simpa [rd, Addr.add] using hc
    have b1 : (x == 123) = false := beq_eq_false_iff_ne.mpr hx
    have b1n : (x != 123) = true := bne_iff_ne.mpr hx
    obtain ⟨L, hLd⟩ : ∃ L, L = (x :: t).length := ⟨_, rfl⟩
    have hl1 : 1 ≤ L := by rw [hLd]; simp
    rw [← hLd] at hL ⊢
    have g1 : ((L : Int) < 1) = False := eq_false (by omega)
    have g1b : decide ((L : Int) < 1) = false := decide_eq_false (by omega)
    have g1c : (L < 1) = False := eq_false (by omega)
    have g2 : ((0 : Int) < (L : Int)) = True := eq_true (by omega)
    have g3 : (0 < L) = True := eq_true (by omega)
    have g4 : (L = 0) = False := eq_false (by omega)
    clear hr h hx hLd hl1 hc
    go_enter Try.func31, Try.ntmps31
    go_wp2_with fail
    go_step3
    go_wp2_with (go_at_call 35; refine (errors_New.plain _ _).mono ?_; rintro e w' ⟨⟨t_, v_, rfl⟩, hb⟩; have HBE := Aside0.mk hb; clear hb)
    rw [Exit.noGoto_ret]
    go_ret3
    exact ⟨HBE.out, _, _, _, _, rfl⟩
def JE (ad : Addr) (c : Nat) (Ad : Option Addr) (cd : Nat) (w0 : World) (u : Nat → Value) (a' : Act) (w' : World) : Prop :=
  a' = { tmps := #[.slice (some ad) 2 c, .slice Ad 1 cd, undef, undef, .slice none 0 0, .slice (some ⟨w0.heap.size, 0, none⟩) 0 0, .nilIface, .int .i64 1, .int .i64 1, u 9, u 10, u 11, u 12, u 13, u 14, u 15, u 16, u 17, u 18, u 19, u 20, u 21, u 22, u 23, u 24, u 25, u 26, u 27, u 28, u 29, u 30, u 31, u 32, u 33, u 34, u 35, u 36, u 37, u 38, u 39, u 40, u 41, u 42, u 43, u 44, u 45, u 46, u 47, u 48, u 49, u 50, u 51, u 52, u 53, u 54, u 55, u 56, u 57, u 58, u 59, u 60, u 61, u 62, u 63, u 64, u 65, u 66, u 67, u 68, u 69, u 70, u 71, u 72, u 73, u 74, u 75, u 76, u 77, u 78, u 79, u 80, u 81, u 82, u 83, u 84, u 85, u 86, u 87, u 88, u 89, u 90, u 91, u 92, u 93, u 94, u 95, u 96, u 97, u 98, u 99, u 100, u 101, u 102, u 103, u 104, u 105, u 106, u 107, u 108, u 109, u 110, u 111, u 112, u 113, u 114, u 115, u 116, u 117, u 118, u 119, u 120, u 121, u 122, u 123, u 124, u 125, u 126, u 127, u 128, u 129, u 130, u 131, u 132, u 133, u 134, u 135, u 136, u 137, u 138, u 139, u 140, u 141, u 142, u 143, u 144, u 145, u 146, u 147, u 148, u 149, u 150, u 151, u 152, u 153, u 154, u 155, u 156, u 157, u 158, u 159, u 160, u 161, u 162, u 163, u 164, u 165, u 166, u 167, u 168, u 169, u 170, u 171, u 172, u 173, u 174, u 175, u 176, u 177, u 178, u 179, u 180, u 181, u 182, u 183, u 184, u 185, u 186, u 187, u 188, u 189, u 190, u 191, u 192, u 193, u 194, u 195, u 196, u 197, u 198, u 199, u 200, u 201, u 202, u 203, u 204, u 205, u 206, u 207, u 208, u 209, u 210, u 211, u 212, u 213, u 214, u 215, u 216, u 217, u 218, u 219, u 220], defers := [] } ∧ Aside0 (w' = w0.alloc (.cells #[] 61))
attribute [local go_sem] jump_normal jump_exit jump_ret jump_panic
theorem JE_cap1 {J : (Nat → Value) → Act → World → Prop} {a' : Act} {w' : World} (h : J (fun j => a'.tmps.getD j undef) a' w') : ∃ u, J u a' w' := ⟨_, h⟩
set_option maxHeartbeats 8000000 in
set_option maxRecDepth 1000000 in
theorem pq_parseArray.empty (ad : Addr) (c cd : Nat) (Ad : Option Addr) (w : World) (hr : Kd.C (Kd.int .u8) w (some ad) 2 [123, 125]) (hc : 2 ≤ c) :
    Calls Try.prog 31 #[.slice (some ad) 2 c, .slice Ad 1 cd] w fun e w' => e = .returned (.tuple #[.slice none 0 0, .slice (some ⟨w.heap.size, 0, none⟩) 0 0, .nilIface]) ∧ w' = w.alloc (.cells #[] 61) := by
  have x0 : w.cell? ad = some (.int .u8 123) := by
    obtain ⟨ad', e, h⟩ := Kd.at_int hr 0 (by omega) (by omega)
    injection e with e
    subst e
    simpa [rd, Addr.add] using h
  have x1 : w.cell? (ad.add 1) = some (.int .u8 125) := by
    obtain ⟨ad', e, h⟩ := Kd.at_int hr 1 (by omega) (by omega)
    injection e with e
    subst e
    simpa [rd] using h
  have HB : Aside0 (∀ o : Obj, (w.alloc o).cell? (ad.add 1) = some (.int .u8 125)) := ⟨fun o => ((below_alloc (Below.refl _ _) o).cell (World.block_lt_of_cell? w _ x1)).trans x1⟩
  have y1 : w.cell? ⟨ad.block, ad.off + 1, none⟩ = some (.int .u8 125) := by simpa [Addr.add] using x1
  have hmk : ∀ W, (Instr.makeSlice 56 (.int .i64 0) (.int .i64 0)).run Try.prog W = .ok (.slice (some ⟨W.heap.size, 0, none⟩) 0 0) (W.alloc (.cells #[] 61)) := fun W => by
    have h := mkd_run (P := Try.prog) 56 61 (.slice none 0 0) 1 24 Try.underlying56 (by kernel_rfl) (by omega) 0 (by omega) W
    rw [show madeCells (Value.slice none 0 0).cells (0 * 1) = #[] by first | kernel_rfl | (apply Array.ext'; simp [madeCells])] at h
    exact h
  clear hr hc
  go_enter Try.func31, Try.ntmps31
  go_wp2_with fail
  refine wp_scope_two 0 (fun a' w' => ∃ u, JE ad c Ad cd w u a' w') (fun _ _ => 0) rfl ?_ ?_
  · rintro a' w' ⟨u, rfl, HW⟩
    have hw := HW.out
    subst hw
    have z1 : (w.alloc (.cells #[] 61)).cell? ⟨ad.block, ad.off + 1, none⟩ = some (.int .u8 125) := by simpa [Addr.add] using HB.out (.cells #[] 61)
    clear x0 x1 y1
    dsimp only []
    --{A
    go_wp2_with fail
    go_loopg [4, 5, 6, 7, 8] 4 (fun kq s4 s5 s6 s7 s8 wx => s4 = .slice none 0 0 ∧ s5 = .slice (some ⟨w.heap.size, 0, none⟩) 0 0 ∧ s6 = .nilIface ∧ ((s7 = .int .i64 1 ∧ s8 = .int .i64 1 ∧ Aside0 (kq ≥ 2)) ∨ (s7 = .int .i64 0 ∧ s8 = .int .i64 2 ∧ Aside0 (kq ≥ 1))) ∧ Aside0 (wx = w.alloc (.cells #[] 61)))
    case atStart => exact ⟨rfl, rfl, rfl, .inl ⟨rfl, rfl, ⟨by omega⟩⟩, ⟨rfl⟩⟩
    case round =>
      obtain ⟨rfl, rfl, rfl, ⟨rfl, rfl, HK⟩ | ⟨rfl, rfl, HK⟩, HX⟩ := hrel
      · have hx := HX.out
        subst hx
        clear HX
        go_wp2_with fail
        go_roundg 1
        case measure => have := HK.out; omega
        case rel => exact ⟨rfl, rfl, rfl, .inr ⟨rfl, rfl, ⟨Nat.le_refl _⟩⟩, ⟨rfl⟩⟩
      · have hx := HX.out
        subst hx
        clear HX
        go_wp2_with fail
        go_loopg [6, 14, 210] 1 (fun kq s6 s14 s210 wx => s6 = .nilIface ∧ s210 = .int .i64 0 ∧ Aside0 (wx = w.alloc (.cells #[] 61)))
        case atStart => exact ⟨rfl, rfl, ⟨rfl⟩⟩
        case round =>
          obtain ⟨rfl, rfl, HX⟩ := hrel
          have hx := HX.out
          subst hx
          clear HX
          go_wp2_with fail
          rw [jump_ret]
          go_ret3
          exact ⟨rfl, rfl⟩
    --}A
  · intro hrest
    --{B
    go_wp2_with fail
    go_step3
    go_wp2_with fail
    go_loopg [7, 8] 4 (fun kq s7 s8 wx => ((s7 = .int .i64 0 ∧ s8 = .int .i64 0 ∧ Aside0 (kq ≥ 2)) ∨ (s7 = .int .i64 1 ∧ s8 = .int .i64 1 ∧ Aside0 (kq ≥ 1))) ∧ Aside0 (wx = w))
    case atStart => exact ⟨.inl ⟨rfl, rfl, ⟨by omega⟩⟩, ⟨rfl⟩⟩
    case round =>
      obtain ⟨⟨rfl, rfl, HK⟩ | ⟨rfl, rfl, HK⟩, HX⟩ := hrel
      · have hx := HX.out
        subst hx
        clear HX
        go_wp2_with fail
        go_roundg 1
        case measure => have := HK.out; omega
        case rel => exact ⟨.inr ⟨rfl, rfl, ⟨Nat.le_refl _⟩⟩, ⟨rfl⟩⟩
      · have hx := HX.out
        subst hx
        clear HX
        go_wp2_with fail
        refine wp_goto ?_
        refine And.intro (rfl : (0 : Nat) = 0) ?_
        refine JE_cap1 ?_
        exact ⟨by first | rfl | kernel_rfl, ⟨rfl⟩⟩
    --}B
theorem pq_parseArray.all (A0 : Option Addr) (c cd : Nat) (Ad : Option Addr) (s : List Int) (d : Int) (w : World) (hp : paIs d s) (hr : Kd.C (Kd.int .u8) w A0 s.length s) (hc : s.length ≤ c) (hrd : Kd.C (Kd.int .u8) w Ad 1 [d]) (hcd : 1 ≤ cd) :
    Calls Try.prog 31 #[.slice A0 s.length c, .slice Ad 1 cd] w (paOut w (paF d s)) := by
  obtain ⟨hd, hd1, hdb, hL, hby, hh⟩ := hp
  by_cases hE : s = [123, 125]
  · subst hE
    obtain ⟨ad, ea, _⟩ := Kd.at_int hr 0 (by omega) (by simp)
    subst ea
    have he : paF d [123, 125] = some ([], []) := if_pos rfl
    rw [he]
    refine (pq_parseArray.empty ad c cd Ad w hr hc).mono ?_
    rintro e w' ⟨rfl, rfl⟩
    refine ⟨below_alloc (Below.refl _ _) _, fun D els h => ?_, fun h => (by cases h)⟩
    injection h with h
    injection h with h1 h2
    subst h1 h2
    exact ⟨_, _, rfl, Kd.R_nil _ _ _ _ _, el_lit0 w w _ (Nat.le_refl _)⟩
  · by_cases hz : braces s = 0
    · have he : paF d s = none := by unfold paF; rw [if_neg hE, if_pos hz]
      rw [he]
      refine (pq_parseArray.no A0 c cd Ad s w hr hz hL).mono ?_
      rintro e w' ⟨hb, h⟩
      exact ⟨hb, (fun D els h => by cases h), fun _ => h⟩
    · have he : paF d s = Arr.pm d (braces s) true (s.drop (braces s)) (braces s) (List.replicate (braces s) 0) [] := by unfold paF; rw [if_neg hE, if_neg hz]
      rw [he]
      have hsp := braces_split s
      have hne : 0 < s.length := by
        cases s with
        | nil => exact absurd rfl hz
        | cons x t => simp
      obtain ⟨ad, ea, _⟩ := Kd.at_int hr 0 (by omega) (by omega)
      subst ea
      refine (pq_parseArray.main ad c cd Ad s d (braces s) (s.drop (braces s)) w hr hc hrd hcd hsp.1 (by omega) (fun x t hx => ⟨hsp.2 x t hx, fun h125 => ?_⟩) hd hd1 hdb hby (by omega)).mono (fun _ _ h => paOut.of h)
      rcases hh with h | h | h
      · exact hE h
      · exact hz h
      · exact h (by rw [hx, h125]; rfl)
set_option maxHeartbeats 2000000 in
set_option maxRecDepth 100000 in
theorem pq_ParseArray.all (A0 : Option Addr) (c cd : Nat) (Ad : Option Addr) (s : List Int) (d : Int) (w : World) (hp : paIs d s) (hr : Kd.C (Kd.int .u8) w A0 s.length s) (hc : s.length ≤ c) (hrd : Kd.C (Kd.int .u8) w Ad 1 [d]) (hcd : 1 ≤ cd) :
    Calls Try.prog 24 #[.slice A0 s.length c, .slice Ad 1 cd] w (paOut w (paF d s)) := by
  have hm := pq_parseArray.all A0 c cd Ad s d w hp hr hc hrd hcd
  obtain ⟨L, hLd⟩ : ∃ L, L = s.length := ⟨_, rfl⟩
  rw [← hLd] at hm ⊢
  cases hT : paF d s with
  | none =>
    rw [hT] at hm
    have HM := Aside0.mk hm
    clear hm hT hr hc hrd hcd hp hLd
    go_enter Try.func24, Try.ntmps24
    go_wp2_with (go_at_call 31; refine HM.out.mono ?_; rintro e w' ⟨hb, _, h2⟩; obtain ⟨v1, v2, t, x, rfl⟩ := h2 rfl; have HB := Aside0.mk hb; clear hb h2)
    go_ret3
    exact ⟨HB.out, fun D els h => (by cases h), fun _ => ⟨_, _, _, _, rfl⟩⟩
  | some p =>
    obtain ⟨D, els⟩ := p
    rw [hT] at hm
    have HM := Aside0.mk hm
    clear hm hT hr hc hrd hcd hp hLd
    go_enter Try.func24, Try.ntmps24
    go_wp2_with (go_at_call 31; refine HM.out.mono ?_; rintro e w' ⟨hb, h1, _⟩; obtain ⟨v0, v1, rfl, hg, hv⟩ := h1 D els rfl; have HB := Aside0.mk hb; have HG := Aside0.mk hg; have HV := Aside0.mk hv; clear hb h1 hg hv)
    go_ret3
    exact ⟨HB.out, fun D' els' h => (by injection h with h; injection h with h1 h2; subst h1; subst h2; exact ⟨v0, v1, rfl, HG.out, HV.out⟩), fun h => (by cases h)⟩

/-! ### impl_items: function 25 -/
/-- An item as impl has it. -/
def itS (x : Option (List Int)) : S39 :=
  match x with
  | none => ⟨true, ByteArray.empty, 0, 0, false⟩
  | some l => ⟨false, strOfNums l, 0, 0, false⟩
theorem it_info : ((Try.prog).info? 39).map (fun i => (i.zero, i.size, i.bytes)) = some (some (.agg #[.bool false, .string ⟨#[]⟩, .int .i64 0, .float .f64 0, .bool false]), 5, 48) := by kernel_rfl
theorem el_read {w0 w : World} {x : Option (List Int)} {cs : List Value} (hb : Below w0.heap.size w0 w) (h : (elKd w0).K w x cs) : ∃ A n c, cs = [.slice A n c] ∧ n ≤ c ∧ ((x = none ∧ A = none ∧ n = 0) ∨ ∃ ad l, x = some l ∧ A = some ad ∧ n = l.length ∧ (Kd.int .u8).C w (some ad) l.length l) := by
  obtain ⟨A, n, c, h1, h2, h3⟩ := h
  refine ⟨A, n, c, h1, h2, ?_⟩
  cases x with
  | none => exact .inl ⟨rfl, h3.1, h3.2⟩
  | some l =>
    obtain ⟨h4, h5, h6⟩ := h3
    cases A with
    | none => exact absurd rfl h4
    | some ad => exact .inr ⟨ad, l, rfl, rfl, h5, h6.elim (fun h => Kd.C_below h hb) id⟩
set_option maxHeartbeats 2000000 in
set_option maxRecDepth 100000 in
theorem impl_items.main (A0 : Option Addr) (c0 : Nat) (els : List (Option (List Int))) (w0 w : World) (hb : Below w0.heap.size w0 w) (hr : (elKd w0).C w A0 els.length els) (hc0 : els.length ≤ c0) (hL : els.length ≤ 1000000000) :
    Calls Try.prog 25 #[.slice A0 els.length c0] w fun e w' => ∃ v, e = .returned v ∧ Kd.R k39 39 w' w.heap.size (fun _ => True) v (els.map itS) ∧ Below w.heap.size w w' := by
  obtain ⟨L, hLd⟩ : ∃ L, L = els.length := ⟨_, rfl⟩
  rw [← hLd] at hr hc0 hL ⊢
  have HLD := Aside0.mk hLd
  have HR := Aside0.mk hr
  have HL := Aside0.mk hL
  have HBW := Aside0.mk hb
  clear hLd hr hc0 hL hb
  go_enter Try.func25, Try.ntmps25
  go_wp2_with fail
  go_loopg [3, 5, 8] (L + 1) (fun kq s3 s5 s8 wx => ∃ i : Nat, s8 = .int .i64 (i : Int) ∧ Aside0 (kq + i ≥ L + 1) ∧ Aside0 (i ≤ L) ∧ Aside0 (Kd.R k39 39 wx w.heap.size (fun _ => True) s3 ((els.take i).map itS)) ∧ Aside0 (Below w.heap.size w wx))
  case atStart => exact ⟨0, rfl, ⟨by omega⟩, ⟨Nat.zero_le _⟩, ⟨Kd.R_nil _ _ _ _ _⟩, ⟨Below.refl _ _⟩⟩
  case round =>
    obtain ⟨i, rfl, HK, HI, HO, HB⟩ := hrel
    by_cases ci : i < L
    · have c1 : ((i : Int) < (L : Int)) = True := eq_true (by omega)
      have c1b : decide ((i : Int) < (L : Int)) = true := decide_eq_true (by omega)
      have c1c : (i < L) = True := eq_true ci
      have c2 : decide (0 ≤ (i : Int)) = true := decide_eq_true (by omega)
      have hi1 : wrap64 ((i : Int) + 1) = ((i + 1 : Nat) : Int) := by have := HL.out; unfold wrap64; omega
      obtain ⟨ad, cs, rfl, hcl, hK, hcell⟩ := ReadsRow.get_ (Kd.C_below HR.out HB.out) none (i : Int) (by omega) (by omega)
      rw [Int.toNat_natCast] at hK hcell
      have htk : els.take (i + 1) = els.take i ++ [els.getD i none] := by
        have hl : i < els.length := by rw [← HLD.out]; exact ci
        rw [List.take_add_one, List.getD_eq_getElem?_getD]
        simp [hl]
      obtain ⟨x, hx⟩ : ∃ x, x = els.getD i none := ⟨_, rfl⟩
      rw [← hx] at hK htk
      obtain ⟨A, n, c, rfl, hnc, hcase⟩ := el_read (below_step HBW.out HB.out) hK
      have xc : wr.cell? (ad.add i) = some (.slice A n c) := by
        have := hcell 0 _ rfl
        simpa [elKd] using this
      have hnil := fun (W : World) (a : Option Addr) (m k : Nat) => Lib.run_eql_slice_nil (P := Try.prog) W 61 5 a m k 0 0 Try.underlying61
      have HTK := Aside0.mk htk
      have HCI := Aside0.mk ci
      rcases hcase with ⟨rfl, rfl, rfl⟩ | ⟨ae, l, rfl, rfl, rfl, hC⟩
      · have hcv := fun (c_ : Nat) => Kd.C_string (P := Try.prog) (c := c_) (xs := []) Try.underlying61 Try.underlying5 Try.underlying9 (w := wr) (A := none) (n := 0) ⟨rfl, by omega, fun h => by omega⟩
        clear hcl hK hcell htk hx hnc ci
        --{A
        go_wp2_with (first | ((with_reducible refine gate_builtin (b := .append) (xs := #[.tmp 12, .tmp 18]) rfl ?_); at_builtin; refine Kd.R_append k39 (w0 := w) w.heap.size rfl (.tmp 12) (.tmp 18) 24 39 (.agg #[.bool false, .string ⟨#[]⟩, .int .i64 0, .float .f64 0, .bool false]) 48 rfl Try.underlying24 it_info rfl (by decide) (by omega) u3 ((els.take i).map itS) (⟨true, ByteArray.empty, 0, 0, false⟩ : S39) [.bool true, .string ByteArray.empty, .int .i64 0, .float .f64 0, .bool false] (fun _ => True) (fun _ => False) rfl (by first | (go_simp; done) | (go_simp; rfl)) ?aP (fun _ hk => hk.elim) ?aF ?aO ?aB ?aS ?aL ?_; (case aP => exact k39_mkM _ _ _ (⟨true, ByteArray.empty, 0, 0, false⟩ : S39)); (case aB => exact HB.out); (case aF => exact (fun _ _ => trivial)); (case aO => exact HO.out); (case aS => exact HB.out.size); (case aL => have := HL.out; have := HI.out; simp only [List.length_map, List.length_take]; omega); intro v1 w8 ho hb hg hat))
        go_roundg (L - i)
        case measure => have := HK.out; have := HCI.out; omega
        case rel => exact ⟨i + 1, by first | rfl | go_num, ⟨by have := HCI.out; omega⟩, ⟨HCI.out⟩, ⟨by rw [HTK.out, List.map_append]; exact ho⟩, ⟨hb⟩⟩
        --}A
      · have hcv := fun (c_ : Nat) => Kd.C_string (P := Try.prog) (c := c_) Try.underlying61 Try.underlying5 Try.underlying9 hC
        clear hcl hK hcell htk hx hnc ci hC
        --{B
        go_wp2_with (first | ((with_reducible refine gate_builtin (b := .append) (xs := #[.tmp 12, .tmp 18]) rfl ?_); at_builtin; refine Kd.R_append k39 (w0 := w) w.heap.size rfl (.tmp 12) (.tmp 18) 24 39 (.agg #[.bool false, .string ⟨#[]⟩, .int .i64 0, .float .f64 0, .bool false]) 48 rfl Try.underlying24 it_info rfl (by decide) (by omega) u3 ((els.take i).map itS) (⟨false, strOfNums l, 0, 0, false⟩ : S39) [.bool false, .string (strOfNums l), .int .i64 0, .float .f64 0, .bool false] (fun _ => True) (fun _ => False) rfl (by first | (go_simp; done) | (go_simp; rfl)) ?aP (fun _ hk => hk.elim) ?aF ?aO ?aB ?aS ?aL ?_; (case aP => exact k39_mkM _ _ _ (⟨false, strOfNums l, 0, 0, false⟩ : S39)); (case aB => exact HB.out); (case aF => exact (fun _ _ => trivial)); (case aO => exact HO.out); (case aS => exact HB.out.size); (case aL => have := HL.out; have := HI.out; simp only [List.length_map, List.length_take]; omega); intro v1 w8 ho hb hg hat))
        go_roundg (L - i)
        case measure => have := HK.out; have := HCI.out; omega
        case rel => exact ⟨i + 1, by first | rfl | go_num, ⟨by have := HCI.out; omega⟩, ⟨HCI.out⟩, ⟨by rw [HTK.out, List.map_append]; exact ho⟩, ⟨hb⟩⟩
        --}B
    · have hie : i = L := by have := HI.out; omega
      subst hie
      have hall : els.take i = els := by rw [HLD.out, List.take_length]
      have HA := Aside0.mk hall
      clear hall ci
      go_wp2_with fail
      go_ret
      exact ⟨_, rfl, by have := HO.out; rw [HA.out] at this; exact this, HB.out⟩

/-! ### impl_Parsed: function 9 -/
theorem pm_len (d : Int) (n : Nat) : ∀ (N : Nat) (m : Bool) (r : List Int) (k : Nat) (D : List Int) (els : List (Option (List Int))) (D' : List Int) (els' : List (Option (List Int))), r.length ≤ N → Arr.pm d n m r k D els = some (D', els') → els'.length ≤ els.length + r.length := by
  intro N
  induction N with
  | zero =>
    intro m r k D els D' els' hN h
    cases r with
    | cons c t => simp at hN
    | nil =>
      cases m with
      | true => rw [Arr.pm] at h; cases h
      | false =>
        rw [Arr.pm] at h
        split at h
        · split at h
          · injection h with h; injection h with _ h; subst h; omega
          · cases h
        · cases h
  | succ N ih =>
    intro m r k D els D' els' hN h
    cases r with
    | nil =>
      cases m with
      | true => rw [Arr.pm] at h; cases h
      | false =>
        rw [Arr.pm] at h
        split at h
        · split at h
          · injection h with h; injection h with _ h; subst h; omega
          · cases h
        · cases h
    | cons c t =>
      simp only [List.length_cons] at hN ⊢
      cases m with
      | false =>
        rw [Arr.pm] at h
        split at h
        · have := ih _ _ _ _ _ _ _ (by omega) h; omega
        · split at h
          · have := ih _ _ _ _ _ _ _ (by omega) h; omega
          · cases h
      | true =>
        by_cases h1 : c = 123
        · rw [Arr.pm, if_pos h1] at h
          split at h
          · cases h
          · have := ih _ _ _ _ _ _ _ (by omega) h; omega
        by_cases h2 : c = 34
        · subst h2
          cases hq : Arr.scanQ t false [] with
          | none => rw [Arr.pm_quote_none hq] at h; cases h
          | some p =>
            rw [Arr.pm_quote hq] at h
            have hl := Arr.scanQ_le t false [] p.1 p.2 hq
            have := ih _ _ _ _ _ _ _ (by omega) h
            rw [List.length_append] at this
            simp only [List.length_cons, List.length_nil] at this
            omega
        by_cases h3 : (Arr.scanEl d (c :: t)).2 = [] ∨ (Arr.scanEl d (c :: t)).1 = []
        · rw [Arr.pm_word_none h1 h2 h3] at h; cases h
        · rw [Arr.pm_word h1 h2 (fun e => h3 (.inl e)) (fun e => h3 (.inr e))] at h
          have ha := congrArg List.length (Arr.scanEl_app d (c :: t))
          rw [List.length_append] at ha
          have hp : 0 < (Arr.scanEl d (c :: t)).1.length := List.length_pos_iff.mpr (fun e => h3 (.inr e))
          simp only [List.length_cons] at ha
          have := ih _ _ _ _ _ _ _ (by omega) h
          rw [List.length_append] at this
          simp only [List.length_cons, List.length_nil] at this
          omega
instance (d : Int) (l : List Int) : Decidable (paIs d l) := by unfold paIs; infer_instance
theorem paF_len (d : Int) (l : List Int) (hp : paIs d l) : ∀ D els, paF d l = some (D, els) → els.length ≤ 1000000 := by
  intro D els h
  have hl := hp.2.2.2.1
  unfold paF at h
  split at h
  · injection h with h; injection h with _ h; subst h; simp
  · split at h
    · cases h
    · have := pm_len d _ _ true _ _ _ [] D els (Nat.le_refl _) h
      rw [List.length_drop] at this
      simp only [List.length_nil] at this
      omega
def parsedIt (T : Option (List Int × List (Option (List Int)))) : List Int × List (S39) × Bool :=
  match T with
  | none => ([], [], false)
  | some (D, els) => (D, els.map itS, true)
def impl_Parsed.f (a0 : ByteArray) (a1 : ByteArray) : Option (List Int × (List (S39)) × Bool) :=
  match bytesOf a1 with
  | [d] => if paIs d (bytesOf a0) then some (parsedIt (paF d (bytesOf a0))) else none
  | _ => none
/-- What Parsed tells. -/
def paRes (w0 : World) (T : Option (List Int × List (Option (List Int)))) (e : Ending) (w' : World) : Prop :=
  ∃ v0 v1, e = .returned (.tuple #[v0, v1, .bool (parsedIt T).2.2]) ∧ Kd.R (Kd.int .i64) 3 w' w0.heap.size (fun _ => True) v0 (parsedIt T).1 ∧ Kd.R k39 39 w' w0.heap.size (fun _ => True) v1 (parsedIt T).2.1 ∧ Below w0.heap.size w0 w'
theorem impl_Parsed.worlds (text dl : ByteArray) (d : Int) (w : World) (hd : bytesOf dl = [d]) (hL : text.size ≤ 1000000) : Below w.heap.size w (Lib.bytesWorld (Lib.bytesWorld w 5 text) 5 dl) ∧ (Kd.int .u8).C (Lib.bytesWorld (Lib.bytesWorld w 5 text) 5 dl) (some ⟨w.heap.size, 0, none⟩) (bytesOf text).length (bytesOf text) ∧ (Kd.int .u8).C (Lib.bytesWorld (Lib.bytesWorld w 5 text) 5 dl) (some ⟨(Lib.bytesWorld w 5 text).heap.size, 0, none⟩) 1 [d] := by
  have hr1 : (Kd.int .u8).C (Lib.bytesWorld w 5 text) (some ⟨w.heap.size, 0, none⟩) text.size (bytesOf text) := Kd.C_of_reads (d := (0 : Int)) (h1 := fun _ => rfl) (bytes_reads w 5 text (by omega))
  have hb12 := bytes_below (Below.refl (Lib.bytesWorld w 5 text).heap.size (Lib.bytesWorld w 5 text)) (Nat.le_refl _) 5 dl
  have hb01 := bytes_below (Below.refl w.heap.size w) (Nat.le_refl _) 5 text
  have hs1 : dl.size = 1 := by rw [← bytesOf_length, hd]; rfl
  have hr2 : (Kd.int .u8).C (Lib.bytesWorld (Lib.bytesWorld w 5 text) 5 dl) (some ⟨(Lib.bytesWorld w 5 text).heap.size, 0, none⟩) dl.size (bytesOf dl) := Kd.C_of_reads (d := (0 : Int)) (h1 := fun _ => rfl) (bytes_reads (Lib.bytesWorld w 5 text) 5 dl (by omega))
  rw [hd, hs1] at hr2
  exact ⟨below_step hb01 hb12, by rw [bytesOf_length]; exact Kd.C_below hr1 hb12, hr2⟩
set_option maxHeartbeats 4000000 in
set_option maxRecDepth 100000 in
theorem impl_Parsed.main (text dl : ByteArray) (d : Int) (w : World) (hd : bytesOf dl = [d]) (hp : paIs d (bytesOf text)) :
    Calls Try.prog 9 #[.string text, .string dl] w (paRes w (paF d (bytesOf text))) := by
  have kb := fun (a0 : ByteArray) W => print_bytes (P := Try.prog) 9 61 5 Try.underlying9 Try.underlying61 Try.underlying5 a0 W
  have hL : text.size ≤ 1000000 := by rw [← bytesOf_length]; exact hp.2.2.2.1
  have h44 : dl.size = 1 := by rw [← bytesOf_length, hd]; rfl
  have hne : dl.toList.isEmpty = false := by
    rw [ByteArray.toList_eq]
    cases he : dl.data.toList with
    | nil =>
      have h2 : bytesOf dl = dl.data.toList.map (fun b : UInt8 => (b.toNat : Int)) := rfl
      rw [h2, he] at hd; cases hd
    | cons x t => rfl
  have hne2 : (dl.toList == []) = false := by
    cases he : dl.toList with
    | nil => rw [he] at hne; cases hne
    | cons x t => rfl
  obtain ⟨hb02, hr1, hr2⟩ := impl_Parsed.worlds text dl d w hd hL
  have hm := pq_ParseArray.all (some ⟨w.heap.size, 0, none⟩) (grownCap w text.size 0 5) (grownCap (Lib.bytesWorld w 5 text) dl.size 0 5) (some ⟨(Lib.bytesWorld w 5 text).heap.size, 0, none⟩) (bytesOf text) d _ hp hr1 (by rw [bytesOf_length]; exact grownCap_ge _ _ _ _) hr2 (by rw [← h44]; exact grownCap_ge _ _ _ _)
  rw [bytesOf_length] at hm
  obtain ⟨W1, hW1⟩ : ∃ W1, W1 = Lib.bytesWorld w 5 text := ⟨_, rfl⟩
  obtain ⟨W2, hW2⟩ : ∃ W2, W2 = Lib.bytesWorld W1 5 dl := ⟨_, rfl⟩
  rw [← hW1] at hm hb02
  rw [← hW2] at hm hb02
  have HB02 := Aside0.mk hb02
  have kb1 := kb text w
  have kb2 := kb dl W1
  rw [← hW1] at kb1
  rw [← hW2, h44] at kb2
  rw [h44] at hm
  have hlen := paF_len d (bytesOf text) hp
  have HLEN := Aside0.mk hlen
  cases hT : paF d (bytesOf text) with
  | none =>
    rw [hT] at hm
    have HM := Aside0.mk hm
    clear hm hT hL kb h44 hr1 hr2 hb02 hW1 hW2 hlen HLEN hp hd
    --{A
    go_enter Try.func9, Try.ntmps9
    go_wp2_with (go_at_call 24; refine HM.out.mono ?_; rintro e w' ⟨hb, _, h2⟩; obtain ⟨v1, v2, t, x, rfl⟩ := h2 rfl; have HB := Aside0.mk hb; clear hb h2)
    go_ret3
    exact ⟨_, _, rfl, Kd.R_nil _ _ _ _ _, Kd.R_nil _ _ _ _ _, below_step HB02.out HB.out⟩
    --}A
  | some p =>
    obtain ⟨D, els⟩ := p
    rw [hT] at hm HLEN
    have HM := Aside0.mk hm
    have HEL : Aside0 (els.length ≤ 1000000) := ⟨HLEN.out D els rfl⟩
    clear hm hT hL kb h44 hr1 hr2 hb02 hW1 hW2 hlen HLEN hp hd
    --{B
    go_enter Try.func9, Try.ntmps9
    go_wp2_with (first | (go_at_call 24; refine HM.out.mono ?_; rintro e w' ⟨hb, h1, _⟩; obtain ⟨v0, v1, rfl, hg, hv⟩ := h1 D els rfl; obtain ⟨A5, c5, rfl, hc5, hC5⟩ := Kd.R_reads hv; have HB := Aside0.mk hb; have HG := Aside0.mk hg; have HV := Aside0.mk hC5; have HC5 := Aside0.mk hc5; clear hb h1 hg hC5 hc5 hv) | (go_at_call 25; refine (impl_items.main A5 c5 els W2 _ ?b1 ?b2 HC5.out ?b3).mono ?_; (case b1 => exact HB.out); (case b2 => exact HV.out); (case b3 => have := HEL.out; omega); rintro e w2 ⟨v2, rfl, hR2, hB2⟩; have HR2 := Aside0.mk hR2; have HB2 := Aside0.mk hB2; clear hR2 hB2))
    go_ret3
    exact ⟨v0, v2, rfl, Kd.R_below (Kd.R_lower HG.out HB02.out.size) HB2.out, Kd.R_lower HR2.out (below_step HB02.out HB.out).size, below_step (below_step HB02.out HB.out) HB2.out⟩
    --}B
theorem impl_Parsed.calls (a0 : ByteArray) (a1 : ByteArray) (r1 : List Int) (r2 : List (S39)) (r3 : Bool) (w : World) (h : impl_Parsed.f a0 a1 = some (r1, r2, r3)) :
    Calls Try.prog 9 #[.string a0, .string a1] w fun e w' => ∃ v0_ v1_ : Value, e = .returned (.tuple #[v0_, v1_, .bool r3]) ∧ Kd.R (Kd.int .i64) 3 w' w.heap.size (fun _ => True) v0_ r1 ∧ Kd.R k39 39 w' w.heap.size (fun _ => True) v1_ r2 ∧ Below w.heap.size w w' := by
  unfold impl_Parsed.f at h
  split at h
  · rename_i d hd
    split at h
    · rename_i hp
      injection h with h
      have hm := impl_Parsed.main a0 a1 d w hd hp
      unfold paRes at hm
      rw [h] at hm
      exact hm
    · cases h
  · cases h

/-! ### spec_SameInts: function 10 -/
def spec_SameInts.l0 : Nat → List Int → List Int → Int → Option (Bool)
  | 0, _, _, _ => none
  | k + 1, x0, x1, x5 => if x5 < (x0.length : Int) then (if 0 ≤ x5 then (if x5 < (x1.length : Int) then (if (rd x0 x5) = (rd x1 x5) then (spec_SameInts.l0 k x0 x1 (wrap64 (x5 + 1))) else (some false)) else (none)) else (none)) else (some true)
def spec_SameInts.f (k : Nat) (l0 : List Int) (l1 : List Int) : Option (Bool) := if (l0.length : Int) = (l1.length : Int) then (spec_SameInts.l0 k l0 l1 0) else (some false)
theorem spec_SameInts.mono_l : ∀ k, (∀ y0 y1 y2, LeO (spec_SameInts.l0 k y0 y1 y2) (spec_SameInts.l0 (k + 1) y0 y1 y2))
  | 0 => fun _ _ _ r h => by simp [spec_SameInts.l0] at h
  | k + 1 => by
    have ih0 := spec_SameInts.mono_l k
    · intro y0 y1 y2
      unfold spec_SameInts.l0
      repeat' first
      | (with_reducible exact ih0 _ _ _)
      | (with_reducible exact LeO.refl _)
      | (with_reducible exact LeO.none _)
      | (with_reducible refine LeO.ite ?_ ?_)
      | (with_reducible refine LeO.bind ?_ (fun _ => ?_))
      | exact ih0 _ _ _
      | exact LeO.none _
      | refine LeO.ite ?_ ?_
      | refine LeO.bind ?_ (fun _ => ?_)
theorem spec_SameInts.mono : ∀ a0 a1 k, LeO (spec_SameInts.f k a0 a1) (spec_SameInts.f (k + 1) a0 a1) := by
  intro a0 a1 k
  have ih0 := spec_SameInts.mono_l k
  unfold spec_SameInts.f
  repeat' first
      | (with_reducible exact ih0 _ _ _)
      | (with_reducible exact LeO.refl _)
      | (with_reducible exact LeO.none _)
      | (with_reducible refine LeO.ite ?_ ?_)
      | (with_reducible refine LeO.bind ?_ (fun _ => ?_))
      | exact ih0 _ _ _
      | exact LeO.none _
      | refine LeO.ite ?_ ?_
      | refine LeO.bind ?_ (fun _ => ?_)
set_option maxHeartbeats 8000000 in
set_option maxRecDepth 100000 in
theorem spec_SameInts.calls (k : Nat) (A0 : Option Addr) (c0 : Nat) (l0 : List Int) (A1 : Option Addr) (c1 : Nat) (l1 : List Int) (r : Bool) (w : World) (hr0 : Kd.C (Kd.int .i64) w A0 l0.length l0) (hc0 : l0.length ≤ c0) (hr1 : Kd.C (Kd.int .i64) w A1 l1.length l1) (hc1 : l1.length ≤ c1) (h : spec_SameInts.f k l0 l1 = some r) :
    Calls Try.prog 10 #[.slice A0 l0.length c0, .slice A1 l1.length c1] w fun e w' => e = .returned (.bool r) ∧ Drawn0 w w' := by
  have HR0 := Aside0.mk hr0
  have HC0 := Aside0.mk hc0
  clear hr0 hc0
  have HR1 := Aside0.mk hr1
  have HC1 := Aside0.mk hc1
  clear hr1 hc1
  have H : (if (l0.length : Int) = (l1.length : Int) then (spec_SameInts.l0 k l0 l1 0) else (some false)) = some r := h
  clear h
  by_cases c3 : (l0.length : Int) = (l1.length : Int)
  · rw [if_pos c3] at H
    have c3b0 : ((l0.length : Int) == (l1.length : Int)) = true := beq_iff_eq.mpr c3
    have c3b1 : ((l0.length : Int) != (l1.length : Int)) = false := bne_eq_false_iff_eq.mpr c3
    have c3b2 : (l0.length == l1.length) = true := by first | simpa using c3 | (simp at c3 ⊢; omega)
    clear c3
    have H' := Aside0.mk H
    clear H
    go_enter Try.func10, Try.ntmps10
    go_wp2
    repeat (go_quiet (fail); try go_wp2)
    go_loopg [5] k (fun kq v5 w' => ∃ (x5_1 : Int), v5 = .int .i64 x5_1 ∧ Aside0 (spec_SameInts.l0 kq l0 l1 x5_1 = some r) ∧ Aside0 (kq ≤ k) ∧ Drawn0 w w')
    case atStart => exact ⟨(0), (by first | rfl | (simp; done) | (simp [*]; done)), H', ⟨Nat.le_refl _⟩, by repeat (first | exact Drawn0.refl _ | apply Drawn0.step)⟩
    case round =>
      clear H'
      try clear c1
      try clear p2
      try clear c3
      try clear c3b0
      try clear c3b1
      try clear c3b2
      obtain ⟨x5_1, rfl, HA, HK1, ⟨m1, rfl⟩⟩ := hrel
      cases gk with
      | zero => exact absurd HA.out (by simp [spec_SameInts.l0])
      | succ k1 =>
        have H := HA.out
        clear HA
        simp only [spec_SameInts.l0] at H
        by_cases c4 : x5_1 < (l0.length : Int)
        · rw [if_pos c4] at H
          have c4b0 : decide (x5_1 < (l0.length : Int)) = true := decide_eq_true c4
          clear c4
          by_cases c5 : 0 ≤ x5_1
          · rw [if_pos c5] at H
            have c5b0 : decide (0 ≤ x5_1) = true := decide_eq_true c5
            clear c5
            by_cases c6 : x5_1 < (l1.length : Int)
            · rw [if_pos c6] at H
              have c6b0 : decide (x5_1 < (l1.length : Int)) = true := decide_eq_true c6
              clear c6
              by_cases c7 : (rd l0 x5_1) = (rd l1 x5_1)
              · rw [if_pos c7] at H
                have c7b0 : ((rd l0 x5_1) == (rd l1 x5_1)) = true := beq_iff_eq.mpr c7
                have c7b1 : ((rd l0 x5_1) != (rd l1 x5_1)) = false := bne_eq_false_iff_eq.mpr c7
                clear c7
                have H' := Aside0.mk H
                clear H
                have p103 : 0 ≤ (x5_1 : Int) := of_decide_eq_true (by first | (with_reducible assumption) | assumption)
                have q103 : x5_1 < (l0.length : Int) := of_decide_eq_true (by first | (with_reducible assumption) | assumption)
                obtain ⟨ad103, e103, hx103_0⟩ := Kd.at_int HR0.out x5_1 p103 q103
                cases e103
                replace p103 := eq_true p103
                replace q103 := eq_true q103
                have p104 : 0 ≤ (x5_1 : Int) := of_decide_eq_true (by first | (with_reducible assumption) | assumption)
                have q104 : x5_1 < (l1.length : Int) := of_decide_eq_true (by first | (with_reducible assumption) | assumption)
                obtain ⟨ad104, e104, hx104_0⟩ := Kd.at_int HR1.out x5_1 p104 q104
                cases e104
                replace p104 := eq_true p104
                replace q104 := eq_true q104
                go_wp2
                repeat (go_quiet (fail); try go_wp2)
                go_roundg k1
                case measure => have := HK1.out; omega
                case rel => exact ⟨(wrap64 (x5_1 + 1)), (by first | rfl | (simp; done) | (simp [*]; done)), H', ⟨by have := HK1.out; omega⟩, by repeat (first | exact Drawn0.refl _ | apply Drawn0.step)⟩
              · rw [if_neg c7] at H
                have c7b0 : ((rd l0 x5_1) == (rd l1 x5_1)) = false := beq_eq_false_iff_ne.mpr c7
                have c7b1 : ((rd l0 x5_1) != (rd l1 x5_1)) = true := bne_iff_ne.mpr c7
                obtain rfl := Option.some.inj H
                have p103 : 0 ≤ (x5_1 : Int) := of_decide_eq_true (by first | (with_reducible assumption) | assumption)
                have q103 : x5_1 < (l0.length : Int) := of_decide_eq_true (by first | (with_reducible assumption) | assumption)
                obtain ⟨ad103, e103, hx103_0⟩ := Kd.at_int HR0.out x5_1 p103 q103
                cases e103
                replace p103 := eq_true p103
                replace q103 := eq_true q103
                have p104 : 0 ≤ (x5_1 : Int) := of_decide_eq_true (by first | (with_reducible assumption) | assumption)
                have q104 : x5_1 < (l1.length : Int) := of_decide_eq_true (by first | (with_reducible assumption) | assumption)
                obtain ⟨ad104, e104, hx104_0⟩ := Kd.at_int HR1.out x5_1 p104 q104
                cases e104
                replace p104 := eq_true p104
                replace q104 := eq_true q104
                go_wp2
                repeat (go_quiet (fail); try go_wp2)
                go_ret
                exact ⟨by first | rfl | (simp; done) | (simp [*]; done), by repeat (first | exact Drawn0.refl _ | apply Drawn0.step)⟩
            · rw [if_neg c6] at H
              exact absurd H (by simp)
          · rw [if_neg c5] at H
            exact absurd H (by simp)
        · rw [if_neg c4] at H
          have c4b0 : decide (x5_1 < (l0.length : Int)) = false := decide_eq_false c4
          clear c4
          obtain rfl := Option.some.inj H
          go_wp2
          repeat (go_quiet (fail); try go_wp2)
          go_ret
          exact ⟨by first | rfl | (simp; done) | (simp [*]; done), by repeat (first | exact Drawn0.refl _ | apply Drawn0.step)⟩
  · rw [if_neg c3] at H
    have c3b0 : ((l0.length : Int) == (l1.length : Int)) = false := beq_eq_false_iff_ne.mpr c3
    have c3b1 : ((l0.length : Int) != (l1.length : Int)) = true := bne_iff_ne.mpr c3
    have c3b2 : (l0.length == l1.length) = false := by first | simpa using c3 | (simp at c3 ⊢; omega)
    obtain rfl := Option.some.inj H
    go_enter Try.func10, Try.ntmps10
    go_wp2
    repeat (go_quiet (fail); try go_wp2)
    go_ret
    exact ⟨by first | rfl | (simp; done) | (simp [*]; done), by repeat (first | exact Drawn0.refl _ | apply Drawn0.step)⟩

end Go.Proofs.Ythcikkjjegfblaa.P
