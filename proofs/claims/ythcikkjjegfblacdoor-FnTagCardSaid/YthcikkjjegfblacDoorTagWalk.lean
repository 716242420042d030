/- The walks of parseComplete and impl.Tag, over the shelf's contracts of strconv.ParseInt and strings.HasPrefix. Conditions: what the variable ErrSyntax holds is named. -/
import Derived.Test.YthcikkjjegfblacDoorPx2
import Derived.Test.YthcikkjjegfblacDoorShelf
import Derived.Test.YthcikkjjegfblacDoorTagNum
namespace Go.Proofs.YthcikkjjegfblacDoor.P
open Go.RowKit Go.Proofs.YthcikkjjegfblacDoorW.PrintWords Go.Proofs.YthcikkjjegfblacDoorW.PrintLast Go.Proofs.YthcikkjjegfblacDoorW.PrintMore
set_option linter.unusedVariables false
set_option linter.unusedSimpArgs false
set_option maxHeartbeats 1000000 in
set_option maxRecDepth 100000 in
theorem errors_New_plain (s : ByteArray) (w : World) :
    Calls Tryd.prog 44 #[.string s] w fun e w' => (∃ t x, e = .returned (.iface t x)) ∧ Below w.heap.size w w' := by
  go_enter Tryd.func44, Tryd.ntmps44
  go_wp2_with fail
  go_ret
  exact ⟨⟨_, _, rfl⟩, below_alloc (Below.refl _ _) _⟩
/-- The tags with a number of rows. -/
def tg : Nat → ByteArray
  | 0 => ⟨#[83, 69, 76, 69, 67, 84, 32]⟩
  | 1 => ⟨#[85, 80, 68, 65, 84, 69, 32]⟩
  | 2 => ⟨#[68, 69, 76, 69, 84, 69, 32]⟩
  | 3 => ⟨#[70, 69, 84, 67, 72, 32]⟩
  | 4 => ⟨#[77, 79, 86, 69, 32]⟩
  | _ => ⟨#[67, 79, 80, 89, 32]⟩
def insT : ByteArray := ⟨#[73, 78, 83, 69, 82, 84, 32]⟩
theorem hp_size {s p : ByteArray} (h : Go.Lib.hasPrefix s.data.toList p.data.toList = true) : p.size ≤ s.size := by
  have h1 := List.isPrefixOf_iff_prefix.1 h
  have := h1.length_le
  simpa using this
theorem parseInt_all (t : ByteArray) (ht : t.size ≤ 1000) (hr : Go.Lib.parseIntB 64 t.data.toList ≠ .range) (w0 W : World) (te : TypeId) (xe : Value) (hB : Below w0.heap.size w0 W) (hE : w0.cell? ⟨5, 0, none⟩ = some (.iface te xe)) :
    Calls Tryd.prog 45 #[.string t, .int .i64 10, .int .i64 64] W fun e w' => Below w0.heap.size w0 w' ∧ ((∃ v, Go.Lib.parseIntB 64 t.data.toList = .ok v ∧ e = .returned (.tuple #[.int .i64 v, .nilIface])) ∨ (Go.Lib.parseIntB 64 t.data.toList = .syntax ∧ ∃ t x, e = .returned (.tuple #[.int .i64 0, .iface t x]))) := by
  cases hP : Go.Lib.parseIntB 64 t.data.toList with
  | ok v =>
    refine (Tryd.strconv_ParseInt_10_at64_ok t (by omega) v hP W).mono ?_
    rintro e w' ⟨rfl, rfl | ⟨x, rfl⟩⟩
    · exact ⟨hB, .inl ⟨v, rfl, rfl⟩⟩
    · exact ⟨below_step hB (Go.Lib.bytesWorld_below _ _ _), .inl ⟨v, rfl, rfl⟩⟩
  | «syntax» =>
    have hlt : (5 : Nat) < w0.heap.size := Go.Lib.lt_of_cell hE
    refine (Tryd.strconv_ParseInt_10_at64_syntax t (by omega) hP _ W ((hB.cell hlt).trans hE) (.inr ⟨te, xe, rfl⟩)).mono ?_
    rintro e w' ⟨N, rfl, _, _, hb⟩
    exact ⟨below_step hB hb, .inr ⟨rfl, _, _, rfl⟩⟩
  | range => exact absurd hP hr
theorem wrm (n : Nat) (h1 : 1 ≤ n) (h2 : n ≤ 100) : wrap64 ((n : Int) - 1) = ((n - 1 : Nat) : Int) := by unfold wrap64; omega
theorem cell_lit (w : World) (cs : Array Value) (t : TypeId) (m : Nat) : (w.alloc (.cells cs t)).cell? ⟨w.heap.size, m, none⟩ = cs[m]? :=
  blk_cell (by show (w.heap.push _)[w.heap.size]? = _; exact Array.getElem?_push_size) m
set_option maxHeartbeats 4000000 in
set_option maxRecDepth 100000 in
theorem pc_hit (s : ByteArray) (j : Nat) (hj : j < 6) (hno : ∀ i < j, Go.Lib.hasPrefix s.data.toList (tg i).data.toList = false) (hyes : Go.Lib.hasPrefix s.data.toList (tg j).data.toList = true) (hs : s.size ≤ 1000) (w : World) (te : TypeId) (xe : Value) (hE : w.cell? ⟨5, 0, none⟩ = some (.iface te xe))
    (hres : Go.Lib.parseIntB 64 (s.extract (tg j).size s.size).data.toList ≠ .range) :
    Calls Tryd.prog 33 #[.string s] w fun e w' => Below w.heap.size w w' ∧
      (∀ v, Go.Lib.parseIntB 64 (s.extract (tg j).size s.size).data.toList = .ok v → e = .returned (.tuple #[.int .i64 v, .string ((tg j).extract 0 ((tg j).size - 1)), .nilIface])) ∧
      (Go.Lib.parseIntB 64 (s.extract (tg j).size s.size).data.toList = .syntax → ∃ t x, e = .returned (.tuple #[.int .i64 0, .string ⟨#[]⟩, .iface t x])) := by
  have HNO := Aside0.mk hno
  have HYES := Aside0.mk hyes
  have HE := Aside0.mk hE
  have HRES := Aside0.mk hres
  have HS := Aside0.mk hs
  have HJ := Aside0.mk hj
  clear hno hyes hE hres hs hj
  go_enter Tryd.func33, Tryd.ntmps33
  go_wp2_with fail
  go_loopg [0, 6, 8, 16] 7 (fun kq s0 s6 s8 s16 wx => ∃ i : Nat, s0 = .string s ∧ s6 = .pointer none ∧ s16 = .int .i64 (i : Int) ∧ Aside0 (kq + i ≥ 7) ∧ Aside0 (i ≤ j) ∧ Aside0 (Below w.heap.size w wx) ∧ Aside0 (∀ m, m < 6 → wx.cell? ⟨w.heap.size, m, none⟩ = some (.string (tg m))))
  case atStart => exact ⟨0, rfl, rfl, rfl, ⟨by omega⟩, ⟨Nat.zero_le _⟩, ⟨by first | exact below_alloc (Below.refl _ _) _ | exact Below.refl _ _⟩, ⟨by
    intro m hm
    have : m = 0 ∨ m = 1 ∨ m = 2 ∨ m = 3 ∨ m = 4 ∨ m = 5 := by omega
    rcases this with rfl | rfl | rfl | rfl | rfl | rfl <;> exact (cell_lit _ _ _ _).trans rfl⟩⟩
  case round =>
    obtain ⟨i, rfl, rfl, rfl, HK, HI, HB, HC⟩ := hrel
    have hi6 : i = 0 ∨ i = 1 ∨ i = 2 ∨ i = 3 ∨ i = 4 ∨ i = 5 := by have := HI.out; have := HJ.out; omega
    rcases hi6 with rfl | rfl | rfl | rfl | rfl | rfl
    · have xc : wr.cell? ⟨w.heap.size, 0, none⟩ = some (.string (tg 0)) := HC.out 0 (by omega)
      by_cases hij : 0 < j
      · have hc := fun W : World => Tryd.strings_HasPrefix s (tg 0) W
        rw [HNO.out 0 hij] at hc
        have HIJ := Aside0.mk (hij)
        clear hij
        go_wp2_with fail
        refine (hc _).mono ?_
        rintro e w' ⟨rfl, rfl⟩
        clear hc
        go_wp2_with fail
        go_roundg (6 - 0)
        case measure => have := HK.out; omega
        case rel => exact ⟨1, rfl, rfl, by first | rfl | go_num, ⟨by omega⟩, ⟨by have := HIJ.out; omega⟩, HB, HC⟩
      · have hj0 : j = 0 := by have := HI.out; omega
        subst hj0
        have hc := fun W : World => Tryd.strings_HasPrefix s (tg 0) W
        rw [HYES.out] at hc
        have hsz := hp_size HYES.out
        have c1 : decide ((0 : Int) ≤ (((tg 0).size : Nat) : Int)) = true := decide_eq_true (by omega)
        have c2 : decide ((((tg 0).size : Nat) : Int) ≤ (s.size : Int)) = true := decide_eq_true (by omega)
        have c2b : ((((tg 0).size : Nat) : Int) ≤ (s.size : Int)) = True := eq_true (by omega)
        have c2c : ((tg 0).size ≤ s.size) = True := eq_true (by omega)
        have c3 : wrap64 ((((tg 0).size : Nat) : Int) - 1) = (((tg 0).size - 1 : Nat) : Int) := wrm _ (by decide) (by decide)
        have c4 : ((tg 0).size - 1 ≤ (tg 0).size) = True := eq_true (by omega)
        have hu32 := Tryd.underlying51
        clear hij
        go_wp2_with fail
        refine (hc _).mono ?_
        rintro e w' ⟨rfl, rfl⟩
        clear hc hsz
        go_wp2_with fail
        have hts : (s.extract (tg 0).size s.size).size ≤ 1000 := by have := HS.out; simp; omega
        refine (parseInt_all _ hts HRES.out w _ te xe (below_alloc HB.out _) HE.out).mono ?_
        clear hts
        rintro e w' ⟨hb, ⟨v, hv, rfl⟩ | ⟨hv, t, x, rfl⟩⟩
        · have HV := Aside0.mk hv
          have HB2 := Aside0.mk hb
          clear hv hb
          go_wp2_with fail
          go_ret3
          refine ⟨HB2.out, fun v' h => ?_, fun h => ?_⟩
          · rw [HV.out] at h; injection h with h; subst h; rfl
          · rw [HV.out] at h; cases h
        · have HV := Aside0.mk hv
          have HB2 := Aside0.mk hb
          clear hv hb
          go_wp2_with fail
          refine (errors_New_plain _ _).mono ?_
          rintro e w'' ⟨⟨t2, x2, rfl⟩, hb2⟩
          have HB3 := Aside0.mk (below_step HB2.out hb2)
          clear hb2
          go_wp2_with fail
          go_ret3
          refine ⟨HB3.out, fun v' h => ?_, fun h => ?_⟩
          · rw [HV.out] at h; cases h
          · exact ⟨_, _, rfl⟩
    · have xc : wr.cell? ⟨w.heap.size, 1, none⟩ = some (.string (tg 1)) := HC.out 1 (by omega)
      by_cases hij : 1 < j
      · have hc := fun W : World => Tryd.strings_HasPrefix s (tg 1) W
        rw [HNO.out 1 hij] at hc
        have HIJ := Aside0.mk (hij)
        clear hij
        go_wp2_with fail
        refine (hc _).mono ?_
        rintro e w' ⟨rfl, rfl⟩
        clear hc
        go_wp2_with fail
        go_roundg (6 - 1)
        case measure => have := HK.out; omega
        case rel => exact ⟨2, rfl, rfl, by first | rfl | go_num, ⟨by omega⟩, ⟨by have := HIJ.out; omega⟩, HB, HC⟩
      · have hj0 : j = 1 := by have := HI.out; omega
        subst hj0
        have hc := fun W : World => Tryd.strings_HasPrefix s (tg 1) W
        rw [HYES.out] at hc
        have hsz := hp_size HYES.out
        have c1 : decide ((0 : Int) ≤ (((tg 1).size : Nat) : Int)) = true := decide_eq_true (by omega)
        have c2 : decide ((((tg 1).size : Nat) : Int) ≤ (s.size : Int)) = true := decide_eq_true (by omega)
        have c2b : ((((tg 1).size : Nat) : Int) ≤ (s.size : Int)) = True := eq_true (by omega)
        have c2c : ((tg 1).size ≤ s.size) = True := eq_true (by omega)
        have c3 : wrap64 ((((tg 1).size : Nat) : Int) - 1) = (((tg 1).size - 1 : Nat) : Int) := wrm _ (by decide) (by decide)
        have c4 : ((tg 1).size - 1 ≤ (tg 1).size) = True := eq_true (by omega)
        have hu32 := Tryd.underlying51
        clear hij
        go_wp2_with fail
        refine (hc _).mono ?_
        rintro e w' ⟨rfl, rfl⟩
        clear hc hsz
        go_wp2_with fail
        have hts : (s.extract (tg 1).size s.size).size ≤ 1000 := by have := HS.out; simp; omega
        refine (parseInt_all _ hts HRES.out w _ te xe (below_alloc HB.out _) HE.out).mono ?_
        clear hts
        rintro e w' ⟨hb, ⟨v, hv, rfl⟩ | ⟨hv, t, x, rfl⟩⟩
        · have HV := Aside0.mk hv
          have HB2 := Aside0.mk hb
          clear hv hb
          go_wp2_with fail
          go_ret3
          refine ⟨HB2.out, fun v' h => ?_, fun h => ?_⟩
          · rw [HV.out] at h; injection h with h; subst h; rfl
          · rw [HV.out] at h; cases h
        · have HV := Aside0.mk hv
          have HB2 := Aside0.mk hb
          clear hv hb
          go_wp2_with fail
          refine (errors_New_plain _ _).mono ?_
          rintro e w'' ⟨⟨t2, x2, rfl⟩, hb2⟩
          have HB3 := Aside0.mk (below_step HB2.out hb2)
          clear hb2
          go_wp2_with fail
          go_ret3
          refine ⟨HB3.out, fun v' h => ?_, fun h => ?_⟩
          · rw [HV.out] at h; cases h
          · exact ⟨_, _, rfl⟩
    · have xc : wr.cell? ⟨w.heap.size, 2, none⟩ = some (.string (tg 2)) := HC.out 2 (by omega)
      by_cases hij : 2 < j
      · have hc := fun W : World => Tryd.strings_HasPrefix s (tg 2) W
        rw [HNO.out 2 hij] at hc
        have HIJ := Aside0.mk (hij)
        clear hij
        go_wp2_with fail
        refine (hc _).mono ?_
        rintro e w' ⟨rfl, rfl⟩
        clear hc
        go_wp2_with fail
        go_roundg (6 - 2)
        case measure => have := HK.out; omega
        case rel => exact ⟨3, rfl, rfl, by first | rfl | go_num, ⟨by omega⟩, ⟨by have := HIJ.out; omega⟩, HB, HC⟩
      · have hj0 : j = 2 := by have := HI.out; omega
        subst hj0
        have hc := fun W : World => Tryd.strings_HasPrefix s (tg 2) W
        rw [HYES.out] at hc
        have hsz := hp_size HYES.out
        have c1 : decide ((0 : Int) ≤ (((tg 2).size : Nat) : Int)) = true := decide_eq_true (by omega)
        have c2 : decide ((((tg 2).size : Nat) : Int) ≤ (s.size : Int)) = true := decide_eq_true (by omega)
        have c2b : ((((tg 2).size : Nat) : Int) ≤ (s.size : Int)) = True := eq_true (by omega)
        have c2c : ((tg 2).size ≤ s.size) = True := eq_true (by omega)
        have c3 : wrap64 ((((tg 2).size : Nat) : Int) - 1) = (((tg 2).size - 1 : Nat) : Int) := wrm _ (by decide) (by decide)
        have c4 : ((tg 2).size - 1 ≤ (tg 2).size) = True := eq_true (by omega)
        have hu32 := Tryd.underlying51
        clear hij
        go_wp2_with fail
        refine (hc _).mono ?_
        rintro e w' ⟨rfl, rfl⟩
        clear hc hsz
        go_wp2_with fail
        have hts : (s.extract (tg 2).size s.size).size ≤ 1000 := by have := HS.out; simp; omega
        refine (parseInt_all _ hts HRES.out w _ te xe (below_alloc HB.out _) HE.out).mono ?_
        clear hts
        rintro e w' ⟨hb, ⟨v, hv, rfl⟩ | ⟨hv, t, x, rfl⟩⟩
        · have HV := Aside0.mk hv
          have HB2 := Aside0.mk hb
          clear hv hb
          go_wp2_with fail
          go_ret3
          refine ⟨HB2.out, fun v' h => ?_, fun h => ?_⟩
          · rw [HV.out] at h; injection h with h; subst h; rfl
          · rw [HV.out] at h; cases h
        · have HV := Aside0.mk hv
          have HB2 := Aside0.mk hb
          clear hv hb
          go_wp2_with fail
          refine (errors_New_plain _ _).mono ?_
          rintro e w'' ⟨⟨t2, x2, rfl⟩, hb2⟩
          have HB3 := Aside0.mk (below_step HB2.out hb2)
          clear hb2
          go_wp2_with fail
          go_ret3
          refine ⟨HB3.out, fun v' h => ?_, fun h => ?_⟩
          · rw [HV.out] at h; cases h
          · exact ⟨_, _, rfl⟩
    · have xc : wr.cell? ⟨w.heap.size, 3, none⟩ = some (.string (tg 3)) := HC.out 3 (by omega)
      by_cases hij : 3 < j
      · have hc := fun W : World => Tryd.strings_HasPrefix s (tg 3) W
        rw [HNO.out 3 hij] at hc
        have HIJ := Aside0.mk (hij)
        clear hij
        go_wp2_with fail
        refine (hc _).mono ?_
        rintro e w' ⟨rfl, rfl⟩
        clear hc
        go_wp2_with fail
        go_roundg (6 - 3)
        case measure => have := HK.out; omega
        case rel => exact ⟨4, rfl, rfl, by first | rfl | go_num, ⟨by omega⟩, ⟨by have := HIJ.out; omega⟩, HB, HC⟩
      · have hj0 : j = 3 := by have := HI.out; omega
        subst hj0
        have hc := fun W : World => Tryd.strings_HasPrefix s (tg 3) W
        rw [HYES.out] at hc
        have hsz := hp_size HYES.out
        have c1 : decide ((0 : Int) ≤ (((tg 3).size : Nat) : Int)) = true := decide_eq_true (by omega)
        have c2 : decide ((((tg 3).size : Nat) : Int) ≤ (s.size : Int)) = true := decide_eq_true (by omega)
        have c2b : ((((tg 3).size : Nat) : Int) ≤ (s.size : Int)) = True := eq_true (by omega)
        have c2c : ((tg 3).size ≤ s.size) = True := eq_true (by omega)
        have c3 : wrap64 ((((tg 3).size : Nat) : Int) - 1) = (((tg 3).size - 1 : Nat) : Int) := wrm _ (by decide) (by decide)
        have c4 : ((tg 3).size - 1 ≤ (tg 3).size) = True := eq_true (by omega)
        have hu32 := Tryd.underlying51
        clear hij
        go_wp2_with fail
        refine (hc _).mono ?_
        rintro e w' ⟨rfl, rfl⟩
        clear hc hsz
        go_wp2_with fail
        have hts : (s.extract (tg 3).size s.size).size ≤ 1000 := by have := HS.out; simp; omega
        refine (parseInt_all _ hts HRES.out w _ te xe (below_alloc HB.out _) HE.out).mono ?_
        clear hts
        rintro e w' ⟨hb, ⟨v, hv, rfl⟩ | ⟨hv, t, x, rfl⟩⟩
        · have HV := Aside0.mk hv
          have HB2 := Aside0.mk hb
          clear hv hb
          go_wp2_with fail
          go_ret3
          refine ⟨HB2.out, fun v' h => ?_, fun h => ?_⟩
          · rw [HV.out] at h; injection h with h; subst h; rfl
          · rw [HV.out] at h; cases h
        · have HV := Aside0.mk hv
          have HB2 := Aside0.mk hb
          clear hv hb
          go_wp2_with fail
          refine (errors_New_plain _ _).mono ?_
          rintro e w'' ⟨⟨t2, x2, rfl⟩, hb2⟩
          have HB3 := Aside0.mk (below_step HB2.out hb2)
          clear hb2
          go_wp2_with fail
          go_ret3
          refine ⟨HB3.out, fun v' h => ?_, fun h => ?_⟩
          · rw [HV.out] at h; cases h
          · exact ⟨_, _, rfl⟩
    · have xc : wr.cell? ⟨w.heap.size, 4, none⟩ = some (.string (tg 4)) := HC.out 4 (by omega)
      by_cases hij : 4 < j
      · have hc := fun W : World => Tryd.strings_HasPrefix s (tg 4) W
        rw [HNO.out 4 hij] at hc
        have HIJ := Aside0.mk (hij)
        clear hij
        go_wp2_with fail
        refine (hc _).mono ?_
        rintro e w' ⟨rfl, rfl⟩
        clear hc
        go_wp2_with fail
        go_roundg (6 - 4)
        case measure => have := HK.out; omega
        case rel => exact ⟨5, rfl, rfl, by first | rfl | go_num, ⟨by omega⟩, ⟨by have := HIJ.out; omega⟩, HB, HC⟩
      · have hj0 : j = 4 := by have := HI.out; omega
        subst hj0
        have hc := fun W : World => Tryd.strings_HasPrefix s (tg 4) W
        rw [HYES.out] at hc
        have hsz := hp_size HYES.out
        have c1 : decide ((0 : Int) ≤ (((tg 4).size : Nat) : Int)) = true := decide_eq_true (by omega)
        have c2 : decide ((((tg 4).size : Nat) : Int) ≤ (s.size : Int)) = true := decide_eq_true (by omega)
        have c2b : ((((tg 4).size : Nat) : Int) ≤ (s.size : Int)) = True := eq_true (by omega)
        have c2c : ((tg 4).size ≤ s.size) = True := eq_true (by omega)
        have c3 : wrap64 ((((tg 4).size : Nat) : Int) - 1) = (((tg 4).size - 1 : Nat) : Int) := wrm _ (by decide) (by decide)
        have c4 : ((tg 4).size - 1 ≤ (tg 4).size) = True := eq_true (by omega)
        have hu32 := Tryd.underlying51
        clear hij
        go_wp2_with fail
        refine (hc _).mono ?_
        rintro e w' ⟨rfl, rfl⟩
        clear hc hsz
        go_wp2_with fail
        have hts : (s.extract (tg 4).size s.size).size ≤ 1000 := by have := HS.out; simp; omega
        refine (parseInt_all _ hts HRES.out w _ te xe (below_alloc HB.out _) HE.out).mono ?_
        clear hts
        rintro e w' ⟨hb, ⟨v, hv, rfl⟩ | ⟨hv, t, x, rfl⟩⟩
        · have HV := Aside0.mk hv
          have HB2 := Aside0.mk hb
          clear hv hb
          go_wp2_with fail
          go_ret3
          refine ⟨HB2.out, fun v' h => ?_, fun h => ?_⟩
          · rw [HV.out] at h; injection h with h; subst h; rfl
          · rw [HV.out] at h; cases h
        · have HV := Aside0.mk hv
          have HB2 := Aside0.mk hb
          clear hv hb
          go_wp2_with fail
          refine (errors_New_plain _ _).mono ?_
          rintro e w'' ⟨⟨t2, x2, rfl⟩, hb2⟩
          have HB3 := Aside0.mk (below_step HB2.out hb2)
          clear hb2
          go_wp2_with fail
          go_ret3
          refine ⟨HB3.out, fun v' h => ?_, fun h => ?_⟩
          · rw [HV.out] at h; cases h
          · exact ⟨_, _, rfl⟩
    · have xc : wr.cell? ⟨w.heap.size, 5, none⟩ = some (.string (tg 5)) := HC.out 5 (by omega)
      by_cases hij : 5 < j
      · have hc := fun W : World => Tryd.strings_HasPrefix s (tg 5) W
        rw [HNO.out 5 hij] at hc
        have HIJ := Aside0.mk (hij)
        clear hij
        go_wp2_with fail
        refine (hc _).mono ?_
        rintro e w' ⟨rfl, rfl⟩
        clear hc
        go_wp2_with fail
        go_roundg (6 - 5)
        case measure => have := HK.out; omega
        case rel => exact ⟨6, rfl, rfl, by first | rfl | go_num, ⟨by omega⟩, ⟨by have := HIJ.out; omega⟩, HB, HC⟩
      · have hj0 : j = 5 := by have := HI.out; omega
        subst hj0
        have hc := fun W : World => Tryd.strings_HasPrefix s (tg 5) W
        rw [HYES.out] at hc
        have hsz := hp_size HYES.out
        have c1 : decide ((0 : Int) ≤ (((tg 5).size : Nat) : Int)) = true := decide_eq_true (by omega)
        have c2 : decide ((((tg 5).size : Nat) : Int) ≤ (s.size : Int)) = true := decide_eq_true (by omega)
        have c2b : ((((tg 5).size : Nat) : Int) ≤ (s.size : Int)) = True := eq_true (by omega)
        have c2c : ((tg 5).size ≤ s.size) = True := eq_true (by omega)
        have c3 : wrap64 ((((tg 5).size : Nat) : Int) - 1) = (((tg 5).size - 1 : Nat) : Int) := wrm _ (by decide) (by decide)
        have c4 : ((tg 5).size - 1 ≤ (tg 5).size) = True := eq_true (by omega)
        have hu32 := Tryd.underlying51
        clear hij
        go_wp2_with fail
        refine (hc _).mono ?_
        rintro e w' ⟨rfl, rfl⟩
        clear hc hsz
        go_wp2_with fail
        have hts : (s.extract (tg 5).size s.size).size ≤ 1000 := by have := HS.out; simp; omega
        refine (parseInt_all _ hts HRES.out w _ te xe (below_alloc HB.out _) HE.out).mono ?_
        clear hts
        rintro e w' ⟨hb, ⟨v, hv, rfl⟩ | ⟨hv, t, x, rfl⟩⟩
        · have HV := Aside0.mk hv
          have HB2 := Aside0.mk hb
          clear hv hb
          go_wp2_with fail
          go_ret3
          refine ⟨HB2.out, fun v' h => ?_, fun h => ?_⟩
          · rw [HV.out] at h; injection h with h; subst h; rfl
          · rw [HV.out] at h; cases h
        · have HV := Aside0.mk hv
          have HB2 := Aside0.mk hb
          clear hv hb
          go_wp2_with fail
          refine (errors_New_plain _ _).mono ?_
          rintro e w'' ⟨⟨t2, x2, rfl⟩, hb2⟩
          have HB3 := Aside0.mk (below_step HB2.out hb2)
          clear hb2
          go_wp2_with fail
          go_ret3
          refine ⟨HB3.out, fun v' h => ?_, fun h => ?_⟩
          · rw [HV.out] at h; cases h
          · exact ⟨_, _, rfl⟩
set_option maxHeartbeats 4000000 in
set_option maxRecDepth 100000 in
theorem pc_other (s : ByteArray) (hno : ∀ i < 6, Go.Lib.hasPrefix s.data.toList (tg i).data.toList = false) (hs : s.size ≤ 1000) (w : World) (hins : Go.Lib.hasPrefix s.data.toList insT.data.toList = false) :
    Calls Tryd.prog 33 #[.string s] w fun e w' => Below w.heap.size w w' ∧
      e = .returned (.tuple #[.int .i64 0, .string s, .nilIface]) := by
  have HNO := Aside0.mk hno
  have HS := Aside0.mk hs
  have HINS := Aside0.mk hins
  clear hins
  clear hno hs
  go_enter Tryd.func33, Tryd.ntmps33
  go_wp2_with fail
  go_loopg [0, 6, 8, 16] 7 (fun kq s0 s6 s8 s16 wx => ∃ i : Nat, s0 = .string s ∧ s6 = .pointer none ∧ s16 = .int .i64 (i : Int) ∧ Aside0 (kq + i ≥ 7) ∧ Aside0 (i ≤ 6) ∧ Aside0 (Below w.heap.size w wx) ∧ Aside0 (∀ m, m < 6 → wx.cell? ⟨w.heap.size, m, none⟩ = some (.string (tg m))))
  case atStart => exact ⟨0, rfl, rfl, rfl, ⟨by omega⟩, ⟨Nat.zero_le _⟩, ⟨by first | exact below_alloc (Below.refl _ _) _ | exact Below.refl _ _⟩, ⟨by
    intro m hm
    have : m = 0 ∨ m = 1 ∨ m = 2 ∨ m = 3 ∨ m = 4 ∨ m = 5 := by omega
    rcases this with rfl | rfl | rfl | rfl | rfl | rfl <;> exact (cell_lit _ _ _ _).trans rfl⟩⟩
  case round =>
    obtain ⟨i, rfl, rfl, rfl, HK, HI, HB, HC⟩ := hrel
    have hi6 : i = 0 ∨ i = 1 ∨ i = 2 ∨ i = 3 ∨ i = 4 ∨ i = 5 ∨ i = 6 := by have := HI.out; omega
    rcases hi6 with rfl | rfl | rfl | rfl | rfl | rfl | rfl
    · have xc : wr.cell? ⟨w.heap.size, 0, none⟩ = some (.string (tg 0)) := HC.out 0 (by omega)
      have hc := fun W : World => Tryd.strings_HasPrefix s (tg 0) W
      rw [HNO.out 0 (by omega)] at hc
      have HIJ := Aside0.mk (Nat.le_refl 0)
      go_wp2_with fail
      refine (hc _).mono ?_
      rintro e w' ⟨rfl, rfl⟩
      clear hc
      go_wp2_with fail
      go_roundg (6 - 0)
      case measure => have := HK.out; omega
      case rel => exact ⟨1, rfl, rfl, by first | rfl | go_num, ⟨by omega⟩, ⟨by have := HIJ.out; omega⟩, HB, HC⟩
    · have xc : wr.cell? ⟨w.heap.size, 1, none⟩ = some (.string (tg 1)) := HC.out 1 (by omega)
      have hc := fun W : World => Tryd.strings_HasPrefix s (tg 1) W
      rw [HNO.out 1 (by omega)] at hc
      have HIJ := Aside0.mk (Nat.le_refl 0)
      go_wp2_with fail
      refine (hc _).mono ?_
      rintro e w' ⟨rfl, rfl⟩
      clear hc
      go_wp2_with fail
      go_roundg (6 - 1)
      case measure => have := HK.out; omega
      case rel => exact ⟨2, rfl, rfl, by first | rfl | go_num, ⟨by omega⟩, ⟨by have := HIJ.out; omega⟩, HB, HC⟩
    · have xc : wr.cell? ⟨w.heap.size, 2, none⟩ = some (.string (tg 2)) := HC.out 2 (by omega)
      have hc := fun W : World => Tryd.strings_HasPrefix s (tg 2) W
      rw [HNO.out 2 (by omega)] at hc
      have HIJ := Aside0.mk (Nat.le_refl 0)
      go_wp2_with fail
      refine (hc _).mono ?_
      rintro e w' ⟨rfl, rfl⟩
      clear hc
      go_wp2_with fail
      go_roundg (6 - 2)
      case measure => have := HK.out; omega
      case rel => exact ⟨3, rfl, rfl, by first | rfl | go_num, ⟨by omega⟩, ⟨by have := HIJ.out; omega⟩, HB, HC⟩
    · have xc : wr.cell? ⟨w.heap.size, 3, none⟩ = some (.string (tg 3)) := HC.out 3 (by omega)
      have hc := fun W : World => Tryd.strings_HasPrefix s (tg 3) W
      rw [HNO.out 3 (by omega)] at hc
      have HIJ := Aside0.mk (Nat.le_refl 0)
      go_wp2_with fail
      refine (hc _).mono ?_
      rintro e w' ⟨rfl, rfl⟩
      clear hc
      go_wp2_with fail
      go_roundg (6 - 3)
      case measure => have := HK.out; omega
      case rel => exact ⟨4, rfl, rfl, by first | rfl | go_num, ⟨by omega⟩, ⟨by have := HIJ.out; omega⟩, HB, HC⟩
    · have xc : wr.cell? ⟨w.heap.size, 4, none⟩ = some (.string (tg 4)) := HC.out 4 (by omega)
      have hc := fun W : World => Tryd.strings_HasPrefix s (tg 4) W
      rw [HNO.out 4 (by omega)] at hc
      have HIJ := Aside0.mk (Nat.le_refl 0)
      go_wp2_with fail
      refine (hc _).mono ?_
      rintro e w' ⟨rfl, rfl⟩
      clear hc
      go_wp2_with fail
      go_roundg (6 - 4)
      case measure => have := HK.out; omega
      case rel => exact ⟨5, rfl, rfl, by first | rfl | go_num, ⟨by omega⟩, ⟨by have := HIJ.out; omega⟩, HB, HC⟩
    · have xc : wr.cell? ⟨w.heap.size, 5, none⟩ = some (.string (tg 5)) := HC.out 5 (by omega)
      have hc := fun W : World => Tryd.strings_HasPrefix s (tg 5) W
      rw [HNO.out 5 (by omega)] at hc
      have HIJ := Aside0.mk (Nat.le_refl 0)
      go_wp2_with fail
      refine (hc _).mono ?_
      rintro e w' ⟨rfl, rfl⟩
      clear hc
      go_wp2_with fail
      go_roundg (6 - 5)
      case measure => have := HK.out; omega
      case rel => exact ⟨6, rfl, rfl, by first | rfl | go_num, ⟨by omega⟩, ⟨by have := HIJ.out; omega⟩, HB, HC⟩
    · have hc := fun W : World => Tryd.strings_HasPrefix s insT W
      rw [HINS.out] at hc
      have hu32 := Tryd.underlying51
      go_wp2_with fail
      refine (hc _).mono ?_
      rintro e w' ⟨rfl, rfl⟩
      clear hc
      go_wp2_with fail
      go_ret3
      exact ⟨HB.out, rfl⟩
set_option maxHeartbeats 4000000 in
set_option maxRecDepth 100000 in
theorem pc_ins2 (s : ByteArray) (hno : ∀ i < 6, Go.Lib.hasPrefix s.data.toList (tg i).data.toList = false) (hs : s.size ≤ 1000) (w : World) (hins : Go.Lib.hasPrefix s.data.toList insT.data.toList = true) (k : Nat) (p0 p1 : ByteArray) (hsp : pq_zzSplit.f k s ⟨#[32]⟩ = some [p0, p1]) :
    Calls Tryd.prog 33 #[.string s] w fun e w' => Below w.heap.size w w' ∧
      ∃ t x, e = .returned (.tuple #[.int .i64 0, .string ⟨#[]⟩, .iface t x]) := by
  have HNO := Aside0.mk hno
  have HS := Aside0.mk hs
  have HINS := Aside0.mk hins
  have HSP := Aside0.mk hsp
  clear hins hsp
  clear hno hs
  go_enter Tryd.func33, Tryd.ntmps33
  go_wp2_with fail
  go_loopg [0, 6, 8, 16] 7 (fun kq s0 s6 s8 s16 wx => ∃ i : Nat, s0 = .string s ∧ s6 = .pointer none ∧ s16 = .int .i64 (i : Int) ∧ Aside0 (kq + i ≥ 7) ∧ Aside0 (i ≤ 6) ∧ Aside0 (Below w.heap.size w wx) ∧ Aside0 (∀ m, m < 6 → wx.cell? ⟨w.heap.size, m, none⟩ = some (.string (tg m))))
  case atStart => exact ⟨0, rfl, rfl, rfl, ⟨by omega⟩, ⟨Nat.zero_le _⟩, ⟨by first | exact below_alloc (Below.refl _ _) _ | exact Below.refl _ _⟩, ⟨by
    intro m hm
    have : m = 0 ∨ m = 1 ∨ m = 2 ∨ m = 3 ∨ m = 4 ∨ m = 5 := by omega
    rcases this with rfl | rfl | rfl | rfl | rfl | rfl <;> exact (cell_lit _ _ _ _).trans rfl⟩⟩
  case round =>
    obtain ⟨i, rfl, rfl, rfl, HK, HI, HB, HC⟩ := hrel
    have hi6 : i = 0 ∨ i = 1 ∨ i = 2 ∨ i = 3 ∨ i = 4 ∨ i = 5 ∨ i = 6 := by have := HI.out; omega
    rcases hi6 with rfl | rfl | rfl | rfl | rfl | rfl | rfl
    · have xc : wr.cell? ⟨w.heap.size, 0, none⟩ = some (.string (tg 0)) := HC.out 0 (by omega)
      have hc := fun W : World => Tryd.strings_HasPrefix s (tg 0) W
      rw [HNO.out 0 (by omega)] at hc
      have HIJ := Aside0.mk (Nat.le_refl 0)
      go_wp2_with fail
      refine (hc _).mono ?_
      rintro e w' ⟨rfl, rfl⟩
      clear hc
      go_wp2_with fail
      go_roundg (6 - 0)
      case measure => have := HK.out; omega
      case rel => exact ⟨1, rfl, rfl, by first | rfl | go_num, ⟨by omega⟩, ⟨by have := HIJ.out; omega⟩, HB, HC⟩
    · have xc : wr.cell? ⟨w.heap.size, 1, none⟩ = some (.string (tg 1)) := HC.out 1 (by omega)
      have hc := fun W : World => Tryd.strings_HasPrefix s (tg 1) W
      rw [HNO.out 1 (by omega)] at hc
      have HIJ := Aside0.mk (Nat.le_refl 0)
      go_wp2_with fail
      refine (hc _).mono ?_
      rintro e w' ⟨rfl, rfl⟩
      clear hc
      go_wp2_with fail
      go_roundg (6 - 1)
      case measure => have := HK.out; omega
      case rel => exact ⟨2, rfl, rfl, by first | rfl | go_num, ⟨by omega⟩, ⟨by have := HIJ.out; omega⟩, HB, HC⟩
    · have xc : wr.cell? ⟨w.heap.size, 2, none⟩ = some (.string (tg 2)) := HC.out 2 (by omega)
      have hc := fun W : World => Tryd.strings_HasPrefix s (tg 2) W
      rw [HNO.out 2 (by omega)] at hc
      have HIJ := Aside0.mk (Nat.le_refl 0)
      go_wp2_with fail
      refine (hc _).mono ?_
      rintro e w' ⟨rfl, rfl⟩
      clear hc
      go_wp2_with fail
      go_roundg (6 - 2)
      case measure => have := HK.out; omega
      case rel => exact ⟨3, rfl, rfl, by first | rfl | go_num, ⟨by omega⟩, ⟨by have := HIJ.out; omega⟩, HB, HC⟩
    · have xc : wr.cell? ⟨w.heap.size, 3, none⟩ = some (.string (tg 3)) := HC.out 3 (by omega)
      have hc := fun W : World => Tryd.strings_HasPrefix s (tg 3) W
      rw [HNO.out 3 (by omega)] at hc
      have HIJ := Aside0.mk (Nat.le_refl 0)
      go_wp2_with fail
      refine (hc _).mono ?_
      rintro e w' ⟨rfl, rfl⟩
      clear hc
      go_wp2_with fail
      go_roundg (6 - 3)
      case measure => have := HK.out; omega
      case rel => exact ⟨4, rfl, rfl, by first | rfl | go_num, ⟨by omega⟩, ⟨by have := HIJ.out; omega⟩, HB, HC⟩
    · have xc : wr.cell? ⟨w.heap.size, 4, none⟩ = some (.string (tg 4)) := HC.out 4 (by omega)
      have hc := fun W : World => Tryd.strings_HasPrefix s (tg 4) W
      rw [HNO.out 4 (by omega)] at hc
      have HIJ := Aside0.mk (Nat.le_refl 0)
      go_wp2_with fail
      refine (hc _).mono ?_
      rintro e w' ⟨rfl, rfl⟩
      clear hc
      go_wp2_with fail
      go_roundg (6 - 4)
      case measure => have := HK.out; omega
      case rel => exact ⟨5, rfl, rfl, by first | rfl | go_num, ⟨by omega⟩, ⟨by have := HIJ.out; omega⟩, HB, HC⟩
    · have xc : wr.cell? ⟨w.heap.size, 5, none⟩ = some (.string (tg 5)) := HC.out 5 (by omega)
      have hc := fun W : World => Tryd.strings_HasPrefix s (tg 5) W
      rw [HNO.out 5 (by omega)] at hc
      have HIJ := Aside0.mk (Nat.le_refl 0)
      go_wp2_with fail
      refine (hc _).mono ?_
      rintro e w' ⟨rfl, rfl⟩
      clear hc
      go_wp2_with fail
      go_roundg (6 - 5)
      case measure => have := HK.out; omega
      case rel => exact ⟨6, rfl, rfl, by first | rfl | go_num, ⟨by omega⟩, ⟨by have := HIJ.out; omega⟩, HB, HC⟩
    · have hc := fun W : World => Tryd.strings_HasPrefix s insT W
      rw [HINS.out] at hc
      have hu32 := Tryd.underlying51
      go_wp2_with fail
      refine (hc _).mono ?_
      rintro e w' ⟨rfl, rfl⟩
      clear hc
      go_wp2_with fail
      refine (pq_zzSplit.calls _ _ _ _ _ HSP.out).mono ?_
      rintro e w' ⟨v0, rfl, hR, hb⟩
      obtain ⟨A2, c2, e2, hc2, HC2⟩ := Kd.R_reads hR
      subst e2
      have HBW := Aside0.mk (below_step HB.out hb)
      clear hR hb
      clear HC2
      go_wp2_with fail
      refine (errors_New_plain _ _).mono ?_
      rintro e w'' ⟨⟨t2, x2, rfl⟩, hb2⟩
      have HB3 := Aside0.mk (below_step HBW.out hb2)
      clear hb2
      go_wp2_with fail
      go_ret3
      exact ⟨HB3.out, _, _, rfl⟩
set_option maxHeartbeats 4000000 in
set_option maxRecDepth 100000 in
theorem pc_ins3 (s : ByteArray) (hno : ∀ i < 6, Go.Lib.hasPrefix s.data.toList (tg i).data.toList = false) (hs : s.size ≤ 1000) (w : World) (hins : Go.Lib.hasPrefix s.data.toList insT.data.toList = true) (k : Nat) (p0 p1 p2 : ByteArray) (hsp : pq_zzSplit.f k s ⟨#[32]⟩ = some [p0, p1, p2]) (te : TypeId) (xe : Value) (hE : w.cell? ⟨5, 0, none⟩ = some (.iface te xe)) (hres : Go.Lib.parseIntB 64 p2.data.toList ≠ .range) (hp2 : p2.size ≤ 1000) :
    Calls Tryd.prog 33 #[.string s] w fun e w' => Below w.heap.size w w' ∧
      (∀ v, Go.Lib.parseIntB 64 (p2).data.toList = .ok v → e = .returned (.tuple #[.int .i64 v, .string (⟨#[73, 78, 83, 69, 82, 84]⟩), .nilIface])) ∧
      (Go.Lib.parseIntB 64 (p2).data.toList = .syntax → ∃ t x, e = .returned (.tuple #[.int .i64 0, .string ⟨#[]⟩, .iface t x])) := by
  have HNO := Aside0.mk hno
  have HS := Aside0.mk hs
  have HINS := Aside0.mk hins
  have HSP := Aside0.mk hsp
  have HE := Aside0.mk hE
  have HRES := Aside0.mk hres
  have HP2 := Aside0.mk hp2
  clear hins hsp hE hres hp2
  clear hno hs
  go_enter Tryd.func33, Tryd.ntmps33
  go_wp2_with fail
  go_loopg [0, 6, 8, 16] 7 (fun kq s0 s6 s8 s16 wx => ∃ i : Nat, s0 = .string s ∧ s6 = .pointer none ∧ s16 = .int .i64 (i : Int) ∧ Aside0 (kq + i ≥ 7) ∧ Aside0 (i ≤ 6) ∧ Aside0 (Below w.heap.size w wx) ∧ Aside0 (∀ m, m < 6 → wx.cell? ⟨w.heap.size, m, none⟩ = some (.string (tg m))))
  case atStart => exact ⟨0, rfl, rfl, rfl, ⟨by omega⟩, ⟨Nat.zero_le _⟩, ⟨by first | exact below_alloc (Below.refl _ _) _ | exact Below.refl _ _⟩, ⟨by
    intro m hm
    have : m = 0 ∨ m = 1 ∨ m = 2 ∨ m = 3 ∨ m = 4 ∨ m = 5 := by omega
    rcases this with rfl | rfl | rfl | rfl | rfl | rfl <;> exact (cell_lit _ _ _ _).trans rfl⟩⟩
  case round =>
    obtain ⟨i, rfl, rfl, rfl, HK, HI, HB, HC⟩ := hrel
    have hi6 : i = 0 ∨ i = 1 ∨ i = 2 ∨ i = 3 ∨ i = 4 ∨ i = 5 ∨ i = 6 := by have := HI.out; omega
    rcases hi6 with rfl | rfl | rfl | rfl | rfl | rfl | rfl
    · have xc : wr.cell? ⟨w.heap.size, 0, none⟩ = some (.string (tg 0)) := HC.out 0 (by omega)
      have hc := fun W : World => Tryd.strings_HasPrefix s (tg 0) W
      rw [HNO.out 0 (by omega)] at hc
      have HIJ := Aside0.mk (Nat.le_refl 0)
      go_wp2_with fail
      refine (hc _).mono ?_
      rintro e w' ⟨rfl, rfl⟩
      clear hc
      go_wp2_with fail
      go_roundg (6 - 0)
      case measure => have := HK.out; omega
      case rel => exact ⟨1, rfl, rfl, by first | rfl | go_num, ⟨by omega⟩, ⟨by have := HIJ.out; omega⟩, HB, HC⟩
    · have xc : wr.cell? ⟨w.heap.size, 1, none⟩ = some (.string (tg 1)) := HC.out 1 (by omega)
      have hc := fun W : World => Tryd.strings_HasPrefix s (tg 1) W
      rw [HNO.out 1 (by omega)] at hc
      have HIJ := Aside0.mk (Nat.le_refl 0)
      go_wp2_with fail
      refine (hc _).mono ?_
      rintro e w' ⟨rfl, rfl⟩
      clear hc
      go_wp2_with fail
      go_roundg (6 - 1)
      case measure => have := HK.out; omega
      case rel => exact ⟨2, rfl, rfl, by first | rfl | go_num, ⟨by omega⟩, ⟨by have := HIJ.out; omega⟩, HB, HC⟩
    · have xc : wr.cell? ⟨w.heap.size, 2, none⟩ = some (.string (tg 2)) := HC.out 2 (by omega)
      have hc := fun W : World => Tryd.strings_HasPrefix s (tg 2) W
      rw [HNO.out 2 (by omega)] at hc
      have HIJ := Aside0.mk (Nat.le_refl 0)
      go_wp2_with fail
      refine (hc _).mono ?_
      rintro e w' ⟨rfl, rfl⟩
      clear hc
      go_wp2_with fail
      go_roundg (6 - 2)
      case measure => have := HK.out; omega
      case rel => exact ⟨3, rfl, rfl, by first | rfl | go_num, ⟨by omega⟩, ⟨by have := HIJ.out; omega⟩, HB, HC⟩
    · have xc : wr.cell? ⟨w.heap.size, 3, none⟩ = some (.string (tg 3)) := HC.out 3 (by omega)
      have hc := fun W : World => Tryd.strings_HasPrefix s (tg 3) W
      rw [HNO.out 3 (by omega)] at hc
      have HIJ := Aside0.mk (Nat.le_refl 0)
      go_wp2_with fail
      refine (hc _).mono ?_
      rintro e w' ⟨rfl, rfl⟩
      clear hc
      go_wp2_with fail
      go_roundg (6 - 3)
      case measure => have := HK.out; omega
      case rel => exact ⟨4, rfl, rfl, by first | rfl | go_num, ⟨by omega⟩, ⟨by have := HIJ.out; omega⟩, HB, HC⟩
    · have xc : wr.cell? ⟨w.heap.size, 4, none⟩ = some (.string (tg 4)) := HC.out 4 (by omega)
      have hc := fun W : World => Tryd.strings_HasPrefix s (tg 4) W
      rw [HNO.out 4 (by omega)] at hc
      have HIJ := Aside0.mk (Nat.le_refl 0)
      go_wp2_with fail
      refine (hc _).mono ?_
      rintro e w' ⟨rfl, rfl⟩
      clear hc
      go_wp2_with fail
      go_roundg (6 - 4)
      case measure => have := HK.out; omega
      case rel => exact ⟨5, rfl, rfl, by first | rfl | go_num, ⟨by omega⟩, ⟨by have := HIJ.out; omega⟩, HB, HC⟩
    · have xc : wr.cell? ⟨w.heap.size, 5, none⟩ = some (.string (tg 5)) := HC.out 5 (by omega)
      have hc := fun W : World => Tryd.strings_HasPrefix s (tg 5) W
      rw [HNO.out 5 (by omega)] at hc
      have HIJ := Aside0.mk (Nat.le_refl 0)
      go_wp2_with fail
      refine (hc _).mono ?_
      rintro e w' ⟨rfl, rfl⟩
      clear hc
      go_wp2_with fail
      go_roundg (6 - 5)
      case measure => have := HK.out; omega
      case rel => exact ⟨6, rfl, rfl, by first | rfl | go_num, ⟨by omega⟩, ⟨by have := HIJ.out; omega⟩, HB, HC⟩
    · have hc := fun W : World => Tryd.strings_HasPrefix s insT W
      rw [HINS.out] at hc
      have hu32 := Tryd.underlying51
      go_wp2_with fail
      refine (hc _).mono ?_
      rintro e w' ⟨rfl, rfl⟩
      clear hc
      go_wp2_with fail
      refine (pq_zzSplit.calls _ _ _ _ _ HSP.out).mono ?_
      rintro e w' ⟨v0, rfl, hR, hb⟩
      obtain ⟨A2, c2, e2, hc2, HC2⟩ := Kd.R_reads hR
      subst e2
      have HBW := Aside0.mk (below_step HB.out hb)
      clear hR hb
      obtain ⟨ad, cs, rfl, hcl, hK, hcell⟩ := ReadsRow.get_ HC2 (⟨#[]⟩ : ByteArray) (2 : Int) (by omega) (by simp)
      have xc2 : w'.cell? ⟨ad.block, ad.off + 2, none⟩ = some (.string p2) := hcell 0 _ (by rw [hK]; rfl)
      clear HC2 hcl hK hcell
      go_wp2_with fail
      refine (parseInt_all _ HP2.out HRES.out w _ te xe HBW.out HE.out).mono ?_
      rintro e w' ⟨hb, ⟨v, hv, rfl⟩ | ⟨hv, t, x, rfl⟩⟩
      · have HV := Aside0.mk hv
        have HB2 := Aside0.mk hb
        clear hv hb
        go_wp2_with fail
        go_ret3
        refine ⟨HB2.out, fun v' h => ?_, fun h => ?_⟩
        · rw [HV.out] at h; injection h with h; subst h; rfl
        · rw [HV.out] at h; cases h
      · have HV := Aside0.mk hv
        have HB2 := Aside0.mk hb
        clear hv hb
        go_wp2_with fail
        refine (errors_New_plain _ _).mono ?_
        rintro e w'' ⟨⟨t2, x2, rfl⟩, hb2⟩
        have HB3 := Aside0.mk (below_step HB2.out hb2)
        clear hb2
        go_wp2_with fail
        go_ret3
        refine ⟨HB3.out, fun v' h => ?_, fun h => ?_⟩
        · rw [HV.out] at h; cases h
        · exact ⟨_, _, rfl⟩
end Go.Proofs.YthcikkjjegfblacDoor.P
