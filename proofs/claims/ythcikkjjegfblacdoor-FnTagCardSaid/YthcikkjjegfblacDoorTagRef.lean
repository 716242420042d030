/- FnTagRefused's walk. Conditions: what the listed variables hold is named. -/
import Derived.Test.YthcikkjjegfblacDoorTagLaw
namespace Go.Proofs.YthcikkjjegfblacDoor.Lib
open Go.RowKit Go.Proofs.YthcikkjjegfblacDoor.P Go.Proofs.YthcikkjjegfblacDoorW.PrintWords Go.Proofs.YthcikkjjegfblacDoorW.PrintLast Go.Proofs.YthcikkjjegfblacDoorW.PrintMore
set_option linter.unusedVariables false
set_option linter.unusedSimpArgs false
theorem bytes_inj {a b : ByteArray} (h : bytesOf a = bytesOf b) : a = b := by
  have h1 : a.data.toList = b.data.toList := (List.map_inj_right (fun x y h => UInt8.toNat_inj.1 (by omega))).1 h
  exact ByteArray.ext (Array.toList_inj.1 h1)
theorem toList_none {a : ByteArray} (h : a.toList = ([] : List UInt8)) : a.size = 0 := by
  have h2 := (toList_eq_iff (a := a) (b := ⟨#[]⟩)).1 (by rw [h, ByteArray.toList_eq])
  rw [← bytesOf_length, h2]; rfl
theorem drop_text (A X : ByteArray) : (A ++ X).extract A.size (A ++ X).size = X := by
  apply bytes_inj
  have h : (A ++ X).size = A.size + X.size := by rw [← bytesOf_length, append_bytes, List.length_append, bytesOf_length, bytesOf_length]
  rw [bytesOf_extract, append_bytes, List.take_of_length_le (by rw [List.length_append, bytesOf_length, bytesOf_length, h]; omega)]
  rw [List.drop_left' (bytesOf_length A)]
theorem list_append (A X : ByteArray) : (A ++ X).data.toList = A.data.toList ++ X.data.toList := by simp
def U7 : ByteArray := ⟨#[85, 80, 68, 65, 84, 69, 32]⟩
def I7 : ByteArray := ⟨#[73, 78, 83, 69, 82, 84, 32]⟩
theorem upd_no (X : ByteArray) : ∀ i < 1, Go.Lib.hasPrefix (U7 ++ X).data.toList (tg i).data.toList = false := by
  intro i hi
  obtain rfl : i = 0 := by omega
  rw [list_append]; rfl
theorem upd_yes (X : ByteArray) : Go.Lib.hasPrefix (U7 ++ X).data.toList (tg 1).data.toList = true := by
  rw [list_append]; rfl
theorem ins_no (X : ByteArray) : ∀ i < 6, Go.Lib.hasPrefix (I7 ++ X).data.toList (tg i).data.toList = false := by
  intro i hi
  have : i = 0 ∨ i = 1 ∨ i = 2 ∨ i = 3 ∨ i = 4 ∨ i = 5 := by omega
  rcases this with rfl | rfl | rfl | rfl | rfl | rfl <;> (rw [list_append]; rfl)
theorem ins_yes (X : ByteArray) : Go.Lib.hasPrefix (I7 ++ X).data.toList insT.data.toList = true := by
  rw [list_append]; rfl
theorem app_size (A X : ByteArray) : (A ++ X).size = A.size + X.size := by rw [← bytesOf_length, append_bytes, List.length_append, bytesOf_length, bytesOf_length]
theorem tag_letters (X : ByteArray) (h0 : 0 < X.size) (h1 : X.size ≤ 50) (hl : 97 ≤ bt X 0) (w : World) (te : TypeId) (xe : Value) (hE : w.cell? ⟨5, 0, none⟩ = some (.iface te xe)) :
    Calls Tryd.prog 15 #[.string (U7 ++ X)] w fun e w' => Below w.heap.size w w' ∧ e = .returned (.tuple #[.string ⟨#[]⟩, .int .i64 0, .bool false]) := by
  have hd : (U7 ++ X).extract (tg 1).size (U7 ++ X).size = X := drop_text U7 X
  have hp : Go.Lib.parseIntB 64 X.data.toList = .syntax := by
    cases hX : X.data.toList with
    | nil => have : X.size = X.data.toList.length := by simp
             rw [hX, List.length_nil] at this; omega
    | cons c r =>
      refine parse_letters c r ?_
      have h2 : (0 : Int).toNat < X.size := h0
      have h3 := bt_at X 0 h2
      have h4 : X[(0 : Int).toNat]'h2 = c := by
        have : X.data.toList[0]? = some c := by rw [hX]; rfl
        have h5 : X.data[0]? = some c := by simpa using this
        exact (Array.getElem?_eq_some_iff.1 h5).2
      rw [h4] at h3
      omega
  refine tag_bad _ w ((pc_hit (U7 ++ X) 1 (by omega) (upd_no X) (upd_yes X) (by rw [app_size]; have : U7.size = 7 := rfl; omega) w te xe hE (by rw [hd, hp]; intro h; cases h)).mono ?_)
  rintro e w' ⟨hb, _, h⟩
  exact ⟨hb, h (by rw [hd, hp])⟩
theorem tag_ins (X : ByteArray) (h1 : X.size ≤ 50) (hX : (32 : Int) ∉ bytesOf X) (w : World) :
    Calls Tryd.prog 15 #[.string (I7 ++ X)] w fun e w' => Below w.heap.size w w' ∧ e = .returned (.tuple #[.string ⟨#[]⟩, .int .i64 0, .bool false]) := by
  have hs : (I7 ++ X).size ≤ 1000 := by rw [app_size]; have : I7.size = 7 := rfl; omega
  have hb : bytesOf (I7 ++ X) = [73, 78, 83, 69, 82, 84] ++ 32 :: bytesOf X := by rw [append_bytes]; rfl
  have hd : (I7 ++ X).extract 7 (I7 ++ X).size = X := drop_text I7 X
  obtain ⟨k, hk⟩ := (spl_step (I7 ++ X) hs [] (by simp) [73, 78, 83, 69, 82, 84] (bytesOf X) hb (by decide) _ (by
    show Ev (fun k => pq_zzSplit.l1 k ((I7 ++ X).extract 7 (I7 ++ X).size) _ _) _
    rw [hd]
    exact spl_end X (by omega) _ (by simp) hX)).rounds
  refine tag_bad _ w ((pc_ins2 (I7 ++ X) (ins_no X) hs w (ins_yes X) k _ _ (by unfold pq_zzSplit.f; rw [if_neg (by decide)]; exact hk)).mono ?_)
  rintro e w' ⟨hb, h⟩
  exact ⟨hb, h⟩
theorem hit_no (X : ByteArray) (j : Nat) (hj : j < 6) : ∀ i < j, Go.Lib.hasPrefix (tg j ++ X).data.toList (tg i).data.toList = false := by
  intro i hi
  rw [list_append]
  have hj6 : j = 0 ∨ j = 1 ∨ j = 2 ∨ j = 3 ∨ j = 4 ∨ j = 5 := by omega
  have hi5 : i = 0 ∨ i = 1 ∨ i = 2 ∨ i = 3 ∨ i = 4 := by omega
  rcases hj6 with rfl | rfl | rfl | rfl | rfl | rfl <;> rcases hi5 with rfl | rfl | rfl | rfl | rfl <;> first | rfl | omega
theorem hit_yes (X : ByteArray) (j : Nat) : Go.Lib.hasPrefix (tg j ++ X).data.toList (tg j).data.toList = true := by
  rw [list_append]
  exact List.isPrefixOf_iff_prefix.2 (List.prefix_append _ _)
theorem tag_hit (X : ByteArray) (j : Nat) (hj : j < 6) (v : Int) (h1 : X.size ≤ 50) (hp : Go.Lib.parseIntB 64 X.data.toList = .ok v) (w : World) (te : TypeId) (xe : Value) (hE : w.cell? ⟨5, 0, none⟩ = some (.iface te xe)) :
    Calls Tryd.prog 15 #[.string (tg j ++ X)] w fun e w' => Below w.heap.size w w' ∧ e = .returned (.tuple #[.string ((tg j).extract 0 ((tg j).size - 1)), .int .i64 v, .bool true]) := by
  have hd : (tg j ++ X).extract (tg j).size (tg j ++ X).size = X := drop_text (tg j) X
  have hs : (tg j).size ≤ 7 := by
    have : j = 0 ∨ j = 1 ∨ j = 2 ∨ j = 3 ∨ j = 4 ∨ j = 5 := by omega
    rcases this with rfl | rfl | rfl | rfl | rfl | rfl <;> decide
  refine tag_ok _ _ _ w ((pc_hit (tg j ++ X) j hj (hit_no X j hj) (hit_yes X j) (by rw [app_size]; omega) w te xe hE (by rw [hd, hp]; intro h; cases h)).mono ?_)
  rintro e w' ⟨hb, h, _⟩
  exact ⟨hb, h v (by rw [hd, hp])⟩
theorem tag_one (w : World) (te : TypeId) (xe : Value) (hE : w.cell? ⟨5, 0, none⟩ = some (.iface te xe)) :
    Calls Tryd.prog 15 #[.string ⟨#[85, 80, 68, 65, 84, 69, 32, 49]⟩] w fun e w' => Below w.heap.size w w' ∧ e = .returned (.tuple #[.string ((tg 1).extract 0 ((tg 1).size - 1)), .int .i64 1, .bool true]) := by
  obtain ⟨X, hX⟩ : ∃ X : ByteArray, X = num 1 := ⟨_, rfl⟩
  have h1 : Go.Lib.itoa 1 = [49] := by
    show Go.Lib.itoa ((1 : Nat) : Int) = _
    rw [Go.Lib.itoa_nonneg, Go.Lib.decDigits_one (by omega)]; rfl
  have hX1 : X = ⟨#[49]⟩ := by rw [hX]; unfold num; rw [h1]
  have ht : (⟨#[85, 80, 68, 65, 84, 69, 32, 49]⟩ : ByteArray) = tg 1 ++ X := by rw [hX1]; decide +kernel
  rw [ht]
  exact tag_hit X 1 (by omega) 1 (by rw [hX1]; decide) (by rw [hX]; exact parse_itoa 1 (by omega) (by omega)) w te xe hE
set_option maxHeartbeats 4000000 in
set_option maxRecDepth 100000 in
theorem ref_main (a0 : ByteArray) (a1 : Int) (w : World) (te : TypeId) (xe : Value) (hE : w.cell? ⟨5, 0, none⟩ = some (.iface te xe)) (hT : Tab w) (h0 : 0 ≤ a1) (h1 : a1 < 4294967296) (g0 : 0 < a0.size) (g50 : a0.size ≤ 50) :
    Calls Tryd.prog 5 #[.string a0, .int .u32 a1] w fun e w' => e = .returned (.bool true) ∧ Below w.heap.size w w' := by
  have hcell : ∀ W, Below w.heap.size w W → W.cell? ⟨5, 0, none⟩ = some (.iface te xe) := fun W hB => (hB.cell (show (5 : Nat) < w.heap.size from Go.Lib.lt_of_cell hE)).trans hE
  have k1 : ∀ W, Below w.heap.size w W → 97 ≤ bt a0 0 → _ := fun W hB hl => tag_letters a0 g0 g50 hl W te xe (hcell W hB)
  have k2 : ∀ W, Below w.heap.size w W → _ := fun W hB => number a1 (by omega) (by omega) W (tab_below hT hB)
  have k3 : ∀ W : World, _ := fun W => tag_ins (num a1) (by have := num_size a1 h0 (by omega); omega) (num_no32 a1 h0) W
  have k4 : ∀ W, Below w.heap.size w W → _ := fun W hB => tag_one W te xe (hcell W hB)
  have K1 := Aside0.mk k1
  have K2 := Aside0.mk k2
  have K3 := Aside0.mk k3
  have K4 := Aside0.mk k4
  have G0 := Aside0.mk g0
  have G50 := Aside0.mk g50
  have hw : wrap64 a1 = a1 := wrap64_id (by omega) (by omega)
  have n0 : decide (7 + (num a1).size ≤ 9223372036854775807) = true := decide_eq_true (by have := num_size a1 h0 (by omega); omega)
  have n1 : (7 + (num a1).size ≤ 9223372036854775807) = True := eq_true (by have := num_size a1 h0 (by omega); omega)
  have n2 : (9223372036854775807 < 7 + (num a1).size) = False := eq_false (by have := num_size a1 h0 (by omega); omega)
  have m0 : decide (7 + a0.size ≤ 9223372036854775807) = true := decide_eq_true (by omega)
  have m1 : (7 + a0.size ≤ 9223372036854775807) = True := eq_true (by omega)
  have m2 : (9223372036854775807 < 7 + a0.size) = False := eq_false (by omega)
  have c3b0 : decide (2147483647 < (a0.size : Int)) = false := decide_eq_false (by omega)
  have c3b1 : decide (2147483647 < a0.size) = false := decide_eq_false (by omega)
  have c5 : a0.toList ≠ ([] : List UInt8) := by
    intro h
    have := toList_none h
    omega
  have c5b0 : (a0.toList == ([] : List UInt8)) = false := beq_eq_false_iff_ne.mpr c5
  have c5b1 : (a0.toList != ([] : List UInt8)) = true := bne_iff_ne.mpr c5
  have c6b0 : decide (50 < (a0.size : Int)) = false := decide_eq_false (by omega)
  have c6b1 : decide (50 < a0.size) = false := decide_eq_false (by omega)
  clear k1 k2 k3 k4 hcell hE hT h0 h1 g50 c5
  go_enter Tryd.func5, Tryd.ntmps5
  go_wp2_with fail
  go_loopg [5] (a0.size + 1) (fun kq v5 wx => ∃ x : Int, v5 = .int .i64 x ∧ Aside0 (0 ≤ x) ∧ Aside0 (x ≤ a0.size) ∧ Aside0 ((kq : Int) + x ≥ a0.size + 1) ∧ Aside0 (x = 0 ∨ 97 ≤ bt a0 0) ∧ Aside0 (Below w.heap.size w wx))
  case atStart => exact ⟨0, rfl, ⟨by omega⟩, ⟨by omega⟩, ⟨by omega⟩, ⟨.inl rfl⟩, ⟨by repeat (first | (with_reducible first | exact Below.refl _ _ | apply below_alloc | apply pw_below_drewN | apply below_drew1) | exact Below.refl _ _)⟩⟩
  case round =>
    clear c3b0 c3b1 c5b0 c5b1 c6b0 c6b1
    obtain ⟨x, rfl, HX0, HX1, HK, HL, HB⟩ := hrel
    by_cases c7 : x < (a0.size : Int)
    · have c7b0 : decide (x < (a0.size : Int)) = true := decide_eq_true c7
      have c8b0 : decide (0 ≤ x) = true := decide_eq_true HX0.out
      have hx9 := bt_at a0 x
      have p9 := eq_true HX0.out
      have q9 := eq_true c7
      by_cases c10 : bt a0 x < 97
      · have c10b0 : decide (bt a0 x < 97) = true := decide_eq_true c10
        clear c10 c7
        go_wp2_with fail
        go_ret
        exact ⟨rfl, by repeat (first | (with_reducible first | exact HB.out | apply below_alloc | apply pw_below_drewN | apply below_drew1) | exact HB.out)⟩
      · have c10b0 : decide (bt a0 x < 97) = false := decide_eq_false c10
        by_cases c12 : bt a0 x > 122
        · have c12b0 : decide (122 < bt a0 x) = true := decide_eq_true c12
          clear c10 c12 c7
          go_wp2_with fail
          go_ret
          exact ⟨rfl, by repeat (first | (with_reducible first | exact HB.out | apply below_alloc | apply pw_below_drewN | apply below_drew1) | exact HB.out)⟩
        · have c12b0 : decide (122 < bt a0 x) = false := decide_eq_false c12
          have HL2 : Aside0 (x + 1 = 0 ∨ 97 ≤ bt a0 0) := ⟨.inr (by
            rcases HL.out with h | h
            · rw [h] at c10; omega
            · exact h)⟩
          have hx1 : wrap64 (x + 1) = x + 1 := wrap64_id (by have := HX0.out; omega) (by have := G50.out; omega)
          have HX1 : Aside0 (x + 1 ≤ a0.size) := ⟨by omega⟩
          have HXK : Aside0 (((gk : Int) - 1) + (x + 1) ≥ a0.size + 1 ∧ 0 < gk) := ⟨by have := HK.out; omega, by have := HK.out; omega⟩
          clear c10 c12 c7
          go_wp2_with fail
          go_roundg (gk - 1)
          case measure => have := HXK.out; omega
          case rel => exact ⟨x + 1, by first | rfl | go_num, ⟨by have := HX0.out; omega⟩, HX1, ⟨by have := HXK.out; omega⟩, HL2, ⟨by repeat (first | (with_reducible first | exact HB.out | apply below_alloc | apply pw_below_drewN | apply below_drew1) | exact HB.out)⟩⟩
    · have c7b0 : decide (x < (a0.size : Int)) = false := decide_eq_false c7
      have hl : 97 ≤ bt a0 0 := by
        rcases HL.out with h | h
        · have := G0.out; omega
        · exact h
      have HL2 := Aside0.mk hl
      clear hl c7 HL
      go_wp2_with fail
      refine (K1.out _ HB.out HL2.out).mono ?_
      rintro e w1 ⟨hb1, rfl⟩
      have HB1 := Aside0.mk (below_step HB.out hb1)
      clear hb1
      go_wp2_with fail
      refine (K2.out _ HB1.out).mono ?_
      rintro e w2 ⟨rfl, hb2⟩
      have HB2 := Aside0.mk (below_step HB1.out hb2)
      clear hb2
      go_wp2_with fail
      refine (K3.out _).mono ?_
      rintro e w3 ⟨hb3, rfl⟩
      have HB3 := Aside0.mk (below_step HB2.out hb3)
      clear hb3
      go_wp2_with fail
      refine (K4.out _ HB3.out).mono ?_
      rintro e w4 ⟨hb4, rfl⟩
      have HB4 := Aside0.mk (below_step HB3.out hb4)
      clear hb4
      go_wp2_with fail
      go_ret
      exact ⟨rfl, by repeat (first | (with_reducible first | exact HB4.out | apply below_alloc | apply pw_below_drewN | apply below_drew1) | exact HB4.out)⟩
theorem ref_walk (a0 : ByteArray) (a1 : Int) (w : World) (hE : ∃ te xe, w.cell? ⟨5, 0, none⟩ = some (.iface te xe)) (hT : Tab w) (h1 : (Lit.int .u32 a1).wf = true) :
    Calls Tryd.prog 5 #[.string a0, .int .u32 a1] w fun e w' => e = .returned (.bool true) ∧ Below w.heap.size w w' := by
  obtain ⟨te, xe, hE⟩ := hE
  have hr : 0 ≤ a1 ∧ a1 < 4294967296 := by
    have h2 : IntKind.u32.min ≤ a1 ∧ a1 ≤ IntKind.u32.max := by simpa [Lit.wf] using h1
    have e1 : IntKind.u32.min = 0 := rfl
    have e2 : IntKind.u32.max = 4294967295 := rfl
    omega
  by_cases g50 : a0.size ≤ 50
  · by_cases g0 : 0 < a0.size
    · exact ref_main a0 a1 w te xe hE hT hr.1 hr.2 g0 g50
    · refine laws_FnTagRefused.calls 1 a0 a1 true w ?_
      have he : a0.toList = ([] : List UInt8) := by
        have : a0 = ⟨#[]⟩ := bytes_inj (by rw [List.length_eq_zero_iff.1 (show (bytesOf a0).length = 0 by rw [bytesOf_length]; omega)]; rfl)
        rw [this, ByteArray.toList_eq]
      unfold laws_FnTagRefused.f
      rw [if_neg (by omega), if_pos he]
      rfl
  · refine laws_FnTagRefused.calls 1 a0 a1 true w ?_
    unfold laws_FnTagRefused.f
    split
    · rfl
    · split
      · rfl
      · rw [decide_eq_true (by omega)]; rfl
/-! ### what the listed variables give -/
theorem gES : Tryd.prog.globalNamed "strconv.ErrSyntax" = some 5 := by kernel_rfl
theorem star : "*" ++ "errors.errorString" = "*errors.errorString" := by decide
theorem row_es (u : TypeId) (h : Tryd.prog.typeName? 3 u = some "*errors.errorString") : u = 103 :=
  typeName_ptr_named (nm := "errors.errorString") (by rw [star]; kernel_rfl) (by kernel_rfl) (by decide) u (by rw [star]; exact h)
theorem tab_of {W : World} {D : DataW Unit} {r : List (String × DataW Unit)} (h : laidMet Tryd.prog (("internal/strconv.uint64pow10", D) :: r) W) (hD : D = Go.Lib.tabData .u64 Go.Lib.pow10Tab) : Tab W := by
  subst hD
  exact Go.Lib.tabIs_of_head (g := 1) (t := 99) (e := 82) (n := 20) (by kernel_rfl) (by kernel_rfl) Tryd.underlying99 Tryd.underlying82 (by kernel_rfl) (by kernel_rfl) h
theorem errsyn_cell {W : World} {text : List UInt8} {r : List (String × DataW Unit)} (h : laidMet Tryd.prog (("strconv.ErrSyntax", .iface "*errors.errorString" (.ptr (.agg [.lit (.string text)]))) :: r) W) : ∃ te xe, W.cell? ⟨5, 0, none⟩ = some (.iface te xe) := by
  obtain ⟨a0, s0, hv0, -, -, -⟩ := laid_sentinel h gES (ti := 51) (by kernel_rfl) Tryd.underlying51 row_es Tryd.underlying103 Tryd.underlying105 rfl rfl Tryd.underlying9 (by kernel_rfl) (by kernel_rfl)
  exact ⟨_, _, by simpa using World.var?_cell gES hv0 0⟩
end Go.Proofs.YthcikkjjegfblacDoor.Lib
