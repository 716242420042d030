/- FnTag's walk, for each of the nine names. Conditions: what the listed variables hold is named. -/
import Derived.Test.YthcikkjjegfblacDoorTagRef
import Derived.Test.YthcikkjjegfblacDoorPx5
namespace Go.Proofs.YthcikkjjegfblacDoor.Lib
open Go.RowKit Go.Proofs.YthcikkjjegfblacDoor.P Go.Proofs.YthcikkjjegfblacDoorW.PrintWords Go.Proofs.YthcikkjjegfblacDoorW.PrintLast Go.Proofs.YthcikkjjegfblacDoorW.PrintMore
set_option linter.unusedVariables false
set_option linter.unusedSimpArgs false
theorem other_tag (s : ByteArray) (hno : ∀ i < 6, Go.Lib.hasPrefix s.data.toList (tg i).data.toList = false) (hins : Go.Lib.hasPrefix s.data.toList insT.data.toList = false) (hs : s.size ≤ 1000) (w : World) :
    Calls Tryd.prog 15 #[.string s] w fun e w' => Below w.heap.size w w' ∧ e = .returned (.tuple #[.string s, .int .i64 0, .bool true]) :=
  tag_ok _ _ _ w (pc_other s hno hs w hins)
theorem ins_tag (X Y : ByteArray) (hX : X.size ≤ 50) (hY : Y.size ≤ 50) (h1 : (32 : Int) ∉ bytesOf X) (h2 : (32 : Int) ∉ bytesOf Y) (v : Int) (hp : Go.Lib.parseIntB 64 Y.data.toList = .ok v) (w : World) (te : TypeId) (xe : Value) (hE : w.cell? ⟨5, 0, none⟩ = some (.iface te xe)) :
    Calls Tryd.prog 15 #[.string (((I7 ++ X) ++ ⟨#[32]⟩) ++ Y)] w fun e w' => Below w.heap.size w w' ∧ e = .returned (.tuple #[.string ⟨#[73, 78, 83, 69, 82, 84]⟩, .int .i64 v, .bool true]) := by
  have e1 : ((I7 ++ X) ++ ⟨#[32]⟩) ++ Y = I7 ++ (X ++ (⟨#[32]⟩ ++ Y)) := by apply bytes_inj; simp only [append_bytes, List.append_assoc]
  rw [e1]
  obtain ⟨R, hR⟩ : ∃ R : ByteArray, R = X ++ (⟨#[32]⟩ ++ Y) := ⟨_, rfl⟩
  rw [← hR]
  have hRs : R.size = X.size + 1 + Y.size := by rw [hR, app_size, app_size]; have : (⟨#[32]⟩ : ByteArray).size = 1 := rfl; omega
  have hs : (I7 ++ R).size ≤ 1000 := by rw [app_size]; have : I7.size = 7 := rfl; omega
  have hRb : bytesOf R = bytesOf X ++ 32 :: bytesOf Y := by rw [hR, append_bytes, append_bytes]; rfl
  have hb : bytesOf (I7 ++ R) = [73, 78, 83, 69, 82, 84] ++ 32 :: bytesOf R := by rw [append_bytes]; rfl
  have hd : (I7 ++ R).extract 7 (I7 ++ R).size = R := drop_text I7 R
  have hd2 : R.extract ((bytesOf X).length + 1) R.size = Y := by
    apply bytes_inj
    rw [bytesOf_extract, List.take_of_length_le (by rw [bytesOf_length]; omega), hRb, List.drop_append, List.drop_eq_nil_of_le (by omega)]
    simp
  obtain ⟨k, hk⟩ := (spl_step (I7 ++ R) hs [] (by simp) [73, 78, 83, 69, 82, 84] (bytesOf R) hb (by decide) [(I7 ++ R).extract 0 6, R.extract 0 (bytesOf X).length, Y] (by
    show Ev (fun k => pq_zzSplit.l1 k ((I7 ++ R).extract 7 (I7 ++ R).size) _ _) _
    rw [hd]
    refine spl_step R (by omega) _ (by simp) (bytesOf X) (bytesOf Y) hRb h1 _ ?_
    rw [hd2]
    exact spl_end Y (by omega) _ (by simp) h2)).rounds
  refine tag_ok _ _ _ w ((pc_ins3 (I7 ++ R) (ins_no R) hs w (ins_yes R) k _ _ Y (by unfold pq_zzSplit.f; rw [if_neg (by decide)]; exact hk) te xe hE (by rw [hp]; intro h; cases h) (by omega)).mono ?_)
  rintro e w' ⟨hb, h, _⟩
  exact ⟨hb, h v hp⟩
set_option maxHeartbeats 4000000 in
set_option maxRecDepth 100000 in
theorem ft_0 (a0 a1 a2 : Int) (h0 : 0 ≤ a0) (h0' : a0 < 256) (hr : a0 % 9 = 0) (n0 : 0 ≤ a1) (n1 : a1 ≤ 9223372036854775807) (o0 : 0 ≤ a2) (o1 : a2 < 4294967296) (w : World) (te : TypeId) (xe : Value) (hE : w.cell? ⟨5, 0, none⟩ = some (.iface te xe)) (hT : Tab w) :
    Calls Tryd.prog 4 #[.int .u8 a0, .int .i64 a1, .int .u32 a2] w fun e w' => e = .returned (.bool true) ∧ Below w.heap.size w w' := by
  have hcell : ∀ W, Below w.heap.size w W → W.cell? ⟨5, 0, none⟩ = some (.iface te xe) := fun W hB => (hB.cell (show (5 : Nat) < w.heap.size from Go.Lib.lt_of_cell hE)).trans hE
  have s1 := num_size a1 n0 n1
  have s2 := num_size a2 o0 (by omega)
  have k1 : ∀ W, Below w.heap.size w W → _ := fun W hB => number a1 (by omega) n1 W (tab_below hT hB)
  have ht : (⟨#[83, 69, 76, 69, 67, 84]⟩ : ByteArray) ++ ⟨#[32]⟩ = tg 0 := by decide +kernel
  have hx : (tg 0).extract 0 ((tg 0).size - 1) = ⟨#[83, 69, 76, 69, 67, 84]⟩ := by decide +kernel
  have k3 : ∀ W, Below w.heap.size w W → Calls Tryd.prog 15 #[.string ((⟨#[83, 69, 76, 69, 67, 84]⟩ ++ ⟨#[32]⟩) ++ num a1)] W fun e w' => Below W.heap.size W w' ∧ e = .returned (.tuple #[.string ⟨#[83, 69, 76, 69, 67, 84]⟩, .int .i64 a1, .bool true]) := fun W hB => by
    have := tag_hit (num a1) 0 (by omega) a1 (by omega) (parse_itoa a1 n0 n1) W te xe (hcell W hB)
    rw [hx] at this
    rw [ht]
    exact this
  have K1 := Aside0.mk k1
  have K3 := Aside0.mk k3
  have hw0 : wrap64 a0 = a0 := wrap64_id (by omega) (by omega)
  have hm : Int.tmod a0 9 = 0 := by rw [Int.tmod_eq_emod_of_nonneg h0]; exact hr
  have hw2 : wrap64 a2 = a2 := wrap64_id (by omega) (by omega)
  have c1 : decide (a1 < 0) = false := decide_eq_false (by omega)
  have c1b : (a1 < 0) = False := eq_false (by omega)
  have N1 := Aside0.mk s1
  have N2 := Aside0.mk s2
  have za : ((⟨#[83, 69, 76, 69, 67, 84]⟩ : ByteArray) ++ (⟨#[32]⟩ : ByteArray)).size = 7 := by decide +kernel
  have y0 := eq_true (show ((⟨#[83, 69, 76, 69, 67, 84]⟩ : ByteArray) ++ (⟨#[32]⟩ : ByteArray)).size + (num a1).size ≤ 9223372036854775807 by omega)
  have y0b : decide (((⟨#[83, 69, 76, 69, 67, 84]⟩ : ByteArray) ++ (⟨#[32]⟩ : ByteArray)).size + (num a1).size ≤ 9223372036854775807) = true := decide_eq_true (by omega)
  have y0c : (9223372036854775807 < ((⟨#[83, 69, 76, 69, 67, 84]⟩ : ByteArray) ++ (⟨#[32]⟩ : ByteArray)).size + (num a1).size) = False := eq_false (by omega)
  have y1 := eq_true (show 7 + (num a1).size ≤ 9223372036854775807 by omega)
  have y1b : decide (7 + (num a1).size ≤ 9223372036854775807) = true := decide_eq_true (by omega)
  have y1c : (9223372036854775807 < 7 + (num a1).size) = False := eq_false (by omega)
  clear za
  clear hcell k1 k3 hE hT h0 h0' hr n0 n1 o0 o1 s1 s2 ht hx
  go_enter Tryd.func4, Tryd.ntmps4
  go_wp2_with fail
  refine (K1.out _ (below_alloc (Below.refl _ _) _)).mono ?_
  rintro e w1 ⟨rfl, hb1⟩
  have HB1 := Aside0.mk (below_step (below_alloc (Below.refl _ _) _) hb1)
  clear hb1
  go_wp2_with fail
  refine (K3.out _ HB1.out).mono ?_
  rintro e w2 ⟨hb2, rfl⟩
  have HB2 := Aside0.mk (below_step HB1.out hb2)
  clear hb2
  go_wp2_with fail
  go_ret
  exact ⟨rfl, HB2.out⟩
set_option maxHeartbeats 4000000 in
set_option maxRecDepth 100000 in
theorem ft_1 (a0 a1 a2 : Int) (h0 : 0 ≤ a0) (h0' : a0 < 256) (hr : a0 % 9 = 1) (n0 : 0 ≤ a1) (n1 : a1 ≤ 9223372036854775807) (o0 : 0 ≤ a2) (o1 : a2 < 4294967296) (w : World) (te : TypeId) (xe : Value) (hE : w.cell? ⟨5, 0, none⟩ = some (.iface te xe)) (hT : Tab w) :
    Calls Tryd.prog 4 #[.int .u8 a0, .int .i64 a1, .int .u32 a2] w fun e w' => e = .returned (.bool true) ∧ Below w.heap.size w w' := by
  have hcell : ∀ W, Below w.heap.size w W → W.cell? ⟨5, 0, none⟩ = some (.iface te xe) := fun W hB => (hB.cell (show (5 : Nat) < w.heap.size from Go.Lib.lt_of_cell hE)).trans hE
  have s1 := num_size a1 n0 n1
  have s2 := num_size a2 o0 (by omega)
  have k1 : ∀ W, Below w.heap.size w W → _ := fun W hB => number a1 (by omega) n1 W (tab_below hT hB)
  have ht : (⟨#[85, 80, 68, 65, 84, 69]⟩ : ByteArray) ++ ⟨#[32]⟩ = tg 1 := by decide +kernel
  have hx : (tg 1).extract 0 ((tg 1).size - 1) = ⟨#[85, 80, 68, 65, 84, 69]⟩ := by decide +kernel
  have k3 : ∀ W, Below w.heap.size w W → Calls Tryd.prog 15 #[.string ((⟨#[85, 80, 68, 65, 84, 69]⟩ ++ ⟨#[32]⟩) ++ num a1)] W fun e w' => Below W.heap.size W w' ∧ e = .returned (.tuple #[.string ⟨#[85, 80, 68, 65, 84, 69]⟩, .int .i64 a1, .bool true]) := fun W hB => by
    have := tag_hit (num a1) 1 (by omega) a1 (by omega) (parse_itoa a1 n0 n1) W te xe (hcell W hB)
    rw [hx] at this
    rw [ht]
    exact this
  have K1 := Aside0.mk k1
  have K3 := Aside0.mk k3
  have hw0 : wrap64 a0 = a0 := wrap64_id (by omega) (by omega)
  have hm : Int.tmod a0 9 = 1 := by rw [Int.tmod_eq_emod_of_nonneg h0]; exact hr
  have hw2 : wrap64 a2 = a2 := wrap64_id (by omega) (by omega)
  have c1 : decide (a1 < 0) = false := decide_eq_false (by omega)
  have c1b : (a1 < 0) = False := eq_false (by omega)
  have N1 := Aside0.mk s1
  have N2 := Aside0.mk s2
  have za : ((⟨#[85, 80, 68, 65, 84, 69]⟩ : ByteArray) ++ (⟨#[32]⟩ : ByteArray)).size = 7 := by decide +kernel
  have y0 := eq_true (show ((⟨#[85, 80, 68, 65, 84, 69]⟩ : ByteArray) ++ (⟨#[32]⟩ : ByteArray)).size + (num a1).size ≤ 9223372036854775807 by omega)
  have y0b : decide (((⟨#[85, 80, 68, 65, 84, 69]⟩ : ByteArray) ++ (⟨#[32]⟩ : ByteArray)).size + (num a1).size ≤ 9223372036854775807) = true := decide_eq_true (by omega)
  have y0c : (9223372036854775807 < ((⟨#[85, 80, 68, 65, 84, 69]⟩ : ByteArray) ++ (⟨#[32]⟩ : ByteArray)).size + (num a1).size) = False := eq_false (by omega)
  have y1 := eq_true (show 7 + (num a1).size ≤ 9223372036854775807 by omega)
  have y1b : decide (7 + (num a1).size ≤ 9223372036854775807) = true := decide_eq_true (by omega)
  have y1c : (9223372036854775807 < 7 + (num a1).size) = False := eq_false (by omega)
  clear za
  clear hcell k1 k3 hE hT h0 h0' hr n0 n1 o0 o1 s1 s2 ht hx
  go_enter Tryd.func4, Tryd.ntmps4
  go_wp2_with fail
  refine (K1.out _ (below_alloc (Below.refl _ _) _)).mono ?_
  rintro e w1 ⟨rfl, hb1⟩
  have HB1 := Aside0.mk (below_step (below_alloc (Below.refl _ _) _) hb1)
  clear hb1
  go_wp2_with fail
  refine (K3.out _ HB1.out).mono ?_
  rintro e w2 ⟨hb2, rfl⟩
  have HB2 := Aside0.mk (below_step HB1.out hb2)
  clear hb2
  go_wp2_with fail
  go_ret
  exact ⟨rfl, HB2.out⟩
set_option maxHeartbeats 4000000 in
set_option maxRecDepth 100000 in
theorem ft_2 (a0 a1 a2 : Int) (h0 : 0 ≤ a0) (h0' : a0 < 256) (hr : a0 % 9 = 2) (n0 : 0 ≤ a1) (n1 : a1 ≤ 9223372036854775807) (o0 : 0 ≤ a2) (o1 : a2 < 4294967296) (w : World) (te : TypeId) (xe : Value) (hE : w.cell? ⟨5, 0, none⟩ = some (.iface te xe)) (hT : Tab w) :
    Calls Tryd.prog 4 #[.int .u8 a0, .int .i64 a1, .int .u32 a2] w fun e w' => e = .returned (.bool true) ∧ Below w.heap.size w w' := by
  have hcell : ∀ W, Below w.heap.size w W → W.cell? ⟨5, 0, none⟩ = some (.iface te xe) := fun W hB => (hB.cell (show (5 : Nat) < w.heap.size from Go.Lib.lt_of_cell hE)).trans hE
  have s1 := num_size a1 n0 n1
  have s2 := num_size a2 o0 (by omega)
  have k1 : ∀ W, Below w.heap.size w W → _ := fun W hB => number a1 (by omega) n1 W (tab_below hT hB)
  have ht : (⟨#[68, 69, 76, 69, 84, 69]⟩ : ByteArray) ++ ⟨#[32]⟩ = tg 2 := by decide +kernel
  have hx : (tg 2).extract 0 ((tg 2).size - 1) = ⟨#[68, 69, 76, 69, 84, 69]⟩ := by decide +kernel
  have k3 : ∀ W, Below w.heap.size w W → Calls Tryd.prog 15 #[.string ((⟨#[68, 69, 76, 69, 84, 69]⟩ ++ ⟨#[32]⟩) ++ num a1)] W fun e w' => Below W.heap.size W w' ∧ e = .returned (.tuple #[.string ⟨#[68, 69, 76, 69, 84, 69]⟩, .int .i64 a1, .bool true]) := fun W hB => by
    have := tag_hit (num a1) 2 (by omega) a1 (by omega) (parse_itoa a1 n0 n1) W te xe (hcell W hB)
    rw [hx] at this
    rw [ht]
    exact this
  have K1 := Aside0.mk k1
  have K3 := Aside0.mk k3
  have hw0 : wrap64 a0 = a0 := wrap64_id (by omega) (by omega)
  have hm : Int.tmod a0 9 = 2 := by rw [Int.tmod_eq_emod_of_nonneg h0]; exact hr
  have hw2 : wrap64 a2 = a2 := wrap64_id (by omega) (by omega)
  have c1 : decide (a1 < 0) = false := decide_eq_false (by omega)
  have c1b : (a1 < 0) = False := eq_false (by omega)
  have N1 := Aside0.mk s1
  have N2 := Aside0.mk s2
  have za : ((⟨#[68, 69, 76, 69, 84, 69]⟩ : ByteArray) ++ (⟨#[32]⟩ : ByteArray)).size = 7 := by decide +kernel
  have y0 := eq_true (show ((⟨#[68, 69, 76, 69, 84, 69]⟩ : ByteArray) ++ (⟨#[32]⟩ : ByteArray)).size + (num a1).size ≤ 9223372036854775807 by omega)
  have y0b : decide (((⟨#[68, 69, 76, 69, 84, 69]⟩ : ByteArray) ++ (⟨#[32]⟩ : ByteArray)).size + (num a1).size ≤ 9223372036854775807) = true := decide_eq_true (by omega)
  have y0c : (9223372036854775807 < ((⟨#[68, 69, 76, 69, 84, 69]⟩ : ByteArray) ++ (⟨#[32]⟩ : ByteArray)).size + (num a1).size) = False := eq_false (by omega)
  have y1 := eq_true (show 7 + (num a1).size ≤ 9223372036854775807 by omega)
  have y1b : decide (7 + (num a1).size ≤ 9223372036854775807) = true := decide_eq_true (by omega)
  have y1c : (9223372036854775807 < 7 + (num a1).size) = False := eq_false (by omega)
  clear za
  clear hcell k1 k3 hE hT h0 h0' hr n0 n1 o0 o1 s1 s2 ht hx
  go_enter Tryd.func4, Tryd.ntmps4
  go_wp2_with fail
  refine (K1.out _ (below_alloc (Below.refl _ _) _)).mono ?_
  rintro e w1 ⟨rfl, hb1⟩
  have HB1 := Aside0.mk (below_step (below_alloc (Below.refl _ _) _) hb1)
  clear hb1
  go_wp2_with fail
  refine (K3.out _ HB1.out).mono ?_
  rintro e w2 ⟨hb2, rfl⟩
  have HB2 := Aside0.mk (below_step HB1.out hb2)
  clear hb2
  go_wp2_with fail
  go_ret
  exact ⟨rfl, HB2.out⟩
set_option maxHeartbeats 4000000 in
set_option maxRecDepth 100000 in
theorem ft_3 (a0 a1 a2 : Int) (h0 : 0 ≤ a0) (h0' : a0 < 256) (hr : a0 % 9 = 3) (n0 : 0 ≤ a1) (n1 : a1 ≤ 9223372036854775807) (o0 : 0 ≤ a2) (o1 : a2 < 4294967296) (w : World) (te : TypeId) (xe : Value) (hE : w.cell? ⟨5, 0, none⟩ = some (.iface te xe)) (hT : Tab w) :
    Calls Tryd.prog 4 #[.int .u8 a0, .int .i64 a1, .int .u32 a2] w fun e w' => e = .returned (.bool true) ∧ Below w.heap.size w w' := by
  have hcell : ∀ W, Below w.heap.size w W → W.cell? ⟨5, 0, none⟩ = some (.iface te xe) := fun W hB => (hB.cell (show (5 : Nat) < w.heap.size from Go.Lib.lt_of_cell hE)).trans hE
  have s1 := num_size a1 n0 n1
  have s2 := num_size a2 o0 (by omega)
  have k1 : ∀ W, Below w.heap.size w W → _ := fun W hB => number a1 (by omega) n1 W (tab_below hT hB)
  have ht : (⟨#[70, 69, 84, 67, 72]⟩ : ByteArray) ++ ⟨#[32]⟩ = tg 3 := by decide +kernel
  have hx : (tg 3).extract 0 ((tg 3).size - 1) = ⟨#[70, 69, 84, 67, 72]⟩ := by decide +kernel
  have k3 : ∀ W, Below w.heap.size w W → Calls Tryd.prog 15 #[.string ((⟨#[70, 69, 84, 67, 72]⟩ ++ ⟨#[32]⟩) ++ num a1)] W fun e w' => Below W.heap.size W w' ∧ e = .returned (.tuple #[.string ⟨#[70, 69, 84, 67, 72]⟩, .int .i64 a1, .bool true]) := fun W hB => by
    have := tag_hit (num a1) 3 (by omega) a1 (by omega) (parse_itoa a1 n0 n1) W te xe (hcell W hB)
    rw [hx] at this
    rw [ht]
    exact this
  have K1 := Aside0.mk k1
  have K3 := Aside0.mk k3
  have hw0 : wrap64 a0 = a0 := wrap64_id (by omega) (by omega)
  have hm : Int.tmod a0 9 = 3 := by rw [Int.tmod_eq_emod_of_nonneg h0]; exact hr
  have hw2 : wrap64 a2 = a2 := wrap64_id (by omega) (by omega)
  have c1 : decide (a1 < 0) = false := decide_eq_false (by omega)
  have c1b : (a1 < 0) = False := eq_false (by omega)
  have N1 := Aside0.mk s1
  have N2 := Aside0.mk s2
  have za : ((⟨#[70, 69, 84, 67, 72]⟩ : ByteArray) ++ (⟨#[32]⟩ : ByteArray)).size = 6 := by decide +kernel
  have y0 := eq_true (show ((⟨#[70, 69, 84, 67, 72]⟩ : ByteArray) ++ (⟨#[32]⟩ : ByteArray)).size + (num a1).size ≤ 9223372036854775807 by omega)
  have y0b : decide (((⟨#[70, 69, 84, 67, 72]⟩ : ByteArray) ++ (⟨#[32]⟩ : ByteArray)).size + (num a1).size ≤ 9223372036854775807) = true := decide_eq_true (by omega)
  have y0c : (9223372036854775807 < ((⟨#[70, 69, 84, 67, 72]⟩ : ByteArray) ++ (⟨#[32]⟩ : ByteArray)).size + (num a1).size) = False := eq_false (by omega)
  have y1 := eq_true (show 6 + (num a1).size ≤ 9223372036854775807 by omega)
  have y1b : decide (6 + (num a1).size ≤ 9223372036854775807) = true := decide_eq_true (by omega)
  have y1c : (9223372036854775807 < 6 + (num a1).size) = False := eq_false (by omega)
  clear za
  clear hcell k1 k3 hE hT h0 h0' hr n0 n1 o0 o1 s1 s2 ht hx
  go_enter Tryd.func4, Tryd.ntmps4
  go_wp2_with fail
  refine (K1.out _ (below_alloc (Below.refl _ _) _)).mono ?_
  rintro e w1 ⟨rfl, hb1⟩
  have HB1 := Aside0.mk (below_step (below_alloc (Below.refl _ _) _) hb1)
  clear hb1
  go_wp2_with fail
  refine (K3.out _ HB1.out).mono ?_
  rintro e w2 ⟨hb2, rfl⟩
  have HB2 := Aside0.mk (below_step HB1.out hb2)
  clear hb2
  go_wp2_with fail
  go_ret
  exact ⟨rfl, HB2.out⟩
set_option maxHeartbeats 4000000 in
set_option maxRecDepth 100000 in
theorem ft_4 (a0 a1 a2 : Int) (h0 : 0 ≤ a0) (h0' : a0 < 256) (hr : a0 % 9 = 4) (n0 : 0 ≤ a1) (n1 : a1 ≤ 9223372036854775807) (o0 : 0 ≤ a2) (o1 : a2 < 4294967296) (w : World) (te : TypeId) (xe : Value) (hE : w.cell? ⟨5, 0, none⟩ = some (.iface te xe)) (hT : Tab w) :
    Calls Tryd.prog 4 #[.int .u8 a0, .int .i64 a1, .int .u32 a2] w fun e w' => e = .returned (.bool true) ∧ Below w.heap.size w w' := by
  have hcell : ∀ W, Below w.heap.size w W → W.cell? ⟨5, 0, none⟩ = some (.iface te xe) := fun W hB => (hB.cell (show (5 : Nat) < w.heap.size from Go.Lib.lt_of_cell hE)).trans hE
  have s1 := num_size a1 n0 n1
  have s2 := num_size a2 o0 (by omega)
  have k1 : ∀ W, Below w.heap.size w W → _ := fun W hB => number a1 (by omega) n1 W (tab_below hT hB)
  have ht : (⟨#[77, 79, 86, 69]⟩ : ByteArray) ++ ⟨#[32]⟩ = tg 4 := by decide +kernel
  have hx : (tg 4).extract 0 ((tg 4).size - 1) = ⟨#[77, 79, 86, 69]⟩ := by decide +kernel
  have k3 : ∀ W, Below w.heap.size w W → Calls Tryd.prog 15 #[.string ((⟨#[77, 79, 86, 69]⟩ ++ ⟨#[32]⟩) ++ num a1)] W fun e w' => Below W.heap.size W w' ∧ e = .returned (.tuple #[.string ⟨#[77, 79, 86, 69]⟩, .int .i64 a1, .bool true]) := fun W hB => by
    have := tag_hit (num a1) 4 (by omega) a1 (by omega) (parse_itoa a1 n0 n1) W te xe (hcell W hB)
    rw [hx] at this
    rw [ht]
    exact this
  have K1 := Aside0.mk k1
  have K3 := Aside0.mk k3
  have hw0 : wrap64 a0 = a0 := wrap64_id (by omega) (by omega)
  have hm : Int.tmod a0 9 = 4 := by rw [Int.tmod_eq_emod_of_nonneg h0]; exact hr
  have hw2 : wrap64 a2 = a2 := wrap64_id (by omega) (by omega)
  have c1 : decide (a1 < 0) = false := decide_eq_false (by omega)
  have c1b : (a1 < 0) = False := eq_false (by omega)
  have N1 := Aside0.mk s1
  have N2 := Aside0.mk s2
  have za : ((⟨#[77, 79, 86, 69]⟩ : ByteArray) ++ (⟨#[32]⟩ : ByteArray)).size = 5 := by decide +kernel
  have y0 := eq_true (show ((⟨#[77, 79, 86, 69]⟩ : ByteArray) ++ (⟨#[32]⟩ : ByteArray)).size + (num a1).size ≤ 9223372036854775807 by omega)
  have y0b : decide (((⟨#[77, 79, 86, 69]⟩ : ByteArray) ++ (⟨#[32]⟩ : ByteArray)).size + (num a1).size ≤ 9223372036854775807) = true := decide_eq_true (by omega)
  have y0c : (9223372036854775807 < ((⟨#[77, 79, 86, 69]⟩ : ByteArray) ++ (⟨#[32]⟩ : ByteArray)).size + (num a1).size) = False := eq_false (by omega)
  have y1 := eq_true (show 5 + (num a1).size ≤ 9223372036854775807 by omega)
  have y1b : decide (5 + (num a1).size ≤ 9223372036854775807) = true := decide_eq_true (by omega)
  have y1c : (9223372036854775807 < 5 + (num a1).size) = False := eq_false (by omega)
  clear za
  clear hcell k1 k3 hE hT h0 h0' hr n0 n1 o0 o1 s1 s2 ht hx
  go_enter Tryd.func4, Tryd.ntmps4
  go_wp2_with fail
  refine (K1.out _ (below_alloc (Below.refl _ _) _)).mono ?_
  rintro e w1 ⟨rfl, hb1⟩
  have HB1 := Aside0.mk (below_step (below_alloc (Below.refl _ _) _) hb1)
  clear hb1
  go_wp2_with fail
  refine (K3.out _ HB1.out).mono ?_
  rintro e w2 ⟨hb2, rfl⟩
  have HB2 := Aside0.mk (below_step HB1.out hb2)
  clear hb2
  go_wp2_with fail
  go_ret
  exact ⟨rfl, HB2.out⟩
set_option maxHeartbeats 4000000 in
set_option maxRecDepth 100000 in
theorem ft_5 (a0 a1 a2 : Int) (h0 : 0 ≤ a0) (h0' : a0 < 256) (hr : a0 % 9 = 5) (n0 : 0 ≤ a1) (n1 : a1 ≤ 9223372036854775807) (o0 : 0 ≤ a2) (o1 : a2 < 4294967296) (w : World) (te : TypeId) (xe : Value) (hE : w.cell? ⟨5, 0, none⟩ = some (.iface te xe)) (hT : Tab w) :
    Calls Tryd.prog 4 #[.int .u8 a0, .int .i64 a1, .int .u32 a2] w fun e w' => e = .returned (.bool true) ∧ Below w.heap.size w w' := by
  have hcell : ∀ W, Below w.heap.size w W → W.cell? ⟨5, 0, none⟩ = some (.iface te xe) := fun W hB => (hB.cell (show (5 : Nat) < w.heap.size from Go.Lib.lt_of_cell hE)).trans hE
  have s1 := num_size a1 n0 n1
  have s2 := num_size a2 o0 (by omega)
  have k1 : ∀ W, Below w.heap.size w W → _ := fun W hB => number a1 (by omega) n1 W (tab_below hT hB)
  have ht : (⟨#[67, 79, 80, 89]⟩ : ByteArray) ++ ⟨#[32]⟩ = tg 5 := by decide +kernel
  have hx : (tg 5).extract 0 ((tg 5).size - 1) = ⟨#[67, 79, 80, 89]⟩ := by decide +kernel
  have k3 : ∀ W, Below w.heap.size w W → Calls Tryd.prog 15 #[.string ((⟨#[67, 79, 80, 89]⟩ ++ ⟨#[32]⟩) ++ num a1)] W fun e w' => Below W.heap.size W w' ∧ e = .returned (.tuple #[.string ⟨#[67, 79, 80, 89]⟩, .int .i64 a1, .bool true]) := fun W hB => by
    have := tag_hit (num a1) 5 (by omega) a1 (by omega) (parse_itoa a1 n0 n1) W te xe (hcell W hB)
    rw [hx] at this
    rw [ht]
    exact this
  have K1 := Aside0.mk k1
  have K3 := Aside0.mk k3
  have hw0 : wrap64 a0 = a0 := wrap64_id (by omega) (by omega)
  have hm : Int.tmod a0 9 = 5 := by rw [Int.tmod_eq_emod_of_nonneg h0]; exact hr
  have hw2 : wrap64 a2 = a2 := wrap64_id (by omega) (by omega)
  have c1 : decide (a1 < 0) = false := decide_eq_false (by omega)
  have c1b : (a1 < 0) = False := eq_false (by omega)
  have N1 := Aside0.mk s1
  have N2 := Aside0.mk s2
  have za : ((⟨#[67, 79, 80, 89]⟩ : ByteArray) ++ (⟨#[32]⟩ : ByteArray)).size = 5 := by decide +kernel
  have y0 := eq_true (show ((⟨#[67, 79, 80, 89]⟩ : ByteArray) ++ (⟨#[32]⟩ : ByteArray)).size + (num a1).size ≤ 9223372036854775807 by omega)
  have y0b : decide (((⟨#[67, 79, 80, 89]⟩ : ByteArray) ++ (⟨#[32]⟩ : ByteArray)).size + (num a1).size ≤ 9223372036854775807) = true := decide_eq_true (by omega)
  have y0c : (9223372036854775807 < ((⟨#[67, 79, 80, 89]⟩ : ByteArray) ++ (⟨#[32]⟩ : ByteArray)).size + (num a1).size) = False := eq_false (by omega)
  have y1 := eq_true (show 5 + (num a1).size ≤ 9223372036854775807 by omega)
  have y1b : decide (5 + (num a1).size ≤ 9223372036854775807) = true := decide_eq_true (by omega)
  have y1c : (9223372036854775807 < 5 + (num a1).size) = False := eq_false (by omega)
  clear za
  clear hcell k1 k3 hE hT h0 h0' hr n0 n1 o0 o1 s1 s2 ht hx
  go_enter Tryd.func4, Tryd.ntmps4
  go_wp2_with fail
  refine (K1.out _ (below_alloc (Below.refl _ _) _)).mono ?_
  rintro e w1 ⟨rfl, hb1⟩
  have HB1 := Aside0.mk (below_step (below_alloc (Below.refl _ _) _) hb1)
  clear hb1
  go_wp2_with fail
  refine (K3.out _ HB1.out).mono ?_
  rintro e w2 ⟨hb2, rfl⟩
  have HB2 := Aside0.mk (below_step HB1.out hb2)
  clear hb2
  go_wp2_with fail
  go_ret
  exact ⟨rfl, HB2.out⟩
set_option maxHeartbeats 4000000 in
set_option maxRecDepth 100000 in
theorem ft_6 (a0 a1 a2 : Int) (h0 : 0 ≤ a0) (h0' : a0 < 256) (hr : a0 % 9 = 6) (n0 : 0 ≤ a1) (n1 : a1 ≤ 9223372036854775807) (o0 : 0 ≤ a2) (o1 : a2 < 4294967296) (w : World) (te : TypeId) (xe : Value) (hE : w.cell? ⟨5, 0, none⟩ = some (.iface te xe)) (hT : Tab w) :
    Calls Tryd.prog 4 #[.int .u8 a0, .int .i64 a1, .int .u32 a2] w fun e w' => e = .returned (.bool true) ∧ Below w.heap.size w w' := by
  have hcell : ∀ W, Below w.heap.size w W → W.cell? ⟨5, 0, none⟩ = some (.iface te xe) := fun W hB => (hB.cell (show (5 : Nat) < w.heap.size from Go.Lib.lt_of_cell hE)).trans hE
  have s1 := num_size a1 n0 n1
  have s2 := num_size a2 o0 (by omega)
  have k1 : ∀ W, Below w.heap.size w W → _ := fun W hB => number a1 (by omega) n1 W (tab_below hT hB)
  have k2 : ∀ W, Below w.heap.size w W → _ := fun W hB => number a2 (by omega) (by omega) W (tab_below hT hB)
  have ht : (⟨#[73, 78, 83, 69, 82, 84]⟩ : ByteArray) ++ ⟨#[32]⟩ = I7 := by decide +kernel
  have k3 : ∀ W, Below w.heap.size w W → Calls Tryd.prog 15 #[.string ((((⟨#[73, 78, 83, 69, 82, 84]⟩ ++ ⟨#[32]⟩) ++ num a2) ++ ⟨#[32]⟩) ++ num a1)] W fun e w' => Below W.heap.size W w' ∧ e = .returned (.tuple #[.string ⟨#[73, 78, 83, 69, 82, 84]⟩, .int .i64 a1, .bool true]) := fun W hB => by
    rw [ht]
    exact ins_tag (num a2) (num a1) (by omega) (by omega) (num_no32 a2 o0) (num_no32 a1 n0) a1 (parse_itoa a1 n0 n1) W te xe (hcell W hB)
  have K1 := Aside0.mk k1
  have K2 := Aside0.mk k2
  have K3 := Aside0.mk k3
  have hw0 : wrap64 a0 = a0 := wrap64_id (by omega) (by omega)
  have hm : Int.tmod a0 9 = 6 := by rw [Int.tmod_eq_emod_of_nonneg h0]; exact hr
  have hw2 : wrap64 a2 = a2 := wrap64_id (by omega) (by omega)
  have c1 : decide (a1 < 0) = false := decide_eq_false (by omega)
  have c1b : (a1 < 0) = False := eq_false (by omega)
  have N1 := Aside0.mk s1
  have N2 := Aside0.mk s2
  have za : ((⟨#[73, 78, 83, 69, 82, 84]⟩ : ByteArray) ++ (⟨#[32]⟩ : ByteArray)).size = 7 := by decide +kernel
  have zb : (((⟨#[73, 78, 83, 69, 82, 84]⟩ : ByteArray) ++ (⟨#[32]⟩ : ByteArray)) ++ num a2).size = 7 + (num a2).size := by rw [app_size, za]
  have zc : ((((⟨#[73, 78, 83, 69, 82, 84]⟩ : ByteArray) ++ (⟨#[32]⟩ : ByteArray)) ++ num a2) ++ (⟨#[32]⟩ : ByteArray)).size = 8 + (num a2).size := by rw [app_size, zb]; have : (⟨#[32]⟩ : ByteArray).size = 1 := rfl; omega
  have y0 := eq_true (show ((⟨#[73, 78, 83, 69, 82, 84]⟩ : ByteArray) ++ (⟨#[32]⟩ : ByteArray)).size + (num a1).size ≤ 9223372036854775807 by omega)
  have y0b : decide (((⟨#[73, 78, 83, 69, 82, 84]⟩ : ByteArray) ++ (⟨#[32]⟩ : ByteArray)).size + (num a1).size ≤ 9223372036854775807) = true := decide_eq_true (by omega)
  have y0c : (9223372036854775807 < ((⟨#[73, 78, 83, 69, 82, 84]⟩ : ByteArray) ++ (⟨#[32]⟩ : ByteArray)).size + (num a1).size) = False := eq_false (by omega)
  have y1 := eq_true (show 7 + (num a1).size ≤ 9223372036854775807 by omega)
  have y1b : decide (7 + (num a1).size ≤ 9223372036854775807) = true := decide_eq_true (by omega)
  have y1c : (9223372036854775807 < 7 + (num a1).size) = False := eq_false (by omega)
  have y2 := eq_true (show ((⟨#[73, 78, 83, 69, 82, 84]⟩ : ByteArray) ++ (⟨#[32]⟩ : ByteArray)).size + (num a2).size ≤ 9223372036854775807 by omega)
  have y2b : decide (((⟨#[73, 78, 83, 69, 82, 84]⟩ : ByteArray) ++ (⟨#[32]⟩ : ByteArray)).size + (num a2).size ≤ 9223372036854775807) = true := decide_eq_true (by omega)
  have y2c : (9223372036854775807 < ((⟨#[73, 78, 83, 69, 82, 84]⟩ : ByteArray) ++ (⟨#[32]⟩ : ByteArray)).size + (num a2).size) = False := eq_false (by omega)
  have y3 := eq_true (show 7 + (num a2).size ≤ 9223372036854775807 by omega)
  have y3b : decide (7 + (num a2).size ≤ 9223372036854775807) = true := decide_eq_true (by omega)
  have y3c : (9223372036854775807 < 7 + (num a2).size) = False := eq_false (by omega)
  have y4 := eq_true (show (((⟨#[73, 78, 83, 69, 82, 84]⟩ : ByteArray) ++ (⟨#[32]⟩ : ByteArray)) ++ num a2).size + 1 ≤ 9223372036854775807 by omega)
  have y4b : decide ((((⟨#[73, 78, 83, 69, 82, 84]⟩ : ByteArray) ++ (⟨#[32]⟩ : ByteArray)) ++ num a2).size + 1 ≤ 9223372036854775807) = true := decide_eq_true (by omega)
  have y4c : (9223372036854775807 < (((⟨#[73, 78, 83, 69, 82, 84]⟩ : ByteArray) ++ (⟨#[32]⟩ : ByteArray)) ++ num a2).size + 1) = False := eq_false (by omega)
  have y5 := eq_true (show ((((⟨#[73, 78, 83, 69, 82, 84]⟩ : ByteArray) ++ (⟨#[32]⟩ : ByteArray)) ++ num a2) ++ (⟨#[32]⟩ : ByteArray)).size + (num a1).size ≤ 9223372036854775807 by omega)
  have y5b : decide (((((⟨#[73, 78, 83, 69, 82, 84]⟩ : ByteArray) ++ (⟨#[32]⟩ : ByteArray)) ++ num a2) ++ (⟨#[32]⟩ : ByteArray)).size + (num a1).size ≤ 9223372036854775807) = true := decide_eq_true (by omega)
  have y5c : (9223372036854775807 < ((((⟨#[73, 78, 83, 69, 82, 84]⟩ : ByteArray) ++ (⟨#[32]⟩ : ByteArray)) ++ num a2) ++ (⟨#[32]⟩ : ByteArray)).size + (num a1).size) = False := eq_false (by omega)
  have y6 := eq_true (show 7 + (num a2).size + 1 ≤ 9223372036854775807 by omega)
  have y6b : decide (7 + (num a2).size + 1 ≤ 9223372036854775807) = true := decide_eq_true (by omega)
  have y6c : (9223372036854775807 < 7 + (num a2).size + 1) = False := eq_false (by omega)
  have y7 := eq_true (show 7 + (num a2).size + 1 + (num a1).size ≤ 9223372036854775807 by omega)
  have y7b : decide (7 + (num a2).size + 1 + (num a1).size ≤ 9223372036854775807) = true := decide_eq_true (by omega)
  have y7c : (9223372036854775807 < 7 + (num a2).size + 1 + (num a1).size) = False := eq_false (by omega)
  clear za zb zc
  clear hcell k1 k2 k3 hE hT h0 h0' hr n0 n1 o0 o1 s1 s2 ht
  go_enter Tryd.func4, Tryd.ntmps4
  go_wp2_with fail
  refine (K1.out _ (below_alloc (Below.refl _ _) _)).mono ?_
  rintro e w1 ⟨rfl, hb1⟩
  have HB1 := Aside0.mk (below_step (below_alloc (Below.refl _ _) _) hb1)
  clear hb1
  go_wp2_with fail
  refine (K2.out _ HB1.out).mono ?_
  rintro e w3 ⟨rfl, hb3⟩
  have HB3 := Aside0.mk (below_step HB1.out hb3)
  clear hb3
  go_wp2_with fail
  refine (K1.out _ HB3.out).mono ?_
  rintro e w4 ⟨rfl, hb4⟩
  have HB1 := Aside0.mk (below_step HB3.out hb4)
  clear hb4
  go_wp2_with fail
  refine (K3.out _ HB1.out).mono ?_
  rintro e w2 ⟨hb2, rfl⟩
  have HB2 := Aside0.mk (below_step HB1.out hb2)
  clear hb2
  go_wp2_with fail
  go_ret
  exact ⟨rfl, HB2.out⟩
set_option maxHeartbeats 4000000 in
set_option maxRecDepth 100000 in
theorem ft_7 (a0 a1 a2 : Int) (h0 : 0 ≤ a0) (h0' : a0 < 256) (hr : a0 % 9 = 7) (n0 : 0 ≤ a1) (n1 : a1 ≤ 9223372036854775807) (o0 : 0 ≤ a2) (o1 : a2 < 4294967296) (w : World) (te : TypeId) (xe : Value) (hE : w.cell? ⟨5, 0, none⟩ = some (.iface te xe)) (hT : Tab w) :
    Calls Tryd.prog 4 #[.int .u8 a0, .int .i64 a1, .int .u32 a2] w fun e w' => e = .returned (.bool true) ∧ Below w.heap.size w w' := by
  have hcell : ∀ W, Below w.heap.size w W → W.cell? ⟨5, 0, none⟩ = some (.iface te xe) := fun W hB => (hB.cell (show (5 : Nat) < w.heap.size from Go.Lib.lt_of_cell hE)).trans hE
  have s1 := num_size a1 n0 n1
  have s2 := num_size a2 o0 (by omega)
  have k1 : ∀ W, Below w.heap.size w W → _ := fun W hB => number a1 (by omega) n1 W (tab_below hT hB)
  have k3 : ∀ W, Below w.heap.size w W → Calls Tryd.prog 15 #[.string ⟨#[66, 69, 71, 73, 78]⟩] W fun e w' => Below W.heap.size W w' ∧ e = .returned (.tuple #[.string ⟨#[66, 69, 71, 73, 78]⟩, .int .i64 0, .bool true]) := fun W hB =>
    other_tag ⟨#[66, 69, 71, 73, 78]⟩ (by
      intro i hi
      have : i = 0 ∨ i = 1 ∨ i = 2 ∨ i = 3 ∨ i = 4 ∨ i = 5 := by omega
      rcases this with rfl | rfl | rfl | rfl | rfl | rfl <;> decide +kernel) (by decide +kernel) (by decide +kernel) W
  have K1 := Aside0.mk k1
  have K3 := Aside0.mk k3
  have hw0 : wrap64 a0 = a0 := wrap64_id (by omega) (by omega)
  have hm : Int.tmod a0 9 = 7 := by rw [Int.tmod_eq_emod_of_nonneg h0]; exact hr
  have hw2 : wrap64 a2 = a2 := wrap64_id (by omega) (by omega)
  have c1 : decide (a1 < 0) = false := decide_eq_false (by omega)
  have c1b : (a1 < 0) = False := eq_false (by omega)
  have N1 := Aside0.mk s1
  have N2 := Aside0.mk s2
  have za : ((⟨#[66, 69, 71, 73, 78]⟩ : ByteArray) ++ (⟨#[32]⟩ : ByteArray)).size = 6 := by decide +kernel
  have y0 := eq_true (show ((⟨#[66, 69, 71, 73, 78]⟩ : ByteArray) ++ (⟨#[32]⟩ : ByteArray)).size + (num a1).size ≤ 9223372036854775807 by omega)
  have y0b : decide (((⟨#[66, 69, 71, 73, 78]⟩ : ByteArray) ++ (⟨#[32]⟩ : ByteArray)).size + (num a1).size ≤ 9223372036854775807) = true := decide_eq_true (by omega)
  have y0c : (9223372036854775807 < ((⟨#[66, 69, 71, 73, 78]⟩ : ByteArray) ++ (⟨#[32]⟩ : ByteArray)).size + (num a1).size) = False := eq_false (by omega)
  have y1 := eq_true (show 6 + (num a1).size ≤ 9223372036854775807 by omega)
  have y1b : decide (6 + (num a1).size ≤ 9223372036854775807) = true := decide_eq_true (by omega)
  have y1c : (9223372036854775807 < 6 + (num a1).size) = False := eq_false (by omega)
  clear za
  clear hcell k1 k3 hE hT h0 h0' hr n0 n1 o0 o1 s1 s2 
  go_enter Tryd.func4, Tryd.ntmps4
  go_wp2_with fail
  refine (K1.out _ (below_alloc (Below.refl _ _) _)).mono ?_
  rintro e w1 ⟨rfl, hb1⟩
  have HB1 := Aside0.mk (below_step (below_alloc (Below.refl _ _) _) hb1)
  clear hb1
  go_wp2_with fail
  refine (K3.out _ HB1.out).mono ?_
  rintro e w2 ⟨hb2, rfl⟩
  have HB2 := Aside0.mk (below_step HB1.out hb2)
  clear hb2
  go_wp2_with fail
  go_ret
  exact ⟨rfl, HB2.out⟩
set_option maxHeartbeats 4000000 in
set_option maxRecDepth 100000 in
theorem ft_8 (a0 a1 a2 : Int) (h0 : 0 ≤ a0) (h0' : a0 < 256) (hr : a0 % 9 = 8) (n0 : 0 ≤ a1) (n1 : a1 ≤ 9223372036854775807) (o0 : 0 ≤ a2) (o1 : a2 < 4294967296) (w : World) (te : TypeId) (xe : Value) (hE : w.cell? ⟨5, 0, none⟩ = some (.iface te xe)) (hT : Tab w) :
    Calls Tryd.prog 4 #[.int .u8 a0, .int .i64 a1, .int .u32 a2] w fun e w' => e = .returned (.bool true) ∧ Below w.heap.size w w' := by
  have hcell : ∀ W, Below w.heap.size w W → W.cell? ⟨5, 0, none⟩ = some (.iface te xe) := fun W hB => (hB.cell (show (5 : Nat) < w.heap.size from Go.Lib.lt_of_cell hE)).trans hE
  have s1 := num_size a1 n0 n1
  have s2 := num_size a2 o0 (by omega)
  have k1 : ∀ W, Below w.heap.size w W → _ := fun W hB => number a1 (by omega) n1 W (tab_below hT hB)
  have k3 : ∀ W, Below w.heap.size w W → Calls Tryd.prog 15 #[.string ⟨#[67, 82, 69, 65, 84, 69, 32, 84, 65, 66, 76, 69]⟩] W fun e w' => Below W.heap.size W w' ∧ e = .returned (.tuple #[.string ⟨#[67, 82, 69, 65, 84, 69, 32, 84, 65, 66, 76, 69]⟩, .int .i64 0, .bool true]) := fun W hB =>
    other_tag ⟨#[67, 82, 69, 65, 84, 69, 32, 84, 65, 66, 76, 69]⟩ (by
      intro i hi
      have : i = 0 ∨ i = 1 ∨ i = 2 ∨ i = 3 ∨ i = 4 ∨ i = 5 := by omega
      rcases this with rfl | rfl | rfl | rfl | rfl | rfl <;> decide +kernel) (by decide +kernel) (by decide +kernel) W
  have K1 := Aside0.mk k1
  have K3 := Aside0.mk k3
  have hw0 : wrap64 a0 = a0 := wrap64_id (by omega) (by omega)
  have hm : Int.tmod a0 9 = 8 := by rw [Int.tmod_eq_emod_of_nonneg h0]; exact hr
  have hw2 : wrap64 a2 = a2 := wrap64_id (by omega) (by omega)
  have c1 : decide (a1 < 0) = false := decide_eq_false (by omega)
  have c1b : (a1 < 0) = False := eq_false (by omega)
  have N1 := Aside0.mk s1
  have N2 := Aside0.mk s2
  have za : ((⟨#[67, 82, 69, 65, 84, 69, 32, 84, 65, 66, 76, 69]⟩ : ByteArray) ++ (⟨#[32]⟩ : ByteArray)).size = 13 := by decide +kernel
  have y0 := eq_true (show ((⟨#[67, 82, 69, 65, 84, 69, 32, 84, 65, 66, 76, 69]⟩ : ByteArray) ++ (⟨#[32]⟩ : ByteArray)).size + (num a1).size ≤ 9223372036854775807 by omega)
  have y0b : decide (((⟨#[67, 82, 69, 65, 84, 69, 32, 84, 65, 66, 76, 69]⟩ : ByteArray) ++ (⟨#[32]⟩ : ByteArray)).size + (num a1).size ≤ 9223372036854775807) = true := decide_eq_true (by omega)
  have y0c : (9223372036854775807 < ((⟨#[67, 82, 69, 65, 84, 69, 32, 84, 65, 66, 76, 69]⟩ : ByteArray) ++ (⟨#[32]⟩ : ByteArray)).size + (num a1).size) = False := eq_false (by omega)
  have y1 := eq_true (show 13 + (num a1).size ≤ 9223372036854775807 by omega)
  have y1b : decide (13 + (num a1).size ≤ 9223372036854775807) = true := decide_eq_true (by omega)
  have y1c : (9223372036854775807 < 13 + (num a1).size) = False := eq_false (by omega)
  clear za
  clear hcell k1 k3 hE hT h0 h0' hr n0 n1 o0 o1 s1 s2 
  go_enter Tryd.func4, Tryd.ntmps4
  go_wp2_with fail
  refine (K1.out _ (below_alloc (Below.refl _ _) _)).mono ?_
  rintro e w1 ⟨rfl, hb1⟩
  have HB1 := Aside0.mk (below_step (below_alloc (Below.refl _ _) _) hb1)
  clear hb1
  go_wp2_with fail
  refine (K3.out _ HB1.out).mono ?_
  rintro e w2 ⟨hb2, rfl⟩
  have HB2 := Aside0.mk (below_step HB1.out hb2)
  clear hb2
  go_wp2_with fail
  go_ret
  exact ⟨rfl, HB2.out⟩
theorem ft_walk (a0 a1 a2 : Int) (w : World) (hE : ∃ te xe, w.cell? ⟨5, 0, none⟩ = some (.iface te xe)) (hT : Tab w) (v0 : (Lit.int .u8 a0).wf = true) (v1 : (Lit.int .i64 a1).wf = true) (v2 : (Lit.int .u32 a2).wf = true) :
    Calls Tryd.prog 4 #[.int .u8 a0, .int .i64 a1, .int .u32 a2] w fun e w' => e = .returned (.bool true) ∧ Below w.heap.size w w' := by
  obtain ⟨te, xe, hE⟩ := hE
  have r0 : IntKind.u8.min ≤ a0 ∧ a0 ≤ IntKind.u8.max := by simpa [Lit.wf] using v0
  have r1 : IntKind.i64.min ≤ a1 ∧ a1 ≤ IntKind.i64.max := by simpa [Lit.wf] using v1
  have r2 : IntKind.u32.min ≤ a2 ∧ a2 ≤ IntKind.u32.max := by simpa [Lit.wf] using v2
  have e1 : IntKind.u8.min = 0 := rfl
  have e2 : IntKind.u8.max = 255 := rfl
  have e3 : IntKind.i64.max = 9223372036854775807 := rfl
  have e4 : IntKind.u32.min = 0 := rfl
  have e5 : IntKind.u32.max = 4294967295 := rfl
  by_cases hn : a1 < 0
  · refine laws_FnTag.calls 1 a0 a1 a2 true w ?_
    unfold laws_FnTag.f
    rw [if_pos hn]
  · have h9 : a0 % 9 = 0 ∨ a0 % 9 = 1 ∨ a0 % 9 = 2 ∨ a0 % 9 = 3 ∨ a0 % 9 = 4 ∨ a0 % 9 = 5 ∨ a0 % 9 = 6 ∨ a0 % 9 = 7 ∨ a0 % 9 = 8 := by omega
    rcases h9 with h | h | h | h | h | h | h | h | h
    · exact ft_0 a0 a1 a2 (by omega) (by omega) h (by omega) (by omega) (by omega) (by omega) w te xe hE hT
    · exact ft_1 a0 a1 a2 (by omega) (by omega) h (by omega) (by omega) (by omega) (by omega) w te xe hE hT
    · exact ft_2 a0 a1 a2 (by omega) (by omega) h (by omega) (by omega) (by omega) (by omega) w te xe hE hT
    · exact ft_3 a0 a1 a2 (by omega) (by omega) h (by omega) (by omega) (by omega) (by omega) w te xe hE hT
    · exact ft_4 a0 a1 a2 (by omega) (by omega) h (by omega) (by omega) (by omega) (by omega) w te xe hE hT
    · exact ft_5 a0 a1 a2 (by omega) (by omega) h (by omega) (by omega) (by omega) (by omega) w te xe hE hT
    · exact ft_6 a0 a1 a2 (by omega) (by omega) h (by omega) (by omega) (by omega) (by omega) w te xe hE hT
    · exact ft_7 a0 a1 a2 (by omega) (by omega) h (by omega) (by omega) (by omega) (by omega) w te xe hE hT
    · exact ft_8 a0 a1 a2 (by omega) (by omega) h (by omega) (by omega) (by omega) (by omega) w te xe hE hT
end Go.Proofs.YthcikkjjegfblacDoor.Lib
