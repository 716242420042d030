-- Written by the program wip/myprint.py of this session, over the kit's print of the translation. Lean checks it.
import Derived.Test.YthcikkjjegfblabPx0
import Derived.Test.YthcikkjjegfblabPx2
import Derived.Test.YthcikkjjegfblabPx3
import Derived.Test.YthcikkjjegfblabPx4
import Derived.Test.YthcikkjjegfblabPx5
import Derived.Test.YthcikkjjegfblabPx7
namespace Go.Proofs.Ythcikkjjegfblab.P
open Go.RowKit Go.Proofs.YthcikkjjegfblabW.PrintWords Go.Proofs.YthcikkjjegfblabW.PrintLast Go.Proofs.YthcikkjjegfblabW.PrintMore
attribute [local go_sem] max2_int min2_int max_two min_two max_three min_three max_four min_four   -- for this text's walks alone
set_option linter.unusedVariables false
set_option linter.unusedSimpArgs false

/-! ### impl_Framed: function 15 -/
/-- Pieces written behind f; whether all are pieces. -/
def framePieces : List S25 → List Int → Option (List Int × Bool)
  | [], f => some (f, true)
  | x :: t, f => if x.f2.size ≤ 70368744177664 ∧ f.length ≤ 4294967295 then (match putBytes x with | some ys => framePieces t (f ++ ys) | none => some (f, false)) else none
def frameGo : List S33 → Bool → List Int → Nat → Option (ByteArray × Bool)
  | [], _, f, q => if q + 4 ≤ f.length ∧ f.length ≤ 4294967295 then some (strOfNums (lenSet f q), true) else none
  | m :: t, true, f, q => (framePieces m.f1 f).bind fun r => if r.2 = true then frameGo t false r.1 q else some (⟨#[]⟩, false)
  | m :: t, false, f, q => if q + 4 ≤ f.length ∧ f.length ≤ 4294967295 then ((framePieces m.f1 (lenSet f q ++ [m.f0, 0, 0, 0, 0])).bind fun r => if r.2 = true then frameGo t false r.1 (f.length + 1) else some (⟨#[]⟩, false)) else none
def impl_Framed.f (l0 : List S33) : Option (ByteArray × Bool) := if l0.length = 0 then some (⟨#[]⟩, false) else frameGo l0 true [(rd_T33 l0 0).f0, 0, 0, 0, 0] 1
set_option maxHeartbeats 4000000 in
set_option maxRecDepth 100000 in
theorem impl_Framed.calls (A0 : Option Addr) (c0 : Nat) (l0 : List (S33)) (r1 : ByteArray) (r2 : Bool) (w : World) (hr0 : Kd.C k33 w A0 l0.length l0) (hc0 : l0.length ≤ c0) (h : impl_Framed.f l0 = some (r1, r2)) :
    Calls Try.prog 15 #[.slice A0 l0.length c0] w fun e w' => e = .returned (.tuple #[.string r1, .bool r2]) ∧ Below w.heap.size w w' := by
  have hu33 := Try.underlying33
  have hu25 := Try.underlying25
  unfold impl_Framed.f at h
  have hmax := Kd.C_max hr0
  have HR0 := Aside0.mk hr0
  have HC0 := Aside0.mk hc0
  by_cases hn : l0.length = 0
  · rw [if_pos hn] at h
    simp only [Option.some.injEq, Prod.mk.injEq] at h
    obtain ⟨rfl, rfl⟩ := h
    have hnb : ((l0.length : Int) == 0) = true := beq_iff_eq.mpr (by omega)
    clear hr0 hc0
    go_enter Try.func15, Try.ntmps15
    go_wp2_with fail
    go_ret2
    exact ⟨rfl, Below.refl _ _⟩
  · rw [if_neg hn] at h
    have hnb : ((l0.length : Int) == 0) = false := beq_eq_false_iff_ne.mpr (by omega)
    have H' := Aside0.mk h
    obtain ⟨ad, A1, c1, e0, x0, x1, hl1, hC1⟩ := at_T33 hr0 0 (by omega) (by omega)
    subst e0
    have hlt0 : (0 : Int) < (l0.length : Int) := by omega
    simp [Addr.add] at x0 x1
    clear hr0 hc0 h hn hC1 hl1
    go_enter Try.func15, Try.ntmps15
    go_wp2_with fail
    refine (pq_NewWriter.calls _ w _ (Below.refl _ _)).mono ?_
    rintro e w1 ⟨g, rfl, hI, hB⟩
    have HI := Aside0.mk hI
    have HB := Aside0.mk hB
    clear hI hB x0 x1
    go_wp2_with fail
    go_loopg [19] (l0.length) (fun kq v19 w' => ∃ (i q : Nat) (f : List Int), v19 = .int .i64 (i : Int) ∧ i + kq = l0.length ∧ Aside0 (frameGo (l0.drop i) (decide (i = 0)) f q = some (r1, r2)) ∧ Aside0 (IsWr w.heap.size w' g f (q : Int)) ∧ Aside0 (Below w.heap.size w w'))
    case atStart => exact ⟨0, 1, _, rfl, by omega, ⟨by simpa using H'.out⟩, HI, HB⟩
    case round =>
      clear H' HI HB
      obtain ⟨i, q, f, rfl, hik, HA, HI, HB⟩ := hrel
      cases gk with
      | zero =>
        have hil : i = l0.length := by omega
        have c2 : ((i : Int) < (l0.length : Int)) = False := eq_false (by omega)
        have c2n : (i < l0.length) = False := eq_false (by omega)
        have Hr := HA.out
        rw [List.drop_of_length_le (by omega)] at Hr
        simp only [frameGo] at Hr
        by_cases hg : q + 4 ≤ f.length ∧ f.length ≤ 4294967295
        · rw [if_pos hg] at Hr
          simp only [Option.some.injEq, Prod.mk.injEq] at Hr
          obtain ⟨rfl, rfl⟩ := Hr
          clear hil
          go_wp2_with fail
          refine (pq_Writer_Wrapped.calls g f q w _ HI.out HB.out hg.1 hg.2).mono ?_
          rintro e w2 ⟨v, rfl, hO, hB2⟩
          have hcv := own_string (P := Try.prog) Try.underlying58 Try.underlying5 Try.underlying9 (show w2.ownsRow w.heap.size 5 1 v (lenSet f q).length (nums .u8 (lenSet f q)) from by rw [lenSet_length]; exact hO)
          have HB2 := Aside0.mk hB2
          clear hO hB2
          go_wp2_with fail
          go_ret2
          exact ⟨by first | rfl | (simp; done), HB2.out⟩
        · rw [if_neg hg] at Hr
          exact absurd Hr (by simp)
      | succ k1 =>
        have hil : i < l0.length := by omega
        have c2 : ((i : Int) < (l0.length : Int)) = True := eq_true (by omega)
        have c3 : ((0 : Int) ≤ (i : Int)) = True := eq_true (by omega)
        have hd : l0.drop i = rd_T33 l0 i :: l0.drop (i + 1) := by
          rw [List.drop_eq_getElem_cons hil]
          simp [rd_T33, List.getD_eq_getElem?_getD, List.getElem?_eq_getElem hil]
        rw [hd] at HA
        obtain ⟨m, hm⟩ : ∃ m, m = rd_T33 l0 i := ⟨_, rfl⟩
        rw [← hm] at HA
        obtain ⟨ad', A1', c1', e1, x0, x1, hl1, hC1⟩ := at_T33 HR0.out (i : Int) (by omega) (by omega)
        cases e1
        rw [← hm] at hl1 hC1 x0 x1
        rw [Int.toNat_natCast] at x0 x1
        replace x0 := (HB.out.cell (World.block_lt_of_cell? w _ x0)).trans x0
        replace x1 := (HB.out.cell (World.block_lt_of_cell? w _ x1)).trans x1
        have hmaxp := Kd.C_max hC1
        have HC1 := Aside0.mk hC1
        have HL1 := Aside0.mk hl1
        clear hm hd hC1 hl1
        have hBa := HB.out.alloc HB.out.size (.cells #[.int .u8 m.f0, .slice A1' m.f1.length c1'] 33)
        have hIa := HI.out.below (below_alloc (Below.refl _ _) (.cells #[.int .u8 m.f0, .slice A1' m.f1.length c1'] 33))
        by_cases hi0 : i = 0
        · have hgt : ((i : Int) > 0) = False := eq_false (by omega)
          have hgtn : (0 < i) = False := eq_false (by omega)
          rw [decide_eq_true hi0] at HA
          simp only [frameGo] at HA
          clear hi0
          go_wp2_with fail
          go_loopg [33] (m.f1.length) (fun kq v33 w' => ∃ (j : Nat) (f' : List Int), v33 = .int .i64 (j : Int) ∧ j + kq = m.f1.length ∧ Aside0 (((framePieces (m.f1.drop j) f').bind fun r => if r.2 = true then frameGo (l0.drop (i + 1)) false r.1 q else some (⟨#[]⟩, false)) = some (r1, r2)) ∧ Aside0 (IsWr w.heap.size w' g f' ((q : Nat) : Int)) ∧ Aside0 (Below w.heap.size w w'))
          case atStart => exact ⟨0, _, rfl, by omega, HA, ⟨hIa⟩, ⟨hBa⟩⟩
          case round =>
            clear HA hBa hIa
            obtain ⟨j, f', rfl, hjk, HA, HI', HB'⟩ := hrel
            cases gk with
            | zero =>
              have c5 : ((j : Int) < (m.f1.length : Int)) = False := eq_false (by omega)
              have c5n : (j < m.f1.length) = False := eq_false (by omega)
              have Hr := HA.out
              rw [List.drop_of_length_le (by omega)] at Hr
              simp only [framePieces, Option.bind_some, if_true] at Hr
              have HR := Aside0.mk Hr
              clear HA Hr
              go_wp2_with fail
              go_roundg k1
              case measure => omega
              case rel => exact ⟨i + 1, _, _, by first | rfl | go_num | (simp; done), by omega, ⟨by simpa using HR.out⟩, HI', HB'⟩
            | succ k2 =>
              have hjl : j < m.f1.length := by omega
              have c5 : ((j : Int) < (m.f1.length : Int)) = True := eq_true (by omega)
              have c6 : ((0 : Int) ≤ (j : Int)) = True := eq_true (by omega)
              have hd : m.f1.drop j = rd_T25 m.f1 j :: m.f1.drop (j + 1) := by
                rw [List.drop_eq_getElem_cons hjl]
                simp [rd_T25, List.getD_eq_getElem?_getD, List.getElem?_eq_getElem hjl]
              rw [hd] at HA
              obtain ⟨x, hx⟩ : ∃ x, x = rd_T25 m.f1 j := ⟨_, rfl⟩
              rw [← hx] at HA
              obtain ⟨ap, e2, y0, y1, y2⟩ := at_T25 HC1.out (j : Int) (by omega) (by omega)
              cases e2
              rw [← hx, Int.toNat_natCast] at y0 y1 y2
              replace y0 := (HB'.out.cell (World.block_lt_of_cell? w _ y0)).trans y0
              replace y1 := (HB'.out.cell (World.block_lt_of_cell? w _ y1)).trans y1
              replace y2 := (HB'.out.cell (World.block_lt_of_cell? w _ y2)).trans y2
              have Hr := HA.out
              simp only [framePieces] at Hr
              by_cases hs : x.f2.size ≤ 70368744177664 ∧ f'.length ≤ 4294967295
              · rw [if_pos hs] at Hr
                have HR := Aside0.mk Hr
                have HS := Aside0.mk hs
                clear hx hd HA Hr hs
                have hBb := HB'.out.alloc HB'.out.size (.cells #[.int .i64 x.f0, .int .i64 x.f1, .string x.f2] 25)
                have hIb := HI'.out.below (below_alloc (Below.refl _ _) (.cells #[.int .i64 x.f0, .int .i64 x.f1, .string x.f2] 25))
                have hcall := impl_put.calls g f' _ x w _ hIb hBb (by have := HS.out.2; omega) HS.out.1
                go_wp2_with fail
                refine hcall.mono ?_
                clear hcall hIb hBb
                intro e w4 hpost
                unfold PutPost at hpost
                cases hp : putBytes x with
                | none =>
                  rw [hp] at hpost HR
                  obtain ⟨rfl, hB4⟩ := hpost
                  have Hr := HR.out
                  simp only [Option.bind_some] at Hr
                  rw [if_neg (by simp)] at Hr
                  simp only [Option.some.injEq, Prod.mk.injEq] at Hr
                  obtain ⟨rfl, rfl⟩ := Hr
                  have HB4 := Aside0.mk hB4
                  clear hp hB4
                  go_wp2_with fail
                  go_ret2
                  exact ⟨by first | rfl | (simp; done), HB4.out⟩
                | some ys =>
                  rw [hp] at hpost HR
                  obtain ⟨rfl, hI4, hB4⟩ := hpost
                  have HI4 := Aside0.mk hI4
                  have HB4 := Aside0.mk hB4
                  clear hp hI4 hB4
                  go_wp2_with fail
                  go_roundg k2
                  case measure => omega
                  case rel => exact ⟨j + 1, _, by first | rfl | go_num | (simp; done), by omega, HR, HI4, HB4⟩
              · rw [if_neg hs] at Hr
                exact absurd Hr (by simp)
        · have hgt : ((i : Int) > 0) = True := eq_true (by omega)
          have hgtn : (0 < i) = True := eq_true (by omega)
          rw [decide_eq_false hi0] at HA
          simp only [frameGo] at HA
          by_cases hg : q + 4 ≤ f.length ∧ f.length ≤ 4294967295
          · rw [if_pos hg] at HA
            have HG := Aside0.mk hg
            clear hi0 hg
            go_wp2_with fail
            refine (pq_Writer_Next.calls g f q m.f0 w _ hIa hBa HG.out.1 HG.out.2).mono ?_
            rintro e w3 ⟨rfl, hI3, hB3, hK3⟩
            have Bm := hK3 wr.heap.size _ _ (heap_alloc_new wr _) (by decide) (by obtain ⟨v, hb, _⟩ := HI.out; have := blk_lt hb; omega)
            have z1 := (blk_cell Bm 1).trans (rfl : _ = some (Value.slice A1' m.f1.length c1'))
            clear hK3
            go_wp2_with fail
            go_loopg [33] (m.f1.length) (fun kq v33 w' => ∃ (j : Nat) (f' : List Int), v33 = .int .i64 (j : Int) ∧ j + kq = m.f1.length ∧ Aside0 (((framePieces (m.f1.drop j) f').bind fun r => if r.2 = true then frameGo (l0.drop (i + 1)) false r.1 (f.length + 1) else some (⟨#[]⟩, false)) = some (r1, r2)) ∧ Aside0 (IsWr w.heap.size w' g f' (((f.length + 1) : Nat) : Int)) ∧ Aside0 (Below w.heap.size w w'))
            case atStart => exact ⟨0, _, rfl, by omega, HA, ⟨by simpa using hI3⟩, ⟨hB3⟩⟩
            case round =>
              clear HA hBa hIa hI3 hB3
              obtain ⟨j, f', rfl, hjk, HA, HI', HB'⟩ := hrel
              cases gk with
              | zero =>
                have c5 : ((j : Int) < (m.f1.length : Int)) = False := eq_false (by omega)
                have c5n : (j < m.f1.length) = False := eq_false (by omega)
                have Hr := HA.out
                rw [List.drop_of_length_le (by omega)] at Hr
                simp only [framePieces, Option.bind_some, if_true] at Hr
                have HR := Aside0.mk Hr
                clear HA Hr
                go_wp2_with fail
                go_roundg k1
                case measure => omega
                case rel => exact ⟨i + 1, _, _, by first | rfl | go_num | (simp; done), by omega, ⟨by simpa using HR.out⟩, HI', HB'⟩
              | succ k2 =>
                have hjl : j < m.f1.length := by omega
                have c5 : ((j : Int) < (m.f1.length : Int)) = True := eq_true (by omega)
                have c6 : ((0 : Int) ≤ (j : Int)) = True := eq_true (by omega)
                have hd : m.f1.drop j = rd_T25 m.f1 j :: m.f1.drop (j + 1) := by
                  rw [List.drop_eq_getElem_cons hjl]
                  simp [rd_T25, List.getD_eq_getElem?_getD, List.getElem?_eq_getElem hjl]
                rw [hd] at HA
                obtain ⟨x, hx⟩ : ∃ x, x = rd_T25 m.f1 j := ⟨_, rfl⟩
                rw [← hx] at HA
                obtain ⟨ap, e2, y0, y1, y2⟩ := at_T25 HC1.out (j : Int) (by omega) (by omega)
                cases e2
                rw [← hx, Int.toNat_natCast] at y0 y1 y2
                replace y0 := (HB'.out.cell (World.block_lt_of_cell? w _ y0)).trans y0
                replace y1 := (HB'.out.cell (World.block_lt_of_cell? w _ y1)).trans y1
                replace y2 := (HB'.out.cell (World.block_lt_of_cell? w _ y2)).trans y2
                have Hr := HA.out
                simp only [framePieces] at Hr
                by_cases hs : x.f2.size ≤ 70368744177664 ∧ f'.length ≤ 4294967295
                · rw [if_pos hs] at Hr
                  have HR := Aside0.mk Hr
                  have HS := Aside0.mk hs
                  clear hx hd HA Hr hs
                  have hBb := HB'.out.alloc HB'.out.size (.cells #[.int .i64 x.f0, .int .i64 x.f1, .string x.f2] 25)
                  have hIb := HI'.out.below (below_alloc (Below.refl _ _) (.cells #[.int .i64 x.f0, .int .i64 x.f1, .string x.f2] 25))
                  have hcall := impl_put.calls g f' _ x w _ hIb hBb (by have := HS.out.2; omega) HS.out.1
                  go_wp2_with fail
                  refine hcall.mono ?_
                  clear hcall hIb hBb
                  intro e w4 hpost
                  unfold PutPost at hpost
                  cases hp : putBytes x with
                  | none =>
                    rw [hp] at hpost HR
                    obtain ⟨rfl, hB4⟩ := hpost
                    have Hr := HR.out
                    simp only [Option.bind_some] at Hr
                    rw [if_neg (by simp)] at Hr
                    simp only [Option.some.injEq, Prod.mk.injEq] at Hr
                    obtain ⟨rfl, rfl⟩ := Hr
                    have HB4 := Aside0.mk hB4
                    clear hp hB4
                    go_wp2_with fail
                    go_ret2
                    exact ⟨by first | rfl | (simp; done), HB4.out⟩
                  | some ys =>
                    rw [hp] at hpost HR
                    obtain ⟨rfl, hI4, hB4⟩ := hpost
                    have HI4 := Aside0.mk hI4
                    have HB4 := Aside0.mk hB4
                    clear hp hI4 hB4
                    go_wp2_with fail
                    go_roundg k2
                    case measure => omega
                    case rel => exact ⟨j + 1, _, by first | rfl | go_num | (simp; done), by omega, HR, HI4, HB4⟩
                · rw [if_neg hs] at Hr
                  exact absurd Hr (by simp)
          · have Hr := HA.out
            rw [if_neg hg] at Hr
            exact absurd Hr (by simp)

/-! ### laws_FnFramed: function 4 -/
mutual
def laws_FnFramed.j0 : Nat → List (S33) → Bool → Option (Bool)
  | 0, _, _ => none
  | k + 1, x0, x18 => if x18 = true then (some true) else (laws_FnFramed.l0 k x0 0)
def laws_FnFramed.l0 : Nat → List (S33) → Int → Option (Bool)
  | 0, _, _ => none
  | k + 1, x0, x3 => if x3 < (x0.length : Int) then (if 0 ≤ x3 then (if (((rd_T33 x0 x3).f1).length : Int) > 30 then (some true) else (laws_FnFramed.l0 k x0 (wrap64 (x3 + 1)))) else (none)) else ((spec_Framed.f k x0).bind fun bt164 => (if bt164.2 = true then ((impl_Framed.f x0).bind fun bt166 => (if bt166.2 = true then (some (bt166.1.toList == bt164.1.toList)) else (some false))) else (some true)))
end
def laws_FnFramed.f (k : Nat) (l0 : List (S33)) : Option (Bool) := (laws_zzFits5.f k l0).bind fun t162 => (if t162 = true then (if (l0.length : Int) = 0 then (laws_FnFramed.j0 k l0 true) else (laws_FnFramed.j0 k l0 (decide ((l0.length : Int) > 10)))) else (some true))
theorem laws_FnFramed.mono_l : ∀ k, (∀ y0 y1, LeO (laws_FnFramed.j0 k y0 y1) (laws_FnFramed.j0 (k + 1) y0 y1)) ∧ (∀ y0 y1, LeO (laws_FnFramed.l0 k y0 y1) (laws_FnFramed.l0 (k + 1) y0 y1))
  | 0 => ⟨fun _ _ r h => by simp [laws_FnFramed.j0] at h, fun _ _ r h => by simp [laws_FnFramed.l0] at h⟩
  | k + 1 => by
    obtain ⟨ih0, ih1⟩ := laws_FnFramed.mono_l k
    refine ⟨?_, ?_⟩
    · intro y0 y1
      unfold laws_FnFramed.j0
      repeat' first
      | (with_reducible exact ih0 _ _)
      | (with_reducible exact ih1 _ _)
      | (with_reducible exact laws_zzFits5.mono _ _)
      | (with_reducible exact spec_Framed.mono _ _)
      | (with_reducible exact LeO.refl _)
      | (with_reducible exact LeO.none _)
      | (with_reducible refine LeO.ite ?_ ?_)
      | (with_reducible refine LeO.bind ?_ (fun _ => ?_))
      | exact ih0 _ _
      | exact ih1 _ _
      | exact laws_zzFits5.mono _ _
      | exact spec_Framed.mono _ _
      | exact LeO.none _
      | refine LeO.ite ?_ ?_
      | refine LeO.bind ?_ (fun _ => ?_)
    · intro y0 y1
      unfold laws_FnFramed.l0
      repeat' first
      | (with_reducible exact ih0 _ _)
      | (with_reducible exact ih1 _ _)
      | (with_reducible exact laws_zzFits5.mono _ _)
      | (with_reducible exact spec_Framed.mono _ _)
      | (with_reducible exact LeO.refl _)
      | (with_reducible exact LeO.none _)
      | (with_reducible refine LeO.ite ?_ ?_)
      | (with_reducible refine LeO.bind ?_ (fun _ => ?_))
      | exact ih0 _ _
      | exact ih1 _ _
      | exact laws_zzFits5.mono _ _
      | exact spec_Framed.mono _ _
      | exact LeO.none _
      | refine LeO.ite ?_ ?_
      | refine LeO.bind ?_ (fun _ => ?_)
theorem laws_FnFramed.mono : ∀ a0 k, LeO (laws_FnFramed.f k a0) (laws_FnFramed.f (k + 1) a0) := by
  intro a0 k
  obtain ⟨ih0, ih1⟩ := laws_FnFramed.mono_l k
  unfold laws_FnFramed.f
  repeat' first
      | (with_reducible exact ih0 _ _)
      | (with_reducible exact ih1 _ _)
      | (with_reducible exact laws_zzFits5.mono _ _)
      | (with_reducible exact spec_Framed.mono _ _)
      | (with_reducible exact LeO.refl _)
      | (with_reducible exact LeO.none _)
      | (with_reducible refine LeO.ite ?_ ?_)
      | (with_reducible refine LeO.bind ?_ (fun _ => ?_))
      | exact ih0 _ _
      | exact ih1 _ _
      | exact laws_zzFits5.mono _ _
      | exact spec_Framed.mono _ _
      | exact LeO.none _
      | refine LeO.ite ?_ ?_
      | refine LeO.bind ?_ (fun _ => ?_)
set_option maxHeartbeats 8000000 in
set_option maxRecDepth 100000 in
theorem laws_FnFramed.calls (k : Nat) (A0 : Option Addr) (c0 : Nat) (l0 : List (S33)) (r : Bool) (w : World) (hr0 : Kd.C k33 w A0 l0.length l0) (hc0 : l0.length ≤ c0) (h : laws_FnFramed.f k l0 = some r) :
    Calls Try.prog 4 #[.slice A0 l0.length c0] w fun e w' => e = .returned (.bool r) ∧ Below w.heap.size w w' := by
  have HR0 := Aside0.mk hr0
  have HC0 := Aside0.mk hc0
  clear hr0 hc0
  have HB := Aside0.mk (Below.refl w.heap.size w)
  have H : ((laws_zzFits5.f k l0).bind fun t162 => (if t162 = true then (if (l0.length : Int) = 0 then (laws_FnFramed.j0 k l0 true) else (laws_FnFramed.j0 k l0 (decide ((l0.length : Int) > 10)))) else (some true))) = some r := h
  clear h
  replace H := Option.bind_eq_some_iff.mp H
  obtain ⟨t162, A20, H⟩ := H
  replace H : (if t162 = true then (if (l0.length : Int) = 0 then (laws_FnFramed.j0 k l0 true) else (laws_FnFramed.j0 k l0 (decide ((l0.length : Int) > 10)))) else (some true)) = some r := H
  have A2 := Aside0.mk A20
  clear A20
  by_cases c3 : t162 = true
  · subst c3
    have H1 : (if (l0.length : Int) = 0 then (laws_FnFramed.j0 k l0 true) else (laws_FnFramed.j0 k l0 (decide ((l0.length : Int) > 10)))) = some r := by rw [if_pos rfl] at H; exact H
    clear H
    have H := H1
    clear H1
    have HC4 := Aside0.mk H
    clear H
    go_enter Try.func4, Try.ntmps4
    go_upto_region 3 with (first | ((with_reducible refine gate_callee (f := 13) rfl ?_); refine goesL_ (some 9) rfl rfl Try.func13 (by kernel_rfl) rfl #[.slice A0 l0.length c0] rfl (by (try simp only [List.map_toArray, List.map_cons, List.map_nil]); first | done | rfl | (simp only [List.length_drop, List.length_take]; rfl)) ?_; (with_reducible refine (laws_zzFits5.calls k _ _ l0 true _ ?side1 ?side2 A2.out).mono ?_); (case side1 => repeat (first | exact HR0.out | (with_reducible refine Kd.C_alloc ?_ _) | (with_reducible refine Kd.C_drewN ?_ _) | (with_reducible refine Kd.C_drew ?_))); (case side2 => exact HC0.out); rintro e w5 ⟨rfl, hb⟩; refine ⟨_, rfl, ?_⟩; have n0_ := Aside0.mk (below_step (by repeat (first | (with_reducible first | exact HB.out | apply below_alloc | apply pw_below_drewN | apply below_drew1) | exact HB.out)) hb); clear HB; have HB := n0_; clear n0_; (try clear hb); (try clear hb2); (try clear hk); (try clear hi)))
    (try simp only [Act.put, List.setIfInBounds_toArray, List.set_cons_zero, List.set_cons_succ])
    go_cut [18] (fun v18 wc => ∃ (kq : Nat) (x18_3 : Bool), v18 = .bool x18_3 ∧ Aside0 (laws_FnFramed.j0 kq l0 x18_3 = some r) ∧ Aside0 (kq ≤ k) ∧ Aside0 (Below w.heap.size w wc))
    case first =>
      have H := HC4.out
      clear HC4
      by_cases c6 : (l0.length : Int) = 0
      · rw [if_pos c6] at H
        have c6b0 : ((l0.length : Int) == 0) = true := beq_iff_eq.mpr c6
        have c6b1 : ((l0.length : Int) != 0) = false := bne_eq_false_iff_eq.mpr c6
        clear c6
        (first | rw [c6b0] | (simp only [i64_w, i32_w]; rw [c6b0]) | skip)
        have H' := Aside0.mk H
        clear H
        go_wp2
        go_meet
        case rel => exact ⟨_, (true), (by first | rfl | (simp; done) | (simp [*]; done)), H', ⟨by first | omega | exact Nat.le_refl _⟩, ⟨by repeat (first | (with_reducible first | exact HB.out | apply below_alloc | apply pw_below_drewN | apply below_drew1) | exact HB.out)⟩⟩
      · rw [if_neg c6] at H
        have c6b0 : ((l0.length : Int) == 0) = false := beq_eq_false_iff_ne.mpr c6
        have c6b1 : ((l0.length : Int) != 0) = true := bne_iff_ne.mpr c6
        have c6b2 : ¬ (l0 = []) := fun h_ => c6 (by rw [h_]; rfl)
        (first | rw [c6b0] | (simp only [i64_w, i32_w]; rw [c6b0]) | skip)
        have H' := Aside0.mk H
        clear H
        go_wp2
        go_meet
        case rel => exact ⟨_, (decide ((l0.length : Int) > 10)), (by first | rfl | (simp; done) | (simp [*]; done)), H', ⟨by first | omega | exact Nat.le_refl _⟩, ⟨by repeat (first | (with_reducible first | exact HB.out | apply below_alloc | apply pw_below_drewN | apply below_drew1) | exact HB.out)⟩⟩
    case rest =>
      clear HC4
      try clear c1
      try clear p2
      try clear c3
      try clear c4
      try clear c6
      try clear c6b0
      try clear c6b1
      try clear c6b2
      obtain ⟨kq, x18_3, rfl, HA, HJ3, HB⟩ := hcut
      cases kq with
      | zero => exact absurd HA.out (by simp [laws_FnFramed.j0])
      | succ kj3 =>
        have H := HA.out
        clear HA
        simp only [laws_FnFramed.j0] at H
        by_cases c7 : x18_3 = true
        · subst c7
          have H1 : (some true) = some r := by rw [if_pos rfl] at H; exact H
          clear H
          have H := H1
          clear H1
          obtain rfl := Option.some.inj H
          go_wp2
          go_ret
          exact ⟨by first | rfl | (simp [errW_none, errW_some] <;> rfl) | (simp [*, errW_none, errW_some] <;> rfl), by repeat (first | (with_reducible first | exact HB.out | apply below_alloc | apply pw_below_drewN | apply below_drew1) | exact HB.out)⟩
        · replace c7 := Bool.eq_false_iff.mpr c7
          subst c7
          have H1 : (laws_FnFramed.l0 kj3 l0 0) = some r := by rw [if_neg (show ¬ (false = true) by decide)] at H; exact H
          clear H
          have H := H1
          clear H1
          have H' := Aside0.mk H
          clear H
          go_wp2
          go_loopg [3] kj3 (fun kq v3 w' => ∃ (x3_2 : Int), v3 = .int .i64 x3_2 ∧ Aside0 (laws_FnFramed.l0 kq l0 x3_2 = some r) ∧ Aside0 (kq ≤ kj3) ∧ Aside0 (Below w.heap.size w w'))
          case atStart => exact ⟨(0), (by first | rfl | (simp; done) | (simp [*]; done)), H', ⟨Nat.le_refl _⟩, ⟨by repeat (first | (with_reducible first | exact HB.out | apply below_alloc | apply pw_below_drewN | apply below_drew1) | exact HB.out)⟩⟩
          case round =>
            clear H'
            try clear c1
            try clear p2
            try clear c3
            try clear c4
            try clear c6
            try clear c6b0
            try clear c6b1
            try clear c6b2
            try clear c7
            try clear p2
            obtain ⟨x3_2, rfl, HA, HK2, HB⟩ := hrel
            cases gk with
            | zero => exact absurd HA.out (by simp [laws_FnFramed.l0])
            | succ k2 =>
              have H := HA.out
              clear HA
              simp only [laws_FnFramed.l0] at H
              by_cases c8 : x3_2 < (l0.length : Int)
              · rw [if_pos c8] at H
                have c8b0 : decide (x3_2 < (l0.length : Int)) = true := decide_eq_true c8
                clear c8
                by_cases c9 : 0 ≤ x3_2
                · rw [if_pos c9] at H
                  have c9b0 : decide (0 ≤ x3_2) = true := decide_eq_true c9
                  clear c9
                  by_cases c10 : (((rd_T33 l0 x3_2).f1).length : Int) > 30
                  · rw [if_pos c10] at H
                    have c10b0 : decide (30 < (((rd_T33 l0 x3_2).f1).length : Int)) = true := decide_eq_true c10
                    have c10b1 : decide (30 < ((rd_T33 l0 x3_2).f1).length) = true := decide_eq_true (by omega)
                    clear c10
                    obtain rfl := Option.some.inj H
                    have p163 : 0 ≤ (x3_2 : Int) := of_decide_eq_true (by first | (with_reducible assumption) | assumption)
                    have q163 : x3_2 < (l0.length : Int) := of_decide_eq_true (by first | (with_reducible assumption) | assumption)
                    obtain ⟨ad163, A163_1, c163_1, e163, hx163_0, hx163_1, hl163_1, hi163_1⟩ := at_T33 HR0.out x3_2 p163 q163
                    cases e163
                    replace hx163_0 := (HB.out.cell (World.block_lt_of_cell? w _ hx163_0)).trans hx163_0
                    replace hx163_1 := (HB.out.cell (World.block_lt_of_cell? w _ hx163_1)).trans hx163_1
                    have HR163_1 := Aside0.mk hi163_1
                    have HC163_1 := Aside0.mk hl163_1
                    clear hi163_1 hl163_1
                    replace p163 := eq_true p163
                    replace q163 := eq_true q163
                    go_wp2
                    go_ret
                    exact ⟨by first | rfl | (simp [errW_none, errW_some] <;> rfl) | (simp [*, errW_none, errW_some] <;> rfl), by repeat (first | (with_reducible first | exact HB.out | apply below_alloc | apply pw_below_drewN | apply below_drew1) | exact HB.out)⟩
                  · rw [if_neg c10] at H
                    have c10b0 : decide (30 < (((rd_T33 l0 x3_2).f1).length : Int)) = false := decide_eq_false c10
                    have c10b1 : decide (30 < ((rd_T33 l0 x3_2).f1).length) = false := decide_eq_false (by omega)
                    clear c10
                    have H' := Aside0.mk H
                    clear H
                    have p163 : 0 ≤ (x3_2 : Int) := of_decide_eq_true (by first | (with_reducible assumption) | assumption)
                    have q163 : x3_2 < (l0.length : Int) := of_decide_eq_true (by first | (with_reducible assumption) | assumption)
                    obtain ⟨ad163, A163_1, c163_1, e163, hx163_0, hx163_1, hl163_1, hi163_1⟩ := at_T33 HR0.out x3_2 p163 q163
                    cases e163
                    replace hx163_0 := (HB.out.cell (World.block_lt_of_cell? w _ hx163_0)).trans hx163_0
                    replace hx163_1 := (HB.out.cell (World.block_lt_of_cell? w _ hx163_1)).trans hx163_1
                    have HR163_1 := Aside0.mk hi163_1
                    have HC163_1 := Aside0.mk hl163_1
                    clear hi163_1 hl163_1
                    replace p163 := eq_true p163
                    replace q163 := eq_true q163
                    go_wp2
                    go_roundg k2
                    case measure => have := HJ3.out; have := HK2.out; omega
                    case rel => exact ⟨(wrap64 (x3_2 + 1)), (by first | rfl | (simp; done) | (simp [*]; done)), H', ⟨by have := HJ3.out; have := HK2.out; omega⟩, ⟨by repeat (first | (with_reducible first | exact HB.out | apply below_alloc | apply pw_below_drewN | apply below_drew1) | exact HB.out)⟩⟩
                · rw [if_neg c9] at H
                  exact absurd H (by simp)
              · rw [if_neg c8] at H
                have c8b0 : decide (x3_2 < (l0.length : Int)) = false := decide_eq_false c8
                clear c8
                replace H := Option.bind_eq_some_iff.mp H
                obtain ⟨⟨t164, t165⟩, A110, H⟩ := H
                replace H : (if t165 = true then ((impl_Framed.f l0).bind fun bt166 => (if bt166.2 = true then (some (bt166.1.toList == t164.toList)) else (some false))) else (some true)) = some r := H
                have A11 := Aside0.mk A110
                clear A110
                by_cases c12 : t165 = true
                · subst c12
                  have H1 : ((impl_Framed.f l0).bind fun bt166 => (if bt166.2 = true then (some (bt166.1.toList == t164.toList)) else (some false))) = some r := by rw [if_pos rfl] at H; exact H
                  clear H
                  have H := H1
                  clear H1
                  replace H := Option.bind_eq_some_iff.mp H
                  obtain ⟨⟨t166, t167⟩, A130, H⟩ := H
                  replace H : (if t167 = true then (some (t166.toList == t164.toList)) else (some false)) = some r := H
                  have A13 := Aside0.mk A130
                  clear A130
                  by_cases c14 : t167 = true
                  · subst c14
                    have H1 : (some (t166.toList == t164.toList)) = some r := by rw [if_pos rfl] at H; exact H
                    clear H
                    have H := H1
                    clear H1
                    obtain rfl := Option.some.inj H
                    go_wp2_with (first | ((with_reducible refine gate_callee (f := 14) rfl ?_); refine goesL_ (some 34) rfl rfl Try.func14 (by kernel_rfl) rfl #[.slice A0 l0.length c0] rfl (by (try simp only [List.map_toArray, List.map_cons, List.map_nil]); first | done | rfl | (simp only [List.length_drop, List.length_take]; rfl)) ?_; (with_reducible refine (spec_Framed.calls k2 _ _ l0 t164 true _ ?side1 ?side2 A11.out).mono ?_); (case side1 => repeat (first | exact (Kd.C_below HR0.out HB.out) | (with_reducible refine Kd.C_alloc ?_ _) | (with_reducible refine Kd.C_drewN ?_ _) | (with_reducible refine Kd.C_drew ?_))); (case side2 => exact HC0.out); rintro e w15 ⟨rfl, hb⟩; refine ⟨_, rfl, ?_⟩; have n0_ := Aside0.mk (below_step (by repeat (first | (with_reducible first | exact HB.out | apply below_alloc | apply pw_below_drewN | apply below_drew1) | exact HB.out)) hb); clear HB; have HB := n0_; clear n0_; (try clear hb); (try clear hb2); (try clear hk); (try clear hi)) | ((with_reducible refine gate_callee (f := 15) rfl ?_); refine goesL_ (some 41) rfl rfl Try.func15 (by kernel_rfl) rfl #[.slice A0 l0.length c0] rfl (by (try simp only [List.map_toArray, List.map_cons, List.map_nil]); first | done | rfl | (simp only [List.length_drop, List.length_take]; rfl)) ?_; (with_reducible refine (impl_Framed.calls _ _ l0 t166 true _ ?side1 ?side2 A13.out).mono ?_); (case side1 => repeat (first | exact (Kd.C_below HR0.out HB.out) | (with_reducible refine Kd.C_alloc ?_ _) | (with_reducible refine Kd.C_drewN ?_ _) | (with_reducible refine Kd.C_drew ?_))); (case side2 => exact HC0.out); rintro e w16 ⟨rfl, hb⟩; refine ⟨_, rfl, ?_⟩; have n0_ := Aside0.mk (below_step (by repeat (first | (with_reducible first | exact HB.out | apply below_alloc | apply pw_below_drewN | apply below_drew1) | exact HB.out)) hb); clear HB; have HB := n0_; clear n0_; (try clear hb); (try clear hb2); (try clear hk); (try clear hi)))
                    go_ret
                    exact ⟨by first | rfl | (simp [errW_none, errW_some] <;> rfl) | (simp [*, errW_none, errW_some] <;> rfl), by repeat (first | (with_reducible first | exact HB.out | apply below_alloc | apply pw_below_drewN | apply below_drew1) | exact HB.out)⟩
                  · replace c14 := Bool.eq_false_iff.mpr c14
                    subst c14
                    have H1 : (some false) = some r := by rw [if_neg (show ¬ (false = true) by decide)] at H; exact H
                    clear H
                    have H := H1
                    clear H1
                    obtain rfl := Option.some.inj H
                    go_wp2_with (first | ((with_reducible refine gate_callee (f := 14) rfl ?_); refine goesL_ (some 34) rfl rfl Try.func14 (by kernel_rfl) rfl #[.slice A0 l0.length c0] rfl (by (try simp only [List.map_toArray, List.map_cons, List.map_nil]); first | done | rfl | (simp only [List.length_drop, List.length_take]; rfl)) ?_; (with_reducible refine (spec_Framed.calls k2 _ _ l0 t164 true _ ?side1 ?side2 A11.out).mono ?_); (case side1 => repeat (first | exact (Kd.C_below HR0.out HB.out) | (with_reducible refine Kd.C_alloc ?_ _) | (with_reducible refine Kd.C_drewN ?_ _) | (with_reducible refine Kd.C_drew ?_))); (case side2 => exact HC0.out); rintro e w17 ⟨rfl, hb⟩; refine ⟨_, rfl, ?_⟩; have n0_ := Aside0.mk (below_step (by repeat (first | (with_reducible first | exact HB.out | apply below_alloc | apply pw_below_drewN | apply below_drew1) | exact HB.out)) hb); clear HB; have HB := n0_; clear n0_; (try clear hb); (try clear hb2); (try clear hk); (try clear hi)) | ((with_reducible refine gate_callee (f := 15) rfl ?_); refine goesL_ (some 41) rfl rfl Try.func15 (by kernel_rfl) rfl #[.slice A0 l0.length c0] rfl (by (try simp only [List.map_toArray, List.map_cons, List.map_nil]); first | done | rfl | (simp only [List.length_drop, List.length_take]; rfl)) ?_; (with_reducible refine (impl_Framed.calls _ _ l0 t166 false _ ?side1 ?side2 A13.out).mono ?_); (case side1 => repeat (first | exact (Kd.C_below HR0.out HB.out) | (with_reducible refine Kd.C_alloc ?_ _) | (with_reducible refine Kd.C_drewN ?_ _) | (with_reducible refine Kd.C_drew ?_))); (case side2 => exact HC0.out); rintro e w18 ⟨rfl, hb⟩; refine ⟨_, rfl, ?_⟩; have n0_ := Aside0.mk (below_step (by repeat (first | (with_reducible first | exact HB.out | apply below_alloc | apply pw_below_drewN | apply below_drew1) | exact HB.out)) hb); clear HB; have HB := n0_; clear n0_; (try clear hb); (try clear hb2); (try clear hk); (try clear hi)))
                    go_ret
                    exact ⟨by first | rfl | (simp [errW_none, errW_some] <;> rfl) | (simp [*, errW_none, errW_some] <;> rfl), by repeat (first | (with_reducible first | exact HB.out | apply below_alloc | apply pw_below_drewN | apply below_drew1) | exact HB.out)⟩
                · replace c12 := Bool.eq_false_iff.mpr c12
                  subst c12
                  have H1 : (some true) = some r := by rw [if_neg (show ¬ (false = true) by decide)] at H; exact H
                  clear H
                  have H := H1
                  clear H1
                  obtain rfl := Option.some.inj H
                  go_wp2_with (first | ((with_reducible refine gate_callee (f := 14) rfl ?_); refine goesL_ (some 34) rfl rfl Try.func14 (by kernel_rfl) rfl #[.slice A0 l0.length c0] rfl (by (try simp only [List.map_toArray, List.map_cons, List.map_nil]); first | done | rfl | (simp only [List.length_drop, List.length_take]; rfl)) ?_; (with_reducible refine (spec_Framed.calls k2 _ _ l0 t164 false _ ?side1 ?side2 A11.out).mono ?_); (case side1 => repeat (first | exact (Kd.C_below HR0.out HB.out) | (with_reducible refine Kd.C_alloc ?_ _) | (with_reducible refine Kd.C_drewN ?_ _) | (with_reducible refine Kd.C_drew ?_))); (case side2 => exact HC0.out); rintro e w19 ⟨rfl, hb⟩; refine ⟨_, rfl, ?_⟩; have n0_ := Aside0.mk (below_step (by repeat (first | (with_reducible first | exact HB.out | apply below_alloc | apply pw_below_drewN | apply below_drew1) | exact HB.out)) hb); clear HB; have HB := n0_; clear n0_; (try clear hb); (try clear hb2); (try clear hk); (try clear hi)))
                  go_ret
                  exact ⟨by first | rfl | (simp [errW_none, errW_some] <;> rfl) | (simp [*, errW_none, errW_some] <;> rfl), by repeat (first | (with_reducible first | exact HB.out | apply below_alloc | apply pw_below_drewN | apply below_drew1) | exact HB.out)⟩
  · replace c3 := Bool.eq_false_iff.mpr c3
    subst c3
    have H1 : (some true) = some r := by rw [if_neg (show ¬ (false = true) by decide)] at H; exact H
    clear H
    have H := H1
    clear H1
    obtain rfl := Option.some.inj H
    go_enter Try.func4, Try.ntmps4
    go_wp2_with (first | ((with_reducible refine gate_callee (f := 13) rfl ?_); refine goesL_ (some 9) rfl rfl Try.func13 (by kernel_rfl) rfl #[.slice A0 l0.length c0] rfl (by (try simp only [List.map_toArray, List.map_cons, List.map_nil]); first | done | rfl | (simp only [List.length_drop, List.length_take]; rfl)) ?_; (with_reducible refine (laws_zzFits5.calls k _ _ l0 false _ ?side1 ?side2 A2.out).mono ?_); (case side1 => repeat (first | exact HR0.out | (with_reducible refine Kd.C_alloc ?_ _) | (with_reducible refine Kd.C_drewN ?_ _) | (with_reducible refine Kd.C_drew ?_))); (case side2 => exact HC0.out); rintro e w20 ⟨rfl, hb⟩; refine ⟨_, rfl, ?_⟩; have n0_ := Aside0.mk (below_step (by repeat (first | (with_reducible first | exact HB.out | apply below_alloc | apply pw_below_drewN | apply below_drew1) | exact HB.out)) hb); clear HB; have HB := n0_; clear n0_; (try clear hb); (try clear hb2); (try clear hk); (try clear hi)))
    go_ret
    exact ⟨by first | rfl | (simp [errW_none, errW_some] <;> rfl) | (simp [*, errW_none, errW_some] <;> rfl), by repeat (first | (with_reducible first | exact HB.out | apply below_alloc | apply pw_below_drewN | apply below_drew1) | exact HB.out)⟩

/-! ### laws_FnFrameBack: function 5 -/
/-- The kind of a piece, as the law writes it. -/
def fbKind (p : S25) : S25 := ⟨p.f0, if p.f0 = 5 then (p.f2.size : Int) else 0, ⟨#[]⟩⟩
def laws_FnFrameBack.e0 (k : Nat) (l1 : List S25) (o : ByteArray) : Option Bool := if 5 ≤ o.size then (impl_Unframed.f k (o.extract 5 o.size) (l1.map fbKind)).bind fun u => if u.2.2 = true ∧ u.2.1 = ⟨#[]⟩ then laws_same7Pieces.f k u.1 l1 else none else none
def laws_FnFrameBack.j0 (k : Nat) (a0 : Int) (l1 : List S25) (b : Bool) : Option Bool := if b = true then some true else (spec_Pieces.f k l1).bind fun q => if q.2 = true then (impl_Framed.f [(⟨a0, l1⟩ : S33)]).bind fun o => if o.2 = true then laws_FnFrameBack.e0 k l1 o.1 else none else some true
def laws_FnFrameBack.f (k : Nat) (a0 : Int) (l1 : List S25) : Option Bool := (laws_zzFits7.f k l1).bind fun t => if t = true then (if a0 = 0 then some true else laws_FnFrameBack.j0 k a0 l1 (decide ((l1.length : Int) > 30))) else some true
theorem laws_FnFrameBack.mono : ∀ a0 l1 k, LeO (laws_FnFrameBack.f k a0 l1) (laws_FnFrameBack.f (k + 1) a0 l1) := by
  intro a0 l1 k
  unfold laws_FnFrameBack.f laws_FnFrameBack.j0 laws_FnFrameBack.e0
  repeat' first
      | (with_reducible exact laws_zzFits7.mono _ _)
      | (with_reducible exact spec_Pieces.mono _ _)
      | (with_reducible exact impl_Unframed.mono _ _ _)
      | (with_reducible exact laws_same7Pieces.mono _ _ _)
      | (with_reducible exact LeO.refl _)
      | (with_reducible exact LeO.none _)
      | (with_reducible refine LeO.ite ?_ ?_)
      | (with_reducible refine LeO.bind ?_ (fun _ => ?_))
set_option maxHeartbeats 8000000 in
set_option maxRecDepth 100000 in
theorem laws_FnFrameBack.calls (k : Nat) (a0 : Int) (A1 : Option Addr) (c1 : Nat) (l1 : List (S25)) (r : Bool) (w : World) (hr1 : Kd.C k25 w A1 l1.length l1) (hc1 : l1.length ≤ c1) (h : laws_FnFrameBack.f k a0 l1 = some r) :
    Calls Try.prog 5 #[.int .u8 a0, .slice A1 l1.length c1] w fun e w' => e = .returned (.bool r) ∧ Below w.heap.size w w' := by
  have hu25 := Try.underlying25
  have hu33 := Try.underlying33
  have HR1 := Aside0.mk hr1
  have HC1 := Aside0.mk hc1
  clear hr1 hc1
  have H : ((laws_zzFits7.f k l1).bind fun t => if t = true then (if a0 = 0 then some true else laws_FnFrameBack.j0 k a0 l1 (decide ((l1.length : Int) > 30))) else some true) = some r := h
  clear h
  obtain ⟨t, A3, H⟩ := Option.bind_eq_some_iff.mp H
  have HZ := Aside0.mk A3
  have HH := Aside0.mk H
  clear A3 H
  go_enter Try.func5, Try.ntmps5
  go_wp2_with fail
  refine (laws_zzFits7.calls k _ _ l1 t _ HR1.out HC1.out HZ.out).mono ?_
  rintro e w1 ⟨rfl, hb1⟩
  have HB := Aside0.mk hb1
  clear hb1
  by_cases ht : t = true
  case neg =>
    have htf : t = false := by simpa using ht
    subst htf
    have H := HH.out
    simp only [Bool.false_eq_true, if_false, Option.some.injEq] at H
    subst H
    go_wp2_with fail
    go_ret
    exact ⟨rfl, HB.out⟩
  subst ht
  replace HH := HH.out
  rw [if_pos rfl] at HH
  by_cases h0 : a0 = 0
  · rw [if_pos h0] at HH
    simp only [Option.some.injEq] at HH
    subst HH
    have h0b : (a0 == 0) = true := beq_iff_eq.mpr h0
    clear h0
    go_wp2_with fail
    go_ret
    exact ⟨rfl, HB.out⟩
  rw [if_neg h0] at HH
  have h0b : (a0 == 0) = false := beq_eq_false_iff_ne.mpr h0
  have HA0 := Aside0.mk h0
  clear h0
  unfold laws_FnFrameBack.j0 at HH
  by_cases h30 : (l1.length : Int) > 30
  · have h30b : decide ((l1.length : Int) > 30) = true := decide_eq_true h30
    rw [if_pos h30b] at HH
    simp only [Option.some.injEq] at HH
    subst HH
    replace h30 := eq_true h30
    go_wp2_with fail
    go_ret
    exact ⟨rfl, HB.out⟩
  have h30b : decide ((l1.length : Int) > 30) = false := decide_eq_false h30
  rw [if_neg (by rw [h30b]; decide)] at HH
  have H30 : Aside0 (l1.length ≤ 30) := ⟨by omega⟩
  replace h30 := eq_false h30
  obtain ⟨⟨s, q⟩, A4, HH⟩ := Option.bind_eq_some_iff.mp HH
  replace HH : (if q = true then (impl_Framed.f [(⟨a0, l1⟩ : S33)]).bind fun o => if o.2 = true then laws_FnFrameBack.e0 k l1 o.1 else none else some true) = some r := HH
  have HQ := Aside0.mk A4
  clear A4
  have HH' := Aside0.mk HH
  clear HH
  go_wp2_with fail
  refine (spec_Pieces.calls k _ _ l1 s q _ (Kd.C_below HR1.out HB.out) HC1.out HQ.out).mono ?_
  rintro e w2 ⟨rfl, hb2⟩
  have n0 := Aside0.mk (below_step HB.out hb2)
  clear HB hb2
  have HB := n0
  clear n0 h0b h30 h30b
  by_cases hq : q = true
  case neg =>
    have hqf : q = false := by simpa using hq
    subst hqf
    have H := HH'.out
    simp only [Bool.false_eq_true, if_false, Option.some.injEq] at H
    subst H
    go_wp2_with fail
    go_ret
    exact ⟨rfl, HB.out⟩
  subst hq
  have HH := HH'.out
  rw [if_pos rfl] at HH
  have HE := Aside0.mk HH
  clear HH HH'
  go_wp2_with fail
  go_loopg [7, 8] (l1.length + 1) (fun kq v7 v8 w' => ∃ i : Nat, v8 = .int .i64 (i : Int) ∧ Aside0 (i ≤ l1.length) ∧ Aside0 (kq + i = l1.length + 1) ∧ Aside0 (Kd.R k25 25 w' w.heap.size (fun _ => True) v7 ((l1.take i).map fbKind)) ∧ Aside0 (Below w.heap.size w w'))
  case atStart => exact ⟨0, rfl, ⟨Nat.zero_le _⟩, ⟨rfl⟩, ⟨Kd.R_nil _ _ _ _ _⟩, HB⟩
  case round =>
    clear HB
    obtain ⟨i, rfl, HI, HK, HO, HB⟩ := hrel
    by_cases ci : i < l1.length
    · have c12b : ((i : Int) < (l1.length : Int)) = True := eq_true (by omega)
      have c12c : decide ((i : Int) < (l1.length : Int)) = true := decide_eq_true (by omega)
      have c13b : decide (0 ≤ (i : Int)) = true := decide_eq_true (by omega)
      obtain ⟨ad, e1, x0, x1, x2⟩ := at_T25 HR1.out (i : Int) (by omega) (by omega)
      cases e1
      replace x0 := (HB.out.cell (World.block_lt_of_cell? w _ x0)).trans x0
      replace x1 := (HB.out.cell (World.block_lt_of_cell? w _ x1)).trans x1
      replace x2 := (HB.out.cell (World.block_lt_of_cell? w _ x2)).trans x2
      obtain ⟨p, hp⟩ : ∃ p, p = rd_T25 l1 (i : Int) := ⟨_, rfl⟩
      rw [← hp] at x0 x1 x2
      have HP := Aside0.mk hp
      clear hp
      simp only [Int.toNat_natCast] at x0 x1 x2
      obtain ⟨V, hV⟩ : ∃ V, V = wr.alloc (.cells #[.int .i64 p.f0, .int .i64 0, .string ⟨#[]⟩] 25 (0, 0)) := ⟨_, rfl⟩
      have BV : Below wr.heap.size wr V := by rw [hV]; exact below_alloc (Below.refl _ _) _
      have HBV : Below w.heap.size w V := below_step HB.out BV
      have Bk : V.heap[wr.heap.size]? = some (.cells #[.int .i64 p.f0, .int .i64 0, .string ⟨#[]⟩] 25 (0, 0)) := by rw [hV]; exact heap_alloc_new wr _
      have x2v := (BV.cell (World.block_lt_of_cell? _ _ x2)).trans x2
      have b0 := blk_cell Bk 0
      have b1 := blk_cell Bk 1
      have b2 := blk_cell Bk 2
      have fz := blk_frozen Bk 1
      have q0 := fun v => (blk_cell (blk_set Bk 1 v) 0).trans (rfl : _ = some (Value.int .i64 p.f0))
      have q1 := fun v => (blk_cell (blk_set Bk 1 v) 1).trans (rfl : _ = some (v : Value))
      have q2 := fun v => (blk_cell (blk_set Bk 1 v) 2).trans (rfl : _ = some (Value.string ⟨#[]⟩ : Value))
      have hw : w.heap.size ≤ wr.heap.size := HB.out.size
      have HOV : Kd.R k25 25 V w.heap.size (fun k_ => True ∧ k_ ≠ wr.heap.size) u7 ((l1.take i).map fbKind) := Kd.R_mono (Kd.R_below (Kd.R_elderB HO.out wr.heap.size (Nat.le_refl _)) BV) (fun _ hk => hk)
      have HBo : ∀ o, Below w.heap.size w (wr.alloc o) := fun o => below_alloc HB.out o
      have HOo : ∀ o, Kd.R k25 25 (wr.alloc o) w.heap.size (fun _ => True) u7 ((l1.take i).map fbKind) := fun o => Kd.R_below HO.out (below_alloc (Below.refl _ _) o)
      have hlt : ((l1.take i).map fbKind).length = i := by rw [List.length_map, List.length_take]; omega
      have htk : (l1.take (i + 1)).map fbKind = (l1.take i).map fbKind ++ [fbKind p] := by
        have hpi : p = l1[i] := by rw [HP.out]; unfold rd_T25; simp [List.getD_eq_getElem?_getD, ci]
        rw [List.take_succ_eq_append_getElem ci, List.map_append, hpi]
        rfl
      have hwr : wrap64 ((i : Int) + 1) = ((i + 1 : Nat) : Int) := by have := H30.out; unfold wrap64; omega
      by_cases ck : p.f0 = 5
      · have ckb : (p.f0 == 5) = true := beq_iff_eq.mpr ck
        have hfk : fbKind p = ⟨p.f0, (p.f2.size : Int), ⟨#[]⟩⟩ := by unfold fbKind; rw [if_pos ck]
        clear ck
        have HBV2 := fun o => HBo o
        have HOV2 := fun o => HOo o
        subst hV
        go_wp2_with (first | ((with_reducible refine gate_builtin (b := .append) (xs := #[.tmp 54, .tmp 56]) rfl ?_); at_builtin; refine Kd.R_append k25 (w0 := w) w.heap.size rfl (.tmp 54) (.tmp 56) 22 25 (.agg #[(.int .i64 0), (.int .i64 0), (.string ⟨#[]⟩)]) 32 rfl Try.underlying22 info25 rfl (by decide) (by omega) u7 ((l1.take i).map fbKind) (⟨p.f0, (p.f2.size : Int), ⟨#[]⟩⟩ : S25) [.int .i64 p.f0, .int .i64 ((p.f2.size : Int)), .string (⟨#[]⟩)] (fun _ => True) (fun _ => False) rfl (by first | (go_simp; done) | (go_simp; rfl)) ?aP (fun _ hk => hk.elim) ?aF ?aO ?aB ?aS ?aL ?_; (case aP => exact k25_mkM _ _ _ (⟨p.f0, (p.f2.size : Int), ⟨#[]⟩⟩ : S25)); (case aB => exact HBV2 _); (case aF => exact (fun _ _ => trivial)); (case aO => exact HOV2 _); (case aS => exact (HBV2 _).size); (case aL => have := H30.out; omega); intro v1 w8 ho hb hg hat))
        go_roundg (l1.length - i)
        case measure => have := HK.out; omega
        case rel => exact ⟨i + 1, by rw [hwr], ⟨by omega⟩, ⟨by have := HK.out; omega⟩, ⟨by rw [htk, hfk]; exact ho⟩, ⟨hb⟩⟩
      · have ckb : (p.f0 == 5) = false := beq_eq_false_iff_ne.mpr ck
        have hfk : fbKind p = ⟨p.f0, 0, ⟨#[]⟩⟩ := by unfold fbKind; rw [if_neg ck]
        clear ck
        have HBV2 := fun o => HBo o
        have HOV2 := fun o => HOo o
        subst hV
        go_wp2_with (first | ((with_reducible refine gate_builtin (b := .append) (xs := #[.tmp 54, .tmp 56]) rfl ?_); at_builtin; refine Kd.R_append k25 (w0 := w) w.heap.size rfl (.tmp 54) (.tmp 56) 22 25 (.agg #[(.int .i64 0), (.int .i64 0), (.string ⟨#[]⟩)]) 32 rfl Try.underlying22 info25 rfl (by decide) (by omega) u7 ((l1.take i).map fbKind) (⟨p.f0, 0, ⟨#[]⟩⟩ : S25) [.int .i64 p.f0, .int .i64 (0), .string (⟨#[]⟩)] (fun _ => True) (fun _ => False) rfl (by first | (go_simp; done) | (go_simp; rfl)) ?aP (fun _ hk => hk.elim) ?aF ?aO ?aB ?aS ?aL ?_; (case aP => exact k25_mkM _ _ _ (⟨p.f0, 0, ⟨#[]⟩⟩ : S25)); (case aB => exact HBV2 _); (case aF => exact (fun _ _ => trivial)); (case aO => exact HOV2 _); (case aS => exact (HBV2 _).size); (case aL => have := H30.out; omega); intro v1 w8 ho hb hg hat))
        go_roundg (l1.length - i)
        case measure => have := HK.out; omega
        case rel => exact ⟨i + 1, by rw [hwr], ⟨by omega⟩, ⟨by have := HK.out; omega⟩, ⟨by rw [htk, hfk]; exact ho⟩, ⟨hb⟩⟩
    · have hie : i = l1.length := by have := HI.out; omega
      subst hie
      clear HI HK
      have c12b : ((l1.length : Int) < (l1.length : Int)) = False := eq_false (by omega)
      have c12c : decide ((l1.length : Int) < (l1.length : Int)) = false := decide_eq_false (by omega)
      have HO2 := HO.out
      rw [List.take_length] at HO2
      obtain ⟨A7, c7, e7, hc7, HC7⟩ := Kd.R_reads HO2
      subst e7
      clear HO HO2
      have hlk : (l1.map fbKind).length = l1.length := List.length_map _
      obtain ⟨⟨o, q⟩, A5, HH⟩ := Option.bind_eq_some_iff.mp HE.out
      replace HH : (if q = true then laws_FnFrameBack.e0 k l1 o else none) = some r := HH
      by_cases hq : q = true
      case neg => rw [if_neg hq] at HH; cases HH
      subst hq
      rw [if_pos rfl] at HH
      unfold laws_FnFrameBack.e0 at HH
      by_cases h5 : 5 ≤ o.size
      case neg => rw [if_neg h5] at HH; cases HH
      rw [if_pos h5] at HH
      obtain ⟨⟨l, rest, is⟩, A6, HH⟩ := Option.bind_eq_some_iff.mp HH
      replace HH : (if is = true ∧ rest = ⟨#[]⟩ then laws_same7Pieces.f k l l1 else none) = some r := HH
      by_cases hir : is = true ∧ rest = ⟨#[]⟩
      case neg => rw [if_neg hir] at HH; cases HH
      rw [if_pos hir] at HH
      obtain ⟨rfl, rfl⟩ := hir
      have HS := Aside0.mk HH
      have HU := Aside0.mk A6
      have HF := Aside0.mk A5
      have H5 := Aside0.mk h5
      clear HH A6 A5 h5 HE
      obtain ⟨V, hV⟩ : ∃ V, V = wr.alloc (.cells #[.int .u8 a0, .slice A1 l1.length c1] 33 (0, 0)) := ⟨_, rfl⟩
      have BV : Below wr.heap.size wr V := by rw [hV]; exact below_alloc (Below.refl _ _) _
      have HBV : Below w.heap.size w V := below_step HB.out BV
      have Bk : V.heap[wr.heap.size]? = some (.cells #[.int .u8 a0, .slice A1 l1.length c1] 33 (0, 0)) := by rw [hV]; exact heap_alloc_new wr _
      have HCM : Kd.C k33 V (some ⟨wr.heap.size, 0, none⟩) 1 [(⟨a0, l1⟩ : S33)] := by
        refine ⟨rfl, by decide, fun _ => ⟨_, rfl, fun j p hj => ?_⟩⟩
        cases j with
        | succ j => simp at hj
        | zero =>
          have hj' : (⟨a0, l1⟩ : S33) = p := by simpa using hj
          subst hj'
          refine ⟨_, rfl, k33_mk V (⟨a0, l1⟩ : S33) HC1.out (Kd.C_below HR1.out HBV), fun i u hu => ?_⟩
          have e : (⟨wr.heap.size, 0, none⟩ : Addr).add (0 * k33.sz + i) = ⟨wr.heap.size, i, none⟩ := by simp [Addr.add]; omega
          rw [e, blk_cell Bk i]
          simpa using hu
      subst hV
      go_wp2_with fail
      refine (impl_Framed.calls (some ⟨wr.heap.size, 0, none⟩) 1 [(⟨a0, l1⟩ : S33)] o true _ HCM (Nat.le_refl 1) HF.out).mono ?_
      rintro e w3 ⟨rfl, hb3⟩
      have HB3 := Aside0.mk (below_step HBV hb3)
      have HC3 := Aside0.mk (Kd.C_below HC7 (below_step BV hb3))
      have hc7' := Aside0.mk hc7
      have h5a : decide ((o.size : Int) < 5) = false := decide_eq_false (by have := H5.out; omega)
      have h5b : ((o.size : Int) < 5) = False := eq_false (by have := H5.out; omega)
      have h5c : (5 ≤ o.size) = True := eq_true H5.out
      have h5d : ((5 : Int) ≤ (o.size : Int)) = True := eq_true (by have := H5.out; omega)
      have h5e : (o.size < 5) = False := eq_false (by have := H5.out; omega)
      clear hb3 HCM BV HBV Bk HB
      go_wp2_with fail
      have hcu := impl_Unframed.calls k (o.extract 5 o.size) A7 c7 (l1.map fbKind) l ⟨#[]⟩ true w3 HC3.out hc7'.out HU.out
      rw [hlk] at hcu
      refine hcu.mono ?_
      rintro e w4 ⟨v, rfl, HR, hb4⟩
      obtain ⟨A8, c8, e8, hc8, HC8⟩ := Kd.R_reads HR
      subst e8
      have HB4 := Aside0.mk (below_step HB3.out hb4)
      have HC8' := Aside0.mk HC8
      have hc8' := Aside0.mk hc8
      clear hcu HR hb4 HC8 hc8 HC3 hc7 HC7 hc7' h5a h5b h5c h5d h5e
      go_wp2_with fail
      refine (laws_same7Pieces.calls k A8 c8 l A1 c1 l1 r _ HC8'.out hc8'.out (Kd.C_below HR1.out HB4.out) HC1.out HS.out).mono ?_
      rintro e w5 ⟨rfl, hb5⟩
      have HB5 := Aside0.mk (below_step HB4.out (Drawn0.below hb5))
      clear hb5
      go_wp2_with fail
      go_ret
      exact ⟨by cases r <;> rfl, HB5.out⟩

/-! ### laws_zzFits10: function 43 -/
def laws_zzFits10.f (a0_0 : ByteArray) (a0_1 : Int) (a0_2 : Int) (a0_3 : Int) (a0_4 : Int) : Option (Bool) := if (a0_0.size : Int) > 2147483647 then (some false) else (some true)
set_option maxHeartbeats 8000000 in
set_option maxRecDepth 100000 in
theorem laws_zzFits10.calls (a0_0 : ByteArray) (a0_1 : Int) (a0_2 : Int) (a0_3 : Int) (a0_4 : Int) (r : Bool) (w : World) (h : laws_zzFits10.f a0_0 a0_1 a0_2 a0_3 a0_4 = some r) :
    Calls Try.prog 43 #[.agg #[.string a0_0, .int .u32 a0_1, .int .i64 a0_2, .int .i64 a0_3, .int .i64 a0_4]] w fun e w' => e = .returned (.bool r) ∧ Below w.heap.size w w' := by
  have hu43 := Try.underlying43
  have HB := Aside0.mk (Below.refl w.heap.size w)
  have H : (if (a0_0.size : Int) > 2147483647 then (some false) else (some true)) = some r := h
  clear h
  by_cases c2 : (a0_0.size : Int) > 2147483647
  · rw [if_pos c2] at H
    have c2b0 : decide (2147483647 < (a0_0.size : Int)) = true := decide_eq_true c2
    have c2b1 : decide (2147483647 < a0_0.size) = true := decide_eq_true (by omega)
    clear c2
    obtain rfl := Option.some.inj H
    go_enter Try.func43, Try.ntmps43
    go_wp2_with (first | ((with_reducible refine gate_dst (N := 1) rfl ?_); refine box_event ?hg (N := 1) ?hd (cs := #[.string a0_0, .int .u32 a0_1, .int .i64 a0_2, .int .i64 a0_3, .int .i64 a0_4]) (t := 43) ?hr ?_; (case hd => rfl); (case hg => rfl); (case hr => first | (go_simp; done) | (go_simp; rfl)); intro gb168 hg w3 hbox hb; have n0_ := Aside0.mk (below_step (by repeat (first | (with_reducible first | exact HB.out | apply below_alloc | apply pw_below_drewN | apply below_drew1) | exact HB.out)) hb); have n1_ := Aside0.mk (hbox); have n2_ := Aside0.mk ((by rw [hg]; exact (below_size (by repeat (first | (with_reducible first | exact HB.out | apply below_alloc | apply pw_below_drewN | apply below_drew1) | exact HB.out))) : w.heap.size ≤ gb168)); have n3_ := Aside0.mk ((by rw [hg]; exact (below_size (by repeat (first | (with_reducible first | exact HB.out | apply below_alloc | apply pw_below_drewN | apply below_drew1) | exact HB.out))) : w.heap.size ≤ gb168)); clear HB; have HB := n0_; have BK168 := n1_; have GW168 := n2_; have GE168 := n3_; clear n0_ n1_ n2_ n3_; clear hb hbox hg; have hcz4_0 : w3.cell? ⟨gb168, 0, none⟩ = some (.string a0_0) := (blk_cell BK168.out 0).trans rfl; have hcz4_1 : w3.cell? ⟨gb168, 1, none⟩ = some (.int .u32 a0_1) := (blk_cell BK168.out 1).trans rfl; have hcz4_2 : w3.cell? ⟨gb168, 2, none⟩ = some (.int .i64 a0_2) := (blk_cell BK168.out 2).trans rfl; have hcz4_3 : w3.cell? ⟨gb168, 3, none⟩ = some (.int .i64 a0_3) := (blk_cell BK168.out 3).trans rfl; have hcz4_4 : w3.cell? ⟨gb168, 4, none⟩ = some (.int .i64 a0_4) := (blk_cell BK168.out 4).trans rfl; have hfz4_0 := blk_frozen BK168.out 0; have hfz4_1 := blk_frozen BK168.out 1; have hfz4_2 := blk_frozen BK168.out 2; have hfz4_3 := blk_frozen BK168.out 3; have hfz4_4 := blk_frozen BK168.out 4))
    go_ret
    exact ⟨by first | rfl | (simp [errW_none, errW_some] <;> rfl) | (simp [*, errW_none, errW_some] <;> rfl), by repeat (first | (with_reducible first | exact HB.out | apply below_alloc | apply pw_below_drewN | apply below_drew1 | refine below_set ?_ GE168.out) | exact HB.out)⟩
  · rw [if_neg c2] at H
    have c2b0 : decide (2147483647 < (a0_0.size : Int)) = false := decide_eq_false c2
    have c2b1 : decide (2147483647 < a0_0.size) = false := decide_eq_false (by omega)
    clear c2
    obtain rfl := Option.some.inj H
    go_enter Try.func43, Try.ntmps43
    go_wp2_with (first | ((with_reducible refine gate_dst (N := 1) rfl ?_); refine box_event ?hg (N := 1) ?hd (cs := #[.string a0_0, .int .u32 a0_1, .int .i64 a0_2, .int .i64 a0_3, .int .i64 a0_4]) (t := 43) ?hr ?_; (case hd => rfl); (case hg => rfl); (case hr => first | (go_simp; done) | (go_simp; rfl)); intro gb168 hg w5 hbox hb; have n0_ := Aside0.mk (below_step (by repeat (first | (with_reducible first | exact HB.out | apply below_alloc | apply pw_below_drewN | apply below_drew1) | exact HB.out)) hb); have n1_ := Aside0.mk (hbox); have n2_ := Aside0.mk ((by rw [hg]; exact (below_size (by repeat (first | (with_reducible first | exact HB.out | apply below_alloc | apply pw_below_drewN | apply below_drew1) | exact HB.out))) : w.heap.size ≤ gb168)); have n3_ := Aside0.mk ((by rw [hg]; exact (below_size (by repeat (first | (with_reducible first | exact HB.out | apply below_alloc | apply pw_below_drewN | apply below_drew1) | exact HB.out))) : w.heap.size ≤ gb168)); clear HB; have HB := n0_; have BK168 := n1_; have GW168 := n2_; have GE168 := n3_; clear n0_ n1_ n2_ n3_; clear hb hbox hg; have hcz6_0 : w5.cell? ⟨gb168, 0, none⟩ = some (.string a0_0) := (blk_cell BK168.out 0).trans rfl; have hcz6_1 : w5.cell? ⟨gb168, 1, none⟩ = some (.int .u32 a0_1) := (blk_cell BK168.out 1).trans rfl; have hcz6_2 : w5.cell? ⟨gb168, 2, none⟩ = some (.int .i64 a0_2) := (blk_cell BK168.out 2).trans rfl; have hcz6_3 : w5.cell? ⟨gb168, 3, none⟩ = some (.int .i64 a0_3) := (blk_cell BK168.out 3).trans rfl; have hcz6_4 : w5.cell? ⟨gb168, 4, none⟩ = some (.int .i64 a0_4) := (blk_cell BK168.out 4).trans rfl; have hfz6_0 := blk_frozen BK168.out 0; have hfz6_1 := blk_frozen BK168.out 1; have hfz6_2 := blk_frozen BK168.out 2; have hfz6_3 := blk_frozen BK168.out 3; have hfz6_4 := blk_frozen BK168.out 4))
    go_ret
    exact ⟨by first | rfl | (simp [errW_none, errW_some] <;> rfl) | (simp [*, errW_none, errW_some] <;> rfl), by repeat (first | (with_reducible first | exact HB.out | apply below_alloc | apply pw_below_drewN | apply below_drew1 | refine below_set ?_ GE168.out) | exact HB.out)⟩

end Go.Proofs.Ythcikkjjegfblab.P
