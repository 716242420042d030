-- Written by the program wip/myprint.py of this session, over the kit's print of the translation. Lean checks it.
import Derived.Deep.CutBlock
import Derived.ScopeJumps
import Derived.WalkMore
import Derived.Test.YtcdcoogjhkchlaaGreatDoorPx0
import Derived.Test.YtcdcoogjhkchlaaGreatDoorPz
import Derived.Test.YtcdcoogjhkchlaaGreatDoorLibArr
namespace Go.Proofs.YtcdcoogjhkchlaaGreatDoor.P
open Go.RowKit Go.Proofs.YtcdcoogjhkchlaaGreatDoorW.PrintWords Go.Proofs.YtcdcoogjhkchlaaGreatDoorW.PrintLast Go.Proofs.YtcdcoogjhkchlaaGreatDoorW.PrintMore
attribute [local go_sem] max2_int min2_int max_two min_two max_three min_three max_four min_four   -- for this text's walks alone
set_option linter.unusedVariables false
set_option linter.unusedSimpArgs false

/-! ### pq_parseArray: function 38 -/
/-- An element: none (a nil slice), or bytes, which lie where w0 has them or are of the call's own. -/
def elShape (w0 : World) (x : Option (List Int)) (A : Option Addr) (n : Nat) (P : List Int → Prop) : Prop :=
  match x with
  | none => A = none ∧ n = 0
  | some l => A ≠ none ∧ n = l.length ∧ ((Kd.int .u8).C w0 A l.length l ∨ P l)
def elKd (w0 : World) : Kd (Option (List Int)) where
  sz := 1
  E := [5]
  K := fun w x cs => ∃ A n c, cs = [.slice A n c] ∧ n ≤ c ∧ elShape w0 x A n (fun l => (Kd.int .u8).C w A l.length l)
  M := fun w base ok x cs => ∃ A n c, cs = [.slice A n c] ∧ n ≤ c ∧ elShape w0 x A n (fun l => (Kd.int .u8).R 5 w base ok (.slice A l.length c) l)
  K_len := fun ⟨A, n, c, h, _⟩ => by rw [h]; rfl
  K_one := fun ⟨A, n, c, h, _⟩ u hu => by rw [h] at hu; simp at hu; subst hu; rfl
  K_below := fun {w w1 x cs} hb h => by
    obtain ⟨A, n, c, h1, hc, hs⟩ := h
    refine ⟨A, n, c, h1, hc, ?_⟩
    cases x with
    | none => exact hs
    | some l => exact ⟨hs.1, hs.2.1, hs.2.2.imp id (fun h => Kd.C_below h hb)⟩
  K_of_M := fun {w base ok x cs} h => by
    obtain ⟨A, n, c, h1, hc, hs⟩ := h
    refine ⟨A, n, c, h1, hc, ?_⟩
    cases x with
    | none => exact hs
    | some l => exact ⟨hs.1, hs.2.1, hs.2.2.imp id (fun h => (Kd.R_reads' h).2.2)⟩
  M_mono := fun {w base ok ok' x cs} hok h => by
    obtain ⟨A, n, c, h1, hc, hs⟩ := h
    refine ⟨A, n, c, h1, hc, ?_⟩
    cases x with
    | none => exact hs
    | some l => exact ⟨hs.1, hs.2.1, hs.2.2.imp id (fun h => Kd.R_mono h hok)⟩
  M_bound := fun {w base ok x cs} h => by
    obtain ⟨A, n, c, h1, hc, hs⟩ := h
    refine ⟨A, n, c, h1, hc, ?_⟩
    cases x with
    | none => exact hs
    | some l => exact ⟨hs.1, hs.2.1, hs.2.2.imp id (fun h => Kd.R_bound h)⟩
  M_move := fun {w w1 base ok x cs} hm h => by
    obtain ⟨A, n, c, h1, hc, hs⟩ := h
    refine ⟨A, n, c, h1, hc, ?_⟩
    cases x with
    | none => exact hs
    | some l => exact ⟨hs.1, hs.2.1, hs.2.2.imp id (fun h => Kd.R_move h hm)⟩
  M_lower := fun {w base base' ok x cs} hb h => by
    obtain ⟨A, n, c, h1, hc, hs⟩ := h
    refine ⟨A, n, c, h1, hc, ?_⟩
    cases x with
    | none => exact hs
    | some l => exact ⟨hs.1, hs.2.1, hs.2.2.imp id (fun h => Kd.R_lower h hb)⟩
/-- A row of whole numbers as cells. -/
def dcells (D : List Int) : Array Value := (D.map (Value.int .i64)).toArray
theorem dcells_set (D : List Int) (j : Nat) (v : Int) : (dcells D).setIfInBounds j (.int .i64 v) = dcells (D.set j v) := by
  apply Array.ext'
  simp [dcells, List.map_set]
theorem dcells_at (D : List Int) (j : Nat) (h : j < D.length) : (dcells D)[j]? = some (.int .i64 (D.getD j 0)) := by
  simp [dcells, h, List.getD_eq_getElem?_getD]
theorem dcells_made (n : Nat) : madeCells #[.int .i64 0] n = dcells (List.replicate n 0) := by
  apply Array.ext'
  simp [dcells, madeCells, Nat.mod_one]
  apply List.ext_getElem
  · simp
  · intro i h1 h2; simp
theorem mkd_run {P : Program} (t e : TypeId) (z : Value) (size bytes : Nat) (ht : P.underlying t = some (.slice e)) (hinfo : (P.info? e).map (fun i => (i.zero, i.size, i.bytes)) = some (some z, size, bytes)) (hb0 : 0 < bytes) (n : Nat) (hl : n * bytes ≤ 281474976710656) (W : World) :
    (Instr.makeSlice t (.int .i64 (n : Int)) (.int .i64 (n : Int))).run P W = .ok (.slice (some ⟨W.heap.size, 0, none⟩) n n) (W.alloc (.cells (madeCells z.cells (n * size)) e)) := by
  obtain ⟨i0, hi, hzz⟩ := Option.map_eq_some_iff.1 hinfo
  simp only [Prod.mk.injEq] at hzz
  obtain ⟨hz0, hz1, hz2⟩ := hzz
  have hm : n ≤ 281474976710656 := Nat.le_trans (Nat.le_mul_of_pos_right _ hb0) hl
  have hr := run_make (P := P) (w := W) t e i0 z ht hi hz0 .i64 .i64 (n : Int) (n : Int) (by omega) (Int.le_refl _)
    (by
      have h3 : ((i0.bytes * n : Nat) : Int) ≤ 281474976710656 := by rw [hz2, Nat.mul_comm]; omega
      rwa [Int.natCast_mul] at h3) (by omega)
  simp only [Int.toNat_natCast, hz1] at hr
  exact hr
theorem dblk_set {w : World} {g : Nat} {t : TypeId} {D : List Int} (h : w.heap[g]? = some (.cells (dcells D) t (0, 0))) (j : Nat) (v : Int) : (w.setCell ⟨g, j, none⟩ (.int .i64 v)).heap[g]? = some (.cells (dcells (D.set j v)) t (0, 0)) := by
  rw [← dcells_set]; exact blk_set h j _
theorem dblk_cell {w : World} {g : Nat} {t : TypeId} {D : List Int} (h : w.heap[g]? = some (.cells (dcells D) t (0, 0))) (j : Nat) (hj : j < D.length) : w.cell? ⟨g, j, none⟩ = some (.int .i64 (D.getD j 0)) := (blk_cell h j).trans (dcells_at D j hj)
theorem errors_New.plain (s : ByteArray) (w : World) :
    Calls Tryz.prog 20 #[.string s] w fun e w' => (∃ t x, e = .returned (.iface t x)) ∧ Below w.heap.size w w' := by
  go_enter Tryz.func20, Tryz.ntmps20
  go_wp2_with fail
  go_ret
  exact ⟨⟨_, _, rfl⟩, below_alloc (Below.refl _ _) _⟩
theorem bytes_inj : ∀ (a b : List Int), (∀ x ∈ a, 0 ≤ x ∧ x < 256) → (∀ x ∈ b, 0 ≤ x ∧ x < 256) → a.map (fun x => UInt8.ofNat x.toNat) = b.map (fun x => UInt8.ofNat x.toNat) → a = b
  | [], [], _, _, _ => rfl
  | [], _ :: _, _, _, h => by cases h
  | _ :: _, [], _, _, h => by cases h
  | x :: a, y :: b, ha, hb, h => by
    simp only [List.map_cons, List.cons.injEq] at h
    have h1 := congrArg UInt8.toNat h.1
    simp only [UInt8.toNat_ofNat'] at h1
    have hx := ha x (by simp)
    have hy := hb y (by simp)
    have hxy : x = y := by omega
    rw [hxy, bytes_inj a b (fun z hz => ha z (by simp [hz])) (fun z hz => hb z (by simp [hz])) h.2]
theorem null_str {e : List Int} (h : ∀ x ∈ e, 0 ≤ x ∧ x < 256) : ((strOfNums e).toList == [78, 85, 76, 76]) = decide (e = Arr.nullW) := by
  rw [ByteArray.toList_eq, strOfNums_data]
  by_cases hz : e = Arr.nullW
  · subst hz; decide
  · rw [decide_eq_false hz]
    refine beq_eq_false_iff_ne.mpr (fun he => hz (bytes_inj e Arr.nullW h (by intro x hx; simp [Arr.nullW] at hx; omega) ?_))
    exact he
/-- What is told, and what it leaves. -/
def arrRes (w0 : World) (T : Option (List Int × List (Option (List Int)))) (e : Ending) (w' : World) : Prop :=
  Below w0.heap.size w0 w' ∧ (∀ D els, T = some (D, els) → ∃ g v, w0.heap.size ≤ g ∧ D.length ≤ 1000000000 ∧ e = .returned (.tuple #[.slice (some ⟨g, 0, none⟩) D.length D.length, v, .nilIface]) ∧ w'.heap[g]? = some (.cells (dcells D) 3 (0, 0)) ∧ (elKd w0).R 58 w' w0.heap.size (fun _ => True) v els) ∧
    (T = none → ∃ v1 v2 t x, e = .returned (.tuple #[v1, v2, .iface t x]))
theorem rd_drop {s : List Int} {i : Nat} {x : Int} {t : List Int} (h : s.drop i = x :: t) : rd s (i : Int) = x ∧ i < s.length ∧ s.drop (i + 1) = t := by
  have hl : i < s.length := by
    rcases Nat.lt_or_ge i s.length with hl | hl
    · exact hl
    · rw [List.drop_of_length_le hl] at h; cases h
  rw [List.drop_eq_getElem_cons hl] at h
  injection h with h1 h2
  refine ⟨?_, hl, h2⟩
  simp [rd, List.getD_eq_getElem?_getD, List.getElem?_eq_getElem hl, h1]
section
variable {P : Program} {a : Act} {w : World} {Q : Exit → Act → World → Prop} {J : Act → World → Prop} {l : Nat}
theorem jump_normal : Exit.jump l J Q .normal a w = Q .normal a w := rfl
theorem jump_exit (id : Nat) : Exit.jump l J Q (.exit id) a w = Q (.exit id) a w := rfl
theorem jump_ret : Exit.jump l J Q .ret a w = Q .ret a w := rfl
theorem jump_panic (ch : List PanicEntry) : Exit.jump l J Q (.panic ch) a w = Q (.panic ch) a w := rfl
theorem wp_scope_two {c rest : Code} (l : Nat) (J : Act → World → Prop) (μ : Act → World → Nat) (hf : findLabel c l = some (.seq .skip rest))
    (pass : ∀ a w, J a w → rest.wp P (Exit.jump l (fun a' w' => J a' w' ∧ μ a' w' < μ a w) Q) a w)
    (first : (∀ a w, J a w → rest.wp P (Exit.jump l J Q) a w) → c.wp P (Exit.jump l J Q) a w) : (Code.scope c).wp P Q a w :=
  wp_scope_jumps l J μ hf (first fun a w h => Code.wp_mono (fun e a' w' hq => by
    cases e with
    | goto l' => exact ⟨hq.1, hq.2.1⟩
    | normal => exact hq
    | exit id => exact hq
    | ret => exact hq
    | panic ch => exact hq
    | outgrown => exact hq) (pass a w h)) (fun a w h => wp_seq (wp_skip (pass a w h)))
end
attribute [local go_sem] jump_normal jump_exit jump_ret jump_panic
/-- Where the reading stands. -/
structure ArSt (w0 : World) (s : List Int) (d : Int) (n g : Nat) (T : Option (List Int × List (Option (List Int)))) (m : Bool) (i k : Nat) (D : List Int) (els : List (Option (List Int))) (v : Value) (w' : World) : Prop where
  il : i ≤ s.length
  kn : k ≤ n
  kp : m = true → 1 ≤ k
  dl : D.length = n
  pos : ∀ j, k ≤ j → j < n → 1 ≤ D.getD j 0
  rng : ∀ j, 0 ≤ D.getD j 0 ∧ D.getD j 0 ≤ (i : Int)
  el : els.length ≤ i
  pm : Arr.pm d n m (s.drop i) k D els = T
  hg : w'.heap[g]? = some (.cells (dcells D) 3 (0, 0))
  hr : (elKd w0).R 58 w' w0.heap.size (fun _ => True) v els
  hb : Below w0.heap.size w0 w'
def JAr (ad : Addr) (L c : Nat) (Ad : Option Addr) (cd : Nat) (w0 : World) (s : List Int) (d : Int) (n : Nat) (T : Option (List Int × List (Option (List Int)))) (u : Nat → Value) (a' : Act) (w' : World) : Prop :=
  ∃ (i k : Nat) (D : List Int) (els : List (Option (List Int))) (g : Nat) (v5 : Value), a' = { tmps := #[.slice (some ad) L c, .slice Ad 1 cd, undef, undef, .slice (some ⟨g, 0, none⟩) n n, v5, .nilIface, .int .i64 (k : Int), .int .i64 (i : Int), u 9, u 10, u 11, u 12, u 13, u 14, u 15, u 16, u 17, u 18, u 19, u 20, u 21, u 22, u 23, u 24, u 25, u 26, u 27, u 28, u 29, u 30, u 31, u 32, u 33, u 34, u 35, u 36, u 37, u 38, u 39, u 40, u 41, u 42, u 43, u 44, u 45, u 46, u 47, u 48, u 49, u 50, u 51, u 52, u 53, u 54, u 55, u 56, u 57, u 58, u 59, u 60, u 61, u 62, u 63, u 64, u 65, u 66, u 67, u 68, u 69, u 70, u 71, u 72, u 73, u 74, u 75, u 76, u 77, u 78, u 79, u 80, u 81, u 82, u 83, u 84, u 85, u 86, u 87, u 88, u 89, u 90, u 91, u 92, u 93, u 94, u 95, u 96, u 97, u 98, u 99, u 100, u 101, u 102, u 103, u 104, u 105, u 106, u 107, u 108, u 109, u 110, u 111, u 112, u 113, u 114, u 115, u 116, u 117, u 118, u 119, u 120, u 121, u 122, u 123, u 124, u 125, u 126, u 127, u 128, u 129, u 130, u 131, u 132, u 133, u 134, u 135, u 136, u 137, u 138, u 139, u 140, u 141, u 142, u 143, u 144, u 145, u 146, u 147, u 148, u 149, u 150, u 151, u 152, u 153, u 154, u 155, u 156, u 157, u 158, u 159, u 160, u 161, u 162, u 163, u 164, u 165, u 166, u 167, u 168, u 169, u 170, u 171, u 172, u 173, u 174, u 175, u 176, u 177, u 178, u 179, u 180, u 181, u 182, u 183, u 184, u 185, u 186, u 187, u 188, u 189, u 190, u 191, u 192, u 193, u 194, u 195, u 196, u 197, u 198, u 199, u 200, u 201, u 202, u 203, u 204, u 205, u 206, u 207, u 208, u 209, u 210, u 211, u 212, u 213, u 214, u 215, u 216, u 217, u 218, u 219, u 220], defers := [] } ∧ Aside0 (w0.heap.size ≤ g) ∧ Aside0 (ArSt w0 s d n g T true i k D els v5 w')
theorem JAr_cap {J : (Nat → Value) → Act → World → Prop} {M : Prop} {a' : Act} {w' : World} (h : J (fun j => a'.tmps.getD j undef) a' w' ∧ M) : (∃ u, J u a' w') ∧ M := ⟨⟨_, h.1⟩, h.2⟩
theorem JAr_cap1 {J : (Nat → Value) → Act → World → Prop} {a' : Act} {w' : World} (h : J (fun j => a'.tmps.getD j undef) a' w') : ∃ u, J u a' w' := ⟨_, h⟩
theorem arr_drop {w W : World} {ad : Addr} {L c i : Nat} {s : List Int} (h : (Kd.int .u8).C w (some ad) L s) (hL : L = s.length) (hc : L ≤ c) (hi : i < L) (hb : Below w.heap.size w W) {x : Int} {t : List Int} (hx : s.drop i = x :: t) : (Kd.int .u8).C W (some (ad.add i)) (L - i) (x :: t) := by
  subst hL
  have h1 := Kd.C_drop (c := c) h (m := i) (by omega) hc
  rw [if_neg (by omega), hx] at h1
  have h2 : (x :: t).length = s.length - i := by rw [← hx, List.length_drop]
  rw [h2] at h1
  have h3 : (Kd.int .u8).sz = 1 := rfl
  rw [h3, Nat.mul_one] at h1
  exact Kd.C_below h1 hb
theorem arr_seg {w W : World} {ad : Addr} {L c i i2 : Nat} {s : List Int} (h : (Kd.int .u8).C w (some ad) L s) (hL : L = s.length) (hc : L ≤ c) (hi : i < L) (h2 : i2 ≤ L) (hb : Below w.heap.size w W) : (Kd.int .u8).C W (some (ad.add i)) (i2 - i) ((s.drop i).take (i2 - i)) := by
  obtain ⟨x, t, hx⟩ : ∃ x t, s.drop i = x :: t := ⟨_, _, List.drop_eq_getElem_cons (by rw [← hL]; exact hi)⟩
  have h1 := arr_drop h hL hc hi hb hx
  rw [← hx] at h1
  have h3 : L - i = (s.drop i).length := by rw [List.length_drop, hL]
  rw [h3] at h1
  have h4 := Kd.C_take (m := i2 - i) h1 (by rw [← h3]; omega)
  rw [List.length_take, Nat.min_eq_left (by rw [← h3]; omega)] at h4
  exact h4
theorem take_one {s : List Int} {i i2 : Nat} {x : Int} {t : List Int} (h : i ≤ i2) (hx : s.drop i2 = x :: t) : (s.drop i).take (i2 + 1 - i) = (s.drop i).take (i2 - i) ++ [x] := by
  have h1 : (s.drop i).drop (i2 - i) = x :: t := by rw [List.drop_drop, Nat.add_sub_cancel' h]; exact hx
  have h2 : i2 + 1 - i = (i2 - i) + 1 := by omega
  rw [h2, List.take_add, h1]
  rfl
theorem ArSt.world {w0 : World} {s : List Int} {d : Int} {n g : Nat} {T : Option (List Int × List (Option (List Int)))} {m : Bool} {i k : Nat} {D : List Int} {els : List (Option (List Int))} {v : Value} {w1 w2 : World} (h : ArSt w0 s d n g T m i k D els v w1) (hb : Below w1.heap.size w1 w2) : ArSt w0 s d n g T m i k D els v w2 :=
  ⟨h.il, h.kn, h.kp, h.dl, h.pos, h.rng, h.el, h.pm, blk_below h.hg hb, Kd.R_below h.hr hb, below_step h.hb hb⟩
theorem R_lit0 (W : World) (base : Nat) (ok : Nat → Prop) (e : Nat) (hb : base ≤ W.heap.size) (hok : ok W.heap.size) : (Kd.int .u8).R e (W.alloc (.cells #[] e)) base ok (.slice (some ⟨W.heap.size, 0, none⟩) 0 0) [] := by
  refine ⟨fun k hk => ?_, [], ?_, ?_⟩
  · have : W.heap.size = k := by simpa [Value.ownBlock] using hk
    subst this; exact hok
  · have h2 := World.ownsRow_lit (base := base) (e := e) (size := 1) W #[] 0 hb (by decide) (by simp)
    exact h2
  · exact ⟨rfl, fun j p hj => by simp at hj⟩
theorem pm_quote_eq {d : Int} {n k : Nat} {t D : List Int} {els : List (Option (List Int))} : Arr.pm d n true (34 :: t) k D els = (match Arr.scanQ t false [] with | none => none | some p => Arr.pm d n false p.2 k D (els ++ [some p.1])) := by
  cases h : Arr.scanQ t false [] with
  | none => exact Arr.pm_quote_none h
  | some p => exact Arr.pm_quote h
theorem elK_own {w0 W : World} {bz c : Nat} {ad : Addr} {l : List Int} (h : (Kd.int .u8).R 5 W bz (fun _ => True) (.slice (some ad) l.length c) l) (hb : w0.heap.size ≤ bz) : (elKd w0).M W w0.heap.size (fun k => bz ≤ k) (some l) [.slice (some ad) l.length c] :=
  ⟨some ad, l.length, c, rfl, (Kd.R_reads' h).2.1, by simp, rfl, .inr (Kd.R_lower (Kd.R_mono (Kd.R_bound h) (fun _ hk => hk.2.1)) hb)⟩
theorem elK_shared {w0 W : World} {base c m : Nat} {ad : Addr} {l : List Int} (h : (Kd.int .u8).C w0 (some ad) l.length l) (hm : m = l.length) (hc : m ≤ c) : (elKd w0).M W base (fun _ => False) (some l) [.slice (some ad) m c] :=
  ⟨some ad, m, c, rfl, hc, by simp, hm, .inl h⟩
theorem elK_none {w0 W : World} {base : Nat} : (elKd w0).M W base (fun _ => False) none [.slice none 0 0] := ⟨none, 0, 0, rfl, Nat.le_refl _, rfl, rfl⟩
theorem el_info : ((Tryz.prog).info? 58).map (fun i => (i.zero, i.size, i.bytes)) = some (some (.slice none 0 0), 1, 24) := by kernel_rfl
/-- Inside quotes. -/
structure QSt (w0 : World) (s : List Int) (d : Int) (n g : Nat) (T : Option (List Int × List (Option (List Int)))) (i k : Nat) (D : List Int) (els : List (Option (List Int))) (v5 : Value) (wv : World) (bz i2 : Nat) (acc : List Int) (esc : Bool) (v9 : Value) (w' : World) : Prop where
  i1 : i < i2
  il : i2 ≤ s.length
  sq : (match Arr.scanQ (s.drop i2) esc acc with | none => none | some p => Arr.pm d n false p.2 k D (els ++ [some p.1])) = T
  al : acc.length ≤ i2
  own : (Kd.int .u8).R 5 w' bz (fun _ => True) v9 acc
  hr : (elKd w0).R 58 w' w0.heap.size (fun k => k < bz) v5 els
  hg : w'.heap[g]? = some (.cells (dcells D) 3 (0, 0))
  hb : Below bz wv w'
  bs : bz ≤ w'.heap.size
set_option maxHeartbeats 8000000 in
set_option maxRecDepth 1000000 in
theorem pq_parseArray.main (ad : Addr) (c cd : Nat) (Ad : Option Addr) (s : List Int) (d : Int) (n : Nat) (r : List Int) (w : World) (hr : Kd.C (Kd.int .u8) w (some ad) s.length s) (hc : s.length ≤ c) (hrd : Kd.C (Kd.int .u8) w Ad 1 [d]) (hcd : 1 ≤ cd) (hs : s = List.replicate n 123 ++ r) (hn : 0 < n) (hh : ∀ x t, r = x :: t → x ≠ 123 ∧ x ≠ 125) (hd : d ≠ 125) (hd1 : d ≠ 123) (hdb : 0 ≤ d ∧ d < 256) (hby : ∀ x ∈ s, 0 ≤ x ∧ x < 256) (hL : s.length ≤ 1000000000) :
    Calls Tryz.prog 38 #[.slice (some ad) s.length c, .slice Ad 1 cd] w (arrRes w (Arr.pm d n true r n (List.replicate n 0) [])) := by
  have hcell : ∀ i : Nat, i < s.length → w.cell? (ad.add i) = some (.int .u8 (rd s (i : Int))) := by
    intro i hi
    obtain ⟨ad', e, h⟩ := Kd.at_int hr (i : Int) (by omega) (by omega)
    injection e with e
    subst e
    simpa using h
  have hopen : ∀ i : Nat, i < n → rd s (i : Int) = 123 := by
    intro i hi
    rw [hs]
    simp [rd, List.getD_eq_getElem?_getD, List.getElem?_append_left, hi]
  have hsl : s.length = n + r.length := by rw [hs]; simp
  have hbehind : s.drop n = r := by rw [hs]; simp
  obtain ⟨L, hLd⟩ : ∃ L, L = s.length := ⟨_, rfl⟩
  rw [← hLd] at hr hc hcell hsl hL ⊢
  have HLD := Aside0.mk hLd
  have HCELL := Aside0.mk hcell
  have HOPEN := Aside0.mk hopen
  have HSL := Aside0.mk hsl
  have HBEH := Aside0.mk hbehind
  have HR := Aside0.mk hr
  have HC := Aside0.mk hc
  have HRD := Aside0.mk hrd
  have HCD := Aside0.mk hcd
  have HN := Aside0.mk hn
  have HH := Aside0.mk hh
  have HD := Aside0.mk hd
  have HD1 := Aside0.mk hd1
  have HDB := Aside0.mk hdb
  have HBY := Aside0.mk hby
  have HL := Aside0.mk hL
  have x0 : w.cell? ad = some (.int .u8 123) := by
    have := hcell 0 (by omega)
    rw [hopen 0 hn] at this
    simpa [Addr.add] using this
  have hL1 : ((L : Int) < 1) = False := eq_false (by omega)
  have hL2 : decide ((L : Int) < 1) = false := decide_eq_false (by omega)
  have hL3 : (L < 1) = False := eq_false (by omega)
  have hL4 : ((0 : Int) < (L : Int)) = True := eq_true (by omega)
  have hL5 : (0 < L) = True := eq_true (by omega)
  clear hLd hcell hopen hsl hbehind hr hc hrd hcd hn hh hd hd1 hdb hby hL hs
  obtain ⟨T, hT⟩ : ∃ T, T = Arr.pm d n true r n (List.replicate n 0) [] := ⟨_, rfl⟩
  rw [← hT]
  have HT := Aside0.mk hT
  clear hT
  go_enter Tryz.func38, Tryz.ntmps38
  go_wp2_with fail
  refine wp_scope_two 2 (fun a' w' => ∃ u, JAr ad L c Ad cd w s d n T u a' w') (fun a' _ => L - (intOf (a'.tmps.getD 8 undef)).toNat) rfl ?_ ?_
  · rintro a' w' ⟨u, i0, k0, D0, els0, g, v5, rfl, HG, HS⟩
    have HI0 := Aside0.mk HS.out.il
    clear x0 hL1 hL2 hL3 hL4 hL5
    dsimp only []
    go_upto_block 3 with fail
    go_cut [4, 5, 6, 7, 8] (fun s4 s5 s6 s7 s8 wx => ∃ (i k : Nat) (D : List Int) (els : List (Option (List Int))), s4 = .slice (some ⟨g, 0, none⟩) n n ∧ s6 = .nilIface ∧ s7 = .int .i64 (k : Int) ∧ s8 = .int .i64 (i : Int) ∧ Aside0 (i0 ≤ i) ∧ Aside0 (ArSt w s d n g T false i k D els s5 wx))
    case first =>
      go_wp2_with fail
      go_loopg [4, 5, 6, 7, 8] (L + 1) (fun kq s4 s5 s6 s7 s8 wx => ∃ (i k : Nat) (D : List Int) (els : List (Option (List Int))), s4 = .slice (some ⟨g, 0, none⟩) n n ∧ s6 = .nilIface ∧ s7 = .int .i64 (k : Int) ∧ s8 = .int .i64 (i : Int) ∧ Aside0 (kq + i ≥ L + 1) ∧ Aside0 (i0 ≤ i) ∧ Aside0 (ArSt w s d n g T true i k D els s5 wx))
      case atStart => exact ⟨i0, k0, D0, els0, rfl, rfl, rfl, rfl, ⟨by omega⟩, ⟨Nat.le_refl _⟩, HS⟩
      case round =>
        clear HS
        obtain ⟨i, k, D, els, rfl, rfl, rfl, rfl, HK, HI, HS⟩ := hrel
        by_cases ci : i < L
        case neg =>
          have hie : i = L := by have := HS.out.il; have := HLD.out; omega
          subst hie
          have hpm := HS.out.pm
          rw [HLD.out, List.drop_length] at hpm
          rw [Arr.pm] at hpm
          have HP := Aside0.mk hpm
          clear ci HK hpm
          go_wp2_with fail
          go_meet
          exact ⟨_, k, D, els, rfl, rfl, rfl, rfl, HI, ⟨⟨HS.out.il, HS.out.kn, (fun h => by cases h), HS.out.dl, HS.out.pos, HS.out.rng, HS.out.el, by rw [HLD.out, List.drop_length, Arr.pm_end (HS.out.kp rfl), ← HP.out], HS.out.hg, HS.out.hr, HS.out.hb⟩⟩⟩
        obtain ⟨x, t, hx⟩ : ∃ x t, s.drop i = x :: t := ⟨_, _, List.drop_eq_getElem_cons (by rw [← HLD.out]; exact ci)⟩
        obtain ⟨e1, e2, e3⟩ := rd_drop hx
        have xc : wr.cell? (ad.add i) = some (.int .u8 x) := by
          have h := HCELL.out i ci
          rw [e1] at h
          exact (HS.out.hb.cell (World.block_lt_of_cell? w _ h)).trans h
        have c1 : ((i : Int) < (L : Int)) = True := eq_true (by omega)
        have c1b : decide ((i : Int) < (L : Int)) = true := decide_eq_true (by omega)
        have c2 : decide (0 ≤ (i : Int)) = true := decide_eq_true (by omega)
        have hi1 : wrap64 ((i : Int) + 1) = ((i + 1 : Nat) : Int) := by have := HL.out; unfold wrap64; omega
        have hpm := HS.out.pm
        rw [hx] at hpm
        have HX := Aside0.mk hx
        have HT1 := Aside0.mk e3
        have HPM := Aside0.mk hpm
        have hxb := HBY.out x (by have : x ∈ s.drop i := by rw [hx]; simp
                                  exact List.mem_of_mem_drop this)
        have HXB := Aside0.mk hxb
        clear hx e1 e2 e3 hpm hxb
        by_cases h123 : x = 123
        · subst h123
          by_cases hk : k = n
          · have hkb : ((k : Int) == (n : Int)) = true := by rw [hk]; simp
            have hpm := HPM.out
            rw [Arr.pm, if_pos rfl, if_pos hk] at hpm
            have HP := Aside0.mk hpm
            clear hk hpm
            go_wp2_with fail
            go_meet
            exact ⟨i, k, D, els, rfl, rfl, rfl, rfl, HI, ⟨⟨HS.out.il, HS.out.kn, (fun h => by cases h), HS.out.dl, HS.out.pos, HS.out.rng, HS.out.el, by rw [HX.out, Arr.pm_other (fun e => HD1.out e.symm) (by decide), ← HP.out], HS.out.hg, HS.out.hr, HS.out.hb⟩⟩⟩
          · have hkn : k < n := by have := HS.out.kn; omega
            have hkb : ((k : Int) == (n : Int)) = false := beq_eq_false_iff_ne.mpr (by omega)
            have hpm := HPM.out
            rw [Arr.pm_open hkn] at hpm
            have HP := Aside0.mk hpm
            have hkw : wrap64 ((k : Int) + 1) = ((k + 1 : Nat) : Int) := by have := HL.out; have := HSL.out; unfold wrap64; omega
            have k1 : ((k : Int) < (n : Int)) = True := eq_true (by omega)
            have k1b : decide ((k : Int) < (n : Int)) = true := decide_eq_true (by omega)
            have hgc := dblk_cell HS.out.hg k (by rw [HS.out.dl]; exact hkn)
            have hgf := blk_frozen HS.out.hg k
            have hkz : wrap64 (k : Int) = (k : Int) := by have := HL.out; have := HSL.out; unfold wrap64; omega
            have HKN := Aside0.mk hkn
            clear hk hpm hkn
            --{A
            go_wp2_with fail
            go_roundg (L - i)
            case measure => have := HK.out; omega
            case rel =>
              have hset : (D.set k 0).length = n := by rw [List.length_set]; exact HS.out.dl
              refine ⟨i + 1, k + 1, D.set k 0, els, rfl, rfl, by first | rfl | go_num, by first | rfl | go_num, ⟨by omega⟩, ⟨by have := HI.out; omega⟩, ⟨⟨by have := HLD.out; omega, HKN.out, fun _ => by omega, hset, fun j h1 h2 => ?_, fun j => ?_, by have := HS.out.el; omega, by rw [HT1.out]; exact HP.out, dblk_set HS.out.hg k 0, Kd.R_set HS.out.hr HS.out.hg (by intro q hq; change q ∈ [58, 5] at hq; revert q; decide) k _, below_set HS.out.hb HG.out⟩⟩⟩
              · rw [Arr.getD_set _ _ _ _ _ (by rw [HS.out.dl]; exact HKN.out), if_neg (by omega)]
                exact HS.out.pos j (by omega) h2
              · rw [Arr.getD_set _ _ _ _ _ (by rw [HS.out.dl]; exact HKN.out)]
                have := HS.out.rng j
                split <;> omega
            --}A
        have h123b : (x == 123) = false := beq_eq_false_iff_ne.mpr h123
        have HX123 := Aside0.mk h123
        clear h123
        by_cases h34 : x = 34
        · subst h34
          obtain ⟨wv, hwv⟩ : ∃ wv, wv = wr := ⟨_, rfl⟩
          subst hwv
          obtain ⟨bz, hbz⟩ : ∃ bz, bz = wv.heap.size := ⟨_, rfl⟩
          have hgb : g < bz := by rw [hbz]; exact blk_lt HS.out.hg
          have HRD0 : Aside0 ((elKd w).R 58 wv w.heap.size (fun k => k < bz) u5 els) := ⟨Kd.R_mono (Kd.R_bound HS.out.hr) (fun k hk => by rw [hbz]; exact hk.2.2.1)⟩
          have hbw : w.heap.size ≤ bz := by rw [hbz]; exact HS.out.hb.size
          have HBZ := Aside0.mk hbz
          have HGB := Aside0.mk hgb
          have HBW := Aside0.mk hbw
          clear hbz hgb hbw
          --{B
          go_upto_block 8 with fail
          go_wp2_with fail
          go_loopg [5, 8, 9, 10] (L + 1) (fun kq2 s5 s8 s9 s10 wx => ∃ (i2 : Nat) (acc : List Int) (esc : Bool) (A9 : Addr) (c9 : Nat), s5 = u5 ∧ s8 = .int .i64 (i2 : Int) ∧ s9 = .slice (some A9) acc.length c9 ∧ s10 = .bool esc ∧ Aside0 (kq2 + i2 ≥ L + 1) ∧ Aside0 (QSt w s d n g T i k D els u5 wv bz i2 acc esc (.slice (some A9) acc.length c9) wx))
          case atStart =>
            refine ⟨i + 1, [], false, ⟨wv.heap.size, 0, none⟩, 0, rfl, by first | rfl | go_num, rfl, rfl, ⟨by omega⟩, ⟨⟨by omega, by have := HLD.out; omega, ?_, by simp, ?_, ?_, ?_, ?_, ?_⟩⟩⟩
            · rw [HT1.out, ← pm_quote_eq]; exact HPM.out
            · exact R_lit0 _ _ _ _ (by rw [HBZ.out]; exact Nat.le_refl _) trivial
            · exact Kd.R_alloc HRD0.out _
            · exact blk_alloc HS.out.hg _
            · rw [HBZ.out]; exact below_alloc (Below.refl _ _) _
            · rw [HBZ.out]; exact (below_alloc (Below.refl wv.heap.size wv) _).size
          case round =>
            clear HRD0 hi1
            obtain ⟨i2, acc, esc, A9, c9, rfl, rfl, rfl, rfl, HK2, HQ⟩ := hrel
            by_cases ci2 : i2 < L
            case neg =>
              have hie : i2 = L := by have := HQ.out.il; have := HLD.out; omega
              subst hie
              have hsq := HQ.out.sq
              rw [HLD.out, List.drop_length] at hsq
              have hsq : none = T := by cases esc <;> (rw [Arr.scanQ] at hsq; exact hsq)
              have HP := Aside0.mk hsq
              clear ci2 HK2 hsq
              go_wp2_with fail
              go_roundg (i2 - i)
              case measure => have := HK.out; omega
              case rel => exact ⟨i2, k, D, els, rfl, rfl, rfl, rfl, ⟨by omega⟩, ⟨by have := HI.out; have := HQ.out.i1; omega⟩, ⟨⟨HQ.out.il, HS.out.kn, HS.out.kp, HS.out.dl, HS.out.pos, fun j => (by have := HS.out.rng j; have := HQ.out.i1; omega), by have := HS.out.el; have := HQ.out.i1; omega, by rw [HLD.out, List.drop_length, Arr.pm, HP.out], HQ.out.hg, Kd.R_mono HQ.out.hr (fun _ _ => trivial), below_then HS.out.hb HS.out.hb.size (by have := HQ.out.hb; rw [HBZ.out] at this; exact this)⟩⟩⟩
            obtain ⟨x2, t2, hx2⟩ : ∃ x2 t2, s.drop i2 = x2 :: t2 := ⟨_, _, List.drop_eq_getElem_cons (by rw [← HLD.out]; exact ci2)⟩
            obtain ⟨e1, e2, e3⟩ := rd_drop hx2
            have hb2 : Below w.heap.size w wr := below_then HS.out.hb HS.out.hb.size (by have := HQ.out.hb; rw [HBZ.out] at this; exact this)
            have HB2 := Aside0.mk hb2
            have xc2 : wr.cell? (ad.add i2) = some (.int .u8 x2) := by
              have h := HCELL.out i2 ci2
              rw [e1] at h
              exact (hb2.cell (World.block_lt_of_cell? w _ h)).trans h
            have d1 : ((i2 : Int) < (L : Int)) = True := eq_true (by omega)
            have d1b : decide ((i2 : Int) < (L : Int)) = true := decide_eq_true (by omega)
            have d2 : decide (0 ≤ (i2 : Int)) = true := decide_eq_true (by omega)
            have hi2 : wrap64 ((i2 : Int) + 1) = ((i2 + 1 : Nat) : Int) := by have := HL.out; unfold wrap64; omega
            have hsq := HQ.out.sq
            rw [hx2] at hsq
            have HX2 := Aside0.mk hx2
            have HT2 := Aside0.mk e3
            have HC2 := Aside0.mk ci2
            clear hx2 e1 e2 e3 hb2 ci2 xc
            cases esc with
            | true =>
              rw [Arr.scanQ] at hsq
              have HSQ := Aside0.mk hsq
              clear hsq
              --{B1
              go_wp2_with (first | ((with_reducible refine gate_builtin (b := .append) (xs := #[.tmp 112, .tmp 117]) rfl ?_); at_builtin; refine Kd.R_append (Kd.int .u8) (w0 := wv) bz rfl (.tmp 112) (.tmp 117) 58 5 (.int .u8 0) 1 rfl Tryz.underlying58 (by kernel_rfl) rfl (by decide) (by omega) (.slice (some A9) acc.length c9) acc x2 [.int .u8 x2] (fun _ => True) (fun _ => False) rfl (by first | (go_simp; done) | (go_simp; rfl)) ?aP (fun _ hk => hk.elim) ?aF ?aO ?aB ?aS ?aL ?_; (case aP => exact rfl); (case aB => exact HQ.out.hb); (case aF => exact (fun _ _ => trivial)); (case aO => exact HQ.out.own); (case aS => exact HQ.out.bs); (case aL => have := HQ.out.al; have := HL.out; have := HC2.out; omega); intro v1 w8 ho hb hg hat; obtain ⟨A1, cc1, e1⟩ := Kd.R_slice1 ho (by simp); subst e1))
              go_roundg (L - i2)
              case measure => have := HK2.out; have := HC2.out; omega
              case rel => exact ⟨i2 + 1, acc ++ [x2], false, A1, cc1, rfl, by first | rfl | go_num, by simp, rfl, ⟨by have := HC2.out; omega⟩, ⟨⟨by have := HQ.out.i1; omega, by have := HLD.out; have := HC2.out; omega, by rw [HT2.out]; exact HSQ.out, by rw [List.length_append]; have := HQ.out.al; simp only [List.length_cons, List.length_nil]; omega, ho, Kd.R_grown HQ.out.hr hg (fun k hk e => by have := Kd.R_base HQ.out.own k e.symm; omega), blk_grown HQ.out.hg hg (fun e => by have := Kd.R_base HQ.out.own g e.symm; have := HGB.out; omega), hb, Nat.le_trans HQ.out.bs hg.size⟩⟩⟩
              --}B1
            | false =>
              rw [Arr.scanQ] at hsq
              by_cases c92 : x2 = 92
              · rw [if_pos c92] at hsq
                have HSQ := Aside0.mk hsq
                clear hsq
                subst c92
                --{B2
                go_wp2_with fail
                go_roundg (L - i2)
                case measure => have := HK2.out; have := HC2.out; omega
                case rel => exact ⟨i2 + 1, acc, true, A9, c9, rfl, by first | rfl | go_num, rfl, rfl, ⟨by have := HC2.out; omega⟩, ⟨⟨by have := HQ.out.i1; omega, by have := HLD.out; have := HC2.out; omega, by rw [HT2.out]; exact HSQ.out, by have := HQ.out.al; omega, HQ.out.own, HQ.out.hr, HQ.out.hg, HQ.out.hb, HQ.out.bs⟩⟩⟩
                --}B2
              rw [if_neg c92] at hsq
              have c92b : (x2 == 92) = false := beq_eq_false_iff_ne.mpr c92
              clear c92
              by_cases c34 : x2 = 34
              · rw [if_pos c34] at hsq
                have HSQ := Aside0.mk hsq
                clear hsq
                subst c34
                --{B3
                go_wp2_with (first | ((with_reducible refine gate_builtin (b := .append) (xs := #[.tmp 134, .tmp 136]) rfl ?_); at_builtin; refine Kd.R_append (elKd w) (w0 := w) w.heap.size rfl (.tmp 134) (.tmp 136) 64 58 (.slice none 0 0) 24 rfl Tryz.underlying64 el_info rfl Nat.one_pos (by omega) u5 els (some acc) [.slice (some A9) acc.length c9] (fun _ => True) (fun k => bz ≤ k) rfl (by first | (go_simp; done) | (go_simp; rfl)) ?aP ?aQ ?aF ?aO ?aB ?aS ?aL ?_; (case aP => exact elK_own HQ.out.own HBW.out); (case aQ => exact fun k hk => ⟨trivial, fun e => by have := HQ.out.hr.1 k e.symm; omega⟩); (case aB => exact HB2.out); (case aF => exact (fun _ _ => trivial)); (case aO => exact Kd.R_mono HQ.out.hr (fun _ _ => trivial)); (case aS => exact HB2.out.size); (case aL => have := HS.out.el; have := HL.out; have := HC2.out; have := HQ.out.i1; omega); intro v1 w8 ho hb hg hat))
                go_meet
                exact ⟨i2 + 1, k, D, els ++ [some acc], rfl, rfl, rfl, by first | rfl | go_num, ⟨by have := HI.out; have := HQ.out.i1; omega⟩, ⟨⟨by have := HLD.out; have := HC2.out; omega, HS.out.kn, (fun h => by cases h), HS.out.dl, HS.out.pos, fun j => (by have := HS.out.rng j; have := HQ.out.i1; omega), by rw [List.length_append]; have := HS.out.el; have := HQ.out.i1; simp only [List.length_cons, List.length_nil]; omega, by rw [HT2.out]; exact HSQ.out, blk_grown HQ.out.hg hg (Kd.R_ne HQ.out.hr HQ.out.hg (by decide)), ho, hb⟩⟩⟩
                --}B3
              · rw [if_neg c34] at hsq
                have HSQ := Aside0.mk hsq
                have c34b : (x2 == 34) = false := beq_eq_false_iff_ne.mpr c34
                clear hsq c34
                --{B4
                go_wp2_with (first | ((with_reducible refine gate_builtin (b := .append) (xs := #[.tmp 123, .tmp 128]) rfl ?_); at_builtin; refine Kd.R_append (Kd.int .u8) (w0 := wv) bz rfl (.tmp 123) (.tmp 128) 58 5 (.int .u8 0) 1 rfl Tryz.underlying58 (by kernel_rfl) rfl (by decide) (by omega) (.slice (some A9) acc.length c9) acc x2 [.int .u8 x2] (fun _ => True) (fun _ => False) rfl (by first | (go_simp; done) | (go_simp; rfl)) ?aP (fun _ hk => hk.elim) ?aF ?aO ?aB ?aS ?aL ?_; (case aP => exact rfl); (case aB => exact HQ.out.hb); (case aF => exact (fun _ _ => trivial)); (case aO => exact HQ.out.own); (case aS => exact HQ.out.bs); (case aL => have := HQ.out.al; have := HL.out; have := HC2.out; omega); intro v1 w8 ho hb hg hat; obtain ⟨A1, cc1, e1⟩ := Kd.R_slice1 ho (by simp); subst e1))
                go_roundg (L - i2)
                case measure => have := HK2.out; have := HC2.out; omega
                case rel => exact ⟨i2 + 1, acc ++ [x2], false, A1, cc1, rfl, by first | rfl | go_num, by simp, rfl, ⟨by have := HC2.out; omega⟩, ⟨⟨by have := HQ.out.i1; omega, by have := HLD.out; have := HC2.out; omega, by rw [HT2.out]; exact HSQ.out, by rw [List.length_append]; have := HQ.out.al; simp only [List.length_cons, List.length_nil]; omega, ho, Kd.R_grown HQ.out.hr hg (fun k hk e => by have := Kd.R_base HQ.out.own k e.symm; omega), blk_grown HQ.out.hg hg (fun e => by have := Kd.R_base HQ.out.own g e.symm; have := HGB.out; omega), hb, Nat.le_trans HQ.out.bs hg.size⟩⟩⟩
                --}B4
          --}B
        · have h34b : (x == 34) = false := beq_eq_false_iff_ne.mpr h34
          have HX34 := Aside0.mk h34
          clear h34
          --{C
          obtain ⟨wv, hwv⟩ : ∃ wv, wv = wr := ⟨_, rfl⟩
          subst hwv
          go_upto_block 6 with fail
          go_wp2_with fail
          go_loopg [4, 5, 6, 8, 12] (L + 1) (fun kq2 s4 s5 s6 s8 s12 wx => ∃ (i2 : Nat), s4 = .slice (some ⟨g, 0, none⟩) n n ∧ s5 = u5 ∧ s6 = .nilIface ∧ s8 = .int .i64 (i2 : Int) ∧ Aside0 (kq2 + i2 ≥ L + 1) ∧ Aside0 (∃ m, wx = wv.drewN m) ∧ Aside0 (i ≤ i2 ∧ i2 ≤ L ∧ Arr.scanEl d (s.drop i) = ((s.drop i).take (i2 - i) ++ (Arr.scanEl d (s.drop i2)).1, (Arr.scanEl d (s.drop i2)).2)))
          case atStart => exact ⟨i, rfl, rfl, rfl, rfl, ⟨by omega⟩, ⟨0, rfl⟩, ⟨⟨Nat.le_refl _, by omega, by simp⟩⟩⟩
          case round =>
            obtain ⟨i2, rfl, rfl, rfl, rfl, HK2, HW, HE⟩ := hrel
            obtain ⟨m, hm⟩ := HW.out
            subst hm
            clear HW
            have HBV : Aside0 (∀ m', Below w.heap.size w (wv.drewN m')) := ⟨fun m' => pw_below_drewN HS.out.hb m'⟩
            by_cases ci2 : i2 < L
            case neg =>
              have hie : i2 = L := by have := HE.out; omega
              subst hie
              have hpm := HPM.out
              rw [Arr.pm_word_none HX123.out HX34.out (.inl (by rw [← HX.out, HE.out.2.2, HLD.out, List.drop_length]; rfl))] at hpm
              have HP := Aside0.mk hpm
              clear ci2 HK2 hpm
              go_wp2_with fail
              go_roundg (i2 - i)
              case measure => have := HK.out; omega
              case rel => exact ⟨i2, k, D, els, rfl, rfl, rfl, rfl, ⟨by omega⟩, ⟨by have := HI.out; omega⟩, ⟨⟨by have := HLD.out; omega, HS.out.kn, HS.out.kp, HS.out.dl, HS.out.pos, fun j => (by have := HS.out.rng j; omega), by have := HS.out.el; omega, by rw [HLD.out, List.drop_length, Arr.pm, HP.out], HS.out.hg, Kd.R_drewN HS.out.hr m, HBV.out m⟩⟩⟩
            obtain ⟨x2, t2, hx2⟩ : ∃ x2 t2, s.drop i2 = x2 :: t2 := ⟨_, _, List.drop_eq_getElem_cons (by rw [← HLD.out]; exact ci2)⟩
            obtain ⟨e1, e2, e3⟩ := rd_drop hx2
            have xc2 : wv.cell? (ad.add i2) = some (.int .u8 x2) := by
              have h := HCELL.out i2 ci2
              rw [e1] at h
              exact (HS.out.hb.cell (World.block_lt_of_cell? w _ h)).trans h
            have d1 : ((i2 : Int) < (L : Int)) = True := eq_true (by omega)
            have d1b : decide ((i2 : Int) < (L : Int)) = true := decide_eq_true (by omega)
            have d1c : (i2 < L) = True := eq_true ci2
            have d1d : ((i2 : Int) ≤ (L : Int)) = True := eq_true (by omega)
            have d1e : decide ((i2 : Int) ≤ (L : Int)) = true := decide_eq_true (by omega)
            have d2 : decide (0 ≤ (i2 : Int)) = true := decide_eq_true (by omega)
            have d3 : (c = i2) = False := eq_false (by have := HC.out; omega)
            have d3b : (c - i2 = 0) = False := eq_false (by have := HC.out; omega)
            have hi2 : wrap64 ((i2 : Int) + 1) = ((i2 + 1 : Nat) : Int) := by have := HL.out; unfold wrap64; omega
            have hxb2 := HBY.out x2 (by have : x2 ∈ s.drop i2 := by rw [hx2]; simp
                                        exact List.mem_of_mem_drop this)
            have HXB2 := Aside0.mk hxb2
            have hdc : ∀ W', Below w.heap.size w W' → (Kd.int .u8).C W' (some (ad.add i2)) (L - i2) (x2 :: t2) := fun W' hb => arr_drop HR.out HLD.out HC.out ci2 hb hx2
            have HDC := Aside0.mk hdc
            have HRD2 : Aside0 (∀ W', Below w.heap.size w W' → (Kd.int .u8).C W' Ad 1 [d]) := ⟨fun W' hb => Kd.C_below HRD.out hb⟩
            have HX2 := Aside0.mk hx2
            have HT2 := Aside0.mk e3
            have HC2 := Aside0.mk ci2
            clear hx2 e1 e2 e3 ci2 xc hxb2 hdc hi1
            by_cases cd2 : x2 = d
            · have cdb : decide (x2 = d) = true := decide_eq_true cd2
              have hsc : x2 = d ∨ x2 = 125 := .inl cd2
              have HSC := Aside0.mk hsc
              clear cd2 hsc
              --{C1
              go_upto_region 18 with (first | (go_at_call 43; refine (pq_zzBegins.one (ad.add i2) (L - i2) (c - i2) x2 t2 Ad cd d _ ?b1 (HDC.out _ ?b2) ?b3 (HRD2.out _ ?b4) HCD.out HXB2.out HDB.out).mono ?_; (case b1 => have h_ := congrArg List.length HX2.out; rw [List.length_drop, ← HLD.out] at h_; simp only [List.length_cons] at h_; exact h_); (case b3 => have := HC.out; omega); (case b2 => first | exact HBV.out _ | exact below_drew (HBV.out _)); (case b4 => first | exact HBV.out _ | exact below_drew (HBV.out _)); rintro e w1 ⟨rfl, ⟨m1, rfl⟩⟩; rw [cdb]))
              have hge : T = T := rfl
              by_cases hii : i2 = i
              · subst hii
                have hpm := HPM.out
                rw [Arr.pm_word_none HX123.out HX34.out (.inr (by rw [← HX.out, HE.out.2.2]; rw [HX2.out, Arr.scanEl, if_pos HSC.out]; simp))] at hpm
                have HP := Aside0.mk hpm
                clear hpm
                have f5 : (i2 ≤ c) = True := eq_true (by have := HC.out; have := HC2.out; omega)
                --{K1
                go_wp2_with (go_at_call 20; refine (errors_New.plain _ _).mono ?_; rintro e w' ⟨⟨t_, v_, rfl⟩, hb⟩; have HBE := Aside0.mk hb; clear hb)
                go_ret3
                exact ⟨below_step (HBV.out _) HBE.out, fun D els h => (by rw [← HP.out] at h; cases h), fun _ => ⟨_, _, _, _, rfl⟩⟩
                --}K1
              · have hlt : i < i2 := by have := HE.out.1; omega
                obtain ⟨e, he⟩ : ∃ e, e = (s.drop i).take (i2 - i) := ⟨_, rfl⟩
                have hseg : ∀ W', Below w.heap.size w W' → (Kd.int .u8).C W' (some (ad.add i)) (i2 - i) e := fun W' hb => by rw [he]; exact arr_seg HR.out HLD.out HC.out ci (Nat.le_of_lt HC2.out) hb
                have hel : e.length = i2 - i := by rw [he, List.length_take, List.length_drop, ← HLD.out]; have := HC2.out; omega
                have hscan : Arr.scanEl d (x :: t) = (e, x2 :: t2) := by
                  rw [← HX.out, HE.out.2.2, HX2.out, Arr.scanEl, if_pos HSC.out, he]; simp
                have hpm := HPM.out
                rw [Arr.pm_word HX123.out HX34.out (by rw [hscan]; simp) (by rw [hscan]; intro h0; have h1 : e = [] := h0; rw [h1] at hel; simp at hel; omega), hscan] at hpm
                have HP := Aside0.mk hpm
                have HEL := Aside0.mk hel
                have HSEG := Aside0.mk hseg
                have hcv1 := fun (c_ : Nat) (nq : Nat) => Kd.C_string (P := Tryz.prog) (c := c_) Tryz.underlying58 Tryz.underlying5 Tryz.underlying9 (hseg _ (HBV.out nq))
                have f1 : ((i : Int) ≤ (i2 : Int)) = True := eq_true (by omega)
                have f2 : decide ((i : Int) ≤ (i2 : Int)) = true := decide_eq_true (by omega)
                have f3 : (i ≤ i2) = True := eq_true (by omega)
                have f4 : ((i2 : Int) ≤ (c : Int)) = True := eq_true (by have := HC.out; have := HC2.out; omega)
                have f5 : (i2 ≤ c) = True := eq_true (by have := HC.out; have := HC2.out; omega)
                have f6 : (c = i) = False := eq_false (by have := HC.out; omega)
                have f7 : (c - i = 0) = False := eq_false (by have := HC.out; omega)
                have f8 : (i2 - i = 0) = False := eq_false (by omega)
                have f9 : (((i2 - i : Nat) : Int) == 0) = false := beq_eq_false_iff_ne.mpr (by omega)
                have hnl := null_str (e := e) (fun z hz => HBY.out z (by rw [he] at hz; exact List.mem_of_mem_drop (List.mem_of_mem_take hz)))
                have hpm : Arr.pm d n false (x2 :: t2) k D (els ++ [Arr.elOf e]) = T := hpm
                have HLT := Aside0.mk hlt
                clear he hseg hel hscan hpm hii hlt
                by_cases hz : e = Arr.nullW
                · rw [decide_eq_true hz] at hnl
                  have hzo : Arr.elOf e = none := if_pos hz
                  have HZO := Aside0.mk hzo
                  clear hz hzo
                  --{K3
                  go_wp2_with (first | ((with_reducible refine gate_builtin (b := .append) (xs := #[.tmp 82, .tmp 84]) rfl ?_); at_builtin; refine Kd.R_append (elKd w) (w0 := w) w.heap.size rfl (.tmp 82) (.tmp 84) 64 58 (.slice none 0 0) 24 rfl Tryz.underlying64 el_info rfl Nat.one_pos (by omega) u5 els none [.slice none 0 0] (fun _ => True) (fun _ => False) rfl (by first | (go_simp; done) | (go_simp; rfl)) ?aP (fun _ hk => hk.elim) ?aF ?aO ?aB ?aS ?aL ?_; (case aP => exact elK_none); (case aB => exact HBV.out _); (case aF => exact (fun _ _ => trivial)); (case aO => exact Kd.R_drewN HS.out.hr _); (case aS => exact (HBV.out 0).size); (case aL => have := HS.out.el; have := HL.out; have := HC2.out; have := HLT.out; omega); intro v1 w8 ho hb hg hat))
                  go_meet
                  exact ⟨i2, k, D, els ++ [none], rfl, rfl, rfl, rfl, ⟨by have := HI.out; have := HLT.out; omega⟩, ⟨⟨by have := HLD.out; have := HC2.out; omega, HS.out.kn, (fun h => by cases h), HS.out.dl, HS.out.pos, fun j => (by have := HS.out.rng j; have := HLT.out; omega), by rw [List.length_append]; have := HS.out.el; have := HLT.out; simp only [List.length_cons, List.length_nil]; omega, by rw [HX2.out, ← HZO.out]; exact HP.out, blk_grown (w := wv.drewN _) HS.out.hg hg (Kd.R_ne HS.out.hr HS.out.hg (by decide)), ho, hb⟩⟩⟩
                  --}K3
                · rw [decide_eq_false hz] at hnl
                  have hzo : Arr.elOf e = some e := if_neg hz
                  have HZO := Aside0.mk hzo
                  clear hz hzo
                  --{K4
                  go_wp2_with (first | ((with_reducible refine gate_builtin (b := .append) (xs := #[.tmp 82, .tmp 84]) rfl ?_); at_builtin; refine Kd.R_append (elKd w) (w0 := w) w.heap.size rfl (.tmp 82) (.tmp 84) 64 58 (.slice none 0 0) 24 rfl Tryz.underlying64 el_info rfl Nat.one_pos (by omega) u5 els (some e) [.slice (some (ad.add i)) (i2 - i) (c - i)] (fun _ => True) (fun _ => False) rfl (by first | (go_simp; done) | (go_simp; rfl)) ?aP (fun _ hk => hk.elim) ?aF ?aO ?aB ?aS ?aL ?_; (case aP => exact elK_shared (by rw [HEL.out]; exact HSEG.out w (Below.refl _ _)) HEL.out.symm (by have := HC.out; have := HC2.out; omega)); (case aB => exact HBV.out _); (case aF => exact (fun _ _ => trivial)); (case aO => exact Kd.R_drewN HS.out.hr _); (case aS => exact (HBV.out 0).size); (case aL => have := HS.out.el; have := HL.out; have := HC2.out; have := HLT.out; omega); intro v1 w8 ho hb hg hat))
                  go_meet
                  exact ⟨i2, k, D, els ++ [some e], rfl, rfl, rfl, rfl, ⟨by have := HI.out; have := HLT.out; omega⟩, ⟨⟨by have := HLD.out; have := HC2.out; omega, HS.out.kn, (fun h => by cases h), HS.out.dl, HS.out.pos, fun j => (by have := HS.out.rng j; have := HLT.out; omega), by rw [List.length_append]; have := HS.out.el; have := HLT.out; simp only [List.length_cons, List.length_nil]; omega, by rw [HX2.out, ← HZO.out]; exact HP.out, blk_grown (w := wv.drewN _) HS.out.hg hg (Kd.R_ne HS.out.hr HS.out.hg (by decide)), ho, hb⟩⟩⟩
                  --}K4
              --}C1
            · have cdb : decide (x2 = d) = false := decide_eq_false cd2
              by_cases c125 : x2 = 125
              · have hsc : x2 = d ∨ x2 = 125 := .inr c125
                have HSC := Aside0.mk hsc
                have c125b : (x2 == 125) = true := beq_iff_eq.mpr c125
                clear cd2 hsc c125
                --{C2
                go_upto_region 18 with (first | (go_at_call 43; refine (pq_zzBegins.one (ad.add i2) (L - i2) (c - i2) x2 t2 Ad cd d _ ?b1 (HDC.out _ ?b2) ?b3 (HRD2.out _ ?b4) HCD.out HXB2.out HDB.out).mono ?_; (case b1 => have h_ := congrArg List.length HX2.out; rw [List.length_drop, ← HLD.out] at h_; simp only [List.length_cons] at h_; exact h_); (case b3 => have := HC.out; omega); (case b2 => first | exact HBV.out _ | exact below_drew (HBV.out _)); (case b4 => first | exact HBV.out _ | exact below_drew (HBV.out _)); rintro e w1 ⟨rfl, ⟨m1, rfl⟩⟩; rw [cdb]))
                have hge : T = T := rfl
                by_cases hii : i2 = i
                · subst hii
                  have hpm := HPM.out
                  rw [Arr.pm_word_none HX123.out HX34.out (.inr (by rw [← HX.out, HE.out.2.2]; rw [HX2.out, Arr.scanEl, if_pos HSC.out]; simp))] at hpm
                  have HP := Aside0.mk hpm
                  clear hpm
                  have f5 : (i2 ≤ c) = True := eq_true (by have := HC.out; have := HC2.out; omega)
                  --{K1
                  go_wp2_with (go_at_call 20; refine (errors_New.plain _ _).mono ?_; rintro e w' ⟨⟨t_, v_, rfl⟩, hb⟩; have HBE := Aside0.mk hb; clear hb)
                  go_ret3
                  exact ⟨below_step (HBV.out _) HBE.out, fun D els h => (by rw [← HP.out] at h; cases h), fun _ => ⟨_, _, _, _, rfl⟩⟩
                  --}K1
                · have hlt : i < i2 := by have := HE.out.1; omega
                  obtain ⟨e, he⟩ : ∃ e, e = (s.drop i).take (i2 - i) := ⟨_, rfl⟩
                  have hseg : ∀ W', Below w.heap.size w W' → (Kd.int .u8).C W' (some (ad.add i)) (i2 - i) e := fun W' hb => by rw [he]; exact arr_seg HR.out HLD.out HC.out ci (Nat.le_of_lt HC2.out) hb
                  have hel : e.length = i2 - i := by rw [he, List.length_take, List.length_drop, ← HLD.out]; have := HC2.out; omega
                  have hscan : Arr.scanEl d (x :: t) = (e, x2 :: t2) := by
                    rw [← HX.out, HE.out.2.2, HX2.out, Arr.scanEl, if_pos HSC.out, he]; simp
                  have hpm := HPM.out
                  rw [Arr.pm_word HX123.out HX34.out (by rw [hscan]; simp) (by rw [hscan]; intro h0; have h1 : e = [] := h0; rw [h1] at hel; simp at hel; omega), hscan] at hpm
                  have HP := Aside0.mk hpm
                  have HEL := Aside0.mk hel
                  have HSEG := Aside0.mk hseg
                  have hcv1 := fun (c_ : Nat) (nq : Nat) => Kd.C_string (P := Tryz.prog) (c := c_) Tryz.underlying58 Tryz.underlying5 Tryz.underlying9 (hseg _ (HBV.out nq))
                  have f1 : ((i : Int) ≤ (i2 : Int)) = True := eq_true (by omega)
                  have f2 : decide ((i : Int) ≤ (i2 : Int)) = true := decide_eq_true (by omega)
                  have f3 : (i ≤ i2) = True := eq_true (by omega)
                  have f4 : ((i2 : Int) ≤ (c : Int)) = True := eq_true (by have := HC.out; have := HC2.out; omega)
                  have f5 : (i2 ≤ c) = True := eq_true (by have := HC.out; have := HC2.out; omega)
                  have f6 : (c = i) = False := eq_false (by have := HC.out; omega)
                  have f7 : (c - i = 0) = False := eq_false (by have := HC.out; omega)
                  have f8 : (i2 - i = 0) = False := eq_false (by omega)
                  have f9 : (((i2 - i : Nat) : Int) == 0) = false := beq_eq_false_iff_ne.mpr (by omega)
                  have hnl := null_str (e := e) (fun z hz => HBY.out z (by rw [he] at hz; exact List.mem_of_mem_drop (List.mem_of_mem_take hz)))
                  have hpm : Arr.pm d n false (x2 :: t2) k D (els ++ [Arr.elOf e]) = T := hpm
                  have HLT := Aside0.mk hlt
                  clear he hseg hel hscan hpm hii hlt
                  by_cases hz : e = Arr.nullW
                  · rw [decide_eq_true hz] at hnl
                    have hzo : Arr.elOf e = none := if_pos hz
                    have HZO := Aside0.mk hzo
                    clear hz hzo
                    --{K3
                    go_wp2_with (first | ((with_reducible refine gate_builtin (b := .append) (xs := #[.tmp 82, .tmp 84]) rfl ?_); at_builtin; refine Kd.R_append (elKd w) (w0 := w) w.heap.size rfl (.tmp 82) (.tmp 84) 64 58 (.slice none 0 0) 24 rfl Tryz.underlying64 el_info rfl Nat.one_pos (by omega) u5 els none [.slice none 0 0] (fun _ => True) (fun _ => False) rfl (by first | (go_simp; done) | (go_simp; rfl)) ?aP (fun _ hk => hk.elim) ?aF ?aO ?aB ?aS ?aL ?_; (case aP => exact elK_none); (case aB => exact HBV.out _); (case aF => exact (fun _ _ => trivial)); (case aO => exact Kd.R_drewN HS.out.hr _); (case aS => exact (HBV.out 0).size); (case aL => have := HS.out.el; have := HL.out; have := HC2.out; have := HLT.out; omega); intro v1 w8 ho hb hg hat))
                    go_meet
                    exact ⟨i2, k, D, els ++ [none], rfl, rfl, rfl, rfl, ⟨by have := HI.out; have := HLT.out; omega⟩, ⟨⟨by have := HLD.out; have := HC2.out; omega, HS.out.kn, (fun h => by cases h), HS.out.dl, HS.out.pos, fun j => (by have := HS.out.rng j; have := HLT.out; omega), by rw [List.length_append]; have := HS.out.el; have := HLT.out; simp only [List.length_cons, List.length_nil]; omega, by rw [HX2.out, ← HZO.out]; exact HP.out, blk_grown (w := wv.drewN _) HS.out.hg hg (Kd.R_ne HS.out.hr HS.out.hg (by decide)), ho, hb⟩⟩⟩
                    --}K3
                  · rw [decide_eq_false hz] at hnl
                    have hzo : Arr.elOf e = some e := if_neg hz
                    have HZO := Aside0.mk hzo
                    clear hz hzo
                    --{K4
                    go_wp2_with (first | ((with_reducible refine gate_builtin (b := .append) (xs := #[.tmp 82, .tmp 84]) rfl ?_); at_builtin; refine Kd.R_append (elKd w) (w0 := w) w.heap.size rfl (.tmp 82) (.tmp 84) 64 58 (.slice none 0 0) 24 rfl Tryz.underlying64 el_info rfl Nat.one_pos (by omega) u5 els (some e) [.slice (some (ad.add i)) (i2 - i) (c - i)] (fun _ => True) (fun _ => False) rfl (by first | (go_simp; done) | (go_simp; rfl)) ?aP (fun _ hk => hk.elim) ?aF ?aO ?aB ?aS ?aL ?_; (case aP => exact elK_shared (by rw [HEL.out]; exact HSEG.out w (Below.refl _ _)) HEL.out.symm (by have := HC.out; have := HC2.out; omega)); (case aB => exact HBV.out _); (case aF => exact (fun _ _ => trivial)); (case aO => exact Kd.R_drewN HS.out.hr _); (case aS => exact (HBV.out 0).size); (case aL => have := HS.out.el; have := HL.out; have := HC2.out; have := HLT.out; omega); intro v1 w8 ho hb hg hat))
                    go_meet
                    exact ⟨i2, k, D, els ++ [some e], rfl, rfl, rfl, rfl, ⟨by have := HI.out; have := HLT.out; omega⟩, ⟨⟨by have := HLD.out; have := HC2.out; omega, HS.out.kn, (fun h => by cases h), HS.out.dl, HS.out.pos, fun j => (by have := HS.out.rng j; have := HLT.out; omega), by rw [List.length_append]; have := HS.out.el; have := HLT.out; simp only [List.length_cons, List.length_nil]; omega, by rw [HX2.out, ← HZO.out]; exact HP.out, blk_grown (w := wv.drewN _) HS.out.hg hg (Kd.R_ne HS.out.hr HS.out.hg (by decide)), ho, hb⟩⟩⟩
                    --}K4
                --}C2
              · have c125b : (x2 == 125) = false := beq_eq_false_iff_ne.mpr c125
                have hsc : Arr.scanEl d (s.drop i) = ((s.drop i).take (i2 + 1 - i) ++ (Arr.scanEl d (s.drop (i2 + 1))).1, (Arr.scanEl d (s.drop (i2 + 1))).2) := by
                  rw [HE.out.2.2, HX2.out, take_one HE.out.1 HX2.out, HT2.out, Arr.scanEl, if_neg (by intro h; rcases h with h | h; exact cd2 h; exact c125 h)]
                  simp
                have HSC := Aside0.mk hsc
                clear cd2 c125 hsc
                --{C3
                go_wp2_with (first | (go_at_call 43; refine (pq_zzBegins.one (ad.add i2) (L - i2) (c - i2) x2 t2 Ad cd d _ ?b1 (HDC.out _ ?b2) ?b3 (HRD2.out _ ?b4) HCD.out HXB2.out HDB.out).mono ?_; (case b1 => have h_ := congrArg List.length HX2.out; rw [List.length_drop, ← HLD.out] at h_; simp only [List.length_cons] at h_; exact h_); (case b3 => have := HC.out; omega); (case b2 => first | exact HBV.out _ | exact below_drew (HBV.out _)); (case b4 => first | exact HBV.out _ | exact below_drew (HBV.out _)); rintro e w1 ⟨rfl, ⟨m1, rfl⟩⟩; rw [cdb]))
                go_roundg (L - i2)
                case measure => have := HK2.out; have := HC2.out; omega
                case rel => exact ⟨i2 + 1, rfl, rfl, rfl, by first | rfl | go_num, ⟨by have := HC2.out; omega⟩, ⟨_, rfl⟩, ⟨⟨by have := HE.out.1; omega, by have := HC2.out; omega, HSC.out⟩⟩⟩
                --}C3
          --}C
    case rest =>
      clear HS
      obtain ⟨i1, k1, D1, els, rfl, rfl, rfl, rfl, HI1, HS⟩ := hcut
      --{D
      go_wp2_with fail
      go_loopg [4, 5, 6, 7, 8] (L + 1) (fun kq s4 s5 s6 s7 s8 wx => ∃ (i k : Nat) (D : List Int), s4 = .slice (some ⟨g, 0, none⟩) n n ∧ s5 = u5 ∧ s6 = .nilIface ∧ s7 = .int .i64 (k : Int) ∧ s8 = .int .i64 (i : Int) ∧ Aside0 (kq + i ≥ L + 1) ∧ Aside0 (i0 ≤ i) ∧ Aside0 (ArSt w s d n g T false i k D els u5 wx))
      case atStart => exact ⟨i1, k1, D1, rfl, rfl, rfl, rfl, rfl, ⟨by omega⟩, HI1, HS⟩
      case round =>
        clear HS HI1
        obtain ⟨i, k, D, rfl, rfl, rfl, rfl, rfl, HK, HI, HS⟩ := hrel
        by_cases ci : i < L
        case neg =>
          have hie : i = L := by have := HS.out.il; have := HLD.out; omega
          subst hie
          have hpm := HS.out.pm
          rw [HLD.out, List.drop_length] at hpm
          have HPM := Aside0.mk hpm
          clear ci HK hpm
          --{E
          obtain ⟨wq, hwq⟩ : ∃ wq, wq = wr := ⟨_, rfl⟩
          subst hwq
          go_wp2_with fail
          go_step3
          go_wp2_with fail
          go_loopg [4, 5, 6, 7, 8] 1 (fun kq s4 s5 s6 s7 s8 wx => s4 = .slice (some ⟨g, 0, none⟩) n n ∧ s5 = u5 ∧ s6 = .nilIface ∧ s7 = .int .i64 (k : Int) ∧ s8 = .int .i64 (i : Int) ∧ Aside0 (wx = wq))
          case atStart => exact ⟨rfl, rfl, rfl, rfl, rfl, ⟨rfl⟩⟩
          case round =>
            obtain ⟨rfl, rfl, rfl, rfl, rfl, HW⟩ := hrel
            have hw := HW.out
            subst hw
            clear HW
            by_cases hk : k = 0
            · subst hk
              have hpm := HPM.out
              rw [Arr.pm, if_pos rfl] at hpm
              have HP := Aside0.mk hpm
              obtain ⟨A5, c5, e5, hc5, hC5⟩ := Kd.R_reads HS.out.hr
              subst e5
              clear hpm HPM hc5 hC5
              --{E2
              go_wp2_with fail
              go_loopg [6, 14, 210] (n + 1) (fun kq s6 s14 s210 wx => ∃ j : Nat, s210 = .int .i64 (j : Int) ∧ Aside0 (kq + j ≥ n + 1) ∧ Aside0 (j ≤ n) ∧ Aside0 (Below wr.heap.size wr wx) ∧ Aside0 ((s6 = .nilIface ∧ ∀ x ∈ D.take j, (els.length : Int) % x = 0) ∨ ((∃ t v, s6 = .iface t v) ∧ ¬ ∀ x ∈ D, (els.length : Int) % x = 0)))
              case atStart => exact ⟨0, rfl, ⟨by omega⟩, ⟨Nat.zero_le _⟩, ⟨Below.refl _ _⟩, ⟨.inl ⟨rfl, by simp⟩⟩⟩
              case round =>
                obtain ⟨j, rfl, HK2, HJ, HBW2, HS6⟩ := hrel
                by_cases cj : j < n
                · have j1 : ((j : Int) < (n : Int)) = True := eq_true (by omega)
                  have j1b : decide ((j : Int) < (n : Int)) = true := decide_eq_true (by omega)
                  have j1c : (j < n) = True := eq_true cj
                  have hjc := dblk_cell (blk_below HS.out.hg HBW2.out) j (by rw [HS.out.dl]; exact cj)
                  rw [List.getD_eq_getElem?_getD] at hjc
                  have hj1 : wrap64 ((j : Int) + 1) = ((j + 1 : Nat) : Int) := by have := HL.out; have := HSL.out; unfold wrap64; omega
                  have hpos := HS.out.pos j (Nat.zero_le _) cj
                  rw [List.getD_eq_getElem?_getD] at hpos
                  obtain ⟨dv, hdv⟩ : ∃ dv, dv = D[j]?.getD 0 := ⟨_, rfl⟩
                  rw [← hdv] at hjc hpos
                  have hz : (dv = 0) = False := eq_false (by omega)
                  have hzb : (dv == 0) = false := beq_eq_false_iff_ne.mpr (by omega)
                  have HDV := Aside0.mk hdv
                  have HPOS := Aside0.mk hpos
                  have HCJ := Aside0.mk cj
                  have htk : D.take (j + 1) = D.take j ++ [dv] := by
                    have hl : j < D.length := by rw [HS.out.dl]; exact cj
                    rw [List.take_add_one, hdv]
                    simp [hl]
                  have hmem : dv ∈ D := by
                    have hl : j < D.length := by rw [HS.out.dl]; exact cj
                    rw [hdv, List.getElem?_eq_getElem hl]
                    exact List.getElem_mem hl
                  have HTK := Aside0.mk htk
                  have HME := Aside0.mk hmem
                  clear hdv hpos cj htk hmem
                  by_cases hm : (els.length : Int) % dv = 0
                  · have hmb : ((els.length : Int) % dv != 0) = false := by simp [hm]
                    have HM := Aside0.mk hm
                    clear hm
                    --{E3
                    go_wp2_with fail
                    go_roundg (n - j)
                    case measure => have := HK2.out; have := HCJ.out; omega
                    case rel =>
                      refine ⟨j + 1, by first | rfl | go_num, ⟨by have := HCJ.out; omega⟩, ⟨HCJ.out⟩, HBW2, ⟨?_⟩⟩
                      rcases HS6.out with h | h
                      · refine .inl ⟨h.1, fun x hx => ?_⟩
                        rw [HTK.out] at hx
                        rcases List.mem_append.mp hx with hx | hx
                        · exact h.2 x hx
                        · rw [List.mem_singleton.mp hx]; exact HM.out
                      · exact .inr h
                    --}E3
                  · have hmb : ((els.length : Int) % dv != 0) = true := by simp [hm]
                    have HM := Aside0.mk hm
                    clear hm
                    --{E4
                    go_wp2_with (go_at_call 20; refine (errors_New.plain _ _).mono ?_; rintro e w' ⟨⟨t_, v_, rfl⟩, hb⟩; have HBE := Aside0.mk hb; clear hb)
                    go_roundg (n - j)
                    case measure => have := HK2.out; have := HCJ.out; omega
                    case rel => exact ⟨j + 1, by first | rfl | go_num, ⟨by have := HCJ.out; omega⟩, ⟨HCJ.out⟩, ⟨below_step HBW2.out HBE.out⟩, ⟨.inr ⟨⟨_, _, rfl⟩, fun h => HM.out (h _ HME.out)⟩⟩⟩
                    --}E4
                · have hjn : j = n := by have := HJ.out; omega
                  subst hjn
                  have hfr : D.take j = D := by rw [← HS.out.dl, List.take_length]
                  have HFR := Aside0.mk hfr
                  clear cj hfr
                  --{E5
                  rcases HS6.out with ⟨rfl, hall⟩ | ⟨⟨t_, v_, rfl⟩, hno⟩
                  · have HA := Aside0.mk hall
                    clear hall HS6
                    go_wp2_with fail
                    go_ret3
                    have hall := HA.out
                    rw [HFR.out] at hall
                    refine ⟨below_step HS.out.hb HBW2.out, fun D' els' h => ?_, fun h => ?_⟩
                    · rw [← HP.out, if_pos hall] at h
                      injection h with h
                      injection h with h1 h2
                      subst h1
                      subst h2
                      exact ⟨g, _, HG.out, by rw [HS.out.dl]; have := HSL.out; have := HL.out; omega, by rw [HS.out.dl]; rfl, blk_below HS.out.hg HBW2.out, Kd.R_below HS.out.hr HBW2.out⟩
                    · rw [← HP.out, if_pos hall] at h
                      cases h
                  · have HA := Aside0.mk hno
                    clear hno HS6
                    go_wp2_with fail
                    go_ret3
                    exact ⟨below_step HS.out.hb HBW2.out, fun D' els' h => (by rw [← HP.out, if_neg HA.out] at h; cases h), fun _ => ⟨_, _, _, _, rfl⟩⟩
                  --}E5
              --}E2
            · have hkb : ((0 : Int) < (k : Int)) = True := eq_true (by omega)
              have hkc : (0 < k) = True := eq_true (by omega)
              have hpm := HPM.out
              rw [Arr.pm_end (by omega)] at hpm
              have HP := Aside0.mk hpm
              clear hk hpm
              --{E1
              go_wp2_with (go_at_call 20; refine (errors_New.plain _ _).mono ?_; rintro e w' ⟨⟨t_, v_, rfl⟩, hb⟩; have HBE := Aside0.mk hb; clear hb)
              go_ret3
              exact ⟨below_step HS.out.hb HBE.out, fun D els h => (by rw [← HP.out] at h; cases h), fun _ => ⟨_, _, _, _, rfl⟩⟩
              --}E1
          --}E
        obtain ⟨x, t, hx⟩ : ∃ x t, s.drop i = x :: t := ⟨_, _, List.drop_eq_getElem_cons (by rw [← HLD.out]; exact ci)⟩
        obtain ⟨e1, e2, e3⟩ := rd_drop hx
        have xc : wr.cell? (ad.add i) = some (.int .u8 x) := by
          have h := HCELL.out i ci
          rw [e1] at h
          exact (HS.out.hb.cell (World.block_lt_of_cell? w _ h)).trans h
        have d1 : ((i : Int) < (L : Int)) = True := eq_true (by omega)
        have d1b : decide ((i : Int) < (L : Int)) = true := decide_eq_true (by omega)
        have d1c : (i < L) = True := eq_true ci
        have d1d : ((i : Int) ≤ (L : Int)) = True := eq_true (by omega)
        have d1e : decide ((i : Int) ≤ (L : Int)) = true := decide_eq_true (by omega)
        have d2 : decide (0 ≤ (i : Int)) = true := decide_eq_true (by omega)
        have d3 : (c = i) = False := eq_false (by have := HC.out; omega)
        have d3b : (c - i = 0) = False := eq_false (by have := HC.out; omega)
        have hi1 : wrap64 ((i : Int) + 1) = ((i + 1 : Nat) : Int) := by have := HL.out; unfold wrap64; omega
        have hxb := HBY.out x (by have : x ∈ s.drop i := by rw [hx]; simp
                                  exact List.mem_of_mem_drop this)
        have HXB := Aside0.mk hxb
        have hdc : ∀ W', Below w.heap.size w W' → (Kd.int .u8).C W' (some (ad.add i)) (L - i) (x :: t) := fun W' hb => arr_drop HR.out HLD.out HC.out ci hb hx
        have HDC := Aside0.mk hdc
        have HRD2 : Aside0 (∀ W', Below w.heap.size w W' → (Kd.int .u8).C W' Ad 1 [d]) := ⟨fun W' hb => Kd.C_below HRD.out hb⟩
        have hpm := HS.out.pm
        rw [hx] at hpm
        have HX := Aside0.mk hx
        have HT1 := Aside0.mk e3
        have HPM := Aside0.mk hpm
        have HCI := Aside0.mk ci
        clear hx e1 e2 e3 hpm hxb hdc ci
        by_cases hk : k = 0
        · subst hk
          have hpm := HPM.out
          rw [Arr.pm_zero] at hpm
          have HP := Aside0.mk hpm
          clear hpm
          --{D1
          cases cdb : decide (x = d)
          · cases c125b : (x == 125)
            · go_wp2_with (first | (go_at_call 43; refine (pq_zzBegins.one (ad.add i) (L - i) (c - i) x t Ad cd d _ ?b1 (HDC.out _ ?b2) ?b3 (HRD2.out _ ?b4) HCD.out HXB.out HDB.out).mono ?_; (case b1 => have h_ := congrArg List.length HX.out; rw [List.length_drop, ← HLD.out] at h_; simp only [List.length_cons] at h_; exact h_); (case b3 => have := HC.out; omega); (case b2 => first | exact HS.out.hb | exact below_drew HS.out.hb | exact pw_below_drewN HS.out.hb _); (case b4 => first | exact HS.out.hb | exact below_drew HS.out.hb | exact pw_below_drewN HS.out.hb _); rintro e w1 ⟨rfl, ⟨m1, rfl⟩⟩; rw [cdb]) | (go_at_call 20; refine (errors_New.plain _ _).mono ?_; rintro e w' ⟨⟨t_, v_, rfl⟩, hb⟩; have HBE := Aside0.mk hb; clear hb))
              go_ret3
              exact ⟨below_step (pw_below_drewN HS.out.hb _) HBE.out, fun D els h => (by rw [← HP.out] at h; cases h), fun _ => ⟨_, _, _, _, rfl⟩⟩
            · go_wp2_with (first | (go_at_call 43; refine (pq_zzBegins.one (ad.add i) (L - i) (c - i) x t Ad cd d _ ?b1 (HDC.out _ ?b2) ?b3 (HRD2.out _ ?b4) HCD.out HXB.out HDB.out).mono ?_; (case b1 => have h_ := congrArg List.length HX.out; rw [List.length_drop, ← HLD.out] at h_; simp only [List.length_cons] at h_; exact h_); (case b3 => have := HC.out; omega); (case b2 => first | exact HS.out.hb | exact below_drew HS.out.hb | exact pw_below_drewN HS.out.hb _); (case b4 => first | exact HS.out.hb | exact below_drew HS.out.hb | exact pw_below_drewN HS.out.hb _); rintro e w1 ⟨rfl, ⟨m1, rfl⟩⟩; rw [cdb]) | (go_at_call 20; refine (errors_New.plain _ _).mono ?_; rintro e w' ⟨⟨t_, v_, rfl⟩, hb⟩; have HBE := Aside0.mk hb; clear hb))
              go_ret3
              exact ⟨below_step (pw_below_drewN HS.out.hb _) HBE.out, fun D els h => (by rw [← HP.out] at h; cases h), fun _ => ⟨_, _, _, _, rfl⟩⟩
          · have c125b : (x == 125) = false := beq_eq_false_iff_ne.mpr (fun h => HD.out ((of_decide_eq_true cdb).symm.trans h))
            go_wp2_with (first | (go_at_call 43; refine (pq_zzBegins.one (ad.add i) (L - i) (c - i) x t Ad cd d _ ?b1 (HDC.out _ ?b2) ?b3 (HRD2.out _ ?b4) HCD.out HXB.out HDB.out).mono ?_; (case b1 => have h_ := congrArg List.length HX.out; rw [List.length_drop, ← HLD.out] at h_; simp only [List.length_cons] at h_; exact h_); (case b3 => have := HC.out; omega); (case b2 => first | exact HS.out.hb | exact below_drew HS.out.hb | exact pw_below_drewN HS.out.hb _); (case b4 => first | exact HS.out.hb | exact below_drew HS.out.hb | exact pw_below_drewN HS.out.hb _); rintro e w1 ⟨rfl, ⟨m1, rfl⟩⟩; rw [cdb]) | (go_at_call 20; refine (errors_New.plain _ _).mono ?_; rintro e w' ⟨⟨t_, v_, rfl⟩, hb⟩; have HBE := Aside0.mk hb; clear hb))
            go_ret3
            exact ⟨below_step (pw_below_drewN HS.out.hb _) HBE.out, fun D els h => (by rw [← HP.out] at h; cases h), fun _ => ⟨_, _, _, _, rfl⟩⟩
          --}D1
        · obtain ⟨k', rfl⟩ : ∃ k', k = k' + 1 := ⟨k - 1, by omega⟩
          have hkn := HS.out.kn
          have hkz : wrap64 (k' : Int) = (k' : Int) := by have := HL.out; have := HSL.out; unfold wrap64; omega
          have hk0 : ((0 : Int) < (k' : Int) + 1) = True := eq_true (by omega)
          have hk0b : decide ((0 : Int) < (k' : Int) + 1) = true := decide_eq_true (by omega)
          have k1 : ((k' : Int) < (n : Int)) = True := eq_true (by omega)
          have k1b : decide ((k' : Int) < (n : Int)) = true := decide_eq_true (by omega)
          have hgc := dblk_cell HS.out.hg k' (by rw [HS.out.dl]; omega)
          have hgf := blk_frozen HS.out.hg k'
          have hr' := HS.out.rng k'
          have hwD : wrap64 (D[k']?.getD 0 + 1) = D.getD k' 0 + 1 := by have := HL.out; have := HCI.out; rw [← List.getD_eq_getElem?_getD]; unfold wrap64; omega
          have HKN := Aside0.mk hkn
          clear hk hkn hr'
          by_cases hxd : x = d
          · have cdb : decide (x = d) = true := decide_eq_true hxd
            have hpm : Arr.pm d n true t (k' + 1) (D.set k' (D.getD k' 0 + 1)) els = T := by
              have h := HPM.out
              rw [hxd, Arr.pm_del (Nat.succ_pos k')] at h
              exact h
            have HP := Aside0.mk hpm
            clear hxd hpm
            --{D2
            go_wp2_with (go_at_call 43; refine (pq_zzBegins.one (ad.add i) (L - i) (c - i) x t Ad cd d _ ?b1 (HDC.out _ ?b2) ?b3 (HRD2.out _ ?b4) HCD.out HXB.out HDB.out).mono ?_; (case b1 => have h_ := congrArg List.length HX.out; rw [List.length_drop, ← HLD.out] at h_; simp only [List.length_cons] at h_; exact h_); (case b3 => have := HC.out; omega); (case b2 => first | exact HS.out.hb | exact below_drew HS.out.hb | exact pw_below_drewN HS.out.hb _); (case b4 => first | exact HS.out.hb | exact below_drew HS.out.hb | exact pw_below_drewN HS.out.hb _); rintro e w1 ⟨rfl, ⟨m1, rfl⟩⟩; rw [cdb])
            rw [hi1]
            refine wp_goto ?_
            refine And.intro (rfl : (2 : Nat) = 2) ?_
            refine JAr_cap ?_
            have hset : (D.set k' (D.getD k' 0 + 1)).length = n := by rw [List.length_set]; exact HS.out.dl
            refine ⟨⟨i + 1, k' + 1, D.set k' (D.getD k' 0 + 1), els, g, u5, ?_, HG, ⟨⟨by have := HLD.out; have := HCI.out; omega, HKN.out, (fun _ => by omega), hset, fun j h1 h2 => ?_, fun j => ?_, by have := HS.out.el; omega, by rw [HT1.out]; exact HP.out, by first | (rw [hwD]; exact dblk_set (w := wr.drewN _) HS.out.hg k' _) | (rw [← List.getD_eq_getElem?_getD]; exact dblk_set (w := wr.drewN _) HS.out.hg k' _), Kd.R_set (Kd.R_drewN HS.out.hr _) (g := g) HS.out.hg (by intro q hq; change q ∈ [58, 5] at hq; revert q; decide) k' _, below_set (pw_below_drewN HS.out.hb _) HG.out⟩⟩⟩, ?_⟩
            · first | rfl | kernel_rfl
            · rw [Arr.getD_set _ _ _ _ _ (by rw [HS.out.dl]; have := HKN.out; omega), if_neg (by omega)]
              exact HS.out.pos j (by omega) h2
            · rw [Arr.getD_set _ _ _ _ _ (by rw [HS.out.dl]; have := HKN.out; omega)]
              have := HS.out.rng j
              have := HS.out.rng k'
              split <;> omega
            · show L - (i + 1) < L - i0
              have := HI.out; have := HCI.out; omega
            --}D2
          · have cdb : decide (x = d) = false := decide_eq_false hxd
            by_cases h125 : x = 125
            · have c125b : (x == 125) = true := beq_iff_eq.mpr h125
              have hpm : Arr.pm d n false t k' (D.set k' (D.getD k' 0 + 1)) els = T := by
                have h := HPM.out
                rw [h125, Arr.pm_close HD.out (Nat.succ_pos k')] at h
                exact h
              have HP := Aside0.mk hpm
              clear hxd hpm h125
              --{D3
              go_wp2_with (go_at_call 43; refine (pq_zzBegins.one (ad.add i) (L - i) (c - i) x t Ad cd d _ ?b1 (HDC.out _ ?b2) ?b3 (HRD2.out _ ?b4) HCD.out HXB.out HDB.out).mono ?_; (case b1 => have h_ := congrArg List.length HX.out; rw [List.length_drop, ← HLD.out] at h_; simp only [List.length_cons] at h_; exact h_); (case b3 => have := HC.out; omega); (case b2 => first | exact HS.out.hb | exact below_drew HS.out.hb | exact pw_below_drewN HS.out.hb _); (case b4 => first | exact HS.out.hb | exact below_drew HS.out.hb | exact pw_below_drewN HS.out.hb _); rintro e w1 ⟨rfl, ⟨m1, rfl⟩⟩; rw [cdb])
              go_roundg (L - i)
              case measure => have := HK.out; have := HCI.out; omega
              case rel =>
                have hset : (D.set k' (D.getD k' 0 + 1)).length = n := by rw [List.length_set]; exact HS.out.dl
                refine ⟨i + 1, k', D.set k' (D.getD k' 0 + 1), rfl, rfl, rfl, by first | rfl | go_num, by first | rfl | go_num, ⟨by have := HCI.out; omega⟩, ⟨by have := HI.out; omega⟩, ⟨⟨by have := HLD.out; have := HCI.out; omega, by have := HKN.out; omega, (fun h => by cases h), hset, fun j h1 h2 => ?_, fun j => ?_, by have := HS.out.el; omega, by rw [HT1.out]; exact HP.out, by first | (rw [hwD]; exact dblk_set (w := wr.drewN _) HS.out.hg k' _) | (rw [← List.getD_eq_getElem?_getD]; exact dblk_set (w := wr.drewN _) HS.out.hg k' _), Kd.R_set (Kd.R_drewN HS.out.hr _) (g := g) HS.out.hg (by intro q hq; change q ∈ [58, 5] at hq; revert q; decide) k' _, below_set (pw_below_drewN HS.out.hb _) HG.out⟩⟩⟩
                · rw [Arr.getD_set _ _ _ _ _ (by rw [HS.out.dl]; have := HKN.out; omega)]
                  have := HS.out.rng k'
                  split
                  · omega
                  · exact HS.out.pos j (by omega) h2
                · rw [Arr.getD_set _ _ _ _ _ (by rw [HS.out.dl]; have := HKN.out; omega)]
                  have := HS.out.rng j
                  have := HS.out.rng k'
                  split <;> omega
              --}D3
            · have c125b : (x == 125) = false := beq_eq_false_iff_ne.mpr h125
              have hpm := HPM.out
              rw [Arr.pm_other hxd h125] at hpm
              have HP := Aside0.mk hpm
              clear hxd hpm h125
              --{D4
              go_wp2_with (first | (go_at_call 43; refine (pq_zzBegins.one (ad.add i) (L - i) (c - i) x t Ad cd d _ ?b1 (HDC.out _ ?b2) ?b3 (HRD2.out _ ?b4) HCD.out HXB.out HDB.out).mono ?_; (case b1 => have h_ := congrArg List.length HX.out; rw [List.length_drop, ← HLD.out] at h_; simp only [List.length_cons] at h_; exact h_); (case b3 => have := HC.out; omega); (case b2 => first | exact HS.out.hb | exact below_drew HS.out.hb | exact pw_below_drewN HS.out.hb _); (case b4 => first | exact HS.out.hb | exact below_drew HS.out.hb | exact pw_below_drewN HS.out.hb _); rintro e w1 ⟨rfl, ⟨m1, rfl⟩⟩; rw [cdb]) | (go_at_call 20; refine (errors_New.plain _ _).mono ?_; rintro e w' ⟨⟨t_, v_, rfl⟩, hb⟩; have HBE := Aside0.mk hb; clear hb))
              go_ret3
              exact ⟨below_step (pw_below_drewN HS.out.hb _) HBE.out, fun D els h => (by rw [← HP.out] at h; cases h), fun _ => ⟨_, _, _, _, rfl⟩⟩
              --}D4
      --}D
  · intro hrest
    --{F
    go_wp2_with fail
    go_step3
    go_wp2_with fail
    clear x0 hL1 hL2 hL3 hL4 hL5
    go_loopg [5, 7, 8] (n + 1) (fun kq s5 s7 s8 wx => ∃ j : Nat, s5 = .slice none 0 0 ∧ s7 = .int .i64 (j : Int) ∧ s8 = .int .i64 (j : Int) ∧ Aside0 (kq + j ≥ n + 1) ∧ Aside0 (j ≤ n) ∧ Aside0 (wx = w))
    case atStart => exact ⟨0, rfl, rfl, rfl, ⟨by omega⟩, ⟨Nat.zero_le _⟩, ⟨rfl⟩⟩
    case round =>
      obtain ⟨j, rfl, rfl, rfl, HK, HJ, HW⟩ := hrel
      have hw := HW.out
      subst hw
      clear HW
      by_cases cj : j < n
      · have jl : j < L := by have := HSL.out; omega
        have xc : wr.cell? (ad.add j) = some (.int .u8 123) := by rw [HCELL.out j jl, HOPEN.out j cj]
        have c1 : ((j : Int) < (L : Int)) = True := eq_true (by omega)
        have c1b : decide ((j : Int) < (L : Int)) = true := decide_eq_true (by omega)
        have c1c : (j < L) = True := eq_true jl
        have c2 : decide (0 ≤ (j : Int)) = true := decide_eq_true (by omega)
        have hi1 : wrap64 ((j : Int) + 1) = ((j + 1 : Nat) : Int) := by have := HL.out; unfold wrap64; omega
        have HCJ := Aside0.mk cj
        clear cj jl
        --{F1
        go_wp2_with fail
        go_roundg (n - j)
        case measure => have := HK.out; have := HCJ.out; omega
        case rel => exact ⟨j + 1, rfl, by first | rfl | go_num, by first | rfl | go_num, ⟨by have := HCJ.out; omega⟩, ⟨HCJ.out⟩, ⟨rfl⟩⟩
        --}F1
      · have hjn : j = n := by have := HJ.out; omega
        subst hjn
        clear cj HK HJ
        have hmk := mkd_run (P := Tryz.prog) 29 3 (.int .i64 0) 1 8 Tryz.underlying29 (by kernel_rfl) (by omega) j (by have := HL.out; have := HSL.out; omega) wr
        rw [show (Value.int .i64 0).cells = #[.int .i64 0] from rfl, Nat.mul_one, dcells_made] at hmk
        have hJ : ∀ W, W = wr.alloc (.cells (dcells (List.replicate j 0)) 3) → ArSt wr s d j wr.heap.size T true j j (List.replicate j 0) [] (.slice none 0 0) W := by
          intro W hW
          subst hW
          exact ⟨by have := HLD.out; have := HSL.out; omega, Nat.le_refl _, fun _ => HN.out, List.length_replicate, fun i h1 h2 => by omega, fun i => by (simp [List.getD_eq_getElem?_getD, List.getElem?_replicate]; split <;> simp), Nat.zero_le _, by rw [HBEH.out, HT.out], heap_alloc_new _ _, Kd.R_nil _ _ _ _ _, below_alloc (Below.refl _ _) _⟩
        have HJ2 := Aside0.mk hJ
        clear hJ
        by_cases cl : j < L
        · have hrne : ∃ x t, r = x :: t := by
            cases r with
            | nil => have := HSL.out; simp at this; omega
            | cons x t => exact ⟨x, t, rfl⟩
          obtain ⟨x, t, hr⟩ := hrne
          have hx := HH.out x t hr
          obtain ⟨e1, e2, e3⟩ := rd_drop (HBEH.out.trans hr)
          have xc : wr.cell? (ad.add j) = some (.int .u8 x) := by rw [HCELL.out j cl, e1]
          have c1 : ((j : Int) < (L : Int)) = True := eq_true (by omega)
          have c1b : decide ((j : Int) < (L : Int)) = true := decide_eq_true (by omega)
          have c1c : (j < L) = True := eq_true cl
          have c2 : decide (0 ≤ (j : Int)) = true := decide_eq_true (by omega)
          have h1 : (x == 123) = false := beq_eq_false_iff_ne.mpr hx.1
          have h2 : (x == 125) = false := beq_eq_false_iff_ne.mpr hx.2
          clear hr hx e1 e2 e3 cl
          --{F2
          go_wp2_with fail
          go_step3
          simp only [Exit.then]
          refine (by assumption : ∀ (a : Act) (w : World), Code.wp _ _ _ a w → _) _ _ ?_
          refine hrest _ _ (JAr_cap1 ?_)
          exact ⟨j, j, List.replicate j 0, [], wr.heap.size, .slice none 0 0, by first | rfl | kernel_rfl, ⟨Nat.le_refl _⟩, ⟨HJ2.out _ rfl⟩⟩
          --}F2
        · have hjl : j = L := by have := HSL.out; omega
          have c1 : ((j : Int) < (L : Int)) = False := eq_false (by omega)
          have c1b : decide ((j : Int) < (L : Int)) = false := decide_eq_false (by omega)
          have c1c : (j < L) = False := eq_false cl
          clear hjl cl
          --{F3
          go_wp2_with fail
          go_step3
          simp only [Exit.then]
          refine (by assumption : ∀ (a : Act) (w : World), Code.wp _ _ _ a w → _) _ _ ?_
          refine hrest _ _ (JAr_cap1 ?_)
          exact ⟨j, j, List.replicate j 0, [], wr.heap.size, .slice none 0 0, by first | rfl | kernel_rfl, ⟨Nat.le_refl _⟩, ⟨HJ2.out _ rfl⟩⟩
          --}F3
    --}F

end Go.Proofs.YtcdcoogjhkchlaaGreatDoor.P
