/- Words of this session on bytes, readers of messages, map literals. Conditions: none beyond those that each lemma names. -/
import Derived.Test.YthcikkjjegfblabProg
import Derived.Below
import Derived.Deep.Draws
import Derived.Deep.AppendLies
import Derived.Maps.AppendAt
import Derived.OwnWalk
import Derived.Laws.BytesArg
import Derived.Laws.MakeOwn
import Derived.Laws.OwnMore
import Derived.Deep.OwnRows
import Derived.Tactics
import Derived.Lib.ConvBytes
import Derived.Laws.Slices
import Derived.WalkKit
import Derived.KernelRfl
import Derived.RowKit3
import Derived.Deep.LoopGhost
import Derived.Deep.QuietTactic
import Derived.BigQuiet
import Derived.WideLaws
import Derived.Deep.DeepCutAuto
import Derived.Deep.CutBlock
import Derived.Deep.RegionHeld3
import Derived.Laws.Rows
import Derived.Lib.AppendStr
import Derived.ArgAppend
import Derived.Laws.IdiomCopy
import Derived.OrdersHeld
import Derived.Laws.BitsLemmas
import Derived.RowKit
import Derived.Test.YthcikkjjegfblabWWords
import Derived.Test.YthcikkjjegfblabWLast
import Derived.Test.YthcikkjjegfblabWTab
import Derived.Test.YthcikkjjegfblabWFour
import Derived.Test.YthcikkjjegfblabWQPut
import Derived.Test.YthcikkjjegfblabWApart
import Derived.Test.YthcikkjjegfblabWArr
import Derived.Test.YthcikkjjegfblabWZeros
import Derived.Test.YthcikkjjegfblabWFoot
import Derived.Test.YthcikkjjegfblabWKept
import Derived.Test.YthcikkjjegfblabWShare
import Derived.Test.YthcikkjjegfblabWN
import Derived.Test.YthcikkjjegfblabWFootNe
import Derived.Test.YthcikkjjegfblabWAt
import Derived.Test.YthcikkjjegfblabWEqStruct
import Derived.Test.YthcikkjjegfblabWRepsOne
import Derived.Test.YthcikkjjegfblabWInv
import Derived.Test.YthcikkjjegfblabWInvWords
import Derived.Test.YthcikkjjegfblabWGuard
import Derived.Test.YthcikkjjegfblabWNEv
import Derived.Test.YthcikkjjegfblabWMore
import Derived.Maps.Own
import Derived.Carry
namespace Go.Proofs.Ythcikkjjegfblab.P
open Go.RowKit Go.Proofs.YthcikkjjegfblabW.PrintWords Go.Proofs.YthcikkjjegfblabW.PrintLast Go.Proofs.YthcikkjjegfblabW.PrintMore
set_option linter.unusedVariables false
set_option linter.unusedSimpArgs false
theorem or_lo (k : IntKind) (j : Nat) (hj : j ≤ k.bits) (hk : ∀ n : Int, 0 ≤ n → n < 2 ^ j → k.wrap n = n) (i : Nat)
    (x y : Int) (hx₀ : 0 ≤ x) (hx : x % 2 ^ i = 0) (hx₁ : x < 2 ^ j) (hy₀ : 0 ≤ y) (hy : y < 2 ^ i) (hy₁ : y < 2 ^ j) : bits .or k y x = x + y := by
  rw [← bits_join k j hj hk i x y hx₀ hx hx₁ hy₀ hy hy₁]
  obtain ⟨a, rfl⟩ := Int.eq_ofNat_of_zero_le hx₀
  obtain ⟨b, rfl⟩ := Int.eq_ofNat_of_zero_le hy₀
  have ha : a < 2 ^ j := by exact_mod_cast hx₁
  have hb : b < 2 ^ j := by exact_mod_cast hy₁
  rw [(bits_nat k j hj hk a b ha hb).2, (bits_nat k j hj hk b a hb ha).2, Nat.or_comm]
theorem or16 (x y : Int) (hx₀ : 0 ≤ x) (hx : x < 256) (hy₀ : 0 ≤ y) (hy : y < 256) : bits .or .u16 (IntKind.u16.wrap y) (IntKind.u16.wrap (IntKind.u16.wrap x * 256)) = x * 256 + y := by
  have hw : ∀ n : Int, 0 ≤ n → n < 2 ^ 16 → IntKind.u16.wrap n = n := fun n h0 h1 => by simp [IntKind.wrap, IntKind.bits, IntKind.signed]; omega
  rw [hw y hy₀ (by omega), hw x hx₀ (by omega), hw (x * 256) (by omega) (by omega)]
  exact or_lo .u16 16 (by decide) hw 8 _ _ (by omega) (by omega) (by omega) hy₀ (by omega) (by omega)
theorem or32 (x y z u : Int) (hx₀ : 0 ≤ x) (hx : x < 256) (hy₀ : 0 ≤ y) (hy : y < 256) (hz₀ : 0 ≤ z) (hz : z < 256) (hu₀ : 0 ≤ u) (hu : u < 256) :
    bits .or .u32 (bits .or .u32 (bits .or .u32 (u % 4294967296) (z % 4294967296 * 256 % 4294967296)) (y % 4294967296 * 65536 % 4294967296)) (x % 4294967296 * 16777216 % 4294967296) = x * 16777216 + y * 65536 + z * 256 + u := by
  have hw : ∀ n : Int, 0 ≤ n → n < 2 ^ 32 → IntKind.u32.wrap n = n := fun n h0 h1 => by rw [IntKind.wrap_u32]; omega
  have hm : ∀ n : Int, 0 ≤ n → n < 2 ^ 32 → n % 4294967296 = n := fun n h0 h1 => by omega
  rw [hm x hx₀ (by omega), hm y hy₀ (by omega), hm z hz₀ (by omega), hm u hu₀ (by omega), hm (z * 256) (by omega) (by omega), hm (y * 65536) (by omega) (by omega), hm (x * 16777216) (by omega) (by omega)]
  rw [or_lo .u32 32 (by decide) hw 8 (z * 256) u (by omega) (by omega) (by omega) hu₀ (by omega) (by omega), or_lo .u32 32 (by decide) hw 16 (y * 65536) _ (by omega) (by omega) (by omega) (by omega) (by omega) (by omega), or_lo .u32 32 (by decide) hw 24 (x * 16777216) _ (by omega) (by omega) (by omega) (by omega) (by omega) (by omega)]
  omega
/-- Numbers that are bytes. -/
def Bytes (f : List Int) : Prop := ∀ x, x ∈ f → 0 ≤ x ∧ x < 256
theorem Bytes.rd {f : List Int} (h : Bytes f) (i : Int) : 0 ≤ rd f i ∧ rd f i < 256 := by
  show 0 ≤ f.getD i.toNat 0 ∧ f.getD i.toNat 0 < 256
  rw [List.getD_eq_getElem?_getD]
  cases e : f[i.toNat]? with
  | none => simp
  | some x => exact h x (List.mem_of_getElem? e)
theorem rd_cell {w : World} {A : Option Addr} {n : Nat} {f : List Int} (h : (Kd.int .u8).C w A n f) (hn : 0 < n) : ∃ ad, A = some ad ∧ ∀ i, i < n → w.cell? (ad.add i) = some (.int .u8 (rd f i)) := by
  obtain ⟨ad, e, hc⟩ := Kd.at_int h 0 (by omega) (by omega)
  refine ⟨ad, e, fun i hi => ?_⟩
  obtain ⟨ad', e', hc'⟩ := Kd.at_int h i (by omega) (by omega)
  rw [e] at e'
  injection e' with e'
  subst e'
  simpa using hc'
theorem bytesOf_bytes (b : ByteArray) : Bytes (bytesOf b) := by
  intro x hx
  simp only [bytesOf, List.mem_map] at hx
  obtain ⟨y, _, rfl⟩ := hx
  have := y.toNat_lt
  omega
theorem strOfNums_size (f : List Int) : (strOfNums f).size = f.length := by simp [strOfNums, ByteArray.size]
/-- A map literal's object: keys of kind q, with integers. -/
def mapEntries (q : IntKind) (l : List (Int × Int)) : Array MapEntry := (l.zipIdx.map fun x => (⟨.int q x.1.1, .int .i64 x.1.2, x.2⟩ : MapEntry)).toArray
def mapObj (q : IntKind) (l : List (Int × Int)) : Obj := .map (mapEntries q l) l.length
def look : List (Int × Int) → Int → Int
  | [], _ => 0
  | p :: l, k => if k = p.1 then p.2 else look l k
theorem findNow_lit (q : IntKind) (k : Int) : ∀ (l : List (Int × Int)) (n i : Nat), (∀ p ∈ l, p.1 ≠ k) → Instr.findNow (.int q) (.int q k) ((l.zipIdx n).map fun x => (⟨.int q x.1.1, .int .i64 x.1.2, x.2⟩ : MapEntry)) i = some none
  | [], _, _, _ => rfl
  | p :: l, n, i, h => by
    have h0 : (k == p.1) = false := by simpa [beq_eq_false_iff_ne] using (h p (by simp)).symm
    simp only [List.zipIdx_cons, List.map_cons, Instr.findNow, Instr.sameNow, if_true, h0]
    exact findNow_lit q k l _ _ (fun p hp => h p (by simp [hp]))
theorem findNow_look (q : IntKind) (k : Int) : ∀ (l : List (Int × Int)) (n i : Nat), ∃ r, Instr.findNow (.int q) (.int q k) ((l.zipIdx n).map fun x => (⟨.int q x.1.1, .int .i64 x.1.2, x.2⟩ : MapEntry)) i = some r ∧ (r.map (·.2)).getD (.int .i64 0) = .int .i64 (look l k)
  | [], _, _ => ⟨none, rfl, rfl⟩
  | p :: l, n, i => by
    by_cases hk : k = p.1
    · refine ⟨some (i, .int .i64 p.2), ?_, ?_⟩
      · have h0 : (k == p.1) = true := by simpa using hk
        simp only [List.zipIdx_cons, List.map_cons, Instr.findNow, Instr.sameNow, if_true, h0]
      · simp [look, hk]
    · obtain ⟨r, h1, h2⟩ := findNow_look q k l (n + 1) (i + 1)
      refine ⟨r, ?_, by simpa [look, hk] using h2⟩
      have h0 : (k == p.1) = false := by simpa [beq_eq_false_iff_ne] using hk
      simp only [List.zipIdx_cons, List.map_cons, Instr.findNow, Instr.sameNow, if_true, h0]
      exact h1
theorem mapObj_push (q : IntKind) (l : List (Int × Int)) (k v : Int) : (Obj.map ((mapEntries q l).push ⟨.int q k, .int .i64 v, l.length⟩) (l.length + 1)) = mapObj q (l ++ [(k, v)]) := by
  simp [mapObj, mapEntries, List.zipIdx_append]
theorem run_lit_insert {P : Program} {w : World} {t kt et : TypeId} {q : IntKind} {b : Nat} {l : List (Int × Int)} {k v : Int} (ht : P.underlying t = some (.map kt et)) (hk : P.underlying kt = some (.int q)) (hb : w.heap[b]? = some (mapObj q l)) (hn : ∀ p ∈ l, p.1 ≠ k) :
    (Instr.mapUpdate t (.map (some b)) (.int q k) (.int .i64 v)).run P w = .ok () (ChangeMaps.setBlock w b (mapObj q (l ++ [(k, v)]))) := by
  have hf := findNow_lit q k l 0 0 hn
  have hb' : w.heap[b]? = some (.map (mapEntries q l) l.length) := hb
  rw [← mapObj_push]
  have hck : ∀ e n, (Instr.checkKey e (n + 1) kt (.int q k)).run P w = .ok () w := fun e n => by simp [Instr.checkKey, run_underlying hk]
  have hfk : (Instr.findKey kt (.int q k) (mapEntries q l).toList).run P w = .ok none w := by
    simp only [Instr.findKey, Sem.run_bind, run_underlying hk, Result.andThen]
    rw [show (mapEntries q l).toList = (l.zipIdx.map fun x => (⟨.int q x.1.1, .int .i64 x.1.2, x.2⟩ : MapEntry)) from by simp [mapEntries], hf]
    rfl
  simp [Instr.mapUpdate, run_underlying ht, Go.MapKept.run_getObj_map hb', hck, hfk, Go.MapKept.run_setObj_map _ hb', Result.andThen, ChangeMaps.setBlock]
theorem run_lit_lookup {P : Program} {w : World} {t kt et : TypeId} {q : IntKind} {b : Nat} {l : List (Int × Int)} {k : Int} (ht : P.underlying t = some (.map kt et)) (hk : P.underlying kt = some (.int q)) (hz : (zeroValue et).run P w = .ok (.int .i64 0) w) (hb : w.heap[b]? = some (mapObj q l)) :
    (Instr.lookup t (.map (some b)) (.int q k) false).run P w = .ok (.int .i64 (look l k)) w := by
  obtain ⟨r, h1, h2⟩ := findNow_look q k l 0 0
  have hb' : w.heap[b]? = some (.map (mapEntries q l) l.length) := hb
  have hck : ∀ e n, (Instr.checkKey e (n + 1) kt (.int q k)).run P w = .ok () w := fun e n => by simp [Instr.checkKey, run_underlying hk]
  have hfk : (Instr.findKey kt (.int q k) (mapEntries q l).toList).run P w = .ok r w := by
    simp only [Instr.findKey, Sem.run_bind, run_underlying hk, Result.andThen]
    rw [show (mapEntries q l).toList = (l.zipIdx.map fun x => (⟨.int q x.1.1, .int .i64 x.1.2, x.2⟩ : MapEntry)) from by simp [mapEntries], h1]
    rfl
  cases r with
  | none => simp at h2; simp [Instr.lookup, run_underlying ht, Go.MapKept.run_getObj_map hb', hck, hfk, hz, Result.andThen, ← h2]
  | some x => obtain ⟨i, v⟩ := x; simp at h2; simp [Instr.lookup, run_underlying ht, Go.MapKept.run_getObj_map hb', hck, hfk, Result.andThen, h2]
theorem setBlock_twice (w : World) (b : Nat) (o o' : Obj) : ChangeMaps.setBlock (ChangeMaps.setBlock w b o) b o' = ChangeMaps.setBlock w b o' := by simp [ChangeMaps.setBlock]
theorem setBlock_at (w : World) (b : Nat) (o : Obj) (h : b < w.heap.size) : (ChangeMaps.setBlock w b o).heap[b]? = some o := by simp [ChangeMaps.setBlock, h]
theorem setBlock_other (w : World) (b k : Nat) (o : Obj) (h : k ≠ b) : (ChangeMaps.setBlock w b o).heap[k]? = w.heap[k]? := by simp [ChangeMaps.setBlock, Ne.symm h]
theorem below_setBlock {B : Nat} {w W : World} (h : Below B w W) {b : Nat} (o : Obj) (hb : B ≤ b) : Below B w (ChangeMaps.setBlock W b o) := ⟨h.os, h.tape, h.output, by have := h.size; simpa [ChangeMaps.setBlock] using this, fun i hi => (setBlock_other W b i o (by omega)).trans (h.block i hi)⟩
theorem strOfNums_of (b : ByteArray) : strOfNums (bytesOf b) = b := by
  obtain ⟨d⟩ := b
  simp only [strOfNums, bytesOf]
  congr 1
  apply Array.ext'
  simp only [List.map_map]
  refine (List.map_congr_left (fun a _ => ?_)).trans (List.map_id _)
  simp
theorem bytesOf_strOfNums' {f : List Int} (h : Bytes f) : bytesOf (strOfNums f) = f := by
  unfold bytesOf
  rw [strOfNums_data, List.map_map]
  have : f.map ((fun b : UInt8 => (b.toNat : Int)) ∘ fun n : Int => UInt8.ofNat n.toNat) = f.map id := by
    refine List.map_congr_left fun c hc => ?_
    have := h c hc
    simp only [Function.comp, id, UInt8.toNat_ofNat']
    omega
  rw [this, List.map_id]
theorem bt_strOfNums {f : List Int} (h : Bytes f) (i : Int) : bt (strOfNums f) i = rd f i := by rw [← rd_bytesOf, bytesOf_strOfNums' h]
def zeroAt (f : List Int) : Nat := f.findIdx (· == 0)
theorem zeroAt_le (f : List Int) : zeroAt f ≤ f.length := List.findIdx_le_length
theorem zeroAt_lt {f : List Int} {m : Nat} (h : m < zeroAt f) : rd f (m : Int) ≠ 0 := by
  have hm : m < f.length := Nat.lt_of_lt_of_le h (zeroAt_le f)
  have := List.not_of_lt_findIdx h
  show f.getD m 0 ≠ 0
  rw [List.getD_eq_getElem?_getD, List.getElem?_eq_getElem hm]
  simpa using this
theorem zeroAt_at {f : List Int} (h : zeroAt f < f.length) : rd f (zeroAt f : Int) = 0 := by
  have e : (f[zeroAt f] == 0) = true := List.findIdx_getElem (p := (· == 0)) (w := h)
  show f.getD (zeroAt f) 0 = 0
  rw [List.getD_eq_getElem?_getD, List.getElem?_eq_getElem h]
  exact eq_of_beq e
theorem strOfNums_cut (f : List Int) (a b : Nat) : (strOfNums f).extract a b = strOfNums ((f.take b).drop a) := by
  apply ByteArray.ext
  apply Array.ext'
  rw [ByteArray.data_extract, Array.toList_extract]
  rw [strOfNums_data, strOfNums_data]
  simp [List.extract, List.map_take, List.map_drop, List.drop_take]
theorem strOfNums_head (f : List Int) (m : Nat) : (strOfNums f).extract 0 m = strOfNums (f.take m) := by rw [strOfNums_cut]; rfl
theorem strOfNums_rest (f : List Int) (m : Nat) : (strOfNums f).extract m f.length = strOfNums (f.drop m) := by rw [strOfNums_cut, List.take_of_length_le (Nat.le_refl _)]
theorem or_i64 (x y : Int) (hx₀ : 0 ≤ x) (hx : x < 16777216) (hy₀ : 0 ≤ y) (hy : y < 256) : bits .or .i64 (x * 256) y = x * 256 + y := by
  have hw : ∀ n : Int, 0 ≤ n → n < 2 ^ 62 → IntKind.i64.wrap n = n := fun n h0 h1 => by rw [IntKind.wrap_i64]; omega
  obtain ⟨a, rfl⟩ := Int.eq_ofNat_of_zero_le hx₀
  obtain ⟨b, rfl⟩ := Int.eq_ofNat_of_zero_le hy₀
  rw [show ((a : Int) * 256) = ((a * 256 : Nat) : Int) from by omega, (bits_nat .i64 62 (by decide) hw (a * 256) b (by omega) (by omega)).2, Nat.or_comm,
    ← (bits_nat .i64 62 (by decide) hw b (a * 256) (by omega) (by omega)).2, or_lo .i64 62 (by decide) hw 8 _ _ (by omega) (by omega) (by omega) (by omega) (by omega) (by omega)]
/-- A reader at block g of W whose bytes that are left are f; they lie where w0 has them. -/
def IsRdT (tt : TypeId) (w0 W : World) (g : Nat) (f : List Int) : Prop := ∃ A c, W.heap[g]? = some (.cells #[.slice A f.length c] tt (0, 0)) ∧ w0.heap.size ≤ g ∧ f.length ≤ c ∧ Kd.C (Kd.int .u8) w0 A f.length f ∧ Bytes f
/-- .. as a Reader. -/
abbrev IsRd (w0 W : World) (g : Nat) (f : List Int) : Prop := IsRdT 102 w0 W g f
theorem IsRdT.below {tt : TypeId} {w0 W : World} {g : Nat} {f : List Int} {W1 : World} (h : IsRdT tt w0 W g f) (hw : Below W.heap.size W W1) : IsRdT tt w0 W1 g f := by
  obtain ⟨A, c, hb, hg, hc, hr, hby⟩ := h
  exact ⟨A, c, blk_grown hb (grown_of_below hw none) (by simp), hg, hc, hr, hby⟩
theorem IsRdT.keep {tt : TypeId} {w0 W : World} {g g1 : Nat} {f : List Int} {W1 : World} (h : IsRdT tt w0 W g f) (hw : KeepBut W W1 g1 none) (hne : g ≠ g1) : IsRdT tt w0 W1 g f := by
  obtain ⟨A, c, hb, hg, hc, hr, hby⟩ := h
  exact ⟨A, c, hw.blk hb hne (by simp), hg, hc, hr, hby⟩
theorem IsRdT.lt {tt : TypeId} {w0 W : World} {g : Nat} {f : List Int} (h : IsRdT tt w0 W g f) : g < W.heap.size := by
  obtain ⟨A, c, hb, hg, hc, hr, hby⟩ := h
  exact blk_lt hb
theorem IsRdT.grown {tt : TypeId} {w0 W : World} {g : Nat} {f : List Int} {W1 : World} {row : Option Nat} (h : IsRdT tt w0 W g f) (hw : W.grownBy W1 row) (hne : some g ≠ row) : IsRdT tt w0 W1 g f := by
  obtain ⟨A, c, hb, hg, hc, hr, hby⟩ := h
  exact ⟨A, c, blk_grown hb hw hne, hg, hc, hr, hby⟩
theorem IsRdT.far {tt : TypeId} {w0 W : World} {g : Nat} {f : List Int} {p : Addr} (h : IsRdT tt w0 W g f) (hne : g ≠ p.block) (u : Value) : IsRdT tt w0 (W.setCell p u) g f := by
  obtain ⟨A, c, hb, hg, hc, hr, hby⟩ := h
  exact ⟨A, c, blk_far hb hne u, hg, hc, hr, hby⟩
theorem IsRdT.alloc {tt : TypeId} {w0 W : World} {g : Nat} {f : List Int} (h : IsRdT tt w0 W g f) (o : Obj) : IsRdT tt w0 (W.alloc o) g f := h.below (below_alloc (Below.refl _ _) o)
theorem IsRdT.bytes {tt : TypeId} {w0 W : World} {g : Nat} {f : List Int} (h : IsRdT tt w0 W g f) : Bytes f := by
  obtain ⟨A, c, hb, hg, hc, hr, hby⟩ := h
  exact hby
theorem IsRdT.ge {tt : TypeId} {w0 W : World} {g : Nat} {f : List Int} (h : IsRdT tt w0 W g f) : w0.heap.size ≤ g := by
  obtain ⟨A, c, hb, hg, hc, hr, hby⟩ := h
  exact hg
theorem IsRdT.max {tt : TypeId} {w0 W : World} {g : Nat} {f : List Int} (h : IsRdT tt w0 W g f) : f.length ≤ 9223372036854775807 := by
  obtain ⟨A, c, hb, hg, hc, hr, hby⟩ := h
  exact Kd.C_max hr
/-- A row that is owned, of elements of another type than a reader's, is as it was where all but the reader's block is kept. -/
theorem Kd.R_rd {tt : TypeId} {α : Type} {d : Kd α} {e base : Nat} {w0 W W1 : World} {v : Value} {xs : List α} {g : Nat} {f : List Int} (h : d.R e W base (fun _ => True) v xs) (hI : IsRdT tt w0 W g f) (ht : ∀ q, q ∈ e :: d.E → q ≠ tt) (hk : ∀ k, k < W.heap.size → k ≠ g → W1.heap[k]? = W.heap[k]?) : d.R e W1 base (fun _ => True) v xs := by
  obtain ⟨A, c, hb, hg, hc, hr, hby⟩ := hI
  exact Kd.R_mono (Kd.R_step (Kd.R_types h hb ht) (fun k ho hlt => hk k hlt ho.2)) (fun _ _ => trivial)
theorem Kd.R_ne_rd {tt : TypeId} {α : Type} {d : Kd α} {e base : Nat} {w0 W : World} {ok : Nat → Prop} {v : Value} {xs : List α} {g : Nat} {f : List Int} (h : d.R e W base ok v xs) (hI : IsRdT tt w0 W g f) (ht : e ≠ tt) : some g ≠ v.ownBlock := by
  obtain ⟨A, c, hb, hg, hc, hr, hby⟩ := hI
  exact Kd.R_ne h hb ht
end Go.Proofs.Ythcikkjjegfblab.P
