-- Written by the program wip/myprint.py of this session, over the kit's print of the translation. Lean checks it.
import Derived.Test.YthcikkjjegfblabProg
import Derived.Below
import Derived.Deep.Draws
import Derived.Deep.AppendLies
import Derived.Maps.AppendAt
import Derived.OwnWalk
import Derived.Laws.BytesArg
import Derived.Laws.MakeOwn
import Derived.Laws.OwnMore
import Derived.Deep.OwnRows
import Derived.Tactics
import Derived.Lib.ConvBytes
import Derived.Laws.Slices
import Derived.WalkKit
import Derived.KernelRfl
import Derived.RowKit3
import Derived.Deep.LoopGhost
import Derived.Deep.QuietTactic
import Derived.BigQuiet
import Derived.WideLaws
import Derived.Deep.DeepCutAuto
import Derived.Deep.CutBlock
import Derived.Deep.RegionHeld3
import Derived.Laws.Rows
import Derived.Lib.AppendStr
import Derived.ArgAppend
import Derived.Laws.IdiomCopy
import Derived.OrdersHeld
import Derived.Laws.BitsLemmas
import Derived.RowKit
import Derived.Test.YthcikkjjegfblabWWords
import Derived.Test.YthcikkjjegfblabWLast
import Derived.Test.YthcikkjjegfblabWTab
import Derived.Test.YthcikkjjegfblabWFour
import Derived.Test.YthcikkjjegfblabWQPut
import Derived.Test.YthcikkjjegfblabWApart
import Derived.Test.YthcikkjjegfblabWArr
import Derived.Test.YthcikkjjegfblabWZeros
import Derived.Test.YthcikkjjegfblabWFoot
import Derived.Test.YthcikkjjegfblabWKept
import Derived.Test.YthcikkjjegfblabWShare
import Derived.Test.YthcikkjjegfblabWN
import Derived.Test.YthcikkjjegfblabWFootNe
import Derived.Test.YthcikkjjegfblabWAt
import Derived.Test.YthcikkjjegfblabWEqStruct
import Derived.Test.YthcikkjjegfblabWRepsOne
import Derived.Test.YthcikkjjegfblabWInv
import Derived.Test.YthcikkjjegfblabWInvWords
import Derived.Test.YthcikkjjegfblabWGuard
import Derived.Test.YthcikkjjegfblabWNEv
import Derived.Test.YthcikkjjegfblabWMore
namespace Go.Proofs.Ythcikkjjegfblab.P
open Go.RowKit Go.Proofs.YthcikkjjegfblabW.PrintWords Go.Proofs.YthcikkjjegfblabW.PrintLast Go.Proofs.YthcikkjjegfblabW.PrintMore
attribute [local go_sem] max2_int min2_int max_two min_two max_three min_three max_four min_four   -- for this text's walks alone
set_option linter.unusedVariables false
set_option linter.unusedSimpArgs false



def errW : Option Int → Value
  | none => .nilIface
  | some c => .iface 0 (.int .i64 c)
theorem errW_none : errW none = .nilIface := rfl
theorem errW_some (c : Int) : errW (some c) = .iface 0 (.int .i64 c) := rfl

theorem info5 : (Try.prog.info? 5).map (fun i => (i.zero, i.size, i.bytes)) = some (some (.int .u8 0), 1, 1) := by kernel_rfl
theorem info25 : (Try.prog.info? 25).map (fun i => (i.zero, i.size, i.bytes)) = some (some (.agg #[(.int .i64 0), (.int .i64 0), (.string ⟨#[]⟩)]), 3, 32) := by kernel_rfl
theorem info43 : (Try.prog.info? 43).map (fun i => (i.zero, i.size, i.bytes)) = some (some (.agg #[(.string ⟨#[]⟩), (.int .u32 0), (.int .i64 0), (.int .i64 0), (.int .i64 0)]), 5, 48) := by kernel_rfl
-- the values' own types
/-! #### struct type 43 -/
structure S43 where
  f0 : ByteArray
  f1 : Int
  f2 : Int
  f3 : Int
  f4 : Int
def z43 : S43 := ⟨(⟨#[]⟩ : ByteArray), (0 : Int), (0 : Int), (0 : Int), (0 : Int)⟩
def k43 : Kd S43 := Kd.iso (Kd.pair Kd.string (Kd.pair (Kd.int .u32) (Kd.pair (Kd.int .i64) (Kd.pair (Kd.int .i64) (Kd.int .i64))))) (fun x : S43 => (x.f0, x.f1, x.f2, x.f3, x.f4))
theorem k43_open {w : World} {x : S43} {cs : List Value} (h : k43.K w x cs) : cs = [.string x.f0, .int .u32 x.f1, .int .i64 x.f2, .int .i64 x.f3, .int .i64 x.f4] := by
  obtain ⟨_, _, rfl, rfl, ⟨_, _, rfl, rfl, ⟨_, _, rfl, rfl, ⟨_, _, rfl, rfl, rfl⟩⟩⟩⟩ := h
  exact rfl
theorem k43_openM {w : World} {base : Nat} {ok : Nat → Prop} {x : S43} {cs : List Value} (h : k43.M w base ok x cs) : cs = [.string x.f0, .int .u32 x.f1, .int .i64 x.f2, .int .i64 x.f3, .int .i64 x.f4] := by
  obtain ⟨_, _, rfl, rfl, ⟨_, _, rfl, rfl, ⟨_, _, rfl, rfl, ⟨_, _, rfl, rfl, rfl⟩⟩⟩⟩ := h
  exact rfl
theorem k43_mk (w : World) (x : S43)  : k43.K w x [.string x.f0, .int .u32 x.f1, .int .i64 x.f2, .int .i64 x.f3, .int .i64 x.f4] := ⟨[.string x.f0], [.int .u32 x.f1, .int .i64 x.f2, .int .i64 x.f3, .int .i64 x.f4], rfl, rfl, ⟨[.int .u32 x.f1], [.int .i64 x.f2, .int .i64 x.f3, .int .i64 x.f4], rfl, rfl, ⟨[.int .i64 x.f2], [.int .i64 x.f3, .int .i64 x.f4], rfl, rfl, ⟨[.int .i64 x.f3], [.int .i64 x.f4], rfl, rfl, rfl⟩⟩⟩⟩
theorem k43_mkM (w : World) (base : Nat) (ok : Nat → Prop) (x : S43)  : k43.M w base ok x [.string x.f0, .int .u32 x.f1, .int .i64 x.f2, .int .i64 x.f3, .int .i64 x.f4] := ⟨[.string x.f0], [.int .u32 x.f1, .int .i64 x.f2, .int .i64 x.f3, .int .i64 x.f4], rfl, rfl, ⟨[.int .u32 x.f1], [.int .i64 x.f2, .int .i64 x.f3, .int .i64 x.f4], rfl, rfl, ⟨[.int .i64 x.f2], [.int .i64 x.f3, .int .i64 x.f4], rfl, rfl, ⟨[.int .i64 x.f3], [.int .i64 x.f4], rfl, rfl, rfl⟩⟩⟩⟩
def rd_T43 (xs : List S43) (i : Int) : S43 := xs.getD i.toNat z43
theorem at_T43 {w : World} {A : Option Addr} {n : Nat} {xs : List S43} (h : Kd.C k43 w A n xs) (i : Int) (h0 : 0 ≤ i) (h1 : i < n) : ∃ ad , A = some ad ∧ w.cell? (ad.add (i.toNat * 5)) = some (.string (rd_T43 xs i).f0) ∧ w.cell? ⟨(ad.add (i.toNat * 5)).block, (ad.add (i.toNat * 5)).off + 1, none⟩ = some (.int .u32 (rd_T43 xs i).f1) ∧ w.cell? ⟨(ad.add (i.toNat * 5)).block, (ad.add (i.toNat * 5)).off + 2, none⟩ = some (.int .i64 (rd_T43 xs i).f2) ∧ w.cell? ⟨(ad.add (i.toNat * 5)).block, (ad.add (i.toNat * 5)).off + 3, none⟩ = some (.int .i64 (rd_T43 xs i).f3) ∧ w.cell? ⟨(ad.add (i.toNat * 5)).block, (ad.add (i.toNat * 5)).off + 4, none⟩ = some (.int .i64 (rd_T43 xs i).f4) := by
  obtain ⟨ad, c, e, _, hK, hc0⟩ := Kd.C_get h z43 i h0 h1
  have hc : ∀ j u, c[j]? = some u → w.cell? (ad.add (i.toNat * 5 + j)) = some u := hc0
  obtain rfl := k43_open hK
  exact ⟨ad, e, hc 0 _ rfl, by rw [← add_field _ _ 1 (by omega)]; exact hc 1 _ rfl, by rw [← add_field _ _ 2 (by omega)]; exact hc 2 _ rfl, by rw [← add_field _ _ 3 (by omega)]; exact hc 3 _ rfl, by rw [← add_field _ _ 4 (by omega)]; exact hc 4 _ rfl⟩

/-! #### struct type 25 -/
structure S25 where
  f0 : Int
  f1 : Int
  f2 : ByteArray
def z25 : S25 := ⟨(0 : Int), (0 : Int), (⟨#[]⟩ : ByteArray)⟩
def k25 : Kd S25 := Kd.iso (Kd.pair (Kd.int .i64) (Kd.pair (Kd.int .i64) Kd.string)) (fun x : S25 => (x.f0, x.f1, x.f2))
theorem k25_open {w : World} {x : S25} {cs : List Value} (h : k25.K w x cs) : cs = [.int .i64 x.f0, .int .i64 x.f1, .string x.f2] := by
  obtain ⟨_, _, rfl, rfl, ⟨_, _, rfl, rfl, rfl⟩⟩ := h
  exact rfl
theorem k25_openM {w : World} {base : Nat} {ok : Nat → Prop} {x : S25} {cs : List Value} (h : k25.M w base ok x cs) : cs = [.int .i64 x.f0, .int .i64 x.f1, .string x.f2] := by
  obtain ⟨_, _, rfl, rfl, ⟨_, _, rfl, rfl, rfl⟩⟩ := h
  exact rfl
theorem k25_mk (w : World) (x : S25)  : k25.K w x [.int .i64 x.f0, .int .i64 x.f1, .string x.f2] := ⟨[.int .i64 x.f0], [.int .i64 x.f1, .string x.f2], rfl, rfl, ⟨[.int .i64 x.f1], [.string x.f2], rfl, rfl, rfl⟩⟩
theorem k25_mkM (w : World) (base : Nat) (ok : Nat → Prop) (x : S25)  : k25.M w base ok x [.int .i64 x.f0, .int .i64 x.f1, .string x.f2] := ⟨[.int .i64 x.f0], [.int .i64 x.f1, .string x.f2], rfl, rfl, ⟨[.int .i64 x.f1], [.string x.f2], rfl, rfl, rfl⟩⟩
def rd_T25 (xs : List S25) (i : Int) : S25 := xs.getD i.toNat z25
theorem at_T25 {w : World} {A : Option Addr} {n : Nat} {xs : List S25} (h : Kd.C k25 w A n xs) (i : Int) (h0 : 0 ≤ i) (h1 : i < n) : ∃ ad , A = some ad ∧ w.cell? (ad.add (i.toNat * 3)) = some (.int .i64 (rd_T25 xs i).f0) ∧ w.cell? ⟨(ad.add (i.toNat * 3)).block, (ad.add (i.toNat * 3)).off + 1, none⟩ = some (.int .i64 (rd_T25 xs i).f1) ∧ w.cell? ⟨(ad.add (i.toNat * 3)).block, (ad.add (i.toNat * 3)).off + 2, none⟩ = some (.string (rd_T25 xs i).f2) := by
  obtain ⟨ad, c, e, _, hK, hc0⟩ := Kd.C_get h z25 i h0 h1
  have hc : ∀ j u, c[j]? = some u → w.cell? (ad.add (i.toNat * 3 + j)) = some u := hc0
  obtain rfl := k25_open hK
  exact ⟨ad, e, hc 0 _ rfl, by rw [← add_field _ _ 1 (by omega)]; exact hc 1 _ rfl, by rw [← add_field _ _ 2 (by omega)]; exact hc 2 _ rfl⟩

/-! #### struct type 113 -/
structure S113 where
  f0 : ByteArray
  f1 : Int
  f2 : Int
  f3 : Int
  f4 : Int
def z113 : S113 := ⟨(⟨#[]⟩ : ByteArray), (0 : Int), (0 : Int), (0 : Int), (0 : Int)⟩
def k113 : Kd S113 := Kd.iso (Kd.pair Kd.string (Kd.pair (Kd.int .u32) (Kd.pair (Kd.int .i64) (Kd.pair (Kd.int .i64) (Kd.int .i64))))) (fun x : S113 => (x.f0, x.f1, x.f2, x.f3, x.f4))
theorem k113_open {w : World} {x : S113} {cs : List Value} (h : k113.K w x cs) : cs = [.string x.f0, .int .u32 x.f1, .int .i64 x.f2, .int .i64 x.f3, .int .i64 x.f4] := by
  obtain ⟨_, _, rfl, rfl, ⟨_, _, rfl, rfl, ⟨_, _, rfl, rfl, ⟨_, _, rfl, rfl, rfl⟩⟩⟩⟩ := h
  exact rfl
theorem k113_openM {w : World} {base : Nat} {ok : Nat → Prop} {x : S113} {cs : List Value} (h : k113.M w base ok x cs) : cs = [.string x.f0, .int .u32 x.f1, .int .i64 x.f2, .int .i64 x.f3, .int .i64 x.f4] := by
  obtain ⟨_, _, rfl, rfl, ⟨_, _, rfl, rfl, ⟨_, _, rfl, rfl, ⟨_, _, rfl, rfl, rfl⟩⟩⟩⟩ := h
  exact rfl
theorem k113_mk (w : World) (x : S113)  : k113.K w x [.string x.f0, .int .u32 x.f1, .int .i64 x.f2, .int .i64 x.f3, .int .i64 x.f4] := ⟨[.string x.f0], [.int .u32 x.f1, .int .i64 x.f2, .int .i64 x.f3, .int .i64 x.f4], rfl, rfl, ⟨[.int .u32 x.f1], [.int .i64 x.f2, .int .i64 x.f3, .int .i64 x.f4], rfl, rfl, ⟨[.int .i64 x.f2], [.int .i64 x.f3, .int .i64 x.f4], rfl, rfl, ⟨[.int .i64 x.f3], [.int .i64 x.f4], rfl, rfl, rfl⟩⟩⟩⟩
theorem k113_mkM (w : World) (base : Nat) (ok : Nat → Prop) (x : S113)  : k113.M w base ok x [.string x.f0, .int .u32 x.f1, .int .i64 x.f2, .int .i64 x.f3, .int .i64 x.f4] := ⟨[.string x.f0], [.int .u32 x.f1, .int .i64 x.f2, .int .i64 x.f3, .int .i64 x.f4], rfl, rfl, ⟨[.int .u32 x.f1], [.int .i64 x.f2, .int .i64 x.f3, .int .i64 x.f4], rfl, rfl, ⟨[.int .i64 x.f2], [.int .i64 x.f3, .int .i64 x.f4], rfl, rfl, ⟨[.int .i64 x.f3], [.int .i64 x.f4], rfl, rfl, rfl⟩⟩⟩⟩
def rd_T113 (xs : List S113) (i : Int) : S113 := xs.getD i.toNat z113
theorem at_T113 {w : World} {A : Option Addr} {n : Nat} {xs : List S113} (h : Kd.C k113 w A n xs) (i : Int) (h0 : 0 ≤ i) (h1 : i < n) : ∃ ad , A = some ad ∧ w.cell? (ad.add (i.toNat * 5)) = some (.string (rd_T113 xs i).f0) ∧ w.cell? ⟨(ad.add (i.toNat * 5)).block, (ad.add (i.toNat * 5)).off + 1, none⟩ = some (.int .u32 (rd_T113 xs i).f1) ∧ w.cell? ⟨(ad.add (i.toNat * 5)).block, (ad.add (i.toNat * 5)).off + 2, none⟩ = some (.int .i64 (rd_T113 xs i).f2) ∧ w.cell? ⟨(ad.add (i.toNat * 5)).block, (ad.add (i.toNat * 5)).off + 3, none⟩ = some (.int .i64 (rd_T113 xs i).f3) ∧ w.cell? ⟨(ad.add (i.toNat * 5)).block, (ad.add (i.toNat * 5)).off + 4, none⟩ = some (.int .i64 (rd_T113 xs i).f4) := by
  obtain ⟨ad, c, e, _, hK, hc0⟩ := Kd.C_get h z113 i h0 h1
  have hc : ∀ j u, c[j]? = some u → w.cell? (ad.add (i.toNat * 5 + j)) = some u := hc0
  obtain rfl := k113_open hK
  exact ⟨ad, e, hc 0 _ rfl, by rw [← add_field _ _ 1 (by omega)]; exact hc 1 _ rfl, by rw [← add_field _ _ 2 (by omega)]; exact hc 2 _ rfl, by rw [← add_field _ _ 3 (by omega)]; exact hc 3 _ rfl, by rw [← add_field _ _ 4 (by omega)]; exact hc 4 _ rfl⟩

end Go.Proofs.Ythcikkjjegfblab.P
