-- Written by the program wip/myprint.py of this session, over the kit's print of the translation. Lean checks it.
import Derived.Test.YtlhjblbmhlelbabProg
import Derived.Below
import Derived.Deep.Draws
import Derived.Deep.AppendLies
import Derived.Maps.AppendAt
import Derived.OwnWalk
import Derived.Laws.BytesArg
import Derived.Laws.MakeOwn
import Derived.Laws.OwnMore
import Derived.Deep.OwnRows
import Derived.Tactics
import Derived.Lib.ConvBytes
import Derived.Laws.Slices
import Derived.WalkKit
import Derived.KernelRfl
import Derived.RowKit3
import Derived.Deep.LoopGhost
import Derived.Deep.QuietTactic
import Derived.BigQuiet
import Derived.WideLaws
import Derived.Deep.DeepCutAuto
import Derived.Deep.CutBlock
import Derived.Deep.RegionHeld3
import Derived.Laws.Rows
import Derived.Lib.AppendStr
import Derived.ArgAppend
import Derived.Laws.IdiomCopy
import Derived.OrdersHeld
import Derived.Laws.BitsLemmas
import Derived.RowKit
import Derived.Test.YtlhjblbmhlelbabWWords
import Derived.Test.YtlhjblbmhlelbabWLast
import Derived.Test.YtlhjblbmhlelbabWTab
import Derived.Test.YtlhjblbmhlelbabWFour
import Derived.Test.YtlhjblbmhlelbabWQPut
import Derived.Test.YtlhjblbmhlelbabWApart
import Derived.Test.YtlhjblbmhlelbabWArr
import Derived.Test.YtlhjblbmhlelbabWZeros
import Derived.Test.YtlhjblbmhlelbabWFoot
import Derived.Test.YtlhjblbmhlelbabWKept
import Derived.Test.YtlhjblbmhlelbabWShare
import Derived.Test.YtlhjblbmhlelbabWN
import Derived.Test.YtlhjblbmhlelbabWFootNe
import Derived.Test.YtlhjblbmhlelbabWAt
import Derived.Test.YtlhjblbmhlelbabWEqStruct
import Derived.Test.YtlhjblbmhlelbabWRepsOne
import Derived.Test.YtlhjblbmhlelbabWInv
import Derived.Test.YtlhjblbmhlelbabWInvWords
import Derived.Test.YtlhjblbmhlelbabWGuard
import Derived.Test.YtlhjblbmhlelbabWNEv
import Derived.Test.YtlhjblbmhlelbabWMore
namespace Go.Proofs.Ytlhjblbmhlelbab.P
open Go.RowKit Go.Proofs.YtlhjblbmhlelbabW.PrintWords Go.Proofs.YtlhjblbmhlelbabW.PrintLast Go.Proofs.YtlhjblbmhlelbabW.PrintMore
attribute [local go_sem] max2_int min2_int max_two min_two max_three min_three max_four min_four   -- for this text's walks alone
set_option linter.unusedVariables false
set_option linter.unusedSimpArgs false



def errW : Option Int → Value
  | none => .nilIface
  | some c => .iface 0 (.int .i64 c)
theorem errW_none : errW none = .nilIface := rfl
theorem errW_some (c : Int) : errW (some c) = .iface 0 (.int .i64 c) := rfl

theorem info3 : (Try.prog.info? 3).map (fun i => (i.zero, i.size, i.bytes)) = some (some (.int .i64 0), 1, 8) := by kernel_rfl
theorem info5 : (Try.prog.info? 5).map (fun i => (i.zero, i.size, i.bytes)) = some (some (.int .u8 0), 1, 1) := by kernel_rfl
-- the values' own types
/-! #### struct type 62 -/
structure S62 where
  f0 : Int
  f1 : Int
  f2 : Int
def z62 : S62 := ⟨(0 : Int), (0 : Int), (0 : Int)⟩
def k62 : Kd S62 := Kd.iso (Kd.pair (Kd.int .i64) (Kd.pair (Kd.int .i64) (Kd.int .i64))) (fun x : S62 => (x.f0, x.f1, x.f2))
theorem k62_open {w : World} {x : S62} {cs : List Value} (h : k62.K w x cs) : cs = [.int .i64 x.f0, .int .i64 x.f1, .int .i64 x.f2] := by
  obtain ⟨_, _, rfl, rfl, ⟨_, _, rfl, rfl, rfl⟩⟩ := h
  exact rfl
theorem k62_openM {w : World} {base : Nat} {ok : Nat → Prop} {x : S62} {cs : List Value} (h : k62.M w base ok x cs) : cs = [.int .i64 x.f0, .int .i64 x.f1, .int .i64 x.f2] := by
  obtain ⟨_, _, rfl, rfl, ⟨_, _, rfl, rfl, rfl⟩⟩ := h
  exact rfl
theorem k62_mk (w : World) (x : S62)  : k62.K w x [.int .i64 x.f0, .int .i64 x.f1, .int .i64 x.f2] := ⟨[.int .i64 x.f0], [.int .i64 x.f1, .int .i64 x.f2], rfl, rfl, ⟨[.int .i64 x.f1], [.int .i64 x.f2], rfl, rfl, rfl⟩⟩
theorem k62_mkM (w : World) (base : Nat) (ok : Nat → Prop) (x : S62)  : k62.M w base ok x [.int .i64 x.f0, .int .i64 x.f1, .int .i64 x.f2] := ⟨[.int .i64 x.f0], [.int .i64 x.f1, .int .i64 x.f2], rfl, rfl, ⟨[.int .i64 x.f1], [.int .i64 x.f2], rfl, rfl, rfl⟩⟩
def rd_T62 (xs : List S62) (i : Int) : S62 := xs.getD i.toNat z62
theorem at_T62 {w : World} {A : Option Addr} {n : Nat} {xs : List S62} (h : Kd.C k62 w A n xs) (i : Int) (h0 : 0 ≤ i) (h1 : i < n) : ∃ ad , A = some ad ∧ w.cell? (ad.add (i.toNat * 3)) = some (.int .i64 (rd_T62 xs i).f0) ∧ w.cell? ⟨(ad.add (i.toNat * 3)).block, (ad.add (i.toNat * 3)).off + 1, none⟩ = some (.int .i64 (rd_T62 xs i).f1) ∧ w.cell? ⟨(ad.add (i.toNat * 3)).block, (ad.add (i.toNat * 3)).off + 2, none⟩ = some (.int .i64 (rd_T62 xs i).f2) := by
  obtain ⟨ad, c, e, _, hK, hc0⟩ := Kd.C_get h z62 i h0 h1
  have hc : ∀ j u, c[j]? = some u → w.cell? (ad.add (i.toNat * 3 + j)) = some u := hc0
  obtain rfl := k62_open hK
  exact ⟨ad, e, hc 0 _ rfl, by rw [← add_field _ _ 1 (by omega)]; exact hc 1 _ rfl, by rw [← add_field _ _ 2 (by omega)]; exact hc 2 _ rfl⟩

/-! #### struct type 34 -/
structure S34 where
  f0 : Int
  f1 : Int
  f2 : Int
  f3 : Int
  f4 : Int
  f5 : Int
  f6 : Int
  f7 : Int
def z34 : S34 := ⟨(0 : Int), (0 : Int), (0 : Int), (0 : Int), (0 : Int), (0 : Int), (0 : Int), (0 : Int)⟩
def k34 : Kd S34 := Kd.iso (Kd.pair (Kd.int .i64) (Kd.pair (Kd.int .i64) (Kd.pair (Kd.int .i64) (Kd.pair (Kd.int .i64) (Kd.pair (Kd.int .i64) (Kd.pair (Kd.int .i64) (Kd.pair (Kd.int .i64) (Kd.int .i64)))))))) (fun x : S34 => (x.f0, x.f1, x.f2, x.f3, x.f4, x.f5, x.f6, x.f7))
theorem k34_open {w : World} {x : S34} {cs : List Value} (h : k34.K w x cs) : cs = [.int .i64 x.f0, .int .i64 x.f1, .int .i64 x.f2, .int .i64 x.f3, .int .i64 x.f4, .int .i64 x.f5, .int .i64 x.f6, .int .i64 x.f7] := by
  obtain ⟨_, _, rfl, rfl, ⟨_, _, rfl, rfl, ⟨_, _, rfl, rfl, ⟨_, _, rfl, rfl, ⟨_, _, rfl, rfl, ⟨_, _, rfl, rfl, ⟨_, _, rfl, rfl, rfl⟩⟩⟩⟩⟩⟩⟩ := h
  exact rfl
theorem k34_openM {w : World} {base : Nat} {ok : Nat → Prop} {x : S34} {cs : List Value} (h : k34.M w base ok x cs) : cs = [.int .i64 x.f0, .int .i64 x.f1, .int .i64 x.f2, .int .i64 x.f3, .int .i64 x.f4, .int .i64 x.f5, .int .i64 x.f6, .int .i64 x.f7] := by
  obtain ⟨_, _, rfl, rfl, ⟨_, _, rfl, rfl, ⟨_, _, rfl, rfl, ⟨_, _, rfl, rfl, ⟨_, _, rfl, rfl, ⟨_, _, rfl, rfl, ⟨_, _, rfl, rfl, rfl⟩⟩⟩⟩⟩⟩⟩ := h
  exact rfl
theorem k34_mk (w : World) (x : S34)  : k34.K w x [.int .i64 x.f0, .int .i64 x.f1, .int .i64 x.f2, .int .i64 x.f3, .int .i64 x.f4, .int .i64 x.f5, .int .i64 x.f6, .int .i64 x.f7] := ⟨[.int .i64 x.f0], [.int .i64 x.f1, .int .i64 x.f2, .int .i64 x.f3, .int .i64 x.f4, .int .i64 x.f5, .int .i64 x.f6, .int .i64 x.f7], rfl, rfl, ⟨[.int .i64 x.f1], [.int .i64 x.f2, .int .i64 x.f3, .int .i64 x.f4, .int .i64 x.f5, .int .i64 x.f6, .int .i64 x.f7], rfl, rfl, ⟨[.int .i64 x.f2], [.int .i64 x.f3, .int .i64 x.f4, .int .i64 x.f5, .int .i64 x.f6, .int .i64 x.f7], rfl, rfl, ⟨[.int .i64 x.f3], [.int .i64 x.f4, .int .i64 x.f5, .int .i64 x.f6, .int .i64 x.f7], rfl, rfl, ⟨[.int .i64 x.f4], [.int .i64 x.f5, .int .i64 x.f6, .int .i64 x.f7], rfl, rfl, ⟨[.int .i64 x.f5], [.int .i64 x.f6, .int .i64 x.f7], rfl, rfl, ⟨[.int .i64 x.f6], [.int .i64 x.f7], rfl, rfl, rfl⟩⟩⟩⟩⟩⟩⟩
theorem k34_mkM (w : World) (base : Nat) (ok : Nat → Prop) (x : S34)  : k34.M w base ok x [.int .i64 x.f0, .int .i64 x.f1, .int .i64 x.f2, .int .i64 x.f3, .int .i64 x.f4, .int .i64 x.f5, .int .i64 x.f6, .int .i64 x.f7] := ⟨[.int .i64 x.f0], [.int .i64 x.f1, .int .i64 x.f2, .int .i64 x.f3, .int .i64 x.f4, .int .i64 x.f5, .int .i64 x.f6, .int .i64 x.f7], rfl, rfl, ⟨[.int .i64 x.f1], [.int .i64 x.f2, .int .i64 x.f3, .int .i64 x.f4, .int .i64 x.f5, .int .i64 x.f6, .int .i64 x.f7], rfl, rfl, ⟨[.int .i64 x.f2], [.int .i64 x.f3, .int .i64 x.f4, .int .i64 x.f5, .int .i64 x.f6, .int .i64 x.f7], rfl, rfl, ⟨[.int .i64 x.f3], [.int .i64 x.f4, .int .i64 x.f5, .int .i64 x.f6, .int .i64 x.f7], rfl, rfl, ⟨[.int .i64 x.f4], [.int .i64 x.f5, .int .i64 x.f6, .int .i64 x.f7], rfl, rfl, ⟨[.int .i64 x.f5], [.int .i64 x.f6, .int .i64 x.f7], rfl, rfl, ⟨[.int .i64 x.f6], [.int .i64 x.f7], rfl, rfl, rfl⟩⟩⟩⟩⟩⟩⟩
def rd_T34 (xs : List S34) (i : Int) : S34 := xs.getD i.toNat z34
theorem at_T34 {w : World} {A : Option Addr} {n : Nat} {xs : List S34} (h : Kd.C k34 w A n xs) (i : Int) (h0 : 0 ≤ i) (h1 : i < n) : ∃ ad , A = some ad ∧ w.cell? (ad.add (i.toNat * 8)) = some (.int .i64 (rd_T34 xs i).f0) ∧ w.cell? ⟨(ad.add (i.toNat * 8)).block, (ad.add (i.toNat * 8)).off + 1, none⟩ = some (.int .i64 (rd_T34 xs i).f1) ∧ w.cell? ⟨(ad.add (i.toNat * 8)).block, (ad.add (i.toNat * 8)).off + 2, none⟩ = some (.int .i64 (rd_T34 xs i).f2) ∧ w.cell? ⟨(ad.add (i.toNat * 8)).block, (ad.add (i.toNat * 8)).off + 3, none⟩ = some (.int .i64 (rd_T34 xs i).f3) ∧ w.cell? ⟨(ad.add (i.toNat * 8)).block, (ad.add (i.toNat * 8)).off + 4, none⟩ = some (.int .i64 (rd_T34 xs i).f4) ∧ w.cell? ⟨(ad.add (i.toNat * 8)).block, (ad.add (i.toNat * 8)).off + 5, none⟩ = some (.int .i64 (rd_T34 xs i).f5) ∧ w.cell? ⟨(ad.add (i.toNat * 8)).block, (ad.add (i.toNat * 8)).off + 6, none⟩ = some (.int .i64 (rd_T34 xs i).f6) ∧ w.cell? ⟨(ad.add (i.toNat * 8)).block, (ad.add (i.toNat * 8)).off + 7, none⟩ = some (.int .i64 (rd_T34 xs i).f7) := by
  obtain ⟨ad, c, e, _, hK, hc0⟩ := Kd.C_get h z34 i h0 h1
  have hc : ∀ j u, c[j]? = some u → w.cell? (ad.add (i.toNat * 8 + j)) = some u := hc0
  obtain rfl := k34_open hK
  exact ⟨ad, e, hc 0 _ rfl, by rw [← add_field _ _ 1 (by omega)]; exact hc 1 _ rfl, by rw [← add_field _ _ 2 (by omega)]; exact hc 2 _ rfl, by rw [← add_field _ _ 3 (by omega)]; exact hc 3 _ rfl, by rw [← add_field _ _ 4 (by omega)]; exact hc 4 _ rfl, by rw [← add_field _ _ 5 (by omega)]; exact hc 5 _ rfl, by rw [← add_field _ _ 6 (by omega)]; exact hc 6 _ rfl, by rw [← add_field _ _ 7 (by omega)]; exact hc 7 _ rfl⟩

end Go.Proofs.Ytlhjblbmhlelbab.P
