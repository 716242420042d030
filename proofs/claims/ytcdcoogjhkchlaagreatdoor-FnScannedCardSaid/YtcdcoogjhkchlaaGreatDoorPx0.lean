-- Written by the program wip/myprint.py of this session, over the kit's print of the translation. Lean checks it.
import Derived.Test.YtcdcoogjhkchlaaGreatDoorProg
import Derived.Below
import Derived.Deep.Draws
import Derived.Deep.AppendLies
import Derived.Maps.AppendAt
import Derived.OwnWalk
import Derived.Laws.BytesArg
import Derived.Laws.MakeOwn
import Derived.Laws.OwnMore
import Derived.Deep.OwnRows
import Derived.Tactics
import Derived.Lib.ConvBytes
import Derived.Laws.Slices
import Derived.WalkKit
import Derived.KernelRfl
import Derived.RowKit3
import Derived.Deep.LoopGhost
import Derived.Deep.QuietTactic
import Derived.BigQuiet
import Derived.WideLaws
import Derived.Deep.DeepCutAuto
import Derived.Deep.CutBlock
import Derived.Deep.RegionHeld3
import Derived.Laws.Rows
import Derived.Lib.AppendStr
import Derived.ArgAppend
import Derived.Laws.IdiomCopy
import Derived.OrdersHeld
import Derived.Laws.BitsLemmas
import Derived.RowKit
import Derived.Test.YtcdcoogjhkchlaaGreatDoorWWords
import Derived.Test.YtcdcoogjhkchlaaGreatDoorWLast
import Derived.Test.YtcdcoogjhkchlaaGreatDoorWTab
import Derived.Test.YtcdcoogjhkchlaaGreatDoorWFour
import Derived.Test.YtcdcoogjhkchlaaGreatDoorWQPut
import Derived.Test.YtcdcoogjhkchlaaGreatDoorWApart
import Derived.Test.YtcdcoogjhkchlaaGreatDoorWArr
import Derived.Test.YtcdcoogjhkchlaaGreatDoorWZeros
import Derived.Test.YtcdcoogjhkchlaaGreatDoorWFoot
import Derived.Test.YtcdcoogjhkchlaaGreatDoorWKept
import Derived.Test.YtcdcoogjhkchlaaGreatDoorWShare
import Derived.Test.YtcdcoogjhkchlaaGreatDoorWN
import Derived.Test.YtcdcoogjhkchlaaGreatDoorWFootNe
import Derived.Test.YtcdcoogjhkchlaaGreatDoorWAt
import Derived.Test.YtcdcoogjhkchlaaGreatDoorWEqStruct
import Derived.Test.YtcdcoogjhkchlaaGreatDoorWRepsOne
import Derived.Test.YtcdcoogjhkchlaaGreatDoorWInv
import Derived.Test.YtcdcoogjhkchlaaGreatDoorWInvWords
import Derived.Test.YtcdcoogjhkchlaaGreatDoorWGuard
import Derived.Test.YtcdcoogjhkchlaaGreatDoorWNEv
import Derived.Test.YtcdcoogjhkchlaaGreatDoorWMore
namespace Go.Proofs.YtcdcoogjhkchlaaGreatDoor.P
open Go.RowKit Go.Proofs.YtcdcoogjhkchlaaGreatDoorW.PrintWords Go.Proofs.YtcdcoogjhkchlaaGreatDoorW.PrintLast Go.Proofs.YtcdcoogjhkchlaaGreatDoorW.PrintMore
attribute [local go_sem] max2_int min2_int max_two min_two max_three min_three max_four min_four   -- for this text's walks alone
set_option linter.unusedVariables false
set_option linter.unusedSimpArgs false



def errW : Option Int → Value
  | none => .nilIface
  | some c => .iface 90 (.int .i64 c)
theorem errW_none : errW none = .nilIface := rfl
theorem errW_some (c : Int) : errW (some c) = .iface 90 (.int .i64 c) := rfl

theorem info5 : (Tryz.prog.info? 5).map (fun i => (i.zero, i.size, i.bytes)) = some (some (.int .u8 0), 1, 1) := by kernel_rfl
theorem info34 : (Tryz.prog.info? 34).map (fun i => (i.zero, i.size, i.bytes)) = some (some (.agg #[(.bool false), (.string ⟨#[]⟩), (.int .i64 0), (.float .f64 0), (.bool false)]), 5, 48) := by kernel_rfl
-- the values' own types
def rd_L3 (xs : List (List Int)) (i : Int) : (List Int) := xs.getD i.toNat ([] : List Int)
theorem at_L3 {w : World} {A : Option Addr} {n : Nat} {xs : List (List Int)} (h : Kd.C (Kd.slice 3 (Kd.int .i64)) w A n xs) (i : Int) (h0 : 0 ≤ i) (h1 : i < n) : ∃ ad A0 c0, A = some ad ∧ w.cell? (ad.add i.toNat) = some (.slice A0 (rd_L3 xs i).length c0) ∧ (rd_L3 xs i).length ≤ c0 ∧ (Kd.int .i64).C w A0 (rd_L3 xs i).length (rd_L3 xs i) := by
  obtain ⟨ad, c, e, _, hK, hc0⟩ := Kd.C_get h ([] : List Int) i h0 h1
  have hc : ∀ j u, c[j]? = some u → w.cell? (ad.add (i.toNat * 1 + j)) = some u := hc0
  obtain ⟨A0, c0, rfl, l0, g0⟩ := hK
  exact ⟨ad, A0, c0, e, by have hq := hc 0 _ rfl; rwa [Nat.mul_one, Nat.add_zero] at hq, l0, g0⟩

/-! #### struct type 34 -/
structure S34 where
  f0 : Bool
  f1 : ByteArray
  f2 : Int
  f3 : Nat
  f4 : Bool
def z34 : S34 := ⟨false, (⟨#[]⟩ : ByteArray), (0 : Int), (0 : Nat), false⟩
def k34 : Kd S34 := Kd.iso (Kd.pair Kd.bool (Kd.pair Kd.string (Kd.pair (Kd.int .i64) (Kd.pair (Kd.scalar (fun x_ : Nat => Value.float .f64 x_) (fun _ => rfl)) Kd.bool)))) (fun x : S34 => (x.f0, x.f1, x.f2, x.f3, x.f4))
theorem k34_open {w : World} {x : S34} {cs : List Value} (h : k34.K w x cs) : cs = [.bool x.f0, .string x.f1, .int .i64 x.f2, .float .f64 x.f3, .bool x.f4] := by
  obtain ⟨_, _, rfl, rfl, ⟨_, _, rfl, rfl, ⟨_, _, rfl, rfl, ⟨_, _, rfl, rfl, rfl⟩⟩⟩⟩ := h
  exact rfl
theorem k34_openM {w : World} {base : Nat} {ok : Nat → Prop} {x : S34} {cs : List Value} (h : k34.M w base ok x cs) : cs = [.bool x.f0, .string x.f1, .int .i64 x.f2, .float .f64 x.f3, .bool x.f4] := by
  obtain ⟨_, _, rfl, rfl, ⟨_, _, rfl, rfl, ⟨_, _, rfl, rfl, ⟨_, _, rfl, rfl, rfl⟩⟩⟩⟩ := h
  exact rfl
theorem k34_mk (w : World) (x : S34)  : k34.K w x [.bool x.f0, .string x.f1, .int .i64 x.f2, .float .f64 x.f3, .bool x.f4] := ⟨[.bool x.f0], [.string x.f1, .int .i64 x.f2, .float .f64 x.f3, .bool x.f4], rfl, rfl, ⟨[.string x.f1], [.int .i64 x.f2, .float .f64 x.f3, .bool x.f4], rfl, rfl, ⟨[.int .i64 x.f2], [.float .f64 x.f3, .bool x.f4], rfl, rfl, ⟨[.float .f64 x.f3], [.bool x.f4], rfl, rfl, rfl⟩⟩⟩⟩
theorem k34_mkM (w : World) (base : Nat) (ok : Nat → Prop) (x : S34)  : k34.M w base ok x [.bool x.f0, .string x.f1, .int .i64 x.f2, .float .f64 x.f3, .bool x.f4] := ⟨[.bool x.f0], [.string x.f1, .int .i64 x.f2, .float .f64 x.f3, .bool x.f4], rfl, rfl, ⟨[.string x.f1], [.int .i64 x.f2, .float .f64 x.f3, .bool x.f4], rfl, rfl, ⟨[.int .i64 x.f2], [.float .f64 x.f3, .bool x.f4], rfl, rfl, ⟨[.float .f64 x.f3], [.bool x.f4], rfl, rfl, rfl⟩⟩⟩⟩
theorem k34_mkF (W : World) (ok : Nat → Prop) (x : S34) : Kd.FK k34 W ok x [.bool x.f0, .string x.f1, .int .i64 x.f2, .float .f64 x.f3, .bool x.f4] := fun W2 _ => k34_mk W2 x
def rd_T34 (xs : List S34) (i : Int) : S34 := xs.getD i.toNat z34
theorem at_T34 {w : World} {A : Option Addr} {n : Nat} {xs : List S34} (h : Kd.C k34 w A n xs) (i : Int) (h0 : 0 ≤ i) (h1 : i < n) : ∃ ad , A = some ad ∧ w.cell? (ad.add (i.toNat * 5)) = some (.bool (rd_T34 xs i).f0) ∧ w.cell? ⟨(ad.add (i.toNat * 5)).block, (ad.add (i.toNat * 5)).off + 1, none⟩ = some (.string (rd_T34 xs i).f1) ∧ w.cell? ⟨(ad.add (i.toNat * 5)).block, (ad.add (i.toNat * 5)).off + 2, none⟩ = some (.int .i64 (rd_T34 xs i).f2) ∧ w.cell? ⟨(ad.add (i.toNat * 5)).block, (ad.add (i.toNat * 5)).off + 3, none⟩ = some (.float .f64 (rd_T34 xs i).f3) ∧ w.cell? ⟨(ad.add (i.toNat * 5)).block, (ad.add (i.toNat * 5)).off + 4, none⟩ = some (.bool (rd_T34 xs i).f4) := by
  obtain ⟨ad, c, e, _, hK, hc0⟩ := Kd.C_get h z34 i h0 h1
  have hc : ∀ j u, c[j]? = some u → w.cell? (ad.add (i.toNat * 5 + j)) = some u := hc0
  obtain rfl := k34_open hK
  exact ⟨ad, e, hc 0 _ rfl, by rw [← add_field _ _ 1 (by omega)]; exact hc 1 _ rfl, by rw [← add_field _ _ 2 (by omega)]; exact hc 2 _ rfl, by rw [← add_field _ _ 3 (by omega)]; exact hc 3 _ rfl, by rw [← add_field _ _ 4 (by omega)]; exact hc 4 _ rfl⟩

def rd_L6 (xs : List (List S34)) (i : Int) : (List S34) := xs.getD i.toNat ([] : List S34)
theorem at_L6 {w : World} {A : Option Addr} {n : Nat} {xs : List (List S34)} (h : Kd.C (Kd.slice 34 k34) w A n xs) (i : Int) (h0 : 0 ≤ i) (h1 : i < n) : ∃ ad A0 c0, A = some ad ∧ w.cell? (ad.add i.toNat) = some (.slice A0 (rd_L6 xs i).length c0) ∧ (rd_L6 xs i).length ≤ c0 ∧ k34.C w A0 (rd_L6 xs i).length (rd_L6 xs i) := by
  obtain ⟨ad, c, e, _, hK, hc0⟩ := Kd.C_get h ([] : List S34) i h0 h1
  have hc : ∀ j u, c[j]? = some u → w.cell? (ad.add (i.toNat * 1 + j)) = some u := hc0
  obtain ⟨A0, c0, rfl, l0, g0⟩ := hK
  exact ⟨ad, A0, c0, e, by have hq := hc 0 _ rfl; rwa [Nat.mul_one, Nat.add_zero] at hq, l0, g0⟩

def rd_L8 (xs : List (List Int)) (i : Int) : (List Int) := xs.getD i.toNat ([] : List Int)
theorem at_L8 {w : World} {A : Option Addr} {n : Nat} {xs : List (List Int)} (h : Kd.C (Kd.slice 5 (Kd.int .u8)) w A n xs) (i : Int) (h0 : 0 ≤ i) (h1 : i < n) : ∃ ad A0 c0, A = some ad ∧ w.cell? (ad.add i.toNat) = some (.slice A0 (rd_L8 xs i).length c0) ∧ (rd_L8 xs i).length ≤ c0 ∧ (Kd.int .u8).C w A0 (rd_L8 xs i).length (rd_L8 xs i) := by
  obtain ⟨ad, c, e, _, hK, hc0⟩ := Kd.C_get h ([] : List Int) i h0 h1
  have hc : ∀ j u, c[j]? = some u → w.cell? (ad.add (i.toNat * 1 + j)) = some u := hc0
  obtain ⟨A0, c0, rfl, l0, g0⟩ := hK
  exact ⟨ad, A0, c0, e, by have hq := hc 0 _ rfl; rwa [Nat.mul_one, Nat.add_zero] at hq, l0, g0⟩

def rd_L9 (xs : List (List (List Int))) (i : Int) : (List (List Int)) := xs.getD i.toNat ([] : List (List Int))
theorem at_L9 {w : World} {A : Option Addr} {n : Nat} {xs : List (List (List Int))} (h : Kd.C (Kd.slice 58 (Kd.slice 5 (Kd.int .u8))) w A n xs) (i : Int) (h0 : 0 ≤ i) (h1 : i < n) : ∃ ad A0 c0, A = some ad ∧ w.cell? (ad.add i.toNat) = some (.slice A0 (rd_L9 xs i).length c0) ∧ (rd_L9 xs i).length ≤ c0 ∧ (Kd.slice 5 (Kd.int .u8)).C w A0 (rd_L9 xs i).length (rd_L9 xs i) := by
  obtain ⟨ad, c, e, _, hK, hc0⟩ := Kd.C_get h ([] : List (List Int)) i h0 h1
  have hc : ∀ j u, c[j]? = some u → w.cell? (ad.add (i.toNat * 1 + j)) = some u := hc0
  obtain ⟨A0, c0, rfl, l0, g0⟩ := hK
  exact ⟨ad, A0, c0, e, by have hq := hc 0 _ rfl; rwa [Nat.mul_one, Nat.add_zero] at hq, l0, g0⟩

end Go.Proofs.YtcdcoogjhkchlaaGreatDoor.P
