/- What the two listed error variables hold. Conditions: the row's own list. -/
import Derived.Test.YtcdcoogjhkchlaaGreatDoorScanLaw
namespace Go.Proofs.YtcdcoogjhkchlaaGreatDoor.Lib
open Go.RowKit Go.Proofs.YtcdcoogjhkchlaaGreatDoor.P Go.Proofs.YtcdcoogjhkchlaaGreatDoorW.PrintWords Go.Proofs.YtcdcoogjhkchlaaGreatDoorW.PrintLast Go.Proofs.YtcdcoogjhkchlaaGreatDoorW.PrintMore
theorem gES : Tryz.prog.globalNamed "strconv.ErrSyntax" = some 0 := by kernel_rfl
theorem gER : Tryz.prog.globalNamed "strconv.ErrRange" = some 1 := by kernel_rfl
theorem star : "*" ++ "errors.errorString" = "*errors.errorString" := by decide
theorem row_es (u : TypeId) (h : Tryz.prog.typeName? 3 u = some "*errors.errorString") : u = 73 :=
  typeName_ptr_named (nm := "errors.errorString") (by rw [star]; kernel_rfl) (by kernel_rfl) (by decide) u (by rw [star]; exact h)
theorem errsyn_cell {W : World} {text : List UInt8} {r : List (String × DataW Unit)} (h : laidMet Tryz.prog (("strconv.ErrSyntax", .iface "*errors.errorString" (.ptr (.agg [.lit (.string text)]))) :: r) W) : ∃ te xe, W.cell? ⟨0, 0, none⟩ = some (.iface te xe) := by
  obtain ⟨a0, s0, hv0, -, -, -⟩ := laid_sentinel h gES (ti := 40) (by kernel_rfl) Tryz.underlying40 row_es Tryz.underlying73 Tryz.underlying75 rfl rfl Tryz.underlying9 (by kernel_rfl) (by kernel_rfl)
  exact ⟨_, _, by simpa using World.var?_cell gES hv0 0⟩
theorem errran_cell {W : World} {text : List UInt8} {r : List (String × DataW Unit)} (h : laidMet Tryz.prog (("strconv.ErrRange", .iface "*errors.errorString" (.ptr (.agg [.lit (.string text)]))) :: r) W) : ∃ te xe, W.cell? ⟨1, 0, none⟩ = some (.iface te xe) := by
  obtain ⟨a0, s0, hv0, -, -, -⟩ := laid_sentinel h gER (ti := 40) (by kernel_rfl) Tryz.underlying40 row_es Tryz.underlying73 Tryz.underlying75 rfl rfl Tryz.underlying9 (by kernel_rfl) (by kernel_rfl)
  exact ⟨_, _, by simpa using World.var?_cell gER hv0 0⟩
end Go.Proofs.YtcdcoogjhkchlaaGreatDoor.Lib
