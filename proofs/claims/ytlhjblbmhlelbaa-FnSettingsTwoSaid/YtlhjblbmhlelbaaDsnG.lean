/- sort.Slice at a slice of settings, by their keywords. Conditions: named by each theorem. -/
import Derived.Test.YtlhjblbmhlelbaaDsnF
import Derived.Test.YtlhjblbmhlelbaaStrOrd
import Derived.Test.YtlhjblbmhlelbaaShelf
import Derived.Shelf.GgSortFunc.Tiny
namespace Go.Proofs.Ytlhjblbmhlelbaa.P
open Go.RowKit Go.Proofs.YtlhjblbmhlelbaaW.PrintWords Go.Proofs.YtlhjblbmhlelbaaW.PrintLast Go.Proofs.YtlhjblbmhlelbaaW.PrintMore
set_option linter.unusedVariables false
set_option linter.unusedSimpArgs false
instance settingInhabited : Inhabited S34 := ⟨z34⟩
abbrev Se := S34
def encS (x : Se) : List Value := [.string x.f0, .string x.f1]
def ltS (x y : Se) : Bool := Op.bytesLess x.f0.toList y.f0.toList
theorem swo_ltS : Go.Sort.SWO ltS where
  irrefl := fun x => bl_irrefl _
  trans := fun x y z h1 h2 => bl_trans _ _ _ h1 h2
  ntrans := fun x y z h1 h2 => by
    show Op.bytesLess _ _ = false
    cases h : Op.bytesLess x.f0.toList z.f0.toList
    · rfl
    · cases h3 : Op.bytesLess y.f0.toList x.f0.toList
      · have e := bl_total _ _ h1 h3
        have h2' : Op.bytesLess y.f0.toList z.f0.toList = false := h2
        rw [← e, h] at h2'
        cases h2'
      · have h4 := bl_trans _ _ _ h3 h
        have h2' : Op.bytesLess y.f0.toList z.f0.toList = false := h2
        rw [h4] at h2'
        cases h2'
/-- The row of settings. -/
def RowS (base : Nat) (v : Value) (xs : List Se) (W : World) : Prop := Kd.R k34 34 W base (fun _ => True) v xs
theorem flat_list : ∀ (xs : List Se) (inner : List Value), (inner.length = xs.length * 2) → (∀ j p, xs[j]? = some p → (inner.drop (j * 2)).take 2 = encS p) → inner = (Go.Sort.flatK encS 2 xs.toArray).toList := by
  intro xs inner hl h
  apply List.ext_getElem
  · simp [hl]
  · intro i h1 h2
    have hi : i / 2 < xs.length := by rw [hl] at h1; omega
    have e := h (i / 2) xs[i / 2] (List.getElem?_eq_getElem hi)
    have e2 : ((inner.drop (i / 2 * 2)).take 2)[i % 2]? = inner[i]? := by
      rw [List.getElem?_take, if_pos (by omega), List.getElem?_drop]
      congr 1
      omega
    rw [e] at e2
    rw [List.getElem?_eq_getElem h1] at e2
    have hx : (xs.toArray)[i / 2]! = xs[i / 2] := by simp [hi]
    have hk : (Go.Sort.flatK encS 2 xs.toArray).toList[i] = (encS (xs.toArray)[i / 2]!)[i % 2]! := by simp [Go.Sort.flatK]
    rw [hk, hx]
    have hlen : (encS xs[i / 2]).length = 2 := rfl
    rw [List.getElem?_eq_getElem (by rw [hlen]; omega)] at e2
    injection e2 with e2
    rw [← e2]
    simp [List.getElem!_eq_getElem?_getD, List.getElem?_eq_getElem (show i % 2 < (encS xs[i / 2]).length by rw [hlen]; omega)]
theorem RowS.inner {base : Nat} {v : Value} {xs : List Se} {W : World} (h : RowS base v xs W) : W.ownsRow base 34 2 v xs.length (Go.Sort.flatK encS 2 xs.toArray).toList := by
  obtain ⟨_, inner, hown, hreps⟩ := h
  have := flat_list xs inner hreps.1 (fun j p hp => k34_openM (hreps.2 j p hp))
  rw [← this]
  exact hown
theorem RowS.of {base : Nat} {v : Value} {xs : List Se} {W : World} (h : W.ownsRow base 34 2 v xs.length (Go.Sort.flatK encS 2 xs.toArray).toList) : RowS base v xs W := by
  refine ⟨fun _ _ => trivial, _, h, by simp; rfl, fun j p hp => ?_⟩
  have hj : j < xs.length := (List.getElem?_eq_some_iff.1 hp).1
  have e : (((Go.Sort.flatK encS 2 xs.toArray).toList.drop (j * 2)).take 2) = encS p := by
    have hx : (xs.toArray)[j]! = p := by
      have := (List.getElem?_eq_some_iff.1 hp).2
      simp [hj, this]
    apply List.ext_getElem
    · simp [encS]; omega
    · intro i h1 h2
      have hi : i < 2 := h2
      simp only [List.getElem_take, List.getElem_drop]
      have : (Go.Sort.flatK encS 2 xs.toArray).toList[j * 2 + i]'(by simp; omega) = (encS (xs.toArray)[(j * 2 + i) / 2]!)[(j * 2 + i) % 2]! := by simp [Go.Sort.flatK]
      rw [this, show (j * 2 + i) / 2 = j by omega, show (j * 2 + i) % 2 = i by omega, hx]
      simp [List.getElem!_eq_getElem?_getD, List.getElem?_eq_getElem h2]
  rw [show ((Kd.sz k34)) = 2 from rfl, e]
  exact k34_mkM _ _ _ p
end Go.Proofs.Ytlhjblbmhlelbaa.P
