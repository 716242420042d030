/- fromDSN's closure skipSpaces. Conditions: named by each theorem. -/
import Derived.Test.YtlhjblbmhlelbaaDsnA
namespace Go.Proofs.Ytlhjblbmhlelbaa.P
open Go.RowKit Go.Proofs.YtlhjblbmhlelbaaW.PrintWords Go.Proofs.YtlhjblbmhlelbaaW.PrintLast Go.Proofs.YtlhjblbmhlelbaaW.PrintMore
set_option linter.unusedVariables false
set_option linter.unusedSimpArgs false
/-- The rune that next gives, and whether it gives one. -/
def hd0 : List Int → Int
  | [] => 0
  | c :: _ => c
def ne : List Int → Bool
  | [] => false
  | _ :: _ => true
def skipL : List Int → List Int
  | [] => []
  | c :: t => if spI c = true then skipL t else c :: t
theorem grown_trans {a b c : World} {row : Option Nat} (h : a.grownBy b row) (h' : b.grownBy c row) : a.grownBy c row :=
  ⟨h'.os.trans h.os, h'.tape.trans h.tape, h'.output.trans h.output, Nat.le_trans h.size h'.size, fun i hi hr => (h'.block i (Nat.lt_of_lt_of_le hi h.size) hr).trans (h.block i hi hr)⟩
theorem grown_drewN {a b : World} {row : Option Nat} (h : a.grownBy b row) (n : Nat) : a.grownBy (b.drewN n) row := ⟨h.os, h.tape, h.output, h.size, h.block⟩
theorem grown_self (a : World) (row : Option Nat) : a.grownBy a row := ⟨rfl, rfl, rfl, Nat.le_refl _, fun _ _ _ => rfl⟩
theorem DS.drewN {p : Pl} {s l : List Int} {W : World} (h : DS p s l W) (n : Nat) : DS p s l (W.drewN n) := h.keep (fun _ _ _ => rfl)
theorem DS.fn {p : Pl} {s l : List Int} {W : World} (h : DS p s l W) : W.cell? ⟨p.bn, 0, none⟩ = some (.func (.func 29) #[] #[.pointer (some ⟨p.bi, 0, none⟩), .pointer (some ⟨p.bs, 0, none⟩)]) := (blk_cell h.cn 0).trans rfl
theorem next_any {p : Pl} {s l : List Int} {W : World} (h : DS p s l W) :
    Calls Try.prog 29 #[.pointer (some ⟨p.bi, 0, none⟩), .pointer (some ⟨p.bs, 0, none⟩)] W fun e W1 => e = .returned (.tuple #[.int .i32 (hd0 l), .bool (ne l)]) ∧ DS p s l.tail W1 ∧ W.grownBy W1 (some p.bi) := by
  cases l with
  | nil => exact next_none h
  | cons c t => exact next_some h
theorem hd0_bd {l : List Int} (h : ∀ c ∈ l, 0 ≤ c ∧ c < 128) : 0 ≤ hd0 l ∧ hd0 l < 128 := by
  cases l with
  | nil => exact ⟨Int.le_refl _, by decide⟩
  | cons c t => exact h c (by simp)
set_option maxHeartbeats 1000000 in
theorem skip_any {p : Pl} {s l : List Int} {W : World} (h : DS p s l W) :
    Calls Try.prog 30 #[.pointer (some ⟨p.bn, 0, none⟩)] W fun e W1 => e = .returned (.tuple #[.int .i32 (hd0 (skipL l)), .bool (ne (skipL l))]) ∧ DS p s (skipL l).tail W1 ∧ W.grownBy W1 (some p.bi) := by
  have hcn := h.fn
  have HC := Aside0.mk (next_any h)
  have HM := Aside0.mk h.mem
  clear h
  go_enter Try.func30, Try.ntmps30
  go_wp2_with (first | (go_at_call 29; (with_reducible refine HC.out.mono ?_); rintro e w1 ⟨rfl, hd, hg⟩; have HD := Aside0.mk hd; have HG := Aside0.mk hg; clear hd hg HC hcn))
  go_loopg [3, 4] (l.length + 1) (fun kq u3 u4 wx => ∃ l' : List Int, u3 = .int .i32 (hd0 l') ∧ u4 = .bool (ne l') ∧ Aside0 (l'.length + 1 ≤ kq) ∧ Aside0 (DS p s l'.tail wx) ∧ Aside0 (W.grownBy wx (some p.bi)) ∧ Aside0 (skipL l' = skipL l) ∧ Aside0 (∀ c ∈ l', 0 ≤ c ∧ c < 128))
  case atStart => exact ⟨l, rfl, rfl, ⟨Nat.le_refl _⟩, HD, HG, ⟨rfl⟩, HM⟩
  case round =>
    obtain ⟨l', rfl, rfl, HK, HD, HG, HS, HM⟩ := hrel
    have HB := Aside0.mk (hd0_bd HM.out)
    have hb1 := HB.out.1
    have hb2 := HB.out.2
    cases l' with
    | nil =>
      have hs0 : spI (hd0 []) = false := rfl
      go_wp2_with (first | (go_at_call 31; (with_reducible refine (isSpace_any _ HB.out.1 HB.out.2 _).mono ?_); rintro e w2 ⟨rfl, ⟨nd, rfl⟩⟩))
      go_ret2
      have e9 : skipL l = [] := HS.out.symm.trans rfl
      rw [e9]
      exact ⟨rfl, HD.out.drewN _, grown_drewN HG.out _⟩
    | cons c t =>
      by_cases hs : spI c = true
      · have hs1 : spI (hd0 (c :: t)) = true := hs
        have hn1 : ne (c :: t) = true := rfl
        have hcn := (HD.out.drewN 0).fn
        have HC := fun n => next_any (HD.out.drewN n)
        have HC := Aside0.mk HC
        have HF := Aside0.mk (fun n => (HD.out.drewN n).fn)
        go_wp2_with (first | (go_at_call 31; (with_reducible refine (isSpace_any _ HB.out.1 HB.out.2 _).mono ?_); rintro e w2 ⟨rfl, ⟨nd, rfl⟩⟩; have hcn2 := HF.out nd) | (go_at_call 29; (with_reducible refine (HC.out _).mono ?_); rintro e w3 ⟨rfl, hd, hg⟩; have HD2 := Aside0.mk hd; have HG2 := Aside0.mk hg; clear hd hg))
        go_roundg (t.length + 1)
        case measure => have := HK.out; rw [List.length_cons] at this; omega
        case rel => exact ⟨t, rfl, rfl, ⟨Nat.le_refl _⟩, HD2, ⟨grown_trans (grown_drewN HG.out _) HG2.out⟩, ⟨by rw [← HS.out]; show skipL t = if spI c = true then skipL t else c :: t; rw [if_pos hs]⟩, ⟨fun c hc => HM.out c (List.mem_cons_of_mem _ hc)⟩⟩
      · have hs1 : spI (hd0 (c :: t)) = false := Bool.eq_false_iff.mpr hs
        go_wp2_with (first | (go_at_call 31; (with_reducible refine (isSpace_any _ HB.out.1 HB.out.2 _).mono ?_); rintro e w2 ⟨rfl, ⟨nd, rfl⟩⟩))
        go_ret2
        have e9 : skipL l = c :: t := HS.out.symm.trans (if_neg hs)
        rw [e9]
        exact ⟨rfl, HD.out.drewN _, grown_drewN HG.out _⟩
end Go.Proofs.Ytlhjblbmhlelbaa.P
