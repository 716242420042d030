/- FnByteaEscape, for every text: bytes in the escape format are read as they were (at most 500 bytes, by the law's own guard).
   Conditions: none beyond the form's own bound on a text's size. -/
import Derived.Test.YthcikkjjegfblacDoorLibBytea
import Derived.Test.YthcikkjjegfblacDoorPx5
namespace Go.Proofs.YthcikkjjegfblacDoor.Pure
open Go.RowKit Go.Proofs.YthcikkjjegfblacDoor.P Go.Proofs.YthcikkjjegfblacDoorW.PrintWords Go.Proofs.YthcikkjjegfblacDoorW.PrintLast Go.Proofs.YthcikkjjegfblacDoorW.PrintMore Go.Proofs.YthcikkjjegfblacDoor.Lib

theorem escaped_l (s : ByteArray) (hs : s.size ≤ 500) : ∀ (l : List Int) (i : Int) (out : List Int), At (bytesOf s) i l → out.length + 4 * l.length ≤ 10000 →
    Ev (fun k => spec_Escaped.l0 k s out i) (strOfNums (out ++ escB l)) := by
  intro l
  induction l with
  | nil =>
    intro i out h _
    exact Ev.to (by simp [escB]) (Ev.step (fun k => spec_Escaped.l0.eq_2 _ _ _ _) <| Ev.if_neg (by have := h.snil; omega) <| Ev.now _)
  | cons c t ih =>
    intro i out h hb
    have hlt := h.slt
    have h0 := h.nonneg
    have hbt := h.bt
    have hc := h.byte
    have e2 : wrap64 (i + 1) = i + 1 := wrap64_id (by omega) (by omega)
    simp only [List.length_cons] at hb
    refine Ev.step (fun k => spec_Escaped.l0.eq_2 _ _ _ _) <| Ev.if_pos hlt <| Ev.if_pos h0 ?_
    rw [e2, hbt]
    have a1 : Go.bits .and .u8 (c / 8) 7 = c / 8 % 8 := u8_and7 _ (by omega) (by omega)
    have a2 : Go.bits .and .u8 c 7 = c % 8 := u8_and7 _ (by omega) (by omega)
    have three : [92, (48 + (c / 64)) % 256, (48 + Go.bits .and .u8 (c / 8) 7) % 256, (48 + Go.bits .and .u8 c 7) % 256] = [92, 48 + c / 64, 48 + c / 8 % 8, 48 + c % 8] := by
      rw [a1, a2, show (48 + c / 64) % 256 = 48 + c / 64 from by omega, show (48 + c / 8 % 8) % 256 = 48 + c / 8 % 8 from by omega, show (48 + c % 8) % 256 = 48 + c % 8 from by omega]
    by_cases h92 : c = 92
    · have hrec := ih (i + 1) (out ++ [92, 92]) h.tail (by simp; omega)
      exact Ev.to (by rw [escB_cons, esc1, _root_.if_pos h92]; simp) (Ev.if_pos h92 <| Ev.bind (Ev.now _) <| Ev.if_pos (by simp; omega) hrec)
    · by_cases hp : isPlain c
      · have hrec := ih (i + 1) (out ++ [c]) h.tail (by simp; omega)
        have := hp.1
        have := hp.2.1
        exact Ev.to (by rw [escB_cons, esc1_plain hp]; simp) (Ev.if_neg h92 <| Ev.if_neg (by omega) <| Ev.if_neg (by omega) <| Ev.if_pos (by omega) hrec)
      · have hrec := ih (i + 1) (out ++ [92, 48 + c / 64, 48 + c / 8 % 8, 48 + c % 8]) h.tail (by simp; omega)
        refine Ev.to (r := strOfNums (out ++ [92, 48 + c / 64, 48 + c / 8 % 8, 48 + c % 8] ++ escB t)) (by rw [escB_cons, esc1, _root_.if_neg h92, _root_.if_neg hp]; simp) (Ev.if_neg h92 ?_)
        rw [three]
        by_cases h32 : c < 32
        · exact Ev.if_pos h32 <| Ev.bind (Ev.now _) <| Ev.if_pos (by simp; omega) hrec
        · exact Ev.if_neg h32 <| Ev.if_pos (by have : ¬ (32 ≤ c ∧ c ≤ 126 ∧ c ≠ 92) := hp; omega) <| Ev.bind (Ev.now _) <| Ev.if_pos (by simp; omega) hrec

theorem FnByteaEscape : laws_FnByteaEscape.Pure := by
  intro s hs
  refine Ev.rounds ?_
  unfold laws_FnByteaEscape.f
  by_cases h : (s.size : Int) > 2147483647
  · exact Ev.if_pos h <| Ev.now _
  refine Ev.if_neg h ?_
  by_cases h2 : (s.size : Int) > 500
  · exact Ev.if_pos h2 <| Ev.now _
  refine Ev.if_neg h2 ?_
  have hl := bytesOf_length s
  have hb : ∀ c ∈ bytesOf s, 0 ≤ c ∧ c ≤ 255 := fun c hc => bytesOf_range hc
  have h1 : Ev (fun k => spec_Escaped.f k s) (strOfNums (escB (bytesOf s))) := Ev.to (by simp) (escaped_l s (by omega) _ 0 [] (At.zero _) (by simp; omega))
  have hx : bytesOf (strOfNums (escB (bytesOf s))) = escB (bytesOf s) := bytesOf_strOfNums (escB_bytes hb)
  have hz := escB_length (bytesOf s)
  have hz2 : (strOfNums (escB (bytesOf s))).size = (escB (bytesOf s)).length := by rw [← bytesOf_length, hx]
  have h3 : Ev (fun k => impl_ByteaRead.f k (strOfNums (escB (bytesOf s)))) (strOfNums (bytesOf s), true) := by
    unfold impl_ByteaRead.f pq_ParseBytea.f
    refine Ev.if_pos (by omega) ?_
    rw [hx]
    exact Ev.bind (Ev.bind (parseEsc _ hb (by omega)) <| Ev.now _) <| Ev.now _
  refine Ev.to ?_ (Ev.bind h1 <| Ev.bind h3 <| Ev.if_pos rfl <| Ev.now _)
  rw [strOfNums_bytesOf]; simp

end Go.Proofs.YthcikkjjegfblacDoor.Pure
