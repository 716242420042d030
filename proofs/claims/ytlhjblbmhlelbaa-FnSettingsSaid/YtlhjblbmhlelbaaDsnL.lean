/- impl.Settings: its walk. Conditions: named by each theorem. -/
import Derived.Test.YtlhjblbmhlelbaaDsnF
import Derived.Test.YtlhjblbmhlelbaaDsnK
namespace Go.Proofs.Ytlhjblbmhlelbaa.P
open Go.RowKit Go.Proofs.YtlhjblbmhlelbaaW.PrintWords Go.Proofs.YtlhjblbmhlelbaaW.PrintLast Go.Proofs.YtlhjblbmhlelbaaW.PrintMore
set_option linter.unusedVariables false
set_option linter.unusedSimpArgs false
theorem FromDSN_any (a : ByteArray) (w : World) (hz : a.size ≤ 4000) (ha : Asc (bytesOf a)) :
    Calls Try.prog 21 #[.string a] w fun e w' => Below w.heap.size w w' ∧ FromRes w (parseL (a.size + 1) (bytesOf a)) e w' := by
  have HM := Aside0.mk (fromDSN_any a hz ha w)
  clear hz ha
  cases hr : parseL (a.size + 1) (bytesOf a) with
  | none =>
    rw [hr] at HM
    clear hr
    go_enter Try.func21, Try.ntmps21
    go_wp2_with (first | (go_at_call 26; (with_reducible refine HM.out.mono ?_); rintro e w1 ⟨hb, _, h2⟩; obtain ⟨t, x, rfl⟩ := h2 rfl; have HB := Aside0.mk hb; clear hb h2))
    go_ret2
    exact ⟨HB.out, ⟨fun A h => by (cases h), fun _ => ⟨_, _, rfl⟩⟩⟩
  | some A =>
    rw [hr] at HM
    clear hr
    go_enter Try.func21, Try.ntmps21
    go_wp2_with (first | (go_at_call 26; (with_reducible refine HM.out.mono ?_); rintro e w1 ⟨hb, h1, _⟩; obtain ⟨bm, n, rfl, hlo, hn, hown⟩ := h1 A rfl; have HB := Aside0.mk hb; have HR := Aside0.mk (And.intro hlo (And.intro hn hown)); clear hb h1 hlo hn hown))
    go_ret2
    exact ⟨HB.out, ⟨fun A' h => by (cases h; exact ⟨_, _, rfl, HR.out.1, HR.out.2.1, HR.out.2.2⟩), fun h => by (cases h)⟩⟩
/-- What impl.Settings hands back. -/
def SetRes (w : World) (r : Option (List (List Int × List Int))) (e : Ending) (w' : World) : Prop :=
  (∀ A, r = some A → ∃ v ys, e = .returned (.tuple #[v, .bool true]) ∧ RowS w.heap.size v ys w' ∧ Up ys ∧ Done (putL A) (fun _ => false) ys) ∧
  (r = none → e = .returned (.tuple #[.slice none 0 0, .bool false]))
theorem Settings_any (a : ByteArray) (w : World) (hz : a.size ≤ 4000) (ha : Asc (bytesOf a)) :
    Calls Try.prog 9 #[.string a] w fun e w' => Below w.heap.size w w' ∧ SetRes w (parseL (a.size + 1) (bytesOf a)) e w' := by
  have HM := Aside0.mk (FromDSN_any a w hz ha)
  clear hz ha
  cases hr : parseL (a.size + 1) (bytesOf a) with
  | none =>
    rw [hr] at HM
    clear hr
    go_enter Try.func9, Try.ntmps9
    go_wp2_with (first | (go_at_call 21; (with_reducible refine HM.out.mono ?_); rintro e w1 ⟨hb, _, h2⟩; obtain ⟨t, x, rfl⟩ := h2 rfl; have HB := Aside0.mk hb; clear hb h2))
    go_ret2
    exact ⟨HB.out, ⟨fun A h => by (cases h), fun _ => rfl⟩⟩
  | some A =>
    rw [hr] at HM
    clear hr
    go_enter Try.func9, Try.ntmps9
    go_wp2_with (first | (go_at_call 21; (with_reducible refine HM.out.mono ?_); rintro e w1 ⟨hb, h1, _⟩; obtain ⟨bm, n, rfl, hlo, hn, hown⟩ := h1 A rfl; have HB := Aside0.mk hb; have HL := Aside0.mk (listed_any bm n _ w1 hown hn); clear hb h1 hlo hn hown) | (go_at_call 22; (with_reducible refine HL.out.mono ?_); rintro e w2 ⟨v, ys, rfl, hrow, hb2, hu, hlen, hdone⟩; have HR := Aside0.mk hrow; have HB2 := Aside0.mk hb2; have HU := Aside0.mk hu; have HD := Aside0.mk hdone; clear hrow hb2 hu hlen hdone))
    go_ret2
    exact ⟨below_step HB.out HB2.out, ⟨fun A' h => by (cases h; exact ⟨_, _, rfl, lower_row HR.out HB.out.size, HU.out, HD.out⟩), fun h => by (cases h)⟩⟩
end Go.Proofs.Ytlhjblbmhlelbaa.P
