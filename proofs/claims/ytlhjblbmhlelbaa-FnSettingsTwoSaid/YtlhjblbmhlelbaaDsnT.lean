/- FnSettingsTwo: its walk, for every two texts. Conditions: named by each theorem. -/
import Derived.Test.YtlhjblbmhlelbaaDsnS
import Derived.Test.YtlhjblbmhlelbaaPx5
namespace Go.Proofs.Ytlhjblbmhlelbaa.P
open Go.RowKit Go.Proofs.YtlhjblbmhlelbaaW.PrintWords Go.Proofs.YtlhjblbmhlelbaaW.PrintLast Go.Proofs.YtlhjblbmhlelbaaW.PrintMore Go.Proofs.Ytlhjblbmhlelbaa.Lib
set_option linter.unusedVariables false
set_option linter.unusedSimpArgs false
theorem row_appendAll {ops : Array Oper} {rest : List Oper} {o : Oper} {a : Act} {Q : Exit → Act → World → Prop} {W : World} (base : Nat) (hw : Region.wanted o (yielded ops a.tmps) = true) (s x : Operand)
    (ho : o.op = .call { callee := .builtin .append, args := #[s, x], argTypes := #[23, 23] })
    (v : Value) (xs ys : List Se) (A : Option Addr) (c : Nat) (hs : a.eval s = v) (hx : a.eval x = .slice A ys.length c) (HO : RowS base v xs W) (HR : Kd.C k34 W A ys.length ys) (hbase : base ≤ W.heap.size) (hl : xs.length + ys.length ≤ 1000000)
    (h : ∀ v1 w1, RowS base v1 (xs ++ ys) w1 → W.grownBy w1 v.ownBlock → wpList Try.prog ops Q rest (a.put o.dst v1) w1) : wpList Try.prog ops Q (o :: rest) a W :=
  wpList_step fun K hK => Kd.R_append_rows_step k34 (w0 := W) base hw s x 23 34 (.agg #[.string ⟨#[]⟩, .string ⟨#[]⟩]) 32 ho Try.underlying23 info_se rfl (by decide) (by omega) v xs ys A ys.length c (fun _ => True) (fun _ => False) hs hx HO HR
    (fun x cs hk => by rw [k34_open hk]; exact k34_mkM _ _ _ x) (fun _ hk => hk.elim) (fun _ _ => trivial) (Below.refl _ _) hbase (by omega) (fun v1 w1 h1 _ h3 _ => hK _ _ (h v1 w1 h1 h3))
theorem rowS_empty {base g : Nat} {W : World} (h : W.heap[g]? = some (.cells #[] 34 (0, 0))) (hb : base ≤ g) : RowS base (.slice (some ⟨g, 0, none⟩) 0 0) [] W :=
  RowS.of ⟨by simp, .inr ⟨g, 0, #[], rfl, hb, h, Nat.le_refl _, by decide, rfl, by simp [Go.Sort.flatK]⟩⟩
section
variable {w w1 w2 w3 w4 : World} {v1 v2 v3 v4 : Value} {xs1 xs2 xs L : List Se}
/-- What holds if a call was fine. -/
structure IfOk (o : Bool) (P : Prop) : Prop where
  out : o = true → P
/-- The rows of the two lists that the spec tells. -/
theorem two_rows {o1 o2 : Bool} {B1 B2 : Nat} (h1 : Aside0 (IfOk o1 (RowS B1 v1 xs1 w1))) (hw1 : Aside0 (Below w.heap.size w w1)) (hb : Below w1.heap.size w1 w2) (h2 : IfOk o2 (RowS B2 v2 xs2 w2)) (e : B1 = w.heap.size) (e2 : B2 = w1.heap.size) :
    IfOk o1 (IfOk o2 (RowS w.heap.size v1 xs1 w2 ∧ RowS w.heap.size v2 xs2 w2)) := ⟨fun e1 => ⟨fun e3 => by
  subst e; subst e2
  exact ⟨Kd.R_below (h1.out.out e1) hb, lower_row (h2.out e3) hw1.out.size⟩⟩⟩
def Rows3 (w W : World) (v1 v2 v3 : Value) (xs1 xs2 xs : List Se) : Prop := RowS w.heap.size v1 xs1 W ∧ RowS w.heap.size v2 xs2 W ∧ RowS w.heap.size v3 xs W
theorem three_rows (h : Aside0 (IfOk true (IfOk true (RowS w.heap.size v1 xs1 w2 ∧ RowS w.heap.size v2 xs2 w2)))) (hw2 : Aside0 (Below w.heap.size w w2)) {n : Nat} (hb : Below (w2.drewN n).heap.size (w2.drewN n) w3) (h3 : RowS (w2.drewN n).heap.size v3 xs w3) : Rows3 w w3 v1 v2 v3 xs1 xs2 xs := by
  have hb2 : Below w2.heap.size w2 w3 := ⟨hb.os, hb.tape, hb.output, hb.size, hb.block⟩
  have h3' : RowS w2.heap.size v3 xs w3 := h3
  obtain ⟨a, b⟩ := (h.out.out rfl).out rfl
  exact ⟨Kd.R_below a hb2, Kd.R_below b hb2, lower_row h3' hw2.out.size⟩
/-- Behind the first append: its row lies from B on. -/
def Rows4 (w W : World) (v4 v2 v3 : Value) (xs1 xs2 xs : List Se) : Prop := ∃ B, RowS B v4 xs1 W ∧ RowS w.heap.size v2 xs2 W ∧ RowS w.heap.size v3 xs W ∧ w.heap.size ≤ B ∧ B ≤ W.heap.size ∧ ∀ k, v3.ownBlock = some k → k < B
theorem app_first {ops : Array Oper} {rest : List Oper} {o : Oper} {a : Act} {Q : Exit → Act → World → Prop} {W : World} (hw : Region.wanted o (yielded ops a.tmps) = true) (s x : Operand)
    (ho : o.op = .call { callee := .builtin .append, args := #[s, x], argTypes := #[23, 23] })
    (hs : a.eval s = .slice (some ⟨W.heap.size, 0, none⟩) 0 0) (hx : a.eval x = v1) (HB : Aside0 (Below w.heap.size w W)) (H : Aside0 (Rows3 w W v1 v2 v3 xs1 xs2 xs)) (HL : Aside0 (xs1.length + xs2.length ≤ 1000000))
    (h : ∀ v4 w4, Aside0 (Rows4 w w4 v4 v2 v3 xs1 xs2 xs) → Aside0 (Below w.heap.size w w4) → wpList Try.prog ops Q rest (a.put o.dst v4) w4) : wpList Try.prog ops Q (o :: rest) a (W.alloc (.cells #[] 34)) := by
  obtain ⟨h1, h2, h3⟩ := H.out
  have hl := HL.out
  obtain ⟨A, c, rfl, hc, hC⟩ := Kd.R_reads h1
  have hb0 := below_alloc (Below.refl W.heap.size W) (.cells #[] 34)
  have hwb := HB.out.size
  refine row_appendAll W.heap.size hw s x ho _ [] xs1 A c hs hx (rowS_empty (blk_new W _) (Nat.le_refl _)) (Kd.C_below hC hb0) hb0.size (by simp; omega) fun v4 w4 hr hg => ?_
  have g2 : ∀ {v : Value} {ys : List Se}, RowS w.heap.size v ys W → RowS w.heap.size v ys w4 := fun {v ys} hv =>
    RowS.grown (Kd.R_below hv hb0) hg (fun k hk e => by
      have h5 := (hv.lt k e).2
      simp only [Value.ownBlock, Option.some.injEq] at hk
      omega)
  refine h v4 w4 ⟨W.heap.size, hr, g2 h2, g2 h3, hwb, Nat.le_trans hb0.size hg.size, fun k hk => (h3.lt k hk).2⟩ ⟨(below_step HB.out hb0).grown hg (Nat.le_trans hwb hb0.size) (fun k hk => by
    simp only [Value.ownBlock, Option.some.injEq] at hk
    omega)⟩
/-- Behind both. -/
def Rows5 (w W : World) (A5 : Option Addr) (c5 : Nat) (v3 : Value) (L xs1 xs2 xs : List Se) : Prop := L = xs1 ++ xs2 ∧ L.length ≤ 1000000 ∧ RowS w.heap.size (.slice A5 L.length c5) L W ∧ RowS w.heap.size v3 xs W
theorem app_second {ops : Array Oper} {rest : List Oper} {o : Oper} {a : Act} {Q : Exit → Act → World → Prop} {W : World} (hw : Region.wanted o (yielded ops a.tmps) = true) (s x : Operand)
    (ho : o.op = .call { callee := .builtin .append, args := #[s, x], argTypes := #[23, 23] })
    (hs : a.eval s = v4) (hx : a.eval x = v2) (HB : Aside0 (Below w.heap.size w W)) (H : Aside0 (Rows4 w W v4 v2 v3 xs1 xs2 xs)) (HL : Aside0 (xs1.length + xs2.length ≤ 1000000))
    (h : ∀ L A5 c5 w5, Aside0 (Rows5 w w5 A5 c5 v3 L xs1 xs2 xs) → Aside0 (Below w.heap.size w w5) → wpList Try.prog ops Q rest (a.put o.dst (.slice A5 L.length c5)) w5) : wpList Try.prog ops Q (o :: rest) a W := by
  obtain ⟨B, h1, h2, h3, hB1, hB2, h4⟩ := H.out
  have hl := HL.out
  obtain ⟨A, c, rfl, hc, hC⟩ := Kd.R_reads h2
  refine row_appendAll B hw s x ho _ xs1 xs2 A c hs hx h1 hC hB2 hl fun v5 w5 hr hg => ?_
  obtain ⟨A5, c5, rfl, hc5, hC5⟩ := Kd.R_reads hr
  have hb1 : ∀ k, v4.ownBlock = some k → B ≤ k := fun k hk => (h1.lt k hk).1
  exact h (xs1 ++ xs2) A5 c5 w5 ⟨rfl, by simp; omega, lower_row hr hB1, h3.grown hg (fun k hk e => by have := hb1 k hk; have := h4 k e; omega)⟩ ⟨HB.out.grown hg (Nat.le_trans hB1 hB2) (fun k hk => by have := hb1 k hk; omega)⟩
/-- What Last hands back, and the list that impl told. -/
def Rows6 (w W : World) (A6 A3 : Option Addr) (c6 c3 : Nat) (xs : List Se) : Prop := xs.length ≤ 1000000 ∧ Kd.C k34 W A6 xs.length xs ∧ xs.length ≤ c6 ∧ Kd.C k34 W A3 xs.length xs ∧ xs.length ≤ c3 ∧ Below w.heap.size w W
theorem last_any {w5 : World} {A5 A3 : Option Addr} {c5 c3 : Nat} (H : Aside0 (Rows5 w w5 A5 c5 (.slice A3 xs.length c3) L xs1 xs2 xs)) (HB : Aside0 (Below w.heap.size w w5)) (HE : Aside0 (putSe [] (xs1 ++ xs2) = xs)) (HX : Aside0 (xs.length ≤ 1000000)) :
    Calls Try.prog 12 #[.slice A5 L.length c5] w5 fun e w6 => ∃ A6 c6, e = .returned (.slice A6 xs.length c6) ∧ Aside0 (Rows6 w w6 A6 A3 c6 c3 xs) := by
  obtain ⟨hL, hz, h5, h3⟩ := H.out
  obtain ⟨_, _, e1, hc, hC⟩ := Kd.R_reads h5
  injection e1 with e2 e3 e4
  subst e2; subst e4
  have hf := last_f L hz
  rw [hL, HE.out, ← hL] at hf
  refine (spec_Last.calls _ A5 c5 L xs w5 hC hc hf).mono ?_
  rintro e w6 ⟨v, rfl, hr, hb⟩
  obtain ⟨A6, c6, rfl, hc6, hC6⟩ := Kd.R_reads hr
  obtain ⟨_, _, e1, hc3, hC3⟩ := Kd.R_reads (Kd.R_below h3 hb)
  injection e1 with e2 e3 e4
  subst e2; subst e4
  exact ⟨A6, c6, rfl, ⟨HX.out, hC6, hc6, hC3, hc3, below_step HB.out hb⟩⟩
theorem same_any {w6 : World} {A6 A3 : Option Addr} {c6 c3 : Nat} (H : Aside0 (Rows6 w w6 A6 A3 c6 c3 xs)) :
    Calls Try.prog 10 #[.slice A3 xs.length c3, .slice A6 xs.length c6] w6 fun e w' => e = .returned (.bool true) ∧ Drawn0 w6 w' := by
  obtain ⟨hx, h1, h2, h3, h4, _⟩ := H.out
  exact spec_SameSettings.calls _ A3 c3 xs A6 c6 xs true w6 h3 h4 h1 h2 (same_self_f xs hx)
end
theorem spec_two (a : ByteArray) (hz : a.size ≤ 1000) : ∃ (sure ok : Bool) (xs : List Se), (∀ W : World, Calls Try.prog 8 #[.string a] W fun e w' => Below W.heap.size W w' ∧ ∃ v, e = .returned (.tuple #[v, .bool ok, .bool sure]) ∧ IfOk ok (RowS W.heap.size v xs w')) ∧
    (ok = true → ∃ A, parseL (a.size + 1) (bytesOf a) = some A ∧ xs = putAll [] A ∧ A.length ≤ 1001) := by
  obtain ⟨ku, url, hu⟩ := url_tot a
  have h := specSettings_any a (by omega) ku url hu
  cases hp : parseL (a.size + 1) (bytesOf a) with
  | none =>
    rw [hp] at h
    exact ⟨!url, false, [], fun W => (h W).mono fun e w' ⟨hb, _, h2⟩ => ⟨hb, _, h2 rfl, ⟨fun e => by cases e⟩⟩, fun e => by cases e⟩
  | some A =>
    rw [hp] at h
    exact ⟨!url, true, putAll [] A, fun W => (h W).mono fun e w' ⟨hb, h1, _⟩ => ⟨hb, by obtain ⟨v, e1, e2⟩ := h1 _ rfl; exact ⟨v, e1, ⟨fun _ => e2⟩⟩⟩, fun _ => ⟨A, rfl, rfl, by have := parse_len _ _ _ hp; omega⟩⟩
set_option maxHeartbeats 8000000 in
set_option maxRecDepth 100000 in
theorem FnSettingsTwo_walk (a0 a1 : ByteArray) (w : World) (w0 : a0.size ≤ 140737488351232) (w1 : a1.size ≤ 140737488351232) :
    Calls Try.prog 4 #[.string a0, .string a1] w fun e w' => e = .returned (.bool true) ∧ Below w.heap.size w w' := by
  obtain ⟨k1, b1, h1, hs1⟩ := text9_tot a0 w0
  obtain ⟨k2, b2, h2, hs2⟩ := text9_tot a1 w1
  obtain ⟨k3, b3, h3, hs3⟩ := ascii9_tot a0 w0
  obtain ⟨k4, b4, h4, hs4⟩ := ascii9_tot a1 w1
  have HTA := Aside0.mk (fun W => laws_text9.calls k1 a0 b1 W h1)
  have HTB := Aside0.mk (fun W => laws_text9.calls k2 a1 b2 W h2)
  have HAA := Aside0.mk (fun W => laws_ascii9.calls k3 a0 b3 W h3)
  have HAB := Aside0.mk (fun W => laws_ascii9.calls k4 a1 b4 W h4)
  have HS := Aside0.mk (And.intro (And.intro hs1 hs2) (And.intro hs3 hs4))
  clear h1 h2 h3 h4 hs1 hs2 hs3 hs4
  by_cases hbig : (a0.size : Int) > 2147483647
  · have c2b0 : decide (2147483647 < (a0.size : Int)) = true := decide_eq_true hbig
    have c2b1 : decide (2147483647 < a0.size) = true := decide_eq_true (by omega)
    clear hbig
    go_enter Try.func4, Try.ntmps4
    go_wp2
    go_ret
    exact ⟨rfl, Below.refl _ _⟩
  have c2b0 : decide (2147483647 < (a0.size : Int)) = false := decide_eq_false hbig
  have c2b1 : decide (2147483647 < a0.size) = false := decide_eq_false (by omega)
  clear hbig
  by_cases hbig : (a1.size : Int) > 2147483647
  · have c3b0 : decide (2147483647 < (a1.size : Int)) = true := decide_eq_true hbig
    have c3b1 : decide (2147483647 < a1.size) = true := decide_eq_true (by omega)
    clear hbig
    go_enter Try.func4, Try.ntmps4
    go_wp2
    go_ret
    exact ⟨rfl, Below.refl _ _⟩
  have c3b0 : decide (2147483647 < (a1.size : Int)) = false := decide_eq_false hbig
  have c3b1 : decide (2147483647 < a1.size) = false := decide_eq_false (by omega)
  clear hbig
  cases b1 with
  | false =>
    go_enter Try.func4, Try.ntmps4
    go_wp2_with (first | (go_at_call 6; (with_reducible refine (HTA.out _).mono ?_); rintro e w' ⟨rfl, ⟨n1, rfl⟩⟩))
    go_ret
    exact ⟨rfl, by repeat (first | exact Below.refl _ _ | apply pw_below_drewN)⟩
  | true =>
  cases b2 with
  | false =>
    go_enter Try.func4, Try.ntmps4
    go_wp2_with (first | (go_at_call 6; (with_reducible refine (HTA.out _).mono ?_); rintro e w' ⟨rfl, ⟨n1, rfl⟩⟩) | (go_at_call 6; (with_reducible refine (HTB.out _).mono ?_); rintro e w' ⟨rfl, ⟨n2, rfl⟩⟩))
    go_ret
    exact ⟨rfl, by repeat (first | exact Below.refl _ _ | apply pw_below_drewN)⟩
  | true =>
  cases b3 with
  | false =>
    go_enter Try.func4, Try.ntmps4
    go_wp2_with (first | (go_at_call 6; (with_reducible refine (HTA.out _).mono ?_); rintro e w' ⟨rfl, ⟨n1, rfl⟩⟩) | (go_at_call 6; (with_reducible refine (HTB.out _).mono ?_); rintro e w' ⟨rfl, ⟨n2, rfl⟩⟩) | (go_at_call 7; (with_reducible refine (HAA.out _).mono ?_); rintro e w' ⟨rfl, ⟨n3, rfl⟩⟩))
    go_ret
    exact ⟨rfl, by repeat (first | exact Below.refl _ _ | apply pw_below_drewN)⟩
  | true =>
  cases b4 with
  | false =>
    go_enter Try.func4, Try.ntmps4
    go_wp2_with (first | (go_at_call 6; (with_reducible refine (HTA.out _).mono ?_); rintro e w' ⟨rfl, ⟨n1, rfl⟩⟩) | (go_at_call 6; (with_reducible refine (HTB.out _).mono ?_); rintro e w' ⟨rfl, ⟨n2, rfl⟩⟩) | (go_at_call 7; (with_reducible refine (HAA.out _).mono ?_); rintro e w' ⟨rfl, ⟨n3, rfl⟩⟩) | (go_at_call 7; (with_reducible refine (HAB.out _).mono ?_); rintro e w' ⟨rfl, ⟨n4, rfl⟩⟩))
    go_ret
    exact ⟨rfl, by repeat (first | exact Below.refl _ _ | apply pw_below_drewN)⟩
  | true =>
  have hz0 : a0.size ≤ 1000 := HS.out.1.1 rfl
  have hz1 : a1.size ≤ 1000 := HS.out.1.2 rfl
  have ha0 : Asc (bytesOf a0) := HS.out.2.1 rfl
  have ha1 : Asc (bytesOf a1) := HS.out.2.2 rfl
  obtain ⟨sa, oa, xs1, hsa, hpa⟩ := spec_two a0 hz0
  obtain ⟨sb, ob, xs2, hsb, hpb⟩ := spec_two a1 hz1
  obtain ⟨eo, heo, heo2⟩ := endsOpen_tot a0.size a0 rfl (by omega)
  have HSA := Aside0.mk hsa
  have HSB := Aside0.mk hsb
  have HEO := Aside0.mk (fun W => spec_EndsOpen.calls _ a0 eo W heo)
  have HPP := Aside0.mk (And.intro (And.intro hpa hpb) heo2)
  have HZZ := Aside0.mk (And.intro (And.intro hz0 hz1) (And.intro ha0 ha1))
  clear hsa hsb hpa hpb heo heo2 hz0 hz1 ha0 ha1 HS
  cases sa with
  | false =>
    go_enter Try.func4, Try.ntmps4
    go_wp2_with (first | (go_at_call 6; (with_reducible refine (HTA.out _).mono ?_); rintro e w' ⟨rfl, ⟨n1, rfl⟩⟩) | (go_at_call 6; (with_reducible refine (HTB.out _).mono ?_); rintro e w' ⟨rfl, ⟨n2, rfl⟩⟩) | (go_at_call 7; (with_reducible refine (HAA.out _).mono ?_); rintro e w' ⟨rfl, ⟨n3, rfl⟩⟩) | (go_at_call 7; (with_reducible refine (HAB.out _).mono ?_); rintro e w' ⟨rfl, ⟨n4, rfl⟩⟩) | (go_at_call 8; (with_reducible refine (HSA.out _).mono ?_); rintro e w1 ⟨hb, v1, rfl, hr⟩; have HR1 := Aside0.mk hr; have HBw1 := Aside0.mk (⟨hb.os, hb.tape, hb.output, hb.size, hb.block⟩ : Below w.heap.size w w1); clear hb hr) | (go_at_call 8; (with_reducible refine (HSB.out _).mono ?_); rintro e w2 ⟨hb, v2, rfl, hr⟩; have HR2 := Aside0.mk (two_rows HR1 HBw1 hb hr rfl rfl); have HBw2 := Aside0.mk (below_step HBw1.out hb); clear hb hr))
    go_ret
    exact ⟨rfl, HBw2.out⟩
  | true =>
  cases sb with
  | false =>
    go_enter Try.func4, Try.ntmps4
    go_wp2_with (first | (go_at_call 6; (with_reducible refine (HTA.out _).mono ?_); rintro e w' ⟨rfl, ⟨n1, rfl⟩⟩) | (go_at_call 6; (with_reducible refine (HTB.out _).mono ?_); rintro e w' ⟨rfl, ⟨n2, rfl⟩⟩) | (go_at_call 7; (with_reducible refine (HAA.out _).mono ?_); rintro e w' ⟨rfl, ⟨n3, rfl⟩⟩) | (go_at_call 7; (with_reducible refine (HAB.out _).mono ?_); rintro e w' ⟨rfl, ⟨n4, rfl⟩⟩) | (go_at_call 8; (with_reducible refine (HSA.out _).mono ?_); rintro e w1 ⟨hb, v1, rfl, hr⟩; have HR1 := Aside0.mk hr; have HBw1 := Aside0.mk (⟨hb.os, hb.tape, hb.output, hb.size, hb.block⟩ : Below w.heap.size w w1); clear hb hr) | (go_at_call 8; (with_reducible refine (HSB.out _).mono ?_); rintro e w2 ⟨hb, v2, rfl, hr⟩; have HR2 := Aside0.mk (two_rows HR1 HBw1 hb hr rfl rfl); have HBw2 := Aside0.mk (below_step HBw1.out hb); clear hb hr))
    go_ret
    exact ⟨rfl, HBw2.out⟩
  | true =>
  cases oa with
  | false =>
    go_enter Try.func4, Try.ntmps4
    go_wp2_with (first | (go_at_call 6; (with_reducible refine (HTA.out _).mono ?_); rintro e w' ⟨rfl, ⟨n1, rfl⟩⟩) | (go_at_call 6; (with_reducible refine (HTB.out _).mono ?_); rintro e w' ⟨rfl, ⟨n2, rfl⟩⟩) | (go_at_call 7; (with_reducible refine (HAA.out _).mono ?_); rintro e w' ⟨rfl, ⟨n3, rfl⟩⟩) | (go_at_call 7; (with_reducible refine (HAB.out _).mono ?_); rintro e w' ⟨rfl, ⟨n4, rfl⟩⟩) | (go_at_call 8; (with_reducible refine (HSA.out _).mono ?_); rintro e w1 ⟨hb, v1, rfl, hr⟩; have HR1 := Aside0.mk hr; have HBw1 := Aside0.mk (⟨hb.os, hb.tape, hb.output, hb.size, hb.block⟩ : Below w.heap.size w w1); clear hb hr) | (go_at_call 8; (with_reducible refine (HSB.out _).mono ?_); rintro e w2 ⟨hb, v2, rfl, hr⟩; have HR2 := Aside0.mk (two_rows HR1 HBw1 hb hr rfl rfl); have HBw2 := Aside0.mk (below_step HBw1.out hb); clear hb hr))
    go_ret
    exact ⟨rfl, HBw2.out⟩
  | true =>
  cases ob with
  | false =>
    go_enter Try.func4, Try.ntmps4
    go_wp2_with (first | (go_at_call 6; (with_reducible refine (HTA.out _).mono ?_); rintro e w' ⟨rfl, ⟨n1, rfl⟩⟩) | (go_at_call 6; (with_reducible refine (HTB.out _).mono ?_); rintro e w' ⟨rfl, ⟨n2, rfl⟩⟩) | (go_at_call 7; (with_reducible refine (HAA.out _).mono ?_); rintro e w' ⟨rfl, ⟨n3, rfl⟩⟩) | (go_at_call 7; (with_reducible refine (HAB.out _).mono ?_); rintro e w' ⟨rfl, ⟨n4, rfl⟩⟩) | (go_at_call 8; (with_reducible refine (HSA.out _).mono ?_); rintro e w1 ⟨hb, v1, rfl, hr⟩; have HR1 := Aside0.mk hr; have HBw1 := Aside0.mk (⟨hb.os, hb.tape, hb.output, hb.size, hb.block⟩ : Below w.heap.size w w1); clear hb hr) | (go_at_call 8; (with_reducible refine (HSB.out _).mono ?_); rintro e w2 ⟨hb, v2, rfl, hr⟩; have HR2 := Aside0.mk (two_rows HR1 HBw1 hb hr rfl rfl); have HBw2 := Aside0.mk (below_step HBw1.out hb); clear hb hr))
    go_ret
    exact ⟨rfl, HBw2.out⟩
  | true =>
  cases eo with
  | true =>
    go_enter Try.func4, Try.ntmps4
    go_wp2_with (first | (go_at_call 6; (with_reducible refine (HTA.out _).mono ?_); rintro e w' ⟨rfl, ⟨n1, rfl⟩⟩) | (go_at_call 6; (with_reducible refine (HTB.out _).mono ?_); rintro e w' ⟨rfl, ⟨n2, rfl⟩⟩) | (go_at_call 7; (with_reducible refine (HAA.out _).mono ?_); rintro e w' ⟨rfl, ⟨n3, rfl⟩⟩) | (go_at_call 7; (with_reducible refine (HAB.out _).mono ?_); rintro e w' ⟨rfl, ⟨n4, rfl⟩⟩) | (go_at_call 8; (with_reducible refine (HSA.out _).mono ?_); rintro e w1 ⟨hb, v1, rfl, hr⟩; have HR1 := Aside0.mk hr; have HBw1 := Aside0.mk (⟨hb.os, hb.tape, hb.output, hb.size, hb.block⟩ : Below w.heap.size w w1); clear hb hr) | (go_at_call 8; (with_reducible refine (HSB.out _).mono ?_); rintro e w2 ⟨hb, v2, rfl, hr⟩; have HR2 := Aside0.mk (two_rows HR1 HBw1 hb hr rfl rfl); have HBw2 := Aside0.mk (below_step HBw1.out hb); clear hb hr) | (go_at_call 11; (with_reducible refine (HEO.out _).mono ?_); rintro e w' ⟨rfl, ⟨n5, rfl⟩⟩))
    go_ret
    exact ⟨rfl, pw_below_drewN HBw2.out _⟩
  | false =>
  obtain ⟨A, hA, hxA, hlA⟩ := HPP.out.1.1 rfl
  obtain ⟨B, hB, hxB, hlB⟩ := HPP.out.1.2 rfl
  have hlen1 : xs1.length ≤ 1001 := by have := putAll_len A []; rw [← hxA, List.length_nil] at this; omega
  have hlen2 : xs2.length ≤ 1001 := by have := putAll_len B []; rw [← hxB, List.length_nil] at this; omega
  have HLZ : Aside0 (xs1.length + xs2.length ≤ 1000000) := ⟨by omega⟩
  have hp := two_parse hA hB (HPP.out.2 rfl)
  have hs32 : (⟨#[32]⟩ : ByteArray).size = 1 := rfl
  have hzz : (a0 ++ ⟨#[32]⟩ ++ a1).size ≤ 4000 := by rw [size_append, size_append]; have := HZZ.out.1; omega
  have haa : Asc (bytesOf (a0 ++ ⟨#[32]⟩ ++ a1)) := by
    rw [bytesOf_append, bytesOf_append]
    intro c hc
    rcases List.mem_append.1 hc with hc | hc
    · rcases List.mem_append.1 hc with hc | hc
      · exact HZZ.out.2.1 c hc
      · have : c = 32 := by simpa [bytesOf] using hc
        subst this; decide
    · exact HZZ.out.2.2 c hc
  obtain ⟨xs, hxs⟩ : ∃ xs, xs = putAll [] (A ++ B) := ⟨_, rfl⟩
  have him := implSettings_any (a0 ++ ⟨#[32]⟩ ++ a1) hzz haa
  rw [hp, Option.map_some, ← hxs] at him
  have HIM := Aside0.mk him
  have HE : Aside0 (putSe [] (xs1 ++ xs2) = xs) := ⟨by rw [hxA, hxB, two_lists, hxs]⟩
  have HX : Aside0 (xs.length ≤ 1000000) := ⟨by rw [hxs]; have h1 := putAll_len (A ++ B) []; rw [List.length_append, List.length_nil] at h1; omega⟩
  have q1 : a0.size + (⟨#[32]⟩ : ByteArray).size ≤ 9223372036854775807 := by have := HZZ.out.1; omega
  have q2 : (a0 ++ ⟨#[32]⟩).size + a1.size ≤ 9223372036854775807 := by rw [size_append]; have := HZZ.out.1; omega
  have q1b0 := eq_true q1
  have q1b1 : decide (a0.size + (⟨#[32]⟩ : ByteArray).size ≤ 9223372036854775807) = true := decide_eq_true q1
  have q1b2 : (9223372036854775807 < a0.size + (⟨#[32]⟩ : ByteArray).size) = False := eq_false (Nat.not_lt.2 q1)
  have q2b0 := eq_true q2
  have q2b1 : decide ((a0 ++ ⟨#[32]⟩).size + a1.size ≤ 9223372036854775807) = true := decide_eq_true q2
  have q2b2 : (9223372036854775807 < (a0 ++ ⟨#[32]⟩).size + a1.size) = False := eq_false (Nat.not_lt.2 q2)
  clear him hp hA hB hxA hxB hxs hlA hlB hlen1 hlen2 hs32 hzz haa HPP HZZ q1 q2
  go_enter Try.func4, Try.ntmps4
  go_wp2_with (first | (go_at_call 6; (with_reducible refine (HTA.out _).mono ?_); rintro e w' ⟨rfl, ⟨n1, rfl⟩⟩) | (go_at_call 6; (with_reducible refine (HTB.out _).mono ?_); rintro e w' ⟨rfl, ⟨n2, rfl⟩⟩) | (go_at_call 7; (with_reducible refine (HAA.out _).mono ?_); rintro e w' ⟨rfl, ⟨n3, rfl⟩⟩) | (go_at_call 7; (with_reducible refine (HAB.out _).mono ?_); rintro e w' ⟨rfl, ⟨n4, rfl⟩⟩) | (go_at_call 8; (with_reducible refine (HSA.out _).mono ?_); rintro e w1 ⟨hb, v1, rfl, hr⟩; have HR1 := Aside0.mk hr; have HBw1 := Aside0.mk (⟨hb.os, hb.tape, hb.output, hb.size, hb.block⟩ : Below w.heap.size w w1); clear hb hr) | (go_at_call 8; (with_reducible refine (HSB.out _).mono ?_); rintro e w2 ⟨hb, v2, rfl, hr⟩; have HR2 := Aside0.mk (two_rows HR1 HBw1 hb hr rfl rfl); have HBw2 := Aside0.mk (below_step HBw1.out hb); clear hb hr) | (go_at_call 11; (with_reducible refine (HEO.out _).mono ?_); rintro e w' ⟨rfl, ⟨n5, rfl⟩⟩) | (go_at_call 9; (with_reducible refine (HIM.out _).mono ?_); rintro e w3 ⟨hb, h1, _⟩; obtain ⟨v3, rfl, hr⟩ := h1 _ rfl; obtain ⟨A3, c3, rfl⟩ := Kd.R_slice hr; have HR3 := Aside0.mk (three_rows HR2 HBw2 hb hr); have HBw3 := Aside0.mk (below_step HBw2.out ⟨hb.os, hb.tape, hb.output, hb.size, hb.block⟩); clear hb hr h1) | ((with_reducible refine gate_dst (N := 82) rfl ?_); refine app_first rfl (.tmp 80) (.tmp 81) rfl rfl rfl HBw3 HR3 HLZ ?_; intro v4 w4 HR4 HBw4) | ((with_reducible refine gate_dst (N := 84) rfl ?_); refine app_second rfl (.tmp 82) (.tmp 83) rfl rfl rfl HBw4 HR4 HLZ ?_; intro L A5 c5 w5 HR5 HBw5) | (go_at_call 12; (with_reducible refine (last_any HR5 HBw5 HE HX).mono ?_); rintro e w6 ⟨A6, c6, rfl, HR6⟩) | (go_at_call 10; (with_reducible refine (same_any HR6).mono ?_); rintro e w' ⟨rfl, ⟨n6, rfl⟩⟩))
  go_ret
  exact ⟨rfl, pw_below_drewN HR6.out.2.2.2.2.2 _⟩
end Go.Proofs.Ytlhjblbmhlelbaa.P
