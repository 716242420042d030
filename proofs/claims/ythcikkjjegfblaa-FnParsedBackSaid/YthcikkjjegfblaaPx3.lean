-- Written by the program wip/myprint.py of this session, over the kit's print of the translation. Lean checks it.
import Derived.Lib.SliceRun
import Derived.Test.YthcikkjjegfblaaLibArr
import Derived.ScopeJumps
import Derived.WalkMore
import Derived.Test.YthcikkjjegfblaaPx0
import Derived.Test.YthcikkjjegfblaaPx2
namespace Go.Proofs.Ythcikkjjegfblaa.P
open Go.RowKit Go.Proofs.YthcikkjjegfblaaW.PrintWords Go.Proofs.YthcikkjjegfblaaW.PrintLast Go.Proofs.YthcikkjjegfblaaW.PrintMore
attribute [local go_sem] max2_int min2_int max_two min_two max_three min_three max_four min_four   -- for this text's walks alone
set_option linter.unusedVariables false
set_option linter.unusedSimpArgs false

/-! ### pq_ParseArray: function 24 -/
set_option maxHeartbeats 2000000 in
set_option maxRecDepth 100000 in
theorem pq_ParseArray.main (ad : Addr) (c cd : Nat) (Ad : Option Addr) (s : List Int) (d : Int) (n : Nat) (r : List Int) (w : World) (hr : Kd.C (Kd.int .u8) w (some ad) s.length s) (hc : s.length ≤ c) (hrd : Kd.C (Kd.int .u8) w Ad 1 [d]) (hcd : 1 ≤ cd) (hs : s = List.replicate n 123 ++ r) (hn : 0 < n) (hh : ∀ x t, r = x :: t → x ≠ 123 ∧ x ≠ 125) (hd : d ≠ 125) (hd1 : d ≠ 123) (hdb : 0 ≤ d ∧ d < 256) (hby : ∀ x ∈ s, 0 ≤ x ∧ x < 256) (hL : s.length ≤ 1000000000) :
    Calls Try.prog 24 #[.slice (some ad) s.length c, .slice Ad 1 cd] w (arrRes w (Arr.pm d n true r n (List.replicate n 0) [])) := by
  have hm := pq_parseArray.main ad c cd Ad s d n r w hr hc hrd hcd hs hn hh hd hd1 hdb hby hL
  obtain ⟨L, hLd⟩ : ∃ L, L = s.length := ⟨_, rfl⟩
  rw [← hLd] at hm ⊢
  cases hT : Arr.pm d n true r n (List.replicate n 0) [] with
  | none =>
    rw [hT] at hm
    have HM := Aside0.mk hm
    clear hm hT hr hc hrd hcd hs hn hh hd hd1 hdb hby hL hLd
    go_enter Try.func24, Try.ntmps24
    go_wp2_with (go_at_call 31; refine HM.out.mono ?_; rintro e w' ⟨hb, _, h2⟩; obtain ⟨v1, v2, t, x, rfl⟩ := h2 rfl; have HB := Aside0.mk hb; clear hb h2)
    go_ret3
    exact ⟨HB.out, fun D els h => (by cases h), fun _ => ⟨_, _, _, _, rfl⟩⟩
  | some p =>
    obtain ⟨D, els⟩ := p
    rw [hT] at hm
    have HM := Aside0.mk hm
    clear hm hT hr hc hrd hcd hs hn hh hd hd1 hdb hby hL hLd
    go_enter Try.func24, Try.ntmps24
    go_wp2_with (go_at_call 31; refine HM.out.mono ?_; rintro e w' ⟨hb, h1, _⟩; obtain ⟨g, v, h0, h00, rfl, hg, hv⟩ := h1 D els rfl; have H0 := Aside0.mk h0; have H00 := Aside0.mk h00; have HB := Aside0.mk hb; have HG := Aside0.mk hg; have HV := Aside0.mk hv; clear hb h1 hg hv h0 h00)
    go_ret3
    exact ⟨HB.out, fun D' els' h => (by injection h with h; injection h with h1 h2; subst h1; subst h2; exact ⟨g, v, H0.out, H00.out, rfl, HG.out, HV.out⟩), fun h => (by cases h)⟩

/-! ### impl_items: function 25 -/
/-- An item as impl has it. -/
def itS (x : Option (List Int)) : S39 :=
  match x with
  | none => ⟨true, ByteArray.empty, 0, 0, false⟩
  | some l => ⟨false, strOfNums l, 0, 0, false⟩
theorem it_info : ((Try.prog).info? 39).map (fun i => (i.zero, i.size, i.bytes)) = some (some (.agg #[.bool false, .string ⟨#[]⟩, .int .i64 0, .float .f64 0, .bool false]), 5, 48) := by kernel_rfl
theorem el_read {w0 w : World} {x : Option (List Int)} {cs : List Value} (hb : Below w0.heap.size w0 w) (h : (elKd w0).K w x cs) : ∃ A n c, cs = [.slice A n c] ∧ n ≤ c ∧ ((x = none ∧ A = none ∧ n = 0) ∨ ∃ ad l, x = some l ∧ A = some ad ∧ n = l.length ∧ (Kd.int .u8).C w (some ad) l.length l) := by
  obtain ⟨A, n, c, h1, h2, h3⟩ := h
  refine ⟨A, n, c, h1, h2, ?_⟩
  cases x with
  | none => exact .inl ⟨rfl, h3.1, h3.2⟩
  | some l =>
    obtain ⟨h4, h5, h6⟩ := h3
    cases A with
    | none => exact absurd rfl h4
    | some ad => exact .inr ⟨ad, l, rfl, rfl, h5, h6.elim (fun h => Kd.C_below h hb) id⟩
set_option maxHeartbeats 2000000 in
set_option maxRecDepth 100000 in
theorem impl_items.main (A0 : Option Addr) (c0 : Nat) (els : List (Option (List Int))) (w0 w : World) (hb : Below w0.heap.size w0 w) (hr : (elKd w0).C w A0 els.length els) (hc0 : els.length ≤ c0) (hL : els.length ≤ 1000000000) :
    Calls Try.prog 25 #[.slice A0 els.length c0] w fun e w' => ∃ v, e = .returned v ∧ Kd.R k39 39 w' w.heap.size (fun _ => True) v (els.map itS) ∧ Below w.heap.size w w' := by
  obtain ⟨L, hLd⟩ : ∃ L, L = els.length := ⟨_, rfl⟩
  rw [← hLd] at hr hc0 hL ⊢
  have HLD := Aside0.mk hLd
  have HR := Aside0.mk hr
  have HL := Aside0.mk hL
  have HBW := Aside0.mk hb
  clear hLd hr hc0 hL hb
  go_enter Try.func25, Try.ntmps25
  go_wp2_with fail
  go_loopg [3, 5, 8] (L + 1) (fun kq s3 s5 s8 wx => ∃ i : Nat, s8 = .int .i64 (i : Int) ∧ Aside0 (kq + i ≥ L + 1) ∧ Aside0 (i ≤ L) ∧ Aside0 (Kd.R k39 39 wx w.heap.size (fun _ => True) s3 ((els.take i).map itS)) ∧ Aside0 (Below w.heap.size w wx))
  case atStart => exact ⟨0, rfl, ⟨by omega⟩, ⟨Nat.zero_le _⟩, ⟨Kd.R_nil _ _ _ _ _⟩, ⟨Below.refl _ _⟩⟩
  case round =>
    obtain ⟨i, rfl, HK, HI, HO, HB⟩ := hrel
    by_cases ci : i < L
    · have c1 : ((i : Int) < (L : Int)) = True := eq_true (by omega)
      have c1b : decide ((i : Int) < (L : Int)) = true := decide_eq_true (by omega)
      have c1c : (i < L) = True := eq_true ci
      have c2 : decide (0 ≤ (i : Int)) = true := decide_eq_true (by omega)
      have hi1 : wrap64 ((i : Int) + 1) = ((i + 1 : Nat) : Int) := by have := HL.out; unfold wrap64; omega
      obtain ⟨ad, cs, rfl, hcl, hK, hcell⟩ := ReadsRow.get_ (Kd.C_below HR.out HB.out) none (i : Int) (by omega) (by omega)
      rw [Int.toNat_natCast] at hK hcell
      have htk : els.take (i + 1) = els.take i ++ [els.getD i none] := by
        have hl : i < els.length := by rw [← HLD.out]; exact ci
        rw [List.take_add_one, List.getD_eq_getElem?_getD]
        simp [hl]
      obtain ⟨x, hx⟩ : ∃ x, x = els.getD i none := ⟨_, rfl⟩
      rw [← hx] at hK htk
      obtain ⟨A, n, c, rfl, hnc, hcase⟩ := el_read (below_step HBW.out HB.out) hK
      have xc : wr.cell? (ad.add i) = some (.slice A n c) := by
        have := hcell 0 _ rfl
        simpa [elKd] using this
      have hnil := fun (W : World) (a : Option Addr) (m k : Nat) => Lib.run_eql_slice_nil (P := Try.prog) W 61 5 a m k 0 0 Try.underlying61
      have HTK := Aside0.mk htk
      have HCI := Aside0.mk ci
      rcases hcase with ⟨rfl, rfl, rfl⟩ | ⟨ae, l, rfl, rfl, rfl, hC⟩
      · have hcv := fun (c_ : Nat) => Kd.C_string (P := Try.prog) (c := c_) (xs := []) Try.underlying61 Try.underlying5 Try.underlying9 (w := wr) (A := none) (n := 0) ⟨rfl, by omega, fun h => by omega⟩
        clear hcl hK hcell htk hx hnc ci
        --{A
        go_wp2_with (first | ((with_reducible refine gate_builtin (b := .append) (xs := #[.tmp 12, .tmp 18]) rfl ?_); at_builtin; refine Kd.R_append k39 (w0 := w) w.heap.size rfl (.tmp 12) (.tmp 18) 24 39 (.agg #[.bool false, .string ⟨#[]⟩, .int .i64 0, .float .f64 0, .bool false]) 48 rfl Try.underlying24 it_info rfl (by decide) (by omega) u3 ((els.take i).map itS) (⟨true, ByteArray.empty, 0, 0, false⟩ : S39) [.bool true, .string ByteArray.empty, .int .i64 0, .float .f64 0, .bool false] (fun _ => True) (fun _ => False) rfl (by first | (go_simp; done) | (go_simp; rfl)) ?aP (fun _ hk => hk.elim) ?aF ?aO ?aB ?aS ?aL ?_; (case aP => exact k39_mkM _ _ _ (⟨true, ByteArray.empty, 0, 0, false⟩ : S39)); (case aB => exact HB.out); (case aF => exact (fun _ _ => trivial)); (case aO => exact HO.out); (case aS => exact HB.out.size); (case aL => have := HL.out; have := HI.out; simp only [List.length_map, List.length_take]; omega); intro v1 w8 ho hb hg hat))
        go_roundg (L - i)
        case measure => have := HK.out; have := HCI.out; omega
        case rel => exact ⟨i + 1, by first | rfl | go_num, ⟨by have := HCI.out; omega⟩, ⟨HCI.out⟩, ⟨by rw [HTK.out, List.map_append]; exact ho⟩, ⟨hb⟩⟩
        --}A
      · have hcv := fun (c_ : Nat) => Kd.C_string (P := Try.prog) (c := c_) Try.underlying61 Try.underlying5 Try.underlying9 hC
        clear hcl hK hcell htk hx hnc ci hC
        --{B
        go_wp2_with (first | ((with_reducible refine gate_builtin (b := .append) (xs := #[.tmp 12, .tmp 18]) rfl ?_); at_builtin; refine Kd.R_append k39 (w0 := w) w.heap.size rfl (.tmp 12) (.tmp 18) 24 39 (.agg #[.bool false, .string ⟨#[]⟩, .int .i64 0, .float .f64 0, .bool false]) 48 rfl Try.underlying24 it_info rfl (by decide) (by omega) u3 ((els.take i).map itS) (⟨false, strOfNums l, 0, 0, false⟩ : S39) [.bool false, .string (strOfNums l), .int .i64 0, .float .f64 0, .bool false] (fun _ => True) (fun _ => False) rfl (by first | (go_simp; done) | (go_simp; rfl)) ?aP (fun _ hk => hk.elim) ?aF ?aO ?aB ?aS ?aL ?_; (case aP => exact k39_mkM _ _ _ (⟨false, strOfNums l, 0, 0, false⟩ : S39)); (case aB => exact HB.out); (case aF => exact (fun _ _ => trivial)); (case aO => exact HO.out); (case aS => exact HB.out.size); (case aL => have := HL.out; have := HI.out; simp only [List.length_map, List.length_take]; omega); intro v1 w8 ho hb hg hat))
        go_roundg (L - i)
        case measure => have := HK.out; have := HCI.out; omega
        case rel => exact ⟨i + 1, by first | rfl | go_num, ⟨by have := HCI.out; omega⟩, ⟨HCI.out⟩, ⟨by rw [HTK.out, List.map_append]; exact ho⟩, ⟨hb⟩⟩
        --}B
    · have hie : i = L := by have := HI.out; omega
      subst hie
      have hall : els.take i = els := by rw [HLD.out, List.take_length]
      have HA := Aside0.mk hall
      clear hall ci
      go_wp2_with fail
      go_ret
      exact ⟨_, rfl, by have := HO.out; rw [HA.out] at this; exact this, HB.out⟩

/-! ### impl_Parsed: function 9 -/
theorem pm_len (d : Int) (n : Nat) : ∀ (N : Nat) (m : Bool) (r : List Int) (k : Nat) (D : List Int) (els : List (Option (List Int))) (D' : List Int) (els' : List (Option (List Int))), r.length ≤ N → Arr.pm d n m r k D els = some (D', els') → els'.length ≤ els.length + r.length := by
  intro N
  induction N with
  | zero =>
    intro m r k D els D' els' hN h
    cases r with
    | cons c t => simp at hN
    | nil =>
      cases m with
      | true => rw [Arr.pm] at h; cases h
      | false =>
        rw [Arr.pm] at h
        split at h
        · split at h
          · injection h with h; injection h with _ h; subst h; omega
          · cases h
        · cases h
  | succ N ih =>
    intro m r k D els D' els' hN h
    cases r with
    | nil =>
      cases m with
      | true => rw [Arr.pm] at h; cases h
      | false =>
        rw [Arr.pm] at h
        split at h
        · split at h
          · injection h with h; injection h with _ h; subst h; omega
          · cases h
        · cases h
    | cons c t =>
      simp only [List.length_cons] at hN ⊢
      cases m with
      | false =>
        rw [Arr.pm] at h
        split at h
        · have := ih _ _ _ _ _ _ _ (by omega) h; omega
        · split at h
          · have := ih _ _ _ _ _ _ _ (by omega) h; omega
          · cases h
      | true =>
        by_cases h1 : c = 123
        · rw [Arr.pm, if_pos h1] at h
          split at h
          · cases h
          · have := ih _ _ _ _ _ _ _ (by omega) h; omega
        by_cases h2 : c = 34
        · subst h2
          cases hq : Arr.scanQ t false [] with
          | none => rw [Arr.pm_quote_none hq] at h; cases h
          | some p =>
            rw [Arr.pm_quote hq] at h
            have hl := Arr.scanQ_le t false [] p.1 p.2 hq
            have := ih _ _ _ _ _ _ _ (by omega) h
            rw [List.length_append] at this
            simp only [List.length_cons, List.length_nil] at this
            omega
        by_cases h3 : (Arr.scanEl d (c :: t)).2 = [] ∨ (Arr.scanEl d (c :: t)).1 = []
        · rw [Arr.pm_word_none h1 h2 h3] at h; cases h
        · rw [Arr.pm_word h1 h2 (fun e => h3 (.inl e)) (fun e => h3 (.inr e))] at h
          have ha := congrArg List.length (Arr.scanEl_app d (c :: t))
          rw [List.length_append] at ha
          have hp : 0 < (Arr.scanEl d (c :: t)).1.length := List.length_pos_iff.mpr (fun e => h3 (.inr e))
          simp only [List.length_cons] at ha
          have := ih _ _ _ _ _ _ _ (by omega) h
          rw [List.length_append] at this
          simp only [List.length_cons, List.length_nil] at this
          omega
def braces : List Int → Nat
  | [] => 0
  | c :: t => if c = 123 then braces t + 1 else 0
theorem braces_split : ∀ l : List Int, l = List.replicate (braces l) 123 ++ l.drop (braces l) ∧ ∀ x t, l.drop (braces l) = x :: t → x ≠ 123
  | [] => ⟨rfl, fun x t h => by simp [braces] at h⟩
  | c :: t => by
    obtain ⟨h1, h2⟩ := braces_split t
    by_cases h : c = 123
    · have hb : braces (c :: t) = braces t + 1 := by rw [braces, if_pos h]
      rw [hb]
      refine ⟨?_, fun x u he => h2 x u he⟩
      rw [List.replicate_succ, List.cons_append, List.drop_succ_cons, ← h1, h]
    · have hb : braces (c :: t) = 0 := by rw [braces, if_neg h]
      rw [hb]
      refine ⟨rfl, fun x u he => ?_⟩
      injection he with he
      rw [← he]; exact h
def parsedIt (T : Option (List Int × List (Option (List Int)))) : List Int × List (S39) × Bool :=
  match T with
  | none => ([], [], false)
  | some (D, els) => (D, els.map itS, true)
def impl_Parsed.f (a0 : ByteArray) (a1 : ByteArray) : Option (List Int × (List (S39)) × Bool) :=
  if a1 = ⟨#[44]⟩ ∧ a0.size ≤ 1000000 ∧ 0 < braces (bytesOf a0) ∧ ((bytesOf a0).drop (braces (bytesOf a0))).head? ≠ some 125 then
    some (parsedIt (Arr.pm 44 (braces (bytesOf a0)) true ((bytesOf a0).drop (braces (bytesOf a0))) (braces (bytesOf a0)) (List.replicate (braces (bytesOf a0)) 0) []))
  else none
/-- What Parsed tells. -/
def paRes (w0 : World) (T : Option (List Int × List (Option (List Int)))) (e : Ending) (w' : World) : Prop :=
  ∃ v0 v1, e = .returned (.tuple #[v0, v1, .bool (parsedIt T).2.2]) ∧ Kd.R (Kd.int .i64) 3 w' w0.heap.size (fun _ => True) v0 (parsedIt T).1 ∧ Kd.R k39 39 w' w0.heap.size (fun _ => True) v1 (parsedIt T).2.1 ∧ Below w0.heap.size w0 w'
theorem dims_own {w : World} {g base : Nat} {D : List Int} (hg : w.heap[g]? = some (.cells (dcells D) 3 (0, 0))) (hb : base ≤ g) (hl : D.length ≤ 1000000000) : Kd.R (Kd.int .i64) 3 w base (fun _ => True) (.slice (some ⟨g, 0, none⟩) D.length D.length) D := by
  refine Kd.R_of_own (enc := Value.int .i64) (h1 := fun _ => rfl) ⟨by simp [encs], .inr ⟨g, D.length, dcells D, rfl, hb, hg, Nat.le_refl _, by simp only [maxLen]; omega, by simp [dcells], ?_⟩⟩ (fun _ _ => trivial)
  have : (D.map (Value.int IntKind.i64)).length = D.length := List.length_map ..
  simp only [dcells, Nat.mul_one, encs]
  rw [← this, List.take_length]
set_option maxHeartbeats 4000000 in
set_option maxRecDepth 100000 in
theorem impl_Parsed.main (text : ByteArray) (n : Nat) (r : List Int) (w : World) (hs : bytesOf text = List.replicate n 123 ++ r) (hn : 0 < n) (hh : ∀ x t, r = x :: t → x ≠ 123 ∧ x ≠ 125) (hL : text.size ≤ 1000000) :
    Calls Try.prog 9 #[.string text, .string ⟨#[44]⟩] w (paRes w (Arr.pm 44 n true r n (List.replicate n 0) [])) := by
  have kb := fun (a0 : ByteArray) W => print_bytes (P := Try.prog) 9 61 5 Try.underlying9 Try.underlying61 Try.underlying5 a0 W
  have h44 : (⟨#[44]⟩ : ByteArray).size = 1 := rfl
  have hb44 : bytesOf ⟨#[44]⟩ = [44] := by decide
  obtain ⟨dl, hdl⟩ : ∃ dl : ByteArray, dl = ⟨#[44]⟩ := ⟨_, rfl⟩
  rw [← hdl] at h44 hb44 ⊢
  have hne : dl.toList.isEmpty = false := by rw [hdl, ByteArray.toList_eq]; rfl
  obtain ⟨W1, hW1⟩ : ∃ W1, W1 = Lib.bytesWorld w 5 text := ⟨_, rfl⟩
  obtain ⟨W2, hW2⟩ : ∃ W2, W2 = Lib.bytesWorld W1 5 dl := ⟨_, rfl⟩
  have hr1 : (Kd.int .u8).C W1 (some ⟨w.heap.size, 0, none⟩) text.size (bytesOf text) := by
    rw [hW1]; exact Kd.C_of_reads (d := (0 : Int)) (h1 := fun _ => rfl) (bytes_reads w 5 text (by omega))
  have hb12 : Below W1.heap.size W1 W2 := by rw [hW2]; exact bytes_below (Below.refl _ _) (Nat.le_refl _) 5 dl
  have hb01 : Below w.heap.size w W1 := by rw [hW1]; exact bytes_below (Below.refl _ _) (Nat.le_refl _) 5 text
  have hr2 : (Kd.int .u8).C W2 (some ⟨W1.heap.size, 0, none⟩) dl.size (bytesOf dl) := by
    rw [hW2]; exact Kd.C_of_reads (d := (0 : Int)) (h1 := fun _ => rfl) (bytes_reads W1 5 dl (by omega))
  have hm := pq_ParseArray.main ⟨w.heap.size, 0, none⟩ (grownCap w text.size 0 5) (grownCap W1 dl.size 0 5) (some ⟨W1.heap.size, 0, none⟩) (bytesOf text) 44 n r W2 (by rw [bytesOf_length]; exact Kd.C_below hr1 hb12) (by rw [bytesOf_length]; exact grownCap_ge _ _ _ _) (by rw [hb44, h44] at hr2; exact hr2) (by rw [← h44]; exact grownCap_ge _ _ _ _) hs hn hh (by decide) (by decide) (by decide) (fun x hx => (by simp only [bytesOf, List.mem_map] at hx; obtain ⟨b, _, rfl⟩ := hx; have := b.toNat_lt; omega)) (by rw [bytesOf_length]; omega)
  rw [bytesOf_length] at hm
  have hb02 : Below w.heap.size w W2 := below_step hb01 hb12
  have HB02 := Aside0.mk hb02
  have HW1 := Aside0.mk hW1
  have HW2 := Aside0.mk hW2
  have kb1 := kb text w
  have kb2 := kb dl W1
  rw [← hW1] at kb1
  rw [← hW2, h44] at kb2
  have HL := Aside0.mk hL
  rw [h44] at hm
  cases hT : Arr.pm 44 n true r n (List.replicate n 0) [] with
  | none =>
    rw [hT] at hm
    have HM := Aside0.mk hm
    clear hm hT hs hn hh hL kb h44 hb44 hr1 hr2 hb12 hb01 hb02 hW1 hW2 hdl
    --{A
    go_enter Try.func9, Try.ntmps9
    go_wp2_with (go_at_call 24; refine HM.out.mono ?_; rintro e w' ⟨hb, _, h2⟩; obtain ⟨v1, v2, t, x, rfl⟩ := h2 rfl; have HB := Aside0.mk hb; clear hb h2)
    go_ret3
    exact ⟨_, _, rfl, Kd.R_nil _ _ _ _ _, Kd.R_nil _ _ _ _ _, below_step HB02.out HB.out⟩
    --}A
  | some p =>
    obtain ⟨D, els⟩ := p
    rw [hT] at hm
    have hel : els.length ≤ 1000000 := by
      have := pm_len 44 n r.length true r n _ [] D els (Nat.le_refl _) hT
      have h2 : r.length ≤ (bytesOf text).length := by rw [hs, List.length_append]; omega
      rw [bytesOf_length] at h2
      simp only [List.length_nil] at this
      omega
    have HEL := Aside0.mk hel
    have HM := Aside0.mk hm
    clear hm hT hs hn hh hL kb h44 hb44 hr1 hr2 hb12 hb01 hb02 hW1 hW2 hdl hel
    --{B
    go_enter Try.func9, Try.ntmps9
    go_wp2_with (first | (go_at_call 24; refine HM.out.mono ?_; rintro e w' ⟨hb, h1, _⟩; obtain ⟨g, v, h0, h00, rfl, hg, hv⟩ := h1 D els rfl; have H0 := Aside0.mk h0; have H00 := Aside0.mk h00; obtain ⟨A5, c5, rfl, hc5, hC5⟩ := Kd.R_reads hv; have HB := Aside0.mk hb; have HG := Aside0.mk hg; have HV := Aside0.mk hC5; have HC5 := Aside0.mk hc5; clear hb h1 hg hv hC5 hc5 h0 h00) | (go_at_call 25; refine (impl_items.main A5 c5 els W2 _ ?b1 ?b2 HC5.out ?b3).mono ?_; (case b1 => exact HB.out); (case b2 => exact HV.out); (case b3 => have := HEL.out; omega); rintro e w2 ⟨v2, rfl, hR2, hB2⟩; have HR2 := Aside0.mk hR2; have HB2 := Aside0.mk hB2; clear hR2 hB2))
    go_ret3
    exact ⟨_, v2, rfl, dims_own (blk_below HG.out HB2.out) (Nat.le_trans HB02.out.size H0.out) H00.out, Kd.R_lower HR2.out (below_step HB02.out HB.out).size, below_step (below_step HB02.out HB.out) HB2.out⟩
    --}B
theorem impl_Parsed.calls (a0 : ByteArray) (a1 : ByteArray) (r1 : List Int) (r2 : List (S39)) (r3 : Bool) (w : World) (h : impl_Parsed.f a0 a1 = some (r1, r2, r3)) :
    Calls Try.prog 9 #[.string a0, .string a1] w fun e w' => ∃ v0_ v1_ : Value, e = .returned (.tuple #[v0_, v1_, .bool r3]) ∧ Kd.R (Kd.int .i64) 3 w' w.heap.size (fun _ => True) v0_ r1 ∧ Kd.R k39 39 w' w.heap.size (fun _ => True) v1_ r2 ∧ Below w.heap.size w w' := by
  unfold impl_Parsed.f at h
  split at h
  · rename_i hc
    obtain ⟨h1, h2, h3, h4⟩ := hc
    injection h with h
    subst h1
    have hs := braces_split (bytesOf a0)
    have hm := impl_Parsed.main a0 _ _ w hs.1 h3 (fun x t he => ⟨hs.2 x t he, fun h125 => h4 (by rw [he, h125]; rfl)⟩) h2
    unfold paRes at hm
    rw [h] at hm
    exact hm
  · cases h

/-! ### spec_SameInts: function 10 -/
def spec_SameInts.l0 : Nat → List Int → List Int → Int → Option (Bool)
  | 0, _, _, _ => none
  | k + 1, x0, x1, x5 => if x5 < (x0.length : Int) then (if 0 ≤ x5 then (if x5 < (x1.length : Int) then (if (rd x0 x5) = (rd x1 x5) then (spec_SameInts.l0 k x0 x1 (wrap64 (x5 + 1))) else (some false)) else (none)) else (none)) else (some true)
def spec_SameInts.f (k : Nat) (l0 : List Int) (l1 : List Int) : Option (Bool) := if (l0.length : Int) = (l1.length : Int) then (spec_SameInts.l0 k l0 l1 0) else (some false)
theorem spec_SameInts.mono_l : ∀ k, (∀ y0 y1 y2, LeO (spec_SameInts.l0 k y0 y1 y2) (spec_SameInts.l0 (k + 1) y0 y1 y2))
  | 0 => fun _ _ _ r h => by simp [spec_SameInts.l0] at h
  | k + 1 => by
    have ih0 := spec_SameInts.mono_l k
    · intro y0 y1 y2
      unfold spec_SameInts.l0
      repeat' first
      | (with_reducible exact ih0 _ _ _)
      | (with_reducible exact LeO.refl _)
      | (with_reducible exact LeO.none _)
      | (with_reducible refine LeO.ite ?_ ?_)
      | (with_reducible refine LeO.bind ?_ (fun _ => ?_))
      | exact ih0 _ _ _
      | exact LeO.none _
      | refine LeO.ite ?_ ?_
      | refine LeO.bind ?_ (fun _ => ?_)
theorem spec_SameInts.mono : ∀ a0 a1 k, LeO (spec_SameInts.f k a0 a1) (spec_SameInts.f (k + 1) a0 a1) := by
  intro a0 a1 k
  have ih0 := spec_SameInts.mono_l k
  unfold spec_SameInts.f
  repeat' first
      | (with_reducible exact ih0 _ _ _)
      | (with_reducible exact LeO.refl _)
      | (with_reducible exact LeO.none _)
      | (with_reducible refine LeO.ite ?_ ?_)
      | (with_reducible refine LeO.bind ?_ (fun _ => ?_))
      | exact ih0 _ _ _
      | exact LeO.none _
      | refine LeO.ite ?_ ?_
      | refine LeO.bind ?_ (fun _ => ?_)
set_option maxHeartbeats 8000000 in
set_option maxRecDepth 100000 in
theorem spec_SameInts.calls (k : Nat) (A0 : Option Addr) (c0 : Nat) (l0 : List Int) (A1 : Option Addr) (c1 : Nat) (l1 : List Int) (r : Bool) (w : World) (hr0 : Kd.C (Kd.int .i64) w A0 l0.length l0) (hc0 : l0.length ≤ c0) (hr1 : Kd.C (Kd.int .i64) w A1 l1.length l1) (hc1 : l1.length ≤ c1) (h : spec_SameInts.f k l0 l1 = some r) :
    Calls Try.prog 10 #[.slice A0 l0.length c0, .slice A1 l1.length c1] w fun e w' => e = .returned (.bool r) ∧ Drawn0 w w' := by
  have HR0 := Aside0.mk hr0
  have HC0 := Aside0.mk hc0
  clear hr0 hc0
  have HR1 := Aside0.mk hr1
  have HC1 := Aside0.mk hc1
  clear hr1 hc1
  have H : (if (l0.length : Int) = (l1.length : Int) then (spec_SameInts.l0 k l0 l1 0) else (some false)) = some r := h
  clear h
  by_cases c3 : (l0.length : Int) = (l1.length : Int)
  · rw [if_pos c3] at H
    have c3b0 : ((l0.length : Int) == (l1.length : Int)) = true := beq_iff_eq.mpr c3
    have c3b1 : ((l0.length : Int) != (l1.length : Int)) = false := bne_eq_false_iff_eq.mpr c3
    have c3b2 : (l0.length == l1.length) = true := by first | simpa using c3 | (simp at c3 ⊢; omega)
    clear c3
    have H' := Aside0.mk H
    clear H
    go_enter Try.func10, Try.ntmps10
    go_wp2
    repeat (go_quiet (fail); try go_wp2)
    go_loopg [5] k (fun kq v5 w' => ∃ (x5_1 : Int), v5 = .int .i64 x5_1 ∧ Aside0 (spec_SameInts.l0 kq l0 l1 x5_1 = some r) ∧ Aside0 (kq ≤ k) ∧ Drawn0 w w')
    case atStart => exact ⟨(0), (by first | rfl | (simp; done) | (simp [*]; done)), H', ⟨Nat.le_refl _⟩, by repeat (first | exact Drawn0.refl _ | apply Drawn0.step)⟩
    case round =>
      clear H'
      try clear c1
      try clear p2
      try clear c3
      try clear c3b0
      try clear c3b1
      try clear c3b2
      obtain ⟨x5_1, rfl, HA, HK1, ⟨m1, rfl⟩⟩ := hrel
      cases gk with
      | zero => exact absurd HA.out (by simp [spec_SameInts.l0])
      | succ k1 =>
        have H := HA.out
        clear HA
        simp only [spec_SameInts.l0] at H
        by_cases c4 : x5_1 < (l0.length : Int)
        · rw [if_pos c4] at H
          have c4b0 : decide (x5_1 < (l0.length : Int)) = true := decide_eq_true c4
          clear c4
          by_cases c5 : 0 ≤ x5_1
          · rw [if_pos c5] at H
            have c5b0 : decide (0 ≤ x5_1) = true := decide_eq_true c5
            clear c5
            by_cases c6 : x5_1 < (l1.length : Int)
            · rw [if_pos c6] at H
              have c6b0 : decide (x5_1 < (l1.length : Int)) = true := decide_eq_true c6
              clear c6
              by_cases c7 : (rd l0 x5_1) = (rd l1 x5_1)
              · rw [if_pos c7] at H
                have c7b0 : ((rd l0 x5_1) == (rd l1 x5_1)) = true := beq_iff_eq.mpr c7
                have c7b1 : ((rd l0 x5_1) != (rd l1 x5_1)) = false := bne_eq_false_iff_eq.mpr c7
                clear c7
                have H' := Aside0.mk H
                clear H
                have p102 : 0 ≤ (x5_1 : Int) := of_decide_eq_true (by first | (with_reducible assumption) | assumption)
                have q102 : x5_1 < (l0.length : Int) := of_decide_eq_true (by first | (with_reducible assumption) | assumption)
                obtain ⟨ad102, e102, hx102_0⟩ := Kd.at_int HR0.out x5_1 p102 q102
                cases e102
                replace p102 := eq_true p102
                replace q102 := eq_true q102
                have p103 : 0 ≤ (x5_1 : Int) := of_decide_eq_true (by first | (with_reducible assumption) | assumption)
                have q103 : x5_1 < (l1.length : Int) := of_decide_eq_true (by first | (with_reducible assumption) | assumption)
                obtain ⟨ad103, e103, hx103_0⟩ := Kd.at_int HR1.out x5_1 p103 q103
                cases e103
                replace p103 := eq_true p103
                replace q103 := eq_true q103
                go_wp2
                repeat (go_quiet (fail); try go_wp2)
                go_roundg k1
                case measure => have := HK1.out; omega
                case rel => exact ⟨(wrap64 (x5_1 + 1)), (by first | rfl | (simp; done) | (simp [*]; done)), H', ⟨by have := HK1.out; omega⟩, by repeat (first | exact Drawn0.refl _ | apply Drawn0.step)⟩
              · rw [if_neg c7] at H
                have c7b0 : ((rd l0 x5_1) == (rd l1 x5_1)) = false := beq_eq_false_iff_ne.mpr c7
                have c7b1 : ((rd l0 x5_1) != (rd l1 x5_1)) = true := bne_iff_ne.mpr c7
                obtain rfl := Option.some.inj H
                have p102 : 0 ≤ (x5_1 : Int) := of_decide_eq_true (by first | (with_reducible assumption) | assumption)
                have q102 : x5_1 < (l0.length : Int) := of_decide_eq_true (by first | (with_reducible assumption) | assumption)
                obtain ⟨ad102, e102, hx102_0⟩ := Kd.at_int HR0.out x5_1 p102 q102
                cases e102
                replace p102 := eq_true p102
                replace q102 := eq_true q102
                have p103 : 0 ≤ (x5_1 : Int) := of_decide_eq_true (by first | (with_reducible assumption) | assumption)
                have q103 : x5_1 < (l1.length : Int) := of_decide_eq_true (by first | (with_reducible assumption) | assumption)
                obtain ⟨ad103, e103, hx103_0⟩ := Kd.at_int HR1.out x5_1 p103 q103
                cases e103
                replace p103 := eq_true p103
                replace q103 := eq_true q103
                go_wp2
                repeat (go_quiet (fail); try go_wp2)
                go_ret
                exact ⟨by first | rfl | (simp; done) | (simp [*]; done), by repeat (first | exact Drawn0.refl _ | apply Drawn0.step)⟩
            · rw [if_neg c6] at H
              exact absurd H (by simp)
          · rw [if_neg c5] at H
            exact absurd H (by simp)
        · rw [if_neg c4] at H
          have c4b0 : decide (x5_1 < (l0.length : Int)) = false := decide_eq_false c4
          clear c4
          obtain rfl := Option.some.inj H
          go_wp2
          repeat (go_quiet (fail); try go_wp2)
          go_ret
          exact ⟨by first | rfl | (simp; done) | (simp [*]; done), by repeat (first | exact Drawn0.refl _ | apply Drawn0.step)⟩
  · rw [if_neg c3] at H
    have c3b0 : ((l0.length : Int) == (l1.length : Int)) = false := beq_eq_false_iff_ne.mpr c3
    have c3b1 : ((l0.length : Int) != (l1.length : Int)) = true := bne_iff_ne.mpr c3
    have c3b2 : (l0.length == l1.length) = false := by first | simpa using c3 | (simp at c3 ⊢; omega)
    obtain rfl := Option.some.inj H
    go_enter Try.func10, Try.ntmps10
    go_wp2
    repeat (go_quiet (fail); try go_wp2)
    go_ret
    exact ⟨by first | rfl | (simp; done) | (simp [*]; done), by repeat (first | exact Drawn0.refl _ | apply Drawn0.step)⟩

/-! ### spec_SameItems: function 11 -/
def sameS (x y : S39) : Bool := (x.f0 == y.f0) && (x.f1.toList == y.f1.toList) && (decide (x.f2 = y.f2)) && (x.f4 == y.f4) && (x.f3 == 0) && (y.f3 == 0)
def sameL : List S39 → List S39 → Bool
  | [], [] => true
  | x :: a, y :: b => sameS x y && sameL a b
  | _, _ => false
def spec_SameItems.f (l0 : List S39) (l1 : List S39) : Option Bool := if sameL l0 l1 = true ∧ l0.length ≤ 1000000 then some true else none
theorem sameL_len : ∀ (a b : List S39), sameL a b = true → a.length = b.length
  | [], [], _ => rfl
  | x :: a, y :: b, h => by
    rw [sameL, Bool.and_eq_true] at h
    rw [List.length_cons, List.length_cons, sameL_len a b h.2]
  | [], _ :: _, h => by cases h
  | _ :: _, [], h => by cases h
theorem sameL_at : ∀ (a b : List S39) (i : Nat), sameL a b = true → i < a.length → sameS (a.getD i z39) (b.getD i z39) = true
  | [], [], i, _, hi => by simp at hi
  | x :: a, y :: b, 0, h, _ => by
    rw [sameL, Bool.and_eq_true] at h
    exact h.1
  | x :: a, y :: b, i + 1, h, hi => by
    rw [sameL, Bool.and_eq_true] at h
    exact sameL_at a b i h.2 (by simpa using hi)
  | [], _ :: _, _, h, _ => by cases h
  | _ :: _, [], _, h, _ => by cases h
theorem run_store_flt {P : Program} {w : World} {a : Addr} {m : Mode} (k : FloatKind) (x : Nat) : (store a (.float k x) m).run P w = stored P w a (.float k x) m := run_store P w a _ m rfl
attribute [local go_sem] run_store_flt
theorem flt_neq : ∀ W : World, (binOp .neq 37 (.float .f64 0) (.float .f64 0)).run Try.prog W = .ok (.bool false) W := fun W => by kernel_rfl
def spec_SameItems.T6 : Bool × List (List Nat × List Nat) := (true, [([], []), ([], []), ([0, 1], [0, 1]), ([2], [2]), ([], []), ([], []), ([4, 5], [4, 5]), ([6], [6]), ([], []), ([], []), ([8, 3, 0, 1, 2, 3, 8, 9], [3, 8]), ([9, 7, 10, 0, 1, 2, 3, 4, 5, 6, 7, 8, 9, 10], [7, 9])])
def spec_SameItems.B6 : List Nat := [0, 0, 3, 7, 0, 0, 48, 112, 0, 0, 783, 2047]
theorem spec_SameItems.tab6 : rtab .any (opsOf Try.f11 6) = spec_SameItems.T6 := by kernel_rfl
theorem spec_SameItems.bits6 : waitsOk spec_SameItems.T6.2 spec_SameItems.B6 = true := by kernel_rfl
set_option maxHeartbeats 8000000 in
set_option maxRecDepth 100000 in
theorem spec_SameItems.calls (A0 : Option Addr) (c0 : Nat) (l0 : List (S39)) (A1 : Option Addr) (c1 : Nat) (l1 : List (S39)) (r : Bool) (w : World) (hr0 : Kd.C k39 w A0 l0.length l0) (hc0 : l0.length ≤ c0) (hr1 : Kd.C k39 w A1 l1.length l1) (hc1 : l1.length ≤ c1) (h : spec_SameItems.f l0 l1 = some r) :
    Calls Try.prog 11 #[.slice A0 l0.length c0, .slice A1 l1.length c1] w fun e w' => e = .returned (.bool r) ∧ Below w.heap.size w w' := by
  unfold spec_SameItems.f at h
  split at h
  case isFalse => cases h
  rename_i hcnd
  injection h with h
  subst h
  obtain ⟨hsame, hlim⟩ := hcnd
  have hlen := sameL_len l0 l1 hsame
  have hu39 := Try.underlying39
  have HR0 := Aside0.mk hr0
  have HC0 := Aside0.mk hc0
  clear hr0 hc0
  have HR1 := Aside0.mk hr1
  have HC1 := Aside0.mk hc1
  clear hr1 hc1
  have HB := Aside0.mk (Below.refl w.heap.size w)
  have c3 : (l0.length : Int) = (l1.length : Int) := by omega
  have c3b0 : ((l0.length : Int) == (l1.length : Int)) = true := beq_iff_eq.mpr c3
  have c3b1 : ((l0.length : Int) != (l1.length : Int)) = false := bne_eq_false_iff_eq.mpr c3
  have c3b2 : (l0.length == l1.length) = true := by simpa using hlen
  have HSAME := Aside0.mk hsame
  have HLEN := Aside0.mk hlen
  have HLIM := Aside0.mk hlim
  clear c3 hsame hlen hlim
  go_enter Try.func11, Try.ntmps11
  go_wp2
  go_loopg [5] (l0.length + 1) (fun kq v5 w' => ∃ (x5_1 : Int), v5 = .int .i64 x5_1 ∧ Aside0 ((kq : Int) + x5_1 ≥ l0.length + 1) ∧ Aside0 (0 ≤ x5_1 ∧ x5_1 ≤ l0.length) ∧ Aside0 (Below w.heap.size w w'))
  case atStart => exact ⟨(0), (by first | rfl | (simp; done)), ⟨by omega⟩, ⟨by omega⟩, HB⟩
  case round =>
    clear HB c3b0 c3b1 c3b2
    obtain ⟨x5_1, rfl, HK1, HX5, HB⟩ := hrel
    by_cases c4 : x5_1 < (l0.length : Int)
    · have c4b0 : decide (x5_1 < (l0.length : Int)) = true := decide_eq_true c4
      have c5b0 : decide (0 ≤ x5_1) = true := decide_eq_true HX5.out.1
      have c6b0 : decide (x5_1 < (l1.length : Int)) = true := decide_eq_true (by have := HLEN.out; omega)
      have hs := sameL_at l0 l1 x5_1.toNat HSAME.out (by have := HX5.out; omega)
      have hs : sameS (rd_T39 l0 x5_1) (rd_T39 l1 x5_1) = true := hs
      simp only [sameS, Bool.and_eq_true, beq_iff_eq, decide_eq_true_eq] at hs
      obtain ⟨⟨⟨⟨⟨q0, q1⟩, q2⟩, q4⟩, q3⟩, q3'⟩ := hs
      have hx1 : wrap64 (x5_1 + 1) = x5_1 + 1 := by have := HLIM.out; have := HX5.out; unfold wrap64; omega
      have c7b0 : (((rd_T39 l0 x5_1).f0) != ((rd_T39 l1 x5_1).f0)) = false := by simp [q0]
      have c25b0 : ((((rd_T39 l0 x5_1).f1).toList) != (((rd_T39 l1 x5_1).f1).toList)) = false := by simp [q1]
      have c25b1 : ((((rd_T39 l0 x5_1).f1).toList) == (((rd_T39 l1 x5_1).f1).toList)) = true := by simp [q1]
      have c26b0 : (((rd_T39 l0 x5_1).f2) != ((rd_T39 l1 x5_1).f2)) = false := by simp [q2]
      have c26b1 : (((rd_T39 l0 x5_1).f2) == ((rd_T39 l1 x5_1).f2)) = true := by simp [q2]
      have c27b0 : (((rd_T39 l0 x5_1).f4) != ((rd_T39 l1 x5_1).f4)) = false := by simp [q4]
      have c7b1 : decide (((rd_T39 l0 x5_1).f0) = ((rd_T39 l1 x5_1).f0)) = true := decide_eq_true q0
      have c7b2 : (((rd_T39 l0 x5_1).f0) == ((rd_T39 l1 x5_1).f0)) = true := by simp [q0]
      have c7b3 : (((rd_T39 l0 x5_1).f0) = ((rd_T39 l1 x5_1).f0)) = True := eq_true q0
      have c27b1 : decide (((rd_T39 l0 x5_1).f4) = ((rd_T39 l1 x5_1).f4)) = true := decide_eq_true q4
      have c27b2 : (((rd_T39 l0 x5_1).f4) == ((rd_T39 l1 x5_1).f4)) = true := by simp [q4]
      have c27b3 : (((rd_T39 l0 x5_1).f4) = ((rd_T39 l1 x5_1).f4)) = True := eq_true q4
      have HC4 := Aside0.mk c4
      have HX1 := Aside0.mk hx1
      have Q3 := Aside0.mk q3
      have Q3' := Aside0.mk q3'
      clear c4 hx1 q0 q1 q2 q4 q3 q3'
      try go_wp2
      have n0_ := Aside0.mk (below_drew1 HB.out)
      clear HB
      have HB := n0_
      clear n0_
      have p104 : 0 ≤ (x5_1 : Int) := of_decide_eq_true (by first | (with_reducible assumption) | assumption)
      have q104 : x5_1 < (l0.length : Int) := of_decide_eq_true (by first | (with_reducible assumption) | assumption)
      obtain ⟨ad104, e104, hx104_0, hx104_1, hx104_2, hx104_3, hx104_4⟩ := at_T39 HR0.out x5_1 p104 q104
      have hw104_4 := hx104_4
      have hw104_3 := hx104_3
      have hw104_2 := hx104_2
      have hw104_1 := hx104_1
      have hw104_0 := hx104_0
      cases e104
      replace hx104_0 := (HB.out.cell (World.block_lt_of_cell? w _ hx104_0)).trans hx104_0
      replace hx104_1 := (HB.out.cell (World.block_lt_of_cell? w _ hx104_1)).trans hx104_1
      replace hx104_2 := (HB.out.cell (World.block_lt_of_cell? w _ hx104_2)).trans hx104_2
      replace hx104_3 := (HB.out.cell (World.block_lt_of_cell? w _ hx104_3)).trans hx104_3
      replace hx104_4 := (HB.out.cell (World.block_lt_of_cell? w _ hx104_4)).trans hx104_4
      replace p104 := eq_true p104
      replace q104 := eq_true q104
      have p105 : 0 ≤ (x5_1 : Int) := of_decide_eq_true (by first | (with_reducible assumption) | assumption)
      have q105 : x5_1 < (l1.length : Int) := of_decide_eq_true (by first | (with_reducible assumption) | assumption)
      obtain ⟨ad105, e105, hx105_0, hx105_1, hx105_2, hx105_3, hx105_4⟩ := at_T39 HR1.out x5_1 p105 q105
      have hw105_4 := hx105_4
      have hw105_3 := hx105_3
      have hw105_2 := hx105_2
      have hw105_1 := hx105_1
      have hw105_0 := hx105_0
      cases e105
      replace hx105_0 := (HB.out.cell (World.block_lt_of_cell? w _ hx105_0)).trans hx105_0
      replace hx105_1 := (HB.out.cell (World.block_lt_of_cell? w _ hx105_1)).trans hx105_1
      replace hx105_2 := (HB.out.cell (World.block_lt_of_cell? w _ hx105_2)).trans hx105_2
      replace hx105_3 := (HB.out.cell (World.block_lt_of_cell? w _ hx105_3)).trans hx105_3
      replace hx105_4 := (HB.out.cell (World.block_lt_of_cell? w _ hx105_4)).trans hx105_4
      replace p105 := eq_true p105
      replace q105 := eq_true q105
      refine start_ (n := 12) (S := fun w' => w'.cell? (ad104.add ((x5_1).toNat * 5)) = some (.bool ((rd_T39 l0 x5_1).f0)) ∧ w'.cell? ⟨(ad104.add ((x5_1).toNat * 5)).block, (ad104.add ((x5_1).toNat * 5)).off + 1, none⟩ = some (.string ((rd_T39 l0 x5_1).f1)) ∧ w'.cell? ⟨(ad104.add ((x5_1).toNat * 5)).block, (ad104.add ((x5_1).toNat * 5)).off + 2, none⟩ = some (.int .i64 ((rd_T39 l0 x5_1).f2)) ∧ w'.cell? ⟨(ad104.add ((x5_1).toNat * 5)).block, (ad104.add ((x5_1).toNat * 5)).off + 3, none⟩ = some (.float .f64 ((rd_T39 l0 x5_1).f3)) ∧ w'.cell? ⟨(ad104.add ((x5_1).toNat * 5)).block, (ad104.add ((x5_1).toNat * 5)).off + 4, none⟩ = some (.bool ((rd_T39 l0 x5_1).f4)) ∧ w'.cell? (ad105.add ((x5_1).toNat * 5)) = some (.bool ((rd_T39 l1 x5_1).f0)) ∧ w'.cell? ⟨(ad105.add ((x5_1).toNat * 5)).block, (ad105.add ((x5_1).toNat * 5)).off + 1, none⟩ = some (.string ((rd_T39 l1 x5_1).f1)) ∧ w'.cell? ⟨(ad105.add ((x5_1).toNat * 5)).block, (ad105.add ((x5_1).toNat * 5)).off + 2, none⟩ = some (.int .i64 ((rd_T39 l1 x5_1).f2)) ∧ w'.cell? ⟨(ad105.add ((x5_1).toNat * 5)).block, (ad105.add ((x5_1).toNat * 5)).off + 3, none⟩ = some (.float .f64 ((rd_T39 l1 x5_1).f3)) ∧ w'.cell? ⟨(ad105.add ((x5_1).toNat * 5)).block, (ad105.add ((x5_1).toNat * 5)).off + 4, none⟩ = some (.bool ((rd_T39 l1 x5_1).f4))) (ds := []) #[false, false, false, false, false, false, false, false, false, false, false, false] (by kernel_rfl) rfl rfl ⟨((HB.out.cell (World.block_lt_of_cell? w _ hw104_0)).trans hw104_0), ((HB.out.cell (World.block_lt_of_cell? w _ hw104_1)).trans hw104_1), ((HB.out.cell (World.block_lt_of_cell? w _ hw104_2)).trans hw104_2), ((HB.out.cell (World.block_lt_of_cell? w _ hw104_3)).trans hw104_3), ((HB.out.cell (World.block_lt_of_cell? w _ hw104_4)).trans hw104_4), ((HB.out.cell (World.block_lt_of_cell? w _ hw105_0)).trans hw105_0), ((HB.out.cell (World.block_lt_of_cell? w _ hw105_1)).trans hw105_1), ((HB.out.cell (World.block_lt_of_cell? w _ hw105_2)).trans hw105_2), ((HB.out.cell (World.block_lt_of_cell? w _ hw105_3)).trans hw105_3), ((HB.out.cell (World.block_lt_of_cell? w _ hw105_4)).trans hw105_4)⟩ (fun hHeld => ?_); refine with_tabW spec_SameItems.tab6 spec_SameItems.bits6 (fun HT_ HW_ => ?_)
      generalize wr.drew = w28 at HB hx104_0 hx104_1 hx104_2 hx104_3 hx104_4 hx105_0 hx105_1 hx105_2 hx105_3 hx105_4 hHeld ⊢
      refine pure_ (i := 0) (N := some 19) (v := ?_) (a' := ?_) #[true, false, false, false, false, false, false, false, false, false, false, false] rfl rfl (any_of HT_.out (by kernel_rfl)) (fun _ _ _ h => h) (Or.inl ⟨by rfl, ?_⟩) ?_ ?_
      rotate_left
      · intro w'
        go_simp
        with_reducible rfl
      rotate_left
      · simp only [Act.put, List.setIfInBounds_toArray, List.set_cons_zero, List.set_cons_succ, i64_w, i32_w]
        rfl
      refine pure_ (i := 1) (N := some 20) (v := ?_) (a' := ?_) #[true, true, false, false, false, false, false, false, false, false, false, false] rfl rfl (any_of HT_.out (by kernel_rfl)) (fun _ _ _ h => h) (Or.inl ⟨by rfl, ?_⟩) ?_ ?_
      rotate_left
      · intro w'
        go_simp
        with_reducible rfl
      rotate_left
      · simp only [Act.put, List.setIfInBounds_toArray, List.set_cons_zero, List.set_cons_succ, i64_w, i32_w]
        rfl
      refine pure_ (i := 2) (N := some 21) (v := ?_) (a' := ?_) #[true, true, true, false, false, false, false, false, false, false, false, false] rfl rfl (any_of HT_.out (by kernel_rfl)) (fun _ _ _ h => h) (Or.inl ⟨by rfl, ?_⟩) ?_ ?_
      rotate_left
      · intro w'
        go_simp
        with_reducible rfl
      rotate_left
      · simp only [Act.put, List.setIfInBounds_toArray, List.set_cons_zero, List.set_cons_succ, i64_w, i32_w]
        rfl
      refine pure_ (i := 4) (N := some 23) (v := ?_) (a' := ?_) #[true, true, true, false, true, false, false, false, false, false, false, false] rfl rfl (any_of HT_.out (by kernel_rfl)) (fun _ _ _ h => h) (Or.inl ⟨by rfl, ?_⟩) ?_ ?_
      rotate_left
      · intro w'
        go_simp
        with_reducible rfl
      rotate_left
      · simp only [Act.put, List.setIfInBounds_toArray, List.set_cons_zero, List.set_cons_succ, i64_w, i32_w]
        rfl
      refine pure_ (i := 5) (N := some 24) (v := ?_) (a' := ?_) #[true, true, true, false, true, true, false, false, false, false, false, false] rfl rfl (any_of HT_.out (by kernel_rfl)) (fun _ _ _ h => h) (Or.inl ⟨by rfl, ?_⟩) ?_ ?_
      rotate_left
      · intro w'
        go_simp
        with_reducible rfl
      rotate_left
      · simp only [Act.put, List.setIfInBounds_toArray, List.set_cons_zero, List.set_cons_succ, i64_w, i32_w]
        rfl
      refine pure_ (i := 6) (N := some 25) (v := ?_) (a' := ?_) #[true, true, true, false, true, true, true, false, false, false, false, false] rfl rfl (any_of HT_.out (by kernel_rfl)) (fun _ _ _ h => h) (Or.inl ⟨by rfl, ?_⟩) ?_ ?_
      rotate_left
      · intro w'
        go_simp
        with_reducible rfl
      rotate_left
      · simp only [Act.put, List.setIfInBounds_toArray, List.set_cons_zero, List.set_cons_succ, i64_w, i32_w]
        rfl
      refine take_ (i := 3) (N := some 22) (v := ?_) (a' := ?_) #[true, true, true, true, true, true, true, false, false, false, false, false] rfl rfl (take_ofW HT_.out HW_.out (by kernel_rfl)) (fun _ _ _ h => h) (Or.inl ⟨by rfl, ?_⟩) hHeld ?_ ?_
      rotate_left
      · rintro w' ⟨s0, s1, s2, s3, s4, s5, s6, s7, s8, s9⟩
        go_simp
        with_reducible rfl
      rotate_left
      · simp only [Act.put, List.setIfInBounds_toArray, List.set_cons_zero, List.set_cons_succ, i64_w, i32_w]
        rfl
      refine take_ (i := 7) (N := some 26) (v := ?_) (a' := ?_) #[true, true, true, true, true, true, true, true, false, false, false, false] rfl rfl (take_ofW HT_.out HW_.out (by kernel_rfl)) (fun _ _ _ h => h) (Or.inl ⟨by rfl, ?_⟩) hHeld ?_ ?_
      rotate_left
      · rintro w' ⟨s0, s1, s2, s3, s4, s5, s6, s7, s8, s9⟩
        go_simp
        with_reducible rfl
      rotate_left
      · simp only [Act.put, List.setIfInBounds_toArray, List.set_cons_zero, List.set_cons_succ, i64_w, i32_w]
        rfl
      refine join_ (σ := Nat × Nat) 2 #[true, true, true, true, true, true, true, true, true, true, false, false] (fun s_ => [(6, .pointer (some ⟨s_.1, 0, none⟩)), (7, .pointer (some ⟨s_.2, 0, none⟩))]) (fun s_ w' => (w'.cell? (ad104.add ((x5_1).toNat * 5)) = some (.bool ((rd_T39 l0 x5_1).f0)) ∧ w'.cell? ⟨(ad104.add ((x5_1).toNat * 5)).block, (ad104.add ((x5_1).toNat * 5)).off + 1, none⟩ = some (.string ((rd_T39 l0 x5_1).f1)) ∧ w'.cell? ⟨(ad104.add ((x5_1).toNat * 5)).block, (ad104.add ((x5_1).toNat * 5)).off + 2, none⟩ = some (.int .i64 ((rd_T39 l0 x5_1).f2)) ∧ w'.cell? ⟨(ad104.add ((x5_1).toNat * 5)).block, (ad104.add ((x5_1).toNat * 5)).off + 3, none⟩ = some (.float .f64 ((rd_T39 l0 x5_1).f3)) ∧ w'.cell? ⟨(ad104.add ((x5_1).toNat * 5)).block, (ad104.add ((x5_1).toNat * 5)).off + 4, none⟩ = some (.bool ((rd_T39 l0 x5_1).f4)) ∧ w'.cell? (ad105.add ((x5_1).toNat * 5)) = some (.bool ((rd_T39 l1 x5_1).f0)) ∧ w'.cell? ⟨(ad105.add ((x5_1).toNat * 5)).block, (ad105.add ((x5_1).toNat * 5)).off + 1, none⟩ = some (.string ((rd_T39 l1 x5_1).f1)) ∧ w'.cell? ⟨(ad105.add ((x5_1).toNat * 5)).block, (ad105.add ((x5_1).toNat * 5)).off + 2, none⟩ = some (.int .i64 ((rd_T39 l1 x5_1).f2)) ∧ w'.cell? ⟨(ad105.add ((x5_1).toNat * 5)).block, (ad105.add ((x5_1).toNat * 5)).off + 3, none⟩ = some (.float .f64 ((rd_T39 l1 x5_1).f3)) ∧ w'.cell? ⟨(ad105.add ((x5_1).toNat * 5)).block, (ad105.add ((x5_1).toNat * 5)).off + 4, none⟩ = some (.bool ((rd_T39 l1 x5_1).f4))) ∧ (w'.heap[s_.1]? = some (.cells #[.bool false, .string (⟨#[]⟩ : ByteArray), .int .i64 0, .float .f64 0, .bool false] 39 (0, 0))) ∧ (w'.heap[s_.2]? = some (.cells #[.bool false, .string (⟨#[]⟩ : ByteArray), .int .i64 0, .float .f64 0, .bool false] 39 (0, 0))) ∧ (w.heap.size ≤ s_.1) ∧ (w.heap.size ≤ s_.1) ∧ (s_.2 ≠ s_.1) ∧ (s_.1 ≠ s_.2) ∧ (w.heap.size ≤ s_.2) ∧ (w.heap.size ≤ s_.2) ∧ (Below w.heap.size w w')) ?_ ?_
      rotate_left
      · intro hCont
        refine two_ (i := 8) (j := 9) (Ni := some 6) (Nj := some 7) #[true, true, true, true, true, true, true, true, true, false, false, false] #[true, true, true, true, true, true, true, true, false, true, false, false] rfl rfl rfl rfl (two_of HT_.out (by kernel_rfl)) (by decide) (by decide) (fun K hK => ?_) (fun K hK => ?_)
        · skip
          refine box_step ?hg (N := 6) ?hd (cs := #[.bool false, .string (⟨#[]⟩ : ByteArray), .int .i64 0, .float .f64 0, .bool false]) (t := 39) ?hr ?_; (case hd => rfl); (case hg => rfl); (case hr => first | (go_simp; done) | (go_simp; rfl) | (go_simp; simp [IntKind.wrap_u8]; done))
          intro gb106 hg w29 hbox hb
          have n0_ := Aside0.mk (below_step (by repeat (first | (with_reducible first | exact HB.out | apply below_alloc | apply pw_below_drewN | apply below_drew1) | exact HB.out)) hb)
          have n1_ := Aside0.mk (hbox)
          have n2_ := Aside0.mk ((by rw [hg]; exact (below_size (by repeat (first | (with_reducible first | exact HB.out | apply below_alloc | apply pw_below_drewN | apply below_drew1) | exact HB.out))) : w.heap.size ≤ gb106))
          have n3_ := Aside0.mk ((by rw [hg]; exact (below_size (by repeat (first | (with_reducible first | exact HB.out | apply below_alloc | apply pw_below_drewN | apply below_drew1) | exact HB.out))) : w.heap.size ≤ gb106))
          clear HB
          have HB := n0_
          have BK106 := n1_
          have GW106 := n2_
          have GE106 := n3_
          clear n0_ n1_ n2_ n3_
          clear hb hbox hg
          refine hK.out _ _ ⟨((HB.out.cell (World.block_lt_of_cell? w _ hw104_0)).trans hw104_0), ((HB.out.cell (World.block_lt_of_cell? w _ hw104_1)).trans hw104_1), ((HB.out.cell (World.block_lt_of_cell? w _ hw104_2)).trans hw104_2), ((HB.out.cell (World.block_lt_of_cell? w _ hw104_3)).trans hw104_3), ((HB.out.cell (World.block_lt_of_cell? w _ hw104_4)).trans hw104_4), ((HB.out.cell (World.block_lt_of_cell? w _ hw105_0)).trans hw105_0), ((HB.out.cell (World.block_lt_of_cell? w _ hw105_1)).trans hw105_1), ((HB.out.cell (World.block_lt_of_cell? w _ hw105_2)).trans hw105_2), ((HB.out.cell (World.block_lt_of_cell? w _ hw105_3)).trans hw105_3), ((HB.out.cell (World.block_lt_of_cell? w _ hw105_4)).trans hw105_4)⟩ (fun hHeld => ?_)
          clear hK K
          refine norm_ (a' := ?_) ?_ ?_
          rotate_left
          · show Act.put _ (some 6) _ = _
            simp only [Act.put, List.setIfInBounds_toArray, List.set_cons_zero, List.set_cons_succ, i64_w, i32_w]
            rfl
          refine one_ (i := 9) (N := some 7) #[true, true, true, true, true, true, true, true, true, true, false, false] rfl rfl (one_of HT_.out (by kernel_rfl)) (by decide) (fun K hK => ?_)
          refine box_step ?hg (N := 7) ?hd (cs := #[.bool false, .string (⟨#[]⟩ : ByteArray), .int .i64 0, .float .f64 0, .bool false]) (t := 39) ?hr ?_; (case hd => rfl); (case hg => rfl); (case hr => first | (go_simp; done) | (go_simp; rfl) | (go_simp; simp [IntKind.wrap_u8]; done))
          intro gb107 hg w30 hbox hb
          have n0_ := Aside0.mk (blk_below (g := gb106) (o := .cells #[.bool false, .string (⟨#[]⟩ : ByteArray), .int .i64 0, .float .f64 0, .bool false] 39 (0, 0)) (by (with_reducible repeat (first | refine blk_drewN ?_ _ | refine blk_drew ?_ | refine blk_alloc ?_ _)); exact BK106.out) hb)
          have n1_ := Aside0.mk (below_step (by repeat (first | (with_reducible first | exact HB.out | apply below_alloc | apply pw_below_drewN | apply below_drew1 | refine below_set ?_ GE106.out) | exact HB.out)) hb)
          have n2_ := Aside0.mk (hbox)
          have n3_ := Aside0.mk ((by rw [hg]; exact (below_size (by repeat (first | (with_reducible first | exact HB.out | apply below_alloc | apply pw_below_drewN | apply below_drew1 | refine below_set ?_ GE106.out) | exact HB.out))) : w.heap.size ≤ gb107))
          have n4_ := Aside0.mk ((by rw [hg]; exact (below_size (by repeat (first | (with_reducible first | exact HB.out | apply below_alloc | apply pw_below_drewN | apply below_drew1 | refine below_set ?_ GE106.out) | exact HB.out))) : w.heap.size ≤ gb107))
          have n5_ := Aside0.mk ((by rw [hg]; exact Nat.ne_of_lt (blk_lt (g := gb106) (o := .cells #[.bool false, .string (⟨#[]⟩ : ByteArray), .int .i64 0, .float .f64 0, .bool false] 39 (0, 0)) (by (with_reducible repeat (first | refine blk_drewN ?_ _ | refine blk_drew ?_ | refine blk_alloc ?_ _)); exact BK106.out)) : gb106 ≠ gb107))
          have n6_ := Aside0.mk ((by rw [hg]; exact Nat.ne_of_gt (blk_lt (g := gb106) (o := .cells #[.bool false, .string (⟨#[]⟩ : ByteArray), .int .i64 0, .float .f64 0, .bool false] 39 (0, 0)) (by (with_reducible repeat (first | refine blk_drewN ?_ _ | refine blk_drew ?_ | refine blk_alloc ?_ _)); exact BK106.out)) : gb107 ≠ gb106))
          clear BK106
          clear HB
          have BK106 := n0_
          have HB := n1_
          have BK107 := n2_
          have GW107 := n3_
          have GE107 := n4_
          have NB106_107 := n5_
          have NB107_106 := n6_
          clear n0_ n1_ n2_ n3_ n4_ n5_ n6_
          clear hb hbox hg
          refine hK.out _ _ ⟨((HB.out.cell (World.block_lt_of_cell? w _ hw104_0)).trans hw104_0), ((HB.out.cell (World.block_lt_of_cell? w _ hw104_1)).trans hw104_1), ((HB.out.cell (World.block_lt_of_cell? w _ hw104_2)).trans hw104_2), ((HB.out.cell (World.block_lt_of_cell? w _ hw104_3)).trans hw104_3), ((HB.out.cell (World.block_lt_of_cell? w _ hw104_4)).trans hw104_4), ((HB.out.cell (World.block_lt_of_cell? w _ hw105_0)).trans hw105_0), ((HB.out.cell (World.block_lt_of_cell? w _ hw105_1)).trans hw105_1), ((HB.out.cell (World.block_lt_of_cell? w _ hw105_2)).trans hw105_2), ((HB.out.cell (World.block_lt_of_cell? w _ hw105_3)).trans hw105_3), ((HB.out.cell (World.block_lt_of_cell? w _ hw105_4)).trans hw105_4)⟩ (fun hHeld => ?_)
          clear hK K
          refine norm_ (a' := ?_) ?_ ?_
          rotate_left
          · show Act.put _ (some 7) _ = _
            simp only [Act.put, List.setIfInBounds_toArray, List.set_cons_zero, List.set_cons_succ, i64_w, i32_w]
            rfl
          exact norm_ (by simp only [putAll, Act.put, List.setIfInBounds_toArray, List.set_cons_zero, List.set_cons_succ]) (hCont (gb106, gb107) _ ⟨hHeld, (by (with_reducible repeat (first | refine blk_drewN ?_ _ | refine blk_drew ?_ | refine blk_alloc ?_ _)); exact BK106.out), (by (with_reducible repeat (first | refine blk_drewN ?_ _ | refine blk_drew ?_ | refine blk_alloc ?_ _)); exact BK107.out), GW106.out, GE106.out, NB107_106.out, NB106_107.out, GW107.out, GE107.out, (by repeat (first | (with_reducible first | exact HB.out | apply below_alloc | apply pw_below_drewN | apply below_drew1 | refine below_set ?_ GE106.out | refine below_set ?_ GE107.out) | exact HB.out))⟩)
        · skip
          refine box_step ?hg (N := 7) ?hd (cs := #[.bool false, .string (⟨#[]⟩ : ByteArray), .int .i64 0, .float .f64 0, .bool false]) (t := 39) ?hr ?_; (case hd => rfl); (case hg => rfl); (case hr => first | (go_simp; done) | (go_simp; rfl) | (go_simp; simp [IntKind.wrap_u8]; done))
          intro gb107 hg w29 hbox hb
          have n0_ := Aside0.mk (below_step (by repeat (first | (with_reducible first | exact HB.out | apply below_alloc | apply pw_below_drewN | apply below_drew1) | exact HB.out)) hb)
          have n1_ := Aside0.mk (hbox)
          have n2_ := Aside0.mk ((by rw [hg]; exact (below_size (by repeat (first | (with_reducible first | exact HB.out | apply below_alloc | apply pw_below_drewN | apply below_drew1) | exact HB.out))) : w.heap.size ≤ gb107))
          have n3_ := Aside0.mk ((by rw [hg]; exact (below_size (by repeat (first | (with_reducible first | exact HB.out | apply below_alloc | apply pw_below_drewN | apply below_drew1) | exact HB.out))) : w.heap.size ≤ gb107))
          clear HB
          have HB := n0_
          have BK107 := n1_
          have GW107 := n2_
          have GE107 := n3_
          clear n0_ n1_ n2_ n3_
          clear hb hbox hg
          refine hK.out _ _ ⟨((HB.out.cell (World.block_lt_of_cell? w _ hw104_0)).trans hw104_0), ((HB.out.cell (World.block_lt_of_cell? w _ hw104_1)).trans hw104_1), ((HB.out.cell (World.block_lt_of_cell? w _ hw104_2)).trans hw104_2), ((HB.out.cell (World.block_lt_of_cell? w _ hw104_3)).trans hw104_3), ((HB.out.cell (World.block_lt_of_cell? w _ hw104_4)).trans hw104_4), ((HB.out.cell (World.block_lt_of_cell? w _ hw105_0)).trans hw105_0), ((HB.out.cell (World.block_lt_of_cell? w _ hw105_1)).trans hw105_1), ((HB.out.cell (World.block_lt_of_cell? w _ hw105_2)).trans hw105_2), ((HB.out.cell (World.block_lt_of_cell? w _ hw105_3)).trans hw105_3), ((HB.out.cell (World.block_lt_of_cell? w _ hw105_4)).trans hw105_4)⟩ (fun hHeld => ?_)
          clear hK K
          refine norm_ (a' := ?_) ?_ ?_
          rotate_left
          · show Act.put _ (some 7) _ = _
            simp only [Act.put, List.setIfInBounds_toArray, List.set_cons_zero, List.set_cons_succ, i64_w, i32_w]
            rfl
          refine one_ (i := 8) (N := some 6) #[true, true, true, true, true, true, true, true, true, true, false, false] rfl rfl (one_of HT_.out (by kernel_rfl)) (by decide) (fun K hK => ?_)
          refine box_step ?hg (N := 6) ?hd (cs := #[.bool false, .string (⟨#[]⟩ : ByteArray), .int .i64 0, .float .f64 0, .bool false]) (t := 39) ?hr ?_; (case hd => rfl); (case hg => rfl); (case hr => first | (go_simp; done) | (go_simp; rfl) | (go_simp; simp [IntKind.wrap_u8]; done))
          intro gb106 hg w30 hbox hb
          have n0_ := Aside0.mk (blk_below (g := gb107) (o := .cells #[.bool false, .string (⟨#[]⟩ : ByteArray), .int .i64 0, .float .f64 0, .bool false] 39 (0, 0)) (by (with_reducible repeat (first | refine blk_drewN ?_ _ | refine blk_drew ?_ | refine blk_alloc ?_ _)); exact BK107.out) hb)
          have n1_ := Aside0.mk (below_step (by repeat (first | (with_reducible first | exact HB.out | apply below_alloc | apply pw_below_drewN | apply below_drew1 | refine below_set ?_ GE107.out) | exact HB.out)) hb)
          have n2_ := Aside0.mk (hbox)
          have n3_ := Aside0.mk ((by rw [hg]; exact (below_size (by repeat (first | (with_reducible first | exact HB.out | apply below_alloc | apply pw_below_drewN | apply below_drew1 | refine below_set ?_ GE107.out) | exact HB.out))) : w.heap.size ≤ gb106))
          have n4_ := Aside0.mk ((by rw [hg]; exact (below_size (by repeat (first | (with_reducible first | exact HB.out | apply below_alloc | apply pw_below_drewN | apply below_drew1 | refine below_set ?_ GE107.out) | exact HB.out))) : w.heap.size ≤ gb106))
          have n5_ := Aside0.mk ((by rw [hg]; exact Nat.ne_of_lt (blk_lt (g := gb107) (o := .cells #[.bool false, .string (⟨#[]⟩ : ByteArray), .int .i64 0, .float .f64 0, .bool false] 39 (0, 0)) (by (with_reducible repeat (first | refine blk_drewN ?_ _ | refine blk_drew ?_ | refine blk_alloc ?_ _)); exact BK107.out)) : gb107 ≠ gb106))
          have n6_ := Aside0.mk ((by rw [hg]; exact Nat.ne_of_gt (blk_lt (g := gb107) (o := .cells #[.bool false, .string (⟨#[]⟩ : ByteArray), .int .i64 0, .float .f64 0, .bool false] 39 (0, 0)) (by (with_reducible repeat (first | refine blk_drewN ?_ _ | refine blk_drew ?_ | refine blk_alloc ?_ _)); exact BK107.out)) : gb106 ≠ gb107))
          clear BK107
          clear HB
          have BK107 := n0_
          have HB := n1_
          have BK106 := n2_
          have GW106 := n3_
          have GE106 := n4_
          have NB107_106 := n5_
          have NB106_107 := n6_
          clear n0_ n1_ n2_ n3_ n4_ n5_ n6_
          clear hb hbox hg
          refine hK.out _ _ ⟨((HB.out.cell (World.block_lt_of_cell? w _ hw104_0)).trans hw104_0), ((HB.out.cell (World.block_lt_of_cell? w _ hw104_1)).trans hw104_1), ((HB.out.cell (World.block_lt_of_cell? w _ hw104_2)).trans hw104_2), ((HB.out.cell (World.block_lt_of_cell? w _ hw104_3)).trans hw104_3), ((HB.out.cell (World.block_lt_of_cell? w _ hw104_4)).trans hw104_4), ((HB.out.cell (World.block_lt_of_cell? w _ hw105_0)).trans hw105_0), ((HB.out.cell (World.block_lt_of_cell? w _ hw105_1)).trans hw105_1), ((HB.out.cell (World.block_lt_of_cell? w _ hw105_2)).trans hw105_2), ((HB.out.cell (World.block_lt_of_cell? w _ hw105_3)).trans hw105_3), ((HB.out.cell (World.block_lt_of_cell? w _ hw105_4)).trans hw105_4)⟩ (fun hHeld => ?_)
          clear hK K
          refine norm_ (a' := ?_) ?_ ?_
          rotate_left
          · show Act.put _ (some 6) _ = _
            simp only [Act.put, List.setIfInBounds_toArray, List.set_cons_zero, List.set_cons_succ, i64_w, i32_w]
            rfl
          exact norm_ (by simp only [putAll, Act.put, List.setIfInBounds_toArray, List.set_cons_zero, List.set_cons_succ]) (hCont (gb106, gb107) _ ⟨hHeld, (by (with_reducible repeat (first | refine blk_drewN ?_ _ | refine blk_drew ?_ | refine blk_alloc ?_ _)); exact BK106.out), (by (with_reducible repeat (first | refine blk_drewN ?_ _ | refine blk_drew ?_ | refine blk_alloc ?_ _)); exact BK107.out), GW106.out, GE106.out, NB107_106.out, NB106_107.out, GW107.out, GE107.out, (by repeat (first | (with_reducible first | exact HB.out | apply below_alloc | apply pw_below_drewN | apply below_drew1 | refine below_set ?_ GE107.out | refine below_set ?_ GE106.out) | exact HB.out))⟩)
      rintro ⟨gb106, gb107⟩ w31 ⟨hS_, h0_, h1_, h2_, h3_, h4_, h5_, h6_, h7_, h8_⟩
      have n0_ : Aside0 (w31.heap[gb106]? = some (.cells #[.bool false, .string (⟨#[]⟩ : ByteArray), .int .i64 0, .float .f64 0, .bool false] 39 (0, 0))) := ⟨h0_⟩
      have n1_ : Aside0 (w31.heap[gb107]? = some (.cells #[.bool false, .string (⟨#[]⟩ : ByteArray), .int .i64 0, .float .f64 0, .bool false] 39 (0, 0))) := ⟨h1_⟩
      have n2_ : Aside0 (w.heap.size ≤ gb106) := ⟨h2_⟩
      have n3_ : Aside0 (w.heap.size ≤ gb106) := ⟨h3_⟩
      have n4_ : Aside0 (gb107 ≠ gb106) := ⟨h4_⟩
      have n5_ : Aside0 (gb106 ≠ gb107) := ⟨h5_⟩
      have n6_ : Aside0 (w.heap.size ≤ gb107) := ⟨h6_⟩
      have n7_ : Aside0 (w.heap.size ≤ gb107) := ⟨h7_⟩
      have n8_ : Aside0 (Below w.heap.size w w31) := ⟨h8_⟩
      clear HB
      clear h0_ h1_ h2_ h3_ h4_ h5_ h6_ h7_ h8_
      have BK106 := n0_
      have BK107 := n1_
      have GW106 := n2_
      have GE106 := n3_
      have NB107_106 := n4_
      have NB106_107 := n5_
      have GW107 := n6_
      have GE107 := n7_
      have HB := n8_
      clear n0_ n1_ n2_ n3_ n4_ n5_ n6_ n7_ n8_
      have hHeld : w31.cell? (ad104.add ((x5_1).toNat * 5)) = some (.bool ((rd_T39 l0 x5_1).f0)) ∧ w31.cell? ⟨(ad104.add ((x5_1).toNat * 5)).block, (ad104.add ((x5_1).toNat * 5)).off + 1, none⟩ = some (.string ((rd_T39 l0 x5_1).f1)) ∧ w31.cell? ⟨(ad104.add ((x5_1).toNat * 5)).block, (ad104.add ((x5_1).toNat * 5)).off + 2, none⟩ = some (.int .i64 ((rd_T39 l0 x5_1).f2)) ∧ w31.cell? ⟨(ad104.add ((x5_1).toNat * 5)).block, (ad104.add ((x5_1).toNat * 5)).off + 3, none⟩ = some (.float .f64 ((rd_T39 l0 x5_1).f3)) ∧ w31.cell? ⟨(ad104.add ((x5_1).toNat * 5)).block, (ad104.add ((x5_1).toNat * 5)).off + 4, none⟩ = some (.bool ((rd_T39 l0 x5_1).f4)) ∧ w31.cell? (ad105.add ((x5_1).toNat * 5)) = some (.bool ((rd_T39 l1 x5_1).f0)) ∧ w31.cell? ⟨(ad105.add ((x5_1).toNat * 5)).block, (ad105.add ((x5_1).toNat * 5)).off + 1, none⟩ = some (.string ((rd_T39 l1 x5_1).f1)) ∧ w31.cell? ⟨(ad105.add ((x5_1).toNat * 5)).block, (ad105.add ((x5_1).toNat * 5)).off + 2, none⟩ = some (.int .i64 ((rd_T39 l1 x5_1).f2)) ∧ w31.cell? ⟨(ad105.add ((x5_1).toNat * 5)).block, (ad105.add ((x5_1).toNat * 5)).off + 3, none⟩ = some (.float .f64 ((rd_T39 l1 x5_1).f3)) ∧ w31.cell? ⟨(ad105.add ((x5_1).toNat * 5)).block, (ad105.add ((x5_1).toNat * 5)).off + 4, none⟩ = some (.bool ((rd_T39 l1 x5_1).f4)) := hS_
      refine norm_ (a' := ?_) ?_ ?_
      rotate_left
      · simp only [putAll, Act.put, List.setIfInBounds_toArray, List.set_cons_zero, List.set_cons_succ]
        rfl
      refine one_ (i := 10) (N := none) #[true, true, true, true, true, true, true, true, true, true, true, false] rfl rfl (one_of HT_.out (by kernel_rfl)) (by decide) (fun K hK => ?_)
      have hs32 : w31.cell? ⟨gb106, 0, none⟩ = some (.bool false) := (blk_cell BK106.out 0).trans rfl
      have hfs32 := blk_frozen BK106.out 0
      have hns32_1 := NB107_106.out
      have hms32_1 := NB106_107.out
      have hs33 : w31.cell? ⟨gb106, 1, none⟩ = some (.string (⟨#[]⟩ : ByteArray)) := (blk_cell BK106.out 1).trans rfl
      have hfs33 := blk_frozen BK106.out 1
      have hns33_1 := NB107_106.out
      have hms33_1 := NB106_107.out
      have hs34 : w31.cell? ⟨gb106, 2, none⟩ = some (.int .i64 0) := (blk_cell BK106.out 2).trans rfl
      have hfs34 := blk_frozen BK106.out 2
      have hns34_1 := NB107_106.out
      have hms34_1 := NB106_107.out
      have hs35 : w31.cell? ⟨gb106, 3, none⟩ = some (.float .f64 0) := (blk_cell BK106.out 3).trans rfl
      have hfs35 := blk_frozen BK106.out 3
      have hns35_1 := NB107_106.out
      have hms35_1 := NB106_107.out
      have hs36 : w31.cell? ⟨gb106, 4, none⟩ = some (.bool false) := (blk_cell BK106.out 4).trans rfl
      have hfs36 := blk_frozen BK106.out 4
      have hns36_1 := NB107_106.out
      have hms36_1 := NB106_107.out
      refine skip_ (w1 := ?_) (by rfl) rfl ?_ ?_
      rotate_left
      · go_simp
        rfl
      refine hK.out _ _ ⟨((cell_far (p := ⟨gb106, _, none⟩) (by first | exact Nat.ne_of_lt (Nat.lt_of_lt_of_le (by have := World.block_lt_of_cell? _ _ hw104_0; first | rwa [add_block] at this | exact this) GW106.out) | (rw [add_block]; exact Nat.ne_of_lt (Nat.lt_of_lt_of_le (by have := World.block_lt_of_cell? _ _ hw104_0; first | rwa [add_block] at this | exact this) GW106.out)) | (show (Addr.add _ _).block ≠ _; rw [add_block]; exact Nat.ne_of_lt (Nat.lt_of_lt_of_le (by have := World.block_lt_of_cell? _ _ hw104_0; first | rwa [add_block] at this | exact this) GW106.out)) | (dsimp only; exact Nat.ne_of_lt (Nat.lt_of_lt_of_le (by have := World.block_lt_of_cell? _ _ hw104_0; first | rwa [add_block] at this | exact this) GW106.out))) _).trans (((cell_far (p := ⟨gb106, _, none⟩) (by first | exact Nat.ne_of_lt (Nat.lt_of_lt_of_le (by have := World.block_lt_of_cell? _ _ hw104_0; first | rwa [add_block] at this | exact this) GW106.out) | (rw [add_block]; exact Nat.ne_of_lt (Nat.lt_of_lt_of_le (by have := World.block_lt_of_cell? _ _ hw104_0; first | rwa [add_block] at this | exact this) GW106.out)) | (show (Addr.add _ _).block ≠ _; rw [add_block]; exact Nat.ne_of_lt (Nat.lt_of_lt_of_le (by have := World.block_lt_of_cell? _ _ hw104_0; first | rwa [add_block] at this | exact this) GW106.out)) | (dsimp only; exact Nat.ne_of_lt (Nat.lt_of_lt_of_le (by have := World.block_lt_of_cell? _ _ hw104_0; first | rwa [add_block] at this | exact this) GW106.out))) _).trans (((cell_far (p := ⟨gb106, _, none⟩) (by first | exact Nat.ne_of_lt (Nat.lt_of_lt_of_le (by have := World.block_lt_of_cell? _ _ hw104_0; first | rwa [add_block] at this | exact this) GW106.out) | (rw [add_block]; exact Nat.ne_of_lt (Nat.lt_of_lt_of_le (by have := World.block_lt_of_cell? _ _ hw104_0; first | rwa [add_block] at this | exact this) GW106.out)) | (show (Addr.add _ _).block ≠ _; rw [add_block]; exact Nat.ne_of_lt (Nat.lt_of_lt_of_le (by have := World.block_lt_of_cell? _ _ hw104_0; first | rwa [add_block] at this | exact this) GW106.out)) | (dsimp only; exact Nat.ne_of_lt (Nat.lt_of_lt_of_le (by have := World.block_lt_of_cell? _ _ hw104_0; first | rwa [add_block] at this | exact this) GW106.out))) _).trans (((cell_far (p := ⟨gb106, _, none⟩) (by first | exact Nat.ne_of_lt (Nat.lt_of_lt_of_le (by have := World.block_lt_of_cell? _ _ hw104_0; first | rwa [add_block] at this | exact this) GW106.out) | (rw [add_block]; exact Nat.ne_of_lt (Nat.lt_of_lt_of_le (by have := World.block_lt_of_cell? _ _ hw104_0; first | rwa [add_block] at this | exact this) GW106.out)) | (show (Addr.add _ _).block ≠ _; rw [add_block]; exact Nat.ne_of_lt (Nat.lt_of_lt_of_le (by have := World.block_lt_of_cell? _ _ hw104_0; first | rwa [add_block] at this | exact this) GW106.out)) | (dsimp only; exact Nat.ne_of_lt (Nat.lt_of_lt_of_le (by have := World.block_lt_of_cell? _ _ hw104_0; first | rwa [add_block] at this | exact this) GW106.out))) _).trans (((cell_far (p := ⟨gb106, _, none⟩) (by first | exact Nat.ne_of_lt (Nat.lt_of_lt_of_le (by have := World.block_lt_of_cell? _ _ hw104_0; first | rwa [add_block] at this | exact this) GW106.out) | (rw [add_block]; exact Nat.ne_of_lt (Nat.lt_of_lt_of_le (by have := World.block_lt_of_cell? _ _ hw104_0; first | rwa [add_block] at this | exact this) GW106.out)) | (show (Addr.add _ _).block ≠ _; rw [add_block]; exact Nat.ne_of_lt (Nat.lt_of_lt_of_le (by have := World.block_lt_of_cell? _ _ hw104_0; first | rwa [add_block] at this | exact this) GW106.out)) | (dsimp only; exact Nat.ne_of_lt (Nat.lt_of_lt_of_le (by have := World.block_lt_of_cell? _ _ hw104_0; first | rwa [add_block] at this | exact this) GW106.out))) _).trans (hHeld.1)))))))))), ((cell_far (p := ⟨gb106, _, none⟩) (by first | exact Nat.ne_of_lt (Nat.lt_of_lt_of_le (by have := World.block_lt_of_cell? _ _ hw104_1; first | rwa [add_block] at this | exact this) GW106.out) | (rw [add_block]; exact Nat.ne_of_lt (Nat.lt_of_lt_of_le (by have := World.block_lt_of_cell? _ _ hw104_1; first | rwa [add_block] at this | exact this) GW106.out)) | (show (Addr.add _ _).block ≠ _; rw [add_block]; exact Nat.ne_of_lt (Nat.lt_of_lt_of_le (by have := World.block_lt_of_cell? _ _ hw104_1; first | rwa [add_block] at this | exact this) GW106.out)) | (dsimp only; exact Nat.ne_of_lt (Nat.lt_of_lt_of_le (by have := World.block_lt_of_cell? _ _ hw104_1; first | rwa [add_block] at this | exact this) GW106.out))) _).trans (((cell_far (p := ⟨gb106, _, none⟩) (by first | exact Nat.ne_of_lt (Nat.lt_of_lt_of_le (by have := World.block_lt_of_cell? _ _ hw104_1; first | rwa [add_block] at this | exact this) GW106.out) | (rw [add_block]; exact Nat.ne_of_lt (Nat.lt_of_lt_of_le (by have := World.block_lt_of_cell? _ _ hw104_1; first | rwa [add_block] at this | exact this) GW106.out)) | (show (Addr.add _ _).block ≠ _; rw [add_block]; exact Nat.ne_of_lt (Nat.lt_of_lt_of_le (by have := World.block_lt_of_cell? _ _ hw104_1; first | rwa [add_block] at this | exact this) GW106.out)) | (dsimp only; exact Nat.ne_of_lt (Nat.lt_of_lt_of_le (by have := World.block_lt_of_cell? _ _ hw104_1; first | rwa [add_block] at this | exact this) GW106.out))) _).trans (((cell_far (p := ⟨gb106, _, none⟩) (by first | exact Nat.ne_of_lt (Nat.lt_of_lt_of_le (by have := World.block_lt_of_cell? _ _ hw104_1; first | rwa [add_block] at this | exact this) GW106.out) | (rw [add_block]; exact Nat.ne_of_lt (Nat.lt_of_lt_of_le (by have := World.block_lt_of_cell? _ _ hw104_1; first | rwa [add_block] at this | exact this) GW106.out)) | (show (Addr.add _ _).block ≠ _; rw [add_block]; exact Nat.ne_of_lt (Nat.lt_of_lt_of_le (by have := World.block_lt_of_cell? _ _ hw104_1; first | rwa [add_block] at this | exact this) GW106.out)) | (dsimp only; exact Nat.ne_of_lt (Nat.lt_of_lt_of_le (by have := World.block_lt_of_cell? _ _ hw104_1; first | rwa [add_block] at this | exact this) GW106.out))) _).trans (((cell_far (p := ⟨gb106, _, none⟩) (by first | exact Nat.ne_of_lt (Nat.lt_of_lt_of_le (by have := World.block_lt_of_cell? _ _ hw104_1; first | rwa [add_block] at this | exact this) GW106.out) | (rw [add_block]; exact Nat.ne_of_lt (Nat.lt_of_lt_of_le (by have := World.block_lt_of_cell? _ _ hw104_1; first | rwa [add_block] at this | exact this) GW106.out)) | (show (Addr.add _ _).block ≠ _; rw [add_block]; exact Nat.ne_of_lt (Nat.lt_of_lt_of_le (by have := World.block_lt_of_cell? _ _ hw104_1; first | rwa [add_block] at this | exact this) GW106.out)) | (dsimp only; exact Nat.ne_of_lt (Nat.lt_of_lt_of_le (by have := World.block_lt_of_cell? _ _ hw104_1; first | rwa [add_block] at this | exact this) GW106.out))) _).trans (((cell_far (p := ⟨gb106, _, none⟩) (by first | exact Nat.ne_of_lt (Nat.lt_of_lt_of_le (by have := World.block_lt_of_cell? _ _ hw104_1; first | rwa [add_block] at this | exact this) GW106.out) | (rw [add_block]; exact Nat.ne_of_lt (Nat.lt_of_lt_of_le (by have := World.block_lt_of_cell? _ _ hw104_1; first | rwa [add_block] at this | exact this) GW106.out)) | (show (Addr.add _ _).block ≠ _; rw [add_block]; exact Nat.ne_of_lt (Nat.lt_of_lt_of_le (by have := World.block_lt_of_cell? _ _ hw104_1; first | rwa [add_block] at this | exact this) GW106.out)) | (dsimp only; exact Nat.ne_of_lt (Nat.lt_of_lt_of_le (by have := World.block_lt_of_cell? _ _ hw104_1; first | rwa [add_block] at this | exact this) GW106.out))) _).trans (hHeld.2.1)))))))))), ((cell_far (p := ⟨gb106, _, none⟩) (by first | exact Nat.ne_of_lt (Nat.lt_of_lt_of_le (by have := World.block_lt_of_cell? _ _ hw104_2; first | rwa [add_block] at this | exact this) GW106.out) | (rw [add_block]; exact Nat.ne_of_lt (Nat.lt_of_lt_of_le (by have := World.block_lt_of_cell? _ _ hw104_2; first | rwa [add_block] at this | exact this) GW106.out)) | (show (Addr.add _ _).block ≠ _; rw [add_block]; exact Nat.ne_of_lt (Nat.lt_of_lt_of_le (by have := World.block_lt_of_cell? _ _ hw104_2; first | rwa [add_block] at this | exact this) GW106.out)) | (dsimp only; exact Nat.ne_of_lt (Nat.lt_of_lt_of_le (by have := World.block_lt_of_cell? _ _ hw104_2; first | rwa [add_block] at this | exact this) GW106.out))) _).trans (((cell_far (p := ⟨gb106, _, none⟩) (by first | exact Nat.ne_of_lt (Nat.lt_of_lt_of_le (by have := World.block_lt_of_cell? _ _ hw104_2; first | rwa [add_block] at this | exact this) GW106.out) | (rw [add_block]; exact Nat.ne_of_lt (Nat.lt_of_lt_of_le (by have := World.block_lt_of_cell? _ _ hw104_2; first | rwa [add_block] at this | exact this) GW106.out)) | (show (Addr.add _ _).block ≠ _; rw [add_block]; exact Nat.ne_of_lt (Nat.lt_of_lt_of_le (by have := World.block_lt_of_cell? _ _ hw104_2; first | rwa [add_block] at this | exact this) GW106.out)) | (dsimp only; exact Nat.ne_of_lt (Nat.lt_of_lt_of_le (by have := World.block_lt_of_cell? _ _ hw104_2; first | rwa [add_block] at this | exact this) GW106.out))) _).trans (((cell_far (p := ⟨gb106, _, none⟩) (by first | exact Nat.ne_of_lt (Nat.lt_of_lt_of_le (by have := World.block_lt_of_cell? _ _ hw104_2; first | rwa [add_block] at this | exact this) GW106.out) | (rw [add_block]; exact Nat.ne_of_lt (Nat.lt_of_lt_of_le (by have := World.block_lt_of_cell? _ _ hw104_2; first | rwa [add_block] at this | exact this) GW106.out)) | (show (Addr.add _ _).block ≠ _; rw [add_block]; exact Nat.ne_of_lt (Nat.lt_of_lt_of_le (by have := World.block_lt_of_cell? _ _ hw104_2; first | rwa [add_block] at this | exact this) GW106.out)) | (dsimp only; exact Nat.ne_of_lt (Nat.lt_of_lt_of_le (by have := World.block_lt_of_cell? _ _ hw104_2; first | rwa [add_block] at this | exact this) GW106.out))) _).trans (((cell_far (p := ⟨gb106, _, none⟩) (by first | exact Nat.ne_of_lt (Nat.lt_of_lt_of_le (by have := World.block_lt_of_cell? _ _ hw104_2; first | rwa [add_block] at this | exact this) GW106.out) | (rw [add_block]; exact Nat.ne_of_lt (Nat.lt_of_lt_of_le (by have := World.block_lt_of_cell? _ _ hw104_2; first | rwa [add_block] at this | exact this) GW106.out)) | (show (Addr.add _ _).block ≠ _; rw [add_block]; exact Nat.ne_of_lt (Nat.lt_of_lt_of_le (by have := World.block_lt_of_cell? _ _ hw104_2; first | rwa [add_block] at this | exact this) GW106.out)) | (dsimp only; exact Nat.ne_of_lt (Nat.lt_of_lt_of_le (by have := World.block_lt_of_cell? _ _ hw104_2; first | rwa [add_block] at this | exact this) GW106.out))) _).trans (((cell_far (p := ⟨gb106, _, none⟩) (by first | exact Nat.ne_of_lt (Nat.lt_of_lt_of_le (by have := World.block_lt_of_cell? _ _ hw104_2; first | rwa [add_block] at this | exact this) GW106.out) | (rw [add_block]; exact Nat.ne_of_lt (Nat.lt_of_lt_of_le (by have := World.block_lt_of_cell? _ _ hw104_2; first | rwa [add_block] at this | exact this) GW106.out)) | (show (Addr.add _ _).block ≠ _; rw [add_block]; exact Nat.ne_of_lt (Nat.lt_of_lt_of_le (by have := World.block_lt_of_cell? _ _ hw104_2; first | rwa [add_block] at this | exact this) GW106.out)) | (dsimp only; exact Nat.ne_of_lt (Nat.lt_of_lt_of_le (by have := World.block_lt_of_cell? _ _ hw104_2; first | rwa [add_block] at this | exact this) GW106.out))) _).trans (hHeld.2.2.1)))))))))), ((cell_far (p := ⟨gb106, _, none⟩) (by first | exact Nat.ne_of_lt (Nat.lt_of_lt_of_le (by have := World.block_lt_of_cell? _ _ hw104_3; first | rwa [add_block] at this | exact this) GW106.out) | (rw [add_block]; exact Nat.ne_of_lt (Nat.lt_of_lt_of_le (by have := World.block_lt_of_cell? _ _ hw104_3; first | rwa [add_block] at this | exact this) GW106.out)) | (show (Addr.add _ _).block ≠ _; rw [add_block]; exact Nat.ne_of_lt (Nat.lt_of_lt_of_le (by have := World.block_lt_of_cell? _ _ hw104_3; first | rwa [add_block] at this | exact this) GW106.out)) | (dsimp only; exact Nat.ne_of_lt (Nat.lt_of_lt_of_le (by have := World.block_lt_of_cell? _ _ hw104_3; first | rwa [add_block] at this | exact this) GW106.out))) _).trans (((cell_far (p := ⟨gb106, _, none⟩) (by first | exact Nat.ne_of_lt (Nat.lt_of_lt_of_le (by have := World.block_lt_of_cell? _ _ hw104_3; first | rwa [add_block] at this | exact this) GW106.out) | (rw [add_block]; exact Nat.ne_of_lt (Nat.lt_of_lt_of_le (by have := World.block_lt_of_cell? _ _ hw104_3; first | rwa [add_block] at this | exact this) GW106.out)) | (show (Addr.add _ _).block ≠ _; rw [add_block]; exact Nat.ne_of_lt (Nat.lt_of_lt_of_le (by have := World.block_lt_of_cell? _ _ hw104_3; first | rwa [add_block] at this | exact this) GW106.out)) | (dsimp only; exact Nat.ne_of_lt (Nat.lt_of_lt_of_le (by have := World.block_lt_of_cell? _ _ hw104_3; first | rwa [add_block] at this | exact this) GW106.out))) _).trans (((cell_far (p := ⟨gb106, _, none⟩) (by first | exact Nat.ne_of_lt (Nat.lt_of_lt_of_le (by have := World.block_lt_of_cell? _ _ hw104_3; first | rwa [add_block] at this | exact this) GW106.out) | (rw [add_block]; exact Nat.ne_of_lt (Nat.lt_of_lt_of_le (by have := World.block_lt_of_cell? _ _ hw104_3; first | rwa [add_block] at this | exact this) GW106.out)) | (show (Addr.add _ _).block ≠ _; rw [add_block]; exact Nat.ne_of_lt (Nat.lt_of_lt_of_le (by have := World.block_lt_of_cell? _ _ hw104_3; first | rwa [add_block] at this | exact this) GW106.out)) | (dsimp only; exact Nat.ne_of_lt (Nat.lt_of_lt_of_le (by have := World.block_lt_of_cell? _ _ hw104_3; first | rwa [add_block] at this | exact this) GW106.out))) _).trans (((cell_far (p := ⟨gb106, _, none⟩) (by first | exact Nat.ne_of_lt (Nat.lt_of_lt_of_le (by have := World.block_lt_of_cell? _ _ hw104_3; first | rwa [add_block] at this | exact this) GW106.out) | (rw [add_block]; exact Nat.ne_of_lt (Nat.lt_of_lt_of_le (by have := World.block_lt_of_cell? _ _ hw104_3; first | rwa [add_block] at this | exact this) GW106.out)) | (show (Addr.add _ _).block ≠ _; rw [add_block]; exact Nat.ne_of_lt (Nat.lt_of_lt_of_le (by have := World.block_lt_of_cell? _ _ hw104_3; first | rwa [add_block] at this | exact this) GW106.out)) | (dsimp only; exact Nat.ne_of_lt (Nat.lt_of_lt_of_le (by have := World.block_lt_of_cell? _ _ hw104_3; first | rwa [add_block] at this | exact this) GW106.out))) _).trans (((cell_far (p := ⟨gb106, _, none⟩) (by first | exact Nat.ne_of_lt (Nat.lt_of_lt_of_le (by have := World.block_lt_of_cell? _ _ hw104_3; first | rwa [add_block] at this | exact this) GW106.out) | (rw [add_block]; exact Nat.ne_of_lt (Nat.lt_of_lt_of_le (by have := World.block_lt_of_cell? _ _ hw104_3; first | rwa [add_block] at this | exact this) GW106.out)) | (show (Addr.add _ _).block ≠ _; rw [add_block]; exact Nat.ne_of_lt (Nat.lt_of_lt_of_le (by have := World.block_lt_of_cell? _ _ hw104_3; first | rwa [add_block] at this | exact this) GW106.out)) | (dsimp only; exact Nat.ne_of_lt (Nat.lt_of_lt_of_le (by have := World.block_lt_of_cell? _ _ hw104_3; first | rwa [add_block] at this | exact this) GW106.out))) _).trans (hHeld.2.2.2.1)))))))))), ((cell_far (p := ⟨gb106, _, none⟩) (by first | exact Nat.ne_of_lt (Nat.lt_of_lt_of_le (by have := World.block_lt_of_cell? _ _ hw104_4; first | rwa [add_block] at this | exact this) GW106.out) | (rw [add_block]; exact Nat.ne_of_lt (Nat.lt_of_lt_of_le (by have := World.block_lt_of_cell? _ _ hw104_4; first | rwa [add_block] at this | exact this) GW106.out)) | (show (Addr.add _ _).block ≠ _; rw [add_block]; exact Nat.ne_of_lt (Nat.lt_of_lt_of_le (by have := World.block_lt_of_cell? _ _ hw104_4; first | rwa [add_block] at this | exact this) GW106.out)) | (dsimp only; exact Nat.ne_of_lt (Nat.lt_of_lt_of_le (by have := World.block_lt_of_cell? _ _ hw104_4; first | rwa [add_block] at this | exact this) GW106.out))) _).trans (((cell_far (p := ⟨gb106, _, none⟩) (by first | exact Nat.ne_of_lt (Nat.lt_of_lt_of_le (by have := World.block_lt_of_cell? _ _ hw104_4; first | rwa [add_block] at this | exact this) GW106.out) | (rw [add_block]; exact Nat.ne_of_lt (Nat.lt_of_lt_of_le (by have := World.block_lt_of_cell? _ _ hw104_4; first | rwa [add_block] at this | exact this) GW106.out)) | (show (Addr.add _ _).block ≠ _; rw [add_block]; exact Nat.ne_of_lt (Nat.lt_of_lt_of_le (by have := World.block_lt_of_cell? _ _ hw104_4; first | rwa [add_block] at this | exact this) GW106.out)) | (dsimp only; exact Nat.ne_of_lt (Nat.lt_of_lt_of_le (by have := World.block_lt_of_cell? _ _ hw104_4; first | rwa [add_block] at this | exact this) GW106.out))) _).trans (((cell_far (p := ⟨gb106, _, none⟩) (by first | exact Nat.ne_of_lt (Nat.lt_of_lt_of_le (by have := World.block_lt_of_cell? _ _ hw104_4; first | rwa [add_block] at this | exact this) GW106.out) | (rw [add_block]; exact Nat.ne_of_lt (Nat.lt_of_lt_of_le (by have := World.block_lt_of_cell? _ _ hw104_4; first | rwa [add_block] at this | exact this) GW106.out)) | (show (Addr.add _ _).block ≠ _; rw [add_block]; exact Nat.ne_of_lt (Nat.lt_of_lt_of_le (by have := World.block_lt_of_cell? _ _ hw104_4; first | rwa [add_block] at this | exact this) GW106.out)) | (dsimp only; exact Nat.ne_of_lt (Nat.lt_of_lt_of_le (by have := World.block_lt_of_cell? _ _ hw104_4; first | rwa [add_block] at this | exact this) GW106.out))) _).trans (((cell_far (p := ⟨gb106, _, none⟩) (by first | exact Nat.ne_of_lt (Nat.lt_of_lt_of_le (by have := World.block_lt_of_cell? _ _ hw104_4; first | rwa [add_block] at this | exact this) GW106.out) | (rw [add_block]; exact Nat.ne_of_lt (Nat.lt_of_lt_of_le (by have := World.block_lt_of_cell? _ _ hw104_4; first | rwa [add_block] at this | exact this) GW106.out)) | (show (Addr.add _ _).block ≠ _; rw [add_block]; exact Nat.ne_of_lt (Nat.lt_of_lt_of_le (by have := World.block_lt_of_cell? _ _ hw104_4; first | rwa [add_block] at this | exact this) GW106.out)) | (dsimp only; exact Nat.ne_of_lt (Nat.lt_of_lt_of_le (by have := World.block_lt_of_cell? _ _ hw104_4; first | rwa [add_block] at this | exact this) GW106.out))) _).trans (((cell_far (p := ⟨gb106, _, none⟩) (by first | exact Nat.ne_of_lt (Nat.lt_of_lt_of_le (by have := World.block_lt_of_cell? _ _ hw104_4; first | rwa [add_block] at this | exact this) GW106.out) | (rw [add_block]; exact Nat.ne_of_lt (Nat.lt_of_lt_of_le (by have := World.block_lt_of_cell? _ _ hw104_4; first | rwa [add_block] at this | exact this) GW106.out)) | (show (Addr.add _ _).block ≠ _; rw [add_block]; exact Nat.ne_of_lt (Nat.lt_of_lt_of_le (by have := World.block_lt_of_cell? _ _ hw104_4; first | rwa [add_block] at this | exact this) GW106.out)) | (dsimp only; exact Nat.ne_of_lt (Nat.lt_of_lt_of_le (by have := World.block_lt_of_cell? _ _ hw104_4; first | rwa [add_block] at this | exact this) GW106.out))) _).trans (hHeld.2.2.2.2.1)))))))))), ((cell_far (p := ⟨gb106, _, none⟩) (by first | exact Nat.ne_of_lt (Nat.lt_of_lt_of_le (by have := World.block_lt_of_cell? _ _ hw105_0; first | rwa [add_block] at this | exact this) GW106.out) | (rw [add_block]; exact Nat.ne_of_lt (Nat.lt_of_lt_of_le (by have := World.block_lt_of_cell? _ _ hw105_0; first | rwa [add_block] at this | exact this) GW106.out)) | (show (Addr.add _ _).block ≠ _; rw [add_block]; exact Nat.ne_of_lt (Nat.lt_of_lt_of_le (by have := World.block_lt_of_cell? _ _ hw105_0; first | rwa [add_block] at this | exact this) GW106.out)) | (dsimp only; exact Nat.ne_of_lt (Nat.lt_of_lt_of_le (by have := World.block_lt_of_cell? _ _ hw105_0; first | rwa [add_block] at this | exact this) GW106.out))) _).trans (((cell_far (p := ⟨gb106, _, none⟩) (by first | exact Nat.ne_of_lt (Nat.lt_of_lt_of_le (by have := World.block_lt_of_cell? _ _ hw105_0; first | rwa [add_block] at this | exact this) GW106.out) | (rw [add_block]; exact Nat.ne_of_lt (Nat.lt_of_lt_of_le (by have := World.block_lt_of_cell? _ _ hw105_0; first | rwa [add_block] at this | exact this) GW106.out)) | (show (Addr.add _ _).block ≠ _; rw [add_block]; exact Nat.ne_of_lt (Nat.lt_of_lt_of_le (by have := World.block_lt_of_cell? _ _ hw105_0; first | rwa [add_block] at this | exact this) GW106.out)) | (dsimp only; exact Nat.ne_of_lt (Nat.lt_of_lt_of_le (by have := World.block_lt_of_cell? _ _ hw105_0; first | rwa [add_block] at this | exact this) GW106.out))) _).trans (((cell_far (p := ⟨gb106, _, none⟩) (by first | exact Nat.ne_of_lt (Nat.lt_of_lt_of_le (by have := World.block_lt_of_cell? _ _ hw105_0; first | rwa [add_block] at this | exact this) GW106.out) | (rw [add_block]; exact Nat.ne_of_lt (Nat.lt_of_lt_of_le (by have := World.block_lt_of_cell? _ _ hw105_0; first | rwa [add_block] at this | exact this) GW106.out)) | (show (Addr.add _ _).block ≠ _; rw [add_block]; exact Nat.ne_of_lt (Nat.lt_of_lt_of_le (by have := World.block_lt_of_cell? _ _ hw105_0; first | rwa [add_block] at this | exact this) GW106.out)) | (dsimp only; exact Nat.ne_of_lt (Nat.lt_of_lt_of_le (by have := World.block_lt_of_cell? _ _ hw105_0; first | rwa [add_block] at this | exact this) GW106.out))) _).trans (((cell_far (p := ⟨gb106, _, none⟩) (by first | exact Nat.ne_of_lt (Nat.lt_of_lt_of_le (by have := World.block_lt_of_cell? _ _ hw105_0; first | rwa [add_block] at this | exact this) GW106.out) | (rw [add_block]; exact Nat.ne_of_lt (Nat.lt_of_lt_of_le (by have := World.block_lt_of_cell? _ _ hw105_0; first | rwa [add_block] at this | exact this) GW106.out)) | (show (Addr.add _ _).block ≠ _; rw [add_block]; exact Nat.ne_of_lt (Nat.lt_of_lt_of_le (by have := World.block_lt_of_cell? _ _ hw105_0; first | rwa [add_block] at this | exact this) GW106.out)) | (dsimp only; exact Nat.ne_of_lt (Nat.lt_of_lt_of_le (by have := World.block_lt_of_cell? _ _ hw105_0; first | rwa [add_block] at this | exact this) GW106.out))) _).trans (((cell_far (p := ⟨gb106, _, none⟩) (by first | exact Nat.ne_of_lt (Nat.lt_of_lt_of_le (by have := World.block_lt_of_cell? _ _ hw105_0; first | rwa [add_block] at this | exact this) GW106.out) | (rw [add_block]; exact Nat.ne_of_lt (Nat.lt_of_lt_of_le (by have := World.block_lt_of_cell? _ _ hw105_0; first | rwa [add_block] at this | exact this) GW106.out)) | (show (Addr.add _ _).block ≠ _; rw [add_block]; exact Nat.ne_of_lt (Nat.lt_of_lt_of_le (by have := World.block_lt_of_cell? _ _ hw105_0; first | rwa [add_block] at this | exact this) GW106.out)) | (dsimp only; exact Nat.ne_of_lt (Nat.lt_of_lt_of_le (by have := World.block_lt_of_cell? _ _ hw105_0; first | rwa [add_block] at this | exact this) GW106.out))) _).trans (hHeld.2.2.2.2.2.1)))))))))), ((cell_far (p := ⟨gb106, _, none⟩) (by first | exact Nat.ne_of_lt (Nat.lt_of_lt_of_le (by have := World.block_lt_of_cell? _ _ hw105_1; first | rwa [add_block] at this | exact this) GW106.out) | (rw [add_block]; exact Nat.ne_of_lt (Nat.lt_of_lt_of_le (by have := World.block_lt_of_cell? _ _ hw105_1; first | rwa [add_block] at this | exact this) GW106.out)) | (show (Addr.add _ _).block ≠ _; rw [add_block]; exact Nat.ne_of_lt (Nat.lt_of_lt_of_le (by have := World.block_lt_of_cell? _ _ hw105_1; first | rwa [add_block] at this | exact this) GW106.out)) | (dsimp only; exact Nat.ne_of_lt (Nat.lt_of_lt_of_le (by have := World.block_lt_of_cell? _ _ hw105_1; first | rwa [add_block] at this | exact this) GW106.out))) _).trans (((cell_far (p := ⟨gb106, _, none⟩) (by first | exact Nat.ne_of_lt (Nat.lt_of_lt_of_le (by have := World.block_lt_of_cell? _ _ hw105_1; first | rwa [add_block] at this | exact this) GW106.out) | (rw [add_block]; exact Nat.ne_of_lt (Nat.lt_of_lt_of_le (by have := World.block_lt_of_cell? _ _ hw105_1; first | rwa [add_block] at this | exact this) GW106.out)) | (show (Addr.add _ _).block ≠ _; rw [add_block]; exact Nat.ne_of_lt (Nat.lt_of_lt_of_le (by have := World.block_lt_of_cell? _ _ hw105_1; first | rwa [add_block] at this | exact this) GW106.out)) | (dsimp only; exact Nat.ne_of_lt (Nat.lt_of_lt_of_le (by have := World.block_lt_of_cell? _ _ hw105_1; first | rwa [add_block] at this | exact this) GW106.out))) _).trans (((cell_far (p := ⟨gb106, _, none⟩) (by first | exact Nat.ne_of_lt (Nat.lt_of_lt_of_le (by have := World.block_lt_of_cell? _ _ hw105_1; first | rwa [add_block] at this | exact this) GW106.out) | (rw [add_block]; exact Nat.ne_of_lt (Nat.lt_of_lt_of_le (by have := World.block_lt_of_cell? _ _ hw105_1; first | rwa [add_block] at this | exact this) GW106.out)) | (show (Addr.add _ _).block ≠ _; rw [add_block]; exact Nat.ne_of_lt (Nat.lt_of_lt_of_le (by have := World.block_lt_of_cell? _ _ hw105_1; first | rwa [add_block] at this | exact this) GW106.out)) | (dsimp only; exact Nat.ne_of_lt (Nat.lt_of_lt_of_le (by have := World.block_lt_of_cell? _ _ hw105_1; first | rwa [add_block] at this | exact this) GW106.out))) _).trans (((cell_far (p := ⟨gb106, _, none⟩) (by first | exact Nat.ne_of_lt (Nat.lt_of_lt_of_le (by have := World.block_lt_of_cell? _ _ hw105_1; first | rwa [add_block] at this | exact this) GW106.out) | (rw [add_block]; exact Nat.ne_of_lt (Nat.lt_of_lt_of_le (by have := World.block_lt_of_cell? _ _ hw105_1; first | rwa [add_block] at this | exact this) GW106.out)) | (show (Addr.add _ _).block ≠ _; rw [add_block]; exact Nat.ne_of_lt (Nat.lt_of_lt_of_le (by have := World.block_lt_of_cell? _ _ hw105_1; first | rwa [add_block] at this | exact this) GW106.out)) | (dsimp only; exact Nat.ne_of_lt (Nat.lt_of_lt_of_le (by have := World.block_lt_of_cell? _ _ hw105_1; first | rwa [add_block] at this | exact this) GW106.out))) _).trans (((cell_far (p := ⟨gb106, _, none⟩) (by first | exact Nat.ne_of_lt (Nat.lt_of_lt_of_le (by have := World.block_lt_of_cell? _ _ hw105_1; first | rwa [add_block] at this | exact this) GW106.out) | (rw [add_block]; exact Nat.ne_of_lt (Nat.lt_of_lt_of_le (by have := World.block_lt_of_cell? _ _ hw105_1; first | rwa [add_block] at this | exact this) GW106.out)) | (show (Addr.add _ _).block ≠ _; rw [add_block]; exact Nat.ne_of_lt (Nat.lt_of_lt_of_le (by have := World.block_lt_of_cell? _ _ hw105_1; first | rwa [add_block] at this | exact this) GW106.out)) | (dsimp only; exact Nat.ne_of_lt (Nat.lt_of_lt_of_le (by have := World.block_lt_of_cell? _ _ hw105_1; first | rwa [add_block] at this | exact this) GW106.out))) _).trans (hHeld.2.2.2.2.2.2.1)))))))))), ((cell_far (p := ⟨gb106, _, none⟩) (by first | exact Nat.ne_of_lt (Nat.lt_of_lt_of_le (by have := World.block_lt_of_cell? _ _ hw105_2; first | rwa [add_block] at this | exact this) GW106.out) | (rw [add_block]; exact Nat.ne_of_lt (Nat.lt_of_lt_of_le (by have := World.block_lt_of_cell? _ _ hw105_2; first | rwa [add_block] at this | exact this) GW106.out)) | (show (Addr.add _ _).block ≠ _; rw [add_block]; exact Nat.ne_of_lt (Nat.lt_of_lt_of_le (by have := World.block_lt_of_cell? _ _ hw105_2; first | rwa [add_block] at this | exact this) GW106.out)) | (dsimp only; exact Nat.ne_of_lt (Nat.lt_of_lt_of_le (by have := World.block_lt_of_cell? _ _ hw105_2; first | rwa [add_block] at this | exact this) GW106.out))) _).trans (((cell_far (p := ⟨gb106, _, none⟩) (by first | exact Nat.ne_of_lt (Nat.lt_of_lt_of_le (by have := World.block_lt_of_cell? _ _ hw105_2; first | rwa [add_block] at this | exact this) GW106.out) | (rw [add_block]; exact Nat.ne_of_lt (Nat.lt_of_lt_of_le (by have := World.block_lt_of_cell? _ _ hw105_2; first | rwa [add_block] at this | exact this) GW106.out)) | (show (Addr.add _ _).block ≠ _; rw [add_block]; exact Nat.ne_of_lt (Nat.lt_of_lt_of_le (by have := World.block_lt_of_cell? _ _ hw105_2; first | rwa [add_block] at this | exact this) GW106.out)) | (dsimp only; exact Nat.ne_of_lt (Nat.lt_of_lt_of_le (by have := World.block_lt_of_cell? _ _ hw105_2; first | rwa [add_block] at this | exact this) GW106.out))) _).trans (((cell_far (p := ⟨gb106, _, none⟩) (by first | exact Nat.ne_of_lt (Nat.lt_of_lt_of_le (by have := World.block_lt_of_cell? _ _ hw105_2; first | rwa [add_block] at this | exact this) GW106.out) | (rw [add_block]; exact Nat.ne_of_lt (Nat.lt_of_lt_of_le (by have := World.block_lt_of_cell? _ _ hw105_2; first | rwa [add_block] at this | exact this) GW106.out)) | (show (Addr.add _ _).block ≠ _; rw [add_block]; exact Nat.ne_of_lt (Nat.lt_of_lt_of_le (by have := World.block_lt_of_cell? _ _ hw105_2; first | rwa [add_block] at this | exact this) GW106.out)) | (dsimp only; exact Nat.ne_of_lt (Nat.lt_of_lt_of_le (by have := World.block_lt_of_cell? _ _ hw105_2; first | rwa [add_block] at this | exact this) GW106.out))) _).trans (((cell_far (p := ⟨gb106, _, none⟩) (by first | exact Nat.ne_of_lt (Nat.lt_of_lt_of_le (by have := World.block_lt_of_cell? _ _ hw105_2; first | rwa [add_block] at this | exact this) GW106.out) | (rw [add_block]; exact Nat.ne_of_lt (Nat.lt_of_lt_of_le (by have := World.block_lt_of_cell? _ _ hw105_2; first | rwa [add_block] at this | exact this) GW106.out)) | (show (Addr.add _ _).block ≠ _; rw [add_block]; exact Nat.ne_of_lt (Nat.lt_of_lt_of_le (by have := World.block_lt_of_cell? _ _ hw105_2; first | rwa [add_block] at this | exact this) GW106.out)) | (dsimp only; exact Nat.ne_of_lt (Nat.lt_of_lt_of_le (by have := World.block_lt_of_cell? _ _ hw105_2; first | rwa [add_block] at this | exact this) GW106.out))) _).trans (((cell_far (p := ⟨gb106, _, none⟩) (by first | exact Nat.ne_of_lt (Nat.lt_of_lt_of_le (by have := World.block_lt_of_cell? _ _ hw105_2; first | rwa [add_block] at this | exact this) GW106.out) | (rw [add_block]; exact Nat.ne_of_lt (Nat.lt_of_lt_of_le (by have := World.block_lt_of_cell? _ _ hw105_2; first | rwa [add_block] at this | exact this) GW106.out)) | (show (Addr.add _ _).block ≠ _; rw [add_block]; exact Nat.ne_of_lt (Nat.lt_of_lt_of_le (by have := World.block_lt_of_cell? _ _ hw105_2; first | rwa [add_block] at this | exact this) GW106.out)) | (dsimp only; exact Nat.ne_of_lt (Nat.lt_of_lt_of_le (by have := World.block_lt_of_cell? _ _ hw105_2; first | rwa [add_block] at this | exact this) GW106.out))) _).trans (hHeld.2.2.2.2.2.2.2.1)))))))))), ((cell_far (p := ⟨gb106, _, none⟩) (by first | exact Nat.ne_of_lt (Nat.lt_of_lt_of_le (by have := World.block_lt_of_cell? _ _ hw105_3; first | rwa [add_block] at this | exact this) GW106.out) | (rw [add_block]; exact Nat.ne_of_lt (Nat.lt_of_lt_of_le (by have := World.block_lt_of_cell? _ _ hw105_3; first | rwa [add_block] at this | exact this) GW106.out)) | (show (Addr.add _ _).block ≠ _; rw [add_block]; exact Nat.ne_of_lt (Nat.lt_of_lt_of_le (by have := World.block_lt_of_cell? _ _ hw105_3; first | rwa [add_block] at this | exact this) GW106.out)) | (dsimp only; exact Nat.ne_of_lt (Nat.lt_of_lt_of_le (by have := World.block_lt_of_cell? _ _ hw105_3; first | rwa [add_block] at this | exact this) GW106.out))) _).trans (((cell_far (p := ⟨gb106, _, none⟩) (by first | exact Nat.ne_of_lt (Nat.lt_of_lt_of_le (by have := World.block_lt_of_cell? _ _ hw105_3; first | rwa [add_block] at this | exact this) GW106.out) | (rw [add_block]; exact Nat.ne_of_lt (Nat.lt_of_lt_of_le (by have := World.block_lt_of_cell? _ _ hw105_3; first | rwa [add_block] at this | exact this) GW106.out)) | (show (Addr.add _ _).block ≠ _; rw [add_block]; exact Nat.ne_of_lt (Nat.lt_of_lt_of_le (by have := World.block_lt_of_cell? _ _ hw105_3; first | rwa [add_block] at this | exact this) GW106.out)) | (dsimp only; exact Nat.ne_of_lt (Nat.lt_of_lt_of_le (by have := World.block_lt_of_cell? _ _ hw105_3; first | rwa [add_block] at this | exact this) GW106.out))) _).trans (((cell_far (p := ⟨gb106, _, none⟩) (by first | exact Nat.ne_of_lt (Nat.lt_of_lt_of_le (by have := World.block_lt_of_cell? _ _ hw105_3; first | rwa [add_block] at this | exact this) GW106.out) | (rw [add_block]; exact Nat.ne_of_lt (Nat.lt_of_lt_of_le (by have := World.block_lt_of_cell? _ _ hw105_3; first | rwa [add_block] at this | exact this) GW106.out)) | (show (Addr.add _ _).block ≠ _; rw [add_block]; exact Nat.ne_of_lt (Nat.lt_of_lt_of_le (by have := World.block_lt_of_cell? _ _ hw105_3; first | rwa [add_block] at this | exact this) GW106.out)) | (dsimp only; exact Nat.ne_of_lt (Nat.lt_of_lt_of_le (by have := World.block_lt_of_cell? _ _ hw105_3; first | rwa [add_block] at this | exact this) GW106.out))) _).trans (((cell_far (p := ⟨gb106, _, none⟩) (by first | exact Nat.ne_of_lt (Nat.lt_of_lt_of_le (by have := World.block_lt_of_cell? _ _ hw105_3; first | rwa [add_block] at this | exact this) GW106.out) | (rw [add_block]; exact Nat.ne_of_lt (Nat.lt_of_lt_of_le (by have := World.block_lt_of_cell? _ _ hw105_3; first | rwa [add_block] at this | exact this) GW106.out)) | (show (Addr.add _ _).block ≠ _; rw [add_block]; exact Nat.ne_of_lt (Nat.lt_of_lt_of_le (by have := World.block_lt_of_cell? _ _ hw105_3; first | rwa [add_block] at this | exact this) GW106.out)) | (dsimp only; exact Nat.ne_of_lt (Nat.lt_of_lt_of_le (by have := World.block_lt_of_cell? _ _ hw105_3; first | rwa [add_block] at this | exact this) GW106.out))) _).trans (((cell_far (p := ⟨gb106, _, none⟩) (by first | exact Nat.ne_of_lt (Nat.lt_of_lt_of_le (by have := World.block_lt_of_cell? _ _ hw105_3; first | rwa [add_block] at this | exact this) GW106.out) | (rw [add_block]; exact Nat.ne_of_lt (Nat.lt_of_lt_of_le (by have := World.block_lt_of_cell? _ _ hw105_3; first | rwa [add_block] at this | exact this) GW106.out)) | (show (Addr.add _ _).block ≠ _; rw [add_block]; exact Nat.ne_of_lt (Nat.lt_of_lt_of_le (by have := World.block_lt_of_cell? _ _ hw105_3; first | rwa [add_block] at this | exact this) GW106.out)) | (dsimp only; exact Nat.ne_of_lt (Nat.lt_of_lt_of_le (by have := World.block_lt_of_cell? _ _ hw105_3; first | rwa [add_block] at this | exact this) GW106.out))) _).trans (hHeld.2.2.2.2.2.2.2.2.1)))))))))), ((cell_far (p := ⟨gb106, _, none⟩) (by first | exact Nat.ne_of_lt (Nat.lt_of_lt_of_le (by have := World.block_lt_of_cell? _ _ hw105_4; first | rwa [add_block] at this | exact this) GW106.out) | (rw [add_block]; exact Nat.ne_of_lt (Nat.lt_of_lt_of_le (by have := World.block_lt_of_cell? _ _ hw105_4; first | rwa [add_block] at this | exact this) GW106.out)) | (show (Addr.add _ _).block ≠ _; rw [add_block]; exact Nat.ne_of_lt (Nat.lt_of_lt_of_le (by have := World.block_lt_of_cell? _ _ hw105_4; first | rwa [add_block] at this | exact this) GW106.out)) | (dsimp only; exact Nat.ne_of_lt (Nat.lt_of_lt_of_le (by have := World.block_lt_of_cell? _ _ hw105_4; first | rwa [add_block] at this | exact this) GW106.out))) _).trans (((cell_far (p := ⟨gb106, _, none⟩) (by first | exact Nat.ne_of_lt (Nat.lt_of_lt_of_le (by have := World.block_lt_of_cell? _ _ hw105_4; first | rwa [add_block] at this | exact this) GW106.out) | (rw [add_block]; exact Nat.ne_of_lt (Nat.lt_of_lt_of_le (by have := World.block_lt_of_cell? _ _ hw105_4; first | rwa [add_block] at this | exact this) GW106.out)) | (show (Addr.add _ _).block ≠ _; rw [add_block]; exact Nat.ne_of_lt (Nat.lt_of_lt_of_le (by have := World.block_lt_of_cell? _ _ hw105_4; first | rwa [add_block] at this | exact this) GW106.out)) | (dsimp only; exact Nat.ne_of_lt (Nat.lt_of_lt_of_le (by have := World.block_lt_of_cell? _ _ hw105_4; first | rwa [add_block] at this | exact this) GW106.out))) _).trans (((cell_far (p := ⟨gb106, _, none⟩) (by first | exact Nat.ne_of_lt (Nat.lt_of_lt_of_le (by have := World.block_lt_of_cell? _ _ hw105_4; first | rwa [add_block] at this | exact this) GW106.out) | (rw [add_block]; exact Nat.ne_of_lt (Nat.lt_of_lt_of_le (by have := World.block_lt_of_cell? _ _ hw105_4; first | rwa [add_block] at this | exact this) GW106.out)) | (show (Addr.add _ _).block ≠ _; rw [add_block]; exact Nat.ne_of_lt (Nat.lt_of_lt_of_le (by have := World.block_lt_of_cell? _ _ hw105_4; first | rwa [add_block] at this | exact this) GW106.out)) | (dsimp only; exact Nat.ne_of_lt (Nat.lt_of_lt_of_le (by have := World.block_lt_of_cell? _ _ hw105_4; first | rwa [add_block] at this | exact this) GW106.out))) _).trans (((cell_far (p := ⟨gb106, _, none⟩) (by first | exact Nat.ne_of_lt (Nat.lt_of_lt_of_le (by have := World.block_lt_of_cell? _ _ hw105_4; first | rwa [add_block] at this | exact this) GW106.out) | (rw [add_block]; exact Nat.ne_of_lt (Nat.lt_of_lt_of_le (by have := World.block_lt_of_cell? _ _ hw105_4; first | rwa [add_block] at this | exact this) GW106.out)) | (show (Addr.add _ _).block ≠ _; rw [add_block]; exact Nat.ne_of_lt (Nat.lt_of_lt_of_le (by have := World.block_lt_of_cell? _ _ hw105_4; first | rwa [add_block] at this | exact this) GW106.out)) | (dsimp only; exact Nat.ne_of_lt (Nat.lt_of_lt_of_le (by have := World.block_lt_of_cell? _ _ hw105_4; first | rwa [add_block] at this | exact this) GW106.out))) _).trans (((cell_far (p := ⟨gb106, _, none⟩) (by first | exact Nat.ne_of_lt (Nat.lt_of_lt_of_le (by have := World.block_lt_of_cell? _ _ hw105_4; first | rwa [add_block] at this | exact this) GW106.out) | (rw [add_block]; exact Nat.ne_of_lt (Nat.lt_of_lt_of_le (by have := World.block_lt_of_cell? _ _ hw105_4; first | rwa [add_block] at this | exact this) GW106.out)) | (show (Addr.add _ _).block ≠ _; rw [add_block]; exact Nat.ne_of_lt (Nat.lt_of_lt_of_le (by have := World.block_lt_of_cell? _ _ hw105_4; first | rwa [add_block] at this | exact this) GW106.out)) | (dsimp only; exact Nat.ne_of_lt (Nat.lt_of_lt_of_le (by have := World.block_lt_of_cell? _ _ hw105_4; first | rwa [add_block] at this | exact this) GW106.out))) _).trans (hHeld.2.2.2.2.2.2.2.2.2))))))))))⟩ (fun hHeld => ?_)
      clear hK K
      refine one_ (i := 11) (N := none) #[true, true, true, true, true, true, true, true, true, true, true, true] rfl rfl (one_of HT_.out (by kernel_rfl)) (by decide) (fun K hK => ?_)
      have hs37 : w31.cell? ⟨gb107, 0, none⟩ = some (.bool false) := (blk_cell BK107.out 0).trans rfl
      have hfs37 := blk_frozen BK107.out 0
      have hns37_0 := NB106_107.out
      have hms37_0 := NB107_106.out
      have hs38 : w31.cell? ⟨gb107, 1, none⟩ = some (.string (⟨#[]⟩ : ByteArray)) := (blk_cell BK107.out 1).trans rfl
      have hfs38 := blk_frozen BK107.out 1
      have hns38_0 := NB106_107.out
      have hms38_0 := NB107_106.out
      have hs39 : w31.cell? ⟨gb107, 2, none⟩ = some (.int .i64 0) := (blk_cell BK107.out 2).trans rfl
      have hfs39 := blk_frozen BK107.out 2
      have hns39_0 := NB106_107.out
      have hms39_0 := NB107_106.out
      have hs40 : w31.cell? ⟨gb107, 3, none⟩ = some (.float .f64 0) := (blk_cell BK107.out 3).trans rfl
      have hfs40 := blk_frozen BK107.out 3
      have hns40_0 := NB106_107.out
      have hms40_0 := NB107_106.out
      have hs41 : w31.cell? ⟨gb107, 4, none⟩ = some (.bool false) := (blk_cell BK107.out 4).trans rfl
      have hfs41 := blk_frozen BK107.out 4
      have hns41_0 := NB106_107.out
      have hms41_0 := NB107_106.out
      refine skip_ (w1 := ?_) (by rfl) rfl ?_ ?_
      rotate_left
      · go_simp
        rfl
      refine hK.out _ _ ⟨((cell_far (p := ⟨gb107, _, none⟩) (by first | exact Nat.ne_of_lt (Nat.lt_of_lt_of_le (by have := World.block_lt_of_cell? _ _ hw104_0; first | rwa [add_block] at this | exact this) GW107.out) | (rw [add_block]; exact Nat.ne_of_lt (Nat.lt_of_lt_of_le (by have := World.block_lt_of_cell? _ _ hw104_0; first | rwa [add_block] at this | exact this) GW107.out)) | (show (Addr.add _ _).block ≠ _; rw [add_block]; exact Nat.ne_of_lt (Nat.lt_of_lt_of_le (by have := World.block_lt_of_cell? _ _ hw104_0; first | rwa [add_block] at this | exact this) GW107.out)) | (dsimp only; exact Nat.ne_of_lt (Nat.lt_of_lt_of_le (by have := World.block_lt_of_cell? _ _ hw104_0; first | rwa [add_block] at this | exact this) GW107.out))) _).trans (((cell_far (p := ⟨gb107, _, none⟩) (by first | exact Nat.ne_of_lt (Nat.lt_of_lt_of_le (by have := World.block_lt_of_cell? _ _ hw104_0; first | rwa [add_block] at this | exact this) GW107.out) | (rw [add_block]; exact Nat.ne_of_lt (Nat.lt_of_lt_of_le (by have := World.block_lt_of_cell? _ _ hw104_0; first | rwa [add_block] at this | exact this) GW107.out)) | (show (Addr.add _ _).block ≠ _; rw [add_block]; exact Nat.ne_of_lt (Nat.lt_of_lt_of_le (by have := World.block_lt_of_cell? _ _ hw104_0; first | rwa [add_block] at this | exact this) GW107.out)) | (dsimp only; exact Nat.ne_of_lt (Nat.lt_of_lt_of_le (by have := World.block_lt_of_cell? _ _ hw104_0; first | rwa [add_block] at this | exact this) GW107.out))) _).trans (((cell_far (p := ⟨gb107, _, none⟩) (by first | exact Nat.ne_of_lt (Nat.lt_of_lt_of_le (by have := World.block_lt_of_cell? _ _ hw104_0; first | rwa [add_block] at this | exact this) GW107.out) | (rw [add_block]; exact Nat.ne_of_lt (Nat.lt_of_lt_of_le (by have := World.block_lt_of_cell? _ _ hw104_0; first | rwa [add_block] at this | exact this) GW107.out)) | (show (Addr.add _ _).block ≠ _; rw [add_block]; exact Nat.ne_of_lt (Nat.lt_of_lt_of_le (by have := World.block_lt_of_cell? _ _ hw104_0; first | rwa [add_block] at this | exact this) GW107.out)) | (dsimp only; exact Nat.ne_of_lt (Nat.lt_of_lt_of_le (by have := World.block_lt_of_cell? _ _ hw104_0; first | rwa [add_block] at this | exact this) GW107.out))) _).trans (((cell_far (p := ⟨gb107, _, none⟩) (by first | exact Nat.ne_of_lt (Nat.lt_of_lt_of_le (by have := World.block_lt_of_cell? _ _ hw104_0; first | rwa [add_block] at this | exact this) GW107.out) | (rw [add_block]; exact Nat.ne_of_lt (Nat.lt_of_lt_of_le (by have := World.block_lt_of_cell? _ _ hw104_0; first | rwa [add_block] at this | exact this) GW107.out)) | (show (Addr.add _ _).block ≠ _; rw [add_block]; exact Nat.ne_of_lt (Nat.lt_of_lt_of_le (by have := World.block_lt_of_cell? _ _ hw104_0; first | rwa [add_block] at this | exact this) GW107.out)) | (dsimp only; exact Nat.ne_of_lt (Nat.lt_of_lt_of_le (by have := World.block_lt_of_cell? _ _ hw104_0; first | rwa [add_block] at this | exact this) GW107.out))) _).trans (((cell_far (p := ⟨gb107, _, none⟩) (by first | exact Nat.ne_of_lt (Nat.lt_of_lt_of_le (by have := World.block_lt_of_cell? _ _ hw104_0; first | rwa [add_block] at this | exact this) GW107.out) | (rw [add_block]; exact Nat.ne_of_lt (Nat.lt_of_lt_of_le (by have := World.block_lt_of_cell? _ _ hw104_0; first | rwa [add_block] at this | exact this) GW107.out)) | (show (Addr.add _ _).block ≠ _; rw [add_block]; exact Nat.ne_of_lt (Nat.lt_of_lt_of_le (by have := World.block_lt_of_cell? _ _ hw104_0; first | rwa [add_block] at this | exact this) GW107.out)) | (dsimp only; exact Nat.ne_of_lt (Nat.lt_of_lt_of_le (by have := World.block_lt_of_cell? _ _ hw104_0; first | rwa [add_block] at this | exact this) GW107.out))) _).trans (hHeld.1)))))))))), ((cell_far (p := ⟨gb107, _, none⟩) (by first | exact Nat.ne_of_lt (Nat.lt_of_lt_of_le (by have := World.block_lt_of_cell? _ _ hw104_1; first | rwa [add_block] at this | exact this) GW107.out) | (rw [add_block]; exact Nat.ne_of_lt (Nat.lt_of_lt_of_le (by have := World.block_lt_of_cell? _ _ hw104_1; first | rwa [add_block] at this | exact this) GW107.out)) | (show (Addr.add _ _).block ≠ _; rw [add_block]; exact Nat.ne_of_lt (Nat.lt_of_lt_of_le (by have := World.block_lt_of_cell? _ _ hw104_1; first | rwa [add_block] at this | exact this) GW107.out)) | (dsimp only; exact Nat.ne_of_lt (Nat.lt_of_lt_of_le (by have := World.block_lt_of_cell? _ _ hw104_1; first | rwa [add_block] at this | exact this) GW107.out))) _).trans (((cell_far (p := ⟨gb107, _, none⟩) (by first | exact Nat.ne_of_lt (Nat.lt_of_lt_of_le (by have := World.block_lt_of_cell? _ _ hw104_1; first | rwa [add_block] at this | exact this) GW107.out) | (rw [add_block]; exact Nat.ne_of_lt (Nat.lt_of_lt_of_le (by have := World.block_lt_of_cell? _ _ hw104_1; first | rwa [add_block] at this | exact this) GW107.out)) | (show (Addr.add _ _).block ≠ _; rw [add_block]; exact Nat.ne_of_lt (Nat.lt_of_lt_of_le (by have := World.block_lt_of_cell? _ _ hw104_1; first | rwa [add_block] at this | exact this) GW107.out)) | (dsimp only; exact Nat.ne_of_lt (Nat.lt_of_lt_of_le (by have := World.block_lt_of_cell? _ _ hw104_1; first | rwa [add_block] at this | exact this) GW107.out))) _).trans (((cell_far (p := ⟨gb107, _, none⟩) (by first | exact Nat.ne_of_lt (Nat.lt_of_lt_of_le (by have := World.block_lt_of_cell? _ _ hw104_1; first | rwa [add_block] at this | exact this) GW107.out) | (rw [add_block]; exact Nat.ne_of_lt (Nat.lt_of_lt_of_le (by have := World.block_lt_of_cell? _ _ hw104_1; first | rwa [add_block] at this | exact this) GW107.out)) | (show (Addr.add _ _).block ≠ _; rw [add_block]; exact Nat.ne_of_lt (Nat.lt_of_lt_of_le (by have := World.block_lt_of_cell? _ _ hw104_1; first | rwa [add_block] at this | exact this) GW107.out)) | (dsimp only; exact Nat.ne_of_lt (Nat.lt_of_lt_of_le (by have := World.block_lt_of_cell? _ _ hw104_1; first | rwa [add_block] at this | exact this) GW107.out))) _).trans (((cell_far (p := ⟨gb107, _, none⟩) (by first | exact Nat.ne_of_lt (Nat.lt_of_lt_of_le (by have := World.block_lt_of_cell? _ _ hw104_1; first | rwa [add_block] at this | exact this) GW107.out) | (rw [add_block]; exact Nat.ne_of_lt (Nat.lt_of_lt_of_le (by have := World.block_lt_of_cell? _ _ hw104_1; first | rwa [add_block] at this | exact this) GW107.out)) | (show (Addr.add _ _).block ≠ _; rw [add_block]; exact Nat.ne_of_lt (Nat.lt_of_lt_of_le (by have := World.block_lt_of_cell? _ _ hw104_1; first | rwa [add_block] at this | exact this) GW107.out)) | (dsimp only; exact Nat.ne_of_lt (Nat.lt_of_lt_of_le (by have := World.block_lt_of_cell? _ _ hw104_1; first | rwa [add_block] at this | exact this) GW107.out))) _).trans (((cell_far (p := ⟨gb107, _, none⟩) (by first | exact Nat.ne_of_lt (Nat.lt_of_lt_of_le (by have := World.block_lt_of_cell? _ _ hw104_1; first | rwa [add_block] at this | exact this) GW107.out) | (rw [add_block]; exact Nat.ne_of_lt (Nat.lt_of_lt_of_le (by have := World.block_lt_of_cell? _ _ hw104_1; first | rwa [add_block] at this | exact this) GW107.out)) | (show (Addr.add _ _).block ≠ _; rw [add_block]; exact Nat.ne_of_lt (Nat.lt_of_lt_of_le (by have := World.block_lt_of_cell? _ _ hw104_1; first | rwa [add_block] at this | exact this) GW107.out)) | (dsimp only; exact Nat.ne_of_lt (Nat.lt_of_lt_of_le (by have := World.block_lt_of_cell? _ _ hw104_1; first | rwa [add_block] at this | exact this) GW107.out))) _).trans (hHeld.2.1)))))))))), ((cell_far (p := ⟨gb107, _, none⟩) (by first | exact Nat.ne_of_lt (Nat.lt_of_lt_of_le (by have := World.block_lt_of_cell? _ _ hw104_2; first | rwa [add_block] at this | exact this) GW107.out) | (rw [add_block]; exact Nat.ne_of_lt (Nat.lt_of_lt_of_le (by have := World.block_lt_of_cell? _ _ hw104_2; first | rwa [add_block] at this | exact this) GW107.out)) | (show (Addr.add _ _).block ≠ _; rw [add_block]; exact Nat.ne_of_lt (Nat.lt_of_lt_of_le (by have := World.block_lt_of_cell? _ _ hw104_2; first | rwa [add_block] at this | exact this) GW107.out)) | (dsimp only; exact Nat.ne_of_lt (Nat.lt_of_lt_of_le (by have := World.block_lt_of_cell? _ _ hw104_2; first | rwa [add_block] at this | exact this) GW107.out))) _).trans (((cell_far (p := ⟨gb107, _, none⟩) (by first | exact Nat.ne_of_lt (Nat.lt_of_lt_of_le (by have := World.block_lt_of_cell? _ _ hw104_2; first | rwa [add_block] at this | exact this) GW107.out) | (rw [add_block]; exact Nat.ne_of_lt (Nat.lt_of_lt_of_le (by have := World.block_lt_of_cell? _ _ hw104_2; first | rwa [add_block] at this | exact this) GW107.out)) | (show (Addr.add _ _).block ≠ _; rw [add_block]; exact Nat.ne_of_lt (Nat.lt_of_lt_of_le (by have := World.block_lt_of_cell? _ _ hw104_2; first | rwa [add_block] at this | exact this) GW107.out)) | (dsimp only; exact Nat.ne_of_lt (Nat.lt_of_lt_of_le (by have := World.block_lt_of_cell? _ _ hw104_2; first | rwa [add_block] at this | exact this) GW107.out))) _).trans (((cell_far (p := ⟨gb107, _, none⟩) (by first | exact Nat.ne_of_lt (Nat.lt_of_lt_of_le (by have := World.block_lt_of_cell? _ _ hw104_2; first | rwa [add_block] at this | exact this) GW107.out) | (rw [add_block]; exact Nat.ne_of_lt (Nat.lt_of_lt_of_le (by have := World.block_lt_of_cell? _ _ hw104_2; first | rwa [add_block] at this | exact this) GW107.out)) | (show (Addr.add _ _).block ≠ _; rw [add_block]; exact Nat.ne_of_lt (Nat.lt_of_lt_of_le (by have := World.block_lt_of_cell? _ _ hw104_2; first | rwa [add_block] at this | exact this) GW107.out)) | (dsimp only; exact Nat.ne_of_lt (Nat.lt_of_lt_of_le (by have := World.block_lt_of_cell? _ _ hw104_2; first | rwa [add_block] at this | exact this) GW107.out))) _).trans (((cell_far (p := ⟨gb107, _, none⟩) (by first | exact Nat.ne_of_lt (Nat.lt_of_lt_of_le (by have := World.block_lt_of_cell? _ _ hw104_2; first | rwa [add_block] at this | exact this) GW107.out) | (rw [add_block]; exact Nat.ne_of_lt (Nat.lt_of_lt_of_le (by have := World.block_lt_of_cell? _ _ hw104_2; first | rwa [add_block] at this | exact this) GW107.out)) | (show (Addr.add _ _).block ≠ _; rw [add_block]; exact Nat.ne_of_lt (Nat.lt_of_lt_of_le (by have := World.block_lt_of_cell? _ _ hw104_2; first | rwa [add_block] at this | exact this) GW107.out)) | (dsimp only; exact Nat.ne_of_lt (Nat.lt_of_lt_of_le (by have := World.block_lt_of_cell? _ _ hw104_2; first | rwa [add_block] at this | exact this) GW107.out))) _).trans (((cell_far (p := ⟨gb107, _, none⟩) (by first | exact Nat.ne_of_lt (Nat.lt_of_lt_of_le (by have := World.block_lt_of_cell? _ _ hw104_2; first | rwa [add_block] at this | exact this) GW107.out) | (rw [add_block]; exact Nat.ne_of_lt (Nat.lt_of_lt_of_le (by have := World.block_lt_of_cell? _ _ hw104_2; first | rwa [add_block] at this | exact this) GW107.out)) | (show (Addr.add _ _).block ≠ _; rw [add_block]; exact Nat.ne_of_lt (Nat.lt_of_lt_of_le (by have := World.block_lt_of_cell? _ _ hw104_2; first | rwa [add_block] at this | exact this) GW107.out)) | (dsimp only; exact Nat.ne_of_lt (Nat.lt_of_lt_of_le (by have := World.block_lt_of_cell? _ _ hw104_2; first | rwa [add_block] at this | exact this) GW107.out))) _).trans (hHeld.2.2.1)))))))))), ((cell_far (p := ⟨gb107, _, none⟩) (by first | exact Nat.ne_of_lt (Nat.lt_of_lt_of_le (by have := World.block_lt_of_cell? _ _ hw104_3; first | rwa [add_block] at this | exact this) GW107.out) | (rw [add_block]; exact Nat.ne_of_lt (Nat.lt_of_lt_of_le (by have := World.block_lt_of_cell? _ _ hw104_3; first | rwa [add_block] at this | exact this) GW107.out)) | (show (Addr.add _ _).block ≠ _; rw [add_block]; exact Nat.ne_of_lt (Nat.lt_of_lt_of_le (by have := World.block_lt_of_cell? _ _ hw104_3; first | rwa [add_block] at this | exact this) GW107.out)) | (dsimp only; exact Nat.ne_of_lt (Nat.lt_of_lt_of_le (by have := World.block_lt_of_cell? _ _ hw104_3; first | rwa [add_block] at this | exact this) GW107.out))) _).trans (((cell_far (p := ⟨gb107, _, none⟩) (by first | exact Nat.ne_of_lt (Nat.lt_of_lt_of_le (by have := World.block_lt_of_cell? _ _ hw104_3; first | rwa [add_block] at this | exact this) GW107.out) | (rw [add_block]; exact Nat.ne_of_lt (Nat.lt_of_lt_of_le (by have := World.block_lt_of_cell? _ _ hw104_3; first | rwa [add_block] at this | exact this) GW107.out)) | (show (Addr.add _ _).block ≠ _; rw [add_block]; exact Nat.ne_of_lt (Nat.lt_of_lt_of_le (by have := World.block_lt_of_cell? _ _ hw104_3; first | rwa [add_block] at this | exact this) GW107.out)) | (dsimp only; exact Nat.ne_of_lt (Nat.lt_of_lt_of_le (by have := World.block_lt_of_cell? _ _ hw104_3; first | rwa [add_block] at this | exact this) GW107.out))) _).trans (((cell_far (p := ⟨gb107, _, none⟩) (by first | exact Nat.ne_of_lt (Nat.lt_of_lt_of_le (by have := World.block_lt_of_cell? _ _ hw104_3; first | rwa [add_block] at this | exact this) GW107.out) | (rw [add_block]; exact Nat.ne_of_lt (Nat.lt_of_lt_of_le (by have := World.block_lt_of_cell? _ _ hw104_3; first | rwa [add_block] at this | exact this) GW107.out)) | (show (Addr.add _ _).block ≠ _; rw [add_block]; exact Nat.ne_of_lt (Nat.lt_of_lt_of_le (by have := World.block_lt_of_cell? _ _ hw104_3; first | rwa [add_block] at this | exact this) GW107.out)) | (dsimp only; exact Nat.ne_of_lt (Nat.lt_of_lt_of_le (by have := World.block_lt_of_cell? _ _ hw104_3; first | rwa [add_block] at this | exact this) GW107.out))) _).trans (((cell_far (p := ⟨gb107, _, none⟩) (by first | exact Nat.ne_of_lt (Nat.lt_of_lt_of_le (by have := World.block_lt_of_cell? _ _ hw104_3; first | rwa [add_block] at this | exact this) GW107.out) | (rw [add_block]; exact Nat.ne_of_lt (Nat.lt_of_lt_of_le (by have := World.block_lt_of_cell? _ _ hw104_3; first | rwa [add_block] at this | exact this) GW107.out)) | (show (Addr.add _ _).block ≠ _; rw [add_block]; exact Nat.ne_of_lt (Nat.lt_of_lt_of_le (by have := World.block_lt_of_cell? _ _ hw104_3; first | rwa [add_block] at this | exact this) GW107.out)) | (dsimp only; exact Nat.ne_of_lt (Nat.lt_of_lt_of_le (by have := World.block_lt_of_cell? _ _ hw104_3; first | rwa [add_block] at this | exact this) GW107.out))) _).trans (((cell_far (p := ⟨gb107, _, none⟩) (by first | exact Nat.ne_of_lt (Nat.lt_of_lt_of_le (by have := World.block_lt_of_cell? _ _ hw104_3; first | rwa [add_block] at this | exact this) GW107.out) | (rw [add_block]; exact Nat.ne_of_lt (Nat.lt_of_lt_of_le (by have := World.block_lt_of_cell? _ _ hw104_3; first | rwa [add_block] at this | exact this) GW107.out)) | (show (Addr.add _ _).block ≠ _; rw [add_block]; exact Nat.ne_of_lt (Nat.lt_of_lt_of_le (by have := World.block_lt_of_cell? _ _ hw104_3; first | rwa [add_block] at this | exact this) GW107.out)) | (dsimp only; exact Nat.ne_of_lt (Nat.lt_of_lt_of_le (by have := World.block_lt_of_cell? _ _ hw104_3; first | rwa [add_block] at this | exact this) GW107.out))) _).trans (hHeld.2.2.2.1)))))))))), ((cell_far (p := ⟨gb107, _, none⟩) (by first | exact Nat.ne_of_lt (Nat.lt_of_lt_of_le (by have := World.block_lt_of_cell? _ _ hw104_4; first | rwa [add_block] at this | exact this) GW107.out) | (rw [add_block]; exact Nat.ne_of_lt (Nat.lt_of_lt_of_le (by have := World.block_lt_of_cell? _ _ hw104_4; first | rwa [add_block] at this | exact this) GW107.out)) | (show (Addr.add _ _).block ≠ _; rw [add_block]; exact Nat.ne_of_lt (Nat.lt_of_lt_of_le (by have := World.block_lt_of_cell? _ _ hw104_4; first | rwa [add_block] at this | exact this) GW107.out)) | (dsimp only; exact Nat.ne_of_lt (Nat.lt_of_lt_of_le (by have := World.block_lt_of_cell? _ _ hw104_4; first | rwa [add_block] at this | exact this) GW107.out))) _).trans (((cell_far (p := ⟨gb107, _, none⟩) (by first | exact Nat.ne_of_lt (Nat.lt_of_lt_of_le (by have := World.block_lt_of_cell? _ _ hw104_4; first | rwa [add_block] at this | exact this) GW107.out) | (rw [add_block]; exact Nat.ne_of_lt (Nat.lt_of_lt_of_le (by have := World.block_lt_of_cell? _ _ hw104_4; first | rwa [add_block] at this | exact this) GW107.out)) | (show (Addr.add _ _).block ≠ _; rw [add_block]; exact Nat.ne_of_lt (Nat.lt_of_lt_of_le (by have := World.block_lt_of_cell? _ _ hw104_4; first | rwa [add_block] at this | exact this) GW107.out)) | (dsimp only; exact Nat.ne_of_lt (Nat.lt_of_lt_of_le (by have := World.block_lt_of_cell? _ _ hw104_4; first | rwa [add_block] at this | exact this) GW107.out))) _).trans (((cell_far (p := ⟨gb107, _, none⟩) (by first | exact Nat.ne_of_lt (Nat.lt_of_lt_of_le (by have := World.block_lt_of_cell? _ _ hw104_4; first | rwa [add_block] at this | exact this) GW107.out) | (rw [add_block]; exact Nat.ne_of_lt (Nat.lt_of_lt_of_le (by have := World.block_lt_of_cell? _ _ hw104_4; first | rwa [add_block] at this | exact this) GW107.out)) | (show (Addr.add _ _).block ≠ _; rw [add_block]; exact Nat.ne_of_lt (Nat.lt_of_lt_of_le (by have := World.block_lt_of_cell? _ _ hw104_4; first | rwa [add_block] at this | exact this) GW107.out)) | (dsimp only; exact Nat.ne_of_lt (Nat.lt_of_lt_of_le (by have := World.block_lt_of_cell? _ _ hw104_4; first | rwa [add_block] at this | exact this) GW107.out))) _).trans (((cell_far (p := ⟨gb107, _, none⟩) (by first | exact Nat.ne_of_lt (Nat.lt_of_lt_of_le (by have := World.block_lt_of_cell? _ _ hw104_4; first | rwa [add_block] at this | exact this) GW107.out) | (rw [add_block]; exact Nat.ne_of_lt (Nat.lt_of_lt_of_le (by have := World.block_lt_of_cell? _ _ hw104_4; first | rwa [add_block] at this | exact this) GW107.out)) | (show (Addr.add _ _).block ≠ _; rw [add_block]; exact Nat.ne_of_lt (Nat.lt_of_lt_of_le (by have := World.block_lt_of_cell? _ _ hw104_4; first | rwa [add_block] at this | exact this) GW107.out)) | (dsimp only; exact Nat.ne_of_lt (Nat.lt_of_lt_of_le (by have := World.block_lt_of_cell? _ _ hw104_4; first | rwa [add_block] at this | exact this) GW107.out))) _).trans (((cell_far (p := ⟨gb107, _, none⟩) (by first | exact Nat.ne_of_lt (Nat.lt_of_lt_of_le (by have := World.block_lt_of_cell? _ _ hw104_4; first | rwa [add_block] at this | exact this) GW107.out) | (rw [add_block]; exact Nat.ne_of_lt (Nat.lt_of_lt_of_le (by have := World.block_lt_of_cell? _ _ hw104_4; first | rwa [add_block] at this | exact this) GW107.out)) | (show (Addr.add _ _).block ≠ _; rw [add_block]; exact Nat.ne_of_lt (Nat.lt_of_lt_of_le (by have := World.block_lt_of_cell? _ _ hw104_4; first | rwa [add_block] at this | exact this) GW107.out)) | (dsimp only; exact Nat.ne_of_lt (Nat.lt_of_lt_of_le (by have := World.block_lt_of_cell? _ _ hw104_4; first | rwa [add_block] at this | exact this) GW107.out))) _).trans (hHeld.2.2.2.2.1)))))))))), ((cell_far (p := ⟨gb107, _, none⟩) (by first | exact Nat.ne_of_lt (Nat.lt_of_lt_of_le (by have := World.block_lt_of_cell? _ _ hw105_0; first | rwa [add_block] at this | exact this) GW107.out) | (rw [add_block]; exact Nat.ne_of_lt (Nat.lt_of_lt_of_le (by have := World.block_lt_of_cell? _ _ hw105_0; first | rwa [add_block] at this | exact this) GW107.out)) | (show (Addr.add _ _).block ≠ _; rw [add_block]; exact Nat.ne_of_lt (Nat.lt_of_lt_of_le (by have := World.block_lt_of_cell? _ _ hw105_0; first | rwa [add_block] at this | exact this) GW107.out)) | (dsimp only; exact Nat.ne_of_lt (Nat.lt_of_lt_of_le (by have := World.block_lt_of_cell? _ _ hw105_0; first | rwa [add_block] at this | exact this) GW107.out))) _).trans (((cell_far (p := ⟨gb107, _, none⟩) (by first | exact Nat.ne_of_lt (Nat.lt_of_lt_of_le (by have := World.block_lt_of_cell? _ _ hw105_0; first | rwa [add_block] at this | exact this) GW107.out) | (rw [add_block]; exact Nat.ne_of_lt (Nat.lt_of_lt_of_le (by have := World.block_lt_of_cell? _ _ hw105_0; first | rwa [add_block] at this | exact this) GW107.out)) | (show (Addr.add _ _).block ≠ _; rw [add_block]; exact Nat.ne_of_lt (Nat.lt_of_lt_of_le (by have := World.block_lt_of_cell? _ _ hw105_0; first | rwa [add_block] at this | exact this) GW107.out)) | (dsimp only; exact Nat.ne_of_lt (Nat.lt_of_lt_of_le (by have := World.block_lt_of_cell? _ _ hw105_0; first | rwa [add_block] at this | exact this) GW107.out))) _).trans (((cell_far (p := ⟨gb107, _, none⟩) (by first | exact Nat.ne_of_lt (Nat.lt_of_lt_of_le (by have := World.block_lt_of_cell? _ _ hw105_0; first | rwa [add_block] at this | exact this) GW107.out) | (rw [add_block]; exact Nat.ne_of_lt (Nat.lt_of_lt_of_le (by have := World.block_lt_of_cell? _ _ hw105_0; first | rwa [add_block] at this | exact this) GW107.out)) | (show (Addr.add _ _).block ≠ _; rw [add_block]; exact Nat.ne_of_lt (Nat.lt_of_lt_of_le (by have := World.block_lt_of_cell? _ _ hw105_0; first | rwa [add_block] at this | exact this) GW107.out)) | (dsimp only; exact Nat.ne_of_lt (Nat.lt_of_lt_of_le (by have := World.block_lt_of_cell? _ _ hw105_0; first | rwa [add_block] at this | exact this) GW107.out))) _).trans (((cell_far (p := ⟨gb107, _, none⟩) (by first | exact Nat.ne_of_lt (Nat.lt_of_lt_of_le (by have := World.block_lt_of_cell? _ _ hw105_0; first | rwa [add_block] at this | exact this) GW107.out) | (rw [add_block]; exact Nat.ne_of_lt (Nat.lt_of_lt_of_le (by have := World.block_lt_of_cell? _ _ hw105_0; first | rwa [add_block] at this | exact this) GW107.out)) | (show (Addr.add _ _).block ≠ _; rw [add_block]; exact Nat.ne_of_lt (Nat.lt_of_lt_of_le (by have := World.block_lt_of_cell? _ _ hw105_0; first | rwa [add_block] at this | exact this) GW107.out)) | (dsimp only; exact Nat.ne_of_lt (Nat.lt_of_lt_of_le (by have := World.block_lt_of_cell? _ _ hw105_0; first | rwa [add_block] at this | exact this) GW107.out))) _).trans (((cell_far (p := ⟨gb107, _, none⟩) (by first | exact Nat.ne_of_lt (Nat.lt_of_lt_of_le (by have := World.block_lt_of_cell? _ _ hw105_0; first | rwa [add_block] at this | exact this) GW107.out) | (rw [add_block]; exact Nat.ne_of_lt (Nat.lt_of_lt_of_le (by have := World.block_lt_of_cell? _ _ hw105_0; first | rwa [add_block] at this | exact this) GW107.out)) | (show (Addr.add _ _).block ≠ _; rw [add_block]; exact Nat.ne_of_lt (Nat.lt_of_lt_of_le (by have := World.block_lt_of_cell? _ _ hw105_0; first | rwa [add_block] at this | exact this) GW107.out)) | (dsimp only; exact Nat.ne_of_lt (Nat.lt_of_lt_of_le (by have := World.block_lt_of_cell? _ _ hw105_0; first | rwa [add_block] at this | exact this) GW107.out))) _).trans (hHeld.2.2.2.2.2.1)))))))))), ((cell_far (p := ⟨gb107, _, none⟩) (by first | exact Nat.ne_of_lt (Nat.lt_of_lt_of_le (by have := World.block_lt_of_cell? _ _ hw105_1; first | rwa [add_block] at this | exact this) GW107.out) | (rw [add_block]; exact Nat.ne_of_lt (Nat.lt_of_lt_of_le (by have := World.block_lt_of_cell? _ _ hw105_1; first | rwa [add_block] at this | exact this) GW107.out)) | (show (Addr.add _ _).block ≠ _; rw [add_block]; exact Nat.ne_of_lt (Nat.lt_of_lt_of_le (by have := World.block_lt_of_cell? _ _ hw105_1; first | rwa [add_block] at this | exact this) GW107.out)) | (dsimp only; exact Nat.ne_of_lt (Nat.lt_of_lt_of_le (by have := World.block_lt_of_cell? _ _ hw105_1; first | rwa [add_block] at this | exact this) GW107.out))) _).trans (((cell_far (p := ⟨gb107, _, none⟩) (by first | exact Nat.ne_of_lt (Nat.lt_of_lt_of_le (by have := World.block_lt_of_cell? _ _ hw105_1; first | rwa [add_block] at this | exact this) GW107.out) | (rw [add_block]; exact Nat.ne_of_lt (Nat.lt_of_lt_of_le (by have := World.block_lt_of_cell? _ _ hw105_1; first | rwa [add_block] at this | exact this) GW107.out)) | (show (Addr.add _ _).block ≠ _; rw [add_block]; exact Nat.ne_of_lt (Nat.lt_of_lt_of_le (by have := World.block_lt_of_cell? _ _ hw105_1; first | rwa [add_block] at this | exact this) GW107.out)) | (dsimp only; exact Nat.ne_of_lt (Nat.lt_of_lt_of_le (by have := World.block_lt_of_cell? _ _ hw105_1; first | rwa [add_block] at this | exact this) GW107.out))) _).trans (((cell_far (p := ⟨gb107, _, none⟩) (by first | exact Nat.ne_of_lt (Nat.lt_of_lt_of_le (by have := World.block_lt_of_cell? _ _ hw105_1; first | rwa [add_block] at this | exact this) GW107.out) | (rw [add_block]; exact Nat.ne_of_lt (Nat.lt_of_lt_of_le (by have := World.block_lt_of_cell? _ _ hw105_1; first | rwa [add_block] at this | exact this) GW107.out)) | (show (Addr.add _ _).block ≠ _; rw [add_block]; exact Nat.ne_of_lt (Nat.lt_of_lt_of_le (by have := World.block_lt_of_cell? _ _ hw105_1; first | rwa [add_block] at this | exact this) GW107.out)) | (dsimp only; exact Nat.ne_of_lt (Nat.lt_of_lt_of_le (by have := World.block_lt_of_cell? _ _ hw105_1; first | rwa [add_block] at this | exact this) GW107.out))) _).trans (((cell_far (p := ⟨gb107, _, none⟩) (by first | exact Nat.ne_of_lt (Nat.lt_of_lt_of_le (by have := World.block_lt_of_cell? _ _ hw105_1; first | rwa [add_block] at this | exact this) GW107.out) | (rw [add_block]; exact Nat.ne_of_lt (Nat.lt_of_lt_of_le (by have := World.block_lt_of_cell? _ _ hw105_1; first | rwa [add_block] at this | exact this) GW107.out)) | (show (Addr.add _ _).block ≠ _; rw [add_block]; exact Nat.ne_of_lt (Nat.lt_of_lt_of_le (by have := World.block_lt_of_cell? _ _ hw105_1; first | rwa [add_block] at this | exact this) GW107.out)) | (dsimp only; exact Nat.ne_of_lt (Nat.lt_of_lt_of_le (by have := World.block_lt_of_cell? _ _ hw105_1; first | rwa [add_block] at this | exact this) GW107.out))) _).trans (((cell_far (p := ⟨gb107, _, none⟩) (by first | exact Nat.ne_of_lt (Nat.lt_of_lt_of_le (by have := World.block_lt_of_cell? _ _ hw105_1; first | rwa [add_block] at this | exact this) GW107.out) | (rw [add_block]; exact Nat.ne_of_lt (Nat.lt_of_lt_of_le (by have := World.block_lt_of_cell? _ _ hw105_1; first | rwa [add_block] at this | exact this) GW107.out)) | (show (Addr.add _ _).block ≠ _; rw [add_block]; exact Nat.ne_of_lt (Nat.lt_of_lt_of_le (by have := World.block_lt_of_cell? _ _ hw105_1; first | rwa [add_block] at this | exact this) GW107.out)) | (dsimp only; exact Nat.ne_of_lt (Nat.lt_of_lt_of_le (by have := World.block_lt_of_cell? _ _ hw105_1; first | rwa [add_block] at this | exact this) GW107.out))) _).trans (hHeld.2.2.2.2.2.2.1)))))))))), ((cell_far (p := ⟨gb107, _, none⟩) (by first | exact Nat.ne_of_lt (Nat.lt_of_lt_of_le (by have := World.block_lt_of_cell? _ _ hw105_2; first | rwa [add_block] at this | exact this) GW107.out) | (rw [add_block]; exact Nat.ne_of_lt (Nat.lt_of_lt_of_le (by have := World.block_lt_of_cell? _ _ hw105_2; first | rwa [add_block] at this | exact this) GW107.out)) | (show (Addr.add _ _).block ≠ _; rw [add_block]; exact Nat.ne_of_lt (Nat.lt_of_lt_of_le (by have := World.block_lt_of_cell? _ _ hw105_2; first | rwa [add_block] at this | exact this) GW107.out)) | (dsimp only; exact Nat.ne_of_lt (Nat.lt_of_lt_of_le (by have := World.block_lt_of_cell? _ _ hw105_2; first | rwa [add_block] at this | exact this) GW107.out))) _).trans (((cell_far (p := ⟨gb107, _, none⟩) (by first | exact Nat.ne_of_lt (Nat.lt_of_lt_of_le (by have := World.block_lt_of_cell? _ _ hw105_2; first | rwa [add_block] at this | exact this) GW107.out) | (rw [add_block]; exact Nat.ne_of_lt (Nat.lt_of_lt_of_le (by have := World.block_lt_of_cell? _ _ hw105_2; first | rwa [add_block] at this | exact this) GW107.out)) | (show (Addr.add _ _).block ≠ _; rw [add_block]; exact Nat.ne_of_lt (Nat.lt_of_lt_of_le (by have := World.block_lt_of_cell? _ _ hw105_2; first | rwa [add_block] at this | exact this) GW107.out)) | (dsimp only; exact Nat.ne_of_lt (Nat.lt_of_lt_of_le (by have := World.block_lt_of_cell? _ _ hw105_2; first | rwa [add_block] at this | exact this) GW107.out))) _).trans (((cell_far (p := ⟨gb107, _, none⟩) (by first | exact Nat.ne_of_lt (Nat.lt_of_lt_of_le (by have := World.block_lt_of_cell? _ _ hw105_2; first | rwa [add_block] at this | exact this) GW107.out) | (rw [add_block]; exact Nat.ne_of_lt (Nat.lt_of_lt_of_le (by have := World.block_lt_of_cell? _ _ hw105_2; first | rwa [add_block] at this | exact this) GW107.out)) | (show (Addr.add _ _).block ≠ _; rw [add_block]; exact Nat.ne_of_lt (Nat.lt_of_lt_of_le (by have := World.block_lt_of_cell? _ _ hw105_2; first | rwa [add_block] at this | exact this) GW107.out)) | (dsimp only; exact Nat.ne_of_lt (Nat.lt_of_lt_of_le (by have := World.block_lt_of_cell? _ _ hw105_2; first | rwa [add_block] at this | exact this) GW107.out))) _).trans (((cell_far (p := ⟨gb107, _, none⟩) (by first | exact Nat.ne_of_lt (Nat.lt_of_lt_of_le (by have := World.block_lt_of_cell? _ _ hw105_2; first | rwa [add_block] at this | exact this) GW107.out) | (rw [add_block]; exact Nat.ne_of_lt (Nat.lt_of_lt_of_le (by have := World.block_lt_of_cell? _ _ hw105_2; first | rwa [add_block] at this | exact this) GW107.out)) | (show (Addr.add _ _).block ≠ _; rw [add_block]; exact Nat.ne_of_lt (Nat.lt_of_lt_of_le (by have := World.block_lt_of_cell? _ _ hw105_2; first | rwa [add_block] at this | exact this) GW107.out)) | (dsimp only; exact Nat.ne_of_lt (Nat.lt_of_lt_of_le (by have := World.block_lt_of_cell? _ _ hw105_2; first | rwa [add_block] at this | exact this) GW107.out))) _).trans (((cell_far (p := ⟨gb107, _, none⟩) (by first | exact Nat.ne_of_lt (Nat.lt_of_lt_of_le (by have := World.block_lt_of_cell? _ _ hw105_2; first | rwa [add_block] at this | exact this) GW107.out) | (rw [add_block]; exact Nat.ne_of_lt (Nat.lt_of_lt_of_le (by have := World.block_lt_of_cell? _ _ hw105_2; first | rwa [add_block] at this | exact this) GW107.out)) | (show (Addr.add _ _).block ≠ _; rw [add_block]; exact Nat.ne_of_lt (Nat.lt_of_lt_of_le (by have := World.block_lt_of_cell? _ _ hw105_2; first | rwa [add_block] at this | exact this) GW107.out)) | (dsimp only; exact Nat.ne_of_lt (Nat.lt_of_lt_of_le (by have := World.block_lt_of_cell? _ _ hw105_2; first | rwa [add_block] at this | exact this) GW107.out))) _).trans (hHeld.2.2.2.2.2.2.2.1)))))))))), ((cell_far (p := ⟨gb107, _, none⟩) (by first | exact Nat.ne_of_lt (Nat.lt_of_lt_of_le (by have := World.block_lt_of_cell? _ _ hw105_3; first | rwa [add_block] at this | exact this) GW107.out) | (rw [add_block]; exact Nat.ne_of_lt (Nat.lt_of_lt_of_le (by have := World.block_lt_of_cell? _ _ hw105_3; first | rwa [add_block] at this | exact this) GW107.out)) | (show (Addr.add _ _).block ≠ _; rw [add_block]; exact Nat.ne_of_lt (Nat.lt_of_lt_of_le (by have := World.block_lt_of_cell? _ _ hw105_3; first | rwa [add_block] at this | exact this) GW107.out)) | (dsimp only; exact Nat.ne_of_lt (Nat.lt_of_lt_of_le (by have := World.block_lt_of_cell? _ _ hw105_3; first | rwa [add_block] at this | exact this) GW107.out))) _).trans (((cell_far (p := ⟨gb107, _, none⟩) (by first | exact Nat.ne_of_lt (Nat.lt_of_lt_of_le (by have := World.block_lt_of_cell? _ _ hw105_3; first | rwa [add_block] at this | exact this) GW107.out) | (rw [add_block]; exact Nat.ne_of_lt (Nat.lt_of_lt_of_le (by have := World.block_lt_of_cell? _ _ hw105_3; first | rwa [add_block] at this | exact this) GW107.out)) | (show (Addr.add _ _).block ≠ _; rw [add_block]; exact Nat.ne_of_lt (Nat.lt_of_lt_of_le (by have := World.block_lt_of_cell? _ _ hw105_3; first | rwa [add_block] at this | exact this) GW107.out)) | (dsimp only; exact Nat.ne_of_lt (Nat.lt_of_lt_of_le (by have := World.block_lt_of_cell? _ _ hw105_3; first | rwa [add_block] at this | exact this) GW107.out))) _).trans (((cell_far (p := ⟨gb107, _, none⟩) (by first | exact Nat.ne_of_lt (Nat.lt_of_lt_of_le (by have := World.block_lt_of_cell? _ _ hw105_3; first | rwa [add_block] at this | exact this) GW107.out) | (rw [add_block]; exact Nat.ne_of_lt (Nat.lt_of_lt_of_le (by have := World.block_lt_of_cell? _ _ hw105_3; first | rwa [add_block] at this | exact this) GW107.out)) | (show (Addr.add _ _).block ≠ _; rw [add_block]; exact Nat.ne_of_lt (Nat.lt_of_lt_of_le (by have := World.block_lt_of_cell? _ _ hw105_3; first | rwa [add_block] at this | exact this) GW107.out)) | (dsimp only; exact Nat.ne_of_lt (Nat.lt_of_lt_of_le (by have := World.block_lt_of_cell? _ _ hw105_3; first | rwa [add_block] at this | exact this) GW107.out))) _).trans (((cell_far (p := ⟨gb107, _, none⟩) (by first | exact Nat.ne_of_lt (Nat.lt_of_lt_of_le (by have := World.block_lt_of_cell? _ _ hw105_3; first | rwa [add_block] at this | exact this) GW107.out) | (rw [add_block]; exact Nat.ne_of_lt (Nat.lt_of_lt_of_le (by have := World.block_lt_of_cell? _ _ hw105_3; first | rwa [add_block] at this | exact this) GW107.out)) | (show (Addr.add _ _).block ≠ _; rw [add_block]; exact Nat.ne_of_lt (Nat.lt_of_lt_of_le (by have := World.block_lt_of_cell? _ _ hw105_3; first | rwa [add_block] at this | exact this) GW107.out)) | (dsimp only; exact Nat.ne_of_lt (Nat.lt_of_lt_of_le (by have := World.block_lt_of_cell? _ _ hw105_3; first | rwa [add_block] at this | exact this) GW107.out))) _).trans (((cell_far (p := ⟨gb107, _, none⟩) (by first | exact Nat.ne_of_lt (Nat.lt_of_lt_of_le (by have := World.block_lt_of_cell? _ _ hw105_3; first | rwa [add_block] at this | exact this) GW107.out) | (rw [add_block]; exact Nat.ne_of_lt (Nat.lt_of_lt_of_le (by have := World.block_lt_of_cell? _ _ hw105_3; first | rwa [add_block] at this | exact this) GW107.out)) | (show (Addr.add _ _).block ≠ _; rw [add_block]; exact Nat.ne_of_lt (Nat.lt_of_lt_of_le (by have := World.block_lt_of_cell? _ _ hw105_3; first | rwa [add_block] at this | exact this) GW107.out)) | (dsimp only; exact Nat.ne_of_lt (Nat.lt_of_lt_of_le (by have := World.block_lt_of_cell? _ _ hw105_3; first | rwa [add_block] at this | exact this) GW107.out))) _).trans (hHeld.2.2.2.2.2.2.2.2.1)))))))))), ((cell_far (p := ⟨gb107, _, none⟩) (by first | exact Nat.ne_of_lt (Nat.lt_of_lt_of_le (by have := World.block_lt_of_cell? _ _ hw105_4; first | rwa [add_block] at this | exact this) GW107.out) | (rw [add_block]; exact Nat.ne_of_lt (Nat.lt_of_lt_of_le (by have := World.block_lt_of_cell? _ _ hw105_4; first | rwa [add_block] at this | exact this) GW107.out)) | (show (Addr.add _ _).block ≠ _; rw [add_block]; exact Nat.ne_of_lt (Nat.lt_of_lt_of_le (by have := World.block_lt_of_cell? _ _ hw105_4; first | rwa [add_block] at this | exact this) GW107.out)) | (dsimp only; exact Nat.ne_of_lt (Nat.lt_of_lt_of_le (by have := World.block_lt_of_cell? _ _ hw105_4; first | rwa [add_block] at this | exact this) GW107.out))) _).trans (((cell_far (p := ⟨gb107, _, none⟩) (by first | exact Nat.ne_of_lt (Nat.lt_of_lt_of_le (by have := World.block_lt_of_cell? _ _ hw105_4; first | rwa [add_block] at this | exact this) GW107.out) | (rw [add_block]; exact Nat.ne_of_lt (Nat.lt_of_lt_of_le (by have := World.block_lt_of_cell? _ _ hw105_4; first | rwa [add_block] at this | exact this) GW107.out)) | (show (Addr.add _ _).block ≠ _; rw [add_block]; exact Nat.ne_of_lt (Nat.lt_of_lt_of_le (by have := World.block_lt_of_cell? _ _ hw105_4; first | rwa [add_block] at this | exact this) GW107.out)) | (dsimp only; exact Nat.ne_of_lt (Nat.lt_of_lt_of_le (by have := World.block_lt_of_cell? _ _ hw105_4; first | rwa [add_block] at this | exact this) GW107.out))) _).trans (((cell_far (p := ⟨gb107, _, none⟩) (by first | exact Nat.ne_of_lt (Nat.lt_of_lt_of_le (by have := World.block_lt_of_cell? _ _ hw105_4; first | rwa [add_block] at this | exact this) GW107.out) | (rw [add_block]; exact Nat.ne_of_lt (Nat.lt_of_lt_of_le (by have := World.block_lt_of_cell? _ _ hw105_4; first | rwa [add_block] at this | exact this) GW107.out)) | (show (Addr.add _ _).block ≠ _; rw [add_block]; exact Nat.ne_of_lt (Nat.lt_of_lt_of_le (by have := World.block_lt_of_cell? _ _ hw105_4; first | rwa [add_block] at this | exact this) GW107.out)) | (dsimp only; exact Nat.ne_of_lt (Nat.lt_of_lt_of_le (by have := World.block_lt_of_cell? _ _ hw105_4; first | rwa [add_block] at this | exact this) GW107.out))) _).trans (((cell_far (p := ⟨gb107, _, none⟩) (by first | exact Nat.ne_of_lt (Nat.lt_of_lt_of_le (by have := World.block_lt_of_cell? _ _ hw105_4; first | rwa [add_block] at this | exact this) GW107.out) | (rw [add_block]; exact Nat.ne_of_lt (Nat.lt_of_lt_of_le (by have := World.block_lt_of_cell? _ _ hw105_4; first | rwa [add_block] at this | exact this) GW107.out)) | (show (Addr.add _ _).block ≠ _; rw [add_block]; exact Nat.ne_of_lt (Nat.lt_of_lt_of_le (by have := World.block_lt_of_cell? _ _ hw105_4; first | rwa [add_block] at this | exact this) GW107.out)) | (dsimp only; exact Nat.ne_of_lt (Nat.lt_of_lt_of_le (by have := World.block_lt_of_cell? _ _ hw105_4; first | rwa [add_block] at this | exact this) GW107.out))) _).trans (((cell_far (p := ⟨gb107, _, none⟩) (by first | exact Nat.ne_of_lt (Nat.lt_of_lt_of_le (by have := World.block_lt_of_cell? _ _ hw105_4; first | rwa [add_block] at this | exact this) GW107.out) | (rw [add_block]; exact Nat.ne_of_lt (Nat.lt_of_lt_of_le (by have := World.block_lt_of_cell? _ _ hw105_4; first | rwa [add_block] at this | exact this) GW107.out)) | (show (Addr.add _ _).block ≠ _; rw [add_block]; exact Nat.ne_of_lt (Nat.lt_of_lt_of_le (by have := World.block_lt_of_cell? _ _ hw105_4; first | rwa [add_block] at this | exact this) GW107.out)) | (dsimp only; exact Nat.ne_of_lt (Nat.lt_of_lt_of_le (by have := World.block_lt_of_cell? _ _ hw105_4; first | rwa [add_block] at this | exact this) GW107.out))) _).trans (hHeld.2.2.2.2.2.2.2.2.2))))))))))⟩ (fun hHeld => ?_)
      clear hK K
      refine done_ (done_of HT_.out (by kernel_rfl)) ?_
      have hnb42 := NB106_107.out
      have hnc42 := NB107_106.out
      have hcz43_0 : w31.cell? ⟨gb106, 0, none⟩ = some (.bool false) := (blk_cell BK106.out 0).trans rfl
      have hcz43_1 : w31.cell? ⟨gb106, 1, none⟩ = some (.string (⟨#[]⟩ : ByteArray)) := (blk_cell BK106.out 1).trans rfl
      have hcz43_2 : w31.cell? ⟨gb106, 2, none⟩ = some (.int .i64 0) := (blk_cell BK106.out 2).trans rfl
      have hcz43_3 : w31.cell? ⟨gb106, 3, none⟩ = some (.float .f64 0) := (blk_cell BK106.out 3).trans rfl
      have hcz43_4 : w31.cell? ⟨gb106, 4, none⟩ = some (.bool false) := (blk_cell BK106.out 4).trans rfl
      have hfz43_0 := blk_frozen BK106.out 0
      have hfz43_1 := blk_frozen BK106.out 1
      have hfz43_2 := blk_frozen BK106.out 2
      have hfz43_3 := blk_frozen BK106.out 3
      have hfz43_4 := blk_frozen BK106.out 4
      have hcz44_0 : w31.cell? ⟨gb107, 0, none⟩ = some (.bool false) := (blk_cell BK107.out 0).trans rfl
      have hcz44_1 : w31.cell? ⟨gb107, 1, none⟩ = some (.string (⟨#[]⟩ : ByteArray)) := (blk_cell BK107.out 1).trans rfl
      have hcz44_2 : w31.cell? ⟨gb107, 2, none⟩ = some (.int .i64 0) := (blk_cell BK107.out 2).trans rfl
      have hcz44_3 : w31.cell? ⟨gb107, 3, none⟩ = some (.float .f64 0) := (blk_cell BK107.out 3).trans rfl
      have hcz44_4 : w31.cell? ⟨gb107, 4, none⟩ = some (.bool false) := (blk_cell BK107.out 4).trans rfl
      have hfz44_0 := blk_frozen BK107.out 0
      have hfz44_1 := blk_frozen BK107.out 1
      have hfz44_2 := blk_frozen BK107.out 2
      have hfz44_3 := blk_frozen BK107.out 3
      have hfz44_4 := blk_frozen BK107.out 4
      have q3 := Q3.out
      have q3' := Q3'.out
      have hfn := flt_neq
      go_wp2
      go_roundg (l0.length - x5_1.toNat)
      case measure => have := HK1.out; have := HC4.out; have := HX5.out; omega
      case rel => exact ⟨x5_1 + 1, by first | rfl | (rw [HX1.out]; done) | go_num, ⟨by have := HC4.out; have := HX5.out; omega⟩, ⟨by have := HC4.out; have := HX5.out; omega⟩, ⟨by repeat (first | (with_reducible first | exact HB.out | apply below_alloc | apply pw_below_drewN | apply below_drew1 | refine below_set ?_ GE106.out | refine below_set ?_ GE107.out) | exact HB.out)⟩⟩
    · have c4b0 : decide (x5_1 < (l0.length : Int)) = false := decide_eq_false c4
      clear c4
      go_wp2
      go_ret
      exact ⟨rfl, HB.out⟩

end Go.Proofs.Ythcikkjjegfblaa.P
