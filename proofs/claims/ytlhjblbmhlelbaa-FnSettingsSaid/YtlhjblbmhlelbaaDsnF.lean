/- fromDSN: the settings of a text of ASCII. Conditions: named by each theorem. -/
import Derived.Test.YtlhjblbmhlelbaaDsnE
import Derived.ScopeJumps
import Derived.WalkMore
namespace Go.Proofs.Ytlhjblbmhlelbaa.P
open Go.RowKit Go.Proofs.YtlhjblbmhlelbaaW.PrintWords Go.Proofs.YtlhjblbmhlelbaaW.PrintLast Go.Proofs.YtlhjblbmhlelbaaW.PrintMore
set_option linter.unusedVariables false
set_option linter.unusedSimpArgs false
theorem info_i32 : (Try.prog.info? 21).map (fun i => (i.zero, i.size, i.bytes)) = some (some (.int .i32 0), 1, 4) := by kernel_rfl
theorem row_append1 {ops : Array Oper} {rest : List Oper} {o : Oper} {a : Act} {Q : Exit → Act → World → Prop} {W : World} (base : Nat) (hgd : o.guard = none) (s x : Operand)
    (ho : o.op = .call { callee := .builtin .append, args := #[s, x], argTypes := #[54, 54] })
    (v : Value) (xs : List Int) (y : Int) (g c : Nat) (hs : a.eval s = v) (hx : a.eval x = .slice (some ⟨g, 0, none⟩) 1 c) (e' : TypeId) (hg : W.heap[g]? = some (.cells #[.int .i32 y] e' (0, 0)))
    (HO : Row base v xs W) (hbase : base ≤ W.heap.size) (hl : xs.length ≤ 1000000)
    (h : ∀ v1 w1, Row base v1 (xs ++ [y]) w1 → W.grownBy w1 v.ownBlock → wpList Try.prog ops Q rest (a.put o.dst v1) w1) : wpList Try.prog ops Q (o :: rest) a W := by
  refine Kd.R_append_row (w0 := W) (Value.int .i32) (0 : Int) (h1 := fun _ => rfl) base hgd s x 54 21 (.int .i32 0) 4 ho Try.underlying54 info_i32 rfl (by decide) v xs [y] (some ⟨g, 0, none⟩) 1 c (fun _ => True) hs hx (fun _ _ => trivial) HO
    (Kd.C_of_reads (d := (0 : Int)) ⟨rfl, by decide, fun _ => ⟨_, rfl, fun j hj => ?_⟩⟩) (Below.refl _ _) hbase (by omega) (fun v1 w1 h1 _ h3 _ => h v1 w1 h1 h3)
  obtain rfl : j = 0 := by omega
  have h8 := blk_cell hg 0
  have h9 : W.cell? ⟨g, 0, none⟩ = some (.int .i32 y) := h8.trans rfl
  rw [add_plain]
  exact h9
theorem errors_New_plain (s : ByteArray) (w : World) :
    Calls Try.prog 32 #[.string s] w fun e w' => (∃ t x, e = .returned (.iface t x)) ∧ Below w.heap.size w w' := by
  go_enter Try.func32, Try.ntmps32
  go_wp2_with fail
  go_ret
  exact ⟨⟨_, _, rfl⟩, below_alloc (Below.refl _ _) _⟩
/-- What fromDSN hands back. -/
def FromRes (w : World) (r : Option (List (List Int × List Int))) (e : Ending) (w' : World) : Prop :=
  (∀ A, r = some A → ∃ bm n, e = .returned (.tuple #[.map (some bm), .nilIface]) ∧ w.heap.size ≤ bm ∧ n ≤ 4001 ∧ w'.ownsMap Try.prog 9 (plainElem Try.prog 9) bm n (putL A)) ∧
  (r = none → ∃ t x, e = .returned (.tuple #[.map none, .iface t x]))
theorem keyLit_ok (l : List Int) (h : l.length ≤ 1000000) : keyOf Try.prog 9 (.string (strOfNums l)) = some (keyLit l) ∧ plainElem (H := Nat) Try.prog 9 (.string (strOfNums l)) = some (.lit (keyLit l), []) := by
  have hs : (strOfNums l).size ≤ maxLen := by
    have : (strOfNums l).size = l.length := by simp [strOfNums, ByteArray.size]
    rw [this]; unfold maxLen; omega
  exact ⟨Go.WideMaps.keyOf_string_mk Try.underlying9 hs, plainElem_string Try.underlying9 hs⟩
set_option maxHeartbeats 8000000 in
set_option maxRecDepth 100000 in
theorem fromDSN_any (a : ByteArray) (hs : a.size ≤ 4000) (ha : Asc (bytesOf a)) (w : World) :
    Calls Try.prog 26 #[.string a] w fun e w' => Below w.heap.size w w' ∧ FromRes w (parseL (a.size + 1) (bytesOf a)) e w' := by
  have hmm := @run_makeMap Try.prog
  have hrf := runesFrom_ascii a ha
  have hrz : (Conv.runesFrom a a.size 0 #[]).size ≤ 70368744177664 := by rw [hrf]; simp [bytesOf_length]; omega
  have hru := fun (W : World) => run_runes_of_string (P := Try.prog) W 9 54 21 a Try.underlying9 Try.underlying54 Try.underlying21 hrz
  rw [hrf] at hru
  have hmf : ∀ (fn : Fn) (first cap : Array Value) (w : World), (Instr.makeFunc fn first cap).run Try.prog w = .ok (.func fn first cap) w := fun _ _ _ _ => rfl
  have HA := Aside0.mk ha
  have HS := Aside0.mk hs
  clear hrf hrz ha hs
  go_enter Try.func26, Try.ntmps26
  go_wp2
  clear hmm hru hmf
  obtain ⟨p, hp⟩ : ∃ p : Pl, p = ⟨w.heap.size + 1 + 1 + 1, w.heap.size + 1 + 1, w.heap.size + 1, w.heap.size + 1 + 1 + 1 + 1⟩ := ⟨_, rfl⟩
  obtain ⟨bm, hbm⟩ : ∃ bm, bm = w.heap.size := ⟨_, rfl⟩
  obtain ⟨B0, hB0⟩ : ∃ B0, B0 = w.heap.size + 5 := ⟨_, rfl⟩
  have HI0 := start_inv w a HS.out HA.out (grownCap (w.alloc (Obj.map #[] 0)) (bytesOf a).length 0 21)
  rw [← hp, ← hB0] at HI0
  have e4 : w.heap.size + 1 + 1 + 1 + 1 = p.bn := by rw [hp]
  have e3 : w.heap.size + 1 + 1 + 1 = p.bi := by rw [hp]
  have e2 : w.heap.size + 1 + 1 = p.bs := by rw [hp]
  rw [e3, e2] at HI0
  rw [e4, e3, e2]
  have HI1 := Aside0.mk HI0
  clear HI0 e4 e3 e2 hp hB0
  go_loopg [] (a.size + 1) (fun kq wx => ∃ (l : List Int) (A : List (List Int × List Int)), Aside0 (Inv w p w.heap.size B0 (bytesOf a) A l wx) ∧ Aside0 (l.length + 1 ≤ kq) ∧ Aside0 (parseL (a.size + 1) (bytesOf a) = (parseL kq l).map (fun r => A ++ r)) ∧ Aside0 (A.length + l.length ≤ 4000))
  case atStart => exact ⟨bytesOf a, [], HI1, ⟨by rw [bytesOf_length]; omega⟩, ⟨by simp⟩, ⟨by rw [bytesOf_length]; have := HS.out; simp; omega⟩⟩
  case round =>
    obtain ⟨l, A, HI, HN, HP, HZ⟩ := hrel
    have hcn := HI.out.ds.fn
    have HAS := Aside0.mk (skipL_asc HI.out.asc)
    obtain ⟨l1, hl1⟩ : ∃ l1, l1 = skipL l := ⟨_, rfl⟩
    have HLL : Aside0 (l1.length ≤ l.length) := ⟨by rw [hl1]; exact skipL_len l⟩
    obtain ⟨kq, rfl⟩ : ∃ kq, gk = kq + 1 := ⟨gk - 1, by have := HN.out; omega⟩
    by_cases hne : ne (skipL l) = false
    case pos =>
      -- nothing is left
      go_wp2_with (first | (go_at_call 30; (with_reducible refine (skip_inv HI.out).mono ?_); rintro e wn ⟨rfl, hi, hg⟩; have n0_ := Aside0.mk hi; clear hcn; clear HI; have HI := n0_; clear n0_; clear hi hg; have hcn := HI.out.ds.fn))
      go_ret2
      refine ⟨HI.out.bl, fun A' hA => ?_, fun hno => ?_⟩
      · have h2 : parseL (kq + 1) l = some [] := by unfold parseL; rw [if_pos hne]
        rw [HP.out, h2] at hA
        simp at hA
        subst hA
        exact ⟨w.heap.size, A.length, rfl, HI.out.ly.h7, by have := HZ.out; omega, HI.out.mp⟩
      · have h2 : parseL (kq + 1) l = some [] := by unfold parseL; rw [if_pos hne]
        rw [HP.out, h2] at hno
        simp at hno
    case neg =>
    replace hne : ne (skipL l) = true := (by cases h : ne (skipL l) with | false => exact absurd h hne | true => rfl)
    have HNE := Aside0.mk hne
    go_upto_block 2 with (first | (go_at_call 30; (with_reducible refine (skip_inv HI.out).mono ?_); rintro e wn ⟨rfl, hi, hg⟩; have n0_ := Aside0.mk hi; clear hcn; clear HI; have HI := n0_; clear n0_; clear hi hg; have hcn := HI.out.ds.fn))
    rw [← hl1] at HI HAS HNE
    have HI1 := HI
    rw [← hl1]
    have HL1 := Aside0.mk hl1
    clear hl1 hne
    go_cut [9, 11, 12] (fun u9 u11 u12 wc => u11 = .int .i32 (hd0 (keyL l1).2) ∧ u12 = .bool (ne (keyL l1).2) ∧ Aside0 (Row B0 u9 (keyL l1).1 wc) ∧ Aside0 (Inv w p w.heap.size B0 (bytesOf a) A (keyL l1).2.tail wc))
    case first =>
      go_wp2
      go_loopg [9, 11, 12] (l1.length + 1) (fun kq2 u9 u11 u12 wx => ∃ (l' ks : List Int), u11 = .int .i32 (hd0 l') ∧ u12 = .bool (ne l') ∧ Aside0 (ne l' = true) ∧ Aside0 (Row B0 u9 ks wx) ∧ Aside0 (Inv w p w.heap.size B0 (bytesOf a) A l'.tail wx) ∧ Aside0 ((keyL l1).1 = ks ++ (keyL l').1) ∧ Aside0 ((keyL l1).2 = (keyL l').2) ∧ Aside0 (l'.length + 1 ≤ kq2) ∧ Aside0 (ks.length + l'.length ≤ 4000) ∧ Aside0 (Asc l'))
      case atStart => exact ⟨l1, [], rfl, by rw [HNE.out], ⟨HNE.out⟩, ⟨Row.nil _ _⟩, HI1, ⟨rfl⟩, ⟨rfl⟩, ⟨Nat.le_refl _⟩, ⟨by have := HLL.out; have := HZ.out; simp; omega⟩, HAS⟩
      case round =>
        obtain ⟨l', ks, rfl, rfl, HL, HK, HI, HK1, HK2, HM, HLK2, HB⟩ := hrel
        have hcn := HI.out.ds.fn
        cases l' with
        | nil => exact absurd HL.out (by decide)
        | cons c t =>
        have hb1 : 0 ≤ hd0 (c :: t) := (HB.out c (by simp)).1
        have hb2 : hd0 (c :: t) < 128 := (HB.out c (by simp)).2
        have HLK : Aside0 (ks.length ≤ 1000000) := ⟨by have := HLK2.out; omega⟩
        by_cases hs : spI c = true
        case pos =>
          have hs1 : spI (hd0 (c :: t)) = true := hs
          have HE : Aside0 (keyL (c :: t) = ([], c :: t)) := ⟨by unfold keyL; rw [if_pos (Or.inl hs)]⟩
          go_wp2_with (first | (go_at_call 31; (with_reducible refine (isSpace_any _ hb1 hb2 _).mono ?_); rintro e wz ⟨rfl, ⟨nd, rfl⟩⟩; have n0_ := Aside0.mk (HI.out.drewN nd); have n1_ := Aside0.mk (HK.out.drewN nd); clear hcn; clear HI HK; have HI := n0_; have HK := n1_; clear n0_ n1_; skip; have hcn := HI.out.ds.fn))
          go_meet
          case rel => exact ⟨by rw [HK2.out, HE.out], by rw [HK2.out, HE.out], ⟨by rw [HK1.out, HE.out, List.append_nil]; exact HK.out⟩, ⟨by rw [HK2.out, HE.out]; exact HI.out⟩⟩
        case neg =>
          have hs1 : spI (hd0 (c :: t)) = false := Bool.eq_false_iff.mpr hs
          by_cases he : c = 61
          case pos =>
            subst he
            have hs2 : (hd0 (61 :: t) != 61) = false := rfl
            have hs3 : (hd0 (61 :: t) == 61) = true := rfl
            have HE : Aside0 (keyL (61 :: t) = ([], 61 :: t)) := ⟨by unfold keyL; rw [if_pos (Or.inr rfl)]⟩
            go_wp2_with (first | (go_at_call 31; (with_reducible refine (isSpace_any _ hb1 hb2 _).mono ?_); rintro e wz ⟨rfl, ⟨nd, rfl⟩⟩; have n0_ := Aside0.mk (HI.out.drewN nd); have n1_ := Aside0.mk (HK.out.drewN nd); clear hcn; clear HI HK; have HI := n0_; have HK := n1_; clear n0_ n1_; skip; have hcn := HI.out.ds.fn))
            go_meet
            case rel => exact ⟨by rw [HK2.out, HE.out], by rw [HK2.out, HE.out], ⟨by rw [HK1.out, HE.out, List.append_nil]; exact HK.out⟩, ⟨by rw [HK2.out, HE.out]; exact HI.out⟩⟩
          case neg =>
            have hs2 : (hd0 (c :: t) != 61) = true := bne_iff_ne.2 he
            have hs3 : (hd0 (c :: t) == 61) = false := beq_eq_false_iff_ne.2 he
            have HE : Aside0 (keyL (c :: t) = (c :: (keyL t).1, (keyL t).2)) := ⟨by rw [keyL]; exact if_neg (by intro h; rcases h with h | h; exact hs h; exact he h)⟩
            cases t with
            | nil =>
              have hnn : ne ([] : List Int) = false := rfl
              go_wp2_with (first | (go_at_call 31; (with_reducible refine (isSpace_any _ hb1 hb2 _).mono ?_); rintro e wz ⟨rfl, ⟨nd, rfl⟩⟩; have n0_ := Aside0.mk (HI.out.drewN nd); have n1_ := Aside0.mk (HK.out.drewN nd); clear hcn; clear HI HK; have HI := n0_; have HK := n1_; clear n0_ n1_; skip; have hcn := HI.out.ds.fn) | ((with_reducible refine gate_dst (N := 35) rfl ?_); refine row_append1 B0 rfl (.tmp 32) _ rfl _ _ _ _ _ rfl rfl _ (blk_new _ _) (HK.out.alloc _) ?hbs ?hln ?_; (case hbs => exact (HI.out.alloc _).sz); (case hln => (have := HLK.out; omega)); intro v35 w35 hr hg; have n0_ := Aside0.mk ((HI.out.alloc _).grown hg (fun k hk => (HK.out.lt k hk).1)); have n1_ := Aside0.mk hr; clear hcn; clear HI HK; have HI := n0_; have HK := n1_; clear n0_ n1_; clear hr hg; have hcn := HI.out.ds.fn) | (go_at_call 29; (with_reducible refine (next_inv HI.out).mono ?_); rintro e wn ⟨rfl, hi, hg⟩; have n0_ := Aside0.mk hi; have n1_ := Aside0.mk (HK.out.low hg HI.out.ly.h3); clear hcn; clear HI HK; have HI := n0_; have HK := n1_; clear n0_ n1_; clear hi hg; have hcn := HI.out.ds.fn))
              go_meet
              case rel => exact ⟨by rw [HK2.out, HE.out]; rfl, by rw [HK2.out, HE.out]; rfl, ⟨by rw [HK1.out, HE.out]; exact HK.out⟩, ⟨by rw [HK2.out, HE.out]; exact HI.out⟩⟩
            | cons d t =>
              have hnn : ne (d :: t) = true := rfl
              go_wp2_with (first | (go_at_call 31; (with_reducible refine (isSpace_any _ hb1 hb2 _).mono ?_); rintro e wz ⟨rfl, ⟨nd, rfl⟩⟩; have n0_ := Aside0.mk (HI.out.drewN nd); have n1_ := Aside0.mk (HK.out.drewN nd); clear hcn; clear HI HK; have HI := n0_; have HK := n1_; clear n0_ n1_; skip; have hcn := HI.out.ds.fn) | ((with_reducible refine gate_dst (N := 35) rfl ?_); refine row_append1 B0 rfl (.tmp 32) _ rfl _ _ _ _ _ rfl rfl _ (blk_new _ _) (HK.out.alloc _) ?hbs ?hln ?_; (case hbs => exact (HI.out.alloc _).sz); (case hln => (have := HLK.out; omega)); intro v35 w35 hr hg; have n0_ := Aside0.mk ((HI.out.alloc _).grown hg (fun k hk => (HK.out.lt k hk).1)); have n1_ := Aside0.mk hr; clear hcn; clear HI HK; have HI := n0_; have HK := n1_; clear n0_ n1_; clear hr hg; have hcn := HI.out.ds.fn) | (go_at_call 29; (with_reducible refine (next_inv HI.out).mono ?_); rintro e wn ⟨rfl, hi, hg⟩; have n0_ := Aside0.mk hi; have n1_ := Aside0.mk (HK.out.low hg HI.out.ly.h3); clear hcn; clear HI HK; have HI := n0_; have HK := n1_; clear n0_ n1_; clear hi hg; have hcn := HI.out.ds.fn))
              go_roundg (t.length + 2)
              case measure => have := HM.out; simp at this; omega
              case rel => exact ⟨d :: t, ks ++ [c], rfl, rfl, ⟨rfl⟩, HK, HI, ⟨by rw [HK1.out, HE.out]; simp⟩, ⟨by rw [HK2.out, HE.out]⟩, ⟨by simp⟩, ⟨by have := HLK2.out; simp at this ⊢; omega⟩, ⟨fun x hx => HB.out x (List.mem_cons_of_mem _ hx)⟩⟩
    case rest =>
      clear HI HI1 hcn
      obtain ⟨⟨ks, l2⟩, hkl⟩ : ∃ kl, kl = keyL l1 := ⟨_, rfl⟩
      rw [← hkl] at hcut
      have HKL := Aside0.mk hkl.symm
      clear hkl
      dsimp only at hcut
      obtain ⟨rfl, rfl, HK, HI⟩ := hcut
      have hcn := HI.out.ds.fn
      have HKA : Aside0 (Asc ks ∧ Asc l2) := ⟨by have := keyL_asc HAS.out; rw [HKL.out] at this; exact this⟩
      have HKZ : Aside0 (ks.length + l2.length = l1.length) := ⟨by have := congrArg List.length (keyL_sub l1); rw [HKL.out, List.length_append] at this; exact this.symm⟩
      go_upto_if 44 with (fail)
      go_cut [11, 12] (fun u11 u12 wc => u11 = .int .i32 (hd0 (eqL l2)) ∧ u12 = .bool (ne (eqL l2)) ∧ Aside0 (Row B0 u9 ks wc) ∧ Aside0 (Inv w p w.heap.size B0 (bytesOf a) A (eqL l2).tail wc))
      case first =>
        by_cases h61 : hd0 l2 = 61
        · have hs2 : (hd0 l2 != 61) = false := bne_eq_false_iff_eq.mpr h61
          have hs3 : (hd0 l2 == 61) = true := beq_iff_eq.mpr h61
          have HE : Aside0 (eqL l2 = l2) := ⟨by unfold eqL; rw [if_pos h61]⟩
          clear h61
          go_wp2
          go_meet
          case rel => exact ⟨by rw [HE.out], by rw [HE.out], HK, ⟨by rw [HE.out]; exact HI.out⟩⟩
        · have hs2 : (hd0 l2 != 61) = true := bne_iff_ne.2 h61
          have hs3 : (hd0 l2 == 61) = false := beq_eq_false_iff_ne.2 h61
          have HE : Aside0 (eqL l2 = skipL l2.tail) := ⟨by unfold eqL; rw [if_neg h61]⟩
          go_wp2_with (first | (go_at_call 30; (with_reducible refine (skip_inv HI.out).mono ?_); rintro e wn ⟨rfl, hi, hg⟩; have n0_ := Aside0.mk hi; have n1_ := Aside0.mk (HK.out.low hg HI.out.ly.h3); clear hcn; clear HI HK; have HI := n0_; have HK := n1_; clear n0_ n1_; clear hi hg; have hcn := HI.out.ds.fn))
          go_meet
          case rel => exact ⟨by rw [HE.out], by rw [HE.out], HK, ⟨by rw [HE.out]; exact HI.out⟩⟩
      case rest =>
        clear HI HK hcn
        obtain ⟨l3, hl3⟩ : ∃ l3, l3 = eqL l2 := ⟨_, rfl⟩
        rw [← hl3] at hcut
        have HL3 := Aside0.mk hl3.symm
        have HL3A : Aside0 (Asc l3) := ⟨by rw [hl3]; exact eqL_asc HKA.out.2⟩
        have HL3Z : Aside0 (l3.length ≤ l2.length) := ⟨by rw [hl3]; exact eqL_len l2⟩
        clear hl3
        obtain ⟨rfl, rfl, HK, HI⟩ := hcut
        have hcn := HI.out.ds.fn
        by_cases h61 : hd0 l3 = 61
        case neg =>
          have hs2 : (hd0 l3 != 61) = true := bne_iff_ne.2 h61
          have hs3 : (hd0 l3 == 61) = false := beq_eq_false_iff_ne.2 h61
          go_wp2_with (first | (go_at_call 32; (with_reducible refine (errors_New_plain _ _).mono ?_); rintro e we ⟨⟨te, xe, rfl⟩, hb⟩; have n0_ := Aside0.mk (HI.out.below hb); clear hcn; clear HI; have HI := n0_; clear n0_; clear hb; have hcn := HI.out.ds.fn))
          go_ret2
          refine ⟨HI.out.bl, fun A' hA => ?_, fun _ => ⟨_, _, rfl⟩⟩
          have h2 : parseL (kq + 1) l = none := by unfold parseL; rw [← HL1.out, HNE.out, if_neg (by decide), HKL.out, HL3.out, if_neg h61]
          rw [HP.out, h2] at hA
          cases hA
        case pos =>
        have HNE3 : Aside0 (ne l3 = true) := ⟨by cases l3 with | nil => cases h61 | cons c t => rfl⟩
        have hn3 := HNE3.out
        have hs2 : (hd0 l3 != 61) = false := bne_eq_false_iff_eq.mpr h61
        have hs3 : (hd0 l3 == 61) = true := beq_iff_eq.mpr h61
        have H61 := Aside0.mk h61
        clear h61
        obtain ⟨l4, hl4⟩ : ∃ l4, l4 = skipL l3.tail := ⟨_, rfl⟩
        have HL4 := Aside0.mk hl4.symm
        have HL4A : Aside0 (Asc l4) := ⟨by rw [hl4]; exact skipL_asc (tail_asc HL3A.out)⟩
        have HL4Z : Aside0 (l4.length + 1 ≤ l3.length) := ⟨by
          rw [hl4]
          have := skipL_len l3.tail
          cases l3 with
          | nil => cases hn3
          | cons c t => simp at this ⊢; omega⟩
        clear hl4
        have SKI : Aside0 (∀ W, Inv w p w.heap.size B0 (bytesOf a) A l3.tail W → Calls Try.prog 30 #[.pointer (some ⟨p.bn, 0, none⟩)] W fun e W1 => e = .returned (.tuple #[.int .i32 (hd0 l4), .bool (ne l4)]) ∧ Inv w p w.heap.size B0 (bytesOf a) A l4.tail W1 ∧ W.grownBy W1 (some p.bi)) := ⟨fun W h => by have := skip_inv h; rw [HL4.out] at this; exact this⟩
        by_cases hn4 : ne l4 = false
        case pos =>
          go_wp2_with (first | (go_at_call 30; (with_reducible refine (SKI.out _ HI.out).mono ?_); rintro e wn ⟨rfl, hi, hg⟩; have n0_ := Aside0.mk hi; have n1_ := Aside0.mk (HK.out.low hg HI.out.ly.h3); clear hcn; clear HI HK; have HI := n0_; have HK := n1_; clear n0_ n1_; clear hi hg; have hcn := HI.out.ds.fn; have hcv := runes_string (P := Try.prog) Try.underlying54 Try.underlying21 Try.underlying9 HK.out HKA.out.1) | (at_mapUpdate; refine wpList_mapUpdate_own _ rfl _ _ _ 43 rfl 9 9 (Maps.string_keyed Try.underlying9) Try.underlying43 _ w.heap.size A.length _ rfl HI.out.mp ?hmz _ _ _ rfl rfl (keyLit_ok ks (by have h1 := HKZ.out; have h2 := HLL.out; have h3 := HZ.out; first | (simp; done) | omega)).1 _ [] (keyLit_ok [] (by have h1 := HKZ.out; have h2 := HLL.out; have h3 := HZ.out; first | (simp; done) | omega)).2 ?_; (case hmz => (have := HZ.out; unfold maxLen; omega)); intro wu hown hgu; have n0_ := Aside0.mk (HI.out.put (x := (ks, [])) hown hgu); clear HI hcn hcv hown hgu; have HI := n0_; clear n0_; have hcn := HI.out.ds.fn))
          go_ret2
          have h2 : parseL (kq + 1) l = some [(ks, [])] := by unfold parseL; rw [← HL1.out, HNE.out, if_neg (by decide), HKL.out, HL3.out, if_pos H61.out, HL4.out, if_pos hn4]
          refine ⟨HI.out.bl, fun A' hA => ?_, fun hno => ?_⟩
          · rw [HP.out, h2] at hA
            simp at hA
            subst hA
            exact ⟨w.heap.size, (A ++ [(ks, [])]).length, rfl, Nat.le_refl _, by have := HZ.out; simp; omega, HI.out.mp⟩
          · rw [HP.out, h2] at hno
            simp at hno
        case neg =>
        replace hn4 : ne l4 = true := (by cases h : ne l4 with | false => exact absurd h hn4 | true => rfl)
        have HN4 := Aside0.mk hn4
        go_upto_if 68 with (first | (go_at_call 30; (with_reducible refine (SKI.out _ HI.out).mono ?_); rintro e wn ⟨rfl, hi, hg⟩; have n0_ := Aside0.mk hi; have n1_ := Aside0.mk (HK.out.low hg HI.out.ly.h3); clear hcn; clear HI HK; have HI := n0_; have HK := n1_; clear n0_ n1_; clear hi hg; have hcn := HI.out.ds.fn))
        have HPS : Aside0 (parseL (kq + 1) l = (valL l4).bind fun v => (parseL kq v.2).map (fun r => (ks, v.1) :: r)) := ⟨by
          rw [parseL, ← HL1.out, HNE.out, if_neg (by decide), HKL.out, HL3.out, if_pos H61.out, HL4.out, HN4.out, if_neg (by decide)]⟩
        clear hn4
        obtain ⟨Bv, hBv⟩ : ∃ Bv, Bv = wn.heap.size := ⟨_, rfl⟩
        have HBV : Aside0 (B0 ≤ Bv) := ⟨by rw [hBv]; exact HI.out.sz⟩
        have HKB : Aside0 (∀ k, u9.ownBlock = some k → k < Bv) := ⟨fun k hk => by rw [hBv]; exact (HK.out.lt k hk).2⟩
        have HBW : Aside0 (Bv ≤ wn.heap.size) := ⟨by rw [hBv]; exact Nat.le_refl _⟩
        clear hBv
        have HKZ4 : Aside0 (l4.length ≤ 4000) := ⟨by have := HL4Z.out; have := HL3Z.out; have := HKZ.out; have := HLL.out; have := HZ.out; omega⟩
        generalize hb4 : (hd0 l4 != 39) = b4
        have HB4 := Aside0.mk hb4
        clear hb4
        go_cut [10] (fun u10 wc => ∃ vs rest : List Int, Aside0 (valL l4 = some (vs, rest)) ∧ Aside0 (Row Bv u10 vs wc) ∧ Aside0 (Row B0 u9 ks wc) ∧ Aside0 (Inv w p w.heap.size B0 (bytesOf a) A rest wc) ∧ Aside0 (Asc vs))
        case first =>
          cases b4
          case true =>
            have HVL : Aside0 (valL l4 = uvalL l4) := ⟨by unfold valL; rw [if_neg (bne_iff_ne.1 HB4.out)]⟩
            go_wp2
            have hn4 := HN4.out
            go_loopg [10, 11, 12] (l4.length + 1) (fun kq2 u10 u11 u12 wx => ∃ l' vs : List Int, u11 = .int .i32 (hd0 l') ∧ u12 = .bool (ne l') ∧ Aside0 (ne l' = true) ∧ Aside0 (Row Bv u10 vs wx) ∧ Aside0 (Row B0 u9 ks wx) ∧ Aside0 (Inv w p w.heap.size B0 (bytesOf a) A l'.tail wx) ∧ Aside0 (Bv ≤ wx.heap.size) ∧ Aside0 (uvalL l4 = (uvalL l').map (fun r => (vs ++ r.1, r.2))) ∧ Aside0 (l'.length + 1 ≤ kq2) ∧ Aside0 (vs.length + l'.length ≤ 4000) ∧ Aside0 (Asc l') ∧ Aside0 (Asc vs))
            case atStart => exact ⟨l4, [], rfl, by first | rfl | rw [HN4.out], HN4, ⟨Row.nil _ _⟩, HK, HI, HBW, ⟨by simp⟩, ⟨Nat.le_refl _⟩, ⟨by have := HKZ4.out; simp; omega⟩, HL4A, ⟨fun x hx => by cases hx⟩⟩
            case round =>
              obtain ⟨l', vs, rfl, rfl, HL, HV, HK, HI, HBW, HU, HM, HVZ, HB, HVA⟩ := hrel
              have hcn := HI.out.ds.fn
              clear hn4
              have HLV : Aside0 (vs.length ≤ 1000000) := ⟨by have := HVZ.out; omega⟩
              cases l' with
              | nil => exact absurd HL.out (by decide)
              | cons c t =>
              have hb1 : 0 ≤ hd0 (c :: t) := (HB.out c (by simp)).1
              have hb2 : hd0 (c :: t) < 128 := (HB.out c (by simp)).2
              by_cases hs : spI c = true
              case pos =>
                have hs1 : spI (hd0 (c :: t)) = true := hs
                have HE : Aside0 (uvalL (c :: t) = some ([], t)) := ⟨by cases t <;> (unfold uvalL; rw [if_pos hs])⟩
                go_wp2_with (first | (go_at_call 31; (with_reducible refine (isSpace_any _ hb1 hb2 _).mono ?_); rintro e wz ⟨rfl, ⟨nd, rfl⟩⟩; have n0_ := Aside0.mk (HI.out.drewN nd); have n1_ := Aside0.mk (HK.out.drewN nd); have n2_ := Aside0.mk (HV.out.drewN nd); have n3_ := Aside0.mk (Nat.le_trans HBW.out (Nat.le_of_eq rfl : _ ≤ (World.drewN _ nd).heap.size)); clear hcn; clear HI HK HV HBW; have HI := n0_; have HK := n1_; have HV := n2_; have HBW := n3_; clear n0_ n1_ n2_ n3_; skip; have hcn := HI.out.ds.fn))
                go_meet
                case rel => exact ⟨vs, t, ⟨by rw [HVL.out, HU.out, HE.out]; simp⟩, HV, HK, HI, HVA⟩
              case neg =>
                have hs1 : spI (hd0 (c :: t)) = false := Bool.eq_false_iff.mpr hs
                by_cases he : c = 92
                case pos =>
                  subst he
                  have hs2 : (hd0 (92 :: t) == 92) = true := rfl
                  have hs3 : (hd0 (92 :: t) != 92) = false := rfl
                  cases t with
                  | nil =>
                    have hnn : ne ([] : List Int) = false := rfl
                    go_wp2_with (first | (go_at_call 31; (with_reducible refine (isSpace_any _ hb1 hb2 _).mono ?_); rintro e wz ⟨rfl, ⟨nd, rfl⟩⟩; have n0_ := Aside0.mk (HI.out.drewN nd); have n1_ := Aside0.mk (HK.out.drewN nd); have n2_ := Aside0.mk (HV.out.drewN nd); have n3_ := Aside0.mk (Nat.le_trans HBW.out (Nat.le_of_eq rfl : _ ≤ (World.drewN _ nd).heap.size)); clear hcn; clear HI HK HV HBW; have HI := n0_; have HK := n1_; have HV := n2_; have HBW := n3_; clear n0_ n1_ n2_ n3_; skip; have hcn := HI.out.ds.fn) | (go_at_call 29; (with_reducible refine (next_inv HI.out).mono ?_); rintro e wn ⟨rfl, hi, hg⟩; have n0_ := Aside0.mk hi; have n1_ := Aside0.mk (HK.out.low hg HI.out.ly.h3); have n2_ := Aside0.mk (HV.out.low hg (Nat.lt_of_lt_of_le HI.out.ly.h3 HBV.out)); have n3_ := Aside0.mk (Nat.le_trans HBW.out hg.size); clear hcn; clear HI HK HV HBW; have HI := n0_; have HK := n1_; have HV := n2_; have HBW := n3_; clear n0_ n1_ n2_ n3_; clear hi hg; have hcn := HI.out.ds.fn) | (go_at_call 32; (with_reducible refine (errors_New_plain _ _).mono ?_); rintro e we ⟨⟨te, xe, rfl⟩, hb⟩; have n0_ := Aside0.mk (HI.out.below hb); clear hcn; clear HI; have HI := n0_; clear n0_; clear hb; have hcn := HI.out.ds.fn))
                    go_ret2
                    refine ⟨HI.out.bl, fun A' hA => ?_, fun _ => ⟨_, _, rfl⟩⟩
                    have h2 : valL l4 = none := by rw [HVL.out, HU.out]; simp [uvalL]; rfl
                    rw [HP.out, HPS.out, h2] at hA
                    cases hA
                  | cons d t =>
                    have hnn : ne (d :: t) = true := rfl
                    have HE : Aside0 (uvalL (92 :: d :: t) = (uvalL t).map (fun r => (d :: r.1, r.2))) := ⟨by rw [uvalL, if_neg hs, if_pos rfl]⟩
                    cases t with
                    | nil =>
                      have hnn2 : ne ([] : List Int) = false := rfl
                      go_wp2_with (first | (go_at_call 31; (with_reducible refine (isSpace_any _ hb1 hb2 _).mono ?_); rintro e wz ⟨rfl, ⟨nd, rfl⟩⟩; have n0_ := Aside0.mk (HI.out.drewN nd); have n1_ := Aside0.mk (HK.out.drewN nd); have n2_ := Aside0.mk (HV.out.drewN nd); have n3_ := Aside0.mk (Nat.le_trans HBW.out (Nat.le_of_eq rfl : _ ≤ (World.drewN _ nd).heap.size)); clear hcn; clear HI HK HV HBW; have HI := n0_; have HK := n1_; have HV := n2_; have HBW := n3_; clear n0_ n1_ n2_ n3_; skip; have hcn := HI.out.ds.fn) | (go_at_call 29; (with_reducible refine (next_inv HI.out).mono ?_); rintro e wn ⟨rfl, hi, hg⟩; have n0_ := Aside0.mk hi; have n1_ := Aside0.mk (HK.out.low hg HI.out.ly.h3); have n2_ := Aside0.mk (HV.out.low hg (Nat.lt_of_lt_of_le HI.out.ly.h3 HBV.out)); have n3_ := Aside0.mk (Nat.le_trans HBW.out hg.size); clear hcn; clear HI HK HV HBW; have HI := n0_; have HK := n1_; have HV := n2_; have HBW := n3_; clear n0_ n1_ n2_ n3_; clear hi hg; have hcn := HI.out.ds.fn) | ((with_reducible refine gate_dst (N := 85) rfl ?_); refine row_append1 Bv rfl (.tmp 82) _ rfl _ _ _ _ _ rfl rfl _ (blk_new _ _) (HV.out.alloc _) ?hbs ?hln ?_; (case hbs => exact Nat.le_trans HBW.out (Below.size (below_alloc (Below.refl _ _) _))); (case hln => (have := HLV.out; omega)); intro v85 w85 hr hg; have n0_ := Aside0.mk ((HI.out.alloc _).grown hg (fun k hk => Nat.le_trans HBV.out (HV.out.lt k hk).1)); have n1_ := Aside0.mk ((HK.out.alloc _).grown hg (fun k hk e => Nat.lt_irrefl _ (Nat.lt_of_lt_of_le (HKB.out k e) (HV.out.lt k hk).1))); have n2_ := Aside0.mk hr; have n3_ := Aside0.mk (Nat.le_trans (Nat.le_trans HBW.out (Below.size (below_alloc (Below.refl _ _) _))) hg.size); clear hcn; clear HI HK HV HBW; have HI := n0_; have HK := n1_; have HV := n2_; have HBW := n3_; clear n0_ n1_ n2_ n3_; clear hr hg; have hcn := HI.out.ds.fn))
                      go_meet
                      case rel => exact ⟨vs ++ [d], [], ⟨by rw [HVL.out, HU.out, HE.out]; simp [uvalL]⟩, HV, HK, HI, ⟨fun x hx => by rcases List.mem_append.1 hx with h | h; exact HVA.out x h; exact HB.out x (by simp at h; simp [h])⟩⟩
                    | cons f t =>
                      have hnn2 : ne (f :: t) = true := rfl
                      go_wp2_with (first | (go_at_call 31; (with_reducible refine (isSpace_any _ hb1 hb2 _).mono ?_); rintro e wz ⟨rfl, ⟨nd, rfl⟩⟩; have n0_ := Aside0.mk (HI.out.drewN nd); have n1_ := Aside0.mk (HK.out.drewN nd); have n2_ := Aside0.mk (HV.out.drewN nd); have n3_ := Aside0.mk (Nat.le_trans HBW.out (Nat.le_of_eq rfl : _ ≤ (World.drewN _ nd).heap.size)); clear hcn; clear HI HK HV HBW; have HI := n0_; have HK := n1_; have HV := n2_; have HBW := n3_; clear n0_ n1_ n2_ n3_; skip; have hcn := HI.out.ds.fn) | (go_at_call 29; (with_reducible refine (next_inv HI.out).mono ?_); rintro e wn ⟨rfl, hi, hg⟩; have n0_ := Aside0.mk hi; have n1_ := Aside0.mk (HK.out.low hg HI.out.ly.h3); have n2_ := Aside0.mk (HV.out.low hg (Nat.lt_of_lt_of_le HI.out.ly.h3 HBV.out)); have n3_ := Aside0.mk (Nat.le_trans HBW.out hg.size); clear hcn; clear HI HK HV HBW; have HI := n0_; have HK := n1_; have HV := n2_; have HBW := n3_; clear n0_ n1_ n2_ n3_; clear hi hg; have hcn := HI.out.ds.fn) | ((with_reducible refine gate_dst (N := 85) rfl ?_); refine row_append1 Bv rfl (.tmp 82) _ rfl _ _ _ _ _ rfl rfl _ (blk_new _ _) (HV.out.alloc _) ?hbs ?hln ?_; (case hbs => exact Nat.le_trans HBW.out (Below.size (below_alloc (Below.refl _ _) _))); (case hln => (have := HLV.out; omega)); intro v85 w85 hr hg; have n0_ := Aside0.mk ((HI.out.alloc _).grown hg (fun k hk => Nat.le_trans HBV.out (HV.out.lt k hk).1)); have n1_ := Aside0.mk ((HK.out.alloc _).grown hg (fun k hk e => Nat.lt_irrefl _ (Nat.lt_of_lt_of_le (HKB.out k e) (HV.out.lt k hk).1))); have n2_ := Aside0.mk hr; have n3_ := Aside0.mk (Nat.le_trans (Nat.le_trans HBW.out (Below.size (below_alloc (Below.refl _ _) _))) hg.size); clear hcn; clear HI HK HV HBW; have HI := n0_; have HK := n1_; have HV := n2_; have HBW := n3_; clear n0_ n1_ n2_ n3_; clear hr hg; have hcn := HI.out.ds.fn))
                      go_roundg (t.length + 2)
                      case measure => have := HM.out; simp at this; omega
                      case rel => exact ⟨f :: t, vs ++ [d], rfl, rfl, ⟨rfl⟩, HV, HK, HI, HBW, ⟨by rw [HU.out, HE.out]; simp [Option.map_map, Function.comp_def]⟩, ⟨by simp⟩, ⟨by have := HVZ.out; simp at this ⊢; omega⟩, ⟨fun x hx => HB.out x (List.mem_cons_of_mem _ (List.mem_cons_of_mem _ hx))⟩, ⟨fun x hx => by rcases List.mem_append.1 hx with h | h; exact HVA.out x h; exact HB.out x (by simp at h; simp [h])⟩⟩
                case neg =>
                  have hs2 : (hd0 (c :: t) == 92) = false := beq_eq_false_iff_ne.2 he
                  have hs3 : (hd0 (c :: t) != 92) = true := bne_iff_ne.2 he
                  cases t with
                  | nil =>
                    have hnn : ne ([] : List Int) = false := rfl
                    have HE : Aside0 (uvalL [c] = some ([c], [])) := ⟨by rw [uvalL, if_neg hs, if_neg he]⟩
                    go_wp2_with (first | (go_at_call 31; (with_reducible refine (isSpace_any _ hb1 hb2 _).mono ?_); rintro e wz ⟨rfl, ⟨nd, rfl⟩⟩; have n0_ := Aside0.mk (HI.out.drewN nd); have n1_ := Aside0.mk (HK.out.drewN nd); have n2_ := Aside0.mk (HV.out.drewN nd); have n3_ := Aside0.mk (Nat.le_trans HBW.out (Nat.le_of_eq rfl : _ ≤ (World.drewN _ nd).heap.size)); clear hcn; clear HI HK HV HBW; have HI := n0_; have HK := n1_; have HV := n2_; have HBW := n3_; clear n0_ n1_ n2_ n3_; skip; have hcn := HI.out.ds.fn) | (go_at_call 29; (with_reducible refine (next_inv HI.out).mono ?_); rintro e wn ⟨rfl, hi, hg⟩; have n0_ := Aside0.mk hi; have n1_ := Aside0.mk (HK.out.low hg HI.out.ly.h3); have n2_ := Aside0.mk (HV.out.low hg (Nat.lt_of_lt_of_le HI.out.ly.h3 HBV.out)); have n3_ := Aside0.mk (Nat.le_trans HBW.out hg.size); clear hcn; clear HI HK HV HBW; have HI := n0_; have HK := n1_; have HV := n2_; have HBW := n3_; clear n0_ n1_ n2_ n3_; clear hi hg; have hcn := HI.out.ds.fn) | ((with_reducible refine gate_dst (N := 85) rfl ?_); refine row_append1 Bv rfl (.tmp 82) _ rfl _ _ _ _ _ rfl rfl _ (blk_new _ _) (HV.out.alloc _) ?hbs ?hln ?_; (case hbs => exact Nat.le_trans HBW.out (Below.size (below_alloc (Below.refl _ _) _))); (case hln => (have := HLV.out; omega)); intro v85 w85 hr hg; have n0_ := Aside0.mk ((HI.out.alloc _).grown hg (fun k hk => Nat.le_trans HBV.out (HV.out.lt k hk).1)); have n1_ := Aside0.mk ((HK.out.alloc _).grown hg (fun k hk e => Nat.lt_irrefl _ (Nat.lt_of_lt_of_le (HKB.out k e) (HV.out.lt k hk).1))); have n2_ := Aside0.mk hr; have n3_ := Aside0.mk (Nat.le_trans (Nat.le_trans HBW.out (Below.size (below_alloc (Below.refl _ _) _))) hg.size); clear hcn; clear HI HK HV HBW; have HI := n0_; have HK := n1_; have HV := n2_; have HBW := n3_; clear n0_ n1_ n2_ n3_; clear hr hg; have hcn := HI.out.ds.fn))
                    go_meet
                    case rel => exact ⟨vs ++ [c], [], ⟨by rw [HVL.out, HU.out, HE.out]; simp⟩, HV, HK, HI, ⟨fun x hx => by rcases List.mem_append.1 hx with h | h; exact HVA.out x h; exact HB.out x (by simp at h; simp [h])⟩⟩
                  | cons d t =>
                    have hnn : ne (d :: t) = true := rfl
                    have HE : Aside0 (uvalL (c :: d :: t) = (uvalL (d :: t)).map (fun r => (c :: r.1, r.2))) := ⟨by rw [uvalL, if_neg hs, if_neg he]⟩
                    go_wp2_with (first | (go_at_call 31; (with_reducible refine (isSpace_any _ hb1 hb2 _).mono ?_); rintro e wz ⟨rfl, ⟨nd, rfl⟩⟩; have n0_ := Aside0.mk (HI.out.drewN nd); have n1_ := Aside0.mk (HK.out.drewN nd); have n2_ := Aside0.mk (HV.out.drewN nd); have n3_ := Aside0.mk (Nat.le_trans HBW.out (Nat.le_of_eq rfl : _ ≤ (World.drewN _ nd).heap.size)); clear hcn; clear HI HK HV HBW; have HI := n0_; have HK := n1_; have HV := n2_; have HBW := n3_; clear n0_ n1_ n2_ n3_; skip; have hcn := HI.out.ds.fn) | (go_at_call 29; (with_reducible refine (next_inv HI.out).mono ?_); rintro e wn ⟨rfl, hi, hg⟩; have n0_ := Aside0.mk hi; have n1_ := Aside0.mk (HK.out.low hg HI.out.ly.h3); have n2_ := Aside0.mk (HV.out.low hg (Nat.lt_of_lt_of_le HI.out.ly.h3 HBV.out)); have n3_ := Aside0.mk (Nat.le_trans HBW.out hg.size); clear hcn; clear HI HK HV HBW; have HI := n0_; have HK := n1_; have HV := n2_; have HBW := n3_; clear n0_ n1_ n2_ n3_; clear hi hg; have hcn := HI.out.ds.fn) | ((with_reducible refine gate_dst (N := 85) rfl ?_); refine row_append1 Bv rfl (.tmp 82) _ rfl _ _ _ _ _ rfl rfl _ (blk_new _ _) (HV.out.alloc _) ?hbs ?hln ?_; (case hbs => exact Nat.le_trans HBW.out (Below.size (below_alloc (Below.refl _ _) _))); (case hln => (have := HLV.out; omega)); intro v85 w85 hr hg; have n0_ := Aside0.mk ((HI.out.alloc _).grown hg (fun k hk => Nat.le_trans HBV.out (HV.out.lt k hk).1)); have n1_ := Aside0.mk ((HK.out.alloc _).grown hg (fun k hk e => Nat.lt_irrefl _ (Nat.lt_of_lt_of_le (HKB.out k e) (HV.out.lt k hk).1))); have n2_ := Aside0.mk hr; have n3_ := Aside0.mk (Nat.le_trans (Nat.le_trans HBW.out (Below.size (below_alloc (Below.refl _ _) _))) hg.size); clear hcn; clear HI HK HV HBW; have HI := n0_; have HK := n1_; have HV := n2_; have HBW := n3_; clear n0_ n1_ n2_ n3_; clear hr hg; have hcn := HI.out.ds.fn))
                    go_roundg (t.length + 2)
                    case measure => have := HM.out; simp at this; omega
                    case rel => exact ⟨d :: t, vs ++ [c], rfl, rfl, ⟨rfl⟩, HV, HK, HI, HBW, ⟨by rw [HU.out, HE.out]; simp [Option.map_map, Function.comp_def]⟩, ⟨by simp⟩, ⟨by have := HVZ.out; simp at this ⊢; omega⟩, ⟨fun x hx => HB.out x (List.mem_cons_of_mem _ hx)⟩, ⟨fun x hx => by rcases List.mem_append.1 hx with h | h; exact HVA.out x h; exact HB.out x (by simp at h; simp [h])⟩⟩
          case false =>
            have HVL : Aside0 (valL l4 = qvalL l4.tail) := ⟨by unfold valL; rw [if_pos (bne_eq_false_iff_eq.mp HB4.out)]⟩
            have HTA : Aside0 (Asc l4.tail) := ⟨tail_asc HL4A.out⟩
            go_wp2
            go_step3
            go_wp2
            go_step3
            go_wp2
            go_loopg [10, 11, 12] (l4.tail.length + 1) (fun kq2 u10 u11 u12 wx => ∃ l' vs : List Int, Aside0 (Row Bv u10 vs wx) ∧ Aside0 (Row B0 u9 ks wx) ∧ Aside0 (Inv w p w.heap.size B0 (bytesOf a) A l' wx) ∧ Aside0 (Bv ≤ wx.heap.size) ∧ Aside0 (qvalL l4.tail = (qvalL l').map (fun r => (vs ++ r.1, r.2))) ∧ Aside0 (l'.length + 1 ≤ kq2) ∧ Aside0 (vs.length + l'.length ≤ 4000) ∧ Aside0 (Asc l') ∧ Aside0 (Asc vs))
            case atStart => exact ⟨l4.tail, [], ⟨Row.nil _ _⟩, HK, HI, HBW, ⟨by simp⟩, ⟨Nat.le_refl _⟩, ⟨by have := HKZ4.out; simp; omega⟩, HTA, ⟨fun x hx => by cases hx⟩⟩
            case round =>
              obtain ⟨l', vs, HV, HK, HI, HBW, HU, HM, HVZ, HB, HVA⟩ := hrel
              have hcn := HI.out.ds.fn
              have HLV : Aside0 (vs.length ≤ 1000000) := ⟨by have := HVZ.out; omega⟩
              cases l' with
              | nil =>
                have hnn : ne ([] : List Int) = false := rfl
                go_wp2_with (first | (go_at_call 29; (with_reducible refine (next_inv HI.out).mono ?_); rintro e wn ⟨rfl, hi, hg⟩; have n0_ := Aside0.mk hi; have n1_ := Aside0.mk (HK.out.low hg HI.out.ly.h3); have n2_ := Aside0.mk (HV.out.low hg (Nat.lt_of_lt_of_le HI.out.ly.h3 HBV.out)); have n3_ := Aside0.mk (Nat.le_trans HBW.out hg.size); clear hcn; clear HI HK HV HBW; have HI := n0_; have HK := n1_; have HV := n2_; have HBW := n3_; clear n0_ n1_ n2_ n3_; clear hi hg; have hcn := HI.out.ds.fn) | (go_at_call 32; (with_reducible refine (errors_New_plain _ _).mono ?_); rintro e we ⟨⟨te, xe, rfl⟩, hb⟩; have n0_ := Aside0.mk (HI.out.below hb); clear hcn; clear HI; have HI := n0_; clear n0_; clear hb; have hcn := HI.out.ds.fn))
                rw [Exit.noGoto_ret]
                go_ret2
                refine ⟨HI.out.bl, fun A' hA => ?_, fun _ => ⟨_, _, rfl⟩⟩
                have h2 : valL l4 = none := by rw [HVL.out, HU.out]; simp [qvalL]
                rw [HP.out, HPS.out, h2] at hA
                cases hA
              | cons c t =>
                have hnn : ne (c :: t) = true := rfl
                by_cases h39 : c = 39
                case pos =>
                  subst h39
                  have hs2 : (hd0 (39 :: t) == 39) = true := rfl
                  have HE : Aside0 (qvalL (39 :: t) = some ([], t)) := ⟨by cases t <;> (unfold qvalL; rw [if_pos rfl])⟩
                  go_wp2_with (first | (go_at_call 29; (with_reducible refine (next_inv HI.out).mono ?_); rintro e wn ⟨rfl, hi, hg⟩; have n0_ := Aside0.mk hi; have n1_ := Aside0.mk (HK.out.low hg HI.out.ly.h3); have n2_ := Aside0.mk (HV.out.low hg (Nat.lt_of_lt_of_le HI.out.ly.h3 HBV.out)); have n3_ := Aside0.mk (Nat.le_trans HBW.out hg.size); clear hcn; clear HI HK HV HBW; have HI := n0_; have HK := n1_; have HV := n2_; have HBW := n3_; clear n0_ n1_ n2_ n3_; clear hi hg; have hcn := HI.out.ds.fn))
                  rw [Exit.noGoto_normal]
                  go_wp2
                  go_meet
                  case rel => exact ⟨vs, t, ⟨by rw [HVL.out, HU.out, HE.out]; simp⟩, HV, HK, HI, HVA⟩
                case neg =>
                  have hs2 : (hd0 (c :: t) == 39) = false := beq_eq_false_iff_ne.2 h39
                  by_cases h92 : c = 92
                  case pos =>
                    subst h92
                    have hs3 : (hd0 (92 :: t) == 92) = true := rfl
                    cases t with
                    | nil =>
                      go_wp2_with (first | (go_at_call 29; (with_reducible refine (next_inv HI.out).mono ?_); rintro e wn ⟨rfl, hi, hg⟩; have n0_ := Aside0.mk hi; have n1_ := Aside0.mk (HK.out.low hg HI.out.ly.h3); have n2_ := Aside0.mk (HV.out.low hg (Nat.lt_of_lt_of_le HI.out.ly.h3 HBV.out)); have n3_ := Aside0.mk (Nat.le_trans HBW.out hg.size); clear hcn; clear HI HK HV HBW; have HI := n0_; have HK := n1_; have HV := n2_; have HBW := n3_; clear n0_ n1_ n2_ n3_; clear hi hg; have hcn := HI.out.ds.fn) | ((with_reducible refine gate_dst (N := 114) rfl ?_); refine row_append1 Bv rfl (.tmp 111) _ rfl _ _ _ _ _ rfl rfl _ (blk_new _ _) (HV.out.alloc _) ?hbs ?hln ?_; (case hbs => exact Nat.le_trans HBW.out (Below.size (below_alloc (Below.refl _ _) _))); (case hln => (have := HLV.out; omega)); intro v114 w114 hr hg; have n0_ := Aside0.mk ((HI.out.alloc _).grown hg (fun k hk => Nat.le_trans HBV.out (HV.out.lt k hk).1)); have n1_ := Aside0.mk ((HK.out.alloc _).grown hg (fun k hk e => Nat.lt_irrefl _ (Nat.lt_of_lt_of_le (HKB.out k e) (HV.out.lt k hk).1))); have n2_ := Aside0.mk hr; have n3_ := Aside0.mk (Nat.le_trans (Nat.le_trans HBW.out (Below.size (below_alloc (Below.refl _ _) _))) hg.size); clear hcn; clear HI HK HV HBW; have HI := n0_; have HK := n1_; have HV := n2_; have HBW := n3_; clear n0_ n1_ n2_ n3_; clear hr hg; have hcn := HI.out.ds.fn))
                      go_roundg 1
                      case measure => have := HM.out; simp at this; omega
                      case rel => exact ⟨[], vs ++ [0], HV, HK, HI, HBW, ⟨by rw [HU.out]; simp [qvalL]⟩, ⟨by simp⟩, ⟨by have := HVZ.out; simp at this ⊢; omega⟩, ⟨fun x hx => by cases hx⟩, ⟨fun x hx => by rcases List.mem_append.1 hx with h | h; exact HVA.out x h; (simp at h; subst h; exact ⟨Int.le_refl _, by decide⟩)⟩⟩
                    | cons d t =>
                      have HE : Aside0 (qvalL (92 :: d :: t) = (qvalL t).map (fun r => (d :: r.1, r.2))) := ⟨by rw [qvalL, if_neg (by decide), if_pos rfl]⟩
                      go_wp2_with (first | (go_at_call 29; (with_reducible refine (next_inv HI.out).mono ?_); rintro e wn ⟨rfl, hi, hg⟩; have n0_ := Aside0.mk hi; have n1_ := Aside0.mk (HK.out.low hg HI.out.ly.h3); have n2_ := Aside0.mk (HV.out.low hg (Nat.lt_of_lt_of_le HI.out.ly.h3 HBV.out)); have n3_ := Aside0.mk (Nat.le_trans HBW.out hg.size); clear hcn; clear HI HK HV HBW; have HI := n0_; have HK := n1_; have HV := n2_; have HBW := n3_; clear n0_ n1_ n2_ n3_; clear hi hg; have hcn := HI.out.ds.fn) | ((with_reducible refine gate_dst (N := 114) rfl ?_); refine row_append1 Bv rfl (.tmp 111) _ rfl _ _ _ _ _ rfl rfl _ (blk_new _ _) (HV.out.alloc _) ?hbs ?hln ?_; (case hbs => exact Nat.le_trans HBW.out (Below.size (below_alloc (Below.refl _ _) _))); (case hln => (have := HLV.out; omega)); intro v114 w114 hr hg; have n0_ := Aside0.mk ((HI.out.alloc _).grown hg (fun k hk => Nat.le_trans HBV.out (HV.out.lt k hk).1)); have n1_ := Aside0.mk ((HK.out.alloc _).grown hg (fun k hk e => Nat.lt_irrefl _ (Nat.lt_of_lt_of_le (HKB.out k e) (HV.out.lt k hk).1))); have n2_ := Aside0.mk hr; have n3_ := Aside0.mk (Nat.le_trans (Nat.le_trans HBW.out (Below.size (below_alloc (Below.refl _ _) _))) hg.size); clear hcn; clear HI HK HV HBW; have HI := n0_; have HK := n1_; have HV := n2_; have HBW := n3_; clear n0_ n1_ n2_ n3_; clear hr hg; have hcn := HI.out.ds.fn))
                      go_roundg (t.length + 1)
                      case measure => have := HM.out; simp at this; omega
                      case rel => exact ⟨t, vs ++ [d], HV, HK, HI, HBW, ⟨by rw [HU.out, HE.out]; simp [Option.map_map, Function.comp_def]⟩, ⟨by simp⟩, ⟨by have := HVZ.out; simp at this ⊢; omega⟩, ⟨fun x hx => HB.out x (List.mem_cons_of_mem _ (List.mem_cons_of_mem _ hx))⟩, ⟨fun x hx => by rcases List.mem_append.1 hx with h | h; exact HVA.out x h; exact HB.out x (by simp at h; simp [h])⟩⟩
                  case neg =>
                    have hs3 : (hd0 (c :: t) == 92) = false := beq_eq_false_iff_ne.2 h92
                    have HE : Aside0 (qvalL (c :: t) = (qvalL t).map (fun r => (c :: r.1, r.2))) := ⟨by cases t with | nil => simp [qvalL, h39] | cons d t => rw [qvalL, if_neg h39, if_neg h92]⟩
                    go_wp2_with (first | (go_at_call 29; (with_reducible refine (next_inv HI.out).mono ?_); rintro e wn ⟨rfl, hi, hg⟩; have n0_ := Aside0.mk hi; have n1_ := Aside0.mk (HK.out.low hg HI.out.ly.h3); have n2_ := Aside0.mk (HV.out.low hg (Nat.lt_of_lt_of_le HI.out.ly.h3 HBV.out)); have n3_ := Aside0.mk (Nat.le_trans HBW.out hg.size); clear hcn; clear HI HK HV HBW; have HI := n0_; have HK := n1_; have HV := n2_; have HBW := n3_; clear n0_ n1_ n2_ n3_; clear hi hg; have hcn := HI.out.ds.fn) | ((with_reducible refine gate_dst (N := 114) rfl ?_); refine row_append1 Bv rfl (.tmp 111) _ rfl _ _ _ _ _ rfl rfl _ (blk_new _ _) (HV.out.alloc _) ?hbs ?hln ?_; (case hbs => exact Nat.le_trans HBW.out (Below.size (below_alloc (Below.refl _ _) _))); (case hln => (have := HLV.out; omega)); intro v114 w114 hr hg; have n0_ := Aside0.mk ((HI.out.alloc _).grown hg (fun k hk => Nat.le_trans HBV.out (HV.out.lt k hk).1)); have n1_ := Aside0.mk ((HK.out.alloc _).grown hg (fun k hk e => Nat.lt_irrefl _ (Nat.lt_of_lt_of_le (HKB.out k e) (HV.out.lt k hk).1))); have n2_ := Aside0.mk hr; have n3_ := Aside0.mk (Nat.le_trans (Nat.le_trans HBW.out (Below.size (below_alloc (Below.refl _ _) _))) hg.size); clear hcn; clear HI HK HV HBW; have HI := n0_; have HK := n1_; have HV := n2_; have HBW := n3_; clear n0_ n1_ n2_ n3_; clear hr hg; have hcn := HI.out.ds.fn))
                    go_roundg (t.length + 1)
                    case measure => have := HM.out; simp at this; omega
                    case rel => exact ⟨t, vs ++ [c], HV, HK, HI, HBW, ⟨by rw [HU.out, HE.out]; simp [Option.map_map, Function.comp_def]⟩, ⟨by simp⟩, ⟨by have := HVZ.out; simp at this ⊢; omega⟩, ⟨fun x hx => HB.out x (List.mem_cons_of_mem _ hx)⟩, ⟨fun x hx => by rcases List.mem_append.1 hx with h | h; exact HVA.out x h; exact HB.out x (by simp at h; simp [h])⟩⟩
        case rest =>
          clear HI HK hcn
          obtain ⟨vs, rest, HVL, HV, HK, HI, HVA⟩ := hcut
          have hcn := HI.out.ds.fn
          have HVZ : Aside0 (vs.length + rest.length ≤ l4.length) := ⟨by
            have h1 := HVL.out
            unfold valL at h1
            split at h1
            · have := qvalL_len _ _ _ (Nat.le_refl _) h1
              rw [List.length_tail] at this
              simp only at this
              omega
            · exact uvalL_len _ _ _ (Nat.le_refl _) h1⟩
          have HNZ : Aside0 (rest.length + 1 ≤ kq ∧ vs.length ≤ 4000 ∧ ks.length ≤ 4000 ∧ A.length + 1 + rest.length ≤ 4000) := ⟨by
            have h1 := HVZ.out; have h2 := HL4Z.out; have h3 := HL3Z.out; have h4 := HKZ.out; have h5 := HLL.out; have h6 := HZ.out; have h7 := HN.out
            omega⟩
          have hcv := runes_string (P := Try.prog) Try.underlying54 Try.underlying21 Try.underlying9 HK.out HKA.out.1
          have hcv2 := runes_string (P := Try.prog) Try.underlying54 Try.underlying21 Try.underlying9 HV.out HVA.out
          go_wp2_with (first | (at_mapUpdate; refine wpList_mapUpdate_own _ rfl _ _ _ 43 rfl 9 9 (Maps.string_keyed Try.underlying9) Try.underlying43 _ w.heap.size A.length _ rfl HI.out.mp ?hmz _ _ _ rfl rfl (keyLit_ok ks (by have h1 := HNZ.out; omega)).1 _ [] (keyLit_ok vs (by have h1 := HNZ.out; omega)).2 ?_; (case hmz => (have := HZ.out; unfold maxLen; omega)); intro wu hown hgu; have n0_ := Aside0.mk (HI.out.put (x := (ks, vs)) hown hgu); clear HI hcn hcv hown hgu; have HI := n0_; clear n0_; have hcn := HI.out.ds.fn))
          go_roundg kq
          case measure => exact Nat.lt_succ_self _
          case rel => exact ⟨rest, A ++ [(ks, vs)], HI, ⟨HNZ.out.1⟩, ⟨by rw [HP.out, HPS.out, HVL.out, Option.bind_some, Option.map_map]; congr 1; funext r; simp⟩, ⟨by have := HNZ.out; simp; omega⟩⟩
end Go.Proofs.Ytlhjblbmhlelbaa.P
