/- FnColumns, for every list of columns: a description of rows tells the name, type, size and modifier of each column, that of a portal its format, too (at most 20 columns; sizes from 0 to 32767, by the law's own guard).
   Conditions: none beyond the form's own bounds on the sizes. -/
import Derived.Test.YthcikkjjegfblabPx5
import Derived.Test.YthcikkjjegfblabPx1
import Derived.Test.YthcikkjjegfblabPx3
import Derived.Test.YthcikkjjegfblabPx4
import Derived.Test.YthcikkjjegfblabLibIndex
import Derived.Test.YthcikkjjegfblabLibPieces
namespace Go.Proofs.Ythcikkjjegfblab.Pure
open Go.RowKit Go.Proofs.Ythcikkjjegfblab.P Go.Proofs.YthcikkjjegfblabW.PrintWords Go.Proofs.YthcikkjjegfblabW.PrintLast Go.Proofs.YthcikkjjegfblabW.PrintMore Go.Proofs.Ythcikkjjegfblab.Lib
set_option linter.unusedVariables false
set_option linter.unusedSimpArgs false

theorem rd_at {l : List ICol} {i : Nat} {x : ICol} {t : List ICol} (h : l.drop i = x :: t) : rd_T43 l (i : Int) = x ∧ i < l.length ∧ l.drop (i + 1) = t := by
  have hl : i < l.length := by
    rcases Nat.lt_or_ge i l.length with hl | hl
    · exact hl
    · rw [List.drop_of_length_le hl] at h; cases h
  rw [List.drop_eq_getElem_cons hl] at h
  injection h with h1 h2
  refine ⟨?_, hl, h2⟩
  simp [rd_T43, List.getD_eq_getElem?_getD, List.getElem?_eq_getElem hl, h1]
theorem rdP_at {l : List PCol} {i : Nat} {x : PCol} {t : List PCol} (h : l.drop i = x :: t) : rd_T113 l (i : Int) = x ∧ i < l.length ∧ l.drop (i + 1) = t := by
  have hl : i < l.length := by
    rcases Nat.lt_or_ge i l.length with hl | hl
    · exact hl
    · rw [List.drop_of_length_le hl] at h; cases h
  rw [List.drop_eq_getElem_cons hl] at h
  injection h with h1 h2
  refine ⟨?_, hl, h2⟩
  simp [rd_T113, List.getD_eq_getElem?_getD, List.getElem?_eq_getElem hl, h1]
theorem fits (l : List ICol) (hl : l.length ≤ 9223372036854775807) : ∃ b, Ev (fun k => laws_zzFits9.f k l) b ∧ (b = true → ∀ x ∈ l, x.f0.size ≤ 2147483647) := by
  have go : ∀ (t : List ICol) (i : Nat), l.drop i = t → ∃ b, Ev (fun k => laws_zzFits9.l0 k l (l.length : Int) (i : Int)) b ∧ (b = true → ∀ x ∈ t, x.f0.size ≤ 2147483647) := by
    intro t
    induction t with
    | nil =>
      intro i h
      have h3 : l.length ≤ i := by simpa using h
      exact ⟨true, Ev.step (fun k => laws_zzFits9.l0.eq_2 _ _ _ _) <| Ev.if_neg (by omega) <| Ev.now _, fun _ x hx => by cases hx⟩
    | cons x t ih =>
      intro i h
      obtain ⟨e1, i1, d1⟩ := rd_at h
      have ew : wrap64 ((i : Int) + 1) = ((i + 1 : Nat) : Int) := by rw [wrap64_id (by omega) (by omega)]; omega
      obtain ⟨b, hb, hg⟩ := ih (i + 1) d1
      by_cases hz : (x.f0.size : Int) > 2147483647
      · refine ⟨false, Ev.step (fun k => laws_zzFits9.l0.eq_2 _ _ _ _) <| Ev.if_pos (by omega) <| Ev.if_pos (by omega) <| Ev.if_pos (by omega) ?_, fun h => by cases h⟩
        rw [e1]
        exact Ev.bind (Ev.const (show laws_zzFits10.f x.f0 x.f1 x.f2 x.f3 x.f4 = some false by unfold laws_zzFits10.f; rw [_root_.if_pos hz])) <| Ev.if_neg (by simp) <| Ev.now _
      · refine ⟨b, Ev.step (fun k => laws_zzFits9.l0.eq_2 _ _ _ _) <| Ev.if_pos (by omega) <| Ev.if_pos (by omega) <| Ev.if_pos (by omega) ?_, fun h y hy => ?_⟩
        · rw [e1, ew]
          exact Ev.bind (Ev.const (show laws_zzFits10.f x.f0 x.f1 x.f2 x.f3 x.f4 = some true by unfold laws_zzFits10.f; rw [_root_.if_neg hz])) <| Ev.if_pos rfl hb
        · rcases List.mem_cons.1 hy with rfl | hy
          · omega
          · exact hg h y hy
  unfold laws_zzFits9.f
  by_cases hz : (l.length : Int) > 2147483647
  · exact ⟨false, Ev.if_pos hz <| Ev.now _, fun h => by cases h⟩
  · obtain ⟨b, hb, hg⟩ := go l 0 rfl
    exact ⟨b, Ev.if_neg hz hb, fun h => hg h⟩
/-- What is asked of a column. -/
def OkC (c : ICol) : Prop := (0 : Int) ∉ bytesOf c.f0 ∧ c.f0.size ≤ 100 ∧ 0 ≤ c.f2 ∧ c.f2 < 32768 ∧ -2147483648 ≤ c.f3 ∧ c.f3 < 2147483648 ∧ (c.f4 = 0 ∨ c.f4 = 1)
theorem right (c : ICol) (hs : c.f0.size ≤ 2305843009213693952) : ∃ b, Ev (fun k => spec_ColumnRight.f k c.f0 c.f1 c.f2 c.f3 c.f4) b ∧ (b = true → OkC c) := by
  have hz := hasZero c.f0 hs
  unfold spec_ColumnRight.f
  by_cases h0 : (0 : Int) ∈ bytesOf c.f0
  · rw [decide_eq_true h0] at hz
    exact ⟨false, Ev.bind hz <| Ev.if_pos rfl <| Ev.now _, fun h => by cases h⟩
  rw [decide_eq_false h0] at hz
  by_cases h1 : (c.f0.size : Int) ≤ 100
  case neg => exact ⟨false, Ev.bind hz <| Ev.if_neg (by simp) <| Ev.if_neg h1 <| Ev.now _, fun h => by cases h⟩
  by_cases h2 : c.f2 ≥ 0
  case neg => exact ⟨false, Ev.bind hz <| Ev.if_neg (by simp) <| Ev.if_pos h1 <| Ev.if_neg h2 <| Ev.now _, fun h => by cases h⟩
  by_cases h3 : c.f2 < 32768
  case neg => exact ⟨false, Ev.bind hz <| Ev.if_neg (by simp) <| Ev.if_pos h1 <| Ev.if_pos h2 <| Ev.if_neg h3 <| Ev.now _, fun h => by cases h⟩
  by_cases h4 : c.f3 ≥ (-2147483648)
  case neg => exact ⟨false, Ev.bind hz <| Ev.if_neg (by simp) <| Ev.if_pos h1 <| Ev.if_pos h2 <| Ev.if_pos h3 <| Ev.if_neg h4 <| Ev.now _, fun h => by cases h⟩
  by_cases h5 : c.f3 < 2147483648
  case neg => exact ⟨false, Ev.bind hz <| Ev.if_neg (by simp) <| Ev.if_pos h1 <| Ev.if_pos h2 <| Ev.if_pos h3 <| Ev.if_pos h4 <| Ev.if_neg h5 <| Ev.now _, fun h => by cases h⟩
  by_cases h6 : c.f4 = 0
  · exact ⟨true, Ev.bind hz <| Ev.if_neg (by simp) <| Ev.if_pos h1 <| Ev.if_pos h2 <| Ev.if_pos h3 <| Ev.if_pos h4 <| Ev.if_pos h5 <| Ev.if_pos h6 <| Ev.now _, fun _ => ⟨h0, by omega, h2, h3, h4, h5, .inl h6⟩⟩
  · exact ⟨c.f4 == 1, Ev.bind hz <| Ev.if_neg (by simp) <| Ev.if_pos h1 <| Ev.if_pos h2 <| Ev.if_pos h3 <| Ev.if_pos h4 <| Ev.if_pos h5 <| Ev.if_neg h6 <| Ev.now _, fun h => ⟨h0, by omega, h2, h3, h4, h5, .inr (by simpa using h)⟩⟩
/-! ### bytes -/
def b16 (n : Int) : List Int := [IntKind.u64.wrap n / 256 % 256, IntKind.u64.wrap n % 256]
def b32 (n : Int) : List Int := [IntKind.u64.wrap n / 16777216 % 256, IntKind.u64.wrap n / 65536 % 256, IntKind.u64.wrap n / 256 % 256, IntKind.u64.wrap n % 256]
theorem u64w (n : Int) : IntKind.u64.wrap n = n % 18446744073709551616 := by rw [IntKind.wrap_u64]
theorem e16_b (n : Int) (h0 : 0 ≤ n) (h1 : n < 65536) (t : List Int) : e16 (b16 n ++ t) = n := by
  show IntKind.u64.wrap n / 256 % 256 * 256 + IntKind.u64.wrap n % 256 = n
  rw [u64w]; omega
theorem e32_b (n : Int) (t : List Int) : e32 (b32 n ++ t) = n % 4294967296 := by
  show IntKind.u64.wrap n / 16777216 % 256 * 16777216 + IntKind.u64.wrap n / 65536 % 256 * 65536 + IntKind.u64.wrap n / 256 % 256 * 256 + IntKind.u64.wrap n % 256 = _
  rw [u64w]; omega
theorem b16_byte {n c : Int} (h : c ∈ b16 n) : 0 ≤ c ∧ c ≤ 255 := by
  unfold b16 at h
  rw [u64w] at h
  simp only [List.mem_cons, List.not_mem_nil, or_false] at h
  omega
theorem b32_byte {n c : Int} (h : c ∈ b32 n) : 0 ≤ c ∧ c ≤ 255 := by
  unfold b32 at h
  rw [u64w] at h
  simp only [List.mem_cons, List.not_mem_nil, or_false] at h
  omega
/-- A column as bytes. -/
def cB (i : Nat) (c : ICol) : List Int := bytesOf c.f0 ++ (0 :: (b32 i ++ (b16 i ++ (b32 (wrap64 (wrap32 c.f1)) ++ (b16 c.f2 ++ (b32 c.f3 ++ b16 c.f4))))))
def csB : Nat → List ICol → List Int
  | _, [] => []
  | i, c :: t => cB i c ++ csB (i + 1) t
def cPc (i : Nat) (c : ICol) : List FPc := [⟨4, 0, c.f0⟩, ⟨3, (i : Int), ⟨#[]⟩⟩, ⟨2, (i : Int), ⟨#[]⟩⟩, ⟨3, wrap64 (wrap32 c.f1), ⟨#[]⟩⟩, ⟨2, c.f2, ⟨#[]⟩⟩, ⟨3, c.f3, ⟨#[]⟩⟩, ⟨2, c.f4, ⟨#[]⟩⟩]
def csPc : Nat → List ICol → List FPc
  | _, [] => []
  | i, c :: t => cPc i c ++ csPc (i + 1) t
theorem p2 (n : Int) (h0 : 0 ≤ n) (h1 : n < 65536) : specPiece ⟨2, n, ⟨#[]⟩⟩ = some (b16 n) := by
  unfold specPiece
  rw [if_neg (by simp), if_pos ⟨rfl, h0, h1, by show (⟨#[]⟩ : ByteArray).toList = []; rw [ByteArray.toList_eq]⟩]; rfl
theorem p3 (n : Int) (h0 : -2147483648 ≤ n) (h1 : n < 2147483648) : specPiece ⟨3, n, ⟨#[]⟩⟩ = some (b32 n) := by
  unfold specPiece
  rw [if_neg (by simp), if_neg (by simp), if_pos ⟨rfl, h0, h1, by show (⟨#[]⟩ : ByteArray).toList = []; rw [ByteArray.toList_eq]⟩]; rfl
theorem p4 (s : ByteArray) (h : (0 : Int) ∉ bytesOf s) : specPiece ⟨4, 0, s⟩ = some (bytesOf s ++ [0]) := by
  unfold specPiece
  rw [if_neg (by simp), if_neg (by simp), if_neg (by simp), if_pos ⟨rfl, rfl, h⟩]
theorem w32 (n : Int) : -2147483648 ≤ wrap64 (wrap32 n) ∧ wrap64 (wrap32 n) < 2147483648 ∧ wrap64 (wrap32 n) % 4294967296 = n % 4294967296 := by
  unfold wrap64 wrap32; omega
theorem step {x : FPc} {ys : List Int} (h : specPiece x = some ys) (t : List FPc) (out : List Int) (hl : out.length + ys.length ≤ 20000) : specPieces (x :: t) out = specPieces t (out ++ ys) := by
  rw [specPieces, h]; simp only; rw [if_pos hl]
theorem b16_len (n : Int) : (b16 n).length = 2 := rfl
theorem b32_len (n : Int) : (b32 n).length = 4 := rfl
theorem cB_len (i : Nat) (c : ICol) (h : OkC c) : (cB i c).length ≤ 119 := by
  have : (bytesOf c.f0).length ≤ 100 := by rw [bytesOf_length]; exact h.2.1
  unfold cB
  simp only [List.length_append, List.length_cons, b16_len, b32_len]; omega
theorem one_pieces (i : Nat) (c : ICol) (h : OkC c) (hi : i ≤ 1000) (t : List FPc) (out : List Int) (hl : out.length + 119 ≤ 20000) : specPieces (cPc i c ++ t) out = specPieces t (out ++ cB i c) := by
  obtain ⟨h0, h1, h2, h3, h4, h5, h6⟩ := h
  have hn : (bytesOf c.f0).length ≤ 100 := by rw [bytesOf_length]; exact h1
  have w := w32 c.f1
  show specPieces (⟨4, 0, c.f0⟩ :: ⟨3, (i : Int), ⟨#[]⟩⟩ :: ⟨2, (i : Int), ⟨#[]⟩⟩ :: ⟨3, wrap64 (wrap32 c.f1), ⟨#[]⟩⟩ :: ⟨2, c.f2, ⟨#[]⟩⟩ :: ⟨3, c.f3, ⟨#[]⟩⟩ :: ⟨2, c.f4, ⟨#[]⟩⟩ :: t) out = _
  rw [step (p4 _ h0) _ _ (by simp only [List.length_append, List.length_cons, List.length_nil]; omega)]
  rw [step (p3 _ (by omega) (by omega)) _ _ (by simp only [List.length_append, List.length_cons, List.length_nil, b32_len]; omega)]
  rw [step (p2 _ (by omega) (by omega)) _ _ (by simp only [List.length_append, List.length_cons, List.length_nil, b32_len, b16_len]; omega)]
  rw [step (p3 _ w.1 w.2.1) _ _ (by simp only [List.length_append, List.length_cons, List.length_nil, b32_len, b16_len]; omega)]
  rw [step (p2 _ h2 (by omega)) _ _ (by simp only [List.length_append, List.length_cons, List.length_nil, b32_len, b16_len]; omega)]
  rw [step (p3 _ h4 h5) _ _ (by simp only [List.length_append, List.length_cons, List.length_nil, b32_len, b16_len]; omega)]
  rw [step (p2 _ (by omega) (by omega)) _ _ (by simp only [List.length_append, List.length_cons, List.length_nil, b32_len, b16_len]; omega)]
  congr 1
  unfold cB
  simp [List.append_assoc]
theorem all_pieces : ∀ (l : List ICol) (i : Nat) (out : List Int), (∀ c ∈ l, OkC c) → i + l.length ≤ 1000 → out.length + l.length * 119 ≤ 20000 → specPieces (csPc i l) out = some (out ++ csB i l)
  | [], i, out, _, _, _ => by simp [csPc, csB, specPieces]
  | c :: t, i, out, h, hi, hl => by
    simp only [List.length_cons] at hi hl
    rw [csPc, one_pieces i c (h c (by simp)) (by omega) _ _ (by omega)]
    have := cB_len i c (h c (by simp))
    rw [all_pieces t (i + 1) _ (fun x hx => h x (List.mem_cons_of_mem _ hx)) (by omega) (by rw [List.length_append]; omega), csB, List.append_assoc]
theorem csPc_len : ∀ (i : Nat) (l : List ICol), (csPc i l).length = l.length * 7
  | _, [] => rfl
  | i, c :: t => by rw [csPc, List.length_append, csPc_len (i + 1) t]; simp [cPc]; omega
theorem csPc_size : ∀ (i : Nat) (l : List ICol), (∀ c ∈ l, OkC c) → ∀ x ∈ csPc i l, x.f2.size ≤ 2305843009213693952
  | _, [], _, x, hx => by cases hx
  | i, c :: t, h, x, hx => by
    rw [csPc] at hx
    rcases List.mem_append.1 hx with hx | hx
    · have := (h c (by simp)).2.1
      unfold cPc at hx
      simp only [List.mem_cons, List.not_mem_nil, or_false] at hx
      have hz : (⟨#[]⟩ : ByteArray).size = 0 := rfl
      rcases hx with rfl | rfl | rfl | rfl | rfl | rfl | rfl <;> simp only [hz] <;> omega
    · exact csPc_size (i + 1) t (fun y hy => h y (List.mem_cons_of_mem _ hy)) x hx
def bodyB (l : List ICol) : List Int := b16 l.length ++ csB 0 l
theorem body (l : List ICol) (hl : l.length ≤ 20) (hok : ∀ c ∈ l, OkC c) : Ev (fun k => spec_ColumnsBody.f k l) (strOfNums (bodyB l)) := by
  have hd : specPieces (⟨2, (l.length : Int), ⟨#[]⟩⟩ :: csPc 0 l) [] = some (bodyB l) := by
    rw [step (p2 _ (by omega) (by omega)) _ _ (by simp [b16_len])]
    rw [all_pieces l 0 _ hok (by omega) (by simp only [List.nil_append, b16_len]; omega)]
    simp [bodyB]
  have go : ∀ (t : List ICol) (i : Nat) (acc : List FPc), l.drop i = t → acc ++ csPc i t = (⟨2, (l.length : Int), ⟨#[]⟩⟩ :: csPc 0 l) → acc.length ≤ i * 7 + 1 → i ≤ l.length → Ev (fun k => spec_ColumnsBody.l0 k l acc (i : Int)) (strOfNums (bodyB l)) := by
    intro t
    induction t with
    | nil =>
      intro i acc h he ha hi
      have h3 : l.length ≤ i := by simpa using h
      simp only [csPc, List.append_nil] at he
      refine Ev.step (fun k => spec_ColumnsBody.l0.eq_2 _ _ _ _) <| Ev.if_neg (by omega) ?_
      rw [he]
      have hp := pieces (⟨2, (l.length : Int), ⟨#[]⟩⟩ :: csPc 0 l) (by rw [List.length_cons, csPc_len]; omega) (fun x hx => by
        rcases List.mem_cons.1 hx with rfl | hx
        · show (⟨#[]⟩ : ByteArray).size ≤ _; exact Nat.zero_le _
        · exact csPc_size 0 l hok x hx)
      rw [hd] at hp
      exact Ev.bind hp (Ev.now _)
    | cons c t ih =>
      intro i acc h he ha hi
      obtain ⟨e1, i1, d1⟩ := rd_at h
      have ew : wrap64 ((i : Int) + 1) = ((i + 1 : Nat) : Int) := by rw [wrap64_id (by omega) (by omega)]; omega
      refine Ev.step (fun k => spec_ColumnsBody.l0.eq_2 _ _ _ _) <| Ev.if_pos (by omega) <| Ev.if_pos (by omega) ?_
      rw [e1, ew]
      refine Ev.bind (Ev.now (cPc i c)) <| Ev.if_pos (by have : (cPc i c).length = 7 := rfl; omega) ?_
      refine ih (i + 1) _ d1 ?_ ?_ (by omega)
      · rw [List.append_assoc]; rw [csPc] at he; exact he
      · rw [List.length_append]; have : (cPc i c).length = 7 := rfl; omega
  exact go l 0 _ rfl rfl (by simp) (Nat.zero_le _)
/-! ### read again -/
def toP (c : ICol) : PCol := ⟨c.f0, c.f1, c.f2, c.f3, c.f4⟩
theorem cB_byte (i : Nat) (c : ICol) : ∀ x ∈ cB i c, 0 ≤ x ∧ x ≤ 255 := by
  intro x hx
  unfold cB at hx
  simp only [List.mem_append, List.mem_cons] at hx
  rcases hx with hx | rfl | hx | hx | hx | hx | hx | hx
  · exact bytesOf_range hx
  · omega
  · exact b32_byte hx
  · exact b16_byte hx
  · exact b32_byte hx
  · exact b16_byte hx
  · exact b32_byte hx
  · exact b16_byte hx
theorem csB_byte : ∀ (i : Nat) (l : List ICol), ∀ x ∈ csB i l, 0 ≤ x ∧ x ≤ 255
  | _, [], x, hx => by cases hx
  | i, c :: t, x, hx => by
    rw [csB] at hx
    rcases List.mem_append.1 hx with hx | hx
    · exact cB_byte i c x hx
    · exact csB_byte (i + 1) t x hx
theorem drop_app {a : List Int} {n : Nat} (h : a.length = n) (t : List Int) : (a ++ t).drop n = t := by subst h; simp
theorem dec_one (i : Nat) (c : ICol) (h : OkC c) (h1 : 0 ≤ c.f1 ∧ c.f1 < 4294967296) (rest : List Int) (hr : ∀ x ∈ rest, 0 ≤ x ∧ x ≤ 255) (hl : rest.length ≤ 1000000) : Ev (fun k => decCol k (cB i c ++ rest)) (toP c, rest) := by
  obtain ⟨h0, hs, h2, h3, h4, h5, h6⟩ := h
  have hn : (bytesOf c.f0).length ≤ 100 := by rw [bytesOf_length]; exact hs
  let T : List Int := b32 i ++ (b16 i ++ (b32 (wrap64 (wrap32 c.f1)) ++ (b16 c.f2 ++ (b32 c.f3 ++ (b16 c.f4 ++ rest)))))
  have e : cB i c ++ rest = bytesOf c.f0 ++ 0 :: T := by simp [cB, T, List.append_assoc]
  have hby : ∀ x ∈ bytesOf c.f0 ++ 0 :: T, 0 ≤ x ∧ x ≤ 255 := by
    rw [← e]; intro x hx
    rcases List.mem_append.1 hx with hx | hx
    · exact cB_byte i c x hx
    · exact hr x hx
  have hTl : T.length = 18 + rest.length := by simp only [T, List.length_append, b32_len, b16_len]; omega
  have hz := index_yes (strOfNums (bytesOf c.f0 ++ 0 :: T)) ⟨#[0]⟩ (by rw [strOfNums_size, List.length_append, List.length_cons]; omega) 0 rfl (bytesOf c.f0) T (bytesOf_strOfNums hby) h0
  rw [e]
  unfold decCol
  refine Ev.bind hz <| Ev.if_pos ⟨by omega, by simp only [Int.toNat_natCast, List.length_append, List.length_cons]; omega⟩ <| Ev.to ?_ (Ev.now _)
  simp only [Int.toNat_natCast]
  have d0 : (bytesOf c.f0 ++ 0 :: T).drop ((bytesOf c.f0).length + 1) = T := by rw [List.drop_append]; simp
  have t0 : (bytesOf c.f0 ++ 0 :: T).take ((bytesOf c.f0).length) = bytesOf c.f0 := by simp
  have d1 : T.drop 6 = b32 (wrap64 (wrap32 c.f1)) ++ (b16 c.f2 ++ (b32 c.f3 ++ (b16 c.f4 ++ rest))) := rfl
  rw [d0, t0, d1]
  have d2 : (b32 (wrap64 (wrap32 c.f1)) ++ (b16 c.f2 ++ (b32 c.f3 ++ (b16 c.f4 ++ rest)))).drop 4 = b16 c.f2 ++ (b32 c.f3 ++ (b16 c.f4 ++ rest)) := rfl
  have d3 : (b16 c.f2 ++ (b32 c.f3 ++ (b16 c.f4 ++ rest))).drop 2 = b32 c.f3 ++ (b16 c.f4 ++ rest) := rfl
  have d4 : (b32 c.f3 ++ (b16 c.f4 ++ rest)).drop 4 = b16 c.f4 ++ rest := rfl
  have d5 : (b16 c.f4 ++ rest).drop 2 = rest := rfl
  rw [d2, d3, d4, d5, e32_b, e16_b _ h2 (by omega), e32_b, e16_b _ (by omega) (by omega), strOfNums_bytesOf, (w32 c.f1).2.2]
  have hm : IntKind.i32.wrap (c.f3 % 4294967296) = c.f3 := by rw [IntKind.wrap_i32]; omega
  rw [hm, Int.emod_eq_of_lt h1.1 h1.2]
  rfl
theorem dec_all : ∀ (l : List ICol) (i : Nat), (∀ c ∈ l, OkC c) → (∀ c ∈ l, 0 ≤ c.f1 ∧ c.f1 < 4294967296) → l.length ≤ 1000 → Ev (fun k => decCols k l.length (csB i l)) (l.map toP)
  | [], i, _, _, _ => Ev.now _
  | c :: t, i, h, h1, hl => by
    simp only [List.length_cons] at hl
    have ih := dec_all t (i + 1) (fun x hx => h x (List.mem_cons_of_mem _ hx)) (fun x hx => h1 x (List.mem_cons_of_mem _ hx)) (by omega)
    have hlen : ∀ (j : Nat) (t : List ICol), (∀ c ∈ t, OkC c) → (csB j t).length ≤ t.length * 119 := by
      intro j t
      induction t generalizing j with
      | nil => intro _; exact Nat.zero_le _
      | cons d t ih =>
        intro h
        have a := cB_len j d (h d (by simp))
        have b := ih (j + 1) (fun x hx => h x (List.mem_cons_of_mem _ hx))
        rw [csB, List.length_append, List.length_cons]; omega
    have hd := dec_one i c (h c (by simp)) (h1 c (by simp)) (csB (i + 1) t) (csB_byte (i + 1) t) (by have := hlen (i + 1) t (fun x hx => h x (List.mem_cons_of_mem _ hx)); omega)
    show Ev (fun k => (decCol k (csB i (c :: t))).bind fun p => (decCols k t.length p.2).bind fun l => some (p.1 :: l)) _
    rw [csB]
    exact Ev.bind hd <| Ev.bind ih (Ev.now _)
theorem dec_body (l : List ICol) (h : ∀ c ∈ l, OkC c) (h1 : ∀ c ∈ l, 0 ≤ c.f1 ∧ c.f1 < 4294967296) (hl : l.length ≤ 20) : Ev (fun k => decBody k (bodyB l)) (l.map toP) := by
  unfold decBody bodyB
  have e := e16_b (l.length : Int) (by omega) (by omega) (csB 0 l)
  refine Ev.if_pos ⟨by rw [List.length_append, b16_len]; omega, by rw [e]; omega⟩ ?_
  rw [e, Int.toNat_natCast]
  exact dec_all l 0 h h1 (by omega)
theorem columns (p : List PCol) (hp : p.length ≤ 1000) : Ev (fun k => impl_columns.f k p) (p.map fun x => (⟨x.f0, x.f1, x.f2, x.f3, x.f4⟩ : ICol)) := by
  have go : ∀ (t : List PCol) (i : Nat) (acc : List ICol), p.drop i = t → acc.length ≤ i → i ≤ p.length → Ev (fun k => impl_columns.l0 k acc p (p.length : Int) (i : Int)) (acc ++ t.map fun x => (⟨x.f0, x.f1, x.f2, x.f3, x.f4⟩ : ICol)) := by
    intro t
    induction t with
    | nil =>
      intro i acc h ha hi
      have h3 : p.length ≤ i := by simpa using h
      exact Ev.step (fun k => impl_columns.l0.eq_2 _ _ _ _ _) <| Ev.if_neg (by omega) <| Ev.to (by simp) (Ev.now _)
    | cons x t ih =>
      intro i acc h ha hi
      obtain ⟨e1, i1, d1⟩ := rdP_at h
      have ew : wrap64 ((i : Int) + 1) = ((i + 1 : Nat) : Int) := by rw [wrap64_id (by omega) (by omega)]; omega
      refine Ev.step (fun k => impl_columns.l0.eq_2 _ _ _ _ _) <| Ev.if_pos (by omega) <| Ev.if_pos (by omega) <| Ev.if_pos (by omega) <| Ev.if_pos (by omega) ?_
      rw [e1, ew]
      refine Ev.to ?_ (ih (i + 1) _ d1 (by rw [List.length_append]; simp only [List.length_singleton]; omega) (by omega))
      simp
  exact go p 0 [] rfl (Nat.le_refl _) (Nat.zero_le _)
theorem FnColumns (l : List ICol) (hl : l.length * 48 ≤ 140737488351232) (hg : ∀ x ∈ l, x.f0.size ≤ maxLen ∧ (Lit.int .u32 x.f1).wf = true ∧ (Lit.int .i64 x.f2).wf = true ∧ (Lit.int .i64 x.f3).wf = true ∧ (Lit.int .i64 x.f4).wf = true) : ∃ k, laws_FnColumns.f k l = some true := by
  suffices h : Ev (fun k => laws_FnColumns.f k l) true from h.rounds
  obtain ⟨b, hb, hb1⟩ := fits l (by omega)
  unfold laws_FnColumns.f
  refine Ev.bind hb ?_
  cases b with
  | false => exact Ev.if_neg (by simp) <| Ev.now _
  | true =>
    have hsz := hb1 rfl
    refine Ev.if_pos rfl ?_
    by_cases h20 : (l.length : Int) > 20
    · exact Ev.if_pos h20 <| Ev.now _
    refine Ev.if_neg h20 ?_
    have h20' : l.length ≤ 20 := by omega
    have hwf : ∀ c ∈ l, 0 ≤ c.f1 ∧ c.f1 < 4294967296 := by
      intro c hc
      have := (hg c hc).2.1
      simp [Lit.wf, IntKind.min, IntKind.max, IntKind.signed, IntKind.bits] at this
      omega
    have e0 : (∀ c ∈ l, OkC c) → Ev (fun k => laws_FnColumns.e0 k l) true := by
      intro hok
      have hbody := body l h20' hok
      have hdec := dec_body l hok hwf h20'
      have hbs : bytesOf (strOfNums (bodyB l)) = bodyB l := bytesOf_strOfNums (by
        intro x hx
        unfold bodyB at hx
        rcases List.mem_append.1 hx with hx | hx
        · exact b16_byte hx
        · exact csB_byte 0 l x hx)
      have hlen : ∀ (j : Nat) (t : List ICol), (∀ c ∈ t, OkC c) → (csB j t).length ≤ t.length * 119 := by
        intro j t
        induction t generalizing j with
        | nil => intro _; exact Nat.zero_le _
        | cons d t ih =>
          intro h
          have a := cB_len j d (h d (by simp))
          have b := ih (j + 1) (fun x hx => h x (List.mem_cons_of_mem _ hx))
          rw [csB, List.length_append, List.length_cons]; omega
      have hbl : (strOfNums (bodyB l)).size ≤ 1000000000000 := by
        rw [strOfNums_size]; unfold bodyB; rw [List.length_append, b16_len]; have := hlen 0 l hok; omega
      have hst : Ev (fun k => impl_StatementColumns.f k (strOfNums (bodyB l))) (l.map plainC, true) := by
        unfold impl_StatementColumns.f
        refine Ev.if_pos hbl ?_
        rw [hbs]
        refine Ev.bind hdec <| Ev.if_pos (by rw [List.length_map]; omega) ?_
        refine Ev.bind (columns _ (by rw [List.length_map, List.length_map]; omega)) <| Ev.to ?_ (Ev.now _)
        rw [List.map_map, List.map_map]; rfl
      have hpo : Ev (fun k => impl_PortalColumns.f k (strOfNums (bodyB l))) (l, true) := by
        unfold impl_PortalColumns.f
        refine Ev.if_pos hbl ?_
        rw [hbs]
        refine Ev.bind hdec <| Ev.if_pos (by rw [List.length_map]; omega) ?_
        refine Ev.bind (columns _ (by rw [List.length_map]; omega)) <| Ev.to ?_ (Ev.now _)
        rw [List.map_map]
        have : ((fun x : PCol => (⟨x.f0, x.f1, x.f2, x.f3, x.f4⟩ : ICol)) ∘ toP) = id := by funext c; rfl
        rw [this, List.map_id]
      unfold laws_FnColumns.e0
      refine Ev.bind hbody <| Ev.bind hst <| Ev.bind hpo <| Ev.const ?_
      exact if_pos ⟨rfl, rfl⟩
    have go : ∀ (t : List ICol) (i : Nat), l.drop i = t → (∀ c ∈ l.take i, OkC c) → Ev (fun k => laws_FnColumns.l0 k l (i : Int)) true := by
      intro t
      induction t with
      | nil =>
        intro i h hok
        have h3 : l.length ≤ i := by simpa using h
        rw [List.take_of_length_le h3] at hok
        exact Ev.step (fun k => laws_FnColumns.l0.eq_2 _ _ _) <| Ev.if_neg (by omega) <| e0 hok
      | cons c t ih =>
        intro i h hok
        obtain ⟨e1, i1, d1⟩ := rd_at h
        have ew : wrap64 ((i : Int) + 1) = ((i + 1 : Nat) : Int) := by rw [wrap64_id (by omega) (by omega)]; omega
        have hc : c ∈ l := by have : c ∈ l.drop i := by rw [h]; simp
                              exact List.mem_of_mem_drop this
        obtain ⟨b, hb, hbt⟩ := right c (Nat.le_trans (hsz c hc) (by omega))
        refine Ev.step (fun k => laws_FnColumns.l0.eq_2 _ _ _) <| Ev.if_pos (by omega) <| Ev.if_pos (by omega) ?_
        rw [e1, ew]
        refine Ev.bind hb ?_
        cases b with
        | false => exact Ev.if_neg (by simp) <| Ev.now _
        | true =>
          refine Ev.if_pos rfl <| ih (i + 1) d1 ?_
          intro y hy
          rw [List.take_add_one, List.getElem?_eq_getElem i1] at hy
          rcases List.mem_append.1 hy with hy | hy
          · exact hok y hy
          · have : l[i] = c := by rw [List.drop_eq_getElem_cons i1] at h; injection h
            simp at hy
            rw [hy, this]; exact hbt rfl
    exact go l 0 rfl (by simp)
end Go.Proofs.Ythcikkjjegfblab.Pure
