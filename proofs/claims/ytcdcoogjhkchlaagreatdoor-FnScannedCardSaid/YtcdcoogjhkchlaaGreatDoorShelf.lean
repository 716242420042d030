/-
  DERIVED: THE SHELF's CONTRACTS AT THIS DUMP, IN PLAIN WORDS (tools/lay-plain.mjs out of 'TryzShelf.lean', which tools/lay-shelf.mjs wrote): THE SAME DECLARATIONS UNDER THE SAME NAMES: 'import', 'namespace', 'open', 'def', 'theorem' AND NOTHING ELSE: no command of the shelf's: FOR A HAND-IN. Each laying: the table of numbers ('.._ren') and one theorem, a field a fact of the dump's own or the kernel's comparison; each contract: ONE APPLICATION.
-/
import Derived.Shelf.LaysC
import Derived.Shelf.Strconv.ParseIntPublic10
import Derived.Test.YtcdcoogjhkchlaaGreatDoorProg
namespace Go.Proofs
open Go.Shelf
def Tryz.laysC174_ren : Go.Shelf.Ren := ⟨fun | 174 => 31 | 247 => 39 | 245 => 40 | 287 => 44 | 279 => 45 | 280 => 46 | 281 => 47 | 282 => 48 | 321 => 54 | 322 => 55 | 316 => 56 | 171 => 57 | 205 => 20 | 243 => 60 | 246 => 74 | 283 => 89 | 284 => 90 | 285 => 91 | 286 => 92 | 129 => 78 | 317 => 97 | 318 => 82 | 319 => 98 | 320 => 99 | 337 => 102 | 338 => 103 | n => n, fun | 9 => 9 | 3 => 3 | 2 => 2 | 75 => 40 | 85 => 76 | 4 => 4 | 167 => 90 | 5 => 5 | 53 => 91 | 175 => 92 | 46 => 94 | 168 => 95 | 37 => 58 | 0 => 0 | 210 => 106 | 21 => 21 | 127 => 112 | 145 => 75 | 143 => 73 | 171 => 155 | 173 => 157 | 212 => 166 | 51 => 121 | 20 => 20 | 213 => 167 | 232 => 176 | 233 => 177 | 80 => 180 | n => n, fun | 15 => 0 | 16 => 1 | 17 => 10 | 18 => 12 | 19 => 13 | n => n⟩
theorem Tryz.laysC174 : Go.Proofs.LaysC.n174 Tryz.prog Tryz.laysC174_ren := {
  mixed := by kernel_rfl
  f129 := Tryz.func78.trans (congrArg some (by kernel_rfl))
  f171 := Tryz.func57.trans (congrArg some (by kernel_rfl))
  f174 := Tryz.func31.trans (congrArg some (by kernel_rfl))
  f205 := Tryz.func20.trans (congrArg some (by kernel_rfl))
  f243 := Tryz.func60.trans (congrArg some (by kernel_rfl))
  f245 := Tryz.func40.trans (congrArg some (by kernel_rfl))
  f246 := Tryz.func74.trans (congrArg some (by kernel_rfl))
  f247 := Tryz.func39.trans (congrArg some (by kernel_rfl))
  f279 := Tryz.func45.trans (congrArg some (by kernel_rfl))
  f280 := Tryz.func46.trans (congrArg some (by kernel_rfl))
  f281 := Tryz.func47.trans (congrArg some (by kernel_rfl))
  f282 := Tryz.func48.trans (congrArg some (by kernel_rfl))
  f283 := Tryz.func89.trans (congrArg some (by kernel_rfl))
  f284 := Tryz.func90.trans (congrArg some (by kernel_rfl))
  f285 := Tryz.func91.trans (congrArg some (by kernel_rfl))
  f286 := Tryz.func92.trans (congrArg some (by kernel_rfl))
  f287 := Tryz.func44.trans (congrArg some (by kernel_rfl))
  f316 := Tryz.func56.trans (congrArg some (by kernel_rfl))
  f317 := Tryz.func97.trans (congrArg some (by kernel_rfl))
  f318 := Tryz.func82.trans (congrArg some (by kernel_rfl))
  f319 := Tryz.func98.trans (congrArg some (by kernel_rfl))
  f320 := Tryz.func99.trans (congrArg some (by kernel_rfl))
  f321 := Tryz.func54.trans (congrArg some (by kernel_rfl))
  f322 := Tryz.func55.trans (congrArg some (by kernel_rfl))
  f337 := Tryz.func102.trans (congrArg some (by kernel_rfl))
  f338 := Tryz.func103.trans (congrArg some (by kernel_rfl))
  t0 := Tryz.underlying0
  a0 := Tryz.isAgg0
  z0 := Tryz.sizeOf0
  v0 := Tryz.zeroValue0
  t2 := Tryz.underlying2
  a2 := Tryz.isAgg2
  z2 := Tryz.sizeOf2
  v2 := Tryz.zeroValue2
  t3 := Tryz.underlying3
  a3 := Tryz.isAgg3
  z3 := Tryz.sizeOf3
  v3 := Tryz.zeroValue3
  t4 := Tryz.underlying4
  a4 := Tryz.isAgg4
  z4 := Tryz.sizeOf4
  v4 := Tryz.zeroValue4
  t5 := Tryz.underlying5
  a5 := Tryz.isAgg5
  z5 := Tryz.sizeOf5
  v5 := Tryz.zeroValue5
  t9 := Tryz.underlying9
  a9 := Tryz.isAgg9
  z9 := Tryz.sizeOf9
  v9 := Tryz.zeroValue9
  t20 := Tryz.underlying20
  a20 := Tryz.isAgg20
  z20 := Tryz.sizeOf20
  v20 := Tryz.zeroValue20
  t21 := Tryz.underlying21
  a21 := Tryz.isAgg21
  z21 := Tryz.sizeOf21
  v21 := Tryz.zeroValue21
  t37 := Tryz.underlying58
  a37 := Tryz.isAgg58
  z37 := Tryz.sizeOf58
  v37 := Tryz.zeroValue58
  t46 := Tryz.underlying94
  a46 := Tryz.isAgg94
  z46 := Tryz.sizeOf94
  v46 := Tryz.zeroValue94
  t51 := Tryz.underlying121
  a51 := Tryz.isAgg121
  z51 := Tryz.sizeOf121
  v51 := Tryz.zeroValue121
  t53 := Tryz.underlying91
  a53 := Tryz.isAgg91
  z53 := Tryz.sizeOf91
  v53 := Tryz.zeroValue91
  t75 := Tryz.underlying40
  a75 := Tryz.isAgg40
  z75 := Tryz.sizeOf40
  v75 := Tryz.zeroValue40
  t85 := Tryz.underlying76
  a85 := Tryz.isAgg76
  z85 := Tryz.sizeOf76
  v85 := Tryz.zeroValue76
  t127 := Tryz.underlying112
  a127 := Tryz.isAgg112
  z127 := Tryz.sizeOf112
  v127 := Tryz.zeroValue112
  t143 := Tryz.underlying73
  a143 := Tryz.isAgg73
  z143 := Tryz.sizeOf73
  v143 := Tryz.zeroValue73
  t145 := Tryz.underlying75
  a145 := Tryz.isAgg75
  z145 := Tryz.sizeOf75
  v145 := Tryz.zeroValue75
  t167 := Tryz.underlying90
  a167 := Tryz.isAgg90
  z167 := Tryz.sizeOf90
  v167 := Tryz.zeroValue90
  t168 := Tryz.underlying95
  a168 := Tryz.isAgg95
  z168 := Tryz.sizeOf95
  v168 := Tryz.zeroValue95
  t171 := Tryz.underlying155
  a171 := Tryz.isAgg155
  z171 := Tryz.sizeOf155
  v171 := Tryz.zeroValue155
  t173 := Tryz.underlying157
  a173 := Tryz.isAgg157
  z173 := Tryz.sizeOf157
  v173 := Tryz.zeroValue157
  t175 := Tryz.underlying92
  a175 := Tryz.isAgg92
  z175 := Tryz.sizeOf92
  v175 := Tryz.zeroValue92
  t210 := Tryz.underlying106
  a210 := Tryz.isAgg106
  z210 := Tryz.sizeOf106
  v210 := Tryz.zeroValue106
  t212 := Tryz.underlying166
  a212 := Tryz.isAgg166
  z212 := Tryz.sizeOf166
  v212 := Tryz.zeroValue166
  t213 := Tryz.underlying167
  a213 := Tryz.isAgg167
  z213 := Tryz.sizeOf167
  t232 := Tryz.underlying176
  a232 := Tryz.isAgg176
  z232 := Tryz.sizeOf176
  v232 := Tryz.zeroValue176
  t233 := Tryz.underlying177
  a233 := Tryz.isAgg177
  z233 := Tryz.sizeOf177
  v233 := Tryz.zeroValue177
  g15 := by kernel_rfl
  g16 := by kernel_rfl
  g17 := by kernel_rfl
  g18 := by kernel_rfl
  g19 := by kernel_rfl
  t80 := Tryz.underlying180
  a80 := Tryz.isAgg180
  z80 := Tryz.sizeOf180
  v80 := Tryz.zeroValue180
  i0 := by kernel_rfl
  i2 := by kernel_rfl
  i3 := by kernel_rfl
  i4 := by kernel_rfl
  i5 := by kernel_rfl
  i9 := by kernel_rfl
  i20 := by kernel_rfl
  i21 := by kernel_rfl
  i37 := by kernel_rfl
  i46 := by kernel_rfl
  i51 := by kernel_rfl
  i53 := by kernel_rfl
  i75 := by kernel_rfl
  i80 := by kernel_rfl
  i85 := by kernel_rfl
  i127 := by kernel_rfl
  i143 := by kernel_rfl
  i145 := by kernel_rfl
  i167 := by kernel_rfl
  i168 := by kernel_rfl
  i171 := by kernel_rfl
  i173 := by kernel_rfl
  i175 := by kernel_rfl
  i210 := by kernel_rfl
  i212 := by kernel_rfl
  i232 := by kernel_rfl
  i233 := by kernel_rfl
  m15 := by kernel_rfl
  m16 := by kernel_rfl
  m17 := by kernel_rfl
  m18 := by kernel_rfl
  m19 := by kernel_rfl
  c0 := by kernel_rfl
  c2 := by kernel_rfl
  c3 := by kernel_rfl
  c4 := by kernel_rfl
  c5 := by kernel_rfl
  c9 := by kernel_rfl
  c20 := by kernel_rfl
  c21 := by kernel_rfl
  c37 := by kernel_rfl
  c46 := by kernel_rfl
  c51 := by kernel_rfl
  c53 := by kernel_rfl
  c75 := by kernel_rfl
  c80 := by kernel_rfl
  c85 := by kernel_rfl
  c127 := by kernel_rfl
  c143 := by kernel_rfl
  c145 := by kernel_rfl
  c167 := by kernel_rfl
  c168 := by kernel_rfl
  c171 := by kernel_rfl
  c173 := by kernel_rfl
  c175 := by kernel_rfl
  c210 := by kernel_rfl
  c212 := by kernel_rfl
  c213 := by kernel_rfl
  c232 := by kernel_rfl
  c233 := by kernel_rfl }
open Go.RowKit in
/-- strconv.ParseInt(s, 10, 0), AT EVERY STRING THAT SPELLS AN int64 ('Lib.parseIntB 64 s.data.toList = .ok v'): v, AND NO ERROR. (LAID: no walk: one application.) -/
theorem Tryz.strconv_ParseInt_10_at0_ok (s : ByteArray) (hmax : s.size ≤ 9223372036854775806) (v : Int) (h : Lib.parseIntB 64 s.data.toList = .ok v) (w : World) :
    Calls Tryz.prog 31 #[.string s, .int .i64 10, .int .i64 0] w fun e w' => e = .returned (.tuple #[.int .i64 v, .nilIface]) ∧ (w' = w ∨ ∃ t, w' = Lib.bytesWorld w 5 t) := Any.strconv_ParseInt_10_at0_ok Tryz.laysC174 s hmax v h w
open Go.RowKit in
/-- strconv.ParseInt(s, 10, 0), AT EVERY STRING THAT IS NO DECIMAL NUMERAL: 0, AND AN ERROR THAT IS NOT nil: a *NumError in a new block N: {Func: "ParseInt", Num: s's bytes, Err: what the variable ErrSyntax holds}. Of what was there nothing has turned. (LAID: no walk: one application.) -/
theorem Tryz.strconv_ParseInt_10_at0_syntax (s : ByteArray) (hlim : s.size ≤ 281474976710656) (h : Lib.parseIntB 64 s.data.toList = .«syntax») (ev : Value) (w : World) (hv : w.cell? ⟨0, 0, none⟩ = some ev) (hev : ev = .nilIface ∨ ∃ te pe, ev = .iface te pe) :
    Calls Tryz.prog 31 #[.string s, .int .i64 10, .int .i64 0] w fun e w' => ∃ N, e = .returned (.tuple #[.int .i64 (0), .iface 95 (.pointer (some ⟨N, 0, none⟩))]) ∧ w.heap.size ≤ N ∧ w'.heap[N]? = some (.cells #[.string ⟨#[80, 97, 114, 115, 101, 73, 110, 116]⟩, .string s, ev] 106 (0, 0)) ∧ Below w.heap.size w w' := Any.strconv_ParseInt_10_at0_syntax Tryz.laysC174 s hlim h ev w hv hev
open Go.RowKit in
/-- strconv.ParseInt(s, 10, 0), AT EVERY NUMERAL THAT NO int64 HOLDS: THE GREATEST OR THE LEAST int64, BY THE SIGN ('Lib.intSat 64'), AND AN ERROR THAT IS NOT nil: a *NumError in a new block N: {Func: "ParseInt", Num: s's bytes, Err: what the variable ErrRange holds}. Of what was there nothing has turned. (LAID: no walk: one application.) -/
theorem Tryz.strconv_ParseInt_10_at0_range (s : ByteArray) (hlim : s.size ≤ 281474976710656) (h : Lib.parseIntB 64 s.data.toList = .range) (ev : Value) (w : World) (hv : w.cell? ⟨1, 0, none⟩ = some ev) (hev : ev = .nilIface ∨ ∃ te pe, ev = .iface te pe) :
    Calls Tryz.prog 31 #[.string s, .int .i64 10, .int .i64 0] w fun e w' => ∃ N, e = .returned (.tuple #[.int .i64 (Lib.intSat 64 s.data.toList), .iface 95 (.pointer (some ⟨N, 0, none⟩))]) ∧ w.heap.size ≤ N ∧ w'.heap[N]? = some (.cells #[.string ⟨#[80, 97, 114, 115, 101, 73, 110, 116]⟩, .string s, ev] 106 (0, 0)) ∧ Below w.heap.size w w' := Any.strconv_ParseInt_10_at0_range Tryz.laysC174 s hlim h ev w hv hev
open Go.RowKit in
/-- strconv.ParseInt(s, 10, 64), AT EVERY STRING THAT SPELLS AN int64 ('Lib.parseIntB 64 s.data.toList = .ok v'): v, AND NO ERROR. (LAID: no walk: one application.) -/
theorem Tryz.strconv_ParseInt_10_at64_ok (s : ByteArray) (hmax : s.size ≤ 9223372036854775806) (v : Int) (h : Lib.parseIntB 64 s.data.toList = .ok v) (w : World) :
    Calls Tryz.prog 31 #[.string s, .int .i64 10, .int .i64 64] w fun e w' => e = .returned (.tuple #[.int .i64 v, .nilIface]) ∧ (w' = w ∨ ∃ t, w' = Lib.bytesWorld w 5 t) := Any.strconv_ParseInt_10_at64_ok Tryz.laysC174 s hmax v h w
open Go.RowKit in
/-- strconv.ParseInt(s, 10, 64), AT EVERY STRING THAT IS NO DECIMAL NUMERAL: 0, AND AN ERROR THAT IS NOT nil: a *NumError in a new block N: {Func: "ParseInt", Num: s's bytes, Err: what the variable ErrSyntax holds}. Of what was there nothing has turned. (LAID: no walk: one application.) -/
theorem Tryz.strconv_ParseInt_10_at64_syntax (s : ByteArray) (hlim : s.size ≤ 281474976710656) (h : Lib.parseIntB 64 s.data.toList = .«syntax») (ev : Value) (w : World) (hv : w.cell? ⟨0, 0, none⟩ = some ev) (hev : ev = .nilIface ∨ ∃ te pe, ev = .iface te pe) :
    Calls Tryz.prog 31 #[.string s, .int .i64 10, .int .i64 64] w fun e w' => ∃ N, e = .returned (.tuple #[.int .i64 (0), .iface 95 (.pointer (some ⟨N, 0, none⟩))]) ∧ w.heap.size ≤ N ∧ w'.heap[N]? = some (.cells #[.string ⟨#[80, 97, 114, 115, 101, 73, 110, 116]⟩, .string s, ev] 106 (0, 0)) ∧ Below w.heap.size w w' := Any.strconv_ParseInt_10_at64_syntax Tryz.laysC174 s hlim h ev w hv hev
open Go.RowKit in
/-- strconv.ParseInt(s, 10, 64), AT EVERY NUMERAL THAT NO int64 HOLDS: THE GREATEST OR THE LEAST int64, BY THE SIGN ('Lib.intSat 64'), AND AN ERROR THAT IS NOT nil: a *NumError in a new block N: {Func: "ParseInt", Num: s's bytes, Err: what the variable ErrRange holds}. Of what was there nothing has turned. (LAID: no walk: one application.) -/
theorem Tryz.strconv_ParseInt_10_at64_range (s : ByteArray) (hlim : s.size ≤ 281474976710656) (h : Lib.parseIntB 64 s.data.toList = .range) (ev : Value) (w : World) (hv : w.cell? ⟨1, 0, none⟩ = some ev) (hev : ev = .nilIface ∨ ∃ te pe, ev = .iface te pe) :
    Calls Tryz.prog 31 #[.string s, .int .i64 10, .int .i64 64] w fun e w' => ∃ N, e = .returned (.tuple #[.int .i64 (Lib.intSat 64 s.data.toList), .iface 95 (.pointer (some ⟨N, 0, none⟩))]) ∧ w.heap.size ≤ N ∧ w'.heap[N]? = some (.cells #[.string ⟨#[80, 97, 114, 115, 101, 73, 110, 116]⟩, .string s, ev] 106 (0, 0)) ∧ Below w.heap.size w w' := Any.strconv_ParseInt_10_at64_range Tryz.laysC174 s hlim h ev w hv hev
open Go.RowKit in
/-- strconv.ParseInt(s, 10, 32), AT EVERY STRING THAT SPELLS AN int32 ('Lib.parseIntB 32 s.data.toList = .ok v'): v, AND NO ERROR. (LAID: no walk: one application.) -/
theorem Tryz.strconv_ParseInt_10_at32_ok (s : ByteArray) (hmax : s.size ≤ 9223372036854775806) (v : Int) (h : Lib.parseIntB 32 s.data.toList = .ok v) (w : World) :
    Calls Tryz.prog 31 #[.string s, .int .i64 10, .int .i64 32] w fun e w' => e = .returned (.tuple #[.int .i64 v, .nilIface]) ∧ (w' = w ∨ ∃ t, w' = Lib.bytesWorld w 5 t) := Any.strconv_ParseInt_10_at32_ok Tryz.laysC174 s hmax v h w
open Go.RowKit in
/-- strconv.ParseInt(s, 10, 32), AT EVERY STRING THAT IS NO DECIMAL NUMERAL: 0, AND AN ERROR THAT IS NOT nil: a *NumError in a new block N: {Func: "ParseInt", Num: s's bytes, Err: what the variable ErrSyntax holds}. Of what was there nothing has turned. (LAID: no walk: one application.) -/
theorem Tryz.strconv_ParseInt_10_at32_syntax (s : ByteArray) (hlim : s.size ≤ 281474976710656) (h : Lib.parseIntB 32 s.data.toList = .«syntax») (ev : Value) (w : World) (hv : w.cell? ⟨0, 0, none⟩ = some ev) (hev : ev = .nilIface ∨ ∃ te pe, ev = .iface te pe) :
    Calls Tryz.prog 31 #[.string s, .int .i64 10, .int .i64 32] w fun e w' => ∃ N, e = .returned (.tuple #[.int .i64 (0), .iface 95 (.pointer (some ⟨N, 0, none⟩))]) ∧ w.heap.size ≤ N ∧ w'.heap[N]? = some (.cells #[.string ⟨#[80, 97, 114, 115, 101, 73, 110, 116]⟩, .string s, ev] 106 (0, 0)) ∧ Below w.heap.size w w' := Any.strconv_ParseInt_10_at32_syntax Tryz.laysC174 s hlim h ev w hv hev
open Go.RowKit in
/-- strconv.ParseInt(s, 10, 32), AT EVERY NUMERAL THAT NO int32 HOLDS: THE GREATEST OR THE LEAST int32, BY THE SIGN ('Lib.intSat 32'), AND AN ERROR THAT IS NOT nil: a *NumError in a new block N: {Func: "ParseInt", Num: s's bytes, Err: what the variable ErrRange holds}. Of what was there nothing has turned. (LAID: no walk: one application.) -/
theorem Tryz.strconv_ParseInt_10_at32_range (s : ByteArray) (hlim : s.size ≤ 281474976710656) (h : Lib.parseIntB 32 s.data.toList = .range) (ev : Value) (w : World) (hv : w.cell? ⟨1, 0, none⟩ = some ev) (hev : ev = .nilIface ∨ ∃ te pe, ev = .iface te pe) :
    Calls Tryz.prog 31 #[.string s, .int .i64 10, .int .i64 32] w fun e w' => ∃ N, e = .returned (.tuple #[.int .i64 (Lib.intSat 32 s.data.toList), .iface 95 (.pointer (some ⟨N, 0, none⟩))]) ∧ w.heap.size ≤ N ∧ w'.heap[N]? = some (.cells #[.string ⟨#[80, 97, 114, 115, 101, 73, 110, 116]⟩, .string s, ev] 106 (0, 0)) ∧ Below w.heap.size w w' := Any.strconv_ParseInt_10_at32_range Tryz.laysC174 s hlim h ev w hv hev
open Go.RowKit in
/-- strconv.ParseInt(s, 10, 16), AT EVERY STRING THAT SPELLS AN int16 ('Lib.parseIntB 16 s.data.toList = .ok v'): v, AND NO ERROR. (LAID: no walk: one application.) -/
theorem Tryz.strconv_ParseInt_10_at16_ok (s : ByteArray) (hmax : s.size ≤ 9223372036854775806) (v : Int) (h : Lib.parseIntB 16 s.data.toList = .ok v) (w : World) :
    Calls Tryz.prog 31 #[.string s, .int .i64 10, .int .i64 16] w fun e w' => e = .returned (.tuple #[.int .i64 v, .nilIface]) ∧ (w' = w ∨ ∃ t, w' = Lib.bytesWorld w 5 t) := Any.strconv_ParseInt_10_at16_ok Tryz.laysC174 s hmax v h w
open Go.RowKit in
/-- strconv.ParseInt(s, 10, 16), AT EVERY STRING THAT IS NO DECIMAL NUMERAL: 0, AND AN ERROR THAT IS NOT nil: a *NumError in a new block N: {Func: "ParseInt", Num: s's bytes, Err: what the variable ErrSyntax holds}. Of what was there nothing has turned. (LAID: no walk: one application.) -/
theorem Tryz.strconv_ParseInt_10_at16_syntax (s : ByteArray) (hlim : s.size ≤ 281474976710656) (h : Lib.parseIntB 16 s.data.toList = .«syntax») (ev : Value) (w : World) (hv : w.cell? ⟨0, 0, none⟩ = some ev) (hev : ev = .nilIface ∨ ∃ te pe, ev = .iface te pe) :
    Calls Tryz.prog 31 #[.string s, .int .i64 10, .int .i64 16] w fun e w' => ∃ N, e = .returned (.tuple #[.int .i64 (0), .iface 95 (.pointer (some ⟨N, 0, none⟩))]) ∧ w.heap.size ≤ N ∧ w'.heap[N]? = some (.cells #[.string ⟨#[80, 97, 114, 115, 101, 73, 110, 116]⟩, .string s, ev] 106 (0, 0)) ∧ Below w.heap.size w w' := Any.strconv_ParseInt_10_at16_syntax Tryz.laysC174 s hlim h ev w hv hev
open Go.RowKit in
/-- strconv.ParseInt(s, 10, 16), AT EVERY NUMERAL THAT NO int16 HOLDS: THE GREATEST OR THE LEAST int16, BY THE SIGN ('Lib.intSat 16'), AND AN ERROR THAT IS NOT nil: a *NumError in a new block N: {Func: "ParseInt", Num: s's bytes, Err: what the variable ErrRange holds}. Of what was there nothing has turned. (LAID: no walk: one application.) -/
theorem Tryz.strconv_ParseInt_10_at16_range (s : ByteArray) (hlim : s.size ≤ 281474976710656) (h : Lib.parseIntB 16 s.data.toList = .range) (ev : Value) (w : World) (hv : w.cell? ⟨1, 0, none⟩ = some ev) (hev : ev = .nilIface ∨ ∃ te pe, ev = .iface te pe) :
    Calls Tryz.prog 31 #[.string s, .int .i64 10, .int .i64 16] w fun e w' => ∃ N, e = .returned (.tuple #[.int .i64 (Lib.intSat 16 s.data.toList), .iface 95 (.pointer (some ⟨N, 0, none⟩))]) ∧ w.heap.size ≤ N ∧ w'.heap[N]? = some (.cells #[.string ⟨#[80, 97, 114, 115, 101, 73, 110, 116]⟩, .string s, ev] 106 (0, 0)) ∧ Below w.heap.size w w' := Any.strconv_ParseInt_10_at16_range Tryz.laysC174 s hlim h ev w hv hev
open Go.RowKit in
/-- strconv.ParseInt(s, 10, 8), AT EVERY STRING THAT SPELLS AN int8 ('Lib.parseIntB 8 s.data.toList = .ok v'): v, AND NO ERROR. (LAID: no walk: one application.) -/
theorem Tryz.strconv_ParseInt_10_at8_ok (s : ByteArray) (hmax : s.size ≤ 9223372036854775806) (v : Int) (h : Lib.parseIntB 8 s.data.toList = .ok v) (w : World) :
    Calls Tryz.prog 31 #[.string s, .int .i64 10, .int .i64 8] w fun e w' => e = .returned (.tuple #[.int .i64 v, .nilIface]) ∧ (w' = w ∨ ∃ t, w' = Lib.bytesWorld w 5 t) := Any.strconv_ParseInt_10_at8_ok Tryz.laysC174 s hmax v h w
open Go.RowKit in
/-- strconv.ParseInt(s, 10, 8), AT EVERY STRING THAT IS NO DECIMAL NUMERAL: 0, AND AN ERROR THAT IS NOT nil: a *NumError in a new block N: {Func: "ParseInt", Num: s's bytes, Err: what the variable ErrSyntax holds}. Of what was there nothing has turned. (LAID: no walk: one application.) -/
theorem Tryz.strconv_ParseInt_10_at8_syntax (s : ByteArray) (hlim : s.size ≤ 281474976710656) (h : Lib.parseIntB 8 s.data.toList = .«syntax») (ev : Value) (w : World) (hv : w.cell? ⟨0, 0, none⟩ = some ev) (hev : ev = .nilIface ∨ ∃ te pe, ev = .iface te pe) :
    Calls Tryz.prog 31 #[.string s, .int .i64 10, .int .i64 8] w fun e w' => ∃ N, e = .returned (.tuple #[.int .i64 (0), .iface 95 (.pointer (some ⟨N, 0, none⟩))]) ∧ w.heap.size ≤ N ∧ w'.heap[N]? = some (.cells #[.string ⟨#[80, 97, 114, 115, 101, 73, 110, 116]⟩, .string s, ev] 106 (0, 0)) ∧ Below w.heap.size w w' := Any.strconv_ParseInt_10_at8_syntax Tryz.laysC174 s hlim h ev w hv hev
open Go.RowKit in
/-- strconv.ParseInt(s, 10, 8), AT EVERY NUMERAL THAT NO int8 HOLDS: THE GREATEST OR THE LEAST int8, BY THE SIGN ('Lib.intSat 8'), AND AN ERROR THAT IS NOT nil: a *NumError in a new block N: {Func: "ParseInt", Num: s's bytes, Err: what the variable ErrRange holds}. Of what was there nothing has turned. (LAID: no walk: one application.) -/
theorem Tryz.strconv_ParseInt_10_at8_range (s : ByteArray) (hlim : s.size ≤ 281474976710656) (h : Lib.parseIntB 8 s.data.toList = .range) (ev : Value) (w : World) (hv : w.cell? ⟨1, 0, none⟩ = some ev) (hev : ev = .nilIface ∨ ∃ te pe, ev = .iface te pe) :
    Calls Tryz.prog 31 #[.string s, .int .i64 10, .int .i64 8] w fun e w' => ∃ N, e = .returned (.tuple #[.int .i64 (Lib.intSat 8 s.data.toList), .iface 95 (.pointer (some ⟨N, 0, none⟩))]) ∧ w.heap.size ≤ N ∧ w'.heap[N]? = some (.cells #[.string ⟨#[80, 97, 114, 115, 101, 73, 110, 116]⟩, .string s, ev] 106 (0, 0)) ∧ Below w.heap.size w w' := Any.strconv_ParseInt_10_at8_range Tryz.laysC174 s hlim h ev w hv hev
end Go.Proofs
