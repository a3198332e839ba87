/-
  DERIVED: THE SHELF's CONTRACTS AT THIS DUMP, IN PLAIN WORDS (tools/lay-plain.mjs out of 'TrydShelf.lean', which tools/lay-shelf.mjs wrote): THE SAME DECLARATIONS UNDER THE SAME NAMES: 'import', 'namespace', 'open', 'def', 'theorem' AND NOTHING ELSE: no command of the shelf's: FOR A HAND-IN. Each laying: the table of numbers ('.._ren') and one theorem, a field a fact of the dump's own or the kernel's comparison; each contract: ONE APPLICATION.
-/
import Derived.Shelf.Strings.OnBuilder
import Derived.Shelf.LaysC
import Derived.Shelf.Strconv.ParseIntPublic10
import Derived.Shelf.Strconv.ErrVarParseInt
import Derived.Test.YtpmmnlgkeanplaaDoorProg
namespace Go.Proofs
open Go.Shelf
def Tryd.lays156_ren : Go.Shelf.Ren := ⟨fun | 156 => 27 | 165 => 34 | 166 => 35 | 169 => 36 | 240 => 43 | 241 => 44 | 276 => 50 | 277 => 51 | n => n, fun | 31 => 22 | 9 => 9 | 3 => 3 | 4 => 4 | 0 => 0 | 20 => 20 | 72 => 73 | 76 => 75 | 70 => 71 | 37 => 42 | 75 => 60 | 127 => 85 | 164 => 93 | 5 => 5 | 80 => 30 | n => n, fun | n => n⟩
theorem Tryd.lays156 : Go.Proofs.Lays.n156 Tryd.prog Tryd.lays156_ren := {
  mixed := by kernel_rfl
  f156 := Tryd.func27.trans (congrArg some (by kernel_rfl))
  f165 := Tryd.func34.trans (congrArg some (by kernel_rfl))
  f166 := Tryd.func35.trans (congrArg some (by kernel_rfl))
  f169 := Tryd.func36.trans (congrArg some (by kernel_rfl))
  f240 := Tryd.func43.trans (congrArg some (by kernel_rfl))
  f241 := Tryd.func44.trans (congrArg some (by kernel_rfl))
  f276 := Tryd.func50.trans (congrArg some (by kernel_rfl))
  f277 := Tryd.func51.trans (congrArg some (by kernel_rfl))
  t0 := Tryd.underlying0
  a0 := Tryd.isAgg0
  z0 := Tryd.sizeOf0
  v0 := Tryd.zeroValue0
  t3 := Tryd.underlying3
  a3 := Tryd.isAgg3
  z3 := Tryd.sizeOf3
  v3 := Tryd.zeroValue3
  t4 := Tryd.underlying4
  a4 := Tryd.isAgg4
  z4 := Tryd.sizeOf4
  v4 := Tryd.zeroValue4
  t9 := Tryd.underlying9
  a9 := Tryd.isAgg9
  z9 := Tryd.sizeOf9
  v9 := Tryd.zeroValue9
  t20 := Tryd.underlying20
  a20 := Tryd.isAgg20
  z20 := Tryd.sizeOf20
  v20 := Tryd.zeroValue20
  t31 := Tryd.underlying22
  a31 := Tryd.isAgg22
  z31 := Tryd.sizeOf22
  v31 := Tryd.zeroValue22
  t37 := Tryd.underlying42
  a37 := Tryd.isAgg42
  z37 := Tryd.sizeOf42
  v37 := Tryd.zeroValue42
  t70 := Tryd.underlying71
  a70 := Tryd.isAgg71
  z70 := Tryd.sizeOf71
  v70 := Tryd.zeroValue71
  t72 := Tryd.underlying73
  a72 := Tryd.isAgg73
  z72 := Tryd.sizeOf73
  v72 := Tryd.zeroValue73
  t75 := Tryd.underlying60
  a75 := Tryd.isAgg60
  z75 := Tryd.sizeOf60
  v75 := Tryd.zeroValue60
  t76 := Tryd.underlying75
  a76 := Tryd.isAgg75
  z76 := Tryd.sizeOf75
  v76 := Tryd.zeroValue75
  t127 := Tryd.underlying85
  a127 := Tryd.isAgg85
  z127 := Tryd.sizeOf85
  v127 := Tryd.zeroValue85
  t164 := Tryd.underlying93
  a164 := Tryd.isAgg93
  z164 := Tryd.sizeOf93
  v164 := Tryd.zeroValue93 }
theorem Tryd.Builder_Extra_156 : Builder.Extra Tryd.prog Tryd.lays156_ren := {
  sizeBuilder := by kernel_rfl
  liesBuilder := by kernel_rfl
  t5 := Tryd.underlying5
  a5 := Tryd.isAgg5
  z5 := Tryd.sizeOf5
  v5 := Tryd.zeroValue5
  infoByte := by kernel_rfl
  cellsByte := by kernel_rfl
  sizeByte := by kernel_rfl
  neB5 := by decide }
open Go.RowKit in
/-- No element: the empty string; the world is as it was. (Whatever the slice's address and capacity: a nil slice too.) (LAID: no walk: one application.) -/
theorem Tryd.strings_Join_none (a : Option Addr) (c : Nat) (sep : ByteArray) (w : World) :
    Calls Tryd.prog 27 #[.slice a 0 c, .string sep] w fun e w' => e = .returned (.string ⟨#[]⟩) ∧ w' = w := Any.strings_Join_none Tryd.lays156 Tryd.Builder_Extra_156 a c sep w
open Go.RowKit in
/-- strings.Join: "Join concatenates the elements of its first argument to create a single string. The separator string sep is placed between elements in the resulting string.": HOWEVER MANY ELEMENTS. Below the heap's end the world is as it was. (LAID: no walk: one application.) -/
theorem Tryd.strings_Join (bk o c : Nat) (xs : List ByteArray) (sep : ByteArray) (w : World) (hcells : ∀ (j : Nat) x, xs[j]? = some x → w.cell? ⟨bk, o + j, none⟩ = some (.string x)) (hbk : bk < w.heap.size) (hN : xs.length ≤ 140737488355328) (hcap : xs.length ≤ c) (hlen : (Lib.join (xs.map (·.data.toList)) sep.data.toList).length ≤ 140737488355328) :
    Calls Tryd.prog 27 #[.slice (some ⟨bk, o, none⟩) xs.length c, .string sep] w fun e w' => e = .returned (.string ⟨(Lib.join (xs.map (·.data.toList)) sep.data.toList).toArray⟩) ∧ Below w.heap.size w w' := Any.strings_Join Tryd.lays156 Tryd.Builder_Extra_156 bk o c xs sep w hcells hbk hN hcap hlen
def Tryd.laysC174_ren : Go.Shelf.Ren := ⟨fun | 174 => 24 | 247 => 32 | 245 => 33 | 287 => 38 | 279 => 39 | 280 => 40 | 281 => 41 | 282 => 42 | 321 => 45 | 322 => 46 | 316 => 47 | 171 => 49 | 205 => 48 | 243 => 52 | 246 => 53 | 283 => 54 | 284 => 55 | 285 => 56 | 286 => 57 | 129 => 59 | 317 => 58 | 318 => 60 | 319 => 61 | 320 => 62 | 337 => 63 | 338 => 64 | n => n, fun | 9 => 9 | 3 => 3 | 2 => 2 | 75 => 60 | 85 => 61 | 4 => 4 | 167 => 77 | 5 => 5 | 53 => 78 | 175 => 79 | 46 => 81 | 168 => 82 | 37 => 42 | 0 => 0 | 210 => 90 | 21 => 21 | 127 => 85 | 145 => 98 | 143 => 96 | 171 => 100 | 173 => 103 | 212 => 107 | 51 => 31 | 20 => 20 | 213 => 108 | 232 => 112 | 233 => 113 | 80 => 30 | n => n, fun | 15 => 0 | 16 => 1 | 17 => 3 | 18 => 4 | 19 => 5 | n => n⟩
theorem Tryd.laysC174 : Go.Proofs.LaysC.n174 Tryd.prog Tryd.laysC174_ren := {
  mixed := by kernel_rfl
  f129 := Tryd.func59.trans (congrArg some (by kernel_rfl))
  f171 := Tryd.func49.trans (congrArg some (by kernel_rfl))
  f174 := Tryd.func24.trans (congrArg some (by kernel_rfl))
  f205 := Tryd.func48.trans (congrArg some (by kernel_rfl))
  f243 := Tryd.func52.trans (congrArg some (by kernel_rfl))
  f245 := Tryd.func33.trans (congrArg some (by kernel_rfl))
  f246 := Tryd.func53.trans (congrArg some (by kernel_rfl))
  f247 := Tryd.func32.trans (congrArg some (by kernel_rfl))
  f279 := Tryd.func39.trans (congrArg some (by kernel_rfl))
  f280 := Tryd.func40.trans (congrArg some (by kernel_rfl))
  f281 := Tryd.func41.trans (congrArg some (by kernel_rfl))
  f282 := Tryd.func42.trans (congrArg some (by kernel_rfl))
  f283 := Tryd.func54.trans (congrArg some (by kernel_rfl))
  f284 := Tryd.func55.trans (congrArg some (by kernel_rfl))
  f285 := Tryd.func56.trans (congrArg some (by kernel_rfl))
  f286 := Tryd.func57.trans (congrArg some (by kernel_rfl))
  f287 := Tryd.func38.trans (congrArg some (by kernel_rfl))
  f316 := Tryd.func47.trans (congrArg some (by kernel_rfl))
  f317 := Tryd.func58.trans (congrArg some (by kernel_rfl))
  f318 := Tryd.func60.trans (congrArg some (by kernel_rfl))
  f319 := Tryd.func61.trans (congrArg some (by kernel_rfl))
  f320 := Tryd.func62.trans (congrArg some (by kernel_rfl))
  f321 := Tryd.func45.trans (congrArg some (by kernel_rfl))
  f322 := Tryd.func46.trans (congrArg some (by kernel_rfl))
  f337 := Tryd.func63.trans (congrArg some (by kernel_rfl))
  f338 := Tryd.func64.trans (congrArg some (by kernel_rfl))
  t0 := Tryd.underlying0
  a0 := Tryd.isAgg0
  z0 := Tryd.sizeOf0
  v0 := Tryd.zeroValue0
  t2 := Tryd.underlying2
  a2 := Tryd.isAgg2
  z2 := Tryd.sizeOf2
  v2 := Tryd.zeroValue2
  t3 := Tryd.underlying3
  a3 := Tryd.isAgg3
  z3 := Tryd.sizeOf3
  v3 := Tryd.zeroValue3
  t4 := Tryd.underlying4
  a4 := Tryd.isAgg4
  z4 := Tryd.sizeOf4
  v4 := Tryd.zeroValue4
  t5 := Tryd.underlying5
  a5 := Tryd.isAgg5
  z5 := Tryd.sizeOf5
  v5 := Tryd.zeroValue5
  t9 := Tryd.underlying9
  a9 := Tryd.isAgg9
  z9 := Tryd.sizeOf9
  v9 := Tryd.zeroValue9
  t20 := Tryd.underlying20
  a20 := Tryd.isAgg20
  z20 := Tryd.sizeOf20
  v20 := Tryd.zeroValue20
  t21 := Tryd.underlying21
  a21 := Tryd.isAgg21
  z21 := Tryd.sizeOf21
  v21 := Tryd.zeroValue21
  t37 := Tryd.underlying42
  a37 := Tryd.isAgg42
  z37 := Tryd.sizeOf42
  v37 := Tryd.zeroValue42
  t46 := Tryd.underlying81
  a46 := Tryd.isAgg81
  z46 := Tryd.sizeOf81
  v46 := Tryd.zeroValue81
  t51 := Tryd.underlying31
  a51 := Tryd.isAgg31
  z51 := Tryd.sizeOf31
  v51 := Tryd.zeroValue31
  t53 := Tryd.underlying78
  a53 := Tryd.isAgg78
  z53 := Tryd.sizeOf78
  v53 := Tryd.zeroValue78
  t75 := Tryd.underlying60
  a75 := Tryd.isAgg60
  z75 := Tryd.sizeOf60
  v75 := Tryd.zeroValue60
  t85 := Tryd.underlying61
  a85 := Tryd.isAgg61
  z85 := Tryd.sizeOf61
  v85 := Tryd.zeroValue61
  t127 := Tryd.underlying85
  a127 := Tryd.isAgg85
  z127 := Tryd.sizeOf85
  v127 := Tryd.zeroValue85
  t143 := Tryd.underlying96
  a143 := Tryd.isAgg96
  z143 := Tryd.sizeOf96
  v143 := Tryd.zeroValue96
  t145 := Tryd.underlying98
  a145 := Tryd.isAgg98
  z145 := Tryd.sizeOf98
  v145 := Tryd.zeroValue98
  t167 := Tryd.underlying77
  a167 := Tryd.isAgg77
  z167 := Tryd.sizeOf77
  v167 := Tryd.zeroValue77
  t168 := Tryd.underlying82
  a168 := Tryd.isAgg82
  z168 := Tryd.sizeOf82
  v168 := Tryd.zeroValue82
  t171 := Tryd.underlying100
  a171 := Tryd.isAgg100
  z171 := Tryd.sizeOf100
  v171 := Tryd.zeroValue100
  t173 := Tryd.underlying103
  a173 := Tryd.isAgg103
  z173 := Tryd.sizeOf103
  v173 := Tryd.zeroValue103
  t175 := Tryd.underlying79
  a175 := Tryd.isAgg79
  z175 := Tryd.sizeOf79
  v175 := Tryd.zeroValue79
  t210 := Tryd.underlying90
  a210 := Tryd.isAgg90
  z210 := Tryd.sizeOf90
  v210 := Tryd.zeroValue90
  t212 := Tryd.underlying107
  a212 := Tryd.isAgg107
  z212 := Tryd.sizeOf107
  v212 := Tryd.zeroValue107
  t213 := Tryd.underlying108
  a213 := Tryd.isAgg108
  z213 := Tryd.sizeOf108
  t232 := Tryd.underlying112
  a232 := Tryd.isAgg112
  z232 := Tryd.sizeOf112
  v232 := Tryd.zeroValue112
  t233 := Tryd.underlying113
  a233 := Tryd.isAgg113
  z233 := Tryd.sizeOf113
  v233 := Tryd.zeroValue113
  g15 := by kernel_rfl
  g16 := by kernel_rfl
  g17 := by kernel_rfl
  g18 := by kernel_rfl
  g19 := by kernel_rfl
  t80 := Tryd.underlying30
  a80 := Tryd.isAgg30
  z80 := Tryd.sizeOf30
  v80 := Tryd.zeroValue30
  i0 := by kernel_rfl
  i2 := by kernel_rfl
  i3 := by kernel_rfl
  i4 := by kernel_rfl
  i5 := by kernel_rfl
  i9 := by kernel_rfl
  i20 := by kernel_rfl
  i21 := by kernel_rfl
  i37 := by kernel_rfl
  i46 := by kernel_rfl
  i51 := by kernel_rfl
  i53 := by kernel_rfl
  i75 := by kernel_rfl
  i80 := by kernel_rfl
  i85 := by kernel_rfl
  i127 := by kernel_rfl
  i143 := by kernel_rfl
  i145 := by kernel_rfl
  i167 := by kernel_rfl
  i168 := by kernel_rfl
  i171 := by kernel_rfl
  i173 := by kernel_rfl
  i175 := by kernel_rfl
  i210 := by kernel_rfl
  i212 := by kernel_rfl
  i232 := by kernel_rfl
  i233 := by kernel_rfl
  m15 := by kernel_rfl
  m16 := by kernel_rfl
  m17 := by kernel_rfl
  m18 := by kernel_rfl
  m19 := by kernel_rfl
  c0 := by kernel_rfl
  c2 := by kernel_rfl
  c3 := by kernel_rfl
  c4 := by kernel_rfl
  c5 := by kernel_rfl
  c9 := by kernel_rfl
  c20 := by kernel_rfl
  c21 := by kernel_rfl
  c37 := by kernel_rfl
  c46 := by kernel_rfl
  c51 := by kernel_rfl
  c53 := by kernel_rfl
  c75 := by kernel_rfl
  c80 := by kernel_rfl
  c85 := by kernel_rfl
  c127 := by kernel_rfl
  c143 := by kernel_rfl
  c145 := by kernel_rfl
  c167 := by kernel_rfl
  c168 := by kernel_rfl
  c171 := by kernel_rfl
  c173 := by kernel_rfl
  c175 := by kernel_rfl
  c210 := by kernel_rfl
  c212 := by kernel_rfl
  c213 := by kernel_rfl
  c232 := by kernel_rfl
  c233 := by kernel_rfl }
open Go.RowKit in
/-- strconv.ParseInt(s, 10, 64), AT EVERY STRING THAT SPELLS AN int64 ('Lib.parseIntB 64 s.data.toList = .ok v'): v, AND NO ERROR. (LAID: no walk: one application.) -/
theorem Tryd.strconv_ParseInt_10_at64_ok (s : ByteArray) (hmax : s.size ≤ 9223372036854775806) (v : Int) (h : Lib.parseIntB 64 s.data.toList = .ok v) (w : World) :
    Calls Tryd.prog 24 #[.string s, .int .i64 10, .int .i64 64] w fun e w' => e = .returned (.tuple #[.int .i64 v, .nilIface]) ∧ (w' = w ∨ ∃ t, w' = Lib.bytesWorld w 5 t) := Any.strconv_ParseInt_10_at64_ok Tryd.laysC174 s hmax v h w
open Go.RowKit in
/-- strconv.ParseInt(s, 10, 64), AT EVERY STRING THAT IS NO DECIMAL NUMERAL: 0, AND AN ERROR THAT IS NOT nil: a *NumError in a new block N: {Func: "ParseInt", Num: s's bytes, Err: what the variable ErrSyntax holds}. Of what was there nothing has turned. (LAID: no walk: one application.) -/
theorem Tryd.strconv_ParseInt_10_at64_syntax (s : ByteArray) (hlim : s.size ≤ 281474976710656) (h : Lib.parseIntB 64 s.data.toList = Lib.NumEnd.syntax) (ev : Value) (w : World) (hv : w.cell? ⟨0, 0, none⟩ = some ev) (hev : ev = .nilIface ∨ ∃ te pe, ev = .iface te pe) :
    Calls Tryd.prog 24 #[.string s, .int .i64 10, .int .i64 64] w fun e w' => ∃ N, e = .returned (.tuple #[.int .i64 (0), .iface 82 (.pointer (some ⟨N, 0, none⟩))]) ∧ w.heap.size ≤ N ∧ w'.heap[N]? = some (.cells #[.string ⟨#[80, 97, 114, 115, 101, 73, 110, 116]⟩, .string s, ev] 90 (0, 0)) ∧ Below w.heap.size w w' := Any.strconv_ParseInt_10_at64_syntax Tryd.laysC174 s hlim h ev w hv hev
open Go.RowKit in
/-- strconv.ParseInt(s, 10, 64), AT EVERY NUMERAL THAT NO int64 HOLDS: THE GREATEST OR THE LEAST int64, BY THE SIGN ('Lib.intSat 64'), AND AN ERROR THAT IS NOT nil: a *NumError in a new block N: {Func: "ParseInt", Num: s's bytes, Err: what the variable ErrRange holds}. Of what was there nothing has turned. (LAID: no walk: one application.) -/
theorem Tryd.strconv_ParseInt_10_at64_range (s : ByteArray) (hlim : s.size ≤ 281474976710656) (h : Lib.parseIntB 64 s.data.toList = .range) (ev : Value) (w : World) (hv : w.cell? ⟨1, 0, none⟩ = some ev) (hev : ev = .nilIface ∨ ∃ te pe, ev = .iface te pe) :
    Calls Tryd.prog 24 #[.string s, .int .i64 10, .int .i64 64] w fun e w' => ∃ N, e = .returned (.tuple #[.int .i64 (Lib.intSat 64 s.data.toList), .iface 82 (.pointer (some ⟨N, 0, none⟩))]) ∧ w.heap.size ≤ N ∧ w'.heap[N]? = some (.cells #[.string ⟨#[80, 97, 114, 115, 101, 73, 110, 116]⟩, .string s, ev] 90 (0, 0)) ∧ Below w.heap.size w w' := Any.strconv_ParseInt_10_at64_range Tryd.laysC174 s hlim h ev w hv hev
open Go.RowKit in
theorem Tryd.strconv_ParseInt_10_at64_syntax_var (s : ByteArray) (hlim : s.size ≤ 281474976710656) (h : Lib.parseIntB 64 s.data.toList = Lib.NumEnd.syntax) (tp : TypeId) (p : Value) (w : World) (hvar : w.var? Tryd.prog "strconv.ErrSyntax" = some #[.iface tp p]) :
    Calls Tryd.prog 24 #[.string s, .int .i64 10, .int .i64 64] w fun e w' => ∃ N, e = .returned (.tuple #[.int .i64 (0), .iface 82 (.pointer (some ⟨N, 0, none⟩))]) ∧ w.heap.size ≤ N ∧ w'.heap[N]? = some (.cells #[.string ⟨#[80, 97, 114, 115, 101, 73, 110, 116]⟩, .string s, .iface tp p] 90 (0, 0)) ∧ Below w.heap.size w w' := Any.strconv_ParseInt_10_at64_syntax_var Tryd.laysC174 s hlim h tp p w hvar
open Go.RowKit in
theorem Tryd.strconv_ParseInt_10_at64_range_var (s : ByteArray) (hlim : s.size ≤ 281474976710656) (h : Lib.parseIntB 64 s.data.toList = .range) (tp : TypeId) (p : Value) (w : World) (hvar : w.var? Tryd.prog "strconv.ErrRange" = some #[.iface tp p]) :
    Calls Tryd.prog 24 #[.string s, .int .i64 10, .int .i64 64] w fun e w' => ∃ N, e = .returned (.tuple #[.int .i64 (Lib.intSat 64 s.data.toList), .iface 82 (.pointer (some ⟨N, 0, none⟩))]) ∧ w.heap.size ≤ N ∧ w'.heap[N]? = some (.cells #[.string ⟨#[80, 97, 114, 115, 101, 73, 110, 116]⟩, .string s, .iface tp p] 90 (0, 0)) ∧ Below w.heap.size w w' := Any.strconv_ParseInt_10_at64_range_var Tryd.laysC174 s hlim h tp p w hvar
end Go.Proofs
