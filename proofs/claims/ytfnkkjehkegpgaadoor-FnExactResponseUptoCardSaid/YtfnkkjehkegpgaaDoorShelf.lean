/-
  DERIVED: THE SHELF's CONTRACTS AT THIS DUMP, IN PLAIN WORDS (tools/lay-plain.mjs out of 'TrydShelf.lean', which tools/lay-shelf.mjs wrote): THE SAME DECLARATIONS UNDER THE SAME NAMES: 'import', 'namespace', 'open', 'def', 'theorem' AND NOTHING ELSE: no command of the shelf's: FOR A HAND-IN. Each laying: the table of numbers ('.._ren') and one theorem, a field a fact of the dump's own or the kernel's comparison; each contract: ONE APPLICATION.
-/
import Derived.Shelf.Strings.Builder1
import Derived.Shelf.Strings.BuilderF
import Derived.Shelf.Strings.BuilderK
import Derived.Shelf.Strconv.Atoi
import Derived.Shelf.Strconv.Itoa0
import Derived.Shelf.Strconv.Itoa1
import Derived.Shelf.LaysM
import Derived.Shelf.Strconv.Itoa2
import Derived.Shelf.Strconv.Itoa3
import Derived.Shelf.Strconv.AtoiErrFast
import Derived.Shelf.Strconv.ParseIntEmpty
import Derived.Shelf.Strconv.AtoiFail
import Derived.Shelf.Strconv.Clone
import Derived.Shelf.Strconv.SyntaxError
import Derived.Shelf.LaysC
import Derived.Shelf.Strconv.ToError
import Derived.Shelf.Strconv.AtoiErr
import Derived.Shelf.Strconv.ErrVar
import Derived.Shelf.Strconv.Lower
import Derived.Shelf.Strconv.ParseUint10
import Derived.Shelf.Strconv.ParseUint10Empty
import Derived.Shelf.Strconv.ParseUint10Any
import Derived.Shelf.Strconv.ParseInt10
import Derived.Shelf.Strconv.AtoiLong
import Derived.Shelf.Strconv.AtoiInnerAll
import Derived.Shelf.Strconv.RangeError
import Derived.Shelf.Strconv.ToErrorRange
import Derived.Shelf.Strconv.AtoiAll
import Derived.Shelf.Strconv.ErrVarAll
import Derived.Shelf.Bytes.SlIndexAt
import Derived.Shelf.Bytes.SlSearch0
import Derived.Shelf.Bytes.IndexByte
import Derived.Test.YtfnkkjehkegpgaaDoorProg
namespace Go.Proofs
open Go.Shelf
def Tryd.lays172_ren : Go.Shelf.Ren := ⟨fun | 172 => 40 | 244 => 47 | 245 => 48 | 247 => 51 | 279 => 52 | 280 => 53 | 281 => 54 | 282 => 55 | 287 => 60 | 316 => 61 | 171 => 63 | 205 => 62 | 321 => 65 | 322 => 66 | 243 => 67 | 246 => 68 | 283 => 69 | 284 => 70 | 285 => 71 | 286 => 72 | 129 => 74 | 317 => 73 | 318 => 75 | 319 => 76 | 320 => 77 | 337 => 78 | 338 => 79 | n => n, fun | 9 => 9 | 3 => 3 | 75 => 47 | 76 => 63 | 4 => 4 | 5 => 5 | 167 => 98 | 37 => 23 | 0 => 0 | 85 => 99 | 2 => 2 | 168 => 101 | 53 => 109 | 175 => 110 | 46 => 112 | 210 => 115 | 127 => 85 | 145 => 120 | 143 => 118 | 21 => 21 | 171 => 122 | 173 => 125 | 212 => 129 | 51 => 130 | 20 => 20 | 213 => 131 | 232 => 135 | 233 => 136 | 80 => 69 | n => n, fun | 15 => 5 | 16 => 6 | 17 => 10 | 18 => 11 | 19 => 12 | n => n⟩
theorem Tryd.lays172 : Go.Proofs.Lays.n172 Tryd.prog Tryd.lays172_ren := {
  mixed := by kernel_rfl
  f129 := Tryd.func74.trans (congrArg some (by kernel_rfl))
  f171 := Tryd.func63.trans (congrArg some (by kernel_rfl))
  f172 := Tryd.func40.trans (congrArg some (by kernel_rfl))
  f205 := Tryd.func62.trans (congrArg some (by kernel_rfl))
  f243 := Tryd.func67.trans (congrArg some (by kernel_rfl))
  f244 := Tryd.func47.trans (congrArg some (by kernel_rfl))
  f245 := Tryd.func48.trans (congrArg some (by kernel_rfl))
  f246 := Tryd.func68.trans (congrArg some (by kernel_rfl))
  f247 := Tryd.func51.trans (congrArg some (by kernel_rfl))
  f279 := Tryd.func52.trans (congrArg some (by kernel_rfl))
  f280 := Tryd.func53.trans (congrArg some (by kernel_rfl))
  f281 := Tryd.func54.trans (congrArg some (by kernel_rfl))
  f282 := Tryd.func55.trans (congrArg some (by kernel_rfl))
  f283 := Tryd.func69.trans (congrArg some (by kernel_rfl))
  f284 := Tryd.func70.trans (congrArg some (by kernel_rfl))
  f285 := Tryd.func71.trans (congrArg some (by kernel_rfl))
  f286 := Tryd.func72.trans (congrArg some (by kernel_rfl))
  f287 := Tryd.func60.trans (congrArg some (by kernel_rfl))
  f316 := Tryd.func61.trans (congrArg some (by kernel_rfl))
  f317 := Tryd.func73.trans (congrArg some (by kernel_rfl))
  f318 := Tryd.func75.trans (congrArg some (by kernel_rfl))
  f319 := Tryd.func76.trans (congrArg some (by kernel_rfl))
  f320 := Tryd.func77.trans (congrArg some (by kernel_rfl))
  f321 := Tryd.func65.trans (congrArg some (by kernel_rfl))
  f322 := Tryd.func66.trans (congrArg some (by kernel_rfl))
  f337 := Tryd.func78.trans (congrArg some (by kernel_rfl))
  f338 := Tryd.func79.trans (congrArg some (by kernel_rfl))
  t0 := Tryd.underlying0
  a0 := Tryd.isAgg0
  z0 := Tryd.sizeOf0
  v0 := Tryd.zeroValue0
  t2 := Tryd.underlying2
  a2 := Tryd.isAgg2
  z2 := Tryd.sizeOf2
  v2 := Tryd.zeroValue2
  t3 := Tryd.underlying3
  a3 := Tryd.isAgg3
  z3 := Tryd.sizeOf3
  v3 := Tryd.zeroValue3
  t4 := Tryd.underlying4
  a4 := Tryd.isAgg4
  z4 := Tryd.sizeOf4
  v4 := Tryd.zeroValue4
  t5 := Tryd.underlying5
  a5 := Tryd.isAgg5
  z5 := Tryd.sizeOf5
  v5 := Tryd.zeroValue5
  t9 := Tryd.underlying9
  a9 := Tryd.isAgg9
  z9 := Tryd.sizeOf9
  v9 := Tryd.zeroValue9
  t20 := Tryd.underlying20
  a20 := Tryd.isAgg20
  z20 := Tryd.sizeOf20
  v20 := Tryd.zeroValue20
  t21 := Tryd.underlying21
  a21 := Tryd.isAgg21
  z21 := Tryd.sizeOf21
  v21 := Tryd.zeroValue21
  t37 := Tryd.underlying23
  a37 := Tryd.isAgg23
  z37 := Tryd.sizeOf23
  v37 := Tryd.zeroValue23
  t46 := Tryd.underlying112
  a46 := Tryd.isAgg112
  z46 := Tryd.sizeOf112
  v46 := Tryd.zeroValue112
  t51 := Tryd.underlying130
  a51 := Tryd.isAgg130
  z51 := Tryd.sizeOf130
  v51 := Tryd.zeroValue130
  t53 := Tryd.underlying109
  a53 := Tryd.isAgg109
  z53 := Tryd.sizeOf109
  v53 := Tryd.zeroValue109
  t75 := Tryd.underlying47
  a75 := Tryd.isAgg47
  z75 := Tryd.sizeOf47
  v75 := Tryd.zeroValue47
  t76 := Tryd.underlying63
  a76 := Tryd.isAgg63
  z76 := Tryd.sizeOf63
  v76 := Tryd.zeroValue63
  t85 := Tryd.underlying99
  a85 := Tryd.isAgg99
  z85 := Tryd.sizeOf99
  v85 := Tryd.zeroValue99
  t127 := Tryd.underlying85
  a127 := Tryd.isAgg85
  z127 := Tryd.sizeOf85
  v127 := Tryd.zeroValue85
  t143 := Tryd.underlying118
  a143 := Tryd.isAgg118
  z143 := Tryd.sizeOf118
  v143 := Tryd.zeroValue118
  t145 := Tryd.underlying120
  a145 := Tryd.isAgg120
  z145 := Tryd.sizeOf120
  v145 := Tryd.zeroValue120
  t167 := Tryd.underlying98
  a167 := Tryd.isAgg98
  z167 := Tryd.sizeOf98
  v167 := Tryd.zeroValue98
  t168 := Tryd.underlying101
  a168 := Tryd.isAgg101
  z168 := Tryd.sizeOf101
  v168 := Tryd.zeroValue101
  t171 := Tryd.underlying122
  a171 := Tryd.isAgg122
  z171 := Tryd.sizeOf122
  v171 := Tryd.zeroValue122
  t173 := Tryd.underlying125
  a173 := Tryd.isAgg125
  z173 := Tryd.sizeOf125
  v173 := Tryd.zeroValue125
  t175 := Tryd.underlying110
  a175 := Tryd.isAgg110
  z175 := Tryd.sizeOf110
  v175 := Tryd.zeroValue110
  t210 := Tryd.underlying115
  a210 := Tryd.isAgg115
  z210 := Tryd.sizeOf115
  v210 := Tryd.zeroValue115
  t212 := Tryd.underlying129
  a212 := Tryd.isAgg129
  z212 := Tryd.sizeOf129
  v212 := Tryd.zeroValue129
  t213 := Tryd.underlying131
  a213 := Tryd.isAgg131
  z213 := Tryd.sizeOf131
  t232 := Tryd.underlying135
  a232 := Tryd.isAgg135
  z232 := Tryd.sizeOf135
  v232 := Tryd.zeroValue135
  t233 := Tryd.underlying136
  a233 := Tryd.isAgg136
  z233 := Tryd.sizeOf136
  v233 := Tryd.zeroValue136
  g15 := by kernel_rfl
  g16 := by kernel_rfl
  g17 := by kernel_rfl
  g18 := by kernel_rfl
  g19 := by kernel_rfl }
open Go.RowKit in
/-- strconv.Atoi: "Atoi is equivalent to ParseInt(s, 10, 0), converted to type int.": AT A DECIMAL NUMERAL OF AT MOST 18 BYTES: its value, and a nil error. The world behind the call: the one new row that the library's '[]byte(s)' lays. (LAID: no walk: one application.) -/
theorem Tryd.strconv_Atoi (s : ByteArray) (n : Int) (hl : s.size ≤ 18) (h : Lib.atoi s.data.toList = some n) (w : World) :
    Calls Tryd.prog 40 #[.string s] w fun e w' => e = .returned (.tuple #[.int .i64 n, .nilIface]) ∧ ∃ t, w' = Lib.bytesWorld w 5 t := Any.strconv_Atoi Tryd.lays172 s n hl h w
def Tryd.laysC172_ren : Go.Shelf.Ren := ⟨fun | 172 => 40 | 244 => 47 | 245 => 48 | 247 => 51 | 279 => 52 | 280 => 53 | 281 => 54 | 282 => 55 | 287 => 60 | 316 => 61 | 171 => 63 | 205 => 62 | 321 => 65 | 322 => 66 | 243 => 67 | 246 => 68 | 283 => 69 | 284 => 70 | 285 => 71 | 286 => 72 | 129 => 74 | 317 => 73 | 318 => 75 | 319 => 76 | 320 => 77 | 337 => 78 | 338 => 79 | n => n, fun | 9 => 9 | 3 => 3 | 75 => 47 | 76 => 63 | 4 => 4 | 5 => 5 | 167 => 98 | 37 => 23 | 0 => 0 | 85 => 99 | 2 => 2 | 168 => 101 | 53 => 109 | 175 => 110 | 46 => 112 | 210 => 115 | 127 => 85 | 145 => 120 | 143 => 118 | 21 => 21 | 171 => 122 | 173 => 125 | 212 => 129 | 51 => 130 | 20 => 20 | 213 => 131 | 232 => 135 | 233 => 136 | 80 => 69 | n => n, fun | 15 => 5 | 16 => 6 | 17 => 10 | 18 => 11 | 19 => 12 | n => n⟩
theorem Tryd.laysC172 : Go.Proofs.LaysC.n172 Tryd.prog Tryd.laysC172_ren := {
  mixed := by kernel_rfl
  f129 := Tryd.func74.trans (congrArg some (by kernel_rfl))
  f171 := Tryd.func63.trans (congrArg some (by kernel_rfl))
  f172 := Tryd.func40.trans (congrArg some (by kernel_rfl))
  f205 := Tryd.func62.trans (congrArg some (by kernel_rfl))
  f243 := Tryd.func67.trans (congrArg some (by kernel_rfl))
  f244 := Tryd.func47.trans (congrArg some (by kernel_rfl))
  f245 := Tryd.func48.trans (congrArg some (by kernel_rfl))
  f246 := Tryd.func68.trans (congrArg some (by kernel_rfl))
  f247 := Tryd.func51.trans (congrArg some (by kernel_rfl))
  f279 := Tryd.func52.trans (congrArg some (by kernel_rfl))
  f280 := Tryd.func53.trans (congrArg some (by kernel_rfl))
  f281 := Tryd.func54.trans (congrArg some (by kernel_rfl))
  f282 := Tryd.func55.trans (congrArg some (by kernel_rfl))
  f283 := Tryd.func69.trans (congrArg some (by kernel_rfl))
  f284 := Tryd.func70.trans (congrArg some (by kernel_rfl))
  f285 := Tryd.func71.trans (congrArg some (by kernel_rfl))
  f286 := Tryd.func72.trans (congrArg some (by kernel_rfl))
  f287 := Tryd.func60.trans (congrArg some (by kernel_rfl))
  f316 := Tryd.func61.trans (congrArg some (by kernel_rfl))
  f317 := Tryd.func73.trans (congrArg some (by kernel_rfl))
  f318 := Tryd.func75.trans (congrArg some (by kernel_rfl))
  f319 := Tryd.func76.trans (congrArg some (by kernel_rfl))
  f320 := Tryd.func77.trans (congrArg some (by kernel_rfl))
  f321 := Tryd.func65.trans (congrArg some (by kernel_rfl))
  f322 := Tryd.func66.trans (congrArg some (by kernel_rfl))
  f337 := Tryd.func78.trans (congrArg some (by kernel_rfl))
  f338 := Tryd.func79.trans (congrArg some (by kernel_rfl))
  t0 := Tryd.underlying0
  a0 := Tryd.isAgg0
  z0 := Tryd.sizeOf0
  v0 := Tryd.zeroValue0
  t2 := Tryd.underlying2
  a2 := Tryd.isAgg2
  z2 := Tryd.sizeOf2
  v2 := Tryd.zeroValue2
  t3 := Tryd.underlying3
  a3 := Tryd.isAgg3
  z3 := Tryd.sizeOf3
  v3 := Tryd.zeroValue3
  t4 := Tryd.underlying4
  a4 := Tryd.isAgg4
  z4 := Tryd.sizeOf4
  v4 := Tryd.zeroValue4
  t5 := Tryd.underlying5
  a5 := Tryd.isAgg5
  z5 := Tryd.sizeOf5
  v5 := Tryd.zeroValue5
  t9 := Tryd.underlying9
  a9 := Tryd.isAgg9
  z9 := Tryd.sizeOf9
  v9 := Tryd.zeroValue9
  t20 := Tryd.underlying20
  a20 := Tryd.isAgg20
  z20 := Tryd.sizeOf20
  v20 := Tryd.zeroValue20
  t21 := Tryd.underlying21
  a21 := Tryd.isAgg21
  z21 := Tryd.sizeOf21
  v21 := Tryd.zeroValue21
  t37 := Tryd.underlying23
  a37 := Tryd.isAgg23
  z37 := Tryd.sizeOf23
  v37 := Tryd.zeroValue23
  t46 := Tryd.underlying112
  a46 := Tryd.isAgg112
  z46 := Tryd.sizeOf112
  v46 := Tryd.zeroValue112
  t51 := Tryd.underlying130
  a51 := Tryd.isAgg130
  z51 := Tryd.sizeOf130
  v51 := Tryd.zeroValue130
  t53 := Tryd.underlying109
  a53 := Tryd.isAgg109
  z53 := Tryd.sizeOf109
  v53 := Tryd.zeroValue109
  t75 := Tryd.underlying47
  a75 := Tryd.isAgg47
  z75 := Tryd.sizeOf47
  v75 := Tryd.zeroValue47
  t76 := Tryd.underlying63
  a76 := Tryd.isAgg63
  z76 := Tryd.sizeOf63
  v76 := Tryd.zeroValue63
  t85 := Tryd.underlying99
  a85 := Tryd.isAgg99
  z85 := Tryd.sizeOf99
  v85 := Tryd.zeroValue99
  t127 := Tryd.underlying85
  a127 := Tryd.isAgg85
  z127 := Tryd.sizeOf85
  v127 := Tryd.zeroValue85
  t143 := Tryd.underlying118
  a143 := Tryd.isAgg118
  z143 := Tryd.sizeOf118
  v143 := Tryd.zeroValue118
  t145 := Tryd.underlying120
  a145 := Tryd.isAgg120
  z145 := Tryd.sizeOf120
  v145 := Tryd.zeroValue120
  t167 := Tryd.underlying98
  a167 := Tryd.isAgg98
  z167 := Tryd.sizeOf98
  v167 := Tryd.zeroValue98
  t168 := Tryd.underlying101
  a168 := Tryd.isAgg101
  z168 := Tryd.sizeOf101
  v168 := Tryd.zeroValue101
  t171 := Tryd.underlying122
  a171 := Tryd.isAgg122
  z171 := Tryd.sizeOf122
  v171 := Tryd.zeroValue122
  t173 := Tryd.underlying125
  a173 := Tryd.isAgg125
  z173 := Tryd.sizeOf125
  v173 := Tryd.zeroValue125
  t175 := Tryd.underlying110
  a175 := Tryd.isAgg110
  z175 := Tryd.sizeOf110
  v175 := Tryd.zeroValue110
  t210 := Tryd.underlying115
  a210 := Tryd.isAgg115
  z210 := Tryd.sizeOf115
  v210 := Tryd.zeroValue115
  t212 := Tryd.underlying129
  a212 := Tryd.isAgg129
  z212 := Tryd.sizeOf129
  v212 := Tryd.zeroValue129
  t213 := Tryd.underlying131
  a213 := Tryd.isAgg131
  z213 := Tryd.sizeOf131
  t232 := Tryd.underlying135
  a232 := Tryd.isAgg135
  z232 := Tryd.sizeOf135
  v232 := Tryd.zeroValue135
  t233 := Tryd.underlying136
  a233 := Tryd.isAgg136
  z233 := Tryd.sizeOf136
  v233 := Tryd.zeroValue136
  g15 := by kernel_rfl
  g16 := by kernel_rfl
  g17 := by kernel_rfl
  g18 := by kernel_rfl
  g19 := by kernel_rfl
  t80 := Tryd.underlying69
  a80 := Tryd.isAgg69
  z80 := Tryd.sizeOf69
  v80 := Tryd.zeroValue69
  i0 := by kernel_rfl
  i2 := by kernel_rfl
  i3 := by kernel_rfl
  i4 := by kernel_rfl
  i5 := by kernel_rfl
  i9 := by kernel_rfl
  i20 := by kernel_rfl
  i21 := by kernel_rfl
  i37 := by kernel_rfl
  i46 := by kernel_rfl
  i51 := by kernel_rfl
  i53 := by kernel_rfl
  i75 := by kernel_rfl
  i76 := by kernel_rfl
  i80 := by kernel_rfl
  i85 := by kernel_rfl
  i127 := by kernel_rfl
  i143 := by kernel_rfl
  i145 := by kernel_rfl
  i167 := by kernel_rfl
  i168 := by kernel_rfl
  i171 := by kernel_rfl
  i173 := by kernel_rfl
  i175 := by kernel_rfl
  i210 := by kernel_rfl
  i212 := by kernel_rfl
  i232 := by kernel_rfl
  i233 := by kernel_rfl
  m15 := by kernel_rfl
  m16 := by kernel_rfl
  m17 := by kernel_rfl
  m18 := by kernel_rfl
  m19 := by kernel_rfl
  c0 := by kernel_rfl
  c2 := by kernel_rfl
  c3 := by kernel_rfl
  c4 := by kernel_rfl
  c5 := by kernel_rfl
  c9 := by kernel_rfl
  c20 := by kernel_rfl
  c21 := by kernel_rfl
  c37 := by kernel_rfl
  c46 := by kernel_rfl
  c51 := by kernel_rfl
  c53 := by kernel_rfl
  c75 := by kernel_rfl
  c76 := by kernel_rfl
  c80 := by kernel_rfl
  c85 := by kernel_rfl
  c127 := by kernel_rfl
  c143 := by kernel_rfl
  c145 := by kernel_rfl
  c167 := by kernel_rfl
  c168 := by kernel_rfl
  c171 := by kernel_rfl
  c173 := by kernel_rfl
  c175 := by kernel_rfl
  c210 := by kernel_rfl
  c212 := by kernel_rfl
  c213 := by kernel_rfl
  c232 := by kernel_rfl
  c233 := by kernel_rfl }
open Go.RowKit in
/-- strconv.Atoi, AT EVERY STRING OF AT MOST 18 BYTES THAT IS NO DECIMAL NUMERAL (the empty one too): 0, AND AN ERROR THAT IS NOT nil: a *NumError in a new block N: {Func: "Atoi", Num: s's bytes, Err: what the variable ErrSyntax holds}. Of what was there nothing has turned. (LAID: no walk: one application.) -/
theorem Tryd.strconv_Atoi_err (s : ByteArray) (hl : s.size ≤ 18) (h : Lib.atoi s.data.toList = none) (ev : Value) (w : World) (hv : w.cell? ⟨5, 0, none⟩ = some ev) (hev : ev = .nilIface ∨ ∃ te pe, ev = .iface te pe) :
    Calls Tryd.prog 40 #[.string s] w fun e w' => ∃ N, e = .returned (.tuple #[.int .i64 0, .iface 101 (.pointer (some ⟨N, 0, none⟩))]) ∧ w.heap.size ≤ N ∧ w'.heap[N]? = some (.cells #[.string ⟨#[65, 116, 111, 105]⟩, .string s, ev] 115 (0, 0)) ∧ Below w.heap.size w w' := Any.strconv_Atoi_err Tryd.laysC172 s hl h ev w hv hev
def Tryd.lays187_ren : Go.Shelf.Ren := ⟨fun | 187 => 58 | 255 => 64 | n => n, fun | 37 => 23 | 5 => 5 | 3 => 3 | n => n, fun | n => n⟩
theorem Tryd.lays187 : Go.Proofs.Lays.n187 Tryd.prog Tryd.lays187_ren := {
  mixed := by kernel_rfl
  f187 := Tryd.func58.trans (congrArg some (by kernel_rfl))
  f255 := Tryd.func64.trans (congrArg some (by kernel_rfl))
  t3 := Tryd.underlying3
  a3 := Tryd.isAgg3
  z3 := Tryd.sizeOf3
  v3 := Tryd.zeroValue3
  t5 := Tryd.underlying5
  a5 := Tryd.isAgg5
  z5 := Tryd.sizeOf5
  v5 := Tryd.zeroValue5
  t37 := Tryd.underlying23
  a37 := Tryd.isAgg23
  z37 := Tryd.sizeOf23
  v37 := Tryd.zeroValue23 }
/-- bytes.IndexByte: "IndexByte returns the index of the first instance of c in b, or -1 if c is not present in b.": IT RETURNS 'Lib.indexByte (the bytes of b) c'; the world is as it was. 'xs': the numbers that the slice's cells hold. (LAID: no walk: one application.) -/
theorem Tryd.bytes_IndexByte (b o n c : Nat) (xs : List Int) (cv : Int) (w : World) (hx : xs.length = n) (hc : ∀ i, i < n → w.cell? ⟨b, o + i, none⟩ = some (.int .u8 (xs.getD i 0))) :
    Calls Tryd.prog 58 #[.slice (some ⟨b, o, none⟩) n c, .int .u8 cv] w fun e w' => e = .returned (.int .i64 (Lib.indexByte (Lib.bytesOf xs) cv.toNat.toUInt8)) ∧ w' = w := Any.bytes_IndexByte Tryd.lays187 b o n c xs cv w hx hc
/-- bytes.IndexByte AT nil: -1. (LAID: no walk: one application.) -/
theorem Tryd.bytes_IndexByte_nil (cv : Int) (w : World) :
    Calls Tryd.prog 58 #[.slice none 0 0, .int .u8 cv] w fun e w' => e = .returned (.int .i64 (-1)) ∧ w' = w := Any.bytes_IndexByte_nil Tryd.lays187 cv w
end Go.Proofs
