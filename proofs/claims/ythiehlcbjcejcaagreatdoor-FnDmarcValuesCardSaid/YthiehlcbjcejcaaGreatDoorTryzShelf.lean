/-
  DERIVED: THE SHELF's CONTRACTS AT THIS DUMP, IN PLAIN WORDS (tools/lay-plain.mjs out of 'TryzShelf.lean', which tools/lay-shelf.mjs wrote): THE SAME DECLARATIONS UNDER THE SAME NAMES: 'import', 'namespace', 'open', 'def', 'theorem' AND NOTHING ELSE: no command of the shelf's: FOR A HAND-IN. Each laying: the table of numbers ('.._ren') and one theorem, a field a fact of the dump's own or the kernel's comparison; each contract: ONE APPLICATION.
-/
import Derived.Shelf.Small.Utf8
import Derived.Shelf.Small.Bits
import Derived.Shelf.Strconv.Bsearch
import Derived.Shelf.Strconv.IsPrint
import Derived.Shelf.Strconv.Atoi
import Derived.Shelf.Strconv.Itoa0
import Derived.Shelf.Strconv.Itoa1
import Derived.Shelf.LaysM
import Derived.Shelf.Strconv.Itoa2
import Derived.Shelf.Strconv.Itoa3
import Derived.Shelf.Strconv.AtoiErrFast
import Derived.Shelf.Strconv.ParseIntEmpty
import Derived.Shelf.Strconv.AtoiFail
import Derived.Shelf.Strconv.Clone
import Derived.Shelf.Strconv.SyntaxError
import Derived.Shelf.LaysC
import Derived.Shelf.Strconv.ToError
import Derived.Shelf.Strconv.Lower
import Derived.Shelf.Strconv.ParseUint10
import Derived.Shelf.Strconv.ParseUint10Empty
import Derived.Shelf.Strconv.ParseUint10Any
import Derived.Shelf.Strconv.ParseInt10
import Derived.Shelf.Strconv.AtoiLong
import Derived.Shelf.Strconv.AtoiInnerAll
import Derived.Shelf.Strconv.RangeError
import Derived.Shelf.Strconv.ToErrorRange
import Derived.Shelf.Strconv.AtoiAll
import Derived.Shelf.Strconv.ErrVarAll
import Derived.Shelf.Strconv.ParseUintEmpty
import Derived.Shelf.Strconv.ParseUint10b64
import Derived.Shelf.Strconv.ParseUint10b32
import Derived.Shelf.Strconv.ParseUint10b16
import Derived.Shelf.Strconv.ParseUint10b8
import Derived.Shelf.Strconv.ParseUint10At
import Derived.Shelf.Strconv.ParseInt10At64
import Derived.Shelf.Strconv.ParseInt10At32
import Derived.Shelf.Strconv.ParseInt10At16
import Derived.Shelf.Strconv.ParseInt10At8
import Derived.Shelf.Strconv.ParseInt10All
import Derived.Shelf.Sort.Plain
import Derived.Shelf.Strings.Prefix
import Derived.Shelf.Unicode.Decode
import Derived.Shelf.Unicode.DecodeSlow
import Derived.Shelf.Unicode.DecodeAny
import Derived.Shelf.Slices.In.SortNone
import Derived.Test.YthiehlcbjcejcaaGreatDoorProg
set_option linter.all false
namespace Go.Proofs
open Go.Shelf
def Tryz.laysC172_ren : Go.Shelf.Ren := ⟨fun | 172 => 56 | 244 => 67 | 245 => 68 | 247 => 78 | 279 => 79 | 280 => 80 | 281 => 81 | 282 => 82 | 287 => 91 | 316 => 92 | 171 => 93 | 205 => 52 | 321 => 106 | 322 => 107 | 243 => 108 | 246 => 112 | 283 => 124 | 284 => 125 | 285 => 126 | 286 => 127 | 129 => 123 | 317 => 134 | 318 => 135 | 319 => 136 | 320 => 137 | 337 => 139 | 338 => 140 | n => n, fun | 9 => 9 | 3 => 3 | 75 => 62 | 76 => 107 | 4 => 4 | 5 => 5 | 167 => 166 | 37 => 38 | 0 => 0 | 85 => 167 | 2 => 2 | 168 => 169 | 53 => 186 | 175 => 187 | 46 => 189 | 210 => 191 | 127 => 196 | 145 => 129 | 143 => 127 | 21 => 21 | 171 => 211 | 173 => 213 | 212 => 222 | 51 => 209 | 20 => 20 | 213 => 223 | 232 => 228 | 233 => 229 | 80 => 67 | n => n, fun | 15 => 2 | 16 => 3 | 17 => 4 | 18 => 5 | 19 => 6 | n => n⟩
theorem Tryz.laysC172 : Go.Proofs.LaysC.n172 Tryz.prog Tryz.laysC172_ren := {
  mixed := by kernel_rfl
  f129 := Tryz.func123.trans (congrArg some (by kernel_rfl))
  f171 := Tryz.func93.trans (congrArg some (by kernel_rfl))
  f172 := Tryz.func56.trans (congrArg some (by kernel_rfl))
  f205 := Tryz.func52.trans (congrArg some (by kernel_rfl))
  f243 := Tryz.func108.trans (congrArg some (by kernel_rfl))
  f244 := Tryz.func67.trans (congrArg some (by kernel_rfl))
  f245 := Tryz.func68.trans (congrArg some (by kernel_rfl))
  f246 := Tryz.func112.trans (congrArg some (by kernel_rfl))
  f247 := Tryz.func78.trans (congrArg some (by kernel_rfl))
  f279 := Tryz.func79.trans (congrArg some (by kernel_rfl))
  f280 := Tryz.func80.trans (congrArg some (by kernel_rfl))
  f281 := Tryz.func81.trans (congrArg some (by kernel_rfl))
  f282 := Tryz.func82.trans (congrArg some (by kernel_rfl))
  f283 := Tryz.func124.trans (congrArg some (by kernel_rfl))
  f284 := Tryz.func125.trans (congrArg some (by kernel_rfl))
  f285 := Tryz.func126.trans (congrArg some (by kernel_rfl))
  f286 := Tryz.func127.trans (congrArg some (by kernel_rfl))
  f287 := Tryz.func91.trans (congrArg some (by kernel_rfl))
  f316 := Tryz.func92.trans (congrArg some (by kernel_rfl))
  f317 := Tryz.func134.trans (congrArg some (by kernel_rfl))
  f318 := Tryz.func135.trans (congrArg some (by kernel_rfl))
  f319 := Tryz.func136.trans (congrArg some (by kernel_rfl))
  f320 := Tryz.func137.trans (congrArg some (by kernel_rfl))
  f321 := Tryz.func106.trans (congrArg some (by kernel_rfl))
  f322 := Tryz.func107.trans (congrArg some (by kernel_rfl))
  f337 := Tryz.func139.trans (congrArg some (by kernel_rfl))
  f338 := Tryz.func140.trans (congrArg some (by kernel_rfl))
  t0 := Tryz.underlying0
  a0 := Tryz.isAgg0
  z0 := Tryz.sizeOf0
  v0 := Tryz.zeroValue0
  t2 := Tryz.underlying2
  a2 := Tryz.isAgg2
  z2 := Tryz.sizeOf2
  v2 := Tryz.zeroValue2
  t3 := Tryz.underlying3
  a3 := Tryz.isAgg3
  z3 := Tryz.sizeOf3
  v3 := Tryz.zeroValue3
  t4 := Tryz.underlying4
  a4 := Tryz.isAgg4
  z4 := Tryz.sizeOf4
  v4 := Tryz.zeroValue4
  t5 := Tryz.underlying5
  a5 := Tryz.isAgg5
  z5 := Tryz.sizeOf5
  v5 := Tryz.zeroValue5
  t9 := Tryz.underlying9
  a9 := Tryz.isAgg9
  z9 := Tryz.sizeOf9
  v9 := Tryz.zeroValue9
  t20 := Tryz.underlying20
  a20 := Tryz.isAgg20
  z20 := Tryz.sizeOf20
  v20 := Tryz.zeroValue20
  t21 := Tryz.underlying21
  a21 := Tryz.isAgg21
  z21 := Tryz.sizeOf21
  v21 := Tryz.zeroValue21
  t37 := Tryz.underlying38
  a37 := Tryz.isAgg38
  z37 := Tryz.sizeOf38
  v37 := Tryz.zeroValue38
  t46 := Tryz.underlying189
  a46 := Tryz.isAgg189
  z46 := Tryz.sizeOf189
  v46 := Tryz.zeroValue189
  t51 := Tryz.underlying209
  a51 := Tryz.isAgg209
  z51 := Tryz.sizeOf209
  v51 := Tryz.zeroValue209
  t53 := Tryz.underlying186
  a53 := Tryz.isAgg186
  z53 := Tryz.sizeOf186
  v53 := Tryz.zeroValue186
  t75 := Tryz.underlying62
  a75 := Tryz.isAgg62
  z75 := Tryz.sizeOf62
  v75 := Tryz.zeroValue62
  t76 := Tryz.underlying107
  a76 := Tryz.isAgg107
  z76 := Tryz.sizeOf107
  v76 := Tryz.zeroValue107
  t85 := Tryz.underlying167
  a85 := Tryz.isAgg167
  z85 := Tryz.sizeOf167
  v85 := Tryz.zeroValue167
  t127 := Tryz.underlying196
  a127 := Tryz.isAgg196
  z127 := Tryz.sizeOf196
  v127 := Tryz.zeroValue196
  t143 := Tryz.underlying127
  a143 := Tryz.isAgg127
  z143 := Tryz.sizeOf127
  v143 := Tryz.zeroValue127
  t145 := Tryz.underlying129
  a145 := Tryz.isAgg129
  z145 := Tryz.sizeOf129
  v145 := Tryz.zeroValue129
  t167 := Tryz.underlying166
  a167 := Tryz.isAgg166
  z167 := Tryz.sizeOf166
  v167 := Tryz.zeroValue166
  t168 := Tryz.underlying169
  a168 := Tryz.isAgg169
  z168 := Tryz.sizeOf169
  v168 := Tryz.zeroValue169
  t171 := Tryz.underlying211
  a171 := Tryz.isAgg211
  z171 := Tryz.sizeOf211
  v171 := Tryz.zeroValue211
  t173 := Tryz.underlying213
  a173 := Tryz.isAgg213
  z173 := Tryz.sizeOf213
  v173 := Tryz.zeroValue213
  t175 := Tryz.underlying187
  a175 := Tryz.isAgg187
  z175 := Tryz.sizeOf187
  v175 := Tryz.zeroValue187
  t210 := Tryz.underlying191
  a210 := Tryz.isAgg191
  z210 := Tryz.sizeOf191
  v210 := Tryz.zeroValue191
  t212 := Tryz.underlying222
  a212 := Tryz.isAgg222
  z212 := Tryz.sizeOf222
  v212 := Tryz.zeroValue222
  t213 := Tryz.underlying223
  a213 := Tryz.isAgg223
  z213 := Tryz.sizeOf223
  t232 := Tryz.underlying228
  a232 := Tryz.isAgg228
  z232 := Tryz.sizeOf228
  v232 := Tryz.zeroValue228
  t233 := Tryz.underlying229
  a233 := Tryz.isAgg229
  z233 := Tryz.sizeOf229
  v233 := Tryz.zeroValue229
  g15 := by kernel_rfl
  g16 := by kernel_rfl
  g17 := by kernel_rfl
  g18 := by kernel_rfl
  g19 := by kernel_rfl
  t80 := Tryz.underlying67
  a80 := Tryz.isAgg67
  z80 := Tryz.sizeOf67
  v80 := Tryz.zeroValue67
  i0 := by kernel_rfl
  i2 := by kernel_rfl
  i3 := by kernel_rfl
  i4 := by kernel_rfl
  i5 := by kernel_rfl
  i9 := by kernel_rfl
  i20 := by kernel_rfl
  i21 := by kernel_rfl
  i37 := by kernel_rfl
  i46 := by kernel_rfl
  i51 := by kernel_rfl
  i53 := by kernel_rfl
  i75 := by kernel_rfl
  i76 := by kernel_rfl
  i80 := by kernel_rfl
  i85 := by kernel_rfl
  i127 := by kernel_rfl
  i143 := by kernel_rfl
  i145 := by kernel_rfl
  i167 := by kernel_rfl
  i168 := by kernel_rfl
  i171 := by kernel_rfl
  i173 := by kernel_rfl
  i175 := by kernel_rfl
  i210 := by kernel_rfl
  i212 := by kernel_rfl
  i232 := by kernel_rfl
  i233 := by kernel_rfl
  m15 := by kernel_rfl
  m16 := by kernel_rfl
  m17 := by kernel_rfl
  m18 := by kernel_rfl
  m19 := by kernel_rfl
  c0 := by kernel_rfl
  c2 := by kernel_rfl
  c3 := by kernel_rfl
  c4 := by kernel_rfl
  c5 := by kernel_rfl
  c9 := by kernel_rfl
  c20 := by kernel_rfl
  c21 := by kernel_rfl
  c37 := by kernel_rfl
  c46 := by kernel_rfl
  c51 := by kernel_rfl
  c53 := by kernel_rfl
  c75 := by kernel_rfl
  c76 := by kernel_rfl
  c80 := by kernel_rfl
  c85 := by kernel_rfl
  c127 := by kernel_rfl
  c143 := by kernel_rfl
  c145 := by kernel_rfl
  c167 := by kernel_rfl
  c168 := by kernel_rfl
  c171 := by kernel_rfl
  c173 := by kernel_rfl
  c175 := by kernel_rfl
  c210 := by kernel_rfl
  c212 := by kernel_rfl
  c213 := by kernel_rfl
  c232 := by kernel_rfl
  c233 := by kernel_rfl }
end Go.Proofs
