/-
  DERIVED: THE SHELF's CONTRACTS AT THIS DUMP, IN PLAIN WORDS (tools/lay-plain.mjs out of 'TryzShelf.lean', which tools/lay-shelf.mjs wrote): THE SAME DECLARATIONS UNDER THE SAME NAMES: 'import', 'namespace', 'open', 'def', 'theorem' AND NOTHING ELSE: no command of the shelf's: FOR A HAND-IN. Each laying: the table of numbers ('.._ren') and one theorem, a field a fact of the dump's own or the kernel's comparison; each contract: ONE APPLICATION.
-/
import Derived.Shelf.SlIter.Nil
import Derived.Shelf.SortM.Plain
import Derived.Shelf.SortM.SortNone
import Derived.Ground.GgzProg
import Derived.Ground.SlgmProg
import Derived.Shelf.Small.Utf8
import Derived.Shelf.Small.Bits
import Derived.Shelf.Strconv.Bsearch
import Derived.Shelf.Strconv.IsPrint
import Derived.Shelf.Strconv.Atoi
import Derived.Shelf.Strconv.Itoa0
import Derived.Shelf.Strconv.Itoa1
import Derived.Shelf.LaysM
import Derived.Shelf.Strconv.Itoa2
import Derived.Shelf.Strconv.Itoa3
import Derived.Shelf.Strconv.AtoiErrFast
import Derived.Shelf.Strconv.ParseIntEmpty
import Derived.Shelf.Strconv.AtoiFail
import Derived.Shelf.Strconv.Clone
import Derived.Shelf.Strconv.SyntaxError
import Derived.Shelf.LaysC
import Derived.Shelf.Strconv.ToError
import Derived.Shelf.Strconv.Lower
import Derived.Shelf.Strconv.ParseUint10
import Derived.Shelf.Strconv.ParseUint10Empty
import Derived.Shelf.Strconv.ParseUint10Any
import Derived.Shelf.Strconv.ParseInt10
import Derived.Shelf.Strconv.AtoiLong
import Derived.Shelf.Strconv.AtoiInnerAll
import Derived.Shelf.Strconv.RangeError
import Derived.Shelf.Strconv.ToErrorRange
import Derived.Shelf.Strconv.AtoiAll
import Derived.Shelf.Strconv.ErrVarAll
import Derived.Shelf.Strconv.ParseUintEmpty
import Derived.Shelf.Strconv.ParseUint10b64
import Derived.Shelf.Strconv.ParseUint10b32
import Derived.Shelf.Strconv.ParseUint10b16
import Derived.Shelf.Strconv.ParseUint10b8
import Derived.Shelf.Strconv.ParseUint10At
import Derived.Shelf.Strconv.ParseInt10At64
import Derived.Shelf.Strconv.ParseInt10At32
import Derived.Shelf.Strconv.ParseInt10At16
import Derived.Shelf.Strconv.ParseInt10At8
import Derived.Shelf.Strconv.ParseInt10All
import Derived.Shelf.Sort.Plain
import Derived.Shelf.Strings.Prefix
import Derived.Shelf.Unicode.Decode
import Derived.Shelf.Unicode.DecodeSlow
import Derived.Shelf.Unicode.DecodeAny
import Derived.Shelf.Slices.In.SortNone
import Derived.Test.YtopbibccfdnmeabGreatDoorProg
set_option linter.all false
namespace Go.Proofs
open Go.Shelf
def Tryz.laysC172_ren : Go.Shelf.Ren := ⟨fun | 172 => 42 | 244 => 53 | 245 => 54 | 247 => 63 | 279 => 64 | 280 => 65 | 281 => 66 | 282 => 67 | 287 => 76 | 316 => 77 | 171 => 78 | 205 => 36 | 321 => 91 | 322 => 92 | 243 => 93 | 246 => 97 | 283 => 109 | 284 => 110 | 285 => 111 | 286 => 112 | 129 => 108 | 317 => 119 | 318 => 120 | 319 => 121 | 320 => 122 | 337 => 124 | 338 => 125 | n => n, fun | 9 => 9 | 3 => 3 | 75 => 54 | 76 => 103 | 4 => 4 | 5 => 5 | 167 => 155 | 37 => 49 | 0 => 0 | 85 => 156 | 2 => 2 | 168 => 158 | 53 => 175 | 175 => 176 | 46 => 178 | 210 => 180 | 127 => 185 | 145 => 118 | 143 => 116 | 21 => 21 | 171 => 200 | 173 => 202 | 212 => 211 | 51 => 198 | 20 => 20 | 213 => 212 | 232 => 217 | 233 => 218 | 80 => 51 | n => n, fun | 15 => 2 | 16 => 3 | 17 => 4 | 18 => 5 | 19 => 6 | n => n⟩
theorem Tryz.laysC172 : Go.Proofs.LaysC.n172 Tryz.prog Tryz.laysC172_ren := {
  mixed := by kernel_rfl
  f129 := Tryz.func108.trans (congrArg some (by kernel_rfl))
  f171 := Tryz.func78.trans (congrArg some (by kernel_rfl))
  f172 := Tryz.func42.trans (congrArg some (by kernel_rfl))
  f205 := Tryz.func36.trans (congrArg some (by kernel_rfl))
  f243 := Tryz.func93.trans (congrArg some (by kernel_rfl))
  f244 := Tryz.func53.trans (congrArg some (by kernel_rfl))
  f245 := Tryz.func54.trans (congrArg some (by kernel_rfl))
  f246 := Tryz.func97.trans (congrArg some (by kernel_rfl))
  f247 := Tryz.func63.trans (congrArg some (by kernel_rfl))
  f279 := Tryz.func64.trans (congrArg some (by kernel_rfl))
  f280 := Tryz.func65.trans (congrArg some (by kernel_rfl))
  f281 := Tryz.func66.trans (congrArg some (by kernel_rfl))
  f282 := Tryz.func67.trans (congrArg some (by kernel_rfl))
  f283 := Tryz.func109.trans (congrArg some (by kernel_rfl))
  f284 := Tryz.func110.trans (congrArg some (by kernel_rfl))
  f285 := Tryz.func111.trans (congrArg some (by kernel_rfl))
  f286 := Tryz.func112.trans (congrArg some (by kernel_rfl))
  f287 := Tryz.func76.trans (congrArg some (by kernel_rfl))
  f316 := Tryz.func77.trans (congrArg some (by kernel_rfl))
  f317 := Tryz.func119.trans (congrArg some (by kernel_rfl))
  f318 := Tryz.func120.trans (congrArg some (by kernel_rfl))
  f319 := Tryz.func121.trans (congrArg some (by kernel_rfl))
  f320 := Tryz.func122.trans (congrArg some (by kernel_rfl))
  f321 := Tryz.func91.trans (congrArg some (by kernel_rfl))
  f322 := Tryz.func92.trans (congrArg some (by kernel_rfl))
  f337 := Tryz.func124.trans (congrArg some (by kernel_rfl))
  f338 := Tryz.func125.trans (congrArg some (by kernel_rfl))
  t0 := Tryz.underlying0
  a0 := Tryz.isAgg0
  z0 := Tryz.sizeOf0
  v0 := Tryz.zeroValue0
  t2 := Tryz.underlying2
  a2 := Tryz.isAgg2
  z2 := Tryz.sizeOf2
  v2 := Tryz.zeroValue2
  t3 := Tryz.underlying3
  a3 := Tryz.isAgg3
  z3 := Tryz.sizeOf3
  v3 := Tryz.zeroValue3
  t4 := Tryz.underlying4
  a4 := Tryz.isAgg4
  z4 := Tryz.sizeOf4
  v4 := Tryz.zeroValue4
  t5 := Tryz.underlying5
  a5 := Tryz.isAgg5
  z5 := Tryz.sizeOf5
  v5 := Tryz.zeroValue5
  t9 := Tryz.underlying9
  a9 := Tryz.isAgg9
  z9 := Tryz.sizeOf9
  v9 := Tryz.zeroValue9
  t20 := Tryz.underlying20
  a20 := Tryz.isAgg20
  z20 := Tryz.sizeOf20
  v20 := Tryz.zeroValue20
  t21 := Tryz.underlying21
  a21 := Tryz.isAgg21
  z21 := Tryz.sizeOf21
  v21 := Tryz.zeroValue21
  t37 := Tryz.underlying49
  a37 := Tryz.isAgg49
  z37 := Tryz.sizeOf49
  v37 := Tryz.zeroValue49
  t46 := Tryz.underlying178
  a46 := Tryz.isAgg178
  z46 := Tryz.sizeOf178
  v46 := Tryz.zeroValue178
  t51 := Tryz.underlying198
  a51 := Tryz.isAgg198
  z51 := Tryz.sizeOf198
  v51 := Tryz.zeroValue198
  t53 := Tryz.underlying175
  a53 := Tryz.isAgg175
  z53 := Tryz.sizeOf175
  v53 := Tryz.zeroValue175
  t75 := Tryz.underlying54
  a75 := Tryz.isAgg54
  z75 := Tryz.sizeOf54
  v75 := Tryz.zeroValue54
  t76 := Tryz.underlying103
  a76 := Tryz.isAgg103
  z76 := Tryz.sizeOf103
  v76 := Tryz.zeroValue103
  t85 := Tryz.underlying156
  a85 := Tryz.isAgg156
  z85 := Tryz.sizeOf156
  v85 := Tryz.zeroValue156
  t127 := Tryz.underlying185
  a127 := Tryz.isAgg185
  z127 := Tryz.sizeOf185
  v127 := Tryz.zeroValue185
  t143 := Tryz.underlying116
  a143 := Tryz.isAgg116
  z143 := Tryz.sizeOf116
  v143 := Tryz.zeroValue116
  t145 := Tryz.underlying118
  a145 := Tryz.isAgg118
  z145 := Tryz.sizeOf118
  v145 := Tryz.zeroValue118
  t167 := Tryz.underlying155
  a167 := Tryz.isAgg155
  z167 := Tryz.sizeOf155
  v167 := Tryz.zeroValue155
  t168 := Tryz.underlying158
  a168 := Tryz.isAgg158
  z168 := Tryz.sizeOf158
  v168 := Tryz.zeroValue158
  t171 := Tryz.underlying200
  a171 := Tryz.isAgg200
  z171 := Tryz.sizeOf200
  v171 := Tryz.zeroValue200
  t173 := Tryz.underlying202
  a173 := Tryz.isAgg202
  z173 := Tryz.sizeOf202
  v173 := Tryz.zeroValue202
  t175 := Tryz.underlying176
  a175 := Tryz.isAgg176
  z175 := Tryz.sizeOf176
  v175 := Tryz.zeroValue176
  t210 := Tryz.underlying180
  a210 := Tryz.isAgg180
  z210 := Tryz.sizeOf180
  v210 := Tryz.zeroValue180
  t212 := Tryz.underlying211
  a212 := Tryz.isAgg211
  z212 := Tryz.sizeOf211
  v212 := Tryz.zeroValue211
  t213 := Tryz.underlying212
  a213 := Tryz.isAgg212
  z213 := Tryz.sizeOf212
  t232 := Tryz.underlying217
  a232 := Tryz.isAgg217
  z232 := Tryz.sizeOf217
  v232 := Tryz.zeroValue217
  t233 := Tryz.underlying218
  a233 := Tryz.isAgg218
  z233 := Tryz.sizeOf218
  v233 := Tryz.zeroValue218
  g15 := by kernel_rfl
  g16 := by kernel_rfl
  g17 := by kernel_rfl
  g18 := by kernel_rfl
  g19 := by kernel_rfl
  t80 := Tryz.underlying51
  a80 := Tryz.isAgg51
  z80 := Tryz.sizeOf51
  v80 := Tryz.zeroValue51
  i0 := by kernel_rfl
  i2 := by kernel_rfl
  i3 := by kernel_rfl
  i4 := by kernel_rfl
  i5 := by kernel_rfl
  i9 := by kernel_rfl
  i20 := by kernel_rfl
  i21 := by kernel_rfl
  i37 := by kernel_rfl
  i46 := by kernel_rfl
  i51 := by kernel_rfl
  i53 := by kernel_rfl
  i75 := by kernel_rfl
  i76 := by kernel_rfl
  i80 := by kernel_rfl
  i85 := by kernel_rfl
  i127 := by kernel_rfl
  i143 := by kernel_rfl
  i145 := by kernel_rfl
  i167 := by kernel_rfl
  i168 := by kernel_rfl
  i171 := by kernel_rfl
  i173 := by kernel_rfl
  i175 := by kernel_rfl
  i210 := by kernel_rfl
  i212 := by kernel_rfl
  i232 := by kernel_rfl
  i233 := by kernel_rfl
  m15 := by kernel_rfl
  m16 := by kernel_rfl
  m17 := by kernel_rfl
  m18 := by kernel_rfl
  m19 := by kernel_rfl
  c0 := by kernel_rfl
  c2 := by kernel_rfl
  c3 := by kernel_rfl
  c4 := by kernel_rfl
  c5 := by kernel_rfl
  c9 := by kernel_rfl
  c20 := by kernel_rfl
  c21 := by kernel_rfl
  c37 := by kernel_rfl
  c46 := by kernel_rfl
  c51 := by kernel_rfl
  c53 := by kernel_rfl
  c75 := by kernel_rfl
  c76 := by kernel_rfl
  c80 := by kernel_rfl
  c85 := by kernel_rfl
  c127 := by kernel_rfl
  c143 := by kernel_rfl
  c145 := by kernel_rfl
  c167 := by kernel_rfl
  c168 := by kernel_rfl
  c171 := by kernel_rfl
  c173 := by kernel_rfl
  c175 := by kernel_rfl
  c210 := by kernel_rfl
  c212 := by kernel_rfl
  c213 := by kernel_rfl
  c232 := by kernel_rfl
  c233 := by kernel_rfl }
end Go.Proofs
