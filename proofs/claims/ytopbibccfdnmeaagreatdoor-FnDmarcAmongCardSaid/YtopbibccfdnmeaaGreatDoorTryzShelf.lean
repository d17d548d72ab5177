/-
  DERIVED: THE SHELF's CONTRACTS AT THIS DUMP, IN PLAIN WORDS (tools/lay-plain.mjs out of 'TryzShelf.lean', which tools/lay-shelf.mjs wrote): THE SAME DECLARATIONS UNDER THE SAME NAMES: 'import', 'namespace', 'open', 'def', 'theorem' AND NOTHING ELSE: no command of the shelf's: FOR A HAND-IN. Each laying: the table of numbers ('.._ren') and one theorem, a field a fact of the dump's own or the kernel's comparison; each contract: ONE APPLICATION.
-/
import Derived.Shelf.SlIter.Nil
import Derived.Shelf.SortM.Plain
import Derived.Shelf.SortM.SortNone
import Derived.Ground.GgzProg
import Derived.Ground.SlgmProg
import Derived.Shelf.Small.Utf8
import Derived.Shelf.Small.Bits
import Derived.Shelf.Strconv.Atoi
import Derived.Shelf.Strconv.Itoa0
import Derived.Shelf.Strconv.Itoa1
import Derived.Shelf.LaysM
import Derived.Shelf.Strconv.Itoa2
import Derived.Shelf.Strconv.Itoa3
import Derived.Shelf.Strconv.AtoiErrFast
import Derived.Shelf.Strconv.ParseIntEmpty
import Derived.Shelf.Strconv.AtoiFail
import Derived.Shelf.Strconv.Clone
import Derived.Shelf.Strconv.SyntaxError
import Derived.Shelf.LaysC
import Derived.Shelf.Strconv.ToError
import Derived.Shelf.Strconv.Lower
import Derived.Shelf.Strconv.ParseUint10
import Derived.Shelf.Strconv.ParseUint10Empty
import Derived.Shelf.Strconv.ParseUint10Any
import Derived.Shelf.Strconv.ParseInt10
import Derived.Shelf.Strconv.AtoiLong
import Derived.Shelf.Strconv.AtoiInnerAll
import Derived.Shelf.Strconv.RangeError
import Derived.Shelf.Strconv.ToErrorRange
import Derived.Shelf.Strconv.AtoiAll
import Derived.Shelf.Strconv.ErrVarAll
import Derived.Shelf.Strconv.ParseUintEmpty
import Derived.Shelf.Strconv.ParseUint10b64
import Derived.Shelf.Strconv.ParseUint10b32
import Derived.Shelf.Strconv.ParseUint10b16
import Derived.Shelf.Strconv.ParseUint10b8
import Derived.Shelf.Strconv.ParseUint10At
import Derived.Shelf.Strconv.ParseInt10At64
import Derived.Shelf.Strconv.ParseInt10At32
import Derived.Shelf.Strconv.ParseInt10At16
import Derived.Shelf.Strconv.ParseInt10At8
import Derived.Shelf.Strconv.ParseInt10All
import Derived.Shelf.Sort.Plain
import Derived.Shelf.Strings.Prefix
import Derived.Shelf.Unicode.Decode
import Derived.Shelf.Unicode.DecodeSlow
import Derived.Shelf.Unicode.DecodeAny
import Derived.Shelf.Slices.In.SortNone
import Derived.Test.YtopbibccfdnmeaaGreatDoorProg
set_option linter.all false
namespace Go.Proofs
open Go.Shelf
def Tryz.laysC172_ren : Go.Shelf.Ren := ⟨fun | 172 => 39 | 244 => 50 | 245 => 51 | 247 => 60 | 279 => 61 | 280 => 62 | 281 => 63 | 282 => 64 | 287 => 73 | 316 => 74 | 171 => 75 | 205 => 33 | 321 => 88 | 322 => 89 | 243 => 90 | 246 => 94 | 283 => 106 | 284 => 107 | 285 => 108 | 286 => 109 | 129 => 105 | 317 => 116 | 318 => 117 | 319 => 118 | 320 => 119 | 337 => 121 | 338 => 122 | n => n, fun | 9 => 9 | 3 => 3 | 75 => 52 | 76 => 100 | 4 => 4 | 5 => 5 | 167 => 152 | 37 => 23 | 0 => 0 | 85 => 153 | 2 => 2 | 168 => 155 | 53 => 172 | 175 => 173 | 46 => 175 | 210 => 177 | 127 => 182 | 145 => 115 | 143 => 113 | 21 => 21 | 171 => 197 | 173 => 199 | 212 => 208 | 51 => 195 | 20 => 20 | 213 => 209 | 232 => 214 | 233 => 215 | 80 => 49 | n => n, fun | 15 => 2 | 16 => 3 | 17 => 4 | 18 => 5 | 19 => 6 | n => n⟩
theorem Tryz.laysC172 : Go.Proofs.LaysC.n172 Tryz.prog Tryz.laysC172_ren := {
  mixed := by kernel_rfl
  f129 := Tryz.func105.trans (congrArg some (by kernel_rfl))
  f171 := Tryz.func75.trans (congrArg some (by kernel_rfl))
  f172 := Tryz.func39.trans (congrArg some (by kernel_rfl))
  f205 := Tryz.func33.trans (congrArg some (by kernel_rfl))
  f243 := Tryz.func90.trans (congrArg some (by kernel_rfl))
  f244 := Tryz.func50.trans (congrArg some (by kernel_rfl))
  f245 := Tryz.func51.trans (congrArg some (by kernel_rfl))
  f246 := Tryz.func94.trans (congrArg some (by kernel_rfl))
  f247 := Tryz.func60.trans (congrArg some (by kernel_rfl))
  f279 := Tryz.func61.trans (congrArg some (by kernel_rfl))
  f280 := Tryz.func62.trans (congrArg some (by kernel_rfl))
  f281 := Tryz.func63.trans (congrArg some (by kernel_rfl))
  f282 := Tryz.func64.trans (congrArg some (by kernel_rfl))
  f283 := Tryz.func106.trans (congrArg some (by kernel_rfl))
  f284 := Tryz.func107.trans (congrArg some (by kernel_rfl))
  f285 := Tryz.func108.trans (congrArg some (by kernel_rfl))
  f286 := Tryz.func109.trans (congrArg some (by kernel_rfl))
  f287 := Tryz.func73.trans (congrArg some (by kernel_rfl))
  f316 := Tryz.func74.trans (congrArg some (by kernel_rfl))
  f317 := Tryz.func116.trans (congrArg some (by kernel_rfl))
  f318 := Tryz.func117.trans (congrArg some (by kernel_rfl))
  f319 := Tryz.func118.trans (congrArg some (by kernel_rfl))
  f320 := Tryz.func119.trans (congrArg some (by kernel_rfl))
  f321 := Tryz.func88.trans (congrArg some (by kernel_rfl))
  f322 := Tryz.func89.trans (congrArg some (by kernel_rfl))
  f337 := Tryz.func121.trans (congrArg some (by kernel_rfl))
  f338 := Tryz.func122.trans (congrArg some (by kernel_rfl))
  t0 := Tryz.underlying0
  a0 := Tryz.isAgg0
  z0 := Tryz.sizeOf0
  v0 := Tryz.zeroValue0
  t2 := Tryz.underlying2
  a2 := Tryz.isAgg2
  z2 := Tryz.sizeOf2
  v2 := Tryz.zeroValue2
  t3 := Tryz.underlying3
  a3 := Tryz.isAgg3
  z3 := Tryz.sizeOf3
  v3 := Tryz.zeroValue3
  t4 := Tryz.underlying4
  a4 := Tryz.isAgg4
  z4 := Tryz.sizeOf4
  v4 := Tryz.zeroValue4
  t5 := Tryz.underlying5
  a5 := Tryz.isAgg5
  z5 := Tryz.sizeOf5
  v5 := Tryz.zeroValue5
  t9 := Tryz.underlying9
  a9 := Tryz.isAgg9
  z9 := Tryz.sizeOf9
  v9 := Tryz.zeroValue9
  t20 := Tryz.underlying20
  a20 := Tryz.isAgg20
  z20 := Tryz.sizeOf20
  v20 := Tryz.zeroValue20
  t21 := Tryz.underlying21
  a21 := Tryz.isAgg21
  z21 := Tryz.sizeOf21
  v21 := Tryz.zeroValue21
  t37 := Tryz.underlying23
  a37 := Tryz.isAgg23
  z37 := Tryz.sizeOf23
  v37 := Tryz.zeroValue23
  t46 := Tryz.underlying175
  a46 := Tryz.isAgg175
  z46 := Tryz.sizeOf175
  v46 := Tryz.zeroValue175
  t51 := Tryz.underlying195
  a51 := Tryz.isAgg195
  z51 := Tryz.sizeOf195
  v51 := Tryz.zeroValue195
  t53 := Tryz.underlying172
  a53 := Tryz.isAgg172
  z53 := Tryz.sizeOf172
  v53 := Tryz.zeroValue172
  t75 := Tryz.underlying52
  a75 := Tryz.isAgg52
  z75 := Tryz.sizeOf52
  v75 := Tryz.zeroValue52
  t76 := Tryz.underlying100
  a76 := Tryz.isAgg100
  z76 := Tryz.sizeOf100
  v76 := Tryz.zeroValue100
  t85 := Tryz.underlying153
  a85 := Tryz.isAgg153
  z85 := Tryz.sizeOf153
  v85 := Tryz.zeroValue153
  t127 := Tryz.underlying182
  a127 := Tryz.isAgg182
  z127 := Tryz.sizeOf182
  v127 := Tryz.zeroValue182
  t143 := Tryz.underlying113
  a143 := Tryz.isAgg113
  z143 := Tryz.sizeOf113
  v143 := Tryz.zeroValue113
  t145 := Tryz.underlying115
  a145 := Tryz.isAgg115
  z145 := Tryz.sizeOf115
  v145 := Tryz.zeroValue115
  t167 := Tryz.underlying152
  a167 := Tryz.isAgg152
  z167 := Tryz.sizeOf152
  v167 := Tryz.zeroValue152
  t168 := Tryz.underlying155
  a168 := Tryz.isAgg155
  z168 := Tryz.sizeOf155
  v168 := Tryz.zeroValue155
  t171 := Tryz.underlying197
  a171 := Tryz.isAgg197
  z171 := Tryz.sizeOf197
  v171 := Tryz.zeroValue197
  t173 := Tryz.underlying199
  a173 := Tryz.isAgg199
  z173 := Tryz.sizeOf199
  v173 := Tryz.zeroValue199
  t175 := Tryz.underlying173
  a175 := Tryz.isAgg173
  z175 := Tryz.sizeOf173
  v175 := Tryz.zeroValue173
  t210 := Tryz.underlying177
  a210 := Tryz.isAgg177
  z210 := Tryz.sizeOf177
  v210 := Tryz.zeroValue177
  t212 := Tryz.underlying208
  a212 := Tryz.isAgg208
  z212 := Tryz.sizeOf208
  v212 := Tryz.zeroValue208
  t213 := Tryz.underlying209
  a213 := Tryz.isAgg209
  z213 := Tryz.sizeOf209
  t232 := Tryz.underlying214
  a232 := Tryz.isAgg214
  z232 := Tryz.sizeOf214
  v232 := Tryz.zeroValue214
  t233 := Tryz.underlying215
  a233 := Tryz.isAgg215
  z233 := Tryz.sizeOf215
  v233 := Tryz.zeroValue215
  g15 := by kernel_rfl
  g16 := by kernel_rfl
  g17 := by kernel_rfl
  g18 := by kernel_rfl
  g19 := by kernel_rfl
  t80 := Tryz.underlying49
  a80 := Tryz.isAgg49
  z80 := Tryz.sizeOf49
  v80 := Tryz.zeroValue49
  i0 := by kernel_rfl
  i2 := by kernel_rfl
  i3 := by kernel_rfl
  i4 := by kernel_rfl
  i5 := by kernel_rfl
  i9 := by kernel_rfl
  i20 := by kernel_rfl
  i21 := by kernel_rfl
  i37 := by kernel_rfl
  i46 := by kernel_rfl
  i51 := by kernel_rfl
  i53 := by kernel_rfl
  i75 := by kernel_rfl
  i76 := by kernel_rfl
  i80 := by kernel_rfl
  i85 := by kernel_rfl
  i127 := by kernel_rfl
  i143 := by kernel_rfl
  i145 := by kernel_rfl
  i167 := by kernel_rfl
  i168 := by kernel_rfl
  i171 := by kernel_rfl
  i173 := by kernel_rfl
  i175 := by kernel_rfl
  i210 := by kernel_rfl
  i212 := by kernel_rfl
  i232 := by kernel_rfl
  i233 := by kernel_rfl
  m15 := by kernel_rfl
  m16 := by kernel_rfl
  m17 := by kernel_rfl
  m18 := by kernel_rfl
  m19 := by kernel_rfl
  c0 := by kernel_rfl
  c2 := by kernel_rfl
  c3 := by kernel_rfl
  c4 := by kernel_rfl
  c5 := by kernel_rfl
  c9 := by kernel_rfl
  c20 := by kernel_rfl
  c21 := by kernel_rfl
  c37 := by kernel_rfl
  c46 := by kernel_rfl
  c51 := by kernel_rfl
  c53 := by kernel_rfl
  c75 := by kernel_rfl
  c76 := by kernel_rfl
  c80 := by kernel_rfl
  c85 := by kernel_rfl
  c127 := by kernel_rfl
  c143 := by kernel_rfl
  c145 := by kernel_rfl
  c167 := by kernel_rfl
  c168 := by kernel_rfl
  c171 := by kernel_rfl
  c173 := by kernel_rfl
  c175 := by kernel_rfl
  c210 := by kernel_rfl
  c212 := by kernel_rfl
  c213 := by kernel_rfl
  c232 := by kernel_rfl
  c233 := by kernel_rfl }
end Go.Proofs
