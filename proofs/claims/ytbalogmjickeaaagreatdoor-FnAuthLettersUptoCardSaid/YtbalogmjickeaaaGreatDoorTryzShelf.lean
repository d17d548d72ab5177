/-
  DERIVED: THE SHELF's CONTRACTS AT THIS DUMP, IN PLAIN WORDS (tools/lay-plain.mjs out of 'TryzShelf.lean', which tools/lay-shelf.mjs wrote): THE SAME DECLARATIONS UNDER THE SAME NAMES: 'import', 'namespace', 'open', 'def', 'theorem' AND NOTHING ELSE: no command of the shelf's: FOR A HAND-IN. Each laying: the table of numbers ('.._ren') and one theorem, a field a fact of the dump's own or the kernel's comparison; each contract: ONE APPLICATION.
-/
import Derived.Shelf.SlIter.Nil
import Derived.Shelf.SortM.Plain
import Derived.Shelf.SortM.SortNone
import Derived.Ground.GgzProg
import Derived.Ground.SlgmProg
import Derived.Shelf.Small.Bits
import Derived.Shelf.Strconv.Atoi
import Derived.Shelf.Strconv.Itoa0
import Derived.Shelf.Strconv.Itoa1
import Derived.Shelf.LaysM
import Derived.Shelf.Strconv.Itoa2
import Derived.Shelf.Strconv.Itoa3
import Derived.Shelf.Strconv.AtoiErrFast
import Derived.Shelf.Strconv.ParseIntEmpty
import Derived.Shelf.Strconv.AtoiFail
import Derived.Shelf.Strconv.Clone
import Derived.Shelf.Strconv.SyntaxError
import Derived.Shelf.LaysC
import Derived.Shelf.Strconv.ToError
import Derived.Shelf.Strconv.Lower
import Derived.Shelf.Strconv.ParseUint10
import Derived.Shelf.Strconv.ParseUint10Empty
import Derived.Shelf.Strconv.ParseUint10Any
import Derived.Shelf.Strconv.ParseInt10
import Derived.Shelf.Strconv.AtoiLong
import Derived.Shelf.Strconv.AtoiInnerAll
import Derived.Shelf.Strconv.RangeError
import Derived.Shelf.Strconv.ToErrorRange
import Derived.Shelf.Strconv.AtoiAll
import Derived.Shelf.Strconv.ErrVarAll
import Derived.Shelf.Strconv.ParseUintEmpty
import Derived.Shelf.Strconv.ParseUint10b64
import Derived.Shelf.Strconv.ParseUint10b32
import Derived.Shelf.Strconv.ParseUint10b16
import Derived.Shelf.Strconv.ParseUint10b8
import Derived.Shelf.Strconv.ParseUint10At
import Derived.Shelf.Strconv.ParseInt10At64
import Derived.Shelf.Strconv.ParseInt10At32
import Derived.Shelf.Strconv.ParseInt10At16
import Derived.Shelf.Strconv.ParseInt10At8
import Derived.Shelf.Strconv.ParseInt10All
import Derived.Shelf.Sort.Plain
import Derived.Shelf.Strings.Prefix
import Derived.Shelf.Slices.In.SortNone
import Derived.Test.YtbalogmjickeaaaGreatDoorProg
set_option linter.all false
namespace Go.Proofs
open Go.Shelf
def Tryz.laysC172_ren : Go.Shelf.Ren := ⟨fun | 172 => 74 | 244 => 91 | 245 => 92 | 247 => 98 | 279 => 99 | 280 => 100 | 281 => 101 | 282 => 102 | 287 => 114 | 316 => 115 | 171 => 116 | 205 => 55 | 321 => 123 | 322 => 124 | 243 => 125 | 246 => 127 | 283 => 128 | 284 => 129 | 285 => 130 | 286 => 131 | 129 => 113 | 317 => 132 | 318 => 133 | 319 => 134 | 320 => 135 | 337 => 136 | 338 => 137 | n => n, fun | 9 => 9 | 3 => 3 | 75 => 70 | 76 => 171 | 4 => 4 | 5 => 5 | 167 => 181 | 37 => 36 | 0 => 0 | 85 => 182 | 2 => 2 | 168 => 184 | 53 => 42 | 175 => 199 | 46 => 50 | 210 => 202 | 127 => 209 | 145 => 143 | 143 => 141 | 21 => 21 | 171 => 214 | 173 => 216 | 212 => 220 | 51 => 197 | 20 => 20 | 213 => 221 | 232 => 223 | 233 => 224 | 80 => 225 | n => n, fun | 15 => 1 | 16 => 2 | 17 => 3 | 18 => 4 | 19 => 5 | n => n⟩
theorem Tryz.laysC172 : Go.Proofs.LaysC.n172 Tryz.prog Tryz.laysC172_ren := {
  mixed := by kernel_rfl
  f129 := Tryz.func113.trans (congrArg some (by kernel_rfl))
  f171 := Tryz.func116.trans (congrArg some (by kernel_rfl))
  f172 := Tryz.func74.trans (congrArg some (by kernel_rfl))
  f205 := Tryz.func55.trans (congrArg some (by kernel_rfl))
  f243 := Tryz.func125.trans (congrArg some (by kernel_rfl))
  f244 := Tryz.func91.trans (congrArg some (by kernel_rfl))
  f245 := Tryz.func92.trans (congrArg some (by kernel_rfl))
  f246 := Tryz.func127.trans (congrArg some (by kernel_rfl))
  f247 := Tryz.func98.trans (congrArg some (by kernel_rfl))
  f279 := Tryz.func99.trans (congrArg some (by kernel_rfl))
  f280 := Tryz.func100.trans (congrArg some (by kernel_rfl))
  f281 := Tryz.func101.trans (congrArg some (by kernel_rfl))
  f282 := Tryz.func102.trans (congrArg some (by kernel_rfl))
  f283 := Tryz.func128.trans (congrArg some (by kernel_rfl))
  f284 := Tryz.func129.trans (congrArg some (by kernel_rfl))
  f285 := Tryz.func130.trans (congrArg some (by kernel_rfl))
  f286 := Tryz.func131.trans (congrArg some (by kernel_rfl))
  f287 := Tryz.func114.trans (congrArg some (by kernel_rfl))
  f316 := Tryz.func115.trans (congrArg some (by kernel_rfl))
  f317 := Tryz.func132.trans (congrArg some (by kernel_rfl))
  f318 := Tryz.func133.trans (congrArg some (by kernel_rfl))
  f319 := Tryz.func134.trans (congrArg some (by kernel_rfl))
  f320 := Tryz.func135.trans (congrArg some (by kernel_rfl))
  f321 := Tryz.func123.trans (congrArg some (by kernel_rfl))
  f322 := Tryz.func124.trans (congrArg some (by kernel_rfl))
  f337 := Tryz.func136.trans (congrArg some (by kernel_rfl))
  f338 := Tryz.func137.trans (congrArg some (by kernel_rfl))
  t0 := Tryz.underlying0
  a0 := Tryz.isAgg0
  z0 := Tryz.sizeOf0
  v0 := Tryz.zeroValue0
  t2 := Tryz.underlying2
  a2 := Tryz.isAgg2
  z2 := Tryz.sizeOf2
  v2 := Tryz.zeroValue2
  t3 := Tryz.underlying3
  a3 := Tryz.isAgg3
  z3 := Tryz.sizeOf3
  v3 := Tryz.zeroValue3
  t4 := Tryz.underlying4
  a4 := Tryz.isAgg4
  z4 := Tryz.sizeOf4
  v4 := Tryz.zeroValue4
  t5 := Tryz.underlying5
  a5 := Tryz.isAgg5
  z5 := Tryz.sizeOf5
  v5 := Tryz.zeroValue5
  t9 := Tryz.underlying9
  a9 := Tryz.isAgg9
  z9 := Tryz.sizeOf9
  v9 := Tryz.zeroValue9
  t20 := Tryz.underlying20
  a20 := Tryz.isAgg20
  z20 := Tryz.sizeOf20
  v20 := Tryz.zeroValue20
  t21 := Tryz.underlying21
  a21 := Tryz.isAgg21
  z21 := Tryz.sizeOf21
  v21 := Tryz.zeroValue21
  t37 := Tryz.underlying36
  a37 := Tryz.isAgg36
  z37 := Tryz.sizeOf36
  v37 := Tryz.zeroValue36
  t46 := Tryz.underlying50
  a46 := Tryz.isAgg50
  z46 := Tryz.sizeOf50
  v46 := Tryz.zeroValue50
  t51 := Tryz.underlying197
  a51 := Tryz.isAgg197
  z51 := Tryz.sizeOf197
  v51 := Tryz.zeroValue197
  t53 := Tryz.underlying42
  a53 := Tryz.isAgg42
  z53 := Tryz.sizeOf42
  v53 := Tryz.zeroValue42
  t75 := Tryz.underlying70
  a75 := Tryz.isAgg70
  z75 := Tryz.sizeOf70
  v75 := Tryz.zeroValue70
  t76 := Tryz.underlying171
  a76 := Tryz.isAgg171
  z76 := Tryz.sizeOf171
  v76 := Tryz.zeroValue171
  t85 := Tryz.underlying182
  a85 := Tryz.isAgg182
  z85 := Tryz.sizeOf182
  v85 := Tryz.zeroValue182
  t127 := Tryz.underlying209
  a127 := Tryz.isAgg209
  z127 := Tryz.sizeOf209
  v127 := Tryz.zeroValue209
  t143 := Tryz.underlying141
  a143 := Tryz.isAgg141
  z143 := Tryz.sizeOf141
  v143 := Tryz.zeroValue141
  t145 := Tryz.underlying143
  a145 := Tryz.isAgg143
  z145 := Tryz.sizeOf143
  v145 := Tryz.zeroValue143
  t167 := Tryz.underlying181
  a167 := Tryz.isAgg181
  z167 := Tryz.sizeOf181
  v167 := Tryz.zeroValue181
  t168 := Tryz.underlying184
  a168 := Tryz.isAgg184
  z168 := Tryz.sizeOf184
  v168 := Tryz.zeroValue184
  t171 := Tryz.underlying214
  a171 := Tryz.isAgg214
  z171 := Tryz.sizeOf214
  v171 := Tryz.zeroValue214
  t173 := Tryz.underlying216
  a173 := Tryz.isAgg216
  z173 := Tryz.sizeOf216
  v173 := Tryz.zeroValue216
  t175 := Tryz.underlying199
  a175 := Tryz.isAgg199
  z175 := Tryz.sizeOf199
  v175 := Tryz.zeroValue199
  t210 := Tryz.underlying202
  a210 := Tryz.isAgg202
  z210 := Tryz.sizeOf202
  v210 := Tryz.zeroValue202
  t212 := Tryz.underlying220
  a212 := Tryz.isAgg220
  z212 := Tryz.sizeOf220
  v212 := Tryz.zeroValue220
  t213 := Tryz.underlying221
  a213 := Tryz.isAgg221
  z213 := Tryz.sizeOf221
  t232 := Tryz.underlying223
  a232 := Tryz.isAgg223
  z232 := Tryz.sizeOf223
  v232 := Tryz.zeroValue223
  t233 := Tryz.underlying224
  a233 := Tryz.isAgg224
  z233 := Tryz.sizeOf224
  v233 := Tryz.zeroValue224
  g15 := by kernel_rfl
  g16 := by kernel_rfl
  g17 := by kernel_rfl
  g18 := by kernel_rfl
  g19 := by kernel_rfl
  t80 := Tryz.underlying225
  a80 := Tryz.isAgg225
  z80 := Tryz.sizeOf225
  v80 := Tryz.zeroValue225
  i0 := by kernel_rfl
  i2 := by kernel_rfl
  i3 := by kernel_rfl
  i4 := by kernel_rfl
  i5 := by kernel_rfl
  i9 := by kernel_rfl
  i20 := by kernel_rfl
  i21 := by kernel_rfl
  i37 := by kernel_rfl
  i46 := by kernel_rfl
  i51 := by kernel_rfl
  i53 := by kernel_rfl
  i75 := by kernel_rfl
  i76 := by kernel_rfl
  i80 := by kernel_rfl
  i85 := by kernel_rfl
  i127 := by kernel_rfl
  i143 := by kernel_rfl
  i145 := by kernel_rfl
  i167 := by kernel_rfl
  i168 := by kernel_rfl
  i171 := by kernel_rfl
  i173 := by kernel_rfl
  i175 := by kernel_rfl
  i210 := by kernel_rfl
  i212 := by kernel_rfl
  i232 := by kernel_rfl
  i233 := by kernel_rfl
  m15 := by kernel_rfl
  m16 := by kernel_rfl
  m17 := by kernel_rfl
  m18 := by kernel_rfl
  m19 := by kernel_rfl
  c0 := by kernel_rfl
  c2 := by kernel_rfl
  c3 := by kernel_rfl
  c4 := by kernel_rfl
  c5 := by kernel_rfl
  c9 := by kernel_rfl
  c20 := by kernel_rfl
  c21 := by kernel_rfl
  c37 := by kernel_rfl
  c46 := by kernel_rfl
  c51 := by kernel_rfl
  c53 := by kernel_rfl
  c75 := by kernel_rfl
  c76 := by kernel_rfl
  c80 := by kernel_rfl
  c85 := by kernel_rfl
  c127 := by kernel_rfl
  c143 := by kernel_rfl
  c145 := by kernel_rfl
  c167 := by kernel_rfl
  c168 := by kernel_rfl
  c171 := by kernel_rfl
  c173 := by kernel_rfl
  c175 := by kernel_rfl
  c210 := by kernel_rfl
  c212 := by kernel_rfl
  c213 := by kernel_rfl
  c232 := by kernel_rfl
  c233 := by kernel_rfl }
def Tryz.keys69_ren : Go.Shelf.Ren := ⟨fun | 7 => 69 | 10 => 88 | n => n, fun | 23 => 128 | 26 => 9 | 3 => 9 | 28 => 154 | 0 => 0 | 27 => 153 | 33 => 22 | 4 => 4 | n => n, fun | n => n⟩
theorem Tryz.keys69 : Go.Proofs.SlLaysZ.n7 Tryz.prog Tryz.keys69_ren := {
  mixed := by kernel_rfl
  f7 := ⟨Tryz.f69.name, by decide, Tryz.func69.trans (congrArg some (by kernel_rfl))⟩
  f10 := ⟨Tryz.f88.name, by decide, Tryz.func88.trans (congrArg some (by kernel_rfl))⟩
  t0 := Tryz.underlying0
  a0 := Tryz.isAgg0
  z0 := Tryz.sizeOf0
  v0 := Tryz.zeroValue0
  t4 := Tryz.underlying4
  a4 := Tryz.isAgg4
  z4 := Tryz.sizeOf4
  v4 := Tryz.zeroValue4
  t23 := Tryz.underlying128
  a23 := Tryz.isAgg128
  z23 := Tryz.sizeOf128
  v23 := Tryz.zeroValue128
  t26 := Tryz.underlying9
  a26 := Tryz.isAgg9
  z26 := Tryz.sizeOf9
  v26 := Tryz.zeroValue9
  t27 := Tryz.underlying153
  a27 := Tryz.isAgg153
  z27 := Tryz.sizeOf153
  v27 := Tryz.zeroValue153
  t28 := Tryz.underlying154
  a28 := Tryz.isAgg154
  z28 := Tryz.sizeOf154
  v28 := Tryz.zeroValue154
  t33 := Tryz.underlying22
  a33 := Tryz.isAgg22
  z33 := Tryz.sizeOf22
  v33 := Tryz.zeroValue22 }
def Tryz.sorted68_ren : Go.Shelf.Ren := ⟨fun | 6 => 68 | 8 => 86 | 9 => 87 | 11 => 94 | 13 => 96 | 12 => 95 | 23 => 112 | 24 => 113 | 14 => 103 | 15 => 104 | 16 => 105 | 17 => 106 | 18 => 107 | 19 => 108 | 20 => 109 | 21 => 110 | 22 => 111 | 25 => 117 | 26 => 118 | 27 => 119 | 28 => 120 | 29 => 121 | 30 => 122 | 31 => 126 | n => n, fun | 26 => 9 | 28 => 154 | 24 => 23 | 0 => 0 | 3 => 3 | 37 => 50 | 48 => 197 | 50 => 42 | 4 => 4 | 40 => 189 | 39 => 188 | 45 => 194 | 5 => 5 | 9 => 9 | 51 => 203 | 55 => 161 | 57 => 210 | 58 => 211 | 33 => 22 | n => n, fun | n => n⟩
theorem Tryz.sorted68 : Go.Proofs.SlLaysZ.n6 Tryz.prog Tryz.sorted68_ren := {
  mixed := by kernel_rfl
  f6 := ⟨Tryz.f68.name, by decide, Tryz.func68.trans (congrArg some (by kernel_rfl))⟩
  f8 := ⟨Tryz.f86.name, by decide, Tryz.func86.trans (congrArg some (by kernel_rfl))⟩
  f11 := ⟨Tryz.f94.name, by decide, Tryz.func94.trans (congrArg some (by kernel_rfl))⟩
  t0 := Tryz.underlying0
  a0 := Tryz.isAgg0
  z0 := Tryz.sizeOf0
  v0 := Tryz.zeroValue0
  t24 := Tryz.underlying23
  a24 := Tryz.isAgg23
  z24 := Tryz.sizeOf23
  v24 := Tryz.zeroValue23
  t26 := Tryz.underlying9
  a26 := Tryz.isAgg9
  z26 := Tryz.sizeOf9
  v26 := Tryz.zeroValue9
  t28 := Tryz.underlying154
  a28 := Tryz.isAgg154
  z28 := Tryz.sizeOf154
  v28 := Tryz.zeroValue154
  i26 := by kernel_rfl }
def Tryz.sort87_ren : Go.Shelf.Ren := ⟨fun | 6 => 87 | 8 => 96 | 9 => 95 | 19 => 112 | 20 => 113 | 21 => 103 | 22 => 104 | 23 => 105 | 24 => 106 | 25 => 107 | 26 => 108 | 27 => 109 | 28 => 110 | 29 => 111 | 36 => 117 | 31 => 118 | 32 => 119 | 37 => 120 | 38 => 121 | 39 => 122 | 41 => 126 | n => n, fun | 27 => 23 | 29 => 9 | 3 => 3 | 32 => 50 | 26 => 23 | 0 => 0 | 44 => 197 | 46 => 42 | 4 => 4 | 36 => 189 | 35 => 188 | 41 => 194 | 5 => 5 | 9 => 9 | 53 => 203 | 57 => 161 | 63 => 210 | 64 => 211 | n => n, fun | n => n⟩
theorem Tryz.sort87 : Go.Proofs.SlLaysM.n6 Tryz.prog Tryz.sort87_ren := {
  mixed := by kernel_rfl
  f6 := ⟨Tryz.f87.name, by decide, Tryz.func87.trans (congrArg some (by kernel_rfl))⟩
  f8 := Tryz.func96.trans (congrArg some (by kernel_rfl))
  f9 := ⟨Tryz.f95.name, by decide, Tryz.func95.trans (congrArg some (by kernel_rfl))⟩
  f19 := Tryz.func112.trans (congrArg some (by kernel_rfl))
  f20 := Tryz.func113.trans (congrArg some (by kernel_rfl))
  f21 := ⟨Tryz.f103.name, by decide, Tryz.func103.trans (congrArg some (by kernel_rfl))⟩
  f22 := ⟨Tryz.f104.name, by decide, Tryz.func104.trans (congrArg some (by kernel_rfl))⟩
  f23 := ⟨Tryz.f105.name, by decide, Tryz.func105.trans (congrArg some (by kernel_rfl))⟩
  f24 := ⟨Tryz.f106.name, by decide, Tryz.func106.trans (congrArg some (by kernel_rfl))⟩
  f25 := ⟨Tryz.f107.name, by decide, Tryz.func107.trans (congrArg some (by kernel_rfl))⟩
  f26 := ⟨Tryz.f108.name, by decide, Tryz.func108.trans (congrArg some (by kernel_rfl))⟩
  f27 := ⟨Tryz.f109.name, by decide, Tryz.func109.trans (congrArg some (by kernel_rfl))⟩
  f28 := ⟨Tryz.f110.name, by decide, Tryz.func110.trans (congrArg some (by kernel_rfl))⟩
  f29 := ⟨Tryz.f111.name, by decide, Tryz.func111.trans (congrArg some (by kernel_rfl))⟩
  f31 := Tryz.func118.trans (congrArg some (by kernel_rfl))
  f32 := Tryz.func119.trans (congrArg some (by kernel_rfl))
  f36 := ⟨Tryz.f117.name, by decide, Tryz.func117.trans (congrArg some (by kernel_rfl))⟩
  f37 := ⟨Tryz.f120.name, by decide, Tryz.func120.trans (congrArg some (by kernel_rfl))⟩
  f38 := ⟨Tryz.f121.name, by decide, Tryz.func121.trans (congrArg some (by kernel_rfl))⟩
  f39 := ⟨Tryz.f122.name, by decide, Tryz.func122.trans (congrArg some (by kernel_rfl))⟩
  f41 := ⟨Tryz.f126.name, by decide, Tryz.func126.trans (congrArg some (by kernel_rfl))⟩
  t0 := Tryz.underlying0
  a0 := Tryz.isAgg0
  z0 := Tryz.sizeOf0
  v0 := Tryz.zeroValue0
  t3 := Tryz.underlying3
  a3 := Tryz.isAgg3
  z3 := Tryz.sizeOf3
  v3 := Tryz.zeroValue3
  t4 := Tryz.underlying4
  a4 := Tryz.isAgg4
  z4 := Tryz.sizeOf4
  v4 := Tryz.zeroValue4
  t5 := Tryz.underlying5
  a5 := Tryz.isAgg5
  z5 := Tryz.sizeOf5
  v5 := Tryz.zeroValue5
  t9 := Tryz.underlying9
  a9 := Tryz.isAgg9
  z9 := Tryz.sizeOf9
  v9 := Tryz.zeroValue9
  t26 := Tryz.underlying23
  a26 := Tryz.isAgg23
  z26 := Tryz.sizeOf23
  v26 := Tryz.zeroValue23
  t27 := Tryz.underlying23
  a27 := Tryz.isAgg23
  z27 := Tryz.sizeOf23
  v27 := Tryz.zeroValue23
  t29 := Tryz.underlying9
  a29 := Tryz.isAgg9
  z29 := Tryz.sizeOf9
  v29 := Tryz.zeroValue9
  t32 := Tryz.underlying50
  a32 := Tryz.isAgg50
  z32 := Tryz.sizeOf50
  v32 := Tryz.zeroValue50
  t35 := Tryz.underlying188
  a35 := Tryz.isAgg188
  z35 := Tryz.sizeOf188
  v35 := Tryz.zeroValue188
  t36 := Tryz.underlying189
  a36 := Tryz.isAgg189
  z36 := Tryz.sizeOf189
  v36 := Tryz.zeroValue189
  t41 := Tryz.underlying194
  a41 := Tryz.isAgg194
  z41 := Tryz.sizeOf194
  v41 := Tryz.zeroValue194
  t44 := Tryz.underlying197
  a44 := Tryz.isAgg197
  z44 := Tryz.sizeOf197
  v44 := Tryz.zeroValue197
  t46 := Tryz.underlying42
  a46 := Tryz.isAgg42
  z46 := Tryz.sizeOf42
  v46 := Tryz.zeroValue42
  t53 := Tryz.underlying203
  a53 := Tryz.isAgg203
  z53 := Tryz.sizeOf203
  v53 := Tryz.zeroValue203
  t57 := Tryz.underlying161
  a57 := Tryz.isAgg161
  z57 := Tryz.sizeOf161
  v57 := Tryz.zeroValue161
  t63 := Tryz.underlying210
  a63 := Tryz.isAgg210
  z63 := Tryz.sizeOf210
  v63 := Tryz.zeroValue210
  t64 := Tryz.underlying211
  a64 := Tryz.isAgg211
  z64 := Tryz.sizeOf211
  v64 := Tryz.zeroValue211 }
open Go.RowKit Go.Maps Go.Sort in
theorem Tryz.sorts68 (m : Nat) : AnyZ.SortsIn Tryz.prog Tryz.sorted68_ren Fence.wide m :=
  ⟨fun blk off cap ss W hH hblk hsz => callsIn_wide.2 (AnyM.slices_Sort_string Tryz.sort87 blk off cap ss W hH hblk hsz),
   fun p cap W => callsIn_wide.2 (AnyM.slices_Sort_string_none Tryz.sort87 p cap W)⟩

theorem Tryz.sorted_key : Tryz.prog.underlying 9 = some .string := by kernel_rfl

open Go.RowKit Go.Maps Go.Sort in
theorem Tryz.slices_Sorted_keys_at (Bm b nn : Nat) (D0 : DataW Nat) (R : Value → Option (DataW Nat × List MemPlace)) (w : World) (hBm : Bm < w.heap.size) (hm : w.cell? ⟨Bm, 0, none⟩ = some (.map (some b))) (hown : w.ownsMap Tryz.prog 9 R b nn D0) (hmax : Maps.size D0 ≤ maxLen) (hbytes : Maps.size D0 * 16 ≤ 140737488355328) :
    Calls Tryz.prog 68 #[.func (.func 88) #[] #[.pointer (some ⟨Bm, 0, none⟩)]] w fun e w' => ∃ (v : Value) (ss : List (List UInt8)), e = .returned v ∧ ss.Perm (strKeys D0) ∧
      w'.ownsRow w.heap.size 9 1 v ss.length ((ss.mergeSort (fun x y => decide (x ≤ y))).map encStr) ∧ (v = .slice none 0 0 ↔ ss = []) ∧ Below w.heap.size w w' := by
  have hseq : SeqGives Fence.wide 2 Tryz.prog 88 #[.pointer (some ⟨Bm, 0, none⟩)] encStr (fun ss => ss.Perm (strKeys D0)) (Maps.size D0) w :=
    AnyZ.keys_gives (ρ := Tryz.keys69_ren) { Tryz.keys69 with } Fence.wide _ trivial rfl (by omega) Bm b nn D0 w hBm hm hown
  exact (callsIn_wide (n := 5)).1 (AnyZ.sorted_in Tryz.sorted68 Fence.wide 5 trivial trivial trivial trivial rfl (by omega) (Tryz.sorts68 _) (enters_of Tryz.func87 (by kernel_rfl) rfl) 88 #[.pointer (some ⟨Bm, 0, none⟩)] trivial (enters_of Tryz.func88 (by kernel_rfl) rfl) _ _ hmax hbytes _ hseq)

end Go.Proofs
