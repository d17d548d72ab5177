/-
  DERIVED: THE SHELF's CONTRACTS AT THIS DUMP, IN PLAIN WORDS (tools/lay-plain.mjs out of 'TryzShelf.lean', which tools/lay-shelf.mjs wrote): THE SAME DECLARATIONS UNDER THE SAME NAMES: 'import', 'namespace', 'open', 'def', 'theorem' AND NOTHING ELSE: no command of the shelf's: FOR A HAND-IN. Each laying: the table of numbers ('.._ren') and one theorem, a field a fact of the dump's own or the kernel's comparison; each contract: ONE APPLICATION.
-/
import Derived.Shelf.SlIter.Nil
import Derived.Shelf.SortM.Plain
import Derived.Shelf.SortM.SortNone
import Derived.Ground.GgzProg
import Derived.Ground.SlgmProg
import Derived.Shelf.Small.Bits
import Derived.Shelf.Strconv.Atoi
import Derived.Shelf.Strconv.Itoa0
import Derived.Shelf.Strconv.Itoa1
import Derived.Shelf.LaysM
import Derived.Shelf.Strconv.Itoa2
import Derived.Shelf.Strconv.Itoa3
import Derived.Shelf.Strconv.AtoiErrFast
import Derived.Shelf.Strconv.ParseIntEmpty
import Derived.Shelf.Strconv.AtoiFail
import Derived.Shelf.Strconv.Clone
import Derived.Shelf.Strconv.SyntaxError
import Derived.Shelf.LaysC
import Derived.Shelf.Strconv.ToError
import Derived.Shelf.Strconv.Lower
import Derived.Shelf.Strconv.ParseUint10
import Derived.Shelf.Strconv.ParseUint10Empty
import Derived.Shelf.Strconv.ParseUint10Any
import Derived.Shelf.Strconv.ParseInt10
import Derived.Shelf.Strconv.AtoiLong
import Derived.Shelf.Strconv.AtoiInnerAll
import Derived.Shelf.Strconv.RangeError
import Derived.Shelf.Strconv.ToErrorRange
import Derived.Shelf.Strconv.AtoiAll
import Derived.Shelf.Strconv.ErrVarAll
import Derived.Shelf.Strconv.ParseUintEmpty
import Derived.Shelf.Strconv.ParseUint10b64
import Derived.Shelf.Strconv.ParseUint10b32
import Derived.Shelf.Strconv.ParseUint10b16
import Derived.Shelf.Strconv.ParseUint10b8
import Derived.Shelf.Strconv.ParseUint10At
import Derived.Shelf.Strconv.ParseInt10At64
import Derived.Shelf.Strconv.ParseInt10At32
import Derived.Shelf.Strconv.ParseInt10At16
import Derived.Shelf.Strconv.ParseInt10At8
import Derived.Shelf.Strconv.ParseInt10All
import Derived.Shelf.Sort.Plain
import Derived.Shelf.Strings.Prefix
import Derived.Shelf.Slices.In.SortNone
import Derived.Test.YtbalogmjickeaabGreatDoorProg
set_option linter.all false
namespace Go.Proofs
open Go.Shelf
def Tryz.laysC172_ren : Go.Shelf.Ren := ⟨fun | 172 => 73 | 244 => 92 | 245 => 93 | 247 => 104 | 279 => 105 | 280 => 106 | 281 => 107 | 282 => 108 | 287 => 120 | 316 => 121 | 171 => 122 | 205 => 52 | 321 => 129 | 322 => 130 | 243 => 131 | 246 => 133 | 283 => 134 | 284 => 135 | 285 => 136 | 286 => 137 | 129 => 119 | 317 => 138 | 318 => 139 | 319 => 140 | 320 => 141 | 337 => 142 | 338 => 143 | n => n, fun | 9 => 9 | 3 => 3 | 75 => 66 | 76 => 168 | 4 => 4 | 5 => 5 | 167 => 179 | 37 => 23 | 0 => 0 | 85 => 180 | 2 => 2 | 168 => 182 | 53 => 197 | 175 => 198 | 46 => 177 | 210 => 201 | 127 => 209 | 145 => 140 | 143 => 138 | 21 => 21 | 171 => 214 | 173 => 216 | 212 => 220 | 51 => 195 | 20 => 20 | 213 => 221 | 232 => 223 | 233 => 224 | 80 => 225 | n => n, fun | 15 => 1 | 16 => 2 | 17 => 3 | 18 => 4 | 19 => 5 | n => n⟩
theorem Tryz.laysC172 : Go.Proofs.LaysC.n172 Tryz.prog Tryz.laysC172_ren := {
  mixed := by kernel_rfl
  f129 := Tryz.func119.trans (congrArg some (by kernel_rfl))
  f171 := Tryz.func122.trans (congrArg some (by kernel_rfl))
  f172 := Tryz.func73.trans (congrArg some (by kernel_rfl))
  f205 := Tryz.func52.trans (congrArg some (by kernel_rfl))
  f243 := Tryz.func131.trans (congrArg some (by kernel_rfl))
  f244 := Tryz.func92.trans (congrArg some (by kernel_rfl))
  f245 := Tryz.func93.trans (congrArg some (by kernel_rfl))
  f246 := Tryz.func133.trans (congrArg some (by kernel_rfl))
  f247 := Tryz.func104.trans (congrArg some (by kernel_rfl))
  f279 := Tryz.func105.trans (congrArg some (by kernel_rfl))
  f280 := Tryz.func106.trans (congrArg some (by kernel_rfl))
  f281 := Tryz.func107.trans (congrArg some (by kernel_rfl))
  f282 := Tryz.func108.trans (congrArg some (by kernel_rfl))
  f283 := Tryz.func134.trans (congrArg some (by kernel_rfl))
  f284 := Tryz.func135.trans (congrArg some (by kernel_rfl))
  f285 := Tryz.func136.trans (congrArg some (by kernel_rfl))
  f286 := Tryz.func137.trans (congrArg some (by kernel_rfl))
  f287 := Tryz.func120.trans (congrArg some (by kernel_rfl))
  f316 := Tryz.func121.trans (congrArg some (by kernel_rfl))
  f317 := Tryz.func138.trans (congrArg some (by kernel_rfl))
  f318 := Tryz.func139.trans (congrArg some (by kernel_rfl))
  f319 := Tryz.func140.trans (congrArg some (by kernel_rfl))
  f320 := Tryz.func141.trans (congrArg some (by kernel_rfl))
  f321 := Tryz.func129.trans (congrArg some (by kernel_rfl))
  f322 := Tryz.func130.trans (congrArg some (by kernel_rfl))
  f337 := Tryz.func142.trans (congrArg some (by kernel_rfl))
  f338 := Tryz.func143.trans (congrArg some (by kernel_rfl))
  t0 := Tryz.underlying0
  a0 := Tryz.isAgg0
  z0 := Tryz.sizeOf0
  v0 := Tryz.zeroValue0
  t2 := Tryz.underlying2
  a2 := Tryz.isAgg2
  z2 := Tryz.sizeOf2
  v2 := Tryz.zeroValue2
  t3 := Tryz.underlying3
  a3 := Tryz.isAgg3
  z3 := Tryz.sizeOf3
  v3 := Tryz.zeroValue3
  t4 := Tryz.underlying4
  a4 := Tryz.isAgg4
  z4 := Tryz.sizeOf4
  v4 := Tryz.zeroValue4
  t5 := Tryz.underlying5
  a5 := Tryz.isAgg5
  z5 := Tryz.sizeOf5
  v5 := Tryz.zeroValue5
  t9 := Tryz.underlying9
  a9 := Tryz.isAgg9
  z9 := Tryz.sizeOf9
  v9 := Tryz.zeroValue9
  t20 := Tryz.underlying20
  a20 := Tryz.isAgg20
  z20 := Tryz.sizeOf20
  v20 := Tryz.zeroValue20
  t21 := Tryz.underlying21
  a21 := Tryz.isAgg21
  z21 := Tryz.sizeOf21
  v21 := Tryz.zeroValue21
  t37 := Tryz.underlying23
  a37 := Tryz.isAgg23
  z37 := Tryz.sizeOf23
  v37 := Tryz.zeroValue23
  t46 := Tryz.underlying177
  a46 := Tryz.isAgg177
  z46 := Tryz.sizeOf177
  v46 := Tryz.zeroValue177
  t51 := Tryz.underlying195
  a51 := Tryz.isAgg195
  z51 := Tryz.sizeOf195
  v51 := Tryz.zeroValue195
  t53 := Tryz.underlying197
  a53 := Tryz.isAgg197
  z53 := Tryz.sizeOf197
  v53 := Tryz.zeroValue197
  t75 := Tryz.underlying66
  a75 := Tryz.isAgg66
  z75 := Tryz.sizeOf66
  v75 := Tryz.zeroValue66
  t76 := Tryz.underlying168
  a76 := Tryz.isAgg168
  z76 := Tryz.sizeOf168
  v76 := Tryz.zeroValue168
  t85 := Tryz.underlying180
  a85 := Tryz.isAgg180
  z85 := Tryz.sizeOf180
  v85 := Tryz.zeroValue180
  t127 := Tryz.underlying209
  a127 := Tryz.isAgg209
  z127 := Tryz.sizeOf209
  v127 := Tryz.zeroValue209
  t143 := Tryz.underlying138
  a143 := Tryz.isAgg138
  z143 := Tryz.sizeOf138
  v143 := Tryz.zeroValue138
  t145 := Tryz.underlying140
  a145 := Tryz.isAgg140
  z145 := Tryz.sizeOf140
  v145 := Tryz.zeroValue140
  t167 := Tryz.underlying179
  a167 := Tryz.isAgg179
  z167 := Tryz.sizeOf179
  v167 := Tryz.zeroValue179
  t168 := Tryz.underlying182
  a168 := Tryz.isAgg182
  z168 := Tryz.sizeOf182
  v168 := Tryz.zeroValue182
  t171 := Tryz.underlying214
  a171 := Tryz.isAgg214
  z171 := Tryz.sizeOf214
  v171 := Tryz.zeroValue214
  t173 := Tryz.underlying216
  a173 := Tryz.isAgg216
  z173 := Tryz.sizeOf216
  v173 := Tryz.zeroValue216
  t175 := Tryz.underlying198
  a175 := Tryz.isAgg198
  z175 := Tryz.sizeOf198
  v175 := Tryz.zeroValue198
  t210 := Tryz.underlying201
  a210 := Tryz.isAgg201
  z210 := Tryz.sizeOf201
  v210 := Tryz.zeroValue201
  t212 := Tryz.underlying220
  a212 := Tryz.isAgg220
  z212 := Tryz.sizeOf220
  v212 := Tryz.zeroValue220
  t213 := Tryz.underlying221
  a213 := Tryz.isAgg221
  z213 := Tryz.sizeOf221
  t232 := Tryz.underlying223
  a232 := Tryz.isAgg223
  z232 := Tryz.sizeOf223
  v232 := Tryz.zeroValue223
  t233 := Tryz.underlying224
  a233 := Tryz.isAgg224
  z233 := Tryz.sizeOf224
  v233 := Tryz.zeroValue224
  g15 := by kernel_rfl
  g16 := by kernel_rfl
  g17 := by kernel_rfl
  g18 := by kernel_rfl
  g19 := by kernel_rfl
  t80 := Tryz.underlying225
  a80 := Tryz.isAgg225
  z80 := Tryz.sizeOf225
  v80 := Tryz.zeroValue225
  i0 := by kernel_rfl
  i2 := by kernel_rfl
  i3 := by kernel_rfl
  i4 := by kernel_rfl
  i5 := by kernel_rfl
  i9 := by kernel_rfl
  i20 := by kernel_rfl
  i21 := by kernel_rfl
  i37 := by kernel_rfl
  i46 := by kernel_rfl
  i51 := by kernel_rfl
  i53 := by kernel_rfl
  i75 := by kernel_rfl
  i76 := by kernel_rfl
  i80 := by kernel_rfl
  i85 := by kernel_rfl
  i127 := by kernel_rfl
  i143 := by kernel_rfl
  i145 := by kernel_rfl
  i167 := by kernel_rfl
  i168 := by kernel_rfl
  i171 := by kernel_rfl
  i173 := by kernel_rfl
  i175 := by kernel_rfl
  i210 := by kernel_rfl
  i212 := by kernel_rfl
  i232 := by kernel_rfl
  i233 := by kernel_rfl
  m15 := by kernel_rfl
  m16 := by kernel_rfl
  m17 := by kernel_rfl
  m18 := by kernel_rfl
  m19 := by kernel_rfl
  c0 := by kernel_rfl
  c2 := by kernel_rfl
  c3 := by kernel_rfl
  c4 := by kernel_rfl
  c5 := by kernel_rfl
  c9 := by kernel_rfl
  c20 := by kernel_rfl
  c21 := by kernel_rfl
  c37 := by kernel_rfl
  c46 := by kernel_rfl
  c51 := by kernel_rfl
  c53 := by kernel_rfl
  c75 := by kernel_rfl
  c76 := by kernel_rfl
  c80 := by kernel_rfl
  c85 := by kernel_rfl
  c127 := by kernel_rfl
  c143 := by kernel_rfl
  c145 := by kernel_rfl
  c167 := by kernel_rfl
  c168 := by kernel_rfl
  c171 := by kernel_rfl
  c173 := by kernel_rfl
  c175 := by kernel_rfl
  c210 := by kernel_rfl
  c212 := by kernel_rfl
  c213 := by kernel_rfl
  c232 := by kernel_rfl
  c233 := by kernel_rfl }
def Tryz.lays190_ren : Go.Shelf.Ren := ⟨fun | 190 => 76 | 125 => 96 | 258 => 95 | 128 => 118 | 129 => 119 | 302 => 109 | 303 => 110 | 304 => 111 | 305 => 112 | 306 => 113 | 307 => 114 | 308 => 115 | 309 => 116 | 310 => 117 | 333 => 123 | 329 => 124 | 330 => 125 | 334 => 126 | 335 => 127 | 336 => 128 | 344 => 132 | n => n, fun | 31 => 51 | 9 => 9 | 3 => 3 | 46 => 177 | 0 => 0 | 51 => 195 | 53 => 197 | 4 => 4 | 183 => 187 | 182 => 186 | 131 => 192 | 5 => 5 | 218 => 203 | 222 => 158 | 228 => 210 | 229 => 211 | n => n, fun | n => n⟩
theorem Tryz.lays190 : Go.Proofs.Lays.n190 Tryz.prog Tryz.lays190_ren := {
  mixed := by kernel_rfl
  f125 := Tryz.func96.trans (congrArg some (by kernel_rfl))
  f128 := Tryz.func118.trans (congrArg some (by kernel_rfl))
  f129 := Tryz.func119.trans (congrArg some (by kernel_rfl))
  f190 := Tryz.func76.trans (congrArg some (by kernel_rfl))
  f258 := Tryz.func95.trans (congrArg some (by kernel_rfl))
  f302 := Tryz.func109.trans (congrArg some (by kernel_rfl))
  f303 := Tryz.func110.trans (congrArg some (by kernel_rfl))
  f304 := Tryz.func111.trans (congrArg some (by kernel_rfl))
  f305 := Tryz.func112.trans (congrArg some (by kernel_rfl))
  f306 := Tryz.func113.trans (congrArg some (by kernel_rfl))
  f307 := Tryz.func114.trans (congrArg some (by kernel_rfl))
  f308 := Tryz.func115.trans (congrArg some (by kernel_rfl))
  f309 := Tryz.func116.trans (congrArg some (by kernel_rfl))
  f310 := Tryz.func117.trans (congrArg some (by kernel_rfl))
  f329 := Tryz.func124.trans (congrArg some (by kernel_rfl))
  f330 := Tryz.func125.trans (congrArg some (by kernel_rfl))
  f333 := Tryz.func123.trans (congrArg some (by kernel_rfl))
  f334 := Tryz.func126.trans (congrArg some (by kernel_rfl))
  f335 := Tryz.func127.trans (congrArg some (by kernel_rfl))
  f336 := Tryz.func128.trans (congrArg some (by kernel_rfl))
  f344 := Tryz.func132.trans (congrArg some (by kernel_rfl))
  t0 := Tryz.underlying0
  a0 := Tryz.isAgg0
  z0 := Tryz.sizeOf0
  v0 := Tryz.zeroValue0
  t3 := Tryz.underlying3
  a3 := Tryz.isAgg3
  z3 := Tryz.sizeOf3
  v3 := Tryz.zeroValue3
  t4 := Tryz.underlying4
  a4 := Tryz.isAgg4
  z4 := Tryz.sizeOf4
  v4 := Tryz.zeroValue4
  t5 := Tryz.underlying5
  a5 := Tryz.isAgg5
  z5 := Tryz.sizeOf5
  v5 := Tryz.zeroValue5
  t9 := Tryz.underlying9
  a9 := Tryz.isAgg9
  z9 := Tryz.sizeOf9
  v9 := Tryz.zeroValue9
  t31 := Tryz.underlying51
  a31 := Tryz.isAgg51
  z31 := Tryz.sizeOf51
  v31 := Tryz.zeroValue51
  t46 := Tryz.underlying177
  a46 := Tryz.isAgg177
  z46 := Tryz.sizeOf177
  v46 := Tryz.zeroValue177
  t51 := Tryz.underlying195
  a51 := Tryz.isAgg195
  z51 := Tryz.sizeOf195
  v51 := Tryz.zeroValue195
  t53 := Tryz.underlying197
  a53 := Tryz.isAgg197
  z53 := Tryz.sizeOf197
  v53 := Tryz.zeroValue197
  t131 := Tryz.underlying192
  a131 := Tryz.isAgg192
  z131 := Tryz.sizeOf192
  v131 := Tryz.zeroValue192
  t182 := Tryz.underlying186
  a182 := Tryz.isAgg186
  z182 := Tryz.sizeOf186
  v182 := Tryz.zeroValue186
  t183 := Tryz.underlying187
  a183 := Tryz.isAgg187
  z183 := Tryz.sizeOf187
  v183 := Tryz.zeroValue187
  t218 := Tryz.underlying203
  a218 := Tryz.isAgg203
  z218 := Tryz.sizeOf203
  v218 := Tryz.zeroValue203
  t222 := Tryz.underlying158
  a222 := Tryz.isAgg158
  z222 := Tryz.sizeOf158
  v222 := Tryz.zeroValue158
  t228 := Tryz.underlying210
  a228 := Tryz.isAgg210
  z228 := Tryz.sizeOf210
  v228 := Tryz.zeroValue210
  t229 := Tryz.underlying211
  a229 := Tryz.isAgg211
  z229 := Tryz.sizeOf211
  v229 := Tryz.zeroValue211 }
open Go.Sort Go.RowKit in
theorem Tryz.slices_Sort_string (blk off cap : Nat) (ss : List (List UInt8)) (w : World) (hH : Holds encStr w blk off ss.toArray) (hblk : blk < w.heap.size) (hsz : ss.length < 4611686018427387904) :
    Calls Tryz.prog 76 #[.slice (some ⟨blk, off, none⟩) ss.length cap] w fun e w' =>
      e = .returned (.tuple #[]) ∧ ∃ n os, w' = grow (putRow encStr (Sort.ahead w n) blk off (ss.mergeSort fun x y => decide (x ≤ y)).toArray) os := Any.slices_Sort_string Tryz.lays190 blk off cap ss w hH hblk hsz
open Go.RowKit Go.Sort in
/-- .. and plain. (LAID: no walk: one application.) -/
theorem Tryz.slices_Sort_string_none (p : Option Addr) (cap : Nat) (w : World) :
    Calls Tryz.prog 76 #[.slice p 0 cap] w fun e w' => e = .returned (.tuple #[]) ∧ w' = w := Any.slices_Sort_string_none Tryz.lays190 p cap w
def Tryz.keys68_ren : Go.Shelf.Ren := ⟨fun | 7 => 68 | 10 => 89 | n => n, fun | 23 => 121 | 26 => 9 | 3 => 9 | 28 => 151 | 0 => 0 | 27 => 150 | 33 => 26 | 4 => 4 | n => n, fun | n => n⟩
theorem Tryz.keys68 : Go.Proofs.SlLaysZ.n7 Tryz.prog Tryz.keys68_ren := {
  mixed := by kernel_rfl
  f7 := ⟨Tryz.f68.name, by decide, Tryz.func68.trans (congrArg some (by kernel_rfl))⟩
  f10 := ⟨Tryz.f89.name, by decide, Tryz.func89.trans (congrArg some (by kernel_rfl))⟩
  t0 := Tryz.underlying0
  a0 := Tryz.isAgg0
  z0 := Tryz.sizeOf0
  v0 := Tryz.zeroValue0
  t4 := Tryz.underlying4
  a4 := Tryz.isAgg4
  z4 := Tryz.sizeOf4
  v4 := Tryz.zeroValue4
  t23 := Tryz.underlying121
  a23 := Tryz.isAgg121
  z23 := Tryz.sizeOf121
  v23 := Tryz.zeroValue121
  t26 := Tryz.underlying9
  a26 := Tryz.isAgg9
  z26 := Tryz.sizeOf9
  v26 := Tryz.zeroValue9
  t27 := Tryz.underlying150
  a27 := Tryz.isAgg150
  z27 := Tryz.sizeOf150
  v27 := Tryz.zeroValue150
  t28 := Tryz.underlying151
  a28 := Tryz.isAgg151
  z28 := Tryz.sizeOf151
  v28 := Tryz.zeroValue151
  t33 := Tryz.underlying26
  a33 := Tryz.isAgg26
  z33 := Tryz.sizeOf26
  v33 := Tryz.zeroValue26 }
def Tryz.sorted67_ren : Go.Shelf.Ren := ⟨fun | 6 => 67 | 8 => 88 | 9 => 76 | 11 => 102 | 13 => 96 | 12 => 95 | 23 => 118 | 24 => 119 | 14 => 109 | 15 => 110 | 16 => 111 | 17 => 112 | 18 => 113 | 19 => 114 | 20 => 115 | 21 => 116 | 22 => 117 | 25 => 123 | 26 => 124 | 27 => 125 | 28 => 126 | 29 => 127 | 30 => 128 | 31 => 132 | n => n, fun | 26 => 9 | 28 => 151 | 24 => 51 | 0 => 0 | 3 => 3 | 37 => 177 | 48 => 195 | 50 => 197 | 4 => 4 | 40 => 187 | 39 => 186 | 45 => 192 | 5 => 5 | 9 => 9 | 51 => 203 | 55 => 158 | 57 => 210 | 58 => 211 | 33 => 26 | n => n, fun | n => n⟩
theorem Tryz.sorted67 : Go.Proofs.SlLaysZ.n6 Tryz.prog Tryz.sorted67_ren := {
  mixed := by kernel_rfl
  f6 := ⟨Tryz.f67.name, by decide, Tryz.func67.trans (congrArg some (by kernel_rfl))⟩
  f8 := ⟨Tryz.f88.name, by decide, Tryz.func88.trans (congrArg some (by kernel_rfl))⟩
  f11 := ⟨Tryz.f102.name, by decide, Tryz.func102.trans (congrArg some (by kernel_rfl))⟩
  t0 := Tryz.underlying0
  a0 := Tryz.isAgg0
  z0 := Tryz.sizeOf0
  v0 := Tryz.zeroValue0
  t24 := Tryz.underlying51
  a24 := Tryz.isAgg51
  z24 := Tryz.sizeOf51
  v24 := Tryz.zeroValue51
  t26 := Tryz.underlying9
  a26 := Tryz.isAgg9
  z26 := Tryz.sizeOf9
  v26 := Tryz.zeroValue9
  t28 := Tryz.underlying151
  a28 := Tryz.isAgg151
  z28 := Tryz.sizeOf151
  v28 := Tryz.zeroValue151
  i26 := by kernel_rfl }
def Tryz.sort76_ren : Go.Shelf.Ren := ⟨fun | 6 => 76 | 8 => 96 | 9 => 95 | 19 => 118 | 20 => 119 | 21 => 109 | 22 => 110 | 23 => 111 | 24 => 112 | 25 => 113 | 26 => 114 | 27 => 115 | 28 => 116 | 29 => 117 | 36 => 123 | 31 => 124 | 32 => 125 | 37 => 126 | 38 => 127 | 39 => 128 | 41 => 132 | n => n, fun | 27 => 51 | 29 => 9 | 3 => 3 | 32 => 177 | 26 => 51 | 0 => 0 | 44 => 195 | 46 => 197 | 4 => 4 | 36 => 187 | 35 => 186 | 41 => 192 | 5 => 5 | 9 => 9 | 53 => 203 | 57 => 158 | 63 => 210 | 64 => 211 | n => n, fun | n => n⟩
theorem Tryz.sort76 : Go.Proofs.SlLaysM.n6 Tryz.prog Tryz.sort76_ren := {
  mixed := by kernel_rfl
  f6 := ⟨Tryz.f76.name, by decide, Tryz.func76.trans (congrArg some (by kernel_rfl))⟩
  f8 := Tryz.func96.trans (congrArg some (by kernel_rfl))
  f9 := ⟨Tryz.f95.name, by decide, Tryz.func95.trans (congrArg some (by kernel_rfl))⟩
  f19 := Tryz.func118.trans (congrArg some (by kernel_rfl))
  f20 := Tryz.func119.trans (congrArg some (by kernel_rfl))
  f21 := ⟨Tryz.f109.name, by decide, Tryz.func109.trans (congrArg some (by kernel_rfl))⟩
  f22 := ⟨Tryz.f110.name, by decide, Tryz.func110.trans (congrArg some (by kernel_rfl))⟩
  f23 := ⟨Tryz.f111.name, by decide, Tryz.func111.trans (congrArg some (by kernel_rfl))⟩
  f24 := ⟨Tryz.f112.name, by decide, Tryz.func112.trans (congrArg some (by kernel_rfl))⟩
  f25 := ⟨Tryz.f113.name, by decide, Tryz.func113.trans (congrArg some (by kernel_rfl))⟩
  f26 := ⟨Tryz.f114.name, by decide, Tryz.func114.trans (congrArg some (by kernel_rfl))⟩
  f27 := ⟨Tryz.f115.name, by decide, Tryz.func115.trans (congrArg some (by kernel_rfl))⟩
  f28 := ⟨Tryz.f116.name, by decide, Tryz.func116.trans (congrArg some (by kernel_rfl))⟩
  f29 := ⟨Tryz.f117.name, by decide, Tryz.func117.trans (congrArg some (by kernel_rfl))⟩
  f31 := Tryz.func124.trans (congrArg some (by kernel_rfl))
  f32 := Tryz.func125.trans (congrArg some (by kernel_rfl))
  f36 := ⟨Tryz.f123.name, by decide, Tryz.func123.trans (congrArg some (by kernel_rfl))⟩
  f37 := ⟨Tryz.f126.name, by decide, Tryz.func126.trans (congrArg some (by kernel_rfl))⟩
  f38 := ⟨Tryz.f127.name, by decide, Tryz.func127.trans (congrArg some (by kernel_rfl))⟩
  f39 := ⟨Tryz.f128.name, by decide, Tryz.func128.trans (congrArg some (by kernel_rfl))⟩
  f41 := ⟨Tryz.f132.name, by decide, Tryz.func132.trans (congrArg some (by kernel_rfl))⟩
  t0 := Tryz.underlying0
  a0 := Tryz.isAgg0
  z0 := Tryz.sizeOf0
  v0 := Tryz.zeroValue0
  t3 := Tryz.underlying3
  a3 := Tryz.isAgg3
  z3 := Tryz.sizeOf3
  v3 := Tryz.zeroValue3
  t4 := Tryz.underlying4
  a4 := Tryz.isAgg4
  z4 := Tryz.sizeOf4
  v4 := Tryz.zeroValue4
  t5 := Tryz.underlying5
  a5 := Tryz.isAgg5
  z5 := Tryz.sizeOf5
  v5 := Tryz.zeroValue5
  t9 := Tryz.underlying9
  a9 := Tryz.isAgg9
  z9 := Tryz.sizeOf9
  v9 := Tryz.zeroValue9
  t26 := Tryz.underlying51
  a26 := Tryz.isAgg51
  z26 := Tryz.sizeOf51
  v26 := Tryz.zeroValue51
  t27 := Tryz.underlying51
  a27 := Tryz.isAgg51
  z27 := Tryz.sizeOf51
  v27 := Tryz.zeroValue51
  t29 := Tryz.underlying9
  a29 := Tryz.isAgg9
  z29 := Tryz.sizeOf9
  v29 := Tryz.zeroValue9
  t32 := Tryz.underlying177
  a32 := Tryz.isAgg177
  z32 := Tryz.sizeOf177
  v32 := Tryz.zeroValue177
  t35 := Tryz.underlying186
  a35 := Tryz.isAgg186
  z35 := Tryz.sizeOf186
  v35 := Tryz.zeroValue186
  t36 := Tryz.underlying187
  a36 := Tryz.isAgg187
  z36 := Tryz.sizeOf187
  v36 := Tryz.zeroValue187
  t41 := Tryz.underlying192
  a41 := Tryz.isAgg192
  z41 := Tryz.sizeOf192
  v41 := Tryz.zeroValue192
  t44 := Tryz.underlying195
  a44 := Tryz.isAgg195
  z44 := Tryz.sizeOf195
  v44 := Tryz.zeroValue195
  t46 := Tryz.underlying197
  a46 := Tryz.isAgg197
  z46 := Tryz.sizeOf197
  v46 := Tryz.zeroValue197
  t53 := Tryz.underlying203
  a53 := Tryz.isAgg203
  z53 := Tryz.sizeOf203
  v53 := Tryz.zeroValue203
  t57 := Tryz.underlying158
  a57 := Tryz.isAgg158
  z57 := Tryz.sizeOf158
  v57 := Tryz.zeroValue158
  t63 := Tryz.underlying210
  a63 := Tryz.isAgg210
  z63 := Tryz.sizeOf210
  v63 := Tryz.zeroValue210
  t64 := Tryz.underlying211
  a64 := Tryz.isAgg211
  z64 := Tryz.sizeOf211
  v64 := Tryz.zeroValue211 }
open Go.RowKit Go.Maps Go.Sort in
theorem Tryz.sorts67 (m : Nat) : AnyZ.SortsIn Tryz.prog Tryz.sorted67_ren Fence.wide m :=
  ⟨fun blk off cap ss W hH hblk hsz => callsIn_wide.2 (AnyM.slices_Sort_string Tryz.sort76 blk off cap ss W hH hblk hsz),
   fun p cap W => callsIn_wide.2 (AnyM.slices_Sort_string_none Tryz.sort76 p cap W)⟩

theorem Tryz.sorted_key : Tryz.prog.underlying 9 = some .string := by kernel_rfl

open Go.RowKit Go.Maps Go.Sort in
theorem Tryz.slices_Sorted_keys_at (Bm b nn : Nat) (D0 : DataW Nat) (R : Value → Option (DataW Nat × List MemPlace)) (w : World) (hBm : Bm < w.heap.size) (hm : w.cell? ⟨Bm, 0, none⟩ = some (.map (some b))) (hown : w.ownsMap Tryz.prog 9 R b nn D0) (hmax : Maps.size D0 ≤ maxLen) (hbytes : Maps.size D0 * 16 ≤ 140737488355328) :
    Calls Tryz.prog 67 #[.func (.func 89) #[] #[.pointer (some ⟨Bm, 0, none⟩)]] w fun e w' => ∃ (v : Value) (ss : List (List UInt8)), e = .returned v ∧ ss.Perm (strKeys D0) ∧
      w'.ownsRow w.heap.size 9 1 v ss.length ((ss.mergeSort (fun x y => decide (x ≤ y))).map encStr) ∧ (v = .slice none 0 0 ↔ ss = []) ∧ Below w.heap.size w w' := by
  have hseq : SeqGives Fence.wide 2 Tryz.prog 89 #[.pointer (some ⟨Bm, 0, none⟩)] encStr (fun ss => ss.Perm (strKeys D0)) (Maps.size D0) w :=
    AnyZ.keys_gives (ρ := Tryz.keys68_ren) { Tryz.keys68 with } Fence.wide _ trivial rfl (by omega) Bm b nn D0 w hBm hm hown
  exact (callsIn_wide (n := 5)).1 (AnyZ.sorted_in Tryz.sorted67 Fence.wide 5 trivial trivial trivial trivial rfl (by omega) (Tryz.sorts67 _) (enters_of Tryz.func76 (by kernel_rfl) rfl) 89 #[.pointer (some ⟨Bm, 0, none⟩)] trivial (enters_of Tryz.func89 (by kernel_rfl) rfl) _ _ hmax hbytes _ hseq)

end Go.Proofs
