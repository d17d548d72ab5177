/-
  DERIVED: THE SHELF's CONTRACTS AT THIS DUMP, IN PLAIN WORDS (tools/lay-plain.mjs out of 'TryzShelf.lean', which tools/lay-shelf.mjs wrote): THE SAME DECLARATIONS UNDER THE SAME NAMES: 'import', 'namespace', 'open', 'def', 'theorem' AND NOTHING ELSE: no command of the shelf's: FOR A HAND-IN. Each laying: the table of numbers ('.._ren') and one theorem, a field a fact of the dump's own or the kernel's comparison; each contract: ONE APPLICATION.
-/
import Derived.Shelf.SlIter.Nil
import Derived.Shelf.SortM.Plain
import Derived.Shelf.SortM.SortNone
import Derived.Ground.GgzProg
import Derived.Ground.SlgmProg
import Derived.Shelf.Small.Bits
import Derived.Shelf.Strconv.Atoi
import Derived.Shelf.Strconv.Itoa0
import Derived.Shelf.Strconv.Itoa1
import Derived.Shelf.LaysM
import Derived.Shelf.Strconv.Itoa2
import Derived.Shelf.Strconv.Itoa3
import Derived.Shelf.Strconv.AtoiErrFast
import Derived.Shelf.Strconv.ParseIntEmpty
import Derived.Shelf.Strconv.AtoiFail
import Derived.Shelf.Strconv.Clone
import Derived.Shelf.Strconv.SyntaxError
import Derived.Shelf.LaysC
import Derived.Shelf.Strconv.ToError
import Derived.Shelf.Strconv.Lower
import Derived.Shelf.Strconv.ParseUint10
import Derived.Shelf.Strconv.ParseUint10Empty
import Derived.Shelf.Strconv.ParseUint10Any
import Derived.Shelf.Strconv.ParseInt10
import Derived.Shelf.Strconv.AtoiLong
import Derived.Shelf.Strconv.AtoiInnerAll
import Derived.Shelf.Strconv.RangeError
import Derived.Shelf.Strconv.ToErrorRange
import Derived.Shelf.Strconv.AtoiAll
import Derived.Shelf.Strconv.ErrVarAll
import Derived.Shelf.Strconv.ParseUintEmpty
import Derived.Shelf.Strconv.ParseUint10b64
import Derived.Shelf.Strconv.ParseUint10b32
import Derived.Shelf.Strconv.ParseUint10b16
import Derived.Shelf.Strconv.ParseUint10b8
import Derived.Shelf.Strconv.ParseUint10At
import Derived.Shelf.Strconv.ParseInt10At64
import Derived.Shelf.Strconv.ParseInt10At32
import Derived.Shelf.Strconv.ParseInt10At16
import Derived.Shelf.Strconv.ParseInt10At8
import Derived.Shelf.Strconv.ParseInt10All
import Derived.Shelf.Sort.Plain
import Derived.Shelf.Strings.Prefix
import Derived.Shelf.Slices.In.SortNone
import Derived.Test.YtpmdjfblfpjpoaaGreatDoorProg
set_option linter.all false
namespace Go.Proofs
open Go.Shelf
def Tryz.laysC172_ren : Go.Shelf.Ren := ⟨fun | 172 => 57 | 244 => 77 | 245 => 78 | 247 => 103 | 279 => 104 | 280 => 105 | 281 => 106 | 282 => 107 | 287 => 115 | 316 => 116 | 171 => 117 | 205 => 50 | 321 => 119 | 322 => 120 | 243 => 121 | 246 => 122 | 283 => 123 | 284 => 124 | 285 => 125 | 286 => 126 | 129 => 90 | 317 => 127 | 318 => 128 | 319 => 129 | 320 => 130 | 337 => 131 | 338 => 132 | n => n, fun | 9 => 9 | 3 => 3 | 75 => 111 | 76 => 143 | 4 => 4 | 5 => 5 | 167 => 183 | 37 => 75 | 0 => 0 | 85 => 184 | 2 => 2 | 168 => 186 | 53 => 181 | 175 => 195 | 46 => 149 | 210 => 198 | 127 => 204 | 145 => 155 | 143 => 153 | 21 => 21 | 171 => 206 | 173 => 208 | 212 => 212 | 51 => 179 | 20 => 20 | 213 => 213 | 232 => 215 | 233 => 216 | 80 => 217 | n => n, fun | 15 => 1 | 16 => 2 | 17 => 3 | 18 => 4 | 19 => 5 | n => n⟩
theorem Tryz.laysC172 : Go.Proofs.LaysC.n172 Tryz.prog Tryz.laysC172_ren := {
  mixed := by kernel_rfl
  f129 := Tryz.func90.trans (congrArg some (by kernel_rfl))
  f171 := Tryz.func117.trans (congrArg some (by kernel_rfl))
  f172 := Tryz.func57.trans (congrArg some (by kernel_rfl))
  f205 := Tryz.func50.trans (congrArg some (by kernel_rfl))
  f243 := Tryz.func121.trans (congrArg some (by kernel_rfl))
  f244 := Tryz.func77.trans (congrArg some (by kernel_rfl))
  f245 := Tryz.func78.trans (congrArg some (by kernel_rfl))
  f246 := Tryz.func122.trans (congrArg some (by kernel_rfl))
  f247 := Tryz.func103.trans (congrArg some (by kernel_rfl))
  f279 := Tryz.func104.trans (congrArg some (by kernel_rfl))
  f280 := Tryz.func105.trans (congrArg some (by kernel_rfl))
  f281 := Tryz.func106.trans (congrArg some (by kernel_rfl))
  f282 := Tryz.func107.trans (congrArg some (by kernel_rfl))
  f283 := Tryz.func123.trans (congrArg some (by kernel_rfl))
  f284 := Tryz.func124.trans (congrArg some (by kernel_rfl))
  f285 := Tryz.func125.trans (congrArg some (by kernel_rfl))
  f286 := Tryz.func126.trans (congrArg some (by kernel_rfl))
  f287 := Tryz.func115.trans (congrArg some (by kernel_rfl))
  f316 := Tryz.func116.trans (congrArg some (by kernel_rfl))
  f317 := Tryz.func127.trans (congrArg some (by kernel_rfl))
  f318 := Tryz.func128.trans (congrArg some (by kernel_rfl))
  f319 := Tryz.func129.trans (congrArg some (by kernel_rfl))
  f320 := Tryz.func130.trans (congrArg some (by kernel_rfl))
  f321 := Tryz.func119.trans (congrArg some (by kernel_rfl))
  f322 := Tryz.func120.trans (congrArg some (by kernel_rfl))
  f337 := Tryz.func131.trans (congrArg some (by kernel_rfl))
  f338 := Tryz.func132.trans (congrArg some (by kernel_rfl))
  t0 := Tryz.underlying0
  a0 := Tryz.isAgg0
  z0 := Tryz.sizeOf0
  v0 := Tryz.zeroValue0
  t2 := Tryz.underlying2
  a2 := Tryz.isAgg2
  z2 := Tryz.sizeOf2
  v2 := Tryz.zeroValue2
  t3 := Tryz.underlying3
  a3 := Tryz.isAgg3
  z3 := Tryz.sizeOf3
  v3 := Tryz.zeroValue3
  t4 := Tryz.underlying4
  a4 := Tryz.isAgg4
  z4 := Tryz.sizeOf4
  v4 := Tryz.zeroValue4
  t5 := Tryz.underlying5
  a5 := Tryz.isAgg5
  z5 := Tryz.sizeOf5
  v5 := Tryz.zeroValue5
  t9 := Tryz.underlying9
  a9 := Tryz.isAgg9
  z9 := Tryz.sizeOf9
  v9 := Tryz.zeroValue9
  t20 := Tryz.underlying20
  a20 := Tryz.isAgg20
  z20 := Tryz.sizeOf20
  v20 := Tryz.zeroValue20
  t21 := Tryz.underlying21
  a21 := Tryz.isAgg21
  z21 := Tryz.sizeOf21
  v21 := Tryz.zeroValue21
  t37 := Tryz.underlying75
  a37 := Tryz.isAgg75
  z37 := Tryz.sizeOf75
  v37 := Tryz.zeroValue75
  t46 := Tryz.underlying149
  a46 := Tryz.isAgg149
  z46 := Tryz.sizeOf149
  v46 := Tryz.zeroValue149
  t51 := Tryz.underlying179
  a51 := Tryz.isAgg179
  z51 := Tryz.sizeOf179
  v51 := Tryz.zeroValue179
  t53 := Tryz.underlying181
  a53 := Tryz.isAgg181
  z53 := Tryz.sizeOf181
  v53 := Tryz.zeroValue181
  t75 := Tryz.underlying111
  a75 := Tryz.isAgg111
  z75 := Tryz.sizeOf111
  v75 := Tryz.zeroValue111
  t76 := Tryz.underlying143
  a76 := Tryz.isAgg143
  z76 := Tryz.sizeOf143
  v76 := Tryz.zeroValue143
  t85 := Tryz.underlying184
  a85 := Tryz.isAgg184
  z85 := Tryz.sizeOf184
  v85 := Tryz.zeroValue184
  t127 := Tryz.underlying204
  a127 := Tryz.isAgg204
  z127 := Tryz.sizeOf204
  v127 := Tryz.zeroValue204
  t143 := Tryz.underlying153
  a143 := Tryz.isAgg153
  z143 := Tryz.sizeOf153
  v143 := Tryz.zeroValue153
  t145 := Tryz.underlying155
  a145 := Tryz.isAgg155
  z145 := Tryz.sizeOf155
  v145 := Tryz.zeroValue155
  t167 := Tryz.underlying183
  a167 := Tryz.isAgg183
  z167 := Tryz.sizeOf183
  v167 := Tryz.zeroValue183
  t168 := Tryz.underlying186
  a168 := Tryz.isAgg186
  z168 := Tryz.sizeOf186
  v168 := Tryz.zeroValue186
  t171 := Tryz.underlying206
  a171 := Tryz.isAgg206
  z171 := Tryz.sizeOf206
  v171 := Tryz.zeroValue206
  t173 := Tryz.underlying208
  a173 := Tryz.isAgg208
  z173 := Tryz.sizeOf208
  v173 := Tryz.zeroValue208
  t175 := Tryz.underlying195
  a175 := Tryz.isAgg195
  z175 := Tryz.sizeOf195
  v175 := Tryz.zeroValue195
  t210 := Tryz.underlying198
  a210 := Tryz.isAgg198
  z210 := Tryz.sizeOf198
  v210 := Tryz.zeroValue198
  t212 := Tryz.underlying212
  a212 := Tryz.isAgg212
  z212 := Tryz.sizeOf212
  v212 := Tryz.zeroValue212
  t213 := Tryz.underlying213
  a213 := Tryz.isAgg213
  z213 := Tryz.sizeOf213
  t232 := Tryz.underlying215
  a232 := Tryz.isAgg215
  z232 := Tryz.sizeOf215
  v232 := Tryz.zeroValue215
  t233 := Tryz.underlying216
  a233 := Tryz.isAgg216
  z233 := Tryz.sizeOf216
  v233 := Tryz.zeroValue216
  g15 := by kernel_rfl
  g16 := by kernel_rfl
  g17 := by kernel_rfl
  g18 := by kernel_rfl
  g19 := by kernel_rfl
  t80 := Tryz.underlying217
  a80 := Tryz.isAgg217
  z80 := Tryz.sizeOf217
  v80 := Tryz.zeroValue217
  i0 := by kernel_rfl
  i2 := by kernel_rfl
  i3 := by kernel_rfl
  i4 := by kernel_rfl
  i5 := by kernel_rfl
  i9 := by kernel_rfl
  i20 := by kernel_rfl
  i21 := by kernel_rfl
  i37 := by kernel_rfl
  i46 := by kernel_rfl
  i51 := by kernel_rfl
  i53 := by kernel_rfl
  i75 := by kernel_rfl
  i76 := by kernel_rfl
  i80 := by kernel_rfl
  i85 := by kernel_rfl
  i127 := by kernel_rfl
  i143 := by kernel_rfl
  i145 := by kernel_rfl
  i167 := by kernel_rfl
  i168 := by kernel_rfl
  i171 := by kernel_rfl
  i173 := by kernel_rfl
  i175 := by kernel_rfl
  i210 := by kernel_rfl
  i212 := by kernel_rfl
  i232 := by kernel_rfl
  i233 := by kernel_rfl
  m15 := by kernel_rfl
  m16 := by kernel_rfl
  m17 := by kernel_rfl
  m18 := by kernel_rfl
  m19 := by kernel_rfl
  c0 := by kernel_rfl
  c2 := by kernel_rfl
  c3 := by kernel_rfl
  c4 := by kernel_rfl
  c5 := by kernel_rfl
  c9 := by kernel_rfl
  c20 := by kernel_rfl
  c21 := by kernel_rfl
  c37 := by kernel_rfl
  c46 := by kernel_rfl
  c51 := by kernel_rfl
  c53 := by kernel_rfl
  c75 := by kernel_rfl
  c76 := by kernel_rfl
  c80 := by kernel_rfl
  c85 := by kernel_rfl
  c127 := by kernel_rfl
  c143 := by kernel_rfl
  c145 := by kernel_rfl
  c167 := by kernel_rfl
  c168 := by kernel_rfl
  c171 := by kernel_rfl
  c173 := by kernel_rfl
  c175 := by kernel_rfl
  c210 := by kernel_rfl
  c212 := by kernel_rfl
  c213 := by kernel_rfl
  c232 := by kernel_rfl
  c233 := by kernel_rfl }
def Tryz.lays190_ren : Go.Shelf.Ren := ⟨fun | 190 => 43 | 125 => 61 | 258 => 60 | 128 => 89 | 129 => 90 | 302 => 80 | 303 => 81 | 304 => 82 | 305 => 83 | 306 => 84 | 307 => 85 | 308 => 86 | 309 => 87 | 310 => 88 | 333 => 108 | 329 => 109 | 330 => 110 | 334 => 111 | 335 => 112 | 336 => 113 | 344 => 118 | n => n, fun | 31 => 45 | 9 => 9 | 3 => 3 | 46 => 149 | 0 => 0 | 51 => 179 | 53 => 181 | 4 => 4 | 183 => 171 | 182 => 170 | 131 => 176 | 5 => 5 | 218 => 189 | 222 => 133 | 228 => 200 | 229 => 201 | n => n, fun | n => n⟩
theorem Tryz.lays190 : Go.Proofs.Lays.n190 Tryz.prog Tryz.lays190_ren := {
  mixed := by kernel_rfl
  f125 := Tryz.func61.trans (congrArg some (by kernel_rfl))
  f128 := Tryz.func89.trans (congrArg some (by kernel_rfl))
  f129 := Tryz.func90.trans (congrArg some (by kernel_rfl))
  f190 := Tryz.func43.trans (congrArg some (by kernel_rfl))
  f258 := Tryz.func60.trans (congrArg some (by kernel_rfl))
  f302 := Tryz.func80.trans (congrArg some (by kernel_rfl))
  f303 := Tryz.func81.trans (congrArg some (by kernel_rfl))
  f304 := Tryz.func82.trans (congrArg some (by kernel_rfl))
  f305 := Tryz.func83.trans (congrArg some (by kernel_rfl))
  f306 := Tryz.func84.trans (congrArg some (by kernel_rfl))
  f307 := Tryz.func85.trans (congrArg some (by kernel_rfl))
  f308 := Tryz.func86.trans (congrArg some (by kernel_rfl))
  f309 := Tryz.func87.trans (congrArg some (by kernel_rfl))
  f310 := Tryz.func88.trans (congrArg some (by kernel_rfl))
  f329 := Tryz.func109.trans (congrArg some (by kernel_rfl))
  f330 := Tryz.func110.trans (congrArg some (by kernel_rfl))
  f333 := Tryz.func108.trans (congrArg some (by kernel_rfl))
  f334 := Tryz.func111.trans (congrArg some (by kernel_rfl))
  f335 := Tryz.func112.trans (congrArg some (by kernel_rfl))
  f336 := Tryz.func113.trans (congrArg some (by kernel_rfl))
  f344 := Tryz.func118.trans (congrArg some (by kernel_rfl))
  t0 := Tryz.underlying0
  a0 := Tryz.isAgg0
  z0 := Tryz.sizeOf0
  v0 := Tryz.zeroValue0
  t3 := Tryz.underlying3
  a3 := Tryz.isAgg3
  z3 := Tryz.sizeOf3
  v3 := Tryz.zeroValue3
  t4 := Tryz.underlying4
  a4 := Tryz.isAgg4
  z4 := Tryz.sizeOf4
  v4 := Tryz.zeroValue4
  t5 := Tryz.underlying5
  a5 := Tryz.isAgg5
  z5 := Tryz.sizeOf5
  v5 := Tryz.zeroValue5
  t9 := Tryz.underlying9
  a9 := Tryz.isAgg9
  z9 := Tryz.sizeOf9
  v9 := Tryz.zeroValue9
  t31 := Tryz.underlying45
  a31 := Tryz.isAgg45
  z31 := Tryz.sizeOf45
  v31 := Tryz.zeroValue45
  t46 := Tryz.underlying149
  a46 := Tryz.isAgg149
  z46 := Tryz.sizeOf149
  v46 := Tryz.zeroValue149
  t51 := Tryz.underlying179
  a51 := Tryz.isAgg179
  z51 := Tryz.sizeOf179
  v51 := Tryz.zeroValue179
  t53 := Tryz.underlying181
  a53 := Tryz.isAgg181
  z53 := Tryz.sizeOf181
  v53 := Tryz.zeroValue181
  t131 := Tryz.underlying176
  a131 := Tryz.isAgg176
  z131 := Tryz.sizeOf176
  v131 := Tryz.zeroValue176
  t182 := Tryz.underlying170
  a182 := Tryz.isAgg170
  z182 := Tryz.sizeOf170
  v182 := Tryz.zeroValue170
  t183 := Tryz.underlying171
  a183 := Tryz.isAgg171
  z183 := Tryz.sizeOf171
  v183 := Tryz.zeroValue171
  t218 := Tryz.underlying189
  a218 := Tryz.isAgg189
  z218 := Tryz.sizeOf189
  v218 := Tryz.zeroValue189
  t222 := Tryz.underlying133
  a222 := Tryz.isAgg133
  z222 := Tryz.sizeOf133
  v222 := Tryz.zeroValue133
  t228 := Tryz.underlying200
  a228 := Tryz.isAgg200
  z228 := Tryz.sizeOf200
  v228 := Tryz.zeroValue200
  t229 := Tryz.underlying201
  a229 := Tryz.isAgg201
  z229 := Tryz.sizeOf201
  v229 := Tryz.zeroValue201 }
open Go.Sort Go.RowKit in
theorem Tryz.slices_Sort_string (blk off cap : Nat) (ss : List (List UInt8)) (w : World) (hH : Holds encStr w blk off ss.toArray) (hblk : blk < w.heap.size) (hsz : ss.length < 4611686018427387904) :
    Calls Tryz.prog 43 #[.slice (some ⟨blk, off, none⟩) ss.length cap] w fun e w' =>
      e = .returned (.tuple #[]) ∧ ∃ n os, w' = grow (putRow encStr (Sort.ahead w n) blk off (ss.mergeSort fun x y => decide (x ≤ y)).toArray) os := Any.slices_Sort_string Tryz.lays190 blk off cap ss w hH hblk hsz
open Go.RowKit Go.Sort in
/-- .. and plain. (LAID: no walk: one application.) -/
theorem Tryz.slices_Sort_string_none (p : Option Addr) (cap : Nat) (w : World) :
    Calls Tryz.prog 43 #[.slice p 0 cap] w fun e w' => e = .returned (.tuple #[]) ∧ w' = w := Any.slices_Sort_string_none Tryz.lays190 p cap w
def Tryz.keys74_ren : Go.Shelf.Ren := ⟨fun | 7 => 74 | 10 => 101 | n => n, fun | 23 => 102 | 26 => 9 | 3 => 9 | 28 => 165 | 0 => 0 | 27 => 164 | 33 => 25 | 4 => 4 | n => n, fun | n => n⟩
theorem Tryz.keys74 : Go.Proofs.SlLaysZ.n7 Tryz.prog Tryz.keys74_ren := {
  mixed := by kernel_rfl
  f7 := ⟨Tryz.f74.name, by decide, Tryz.func74.trans (congrArg some (by kernel_rfl))⟩
  f10 := ⟨Tryz.f101.name, by decide, Tryz.func101.trans (congrArg some (by kernel_rfl))⟩
  t0 := Tryz.underlying0
  a0 := Tryz.isAgg0
  z0 := Tryz.sizeOf0
  v0 := Tryz.zeroValue0
  t4 := Tryz.underlying4
  a4 := Tryz.isAgg4
  z4 := Tryz.sizeOf4
  v4 := Tryz.zeroValue4
  t23 := Tryz.underlying102
  a23 := Tryz.isAgg102
  z23 := Tryz.sizeOf102
  v23 := Tryz.zeroValue102
  t26 := Tryz.underlying9
  a26 := Tryz.isAgg9
  z26 := Tryz.sizeOf9
  v26 := Tryz.zeroValue9
  t27 := Tryz.underlying164
  a27 := Tryz.isAgg164
  z27 := Tryz.sizeOf164
  v27 := Tryz.zeroValue164
  t28 := Tryz.underlying165
  a28 := Tryz.isAgg165
  z28 := Tryz.sizeOf165
  v28 := Tryz.zeroValue165
  t33 := Tryz.underlying25
  a33 := Tryz.isAgg25
  z33 := Tryz.sizeOf25
  v33 := Tryz.zeroValue25 }
def Tryz.sorted73_ren : Go.Shelf.Ren := ⟨fun | 6 => 73 | 8 => 100 | 9 => 43 | 11 => 114 | 13 => 61 | 12 => 60 | 23 => 89 | 24 => 90 | 14 => 80 | 15 => 81 | 16 => 82 | 17 => 83 | 18 => 84 | 19 => 85 | 20 => 86 | 21 => 87 | 22 => 88 | 25 => 108 | 26 => 109 | 27 => 110 | 28 => 111 | 29 => 112 | 30 => 113 | 31 => 118 | n => n, fun | 26 => 9 | 28 => 165 | 24 => 45 | 0 => 0 | 3 => 3 | 37 => 149 | 48 => 179 | 50 => 181 | 4 => 4 | 40 => 171 | 39 => 170 | 45 => 176 | 5 => 5 | 9 => 9 | 51 => 189 | 55 => 133 | 57 => 200 | 58 => 201 | 33 => 25 | n => n, fun | n => n⟩
theorem Tryz.sorted73 : Go.Proofs.SlLaysZ.n6 Tryz.prog Tryz.sorted73_ren := {
  mixed := by kernel_rfl
  f6 := ⟨Tryz.f73.name, by decide, Tryz.func73.trans (congrArg some (by kernel_rfl))⟩
  f8 := ⟨Tryz.f100.name, by decide, Tryz.func100.trans (congrArg some (by kernel_rfl))⟩
  f11 := ⟨Tryz.f114.name, by decide, Tryz.func114.trans (congrArg some (by kernel_rfl))⟩
  t0 := Tryz.underlying0
  a0 := Tryz.isAgg0
  z0 := Tryz.sizeOf0
  v0 := Tryz.zeroValue0
  t24 := Tryz.underlying45
  a24 := Tryz.isAgg45
  z24 := Tryz.sizeOf45
  v24 := Tryz.zeroValue45
  t26 := Tryz.underlying9
  a26 := Tryz.isAgg9
  z26 := Tryz.sizeOf9
  v26 := Tryz.zeroValue9
  t28 := Tryz.underlying165
  a28 := Tryz.isAgg165
  z28 := Tryz.sizeOf165
  v28 := Tryz.zeroValue165
  i26 := by kernel_rfl }
def Tryz.sort43_ren : Go.Shelf.Ren := ⟨fun | 6 => 43 | 8 => 61 | 9 => 60 | 19 => 89 | 20 => 90 | 21 => 80 | 22 => 81 | 23 => 82 | 24 => 83 | 25 => 84 | 26 => 85 | 27 => 86 | 28 => 87 | 29 => 88 | 36 => 108 | 31 => 109 | 32 => 110 | 37 => 111 | 38 => 112 | 39 => 113 | 41 => 118 | n => n, fun | 27 => 45 | 29 => 9 | 3 => 3 | 32 => 149 | 26 => 45 | 0 => 0 | 44 => 179 | 46 => 181 | 4 => 4 | 36 => 171 | 35 => 170 | 41 => 176 | 5 => 5 | 9 => 9 | 53 => 189 | 57 => 133 | 63 => 200 | 64 => 201 | n => n, fun | n => n⟩
theorem Tryz.sort43 : Go.Proofs.SlLaysM.n6 Tryz.prog Tryz.sort43_ren := {
  mixed := by kernel_rfl
  f6 := ⟨Tryz.f43.name, by decide, Tryz.func43.trans (congrArg some (by kernel_rfl))⟩
  f8 := Tryz.func61.trans (congrArg some (by kernel_rfl))
  f9 := ⟨Tryz.f60.name, by decide, Tryz.func60.trans (congrArg some (by kernel_rfl))⟩
  f19 := Tryz.func89.trans (congrArg some (by kernel_rfl))
  f20 := Tryz.func90.trans (congrArg some (by kernel_rfl))
  f21 := ⟨Tryz.f80.name, by decide, Tryz.func80.trans (congrArg some (by kernel_rfl))⟩
  f22 := ⟨Tryz.f81.name, by decide, Tryz.func81.trans (congrArg some (by kernel_rfl))⟩
  f23 := ⟨Tryz.f82.name, by decide, Tryz.func82.trans (congrArg some (by kernel_rfl))⟩
  f24 := ⟨Tryz.f83.name, by decide, Tryz.func83.trans (congrArg some (by kernel_rfl))⟩
  f25 := ⟨Tryz.f84.name, by decide, Tryz.func84.trans (congrArg some (by kernel_rfl))⟩
  f26 := ⟨Tryz.f85.name, by decide, Tryz.func85.trans (congrArg some (by kernel_rfl))⟩
  f27 := ⟨Tryz.f86.name, by decide, Tryz.func86.trans (congrArg some (by kernel_rfl))⟩
  f28 := ⟨Tryz.f87.name, by decide, Tryz.func87.trans (congrArg some (by kernel_rfl))⟩
  f29 := ⟨Tryz.f88.name, by decide, Tryz.func88.trans (congrArg some (by kernel_rfl))⟩
  f31 := Tryz.func109.trans (congrArg some (by kernel_rfl))
  f32 := Tryz.func110.trans (congrArg some (by kernel_rfl))
  f36 := ⟨Tryz.f108.name, by decide, Tryz.func108.trans (congrArg some (by kernel_rfl))⟩
  f37 := ⟨Tryz.f111.name, by decide, Tryz.func111.trans (congrArg some (by kernel_rfl))⟩
  f38 := ⟨Tryz.f112.name, by decide, Tryz.func112.trans (congrArg some (by kernel_rfl))⟩
  f39 := ⟨Tryz.f113.name, by decide, Tryz.func113.trans (congrArg some (by kernel_rfl))⟩
  f41 := ⟨Tryz.f118.name, by decide, Tryz.func118.trans (congrArg some (by kernel_rfl))⟩
  t0 := Tryz.underlying0
  a0 := Tryz.isAgg0
  z0 := Tryz.sizeOf0
  v0 := Tryz.zeroValue0
  t3 := Tryz.underlying3
  a3 := Tryz.isAgg3
  z3 := Tryz.sizeOf3
  v3 := Tryz.zeroValue3
  t4 := Tryz.underlying4
  a4 := Tryz.isAgg4
  z4 := Tryz.sizeOf4
  v4 := Tryz.zeroValue4
  t5 := Tryz.underlying5
  a5 := Tryz.isAgg5
  z5 := Tryz.sizeOf5
  v5 := Tryz.zeroValue5
  t9 := Tryz.underlying9
  a9 := Tryz.isAgg9
  z9 := Tryz.sizeOf9
  v9 := Tryz.zeroValue9
  t26 := Tryz.underlying45
  a26 := Tryz.isAgg45
  z26 := Tryz.sizeOf45
  v26 := Tryz.zeroValue45
  t27 := Tryz.underlying45
  a27 := Tryz.isAgg45
  z27 := Tryz.sizeOf45
  v27 := Tryz.zeroValue45
  t29 := Tryz.underlying9
  a29 := Tryz.isAgg9
  z29 := Tryz.sizeOf9
  v29 := Tryz.zeroValue9
  t32 := Tryz.underlying149
  a32 := Tryz.isAgg149
  z32 := Tryz.sizeOf149
  v32 := Tryz.zeroValue149
  t35 := Tryz.underlying170
  a35 := Tryz.isAgg170
  z35 := Tryz.sizeOf170
  v35 := Tryz.zeroValue170
  t36 := Tryz.underlying171
  a36 := Tryz.isAgg171
  z36 := Tryz.sizeOf171
  v36 := Tryz.zeroValue171
  t41 := Tryz.underlying176
  a41 := Tryz.isAgg176
  z41 := Tryz.sizeOf176
  v41 := Tryz.zeroValue176
  t44 := Tryz.underlying179
  a44 := Tryz.isAgg179
  z44 := Tryz.sizeOf179
  v44 := Tryz.zeroValue179
  t46 := Tryz.underlying181
  a46 := Tryz.isAgg181
  z46 := Tryz.sizeOf181
  v46 := Tryz.zeroValue181
  t53 := Tryz.underlying189
  a53 := Tryz.isAgg189
  z53 := Tryz.sizeOf189
  v53 := Tryz.zeroValue189
  t57 := Tryz.underlying133
  a57 := Tryz.isAgg133
  z57 := Tryz.sizeOf133
  v57 := Tryz.zeroValue133
  t63 := Tryz.underlying200
  a63 := Tryz.isAgg200
  z63 := Tryz.sizeOf200
  v63 := Tryz.zeroValue200
  t64 := Tryz.underlying201
  a64 := Tryz.isAgg201
  z64 := Tryz.sizeOf201
  v64 := Tryz.zeroValue201 }
open Go.RowKit Go.Maps Go.Sort in
theorem Tryz.sorts73 (m : Nat) : AnyZ.SortsIn Tryz.prog Tryz.sorted73_ren Fence.wide m :=
  ⟨fun blk off cap ss W hH hblk hsz => callsIn_wide.2 (AnyM.slices_Sort_string Tryz.sort43 blk off cap ss W hH hblk hsz),
   fun p cap W => callsIn_wide.2 (AnyM.slices_Sort_string_none Tryz.sort43 p cap W)⟩

theorem Tryz.sorted_key : Tryz.prog.underlying 9 = some .string := by kernel_rfl

open Go.RowKit Go.Maps Go.Sort in
theorem Tryz.slices_Sorted_keys_at (Bm b nn : Nat) (D0 : DataW Nat) (R : Value → Option (DataW Nat × List MemPlace)) (w : World) (hBm : Bm < w.heap.size) (hm : w.cell? ⟨Bm, 0, none⟩ = some (.map (some b))) (hown : w.ownsMap Tryz.prog 9 R b nn D0) (hmax : Maps.size D0 ≤ maxLen) (hbytes : Maps.size D0 * 16 ≤ 140737488355328) :
    Calls Tryz.prog 73 #[.func (.func 101) #[] #[.pointer (some ⟨Bm, 0, none⟩)]] w fun e w' => ∃ (v : Value) (ss : List (List UInt8)), e = .returned v ∧ ss.Perm (strKeys D0) ∧
      w'.ownsRow w.heap.size 9 1 v ss.length ((ss.mergeSort (fun x y => decide (x ≤ y))).map encStr) ∧ (v = .slice none 0 0 ↔ ss = []) ∧ Below w.heap.size w w' := by
  have hseq : SeqGives Fence.wide 2 Tryz.prog 101 #[.pointer (some ⟨Bm, 0, none⟩)] encStr (fun ss => ss.Perm (strKeys D0)) (Maps.size D0) w :=
    AnyZ.keys_gives (ρ := Tryz.keys74_ren) { Tryz.keys74 with } Fence.wide _ trivial rfl (by omega) Bm b nn D0 w hBm hm hown
  exact (callsIn_wide (n := 5)).1 (AnyZ.sorted_in Tryz.sorted73 Fence.wide 5 trivial trivial trivial trivial rfl (by omega) (Tryz.sorts73 _) (enters_of Tryz.func43 (by kernel_rfl) rfl) 101 #[.pointer (some ⟨Bm, 0, none⟩)] trivial (enters_of Tryz.func101 (by kernel_rfl) rfl) _ _ hmax hbytes _ hseq)

end Go.Proofs
