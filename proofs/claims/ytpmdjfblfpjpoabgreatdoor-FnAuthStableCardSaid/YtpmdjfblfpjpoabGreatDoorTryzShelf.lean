/-
  DERIVED: THE SHELF's CONTRACTS AT THIS DUMP, IN PLAIN WORDS (tools/lay-plain.mjs out of 'TryzShelf.lean', which tools/lay-shelf.mjs wrote): THE SAME DECLARATIONS UNDER THE SAME NAMES: 'import', 'namespace', 'open', 'def', 'theorem' AND NOTHING ELSE: no command of the shelf's: FOR A HAND-IN. Each laying: the table of numbers ('.._ren') and one theorem, a field a fact of the dump's own or the kernel's comparison; each contract: ONE APPLICATION.
-/
import Derived.Shelf.SlIter.Nil
import Derived.Shelf.SortM.Plain
import Derived.Shelf.SortM.SortNone
import Derived.Ground.GgzProg
import Derived.Ground.SlgmProg
import Derived.Shelf.Small.Bits
import Derived.Shelf.Strconv.Atoi
import Derived.Shelf.Strconv.Itoa0
import Derived.Shelf.Strconv.Itoa1
import Derived.Shelf.LaysM
import Derived.Shelf.Strconv.Itoa2
import Derived.Shelf.Strconv.Itoa3
import Derived.Shelf.Strconv.AtoiErrFast
import Derived.Shelf.Strconv.ParseIntEmpty
import Derived.Shelf.Strconv.AtoiFail
import Derived.Shelf.Strconv.Clone
import Derived.Shelf.Strconv.SyntaxError
import Derived.Shelf.LaysC
import Derived.Shelf.Strconv.ToError
import Derived.Shelf.Strconv.Lower
import Derived.Shelf.Strconv.ParseUint10
import Derived.Shelf.Strconv.ParseUint10Empty
import Derived.Shelf.Strconv.ParseUint10Any
import Derived.Shelf.Strconv.ParseInt10
import Derived.Shelf.Strconv.AtoiLong
import Derived.Shelf.Strconv.AtoiInnerAll
import Derived.Shelf.Strconv.RangeError
import Derived.Shelf.Strconv.ToErrorRange
import Derived.Shelf.Strconv.AtoiAll
import Derived.Shelf.Strconv.ErrVarAll
import Derived.Shelf.Strconv.ParseUintEmpty
import Derived.Shelf.Strconv.ParseUint10b64
import Derived.Shelf.Strconv.ParseUint10b32
import Derived.Shelf.Strconv.ParseUint10b16
import Derived.Shelf.Strconv.ParseUint10b8
import Derived.Shelf.Strconv.ParseUint10At
import Derived.Shelf.Strconv.ParseInt10At64
import Derived.Shelf.Strconv.ParseInt10At32
import Derived.Shelf.Strconv.ParseInt10At16
import Derived.Shelf.Strconv.ParseInt10At8
import Derived.Shelf.Strconv.ParseInt10All
import Derived.Shelf.Sort.Plain
import Derived.Shelf.Strings.Prefix
import Derived.Shelf.Slices.In.SortNone
import Derived.Test.YtpmdjfblfpjpoabGreatDoorProg
set_option linter.all false
namespace Go.Proofs
open Go.Shelf
def Tryz.laysC172_ren : Go.Shelf.Ren := ⟨fun | 172 => 50 | 244 => 69 | 245 => 70 | 247 => 81 | 279 => 82 | 280 => 83 | 281 => 84 | 282 => 85 | 287 => 97 | 316 => 98 | 171 => 99 | 205 => 30 | 321 => 106 | 322 => 107 | 243 => 108 | 246 => 110 | 283 => 111 | 284 => 112 | 285 => 113 | 286 => 114 | 129 => 96 | 317 => 115 | 318 => 116 | 319 => 117 | 320 => 118 | 337 => 119 | 338 => 120 | n => n, fun | 9 => 9 | 3 => 3 | 75 => 32 | 76 => 142 | 4 => 4 | 5 => 5 | 167 => 153 | 37 => 99 | 0 => 0 | 85 => 154 | 2 => 2 | 168 => 156 | 53 => 171 | 175 => 172 | 46 => 151 | 210 => 175 | 127 => 183 | 145 => 113 | 143 => 111 | 21 => 21 | 171 => 188 | 173 => 190 | 212 => 194 | 51 => 169 | 20 => 20 | 213 => 195 | 232 => 197 | 233 => 198 | 80 => 199 | n => n, fun | 15 => 1 | 16 => 2 | 17 => 3 | 18 => 4 | 19 => 5 | n => n⟩
theorem Tryz.laysC172 : Go.Proofs.LaysC.n172 Tryz.prog Tryz.laysC172_ren := {
  mixed := by kernel_rfl
  f129 := Tryz.func96.trans (congrArg some (by kernel_rfl))
  f171 := Tryz.func99.trans (congrArg some (by kernel_rfl))
  f172 := Tryz.func50.trans (congrArg some (by kernel_rfl))
  f205 := Tryz.func30.trans (congrArg some (by kernel_rfl))
  f243 := Tryz.func108.trans (congrArg some (by kernel_rfl))
  f244 := Tryz.func69.trans (congrArg some (by kernel_rfl))
  f245 := Tryz.func70.trans (congrArg some (by kernel_rfl))
  f246 := Tryz.func110.trans (congrArg some (by kernel_rfl))
  f247 := Tryz.func81.trans (congrArg some (by kernel_rfl))
  f279 := Tryz.func82.trans (congrArg some (by kernel_rfl))
  f280 := Tryz.func83.trans (congrArg some (by kernel_rfl))
  f281 := Tryz.func84.trans (congrArg some (by kernel_rfl))
  f282 := Tryz.func85.trans (congrArg some (by kernel_rfl))
  f283 := Tryz.func111.trans (congrArg some (by kernel_rfl))
  f284 := Tryz.func112.trans (congrArg some (by kernel_rfl))
  f285 := Tryz.func113.trans (congrArg some (by kernel_rfl))
  f286 := Tryz.func114.trans (congrArg some (by kernel_rfl))
  f287 := Tryz.func97.trans (congrArg some (by kernel_rfl))
  f316 := Tryz.func98.trans (congrArg some (by kernel_rfl))
  f317 := Tryz.func115.trans (congrArg some (by kernel_rfl))
  f318 := Tryz.func116.trans (congrArg some (by kernel_rfl))
  f319 := Tryz.func117.trans (congrArg some (by kernel_rfl))
  f320 := Tryz.func118.trans (congrArg some (by kernel_rfl))
  f321 := Tryz.func106.trans (congrArg some (by kernel_rfl))
  f322 := Tryz.func107.trans (congrArg some (by kernel_rfl))
  f337 := Tryz.func119.trans (congrArg some (by kernel_rfl))
  f338 := Tryz.func120.trans (congrArg some (by kernel_rfl))
  t0 := Tryz.underlying0
  a0 := Tryz.isAgg0
  z0 := Tryz.sizeOf0
  v0 := Tryz.zeroValue0
  t2 := Tryz.underlying2
  a2 := Tryz.isAgg2
  z2 := Tryz.sizeOf2
  v2 := Tryz.zeroValue2
  t3 := Tryz.underlying3
  a3 := Tryz.isAgg3
  z3 := Tryz.sizeOf3
  v3 := Tryz.zeroValue3
  t4 := Tryz.underlying4
  a4 := Tryz.isAgg4
  z4 := Tryz.sizeOf4
  v4 := Tryz.zeroValue4
  t5 := Tryz.underlying5
  a5 := Tryz.isAgg5
  z5 := Tryz.sizeOf5
  v5 := Tryz.zeroValue5
  t9 := Tryz.underlying9
  a9 := Tryz.isAgg9
  z9 := Tryz.sizeOf9
  v9 := Tryz.zeroValue9
  t20 := Tryz.underlying20
  a20 := Tryz.isAgg20
  z20 := Tryz.sizeOf20
  v20 := Tryz.zeroValue20
  t21 := Tryz.underlying21
  a21 := Tryz.isAgg21
  z21 := Tryz.sizeOf21
  v21 := Tryz.zeroValue21
  t37 := Tryz.underlying99
  a37 := Tryz.isAgg99
  z37 := Tryz.sizeOf99
  v37 := Tryz.zeroValue99
  t46 := Tryz.underlying151
  a46 := Tryz.isAgg151
  z46 := Tryz.sizeOf151
  v46 := Tryz.zeroValue151
  t51 := Tryz.underlying169
  a51 := Tryz.isAgg169
  z51 := Tryz.sizeOf169
  v51 := Tryz.zeroValue169
  t53 := Tryz.underlying171
  a53 := Tryz.isAgg171
  z53 := Tryz.sizeOf171
  v53 := Tryz.zeroValue171
  t75 := Tryz.underlying32
  a75 := Tryz.isAgg32
  z75 := Tryz.sizeOf32
  v75 := Tryz.zeroValue32
  t76 := Tryz.underlying142
  a76 := Tryz.isAgg142
  z76 := Tryz.sizeOf142
  v76 := Tryz.zeroValue142
  t85 := Tryz.underlying154
  a85 := Tryz.isAgg154
  z85 := Tryz.sizeOf154
  v85 := Tryz.zeroValue154
  t127 := Tryz.underlying183
  a127 := Tryz.isAgg183
  z127 := Tryz.sizeOf183
  v127 := Tryz.zeroValue183
  t143 := Tryz.underlying111
  a143 := Tryz.isAgg111
  z143 := Tryz.sizeOf111
  v143 := Tryz.zeroValue111
  t145 := Tryz.underlying113
  a145 := Tryz.isAgg113
  z145 := Tryz.sizeOf113
  v145 := Tryz.zeroValue113
  t167 := Tryz.underlying153
  a167 := Tryz.isAgg153
  z167 := Tryz.sizeOf153
  v167 := Tryz.zeroValue153
  t168 := Tryz.underlying156
  a168 := Tryz.isAgg156
  z168 := Tryz.sizeOf156
  v168 := Tryz.zeroValue156
  t171 := Tryz.underlying188
  a171 := Tryz.isAgg188
  z171 := Tryz.sizeOf188
  v171 := Tryz.zeroValue188
  t173 := Tryz.underlying190
  a173 := Tryz.isAgg190
  z173 := Tryz.sizeOf190
  v173 := Tryz.zeroValue190
  t175 := Tryz.underlying172
  a175 := Tryz.isAgg172
  z175 := Tryz.sizeOf172
  v175 := Tryz.zeroValue172
  t210 := Tryz.underlying175
  a210 := Tryz.isAgg175
  z210 := Tryz.sizeOf175
  v210 := Tryz.zeroValue175
  t212 := Tryz.underlying194
  a212 := Tryz.isAgg194
  z212 := Tryz.sizeOf194
  v212 := Tryz.zeroValue194
  t213 := Tryz.underlying195
  a213 := Tryz.isAgg195
  z213 := Tryz.sizeOf195
  t232 := Tryz.underlying197
  a232 := Tryz.isAgg197
  z232 := Tryz.sizeOf197
  v232 := Tryz.zeroValue197
  t233 := Tryz.underlying198
  a233 := Tryz.isAgg198
  z233 := Tryz.sizeOf198
  v233 := Tryz.zeroValue198
  g15 := by kernel_rfl
  g16 := by kernel_rfl
  g17 := by kernel_rfl
  g18 := by kernel_rfl
  g19 := by kernel_rfl
  t80 := Tryz.underlying199
  a80 := Tryz.isAgg199
  z80 := Tryz.sizeOf199
  v80 := Tryz.zeroValue199
  i0 := by kernel_rfl
  i2 := by kernel_rfl
  i3 := by kernel_rfl
  i4 := by kernel_rfl
  i5 := by kernel_rfl
  i9 := by kernel_rfl
  i20 := by kernel_rfl
  i21 := by kernel_rfl
  i37 := by kernel_rfl
  i46 := by kernel_rfl
  i51 := by kernel_rfl
  i53 := by kernel_rfl
  i75 := by kernel_rfl
  i76 := by kernel_rfl
  i80 := by kernel_rfl
  i85 := by kernel_rfl
  i127 := by kernel_rfl
  i143 := by kernel_rfl
  i145 := by kernel_rfl
  i167 := by kernel_rfl
  i168 := by kernel_rfl
  i171 := by kernel_rfl
  i173 := by kernel_rfl
  i175 := by kernel_rfl
  i210 := by kernel_rfl
  i212 := by kernel_rfl
  i232 := by kernel_rfl
  i233 := by kernel_rfl
  m15 := by kernel_rfl
  m16 := by kernel_rfl
  m17 := by kernel_rfl
  m18 := by kernel_rfl
  m19 := by kernel_rfl
  c0 := by kernel_rfl
  c2 := by kernel_rfl
  c3 := by kernel_rfl
  c4 := by kernel_rfl
  c5 := by kernel_rfl
  c9 := by kernel_rfl
  c20 := by kernel_rfl
  c21 := by kernel_rfl
  c37 := by kernel_rfl
  c46 := by kernel_rfl
  c51 := by kernel_rfl
  c53 := by kernel_rfl
  c75 := by kernel_rfl
  c76 := by kernel_rfl
  c80 := by kernel_rfl
  c85 := by kernel_rfl
  c127 := by kernel_rfl
  c143 := by kernel_rfl
  c145 := by kernel_rfl
  c167 := by kernel_rfl
  c168 := by kernel_rfl
  c171 := by kernel_rfl
  c173 := by kernel_rfl
  c175 := by kernel_rfl
  c210 := by kernel_rfl
  c212 := by kernel_rfl
  c213 := by kernel_rfl
  c232 := by kernel_rfl
  c233 := by kernel_rfl }
def Tryz.lays190_ren : Go.Shelf.Ren := ⟨fun | 190 => 53 | 125 => 73 | 258 => 72 | 128 => 95 | 129 => 96 | 302 => 86 | 303 => 87 | 304 => 88 | 305 => 89 | 306 => 90 | 307 => 91 | 308 => 92 | 309 => 93 | 310 => 94 | 333 => 100 | 329 => 101 | 330 => 102 | 334 => 103 | 335 => 104 | 336 => 105 | 344 => 109 | n => n, fun | 31 => 43 | 9 => 9 | 3 => 3 | 46 => 151 | 0 => 0 | 51 => 169 | 53 => 171 | 4 => 4 | 183 => 161 | 182 => 160 | 131 => 166 | 5 => 5 | 218 => 177 | 222 => 131 | 228 => 184 | 229 => 185 | n => n, fun | n => n⟩
theorem Tryz.lays190 : Go.Proofs.Lays.n190 Tryz.prog Tryz.lays190_ren := {
  mixed := by kernel_rfl
  f125 := Tryz.func73.trans (congrArg some (by kernel_rfl))
  f128 := Tryz.func95.trans (congrArg some (by kernel_rfl))
  f129 := Tryz.func96.trans (congrArg some (by kernel_rfl))
  f190 := Tryz.func53.trans (congrArg some (by kernel_rfl))
  f258 := Tryz.func72.trans (congrArg some (by kernel_rfl))
  f302 := Tryz.func86.trans (congrArg some (by kernel_rfl))
  f303 := Tryz.func87.trans (congrArg some (by kernel_rfl))
  f304 := Tryz.func88.trans (congrArg some (by kernel_rfl))
  f305 := Tryz.func89.trans (congrArg some (by kernel_rfl))
  f306 := Tryz.func90.trans (congrArg some (by kernel_rfl))
  f307 := Tryz.func91.trans (congrArg some (by kernel_rfl))
  f308 := Tryz.func92.trans (congrArg some (by kernel_rfl))
  f309 := Tryz.func93.trans (congrArg some (by kernel_rfl))
  f310 := Tryz.func94.trans (congrArg some (by kernel_rfl))
  f329 := Tryz.func101.trans (congrArg some (by kernel_rfl))
  f330 := Tryz.func102.trans (congrArg some (by kernel_rfl))
  f333 := Tryz.func100.trans (congrArg some (by kernel_rfl))
  f334 := Tryz.func103.trans (congrArg some (by kernel_rfl))
  f335 := Tryz.func104.trans (congrArg some (by kernel_rfl))
  f336 := Tryz.func105.trans (congrArg some (by kernel_rfl))
  f344 := Tryz.func109.trans (congrArg some (by kernel_rfl))
  t0 := Tryz.underlying0
  a0 := Tryz.isAgg0
  z0 := Tryz.sizeOf0
  v0 := Tryz.zeroValue0
  t3 := Tryz.underlying3
  a3 := Tryz.isAgg3
  z3 := Tryz.sizeOf3
  v3 := Tryz.zeroValue3
  t4 := Tryz.underlying4
  a4 := Tryz.isAgg4
  z4 := Tryz.sizeOf4
  v4 := Tryz.zeroValue4
  t5 := Tryz.underlying5
  a5 := Tryz.isAgg5
  z5 := Tryz.sizeOf5
  v5 := Tryz.zeroValue5
  t9 := Tryz.underlying9
  a9 := Tryz.isAgg9
  z9 := Tryz.sizeOf9
  v9 := Tryz.zeroValue9
  t31 := Tryz.underlying43
  a31 := Tryz.isAgg43
  z31 := Tryz.sizeOf43
  v31 := Tryz.zeroValue43
  t46 := Tryz.underlying151
  a46 := Tryz.isAgg151
  z46 := Tryz.sizeOf151
  v46 := Tryz.zeroValue151
  t51 := Tryz.underlying169
  a51 := Tryz.isAgg169
  z51 := Tryz.sizeOf169
  v51 := Tryz.zeroValue169
  t53 := Tryz.underlying171
  a53 := Tryz.isAgg171
  z53 := Tryz.sizeOf171
  v53 := Tryz.zeroValue171
  t131 := Tryz.underlying166
  a131 := Tryz.isAgg166
  z131 := Tryz.sizeOf166
  v131 := Tryz.zeroValue166
  t182 := Tryz.underlying160
  a182 := Tryz.isAgg160
  z182 := Tryz.sizeOf160
  v182 := Tryz.zeroValue160
  t183 := Tryz.underlying161
  a183 := Tryz.isAgg161
  z183 := Tryz.sizeOf161
  v183 := Tryz.zeroValue161
  t218 := Tryz.underlying177
  a218 := Tryz.isAgg177
  z218 := Tryz.sizeOf177
  v218 := Tryz.zeroValue177
  t222 := Tryz.underlying131
  a222 := Tryz.isAgg131
  z222 := Tryz.sizeOf131
  v222 := Tryz.zeroValue131
  t228 := Tryz.underlying184
  a228 := Tryz.isAgg184
  z228 := Tryz.sizeOf184
  v228 := Tryz.zeroValue184
  t229 := Tryz.underlying185
  a229 := Tryz.isAgg185
  z229 := Tryz.sizeOf185
  v229 := Tryz.zeroValue185 }
open Go.Sort Go.RowKit in
theorem Tryz.slices_Sort_string (blk off cap : Nat) (ss : List (List UInt8)) (w : World) (hH : Holds encStr w blk off ss.toArray) (hblk : blk < w.heap.size) (hsz : ss.length < 4611686018427387904) :
    Calls Tryz.prog 53 #[.slice (some ⟨blk, off, none⟩) ss.length cap] w fun e w' =>
      e = .returned (.tuple #[]) ∧ ∃ n os, w' = grow (putRow encStr (Sort.ahead w n) blk off (ss.mergeSort fun x y => decide (x ≤ y)).toArray) os := Any.slices_Sort_string Tryz.lays190 blk off cap ss w hH hblk hsz
open Go.RowKit Go.Sort in
/-- .. and plain. (LAID: no walk: one application.) -/
theorem Tryz.slices_Sort_string_none (p : Option Addr) (cap : Nat) (w : World) :
    Calls Tryz.prog 53 #[.slice p 0 cap] w fun e w' => e = .returned (.tuple #[]) ∧ w' = w := Any.slices_Sort_string_none Tryz.lays190 p cap w
def Tryz.keys45_ren : Go.Shelf.Ren := ⟨fun | 7 => 45 | 10 => 66 | n => n, fun | 23 => 94 | 26 => 9 | 3 => 9 | 28 => 124 | 0 => 0 | 27 => 123 | 33 => 25 | 4 => 4 | n => n, fun | n => n⟩
theorem Tryz.keys45 : Go.Proofs.SlLaysZ.n7 Tryz.prog Tryz.keys45_ren := {
  mixed := by kernel_rfl
  f7 := ⟨Tryz.f45.name, by decide, Tryz.func45.trans (congrArg some (by kernel_rfl))⟩
  f10 := ⟨Tryz.f66.name, by decide, Tryz.func66.trans (congrArg some (by kernel_rfl))⟩
  t0 := Tryz.underlying0
  a0 := Tryz.isAgg0
  z0 := Tryz.sizeOf0
  v0 := Tryz.zeroValue0
  t4 := Tryz.underlying4
  a4 := Tryz.isAgg4
  z4 := Tryz.sizeOf4
  v4 := Tryz.zeroValue4
  t23 := Tryz.underlying94
  a23 := Tryz.isAgg94
  z23 := Tryz.sizeOf94
  v23 := Tryz.zeroValue94
  t26 := Tryz.underlying9
  a26 := Tryz.isAgg9
  z26 := Tryz.sizeOf9
  v26 := Tryz.zeroValue9
  t27 := Tryz.underlying123
  a27 := Tryz.isAgg123
  z27 := Tryz.sizeOf123
  v27 := Tryz.zeroValue123
  t28 := Tryz.underlying124
  a28 := Tryz.isAgg124
  z28 := Tryz.sizeOf124
  v28 := Tryz.zeroValue124
  t33 := Tryz.underlying25
  a33 := Tryz.isAgg25
  z33 := Tryz.sizeOf25
  v33 := Tryz.zeroValue25 }
def Tryz.sorted44_ren : Go.Shelf.Ren := ⟨fun | 6 => 44 | 8 => 65 | 9 => 53 | 11 => 79 | 13 => 73 | 12 => 72 | 23 => 95 | 24 => 96 | 14 => 86 | 15 => 87 | 16 => 88 | 17 => 89 | 18 => 90 | 19 => 91 | 20 => 92 | 21 => 93 | 22 => 94 | 25 => 100 | 26 => 101 | 27 => 102 | 28 => 103 | 29 => 104 | 30 => 105 | 31 => 109 | n => n, fun | 26 => 9 | 28 => 124 | 24 => 43 | 0 => 0 | 3 => 3 | 37 => 151 | 48 => 169 | 50 => 171 | 4 => 4 | 40 => 161 | 39 => 160 | 45 => 166 | 5 => 5 | 9 => 9 | 51 => 177 | 55 => 131 | 57 => 184 | 58 => 185 | 33 => 25 | n => n, fun | n => n⟩
theorem Tryz.sorted44 : Go.Proofs.SlLaysZ.n6 Tryz.prog Tryz.sorted44_ren := {
  mixed := by kernel_rfl
  f6 := ⟨Tryz.f44.name, by decide, Tryz.func44.trans (congrArg some (by kernel_rfl))⟩
  f8 := ⟨Tryz.f65.name, by decide, Tryz.func65.trans (congrArg some (by kernel_rfl))⟩
  f11 := ⟨Tryz.f79.name, by decide, Tryz.func79.trans (congrArg some (by kernel_rfl))⟩
  t0 := Tryz.underlying0
  a0 := Tryz.isAgg0
  z0 := Tryz.sizeOf0
  v0 := Tryz.zeroValue0
  t24 := Tryz.underlying43
  a24 := Tryz.isAgg43
  z24 := Tryz.sizeOf43
  v24 := Tryz.zeroValue43
  t26 := Tryz.underlying9
  a26 := Tryz.isAgg9
  z26 := Tryz.sizeOf9
  v26 := Tryz.zeroValue9
  t28 := Tryz.underlying124
  a28 := Tryz.isAgg124
  z28 := Tryz.sizeOf124
  v28 := Tryz.zeroValue124
  i26 := by kernel_rfl }
def Tryz.sort53_ren : Go.Shelf.Ren := ⟨fun | 6 => 53 | 8 => 73 | 9 => 72 | 19 => 95 | 20 => 96 | 21 => 86 | 22 => 87 | 23 => 88 | 24 => 89 | 25 => 90 | 26 => 91 | 27 => 92 | 28 => 93 | 29 => 94 | 36 => 100 | 31 => 101 | 32 => 102 | 37 => 103 | 38 => 104 | 39 => 105 | 41 => 109 | n => n, fun | 27 => 43 | 29 => 9 | 3 => 3 | 32 => 151 | 26 => 43 | 0 => 0 | 44 => 169 | 46 => 171 | 4 => 4 | 36 => 161 | 35 => 160 | 41 => 166 | 5 => 5 | 9 => 9 | 53 => 177 | 57 => 131 | 63 => 184 | 64 => 185 | n => n, fun | n => n⟩
theorem Tryz.sort53 : Go.Proofs.SlLaysM.n6 Tryz.prog Tryz.sort53_ren := {
  mixed := by kernel_rfl
  f6 := ⟨Tryz.f53.name, by decide, Tryz.func53.trans (congrArg some (by kernel_rfl))⟩
  f8 := Tryz.func73.trans (congrArg some (by kernel_rfl))
  f9 := ⟨Tryz.f72.name, by decide, Tryz.func72.trans (congrArg some (by kernel_rfl))⟩
  f19 := Tryz.func95.trans (congrArg some (by kernel_rfl))
  f20 := Tryz.func96.trans (congrArg some (by kernel_rfl))
  f21 := ⟨Tryz.f86.name, by decide, Tryz.func86.trans (congrArg some (by kernel_rfl))⟩
  f22 := ⟨Tryz.f87.name, by decide, Tryz.func87.trans (congrArg some (by kernel_rfl))⟩
  f23 := ⟨Tryz.f88.name, by decide, Tryz.func88.trans (congrArg some (by kernel_rfl))⟩
  f24 := ⟨Tryz.f89.name, by decide, Tryz.func89.trans (congrArg some (by kernel_rfl))⟩
  f25 := ⟨Tryz.f90.name, by decide, Tryz.func90.trans (congrArg some (by kernel_rfl))⟩
  f26 := ⟨Tryz.f91.name, by decide, Tryz.func91.trans (congrArg some (by kernel_rfl))⟩
  f27 := ⟨Tryz.f92.name, by decide, Tryz.func92.trans (congrArg some (by kernel_rfl))⟩
  f28 := ⟨Tryz.f93.name, by decide, Tryz.func93.trans (congrArg some (by kernel_rfl))⟩
  f29 := ⟨Tryz.f94.name, by decide, Tryz.func94.trans (congrArg some (by kernel_rfl))⟩
  f31 := Tryz.func101.trans (congrArg some (by kernel_rfl))
  f32 := Tryz.func102.trans (congrArg some (by kernel_rfl))
  f36 := ⟨Tryz.f100.name, by decide, Tryz.func100.trans (congrArg some (by kernel_rfl))⟩
  f37 := ⟨Tryz.f103.name, by decide, Tryz.func103.trans (congrArg some (by kernel_rfl))⟩
  f38 := ⟨Tryz.f104.name, by decide, Tryz.func104.trans (congrArg some (by kernel_rfl))⟩
  f39 := ⟨Tryz.f105.name, by decide, Tryz.func105.trans (congrArg some (by kernel_rfl))⟩
  f41 := ⟨Tryz.f109.name, by decide, Tryz.func109.trans (congrArg some (by kernel_rfl))⟩
  t0 := Tryz.underlying0
  a0 := Tryz.isAgg0
  z0 := Tryz.sizeOf0
  v0 := Tryz.zeroValue0
  t3 := Tryz.underlying3
  a3 := Tryz.isAgg3
  z3 := Tryz.sizeOf3
  v3 := Tryz.zeroValue3
  t4 := Tryz.underlying4
  a4 := Tryz.isAgg4
  z4 := Tryz.sizeOf4
  v4 := Tryz.zeroValue4
  t5 := Tryz.underlying5
  a5 := Tryz.isAgg5
  z5 := Tryz.sizeOf5
  v5 := Tryz.zeroValue5
  t9 := Tryz.underlying9
  a9 := Tryz.isAgg9
  z9 := Tryz.sizeOf9
  v9 := Tryz.zeroValue9
  t26 := Tryz.underlying43
  a26 := Tryz.isAgg43
  z26 := Tryz.sizeOf43
  v26 := Tryz.zeroValue43
  t27 := Tryz.underlying43
  a27 := Tryz.isAgg43
  z27 := Tryz.sizeOf43
  v27 := Tryz.zeroValue43
  t29 := Tryz.underlying9
  a29 := Tryz.isAgg9
  z29 := Tryz.sizeOf9
  v29 := Tryz.zeroValue9
  t32 := Tryz.underlying151
  a32 := Tryz.isAgg151
  z32 := Tryz.sizeOf151
  v32 := Tryz.zeroValue151
  t35 := Tryz.underlying160
  a35 := Tryz.isAgg160
  z35 := Tryz.sizeOf160
  v35 := Tryz.zeroValue160
  t36 := Tryz.underlying161
  a36 := Tryz.isAgg161
  z36 := Tryz.sizeOf161
  v36 := Tryz.zeroValue161
  t41 := Tryz.underlying166
  a41 := Tryz.isAgg166
  z41 := Tryz.sizeOf166
  v41 := Tryz.zeroValue166
  t44 := Tryz.underlying169
  a44 := Tryz.isAgg169
  z44 := Tryz.sizeOf169
  v44 := Tryz.zeroValue169
  t46 := Tryz.underlying171
  a46 := Tryz.isAgg171
  z46 := Tryz.sizeOf171
  v46 := Tryz.zeroValue171
  t53 := Tryz.underlying177
  a53 := Tryz.isAgg177
  z53 := Tryz.sizeOf177
  v53 := Tryz.zeroValue177
  t57 := Tryz.underlying131
  a57 := Tryz.isAgg131
  z57 := Tryz.sizeOf131
  v57 := Tryz.zeroValue131
  t63 := Tryz.underlying184
  a63 := Tryz.isAgg184
  z63 := Tryz.sizeOf184
  v63 := Tryz.zeroValue184
  t64 := Tryz.underlying185
  a64 := Tryz.isAgg185
  z64 := Tryz.sizeOf185
  v64 := Tryz.zeroValue185 }
open Go.RowKit Go.Maps Go.Sort in
theorem Tryz.sorts44 (m : Nat) : AnyZ.SortsIn Tryz.prog Tryz.sorted44_ren Fence.wide m :=
  ⟨fun blk off cap ss W hH hblk hsz => callsIn_wide.2 (AnyM.slices_Sort_string Tryz.sort53 blk off cap ss W hH hblk hsz),
   fun p cap W => callsIn_wide.2 (AnyM.slices_Sort_string_none Tryz.sort53 p cap W)⟩

theorem Tryz.sorted_key : Tryz.prog.underlying 9 = some .string := by kernel_rfl

open Go.RowKit Go.Maps Go.Sort in
theorem Tryz.slices_Sorted_keys_at (Bm b nn : Nat) (D0 : DataW Nat) (R : Value → Option (DataW Nat × List MemPlace)) (w : World) (hBm : Bm < w.heap.size) (hm : w.cell? ⟨Bm, 0, none⟩ = some (.map (some b))) (hown : w.ownsMap Tryz.prog 9 R b nn D0) (hmax : Maps.size D0 ≤ maxLen) (hbytes : Maps.size D0 * 16 ≤ 140737488355328) :
    Calls Tryz.prog 44 #[.func (.func 66) #[] #[.pointer (some ⟨Bm, 0, none⟩)]] w fun e w' => ∃ (v : Value) (ss : List (List UInt8)), e = .returned v ∧ ss.Perm (strKeys D0) ∧
      w'.ownsRow w.heap.size 9 1 v ss.length ((ss.mergeSort (fun x y => decide (x ≤ y))).map encStr) ∧ (v = .slice none 0 0 ↔ ss = []) ∧ Below w.heap.size w w' := by
  have hseq : SeqGives Fence.wide 2 Tryz.prog 66 #[.pointer (some ⟨Bm, 0, none⟩)] encStr (fun ss => ss.Perm (strKeys D0)) (Maps.size D0) w :=
    AnyZ.keys_gives (ρ := Tryz.keys45_ren) { Tryz.keys45 with } Fence.wide _ trivial rfl (by omega) Bm b nn D0 w hBm hm hown
  exact (callsIn_wide (n := 5)).1 (AnyZ.sorted_in Tryz.sorted44 Fence.wide 5 trivial trivial trivial trivial rfl (by omega) (Tryz.sorts44 _) (enters_of Tryz.func53 (by kernel_rfl) rfl) 66 #[.pointer (some ⟨Bm, 0, none⟩)] trivial (enters_of Tryz.func66 (by kernel_rfl) rfl) _ _ hmax hbytes _ hseq)

end Go.Proofs
