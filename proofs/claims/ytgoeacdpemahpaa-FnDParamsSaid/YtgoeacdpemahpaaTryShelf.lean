/-
  DERIVED: THE SHELF's CONTRACTS AT THIS DUMP, IN PLAIN WORDS (tools/lay-plain.mjs out of 'TryShelf.lean', which tools/lay-shelf.mjs wrote): THE SAME DECLARATIONS UNDER THE SAME NAMES: 'import', 'namespace', 'open', 'def', 'theorem' AND NOTHING ELSE: no command of the shelf's: FOR A HAND-IN. Each laying: the table of numbers ('.._ren') and one theorem, a field a fact of the dump's own or the kernel's comparison; each contract: ONE APPLICATION.
-/
import Derived.Shelf.SlIter.Nil
import Derived.Shelf.SortM.Plain
import Derived.Ground.GgzProg
import Derived.Shelf.Strings.Builder1
import Derived.Shelf.Strings.Builder2
import Derived.Shelf.Strings.OnBuilder
import Derived.Shelf.Sort.Plain
import Derived.Ground.Names2Prog
import Derived.Shelf.Slices.Clone
import Derived.Ground.SlgmProg
import Derived.Shelf.SortM.SortNone
import Derived.Test.YtgoeacdpemahpaaProg
namespace Go.Proofs
open Go.Shelf
def Try.lays169_ren : Go.Shelf.Ren := ⟨fun | 169 => 101 | n => n, fun | 70 => 136 | 9 => 9 | 0 => 0 | 72 => 138 | 37 => 39 | 127 => 128 | 3 => 3 | 5 => 5 | n => n, fun | n => n⟩
theorem Try.lays169 : Go.Proofs.Lays.n169 Try.prog Try.lays169_ren := {
  mixed := by kernel_rfl
  f169 := Try.func101.trans (congrArg some (by kernel_rfl))
  t0 := Try.underlying0
  a0 := Try.isAgg0
  z0 := Try.sizeOf0
  v0 := Try.zeroValue0
  t3 := Try.underlying3
  a3 := Try.isAgg3
  z3 := Try.sizeOf3
  v3 := Try.zeroValue3
  t9 := Try.underlying9
  a9 := Try.isAgg9
  z9 := Try.sizeOf9
  v9 := Try.zeroValue9
  t37 := Try.underlying39
  a37 := Try.isAgg39
  z37 := Try.sizeOf39
  v37 := Try.zeroValue39
  t70 := Try.underlying136
  a70 := Try.isAgg136
  z70 := Try.sizeOf136
  v70 := Try.zeroValue136
  t72 := Try.underlying138
  a72 := Try.isAgg138
  z72 := Try.sizeOf138
  v72 := Try.zeroValue138
  t127 := Try.underlying128
  a127 := Try.isAgg128
  z127 := Try.sizeOf128
  v127 := Try.zeroValue128 }
theorem Try.Builder_Extra_169 : Builder.Extra Try.prog Try.lays169_ren := {
  sizeBuilder := by kernel_rfl
  liesBuilder := by kernel_rfl
  t5 := Try.underlying5
  a5 := Try.isAgg5
  z5 := Try.sizeOf5
  v5 := Try.zeroValue5
  infoByte := by kernel_rfl
  cellsByte := by kernel_rfl
  sizeByte := by kernel_rfl
  neB5 := by decide }
open Go.RowKit in
/-- (*strings.Builder).String: "String returns the accumulated string.": OF A BUILDER THAT HOLDS AT LEAST ONE BYTE. ✋ THE MODEL FREEZES THOSE BYTES IN THE BUFFER (unsafe.String): a later write INTO them ends the model's run without an answer; a later append BEHIND them goes on. The statement's order of evaluation is drawn: one draw. (LAID: no walk: one application.) -/
theorem Try.Builder_String (B b : Nat) (l : List UInt8) (w : World) (h : Lib.IsBuilder 138 5 B b (Lib.byteCells l) w) (h0 : l ≠ []) :
    Calls Try.prog 101 #[.pointer (some ⟨b, 0, none⟩)] w fun e w' => e = .returned (.string ⟨l.toArray⟩) ∧ Below B w w' := Any.Builder_String Try.lays169 Try.Builder_Extra_169 B b l w h h0
open Go.RowKit in
/-- (*strings.Builder).String OF A BUILDER THAT HOLDS NO BYTE: the empty string. (Its buffer is nil, or a row of which it has taken nothing yet; where that row has NO capacity the model lays one new block for unsafe.SliceData's 'some address'.) One draw. (LAID: no walk: one application.) -/
theorem Try.Builder_String_empty (B b : Nat) (w : World) (h : Lib.IsBuilder 138 5 B b [] w) (hBw : B ≤ w.heap.size) :
    Calls Try.prog 101 #[.pointer (some ⟨b, 0, none⟩)] w fun e w' => e = .returned (.string ⟨#[]⟩) ∧ Below B w w' := Any.Builder_String_empty Try.lays169 Try.Builder_Extra_169 B b w h hBw
open Go.RowKit in
/-- (*strings.Builder).String: "String returns the accumulated string.": WHATEVER THE BUILDER HOLDS. (LAID: no walk: one application.) -/
theorem Try.Builder_String_any (B b : Nat) (l : List UInt8) (w : World) (h : Lib.IsBuilder 138 5 B b (Lib.byteCells l) w) (hBw : B ≤ w.heap.size) :
    Calls Try.prog 101 #[.pointer (some ⟨b, 0, none⟩)] w fun e w' => e = .returned (.string ⟨l.toArray⟩) ∧ Below B w w' := Any.Builder_String_any Try.lays169 Try.Builder_Extra_169 B b l w h hBw
def Try.lays241_ren : Go.Shelf.Ren := ⟨fun | 241 => 103 | 277 => 105 | n => n, fun | 70 => 136 | 3 => 3 | 0 => 0 | 72 => 138 | 37 => 39 | 5 => 5 | n => n, fun | n => n⟩
theorem Try.lays241 : Go.Proofs.Lays.n241 Try.prog Try.lays241_ren := {
  mixed := by kernel_rfl
  f241 := Try.func103.trans (congrArg some (by kernel_rfl))
  f277 := Try.func105.trans (congrArg some (by kernel_rfl))
  t0 := Try.underlying0
  a0 := Try.isAgg0
  z0 := Try.sizeOf0
  v0 := Try.zeroValue0
  t3 := Try.underlying3
  a3 := Try.isAgg3
  z3 := Try.sizeOf3
  v3 := Try.zeroValue3
  t37 := Try.underlying39
  a37 := Try.isAgg39
  z37 := Try.sizeOf39
  v37 := Try.zeroValue39
  t70 := Try.underlying136
  a70 := Try.isAgg136
  z70 := Try.sizeOf136
  v70 := Try.zeroValue136
  t72 := Try.underlying138
  a72 := Try.isAgg138
  z72 := Try.sizeOf138
  v72 := Try.zeroValue138 }
theorem Try.Builder_Extra_241 : Builder.Extra Try.prog Try.lays241_ren := {
  sizeBuilder := by kernel_rfl
  liesBuilder := by kernel_rfl
  t5 := Try.underlying5
  a5 := Try.isAgg5
  z5 := Try.sizeOf5
  v5 := Try.zeroValue5
  infoByte := by kernel_rfl
  cellsByte := by kernel_rfl
  sizeByte := by kernel_rfl
  neB5 := by decide }
open Go.RowKit in
/-- (*strings.Builder).grow (no doc but "grow copies the buffer to a new, larger buffer so that there are at least n bytes of capacity beyond len(b.buf)."): AT A BUILDER WITHOUT A BUFFER: a new row of whatever bytes for its buffer, none of them its own yet. Three draws. (LAID: no walk: one application.) -/
theorem Try.Builder_grow_fresh (B b n : Nat) (w : World) (hB : B ≤ b) (hbk : w.heap[b]? = some (.cells #[.pointer (some ⟨b, 0, none⟩), .slice none 0 0] 138 (0, 0))) (hBw : B ≤ w.heap.size) (hn : n ≤ 281474976710656) :
    Calls Try.prog 103 #[.pointer (some ⟨b, 0, none⟩), .int .i64 n] w fun e w' => e = .returned (.tuple #[]) ∧ (Lib.BuilderAt 138 5 B b (.pointer (some ⟨b, 0, none⟩)) [] w' ∧ Below B w w') := Any.Builder_grow_fresh Try.lays241 Try.Builder_Extra_241 B b n w hB hbk hBw hn
def Try.lays165_ren : Go.Shelf.Ren := ⟨fun | 165 => 99 | 240 => 102 | 241 => 103 | 276 => 104 | 277 => 105 | n => n, fun | 70 => 136 | 3 => 3 | 0 => 0 | 4 => 4 | 9 => 9 | 20 => 20 | 72 => 138 | 37 => 39 | 164 => 145 | 5 => 5 | n => n, fun | n => n⟩
theorem Try.lays165 : Go.Proofs.Lays.n165 Try.prog Try.lays165_ren := {
  mixed := by kernel_rfl
  f165 := Try.func99.trans (congrArg some (by kernel_rfl))
  f240 := Try.func102.trans (congrArg some (by kernel_rfl))
  f241 := Try.func103.trans (congrArg some (by kernel_rfl))
  f276 := Try.func104.trans (congrArg some (by kernel_rfl))
  f277 := Try.func105.trans (congrArg some (by kernel_rfl))
  t0 := Try.underlying0
  a0 := Try.isAgg0
  z0 := Try.sizeOf0
  v0 := Try.zeroValue0
  t3 := Try.underlying3
  a3 := Try.isAgg3
  z3 := Try.sizeOf3
  v3 := Try.zeroValue3
  t4 := Try.underlying4
  a4 := Try.isAgg4
  z4 := Try.sizeOf4
  v4 := Try.zeroValue4
  t9 := Try.underlying9
  a9 := Try.isAgg9
  z9 := Try.sizeOf9
  v9 := Try.zeroValue9
  t20 := Try.underlying20
  a20 := Try.isAgg20
  z20 := Try.sizeOf20
  v20 := Try.zeroValue20
  t37 := Try.underlying39
  a37 := Try.isAgg39
  z37 := Try.sizeOf39
  v37 := Try.zeroValue39
  t70 := Try.underlying136
  a70 := Try.isAgg136
  z70 := Try.sizeOf136
  v70 := Try.zeroValue136
  t72 := Try.underlying138
  a72 := Try.isAgg138
  z72 := Try.sizeOf138
  v72 := Try.zeroValue138
  t164 := Try.underlying145
  a164 := Try.isAgg145
  z164 := Try.sizeOf145
  v164 := Try.zeroValue145 }
theorem Try.Builder_Extra_165 : Builder.Extra Try.prog Try.lays165_ren := {
  sizeBuilder := by kernel_rfl
  liesBuilder := by kernel_rfl
  t5 := Try.underlying5
  a5 := Try.isAgg5
  z5 := Try.sizeOf5
  v5 := Try.zeroValue5
  infoByte := by kernel_rfl
  cellsByte := by kernel_rfl
  sizeByte := by kernel_rfl
  neB5 := by decide }
open Go.RowKit in
/-- (*strings.Builder).Grow AT A BUILDER THAT HAS NOT BEEN WRITTEN ('var b strings.Builder; b.Grow(n)'): "Grow grows b's capacity, if necessary, to guarantee space for another n bytes.": it holds no byte behind it as before it. (LAID: no walk: one application.) -/
theorem Try.Builder_Grow_fresh (B b n : Nat) (w : World) (hB : B ≤ b) (hbk : w.heap[b]? = some (.cells #[.pointer none, .slice none 0 0] 138 (0, 0))) (hBw : B ≤ w.heap.size) (hn : n ≤ 281474976710656) :
    Calls Try.prog 99 #[.pointer (some ⟨b, 0, none⟩), .int .i64 n] w fun e w' => e = .returned (.tuple #[]) ∧ (Lib.BuilderAt 138 5 B b (.pointer (some ⟨b, 0, none⟩)) [] w' ∧ Below B w w') := Any.Builder_Grow_fresh Try.lays165 Try.Builder_Extra_165 B b n w hB hbk hBw hn
def Try.lays156_ren : Go.Shelf.Ren := ⟨fun | 156 => 96 | 165 => 99 | 166 => 100 | 169 => 101 | 240 => 102 | 241 => 103 | 276 => 104 | 277 => 105 | n => n, fun | 31 => 22 | 9 => 9 | 3 => 3 | 4 => 4 | 0 => 0 | 20 => 20 | 72 => 138 | 76 => 140 | 70 => 136 | 37 => 39 | 75 => 50 | 127 => 128 | 164 => 145 | 5 => 5 | 80 => 118 | n => n, fun | n => n⟩
theorem Try.lays156 : Go.Proofs.Lays.n156 Try.prog Try.lays156_ren := {
  mixed := by kernel_rfl
  f156 := Try.func96.trans (congrArg some (by kernel_rfl))
  f165 := Try.func99.trans (congrArg some (by kernel_rfl))
  f166 := Try.func100.trans (congrArg some (by kernel_rfl))
  f169 := Try.func101.trans (congrArg some (by kernel_rfl))
  f240 := Try.func102.trans (congrArg some (by kernel_rfl))
  f241 := Try.func103.trans (congrArg some (by kernel_rfl))
  f276 := Try.func104.trans (congrArg some (by kernel_rfl))
  f277 := Try.func105.trans (congrArg some (by kernel_rfl))
  t0 := Try.underlying0
  a0 := Try.isAgg0
  z0 := Try.sizeOf0
  v0 := Try.zeroValue0
  t3 := Try.underlying3
  a3 := Try.isAgg3
  z3 := Try.sizeOf3
  v3 := Try.zeroValue3
  t4 := Try.underlying4
  a4 := Try.isAgg4
  z4 := Try.sizeOf4
  v4 := Try.zeroValue4
  t9 := Try.underlying9
  a9 := Try.isAgg9
  z9 := Try.sizeOf9
  v9 := Try.zeroValue9
  t20 := Try.underlying20
  a20 := Try.isAgg20
  z20 := Try.sizeOf20
  v20 := Try.zeroValue20
  t31 := Try.underlying22
  a31 := Try.isAgg22
  z31 := Try.sizeOf22
  v31 := Try.zeroValue22
  t37 := Try.underlying39
  a37 := Try.isAgg39
  z37 := Try.sizeOf39
  v37 := Try.zeroValue39
  t70 := Try.underlying136
  a70 := Try.isAgg136
  z70 := Try.sizeOf136
  v70 := Try.zeroValue136
  t72 := Try.underlying138
  a72 := Try.isAgg138
  z72 := Try.sizeOf138
  v72 := Try.zeroValue138
  t75 := Try.underlying50
  a75 := Try.isAgg50
  z75 := Try.sizeOf50
  v75 := Try.zeroValue50
  t76 := Try.underlying140
  a76 := Try.isAgg140
  z76 := Try.sizeOf140
  v76 := Try.zeroValue140
  t127 := Try.underlying128
  a127 := Try.isAgg128
  z127 := Try.sizeOf128
  v127 := Try.zeroValue128
  t164 := Try.underlying145
  a164 := Try.isAgg145
  z164 := Try.sizeOf145
  v164 := Try.zeroValue145 }
theorem Try.Builder_Extra_156 : Builder.Extra Try.prog Try.lays156_ren := {
  sizeBuilder := by kernel_rfl
  liesBuilder := by kernel_rfl
  t5 := Try.underlying5
  a5 := Try.isAgg5
  z5 := Try.sizeOf5
  v5 := Try.zeroValue5
  infoByte := by kernel_rfl
  cellsByte := by kernel_rfl
  sizeByte := by kernel_rfl
  neB5 := by decide }
open Go.RowKit in
/-- No element: the empty string; the world is as it was. (Whatever the slice's address and capacity: a nil slice too.) (LAID: no walk: one application.) -/
theorem Try.strings_Join_none (a : Option Addr) (c : Nat) (sep : ByteArray) (w : World) :
    Calls Try.prog 96 #[.slice a 0 c, .string sep] w fun e w' => e = .returned (.string ⟨#[]⟩) ∧ w' = w := Any.strings_Join_none Try.lays156 Try.Builder_Extra_156 a c sep w
open Go.RowKit in
/-- strings.Join: "Join concatenates the elements of its first argument to create a single string. The separator string sep is placed between elements in the resulting string.": HOWEVER MANY ELEMENTS. Below the heap's end the world is as it was. (LAID: no walk: one application.) -/
theorem Try.strings_Join (bk o c : Nat) (xs : List ByteArray) (sep : ByteArray) (w : World) (hcells : ∀ (j : Nat) x, xs[j]? = some x → w.cell? ⟨bk, o + j, none⟩ = some (.string x)) (hbk : bk < w.heap.size) (hN : xs.length ≤ 140737488355328) (hcap : xs.length ≤ c) (hlen : (Lib.join (xs.map (·.data.toList)) sep.data.toList).length ≤ 140737488355328) :
    Calls Try.prog 96 #[.slice (some ⟨bk, o, none⟩) xs.length c, .string sep] w fun e w' => e = .returned (.string ⟨(Lib.join (xs.map (·.data.toList)) sep.data.toList).toArray⟩) ∧ Below w.heap.size w w' := Any.strings_Join Try.lays156 Try.Builder_Extra_156 bk o c xs sep w hcells hbk hN hcap hlen
def Try.lays190_ren : Go.Shelf.Ren := ⟨fun | 190 => 50 | 125 => 58 | 258 => 57 | 128 => 68 | 129 => 69 | 302 => 59 | 303 => 60 | 304 => 61 | 305 => 62 | 306 => 63 | 307 => 64 | 308 => 65 | 309 => 66 | 310 => 67 | 333 => 70 | 329 => 71 | 330 => 72 | 334 => 73 | 335 => 74 | 336 => 75 | 344 => 76 | n => n, fun | 31 => 22 | 9 => 9 | 3 => 3 | 46 => 96 | 0 => 0 | 51 => 106 | 53 => 108 | 4 => 4 | 183 => 99 | 182 => 98 | 131 => 103 | 5 => 5 | 218 => 109 | 222 => 113 | 228 => 115 | 229 => 116 | n => n, fun | n => n⟩
theorem Try.lays190 : Go.Proofs.Lays.n190 Try.prog Try.lays190_ren := {
  mixed := by kernel_rfl
  f125 := Try.func58.trans (congrArg some (by kernel_rfl))
  f128 := Try.func68.trans (congrArg some (by kernel_rfl))
  f129 := Try.func69.trans (congrArg some (by kernel_rfl))
  f190 := Try.func50.trans (congrArg some (by kernel_rfl))
  f258 := Try.func57.trans (congrArg some (by kernel_rfl))
  f302 := Try.func59.trans (congrArg some (by kernel_rfl))
  f303 := Try.func60.trans (congrArg some (by kernel_rfl))
  f304 := Try.func61.trans (congrArg some (by kernel_rfl))
  f305 := Try.func62.trans (congrArg some (by kernel_rfl))
  f306 := Try.func63.trans (congrArg some (by kernel_rfl))
  f307 := Try.func64.trans (congrArg some (by kernel_rfl))
  f308 := Try.func65.trans (congrArg some (by kernel_rfl))
  f309 := Try.func66.trans (congrArg some (by kernel_rfl))
  f310 := Try.func67.trans (congrArg some (by kernel_rfl))
  f329 := Try.func71.trans (congrArg some (by kernel_rfl))
  f330 := Try.func72.trans (congrArg some (by kernel_rfl))
  f333 := Try.func70.trans (congrArg some (by kernel_rfl))
  f334 := Try.func73.trans (congrArg some (by kernel_rfl))
  f335 := Try.func74.trans (congrArg some (by kernel_rfl))
  f336 := Try.func75.trans (congrArg some (by kernel_rfl))
  f344 := Try.func76.trans (congrArg some (by kernel_rfl))
  t0 := Try.underlying0
  a0 := Try.isAgg0
  z0 := Try.sizeOf0
  v0 := Try.zeroValue0
  t3 := Try.underlying3
  a3 := Try.isAgg3
  z3 := Try.sizeOf3
  v3 := Try.zeroValue3
  t4 := Try.underlying4
  a4 := Try.isAgg4
  z4 := Try.sizeOf4
  v4 := Try.zeroValue4
  t5 := Try.underlying5
  a5 := Try.isAgg5
  z5 := Try.sizeOf5
  v5 := Try.zeroValue5
  t9 := Try.underlying9
  a9 := Try.isAgg9
  z9 := Try.sizeOf9
  v9 := Try.zeroValue9
  t31 := Try.underlying22
  a31 := Try.isAgg22
  z31 := Try.sizeOf22
  v31 := Try.zeroValue22
  t46 := Try.underlying96
  a46 := Try.isAgg96
  z46 := Try.sizeOf96
  v46 := Try.zeroValue96
  t51 := Try.underlying106
  a51 := Try.isAgg106
  z51 := Try.sizeOf106
  v51 := Try.zeroValue106
  t53 := Try.underlying108
  a53 := Try.isAgg108
  z53 := Try.sizeOf108
  v53 := Try.zeroValue108
  t131 := Try.underlying103
  a131 := Try.isAgg103
  z131 := Try.sizeOf103
  v131 := Try.zeroValue103
  t182 := Try.underlying98
  a182 := Try.isAgg98
  z182 := Try.sizeOf98
  v182 := Try.zeroValue98
  t183 := Try.underlying99
  a183 := Try.isAgg99
  z183 := Try.sizeOf99
  v183 := Try.zeroValue99
  t218 := Try.underlying109
  a218 := Try.isAgg109
  z218 := Try.sizeOf109
  v218 := Try.zeroValue109
  t222 := Try.underlying113
  a222 := Try.isAgg113
  z222 := Try.sizeOf113
  v222 := Try.zeroValue113
  t228 := Try.underlying115
  a228 := Try.isAgg115
  z228 := Try.sizeOf115
  v228 := Try.zeroValue115
  t229 := Try.underlying116
  a229 := Try.isAgg116
  z229 := Try.sizeOf116
  v229 := Try.zeroValue116 }
open Go.Sort Go.RowKit in
theorem Try.slices_Sort_string (blk off cap : Nat) (ss : List (List UInt8)) (w : World) (hH : Holds encStr w blk off ss.toArray) (hblk : blk < w.heap.size) (hsz : ss.length < 4611686018427387904) :
    Calls Try.prog 50 #[.slice (some ⟨blk, off, none⟩) ss.length cap] w fun e w' =>
      e = .returned (.tuple #[]) ∧ ∃ n os, w' = grow (putRow encStr (Sort.ahead w n) blk off (ss.mergeSort fun x y => decide (x ≤ y)).toArray) os := Any.slices_Sort_string Try.lays190 blk off cap ss w hH hblk hsz
def Try.laysNm216_ren : Go.Shelf.Ren := ⟨fun | 16 => 29 | n => n, fun | 24 => 22 | 9 => 9 | 4 => 4 | n => n, fun | n => n⟩
theorem Try.laysNm216 : Go.Proofs.Lays2.n16 Try.prog Try.laysNm216_ren := {
  mixed := by kernel_rfl
  f16 := Try.func29.trans (congrArg some (by kernel_rfl))
  t4 := Try.underlying4
  a4 := Try.isAgg4
  z4 := Try.sizeOf4
  v4 := Try.zeroValue4
  t9 := Try.underlying9
  a9 := Try.isAgg9
  z9 := Try.sizeOf9
  v9 := Try.zeroValue9
  t24 := Try.underlying22
  a24 := Try.isAgg22
  z24 := Try.sizeOf22
  v24 := Try.zeroValue22
  i9 := by kernel_rfl }
open Go.RowKit Go.Lib in
/-- slices.Clone at []string: "Clone returns a copy of the slice. The elements are copied using assignment, so this is a shallow clone. The result may have additional unused capacity. The result preserves the nilness of s.": OF A SLICE THAT IS NOT nil IT RETURNS A SLICE THAT IS NOT nil, OF THE SAME ELEMENTS, IN MEMORY OF THE CALL's OWN: in the how-to's words (6f): 'w'.ownsRow B e 1 v' n cells': v' begins at the head of a row among the blocks from B on (B: the heap's size at the call), not frozen, whose first cells are the elements · 'Below B w w'': below B all is as it was. The capacity is whatever the run-time gives. 'zs': what the cells behind the slice's address hold; 'zs.take n': its elements. (LAID: no walk: one application.) -/
theorem Try.slices_Clone_string (b off n c : Nat) (zs : List ByteArray) (w : World) (hz : n ≤ zs.length) (hbig : n * 16 ≤ 140737488355328) (hc : ∀ j, j < zs.length → w.cell? ⟨b, off + j, none⟩ = some (.string (zs.getD j ByteArray.empty))) :
    Calls Try.prog 29 #[.slice (some ⟨b, off, none⟩) n c] w fun e w' => ∃ v', e = .returned v' ∧ w'.ownsRow w.heap.size 9 1 v' n ((zs.take n).map (Value.string)) ∧ v' ≠ .slice none 0 0 ∧ Below w.heap.size w w' := Any.slices_Clone_string Try.laysNm216 b off n c zs w hz hbig hc
open Go.RowKit Go.Lib in
/-- The same at nil: nil comes back; the world is as it was. (LAID: no walk: one application.) -/
theorem Try.slices_Clone_string_nil (n c : Nat) (w : World) :
    Calls Try.prog 29 #[.slice none n c] w fun e w' => e = .returned (.slice none 0 0) ∧ w' = w := Any.slices_Clone_string_nil Try.laysNm216 n c w
open Go.RowKit Go.Lib in
/-- The same at a slice of length 0 that is not nil, WHATEVER ITS ADDRESS (no cell is asked for): a slice that is not nil and owns nothing comes back. (LAID: no walk: one application.) -/
theorem Try.slices_Clone_string_zero (a : Addr) (c : Nat) (w : World) :
    Calls Try.prog 29 #[.slice (some a) 0 c] w fun e w' => ∃ v', e = .returned v' ∧ w'.ownsRow w.heap.size 9 1 v' 0 [] ∧ v' ≠ .slice none 0 0 ∧ Below w.heap.size w w' := Any.slices_Clone_string_zero Try.laysNm216 a c w
def Try.laysSlM6_f50_ren : Go.Shelf.Ren := ⟨fun | 6 => 50 | 8 => 58 | 9 => 57 | 19 => 68 | 20 => 69 | 21 => 59 | 22 => 60 | 23 => 61 | 24 => 62 | 25 => 63 | 26 => 64 | 27 => 65 | 28 => 66 | 29 => 67 | 36 => 70 | 31 => 71 | 32 => 72 | 37 => 73 | 38 => 74 | 39 => 75 | 41 => 76 | n => n, fun | 27 => 22 | 29 => 9 | 3 => 3 | 32 => 96 | 26 => 22 | 0 => 0 | 44 => 106 | 46 => 108 | 4 => 4 | 36 => 99 | 35 => 98 | 41 => 103 | 5 => 5 | 9 => 9 | 53 => 109 | 57 => 113 | 63 => 115 | 64 => 116 | n => n, fun | n => n⟩
theorem Try.laysSlM6_f50 : Go.Proofs.SlLaysM.n6 Try.prog Try.laysSlM6_f50_ren := {
  mixed := by kernel_rfl
  f6 := ⟨Try.f50.name, by decide, Try.func50.trans (congrArg some (by kernel_rfl))⟩
  f8 := Try.func58.trans (congrArg some (by kernel_rfl))
  f9 := ⟨Try.f57.name, by decide, Try.func57.trans (congrArg some (by kernel_rfl))⟩
  f19 := Try.func68.trans (congrArg some (by kernel_rfl))
  f20 := Try.func69.trans (congrArg some (by kernel_rfl))
  f21 := ⟨Try.f59.name, by decide, Try.func59.trans (congrArg some (by kernel_rfl))⟩
  f22 := ⟨Try.f60.name, by decide, Try.func60.trans (congrArg some (by kernel_rfl))⟩
  f23 := ⟨Try.f61.name, by decide, Try.func61.trans (congrArg some (by kernel_rfl))⟩
  f24 := ⟨Try.f62.name, by decide, Try.func62.trans (congrArg some (by kernel_rfl))⟩
  f25 := ⟨Try.f63.name, by decide, Try.func63.trans (congrArg some (by kernel_rfl))⟩
  f26 := ⟨Try.f64.name, by decide, Try.func64.trans (congrArg some (by kernel_rfl))⟩
  f27 := ⟨Try.f65.name, by decide, Try.func65.trans (congrArg some (by kernel_rfl))⟩
  f28 := ⟨Try.f66.name, by decide, Try.func66.trans (congrArg some (by kernel_rfl))⟩
  f29 := ⟨Try.f67.name, by decide, Try.func67.trans (congrArg some (by kernel_rfl))⟩
  f31 := Try.func71.trans (congrArg some (by kernel_rfl))
  f32 := Try.func72.trans (congrArg some (by kernel_rfl))
  f36 := ⟨Try.f70.name, by decide, Try.func70.trans (congrArg some (by kernel_rfl))⟩
  f37 := ⟨Try.f73.name, by decide, Try.func73.trans (congrArg some (by kernel_rfl))⟩
  f38 := ⟨Try.f74.name, by decide, Try.func74.trans (congrArg some (by kernel_rfl))⟩
  f39 := ⟨Try.f75.name, by decide, Try.func75.trans (congrArg some (by kernel_rfl))⟩
  f41 := ⟨Try.f76.name, by decide, Try.func76.trans (congrArg some (by kernel_rfl))⟩
  t0 := Try.underlying0
  a0 := Try.isAgg0
  z0 := Try.sizeOf0
  v0 := Try.zeroValue0
  t3 := Try.underlying3
  a3 := Try.isAgg3
  z3 := Try.sizeOf3
  v3 := Try.zeroValue3
  t4 := Try.underlying4
  a4 := Try.isAgg4
  z4 := Try.sizeOf4
  v4 := Try.zeroValue4
  t5 := Try.underlying5
  a5 := Try.isAgg5
  z5 := Try.sizeOf5
  v5 := Try.zeroValue5
  t9 := Try.underlying9
  a9 := Try.isAgg9
  z9 := Try.sizeOf9
  v9 := Try.zeroValue9
  t26 := Try.underlying22
  a26 := Try.isAgg22
  z26 := Try.sizeOf22
  v26 := Try.zeroValue22
  t27 := Try.underlying22
  a27 := Try.isAgg22
  z27 := Try.sizeOf22
  v27 := Try.zeroValue22
  t29 := Try.underlying9
  a29 := Try.isAgg9
  z29 := Try.sizeOf9
  v29 := Try.zeroValue9
  t32 := Try.underlying96
  a32 := Try.isAgg96
  z32 := Try.sizeOf96
  v32 := Try.zeroValue96
  t35 := Try.underlying98
  a35 := Try.isAgg98
  z35 := Try.sizeOf98
  v35 := Try.zeroValue98
  t36 := Try.underlying99
  a36 := Try.isAgg99
  z36 := Try.sizeOf99
  v36 := Try.zeroValue99
  t41 := Try.underlying103
  a41 := Try.isAgg103
  z41 := Try.sizeOf103
  v41 := Try.zeroValue103
  t44 := Try.underlying106
  a44 := Try.isAgg106
  z44 := Try.sizeOf106
  v44 := Try.zeroValue106
  t46 := Try.underlying108
  a46 := Try.isAgg108
  z46 := Try.sizeOf108
  v46 := Try.zeroValue108
  t53 := Try.underlying109
  a53 := Try.isAgg109
  z53 := Try.sizeOf109
  v53 := Try.zeroValue109
  t57 := Try.underlying113
  a57 := Try.isAgg113
  z57 := Try.sizeOf113
  v57 := Try.zeroValue113
  t63 := Try.underlying115
  a63 := Try.isAgg115
  z63 := Try.sizeOf115
  v63 := Try.zeroValue115
  t64 := Try.underlying116
  a64 := Try.isAgg116
  z64 := Try.sizeOf116
  v64 := Try.zeroValue116 }
open Go.RowKit Go.Sort in
/-- .. and plain. (LAID AT THE INSTANCE 'slices.Sort[[]string,string]': no walk: one application.) -/
theorem Try.slices_Sort_string_none (p : Option Addr) (cap : Nat) (w : World) :
    Calls Try.prog 50 #[.slice p 0 cap] w fun e w' => e = .returned (.tuple #[]) ∧ w' = w := AnyM.slices_Sort_string_none Try.laysSlM6_f50 p cap w
def Try.keys40_ren : Go.Shelf.Ren := ⟨fun | 7 => 40 | 10 => 51 | n => n, fun | 23 => 63 | 26 => 9 | 3 => 9 | 28 => 68 | 0 => 0 | 27 => 67 | 33 => 29 | 4 => 4 | n => n, fun | n => n⟩
theorem Try.keys40 : Go.Proofs.SlLaysZ.n7 Try.prog Try.keys40_ren := {
  mixed := by kernel_rfl
  f7 := ⟨Try.f40.name, by decide, Try.func40.trans (congrArg some (by kernel_rfl))⟩
  f10 := ⟨Try.f51.name, by decide, Try.func51.trans (congrArg some (by kernel_rfl))⟩
  t0 := Try.underlying0
  a0 := Try.isAgg0
  z0 := Try.sizeOf0
  v0 := Try.zeroValue0
  t4 := Try.underlying4
  a4 := Try.isAgg4
  z4 := Try.sizeOf4
  v4 := Try.zeroValue4
  t23 := Try.underlying63
  a23 := Try.isAgg63
  z23 := Try.sizeOf63
  v23 := Try.zeroValue63
  t26 := Try.underlying9
  a26 := Try.isAgg9
  z26 := Try.sizeOf9
  v26 := Try.zeroValue9
  t27 := Try.underlying67
  a27 := Try.isAgg67
  z27 := Try.sizeOf67
  v27 := Try.zeroValue67
  t28 := Try.underlying68
  a28 := Try.isAgg68
  z28 := Try.sizeOf68
  v28 := Try.zeroValue68
  t33 := Try.underlying29
  a33 := Try.isAgg29
  z33 := Try.sizeOf29
  v33 := Try.zeroValue29 }
def Try.sorted39_ren : Go.Shelf.Ren := ⟨fun | 6 => 39 | 8 => 49 | 9 => 50 | 11 => 56 | 13 => 58 | 12 => 57 | 23 => 68 | 24 => 69 | 14 => 59 | 15 => 60 | 16 => 61 | 17 => 62 | 18 => 63 | 19 => 64 | 20 => 65 | 21 => 66 | 22 => 67 | 25 => 70 | 26 => 71 | 27 => 72 | 28 => 73 | 29 => 74 | 30 => 75 | 31 => 76 | n => n, fun | 26 => 9 | 28 => 68 | 24 => 22 | 0 => 0 | 3 => 3 | 37 => 96 | 48 => 106 | 50 => 108 | 4 => 4 | 40 => 99 | 39 => 98 | 45 => 103 | 5 => 5 | 9 => 9 | 51 => 109 | 55 => 113 | 57 => 115 | 58 => 116 | 33 => 29 | n => n, fun | n => n⟩
theorem Try.sorted39 : Go.Proofs.SlLaysZ.n6 Try.prog Try.sorted39_ren := {
  mixed := by kernel_rfl
  f6 := ⟨Try.f39.name, by decide, Try.func39.trans (congrArg some (by kernel_rfl))⟩
  f8 := ⟨Try.f49.name, by decide, Try.func49.trans (congrArg some (by kernel_rfl))⟩
  f11 := ⟨Try.f56.name, by decide, Try.func56.trans (congrArg some (by kernel_rfl))⟩
  t0 := Try.underlying0
  a0 := Try.isAgg0
  z0 := Try.sizeOf0
  v0 := Try.zeroValue0
  t24 := Try.underlying22
  a24 := Try.isAgg22
  z24 := Try.sizeOf22
  v24 := Try.zeroValue22
  t26 := Try.underlying9
  a26 := Try.isAgg9
  z26 := Try.sizeOf9
  v26 := Try.zeroValue9
  t28 := Try.underlying68
  a28 := Try.isAgg68
  z28 := Try.sizeOf68
  v28 := Try.zeroValue68
  i26 := by kernel_rfl }
def Try.sort50_ren : Go.Shelf.Ren := ⟨fun | 6 => 50 | 8 => 58 | 9 => 57 | 19 => 68 | 20 => 69 | 21 => 59 | 22 => 60 | 23 => 61 | 24 => 62 | 25 => 63 | 26 => 64 | 27 => 65 | 28 => 66 | 29 => 67 | 36 => 70 | 31 => 71 | 32 => 72 | 37 => 73 | 38 => 74 | 39 => 75 | 41 => 76 | n => n, fun | 27 => 22 | 29 => 9 | 3 => 3 | 32 => 96 | 26 => 22 | 0 => 0 | 44 => 106 | 46 => 108 | 4 => 4 | 36 => 99 | 35 => 98 | 41 => 103 | 5 => 5 | 9 => 9 | 53 => 109 | 57 => 113 | 63 => 115 | 64 => 116 | n => n, fun | n => n⟩
theorem Try.sort50 : Go.Proofs.SlLaysM.n6 Try.prog Try.sort50_ren := {
  mixed := by kernel_rfl
  f6 := ⟨Try.f50.name, by decide, Try.func50.trans (congrArg some (by kernel_rfl))⟩
  f8 := Try.func58.trans (congrArg some (by kernel_rfl))
  f9 := ⟨Try.f57.name, by decide, Try.func57.trans (congrArg some (by kernel_rfl))⟩
  f19 := Try.func68.trans (congrArg some (by kernel_rfl))
  f20 := Try.func69.trans (congrArg some (by kernel_rfl))
  f21 := ⟨Try.f59.name, by decide, Try.func59.trans (congrArg some (by kernel_rfl))⟩
  f22 := ⟨Try.f60.name, by decide, Try.func60.trans (congrArg some (by kernel_rfl))⟩
  f23 := ⟨Try.f61.name, by decide, Try.func61.trans (congrArg some (by kernel_rfl))⟩
  f24 := ⟨Try.f62.name, by decide, Try.func62.trans (congrArg some (by kernel_rfl))⟩
  f25 := ⟨Try.f63.name, by decide, Try.func63.trans (congrArg some (by kernel_rfl))⟩
  f26 := ⟨Try.f64.name, by decide, Try.func64.trans (congrArg some (by kernel_rfl))⟩
  f27 := ⟨Try.f65.name, by decide, Try.func65.trans (congrArg some (by kernel_rfl))⟩
  f28 := ⟨Try.f66.name, by decide, Try.func66.trans (congrArg some (by kernel_rfl))⟩
  f29 := ⟨Try.f67.name, by decide, Try.func67.trans (congrArg some (by kernel_rfl))⟩
  f31 := Try.func71.trans (congrArg some (by kernel_rfl))
  f32 := Try.func72.trans (congrArg some (by kernel_rfl))
  f36 := ⟨Try.f70.name, by decide, Try.func70.trans (congrArg some (by kernel_rfl))⟩
  f37 := ⟨Try.f73.name, by decide, Try.func73.trans (congrArg some (by kernel_rfl))⟩
  f38 := ⟨Try.f74.name, by decide, Try.func74.trans (congrArg some (by kernel_rfl))⟩
  f39 := ⟨Try.f75.name, by decide, Try.func75.trans (congrArg some (by kernel_rfl))⟩
  f41 := ⟨Try.f76.name, by decide, Try.func76.trans (congrArg some (by kernel_rfl))⟩
  t0 := Try.underlying0
  a0 := Try.isAgg0
  z0 := Try.sizeOf0
  v0 := Try.zeroValue0
  t3 := Try.underlying3
  a3 := Try.isAgg3
  z3 := Try.sizeOf3
  v3 := Try.zeroValue3
  t4 := Try.underlying4
  a4 := Try.isAgg4
  z4 := Try.sizeOf4
  v4 := Try.zeroValue4
  t5 := Try.underlying5
  a5 := Try.isAgg5
  z5 := Try.sizeOf5
  v5 := Try.zeroValue5
  t9 := Try.underlying9
  a9 := Try.isAgg9
  z9 := Try.sizeOf9
  v9 := Try.zeroValue9
  t26 := Try.underlying22
  a26 := Try.isAgg22
  z26 := Try.sizeOf22
  v26 := Try.zeroValue22
  t27 := Try.underlying22
  a27 := Try.isAgg22
  z27 := Try.sizeOf22
  v27 := Try.zeroValue22
  t29 := Try.underlying9
  a29 := Try.isAgg9
  z29 := Try.sizeOf9
  v29 := Try.zeroValue9
  t32 := Try.underlying96
  a32 := Try.isAgg96
  z32 := Try.sizeOf96
  v32 := Try.zeroValue96
  t35 := Try.underlying98
  a35 := Try.isAgg98
  z35 := Try.sizeOf98
  v35 := Try.zeroValue98
  t36 := Try.underlying99
  a36 := Try.isAgg99
  z36 := Try.sizeOf99
  v36 := Try.zeroValue99
  t41 := Try.underlying103
  a41 := Try.isAgg103
  z41 := Try.sizeOf103
  v41 := Try.zeroValue103
  t44 := Try.underlying106
  a44 := Try.isAgg106
  z44 := Try.sizeOf106
  v44 := Try.zeroValue106
  t46 := Try.underlying108
  a46 := Try.isAgg108
  z46 := Try.sizeOf108
  v46 := Try.zeroValue108
  t53 := Try.underlying109
  a53 := Try.isAgg109
  z53 := Try.sizeOf109
  v53 := Try.zeroValue109
  t57 := Try.underlying113
  a57 := Try.isAgg113
  z57 := Try.sizeOf113
  v57 := Try.zeroValue113
  t63 := Try.underlying115
  a63 := Try.isAgg115
  z63 := Try.sizeOf115
  v63 := Try.zeroValue115
  t64 := Try.underlying116
  a64 := Try.isAgg116
  z64 := Try.sizeOf116
  v64 := Try.zeroValue116 }
open Go.RowKit Go.Maps Go.Sort in
theorem Try.sorts39 (m : Nat) : AnyZ.SortsIn Try.prog Try.sorted39_ren Fence.wide m :=
  ⟨fun blk off cap ss W hH hblk hsz => callsIn_wide.2 (AnyM.slices_Sort_string Try.sort50 blk off cap ss W hH hblk hsz),
   fun p cap W => callsIn_wide.2 (AnyM.slices_Sort_string_none Try.sort50 p cap W)⟩

theorem Try.sorted_key : Try.prog.underlying 9 = some .string := by kernel_rfl

open Go.RowKit Go.Maps Go.Sort in
theorem Try.slices_Sorted_keys_at (Bm b nn : Nat) (D0 : DataW Nat) (R : Value → Option (DataW Nat × List MemPlace)) (w : World) (hBm : Bm < w.heap.size) (hm : w.cell? ⟨Bm, 0, none⟩ = some (.map (some b))) (hown : w.ownsMap Try.prog 9 R b nn D0) (hmax : Maps.size D0 ≤ maxLen) (hbytes : Maps.size D0 * 16 ≤ 140737488355328) :
    Calls Try.prog 39 #[.func (.func 51) #[] #[.pointer (some ⟨Bm, 0, none⟩)]] w fun e w' => ∃ (v : Value) (ss : List (List UInt8)), e = .returned v ∧ ss.Perm (strKeys D0) ∧
      w'.ownsRow w.heap.size 9 1 v ss.length ((ss.mergeSort (fun x y => decide (x ≤ y))).map encStr) ∧ (v = .slice none 0 0 ↔ ss = []) ∧ Below w.heap.size w w' := by
  have hseq : SeqGives Fence.wide 2 Try.prog 51 #[.pointer (some ⟨Bm, 0, none⟩)] encStr (fun ss => ss.Perm (strKeys D0)) (Maps.size D0) w :=
    AnyZ.keys_gives (ρ := Try.keys40_ren) { Try.keys40 with } Fence.wide _ trivial rfl (by omega) Bm b nn D0 w hBm hm hown
  exact (callsIn_wide (n := 5)).1 (AnyZ.sorted_in Try.sorted39 Fence.wide 5 trivial trivial trivial trivial rfl (by omega) (Try.sorts39 _) (enters_of Try.func50 (by kernel_rfl) rfl) 51 #[.pointer (some ⟨Bm, 0, none⟩)] trivial (enters_of Try.func51 (by kernel_rfl) rfl) _ _ hmax hbytes _ hseq)

end Go.Proofs
