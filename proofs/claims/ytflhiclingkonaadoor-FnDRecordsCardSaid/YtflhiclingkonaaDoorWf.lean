/- The machine by which the functions are read, and what is proved of them (part 6): no premise. -/
import Derived.WideShapes
import Derived.SliceStrings
import Derived.OpenShut
import Derived.Lib.LaidTab
import Derived.Lib.ItoaMem
import Derived.Lib.ItoaNum
import Derived.Lib.AppendIntMem
import Derived.Lib.ItoaLen
import Derived.Test.YtflhiclingkonaaDoorWe
/- Arguments as the rows hand them in. -/
namespace Wax
open Go Go.ChangeShapes Go.WideShapes Go.RowKit

section
variable {P : Program} {T : Tab} {w : World} {H : Type} {enc : TypeId × Value → H}

theorem has_block {a : Addr} {e : TypeId} {n : Nat} {r : Reach} {base : Nat} (h : w.has P r base a e n) : ∃ o, a = ⟨a.block, o, none⟩ ∧ a.block < w.heap.size := by
  obtain ⟨_, h2, row, cells, h3, _⟩ := h
  refine ⟨a.off, ?_, ?_⟩
  · cases a; simp at h2; simp [h2]
  · rcases Nat.lt_or_ge a.block w.heap.size with h | h
    · exact h
    · simp [World.shape?, Array.getElem?_eq_none h] at h3

/-- A slice's place, from its outer form. -/
theorem okWide_place {t e : TypeId} {r : Reach} {base : Nat} {a : Addr} {len cap : Nat} (ht : P.underlying t = some (.slice e)) (h : Value.okWide P w r base t (.slice (some a) len cap)) : ∃ b o, a = ⟨b, o, none⟩ ∧ b < w.heap.size := by
  simp only [Value.okWide, ht, Cell.okWide, Cell.ok] at h
  obtain ⟨o, h1, h2⟩ := has_block h.2.2
  exact ⟨a.block, o, h1, h2⟩

theorem repSl_of : ∀ (l : List (List UInt8)) (b o : Nat), b < w.heap.size → (∀ (j : Nat) s, l[j]? = some s → w.cell? ⟨b, o + j, none⟩ = some (.string ⟨s.toArray⟩)) → RepSl T w (fun k => k < w.heap.size) 1 b o (strsA l)
  | [], b, o, _, _ => by simp [strsA, RepSl]
  | s :: r, b, o, hb, h => by
    have ih := repSl_of r b (o + 1) hb (fun j s' hj => by
      have := h (j + 1) s' (by simpa using hj)
      rwa [show o + 1 + j = o + (j + 1) by omega])
    simp only [strsA, List.map_cons, RepSl]
    exact ⟨trivial, ⟨hb, .string ⟨s.toArray⟩, by simpa using h 0 s rfl, by simp [Rep]⟩, ih⟩

/-- A slice of texts that came in. -/
theorem open_strs {t e : TypeId} {base : Nat} {v : Value} {d : DataW H} {ps : List MemPlace} (ht : P.underlying t = some (.slice e)) (he : P.underlying e = some .string) (hc : P.cellsOf e = 1)
    (hval : Value.okWide P w .any base t v) (h : DataW.Trod enc P w 0 (fun _ => true) true t v d ps) :
    ∃ (x : AV) (l : List (List UInt8)), slStrs x = some l ∧ Rep T w (fun k => k < w.heap.size) noRho x v ∧ l.length < 9223372036854775808 ∧ ∀ s ∈ l, s.length < 9223372036854775808 := by
  obtain ⟨a0, len0, cap0, rfl⟩ := okWide_slice ht hval
  obtain ⟨fuel, hf⟩ := h
  rcases open_strings ht he hc hf with ⟨hcs, _⟩ | ⟨a, len, cap, ss, hcs, _, hl, hm, hsl, _, hcell, hsz⟩
  · simp [Value.cells] at hcs
    obtain ⟨rfl, rfl, rfl⟩ := hcs
    exact ⟨.nilS, [], rfl, by simp [Rep], by simp, by simp⟩
  · simp [Value.cells] at hcs
    obtain ⟨rfl, rfl, rfl⟩ := hcs
    obtain ⟨b, o, rfl, hb⟩ := okWide_place ht hval
    simp only [if_true] at hsl
    obtain ⟨l, hl'⟩ : ∃ l : List (List UInt8), l = (ss.take len0).map (·.data.toList) := ⟨_, rfl⟩
    have hll : l.length = len0 := by rw [hl', List.length_map, List.length_take]; omega
    refine ⟨.sl 1 (strsA l), l, ?_, ?_, ?_, ?_⟩
    · simp [slStrs]
    · simp only [Rep]
      refine ⟨b, o, cap0, ?_, ?_, ?_⟩
      · simp [hll]
      · simp [hll]; exact hl
      · refine repSl_of l b o hb ?_
        intro j s hj
        have hjl : j < l.length := by
          rcases Nat.lt_or_ge j l.length with h | h
          · exact h
          · simp [List.getElem?_eq_none h] at hj
        have hjs : j < ss.length := by omega
        have := hcell j hjs
        rw [addr_add] at this
        rw [this]
        rw [hl', List.getElem?_map, List.getElem?_take_of_lt (by omega), List.getElem?_eq_getElem hjs] at hj
        simp at hj
        rw [List.getD_eq_getElem?_getD, List.getElem?_eq_getElem hjs]
        simp [← hj]
    · have h1 : cap0 ≤ 9223372036854775807 := hm
      omega
    · intro s hs
      rw [hl'] at hs
      obtain ⟨q, hq, rfl⟩ := List.mem_map.1 hs
      have h1 : q.size ≤ 9223372036854775807 := hsz q (List.mem_of_mem_take hq)
      have h2 : q.data.toList.length = q.size := by simp
      omega
end
theorem lkGl_mem : ∀ {l : List (Nat × List AV)} {g : Nat} {cs : List AV}, lkGl l g = some cs → (g, cs) ∈ l
  | [], _, _, h => by simp [lkGl] at h
  | (i, v) :: r, g, cs, h => by
    simp only [lkGl] at h
    split at h
    · rename_i e
      simp only [beq_iff_eq] at e
      simp only [Option.some.injEq] at h
      subst e; subst h; simp
    · exact List.mem_cons_of_mem _ (lkGl_mem h)

theorem GlobOk.of {T : Tab} {w : World} {F : Frz} (h : ∀ p ∈ T.gl, RepAt T w F p.1 0 p.2 ∧ F p.1 ∧ ∃ vs q a, w.heap[p.1]? = some (.cells vs q a) ∧ vs.size = p.2.length) : GlobOk T w F := fun g cs hg => h (g, cs) (lkGl_mem hg)

theorem var_heap {P : Program} {w : World} {n : String} {g : Nat} {cs : Array Value} (hg : P.globalNamed n = some g) (hv : w.var? P n = some cs) : ∃ q a, w.heap[g]? = some (.cells cs q a) := by
  simp only [World.var?, hg, Option.bind_some] at hv
  split at hv
  · rename_i cs' q a h
    injection hv with hv
    subst hv
    exact ⟨q, a, h⟩
  · simp at hv

theorem lt_of_heap {w : World} {g : Nat} {x : Obj} (h : w.heap[g]? = some x) : g < w.heap.size := by
  rcases Nat.lt_or_ge g w.heap.size with h' | h'
  · exact h'
  · rw [Array.getElem?_eq_none h'] at h; simp at h

/-- A variable that bears an error. -/
theorem repAt_err {T : Tab} {P : Program} {w : World} {n : String} {g tp : Nat} {y : Value} (hg : P.globalNamed n = some g) (hv : w.var? P n = some #[.iface tp y]) (ht : lkN T.tys tp = some 3) :
    RepAt T w (fun b => b < w.heap.size) g 0 [.ifc 3 .junk] ∧ g < w.heap.size ∧ ∃ vs q a, w.heap[g]? = some (.cells vs q a) ∧ vs.size = 1 := by
  obtain ⟨q, a, h⟩ := var_heap hg hv
  refine ⟨?_, lt_of_heap h, _, q, a, h, rfl⟩
  simp only [RepAt, and_true]
  exact ⟨lt_of_heap h, _, by simpa using World.var?_cell hg hv 0, tp, y, rfl, ht, trivial⟩

theorem repAt_ints {T : Tab} {w : World} {F : Frz} {g : Nat} {k : IntKind} (hF : F g) : ∀ (zs : List Int) (o : Nat), (∀ j z, zs[j]? = some z → w.cell? ⟨g, o + j, none⟩ = some (.int k z)) → RepAt T w F g o (zs.map (AV.int k))
  | [], _, _ => trivial
  | z :: r, o, h => by
    simp only [List.map_cons, RepAt]
    refine ⟨⟨hF, _, by simpa using h 0 z rfl, by simp [Rep]⟩, ?_⟩
    exact repAt_ints hF r (o + 1) fun j s hj => by
      rw [show o + 1 + j = o + (j + 1) by omega]
      exact h (j + 1) s (by simpa using hj)

/-- A table of integers. -/
theorem repAt_tab {T : Tab} {P : Program} {w : World} {n : String} {g : Nat} {k : IntKind} {zs : List Int} (hg : P.globalNamed n = some g) (hv : Lib.TabIs P w n k zs) :
    RepAt T w (fun b => b < w.heap.size) g 0 (zs.map (AV.int k)) ∧ g < w.heap.size ∧ ∃ vs q a, w.heap[g]? = some (.cells vs q a) ∧ vs.size = (zs.map (AV.int k)).length := by
  have hv' : w.var? P n = some (zs.map fun z => Value.int k z).toArray := hv
  obtain ⟨q, a, h⟩ := var_heap hg hv'
  refine ⟨repAt_ints (F := fun b => b < w.heap.size) (lt_of_heap h) zs 0 fun j z hj => ?_, lt_of_heap h, _, q, a, h, by simp⟩
  have hc := World.var?_cell hg hv' j
  rw [Nat.zero_add, hc]
  simp [hj]

theorem rep_ints {T : Tab} {w : World} {F : Frz} {g : Nat} {k : IntKind} : ∀ (zs : List Int) (o : Nat), RepAt T w F g o (zs.map (AV.int k)) → ∀ j z, zs[j]? = some z → w.cell? ⟨g, o + j, none⟩ = some (.int k z)
  | [], _, _, j, z, hj => by simp at hj
  | x :: r, o, h, j, z, hj => by
    simp only [List.map_cons, RepAt, Rep] at h
    obtain ⟨⟨_, v, hv, rfl⟩, h⟩ := h
    cases j with
    | zero => simp at hj; subst hj; simpa using hv
    | succ j =>
      have := rep_ints r (o + 1) h j z (by simpa using hj)
      rw [show o + 1 + j = o + (j + 1) by omega] at this
      exact this

theorem tab_glob {T : Tab} {P : Program} {w : World} {F : Frz} {n : String} {g : Nat} {k : IntKind} {zs : List Int} (hg : P.globalNamed n = some g) (hl : lkGl T.gl g = some (zs.map (AV.int k))) (h : GlobOk T w F) : Lib.TabIs P w n k zs := by
  obtain ⟨h1, h2, vs, q, a, h3, h4⟩ := h g _ hl
  show w.var? P n = _
  simp only [World.var?, hg, Option.bind_some, h3, Option.some.injEq]
  apply Array.ext
  · simp [h4]
  · intro i hi1 hi2
    have hi : i < zs.length := by simpa using hi2
    have := rep_ints zs 0 h1 i zs[i] (by simp [hi])
    simp only [World.cell?, h3, Nat.zero_add] at this
    simp [Array.getElem?_eq_getElem hi1] at this
    simpa using this
end Wax

/- strconv.Itoa, as the kit's shelf has it, for the engine. -/
namespace Wax
open Go Go.RowKit Go.Sort

def ItoaSays (P : Program) (T : Tab) (f : FuncId) : Prop :=
  ∃ g : Nat, P.globalNamed "internal/strconv.uint64pow10" = some g ∧ lkGl T.gl g = some (Lib.pow10Tab.map (AV.int .u64)) ∧
  ∀ (n : Int) (_ : -9223372036854775808 ≤ n) (_ : n ≤ 9223372036854775807) (w : World) (_ : Lib.TabIs P w "internal/strconv.uint64pow10" .u64 Lib.pow10Tab),
    Calls P f #[.int .i64 n] w fun e w' => e = .returned (.string ⟨(Lib.itoa n).toArray⟩) ∧ ∃ k os, w' = grow (w.drewN k) os

def con_Itoa : List AV → Option AV
  | [.int .i64 n] => if -9223372036854775808 ≤ n ∧ n ≤ 9223372036854775807 then some (.str (Lib.itoa n)) else none
  | _ => none

theorem ok_Itoa {P : Program} {T : Tab} {f : FuncId} (H : ItoaSays P T f) : ∀ args r, con_Itoa args = some r → OkCall P T f args r := by
  intro args r h w F vs hF hgl hx
  obtain ⟨g, hg, hl, H1⟩ := H
  simp only [con_Itoa] at h
  split at h <;> (try simp at h; done)
  rename_i n
  obtain ⟨⟨h0, h1⟩, rfl⟩ := ite_some h
  clear h
  match vs, hx with
  | [v1], hx =>
    simp only [RepL, and_true, Rep] at hx
    subst hx
    refine (H1 n h0 h1 w (tab_glob hg hl hgl)).mono ?_
    rintro e w' ⟨rfl, k, os, rfl⟩
    exact ⟨_, rfl, Lib.below_grow _ _ (Nat.le_refl _) _ _, by simp [Rep]⟩
end Wax

/- FnDRecords (8): dkim.parsePublicKey, from its start. -/
namespace Wax
open Go (IntKind)
open Go

theorem lookP_findP : ∀ (l : List (List UInt8 × List UInt8)) (k : List UInt8), lookP l k = (findP l k).getD []
  | [], _ => rfl
  | (i, v) :: r, k => by
    have ih := lookP_findP r k
    by_cases h : k = i
    · simp [lookP, findP, h]
    · have h' : ¬ i = k := fun e => h e.symm
      simp only [lookP, findP, if_neg h, if_neg h', ih]

def rsaB : List UInt8 := [114, 115, 97]
def edB : List UInt8 := [101, 100, 50, 53, 53, 49, 57]
def k0 : List AV := [.str [], .nilS, .int .i64 0, .nilS, .nilS, .nilS, .str [], .bool false, .bool false]
def r0 : List AV := [.nilI, .str [], .nilS, .str [], .nilS, .nilS]

def mA (n : Int) : List UInt8 := [107, 101, 121, 32, 105, 115, 32, 116, 111, 111, 32, 115, 104, 111, 114, 116, 58, 32, 119, 97, 110, 116, 32, 49, 48, 50, 52, 32, 98, 105, 116, 115, 44, 32, 104, 97, 115, 32] ++ Lib.itoa n ++ [32, 98, 105, 116, 115]
def mE (n : Int) : List UInt8 := [105, 110, 118, 97, 108, 105, 100, 32, 69, 100, 50, 53, 53, 49, 57, 32, 112, 117, 98, 108, 105, 99, 32, 107, 101, 121, 32, 115, 105, 122, 101, 58, 32] ++ Lib.itoa n ++ [32, 98, 121, 116, 101, 115]
def mU : List UInt8 := [117, 110, 115, 117, 112, 112, 111, 114, 116, 101, 100, 32, 107, 101, 121, 32, 97, 108, 103, 111, 114, 105, 116, 104, 109]

/-- What a key is, from its kind on. -/
def swRes (acc : List (List UInt8 × List UInt8)) (b : List UInt8) : (List UInt8 × Option (List UInt8)) ⊕ (List UInt8) :=
  if lookP acc [107] = rsaB ∨ lookP acc [107] = [] then
    if 8 * (b.length : Int) < 1024 then .inl (mA (8 * (b.length : Int)), some rsaB) else .inr rsaB
  else if lookP acc [107] = edB then
    if b.length = 32 then .inr edB else .inl (mE b.length, none)
  else .inl (mU, none)

def okPtr (acc : List (List UInt8 × List UInt8)) (k b : List UInt8) : AV := .ptr (rcells k b (tagVal (findP acc [104])) (noteVal (findP acc [110])) (servVal (findP acc [115])) (tagVal (findP acc [116])))

def swQ (Q : APost) (acc : List (List UInt8 × List UInt8)) (b : List UInt8) : (List UInt8 × Option (List UInt8)) ⊕ (List UInt8) → Prop
  | .inl (m, none) => Q .ret ⟨[(4, .nilP), (5, .ifc 5 (.str m))], [(43, .cells r0), (1000000, .cells k0)]⟩
  | .inl (m, some k) => Q .ret ⟨[(4, .nilP), (5, .ifc 5 (.str m))], [(1000000, .cells (kcells k b)), (43, .cells r0)]⟩
  | .inr k => Q .ret ⟨[(4, okPtr acc k b), (5, .nilI)], [(1000000, .cells (kcells k b))]⟩

set_option maxHeartbeats 4000000 in
set_option maxRecDepth 10000 in
theorem pk_17 {Γ : Gam} {Q : APost} (h24 : Γ.fn 24 = con_parseTagList) (h74 : Γ.fn 74 = con_Itoa) (s82 : Γ.st 82 = con_DRecord1) (acc : List (List UInt8 × List UInt8)) (b : List UInt8) (hb : b.length < mid) (hT : tagOk (findP acc [116])) (hS : tagOk (findP acc [115])) (hH : tagOk (findP acc [104]))
    (hQ : swQ Q acc b (swRes acc b)) :
    ∀ ex, awp Γ f_dkim_parsePublicKey_7 Q ⟨(1, .fn 82 [.ref 1000000 0]) :: (6, .mp (pmA acc)) :: (7, .nilI) :: (8, .ref 43 0) :: (13, .sl 1 (bcA b)) :: ex, [(43, .cells r0), (1000000, .cells k0)]⟩ := by
  intro ex
  have k82 : ∀ k, con_DRecord1 [.str k, .sl 1 (bcA b), .ref 0 0] [(0, .cells k0)] = some (.tup [.ifc 6 (.agg [.str k, .sl 1 (bcA b)]), .int .i64 (szOf k b), .nilI], [(0, .cells (kcells k b))]) := by
    intro k
    simp [con_DRecord1, k0, hb, kcells]
  simp only [k0, kcells] at k82
  have z1 : szOf [114, 115, 97] b = 8 * (b.length : Int) := by simp [szOf]
  simp only [mid] at hb
  have pk := fun k (hQ' : swQ Q acc b (.inr k)) => pk_36 h24 acc k b hT hS hH hQ'
  simp only [kcells, rcells, z1] at pk
  by_cases hk1 : lookP acc [107] = rsaB
  · have e : swRes acc b = if 8 * (b.length : Int) < 1024 then .inl (mA (8 * (b.length : Int)), some rsaB) else .inr rsaB := by simp only [swRes, hk1, true_or, if_true]
    rw [e] at hQ
    simp only [rsaB] at hk1
    by_cases hs : 8 * (b.length : Int) < 1024
    · have k74 : con_Itoa [.int .i64 (8 * (b.length : Int))] = some (.str (Lib.itoa (8 * (b.length : Int)))) := if_pos ⟨by omega, by omega⟩
      have hl := Lib.itoa_length_le (8 * (b.length : Int)) (by omega) (by omega)
      rw [if_pos hs] at hQ
      simp -implicitDefEqProofs [f_dkim_parsePublicKey_7, lookA_pmA, hk1, acallS, s82, k82, reach_succ, k0, kcells, r0, z1, hs, acall, h74, k74]
      refine ⟨by omega, by omega, ?_⟩
      simpa [swQ, mA, kcells, r0, rsaB, z1] using hQ
    · rw [if_neg hs] at hQ
      simp -implicitDefEqProofs [f_dkim_parsePublicKey_7, lookA_pmA, hk1, acallS, s82, k82, reach_succ, k0, kcells, r0, z1, hs]
      exact pk rsaB hQ _
  · by_cases hk2 : lookP acc [107] = []
    · have e : swRes acc b = if 8 * (b.length : Int) < 1024 then .inl (mA (8 * (b.length : Int)), some rsaB) else .inr rsaB := by simp only [swRes, hk2, or_true, if_true]
      rw [e] at hQ
      by_cases hs : 8 * (b.length : Int) < 1024
      · have k74 : con_Itoa [.int .i64 (8 * (b.length : Int))] = some (.str (Lib.itoa (8 * (b.length : Int)))) := if_pos ⟨by omega, by omega⟩
        have hl := Lib.itoa_length_le (8 * (b.length : Int)) (by omega) (by omega)
        rw [if_pos hs] at hQ
        simp -implicitDefEqProofs [f_dkim_parsePublicKey_7, lookA_pmA, hk2, acallS, s82, k82, reach_succ, k0, kcells, r0, z1, hs, acall, h74, k74]
        refine ⟨by omega, by omega, ?_⟩
        simpa [swQ, mA, kcells, r0, rsaB, z1] using hQ
      · rw [if_neg hs] at hQ
        simp -implicitDefEqProofs [f_dkim_parsePublicKey_7, lookA_pmA, hk2, acallS, s82, k82, reach_succ, k0, kcells, r0, z1, hs]
        exact pk rsaB hQ _
    · by_cases hk3 : lookP acc [107] = edB
      · have e : swRes acc b = if b.length = 32 then .inr edB else .inl (mE b.length, none) := by simp only [swRes, hk1, hk2, or_self, if_false, hk3, if_true]; simp [edB, rsaB]
        rw [e] at hQ
        simp only [edB] at hk3
        by_cases hs : b.length = 32
        · rw [if_pos hs] at hQ
          simp -implicitDefEqProofs [f_dkim_parsePublicKey_7, lookA_pmA, hk3, acallS, s82, k82, reach_succ, k0, kcells, r0, hs]
          exact pk edB hQ _
        · have k74 : con_Itoa [.int .i64 (b.length : Int)] = some (.str (Lib.itoa (b.length : Int))) := if_pos ⟨by omega, by omega⟩
          have hl := Lib.itoa_length_le (b.length : Int) (by omega) (by omega)
          have hs' : ¬ (b.length : Int) = 32 := by omega
          rw [if_neg hs] at hQ
          simp -implicitDefEqProofs [f_dkim_parsePublicKey_7, lookA_pmA, hk3, k0, r0, hs', acall, h74, k74]
          refine ⟨by omega, by omega, ?_⟩
          simpa [swQ, mE, k0, r0] using hQ
      · have e : swRes acc b = .inl (mU, none) := by simp only [swRes, hk1, hk2, or_self, if_false, hk3]
        rw [e] at hQ
        simp only [rsaB, edB] at hk1 hk3
        simp -implicitDefEqProofs [f_dkim_parsePublicKey_7, lookA_pmA, hk1, hk2, hk3, k0, r0]
        simpa [swQ, mU, k0, r0] using hQ
end Wax

/- FnDRecords (9): dkim.parsePublicKey, its whole. -/
namespace Wax
open Go (IntKind)

theorem prm_vals (n : Nat) : ∀ (L : List (List UInt8)) (acc : List (List UInt8 × List UInt8)), (∀ p ∈ L, p.length ≤ n ∧ plain p = true) → (∀ q ∈ acc, q.2.length ≤ n ∧ plain q.2 = true) → ∀ q ∈ (prm L acc).1, q.2.length ≤ n ∧ plain q.2 = true
  | [], acc, _, h2 => h2
  | p :: r, acc, h1, h2 => by
    have hr : ∀ p ∈ r, p.length ≤ n ∧ plain p = true := fun p hp => h1 p (by simp [hp])
    simp only [prm]
    cases hc : cutAt 61 p with
    | none =>
      simp only
      by_cases ht : trimS p = []
      · simp only [ht, if_true]; exact prm_vals n r acc hr h2
      · simp only [ht, if_false]; exact h2
    | some q =>
      simp only
      split
      · exact h2
      · refine prm_vals n r _ hr fun z hz => ?_
        rcases List.mem_append.1 hz with hz | hz
        · exact h2 z hz
        · simp only [List.mem_singleton] at hz
          subst hz
          have t1 := trimS_length q.2
          obtain ⟨t2, x, t4⟩ := cutAt_le hc
          have t3 := h1 p (by simp)
          simp only
          exact ⟨by omega, plain_sub (fun y hy => by rw [t4]; simp [trimS_sub y hy]) t3.2⟩

theorem prm_err : ∀ (L : List (List UInt8)) (acc : List (List UInt8 × List UInt8)) (m : List UInt8), (prm L acc).2 = some m → m = msgBad ∨ m = msgTwice
  | [], acc, m, h => by simp [prm] at h
  | p :: r, acc, m, h => by
    simp only [prm] at h
    split at h
    · split at h
      · exact prm_err r acc m h
      · simp at h; exact .inl h.symm
    · split at h
      · simp at h; exact .inr h.symm
      · exact prm_err r _ m h

theorem findP_mem : ∀ {l : List (List UInt8 × List UInt8)} {k v : List UInt8}, findP l k = some v → (k, v) ∈ l
  | [], _, _, h => by simp [findP] at h
  | (i, u) :: r, k, v, h => by
    simp only [findP] at h
    split at h
    · rename_i e; simp at h; subst e; subst h; simp
    · exact List.mem_cons_of_mem _ (findP_mem h)

def msgK : List UInt8 := [107, 101, 121, 32, 114, 101, 99, 111, 114, 100, 32, 101, 114, 114, 111, 114, 58, 32]
def msgS : List UInt8 := [107, 101, 121, 32, 115, 121, 110, 116, 97, 120, 32, 101, 114, 114, 111, 114, 58, 32]
def msgV : List UInt8 := [105, 110, 99, 111, 109, 112, 97, 116, 105, 98, 108, 101, 32, 112, 117, 98, 108, 105, 99, 32, 107, 101, 121, 32, 118, 101, 114, 115, 105, 111, 110]
def msgP : List UInt8 := [107, 101, 121, 32, 115, 121, 110, 116, 97, 120, 32, 101, 114, 114, 111, 114, 58, 32, 109, 105, 115, 115, 105, 110, 103, 32, 112, 117, 98, 108, 105, 99, 32, 107, 101, 121, 32, 100, 97, 116, 97]
def msgR : List UInt8 := [107, 101, 121, 32, 114, 101, 118, 111, 107, 101, 100]
def dk1 : List UInt8 := [68, 75, 73, 77, 49]

/-- What a record's key is: an error's text (and what the callback was given), or its kind and bytes. -/
def pk3 (acc : List (List UInt8 × List UInt8)) (p : List UInt8) : (List UInt8 × Option (List UInt8 × List UInt8)) ⊕ (List UInt8 × List UInt8) :=
  match dec64 quadI (cleanS (noBlank p)) with
  | none => .inl (msgS ++ msg64, none)
  | some b => match swRes acc b with
    | .inl (m, k) => .inl (m, k.map (·, b))
    | .inr k => .inr (k, b)
def pk2 (acc : List (List UInt8 × List UInt8)) : (List UInt8 × Option (List UInt8 × List UInt8)) ⊕ (List UInt8 × List UInt8) :=
  match findP acc [112] with
  | none => .inl (msgP, none)
  | some p => if p = [] then .inl (msgR, none) else pk3 acc p
def pk1 (acc : List (List UInt8 × List UInt8)) : (List UInt8 × Option (List UInt8 × List UInt8)) ⊕ (List UInt8 × List UInt8) :=
  match findP acc [118] with
  | some v => if v = dk1 then pk2 acc else .inl (msgV, none)
  | none => pk2 acc

def pkQ (Q : APost) (acc : List (List UInt8 × List UInt8)) : (List UInt8 × Option (List UInt8 × List UInt8)) ⊕ (List UInt8 × List UInt8) → Prop
  | .inl (m, none) => Q .ret ⟨[(4, .nilP), (5, .ifc 5 (.str m))], [(43, .cells r0), (1000000, .cells k0)]⟩
  | .inl (m, some (k, b)) => Q .ret ⟨[(4, .nilP), (5, .ifc 5 (.str m))], [(1000000, .cells (kcells k b)), (43, .cells r0)]⟩
  | .inr (k, b) => Q .ret ⟨[(4, okPtr acc k b), (5, .nilI)], [(1000000, .cells (kcells k b))]⟩

theorem decI_len {s o : List UInt8} (h : dec64 quadI s = some o) : o.length ≤ s.length := dec64_len (fun l a b c d x hx => by
  simp only [quadI, Option.map_eq_some_iff] at hx
  obtain ⟨p, _, rfl⟩ := hx
  simp [bytes3]; omega) h
theorem cleanS_len (s : List UInt8) : (cleanS s).length ≤ s.length := List.length_filter_le _ _

set_option maxHeartbeats 2000000 in
set_option maxRecDepth 10000 in
theorem pk_13 {Γ : Gam} {Q : APost} (h24 : Γ.fn 24 = con_parseTagList) (h74 : Γ.fn 74 = con_Itoa) (s82 : Γ.st 82 = con_DRecord1) (h72 : Γ.fn 72 = con_ReplaceAll) (h73 : Γ.fn 73 = con_zzDecode) (m3 : Γ.mth 3 "Error" = some 90) (h90 : Γ.fn 90 = con_errString)
    (acc : List (List UInt8 × List UInt8)) (p : List UInt8) (hp : p.length < mid) (hT : tagOk (findP acc [116])) (hS : tagOk (findP acc [115])) (hH : tagOk (findP acc [104]))
    (hQ : pkQ Q acc (pk3 acc p)) :
    ∀ ex, awp Γ f_dkim_parsePublicKey_8 Q ⟨(1, .fn 82 [.ref 1000000 0]) :: (6, .mp (pmA acc)) :: (8, .ref 43 0) :: (11, .str p) :: ex, [(43, .cells r0), (1000000, .cells k0)]⟩ := by
  intro ex
  have k72 : con_ReplaceAll [.str p, .str [32], .str []] = some (.str (noBlank p)) := if_pos hp
  have hn := noBlank_len p
  have k73 : con_zzDecode [.str (noBlank p)] = some (decV (dec64 quadI (cleanS (noBlank p)))) := if_pos (by omega)
  cases hd : dec64 quadI (cleanS (noBlank p)) with
  | none =>
    rw [hd] at k73
    simp only [pk3, hd] at hQ
    have k90 : con_errString [.ptr [.str msg64]] = some (.str msg64) := rfl
    simp -implicitDefEqProofs [f_dkim_parsePublicKey_8, acall, h72, k72, h73, k73, decV, m3, h90, k90, k0, r0]
    refine ⟨by decide, ?_⟩
    simpa [pkQ, msgS, k0, r0] using hQ
  | some b =>
    rw [hd] at k73
    have hb := decI_len hd
    have hc := cleanS_len (noBlank p)
    simp only [pk3, hd] at hQ
    simp -implicitDefEqProofs [f_dkim_parsePublicKey_8, acall, h72, k72, h73, k73, decV]
    refine pk_17 h24 h74 s82 acc b (by omega) hT hS hH ?_ _
    cases hs : swRes acc b with
    | inl x => obtain ⟨m, k⟩ := x; rw [hs] at hQ; cases k <;> exact hQ
    | inr k => rw [hs] at hQ; exact hQ

set_option maxHeartbeats 2000000 in
set_option maxRecDepth 10000 in
theorem pk_5 {Γ : Gam} {Q : APost} (h24 : Γ.fn 24 = con_parseTagList) (h74 : Γ.fn 74 = con_Itoa) (s82 : Γ.st 82 = con_DRecord1) (h72 : Γ.fn 72 = con_ReplaceAll) (h73 : Γ.fn 73 = con_zzDecode) (m3 : Γ.mth 3 "Error" = some 90) (h90 : Γ.fn 90 = con_errString)
    (acc : List (List UInt8 × List UInt8)) (hp : tagOk (findP acc [112])) (hT : tagOk (findP acc [116])) (hS : tagOk (findP acc [115])) (hH : tagOk (findP acc [104]))
    (hQ : pkQ Q acc (pk1 acc)) :
    ∀ ex, awp Γ f_dkim_parsePublicKey_10 Q ⟨(1, .fn 82 [.ref 1000000 0]) :: (6, .mp (pmA acc)) :: (8, .ref 43 0) :: ex, [(43, .cells r0), (1000000, .cells k0)]⟩ := by
  have key : pkQ Q acc (pk2 acc) → ∀ ex, awp Γ f_dkim_parsePublicKey_9 Q ⟨(1, .fn 82 [.ref 1000000 0]) :: (6, .mp (pmA acc)) :: (8, .ref 43 0) :: ex, [(43, .cells r0), (1000000, .cells k0)]⟩ := by
    intro hQ ex
    cases h1 : findP acc [112] with
    | none =>
      simp only [pk2, h1] at hQ
      simp -implicitDefEqProofs [f_dkim_parsePublicKey_9, lookA_true, h1, valV, k0, r0]
      simpa [pkQ, msgP, k0, r0] using hQ
    | some p =>
      by_cases hp0 : p = []
      · subst hp0
        simp only [pk2, h1, if_true] at hQ
        simp -implicitDefEqProofs [f_dkim_parsePublicKey_9, lookA_true, h1, valV, k0, r0]
        simpa [pkQ, msgR, k0, r0] using hQ
      · simp only [pk2, h1, if_neg hp0] at hQ
        simp -implicitDefEqProofs [f_dkim_parsePublicKey_9, lookA_true, h1, valV, hp0]
        exact pk_13 h24 h74 s82 h72 h73 m3 h90 acc p (hp p h1).1 hT hS hH hQ _
  intro ex
  cases h1 : findP acc [118] with
  | none =>
    simp only [pk1, h1] at hQ
    simp -implicitDefEqProofs [f_dkim_parsePublicKey_10, lookA_true, h1, valV]
    exact key hQ _
  | some v =>
    by_cases hv : v = dk1
    · subst hv
      simp only [pk1, h1, if_true] at hQ
      simp -implicitDefEqProofs [f_dkim_parsePublicKey_10, lookA_true, h1, valV, dk1]
      exact key hQ _
    · simp only [pk1, h1, if_neg hv] at hQ
      simp only [dk1] at hv
      simp -implicitDefEqProofs [f_dkim_parsePublicKey_10, lookA_true, h1, valV, hv, k0, r0]
      simpa [pkQ, msgV, k0, r0] using hQ
end Wax

/- FnDRecords (10): dkim.parsePublicKey and ParseRecord. -/
namespace Wax
open Go (IntKind)

def pkV (s : List UInt8) : AV × List (Nat × AObj) := match prm (splitB 59 s) [] with
  | (_, some m) => (.tup [.nilP, .ifc 5 (.str (msgK ++ m))], [(0, .cells k0)])
  | (acc, none) => match pk1 acc with
    | .inl (m, none) => (.tup [.nilP, .ifc 5 (.str m)], [(0, .cells k0)])
    | .inl (m, some (k, b)) => (.tup [.nilP, .ifc 5 (.str m)], [(0, .cells (kcells k b))])
    | .inr (k, b) => (.tup [okPtr acc k b, .nilI], [(0, .cells (kcells k b))])

def con_parsePublicKey : List AV → List (Nat × AObj) → Option (AV × List (Nat × AObj))
  | [.str s, .fn 82 [.ref 0 0]], [(0, .cells [.str [], .nilS, .int .i64 0, .nilS, .nilS, .nilS, .str [], .bool false, .bool false])] => if s.length < half ∧ plain s = true then some (pkV s) else none
  | _, _ => none

theorem prm_tagOk {s : List UInt8} (hs : s.length < half) (hp : plain s = true) (k : List UInt8) : tagOk (findP (prm (splitB 59 s) []).1 k) := by
  intro v hv
  have := prm_vals s.length (splitB 59 s) [] (fun p h => ⟨splitB_mem_length 59 s p h, splitB_plain 59 s p hp h⟩) (by simp) (k, v) (findP_mem hv)
  simp only [half, mid] at *
  exact ⟨by omega, plain_ascii this.2⟩

set_option maxHeartbeats 2000000 in
set_option maxRecDepth 10000 in
theorem ok_parsePublicKey (Γ : Gam) (h24 : Γ.fn 24 = con_parseTagList) (h47 : Γ.fn 47 = con_parseHeaderParams) (h74 : Γ.fn 74 = con_Itoa) (s82 : Γ.st 82 = con_DRecord1) (h72 : Γ.fn 72 = con_ReplaceAll) (h73 : Γ.fn 73 = con_zzDecode) (m3 : Γ.mth 3 "Error" = some 90) (h90 : Γ.fn 90 = con_errString) :
    ∀ args hp q, con_parsePublicKey args hp = some q → runsS Γ c_dkim_parsePublicKey args hp (fun v => v = some q) := by
  intro args hp q h
  unfold con_parsePublicKey at h
  split at h <;> (try simp at h; done)
  rename_i s
  obtain ⟨⟨hs, hpl⟩, rfl⟩ := ite_some h
  clear h
  have k47 : con_parseHeaderParams [.str s] = some (prmV (prm (splitB 59 s) [])) := if_pos ⟨by simp only [half, mid] at *; omega, hpl⟩
  have hT := prm_tagOk hs hpl [116]
  have hS := prm_tagOk hs hpl [115]
  have hH := prm_tagOk hs hpl [104]
  have hP := prm_tagOk hs hpl [112]
  have hE := prm_err (splitB 59 s) []
  simp only [pkV]
  generalize hx : prm (splitB 59 s) [] = x at *
  obtain ⟨acc, e⟩ := x
  cases e with
  | some m =>
    have hm := hE m rfl
    have hml : m.length ≤ 30 := by rcases hm with rfl | rfl <;> decide
    have k90 : con_errString [.ptr [.str m]] = some (.str m) := rfl
    simp -implicitDefEqProofs [c_dkim_parsePublicKey, acall, h47, k47, prmV, m3, h90, k90, k0, reach_succ]
    exact ⟨by omega, by simp [msgK]⟩
  | none =>
    simp only at hT hS hH hP
    simp -implicitDefEqProofs [c_dkim_parsePublicKey, acall, h47, k47, prmV]
    refine pk_5 h24 h74 s82 h72 h73 m3 h90 acc hP hT hS hH ?_ _
    cases hr : pk1 acc with
    | inl x =>
      obtain ⟨m, o⟩ := x
      cases o with
      | none =>
        simp -implicitDefEqProofs [pkQ, reach_succ, k0, r0]
      | some kb =>
        obtain ⟨k, b⟩ := kb
        simp -implicitDefEqProofs [pkQ, reach_succ, k0, r0, kcells]
    | inr kb =>
      obtain ⟨k, b⟩ := kb
      simp -implicitDefEqProofs [pkQ, reach_succ, k0, r0, kcells, okPtr]
end Wax

/- FnDRecords (11): ParseRecord, DRecord. -/
namespace Wax
open Go (IntKind)

theorem tagVal_sl (x : Option (List UInt8)) : slStrs (tagVal x) = some ((x.map tagL).getD []) := by
  cases x <;> simp [tagVal, slStrs]
theorem servVal_sl (x : Option (List UInt8)) : ∃ l, slStrs (servVal x) = some l := by
  cases x with
  | none => exact ⟨[], rfl⟩
  | some v => by_cases h : [42] ∈ tagL v <;> simp [servVal, slStrs, h]

def recZ : AV := .agg [.str [], .nilS, .nilS, .nilS, .str []]
def recP (acc : List (List UInt8 × List UInt8)) (k : List UInt8) : AV := .agg [.str k, tagVal (findP acc [104]), servVal (findP acc [115]), tagVal (findP acc [116]), noteVal (findP acc [110])]

def prV (s : List UInt8) : AV × List (Nat × AObj) := match prm (splitB 59 s) [] with
  | (_, some m) => (.tup [recZ, .ifc 5 (.str (msgK ++ m))], [(0, .cells k0)])
  | (acc, none) => match pk1 acc with
    | .inl (m, none) => (.tup [recZ, .ifc 5 (.str m)], [(0, .cells k0)])
    | .inl (m, some (k, b)) => (.tup [recZ, .ifc 5 (.str m)], [(0, .cells (kcells k b))])
    | .inr (k, b) => (.tup [recP acc k, .nilI], [(0, .cells (kcells k b))])

def con_ParseRecord : List AV → List (Nat × AObj) → Option (AV × List (Nat × AObj))
  | [.str s, .fn 82 [.ref 0 0]], [(0, .cells [.str [], .nilS, .int .i64 0, .nilS, .nilS, .nilS, .str [], .bool false, .bool false])] => if s.length < half ∧ plain s = true then some (prV s) else none
  | _, _ => none

set_option maxHeartbeats 2000000 in
set_option maxRecDepth 10000 in
theorem ok_ParseRecord (Γ : Gam) (s75 : Γ.st 75 = con_parsePublicKey) :
    ∀ args hp q, con_ParseRecord args hp = some q → runsS Γ c_dkim_ParseRecord args hp (fun v => v = some q) := by
  intro args hp q h
  unfold con_ParseRecord at h
  split at h <;> (try simp at h; done)
  rename_i s
  obtain ⟨⟨hs, hpl⟩, rfl⟩ := ite_some h
  clear h
  have k75 : con_parsePublicKey [.str s, .fn 82 [.ref 0 0]] [(0, .cells [.str [], .nilS, .int .i64 0, .nilS, .nilS, .nilS, .str [], .bool false, .bool false])] = some (pkV s) := if_pos ⟨hs, hpl⟩
  simp only [prV]
  simp only [pkV] at k75
  generalize hx : prm (splitB 59 s) [] = x at *
  obtain ⟨acc, e⟩ := x
  cases e with
  | some m =>
    simp only [k0] at k75
    simp -implicitDefEqProofs [c_dkim_ParseRecord, acallS, s75, k75, reach_succ, recZ, k0]
  | none =>
    cases hr : pk1 acc with
    | inl x =>
      obtain ⟨m, o⟩ := x
      cases o with
      | none =>
        simp only [hr, k0] at k75
        simp -implicitDefEqProofs [c_dkim_ParseRecord, acallS, s75, k75, reach_succ, recZ, k0, hr]
      | some kb =>
        obtain ⟨k, b⟩ := kb
        simp only [hr, kcells] at k75
        simp -implicitDefEqProofs [c_dkim_ParseRecord, acallS, s75, k75, reach_succ, recZ, kcells, hr]
    | inr kb =>
      obtain ⟨k, b⟩ := kb
      have t1 := tagVal_sl (findP acc [104])
      obtain ⟨l2, t2⟩ := servVal_sl (findP acc [115])
      have t3 := tagVal_sl (findP acc [116])
      simp only [hr, kcells, okPtr, rcells, noteVal] at k75
      simp only [recP, noteVal, kcells]
      have c1 := slf_cells t1
      have c2 := slf_cells t2
      have c3 := slf_cells t3
      generalize tagVal (findP acc [104]) = T1 at *
      generalize servVal (findP acc [115]) = T2 at *
      generalize tagVal (findP acc [116]) = T3 at *
      simp only [cells] at c1 c2 c3
      simp -implicitDefEqProofs [c_dkim_ParseRecord, acallS, s75, k75, reach_succ, hr, c1, c2, c3, slf_map t1, slf_map t2, slf_map t3, slf_kill t1, slf_kill t2, slf_kill t3, slf_refs t1, slf_refs t2, slf_refs t3, slf_ref t1, slf_ref t2, slf_ref t3, slf_atom t1, slf_atom t2, slf_atom t3, slf_cells t1, slf_cells t2, slf_cells t3, slf_snap t1, slf_snap t2, slf_snap t3]
end Wax

/- FnDRecords (12): DRecord. -/
namespace Wax
open Go (IntKind)

def dkeyZ : AV := .agg [.str [], .nilS, .int .i64 0, .nilS, .nilS, .nilS, .str [], .bool false, .bool false]
def isNilS : AV → Bool
  | .nilS => true
  | _ => false
theorem slf_isNil {u : AV} {l : List (List UInt8)} (h : slStrs u = some l) : u = .nilS ∨ (isNilS u = false ∧ u = .sl 1 (strsA l)) := by
  rcases slStrs_cases h with ⟨rfl, rfl⟩ | rfl
  · exact .inl rfl
  · exact .inr ⟨rfl, rfl⟩

theorem slf_pure {u : AV} {l : List (List UInt8)} (h : slStrs u = some l) : pureV u = true := by
  rcases slStrs_cases h with ⟨rfl, rfl⟩ | rfl <;> rfl

def dkey (acc : List (List UInt8 × List UInt8)) (k b : List UInt8) : AV :=
  .agg [.str k, .sl 1 (bcA b), .int .i64 (szOf k b), tagVal (findP acc [104]), servVal (findP acc [115]), tagVal (findP acc [116]), noteVal (findP acc [110]), .bool (isNilS (tagVal (findP acc [104]))), .bool (isNilS (servVal (findP acc [115])))]

def drV (s : List UInt8) : AV := match prm (splitB 59 s) [] with
  | (_, some _) => .tup [dkeyZ, .int .i64 2]
  | (acc, none) => match pk1 acc with
    | .inl _ => .tup [dkeyZ, .int .i64 2]
    | .inr (k, b) => .tup [dkey acc k b, .int .i64 0]

def con_DRecord : List AV → Option AV
  | [.str s] => if s.length < half ∧ plain s = true then some (drV s) else none
  | _ => none

set_option maxHeartbeats 4000000 in
set_option maxRecDepth 10000 in
theorem ok_DRecord (Γ : Gam) (s81 : Γ.st 81 = con_ParseRecord) (h83 : Γ.fn 83 = con_codeOf) :
    ∀ args r, con_DRecord args = some r → runs Γ c_impl_DRecord args (fun v => v = r) := by
  intro args r h
  simp only [con_DRecord] at h
  split at h <;> (try simp at h; done)
  rename_i s
  obtain ⟨⟨hs, hpl⟩, rfl⟩ := ite_some h
  clear h
  have k81 : con_ParseRecord [.str s, .fn 82 [.ref 0 0]] [(0, .cells [.str [], .nilS, .int .i64 0, .nilS, .nilS, .nilS, .str [], .bool false, .bool false])] = some (prV s) := if_pos ⟨hs, hpl⟩
  have k83 : ∀ m, con_codeOf [.ifc 5 (.str m)] = some (.int .i64 2) := fun m => rfl
  simp only [drV]
  simp only [prV] at k81
  generalize hx : prm (splitB 59 s) [] = x at *
  obtain ⟨acc, e⟩ := x
  cases e with
  | some m =>
    simp only [k0, recZ] at k81
    simp -implicitDefEqProofs [c_impl_DRecord, acall, acallS, s81, k81, reach_succ, h83, k83, dkeyZ]
  | none =>
    cases hr : pk1 acc with
    | inl x =>
      obtain ⟨m, o⟩ := x
      cases o with
      | none =>
        simp only [hr, k0, recZ] at k81
        simp -implicitDefEqProofs [c_impl_DRecord, acall, acallS, s81, k81, reach_succ, h83, k83, dkeyZ, hr]
      | some kb =>
        obtain ⟨k, b⟩ := kb
        simp only [hr, kcells, recZ] at k81
        simp -implicitDefEqProofs [c_impl_DRecord, acall, acallS, s81, k81, reach_succ, h83, k83, dkeyZ, hr]
    | inr kb =>
      obtain ⟨k, b⟩ := kb
      have t1 := tagVal_sl (findP acc [104])
      obtain ⟨l2, t2⟩ := servVal_sl (findP acc [115])
      have t3 := tagVal_sl (findP acc [116])
      have c3 := slf_cells t3
      simp only [hr, kcells, recP, noteVal] at k81
      simp only [dkey, noteVal]
      generalize tagVal (findP acc [104]) = T1 at *
      generalize servVal (findP acc [115]) = T2 at *
      generalize tagVal (findP acc [116]) = T3 at *
      simp only [cells] at c3
      rcases slf_isNil t1 with rfl | ⟨i1, rfl⟩ <;> rcases slf_isNil t2 with rfl | ⟨i2, rfl⟩ <;>
      simp -implicitDefEqProofs [c_impl_DRecord, acallS, s81, k81, reach_succ, hr, c3, isNilS, slf_map t3, slf_kill t3, slf_refs t3, slf_ref t3, slf_atom t3, slf_cells t3, slf_snap t3, slf_snapW t3, slf_pure t3]
end Wax

/- FnDWords (2): numbers. -/
namespace Wax
open Go (IntKind)

def con_Unix : List AV → Option AV
  | [.int .i64 n] => some (.agg [.int .i64 n, .bool true])
  | _ => none

theorem ok_Unix (Γ : Gam) : ∀ args r, con_Unix args = some r → runs Γ c_dkim_Unix args (fun v => v = r) := by
  intro args r h
  simp only [con_Unix] at h
  split at h <;> (try simp at h; done)
  simp only [Option.some.injEq] at h
  subst h
  simp -implicitDefEqProofs [c_dkim_Unix]

def timeV : Go.Lib.NumEnd Int → AV
  | .ok v => .tup [.agg [.int .i64 v, .bool true], .nilI]
  | _ => .tup [.agg [.int .i64 0, .bool false], .ifc 4 .junk]

def con_parseTime : List AV → Option AV
  | [.str s] => if s.length < mid ∧ ascii s = true then some (timeV (Go.Lib.atoiAll (stripS s))) else none
  | _ => none

theorem ok_parseTime (Γ : Gam) (h26 : Γ.fn 26 = con_stripWhitespace) (h61 : Γ.fn 61 = con_ParseInt) (h62 : Γ.fn 62 = con_Unix) : ∀ args r, con_parseTime args = some r → runs Γ c_dkim_parseTime args (fun v => v = r) := by
  intro args r h
  simp only [con_parseTime] at h
  split at h <;> (try simp at h; done)
  rename_i s
  obtain ⟨⟨hs, ha⟩, rfl⟩ := ite_some h
  clear h
  have k26 : con_stripWhitespace [.str s] = some (.str (stripS s)) := if_pos ⟨hs, ha⟩
  have hl := stripS_length s
  have k61 : con_ParseInt [.str (stripS s), .int .i64 10, .int .i64 64] = some (numV (Go.Lib.atoiAll (stripS s))) := if_pos ⟨by omega, rfl, rfl⟩
  generalize Go.Lib.atoiAll (stripS s) = e at *
  cases e with
  | ok v => simp -implicitDefEqProofs [c_dkim_parseTime, acall, h26, k26, h61, k61, numV, timeV, h62, con_Unix]
  | _ => simp -implicitDefEqProofs [c_dkim_parseTime, acall, h26, k26, h61, k61, numV, timeV]

theorem ok_Number (Γ : Gam) (h63 : Γ.fn 63 = con_parseTime) : ∀ args r, con_parseTime args = some r → runs Γ c_dkim_Number args (fun v => v = r) := by
  intro args r h
  have h' := h
  simp only [con_parseTime] at h
  split at h <;> (try simp at h; done)
  rename_i s
  obtain ⟨_, rfl⟩ := ite_some h
  clear h
  generalize Go.Lib.atoiAll (stripS s) = e at *
  cases e <;> simp only [timeV] at h' <;> simp -implicitDefEqProofs [c_dkim_Number, acall, h63, h', timeV]

def con_TimeUnix : List AV → Option AV
  | [.agg [.int .i64 n, .bool b]] => some (.int .i64 n)
  | _ => none

theorem ok_TimeUnix (Γ : Gam) : ∀ args r, con_TimeUnix args = some r → runs Γ c_dkim_Time_Unix args (fun v => v = r) := by
  intro args r h
  simp only [con_TimeUnix] at h
  split at h <;> (try simp at h; done)
  simp only [Option.some.injEq] at h
  subst h
  simp -implicitDefEqProofs [c_dkim_Time_Unix]

def wholeV : Option Int → AV
  | some v => .tup [.int .i64 v, .bool true]
  | none => .tup [.int .i64 0, .bool false]

def endO : Go.Lib.NumEnd Int → Option Int
  | .ok v => some v
  | _ => none

def con_DNumber : List AV → Option AV
  | [.str s] => if s.length < mid ∧ ascii s = true then some (wholeV (endO (Go.Lib.atoiAll (stripS s)))) else none
  | _ => none

theorem ok_DNumber (Γ : Gam) (h64 : Γ.fn 64 = con_parseTime) (h65 : Γ.fn 65 = con_TimeUnix) : ∀ args r, con_DNumber args = some r → runs Γ c_impl_DNumber args (fun v => v = r) := by
  intro args r h
  simp only [con_DNumber] at h
  split at h <;> (try simp at h; done)
  rename_i s
  obtain ⟨hh, rfl⟩ := ite_some h
  clear h
  have k64 : con_parseTime [.str s] = some (timeV (Go.Lib.atoiAll (stripS s))) := if_pos hh
  generalize Go.Lib.atoiAll (stripS s) = e at *
  cases e <;> simp only [timeV] at k64 <;> simp -implicitDefEqProofs [c_impl_DNumber, acall, h64, k64, endO, wholeV, h65, con_TimeUnix]

/-! ### the reference's reading of a number -/

def wloop (n : Nat) : List UInt8 → Option Nat
  | [] => some n
  | c :: r => if 48 ≤ c.toNat ∧ c.toNat ≤ 57 ∧ n ≤ (9223372036854775808 - (c.toNat - 48)) / 10 then wloop (n * 10 + (c.toNat - 48)) r else none

def signOff (t : List UInt8) : List UInt8 := match t with
  | [] => []
  | c :: r => if c.toNat = 45 ∨ c.toNat = 43 then r else c :: r
def minusB (t : List UInt8) : Bool := match t with
  | [] => false
  | c :: _ => decide (c.toNat = 45)

def wholeS (t : List UInt8) : Option Int := match wloop 0 (signOff t) with
  | none => none
  | some n => if signOff t = [] ∨ (minusB t = false ∧ n = 9223372036854775808) then none else some (if minusB t = true then -(n : Int) else n)

theorem parse_ge : ∀ (l : List UInt8) (acc u : Nat), Go.Lib.parseUint10 acc l = .ok u → acc ≤ u
  | [], acc, u, h => by simp only [Go.Lib.parseUint10] at h; injection h with h; omega
  | c :: r, acc, u, h => by
    simp only [Go.Lib.parseUint10] at h
    split at h
    · split at h
      · cases h
      · split at h
        · cases h
        · have := parse_ge r _ u h; omega
    · cases h

theorem wloop_spec : ∀ (l : List UInt8) (acc : Nat), acc ≤ 9223372036854775808 → (∀ u, wloop acc l = some u ↔ (Go.Lib.parseUint10 acc l = .ok u ∧ u ≤ 9223372036854775808))
  | [], acc, ha, u => by
    simp only [wloop, Go.Lib.parseUint10, Option.some.injEq, Go.Lib.NumEnd.ok.injEq]
    constructor
    · rintro rfl; exact ⟨rfl, ha⟩
    · exact fun h => h.1
  | c :: r, acc, ha, u => by
    simp only [wloop, Go.Lib.parseUint10]
    by_cases hd : 48 ≤ c.toNat ∧ c.toNat ≤ 57
    · rw [if_pos hd]
      by_cases hn : acc ≤ (9223372036854775808 - (c.toNat - 48)) / 10
      · have h1 : acc * 10 + (c.toNat - 48) ≤ 9223372036854775808 := by omega
        rw [if_pos ⟨hd.1, hd.2, hn⟩, if_neg (by omega), if_neg (by omega)]
        exact wloop_spec r _ h1 u
      · rw [if_neg (fun h => hn h.2.2)]
        constructor
        · intro h; simp at h
        · rintro ⟨h, hu⟩
          split at h
          · cases h
          · split at h
            · cases h
            · have := parse_ge r _ u h; omega
    · rw [if_neg hd, if_neg (fun h => hd ⟨h.1, h.2.1⟩)]
      simp

theorem wloop_le {l : List UInt8} {u : Nat} (h : wloop 0 l = some u) : u ≤ 9223372036854775808 := ((wloop_spec l 0 (by omega) u).1 h).2

theorem whole_law (t : List UInt8) : wholeS t = endO (Go.Lib.atoiAll t) := by
  cases t with
  | nil => simp [wholeS, wloop, signOff, Go.Lib.atoiAll, endO]
  | cons c r =>
    simp only [wholeS, Go.Lib.atoiAll, Go.Lib.parseMag]
    have e : (if c.toNat = 43 ∨ c.toNat = 45 then r else c :: r) = signOff (c :: r) := by
      simp only [signOff]
      by_cases h : c.toNat = 43 ∨ c.toNat = 45
      · rw [if_pos h, if_pos h.symm]
      · rw [if_neg h, if_neg (fun g => h g.symm)]
    rw [e]
    have hm : minusB (c :: r) = decide (c.toNat = 45) := rfl
    rw [hm]
    generalize signOff (c :: r) = l
    have W := wloop_spec l 0 (by omega)
    by_cases hl : l = []
    · subst hl; simp [wloop, endO]
    · simp only [hl, if_false, false_or]
      cases hw : wloop 0 l with
      | none =>
        simp only
        cases hp : Go.Lib.parseUint10 0 l with
        | ok u =>
          have hu : ¬ u ≤ 9223372036854775808 := fun h => by rw [(W u).2 ⟨hp, h⟩] at hw; simp at hw
          simp only
          by_cases hc : c.toNat = 45
          · rw [if_neg (fun h => h.1 hc), if_pos ⟨hc, by omega⟩]; rfl
          · rw [if_pos ⟨hc, by omega⟩]; rfl
        | _ => rfl
      | some u =>
        obtain ⟨hp, hu⟩ := (W u).1 hw
        simp only [hp]
        by_cases hc : c.toNat = 45
        · have h1 : ¬ (9223372036854775808 < u) := by omega
          simp [hc, h1, endO]
        · by_cases h2 : u = 9223372036854775808
          · simp [hc, h2, endO]
          · have h3 : ¬ 9223372036854775808 ≤ u := by omega
            simp [hc, h2, h3, endO]
end Wax

/- FnDWords (3): the reference's number, walked. -/
namespace Wax
open Go (IntKind)

def con_DWhole : List AV → Option AV
  | [.str s] => if s.length < mid then some (wholeV (wholeS (stripD s))) else none
  | _ => none

theorem u64_in {x : Int} (h1 : 0 ≤ x) (h2 : x < 18446744073709551616) : IntKind.u64.wrap x = x := by
  simp [IntKind.wrap, IntKind.bits, IntKind.signed]
  omega

set_option maxRecDepth 100000 in
theorem ok_DWhole (Γ : Gam) (h27 : Γ.fn 27 = con_DStrip) : ∀ args r, con_DWhole args = some r → runs Γ c_spec_DWhole args (fun v => v = r) := by
  intro args r h
  simp only [con_DWhole] at h
  split at h <;> (try simp at h; done)
  rename_i s
  obtain ⟨hs, rfl⟩ := ite_some h
  clear h
  have k27 : con_DStrip [.str s] = some (.str (stripD s)) := if_pos hs
  have hl := stripD_length s
  generalize stripD s = t at *
  simp only [mid] at hs
  have loop : ∀ (l : List UInt8) (Q : APost), l.length < 1099511627776 → (wloop 0 l = none → Q .ret ⟨[(2, .int .i64 0), (3, .bool false)], []⟩) →
      (∀ n, wloop 0 l = some n → awp Γ t_spec_DWhole_2 Q ⟨[(4, .str l), (5, .bool (minusB t)), (6, .int .u64 n), (7, .int .i64 l.length), (35, .bool false)], []⟩) →
      awp Γ (.loop [4, 5, 6, 7] b_spec_DWhole_1) (blockQ 0 (thenQ (awp Γ t_spec_DWhole_2 Q) Q)) ⟨[(4, .str l), (5, .bool (minusB t)), (6, .int .u64 0), (7, .int .i64 0)], []⟩ := by
    intro l Q hll hno hyes
    refine awp_loop2 (σ := List UInt8 × List UInt8 × Nat) (fun p => ⟨[(4, .str l), (5, .bool (minusB t)), (6, .int .u64 p.2.2), (7, .int .i64 p.1.length)], []⟩)
      (fun p => l = p.1 ++ p.2.1 ∧ wloop 0 l = wloop p.2.2 p.2.1 ∧ p.2.2 ≤ 9223372036854775808) (fun p => p.2.1.length) ([], l, 0) (by simp) (by simp) ?_
    rintro ⟨pre, post, n⟩ ⟨e1, e2, e3⟩ LQ hLQ
    simp only at e1 e2 e3
    cases post with
    | nil =>
      have hy := hyes n (by rw [e2]; rfl)
      simp only [List.append_nil] at e1
      subst e1
      simp -implicitDefEqProofs [b_spec_DWhole_1]
      exact hy
    | cons c post =>
      have hlen : l.length = pre.length + (post.length + 1) := by rw [e1]; simp
      have hlt : (pre.length : Int) < l.length := by omega
      have g0 : l[pre.length]? = some c := by rw [e1]; exact get_mid rfl
      have ew : IntKind.i64.wrap ((pre.length : Int) + 1) = (pre.length : Int) + 1 := wrap64 (by omega) (by omega)
      have hcb : c.toNat < 256 := c.toNat_lt
      have ec : IntKind.u64.wrap (c.toNat : Int) = c.toNat := u64_in (by omega) (by omega)
      simp only [wloop] at e2
      by_cases h1 : 48 ≤ c.toNat
      · have ed : IntKind.u64.wrap ((c.toNat : Int) - 48) = (c.toNat : Int) - 48 := u64_in (by omega) (by omega)
        by_cases h2 : c.toNat ≤ 57
        · have ef : IntKind.u64.wrap (9223372036854775808 - ((c.toNat : Int) - 48)) = 9223372036854775808 - ((c.toNat : Int) - 48) := u64_in (by omega) (by omega)
          have eg : IntKind.u64.wrap ((9223372036854775808 - ((c.toNat : Int) - 48)).tdiv 10) = (((9223372036854775808 - (c.toNat - 48)) / 10 : Nat) : Int) := by
            have : (9223372036854775808 - ((c.toNat : Int) - 48)).tdiv 10 = (((9223372036854775808 - (c.toNat - 48)) / 10 : Nat) : Int) := by
              rw [Int.tdiv_eq_ediv_of_nonneg (by omega)]; omega
            rw [this]; exact u64_in (by omega) (by omega)
          have n1 : ¬ ((c.toNat : Int) < 48) := by omega
          have n2 : ¬ ((57 : Int) < c.toNat) := by omega
          by_cases h3 : n ≤ (9223372036854775808 - (c.toNat - 48)) / 10
          · rw [if_pos ⟨h1, h2, h3⟩] at e2
            have n3 : ¬ ((((9223372036854775808 - (c.toNat - 48)) / 10 : Nat) : Int) < (n : Int)) := by omega
            have eh : IntKind.u64.wrap ((n : Int) * 10) = (n : Int) * 10 := u64_in (by omega) (by omega)
            have ei : IntKind.u64.wrap ((n : Int) * 10 + ((c.toNat : Int) - 48)) = ((n * 10 + (c.toNat - 48) : Nat) : Int) := by
              rw [u64_in (by omega) (by omega)]; omega
            simp -implicitDefEqProofs [b_spec_DWhole_1, hlt, g0, ew, ec, ed, ef, eg, n1, n2, n3, eh, ei]
            exact ⟨fun hh => by omega, fun _ => hLQ (pre ++ [c], post, n * 10 + (c.toNat - 48)) ⟨by simp [e1], e2, by simp only; omega⟩ (by simp) _ (by simp)⟩
          · rw [if_neg (fun h => h3 h.2.2)] at e2
            have hn := hno e2
            have n3 : ((((9223372036854775808 - (c.toNat - 48)) / 10 : Nat) : Int) < (n : Int)) := by omega
            simp -implicitDefEqProofs [b_spec_DWhole_1, hlt, g0, ew, ec, ed, ef, eg, n1, n2, n3]
            exact ⟨fun _ => hn, fun hh => by omega⟩
        · rw [if_neg (fun h => h2 h.2.1)] at e2
          have hn := hno e2
          have n1 : ¬ ((c.toNat : Int) < 48) := by omega
          have n2 : ((57 : Int) < c.toNat) := by omega
          simp -implicitDefEqProofs [b_spec_DWhole_1, hlt, g0, ew, ec, ed, n1, n2]
          exact hn
      · rw [if_neg (fun h => h1 h.1)] at e2
        have hn := hno e2
        have n1 : ((c.toNat : Int) < 48) := by omega
        simp -implicitDefEqProofs [b_spec_DWhole_1, hlt, g0, ew, ec, n1]
        exact hn
  have fin : ∀ l : List UInt8, l = signOff t → l.length < 1099511627776 → awp Γ (.loop [4, 5, 6, 7] b_spec_DWhole_1) (blockQ 0 (thenQ (awp Γ t_spec_DWhole_2 (finQ [.t 2, .t 3] fun v => v = wholeV (wholeS t))) (finQ [.t 2, .t 3] fun v => v = wholeV (wholeS t)))) ⟨[(4, .str l), (5, .bool (minusB t)), (6, .int .u64 0), (7, .int .i64 0)], []⟩ := by
    intro l hl1 hl2
    refine loop l _ hl2 ?_ ?_
    · intro hn
      simp [wholeS, ← hl1, hn, wholeV]
    · intro n hn
      have hn2 := wloop_le hn
      have hw : wholeS t = if l = [] ∨ (minusB t = false ∧ n = 9223372036854775808) then none else some (if minusB t = true then -(n : Int) else n) := by
        simp only [wholeS, ← hl1, hn]
      rw [hw]
      by_cases h0 : l = []
      · subst h0
        simp -implicitDefEqProofs [t_spec_DWhole_2, wholeV]
      · cases hmb : minusB t with
        | true =>
          have e1 : IntKind.i64.wrap (IntKind.u64.wrap (0 - (n : Int))) = -(n : Int) := by
            simp [IntKind.wrap, IntKind.bits, IntKind.signed]
            omega
          have e2 : IntKind.i64.wrap (IntKind.u64.wrap (-(n : Int))) = -(n : Int) := by
            simp [IntKind.wrap, IntKind.bits, IntKind.signed]
            omega
          simp -implicitDefEqProofs [t_spec_DWhole_2, wholeV, h0, e1, e2]
        | false =>
          by_cases h9 : n = 9223372036854775808
          · subst h9
            simp -implicitDefEqProofs [t_spec_DWhole_2, wholeV, h0]
          · have h8 : ¬ ((n : Int) = 9223372036854775808) := by omega
            have e1 : IntKind.i64.wrap (n : Int) = n := wrap64 (by omega) (by omega)
            simp -implicitDefEqProofs [t_spec_DWhole_2, wholeV, h0, h8, h9, e1]
  cases t with
  | nil =>
    have f := fin [] rfl (by simp)
    simp only [minusB] at f
    simp -implicitDefEqProofs [c_spec_DWhole, acall, h27, k27]
    exact f
  | cons c r =>
    simp at hl
    by_cases c1 : c.toNat = 45
    · have f := fin r (by simp [signOff, c1]) (by omega)
      simp only [minusB, c1, decide_true] at f
      have c1' : (c.toNat : Int) = 45 := by omega
      simp -implicitDefEqProofs [c_spec_DWhole, acall, h27, k27, c1']
      first | exact f | (refine ⟨by omega, ?_⟩; exact f)
    · have c1' : ¬ (c.toNat : Int) = 45 := by omega
      by_cases c2 : c.toNat = 43
      · have f := fin r (by simp [signOff, c2]) (by omega)
        simp only [minusB, c1, decide_false] at f
        have c2' : (c.toNat : Int) = 43 := by omega
        simp -implicitDefEqProofs [c_spec_DWhole, acall, h27, k27, c1', c2']
        first | exact f | (refine ⟨by omega, ?_⟩; exact f)
      · have f := fin (c :: r) (by simp [signOff, c1, c2]) (by simp; omega)
        simp only [minusB, c1, decide_false] at f
        have c2' : ¬ (c.toNat : Int) = 43 := by omega
        simp -implicitDefEqProofs [c_spec_DWhole, acall, h27, k27, c1', c2']
        exact f
end Wax

/- FnDWords (4): the statement. -/
namespace Wax
open Go (IntKind)

def con_FnDWords : List AV → Option AV
  | [.str s] => if s.length < 9223372036854775808 then some (.bool true) else none
  | _ => none

theorem strip_plain {s : List UInt8} (h : plain s = true) : stripS s = stripD s := by
  refine List.filter_congr fun x hx => ?_
  simp only [plain, List.all_eq_true] at h
  rw [isSp_ws (h x hx)]

theorem stripD_cons (x : UInt8) (r : List UInt8) : stripD (x :: r) = if isWs x.toNat = true then stripD r else x :: stripD r := by
  simp only [stripD, List.filter_cons]
  cases isWs x.toNat <;> rfl

theorem split_strip : ∀ (s : List UInt8), (splitB 58 s).map stripD = splitB 58 (stripD s)
  | [] => rfl
  | x :: r => by
    have ih := split_strip r
    rw [stripD_cons]
    by_cases hx : x = 58
    · subst hx
      have : isWs (58 : UInt8).toNat = false := by decide
      rw [this]
      simp only [splitB, if_true, List.map_cons, ih]
      rfl
    · simp only [splitB, if_neg hx]
      cases hc : splitB 58 r with
      | nil => exact absurd hc (splitB_ne 58 r)
      | cons h t =>
        rw [hc] at ih
        simp only [List.map_cons] at ih
        cases hw : isWs x.toNat with
        | true =>
          simp only [if_true, List.map_cons, stripD_cons, hw]
          exact ih
        | false =>
          simp only [List.map_cons, stripD_cons, hw, Bool.false_eq_true, if_false, splitB, if_neg hx, ← ih]

theorem ok_FnDWords (Γ : Gam) (h10 : Γ.fn 10 = con_dShort) (h11 : Γ.fn 11 = con_dAwake) (h7 : Γ.fn 7 = con_TagList) (h35 : Γ.fn 35 = con_dSameTexts) (h66 : Γ.fn 66 = con_DForms) (h67 : Γ.fn 67 = con_DFormsOf) (h68 : Γ.fn 68 = con_DNumber) (h69 : Γ.fn 69 = con_DWhole) (h70 : Γ.fn 70 = con_DParts) :
    ∀ args r, con_FnDWords args = some r → runs Γ c_laws_FnDWords args (fun v => v = r) := by
  intro args r h
  simp only [con_FnDWords] at h
  split at h <;> (try simp at h; done)
  rename_i s
  obtain ⟨hs, rfl⟩ := ite_some h
  clear h
  by_cases hl : (2147483647 : Int) < (s.length : Int)
  · simp -implicitDefEqProofs [c_laws_FnDWords, hl]
  have ds : con_dShort [.int .i64 500, .sl 1 [.str s]] = some (.bool (dShort 500 [s])) := by
    have : slStrs (.sl 1 [.str s]) = some [s] := by simp [slStrs, asStrs]
    simp only [con_dShort, this]
    exact if_pos ⟨by simp [big], by simp [big]; omega⟩
  cases hA : dShort 500 [s] with
  | false =>
    rw [hA] at ds
    simp -implicitDefEqProofs [c_laws_FnDWords, hl, acall, h10, ds, h11, con_dAwake]
  | true =>
    rw [hA] at ds
    obtain ⟨a1, _⟩ := dShort_all hA
    obtain ⟨a2, a3⟩ := a1 s (by simp)
    have ha := plain_ascii a2
    have hm : s.length < mid := by simp only [mid]; omega
    have e := strip_plain a2
    have k66 : con_DForms [.str s] = some (formsV (pcan (stripD s))) := by rw [← e]; exact if_pos ⟨hm, ha⟩
    have k67 : con_DFormsOf [.str s] = some (formsV (pcan (stripD s))) := if_pos hm
    have k68 : con_DNumber [.str s] = some (wholeV (wholeS (stripD s))) := by rw [whole_law, ← e]; exact if_pos ⟨hm, ha⟩
    have k69 : con_DWhole [.str s] = some (wholeV (wholeS (stripD s))) := if_pos hm
    have k7 : con_TagList [.str s] = some (.sl 1 (strsA (splitB 58 (stripD s)))) := by
      have : tagL s = splitB 58 (stripD s) := by
        rw [← split_strip, tagL]
        refine List.map_congr_left fun p hp => ?_
        refine strip_plain ?_
        have := splitB_sub 58 s p hp
        simp only [plain, List.all_eq_true] at a2 ⊢
        exact fun y hy => a2 y (this y hy)
      simp only [con_TagList, con_parseTagList]
      rw [if_pos ⟨hm, ha⟩, this]
    have k70 : con_DParts [.str s] = some (.sl 1 (strsA (splitB 58 (stripD s)))) := if_pos hm
    have hsl := splitB_length 58 (stripD s)
    have hsd := stripD_length s
    have hst : slStrs (.sl 1 (strsA (splitB 58 (stripD s)))) = some (splitB 58 (stripD s)) := by simp [slStrs]
    have k35 : con_dSameTexts [.sl 1 (strsA (splitB 58 (stripD s))), .sl 1 (strsA (splitB 58 (stripD s)))] = some (.bool true) := by
      simp only [con_dSameTexts, hst]
      rw [if_pos ⟨by simp only [mid]; omega, by simp only [mid]; omega⟩]
      simp
    generalize splitB 58 (stripD s) = P at *
    generalize pcan (stripD s) = q at *
    generalize wholeS (stripD s) = n at *
    obtain ⟨a, b⟩ := q
    simp only [formsV] at k66 k67
    cases hk : (known a && known b) <;> rw [hk] at k66 k67 <;> cases n <;> simp only [wholeV] at k68 k69 <;>
      simp -implicitDefEqProofs [c_laws_FnDWords, hl, acall, h10, ds, h11, con_dAwake, h66, k66, h67, k67, h68, k68, h69, k69, h7, k7, h70, k70, h35, k35]
end Wax

/- FnDRecords (13): spec.DRead. -/
namespace Wax
open Go (IntKind)

theorem slp_kill {u : AV} {l} (h : slPairs u = some l) (d : Nat) : kill d u = u := by
  rcases slPairs_cases h with ⟨rfl, rfl⟩ | rfl <;> simp

theorem slp_snapW {u : AV} {l} (h : slPairs u = some l) (g : AV → AV) : snapW g u = u := by
  rcases slPairs_cases h with ⟨rfl, rfl⟩ | rfl <;> simp

def partsV (x : Option (List UInt8)) : AV := match x with
  | none => .nilS
  | some s => .sl 1 (strsA (splitB 58 (stripD s)))
def servD (x : Option (List UInt8)) : AV := match x with
  | none => .nilS
  | some s => if [42] ∈ splitB 58 (stripD s) then .nilS else .sl 1 (strsA (splitB 58 (stripD s)))
def anyD (x : Option (List UInt8)) : Bool := match x with
  | none => true
  | some s => decide ([42] ∈ splitB 58 (stripD s))
theorem partsV_sl (x : Option (List UInt8)) : ∃ l, slStrs (partsV x) = some l := by
  cases x <;> simp [partsV, slStrs]
theorem servD_sl (x : Option (List UInt8)) : ∃ l, slStrs (servD x) = some l := by
  cases x with
  | none => exact ⟨[], rfl⟩
  | some v => by_cases h : [42] ∈ splitB 58 (stripD v) <;> simp [servD, slStrs, h]

def dcells (k b : List UInt8) (h s t : AV) (n : List UInt8) (x y : Bool) : List AV := [.str k, .sl 1 (bcA b), .int .i64 (8 * (b.length : Int)), h, s, t, .str n, .bool x, .bool y]
def dzero : List AV := [.str [], .nilS, .int .i64 0, .nilS, .nilS, .nilS, .str [], .bool false, .bool false]

def lenOk (x : Option (List UInt8)) : Prop := ∀ s, x = some s → s.length < mid

set_option maxHeartbeats 2000000 in
set_option maxRecDepth 10000 in
theorem dr_27 {Γ : Gam} {Q : APost} (h84 : Γ.fn 84 = con_DValue) {u : AV} {l : List (List UInt8 × List UInt8)} (hu : slPairs u = some l) (hl : l.length < mid) (k b : List UInt8) (h s t : AV) (x y : Bool) {l1 l2 l3} (t1 : slStrs h = some l1) (t2 : slStrs s = some l2) (t3 : slStrs t = some l3)
    (hQ : Q .ret ⟨[(2, .ref 2 0), (3, .int .i64 0)], [(2, .cells (dcells k b h s t ((findP l [110]).getD []) x y))]⟩) :
    ∀ ex, awp Γ f_spec_DRead_1 Q ⟨(2, .ref 2 0) :: (4, u) :: (15, .ref 15 0) :: ex, [(15, .cells (dcells k b h s t [] x y)), (2, .cells dzero)]⟩ := by
  intro ex
  have c1 := slf_cells t1
  have c2 := slf_cells t2
  have c3 := slf_cells t3
  simp only [cells] at c1 c2 c3
  have k84 : con_DValue [u, .str [110]] = some (valV (findP l [110])) := by simp only [con_DValue, hu, if_pos hl]
  cases hf : findP l [110] with
  | none =>
    rw [hf] at k84 hQ
    simp -implicitDefEqProofs [f_spec_DRead_1, acall, h84, k84, slp_ref hu, valV, dcells, dzero, c1, c2, c3, slf_kill t1, slf_kill t2, slf_kill t3, slf_ref t1, slf_ref t2, slf_ref t3, slf_atom t1, slf_atom t2, slf_atom t3, slp_snap hu]
    simpa [dcells] using hQ
  | some v =>
    rw [hf] at k84 hQ
    simp -implicitDefEqProofs [f_spec_DRead_1, acall, h84, k84, slp_ref hu, valV, dcells, dzero, c1, c2, c3, slf_kill t1, slf_kill t2, slf_kill t3, slf_ref t1, slf_ref t2, slf_ref t3, slf_atom t1, slf_atom t2, slf_atom t3, slp_snap hu]
    simpa [dcells] using hQ

set_option maxHeartbeats 2000000 in
set_option maxRecDepth 10000 in
theorem dr_24 {Γ : Gam} {Q : APost} (h84 : Γ.fn 84 = con_DValue) (h70 : Γ.fn 70 = con_DParts) {u : AV} {l : List (List UInt8 × List UInt8)} (hu : slPairs u = some l) (hl : l.length < mid) (hT : lenOk (findP l [116])) (k b : List UInt8) (h s : AV) (x y : Bool) {l1 l2} (t1 : slStrs h = some l1) (t2 : slStrs s = some l2)
    (hQ : Q .ret ⟨[(2, .ref 2 0), (3, .int .i64 0)], [(2, .cells (dcells k b h s (partsV (findP l [116])) ((findP l [110]).getD []) x y))]⟩) :
    ∀ ex, awp Γ f_spec_DRead_2 Q ⟨(2, .ref 2 0) :: (4, u) :: (15, .ref 15 0) :: ex, [(15, .cells (dcells k b h s .nilS [] x y)), (2, .cells dzero)]⟩ := by
  intro ex
  have k84 : con_DValue [u, .str [116]] = some (valV (findP l [116])) := by simp only [con_DValue, hu, if_pos hl]
  cases hf : findP l [116] with
  | none =>
    rw [hf] at k84 hQ
    simp -implicitDefEqProofs [f_spec_DRead_2, acall, h84, k84, valV, slp_ref hu, slp_snap hu]
    exact dr_27 h84 hu hl k b h s .nilS x y t1 t2 (l3 := []) rfl hQ _
  | some v =>
    rw [hf] at k84 hQ
    have k70 : con_DParts [.str v] = some (.sl 1 (strsA (splitB 58 (stripD v)))) := if_pos (hT v hf)
    simp -implicitDefEqProofs [f_spec_DRead_2, acall, h84, k84, valV, h70, k70, dcells, slp_ref hu, slp_snap hu]
    exact dr_27 h84 hu hl k b h s _ x y t1 t2 (l3 := splitB 58 (stripD v)) (by simp [slStrs, partsV]) hQ _

set_option maxHeartbeats 2000000 in
set_option maxRecDepth 10000 in
theorem dr_18 {Γ : Gam} {Q : APost} (h84 : Γ.fn 84 = con_DValue) (h70 : Γ.fn 70 = con_DParts) (h87 : Γ.fn 87 = con_dAmong) {u : AV} {l : List (List UInt8 × List UInt8)} (hu : slPairs u = some l) (hl : l.length < mid) (hT : lenOk (findP l [116])) (hS : ∀ s, findP l [115] = some s → s.length < half) (k b : List UInt8) (h : AV) (x : Bool) {l1} (t1 : slStrs h = some l1)
    (hQ : Q .ret ⟨[(2, .ref 2 0), (3, .int .i64 0)], [(2, .cells (dcells k b h (servD (findP l [115])) (partsV (findP l [116])) ((findP l [110]).getD []) x (anyD (findP l [115]))))]⟩) :
    ∀ ex, awp Γ f_spec_DRead_3 Q ⟨(2, .ref 2 0) :: (4, u) :: (15, .ref 15 0) :: ex, [(15, .cells (dcells k b h .nilS .nilS [] x false)), (2, .cells dzero)]⟩ := by
  intro ex
  have k84 : con_DValue [u, .str [115]] = some (valV (findP l [115])) := by simp only [con_DValue, hu, if_pos hl]
  cases hf : findP l [115] with
  | none =>
    rw [hf] at k84 hQ
    simp -implicitDefEqProofs [f_spec_DRead_3, acall, h84, k84, valV, dcells, slp_ref hu, slp_snap hu]
    exact dr_24 h84 h70 hu hl hT k b h .nilS x true t1 (l2 := []) rfl hQ _
  | some v =>
    rw [hf] at k84 hQ
    have hv := hS v hf
    have hvm : v.length < mid := by simp only [half, mid] at *; omega
    have k70 : con_DParts [.str v] = some (.sl 1 (strsA (splitB 58 (stripD v)))) := if_pos hvm
    have hsl := splitB_length 58 (stripD v)
    have hsd := stripD_length v
    have hst : slStrs (.sl 1 (strsA (splitB 58 (stripD v)))) = some (splitB 58 (stripD v)) := by simp [slStrs]
    have k87 : con_dAmong [.str [42], .sl 1 (strsA (splitB 58 (stripD v)))] = some (.bool (decide ([42] ∈ splitB 58 (stripD v)))) := by
      simp only [con_dAmong, hst]
      rw [if_pos (by simp only [half, mid] at *; omega)]
    simp only [servD, anyD] at hQ
    by_cases hm : [42] ∈ splitB 58 (stripD v)
    · simp only [if_pos hm, decide_eq_true hm] at hQ
      simp -implicitDefEqProofs [f_spec_DRead_3, acall, h84, k84, valV, h70, k70, h87, k87, hm, dcells, slp_ref hu, slp_snap hu]
      exact dr_24 h84 h70 hu hl hT k b h .nilS x true t1 (l2 := []) rfl hQ _
    · simp only [if_neg hm, decide_eq_false hm] at hQ
      simp -implicitDefEqProofs [f_spec_DRead_3, acall, h84, k84, valV, h70, k70, h87, k87, hm, dcells, slp_ref hu, slp_snap hu]
      exact dr_24 h84 h70 hu hl hT k b h _ x false t1 (l2 := splitB 58 (stripD v)) hst hQ _

set_option maxHeartbeats 2000000 in
set_option maxRecDepth 10000 in
theorem dr_13 {Γ : Gam} {Q : APost} (h84 : Γ.fn 84 = con_DValue) (h70 : Γ.fn 70 = con_DParts) (h87 : Γ.fn 87 = con_dAmong) {u : AV} {l : List (List UInt8 × List UInt8)} (hu : slPairs u = some l) (hl : l.length < mid) (hT : lenOk (findP l [116])) (hS : ∀ s, findP l [115] = some s → s.length < half) (hH : lenOk (findP l [104])) (k b : List UInt8) (hb : b.length < mid)
    (hQ : Q .ret ⟨[(2, .ref 2 0), (3, .int .i64 0)], [(2, .cells (dcells k b (partsV (findP l [104])) (servD (findP l [115])) (partsV (findP l [116])) ((findP l [110]).getD []) (findP l [104]).isNone (anyD (findP l [115]))))]⟩) :
    ∀ ex, awp Γ f_spec_DRead_4 Q ⟨(2, .ref 2 0) :: (4, u) :: (10, .str b) :: (12, .str k) :: ex, [(2, .cells dzero)]⟩ := by
  intro ex
  have k84 : con_DValue [u, .str [104]] = some (valV (findP l [104])) := by simp only [con_DValue, hu, if_pos hl]
  simp only [mid] at hb
  have ew : IntKind.i64.wrap (8 * (b.length : Int)) = 8 * (b.length : Int) := wrap64 (by omega) (by omega)
  cases hf : findP l [104] with
  | none =>
    rw [hf] at k84 hQ
    simp -implicitDefEqProofs [f_spec_DRead_4, acall, h84, k84, valV, ew, slp_kill hu, slp_snapW hu, slp_ref hu, slp_snap hu, dzero]
    exact ⟨by omega, dr_18 h84 h70 h87 hu hl hT hS k b .nilS true (l1 := []) rfl hQ _⟩
  | some v =>
    rw [hf] at k84 hQ
    have k70 : con_DParts [.str v] = some (.sl 1 (strsA (splitB 58 (stripD v)))) := if_pos (hH v hf)
    simp -implicitDefEqProofs [f_spec_DRead_4, acall, h84, k84, valV, ew, h70, k70, slp_kill hu, slp_snapW hu, slp_ref hu, slp_snap hu, dzero]
    exact ⟨by omega, dr_18 h84 h70 h87 hu hl hT hS k b _ false (l1 := splitB 58 (stripD v)) (by simp [slStrs, partsV]) hQ _⟩
/-- The kind that a record says. -/
def kindOf (l : List (List UInt8 × List UInt8)) : List UInt8 := match findP l [107] with
  | some k => if k = [] then rsaB else k
  | none => rsaB
def kb (k : List UInt8) (b : List UInt8) : Option (List UInt8 × List UInt8) :=
  if k = rsaB then if 8 * (b.length : Int) < 1024 then none else some (rsaB, b)
  else if k = edB then if b.length = 32 then some (edB, b) else none
  else none
def dr2 (l : List (List UInt8 × List UInt8)) : Option (List UInt8 × List UInt8) := match findP l [112] with
  | none => none
  | some p => if p = [] then none else match dec64 quadS (bareS p) with
    | none => none
    | some b => kb (kindOf l) b
def dr1 (l : List (List UInt8 × List UInt8)) : Option (List UInt8 × List UInt8) := match findP l [118] with
  | some v => if v = dk1 then dr2 l else none
  | none => dr2 l

def drQ (Q : APost) (l : List (List UInt8 × List UInt8)) : Option (List UInt8 × List UInt8) → Prop
  | none => Q .ret ⟨[(2, .ref 2 0), (3, .int .i64 2)], [(2, .cells dzero)]⟩
  | some (k, b) => Q .ret ⟨[(2, .ref 2 0), (3, .int .i64 0)], [(2, .cells (dcells k b (partsV (findP l [104])) (servD (findP l [115])) (partsV (findP l [116])) ((findP l [110]).getD []) (findP l [104]).isNone (anyD (findP l [115]))))]⟩

set_option maxHeartbeats 4000000 in
set_option maxRecDepth 10000 in
theorem dr_10 {Γ : Gam} {Q : APost} (h84 : Γ.fn 84 = con_DValue) (h70 : Γ.fn 70 = con_DParts) (h87 : Γ.fn 87 = con_dAmong) {u : AV} {l : List (List UInt8 × List UInt8)} (hu : slPairs u = some l) (hl : l.length < mid) (hT : lenOk (findP l [116])) (hS : ∀ s, findP l [115] = some s → s.length < half) (hH : lenOk (findP l [104])) (k b p : List UInt8) (hb : b.length < mid) (there fine : Bool)
    (hQ : drQ Q l (if there = true ∧ p ≠ [] ∧ fine = true then kb k b else none)) :
    ∀ ex, awp Γ f_spec_DRead_5 Q ⟨(2, .ref 2 0) :: (4, u) :: (8, .str p) :: (9, .bool there) :: (10, .str b) :: (11, .bool fine) :: (12, .str k) :: ex, [(2, .cells dzero)]⟩ := by
  intro ex
  have hb' := hb
  simp only [mid] at hb'
  have ew : IntKind.i64.wrap (8 * (b.length : Int)) = 8 * (b.length : Int) := wrap64 (by omega) (by omega)
  by_cases hc : there = true ∧ p ≠ [] ∧ fine = true
  · rw [if_pos hc] at hQ
    obtain ⟨rfl, hp, rfl⟩ := hc
    by_cases h1 : k = rsaB
    · subst h1
      simp only [kb, if_true] at hQ
      by_cases hs : 8 * (b.length : Int) < 1024
      · rw [if_pos hs] at hQ
        simp -implicitDefEqProofs [f_spec_DRead_5, rsaB, ew, hs, hp, dzero]
        simpa [drQ, dzero] using hQ
      · rw [if_neg hs] at hQ
        simp -implicitDefEqProofs [f_spec_DRead_5, rsaB, ew, hs, hp]
        exact dr_13 h84 h70 h87 hu hl hT hS hH rsaB b hb hQ _
    · by_cases h2 : k = edB
      · subst h2
        have hre : ¬ edB = rsaB := h1
        simp only [kb, if_neg hre, if_true] at hQ
        by_cases hs : b.length = 32
        · rw [if_pos hs] at hQ
          simp -implicitDefEqProofs [f_spec_DRead_5, edB, hs, hp]
          exact dr_13 h84 h70 h87 hu hl hT hS hH edB b hb hQ _
        · have hs' : ¬ (b.length : Int) = 32 := by omega
          rw [if_neg hs] at hQ
          simp -implicitDefEqProofs [f_spec_DRead_5, edB, hs', hp, dzero]
          simpa [drQ, dzero] using hQ
      · simp only [kb, if_neg h1, if_neg h2] at hQ
        simp only [rsaB, edB] at h1 h2
        simp -implicitDefEqProofs [f_spec_DRead_5, h1, h2, hp, dzero]
        simpa [drQ, dzero] using hQ
  · rw [if_neg hc] at hQ
    simp only [drQ, dzero] at hQ
    have why : there = false ∨ (there = true ∧ p = []) ∨ (there = true ∧ p ≠ [] ∧ fine = false) := by
      cases there <;> cases fine <;> by_cases hp : p = [] <;> simp_all
    by_cases h1 : k = rsaB
    · subst h1
      by_cases hs : 8 * (b.length : Int) < 1024
      · rcases why with rfl | ⟨rfl, rfl⟩ | ⟨rfl, hp, rfl⟩
        · simp -implicitDefEqProofs [f_spec_DRead_5, rsaB, ew, hs, dzero]; exact hQ
        · simp -implicitDefEqProofs [f_spec_DRead_5, rsaB, ew, hs, dzero]; exact hQ
        · simp -implicitDefEqProofs [f_spec_DRead_5, rsaB, ew, hs, hp, dzero]; exact hQ
      · rcases why with rfl | ⟨rfl, rfl⟩ | ⟨rfl, hp, rfl⟩
        · simp -implicitDefEqProofs [f_spec_DRead_5, rsaB, ew, hs, dzero]; exact hQ
        · simp -implicitDefEqProofs [f_spec_DRead_5, rsaB, ew, hs, dzero]; exact hQ
        · simp -implicitDefEqProofs [f_spec_DRead_5, rsaB, ew, hs, hp, dzero]; exact hQ
    · by_cases h2 : k = edB
      · subst h2
        by_cases hs : (b.length : Int) = 32
        · rcases why with rfl | ⟨rfl, rfl⟩ | ⟨rfl, hp, rfl⟩
          · simp -implicitDefEqProofs [f_spec_DRead_5, edB, hs, dzero]; exact hQ
          · simp -implicitDefEqProofs [f_spec_DRead_5, edB, hs, dzero]; exact hQ
          · simp -implicitDefEqProofs [f_spec_DRead_5, edB, hs, hp, dzero]; exact hQ
        · rcases why with rfl | ⟨rfl, rfl⟩ | ⟨rfl, hp, rfl⟩
          · simp -implicitDefEqProofs [f_spec_DRead_5, edB, hs, dzero]; exact hQ
          · simp -implicitDefEqProofs [f_spec_DRead_5, edB, hs, dzero]; exact hQ
          · simp -implicitDefEqProofs [f_spec_DRead_5, edB, hs, hp, dzero]; exact hQ
      · simp only [rsaB, edB] at h1 h2
        rcases why with rfl | ⟨rfl, rfl⟩ | ⟨rfl, hp, rfl⟩
        · simp -implicitDefEqProofs [f_spec_DRead_5, h1, h2, dzero]; exact hQ
        · simp -implicitDefEqProofs [f_spec_DRead_5, h1, h2, dzero]; exact hQ
        · simp -implicitDefEqProofs [f_spec_DRead_5, h1, h2, hp, dzero]; exact hQ
end Wax

/- FnDRecords (14): spec.DRead, its whole. -/
namespace Wax
open Go (IntKind)

theorem valV_def (x : Option (List UInt8)) : valV x = .tup [.str (x.getD []), .bool x.isSome] := by cases x <;> rfl
theorem decS_def (x : Option (List UInt8)) : decS x = .tup [.str (x.getD []), .bool x.isSome] := by cases x <;> rfl

theorem decS_len {s o : List UInt8} (h : dec64 quadS s = some o) : o.length ≤ s.length := dec64_len (fun l a b c d x hx => by
  simp only [quadS, Option.map_eq_some_iff] at hx
  obtain ⟨p, _, rfl⟩ := hx
  simp [bytes3]) h
theorem bareS_len (s : List UInt8) : (bareS s).length ≤ s.length := List.length_filter_le _ _

theorem dr2_eq (l : List (List UInt8 × List UInt8)) (p b : List UInt8) (there fine : Bool) (hp : p = (findP l [112]).getD []) (ht : there = (findP l [112]).isSome) (hb : b = (dec64 quadS (bareS p)).getD []) (hf : fine = (dec64 quadS (bareS p)).isSome) :
    (if there = true ∧ p ≠ [] ∧ fine = true then kb (kindOf l) b else none) = dr2 l := by
  subst ht hf hb
  cases h : findP l [112] with
  | none => simp [dr2, h]
  | some v =>
    have hpv : p = v := by rw [hp, h]; rfl
    subst hpv
    simp only [dr2, h]
    by_cases hv : p = []
    · simp [hv]
    · cases hd : dec64 quadS (bareS p) with
      | none => simp [hv]
      | some x => simp [hv]

set_option maxHeartbeats 4000000 in
set_option maxRecDepth 10000 in
theorem dr_5 {Γ : Gam} {Q : APost} (h84 : Γ.fn 84 = con_DValue) (h70 : Γ.fn 70 = con_DParts) (h87 : Γ.fn 87 = con_dAmong) (h85 : Γ.fn 85 = con_dBare) (h86 : Γ.fn 86 = con_dBytes64) {u : AV} {l : List (List UInt8 × List UInt8)} (hu : slPairs u = some l) (hl : l.length < mid)
    (hL : ∀ k s, findP l k = some s → s.length < half) (hQ : drQ Q l (dr2 l)) :
    ∀ ex, awp Γ f_spec_DRead_6 Q ⟨(2, .ref 2 0) :: (4, u) :: ex, [(2, .cells dzero)]⟩ := by
  intro ex
  have hLm : ∀ k, lenOk (findP l k) := fun k s hs => by have := hL k s hs; simp only [half, mid] at *; omega
  have k84 : ∀ k, con_DValue [u, .str k] = some (valV (findP l k)) := fun k => by simp only [con_DValue, hu, if_pos hl]
  obtain ⟨p, hp⟩ : ∃ p, p = (findP l [112]).getD [] := ⟨_, rfl⟩
  obtain ⟨there, ht⟩ : ∃ there, there = (findP l [112]).isSome := ⟨_, rfl⟩
  obtain ⟨b, hb⟩ : ∃ b, b = (dec64 quadS (bareS p)).getD [] := ⟨_, rfl⟩
  obtain ⟨fine, hf⟩ : ∃ fine, fine = (dec64 quadS (bareS p)).isSome := ⟨_, rfl⟩
  have hpl : p.length < mid := by
    subst hp
    cases h : findP l [112] with
    | none => simp [mid]
    | some v => simpa using hLm _ v h
  have hbl := bareS_len p
  have hbm : b.length < mid := by
    subst hb
    cases h : dec64 quadS (bareS p) with
    | none => simp [mid]
    | some v => have := decS_len h; simp only [Option.getD_some]; omega
  have k85 : con_dBare [.str p] = some (.str (bareS p)) := if_pos hpl
  have k86 : con_dBytes64 [.str (bareS p)] = some (.tup [.str b, .bool fine]) := by
    rw [hb, hf, ← decS_def]
    exact if_pos (by omega)
  have e := dr2_eq l p b there fine hp ht hb hf
  rw [← e] at hQ
  have kp := k84 [112]
  have kk := k84 [107]
  rw [valV_def, ← hp, ← ht] at kp
  cases hk : findP l [107] with
  | none =>
    have hko : kindOf l = rsaB := by simp [kindOf, hk]
    rw [hk] at kk
    rw [hko] at hQ
    simp -implicitDefEqProofs [f_spec_DRead_6, acall, h84, kp, kk, valV, h85, k85, h86, k86, slp_ref hu, slp_snap hu]
    exact dr_10 h84 h70 h87 hu hl (hLm _) (hL _) (hLm _) rsaB b p hbm there fine hQ _
  | some k =>
    rw [hk] at kk
    by_cases hk0 : k = []
    · have hko : kindOf l = rsaB := by simp [kindOf, hk, hk0]
      rw [hko] at hQ
      simp -implicitDefEqProofs [f_spec_DRead_6, acall, h84, kp, kk, valV, h85, k85, h86, k86, slp_ref hu, slp_snap hu, hk0]
      exact dr_10 h84 h70 h87 hu hl (hLm _) (hL _) (hLm _) rsaB b p hbm there fine hQ _
    · have hko : kindOf l = k := by simp [kindOf, hk, hk0]
      rw [hko] at hQ
      simp -implicitDefEqProofs [f_spec_DRead_6, acall, h84, kp, kk, valV, h85, k85, h86, k86, slp_ref hu, slp_snap hu, hk0]
      exact dr_10 h84 h70 h87 hu hl (hLm _) (hL _) (hLm _) k b p hbm there fine hQ _

theorem findP_map (f : List UInt8 → List UInt8) (k : List UInt8) : ∀ (L : List (List UInt8)), findP (L.map fun x => (x, f x)) k = if k ∈ L then some (f k) else none
  | [] => rfl
  | x :: r => by
    by_cases h : x = k
    · simp [findP, h]
    · have h' : ¬ k = x := fun e => h e.symm
      simp only [List.map_cons, findP, if_neg h, findP_map f k r, List.mem_cons, h', false_or]

theorem findP_some_iff (k : List UInt8) : ∀ (l : List (List UInt8 × List UInt8)), (findP l k).isSome = true ↔ k ∈ l.map (·.1)
  | [] => by simp [findP]
  | (i, v) :: r => by
    by_cases h : i = k
    · simp [findP, h]
    · have h' : ¬ k = i := fun e => h e.symm
      have ih := findP_some_iff k r
      simp only [findP, if_neg h, List.map_cons, List.mem_cons, h', false_or]
      exact ih

theorem findP_sortP (acc : List (List UInt8 × List UInt8)) (k : List UInt8) : findP (sortP acc) k = findP acc k := by
  simp only [sortP]
  rw [findP_map]
  have hm : k ∈ sortB (acc.map (·.1)) ↔ k ∈ acc.map (·.1) := by simp only [sortB]; exact List.mem_mergeSort
  have hi := findP_some_iff k acc
  rw [lookP_findP]
  cases h : findP acc k with
  | none =>
    rw [h] at hi
    have : ¬ k ∈ sortB (acc.map (·.1)) := fun hk => by have := hi.2 (hm.1 hk); simp at this
    rw [if_neg this]
  | some v =>
    rw [h] at hi
    rw [if_pos (hm.2 (hi.1 rfl))]
    rfl

def dreadV (s : List UInt8) : AV := match prm (splitB 59 s) [] with
  | (_, some _) => .tup [.agg dzero, .int .i64 2]
  | (acc, none) => match dr1 acc with
    | none => .tup [.agg dzero, .int .i64 2]
    | some (k, b) => .tup [.agg (dcells k b (partsV (findP acc [104])) (servD (findP acc [115])) (partsV (findP acc [116])) ((findP acc [110]).getD []) (findP acc [104]).isNone (anyD (findP acc [115]))), .int .i64 0]

def con_DRead : List AV → Option AV
  | [.str s] => if s.length + 1 < half ∧ plain s = true then some (dreadV s) else none
  | _ => none

theorem dr2_congr {l m : List (List UInt8 × List UInt8)} (h : ∀ k, findP l k = findP m k) : dr2 l = dr2 m := by simp only [dr2, kindOf, h]
theorem dr1_congr {l m : List (List UInt8 × List UInt8)} (h : ∀ k, findP l k = findP m k) : dr1 l = dr1 m := by simp only [dr1, h, dr2_congr h]

set_option maxHeartbeats 4000000 in
set_option maxRecDepth 10000 in
theorem ok_DRead (Γ : Gam) (h52 : Γ.fn 52 = con_DTags) (h84 : Γ.fn 84 = con_DValue) (h70 : Γ.fn 70 = con_DParts) (h87 : Γ.fn 87 = con_dAmong) (h85 : Γ.fn 85 = con_dBare) (h86 : Γ.fn 86 = con_dBytes64) :
    ∀ args r, con_DRead args = some r → runs Γ c_spec_DRead args (fun v => v = r) := by
  intro args r h
  simp only [con_DRead] at h
  split at h <;> (try simp at h; done)
  rename_i s
  obtain ⟨⟨hs, hpl⟩, rfl⟩ := ite_some h
  clear h
  have k52 : con_DTags [.str s] = some (match tgL (splitB 59 s) [] with | some o => .tup [pairV o, .bool true] | none => .tup [.nilS, .bool false]) := if_pos hs
  have law := params_law (splitB 59 s) [] [] (by simp [Asc]) (by simp)
  have hv := prm_vals s.length (splitB 59 s) [] (fun p h => ⟨splitB_mem_length 59 s p h, splitB_plain 59 s p hpl h⟩) (by simp)
  have hlen := prm_length (splitB 59 s) []
  have hsl := splitB_length 59 s
  simp only [dreadV]
  generalize prm (splitB 59 s) [] = x at *
  obtain ⟨acc, e⟩ := x
  cases e with
  | some m =>
    simp only at law
    rw [law] at k52
    have k84 : con_DValue [.nilS, .str [118]] = some (.tup [.str [], .bool false]) := by simp [con_DValue, slPairs, mid, findP, valV]
    simp -implicitDefEqProofs [c_spec_DRead, acall, h52, k52, h84, k84, dzero]
  | none =>
    simp only at law
    rw [law] at k52
    dsimp only at k52 ⊢
    have hsp : (sortP acc).length ≤ s.length + 1 := by
      have : (sortP acc).length = acc.length := by simp [sortP, sortB]
      simp only [List.length_nil, Nat.zero_add] at hlen
      omega
    have hf := findP_sortP acc
    have hu : slPairs (pairV (sortP acc)) = some (sortP acc) := slPairs_pairV
    have hl : (sortP acc).length < mid := by simp only [half, mid] at *; omega
    have k84 : con_DValue [pairV (sortP acc), .str [118]] = some (valV (findP acc [118])) := by
      simp only [con_DValue, hu, if_pos hl, hf]
    have hL : ∀ k v, findP (sortP acc) k = some v → v.length < half := by
      intro k v hv'
      rw [hf] at hv'
      have := (hv (k, v) (findP_mem hv')).1
      simp only at this
      omega
    have e1 : dr1 (sortP acc) = dr1 acc := dr1_congr hf
    have e2 : dr2 (sortP acc) = dr2 acc := dr2_congr hf
    have fin : ∀ {Q : APost}, drQ Q (sortP acc) (dr2 (sortP acc)) → ∀ ex, awp Γ f_spec_DRead_6 Q ⟨(2, .ref 2 0) :: (4, pairV (sortP acc)) :: ex, [(2, .cells dzero)]⟩ := fun hQ => dr_5 h84 h70 h87 h85 h86 hu hl hL hQ
    rw [e2] at fin
    have b1 := partsV_sl (findP acc [104])
    have b2 := servD_sl (findP acc [115])
    have b3 := partsV_sl (findP acc [116])
    have r0 := slp_ref hu
    have r1 := slp_snap hu
    have r2 := slp_kill hu
    generalize pairV (sortP acc) = u at *
    have post : drQ (finQ [.c (some 9) 2, .t 3] fun v => v = (match dr1 acc with
      | none => AV.tup [.agg dzero, .int .i64 2]
      | some (k, b) => .tup [.agg (dcells k b (partsV (findP acc [104])) (servD (findP acc [115])) (partsV (findP acc [116])) ((findP acc [110]).getD []) (findP acc [104]).isNone (anyD (findP acc [115]))), .int .i64 0])) (sortP acc) (dr1 acc) := by
      cases hd : dr1 acc with
      | none => simp [drQ, dzero]
      | some kb =>
        obtain ⟨k, b⟩ := kb
        obtain ⟨l1, b1⟩ := b1
        obtain ⟨l2, b2⟩ := b2
        obtain ⟨l3, b3⟩ := b3
        have c1 := slf_cells b1
        have c2 := slf_cells b2
        have c3 := slf_cells b3
        simp only [cells] at c1 c2 c3
        simp [drQ, hf, dcells, c1, c2, c3, slf_atom b1, slf_atom b2, slf_atom b3, slf_snap b1, slf_snap b2, slf_snap b3]
    cases hv : findP acc [118] with
    | none =>
      rw [hv] at k84
      have ed : dr1 acc = dr2 acc := by simp [dr1, hv]
      rw [ed] at post ⊢
      simp -implicitDefEqProofs [c_spec_DRead, acall, h52, k52, h84, k84, valV, r0, r1, r2]
      exact fin post _
    | some v =>
      rw [hv] at k84
      by_cases hd1 : v = dk1
      · subst hd1
        have ed : dr1 acc = dr2 acc := by simp [dr1, hv]
        rw [ed] at post ⊢
        simp -implicitDefEqProofs [c_spec_DRead, acall, h52, k52, h84, k84, valV, r0, r1, r2, dk1]
        exact fin post _
      · have ed : dr1 acc = none := by simp [dr1, hv, hd1]
        rw [ed]
        simp only [dk1] at hd1
        simp -implicitDefEqProofs [c_spec_DRead, acall, h52, k52, h84, k84, valV, r0, r1, r2, hd1, dzero]
end Wax

/- FnDRecords (15): what is read is what is to be read; the statement. -/
namespace Wax
open Go (IntKind)

theorem sw_kb (acc : List (List UInt8 × List UInt8)) (b : List UInt8) : (match swRes acc b with | .inl _ => none | .inr k => some (k, b)) = kb (kindOf acc) b := by
  have hl : lookP acc [107] = rsaB ∨ lookP acc [107] = [] ↔ kindOf acc = rsaB := by
    rw [lookP_findP]
    cases h : findP acc [107] with
    | none => simp [kindOf, h]
    | some k => by_cases hk : k = [] <;> simp [kindOf, h, hk]
  have hn : ¬ kindOf acc = rsaB → lookP acc [107] = kindOf acc := by
    rw [lookP_findP]
    cases h : findP acc [107] with
    | none => simp [kindOf, h]
    | some k => by_cases hk : k = [] <;> simp [kindOf, h, hk]
  simp only [swRes, hl, kb]
  by_cases h1 : kindOf acc = rsaB
  · simp only [if_pos h1]
    by_cases hs : 8 * (b.length : Int) < 1024 <;> simp [hs]
  · simp only [if_neg h1]
    rw [hn h1]
    by_cases h2 : kindOf acc = edB
    · simp only [if_pos h2]
      by_cases hs : b.length = 32 <;> simp [hs]
    · simp [if_neg h2]

theorem pk_dr2 (acc : List (List UInt8 × List UInt8)) : (match pk2 acc with | .inl _ => none | .inr x => some x) = dr2 acc := by
  simp only [pk2, dr2]
  cases findP acc [112] with
  | none => rfl
  | some p =>
    by_cases hp : p = []
    · simp [hp]
    · simp only [if_neg hp, pk3]
      rw [bare_clean, dec_law]
      cases dec64 quadS (bareS p) with
      | none => rfl
      | some b =>
        simp only
        rw [← sw_kb]
        cases swRes acc b with
        | inl x => rfl
        | inr k => rfl

theorem pk_dr1 (acc : List (List UInt8 × List UInt8)) : (match pk1 acc with | .inl _ => none | .inr x => some x) = dr1 acc := by
  simp only [pk1, dr1]
  cases findP acc [118] with
  | none => exact pk_dr2 acc
  | some v =>
    by_cases hv : v = dk1
    · simp only [if_pos hv]; exact pk_dr2 acc
    · simp [hv]

theorem kb_size {k k' b b' : List UInt8} (h : kb k b = some (k', b')) : szOf k' b' = 8 * (b'.length : Int) := by
  simp only [kb] at h
  split at h
  · split at h
    · simp at h
    · simp at h; obtain ⟨rfl, rfl⟩ := h; rfl
  · split at h
    · split at h
      · rename_i hs
        simp at h; obtain ⟨rfl, rfl⟩ := h
        show (256 : Int) = _
        omega
      · simp at h
    · simp at h

theorem dr1_size {acc : List (List UInt8 × List UInt8)} {k b : List UInt8} (h : dr1 acc = some (k, b)) : szOf k b = 8 * (b.length : Int) := by
  have h2 : dr2 acc = some (k, b) := by
    simp only [dr1] at h
    split at h
    · split at h
      · exact h
      · simp at h
    · exact h
  simp only [dr2] at h2
  split at h2
  · simp at h2
  · split at h2
    · simp at h2
    · split at h2
      · simp at h2
      · exact kb_size h2

theorem isNil_tag (x : Option (List UInt8)) : isNilS (tagVal x) = x.isNone := by cases x <;> rfl
theorem tagL_parts {v : List UInt8} (h : plain v = true) : tagL v = splitB 58 (stripD v) := by
  rw [← split_strip, tagL]
  refine List.map_congr_left fun p hp => ?_
  refine strip_plain ?_
  have := splitB_sub 58 v p hp
  simp only [plain, List.all_eq_true] at h ⊢
  exact fun y hy => h y (this y hy)
theorem isNil_serv (x : Option (List UInt8)) (h : ∀ v, x = some v → plain v = true) : isNilS (servVal x) = anyD x := by
  cases x with
  | none => rfl
  | some v =>
    simp only [servVal, anyD, tagL_parts (h v rfl)]
    by_cases hm : [42] ∈ splitB 58 (stripD v) <;> simp [hm, isNilS]

def con_FnDRecords : List AV → Option AV
  | [.str s] => if s.length < 9223372036854775808 then some (.bool true) else none
  | _ => none

set_option maxHeartbeats 4000000 in
set_option maxRecDepth 10000 in
theorem ok_FnDRecords (Γ : Gam) (h10 : Γ.fn 10 = con_dShort) (h11 : Γ.fn 11 = con_dAwake) (h88 : Γ.fn 88 = con_DRecord) (h89 : Γ.fn 89 = con_DRead) :
    ∀ args r, con_FnDRecords args = some r → runs Γ c_laws_FnDRecords args (fun v => v = r) := by
  intro args r h
  simp only [con_FnDRecords] at h
  split at h <;> (try simp at h; done)
  rename_i s
  obtain ⟨hs, rfl⟩ := ite_some h
  clear h
  by_cases hl : (2147483647 : Int) < (s.length : Int)
  · simp -implicitDefEqProofs [c_laws_FnDRecords, hl]
  have ds : con_dShort [.int .i64 2000, .sl 1 [.str s]] = some (.bool (dShort 2000 [s])) := by
    have : slStrs (.sl 1 [.str s]) = some [s] := by simp [slStrs, asStrs]
    simp only [con_dShort, this]
    exact if_pos ⟨by simp [big], by simp [big]; omega⟩
  cases hA : dShort 2000 [s] with
  | false =>
    rw [hA] at ds
    simp -implicitDefEqProofs [c_laws_FnDRecords, hl, acall, h10, ds, h11, con_dAwake]
  | true =>
    rw [hA] at ds
    obtain ⟨a1, _⟩ := dShort_all hA
    obtain ⟨a2, a3⟩ := a1 s (by simp)
    have hh : s.length + 1 < half := by simp only [half]; omega
    have k88 : con_DRecord [.str s] = some (drV s) := if_pos ⟨by omega, a2⟩
    have k89 : con_DRead [.str s] = some (dreadV s) := if_pos ⟨hh, a2⟩
    have hv := prm_vals s.length (splitB 59 s) [] (fun p h => ⟨splitB_mem_length 59 s p h, splitB_plain 59 s p a2 h⟩) (by simp)
    simp only [drV] at k88
    simp only [dreadV] at k89
    generalize prm (splitB 59 s) [] = x at *
    obtain ⟨acc, e⟩ := x
    cases e with
    | some m =>
      simp only [dkeyZ, dzero] at k88 k89
      simp -implicitDefEqProofs [c_laws_FnDRecords, hl, acall, h10, ds, h88, k88, h89, k89, h11, con_dAwake]
    | none =>
      dsimp only at k88 k89
      have hd := pk_dr1 acc
      cases hp : pk1 acc with
      | inl x =>
        rw [hp] at hd k88
        simp only at hd
        rw [← hd] at k89
        simp only [dkeyZ, dzero] at k88 k89
        simp -implicitDefEqProofs [c_laws_FnDRecords, hl, acall, h10, ds, h88, k88, h89, k89, h11, con_dAwake]
      | inr x =>
        obtain ⟨k, b⟩ := x
        rw [hp] at hd k88
        simp only at hd
        rw [← hd] at k89
        have hz := dr1_size hd.symm
        have i1 := isNil_tag (findP acc [104])
        have i2 := isNil_serv (findP acc [115]) (fun v h => (hv _ (findP_mem h)).2)
        simp only [dkey, hz, i1, i2, noteVal] at k88
        simp only [dcells] at k89
        have t1 := tagVal_sl (findP acc [104])
        obtain ⟨l2, t2⟩ := servVal_sl (findP acc [115])
        have t3 := tagVal_sl (findP acc [116])
        obtain ⟨l1, b1⟩ := partsV_sl (findP acc [104])
        obtain ⟨l2', b2⟩ := servD_sl (findP acc [115])
        obtain ⟨l3, b3⟩ := partsV_sl (findP acc [116])
        have c1 := slf_cells t1
        have c2 := slf_cells t2
        have c3 := slf_cells t3
        have d1 := slf_cells b1
        have d2 := slf_cells b2
        have d3 := slf_cells b3
        generalize tagVal (findP acc [104]) = T1 at *
        generalize servVal (findP acc [115]) = T2 at *
        generalize tagVal (findP acc [116]) = T3 at *
        generalize partsV (findP acc [104]) = U1 at *
        generalize servD (findP acc [115]) = U2 at *
        generalize partsV (findP acc [116]) = U3 at *
        simp only [cells] at c1 c2 c3 d1 d2 d3
        simp -implicitDefEqProofs [c_laws_FnDRecords, hl, acall, h10, ds, h88, k88, h89, k89, c1, c2, c3, d1, d2, d3, slf_ref t1, slf_ref t2, slf_ref t3, slf_ref b1, slf_ref b2, slf_ref b3, slf_kill t1, slf_kill t2, slf_kill t3, slf_kill b1, slf_kill b2, slf_kill b3, slf_atom t1, slf_atom t2, slf_atom t3, slf_atom b1, slf_atom b2, slf_atom b3, flat_bcA]
end Wax

