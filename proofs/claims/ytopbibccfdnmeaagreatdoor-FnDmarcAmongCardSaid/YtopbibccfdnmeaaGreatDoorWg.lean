/- The machine by which the functions are read, and what is proved of them (part 7): no premise. -/
import Derived.WideShapes
import Derived.SliceStrings
import Derived.OpenShut
import Derived.Lib.LaidTab
import Derived.Deep.SlicePairs
import Derived.ChangeArms
import Derived.Lib.SmallJoins
import Derived.ChangeSlices
import Derived.Test.YtopbibccfdnmeaaGreatDoorWf
set_option linter.all false
namespace Wax
open Go Go.ChangeShapes Go.WideShapes Go.RowKit

section
variable {P:Program} {T:Tab} {w:World} {H:Type} {enc:TypeId × Value→H}

theorem has_block {a:Addr} {e:TypeId} {n:Nat} {r:Reach} {base:Nat} (h:w.has P r base a e n):∃ o,a=⟨a.block,o,none⟩∧a.block < w.heap.size:=by
  obtain ⟨_,h2,row,cells,h3,_⟩:=h
  refine ⟨a.off,?_,?_⟩
  · cases a; simp at h2; simp [h2]
  · rcases Nat.lt_or_ge a.block w.heap.size with h | h
    · exact h
    · simp [World.shape?,Array.getElem?_eq_none h] at h3

theorem okWide_place {t e:TypeId} {r:Reach} {base:Nat} {a:Addr} {len cap:Nat} (ht:P.underlying t=some (.slice e)) (h:Value.okWide P w r base t (.slice (some a) len cap)):∃ b o,a=⟨b,o,none⟩∧b < w.heap.size:=by
  simp only [Value.okWide,ht,Cell.okWide,Cell.ok] at h
  obtain ⟨o,h1,h2⟩:=has_block h.2.2
  exact ⟨a.block,o,h1,h2⟩

end
theorem lkGl_mem:∀ {l:List (Nat × List AV)} {g:Nat} {cs:List AV},lkGl l g=some cs→(g,cs)∈l
  | [],_,_,h=>by simp [lkGl] at h
  | (i,v)::r,g,cs,h=>by
    simp only [lkGl] at h
    split at h
    · rename_i e
      simp only [beq_iff_eq] at e
      simp only [Option.some.injEq] at h
      subst e; subst h; simp
    · exact List.mem_cons_of_mem _ (lkGl_mem h)

theorem GlobOk.of {T:Tab} {w:World} {F:Frz} (h:∀ p∈T.gl,RepAt T w F p.1 0 p.2∧F p.1∧∃ vs q a,w.heap[p.1]? = some (.cells vs q a)∧vs.size=p.2.length):GlobOk T w F:=fun g cs hg=>h (g,cs) (lkGl_mem hg)

theorem var_heap {P:Program} {w:World} {n:String} {g:Nat} {cs:Array Value} (hg:P.globalNamed n=some g) (hv:w.var? P n=some cs):∃ q a,w.heap[g]? = some (.cells cs q a):=by
  simp only [World.var?,hg,Option.bind_some] at hv
  split at hv
  · rename_i cs' q a h
    injection hv with hv
    subst hv
    exact ⟨q,a,h⟩
  · simp at hv

theorem lt_of_heap {w:World} {g:Nat} {x:Obj} (h:w.heap[g]? = some x):g < w.heap.size:=by
  rcases Nat.lt_or_ge g w.heap.size with h' | h'
  · exact h'
  · rw [Array.getElem?_eq_none h'] at h; simp at h

theorem repAt_err {T:Tab} {P:Program} {w:World} {n:String} {g tp:Nat} {y:Value} (hg:P.globalNamed n=some g) (hv:w.var? P n=some #[.iface tp y]) (ht:lkN T.tys tp=some 3) :
    RepAt T w (fun b=>b < w.heap.size) g 0 [.ifc 3 .junk]∧g < w.heap.size∧∃ vs q a,w.heap[g]? = some (.cells vs q a)∧vs.size=1:=by
  obtain ⟨q,a,h⟩:=var_heap hg hv
  refine ⟨?_,lt_of_heap h,_,q,a,h,rfl⟩
  simp only [RepAt,and_true]
  exact ⟨lt_of_heap h,_,by simpa using World.var?_cell hg hv 0,tp,y,rfl,ht,trivial⟩

theorem repAt_gp {T:Tab} {P:Program} {w:World} {n:String} {g tp q:Nat} {ad:Addr} (hg:P.globalNamed n=some g) (hv:w.var? P n=some #[.iface tp (.pointer (some ad))]) (ht:lkN T.tys tp=some 3) (hb:lkA T.gb q=some ad) :
    RepAt T w (fun b=>b < w.heap.size) g 0 [.ifc 3 (.gp q)]∧g < w.heap.size∧∃ vs q a,w.heap[g]? = some (.cells vs q a)∧vs.size=1:=by
  obtain ⟨u,a,h⟩:=var_heap hg hv
  refine ⟨?_,lt_of_heap h,_,u,a,h,rfl⟩
  simp only [RepAt,and_true]
  exact ⟨lt_of_heap h,_,by simpa using World.var?_cell hg hv 0,tp,_,rfl,ht,ad,hb,rfl⟩

theorem repAt_ints {T:Tab} {w:World} {F:Frz} {g:Nat} {k:IntKind} (hF:F g):∀ (zs:List Int) (o:Nat),(∀ j z,zs[j]? = some z→w.cell? ⟨g,o+j,none⟩=some (.int k z))→RepAt T w F g o (zs.map (AV.int k))
  | [],_,_=>trivial
  | z::r,o,h=>by
    simp only [List.map_cons,RepAt]
    refine ⟨⟨hF,_,by simpa using h 0 z rfl,by simp [Rep]⟩,?_⟩
    exact repAt_ints hF r (o+1) fun j s hj=>by
      rw [show o+1+j=o+(j+1) by omega]
      exact h (j+1) s (by simpa using hj)

theorem repAt_tab {T:Tab} {P:Program} {w:World} {n:String} {g:Nat} {k:IntKind} {zs:List Int} (hg:P.globalNamed n=some g) (hv:Lib.TabIs P w n k zs) :
    RepAt T w (fun b=>b < w.heap.size) g 0 (zs.map (AV.int k))∧g < w.heap.size∧∃ vs q a,w.heap[g]? = some (.cells vs q a)∧vs.size=(zs.map (AV.int k)).length:=by
  have hv':w.var? P n=some (zs.map fun z=>Value.int k z).toArray:=hv
  obtain ⟨q,a,h⟩:=var_heap hg hv'
  refine ⟨repAt_ints (F:=fun b=>b < w.heap.size) (lt_of_heap h) zs 0 fun j z hj=>?_,lt_of_heap h,_,q,a,h,by simp⟩
  have hc:=World.var?_cell hg hv' j
  rw [Nat.zero_add,hc]
  simp [hj]

end Wax


namespace Wax
open Go Go.ChangeShapes Go.WideShapes Go.RowKit Go.Joins Go.Deep

section
variable {P:Program} {T:Tab} {w:World} {H:Type} {enc:TypeId × Value→H}

theorem repSl_pairs {F:Frz} {b:Nat} (hF:F b):∀ (l:List (List UInt8 × List UInt8)) (o:Nat),(∀ (j:Nat) p,l[j]? = some p→w.cell? ⟨b,o+j * 2,none⟩=some (.string ⟨p.1.toArray⟩)∧w.cell? ⟨b,o+j * 2+1,none⟩=some (.string ⟨p.2.toArray⟩))→RepSl T w F 2 b o (pr2 l)
  | [],_,_=>trivial
  | p::r,o,h=>by
    have h0:=h 0 p rfl
    simp only [Nat.zero_mul,Nat.add_zero] at h0
    simp only [pr2_cons,RepSl,RepAt,and_true]
    refine ⟨rfl,⟨⟨hF,_,h0.1,by simp [Rep]⟩,hF,_,h0.2,by simp [Rep]⟩,?_⟩
    exact repSl_pairs hF r (o+2) fun j q hj=>by
      have:=h (j+1) q (by simpa using hj)
      rwa [show o+(j+1) * 2=o+2+j * 2 by omega] at this

def strOf:Value→List UInt8
  | .string s=>s.data.toList
  | _=>[]

theorem open_pairs {t e:TypeId} {f0 f1:Field} {base:Nat} {v:Value} {d:DataW H} {ps:List MemPlace} (ht:P.underlying t=some (.slice e)) (he:P.underlying e=some (.struct #[f0,f1]))
    (ce:P.cellsOf e=2) (o0:f0.offset=0) (o1:f1.offset=1) (c0:P.cellsOf f0.type=1) (c1:P.cellsOf f1.type=1) (s0:P.underlying f0.type=some .string) (s1:P.underlying f1.type=some .string)
    (hval:Value.okWide P w .any base t v) (h:DataW.Trod enc P w 0 (fun _=>true) true t v d ps) :
    ∃ (x:AV) (l:List (List UInt8 × List UInt8)),slPairs x=some l∧Rep T w (fun k=>k < w.heap.size) noRho x v∧l.length < 9223372036854775808:=by
  obtain ⟨a0,len0,cap0,rfl⟩:=okWide_slice ht hval
  obtain ⟨fuel,hf⟩:=h
  rcases Go.Deep.open_slice_pairs ht he ce o0 o1 c0 c1 hf with ⟨hcs,_⟩ | ⟨a,len,cap,m,n,V0,V1,D0,D1,P0,P1,hcs,_,hl,hm,hmm,_,hcell⟩
  · simp [Value.cells] at hcs
    obtain ⟨rfl,rfl,rfl⟩:=hcs
    exact ⟨.nilS,[],rfl,by simp [Rep],by simp⟩
  · simp [Value.cells] at hcs
    obtain ⟨rfl,rfl,rfl⟩:=hcs
    obtain ⟨b,o,rfl,hb⟩:=okWide_place ht hval
    simp only [if_true] at hmm
    obtain ⟨l,hl'⟩:∃ l:List (List UInt8 × List UInt8),l=(List.range len0).map fun i=>(strOf (V0 i),strOf (V1 i)):=⟨_,rfl⟩
    have hll:l.length=len0:=by rw [hl']; simp
    have h1:cap0≤9223372036854775807:=hm
    refine ⟨.sl 2 (pr2 l),l,by simp [slPairs,asPairs_pr2],?_,by omega⟩
    simp only [Rep]
    refine .inl ⟨b,o,cap0,?_,?_,?_⟩
    · simp [pr2,hll]
    · simp [pr2,hll]; exact hl
    · refine repSl_pairs (F:=fun k=>k < w.heap.size) hb l o ?_
      intro j p hj
      have hjl:j < len0:=by
        rcases Nat.lt_or_ge j l.length with h | h
        · omega
        · simp [List.getElem?_eq_none h] at hj
      obtain ⟨g0,g1,r0,r1⟩:=hcell j (by omega)
      rw [addr_add] at g0
      have e1:((⟨b,o,none⟩:Addr).add (j * 2+1))=⟨b,o+(j * 2+1),none⟩:=addr_add _ _ _
      rw [e1,← Nat.add_assoc] at g1
      rw [hl',List.getElem?_map,List.getElem?_range hjl] at hj
      simp only [Option.map_some,Option.some.injEq] at hj
      subst hj
      rw [g0,g1]
      obtain ⟨t0,q0,_,_⟩:=DataW.trod_string s0 r0
      obtain ⟨t1,q1,_,_⟩:=DataW.trod_string s1 r1
      injection q0 with q0
      injection q1 with q1
      rw [q0,q1]
      exact ⟨rfl,rfl⟩

end
end Wax


namespace Wax
open Go Go.ChangeShapes Go.WideShapes Go.RowKit

section
variable {P:Program} {T:Tab} {w:World} {H:Type} {enc:TypeId × Value→H}

theorem u8_has {n:Int} (h:(Lit.int .u8 n).wf=true):0≤n∧n < 256:=by
  simp only [Lit.wf] at h
  have:0≤n∧n≤255:=by simpa [IntKind.min,IntKind.max,IntKind.bits,IntKind.signed] using h
  omega

def toB (zs:List Int):List UInt8:=zs.map fun n=>UInt8.ofNat n.toNat

theorem repSl_bytes {F:Frz} {b:Nat} (hF:F b):∀ (o:List UInt8) (k:Nat),(∀ (j:Nat) s,o[j]? = some s→w.cell? ⟨b,k+j,none⟩=some (.int .u8 (s.toNat:Int)))→RepSl T w F 1 b k (bcA o)
  | [],_,_=>trivial
  | x::r,k,h=>by
    simp only [bcA_cons,RepSl]
    refine ⟨trivial,⟨hF,_,by simpa using h 0 x rfl,by simp [Rep]⟩,?_⟩
    exact repSl_bytes hF r (k+1) fun j s hj=>by
      rw [show k+1+j=k+(j+1) by omega]
      exact h (j+1) s (by simpa using hj)

theorem open_bytes {t e:TypeId} {base:Nat} {v:Value} {d:DataW H} {ps:List MemPlace} (ht:P.underlying t=some (.slice e)) (he:P.underlying e=some (.int .u8)) (hc:P.cellsOf e=1)
    (hval:Value.okWide P w .any base t v) (h:DataW.Trod enc P w 0 (fun _=>true) true t v d ps) :
    ∃ (x:AV) (o:List UInt8),slBytes x=some o∧Rep T w (fun k=>k < w.heap.size) noRho x v∧o.length < 9223372036854775808:=by
  obtain ⟨a0,len0,cap0,rfl⟩:=okWide_slice ht hval
  obtain ⟨fuel,hf⟩:=h
  rcases open_ints ht he hc hf with ⟨hcs,_⟩ | ⟨a,len,cap,zs,hcs,_,hl,hm,hsl,_,hcell,hwf⟩
  · simp [Value.cells] at hcs
    obtain ⟨rfl,rfl,rfl⟩:=hcs
    exact ⟨.nilS,[],rfl,by simp [Rep],by simp⟩
  · simp [Value.cells] at hcs
    obtain ⟨rfl,rfl,rfl⟩:=hcs
    obtain ⟨b,o,rfl,hb⟩:=okWide_place ht hval
    simp only [if_true] at hsl
    obtain ⟨l,hl'⟩:∃ l:List UInt8,l=toB (zs.take len0):=⟨_,rfl⟩
    have hll:l.length=len0:=by rw [hl',toB,List.length_map,List.length_take]; omega
    have h1:cap0≤9223372036854775807:=hm
    refine ⟨.sl 1 (bcA l),l,?_,?_,by omega⟩
    · simp [slBytes]
    · simp only [Rep]
      refine .inl ⟨b,o,cap0,?_,?_,?_⟩
      · simp [hll]
      · simp [hll]; exact hl
      · refine repSl_bytes (F:=fun k=>k < w.heap.size) hb l o ?_
        intro j s hj
        have hjl:j < l.length:=by
          rcases Nat.lt_or_ge j l.length with h | h
          · exact h
          · simp [List.getElem?_eq_none h] at hj
        have hjs:j < zs.length:=by omega
        have:=hcell j hjs
        rw [addr_add] at this
        rw [this]
        rw [hl',toB,List.getElem?_map,List.getElem?_take_of_lt (by omega),List.getElem?_eq_getElem hjs] at hj
        simp at hj
        have hz:=u8_has (hwf zs[j] (List.getElem_mem hjs))
        rw [List.getD_eq_getElem?_getD,List.getElem?_eq_getElem hjs,Option.getD_some,← hj]
        have h2:zs[j].toNat % 256=zs[j].toNat:=Nat.mod_eq_of_lt (by omega)
        simp [h2]
        omega

end
end Wax


