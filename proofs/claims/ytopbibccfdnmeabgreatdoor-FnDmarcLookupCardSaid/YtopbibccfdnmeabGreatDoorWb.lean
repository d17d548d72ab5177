/- The machine by which the functions are read, and what is proved of them (part 2): no premise. -/
import Derived.Deep.AppendSrc
import Derived.Laws.IdiomCopy
import Derived.Laws.AppendOwn
import Derived.Laws.NewBlocks
import Derived.Deep.Upon
import Derived.Test.YtopbibccfdnmeabGreatDoorWa
set_option linter.all false
namespace Wax
open Go Go.RowKit

section
variable {P:Program} {T:Tab} {w0 w:World} {F0:Base} {n:Nat} {fr:List (Nat × AV)} {hp:List (Nat × AObj)} {a:Act} {F:Frz} {ρ:Rho} {o:Oper}

structure Row (w w':World) (arr:List Value):Prop where
  below:Below w.heap.size w w'
  size:w'.heap.size=w.heap.size+1
  row:∃ e f,w'.heap[w.heap.size]? = some (.cells arr.toArray e f)
  free:NoFrz w' w.heap.size arr.length

theorem Row.alloc (w:World) (arr:List Value) (e:TypeId):Row w (w.alloc (.cells arr.toArray e)) arr:=by
  refine ⟨(Below.refl _ _).alloc (Nat.le_refl _) _,by simp,⟨e,(0,0),?_⟩,?_⟩
  · show (w.heap.push _)[w.heap.size]? = _
    simp
  · refine ⟨fun k _=>by simp,fun c e' f hc=>?_⟩
    have:(w.heap.push (.cells arr.toArray e))[w.heap.size]? = some (.cells c e' f):=hc
    simp at this
    obtain ⟨_,_,rfl⟩:=this
    exact Nat.le_refl _

theorem Row.drew {w w':World} {arr:List Value} (h:Row w.drew w' arr):Row w w' arr :=
  ⟨⟨h.below.os,h.below.tape,h.below.output,h.below.size,h.below.block⟩,h.size,h.row,h.free⟩

theorem res_row (I:Inv T w0 F0 n ⟨fr,hp⟩ a w F ρ) (hd:dstOk n o.dst) {w':World} {arr:List Value} (R:Row w w' arr) {d:Nat} (hdk:d < 1000000) {cs:List AV} {vs post:List Value} (harr:arr=vs++post)
    (hc:RepL T w' F (setRho ρ d (w.heap.size,0)) cs vs) {u:Value} (hrun:(execOp a.eval o).run P w=.ok (.value u) w') {v:AV} (hv:Rep T w' F (setRho ρ d (w.heap.size,0)) v u) :
    OpRes P T w0 F0 n fr o a w ⟨v,(d,.cells cs)::killH d hp,[d]⟩:=by
  refine ⟨_,w',F,setRho ρ d (w.heap.size,0),u,hrun,.inl rfl,?_⟩
  obtain ⟨e,f,hrow⟩:=R.row
  have:=I.new (d:=d) (o:=0) hdk R.below (Nat.le_refl _) (by rw [R.size]; omega) (x:=.cells cs)
    (fun _ _=>⟨[],vs,post,e,f,by rw [hrow,harr]; rfl,rfl,hc,by simpa [← harr] using R.free⟩) hv hd
  simpa [fin,killFs] using this

theorem rep_ref (d:Nat) (b:Nat) (w':World):Rep T w' F (setRho ρ d (b,0)) (.ref d 0) (.pointer (some ⟨b,0,none⟩)) :=
  ⟨b,0,by simp [setRho],rfl⟩

theorem rep_msl {w':World} {d b es m cap:Nat} {c:Array Value} {e:TypeId} {f:Nat × Nat} (h1:m≤cap) (h2:w'.heap[b]? = some (.cells c e f)) (h3:cap * es≤c.size) :
    Rep T w' F (setRho ρ d (b,0)) (.msl d es 0 m) (.slice (some ⟨b,0,none⟩) m cap) :=
  ⟨b,0,0,cap,c,e,f,by simp [setRho],rfl,h1,h2,.inr ⟨rfl,by simpa using h3⟩⟩

theorem s_alloc (I:Inv T w0 F0 n ⟨fr,hp⟩ a w F ρ) (hd:dstOk n o.dst) {e:TypeId} (ho:o.op=.alloc e) {z:AV} (hz:zeroT P T e=some z) (d:Nat) (hdk:d < 1000000):OpRes P T w0 F0 n fr o a w ⟨.ref d 0,(d,.cells (cells z))::killH d hp,[d]⟩:=by
  have hzz:=hz
  obtain ⟨v,i,hi,hv,_⟩:=zero_rep (w:=w) hz F ρ
  simp only [zeroT,hi,hv] at hzz
  have hr:=constAV_rep (T:=T) (w:=w.alloc (.cells v.cells e)) F (setRho ρ d (w.heap.size,0)) v z hzz
  have hsh:=constAV_shape hzz
  have R:=Row.alloc w v.cells.toList e
  simp only [Array.toArray_toList] at R
  refine res_row I hd R (d:=d) hdk (cs:=cells z) (vs:=v.cells.toList) (post:=[]) (by simp) (cells_rep0 hr hsh.1 hsh.2) (u:=.pointer (some ⟨w.heap.size,0,none⟩)) ?_ (rep_ref d _ _)
  simp [execOp,ho,Instr.alloc,rZero hi hv,newVar,newRow]

theorem mod_range (es:Nat) (hes:0 < es) (z:List Value) (hz:z.length=es):∀ k:Nat,(List.range (k * es)).map (fun i=>z.toArray[i % z.toArray.size]!)=(List.replicate k z).flatten
  | 0=>by simp
  | k+1=>by
    have ih:=mod_range es hes z hz k
    rw [Nat.add_mul,Nat.one_mul,List.range_add,List.map_append,ih,List.replicate_succ',List.flatten_append]
    congr 1
    simp only [List.map_map,List.flatten_cons,List.flatten_nil,List.append_nil]
    apply List.ext_getElem?
    intro i
    simp only [List.getElem?_map]
    by_cases hi:i < es
    · rw [List.getElem?_range hi]
      simp only [Option.map_some,Function.comp_apply,List.size_toArray,hz]
      have:(k * es+i) % es=i:=by rw [Nat.mul_comm,Nat.mul_add_mod,Nat.mod_eq_of_lt hi]
      rw [this,List.getElem?_eq_getElem (by omega)]
      simp [hz,hi]
    · rw [List.getElem?_eq_none (by simp; omega),List.getElem?_eq_none (by omega)]; rfl

theorem flatten_len {α:Type} (z:List α):∀ k:Nat,((List.replicate k z).flatten).length=k * z.length
  | 0=>by simp
  | k+1=>by simp only [List.replicate_succ,List.flatten_cons,List.length_append,flatten_len z k,Nat.add_mul]; omega

theorem flatten_rep {z:List AV} {zs:List Value} (h:RepL T w F ρ z zs):∀ k:Nat,RepL T w F ρ ((List.replicate k z).flatten) ((List.replicate k zs).flatten)
  | 0=>by simp [RepL]
  | k+1=>by simp only [List.replicate_succ,List.flatten_cons]; exact h.app (flatten_rep h k)

theorem s_mkSlice (I:Inv T w0 F0 n ⟨fr,hp⟩ a w F ρ) (hd:dstOk n o.dst) {t e:TypeId} {l c:Operand} (ho:o.op=.makeSlice t l c) (ht:P.underlying t=some (.slice e)) {i:TypeInfo} (hi:P.info? e=some i)
    {z:AV} (hz:zeroT P T e=some z) (hes:0 < i.size∧i.size=(cells z).length) {p q:AV} (hl:Rep T w F ρ p (a.eval l)) (hc:Rep T w F ρ q (a.eval c)) {m k:Nat} (hm:idx p=some m) (hk:idx q=some k)
    (hmk:m≤k) (hfit:(k+1) * (i.bytes+1) < 35184372088832) (hk45:k < 35184372088832) (d:Nat) (hdk:d < 1000000):OpRes P T w0 F0 n fr o a w ⟨.msl d i.size 0 m,(d,.cells ((List.replicate m (cells z)).flatten))::killH d hp,[d]⟩:=by
  obtain ⟨kl,ml,hlv,hl0,hlm⟩:=idx_spec hm hl
  obtain ⟨kc,mc,hcv,hc0,hcm⟩:=idx_spec hk hc
  have hzz:=hz
  obtain ⟨v,i',hi',hv,_⟩:=zero_rep (w:=w) hz F ρ
  rw [hi] at hi'; injection hi' with hi'; subst hi'
  simp only [zeroT,hi,hv] at hzz
  have hsh:=constAV_shape hzz
  have hlen:v.cells.toList.length=i.size:=by
    have:=(cells_rep0 (constAV_rep (T:=T) (w:=w) F ρ v z hzz) hsh.1 hsh.2).length
    omega
  obtain ⟨arr,harr⟩:∃ arr:List Value,arr=(List.replicate k v.cells.toList).flatten:=⟨_,rfl⟩
  have hrow:((Array.range (k * i.size)).map fun j=>v.cells[j % v.cells.size]!)=arr.toArray:=by
    rw [harr,← mod_range i.size hes.1 v.cells.toList hlen k]
    apply Array.ext'
    simp
  have hml:ml=(m:Int):=by omega
  have hmc:mc=(k:Int):=by omega
  have wl:IntKind.i64.wrap ml=(m:Int):=by
    rw [hml]; simp [IntKind.wrap,IntKind.bits,IntKind.signed]; omega
  have wc:IntKind.i64.wrap mc=(k:Int):=by
    rw [hmc]; simp [IntKind.wrap,IntKind.bits,IntKind.signed]; omega
  have R:=Row.alloc w arr e
  have hrun:(execOp a.eval o).run P w=.ok (.value (.slice (some ⟨w.heap.size,0,none⟩) m k)) (w.alloc (.cells arr.toArray e)):=by
    have hbytes:¬ ((i.bytes:Int) * (k:Int) > 281474976710656):=by
      have:i.bytes * k≤(k+1) * (i.bytes+1):=by
        rw [Nat.mul_comm]; exact Nat.mul_le_mul (by omega) (by omega)
      have h2:((i.bytes * k:Nat):Int) < ((35184372088832:Nat):Int):=Int.ofNat_lt.2 (Nat.lt_of_le_of_lt this hfit)
      rw [Int.natCast_mul] at h2; omega
    have hcl:¬ ((m:Int) > (k:Int)):=by omega
    have hz2:(zeroValue e).run P w=.ok v w:=rZero hi hv
    have big:∀ x:Int,((2:Int) ^ 48 < x)=(281474976710656 < x):=fun _=>rfl
    simp only [execOp,ho,Instr.makeSlice,Sem.run_bind,rUnder ht,Result.andThen_ok,hlv,hcv,asInt,asIntOf,Sem.run_pure,rInfo hi,wl,wc]
    have hsz:sizeT P e=some i.size:=by simp [sizeT,hi]
    rw [if_neg (by simp only [gt_iff_lt,big,Bool.or_eq_true,decide_eq_true_eq]; omega)]
    simp only [Sem.run_bind,run_askRoom,Result.andThen_ok,rSize hsz,Int.toNat_natCast]
    by_cases h0:k * i.size=0
    · have hk0:k=0:=by rcases Nat.mul_eq_zero.1 h0 with h | h <;> omega
      have ha0:arr=[]:=by rw [harr,hk0]; rfl
      rw [if_pos h0]
      simp [newRow,h0,ha0]
      congr 2
      apply Array.ext'
      simp
    · rw [if_neg h0]
      simp only [Sem.run_bind,hz2,Result.andThen_ok,Sem.run_pure,hrow,newRow,run_newObj,World.alloc_eq]
  refine res_row I hd R (d:=d) hdk (cs:=(List.replicate m (cells z)).flatten) (vs:=(List.replicate m v.cells.toList).flatten) (post:=(List.replicate (k - m) v.cells.toList).flatten) ?_ ?_ hrun ?_
  · rw [harr,← List.flatten_append,List.replicate_append_replicate]; congr 2; omega
  · exact flatten_rep (cells_rep0 (constAV_rep (T:=T) F _ v z hzz) hsh.1 hsh.2) m
  · obtain ⟨e',f',hr⟩:=R.row
    refine rep_msl hmk hr ?_
    rw [List.size_toArray,harr,flatten_len,hlen]
    exact Nat.le_refl _

theorem s_mkSl (I:Inv T w0 F0 n ⟨fr,hp⟩ a w F ρ) (hd:dstOk n o.dst) {t e:TypeId} {m:Nat} {parts:Array (Nat × Operand)} (ho:o.op=.buildSlice t m parts) (ht:P.underlying t=some (.slice e)) {es:Nat} (hse:sizeT P e=some es)
    {z:AV} (hz:zeroT P T e=some z) (hes:0 < es∧es=(cells z).length∧m * es≤16777216) {ps:List (Nat × Opd)} (hps:cPartsS T parts.toList=some ps) {cs:List AV}
    (hf:fillA ((List.replicate m (cells z)).flatten) (ps.map fun p=>(p.1 * es,es,ev fr p.2))=some cs) (d:Nat) (hdk:d < 1000000):OpRes P T w0 F0 n fr o a w ⟨.msl d es 0 m,(d,.cells (killL d cs))::killH d hp,[d]⟩:=by
  have hzz:=hz
  obtain ⟨v,i,hi,hv,_⟩:=zero_rep (w:=w) hz F ρ
  simp only [zeroT,hi,hv] at hzz
  have hsh:=constAV_shape hzz
  have hcr:=cells_rep0 (constAV_rep (T:=T) (w:=w) F ρ v z hzz) hsh.1 hsh.2
  have hlen:v.cells.toList.length=es:=by have:=hcr.length; omega
  have two:=cPartsS_two (w:=w) (F:=F) (ρ:=ρ) (es:=es) (ev':=ev fr) (evl:=a.eval) (fun x y h=>ev_rep I h) hps
  obtain ⟨us,h1,h2,h3⟩:=fill_spec (place:=fun i=>some (i * es,es)) two (flatten_rep hcr m) hf
  have hrow:((Array.range (m * es)).map fun j=>v.cells[j % v.cells.size]!)=((List.replicate m v.cells.toList).flatten).toArray:=by
    rw [← mod_range es hes.1 v.cells.toList hlen m]
    apply Array.ext'
    simp
  have hpe:(parts.map fun (q:Nat × Operand)=>(q.1,a.eval q.2)).toList=parts.toList.map fun q=>(q.1,a.eval q.2):=by simp
  have R:=Row.alloc w us e
  have hb:=R.below
  have hrun:(execOp a.eval o).run P w=.ok (.value (.slice (some ⟨w.heap.size,0,none⟩) m m)) (w.alloc (.cells us.toArray e)):=by
    have hbig:¬ (m * es > 2 ^ 24):=by
      show ¬ (m * es > 16777216); omega
    simp only [execOp,ho,Instr.buildSlice,Sem.run_bind,rUnder ht,Result.andThen_ok,rSize hse,Sem.run_ite,if_neg hbig,Sem.run_pure]
    by_cases h0:m * es=0
    · have hm0:m=0:=by rcases Nat.mul_eq_zero.1 h0 with h | h <;> omega
      have he0:((Array.range (m * es)).map fun j=>(#[]:Array Value)[j % (#[]:Array Value).size]!)=((List.replicate m v.cells.toList).flatten).toArray:=by
        rw [hm0]; apply Array.ext'; simp
      simp only [h0,if_true]
      rw [h0] at he0
      rw [he0,hpe]
      simp only [h1,Sem.run_bind,newRow,run_newObj,Result.andThen_ok,Sem.run_pure,World.alloc_eq]
    · simp only [h0,if_false,rZero hi hv,Result.andThen_ok]
      rw [hrow,hpe]
      simp only [h1,Sem.run_bind,newRow,run_newObj,Result.andThen_ok,Sem.run_pure,World.alloc_eq]
  refine res_row I hd R (d:=d) hdk (cs:=killL d cs) (vs:=us) (post:=[]) (by simp) ?_ hrun ?_
  · refine RepL.kill d (fun b h=>⟨h,hb.block b (I.lt b h)⟩) ρ _ ?_ _ _ h2
    exact ⟨fun id p hne h=>by simpa [setRho,hne] using h,fun id b' o' c e f _ hr' hc=>by
      obtain ⟨x,hx⟩:=I.dom id _ hr'
      obtain ⟨b1,o1,g1,_,g3,_⟩:=I.obj id x hx
      rw [hr'] at g1; injection g1 with g1; injection g1 with g1 g1'; subst g1
      exact ⟨c,e,f,by rw [hb.block _ g3]; exact hc,Nat.le_refl _⟩⟩
  · obtain ⟨e',f',hr⟩:=R.row
    refine rep_msl (Nat.le_refl m) hr ?_
    rw [List.size_toArray,h3,flatten_len,hlen]
    exact Nat.le_refl _

theorem s_mkMap (I:Inv T w0 F0 n ⟨fr,hp⟩ a w F ρ) (hd:dstOk n o.dst) {t k e:TypeId} {r:Option Operand} (ho:o.op=.makeMap t r) (ht:P.underlying t=some (.map k e)) (hr:r=none∨∃ kk m,r=some (.const (.int kk m))) (d:Nat) (hdk:d < 1000000) :
    OpRes P T w0 F0 n fr o a w ⟨.mref d,(d,.mp [])::killH d hp,[d]⟩:=by
  have hrun:(execOp a.eval o).run P w=.ok (.value (.map (some w.heap.size))) (w.alloc (.map #[] 0)):=by
    rcases hr with rfl | ⟨kk,m,rfl⟩
    · simp [execOp,ho,Instr.makeMap]
    · simp [execOp,ho,Instr.makeMap,rUnder ht,Act.eval,asInt,asIntOf]
  have hb:Below w.heap.size w (w.alloc (.map #[] 0)):=(Below.refl _ _).alloc (Nat.le_refl _) _
  refine ⟨_,_,F,setRho ρ d (w.heap.size,0),_,hrun,.inl rfl,?_⟩
  have:=I.new (d:=d) (o:=0) hdk hb (Nat.le_refl _) (by simp) (x:=.mp [])
    (fun _ _=>⟨#[],0,by show (w.heap.push _)[w.heap.size]? = _; simp,⟨[],List.Perm.refl _,by simp [RepM]⟩,Go.MapKept.stamped_empty 0⟩) (v:=.mref d) (u:=.map (some w.heap.size)) ⟨w.heap.size,0,by simp [setRho],rfl⟩ hd
  simpa [fin,killFs] using this

theorem s_rangeS (I:Inv T w0 F0 n ⟨fr,hp⟩ a w F ρ) (hd:dstOk n o.dst) {t:TypeId} {x:Operand} (ho:o.op=.range t x) (ht:P.underlying t=some .string) {s:List UInt8} (hx:Rep T w F ρ (.str s) (a.eval x)) (d:Nat) (hdk:d < 1000000) :
    OpRes P T w0 F0 n fr o a w ⟨.ref d 0,(d,.sit s 0)::killH d hp,[d]⟩:=by
  simp only [Rep] at hx
  have hrun:(execOp a.eval o).run P w=.ok (.value (.pointer (some ⟨w.heap.size,0,none⟩))) (w.alloc (.stringIter ⟨s.toArray⟩ 0)):=by
    simp [execOp,ho,Instr.range,rUnder ht,hx]
  have hb:Below w.heap.size w (w.alloc (.stringIter ⟨s.toArray⟩ 0)):=(Below.refl _ _).alloc (Nat.le_refl _) _
  refine ⟨_,_,F,setRho ρ d (w.heap.size,0),_,hrun,.inl rfl,?_⟩
  have:=I.new (d:=d) (o:=0) hdk hb (Nat.le_refl _) (by simp) (x:=.sit s 0)
    (fun _ _=>⟨rfl,by show (w.heap.push _)[w.heap.size]? = _; simp⟩) (v:=.ref d 0) (u:=.pointer (some ⟨w.heap.size,0,none⟩)) (rep_ref d _ _) hd
  simpa [fin,killFs] using this

theorem s_rangeM (I:Inv T w0 F0 n ⟨fr,hp⟩ a w F ρ) (hd:dstOk n o.dst) {t k e:TypeId} {x:Operand} (ho:o.op=.range t x) (ht:P.underlying t=some (.map k e)) {es:List (List UInt8 × AV)} (hx:Rep T w F ρ (.mp es) (a.eval x)) (d:Nat) (hdk:d < 1000000) :
    OpRes P T w0 F0 n fr o a w ⟨.ref d 0,(d,.mit es none)::killH d hp,[d]⟩:=by
  simp only [Rep] at hx
  obtain ⟨r,ents,clk,hv,hF,hr,hM,hS⟩:=hx
  have hrun:(execOp a.eval o).run P w=.ok (.value (.pointer (some ⟨w.heap.size,0,none⟩))) (w.alloc (.mapIter (some r) clk #[] clk)):=by
    have:=run_range_map w t k e r ents clk ht hr
    simp only [execOp,ho,hv,Sem.run_bind,this,Result.andThen_ok,Sem.run_pure]
  have hb:Below w.heap.size w (w.alloc (.mapIter (some r) clk #[] clk)):=(Below.refl _ _).alloc (Nat.le_refl _) _
  refine ⟨_,_,F,setRho ρ d (w.heap.size,0),_,hrun,.inl rfl,?_⟩
  have:=I.new (d:=d) (o:=0) hdk hb (Nat.le_refl _) (by simp) (x:=.mit es none)
    (fun HF _=>⟨rfl,r,clk,#[],clk,ents,clk,by show (w.heap.push _)[w.heap.size]? = _; simp,hF,by rw [(HF r hF).2]; exact hr,hS,hS.1,Nat.le_refl _,Nat.le_refl _,by
      have e1:leftOf ents #[]=ents:=by simp [leftOf]
      rw [e1]; exact RepMP.mono HF hM,fun k v h=>by simp at h⟩) (v:=.ref d 0) (u:=.pointer (some ⟨w.heap.size,0,none⟩)) (rep_ref d _ _) hd
  simpa [fin,killFs] using this

theorem Row.conv (w:World) (arr:List Value) (e:TypeId):Row w ((w.alloc (.cells arr.toArray e)).freeze ⟨w.heap.size,arr.length,none⟩ 1) arr:=by
  have hf:((w.alloc (.cells arr.toArray e)).freeze ⟨w.heap.size,arr.length,none⟩ 1).heap=w.heap.push (.cells arr.toArray e (arr.length,arr.length+1)):=by
    simp only [World.freeze]
    rw [if_neg (by omega)]
    dsimp only
    have ha:(w.alloc (.cells arr.toArray e)).heap=w.heap.push (.cells arr.toArray e):=rfl
    rw [ha]
    apply Array.ext_getElem?
    intro i
    rw [Array.getElem?_modify,Array.getElem?_push,Array.getElem?_push]
    by_cases hi:w.heap.size=i
    · subst hi; simp
    · rw [if_neg hi,if_neg (fun h=>hi h.symm),if_neg (fun h=>hi h.symm)]
  refine ⟨⟨?_,?_,?_,by rw [hf]; simp,?_⟩,by rw [hf]; simp,⟨e,(arr.length,arr.length+1),by rw [hf]; simp⟩,?_⟩
  · unfold World.freeze; rw [if_neg (by omega)]; rfl
  · unfold World.freeze; rw [if_neg (by omega)]; rfl
  · unfold World.freeze; rw [if_neg (by omega)]; rfl
  · intro k hk
    rw [hf,Array.getElem?_push,if_neg (by omega)]
  · refine ⟨fun k hk=>?_,fun c e' f hc=>?_⟩
    · simp only [World.frozen?,hf]
      simp
      omega
    · rw [hf] at hc
      simp at hc
      obtain ⟨_,_,rfl⟩:=hc
      exact Nat.le_succ _

def bcV (s:List UInt8):List Value:=s.map fun b=>Value.int .u8 (b.toNat:Int)

theorem bytes_cells (s:List UInt8) (ρ:Rho):RepL T w F ρ (bcA s) (bcV s):=by
  induction s with
  | nil=>simp [RepL,bcA,bcV]
  | cons b r ih=>simp only [bcA,bcV,List.map_cons,RepL]; exact ⟨by simp [Rep],ih⟩

theorem s_cStrBytes (I:Inv T w0 F0 n ⟨fr,hp⟩ a w F ρ) (hd:dstOk n o.dst) {src dst e:TypeId} {x:Operand} (ho:o.op=.convert src dst x) (hs:P.underlying src=some .string) (hdt:P.underlying dst=some (.slice e)) (he:P.underlying e=some (.int .u8))
    {s:List UInt8} (hx:Rep T w F ρ (.str s) (a.eval x)) (d:Nat) (hdk:d < 1000000) :
    OpRes P T w0 F0 n fr o a w ⟨.msl d 1 0 s.length,(d,.cells (bcA s))::killH d hp,[d]⟩:=by
  simp only [Rep] at hx
  obtain ⟨cap,hcap⟩:∃ cap,cap=grownCap w s.length 0 e:=⟨_,rfl⟩
  have hge:s.length≤cap:=hcap ▸ grownCap_ge w s.length 0 e
  have R:=(Row.conv w.drew (bcV s++List.replicate (cap - s.length) (Value.int .u8 0)) e).drew
  have hlen:(bcV s++List.replicate (cap - s.length) (Value.int .u8 0)).length=cap:=by simp [bcV]; omega
  refine res_row I hd R (d:=d) hdk (cs:=bcA s) (vs:=bcV s) (post:=List.replicate (cap - s.length) (.int .u8 0)) rfl (bytes_cells s _)
    (u:=.slice (some ⟨w.heap.size,0,none⟩) s.length cap) ?_ ?_
  · have harr:(((⟨s.toArray⟩:ByteArray).data.map fun (b:UInt8)=>Value.int .u8 (b.toNat:Int))++Array.replicate (cap - s.length) (Value.int .u8 0):Array Value)=(bcV s++List.replicate (cap - s.length) (Value.int .u8 0)).toArray:=by
      apply Array.ext'; simp [bcV]
    simp only [execOp,ho,convert,Sem.run_bind,rUnder hs,rUnder hdt,rUnder he,Result.andThen_ok,hx,Conv.stringToBytes,run_choose,Question.forced,Bool.false_eq_true,if_false,bytes_size]
    have hc':(Question.appendCap s.length 0 e).cut (w.tape w.drawn (Question.appendCap s.length 0 e))=cap:=hcap.symm
    have hw:({ heap:=w.heap,tape:=w.tape,drawn:=w.drawn+1,os:=w.os,output:=w.output }:World)=w.drew:=rfl
    have harr':(Array.map (fun (b:UInt8)=>Value.int .u8 (b.toNat:Int)) s.toArray++Array.replicate (cap - s.length) (Value.int .u8 0))=(bcV s++List.replicate (cap - s.length) (Value.int .u8 0)).toArray:=harr
    rw [hc',hw,harr']
    simp only [newRow,Sem.run_bind,run_newObj,Result.andThen_ok,Sem.run_pure,World.alloc_eq,markStringish,run_shape]
    have hsh:(w.drew.alloc (.cells (bcV s++List.replicate (cap - s.length) (Value.int .u8 0)).toArray e)).shape? w.drew.heap.size=some (e,(bcV s++List.replicate (cap - s.length) (Value.int .u8 0)).length):=by
      have:(w.drew.alloc (.cells (bcV s++List.replicate (cap - s.length) (Value.int .u8 0)).toArray e)).heap[w.drew.heap.size]? = some (.cells (bcV s++List.replicate (cap - s.length) (Value.int .u8 0)).toArray e):=by
        show (w.heap.push _)[w.heap.size]? = _
        simp
      simp only [World.shape?,this,List.size_toArray]
    simp only [hsh,run_freeze,Result.andThen_ok]
    rfl
  · obtain ⟨e',f',hr⟩:=R.row
    refine rep_msl hge hr ?_
    rw [List.size_toArray,hlen]; omega

def rcV (s:List Nat):List Value:=s.map fun (c:Nat)=>Value.int .i32 (c:Int)

theorem runes_cells (s:List Nat) (ρ:Rho):RepL T w F ρ (rcA s) (rcV s):=by
  induction s with
  | nil=>simp [RepL,rcA,rcV]
  | cons b r ih=>simp only [rcA,rcV,List.map_cons,RepL]; exact ⟨by simp [Rep],ih⟩

theorem get_at (s:List UInt8) (i:Nat):(⟨s.toArray⟩:ByteArray).get! i=s.getD i 0:=by
  show s.toArray[i]! = _
  by_cases h:i < s.length
  · simp [List.getD_eq_getElem?_getD,h,getElem!_pos]
  · rw [getElem!_neg _ _ (by simpa using h)]
    simp [List.getD_eq_getElem?_getD,List.getElem?_eq_none (Nat.le_of_not_lt h)]
    rfl

theorem getD_drop (s:List UInt8) (i k:Nat):(s.drop i).getD k 0=s.getD (i+k) 0:=by
  simp [List.getD_eq_getElem?_getD,List.getElem?_drop]

theorem decode_drop (s:List UInt8) (i:Nat):Utf8.decode ⟨s.toArray⟩ i=decR (s.drop i):=by
  have e:∀ k,decide (i+k < s.length)=decide (0+k < (s.drop i).length):=by
    intro k; rw [List.length_drop]; apply decide_eq_decide.2; omega
  simp only [decR,Utf8.decode,get_at,getD_drop,bytes_size,Nat.zero_add] at e ⊢
  simp only [e]

theorem runes_from (s:List UInt8):∀ (b i:Nat) (acc:Array Value),Conv.runesFrom ⟨s.toArray⟩ b i acc=acc++(rcV (runesF b (s.drop i))).toArray
  | 0,i,acc=>by simp [Conv.runesFrom,runesF,rcV]
  | b+1,i,acc=>by
    simp only [Conv.runesFrom,bytes_size,decode_drop,runesF]
    by_cases h:i < s.length
    · have hne:¬ (s.drop i=[]):=by intro e; have:=congrArg List.length e; simp at this; omega
      rw [if_pos h,if_neg hne,runes_from s b]
      simp [rcV,List.drop_drop]
    · have he:s.drop i=[]:=List.drop_eq_nil_of_le (by omega)
      rw [if_neg h,if_pos he]
      simp [rcV]

theorem s_cStrRunes (I:Inv T w0 F0 n ⟨fr,hp⟩ a w F ρ) (hd:dstOk n o.dst) {src dst e:TypeId} {x:Operand} (ho:o.op=.convert src dst x) (hs:P.underlying src=some .string) (hdt:P.underlying dst=some (.slice e)) (he:P.underlying e=some (.int .i32))
    {s:List UInt8} (hx:Rep T w F ρ (.str s) (a.eval x)) (d:Nat) (hdk:d < 1000000) :
    OpRes P T w0 F0 n fr o a w ⟨.msl d 1 0 (runesF s.length s).length,(d,.cells (rcA (runesF s.length s)))::killH d hp,[d]⟩:=by
  simp only [Rep] at hx
  obtain ⟨rs,hrs⟩:∃ rs,rs=runesF s.length s:=⟨_,rfl⟩
  rw [← hrs]
  obtain ⟨cap,hcap⟩:∃ cap,cap=grownCap w rs.length 0 e:=⟨_,rfl⟩
  have hge:rs.length≤cap:=hcap ▸ grownCap_ge w rs.length 0 e
  have R:=(Row.alloc w.drew (rcV rs++List.replicate (cap - rs.length) (Value.int .i32 0)) e).drew
  have hlen:(rcV rs++List.replicate (cap - rs.length) (Value.int .i32 0)).length=cap:=by simp [rcV]; omega
  refine res_row I hd R (d:=d) hdk (cs:=rcA rs) (vs:=rcV rs) (post:=List.replicate (cap - rs.length) (.int .i32 0)) rfl (runes_cells rs _)
    (u:=.slice (some ⟨w.heap.size,0,none⟩) rs.length cap) ?_ ?_
  · have hel:Conv.runesFrom ⟨s.toArray⟩ (⟨s.toArray⟩:ByteArray).size 0 #[]=(rcV rs).toArray:=by
      rw [runes_from,bytes_size,hrs]; simp
    have hsz:(rcV rs).toArray.size=rs.length:=by simp [rcV]
    have hc':(Question.appendCap rs.length 0 e).cut (w.tape w.drawn (Question.appendCap rs.length 0 e))=cap:=hcap.symm
    have harr':(rcV rs).toArray++Array.replicate (cap - rs.length) (Value.int .i32 0)=(rcV rs++List.replicate (cap - rs.length) (Value.int .i32 0)).toArray:=by
      apply Array.ext'; simp
    simp only [execOp,ho,convert,Sem.run_bind,rUnder hs,rUnder hdt,rUnder he,Result.andThen_ok,hx,Conv.stringToRunes,hel,hsz,run_choose,Question.forced,Bool.false_eq_true,if_false,hc',harr',newRow,run_newObj,Sem.run_pure]
    rfl
  · obtain ⟨e',f',hr⟩:=R.row
    refine rep_msl hge hr ?_
    rw [List.size_toArray,hlen]; omega

theorem setCells_spliceV (b:Nat):∀ (us:List Value) (o:Nat) (w:World) (all:List Value) (e:TypeId) (f:Nat × Nat),w.heap[b]? = some (.cells all.toArray e f) →
    (w.setCells b o us).heap[b]? = some (.cells (spliceV all o us).toArray e f)∧(∀ k,k ≠ b→(w.setCells b o us).heap[k]? = w.heap[k]?)∧(w.setCells b o us).heap.size=w.heap.size∧(w.setCells b o us).os=w.os∧(w.setCells b o us).tape=w.tape∧(w.setCells b o us).output=w.output
  | [],o,w,all,e,f,h=>⟨h,fun _ _=>rfl,rfl,rfl,rfl,rfl⟩
  | u::r,o,w,all,e,f,h=>by
    have h1:(w.setCell ⟨b,o,none⟩ u).heap[b]? = some (.cells (all.set o u).toArray e f):=by
      simp only [World.setCell,Array.getElem?_modify,if_true,h,Option.map_some]
      congr 2
      simp
    obtain ⟨g1,g2,g3,g4,g5,g6⟩:=setCells_spliceV b r (o+1) (w.setCell ⟨b,o,none⟩ u) (all.set o u) e f h1
    simp only [World.setCells,spliceV]
    refine ⟨g1,fun k hk=>?_,by rw [g3]; simp,by rw [g4]; rfl,by rw [g5]; rfl,by rw [g6]; rfl⟩
    rw [g2 k hk]
    exact Below.heap_setCell w ⟨b,o,none⟩ u k hk

theorem s_store (I:Inv T w0 F0 n ⟨fr,hp⟩ a w F ρ) (hd:dstOk n o.dst) {t:TypeId} {x y:Operand} (ho:o.op=.store t x y) {m:Nat} (hm:sizeT P t=some m) {id off:Nat} (hx:Rep T w F ρ (.ref id off) (a.eval x)) {v:AV} (hv:Rep T w F ρ v (a.eval y))
    {cs:List AV} (hid:hlk hp id=some (.cells cs)) (hl:(cells v).length=m) (hoff:off+m≤cs.length) (hat:atoms (cells v)=true) :
    OpRes P T w0 F0 n fr o a w ⟨.junk,hset hp id (.cells (spliceL cs off (cells v))),[]⟩:=by
  simp only [Rep] at hx
  obtain ⟨b,o1,hr,hxe⟩:=hx
  obtain ⟨b',o',g1,g2,g3,g4,g5⟩:=I.obj id _ hid
  rw [hr] at g1; injection g1 with g1; injection g1 with g1 g1'; subst g1; subst g1'
  obtain ⟨pre,vs,post,e,f,h1,h2,h3,h4⟩:=g5
  have hcr:=cells_rep hv hat
  have hvl:=hcr.1.length
  have hcl:=h3.length
  obtain ⟨us,hus⟩:∃ us,us=(a.eval y).cells.toList:=⟨_,rfl⟩
  rw [← hus] at hcr hvl
  have hul:us.length=m:=by omega
  have hsome:∀ j,j < us.length→(w.cell? ⟨b,o1+off+0+j,none⟩).isSome=true:=by
    intro j hj
    simp only [World.cell?,h1]
    simp
    omega
  have hfz:∀ j,j < us.length→w.frozen? ⟨b,o1+off+0+j,none⟩=false:=by
    intro j hj
    exact h4.1 _ (by simp; omega)
  have hst:=run_storeCells_cells (P:=P) b (o1+off) us 0 w hsome hfz hcr.2
  simp only [Nat.add_zero] at hst
  have hsz:(a.eval y).cells.size=m:=by rw [← Array.length_toList,← hus,hul]
  have hrun:(execOp a.eval o).run P w=.ok .skip (w.setCells b (o1+off) us):=by
    simp only [execOp,ho,Instr.storeAt,Sem.run_bind,hxe,Instr.sureAddr,Sem.run_pure,Result.andThen_ok,storeVar,rSize hm,hsz,ne_eq,not_true,if_false,← hus,hst]
  obtain ⟨k1,k2,k3,k4,k5,k6⟩:=setCells_spliceV b us (o1+off) w (pre++(vs++post)) e f h1
  refine ⟨_,_,F,ρ,undef,hrun,.inr ⟨rfl,rfl⟩,?_⟩
  have e1:spliceV (pre++(vs++post)) (o1+off) us=pre++(spliceV vs off us++post):=by
    rw [← h2,spliceV_app_left,spliceV_app_right _ _ _ _ (by omega)]
  have J:=I.upd (x:=.cells (spliceL cs off (cells v))) hid hr k4 k5 k6 k3 k2 (fun c e' f' hc=>by
    rw [h1] at hc; injection hc with hc; injection hc with c1 c2 c3; subst c1
    exact ⟨_,e,f,k1,by simp [spliceV_length]⟩) (fun HF HR=>by
      refine ⟨pre,spliceV vs off us,post,e,f,by rw [k1,e1],h2,RepL.mono HF ρ ρ HR _ _ (splice_rep off h3 hcr.1),?_⟩
      refine ⟨fun k hk=>?_,fun c2 e2 f2 hc=>?_⟩
      · have:=h4.1 k (by simpa [spliceV_length] using hk)
        simp only [World.frozen?,h1] at this
        simp only [World.frozen?,k1]
        exact this
      · rw [k1] at hc; injection hc with hc; injection hc with _ _ c3; subst c3
        exact h4.2 _ _ _ h1)
  have:=J.val hd (x:=.junk) (v:=undef) (by simp [Rep])
  simpa [fin,killFs] using this

theorem hset_same:∀ {hp:List (Nat × AObj)} {id:Nat} {x:AObj},hlk hp id=some x→hset hp id x=hp
  | [],_,_,h=>by simp [hlk] at h
  | (i,o)::r,id,x,h=>by
    simp only [hlk] at h
    simp only [hset]
    by_cases e:i=id
    · rw [if_pos e] at h ⊢; injection h with h; rw [h]
    · rw [if_neg e] at h ⊢; rw [hset_same h]

theorem s_cSl (I:Inv T w0 F0 n ⟨fr,hp⟩ a w F ρ) (hd:dstOk n o.dst) {t e:TypeId} {x:Operand} (ho:o.op=.convert t t x) (ht:P.underlying t=some (.slice e)) (he:P.underlying e=some (.int .u8))
    {id es off m:Nat} (hx:Rep T w F ρ (.msl id es off m) (a.eval x)) {cs:List AV} (hid:hlk hp id=some (.cells cs)) :
    OpRes P T w0 F0 n fr o a w ⟨.msl id es off m,hp,[]⟩:=by
  simp only [Rep] at hx
  obtain ⟨b,o1,x1,cap,c0,e0,f0,hr,hxe,hmc,hb,hcap⟩:=hx
  obtain ⟨b',o',g1,g2,g3,g4,g5⟩:=I.obj id _ hid
  rw [hr] at g1; injection g1 with g1; injection g1 with g1 g1'; subst g1; subst g1'
  obtain ⟨pre,vs,post,e1,f,h1,h2,h3,h4⟩:=g5
  obtain ⟨lo,hi⟩:=f
  rw [hb] at h1; injection h1 with h1; injection h1 with c1 c2 c3; subst c1
  obtain ⟨N,hN⟩:∃ N,N=(pre++(vs++post)).toArray.size:=⟨_,rfl⟩
  have hlohi:lo≤hi:=by have:=h4.2 _ _ _ hb; rw [c3] at this; exact this
  have hsh:w.shape? b=some (e0,N):=by simp only [World.shape?,hb,hN]
  have hrun:(execOp a.eval o).run P w=.ok (.value (.slice (some ⟨b,x1,none⟩) m cap)) (w.freeze ⟨b,N,none⟩ 1):=by
    simp only [execOp,ho,convert,Sem.run_bind,rUnder ht,rUnder he,Result.andThen_ok,hxe,beq_self_eq_true,markStringish,run_shape,hsh,run_freeze,Sem.run_pure]
  have k0:(w.freeze ⟨b,N,none⟩ 1).heap=w.heap.modify b fun
      | .cells c elem (lo,hi)=>.cells c elem (if lo == hi then (N,N+1) else (min lo N,max hi (N+1)))
      | o=>o:=rfl
  have k1:(w.freeze ⟨b,N,none⟩ 1).heap[b]? = some (.cells (pre++(vs++post)).toArray e0 (if lo == hi then (N,N+1) else (min lo N,max hi (N+1)))):=by
    rw [k0,Array.getElem?_modify,if_pos rfl,hb,c3]; rfl
  have k2:∀ k,k ≠ b→(w.freeze ⟨b,N,none⟩ 1).heap[k]? = w.heap[k]? := by
    intro k hk
    rw [k0,Array.getElem?_modify,if_neg (fun h=>hk h.symm)]
  refine ⟨_,_,F,ρ,_,hrun,.inl rfl,?_⟩
  have J:=I.upd (x:=.cells cs) (w':=w.freeze ⟨b,N,none⟩ 1) hid hr rfl rfl rfl (by rw [k0]; simp) k2 (fun c e' f' hc=>by
    rw [hb] at hc; injection hc with hc; injection hc with d1 d2 d3; subst d1
    exact ⟨_,_,_,k1,Nat.le_refl _⟩) (fun HF HR=>by
      refine ⟨pre,vs,post,e0,_,k1,h2,RepL.mono HF ρ ρ HR _ _ h3,?_⟩
      have hge:lo < hi→N≤lo:=by
        intro hlh
        apply Classical.byContradiction
        intro hn
        have:=h4.1 lo (by
          have:lo < N:=by omega
          rw [hN] at this; simpa using this)
        simp only [World.frozen?,hb,c3] at this
        simp at this
        omega
      refine ⟨fun k hk=>?_,fun c2 e2 f2 hc=>?_⟩
      · simp only [World.frozen?,k1]
        have hN':k < N:=by rw [hN]; simpa using hk
        by_cases hlh:lo=hi
        · simp [hlh]; omega
        · have h6:=hge (by omega)
          simp only [beq_iff_eq,hlh,if_false,Nat.min_eq_right h6]
          simp; omega
      · rw [k1] at hc; injection hc with hc; injection hc with _ _ c4; subst c4
        by_cases hlh:lo=hi
        · simp [hlh]
        · have h6:=hge (by omega)
          simp only [beq_iff_eq,hlh,if_false,Nat.min_eq_right h6]
          have:=Nat.le_max_right hi (N+1)
          omega)
  rw [hset_same hid] at J
  have:=J.val hd (x:=.msl id es off m) (v:=.slice (some ⟨b,x1,none⟩) m cap) (by
    simp only [Rep]
    exact ⟨b,o1,x1,cap,_,_,_,hr,rfl,hmc,k1,hcap⟩)
  simpa [fin,killFs] using this
end
end Wax


namespace Wax
open Go Go.RowKit

section
variable {P:Program} {T:Tab} {w0 w:World} {F0:Base} {n:Nat} {fr:List (Nat × AV)} {hp:List (Nat × AObj)} {a:Act} {F:Frz} {ρ:Rho} {o:Oper}

theorem bytes_beq (x y:List UInt8):((⟨x.toArray⟩:ByteArray) == ⟨y.toArray⟩)=decide (x=y):=by
  rw [beq_toListBytes,ByteArray.toList_mk,ByteArray.toList_mk,str_beq]

theorem find_now {k:List UInt8}:∀ {es:List (List UInt8 × AV)} {ents:List MapEntry},RepM T w F es ents→∀ i:Nat,
    (mfind es k=none∧Instr.findNow .string (.string ⟨k.toArray⟩) ents i=some none) ∨
    ∃ j v u e,mfind es k=some v∧Instr.findNow .string (.string ⟨k.toArray⟩) ents i=some (some (i+j,u))∧Rep T w F noRho v u∧ents[j]? = some e∧e.key=.string ⟨k.toArray⟩ ∧
      ∀ v',RepM T w F (mset es k v') ents→True
  | [],[],_,i=>.inl ⟨rfl,rfl⟩
  | (q,v)::r,e::s,h,i=>by
    simp only [RepM] at h
    obtain ⟨hk,hv,hr⟩:=h
    by_cases hkq:k=q
    · subst hkq
      refine .inr ⟨0,v,e.val,e,by simp [mfind],?_,hv,rfl,hk,fun _ _=>trivial⟩
      simp [Instr.findNow,Instr.sameNow,hk,bytes_beq]
    · have hs:Instr.sameNow .string (.string ⟨k.toArray⟩) e.key=some false:=by
        rw [hk]; simp [Instr.sameNow,bytes_beq,hkq]
      rcases find_now (k:=k) hr (i+1) with ⟨g1,g2⟩ | ⟨j,v',u,e',g1,g2,g3,g4,g5,_⟩
      · exact .inl ⟨by simp [mfind,hkq,g1],by simp [Instr.findNow,hs,g2]⟩
      · refine .inr ⟨j+1,v',u,e',by simp [mfind,hkq,g1],?_,g3,by simpa using g4,g5,fun _ _=>trivial⟩
        simp only [Instr.findNow,hs,g2]
        congr 3
        omega
  | [],_::_,h,_=>by simp [RepM] at h
  | (_,_)::_,[],h,_=>by simp [RepM] at h

theorem find_at {k:List UInt8} {e:MapEntry}:∀ {ents:List MapEntry},(∀ x∈ents,∃ q:List UInt8,x.key=.string ⟨q.toArray⟩)→(ents.map (·.key)).Nodup→e∈ents→e.key=.string ⟨k.toArray⟩→∀ i:Nat,
    ∃ j,Instr.findNow .string (.string ⟨k.toArray⟩) ents i=some (some (i+j,e.val))∧ents[j]? = some e
  | [],_,_,h,_,_=>by simp at h
  | x::r,hs,hn,he,hk,i=>by
    obtain ⟨q,hq⟩:=hs x (by simp)
    by_cases hkq:k=q
    · have hx:e=x:=by
        rcases List.mem_cons.1 he with rfl | he
        · rfl
        · simp only [List.map_cons,List.nodup_cons] at hn
          exact absurd (List.mem_map.2 ⟨e,he,by rw [hk,hq,hkq]⟩) hn.1
      subst hx
      exact ⟨0,by simp [Instr.findNow,Instr.sameNow,hk,bytes_beq],rfl⟩
    · have hs':Instr.sameNow .string (.string ⟨k.toArray⟩) x.key=some false:=by
        rw [hq]; simp [Instr.sameNow,bytes_beq,hkq]
      have hex:e∈r:=by
        rcases List.mem_cons.1 he with rfl | he
        · rw [hk] at hq; injection hq with hq; injection hq with hq
          exact absurd (by simpa using congrArg Array.toList hq) hkq
        · exact he
      obtain ⟨j,h1,h2⟩:=find_at (fun y hy=>hs y (by simp [hy])) (by simp only [List.map_cons,List.nodup_cons] at hn; exact hn.2) hex hk (i+1)
      refine ⟨j+1,?_,by simpa using h2⟩
      simp only [Instr.findNow,hs',h1]
      congr 3
      omega
theorem find_not {k:List UInt8}:∀ {ents:List MapEntry},(∀ x∈ents,∃ q:List UInt8,x.key=.string ⟨q.toArray⟩)→(∀ x∈ents,x.key ≠ .string ⟨k.toArray⟩)→∀ i:Nat,Instr.findNow .string (.string ⟨k.toArray⟩) ents i=some none
  | [],_,_,_=>rfl
  | x::r,hs,hn,i=>by
    obtain ⟨q,hq⟩:=hs x (by simp)
    have hkq:¬ k=q:=fun e=>hn x (by simp) (by rw [hq,e])
    have hs':Instr.sameNow .string (.string ⟨k.toArray⟩) x.key=some false:=by
      rw [hq]; simp [Instr.sameNow,bytes_beq,hkq]
    have ih:=find_not (ents:=r) (fun y hy=>hs y (List.mem_cons_of_mem _ hy)) (fun y hy=>hn y (List.mem_cons_of_mem _ hy)) (i+1)
    simp only [Instr.findNow,hs',ih]
theorem repM_str:∀ {es:List (List UInt8 × AV)} {ents:List MapEntry},RepM T w F es ents→∀ x∈ents,∃ q:List UInt8,x.key=.string ⟨q.toArray⟩
  | [],[],_,x,hx=>by simp at hx
  | (i,v)::r,e::s,h,x,hx=>by
    simp only [RepM] at h
    rcases List.mem_cons.1 hx with rfl | hx
    · exact ⟨i,h.1⟩
    · exact repM_str h.2.2 x hx
  | [],_::_,h,_,_=>by simp [RepM] at h
  | (_,_)::_,[],h,_,_=>by simp [RepM] at h
theorem repM_keys {k:List UInt8}:∀ {es:List (List UInt8 × AV)} {ents:List MapEntry},RepM T w F es ents→mfind es k=none→∀ x∈ents,x.key ≠ .string ⟨k.toArray⟩
  | [],[],_,_,x,hx=>by simp at hx
  | (i,v)::r,e::s,h,hn,x,hx=>by
    simp only [RepM] at h
    by_cases hk:k=i
    · simp [mfind,hk] at hn
    · simp only [mfind,if_neg hk] at hn
      rcases List.mem_cons.1 hx with rfl | hx
      · rw [h.1]; intro e2
        injection e2 with e2; injection e2 with e2
        exact hk (by simpa using (congrArg Array.toList e2).symm)
      · exact repM_keys h.2.2 hn x hx
  | [],_::_,h,_,_,_=>by simp [RepM] at h
  | (_,_)::_,[],h,_,_,_=>by simp [RepM] at h

theorem find_key {kt:TypeId} (hk:P.underlying kt=some .string) {k:List UInt8} {es:List (List UInt8 × AV)} {ents:List MapEntry} (h:RepMP T w F es ents) (hn:(ents.map (·.key)).Nodup) :
    (mfind es k=none∧(∀ x∈ents,x.key ≠ .string ⟨k.toArray⟩)∧(Instr.findKey kt (.string ⟨k.toArray⟩) ents).run P w=.ok none w) ∨
    ∃ j v u e,mfind es k=some v∧(Instr.findKey kt (.string ⟨k.toArray⟩) ents).run P w=.ok (some (j,u)) w∧Rep T w F noRho v u∧ents[j]? = some e∧e.key=.string ⟨k.toArray⟩:=by
  obtain ⟨l,hp,h⟩:=h
  have hs:∀ x∈ents,∃ q:List UInt8,x.key=.string ⟨q.toArray⟩:=fun x hx=>repM_str h x (hp.mem_iff.2 hx)
  rcases find_now (k:=k) h 0 with ⟨g1,g2⟩ | ⟨j,v,u,e,g1,g2,g3,g4,g5,_⟩
  · have hno:∀ x∈ents,x.key ≠ .string ⟨k.toArray⟩:=fun x hx=>repM_keys h g1 x (hp.mem_iff.2 hx)
    exact .inl ⟨g1,hno,by simp [Instr.findKey,rUnder hk,find_not hs hno 0]⟩
  · have hu:u=e.val:=by
      obtain ⟨j2,q1,q2⟩:=find_at (k:=k) (e:=e) (fun x hx=>repM_str h x hx) ((hp.map (·.key)).nodup_iff.2 hn) (List.mem_of_getElem? g4) g5 0
      rw [g2] at q1
      simp only [Option.some.injEq,Prod.mk.injEq] at q1
      exact q1.2
    obtain ⟨j2,q1,q2⟩:=find_at (k:=k) hs hn (hp.mem_iff.1 (List.mem_of_getElem? g4)) g5 0
    refine .inr ⟨j2,v,u,e,g1,?_,g3,q2,g5⟩
    simp only [Instr.findKey,Sem.run_bind,rUnder hk,Result.andThen_ok,q1,Nat.zero_add,Sem.run_pure,hu]

theorem check_key {kt:TypeId} (hk:P.underlying kt=some .string) (b:Bool) (s:ByteArray):(Instr.checkKey b 10000 kt (.string s)).run P w=.ok () w:=by
  rw [show (10000:Nat)=9999+1 from rfl,Instr.checkKey]
  simp only [Sem.run_bind,rUnder hk,Result.andThen_ok]
  rfl

theorem mset_rep {k:List UInt8} {v:AV} {u:Value} (hv:Rep T w F noRho v u):∀ {es:List (List UInt8 × AV)} {ents:List MapEntry},RepM T w F es ents →
    (mfind es k=none→∀ e:MapEntry,e.key=.string ⟨k.toArray⟩→e.val=u→RepM T w F (mset es k v) (ents++[e])) ∧
    (∀ z,mfind es k=some z→∃ (j:Nat) (e:MapEntry),ents[j]? = some e∧e.key=.string ⟨k.toArray⟩∧∀ f:MapEntry→MapEntry,(f e).val=u→(f e).key=.string ⟨k.toArray⟩→RepM T w F (mset es k v) (ents.modify j f))
  | [],[],_=>⟨fun _ e he hu=>by simp only [mset,List.nil_append,RepM]; exact ⟨he,by rw [hu]; exact hv,trivial⟩,fun z hf=>by simp [mfind] at hf⟩
  | (q,c)::r,e::s,h=>by
    simp only [RepM] at h
    obtain ⟨h1,h2,h3⟩:=h
    obtain ⟨m1,m2⟩:=mset_rep (k:=k) hv h3
    by_cases hkq:k=q
    · subst hkq
      refine ⟨fun hn=>by simp [mfind] at hn,fun z _=>⟨0,e,rfl,h1,fun f f1 f2=>?_⟩⟩
      simp only [mset,if_true,List.modify_zero_cons,RepM]
      exact ⟨f2,by rw [f1]; exact hv,h3⟩
    · refine ⟨fun hn e' he hu=>?_,fun z hz=>?_⟩
      · simp only [mfind,if_neg hkq] at hn
        simp only [mset,hkq,if_false,List.cons_append,RepM]
        exact ⟨h1,h2,m1 hn e' he hu⟩
      · simp only [mfind,if_neg hkq] at hz
        obtain ⟨j,e',q1,q2,q3⟩:=m2 z hz
        refine ⟨j+1,e',by simpa using q1,q2,fun f f1 f2=>?_⟩
        simp only [mset,hkq,if_false,List.modify_succ_cons,RepM]
        exact ⟨h1,h2,q3 f f1 f2⟩
  | [],_::_,h=>by simp [RepM] at h
  | (_,_)::_,[],h=>by simp [RepM] at h

theorem perm_out {α:Type} {l:List α} {i:Nat} {e:α} (h:l[i]? = some e):∃ a b,l=a++e::b∧a.length=i:=by
  have hi:i < l.length:=(List.getElem?_eq_some_iff.1 h).1
  refine ⟨l.take i,l.drop (i+1),?_,by simp; omega⟩
  have:l.drop i=e::l.drop (i+1):=by
    rw [List.drop_eq_getElem_cons hi]
    rw [(List.getElem?_eq_some_iff.1 h).2]
  rw [← this,List.take_append_drop]
theorem modify_at {α:Type} (f:α→α) (e:α) (b:List α):∀ a:List α,(a++e::b).modify a.length f=a++f e::b
  | []=>rfl
  | x::a=>by simp only [List.cons_append,List.length_cons,List.modify_succ_cons,modify_at f e b a]
theorem modify_perm {α:Type} {l m:List α} (hp:l.Perm m) {i j:Nat} {e:α} (h1:l[i]? = some e) (h2:m[j]? = some e) (f:α→α):(l.modify i f).Perm (m.modify j f):=by
  obtain ⟨a,b,rfl,rfl⟩:=perm_out h1
  obtain ⟨c,d,rfl,rfl⟩:=perm_out h2
  rw [modify_at,modify_at]
  have h3:(a++b).Perm (c++d):=List.Perm.cons_inv (a:=e) ((List.perm_middle.symm.trans hp).trans List.perm_middle)
  exact List.perm_middle.trans ((h3.cons (f e)).trans List.perm_middle.symm)
theorem RepM.perm:∀ {es es':List (List UInt8 × AV)},es.Perm es'→∀ {l:List MapEntry},RepM T w F es l→∃ l',l'.Perm l∧RepM T w F es' l':=by
  intro es es' hp
  induction hp with
  | nil=>intro l h; exact ⟨l,List.Perm.refl _,h⟩
  | cons x _ ih =>
    intro l h
    obtain ⟨k,v⟩:=x
    cases l with
    | nil=>simp [RepM] at h
    | cons e l =>
      simp only [RepM] at h
      obtain ⟨l',h1,h2⟩:=ih h.2.2
      exact ⟨e::l',h1.cons e,by simp only [RepM]; exact ⟨h.1,h.2.1,h2⟩⟩
  | swap x y r =>
    intro l h
    obtain ⟨k,v⟩:=x
    obtain ⟨k',v'⟩:=y
    match l,h with
    | [],h=>simp [RepM] at h
    | [_],h=>simp [RepM] at h
    | e::e'::l,h =>
      simp only [RepM] at h
      exact ⟨e'::e::l,List.Perm.swap _ _ _,by simp only [RepM]; exact ⟨h.2.2.1,h.2.2.2.1,h.1,h.2.1,h.2.2.2.2⟩⟩
  | trans _ _ ih1 ih2 =>
    intro l h
    obtain ⟨l1,h1,h2⟩:=ih1 h
    obtain ⟨l2,h3,h4⟩:=ih2 h2
    exact ⟨l2,h3.trans h1,h4⟩
theorem RepMP.perm {es es':List (List UInt8 × AV)} (hp:es.Perm es') {l:List MapEntry} (h:RepMP T w F es l):RepMP T w F es' l:=by
  obtain ⟨l1,h1,h2⟩:=h
  obtain ⟨l2,h3,h4⟩:=RepM.perm hp h2
  exact ⟨l2,h3.trans h1,h4⟩
theorem insS_perm {k:List UInt8} {v:AV}:∀ es:List (List UInt8 × AV),(es++[(k,v)]).Perm (insS es k v)
  | []=>List.Perm.refl _
  | (i,u)::r=>by
    simp only [insS]
    split
    · exact List.perm_append_comm
    · exact (insS_perm r).cons _
theorem mset_new {k:List UInt8} {v:AV}:∀ {es:List (List UInt8 × AV)},mfind es k=none→mset es k v=es++[(k,v)]
  | [],_=>rfl
  | (i,u)::r,h=>by
    simp only [mfind] at h
    split at h
    · simp at h
    · rename_i e
      simp only [mset,if_neg e,mset_new h,List.cons_append]

theorem ments_rep (I:Inv T w0 F0 n ⟨fr,hp⟩ a w F ρ) {p:AV} {v:Value} (hx:Rep T w F ρ p v) {es:List (List UInt8 × AV)} (he:ments hp p=some es) :
    (v=.map none∧es=[])∨∃ r ents clk,v=.map (some r)∧w.heap[r]? = some (.map ents clk)∧RepMP T w F es ents.toList∧Go.MapKept.Stamped ents clk:=by
  cases p <;> simp only [ments] at he <;> try (simp at he; done)
  case nilM=>simp at he; simp only [Rep] at hx; exact .inl ⟨hx,he⟩
  case mp es' =>
    simp at he; subst he
    simp only [Rep] at hx
    obtain ⟨r,ents,clk,h1,_,h3,h4⟩:=hx
    exact .inr ⟨r,ents,clk,h1,h3,h4⟩
  case mref id =>
    simp only [Rep] at hx
    obtain ⟨b,o1,hr,hv⟩:=hx
    cases hh:hlk hp id with
    | none=>simp [hh] at he
    | some ob =>
      cases ob with
      | mp es' =>
        simp [hh] at he; subst he
        obtain ⟨b',o',g1,_,_,_,g5⟩:=I.obj id _ hh
        rw [hr] at g1; injection g1 with g1; injection g1 with g1 g1'; subst g1
        obtain ⟨ents,clk,h3,h4⟩:=g5
        exact .inr ⟨b,ents,clk,hv,h3,h4⟩
      | cells cs=>simp [hh] at he
      | sit s q=>simp [hh] at he
      | mit q0 q1=>simp [hh] at he

theorem g_look (I:Inv T w0 F0 n ⟨fr,hp⟩ a w F ρ) {t kt et:TypeId} {x y:Operand} {ok:Bool} (ho:o.op=.lookup t x y ok) (ht:P.underlying t=some (.map kt et)) (hk:P.underlying kt=some .string) {z:AV} (hz:zeroT P T et=some z)
    {p q:AV} (hx:Rep T w F ρ p (a.eval x)) (hy:Rep T w F ρ q (a.eval y)) {es:List (List UInt8 × AV)} {s:List UInt8} (he:ments hp p=some es) (hs:asS q=some s) :
    Gives P T F ρ o a w (match mfind es s with | some v=>(if ok then .tup [v,.bool true] else v) | none=>(if ok then .tup [z,.bool false] else z)):=by
  obtain ⟨zv,i,hi,hv,hzr⟩:=zero_rep (w:=w) hz F ρ
  have hzero:(zeroValue et).run P w=.ok zv w:=rZero hi hv
  have hq:q=.str s:=by cases q <;> simp [asS] at hs; subst hs; rfl
  subst hq
  simp only [Rep] at hy
  have pack:∀ (v:AV) (u:Value) (b:Bool),Rep T w F ρ v u→Rep T w F ρ (if ok then .tup [v,.bool b] else v) (if ok then .tuple #[u,.bool b] else u):=by
    intro v u b h
    cases ok
    · simpa using h
    · simp only [if_true]; exact ⟨_,rfl,by simp [RepL,h,Rep]⟩
  rcases ments_rep I hx he with ⟨hv0,rfl⟩ | ⟨r,ents,clk,hv0,h3,h4⟩
  · refine ⟨_,?_,pack z zv false hzr⟩
    have hck:=check_key (P:=P) (w:=w) hk true ⟨s.toArray⟩
    simp only [execOp,ho,Instr.lookup,Sem.run_bind,rUnder ht,Result.andThen_ok,hv0,Sem.run_pure,hy]
    simp only [Array.isEmpty_empty,hck,Result.andThen_ok,Instr.findKey,Sem.run_bind,rUnder hk,Instr.findNow,Sem.run_pure,hzero]
  · have hck:=check_key (P:=P) (w:=w) hk ents.isEmpty ⟨s.toArray⟩
    have hget:(getObj r).run P w=.ok (.map ents clk) w:=by simp [getObj,Sem.run,h3]
    rcases find_key (P:=P) hk (k:=s) h4.1 h4.2.2.2 with ⟨g1,_,g2⟩ | ⟨j,v,u,e,g1,g2,g3,_,_⟩
    · rw [g1]
      refine ⟨_,?_,pack z zv false hzr⟩
      simp only [execOp,ho,Instr.lookup,Sem.run_bind,rUnder ht,Result.andThen_ok,hv0,hget,Sem.run_pure,hy,hck,g2,hzero]
    · rw [g1]
      refine ⟨_,?_,pack v u true (g3.up ρ)⟩
      simp only [execOp,ho,Instr.lookup,Sem.run_bind,rUnder ht,Result.andThen_ok,hv0,hget,Sem.run_pure,hy,hck,g2]

theorem same_key (k:List UInt8):Instr.sameBits 10000 (.string ⟨k.toArray⟩) (.string ⟨k.toArray⟩)=true:=by
  simp [Instr.sameBits,bytes_beq]

theorem s_mput (I:Inv T w0 F0 n ⟨fr,hp⟩ a w F ρ) (hd:dstOk n o.dst) {t kt et:TypeId} {x y z:Operand} (ho:o.op=.mapUpdate t x y z∨o.op=.insert t x y z) (ht:P.underlying t=some (.map kt et)) (hk:P.underlying kt=some .string)
    {id:Nat} {s:List UInt8} {v:AV} (hx:Rep T w F ρ (.mref id) (a.eval x)) (hy:Rep T w F ρ (.str s) (a.eval y)) {es:List (List UInt8 × AV)} (hid:hlk hp id=some (.mp es)) (hv:Rep T w F noRho v (a.eval z)) :
    OpRes P T w0 F0 n fr o a w ⟨.junk,hset hp id (.mp (mset es s v)),[]⟩:=by
  simp only [Rep] at hx hy
  obtain ⟨b,o1,hr,hxe⟩:=hx
  obtain ⟨b',o',g1,g2,g3,g4,g5⟩:=I.obj id _ hid
  rw [hr] at g1; injection g1 with g1; injection g1 with g1 g1'; subst g1; subst g1'
  obtain ⟨ents,clk,h3,h4,hst⟩:=g5
  have hget:(getObj b).run P w=.ok (.map ents clk) w:=by simp [getObj,Sem.run,h3]
  have hset':∀ ob:Obj,(setObj b ob).run P w=.ok () { w with heap:=w.heap.setIfInBounds b ob }:=by intro ob; simp [setObj,Sem.run,h3]
  have hck:=check_key (P:=P) (w:=w) hk false ⟨s.toArray⟩
  have step:∀ ob:Obj,(Instr.mapUpdate t (.map (some b)) (.string ⟨s.toArray⟩) (a.eval z)).run P w=.ok () { w with heap:=w.heap.setIfInBounds b ob }→(∃ ents' clk',ob=.map ents' clk'∧RepMP T w F (mset es s v) ents'.toList∧Go.MapKept.Stamped ents' clk') →
      OpRes P T w0 F0 n fr o a w ⟨.junk,hset hp id (.mp (mset es s v)),[]⟩:=by
    intro ob hrun ⟨ents',clk',hob,hrep,hst'⟩
    refine ⟨.skip,{ w with heap:=w.heap.setIfInBounds b ob },F,ρ,undef,?_,.inr ⟨rfl,rfl⟩,?_⟩
    · rcases ho with ho | ho <;> simp only [execOp,ho,Sem.run_bind,hxe,hy,hrun,Result.andThen_ok,Sem.run_pure]
    · have hbl:∀ k,k ≠ b→({ w with heap:=w.heap.setIfInBounds b ob }:World).heap[k]? = w.heap[k]? := by
        intro k hkb
        show (w.heap.setIfInBounds b ob)[k]? = _
        rw [Array.getElem?_setIfInBounds,if_neg (fun e=>hkb e.symm)]
      have J:=I.upd (w':={ w with heap:=w.heap.setIfInBounds b ob }) (x:=.mp (mset es s v)) hid hr rfl rfl rfl (by simp) hbl (fun c e f hc=>by rw [h3] at hc; simp at hc) (fun HF HR=>by
        refine ⟨ents',clk',?_,RepMP.mono HF hrep,hst'⟩
        show (w.heap.setIfInBounds b ob)[b]? = _
        rw [Array.getElem?_setIfInBounds,if_pos rfl,if_pos g3,hob])
      have:=J.val hd (x:=.junk) (v:=undef) (by simp [Rep])
      simpa [fin,killFs] using this
  obtain ⟨l,hp,h5⟩:=h4
  rcases find_key (P:=P) (w:=w) hk (k:=s) ⟨l,hp,h5⟩ hst.2.2 with ⟨k1,k0,k2⟩ | ⟨j,v',u,e,k1,k2,k3,k4,k5⟩
  · refine step (.map (ents.push { key:=.string ⟨s.toArray⟩,val:=a.eval z,born:=clk }) (clk+1)) ?_ ⟨_,_,rfl,?_,Go.MapKept.stamped_push hst k0⟩
    · simp only [Instr.mapUpdate,Sem.run_bind,rUnder ht,Result.andThen_ok,hget,hck,k2,hset']
    · rw [Array.toList_push]
      exact ⟨_,hp.append_right _,(mset_rep (k:=s) hv h5).1 k1 _ rfl rfl⟩
  · have hkey:(((ents[j]?).map (·.key)).getD (.string ⟨s.toArray⟩))=.string ⟨s.toArray⟩:=by
      have:ents[j]? = some e:=by rw [← k4]; simp
      rw [this]; simpa using k5
    refine step (.map (ents.modify j fun e=>{ e with key:=.string ⟨s.toArray⟩,val:=a.eval z }) clk) ?_ ⟨_,_,rfl,?_,Go.MapKept.stamped_modify hst j _ (fun _ _=>rfl) (fun e' _ hj=>by have:ents[j]? = some e:=by { rw [← k4]; simp }; rw [this] at hj; injection hj with hj; subst hj; exact k5.symm)⟩
    · simp only [Instr.mapUpdate,Sem.run_bind,rUnder ht,Result.andThen_ok,hget,hck,k2,hkey,Instr.keyThatStays,same_key,if_true,Sem.run_pure,hset']
    · rw [Array.toList_modify]
      obtain ⟨j2,e2,q1,q2,q3⟩:=(mset_rep (k:=s) hv h5).2 v' k1
      have he:e2=e:=entry_eq_of_key (List.pairwise_map.1 hst.2.2) (hp.mem_iff.1 (List.mem_of_getElem? q1)) (List.mem_of_getElem? k4) (q2.trans k5.symm)
      subst he
      exact ⟨_,modify_perm hp q1 k4 _,q3 _ rfl rfl⟩

theorem s_mputD (I:Inv T w0 F0 n ⟨fr,hp⟩ a w F ρ) (hd:dstOk n o.dst) {t kt et:TypeId} {x y z:Operand} (ho:o.op=.mapUpdate t x y z∨o.op=.insert t x y z) (ht:P.underlying t=some (.map kt et)) (hk:P.underlying kt=some .string)
    {id:Nat} {s:List UInt8} {v:AV} (hx:Rep T w F ρ (.mref id) (a.eval x)) (hy:Rep T w F ρ (.str s) (a.eval y)) {es:List (List UInt8 × AV)} (hid:hlk hp id=some (.mp es)) (hn:mfind es s=none) (hv:Rep T w F noRho v (a.eval z)) :
    OpRes P T w0 F0 n fr o a w ⟨.junk,hset hp id (.mp (insS es s v)),[]⟩:=by
  obtain ⟨nx,w',F',ρ',u,hrun,hnx,I'⟩:=s_mput I hd ho ht hk hx hy hid hv
  refine ⟨nx,w',F',ρ',u,hrun,hnx,?_⟩
  have hl:hlk (hset hp id (.mp (mset es s v))) id=some (.mp (mset es s v)):=hlk_hset_same hid
  have J:=I'.same (id:=id) (x:=.mp (mset es s v)) (y:=.mp (insS es s v)) (by simpa [fin,killFs] using hl) (fun b o h=>by
    obtain ⟨ents,clk,h1,h2,h3⟩:=h
    exact ⟨ents,clk,h1,RepMP.perm (by rw [mset_new hn]; exact insS_perm es) h2,h3⟩)
  have e:hset (hset hp id (.mp (mset es s v))) id (.mp (insS es s v))=hset hp id (.mp (insS es s v)):=hset_hset
  simpa [fin,killFs,e] using J

theorem s_nextS (I:Inv T w0 F0 n ⟨fr,hp⟩ a w F ρ) (hd:dstOk n o.dst) {x:Operand} (ho:o.op=.next x true) {id:Nat} (hx:Rep T w F ρ (.ref id 0) (a.eval x)) {s:List UInt8} {pos:Nat} (hid:hlk hp id=some (.sit s pos)) :
    (pos < s.length→OpRes P T w0 F0 n fr o a w ⟨.tup [.bool true,.int .i64 (pos:Int),.int .i32 ((decR (s.drop pos)).1:Int)],hset hp id (.sit s (pos+(decR (s.drop pos)).2)),[]⟩) ∧
    (¬ pos < s.length→OpRes P T w0 F0 n fr o a w ⟨.tup [.bool false],hp,[]⟩):=by
  simp only [Rep] at hx
  obtain ⟨b,o1,hr,hxe⟩:=hx
  obtain ⟨b',o',g1,g2,g3,g4,g5⟩:=I.obj id _ hid
  rw [hr] at g1; injection g1 with g1; injection g1 with g1 g1'; subst g1; subst g1'
  obtain ⟨h0,h3⟩:=g5
  subst h0
  have hget:(getObj b).run P w=.ok (.stringIter ⟨s.toArray⟩ pos) w:=by simp [getObj,Sem.run,h3]
  have hset':∀ ob:Obj,(setObj b ob).run P w=.ok () { w with heap:=w.heap.setIfInBounds b ob }:=by intro ob; simp [setObj,Sem.run,h3]
  constructor
  · intro hlt
    refine ⟨.value (.tuple #[.bool true,goInt pos,.int .i32 ((decR (s.drop pos)).1:Int)]),{ w with heap:=w.heap.setIfInBounds b (.stringIter ⟨s.toArray⟩ (pos+(decR (s.drop pos)).2)) },F,ρ,_,?_,.inl rfl,?_⟩
    · simp only [execOp,ho,Instr.next,hxe,Sem.run_bind,hget,Result.andThen_ok,bytes_size,hlt,if_true,decode_drop,hset',Sem.run_pure]
    · have hbl:∀ k,k ≠ b→({ w with heap:=w.heap.setIfInBounds b (.stringIter ⟨s.toArray⟩ (pos+(decR (s.drop pos)).2)) }:World).heap[k]? = w.heap[k]? := by
        intro k hkb
        show (w.heap.setIfInBounds b _)[k]? = _
        rw [Array.getElem?_setIfInBounds,if_neg (fun e=>hkb e.symm)]
      have J:=I.upd (w':={ w with heap:=w.heap.setIfInBounds b (.stringIter ⟨s.toArray⟩ (pos+(decR (s.drop pos)).2)) }) (x:=.sit s (pos+(decR (s.drop pos)).2)) hid hr rfl rfl rfl (by simp) hbl (fun c e f hc=>by rw [h3] at hc; simp at hc) (fun HF HR=>by
        refine ⟨rfl,?_⟩
        show (w.heap.setIfInBounds b _)[b]? = _
        rw [Array.getElem?_setIfInBounds,if_pos rfl,if_pos g3])
      have:=J.val hd (x:=.tup [.bool true,.int .i64 (pos:Int),.int .i32 ((decR (s.drop pos)).1:Int)]) (v:=.tuple #[.bool true,goInt pos,.int .i32 ((decR (s.drop pos)).1:Int)]) ⟨_,rfl,by simp [RepL,Rep,goInt]⟩
      simpa [fin,killFs] using this
  · intro hlt
    refine res_just I hd (u:=.tuple #[.bool false]) ?_ ⟨_,rfl,by simp [RepL,Rep]⟩
    simp only [execOp,ho,Instr.next,hxe,Sem.run_bind,hget,Result.andThen_ok,bytes_size,hlt,if_false,Sem.run_pure]

theorem RepM.split {e:MapEntry} {l2:List MapEntry}:∀ {l1:List MapEntry} {rem:List (List UInt8 × AV)},RepM T w F rem (l1++e::l2)→∃ pre k v post,rem=pre++(k,v)::post∧RepM T w F (pre++post) (l1++l2)∧e.key=.string ⟨k.toArray⟩∧Rep T w F noRho v e.val
  | [],[],h=>by simp [RepM] at h
  | [],(k,v)::post,h=>by
    simp only [List.nil_append,RepM] at h
    exact ⟨[],k,v,post,rfl,h.2.2,h.1,h.2.1⟩
  | _::l1,[],h=>by simp [RepM] at h
  | y::l1,(k0,v0)::rem,h=>by
    simp only [List.cons_append,RepM] at h
    obtain ⟨pre,k,v,post,e1,h2,h3,h4⟩:=RepM.split h.2.2
    exact ⟨(k0,v0)::pre,k,v,post,by rw [e1]; rfl,by simp only [List.cons_append,RepM]; exact ⟨h.1,h.2.1,h2⟩,h3,h4⟩

theorem filter_push {ents:Array MapEntry} {seen:Array Nat} {e:MapEntry} {l1 l2:List MapEntry} (hn:(ents.toList.map (·.born)).Nodup) (hl:(leftOf ents seen).toList=l1++e::l2):(leftOf ents (seen.push e.born)).toList=l1++l2:=by
  have e1:(leftOf ents (seen.push e.born)).toList=(leftOf ents seen).toList.filter (fun x => !(x.born == e.born)):=by
    simp only [leftOf,Array.toList_filter,List.filter_filter]
    congr 1
    funext x
    simp only [Array.contains_push]
    cases seen.contains x.born <;> cases h:(x.born == e.born) <;> simp_all
  rw [e1,hl]
  have hnd:((leftOf ents seen).toList.map (·.born)).Nodup:=by
    simp only [leftOf,Array.toList_filter]
    exact hn.sublist (List.Sublist.map _ List.filter_sublist)
  rw [hl] at hnd
  simp only [List.map_append,List.map_cons,List.nodup_append,List.nodup_cons,List.mem_map,List.mem_cons] at hnd
  obtain ⟨h1,⟨h2,h3⟩,h4⟩:=hnd
  have f1:l1.filter (fun x => !(x.born == e.born))=l1:=by
    rw [List.filter_eq_self]
    intro x hx
    have:=h4 x.born ⟨x,hx,rfl⟩ e.born (.inl rfl)
    simpa using this
  have f2:l2.filter (fun x => !(x.born == e.born))=l2:=by
    rw [List.filter_eq_self]
    intro x hx
    have:x.born ≠ e.born:=fun h=>h2 ⟨x,hx,h⟩
    simpa using this
  rw [List.filter_append,List.filter_cons,f1,f2]
  simp

theorem s_nextM (I:Inv T w0 F0 n ⟨fr,hp⟩ a w F ρ) (hd:dstOk n o.dst) {x:Operand} (ho:o.op=.next x false) {id:Nat} (hx:Rep T w F ρ (.ref id 0) (a.eval x)) {rem:List (List UInt8 × AV)} {cur:Option (List UInt8 × AV)} (hid:hlk hp id=some (.mit rem cur)) :
    (rem=[]∧OpRes P T w0 F0 n fr o a w ⟨.tup [.bool false],hp,[]⟩) ∨
    ∃ pre k v post,rem=pre++(k,v)::post∧OpRes P T w0 F0 n fr o a w ⟨.tup [.bool true,.str k,v],hset hp id (.mit (pre++post) (some (k,v))),[]⟩:=by
  simp only [Rep] at hx
  obtain ⟨b,o1,hr,hxe⟩:=hx
  obtain ⟨b',o',g1,g2,g3,g4,g5⟩:=I.obj id _ hid
  rw [hr] at g1; injection g1 with g1; injection g1 with g1 g1'; subst g1; subst g1'
  obtain ⟨h0,r,since,seen,last,ents,clk,h1,h2,h3,h4,h5,h6,h7,⟨l,hp8,h8⟩,_⟩:=g5
  subst h0
  rcases run_next_at (P:=P) w o.type b r since last seen ents clk h1 h3 h5 h6 with ⟨k0,k1⟩ | ⟨e,he,w1,hal,k1⟩
  · left
    have hl:(leftOf ents seen).toList=[]:=by
      cases hh:(leftOf ents seen).toList with
      | nil=>rfl
      | cons y q=>rw [← Array.length_toList,hh] at k0; simp at k0
    rw [hl] at hp8
    have hl0:l=[]:=hp8.eq_nil
    subst hl0
    refine ⟨?_,res_just I hd (u:=.tuple #[.bool false]) ?_ ⟨_,rfl,by simp [RepL,Rep]⟩⟩
    · cases rem with
      | nil=>rfl
      | cons y q=>obtain ⟨_,_⟩:=y; simp [RepM] at h8
    · have hxe':a.eval x=.pointer (some ⟨b,0,none⟩):=hxe
      simp only [execOp,ho,hxe',Sem.run_bind,k1,Result.andThen_ok,Sem.run_pure]
  · right
    obtain ⟨l1,l2,hl⟩:=List.append_of_mem he
    obtain ⟨m1,m2,hm⟩:=List.append_of_mem (hp8.mem_iff.2 he)
    rw [hl] at hp8
    rw [hm] at h8 hp8
    have hp9:(m1++m2).Perm (l1++l2):=List.Perm.cons_inv (a:=e) ((List.perm_middle.symm.trans hp8).trans List.perm_middle)
    obtain ⟨pre,k,v,post,e1,h9,h10,h11⟩:=RepM.split h8
    refine ⟨pre,k,v,post,e1,?_⟩
    have hxe':a.eval x=.pointer (some ⟨b,0,none⟩):=hxe
    have hr1:w1.heap[b]? = some (.mapIter (some r) since seen last):=by rcases hal with rfl | rfl <;> exact h1
    have hw1:w1.os=w.os∧w1.tape=w.tape∧w1.output=w.output∧w1.heap=w.heap:=by rcases hal with rfl | rfl <;> exact ⟨rfl,rfl,rfl,rfl⟩
    have hst:(ChangeMaps.setBlock w1 b (.mapIter (some r) since (seen.push e.born) clk)).heap[b]? = some (.mapIter (some r) since (seen.push e.born) clk)∧∀ r',r' ≠ b→(ChangeMaps.setBlock w1 b (.mapIter (some r) since (seen.push e.born) clk)).heap[r']? = w1.heap[r']? := MapKept.heap_set hr1
    generalize hW:ChangeMaps.setBlock w1 b (.mapIter (some r) since (seen.push e.born) clk)=W at k1 hst
    have hrun:(execOp a.eval o).run P w=.ok (.value (.tuple #[.bool true,e.key,e.val])) W:=by
      simp only [execOp,ho,hxe',Sem.run_bind,k1,Result.andThen_ok,Sem.run_pure]
    have hbl:∀ k,k ≠ b→W.heap[k]? = w.heap[k]? := fun k hk=>(hst.2 k hk).trans (by rw [hw1.2.2.2])
    have HF:FExt w W F F:=fun k h=>⟨h,hbl k (fun e=>g4 (e ▸ h))⟩
    have J:=I.upd (w':=W) (x:=.mit (pre++post) (some (k,v))) hid hr (by subst hW; exact hw1.1) (by subst hW; exact hw1.2.1) (by subst hW; exact hw1.2.2.1) (by subst hW; simp [ChangeMaps.setBlock,hw1.2.2.2]) hbl (fun c e f hc=>by rw [h1] at hc; simp at hc) (fun HF _ =>
      ⟨rfl,r,since,seen.push e.born,clk,ents,clk,hst.1,h2,by rw [(HF r h2).2]; exact h3,h4,h5,h7,h7,by rw [filter_push h4.2.1 hl]; exact ⟨_,hp9,RepM.mono HF _ _ h9⟩,fun k0 v0 e0=>by
        simp only [Option.some.injEq,Prod.mk.injEq] at e0
        obtain ⟨rfl,rfl⟩:=e0
        exact ⟨rfl,e,(mem_left he).1,seen,rfl,h10,Rep.mono HF noRho noRho ⟨fun _ _ _ h=>h,fun _ _ _ _ _ _ _ h=>by simp [noRho] at h⟩ _ _ h11⟩⟩)
    have hv:Rep T W F ρ v e.val:=Rep.mono HF noRho ρ ⟨fun _ _ _ h=>by simp [noRho] at h,fun _ _ _ _ _ _ _ h=>by simp [noRho] at h⟩ v _ h11
    have:=J.val hd (x:=.tup [.bool true,.str k,v]) (v:=.tuple #[.bool true,e.key,e.val]) ⟨_,rfl,by simp [RepL,Rep,h10,hv]⟩
    exact ⟨_,W,F,ρ,_,hrun,.inl rfl,by simpa [fin,killFs] using this⟩

theorem s_entry (I:Inv T w0 F0 n ⟨fr,hp⟩ a w F ρ) (hd:dstOk n o.dst) {x:Operand} (ho:o.op=.entry x) {id:Nat} (hx:Rep T w F ρ (.ref id 0) (a.eval x)) {rem:List (List UInt8 × AV)} {k:List UInt8} {v:AV} (hid:hlk hp id=some (.mit rem (some (k,v)))) :
    OpRes P T w0 F0 n fr o a w ⟨.tup [.str k,v],hp,[]⟩:=by
  simp only [Rep] at hx
  obtain ⟨b,o1,hr,hxe⟩:=hx
  obtain ⟨b',o',g1,g2,g3,g4,g5⟩:=I.obj id _ hid
  rw [hr] at g1; injection g1 with g1; injection g1 with g1 g1'; subst g1; subst g1'
  obtain ⟨h0,r,since,seen,last,ents,clk,h1,h2,h3,h4,h5,h6,h7,h8,h9⟩:=g5
  subst h0
  obtain ⟨k1,e,k2,s0,k3,k4,k5⟩:=h9 k v rfl
  subst k1; subst k3
  have hxe':a.eval x=.pointer (some ⟨b,0,none⟩):=hxe
  have hrun:=run_entry_at (P:=P) w b r since s0 ents last e h1 h3 k2 h4.2.1
  refine res_just I hd (u:=.tuple #[e.key,e.val]) ?_ ⟨_,rfl,by simp [RepL,Rep,k4,k5.up ρ]⟩
  simp only [execOp,ho,hxe',Sem.run_bind,hrun,Result.andThen_ok,Sem.run_pure]

theorem src_of (I:Inv T w0 F0 n ⟨fr,hp⟩ a w F ρ) {tx:TypeId} (hk:(∃ e',P.underlying tx=some (.slice e'))∨P.underlying tx=some .string) {es:Nat} {p:AV} {v:Value} (hx:Rep T w F ρ p v) {cs:List AV} {k:Nat} (hc:slCells hp p=some cs) (hkc:ycount es p=some k) (hat:atoms cs=true) :
    (∃ news,Src P es tx v k news w∧RepL T w F ρ cs news)∧(k=0→cs=[]):=by
  have ones:∀ {cs:List AV} {us:List Value},RepL T w F ρ cs us→atoms cs=true→∀ u∈us,u.oneCell'=true:=by
    intro cs us h hat
    exact (cells_rep (x:=.agg cs) (v:=.agg us.toArray) ⟨_,rfl,by simpa using h⟩ hat).2 |> fun h u hu=>h u (by simpa [Value.cells] using hu)
  by_cases hs:∃ s,p=.str s
  · obtain ⟨s,rfl⟩:=hs
    simp only [slCells,Option.some.injEq] at hc
    subst hc
    simp only [ycount] at hkc
    split at hkc
    · rename_i h1
      subst h1
      simp at hkc; subst hkc
      simp only [Rep] at hx
      subst hx
      have e1:byteCells ⟨s.toArray⟩=bcV s:=by simp [byteCells,bcV]
      refine ⟨⟨bcV s,⟨hk,fun w'=>?_,?_,?_,?_,?_⟩,bytes_cells s ρ⟩,fun h=>by rw [List.length_eq_zero_iff.1 h]; rfl⟩
      · simp [Builtin.lenOf,bytes_size]
      · have:=firstCells_string (P:=P) ⟨s.toArray⟩ w
        rwa [bytes_size,e1] at this
      · have:=firstCells_string (P:=P) ⟨s.toArray⟩ w.drew
        rwa [bytes_size,e1] at this
      · simp [bcV]
      · exact ones (bytes_cells s ρ) hat
    · simp at hkc
  · rcases slCells_rep I hx (fun s e=>hs ⟨s,e⟩) hc with ⟨hv,rfl⟩ | ⟨b,off,len,cap,us,hv,hcap,h1,h2,h3⟩
    · refine ⟨⟨[],?_,by simp [RepL]⟩,fun _=>rfl⟩
      have hk0:k=0:=by
        rcases hv with hv | ⟨ad,cp,hv⟩
        all_goals cases p <;> simp only [Rep] at hx <;> simp only [ycount] at hkc <;> first
          | (simp at hkc; exact hkc.symm)
          | (rw [hv] at hx; simp at hx; done)
          | (split at hkc
             · simp at hkc
               rcases hx with ⟨_,_,_,hx,_⟩ | ⟨rfl,_⟩
               · rw [hv] at hx; simp at hx; try omega
               · simp at hkc; exact hkc.symm
             · simp at hkc)
          | (split at hkc
             · simp at hkc
               obtain ⟨_,_,_,_,_,_,_,_,hx,_⟩:=hx; rw [hv] at hx; simp at hx; omega
             · simp at hkc)
          | (obtain ⟨_,_,_,hx,_⟩:=hx; rw [hv] at hx; simp at hx; done)
          | (obtain ⟨_,_,_,_,_,_,_,_,hx,_⟩:=hx; rw [hv] at hx; simp at hx; done)
          | (simp at hkc; done)
      subst hk0
      rcases hv with rfl | ⟨ad,cp,rfl⟩
      · exact ⟨hk,fun _=>rfl,run_firstCells_none w es 0 0 0,run_firstCells_none w.drew es 0 0 0,by simp,by simp⟩
      · exact ⟨hk,fun _=>rfl,run_firstCells_some w es 0 ad 0 cp [] (by simp) (fun j v hj=>by simp at hj),run_firstCells_some w.drew es 0 ad 0 cp [] (by simp) (fun j v hj=>by simp at hj),by simp,by simp⟩
    · have hlen:len=k∧cs.length=k * es:=by
        rcases h3 with ⟨es',xs,rfl,hl,hq⟩ | ⟨id,es',off',rfl,hq⟩
        · simp only [ycount] at hkc
          split at hkc
          · rename_i e; subst e; simp at hkc; exact ⟨by omega,by rw [hq,hl,hkc]⟩
          · simp at hkc
        · simp only [ycount] at hkc
          split at hkc
          · rename_i e; subst e; simp at hkc; exact ⟨hkc,by rw [hq,hkc]⟩
          · simp at hkc
      obtain ⟨rfl,hcl⟩:=hlen
      have hul:us.length=len * es:=by have:=h2.length; omega
      subst hv
      refine ⟨⟨us,⟨hk,fun _=>rfl,run_firstCells_some w es len _ len cap us hul (fun j v hj=>by rw [addr_add]; exact h1 j v hj),run_firstCells_some w.drew es len _ len cap us hul (fun j v hj=>by rw [addr_add]; exact h1 j v hj),hul,ones h2 hat⟩,h2⟩,fun h0=>?_⟩
      exact List.length_eq_zero_iff.1 (by rw [hcl,h0,Nat.zero_mul])
end
end Wax


namespace Wax
open Go Go.RowKit

section
variable {P:Program} {T:Tab} {w0 w:World} {F0:Base} {n:Nat} {fr:List (Nat × AV)} {hp:List (Nat × AObj)} {a:Act} {F:Frz} {ρ:Rho} {o:Oper}

theorem run_app_call {c:Call} (ho:o.op=.call c) (hc:c.callee=.builtin .append) {x y:Operand} (hargs:c.args = #[x,y]) {t tx:TypeId} (hts:c.argTypes = #[t,tx]) {u:Value} {w':World}
    (hrun:(Builtin.append_ #[t,tx] o.type #[a.eval x,a.eval y]).run P w=.ok u w'):(execOp a.eval o).run P w=.ok (.value u) w':=by
  simp [execOp,ho,Go.resolve,hc,hargs,hts,invoke,builtin,hrun]

theorem fin_two (fr:List (Nat × AV)) (hp:List (Nat × AObj)) (dst:Option Nat) (v:AV) (x:AObj) (id d:Nat) :
    fin fr dst ⟨v,(d,x)::killH d (killH id hp),[id,d]⟩=⟨putS (killF d (killF id fr)) dst v,(d,x)::killH d (killH id hp)⟩:=rfl

theorem grow_fits {need bytes cap:Nat} (h:cap < need) (hb:(need+1) * (bytes+1) < 35184372088832):Builtin.nextslicecap need cap * bytes≤281474976710656:=by
  refine growslice_fits h ?_
  have:need * bytes≤(need+1) * (bytes+1):=Nat.mul_le_mul (by omega) (by omega)
  omega

theorem need_small {need bytes:Nat} (hb:(need+1) * (bytes+1) < 35184372088832):((need:Nat):Int)≤9223372036854775807:=by
  have:need≤(need+1) * (bytes+1):=Nat.le_trans (Nat.le_succ _) (Nat.le_mul_of_pos_right _ (by omega))
  omega

theorem Inv.rext (I:Inv T w0 F0 n ⟨fr,hp⟩ a w F ρ) {w':World} (hb:Below w.heap.size w w') (d b o:Nat):RExt w w' ρ (setRho ρ d (b,o)) (fun id=>id ≠ d) :=
  ⟨fun id p hne h=>by simpa [setRho,hne] using h,fun id b' o' c e f _ hr' hc=>by
    obtain ⟨x,hx⟩:=I.dom id _ hr'
    obtain ⟨b1,o1,g1,_,g3,_⟩:=I.obj id x hx
    rw [hr'] at g1; injection g1 with g1; injection g1 with g1 g1'; subst g1
    exact ⟨c,e,f,by rw [hb.block _ g3]; exact hc,Nat.le_refl _⟩⟩

theorem s_app (I:Inv T w0 F0 n ⟨fr,hp⟩ a w F ρ) (hd:dstOk n o.dst) {c:Call} (ho:o.op=.call c) (hc:c.callee=.builtin .append) {x y:Operand} (hargs:c.args = #[x,y]) {t tx e:TypeId} (hts:c.argTypes = #[t,tx])
    (ht:P.underlying t=some (.slice e)) {i:TypeInfo} (hi:P.info? e=some i) {zv:Value} (hzv:i.zero=some zv) (hzs:zv.cells.size=i.size) (hk:(∃ e',P.underlying tx=some (.slice e'))∨P.underlying tx=some .string)
    {p q:AV} (hx:Rep T w F ρ p (a.eval x)) (hy:Rep T w F ρ q (a.eval y)) {ys:List AV} {k:Nat} (hys:slCells hp q=some ys) (hkc:ycount i.size q=some k) {d:Nat} (hdk:d < 1000000) {out:Out} (hout:aapp hp d i.size i.bytes p ys k=some out) :
    OpRes P T w0 F0 n fr o a w out:=by
  simp only [aapp] at hout
  by_cases hk0:k=0
  · subst hk0
    simp only [if_true] at hout
    split at hout
    · rename_i hh
      simp only [Bool.and_eq_true] at hh
      obtain ⟨hsl,hat⟩:=hh
      obtain ⟨⟨news,hs,hr⟩,hnil⟩:=src_of I hk hy hys hkc hat
      simp only [just,Option.some.injEq] at hout
      subst hout
      have go:∀ base len cap,a.eval x=.slice base len cap→len≤cap→(execOp a.eval o).run P w=.ok (.value (a.eval x)) w:=by
        intro base len cap hv hle
        have hn:news=[]:=List.length_eq_zero_iff.1 (by rw [hs.newsLen,Nat.zero_mul])
        subst hn
        have:=run_append_nothing (P:=P) w t tx o.type e i ht hi base len cap hle (a.eval y) hs
        rw [← hv] at this
        exact run_app_call ho hc hargs hts this
      cases p <;> simp only [isSl] at hsl <;> try (simp at hsl; done)
      · have hx':=hx
        simp only [Rep] at hx'
        exact res_just I hd (go _ _ _ hx' (Nat.le_refl _)) hx
      · have hx':=hx
        simp only [Rep] at hx'
        rcases hx' with ⟨b,off,cap,hv,hle,_⟩ | ⟨_,b,cap,hv⟩
        · exact res_just I hd (go _ _ _ hv hle) hx
        · exact res_just I hd (go _ _ _ hv (Nat.zero_le _)) hx
      · have hx':=hx
        simp only [Rep] at hx'
        obtain ⟨b,off,y,cap,_,_,_,_,hv,hle,_⟩:=hx'
        exact res_just I hd (go _ _ _ hv hle) hx
    · simp at hout
  · simp only [hk0,if_false] at hout
    split at hout
    · rename_i hat
      obtain ⟨⟨news,hs,hr⟩,_⟩:=src_of I hk hy hys hkc hat
      have hnl:=hs.newsLen
      -- a new row: old cells,new ones,room
      have grow:∀ (base:Option Addr) (m cap0:Nat) (olds:List Value) (os:List AV),a.eval x=.slice base m cap0→cap0 < m+k→(m+k+1) * (i.bytes+1) < 35184372088832→olds.length=m * i.size →
          (Builtin.firstCells i.size m (.slice base m cap0)).run P w.drew=.ok olds.toArray w.drew→RepL T w F ρ os olds →
          ∃ (cap:Nat) (post:List Value) (w':World),(execOp a.eval o).run P w=.ok (.value (.slice (some ⟨w.heap.size,0,none⟩) (m+k) cap)) w'∧Row w w' ((olds++news)++post)∧m+k≤cap∧((olds++news)++post).length=cap * i.size:=by
        intro base m cap0 olds os hv hlt hfit hol hold _
        have hrun:=run_append_grow_src (P:=P) w t tx o.type e i zv ht hi hzv base m cap0 olds hold (a.eval y) k news hs hlt (need_small hfit) (grow_fits hlt hfit)
        rw [← hv] at hrun
        obtain ⟨cap,hcap⟩:∃ cap,cap=grownCap w (m+k) cap0 e:=⟨_,rfl⟩
        have hge:m+k≤cap:=hcap ▸ grownCap_ge w (m+k) cap0 e
        rw [← hcap] at hrun
        obtain ⟨post,hpost⟩:∃ post:List Value,Builtin.zeroCells zv.cells (cap - (m+k))=post.toArray:=⟨_,(Array.toArray_toList).symm⟩
        have hpl:post.length=(cap - (m+k)) * i.size:=by
          have:post.length=(Builtin.zeroCells zv.cells (cap - (m+k))).size:=by rw [hpost]; simp
          rw [this]; simp [Builtin.zeroCells,hzs]
        have harr:(olds++news).toArray++Builtin.zeroCells zv.cells (cap - (m+k))=((olds++news)++post).toArray:=by rw [hpost]; simp
        rw [harr] at hrun
        refine ⟨cap,post,_,run_app_call ho hc hargs hts hrun,(Row.alloc w.drew ((olds++news)++post) e).drew,hge,?_⟩
        rw [List.length_append,List.length_append,hol,hnl,hpl,← Nat.add_mul,← Nat.add_mul]
        congr 1
        omega
      cases p <;> simp only [aappN] at hout <;> try (simp at hout; done)
      case nilS =>
        simp only [Rep] at hx
        split at hout
        · rename_i hfit
          simp only [made,Option.some.injEq] at hout
          subst hout
          obtain ⟨cap,post,w',hrun,R,hge,hlen⟩:=grow none 0 0 [] [] hx (by omega) (by rw [Nat.zero_add]; exact hfit) (by simp) (run_firstCells_none w.drew i.size 0 0 0) (by simp [RepL])
          rw [Nat.zero_add] at hrun hge
          have hb:=R.below
          refine res_row I hd R (d:=d) hdk (cs:=killL d ys) (vs:=news) (post:=post) (by simp) (RepL.kill d (fun b h=>⟨h,hb.block b (I.lt b h)⟩) ρ _ (I.rext hb d _ _) _ _ hr) hrun ?_
          obtain ⟨e',f',hrow⟩:=R.row
          exact rep_msl hge hrow (by rw [List.size_toArray,hlen]; exact Nat.le_refl _)
        · simp at hout
      case msl id es off m =>
        simp only [Rep] at hx
        obtain ⟨b,o1,x0,cap0,c0,e0,f0,hr0,hv,hle,hblk,hsz⟩:=hx
        cases hh:hlk hp id with
        | none=>simp [hh,aappM] at hout
        | some ob =>
          cases ob with
          | mp es'=>simp [hh,aappM] at hout
          | sit s q'=>simp [hh,aappM] at hout
          | mit q0 q1=>simp [hh,aappM] at hout
          | cells cs =>
            simp only [hh,aappM] at hout
            split at hout
            · rename_i hcnd
              obtain ⟨hes,hoff,hfit⟩:=hcnd
              subst hes
              simp only [Option.some.injEq] at hout
              subst hout
              obtain ⟨b',o',g1,g2,g3,g4,g5⟩:=I.obj id _ hh
              rw [hr0] at g1; injection g1 with g1; injection g1 with g1 g1'; subst g1; subst g1'
              obtain ⟨pre,vs,post0,e1,f1,h1,h2,h3,h4⟩:=g5
              rw [hblk] at h1; injection h1 with h1; injection h1 with c1 c2 c3; subst c1; subst c2; subst c3
              have hvl:=h3.length
              obtain ⟨olds,holds⟩:∃ olds,olds=(vs.drop off).take (m * i.size):=⟨_,rfl⟩
              have hol:olds.length=m * i.size:=by rw [holds,List.length_take,List.length_drop]; omega
              have hor:RepL T w F ρ ((cs.drop off).take (m * i.size)) olds:=holds ▸ (h3.drop off).take _
              have J:=I.drop id
              have hfree:∀ id' o',(fun id'=>if id'=id then none else ρ id') id' ≠ some (b,o'):=by
                intro id' o' h
                by_cases e:id'=id
                · simp [e] at h
                · simp only [e,if_false] at h; exact e (I.inj id' id b o' _ h hr0)
              have hb0:w0.heap.size≤b∨F0.bor b:=g2
              have killed:∀ {w':World},FExt w w' F F→RExt w w' (fun id'=>if id'=id then none else ρ id') (setRho (fun id'=>if id'=id then none else ρ id') d (w'.heap.size,0)) (fun id=>id ≠ d)→True:=fun _ _=>trivial
              have hall:RepL T w F (fun id'=>if id'=id then none else ρ id') (killL id ((cs.drop off).take (m * i.size)++ys)) (olds++news) :=
                RepL.kill id (fun b h=>⟨h,rfl⟩) ρ _ ⟨fun id' p hne h=>by simpa [hne] using h,fun _ _ _ c e f _ _ hc=>⟨c,e,f,hc,Nat.le_refl _⟩⟩ _ _ (hor.app hr)
              by_cases hroom:m+k≤cap0
              · rcases hsz with hz | ⟨hx0,hcap⟩
                · omega
                · subst hx0
                  have hnlen:news.length=k * i.size:=hnl
                  have hcs:o1+off+m * i.size+news.length≤(pre++(vs++post0)).length:=by
                    have e4:(m+k) * i.size≤cap0 * i.size:=Nat.mul_le_mul_right _ hroom
                    rw [Nat.add_mul] at e4
                    simp only [List.size_toArray] at hcap
                    omega
                  have hsome:∀ j,j < news.length→(w.cell? ⟨b,o1+off+m * i.size+j,none⟩).isSome=true:=by
                    intro j hj
                    simp only [World.cell?,hblk]
                    simp only [Option.isSome_none,Bool.false_eq_true,if_false,List.getElem?_toArray]
                    rw [List.getElem?_eq_getElem (by omega)]
                    rfl
                  have hfz:∀ j,j < news.length→w.frozen? ⟨b,o1+off+m * i.size+j,none⟩=false:=fun j hj=>h4.1 _ (by omega)
                  have hrun:=run_append_room_src (P:=P) w t tx o.type e i ht hi b (o1+off) m cap0 (a.eval y) k news hs hroom hsome hfz
                  rw [← hv] at hrun
                  obtain ⟨k1,k2,k3,k4,k5,k6⟩:=setCells_spliceV b news (o1+off+m * i.size) w (pre++(vs++post0)) e0 f0 hblk
                  have hsp:∃ post1,spliceV (pre++(vs++post0)) (o1+off+m * i.size) news=(pre++vs.take off)++((olds++news)++post1):=by
                    have key:∀ (us l:List Value) (j:Nat),j+us.length≤l.length→spliceV l j us=l.take j++(us++l.drop (j+us.length)):=by
                      intro us
                      induction us with
                      | nil=>intro l j hj; simp [spliceV]
                      | cons u r ih =>
                        intro l j hj
                        simp only [List.length_cons] at hj
                        rw [spliceV,ih _ _ (by simp; omega)]
                        rw [List.take_set,List.drop_set_of_lt (by omega)]
                        have e5:(l.take (j+1)).set j u=l.take j++[u]:=by
                          apply List.ext_getElem?
                          intro q
                          by_cases hq:q < j
                          · rw [List.getElem?_set_ne (by omega),List.getElem?_append_left (by simp; omega),List.getElem?_take_of_lt (by omega),List.getElem?_take_of_lt hq]
                          · by_cases hq2:q=j
                            · subst hq2
                              rw [List.getElem?_set_self (by rw [List.length_take]; omega),List.getElem?_append_right (by rw [List.length_take]; omega),show q - (l.take q).length=0 by rw [List.length_take]; omega]
                              rfl
                            · have hq3:j+1≤q:=by omega
                              rw [List.getElem?_set_ne (by omega),List.getElem?_eq_none (by rw [List.length_take]; omega),List.getElem?_eq_none (by rw [List.length_append,List.length_take,List.length_singleton]; omega)]
                        rw [e5]
                        simp only [List.length_cons,List.append_assoc,List.cons_append,List.nil_append]
                        congr 3
                        congr 1
                        omega
                    rw [key _ _ _ hcs]
                    refine ⟨(pre++(vs++post0)).drop (o1+off+m * i.size+news.length),?_⟩
                    have e6:(pre++(vs++post0)).take (o1+off+m * i.size)=pre++(vs.take off++olds):=by
                      rw [← h2,show pre.length+off+m * i.size=pre.length+(off+m * i.size) by omega,List.take_length_add_append,List.take_append_of_le_length (by omega),List.take_add,holds]
                    rw [e6]
                    simp
                  obtain ⟨post1,hsp⟩:=hsp
                  refine ⟨_,_,F,setRho (fun id'=>if id'=id then none else ρ id') d (b,o1+off),_,run_app_call ho hc hargs hts hrun,.inl rfl,?_⟩
                  rw [fin_two]
                  refine J.put (d:=d) k4 k5 k6 (by rw [k3]; exact Nat.le_refl _) (fun j _ hj=>k2 j hj) hb0 (fun c e f hc=>⟨_,_,_,k1,by rw [hblk] at hc; injection hc with hc; injection hc with hc; subst hc; simp [spliceV_length]⟩) hdk (by rw [k3]; exact g3) g4 (fun id' o' _=>hfree id' o') (fun HF HR=>?_) (fun HF HR=>?_) hd
                  · refine ⟨pre++vs.take off,olds++news,post1,e0,f0,by rw [k1,hsp],by rw [List.length_append,List.length_take,h2]; omega,RepL.kill d HF _ _ HR _ _ hall,?_⟩
                    refine ⟨fun j hj=>?_,fun c2 e2 f2 hc2=>?_⟩
                    · rw [← hsp,spliceV_length] at hj
                      have:=h4.1 j hj
                      simp only [World.frozen?,hblk] at this
                      simp only [World.frozen?,k1]
                      exact this
                    · rw [k1] at hc2; injection hc2 with hc2; injection hc2 with _ _ c3; subst c3
                      exact h4.2 _ _ _ hblk
                  · refine ⟨b,o1+off,o1+off,cap0,_,e0,f0,by simp [setRho],rfl,hroom,k1,.inr ⟨by omega,?_⟩⟩
                    rw [List.size_toArray,spliceV_length]
                    simp only [List.size_toArray] at hcap
                    omega
              · have hload:(Builtin.firstCells i.size m (.slice (some ⟨b,x0,none⟩) m cap0)).run P w.drew=.ok olds.toArray w.drew:=by
                  refine run_firstCells_some w.drew i.size m _ m cap0 olds hol (fun j u hj=>?_)
                  rw [addr_add]
                  rcases hsz with hz | ⟨hx0,_⟩
                  · have hm0:m=0:=by omega
                    rw [hm0,Nat.zero_mul] at hol
                    rw [List.length_eq_zero_iff.1 hol] at hj; simp at hj
                  · subst hx0
                    rw [holds,List.getElem?_take] at hj
                    split at hj
                    · rw [List.getElem?_drop] at hj
                      obtain ⟨vs',q1,q2⟩:=obj_cells (T:=T) (w:=w) (F:=F) (ρ:=ρ) (cs:=cs) ⟨pre,vs,post0,e0,f0,hblk,h2,h3,h4⟩
                      have hlt:off+j < vs.length:=(List.getElem?_eq_some_iff.1 hj).1
                      show w.cell? ⟨b,o1+off+j,none⟩=some u
                      simp only [World.cell?,hblk]
                      simp only [Option.isSome_none,Bool.false_eq_true,if_false,List.getElem?_toArray]
                      rw [List.getElem?_append_right (by omega),List.getElem?_append_left (by omega),← hj]
                      congr 1; omega
                    · simp at hj
                obtain ⟨cap,post,w',hrun,R,hge,hlen⟩:=grow (some ⟨b,x0,none⟩) m cap0 olds _ hv (by omega) hfit hol hload hor
                have hb:=R.below
                refine ⟨_,w',F,setRho (fun id'=>if id'=id then none else ρ id') d (w.heap.size,0),_,hrun,.inl rfl,?_⟩
                rw [fin_two]
                obtain ⟨e',f',hrow⟩:=R.row
                refine J.new (d:=d) (o:=0) hdk (x:=.cells (killL d (killL id ((cs.drop off).take (m * i.size)++ys)))) hb (Nat.le_refl _) (by rw [R.size]; omega) (fun HF HR=>⟨[],olds++news,post,e',f',by rw [hrow]; simp,rfl,RepL.kill d HF _ _ HR _ _ hall,by simpa using R.free⟩) (rep_msl hge hrow (by rw [List.size_toArray,hlen]; exact Nat.le_refl _)) hd
            · simp at hout
    · simp at hout
end
end Wax


namespace Wax
open Go Go.RowKit

section
variable {P:Program} {T:Tab} {w0 w:World} {F0:Base} {n:Nat} {fr:List (Nat × AV)} {hp:List (Nat × AObj)} {a:Act} {F G:Frz} {ρ:Rho} {o:Oper}

def isRef:AV→Bool
  | .ref _ _=>true
  | .msl _ _ _ _=>true
  | .mref _=>true
  | _=>false

theorem FExt.self (h:∀ b,F b→G b):FExt w w F G:=fun b hb=>⟨h b hb,rfl⟩

mutual
theorem snapW_rep {ρ1:Rho} {g:AV→AV} (HF:∀ b,F b→G b) (hg:∀ y u,isRef y=true→Rep T w F ρ y u→Rep T w G ρ1 (g y) u):∀ (x:AV) (v:Value),Rep T w F ρ x v→Rep T w G ρ1 (snapW g x) v
  | .junk,_,_=>by simp [snapW,Rep]
  | .bool b,v,h=>by simpa [snapW,Rep] using h
  | .int k n,v,h=>by simpa [snapW,Rep] using h
  | .str s,v,h=>by simpa [snapW,Rep] using h
  | .nilI,v,h=>by simpa [snapW,Rep] using h
  | .nilP,v,h=>by simpa [snapW,Rep] using h
  | .nilF,v,h=>by simpa [snapW,Rep] using h
  | .nilM,v,h=>by simpa [snapW,Rep] using h
  | .nilS,v,h=>by simpa [snapW,Rep] using h
  | .gp _,v,h=>by simpa [snapW,Rep] using h
  | .sl es xs,v,h=>by
    simp only [snapW,Rep] at h ⊢
    rcases h with ⟨b,o,cap,h1,h2,h3⟩ | h
    · exact .inl ⟨b,o,cap,h1,h2,RepSl.mono (FExt.self HF) es b o xs h3⟩
    · exact .inr h
  | .ptr cs,v,h=>by
    simp only [snapW,Rep] at h ⊢
    obtain ⟨b,o,h1,h2⟩:=h
    exact ⟨b,o,h1,RepAt.mono (FExt.self HF) b o cs h2⟩
  | .bx cs,v,h=>by
    simp only [snapW,Rep] at h ⊢
    obtain ⟨b,h1,h2⟩:=h
    exact ⟨b,h1,RepAt.mono (FExt.self HF) b 0 cs h2⟩
  | .mp es,v,h=>by
    simp only [snapW,Rep] at h ⊢
    obtain ⟨r,ents,clk,h1,h2,h3,h4⟩:=h
    exact ⟨r,ents,clk,h1,HF r h2,h3,RepMP.mono (FExt.self HF) h4.1,h4.2⟩
  | .agg cs,v,h=>by
    simp only [snapW,Rep] at h ⊢
    obtain ⟨vs,h1,h2⟩:=h
    exact ⟨vs,h1,snapWL_rep HF hg cs _ h2⟩
  | .tup cs,v,h=>by
    simp only [snapW,Rep] at h ⊢
    obtain ⟨vs,h1,h2⟩:=h
    exact ⟨vs,h1,snapWL_rep HF hg cs _ h2⟩
  | .ifc q x,v,h=>by
    simp only [snapW,Rep] at h ⊢
    obtain ⟨t,y,h1,h2,h3⟩:=h
    exact ⟨t,y,h1,h2,snapW_rep HF hg x y h3⟩
  | .fn q cs,v,h=>by
    simp only [snapW,Rep] at h ⊢
    obtain ⟨f,vs,h1,h2,h3⟩:=h
    exact ⟨f,vs,h1,h2,snapWL_rep HF hg cs _ h3⟩
  | .ref id off,v,h=>by simpa [snapW] using hg _ v rfl h
  | .msl id es off n,v,h=>by simpa [snapW] using hg _ v rfl h
  | .mref id,v,h=>by simpa [snapW] using hg _ v rfl h
theorem snapWL_rep {ρ1:Rho} {g:AV→AV} (HF:∀ b,F b→G b) (hg:∀ y u,isRef y=true→Rep T w F ρ y u→Rep T w G ρ1 (g y) u):∀ (xs:List AV) (vs:List Value),RepL T w F ρ xs vs→RepL T w G ρ1 (snapWL g xs) vs
  | [],[],_=>by simp [snapWL,RepL]
  | c::r,v::s,h=>by
    simp only [snapWL,RepL] at h ⊢
    exact ⟨snapW_rep HF hg c v h.1,snapWL_rep HF hg r s h.2⟩
  | [],_::_,h=>by simp [RepL] at h
  | _::_,[],h=>by simp [RepL] at h
end
theorem repAt_of {s:AV→AV} (hs:∀ x v,Rep T w F ρ x v→Rep T w G noRho (s x) v) {b:Nat} (hb:G b):∀ {cs:List AV} {us:List Value} {off:Nat},(∀ j u,us[j]? = some u→w.cell? ⟨b,off+j,none⟩=some u)→RepL T w F ρ cs us →
    RepAt T w G b off (cs.map s)
  | [],[],_,_,_=>by simp [RepAt]
  | c::r,v::t,off,hc,h=>by
    simp only [RepL] at h
    simp only [List.map_cons,RepAt]
    refine ⟨⟨hb,v,by simpa using hc 0 v rfl,hs c v h.1⟩,repAt_of hs hb (fun j u hj=>?_) h.2⟩
    have:=hc (j+1) u (by simpa using hj)
    rwa [show off+1+j=off+(j+1) by omega]
  | [],_::_,_,_,h=>by simp [RepL] at h
  | _::_,[],_,_,h=>by simp [RepL] at h

theorem RepAt.take:∀ {b off:Nat} {cs:List AV} (k:Nat),RepAt T w G b off cs→RepAt T w G b off (cs.take k)
  | _,_,_,0,_=>by simp [RepAt]
  | _,_,[],k+1,_=>by simp [RepAt]
  | b,off,c::r,k+1,h=>by
    simp only [RepAt] at h
    simp only [List.take_succ_cons,RepAt]
    exact ⟨h.1,RepAt.take k h.2⟩

theorem repSl_one:∀ {b off:Nat} {cs:List AV},(∀ c∈cs,∀ l,c ≠ .agg l)→RepAt T w G b off cs→RepSl T w G 1 b off cs
  | _,_,[],_,_=>by simp [RepSl]
  | b,off,c::r,hn,h=>by
    simp only [RepAt] at h
    have ih:=repSl_one (fun c hc=>hn c (List.mem_cons_of_mem _ hc)) h.2
    have hc:=hn c (by simp)
    cases c <;> first
      | (exfalso; exact hc _ rfl)
      | (simp only [RepSl]; exact ⟨trivial,h.1,ih⟩)

theorem repSl_group {es:Nat}:∀ {n:Nat} {b off:Nat} {cs:List AV},n * es≤cs.length→RepAt T w G b off cs→RepSl T w G es b off (group es n cs)
  | 0,_,_,_,_,_=>by simp [group,RepSl]
  | n+1,b,off,cs,hl,h=>by
    rw [Nat.add_mul] at hl
    simp only [group,RepSl]
    exact ⟨by rw [List.length_take]; omega,h.take es,repSl_group (by rw [List.length_drop]; omega) (h.drop es)⟩

theorem group_length (es:Nat):∀ (n:Nat) (cs:List AV),(group es n cs).length=n
  | 0,_=>rfl
  | n+1,cs=>by simp [group,group_length es n]

theorem snap_shape:∀ (f:Nat) (x:AV),atom x=true→∀ l,snap f hp x ≠ .agg l:=by
  intro f x hx l
  cases f with
  | zero=>simp [snap]
  | succ f =>
    cases x <;> simp [atom] at hx <;> simp only [snap,snapW,resolveA] <;> first
      | (simp; done)
      | (split <;> simp; done)
      | (split
         · split <;> simp
         · simp)

theorem atoms_mem:∀ {cs:List AV},atoms cs=true→∀ {z:AV},z∈cs→atom z=true
  | c::r,h,z,hz=>by
    simp only [atoms,Bool.and_eq_true] at h
    rcases List.mem_cons.1 hz with rfl | h'
    · exact h.1
    · exact atoms_mem h.2 h'
  | [],_,_,hz=>by simp at hz

theorem snap_rep (I:Inv T w0 F0 n ⟨fr,hp⟩ a w F ρ) (HF:∀ b,F b→G b) (HO:∀ id b o,ρ id=some (b,o)→G b):∀ (f:Nat) (x:AV) (v:Value),Rep T w F ρ x v→Rep T w G noRho (snap f hp x) v
  | 0,x,v,_=>by simp [snap,Rep]
  | f+1,x,v,h=>by
    have ih:=snap_rep I HF HO f
    refine snapW_rep HF ?_ x v h
    intro y u hy hr
    cases y <;> simp [isRef] at hy
    case ref id off =>
      simp only [Rep] at hr
      obtain ⟨b,o1,h1,hv⟩:=hr
      cases hh:hlk hp id with
      | none=>simp [resolveA,hh,Rep]
      | some ob =>
        cases ob with
        | mp es=>simp [resolveA,hh,Rep]
        | sit s p=>simp [resolveA,hh,Rep]
        | mit q0 q1=>simp [resolveA,hh,Rep]
        | cells cs =>
          simp only [resolveA,hh]
          obtain ⟨b',o',g1,_,_,_,g5⟩:=I.obj id _ hh
          rw [h1] at g1; injection g1 with g1; injection g1 with g1 g1'; subst g1; subst g1'
          obtain ⟨us,k1,k2⟩:=obj_cells g5
          refine ⟨b,o1+off,hv,repAt_of ih (HO id b o1 h1) (us:=us.drop off) (fun j q hj=>?_) (k2.drop off)⟩
          rw [List.getElem?_drop] at hj
          have:=k1 _ q hj
          rwa [show o1+off+j=o1+(off+j) by omega]
    case msl id es off m =>
      simp only [Rep] at hr
      obtain ⟨b,o1,x0,cap,c,e,f',h1,hv,hle,hblk,hsz⟩:=hr
      cases hh:hlk hp id with
      | none=>simp [resolveA,hh,Rep]
      | some ob =>
        cases ob with
        | mp es=>simp [resolveA,hh,Rep]
        | sit s p=>simp [resolveA,hh,Rep]
        | mit q0 q1=>simp [resolveA,hh,Rep]
        | cells cs =>
          simp only [resolveA,hh]
          split
          · rename_i hc
            obtain ⟨hl,hat,hes⟩:=hc
            obtain ⟨b',o',g1,_,_,_,g5⟩:=I.obj id _ hh
            rw [h1] at g1; injection g1 with g1; injection g1 with g1 g1'; subst g1; subst g1'
            obtain ⟨us,k1,k2⟩:=obj_cells g5
            have hat2:RepAt T w G b (o1+off) ((cs.drop off).map (snap f hp)):=by
              refine repAt_of ih (HO id b o1 h1) (us:=us.drop off) (fun j q hj=>?_) (k2.drop off)
              rw [List.getElem?_drop] at hj
              have:=k1 _ q hj
              rwa [show o1+off+j=o1+(off+j) by omega]
            have hdl:((cs.drop off).map (snap f hp)).length=cs.length - off:=by simp
            have hna:∀ y∈(cs.drop off).map (snap f hp),∀ l,y ≠ .agg l:=by
              intro y hy l
              obtain ⟨z,hz,rfl⟩:=List.mem_map.1 hy
              have hza:atom z=true:=atoms_mem hat (List.mem_of_mem_drop hz)
              exact snap_shape f z hza l
            simp only [Rep,elems]
            by_cases he:es=1
            · subst he
              simp only [if_true]
              refine .inl ⟨b,x0,cap,?_,?_,?_⟩
              · rw [List.length_take,hdl,hv]; congr 1; omega
              · rw [List.length_take]; omega
              · rcases hsz with h0 | ⟨h0,_⟩
                · have:m=0:=by omega
                  subst this; simp [RepSl]
                · rw [h0]
                  exact repSl_one (fun c hc=>hna c (List.mem_of_mem_take hc)) (hat2.take m)
            · simp only [he,if_false]
              refine .inl ⟨b,x0,cap,?_,?_,?_⟩
              · rw [group_length,hv]
              · rw [group_length]; exact hle
              · rcases hsz with h0 | ⟨h0,_⟩
                · have:m=0:=by omega
                  subst this; simp [group,RepSl]
                · rw [h0]
                  exact repSl_group (by rw [hdl]; omega) hat2
          · simp [Rep]
    case mref id =>
      simp only [Rep] at hr
      obtain ⟨b,o1,h1,hv⟩:=hr
      cases hh:hlk hp id with
      | none=>simp [resolveA,hh,Rep]
      | some ob =>
        cases ob with
        | cells cs=>simp [resolveA,hh,Rep]
        | sit s p=>simp [resolveA,hh,Rep]
        | mit q0 q1=>simp [resolveA,hh,Rep]
        | mp es =>
          simp only [resolveA,hh]
          obtain ⟨b',o',g1,_,_,_,g5⟩:=I.obj id _ hh
          rw [h1] at g1; injection g1 with g1; injection g1 with g1 g1'; subst g1
          obtain ⟨ents,clk,h3,h4⟩:=g5
          exact ⟨b,ents,clk,hv,HO id b o1 h1,h3,RepMP.mono (FExt.self HF) h4.1,h4.2⟩

mutual
theorem flat_rep {w':World} {ρ':Rho}:∀ (x:AV) (v:Value),flat x=true→Rep T w F ρ x v→Rep T w' G ρ' x v
  | .junk,_,_,_=>by simp [Rep]
  | .bool b,v,_,h=>by simpa [Rep] using h
  | .int k n,v,_,h=>by simpa [Rep] using h
  | .str s,v,_,h=>by simpa [Rep] using h
  | .nilI,v,_,h=>by simpa [Rep] using h
  | .nilP,v,_,h=>by simpa [Rep] using h
  | .nilF,v,_,h=>by simpa [Rep] using h
  | .nilM,v,_,h=>by simpa [Rep] using h
  | .nilS,v,_,h=>by simpa [Rep] using h
  | .gp _,v,_,h=>by simpa [Rep] using h
  | .sl es xs,v,hf,_=>by simp [flat] at hf
  | .ptr cs,v,hf,_=>by simp [flat] at hf
  | .bx cs,v,hf,_=>by simp [flat] at hf
  | .mp es,v,hf,_=>by simp [flat] at hf
  | .ref _ _,v,hf,_=>by simp [flat] at hf
  | .msl _ _ _ _,v,hf,_=>by simp [flat] at hf
  | .mref _,v,hf,_=>by simp [flat] at hf
  | .agg cs,v,hf,h=>by
    simp only [Rep] at h ⊢
    obtain ⟨vs,h1,h2⟩:=h
    exact ⟨vs,h1,flatL_rep cs _ (by simpa [flat] using hf) h2⟩
  | .tup cs,v,hf,h=>by
    simp only [Rep] at h ⊢
    obtain ⟨vs,h1,h2⟩:=h
    exact ⟨vs,h1,flatL_rep cs _ (by simpa [flat] using hf) h2⟩
  | .ifc q x,v,hf,h=>by
    simp only [Rep] at h ⊢
    obtain ⟨t,y,h1,h2,h3⟩:=h
    exact ⟨t,y,h1,h2,flat_rep x y (by simpa [flat] using hf) h3⟩
  | .fn q cs,v,hf,h=>by
    simp only [Rep] at h ⊢
    obtain ⟨f,vs,h1,h2,h3⟩:=h
    exact ⟨f,vs,h1,h2,flatL_rep cs _ (by simpa [flat] using hf) h3⟩
theorem flatL_rep {w':World} {ρ':Rho}:∀ (xs:List AV) (vs:List Value),flatL xs=true→RepL T w F ρ xs vs→RepL T w' G ρ' xs vs
  | [],[],_,_=>by simp [RepL]
  | c::r,v::s,hf,h=>by
    simp only [RepL] at h ⊢
    simp only [flatL,Bool.and_eq_true] at hf
    exact ⟨flat_rep c v hf.1 h.1,flatL_rep r s hf.2 h.2⟩
  | [],_::_,_,h=>by simp [RepL] at h
  | _::_,[],_,h=>by simp [RepL] at h
end
def OkCall (P:Program) (T:Tab) (f:FuncId) (args:List AV) (r:AV):Prop :=
  ∀ (w:World) (F:Frz) (vs:List Value),(∀ b,F b→b < w.heap.size)→GlobOk T w F→RepL T w F noRho args vs →
    Calls P f vs.toArray w fun e w'=>∃ v,e=.returned v∧Below w.heap.size w w'∧Rep T w' (fun b=>F b∨(w.heap.size≤b∧b < w'.heap.size)) noRho r v

theorem RepL.mapSnap (I:Inv T w0 F0 n ⟨fr,hp⟩ a w F ρ) (HF:∀ b,F b→G b) (HO:∀ id b o,ρ id=some (b,o)→G b) (f:Nat):∀ {xs:List AV} {vs:List Value},RepL T w F ρ xs vs→RepL T w G noRho (xs.map (snap f hp)) vs
  | [],[],_=>by simp [RepL]
  | c::r,v::s,h=>by
    simp only [RepL] at h
    simp only [List.map_cons,RepL]
    exact ⟨snap_rep I HF HO f c v h.1,RepL.mapSnap I HF HO f h.2⟩
  | [],_::_,h=>by simp [RepL] at h
  | _::_,[],h=>by simp [RepL] at h

theorem call_rep (I:Inv T w0 F0 n ⟨fr,hp⟩ a w F ρ) {Γ:Gam} {f g:Nat} (hΓ:∀ args r,Γ.fn g args=some r→OkCall P T f args r) {xs:List AV} {vs:List Value} (hx:RepL T w F ρ xs vs) {r:AV} (hr:acall Γ hp g xs=some r) :
    Calls P f vs.toArray w fun e w'=>∃ v F',e=.returned v∧Inv T w0 F0 n ⟨fr,hp⟩ a w' F' ρ∧Rep T w' F' ρ r v:=by
  simp only [acall] at hr
  split at hr
  · rename_i href
    cases hg:Γ.fn g (xs.map (snap 4 hp)) with
    | none=>simp [hg] at hr
    | some r' =>
      simp only [hg] at hr
      split at hr
      · rename_i hfl
        simp at hr; subst hr
        have HO:∀ id b o,ρ id=some (b,o)→b < w.heap.size:=by
          intro id b o h
          obtain ⟨x,hx⟩:=I.dom id _ h
          obtain ⟨b',o',g1,_,g3,_⟩:=I.obj id x hx
          rw [h] at g1; injection g1 with g1; injection g1 with g1 _; omega
        have harg:=RepL.mapSnap I (G:=fun b=>b < w.heap.size) I.lt HO 4 hx
        refine (hΓ _ _ hg w (fun b=>b < w.heap.size) vs (fun b h=>h) (I.gl.mono fun b h=>⟨I.lt b h,rfl⟩) harg).mono ?_
        rintro e w' ⟨v,rfl,hb,hv⟩
        exact ⟨v,_,rfl,I.grow hb,flat_rep r' v hfl hv⟩
      · simp at hr
  · rename_i href
    cases hg:Γ.fn g xs with
    | none=>simp [hg] at hr
    | some r' =>
      simp only [hg] at hr
      split at hr
      · simp at hr
      · simp at hr; subst hr
        have harg:RepL T w F noRho xs vs:=RepL.down xs vs (by simpa using href) hx
        refine (hΓ _ _ hg w F vs I.lt I.gl harg).mono ?_
        rintro e w' ⟨v,rfl,hb,hv⟩
        exact ⟨v,_,rfl,I.grow hb,hv.up ρ⟩
end
end Wax


namespace Wax
open Go Go.RowKit

section
variable {T:Tab} {w w':World} {F F':Frz} {ρ ρ':Rho} {g:Nat→Nat}

mutual
theorem Rep.ren:∀ (x:AV) (v:Value),(∀ id∈refs x,ρ' (g id)=ρ id)→Rep T w F ρ x v→Rep T w F ρ' (mapId g x) v
  | .junk,_,_,_=>by simp [mapId,Rep]
  | .bool b,v,_,h=>by simpa [mapId,Rep] using h
  | .int k n,v,_,h=>by simpa [mapId,Rep] using h
  | .str s,v,_,h=>by simpa [mapId,Rep] using h
  | .nilI,v,_,h=>by simpa [mapId,Rep] using h
  | .nilP,v,_,h=>by simpa [mapId,Rep] using h
  | .nilF,v,_,h=>by simpa [mapId,Rep] using h
  | .nilM,v,_,h=>by simpa [mapId,Rep] using h
  | .nilS,v,_,h=>by simpa [mapId,Rep] using h
  | .gp _,v,_,h=>by simpa [mapId,Rep] using h
  | .sl es xs,v,_,h=>by simpa [mapId,Rep] using h
  | .ptr cs,v,_,h=>by simpa [mapId,Rep] using h
  | .bx cs,v,_,h=>by simpa [mapId,Rep] using h
  | .mp es,v,_,h=>by simpa [mapId,Rep] using h
  | .agg cs,v,hg,h=>by
    simp only [mapId,Rep] at h ⊢
    obtain ⟨vs,h1,h2⟩:=h
    exact ⟨vs,h1,RepL.ren cs _ (by simpa only [refs] using hg) h2⟩
  | .tup cs,v,hg,h=>by
    simp only [mapId,Rep] at h ⊢
    obtain ⟨vs,h1,h2⟩:=h
    exact ⟨vs,h1,RepL.ren cs _ (by simpa only [refs] using hg) h2⟩
  | .ifc q x,v,hg,h=>by
    simp only [mapId,Rep] at h ⊢
    obtain ⟨t,y,h1,h2,h3⟩:=h
    exact ⟨t,y,h1,h2,Rep.ren x y (by simpa only [refs] using hg) h3⟩
  | .fn q cs,v,hg,h=>by
    simp only [mapId,Rep] at h ⊢
    obtain ⟨f,vs,h1,h2,h3⟩:=h
    exact ⟨f,vs,h1,h2,RepL.ren cs _ (by simpa only [refs] using hg) h3⟩
  | .ref id off,v,hg,h=>by
    simp only [mapId,Rep] at h ⊢
    rw [hg id (by simp [refs])]; exact h
  | .msl id es off n,v,hg,h=>by
    simp only [mapId,Rep] at h ⊢
    rw [hg id (by simp [refs])]; exact h
  | .mref id,v,hg,h=>by
    simp only [mapId,Rep] at h ⊢
    rw [hg id (by simp [refs])]; exact h
theorem RepL.ren:∀ (xs:List AV) (vs:List Value),(∀ id∈refsL xs,ρ' (g id)=ρ id)→RepL T w F ρ xs vs→RepL T w F ρ' (mapIdL g xs) vs
  | [],[],_,_=>by simp [mapIdL,RepL]
  | c::r,v::s,hg,h=>by
    simp only [mapIdL,RepL] at h ⊢
    exact ⟨Rep.ren c v (fun id hid=>hg id (by simp [refsL,hid])) h.1,RepL.ren r s (fun id hid=>hg id (by simp [refsL,hid])) h.2⟩
  | [],_::_,_,h=>by simp [RepL] at h
  | _::_,[],_,h=>by simp [RepL] at h
end
mutual
theorem Rep.has:∀ (x:AV) (v:Value),Rep T w F ρ x v→∀ id∈refs x,∃ p,ρ id=some p
  | .junk,_,_,_,h=>by simp [refs] at h
  | .bool b,v,_,_,h=>by simp [refs] at h
  | .int k n,v,_,_,h=>by simp [refs] at h
  | .str s,v,_,_,h=>by simp [refs] at h
  | .nilI,v,_,_,h=>by simp [refs] at h
  | .nilP,v,_,_,h=>by simp [refs] at h
  | .nilF,v,_,_,h=>by simp [refs] at h
  | .nilM,v,_,_,h=>by simp [refs] at h
  | .nilS,v,_,_,h=>by simp [refs] at h
  | .gp _,v,_,_,h=>by simp [refs] at h
  | .sl es xs,v,_,_,h=>by simp [refs] at h
  | .ptr cs,v,_,_,h=>by simp [refs] at h
  | .bx cs,v,_,_,h=>by simp [refs] at h
  | .mp es,v,_,_,h=>by simp [refs] at h
  | .agg cs,v,h,id,hid=>by
    simp only [Rep] at h
    obtain ⟨vs,h1,h2⟩:=h
    exact RepL.has cs _ h2 id (by simpa only [refs] using hid)
  | .tup cs,v,h,id,hid=>by
    simp only [Rep] at h
    obtain ⟨vs,h1,h2⟩:=h
    exact RepL.has cs _ h2 id (by simpa only [refs] using hid)
  | .ifc q x,v,h,id,hid=>by
    simp only [Rep] at h
    obtain ⟨t,y,h1,h2,h3⟩:=h
    exact Rep.has x y h3 id (by simpa only [refs] using hid)
  | .fn q cs,v,h,id,hid=>by
    simp only [Rep] at h
    obtain ⟨f,vs,h1,h2,h3⟩:=h
    exact RepL.has cs _ h3 id (by simpa only [refs] using hid)
  | .ref i off,v,h,id,hid=>by
    simp only [refs,List.mem_singleton] at hid; subst hid
    simp only [Rep] at h
    obtain ⟨b,o,h,_⟩:=h; exact ⟨_,h⟩
  | .msl i es off n,v,h,id,hid=>by
    simp only [refs,List.mem_singleton] at hid; subst hid
    simp only [Rep] at h
    obtain ⟨b,o,x,cap,c,e,f,h,_⟩:=h; exact ⟨_,h⟩
  | .mref i,v,h,id,hid=>by
    simp only [refs,List.mem_singleton] at hid; subst hid
    simp only [Rep] at h
    obtain ⟨b,o,h,_⟩:=h; exact ⟨_,h⟩
theorem RepL.has:∀ (xs:List AV) (vs:List Value),RepL T w F ρ xs vs→∀ id∈refsL xs,∃ p,ρ id=some p
  | [],[],_,id,hid=>by simp [refsL] at hid
  | c::r,v::s,h,id,hid=>by
    simp only [RepL] at h
    simp only [refsL,List.mem_append] at hid
    rcases hid with hid | hid
    · exact Rep.has c v h.1 id hid
    · exact RepL.has r s h.2 id hid
  | [],_::_,h,_,_=>by simp [RepL] at h
  | _::_,[],h,_,_=>by simp [RepL] at h
end
theorem RepO.ren {b o:Nat}:∀ (x:AObj),(∀ id∈refsO x,ρ' (g id)=ρ id)→RepO T w F ρ b o x→RepO T w F ρ' b o (mapO g x)
  | .cells cs,hg,h=>by
    obtain ⟨pre,vs,post,e,f,h1,h2,h3,h4⟩:=h
    exact ⟨pre,vs,post,e,f,h1,h2,RepL.ren cs vs (by simpa only [refsO] using hg) h3,h4⟩
  | .mp es,_,h=>h
  | .sit s p,_,h=>h
  | .mit es c,_,h=>h

theorem RepO.has {b o:Nat}:∀ (x:AObj),RepO T w F ρ b o x→∀ id∈refsO x,∃ p,ρ id=some p
  | .cells cs,h=>by
    obtain ⟨pre,vs,post,e,f,h1,h2,h3,h4⟩:=h
    intro id hid
    exact RepL.has cs vs h3 id (by simpa only [refsO] using hid)
  | .mp es,_=>by intro id h; simp [refsO] at h
  | .sit s p,_=>by intro id h; simp [refsO] at h
  | .mit es c,_=>by intro id h; simp [refsO] at h

structure HR (T:Tab) (w:World) (F:Frz) (ρ:Rho) (hp:List (Nat × AObj)):Prop where
  dom:∀ id p,ρ id=some p→∃ x,hlk hp id=some x
  obj:∀ id x,hlk hp id=some x→∃ b o,ρ id=some (b,o)∧b < w.heap.size∧¬ F b∧RepO T w F ρ b o x
  inj:∀ id id' b o o',ρ id=some (b,o)→ρ id'=some (b,o')→id=id'

theorem hlk_keys:∀ {l:List (Nat × AObj)} {i:Nat} {x:AObj},hlk l i=some x→i∈keysH l
  | (j,o)::r,i,x,h=>by
    simp only [hlk] at h
    split at h
    · rename_i e; subst e; simp [keysH]
    · simp [keysH,hlk_keys h]

theorem keys_hlk:∀ {l:List (Nat × AObj)} {i:Nat},i∈keysH l→∃ x,hlk l i=some x
  | (j,o)::r,i,h=>by
    simp only [keysH,List.mem_cons] at h
    simp only [hlk]
    by_cases e:j=i
    · exact ⟨o,by simp [e]⟩
    · rcases h with h | h
      · exact absurd h.symm e
      · obtain ⟨x,hx⟩:=keys_hlk h; exact ⟨x,by simp [e,hx]⟩

theorem hlk_mapH_some:∀ {l:List (Nat × AObj)} {k:Nat} {x:AObj},hlk (mapH g l) k=some x→∃ i y,hlk l i=some y∧g i=k∧x=mapO g y
  | (j,o)::r,k,x,h=>by
    simp only [mapH,hlk] at h
    split at h
    · rename_i e; injection h with h; exact ⟨j,o,by simp [hlk],e,h.symm⟩
    · rename_i e
      obtain ⟨i,y,h1,h2,h3⟩:=hlk_mapH_some h
      exact ⟨i,y,by simp only [hlk]; rw [if_neg (fun e'=>e (by rw [e',h2]))]; exact h1,h2,h3⟩

theorem hlk_mapH:∀ {l:List (Nat × AObj)} {i:Nat} {y:AObj},(∀ j∈keysH l,g j=g i→j=i)→hlk l i=some y→hlk (mapH g l) (g i)=some (mapO g y)
  | (j,o)::r,i,y,hg,h=>by
    simp only [hlk] at h
    simp only [mapH,hlk]
    split at h
    · rename_i e; subst e; injection h with h; simp [h]
    · rename_i e
      rw [if_neg (fun e'=>e (hg j (by simp [keysH]) e'))]
      exact hlk_mapH (fun j hj=>hg j (by simp [keysH,hj])) h

theorem mapH_length:∀ (l:List (Nat × AObj)),(mapH g l).length=l.length
  | []=>rfl
  | _::r=>by simp [mapH,mapH_length r]

theorem pickH_keys {hp:List (Nat × AObj)}:∀ {ids:List Nat} {os:List (Nat × AObj)},pickH hp ids=some os→keysH os=ids
  | [],os,h=>by simp [pickH] at h; subst h; rfl
  | i::r,os,h=>by
    simp only [pickH] at h
    cases h1:hlk hp i with
    | none=>simp [h1] at h
    | some o =>
      cases h2:pickH hp r with
      | none=>simp [h1,h2] at h
      | some l=>simp [h1,h2] at h; subst h; simp [keysH,pickH_keys h2]

theorem pickH_hlk {hp:List (Nat × AObj)}:∀ {ids:List Nat} {os:List (Nat × AObj)},pickH hp ids=some os→∀ i∈ids,hlk os i=hlk hp i∧∃ x,hlk hp i=some x
  | [],os,h,i,hi=>by simp at hi
  | j::r,os,h,i,hi=>by
    simp only [pickH] at h
    cases h1:hlk hp j with
    | none=>simp [h1] at h
    | some o =>
      cases h2:pickH hp r with
      | none=>simp [h1,h2] at h
      | some l =>
        simp [h1,h2] at h; subst h
        simp only [hlk]
        by_cases e:j=i
        · subst e; simp [h1]
        · simp only [e,if_false]
          rcases List.mem_cons.1 hi with e' | hi
          · exact absurd e'.symm e
          · exact pickH_hlk h2 i hi

theorem keysH_length:∀ (l:List (Nat × AObj)),(keysH l).length=l.length
  | []=>rfl
  | _::r=>by simp [keysH,keysH_length r]

theorem idxN_lt:∀ {ids:List Nat} {i:Nat},i∈ids→idxN ids i < ids.length
  | j::r,i,h=>by
    simp only [idxN]
    split
    · simp
    · rename_i e
      rcases List.mem_cons.1 h with e' | h
      · exact absurd e'.symm e
      · have:=idxN_lt h; simp; exact this

theorem idxN_get:∀ {ids:List Nat} {i:Nat},i∈ids→ids.getD (idxN ids i) 0=i
  | j::r,i,h=>by
    simp only [idxN]
    split
    · rename_i e; simpa using e
    · rename_i e
      rcases List.mem_cons.1 h with e' | h
      · exact absurd e'.symm e
      · have:=idxN_get h; simpa using this

theorem get_idxN:∀ {ids:List Nat},ids.Nodup→∀ {k:Nat},k < ids.length→idxN ids (ids.getD k 0)=k
  | j::r,hn,0,_=>by simp [idxN]
  | j::r,hn,k+1,hk=>by
    have hn':=List.nodup_cons.1 hn
    have hk':k < r.length:=by simpa using hk
    have hm:r.getD k 0∈r:=by rw [List.getD_eq_getElem?_getD,List.getElem?_eq_getElem hk']; simp
    have e:j ≠ r.getD k 0:=fun e=>hn'.1 (e ▸ hm)
    show idxN (j::r) (r.getD k 0)=k+1
    simp only [idxN,e,if_false,get_idxN hn'.2 hk']

theorem getD_mem {ids:List Nat} {k:Nat} (hk:k < ids.length):ids.getD k 0∈ids:=by
  rw [List.getD_eq_getElem?_getD,List.getElem?_eq_getElem hk]; simp

theorem reach_nodup {hp:List (Nat × AObj)}:∀ (n:Nat) (todo acc:List Nat),acc.Nodup→(reach hp n todo acc).Nodup
  | 0,todo,acc,h=>by simpa [reach] using h
  | n+1,[],acc,h=>by simpa [reach] using h
  | n+1,i::r,acc,h=>by
    simp only [reach]
    split
    · exact reach_nodup n r acc h
    · rename_i hc
      refine reach_nodup n _ _ ?_
      simp only [Bool.not_eq_true,List.contains_eq_mem,decide_eq_false_iff_not] at hc
      rw [List.nodup_append]
      refine ⟨h,by simp,?_⟩
      intro a ha b hb
      simp only [List.mem_singleton] at hb; subst hb
      exact fun e=>hc (e ▸ ha)

theorem inIds_spec {ids l:List Nat} (h:inIds ids l=true):∀ i∈l,i∈ids:=by
  simpa [inIds] using h

theorem closedH_spec {ids:List Nat}:∀ {l:List (Nat × AObj)},closedH ids l=true→∀ {i:Nat} {x:AObj},hlk l i=some x→∀ j∈refsO x,j∈ids
  | (k,o)::r,h,i,x,hx,j,hj=>by
    simp only [closedH,Bool.and_eq_true] at h
    simp only [hlk] at hx
    split at hx
    · injection hx with hx; subst hx; exact inIds_spec h.1 j hj
    · exact closedH_spec h.2 hx j hj

theorem hlk_restH {ids:List Nat}:∀ (l:List (Nat × AObj)) (i:Nat),hlk (restH ids l) i=if i∈ids then none else hlk l i
  | [],i=>by simp [restH,hlk]
  | (j,o)::r,i=>by
    have ih:=hlk_restH (ids:=ids) r i
    simp only [restH]
    by_cases hj:j∈ids
    · simp only [List.contains_eq_mem,hj,decide_true,if_true,ih,hlk]
      by_cases e:j=i
      · subst e; simp [hj]
      · simp [e]
    · simp only [List.contains_eq_mem,hj,decide_false,Bool.false_eq_true,if_false,hlk,ih]
      by_cases e:j=i
      · subst e; simp [hj]
      · simp [e]

theorem killH_restH {ids:List Nat} (d:Nat):∀ (l:List (Nat × AObj)),killH d (restH ids l)=restH ids (killH d l)
  | []=>rfl
  | (j,o)::r=>by
    have ih:=killH_restH (ids:=ids) d r
    by_cases hj:j∈ids
    · by_cases e:j=d
      · subst e; simp only [restH,killH,List.contains_eq_mem,hj,decide_true,if_true]; exact ih
      · simp only [restH,killH,List.contains_eq_mem,hj,decide_true,if_true,e,if_false]; exact ih
    · by_cases e:j=d
      · subst e; simp only [restH,killH,List.contains_eq_mem,hj,decide_false,Bool.false_eq_true,if_false,if_true]; exact ih
      · simp only [restH,killH,List.contains_eq_mem,hj,decide_false,Bool.false_eq_true,if_false,e]; rw [ih]

theorem killHs_restH {ids:List Nat}:∀ (ds:List Nat) (l:List (Nat × AObj)),killHs ds (restH ids l)=restH ids (killHs ds l)
  | [],l=>rfl
  | d::r,l=>by simp only [killHs,killH_restH,killHs_restH r]

theorem hlk_append:∀ (l m:List (Nat × AObj)) (i:Nat),hlk (l++m) i=match hlk l i with | some x=>some x | none=>hlk m i
  | [],m,i=>by simp [hlk]
  | (j,o)::r,m,i=>by
    simp only [List.cons_append,hlk]
    by_cases e:j=i
    · simp [e]
    · simp [e,hlk_append r m i]

theorem deadN_mem {ks:List Nat}:∀ {l:List Nat} {j i:Nat},i∈deadN ks l j→∃ k,k < l.length∧l.getD k 0=i∧(j+k) ∉ ks
  | x::r,j,i,h=>by
    simp only [deadN] at h
    split at h
    · obtain ⟨k,h1,h2,h3⟩:=deadN_mem h
      exact ⟨k+1,by simp; exact h1,by simpa using h2,by rwa [show j+(k+1)=j+1+k by omega]⟩
    · rename_i hc
      rcases List.mem_cons.1 h with e | h
      · exact ⟨0,by simp,by simp [e],by simpa using hc⟩
      · obtain ⟨k,h1,h2,h3⟩:=deadN_mem h
        exact ⟨k+1,by simp; exact h1,by simpa using h2,by rwa [show j+(k+1)=j+1+k by omega]⟩

theorem mem_deadN {ks:List Nat}:∀ {l:List Nat} {j k:Nat},k < l.length→(j+k) ∉ ks→l.getD k 0∈deadN ks l j
  | x::r,j,0,_,hn=>by
    simp only [deadN]
    rw [if_neg (by simpa using hn)]; simp
  | x::r,j,k+1,hk,hn=>by
    have ih:=mem_deadN (ks:=ks) (l:=r) (j:=j+1) (k:=k) (by simpa using hk) (by rwa [show j+1+k=j+(k+1) by omega])
    simp only [deadN]
    split
    · simpa using ih
    · simpa using .inr ih

theorem freshN_spec {hp:List (Nat × AObj)} {ids:List Nat} {d:Nat}:∀ {ks:List Nat},freshN hp ids d ks=true→∀ j∈ks,ids.length≤j→hlk hp (nameN ids d j)=none∧nameN ids d j < 1000000
  | k::r,h,j,hj,hl=>by
    simp only [freshN,Bool.and_eq_true,Bool.or_eq_true,decide_eq_true_eq,Option.isNone_iff_eq_none] at h
    rcases List.mem_cons.1 hj with e | hj
    · subst e
      rcases h.1 with h1 | h1
      · omega
      · exact h1
    · exact freshN_spec h.2 j hj hl
end

def OkS (P:Program) (T:Tab) (f:FuncId) (args:List AV) (hp:List (Nat × AObj)) (r:AV) (hp':List (Nat × AObj)):Prop :=
  ∀ (w:World) (F:Frz) (ρ:Rho) (vs:List Value),(∀ b,F b→b < w.heap.size)→GlobOk T w F→(∀ id x,hlk hp id=some x→id < hp.length)→HR T w F ρ hp→RepL T w F ρ args vs →
    Calls P f vs.toArray w fun e w'=>∃ v F' ρ',e=.returned v∧BelX (fun b=>∃ id o,ρ id=some (b,o)) w.heap.size w w'∧(∀ b,F b→F' b)∧(∀ b,F' b→F b∨w.heap.size≤b∨∃ id o,ρ id=some (b,o))∧(∀ b,F' b→b < w'.heap.size) ∧
      HR T w' F' ρ' hp'∧(∀ id p,ρ id=some p→ρ' id=none∨ρ' id=some p)∧(∀ id b o,ρ' id=some (b,o)→ρ id=none→w.heap.size≤b∨∃ id' o',ρ id'=some (b,o'))∧Rep T w' F' ρ' r v

section
variable {P:Program} {T:Tab} {w0 w:World} {F0:Base} {n:Nat} {fr:List (Nat × AV)} {hp:List (Nat × AObj)} {a:Act} {F G:Frz} {ρ:Rho} {o:Oper}

theorem Inv.drops:∀ (l:List Nat) {fr:List (Nat × AV)} {hp:List (Nat × AObj)} {ρ:Rho},Inv T w0 F0 n ⟨fr,hp⟩ a w F ρ→∃ ρ',Inv T w0 F0 n ⟨killFs l fr,killHs l hp⟩ a w F ρ'∧∀ id p,ρ' id=some p→ρ id=some p∧id ∉ l
  | [],fr,hp,ρ,I=>⟨ρ,I,fun _ _ h=>⟨h,by simp⟩⟩
  | d::r,fr,hp,ρ,I=>by
    obtain ⟨ρ',I',h'⟩:=Inv.drops r (I.drop d)
    refine ⟨ρ',I',fun id p h=>?_⟩
    have:=h' id p h
    obtain ⟨h1,h2⟩:=this
    by_cases e:id=d
    · simp [e] at h1
    · simp only [e,if_false] at h1
      exact ⟨h1,by simp [e,h2]⟩

theorem callS_rep (I:Inv T w0 F0 n ⟨fr,hp⟩ a w F ρ) {Γ:Gam} {f g:Nat} (hΓ:∀ args hp q,Γ.st g args hp=some q→OkS P T f args hp q.1 q.2) {xs:List AV} {vs:List Value} (hx:RepL T w F ρ xs vs) {d:Nat} {out:Out} (hr:acallS Γ hp d g xs=some out)
    {dst:Option Nat} (hd:dstOk n dst) :
    Calls P f vs.toArray w fun e w'=>∃ v F' ρ',e=.returned v∧Inv T w0 F0 n (fin fr dst out) (a.put dst v) w' F' ρ':=by
  simp only [acallS] at hr
  obtain ⟨ids,hids⟩:∃ ids,ids=reach hp 200 (refsL xs) []:=⟨_,rfl⟩
  have hnd:ids.Nodup:=hids ▸ reach_nodup 200 _ _ (by simp)
  rw [← hids] at hr
  clear hids
  cases hos:pickH hp ids with
  | none=>simp [hos] at hr
  | some os =>
    simp only [hos] at hr
    split at hr
    · rename_i hcl
      simp only [Bool.and_eq_true] at hcl
      obtain ⟨hca,hco⟩:=hcl
      have hca:=inIds_spec hca
      cases hq:Γ.st g (mapIdL (idxN ids) xs) (mapH (idxN ids) os) with
      | none=>simp [hq] at hr
      | some q =>
        simp only [hq,backS] at hr
        split at hr
        · rename_i hfr
          injection hr with hr
          have hfr:=freshN_spec hfr
          have hkeys:=pickH_keys hos
          have hpk:=pickH_hlk hos
          -- the callee's places
          obtain ⟨ρC,hρC⟩:∃ ρC:Rho,ρC=fun i=>if i < ids.length then ρ (ids.getD i 0) else none:=⟨_,rfl⟩
          have hC:∀ i∈ids,ρC (idxN ids i)=ρ i:=by
            intro i hi
            rw [hρC]
            simp only [idxN_lt hi,if_true,idxN_get hi]
          have hCs:∀ k p,ρC k=some p→k < ids.length∧ρ (ids.getD k 0)=some p:=by
            intro k p h
            rw [hρC] at h
            simp only at h
            split at h
            · exact ⟨by assumption,h⟩
            · simp at h
          have hinjI:∀ i∈ids,∀ j∈ids,idxN ids j=idxN ids i→j=i:=by
            intro i hi j hj e
            rw [← idxN_get hj,e,idxN_get hi]
          have HC:HR T w F ρC (mapH (idxN ids) os):=by
            refine ⟨?_,?_,?_⟩
            · intro k p h
              obtain ⟨hk,h⟩:=hCs k p h
              have hm:=getD_mem hk
              obtain ⟨h1,x,h2⟩:=hpk _ hm
              have:=hlk_mapH (g:=idxN ids) (l:=os) (i:=ids.getD k 0) (y:=x) (fun j hj e=>hinjI _ hm j (hkeys ▸ hj) e) (by rw [h1,h2])
              rw [get_idxN hnd hk] at this
              exact ⟨_,this⟩
            · intro k x h
              obtain ⟨i,y,h1,h2,h3⟩:=hlk_mapH_some h
              have hi:i∈ids:=hkeys ▸ hlk_keys h1
              have h1':hlk hp i=some y:=by rw [← (hpk i hi).1]; exact h1
              obtain ⟨b,o,g1,g2,g3,g4,g5⟩:=I.obj i y h1'
              refine ⟨b,o,by rw [← h2,hC i hi]; exact g1,g3,g4,?_⟩
              rw [h3]
              exact RepO.ren y (fun id hid=>hC id (closedH_spec hco h1 id hid)) g5
            · intro k k' b o o' h h'
              obtain ⟨hk,h⟩:=hCs k _ h
              obtain ⟨hk',h'⟩:=hCs k' _ h'
              have:=I.inj _ _ b o o' h h'
              rw [← get_idxN hnd hk,← get_idxN hnd hk',this]
          have hlen:∀ id x,hlk (mapH (idxN ids) os) id=some x→id < (mapH (idxN ids) os).length:=by
            intro id x h
            obtain ⟨i,y,h1,h2,h3⟩:=hlk_mapH_some h
            have hi:i∈ids:=hkeys ▸ hlk_keys h1
            rw [mapH_length,← keysH_length,hkeys,← h2]
            exact idxN_lt hi
          have hargs:RepL T w F ρC (mapIdL (idxN ids) xs) vs:=RepL.ren xs vs (fun id hid=>hC id (hca id hid)) hx
          refine (hΓ _ _ _ hq w F ρC vs I.lt I.gl hlen HC hargs).mono ?_
          rintro e w' ⟨v,F',ρ',rfl,hbel,hFF,hFs,hFl,H',hold,hnew,hv⟩
          obtain ⟨dead,hdead⟩:∃ dead,dead=deadN (keysH q.2) ids 0:=⟨_,rfl⟩
          obtain ⟨ρ1,I1,hρ1⟩:=Inv.drops dead I
          have nm_old:∀ j,j < ids.length→nameN ids d j=ids.getD j 0:=fun j hj=>by simp [nameN,hj]
          have nm_new:∀ j,ids.length≤j→nameN ids d j=d+100000 * (j - ids.length):=fun j hj=>by simp only [nameN]; rw [if_neg (by omega)]
          have notIds:∀ j∈keysH q.2,ids.length≤j→nameN ids d j ∉ ids:=by
            intro j hj hl hm
            obtain ⟨_,x,h2⟩:=hpk _ hm
            rw [(hfr j hj hl).1] at h2; simp at h2
          -- back from names
          obtain ⟨bk,hbk⟩:∃ bk:Nat→Nat,bk=fun id=>if id∈ids then idxN ids id else ids.length+(id - d) / 100000:=⟨_,rfl⟩
          have bk_nm:∀ j∈keysH q.2,bk (nameN ids d j)=j:=by
            intro j hj
            by_cases hl:j < ids.length
            · rw [nm_old j hl,hbk]
              simp only [getD_mem hl,if_true,get_idxN hnd hl]
            · have hl':ids.length≤j:=by omega
              rw [hbk]
              simp only [notIds j hj hl',if_false]
              rw [nm_new j hl']
              omega
          have nm_inj:∀ i∈keysH q.2,∀ j∈keysH q.2,nameN ids d j=nameN ids d i→j=i:=by
            intro i hi j hj e
            rw [← bk_nm j hj,e,bk_nm i hi]
          -- the new places
          obtain ⟨own,hown⟩:∃ own:Nat→Prop,own=fun id=>id∈ids∨∃ j∈keysH q.2,nameN ids d j=id:=⟨_,rfl⟩
          have hdec:∀ id,own id∨¬ own id:=fun id=>Classical.em _
          obtain ⟨ρ2,hρ2⟩:∃ ρ2:Rho,(∀ id,own id→ρ2 id=ρ' (bk id))∧∀ id,¬ own id→ρ2 id=ρ id:=by
            refine ⟨fun id => @ite _ (own id) (Classical.propDecidable _) (ρ' (bk id)) (ρ id),fun id h=>?_,fun id h=>?_⟩
            · simp [h]
            · simp [h]
          obtain ⟨hρ2o,hρ2n⟩:=hρ2
          have own_nm:∀ j∈keysH q.2,own (nameN ids d j):=fun j hj=>by rw [hown]; exact .inr ⟨j,hj,rfl⟩
          have ρ2_nm:∀ j∈keysH q.2,ρ2 (nameN ids d j)=ρ' j:=fun j hj=>by rw [hρ2o _ (own_nm j hj),bk_nm j hj]
          have key_of:∀ j p,ρ' j=some p→j∈keysH q.2:=fun j p h=>by obtain ⟨x,hx⟩:=H'.dom j p h; exact hlk_keys hx
          have nm_bk:∀ id p,own id→ρ' (bk id)=some p→nameN ids d (bk id)=id∧bk id∈keysH q.2:=by
            intro id p ho h
            have hk:=key_of _ _ h
            refine ⟨?_,hk⟩
            rw [hown] at ho
            rcases ho with ho | ⟨j,hj,e⟩
            · rw [hbk]; simp only [ho,if_true]
              rw [nm_old _ (idxN_lt ho),idxN_get ho]
            · rw [← e,bk_nm j hj]
          have hbor:∀ b,(∃ id o,ρC id=some (b,o))→∃ i∈ids,∃ o,ρ i=some (b,o):=by
            rintro b ⟨id,o,h⟩
            obtain ⟨hk,h⟩:=hCs id _ h
            exact ⟨_,getD_mem hk,o,h⟩
          have hblt:∀ i b o,ρ i=some (b,o)→b < w.heap.size∧¬ F b∧(w0.heap.size≤b∨F0.bor b):=by
            intro i b o h
            obtain ⟨x,hx⟩:=I.dom i _ h
            obtain ⟨b',o',g1,g2,g3,g4,_⟩:=I.obj i x hx
            rw [h] at g1; injection g1 with g1; injection g1 with g1 _; subst g1
            exact ⟨g3,g4,g2⟩
          have HF:FExt w w' F F':=fun b hb=>⟨hFF b hb,hbel.block b (I.lt b hb) (fun hB=>by
            obtain ⟨i,_,o,h⟩:=hbor b hB
            exact (hblt i b o h).2.1 hb)⟩
          have hplace:∀ j b o,ρ' j=some (b,o)→w.heap.size≤b∨∃ i∈ids,∃ o',ρ i=some (b,o'):=by
            intro j b o h
            cases hc:ρC j with
            | none =>
              rcases hnew j b o h hc with h | h
              · exact .inl h
              · exact .inr (hbor b h)
            | some p =>
              rcases hold j p hc with h' | h'
              · rw [h] at h'; simp at h'
              · rw [h] at h'; injection h' with h'; subst h'
                exact .inr (hbor b ⟨j,o,hc⟩)
          have HR2:RExt w w' ρ1 ρ2 (fun _=>True):=by
            refine ⟨?_,?_⟩
            · intro id p _ h
              obtain ⟨h1,h2⟩:=hρ1 id p h
              rcases hdec id with ho | ho
              · rw [hρ2o id ho]
                have hmem:id∈ids:=by
                  have ho':=ho
                  rw [hown] at ho'
                  rcases ho' with h | ⟨j,hj,e⟩
                  · exact h
                  · by_cases hl:j < ids.length
                    · rw [← e,nm_old j hl]; exact getD_mem hl
                    · have:=(hfr j hj (by omega)).1
                      rw [e] at this
                      obtain ⟨x,hx⟩:=I.dom id p h1
                      rw [this] at hx; simp at hx
                have e1:bk id=idxN ids id:=by rw [hbk]; simp [hmem]
                rw [e1]
                have hc:=hC id hmem
                have hkey:idxN ids id∈keysH q.2:=by
                  apply Classical.byContradiction
                  intro hn
                  apply h2
                  rw [hdead]
                  have:=mem_deadN (ks:=keysH q.2) (l:=ids) (j:=0) (k:=idxN ids id) (idxN_lt hmem) (by simpa using hn)
                  rwa [idxN_get hmem] at this
                obtain ⟨x,hx⟩:=keys_hlk hkey
                obtain ⟨b,o,g1,_⟩:=H'.obj _ x hx
                rcases hold _ p (by rw [hc]; exact h1) with h | h
                · rw [g1] at h; simp at h
                · exact h
              · rw [hρ2n id ho]; exact h1
            · intro id b o c e f _ h hc
              exact hbel.shp b c e f (hblt id b o (hρ1 id _ h).1).1 hc
          refine ⟨v,F',ρ2,rfl,?_⟩
          rw [← hr,← hdead]
          simp only [fin]
          refine ⟨I.cap,?_,?_,?_,fun b h=>hFF b (I.kf b h),hFl,by rw [put_size]; exact I.rng,?_,?_,?_,?_,by rw [put_defers]; exact I.defs,I.gl.mono HF⟩
          · intro id hid
            rcases hdec id with ho | ho
            · rw [hρ2o id ho]
              have ho':=ho
              rw [hown] at ho'
              rcases ho' with hm | ⟨j,hj,e⟩
              · have e1:bk id=idxN ids id:=by rw [hbk]; simp [hm]
                rw [e1]
                cases hc:ρ id with
                | none =>
                  obtain ⟨_,x,h2⟩:=hpk id hm
                  obtain ⟨b,o,g1,_⟩:=I.obj id x h2
                  rw [hc] at g1; simp at g1
                | some p =>
                  rcases hold _ p (by rw [hC id hm]; exact hc) with h | h
                  · exact .inl h
                  · rcases I.old id hid with h' | h'
                    · rw [hc] at h'; simp at h'
                    · exact .inr (by rw [h,← h',hc])
              · by_cases hl:j < ids.length
                · have hm:id∈ids:=by rw [← e,nm_old j hl]; exact getD_mem hl
                  have e1:bk id=idxN ids id:=by rw [hbk]; simp [hm]
                  rw [e1]
                  cases hc:ρ id with
                  | none =>
                    obtain ⟨_,x,h2⟩:=hpk id hm
                    obtain ⟨b,o,g1,_⟩:=I.obj id x h2
                    rw [hc] at g1; simp at g1
                  | some p =>
                    rcases hold _ p (by rw [hC id hm]; exact hc) with h | h
                    · exact .inl h
                    · rcases I.old id hid with h' | h'
                      · rw [hc] at h'; simp at h'
                      · exact .inr (by rw [h,← h',hc])
                · have:=(hfr j hj (by omega)).2
                  omega
            · rw [hρ2n id ho]; exact I.old id hid
          · refine I.below.trans ⟨hbel.os,hbel.tape,hbel.output,hbel.size,fun k hk hB=>hbel.block k (Nat.lt_of_lt_of_le hk I.below.size) ?_,fun k c e f hk hc=>hbel.shp k c e f (Nat.lt_of_lt_of_le hk I.below.size) hc⟩
            intro hb
            obtain ⟨i,_,o,h⟩:=hbor k hb
            rcases (hblt i k o h).2.2 with h | h
            · omega
            · exact hB h
          · intro b hb
            rcases hFs b hb with h | h | h
            · exact I.src b h
            · exact .inr (.inl (Nat.le_trans I.below.size h))
            · obtain ⟨i,_,o,h⟩:=hbor b h
              exact .inr (hblt i b o h).2.2
          · intro id p h
            rw [hlk_append]
            rcases hdec id with ho | ho
            · rw [hρ2o id ho] at h
              obtain ⟨h1,h2⟩:=nm_bk id p ho h
              obtain ⟨y,hy⟩:=keys_hlk h2
              have:=hlk_mapH (g:=nameN ids d) (l:=q.2) (i:=bk id) (y:=y) (fun j hj e=>nm_inj _ h2 j hj e) hy
              rw [h1] at this
              exact ⟨_,by rw [this]⟩
            · rw [hρ2n id ho] at h
              have hni:id ∉ ids:=fun hm=>ho (by rw [hown]; exact .inl hm)
              have hnd':id ∉ dead:=fun hm=>by
                rw [hdead] at hm
                obtain ⟨k,k1,k2,_⟩:=deadN_mem hm
                exact hni (k2 ▸ getD_mem k1)
              have hkh:∀ (ds:List Nat) (l:List (Nat × AObj)),id ∉ ds→(∃ x,hlk l id=some x)→∃ x,hlk (killHs ds l) id=some x:=by
                intro ds
                induction ds with
                | nil=>intro l _ h; exact h
                | cons d' r ih =>
                  intro l hn h
                  obtain ⟨x,hx⟩:=h
                  simp only [killHs]
                  refine ih _ (fun hm=>hn (by simp [hm])) ⟨killO d' x,?_⟩
                  rw [hlk_killH,if_neg (fun e=>hn (by simp [e])),hx]; rfl
              obtain ⟨x,hx⟩:=I.dom id p h
              obtain ⟨y,hy⟩:=hkh dead hp hnd' ⟨x,hx⟩
              rw [killHs_restH,hlk_restH,if_neg hni,hy]
              cases hlk (mapH (nameN ids d) q.2) id <;> simp
          · intro id x h
            rw [hlk_append] at h
            cases hA:hlk (mapH (nameN ids d) q.2) id with
            | some x' =>
              rw [hA] at h
              injection h with h; subst h
              obtain ⟨j,y,h1,h2,h3⟩:=hlk_mapH_some hA
              have hj:=hlk_keys h1
              obtain ⟨b,o,g1,g2,g3,g4⟩:=H'.obj j y h1
              refine ⟨b,o,by rw [← h2,ρ2_nm j hj]; exact g1,?_,g2,g3,?_⟩
              · rcases hplace j b o g1 with h | ⟨i,_,o',h⟩
                · exact .inl (Nat.le_trans I.below.size h)
                · exact (hblt i b o' h).2.2
              · rw [h3]
                refine RepO.ren y (fun id' hid'=>?_) g4
                obtain ⟨p,hp'⟩:=RepO.has y g4 id' hid'
                exact ρ2_nm id' (key_of id' p hp')
            | none =>
              rw [hA] at h
              simp only at h
              rw [killHs_restH,hlk_restH] at h
              split at h
              · simp at h
              · rename_i hni
                obtain ⟨b,o,g1,g2,g3,g4,g5⟩:=I1.obj id x h
                have g1':=(hρ1 id _ g1).1
                refine ⟨b,o,HR2.rho id _ trivial g1,g2,Nat.lt_of_lt_of_le g3 hbel.size,?_,?_⟩
                · intro hb
                  rcases hFs b hb with h | h | h
                  · exact g4 h
                  · omega
                  · obtain ⟨i,hi,o',h'⟩:=hbor b h
                    exact hni (I.inj id i b o o' g1' h' ▸ hi)
                · refine RepO.mono HF HR2 (hbel.block b g3 ?_) x g5
                  intro hB
                  obtain ⟨i,hi,o',h'⟩:=hbor b hB
                  exact hni (I.inj id i b o o' g1' h' ▸ hi)
          · intro id id' b o o' h h'
            rcases hdec id with ho | ho <;> rcases hdec id' with ho' | ho'
            · rw [hρ2o id ho] at h
              rw [hρ2o id' ho'] at h'
              have e:=H'.inj _ _ b o o' h h'
              rw [← (nm_bk id _ ho h).1,e,(nm_bk id' _ ho' h').1]
            · exfalso
              rw [hρ2o id ho] at h
              rw [hρ2n id' ho'] at h'
              rcases hplace _ b o h with h1 | ⟨i,hi,o2,h1⟩
              · have:=(hblt id' b o' h').1; omega
              · exact ho' (by rw [hown]; exact .inl (I.inj id' i b o' o2 h' h1 ▸ hi))
            · exfalso
              rw [hρ2o id' ho'] at h'
              rw [hρ2n id ho] at h
              rcases hplace _ b o' h' with h1 | ⟨i,hi,o2,h1⟩
              · have:=(hblt id b o h).1; omega
              · exact ho (by rw [hown]; exact .inl (I.inj id i b o o2 h h1 ▸ hi))
            · rw [hρ2n id ho] at h
              rw [hρ2n id' ho'] at h'
              exact I.inj id id' b o o' h h'
          · refine slot_put I.rng (fun i=>Rep.mono HF ρ1 ρ2 HR2 _ _ (I1.slot i)) hd ?_
            refine Rep.ren _ _ (fun id hid=>?_) hv
            obtain ⟨p,hp'⟩:=Rep.has _ _ hv id hid
            exact ρ2_nm id (key_of id p hp')
        · simp at hr
    · simp at hr

theorem Inv.rename (I:Inv T w0 F0 n ⟨fr,hp⟩ a w F ρ) {x y:Nat} (hne:x ≠ y) (hy:hlk hp y=none) (hx6:x < 1000000) (hy6:y < 1000000) :
    ∃ ρ',Inv T w0 F0 n ⟨mapF (swapN x y) fr,mapH (swapN x y) hp⟩ a w F ρ':=by
  have hρy:ρ y=none:=by
    cases h:ρ y with
    | none=>rfl
    | some p=>obtain ⟨z,hz⟩:=I.dom y p h; simp only at hz; rw [hy] at hz; simp at hz
  have key:∀ id p,ρ id=some p→(fun id=>if id=y then ρ x else if id=x then none else ρ id) (swapN x y id)=ρ id:=by
    intro id p h
    have hid:id ≠ y:=fun e=>by rw [e,hρy] at h; simp at h
    by_cases e:id=x
    · subst e; simp [swapN]
    · simp [swapN,e,hid]
  have kinj:∀ i∈keysH hp,∀ j∈keysH hp,swapN x y j=swapN x y i→j=i:=by
    intro i hi j hj e
    have ne:∀ k∈keysH hp,k ≠ y:=fun k hk e=>by obtain ⟨z,hz⟩:=keys_hlk hk; rw [e,hy] at hz; simp at hz
    have n1:=ne i hi
    have n2:=ne j hj
    simp only [swapN] at e
    split at e <;> split at e <;> simp_all
  refine ⟨fun id=>if id=y then ρ x else if id=x then none else ρ id,I.cap,?_,I.below,I.src,I.kf,I.lt,I.rng,?_,?_,?_,?_,I.defs,I.gl⟩
  · intro id hid
    rw [if_neg (by omega),if_neg (by omega)]; exact I.old id hid
  · intro id p h
    simp only at h ⊢
    have back:∀ i,ρ i=some p→swapN x y i=id→∃ z,hlk (mapH (swapN x y) hp) id=some z:=by
      intro i hi e
      obtain ⟨z,hz⟩:=I.dom i p hi
      have:=hlk_mapH (g:=swapN x y) (l:=hp) (i:=i) (y:=z) (fun j hj e=>kinj i (hlk_keys hz) j hj e) hz
      rw [e] at this; exact ⟨_,this⟩
    split at h
    · rename_i e; exact back x h (by simp [swapN,e])
    · split at h
      · simp at h
      · rename_i e1 e2; exact back id h (by simp [swapN,e2])
  · intro id z h
    obtain ⟨i,u,h1,h2,h3⟩:=hlk_mapH_some h
    obtain ⟨b,o,g1,g2,g3,g4,g5⟩:=I.obj i u h1
    refine ⟨b,o,?_,g2,g3,g4,?_⟩
    · rw [← h2]; exact (key i _ g1).trans g1
    · rw [h3]
      refine RepO.ren u (fun id hid=>?_) g5
      obtain ⟨p,hp'⟩:=RepO.has u g5 id hid
      exact key id p hp'
  · intro id id' b o o' h h'
    have conv:∀ id o,(if id=y then ρ x else if id=x then none else ρ id)=some (b,o)→∃ i,ρ i=some (b,o)∧swapN x y i=id:=by
      intro id o h
      split at h
      · rename_i e; exact ⟨x,h,by simp [swapN,e]⟩
      · split at h
        · simp at h
        · rename_i e1 e2; exact ⟨id,h,by simp [swapN,e2]⟩
    obtain ⟨i,h1,h2⟩:=conv id o h
    obtain ⟨i',h1',h2'⟩:=conv id' o' h'
    rw [← h2,← h2',I.inj i i' b o o' h1 h1']
  · intro i
    have lk_mapF:∀ (l:List (Nat × AV)),lk (mapF (swapN x y) l) i=mapId (swapN x y) (lk l i):=by
      intro l
      induction l with
      | nil=>simp [mapF,lk,mapId]
      | cons p r ih=>simp only [mapF,lk]; split <;> first | rfl | exact ih
    simp only [lk_mapF]
    refine Rep.ren _ _ (fun id hid=>?_) (I.slot i)
    obtain ⟨p,hp'⟩:=Rep.has _ _ (I.slot i) id hid
    exact key id p hp'

theorem frzG_rep (I:Inv T w0 F0 n ⟨fr,hp⟩ a w F ρ) {d b o:Nat} {ob:AObj} (ho:hlk hp d=some ob) (hn:noRefO ob=true) (hb:ρ d=some (b,o)) :
    ∀ y u,isRef y=true→Rep T w F ρ y u→Rep T w (fun k=>F k∨k=b) (fun id=>if id=d then none else ρ id) (frzG d ob y) u:=by
  intro y u hy hr
  obtain ⟨b',o',g1,_,_,_,g5⟩:=I.obj d _ ho
  rw [hb] at g1; injection g1 with g1; injection g1 with g1 g1'; subst g1; subst g1'
  have HFG:∀ k,F k→(F k∨k=b):=fun k h=>.inl h
  cases y <;> simp [isRef] at hy
  case ref id off =>
    by_cases e:id=d
    · subst e
      simp only [Rep] at hr
      obtain ⟨b1,o1,h1,hv⟩:=hr
      rw [hb] at h1; injection h1 with h1; injection h1 with h1 h1'; subst h1; subst h1'
      cases ob with
      | mp es=>simp [frzG,Rep]
      | sit s p=>simp [frzG,Rep]
      | mit q0 q1=>simp [frzG,Rep]
      | cells cs =>
        simp only [frzG,if_true]
        obtain ⟨us,k1,k2⟩:=obj_cells g5
        refine ⟨b,o+off,hv,?_⟩
        have:=repAt_of (s:=fun x=>x) (T:=T) (w:=w) (F:=F) (ρ:=noRho) (G:=fun k=>F k∨k=b) (cs:=cs.drop off) (us:=us.drop off) (off:=o+off) (fun x v h=>Rep.mono (FExt.self HFG) noRho noRho (RExt.no _ _ _) x v h) (.inr rfl) (fun j q hj=>by
          rw [List.getElem?_drop] at hj
          have:=k1 _ q hj
          rwa [show o+off+j=o+(off+j) by omega]) ((RepL.down _ _ (by simpa [noRefO] using hn) k2).drop off)
        simpa using this
    · simp only [frzG,e,if_false]
      simp only [Rep] at hr ⊢
      simpa [e] using hr
  case msl id es off m =>
    by_cases e:id=d
    · subst e
      simp only [Rep] at hr
      obtain ⟨b1,o1,x0,cap,c,e',f',h1,hv,hle,hblk,hsz⟩:=hr
      rw [hb] at h1; injection h1 with h1; injection h1 with h1 h1'; subst h1; subst h1'
      cases ob with
      | mp es=>simp [frzG,Rep]
      | sit s p=>simp [frzG,Rep]
      | mit q0 q1=>simp [frzG,Rep]
      | cells cs =>
        simp only [frzG,if_true]
        split
        · rename_i hc
          obtain ⟨hl,hat,hes⟩:=hc
          obtain ⟨us,k1,k2⟩:=obj_cells g5
          have hat2:RepAt T w (fun k=>F k∨k=b) b (o+off) (cs.drop off):=by
            have:=repAt_of (s:=fun x=>x) (T:=T) (w:=w) (F:=F) (ρ:=noRho) (G:=fun k=>F k∨k=b) (cs:=cs.drop off) (us:=us.drop off) (off:=o+off) (fun x v h=>Rep.mono (FExt.self HFG) noRho noRho (RExt.no _ _ _) x v h) (.inr rfl) (fun j q hj=>by
              rw [List.getElem?_drop] at hj
              have:=k1 _ q hj
              rwa [show o+off+j=o+(off+j) by omega]) ((RepL.down _ _ (by simpa [noRefO] using hn) k2).drop off)
            simpa using this
          have hna:∀ y∈cs.drop off,∀ l,y ≠ .agg l:=by
            intro y hy l e
            have:=atoms_mem hat (List.mem_of_mem_drop hy)
            rw [e] at this; simp [atom] at this
          have hdl:(cs.drop off).length=cs.length - off:=by simp
          simp only [Rep,elems]
          by_cases he:es=1
          · subst he
            simp only [if_true]
            refine .inl ⟨b,x0,cap,?_,?_,?_⟩
            · rw [List.length_take,hdl,hv]; congr 1; omega
            · rw [List.length_take]; omega
            · rcases hsz with h0 | ⟨h0,_⟩
              · have:m=0:=by omega
                subst this; simp [RepSl]
              · rw [h0]
                exact repSl_one (fun c hc=>hna c (List.mem_of_mem_take hc)) (hat2.take m)
          · simp only [he,if_false]
            refine .inl ⟨b,x0,cap,?_,?_,?_⟩
            · rw [group_length,hv]
            · rw [group_length]; exact hle
            · rcases hsz with h0 | ⟨h0,_⟩
              · have:m=0:=by omega
                subst this; simp [group,RepSl]
              · rw [h0]
                exact repSl_group (by rw [hdl]; omega) hat2
        · simp [Rep]
    · simp only [frzG,e,if_false]
      simp only [Rep] at hr ⊢
      simpa [e] using hr
  case mref id =>
    by_cases e:id=d
    · subst e
      simp only [Rep] at hr
      obtain ⟨b1,o1,h1,hv⟩:=hr
      rw [hb] at h1; injection h1 with h1; injection h1 with h1 h1'; subst h1; subst h1'
      cases ob with
      | cells cs=>simp [frzG,Rep]
      | sit s p=>simp [frzG,Rep]
      | mit q0 q1=>simp [frzG,Rep]
      | mp es =>
        simp only [frzG,if_true]
        obtain ⟨ents,clk,h3,h4⟩:=g5
        exact ⟨b,ents,clk,hv,.inr rfl,h3,RepMP.mono (FExt.self HFG) h4.1,h4.2⟩
    · simp only [frzG,e,if_false]
      simp only [Rep] at hr ⊢
      simpa [e] using hr

theorem hlk_frzH (d:Nat) (ob:AObj):∀ (l:List (Nat × AObj)) (i:Nat),hlk (frzH d ob l) i=if i=d then none else (hlk l i).map (frzO d ob)
  | [],i=>by simp [frzH,hlk]
  | (j,x)::r,i=>by
    have ih:=hlk_frzH d ob r i
    simp only [frzH]
    by_cases hj:j=d
    · simp only [hj,if_true,ih,hlk]
      by_cases hi:i=d
      · simp [hi]
      · rw [if_neg hi,if_neg hi,if_neg (fun h=>hi h.symm)]
    · simp only [hj,if_false,hlk]
      by_cases hi:i=d
      · subst hi; simp [ih,hj]
      · by_cases hji:j=i
        · simp [hji,hi]
        · rw [if_neg hji,if_neg hji,ih]

theorem Inv.freeze (I:Inv T w0 F0 n ⟨fr,hp⟩ a w F ρ) {d:Nat} {ob:AObj} (ho:hlk hp d=some ob) (hn:noRefO ob=true) :
    ∃ F' ρ',Inv T w0 F0 n ⟨frzF d ob fr,frzH d ob hp⟩ a w F' ρ':=by
  obtain ⟨b,o,g1,g2,g3,g4,g5⟩:=I.obj d _ ho
  · 
    have hg:=frzG_rep I ho hn g1
    have HFG:∀ k,F k→(F k∨k=b):=fun k h=>.inl h
    refine ⟨fun k=>F k∨k=b,fun id=>if id=d then none else ρ id,I.cap,fun id hid=>by by_cases e:id=d <;> simp [e]; exact I.old id hid,I.below,?_,fun b h=>.inl (I.kf b h),?_,I.rng,?_,?_,?_,?_,I.defs,I.gl.mono fun k h=>⟨.inl h,rfl⟩⟩
    · rintro k (h | h)
      · exact I.src k h
      · exact .inr (h ▸ g2)
    · rintro k (h | h)
      · exact I.lt k h
      · exact h ▸ g3
    · intro id p h
      simp only [hlk_frzH]
      by_cases e:id=d
      · simp [e] at h
      · simp only [e,if_false] at h ⊢
        obtain ⟨x,hx⟩:=I.dom id p h
        simp only at hx
        exact ⟨frzO d ob x,by rw [hx]; rfl⟩
    · intro id x h
      simp only [hlk_frzH] at h
      by_cases e:id=d
      · simp [e] at h
      · rw [if_neg e] at h
        cases hz:hlk hp id with
        | none=>simp [hz] at h
        | some z =>
          simp [hz] at h; subst h
          obtain ⟨b1,o1,k1,k2,k3,k4,k5⟩:=I.obj id z hz
          refine ⟨b1,o1,by simp [e,k1],k2,k3,?_,?_⟩
          · rintro (h | h)
            · exact k4 h
            · exact e (I.inj id d b1 o1 o k1 (by rw [h]; exact g1))
          · cases z with
            | mp es =>
              obtain ⟨ents,clk,q1,q2⟩:=k5
              exact ⟨ents,clk,q1,RepMP.mono (FExt.self HFG) q2.1,q2.2⟩
            | sit s p=>exact k5
            | mit es cur =>
              obtain ⟨q0,r,since,seen,last,ents,clk,q1,q2,q3,q4,q5,q6,q7,q8,q9⟩:=k5
              exact ⟨q0,r,since,seen,last,ents,clk,q1,HFG r q2,q3,q4,q5,q6,q7,RepMP.mono (FExt.self HFG) q8,fun k v e=>by
                obtain ⟨k1,x,k2,s0,k3,k4,k5⟩:=q9 k v e
                exact ⟨k1,x,k2,s0,k3,k4,Rep.mono (FExt.self HFG) noRho noRho ⟨fun _ _ _ h=>h,fun _ _ _ _ _ _ _ h=>by simp [noRho] at h⟩ v _ k5⟩⟩
            | cells cs =>
              obtain ⟨pre,vs,post,e1,f1,q1,q2,q3,q4⟩:=k5
              exact ⟨pre,vs,post,e1,f1,q1,q2,snapWL_rep HFG hg cs vs q3,q4⟩
    · intro id id' b1 o1 o2 h h'
      by_cases e:id=d
      · simp [e] at h
      · by_cases e':id'=d
        · simp [e'] at h'
        · simp only [e,e',if_false] at h h'
          exact I.inj id id' b1 o1 o2 h h'
    · intro i
      have lk_frzF:∀ (l:List (Nat × AV)),lk (frzF d ob l) i=snapW (frzG d ob) (lk l i):=by
        intro l
        induction l with
        | nil=>simp [frzF,lk,snapW]
        | cons p r ih=>simp only [frzF,lk]; split <;> first | rfl | exact ih
      simp only [lk_frzF]
      exact snapW_rep HFG hg _ _ (I.slot i)

theorem gstep_inv {st:St} (I:Inv T w0 F0 n st a w F ρ):∀ g:GOp,∃ F' ρ',Inv T w0 F0 n (gstep st g) a w F' ρ'
  | .drop d=>⟨F,_,I.drop d⟩
  | .frz d=>by
    obtain ⟨fr,hp⟩:=st
    simp only [gstep]
    cases ho:hlk hp d with
    | none=>exact ⟨F,ρ,I⟩
    | some ob =>
      simp only
      split
      · rename_i hn; exact I.freeze ho hn
      · exact ⟨F,_,I.drop d⟩
  | .ren x y=>by
    obtain ⟨fr,hp⟩:=st
    simp only [gstep]
    split
    · exact ⟨F,ρ,I⟩
    · rename_i h
      simp only [not_or,Nat.not_le,Bool.not_eq_true,Option.isSome_eq_false_iff,Option.isNone_iff_eq_none] at h
      obtain ⟨ρ',I'⟩:=I.rename h.1 h.2.1 h.2.2.1 h.2.2.2
      exact ⟨F,ρ',I'⟩

theorem gsteps_inv:∀ (l:List GOp) {st:St} {F:Frz} {ρ:Rho},Inv T w0 F0 n st a w F ρ→∃ F' ρ',Inv T w0 F0 n (gsteps l st) a w F' ρ'
  | [],_,F,ρ,I=>⟨F,ρ,I⟩
  | g::r,_,_,_,I=>by
    obtain ⟨F',ρ',I'⟩:=gstep_inv I g
    exact gsteps_inv r I'
end
end Wax


namespace Wax
open Go (IntKind)

mutual
theorem kill_no {d:Nat}:∀ {v:AV},d ∉ refs v→kill d v=v
  | .ref id off,h=>by
    have h':¬ id=d:=fun e=>h (by simp [refs,e])
    simp [kill,h']
  | .msl id es off n,h=>by
    have h':¬ id=d:=fun e=>h (by simp [refs,e])
    simp [kill,h']
  | .mref id,h=>by
    have h':¬ id=d:=fun e=>h (by simp [refs,e])
    simp [kill,h']
  | .agg cs,h=>by simp only [kill,AV.agg.injEq]; exact killL_no (by simpa [refs] using h)
  | .tup cs,h=>by simp only [kill,AV.tup.injEq]; exact killL_no (by simpa [refs] using h)
  | .ifc _ v,h=>by simp only [kill,AV.ifc.injEq,true_and]; exact kill_no (by simpa [refs] using h)
  | .fn _ cs,h=>by simp only [kill,AV.fn.injEq,true_and]; exact killL_no (by simpa [refs] using h)
  | .junk,_=>rfl
  | .bool _,_=>rfl
  | .int _ _,_=>rfl
  | .str _,_=>rfl
  | .nilI,_=>rfl
  | .nilP,_=>rfl
  | .nilF,_=>rfl
  | .nilM,_=>rfl
  | .nilS,_=>rfl
  | .gp _,_=>rfl
  | .sl _ _,_=>rfl
  | .ptr _,_=>rfl
  | .bx _,_=>rfl
  | .mp _,_=>rfl
theorem killL_no {d:Nat}:∀ {l:List AV},d ∉ refsL l→killL d l=l
  | [],_=>rfl
  | v::r,h=>by
    simp only [refsL,List.mem_append,not_or] at h
    simp only [killL,kill_no h.1,killL_no h.2]
end
mutual
theorem refs_none:∀ {v:AV},hasRef v=false→refs v=[]
  | .ref id off,h=>by simp [hasRef] at h
  | .msl id es off n,h=>by simp [hasRef] at h
  | .mref id,h=>by simp [hasRef] at h
  | .agg cs,h=>by simp only [refs]; exact refsL_none (by simpa [hasRef] using h)
  | .tup cs,h=>by simp only [refs]; exact refsL_none (by simpa [hasRef] using h)
  | .ifc _ v,h=>by simp only [refs]; exact refs_none (by simpa [hasRef] using h)
  | .fn _ cs,h=>by simp only [refs]; exact refsL_none (by simpa [hasRef] using h)
  | .junk,_=>rfl
  | .bool _,_=>rfl
  | .int _ _,_=>rfl
  | .str _,_=>rfl
  | .nilI,_=>rfl
  | .nilP,_=>rfl
  | .nilF,_=>rfl
  | .nilM,_=>rfl
  | .nilS,_=>rfl
  | .gp _,_=>rfl
  | .sl _ _,_=>rfl
  | .ptr _,_=>rfl
  | .bx _,_=>rfl
  | .mp _,_=>rfl
theorem refsL_none:∀ {l:List AV},hasRefL l=false→refsL l=[]
  | [],_=>rfl
  | v::r,h=>by
    simp only [hasRefL,Bool.or_eq_false_iff] at h
    simp only [refsL,refs_none h.1,refsL_none h.2,List.append_nil]
end
mutual
theorem kill_comm (a b:Nat):∀ v:AV,kill a (kill b v)=kill b (kill a v)
  | .ref id off=>by
    by_cases h1:id=a <;> by_cases h2:id=b <;> simp [kill,h1,h2] <;> (try simp [kill,h1,h2]) <;> (try (intro e; simp_all [kill])) <;> simp_all [kill]
  | .msl id es off n=>by
    by_cases h1:id=a <;> by_cases h2:id=b <;> simp [kill,h1,h2] <;> (try simp [kill,h1,h2]) <;> (try (intro e; simp_all [kill])) <;> simp_all [kill]
  | .mref id=>by
    by_cases h1:id=a <;> by_cases h2:id=b <;> simp [kill,h1,h2] <;> (try simp [kill,h1,h2]) <;> (try (intro e; simp_all [kill])) <;> simp_all [kill]
  | .agg cs=>by simp only [kill,killL_comm a b cs]
  | .tup cs=>by simp only [kill,killL_comm a b cs]
  | .ifc _ v=>by simp only [kill,kill_comm a b v]
  | .fn _ cs=>by simp only [kill,killL_comm a b cs]
  | .junk=>rfl
  | .bool _=>rfl
  | .int _ _=>rfl
  | .str _=>rfl
  | .nilI=>rfl
  | .nilP=>rfl
  | .nilF=>rfl
  | .nilM=>rfl
  | .nilS=>rfl
  | .gp _=>rfl
  | .sl _ _=>rfl
  | .ptr _=>rfl
  | .bx _=>rfl
  | .mp _=>rfl
theorem killL_comm (a b:Nat):∀ l:List AV,killL a (killL b l)=killL b (killL a l)
  | []=>rfl
  | v::r=>by simp only [killL,kill_comm a b v,killL_comm a b r]
end
theorem killO_comm (a b:Nat) (o:AObj):killO a (killO b o)=killO b (killO a o):=by
  cases o <;> simp [killO,killL_comm a b]
theorem killO_no {d:Nat} {o:AObj} (h:d ∉ refsO o):killO d o=o:=by
  cases o with
  | cells cs=>simp only [killO,AObj.cells.injEq]; exact killL_no (by simpa [refsO] using h)
  | mp _=>rfl
  | sit _ _=>rfl
  | mit _ _=>rfl
theorem killH_comm (a b:Nat):∀ hp:List (Nat × AObj),killH a (killH b hp)=killH b (killH a hp)
  | []=>rfl
  | (i,o)::r=>by
    by_cases h1:i=a
    · by_cases h2:i=b
      · simp only [killH,if_pos h1,if_pos h2,killH_comm a b r]
      · simp only [killH,if_pos h1,if_neg h2,killH_comm a b r]
    · by_cases h2:i=b
      · simp only [killH,if_neg h1,if_pos h2,killH_comm a b r]
      · simp only [killH,if_neg h1,if_neg h2,killH_comm a b r,killO_comm a b]
theorem killH_end {d q:Nat} (h:q ≠ d) {Z:AObj} (hz:d ∉ refsO Z):∀ hp:List (Nat × AObj),killH d (hp++[(q,Z)])=killH d hp++[(q,Z)]
  | []=>by simp only [List.nil_append,killH,if_neg h,killO_no hz]
  | (i,o)::r=>by
    simp only [List.cons_append,killH]
    split
    · exact killH_end h hz r
    · rw [killH_end h hz r]; rfl
theorem hlk_end {q:Nat} {Z:AObj} {j:Nat} (h:j ≠ q):∀ hp:List (Nat × AObj),hlk (hp++[(q,Z)]) j=hlk hp j
  | []=>by simp only [List.nil_append,hlk,if_neg (Ne.symm h)]
  | (i,o)::r=>by
    simp only [List.cons_append,hlk]
    split
    · rfl
    · exact hlk_end h r

def hpE (q:Nat) (Z:AObj) (hp:List (Nat × AObj)):List (Nat × AObj):=killH q hp++[(q,Z)]
theorem hlk_E {q:Nat} {Z:AObj} {hp:List (Nat × AObj)} {j:Nat} {o:AObj} (h:j ≠ q) (hj:hlk hp j=some o) (ho:q ∉ refsO o):hlk (hpE q Z hp) j=some o:=by
  rw [hpE,hlk_end h,hlk_killH,if_neg h,hj,Option.map_some,killO_no ho]
theorem hlk_E_none {q:Nat} {Z:AObj} {hp:List (Nat × AObj)} {j:Nat} (h:j ≠ q) (hj:hlk hp j=none):hlk (hpE q Z hp) j=none:=by
  rw [hpE,hlk_end h,hlk_killH,if_neg h,hj,Option.map_none]
theorem noD_spec {q:Nat} {hp:List (Nat × AObj)} {v:AV} (h:noD q hp v=true):q ∉ refs v∧∀ j∈refs v,∀ o,hlk hp j=some o→q ∉ refsO o:=by
  simp only [noD,Bool.and_eq_true,Bool.not_eq_true',List.all_eq_true] at h
  refine ⟨fun hm=>?_,fun j hj o ho hm=>?_⟩
  · have:=h.1; simp [hm] at this
  · have:=h.2 j hj; rw [ho] at this; simp [hm] at this
theorem noD_E {q:Nat} {Z:AObj} {hp:List (Nat × AObj)} {v:AV} (h:noD q hp v=true):noD q (hpE q Z hp) v=true:=by
  obtain ⟨h1,h2⟩:=noD_spec h
  simp only [noD,Bool.and_eq_true,Bool.not_eq_true',List.all_eq_true]
  refine ⟨by simpa using h1,fun j hj=>?_⟩
  have hjq:j ≠ q:=fun e=>h1 (e ▸ hj)
  cases ho:hlk hp j with
  | none=>rw [hlk_E_none hjq ho]
  | some o=>rw [hlk_E hjq ho (h2 j hj o ho)]; simpa using h2 j hj o ho

def outE (q:Nat) (Z:AObj) (out:Out):Out:=⟨out.v,hpE q Z out.hp,out.new⟩

theorem slCells_E {q:Nat} {Z:AObj} {hp:List (Nat × AObj)} {v:AV} (h:noD q hp v=true):slCells (hpE q Z hp) v=slCells hp v:=by
  obtain ⟨h1,h2⟩:=noD_spec h
  cases v <;> try rfl
  rename_i id es off n
  have hjq:id ≠ q:=fun e=>h1 (by simp [refs,e])
  simp only [slCells]
  cases ho:hlk hp id with
  | none=>rw [hlk_E_none hjq ho]
  | some o=>rw [hlk_E hjq ho (h2 id (by simp [refs]) o ho)]

theorem aapp_E {q:Nat} {Z:AObj} {hp:List (Nat × AObj)} {d es bytes k:Nat} {x:AV} {ys:List AV} {out:Out} (hq:q ≠ d) (hz:refsO Z=[]) (hx:noD q hp x=true) (h:aapp hp d es bytes x ys k=some out)
    (ho:∀ o r,out.hp=(d,o)::r→k ≠ 0→q ∉ refsO o):aapp (hpE q Z hp) d es bytes x ys k=some (outE q Z out)∧q ∉ out.new:=by
  obtain ⟨h1,h2⟩:=noD_spec hx
  simp only [aapp] at h ⊢
  split at h
  · rename_i hk
    rw [if_pos hk]
    split at h
    · rename_i hc
      rw [if_pos hc]
      simp only [just,Option.some.injEq] at h; subst h
      exact ⟨rfl,by simp⟩
    · simp at h
  · rename_i hk
    rw [if_neg hk]
    split at h
    · rename_i hat
      rw [if_pos hat]
      cases x <;> simp only [aappN] at h ⊢ <;> try (simp at h; done)
      · split at h
        · rename_i hc
          rw [if_pos hc]
          simp only [made,Option.some.injEq] at h ⊢; subst h
          have:=ho _ _ rfl hk
          simp only [outE,hpE,killH,if_neg (Ne.symm hq),killO_no this]
          refine ⟨?_,by simpa using hq⟩
          rw [killH_end hq (by rw [hz]; simp),killH_comm d q]
          rfl
        · simp at h
      · rename_i id es' off n
        have hjq:id ≠ q:=fun e=>h1 (by simp [refs,e])
        cases hob:hlk hp id with
        | none=>rw [hob] at h; simp [aappM] at h
        | some ob =>
          rw [hlk_E hjq hob (h2 id (by simp [refs]) ob hob)]
          rw [hob] at h
          cases ob <;> simp only [aappM] at h ⊢ <;> try (simp at h; done)
          split at h
          · rename_i hc
            rw [if_pos hc]
            simp only [Option.some.injEq] at h ⊢; subst h
            have:=ho _ _ rfl hk
            simp only [outE,hpE,killH,if_neg (Ne.symm hq),killO_no this]
            refine ⟨?_,?_⟩
            · rw [killH_end (Ne.symm hjq) (by rw [hz]; simp),killH_end hq (by rw [hz]; simp),killH_comm id q,killH_comm d q]
              rfl
            · simp only [List.mem_cons,List.not_mem_nil,or_false,not_or]
              exact ⟨Ne.symm hjq,hq⟩
          · simp at h
    · simp at h
end Wax


namespace Wax
open Go Go.RowKit

section
variable {P:Program} {T:Tab} {w0 w:World} {F0:Base} {n:Nat} {fr:List (Nat × AV)} {hp:List (Nat × AObj)} {a:Act} {F:Frz} {ρ:Rho} {o:Oper}

theorem run_box {e:TypeId} {x:Operand} (ho:o.op=.box e x):(execOp a.eval o).run P w=.ok (.value (.pointer (some ⟨w.heap.size,0,none⟩))) (w.alloc (.cells (a.eval x).cells e)):=by
  simp only [execOp,ho,Instr.box,newVar,newRow,Sem.run_bind,run_newObj,Result.andThen_ok,Sem.run_pure,World.alloc_eq]

theorem s_box (I:Inv T w0 F0 n ⟨fr,hp⟩ a w F ρ) (hd:dstOk n o.dst) {e:TypeId} {x:Operand} (ho:o.op=.box e x) {y:AV} (hx:Rep T w F ρ y (a.eval x)) (hat:atoms (cells y)=true) (d:Nat) (hdk:d < 1000000) :
    OpRes P T w0 F0 n fr o a w ⟨.ref d 0,(d,.cells (killL d (cells y)))::killH d hp,[d]⟩:=by
  have R:=Row.alloc w (a.eval x).cells.toList e
  simp only [Array.toArray_toList] at R
  have hb:=R.below
  refine res_row I hd R (d:=d) hdk (cs:=killL d (cells y)) (vs:=(a.eval x).cells.toList) (post:=[]) (by simp) ?_ (run_box ho) (rep_ref d _ _)
  refine RepL.kill d (fun b h=>⟨h,hb.block b (I.lt b h)⟩) ρ _ (I.rext hb d _ _) _ _ (cells_rep hx hat).1

theorem new_frozen (I:Inv T w0 F0 n ⟨fr,hp⟩ a w F ρ) {w':World} {us:List Value} (R:Row w w' us) {cs:List AV} (hc:RepL T w F ρ cs us) (hr:hasRefL cs=false) :
    Inv T w0 F0 n ⟨fr,hp⟩ a w' (fun b=>F b∨(w.heap.size≤b∧b < w'.heap.size)) ρ∧RepAt T w' (fun b=>F b∨(w.heap.size≤b∧b < w'.heap.size)) w.heap.size 0 cs:=by
  have hb:=R.below
  refine ⟨I.grow hb,?_⟩
  have h1:RepL T w F noRho cs us:=RepL.down cs us hr hc
  have HF:FExt w w' F (fun b=>F b∨(w.heap.size≤b∧b < w'.heap.size)):=fun b h=>⟨.inl h,hb.block b (I.lt b h)⟩
  have h2:=RepL.mono HF noRho noRho (RExt.no _ _ _) cs us h1
  obtain ⟨e,f,hrow⟩:=R.row
  have:=repAt_of (s:=fun x=>x) (T:=T) (w:=w') (F:=fun b=>F b∨(w.heap.size≤b∧b < w'.heap.size)) (ρ:=noRho) (G:=fun b=>F b∨(w.heap.size≤b∧b < w'.heap.size)) (b:=w.heap.size) (cs:=cs) (us:=us) (off:=0) (fun x v h=>h) (.inr ⟨Nat.le_refl _,by rw [R.size]; omega⟩) (fun j u hj=>by
    simp only [World.cell?,hrow]
    simpa using hj) h2
  simpa using this

theorem s_boxF (I:Inv T w0 F0 n ⟨fr,hp⟩ a w F ρ) (hd:dstOk n o.dst) {e:TypeId} {x:Operand} (ho:o.op=.box e x) {y:AV} (hx:Rep T w F ρ y (a.eval x)) (hat:atoms (cells y)=true) (hr:hasRefL (cells y)=false) :
    OpRes P T w0 F0 n fr o a w ⟨.bx (cells y),hp,[]⟩:=by
  have R:=Row.alloc w (a.eval x).cells.toList e
  simp only [Array.toArray_toList] at R
  obtain ⟨I2,h2⟩:=new_frozen I R (cells_rep hx hat).1 hr
  exact ⟨_,_,_,ρ,_,run_box ho,.inl rfl,I2.val hd ⟨w.heap.size,rfl,h2⟩⟩

theorem run_mkSl (I:Inv T w0 F0 n ⟨fr,hp⟩ a w F ρ) {t e:TypeId} {m:Nat} {parts:Array (Nat × Operand)} (ho:o.op=.buildSlice t m parts) (ht:P.underlying t=some (.slice e)) {es:Nat} (hse:sizeT P e=some es)
    {z:AV} (hz:zeroT P T e=some z) (hes:0 < es∧es=(cells z).length∧m * es≤16777216) {ps:List (Nat × Opd)} (hps:cPartsS T parts.toList=some ps) {cs:List AV}
    (hf:fillA ((List.replicate m (cells z)).flatten) (ps.map fun p=>(p.1 * es,es,ev fr p.2))=some cs):∃ us:List Value,RepL T w F ρ cs us∧us.length=m * es ∧
      (execOp a.eval o).run P w=.ok (.value (.slice (some ⟨w.heap.size,0,none⟩) m m)) (w.alloc (.cells us.toArray e)):=by
  have hzz:=hz
  obtain ⟨v,i,hi,hv,_⟩:=zero_rep (w:=w) hz F ρ
  simp only [zeroT,hi,hv] at hzz
  have hsh:=constAV_shape hzz
  have hcr:=cells_rep0 (constAV_rep (T:=T) (w:=w) F ρ v z hzz) hsh.1 hsh.2
  have hlen:v.cells.toList.length=es:=by have:=hcr.length; omega
  have two:=cPartsS_two (w:=w) (F:=F) (ρ:=ρ) (es:=es) (ev':=ev fr) (evl:=a.eval) (fun x y h=>ev_rep I h) hps
  obtain ⟨us,h1,h2,h3⟩:=fill_spec (place:=fun i=>some (i * es,es)) two (flatten_rep hcr m) hf
  have hrow:((Array.range (m * es)).map fun j=>v.cells[j % v.cells.size]!)=((List.replicate m v.cells.toList).flatten).toArray:=by
    rw [← mod_range es hes.1 v.cells.toList hlen m]
    apply Array.ext'
    simp
  have hpe:(parts.map fun (q:Nat × Operand)=>(q.1,a.eval q.2)).toList=parts.toList.map fun q=>(q.1,a.eval q.2):=by simp
  refine ⟨us,h2,by rw [h3,flatten_len,hlen],?_⟩
  have hbig:¬ (m * es > 2 ^ 24):=by
    show ¬ (m * es > 16777216); omega
  simp only [execOp,ho,Instr.buildSlice,Sem.run_bind,rUnder ht,Result.andThen_ok,rSize hse,Sem.run_ite,if_neg hbig,Sem.run_pure]
  by_cases h0:m * es=0
  · have hm0:m=0:=by rcases Nat.mul_eq_zero.1 h0 with h | h <;> omega
    have he0:((Array.range (m * es)).map fun j=>(#[]:Array Value)[j % (#[]:Array Value).size]!)=((List.replicate m v.cells.toList).flatten).toArray:=by
      rw [hm0]; apply Array.ext'; simp
    simp only [h0,if_true]
    rw [h0] at he0
    rw [he0,hpe]
    simp only [h1,Sem.run_bind,newRow,run_newObj,Result.andThen_ok,Sem.run_pure,World.alloc_eq]
  · simp only [h0,if_false,rZero hi hv,Result.andThen_ok]
    rw [hrow,hpe]
    simp only [h1,Sem.run_bind,newRow,run_newObj,Result.andThen_ok,Sem.run_pure,World.alloc_eq]

theorem s_mkSlF (I:Inv T w0 F0 n ⟨fr,hp⟩ a w F ρ) (hd:dstOk n o.dst) {t e:TypeId} {m:Nat} {parts:Array (Nat × Operand)} (ho:o.op=.buildSlice t m parts) (ht:P.underlying t=some (.slice e)) {es:Nat} (hse:sizeT P e=some es)
    {z:AV} (hz:zeroT P T e=some z) (hes:0 < es∧es=(cells z).length∧m * es≤16777216) {ps:List (Nat × Opd)} (hps:cPartsS T parts.toList=some ps) {cs:List AV}
    (hf:fillA ((List.replicate m (cells z)).flatten) (ps.map fun p=>(p.1 * es,es,ev fr p.2))=some cs) (hat:atoms cs=true) (hr:hasRefL cs=false):OpRes P T w0 F0 n fr o a w ⟨.sl es (elems es m cs),hp,[]⟩:=by
  obtain ⟨us,h1,h2,hrun⟩:=run_mkSl I ho ht hse hz hes hps hf
  obtain ⟨I2,h3⟩:=new_frozen I (Row.alloc w us e) h1 hr
  refine ⟨_,_,_,ρ,_,hrun,.inl rfl,I2.val hd ?_⟩
  have hcl:cs.length=m * es:=by rw [h1.length,h2]
  simp only [Rep,elems]
  by_cases he:es=1
  · subst he
    simp only [if_true]
    refine .inl ⟨w.heap.size,0,m,?_,?_,?_⟩
    · rw [List.length_take]; congr 1; omega
    · rw [List.length_take]; omega
    · refine repSl_one (fun c hc l e=>?_) (h3.take m)
      have:=atoms_mem hat (List.mem_of_mem_take hc)
      rw [e] at this; simp [atom] at this
  · simp only [he,if_false]
    refine .inl ⟨w.heap.size,0,m,?_,?_,?_⟩
    · rw [group_length]
    · rw [group_length]; exact Nat.le_refl _
    · exact repSl_group (by omega) h3

theorem killFs_app (d:Nat):∀ (l:List Nat) (fr:List (Nat × AV)),killFs (l++[d]) fr=killF d (killFs l fr)
  | [],_=>rfl
  | x::l,fr=>killFs_app d l _
mutual
theorem frzG_kill (d:Nat) (ob:AObj):∀ v:AV,snapW (frzG d ob) (kill d v)=kill d v
  | .ref id off=>by
    simp only [kill]
    split
    · rfl
    · rename_i h; simp [snapW,frzG,h]
  | .msl id es off n=>by
    simp only [kill]
    split
    · rfl
    · rename_i h; simp [snapW,frzG,h]
  | .mref id=>by
    simp only [kill]
    split
    · rfl
    · rename_i h; simp [snapW,frzG,h]
  | .agg cs=>by simp only [kill,snapW,frzG_killL d ob cs]
  | .tup cs=>by simp only [kill,snapW,frzG_killL d ob cs]
  | .ifc t v=>by simp only [kill,snapW,frzG_kill d ob v]
  | .fn f cap=>by simp only [kill,snapW,frzG_killL d ob cap]
  | .junk=>rfl
  | .bool _=>rfl
  | .int _ _=>rfl
  | .str _=>rfl
  | .nilI=>rfl
  | .nilP=>rfl
  | .nilF=>rfl
  | .nilM=>rfl
  | .nilS=>rfl
  | .gp _=>rfl
  | .sl _ _=>rfl
  | .ptr _=>rfl
  | .bx _=>rfl
  | .mp _=>rfl
theorem frzG_killL (d:Nat) (ob:AObj):∀ l:List AV,snapWL (frzG d ob) (killL d l)=killL d l
  | []=>rfl
  | v::r=>by simp only [killL,snapWL,frzG_kill d ob v,frzG_killL d ob r]
end
theorem frzF_killF (d:Nat) (ob:AObj):∀ fr:List (Nat × AV),frzF d ob (killF d fr)=killF d fr
  | []=>rfl
  | (i,v)::r=>by simp only [killF,frzF,frzG_kill,frzF_killF d ob r]
theorem frzH_killH (d:Nat) (ob:AObj):∀ hp:List (Nat × AObj),frzH d ob (killH d hp)=killH d hp
  | []=>rfl
  | (i,x)::r=>by
    simp only [killH]
    split
    · exact frzH_killH d ob r
    · rename_i h
      simp only [frzH,if_neg h,frzH_killH d ob r]
      cases x <;> simp only [killO,frzO,frzG_killL]
theorem OpRes.frz {d es m:Nat} {cs:List AV} {hp1:List (Nat × AObj)} {new:List Nat} (H:OpRes P T w0 F0 n fr o a w ⟨.msl d es 0 m,(d,.cells cs)::killH d hp1,new++[d]⟩) (hc:atoms cs=true∧hasRefL cs=false∧m * es≤cs.length∧0 < es) :
    OpRes P T w0 F0 n fr o a w ⟨.sl es (elems es m cs),killH d hp1,new++[d]⟩:=by
  obtain ⟨nx,w',F',ρ',u,h1,h2,h3⟩:=H
  obtain ⟨F2,ρ2,I2⟩:=gstep_inv h3 (.frz d)
  refine ⟨nx,w',F2,ρ2,u,h1,h2,?_⟩
  have e:gstep (fin fr o.dst ⟨.msl d es 0 m,(d,.cells cs)::killH d hp1,new++[d]⟩) (.frz d)=fin fr o.dst ⟨.sl es (elems es m cs),killH d hp1,new++[d]⟩:=by
    obtain ⟨c1,c2,c3,c4⟩:=hc
    have c5:0+m * es≤cs.length∧atoms cs=true∧0 < es:=⟨by omega,c1,c4⟩
    simp only [fin,gstep,hlk,if_true,noRefO,c2,Bool.not_false,frzH,frzH_killH,killFs_app]
    cases o.dst with
    | none=>simp only [putS,frzF_killF]
    | some q=>simp only [putS,frzF,frzF_killF,snapW,frzG,if_true,if_pos c5,List.drop_zero]
  rw [← e]; exact I2
theorem aapp_shape {hp:List (Nat × AObj)} {d es bytes k:Nat} {x:AV} {ys:List AV} {out:Out} (h:aapp hp d es bytes x ys k=some out) (hk:k ≠ 0):∃ m cs hp1 new,out=⟨.msl d es 0 m,(d,.cells cs)::killH d hp1,new++[d]⟩:=by
  simp only [aapp,if_neg hk] at h
  split at h
  · unfold aappN at h
    split at h
    · split at h
      · simp only [made,Option.some.injEq] at h; subst h
        exact ⟨_,_,hp,[],rfl⟩
      · simp at h
    · rename_i id es' off m
      unfold aappM at h
      split at h
      · split at h
        · rename_i hc
          simp only [Option.some.injEq] at h; subst h
          exact ⟨_,_,_,[id],rfl⟩
        · simp at h
      · simp at h
    · simp at h
  · simp at h
theorem s_appF {es bytes d k:Nat} {x:AV} {ys:List AV} {out:Out} (hk:k ≠ 0) (h:frzOut es (aapp hp d es bytes x ys k)=some out) (H:∀ out0,aapp hp d es bytes x ys k=some out0→OpRes P T w0 F0 n fr o a w out0):OpRes P T w0 F0 n fr o a w out:=by
  cases ha:aapp hp d es bytes x ys k with
  | none=>rw [ha] at h; simp [frzOut] at h
  | some out0 =>
    have H0:=H out0 ha
    obtain ⟨m,cs,hp1,new,rfl⟩:=aapp_shape ha hk
    rw [ha] at h
    simp only [frzOut] at h
    split at h
    · rename_i hc
      simp only [Option.some.injEq] at h; subst h
      exact H0.frz hc
    · simp at h

theorem Inv.perm {fr:List (Nat × AV)} {hp hp':List (Nat × AObj)} (I:Inv T w0 F0 n ⟨fr,hp⟩ a w F ρ) (h:∀ i,hlk hp i=hlk hp' i):Inv T w0 F0 n ⟨fr,hp'⟩ a w F ρ :=
  ⟨I.cap,I.old,I.below,I.src,I.kf,I.lt,I.rng,fun id p hr=>by obtain ⟨x,hx⟩:=I.dom id p hr; exact ⟨x,(h id).symm.trans hx⟩,fun id x hx=>I.obj id x ((h id).trans hx),I.inj,I.slot,I.defs,I.gl⟩
theorem OpRes.perm {v:AV} {hp1 hp':List (Nat × AObj)} {new:List Nat} (H:OpRes P T w0 F0 n fr o a w ⟨v,hp1,new⟩) (h:∀ i,hlk hp1 i=hlk hp' i):OpRes P T w0 F0 n fr o a w ⟨v,hp',new⟩:=by
  obtain ⟨nx,w',F',ρ',u,h1,h2,h3⟩:=H
  exact ⟨nx,w',F',ρ',u,h1,h2,h3.perm h⟩
theorem hlk_mid {d:Nat}:∀ {hp r:List (Nat × AObj)},hlk hp d=none→hlk (hp++r) d=hlk r d
  | [],_,_=>rfl
  | (i,x)::hp,r,h=>by
    simp only [hlk] at h
    split at h
    · simp at h
    · rename_i hi
      simp only [List.cons_append,hlk,if_neg hi]
      exact hlk_mid h
end
end Wax


namespace Wax
open Go Go.RowKit

section
variable {P:Program} {T:Tab} {w0 w:World} {F0:Base} {n:Nat} {fr:List (Nat × AV)} {hp:List (Nat × AObj)} {a:Act} {F:Frz} {ρ:Rho} {o:Oper}

def TInj (T:Tab):Prop:=∀ t u g,lkN T.tys t=some g→lkN T.tys u=some g→t=u

theorem asB_rep {x:AV} {b:Bool} (h:asB x=some b) {v:Value} (hv:Rep T w F ρ x v):v=.bool b:=by
  cases x <;> simp [asB] at h
  subst h; simpa [Rep] using hv

theorem just_eq {hp:List (Nat × AObj)} {v:AV} {out:Out} (h:just hp v=some out):out=⟨v,hp,[]⟩:=by
  simp only [just,Option.some.injEq] at h; exact h.symm

theorem made_eq {hp:List (Nat × AObj)} {d:Nat} {x:AObj} {v:AV} {out:Out} (h:made hp d x v=some out):out=⟨v,(d,x)::killH d hp,[d]⟩:=by
  simp only [made,Option.some.injEq] at h; exact h.symm

theorem strKey_spec {k:TypeId} (h:strKey P k=true):P.underlying k=some .string:=by
  simp only [strKey] at h
  split at h
  · assumption
  · simp at h

theorem mput_res (I:Inv T w0 F0 n ⟨fr,hp⟩ a w F ρ) (hd:dstOk n o.dst) {Γ:Gam} {t kt et:TypeId} {x y z:Operand} {x' y' z':Opd} (ho:o.op=.mapUpdate t x y z∨o.op=.insert t x y z) (ht:P.underlying t=some (.map kt et)) (hk:P.underlying kt=some .string)
    (hx:Rep T w F ρ (ev fr x') (a.eval x)) (hy:Rep T w F ρ (ev fr y') (a.eval y)) (hz:Rep T w F ρ (ev fr z') (a.eval z)) {d:Nat} {out:Out} (h:aop Γ fr hp d (.mput x' y' z')=some out):OpRes P T w0 F0 n fr o a w out:=by
  simp only [aop] at h
  cases hs:asS (ev fr y') with
  | none=>cases hxx:ev fr x' <;> simp [hxx,hs] at h
  | some q =>
    have hq:ev fr y'=.str q:=by cases hyy:ev fr y' <;> simp [hyy,asS] at hs; subst hs; rfl
    cases hxx:ev fr x' <;> simp only [hxx,hs] at h <;> try (simp at h; done)
    rename_i id
    cases hh:hlk hp id with
    | none=>simp [hh] at h
    | some ob =>
      cases ob <;> simp only [hh] at h <;> try (simp at h; done)
      rename_i es
      split at h
      · rename_i hc
        simp only [Option.some.injEq] at h; subst h
        rw [hxx] at hx; rw [hq] at hy
        exact s_mput I hd ho ht hk hx hy hh (Rep.down _ _ hc.2 hz)
      · simp at h

theorem one_arg {c:Call} {args:List Opd} {s:SOp} {f:Opd→TypeId→Option SOp} (ha:cOpds T c.args.toList=some args) (hc:(match (generalizing:=false) args,c.argTypes.toList with | [x],[t]=>f x t | _,_=>none)=some s) :
    ∃ x x',c.args = #[x]∧cOpd T x=some x'∧args=[x']∧∃ t,c.argTypes.toList=[t]:=by
  cases hl:c.args.toList with
  | nil=>rw [hl] at ha; simp [cOpds] at ha; subst ha; simp at hc
  | cons x r =>
    rw [hl] at ha
    simp only [cOpds] at ha
    cases hx:cOpd T x with
    | none=>simp [hx] at ha
    | some x' =>
      cases hr:cOpds T r with
      | none=>simp [hx,hr] at ha
      | some l =>
        simp [hx,hr] at ha; subst ha
        cases l with
        | cons _ _=>simp at hc
        | nil =>
          cases r with
          | cons y s =>
            simp only [cOpds] at hr
            cases hy:cOpd T y <;> cases hs:cOpds T s <;> simp [hy,hs] at hr
          | nil =>
            refine ⟨x,x',?_,hx,rfl,?_⟩
            · apply Array.ext'; rw [hl]
            · cases ht:c.argTypes.toList with
              | nil=>simp [ht] at hc
              | cons t q=>cases q with
                | nil=>exact ⟨t,rfl⟩
                | cons _ _=>simp [ht] at hc

theorem two_args {c:Call} {args:List Opd} {s:SOp} {f:Opd→Opd→TypeId→TypeId→Option SOp} (ha:cOpds T c.args.toList=some args) (hc:(match (generalizing:=false) args,c.argTypes.toList with | [x,y],[t,u]=>f x y t u | _,_=>none)=some s) :
    ∃ x y x' y',c.args = #[x,y]∧cOpd T x=some x'∧cOpd T y=some y'∧args=[x',y']∧∃ t u,c.argTypes.toList=[t,u]:=by
  cases hl:c.args.toList with
  | nil=>rw [hl] at ha; simp [cOpds] at ha; subst ha; simp at hc
  | cons x r =>
    rw [hl] at ha
    simp only [cOpds] at ha
    cases hx:cOpd T x with
    | none=>simp [hx] at ha
    | some x' =>
      cases hr:cOpds T r with
      | none=>simp [hx,hr] at ha
      | some l =>
        simp [hx,hr] at ha; subst ha
        cases r with
        | nil=>simp [cOpds] at hr; subst hr; simp at hc
        | cons y q =>
          simp only [cOpds] at hr
          cases hy:cOpd T y with
          | none=>simp [hy] at hr
          | some y' =>
            cases hq:cOpds T q with
            | none=>simp [hy,hq] at hr
            | some l2 =>
              simp [hy,hq] at hr; subst hr
              cases l2 with
              | cons _ _=>simp at hc
              | nil =>
                cases q with
                | cons z s =>
                  simp only [cOpds] at hq
                  cases hz:cOpd T z <;> cases hs:cOpds T s <;> simp [hz,hs] at hq
                | nil =>
                  refine ⟨x,y,x',y',?_,hx,hy,rfl,?_⟩
                  · apply Array.ext'; rw [hl]
                  · cases ht:c.argTypes.toList with
                    | nil=>simp [ht] at hc
                    | cons t q=>cases q with
                      | nil=>simp [ht] at hc
                      | cons u q2=>cases q2 with
                        | nil=>exact ⟨t,u,rfl⟩
                        | cons _ _=>simp [ht] at hc

theorem aop_res (hT:TInj T) {Γ:Gam} (I:Inv T w0 F0 n ⟨fr,hp⟩ a w F ρ) (hd:dstOk n o.dst) {s:SOp} (hc:cop P T o.op=some s) (hnc:∀ c,o.op=.call c→∃ b,c.callee=.builtin b) {d:Nat} (hdk:d < 1000000) {out:Out} (h:aop Γ fr hp d s=some out) :
    OpRes P T w0 F0 n fr o a w out:=by
  have E:∀ {x:Operand} {y:Opd},cOpd T x=some y→Rep T w F ρ (ev fr y) (a.eval x):=fun h=>ev_rep I h
  generalize hop:o.op=op at hc
  cases op <;> simp only [cop] at hc <;> try (simp at hc; done)
  case move x =>
    cases hx:cOpd T x <;> simp [hx] at hc
    subst hc
    have:=just_eq h; subst this
    exact (g_mv (.inl hop) (E hx)).res I hd
  case assign x =>
    cases hx:cOpd T x <;> simp [hx] at hc
    subst hc
    have:=just_eq h; subst this
    exact (g_mv (.inr hop) (E hx)).res I hd
  case pick c x y =>
    cases h1:cOpd T c <;> cases h2:cOpd T x <;> cases h3:cOpd T y <;> simp [h1,h2,h3] at hc
    subst hc
    rename_i c' x' y'
    simp only [aop] at h
    cases hb:asB (ev fr c') with
    | none=>simp [hb] at h
    | some b =>
      have hcv:=asB_rep hb (E h1)
      cases b
      · simp only [hb] at h
        have:=just_eq h; subst this
        exact (g_pick hop hcv (by simpa using E h3)).res I hd
      · simp only [hb] at h
        have:=just_eq h; subst this
        exact (g_pick hop hcv (by simpa using E h2)).res I hd
  case alloc e =>
    cases hz:zeroT P T e <;> simp [hz] at hc
    subst hc
    have:=made_eq h; subst this
    exact s_alloc I hd hop hz d hdk
  case box e x =>
    cases hx:cOpd T x <;> simp [hx] at hc
    subst hc
    simp only [aop] at h
    split at h
    · rename_i hat
      have:=made_eq h; subst this
      exact s_box I hd hop (E hx) hat d hdk
    · simp at h
  case build t parts =>
    cases hz:zeroT P T t with
    | none=>simp [hz] at hc
    | some z =>
      cases hu:P.underlying t with
      | none=>simp [hz,hu] at hc
      | some dd =>
        cases dd <;> simp [hz,hu] at hc
        case struct fs =>
          obtain ⟨hok,ps,hps,rfl⟩:=hc
          simp only [aop] at h
          cases hf:fillA (cells z) (ps.map fun p=>(p.1,p.2.1,ev fr p.2.2)) with
          | none=>simp [hf] at h
          | some cs =>
            simp only [hf] at h
            have:=just_eq h; subst this
            exact (g_build I hop hz (.inl ⟨fs,hu,hok,hps⟩) hf).res I hd
        case array k e =>
          cases hes:sizeT P e with
          | none=>simp [hes] at hc
          | some es =>
            simp [hes] at hc
            obtain ⟨ps,hps,rfl⟩:=hc
            simp only [aop] at h
            cases hf:fillA (cells z) (ps.map fun p=>(p.1,p.2.1,ev fr p.2.2)) with
            | none=>simp [hf] at h
            | some cs =>
              simp only [hf] at h
              have:=just_eq h; subst this
              exact (g_build I hop hz (.inr ⟨k,e,es,hu,hes,hps⟩) hf).res I hd
  case buildSlice t len parts =>
    cases hu:P.underlying t with
    | none=>simp [hu] at hc
    | some dd =>
      cases dd <;> simp [hu] at hc
      case slice e =>
        cases hes:sizeT P e with
        | none=>simp [hes] at hc
        | some es =>
          cases hz:zeroT P T e with
          | none=>simp [hes,hz] at hc
          | some z =>
            simp [hes,hz] at hc
            obtain ⟨hq,ps,hps,rfl⟩:=hc
            simp only [aop] at h
            cases hf:fillA ((List.replicate len (cells z)).flatten) (ps.map fun p=>(p.1 * es,es,ev fr p.2)) with
            | none=>simp [hf] at h
            | some cs =>
              simp only [hf] at h
              have:=made_eq h; subst this
              exact s_mkSl I hd hop hu hes hz hq hps hf d hdk
  case load t x =>
    cases hm:loadN P t <;> cases hx:cOpd T x <;> simp [hm,hx] at hc
    subst hc
    rename_i m x'
    simp only [aop] at h
    cases hl:aload hp m (ev fr x') with
    | none=>simp [hl] at h
    | some v =>
      simp only [hl] at h
      have:=just_eq h; subst this
      exact (g_load I hop hm (E hx) hl).res I hd
  case store t x y =>
    cases hm:loadN P t <;> cases hs:sizeT P t <;> cases hx:cOpd T x <;> cases hy:cOpd T y <;> simp [hm,hs,hx,hy] at hc
    subst hc
    rename_i m k x' y'
    simp only [aop] at h
    have hxr:=E hx
    cases hxx:ev fr x' <;> simp only [hxx] at h <;> try (simp at h; done)
    rename_i id off
    rw [hxx] at hxr
    cases hh:hlk hp id with
    | none=>simp [hh] at h
    | some ob =>
      cases ob <;> simp only [hh] at h <;> try (simp at h; done)
      rename_i cs
      split at h
      · rename_i hq
        simp only [Option.some.injEq] at h; subst h
        exact s_store I hd hop hs hxr (E hy) hh hq.1 hq.2.1 hq.2.2
      · simp at h
  case nilCheck x =>
    cases hx:cOpd T x <;> simp [hx] at hc
    subst hc
    rename_i x'
    simp only [aop] at h
    have hxr:=E hx
    cases hxx:ev fr x' <;> simp only [hxx] at h <;> try (simp at h; done)
    · rw [hxx] at hxr
      have:=just_eq h; subst this
      exact (g_chk hop hxr (.inl ⟨_,rfl⟩)).res I hd
    · rw [hxx] at hxr
      have:=just_eq h; subst this
      exact (g_chk hop hxr (.inr ⟨_,_,rfl⟩)).res I hd
  case binOp bop xt x y yt =>
    cases hx:cOpd T x with
    | none=>simp [hx] at hc
    | some x' =>
      cases hy:cOpd T y with
      | none=>simp [hx,hy] at hc
      | some y' =>
        simp only [hx,hy] at hc
        have plain:∀ b,s=.bin b x' y'→b=cBin bop→OpRes P T w0 F0 n fr o a w out:=by
          intro b hs hb
          subst hs
          simp only [aop] at h
          cases hab:abin b (ev fr x') (ev fr y') with
          | none=>simp [hab] at h
          | some v =>
            simp only [hab] at h
            have:=just_eq h; subst this
            refine (g_bin hop (E hx) (E hy) ?_ (hb ▸ hab)).res I hd
            cases hxx:ev fr x' <;> cases hyy:ev fr y' <;> simp only [hxx,hyy,abin] at hab <;> first
              | (simp at hab; done)
              | exact .inl ⟨_,_,_,_,rfl,rfl⟩
              | exact .inr ⟨_,_,rfl,rfl⟩
        split at hc
        · rename_i heq
          split at hc
          · rename_i hnil
            cases hk:nilKind P xt y <;> simp [hk] at hc
            subst hc
            rename_i k
            simp only [aop] at h
            cases hb:isNilA k (ev fr x') with
            | none=>simp [hb] at h
            | some b =>
              simp only [hb] at h
              have:=just_eq h; subst this
              exact (g_isNil heq hop hk (E hx) hb).res I hd
          · split at hc
            · simp at hc
            · simp only [cEq] at hc
              have hbin:(if decide (bop=.neq)=true then Bin.neq else Bin.eql)=cBin bop:=by
                rcases heq with rfl | rfl <;> rfl
              cases hu:P.underlying xt with
              | none=>simp [hu] at hc
              | some dd =>
                simp only [hu] at hc
                cases dd <;> simp only at hc <;> try (simp at hc; done)
                case bool =>
                  simp only [Option.some.injEq] at hc; subst hc
                  simp only [aop] at h
                  cases hb:leafEq 0 (ev fr x') (ev fr y') with
                  | none=>simp [hb] at h
                  | some b =>
                    simp only [hb] at h
                    have:=just_eq h; subst this
                    exact (g_eqB heq hop hu (E hx) (E hy) hb).res I hd
                case int kk =>
                  simp only [Option.some.injEq] at hc
                  exact plain _ hc.symm hbin
                case string =>
                  simp only [Option.some.injEq] at hc
                  exact plain _ hc.symm hbin
                case interface ms =>
                  simp only [Option.some.injEq] at hc; subst hc
                  simp only [aop] at h
                  cases hb:ifcEq (ptrTys P T.tys T.it) T.gc (ev fr x') (ev fr y') with
                  | none=>simp [hb] at h
                  | some b =>
                    simp only [hb] at h
                    have:=just_eq h; subst this
                    exact (g_eqI heq hop hu hT I.gl.2 (E hx) (E hy) hb).res I hd
                case struct fs =>
                  cases hks:plainFields P 0 fs.toList with
                  | none=>simp [hks] at hc
                  | some ks =>
                    simp only [hks] at hc
                    split at hc
                    · rename_i hq
                      simp only [Bool.and_eq_true,Bool.not_eq_true'] at hq
                      simp only [Option.some.injEq] at hc; subst hc
                      simp only [aop] at h
                      have hxr:=E hx
                      have hyr:=E hy
                      cases hxx:ev fr x' <;> simp only [hxx] at h <;> try (simp at h; done)
                      cases hyy:ev fr y' <;> simp only [hyy] at h <;> try (simp at h; done)
                      rename_i xs ys
                      rw [hxx] at hxr; rw [hyy] at hyr
                      cases hb:leafEqL ks xs ys with
                      | none=>simp [hb] at h
                      | some b =>
                        simp only [hb] at h
                        have:=just_eq h; subst this
                        exact (g_eqA heq hop hu hks hq.1 hq.2 hxr hyr hb).res I hd
                    · simp at hc
        · simp only [Option.some.injEq] at hc
          exact plain _ hc.symm rfl
  case unOp uop t x =>
    cases hx:cOpd T x with
    | none=>cases uop <;> simp [hx] at hc
    | some x' =>
      cases uop <;> simp [hx] at hc
      all_goals
        subst hc
        simp only [aop] at h
        split at h
        · rename_i v hv
          have:=just_eq h; subst this
          first
            | exact (g_un hop (E hx) (.inl ⟨rfl,hv⟩)).res I hd
            | exact (g_un hop (E hx) (.inr (.inl ⟨rfl,hv⟩))).res I hd
            | exact (g_un hop (E hx) (.inr (.inr ⟨rfl,hv⟩))).res I hd
        · simp at h
  case convert src dst x =>
    cases hx:cOpd T x with
    | none=>simp [hx] at hc
    | some x' =>
      simp only [hx,cConv] at hc
      have hxr:=E hx
      cases hs:P.underlying src with
      | none=>simp [hs] at hc
      | some ds =>
        cases hdd:P.underlying dst with
        | none=>cases ds <;> simp [hs,hdd] at hc
        | some dd =>
          simp only [hs,hdd] at hc
          cases ds <;> cases dd <;> simp only at hc <;> try (simp at hc; done)
          case int.int k' k =>
            simp only [Option.some.injEq] at hc; subst hc
            simp only [aop] at h
            cases hxx:ev fr x' <;> simp only [hxx] at h <;> try (simp at h; done)
            rw [hxx] at hxr
            have:=just_eq h; subst this
            exact (g_cInt hop hs hdd hxr).res I hd
          case int.string k' =>
            simp only [Option.some.injEq] at hc; subst hc
            simp only [aop] at h
            cases hxx:ev fr x' <;> simp only [hxx] at h <;> try (simp at h; done)
            rw [hxx] at hxr
            have:=just_eq h; subst this
            exact (g_cIntStr hop hs hdd hxr).res I hd
          case string.string =>
            simp only [Option.some.injEq] at hc; subst hc
            simp only [aop] at h
            cases hxx:ev fr x' <;> simp only [hxx] at h <;> try (simp at h; done)
            rw [hxx] at hxr
            have:=just_eq h; subst this
            exact (g_cNop hop hs hdd hxr).res I hd
          case string.slice e =>
            cases he:P.underlying e with
            | none=>simp [he] at hc
            | some de =>
              cases de <;> simp only [he] at hc <;> try (simp at hc; done)
              rename_i kk
              cases kk <;> simp only at hc <;> try (simp at hc; done)
              · simp only [Option.some.injEq] at hc; subst hc
                simp only [aop] at h
                cases hxx:ev fr x' <;> simp only [hxx] at h <;> try (simp at h; done)
                rw [hxx] at hxr
                split at h
                · have:=made_eq h; subst this
                  exact s_cStrRunes I hd hop hs hdd he hxr d hdk
                · simp at h
              · simp only [Option.some.injEq] at hc; subst hc
                simp only [aop] at h
                cases hxx:ev fr x' <;> simp only [hxx] at h <;> try (simp at h; done)
                rw [hxx] at hxr
                split at h
                · have:=made_eq h; subst this
                  exact s_cStrBytes I hd hop hs hdd he hxr d hdk
                · simp at h
          case slice.string e =>
            cases he:P.underlying e with
            | none=>simp [he] at hc
            | some de =>
              cases de <;> simp only [he] at hc <;> try (simp at hc; done)
              rename_i kk
              cases kk <;> simp only at hc <;> try (simp at hc; done)
              · simp only [Option.some.injEq] at hc; subst hc
                simp only [aop] at h
                have hns:∀ q,ev fr x' ≠ .str q:=by intro q e; rw [e] at h; simp at h
                have h2:(if one1 (ev fr x') then (match slCells hp (ev fr x') with | some cs=>(match toRunes cs with | some q=>just hp (.str q) | none=>none) | none=>none) else none)=some out:=by
                  cases hxx:ev fr x' <;> rw [hxx] at h <;> first | exact h | (exfalso; exact hns _ hxx)
                split at h2
                · rename_i h11
                  cases hsc:slCells hp (ev fr x') with
                  | none=>simp [hsc] at h2
                  | some cs =>
                    simp only [hsc] at h2
                    cases htb:toRunes cs with
                    | none=>simp [htb] at h2
                    | some q =>
                      simp only [htb] at h2
                      have:=just_eq h2; subst this
                      refine (g_cRunesStr I hop hs he hdd hxr hns hsc htb ?_ ?_).res I hd
                      · intro es xs e; rw [e] at h11; simp [one1] at h11; exact .inl h11
                      · intro id es off m e; rw [e] at h11; simpa [one1] using h11
                · simp at h2
              · simp only [Option.some.injEq] at hc; subst hc
                simp only [aop] at h
                have hns:∀ q,ev fr x' ≠ .str q:=by intro q e; rw [e] at h; simp at h
                have h2:(if one1 (ev fr x') then (match slCells hp (ev fr x') with | some cs=>(match toBytes cs with | some q=>just hp (.str q) | none=>none) | none=>none) else none)=some out:=by
                  cases hxx:ev fr x' <;> rw [hxx] at h <;> first | exact h | (exfalso; exact hns _ hxx)
                split at h2
                · rename_i h11
                  cases hsc:slCells hp (ev fr x') with
                  | none=>simp [hsc] at h2
                  | some cs =>
                    simp only [hsc] at h2
                    cases htb:toBytes cs with
                    | none=>simp [htb] at h2
                    | some q =>
                      simp only [htb] at h2
                      have:=just_eq h2; subst this
                      refine (g_cBytesStr I hop hs he hdd hxr hns hsc htb ?_ ?_).res I hd
                      · intro es xs e; rw [e] at h11; simp [one1] at h11; exact .inl h11
                      · intro id es off m e; rw [e] at h11; simpa [one1] using h11
                · simp at h2
          case slice.slice e e2 =>
            cases he:P.underlying e with
            | none=>simp [he] at hc
            | some de =>
              cases de <;> simp only [he] at hc <;> try (simp at hc; done)
              rename_i kk
              cases kk <;> simp only at hc <;> try (simp at hc; done)
              split at hc
              · rename_i hsd
                subst hsd
                simp only [Option.some.injEq] at hc; subst hc
                simp only [aop] at h
                cases hxx:ev fr x' <;> simp only [hxx] at h <;> try (simp at h; done)
                rename_i id es off m
                rw [hxx] at hxr
                cases hh:hlk hp id with
                | none=>simp [hh] at h
                | some ob =>
                  cases ob <;> simp only [hh] at h <;> try (simp at h; done)
                  have:=just_eq h; subst this
                  exact s_cSl I hd hop hs he hxr hh
              · simp at hc
  case makeInterface t x =>
    cases hu:P.underlying t with
    | none=>simp [hu] at hc
    | some dd =>
      cases hg:lkN T.tys t with
      | none=>cases dd <;> simp [hu,hg] at hc
      | some g =>
        cases hx:cOpd T x with
        | none=>cases dd <;> simp [hu,hg,hx] at hc
        | some x' =>
          have hs:s=.mkIfc g x'∧∀ ms,dd ≠ .interface ms:=by
            cases dd <;> simp [hu,hg,hx] at hc <;> exact ⟨hc.symm,by simp⟩
          obtain ⟨rfl,hni⟩:=hs
          simp only [aop] at h
          have:=just_eq h; subst this
          exact (g_mkIfc hop hu hni hg (E hx)).res I hd
  case makeFunc f first captured =>
    cases f <;> simp only at hc <;> try (simp at hc; done)
    rename_i f
    split at hc
    · rename_i h0
      have e0:first = #[]:=by simpa using h0
      subst e0
      cases hg:lkN T.fns f <;> cases hl:cOpds T captured.toList <;> simp [hg,hl] at hc
      subst hc
      simp only [aop] at h
      have:=just_eq h; subst this
      exact (g_mkFn hop hg (evs_rep I hl)).res I hd
    · simp at hc
  case makeMap t r =>
    have fin:∀ k e,P.underlying t=some (.map k e)→s=.mkMap→(r=none∨∃ kk m,r=some (.const (.int kk m)))→OpRes P T w0 F0 n fr o a w out:=by
      intro k e hu hs hr
      subst hs
      simp only [aop] at h
      have:=made_eq h; subst this
      exact s_mkMap I hd hop hu hr d hdk
    cases r with
    | none =>
      simp only at hc
      cases hu:P.underlying t with
      | none=>simp [hu] at hc
      | some dd =>
        cases dd <;> simp [hu] at hc
        exact fin _ _ hu hc.2.symm (.inl rfl)
    | some x =>
      cases x <;> try (simp at hc; done)
      rename_i v
      cases v <;> simp only at hc <;> try (simp at hc; done)
      cases hu:P.underlying t with
      | none=>simp [hu] at hc
      | some dd =>
        cases dd <;> simp [hu] at hc
        exact fin _ _ hu hc.2.symm (.inr ⟨_,_,rfl⟩)
  case makeSlice t l c =>
    cases hu:P.underlying t with
    | none=>simp [hu] at hc
    | some dd =>
      cases hl:cOpd T l with
      | none=>cases dd <;> simp [hu,hl] at hc
      | some l' =>
        cases hcc:cOpd T c with
        | none=>cases dd <;> simp [hu,hl,hcc] at hc
        | some c' =>
          cases dd <;> simp only [hu,hl,hcc] at hc <;> try (simp at hc; done)
          rename_i e
          cases hi:P.info? e with
          | none=>simp [hi] at hc
          | some i =>
            cases hz:zeroT P T e with
            | none=>simp [hi,hz] at hc
            | some z =>
              simp [hi,hz] at hc
              obtain ⟨hes,rfl⟩:=hc
              simp only [aop] at h
              cases hm:idx (ev fr l') with
              | none=>simp [hm] at h
              | some m =>
                cases hk:idx (ev fr c') with
                | none=>simp [hm,hk] at h
                | some k =>
                  simp only [hm,hk] at h
                  split at h
                  · rename_i hq
                    have:=made_eq h; subst this
                    exact s_mkSlice I hd hop hu hi hz hes (E hl) (E hcc) hm hk hq.1 hq.2.1 hq.2.2 d hdk
                  · simp at h
  case slice t x lo hi mx =>
    cases mx with
    | some m=>simp at hc
    | none =>
      simp only at hc
      cases hu:P.underlying t with
      | none=>simp [hu] at hc
      | some dd =>
        cases hx:cOpd T x with
        | none=>cases dd <;> simp [hu,hx] at hc
        | some x' =>
          cases hl:cOptOpd T lo with
          | none=>cases dd <;> simp [hu,hx,hl] at hc
          | some l' =>
            cases hh:cOptOpd T hi with
            | none=>cases dd <;> simp [hu,hx,hl,hh] at hc
            | some h' =>
              have hxr:=E hx
              cases dd <;> simp only [hu,hx,hl,hh] at hc <;> try (simp at hc; done)
              case string =>
                simp only [Option.some.injEq] at hc; subst hc
                simp only [aop] at h
                cases hxx:ev fr x' <;> simp only [hxx] at h <;> try (simp at h; done)
                rename_i q
                rw [hxx] at hxr
                cases hb:bounds q.length (l'.map (ev fr)) (h'.map (ev fr)) with
                | none=>simp [hb] at h
                | some lh =>
                  obtain ⟨l1,h1⟩:=lh
                  simp only [hb] at h
                  have:=just_eq h; subst this
                  exact (g_slStr hop hu hxr (ends_rep I hl) (ends_rep I hh) hb).res I hd
              case slice e =>
                cases hes:sizeT P e with
                | none=>simp [hes] at hc
                | some es =>
                  simp [hes] at hc; subst hc
                  simp only [aop] at h
                  cases hxx:ev fr x' <;> simp only [hxx] at h <;> try (simp at h; done)
                  · rw [hxx] at hxr
                    cases hb:bounds 0 (l'.map (ev fr)) (h'.map (ev fr)) with
                    | none=>simp [hb] at h
                    | some lh =>
                      obtain ⟨l1,h1⟩:=lh
                      simp only [hb] at h
                      have:=just_eq h; subst this
                      exact (g_slSl hop hu hes hxr (ends_rep I hl) (ends_rep I hh) (.inr (.inl ⟨rfl,hb,rfl⟩))).res I hd
                  · rename_i es' xs
                    rw [hxx] at hxr
                    cases hb:bounds xs.length (l'.map (ev fr)) (h'.map (ev fr)) with
                    | none=>simp [hb] at h
                    | some lh =>
                      obtain ⟨l1,h1⟩:=lh
                      simp only [hb] at h
                      split at h
                      · rename_i he; subst he
                        have:=just_eq h; subst this
                        exact (g_slSl hop hu hes hxr (ends_rep I hl) (ends_rep I hh) (.inl ⟨xs,rfl,hb,rfl⟩)).res I hd
                      · simp at h
                  · rename_i id es' off m
                    rw [hxx] at hxr
                    cases hb:bounds m (l'.map (ev fr)) (h'.map (ev fr)) with
                    | none=>simp [hb] at h
                    | some lh =>
                      obtain ⟨l1,h1⟩:=lh
                      simp only [hb] at h
                      split at h
                      · rename_i he; subst he
                        have:=just_eq h; subst this
                        exact (g_slSl hop hu hes hxr (ends_rep I hl) (ends_rep I hh) (.inr (.inr ⟨id,off,m,rfl,hb,rfl⟩))).res I hd
                      · simp at h
  case fieldAddr st x f =>
    cases hu:P.underlying st with
    | none=>simp [hu] at hc
    | some dd =>
      cases hx:cOpd T x with
      | none=>cases dd <;> simp [hu,hx] at hc
      | some x' =>
        cases dd <;> simp only [hu,hx] at hc <;> try (simp at hc; done)
        rename_i fs
        cases hf:fs.toList[f]? with
        | none=>simp [hf] at hc
        | some fd =>
          simp only [hf] at hc
          cases hk:sizeT P fd.type with
          | none=>simp [hk] at hc
          | some k =>
            simp only [hk] at hc
            split at hc
            · simp at hc
            · rename_i hk0
              simp only [Option.some.injEq] at hc; subst hc
              have hxr:=E hx
              simp only [aop] at h
              cases hxx:ev fr x' <;> simp only [hxx] at h <;> try (simp at h; done)
              · rw [hxx] at hxr
                have:=just_eq h; subst this
                exact (g_fAddr hop hu hf hk hk0 hxr (.inl ⟨_,rfl,rfl⟩)).res I hd
              · rw [hxx] at hxr
                have:=just_eq h; subst this
                exact (g_fAddr hop hu hf hk hk0 hxr (.inr ⟨_,_,rfl,rfl⟩)).res I hd
  case field st x f =>
    cases hu:P.underlying st with
    | none=>simp [hu] at hc
    | some dd =>
      cases hx:cOpd T x with
      | none=>cases dd <;> simp [hu,hx] at hc
      | some x' =>
        cases dd <;> simp only [hu,hx] at hc <;> try (simp at hc; done)
        rename_i fs
        cases hf:fs.toList[f]? with
        | none=>simp [hf] at hc
        | some fd =>
          simp only [hf] at hc
          cases hm:loadN P fd.type with
          | none=>simp [hm] at hc
          | some m =>
            simp [hm] at hc; subst hc
            have hxr:=E hx
            simp only [aop] at h
            cases hxx:ev fr x' <;> simp only [hxx] at h <;> try (simp at h; done)
            rename_i cs
            rw [hxx] at hxr
            cases hp2:partA m (cs.drop fd.offset) with
            | none=>simp [hp2] at h
            | some v =>
              simp only [hp2] at h
              have:=just_eq h; subst this
              exact (g_field hop hu hf hm hxr hp2).res I hd
  case indexAddr t x i =>
    cases hu:P.underlying t with
    | none=>simp [hu] at hc
    | some dd =>
      cases hx:cOpd T x with
      | none=>cases dd <;> simp [hu,hx] at hc
      | some x' =>
        cases hi:cOpd T i with
        | none=>cases dd <;> simp [hu,hx,hi] at hc
        | some i' =>
          have hxr:=E hx
          cases dd <;> simp only [hu,hx,hi] at hc <;> try (simp at hc; done)
          case slice e =>
            cases hes:sizeT P e with
            | none=>simp [hes] at hc
            | some es =>
              simp [hes] at hc; subst hc
              simp only [aop] at h
              cases hj:idx (ev fr i') with
              | none=>simp [hj] at h
              | some j =>
                simp only [hj] at h
                cases hxx:ev fr x' <;> simp only [hxx] at h <;> try (simp at h; done)
                · rename_i es' xs
                  rw [hxx] at hxr
                  cases hv:xs[j]? with
                  | none=>simp [hv] at h
                  | some v =>
                    simp only [hv] at h
                    split at h
                    · rename_i he; subst he
                      have:=just_eq h; subst this
                      exact (g_iAddr hop hu hes hxr (E hi) hj (.inl ⟨xs,v,rfl,hv,rfl⟩)).res I hd
                    · simp at h
                · rw [hxx] at hxr
                  split at h
                  · rename_i hq
                    obtain ⟨hlt,he⟩:=hq
                    subst he
                    have:=just_eq h; subst this
                    exact (g_iAddr hop hu hes hxr (E hi) hj (.inr ⟨_,_,_,rfl,hlt,rfl⟩)).res I hd
                  · simp at h
          case array len e =>
            cases hes:sizeT P e with
            | none=>simp [hes] at hc
            | some es =>
              simp [hes] at hc
              obtain ⟨_,rfl⟩:=hc
              simp only [aop] at h
              cases hj:idx (ev fr i') with
              | none=>simp [hj] at h
              | some j =>
                simp only [hj] at h
                split at h
                · rename_i hlt
                  cases hxx:ev fr x' <;> simp only [hxx] at h <;> try (simp at h; done)
                  · rw [hxx] at hxr
                    have:=just_eq h; subst this
                    exact (g_iAddrA hop hu hes hxr (E hi) hj hlt (.inl ⟨_,rfl,rfl⟩)).res I hd
                  · rw [hxx] at hxr
                    have:=just_eq h; subst this
                    exact (g_iAddrA hop hu hes hxr (E hi) hj hlt (.inr ⟨_,_,rfl,rfl⟩)).res I hd
                · simp at h
  case index t x i =>
    cases hu:P.underlying t with
    | none=>simp [hu] at hc
    | some dd =>
      cases hx:cOpd T x with
      | none=>cases dd <;> simp [hu,hx] at hc
      | some x' =>
        cases hi:cOpd T i with
        | none=>cases dd <;> simp [hu,hx,hi] at hc
        | some i' =>
          have hxr:=E hx
          cases dd <;> simp only [hu,hx,hi] at hc <;> try (simp at hc; done)
          case string =>
            simp only [Option.some.injEq] at hc; subst hc
            simp only [aop] at h
            cases hj:idx (ev fr i') with
            | none=>simp [hj] at h
            | some j =>
              simp only [hj] at h
              cases hxx:ev fr x' <;> simp only [hxx] at h <;> try (simp at h; done)
              rename_i q
              rw [hxx] at hxr
              cases hb:q[j]? with
              | none=>simp [hb] at h
              | some b =>
                simp only [hb] at h
                have:=just_eq h; subst this
                exact (g_iStr hop hu (E hi) hj hxr hb).res I hd
          case array len e =>
            cases hes:sizeT P e with
            | none=>simp [hes] at hc
            | some es =>
              cases hm:loadN P e with
              | none=>simp [hes,hm] at hc
              | some m =>
                simp [hes,hm] at hc; subst hc
                simp only [aop] at h
                cases hj:idx (ev fr i') with
                | none=>simp [hj] at h
                | some j =>
                  simp only [hj] at h
                  split at h
                  · rename_i hlt
                    cases hxx:ev fr x' <;> simp only [hxx] at h <;> try (simp at h; done)
                    rename_i cs
                    rw [hxx] at hxr
                    cases hp2:partA m (cs.drop (j * es)) with
                    | none=>simp [hp2] at h
                    | some v =>
                      simp only [hp2] at h
                      have:=just_eq h; subst this
                      exact (g_iArr hop hu hes hm hxr (E hi) hj hlt hp2).res I hd
                  · simp at h
  case lookup t x i ok =>
    cases hu:P.underlying t with
    | none=>simp [hu] at hc
    | some dd =>
      cases hx:cOpd T x with
      | none=>cases dd <;> simp [hu,hx] at hc
      | some x' =>
        cases hi:cOpd T i with
        | none=>cases dd <;> simp [hu,hx,hi] at hc
        | some i' =>
          cases dd <;> simp only [hu,hx,hi] at hc <;> try (simp at hc; done)
          rename_i k e
          cases hz:zeroT P T e with
          | none=>simp [hz] at hc
          | some z =>
            simp [hz] at hc
            obtain ⟨hk,rfl⟩:=hc
            simp only [aop] at h
            cases he:ments hp (ev fr x') with
            | none=>simp [he] at h
            | some es =>
              cases hs:asS (ev fr i') with
              | none=>simp [he,hs] at h
              | some q =>
                simp only [he,hs] at h
                have G:=g_look I hop hu (strKey_spec hk) hz (E hx) (E hi) he hs
                cases hm:mfind es q with
                | none =>
                  simp only [hm] at h G
                  have:=just_eq h; subst this
                  exact G.res I hd
                | some v =>
                  simp only [hm] at h G
                  have:=just_eq h; subst this
                  exact G.res I hd
  case mapUpdate t x k v =>
    cases hu:P.underlying t with
    | none=>simp [hu] at hc
    | some dd =>
      cases hx:cOpd T x with
      | none=>cases dd <;> simp [hu,hx] at hc
      | some x' =>
        cases hk:cOpd T k with
        | none=>cases dd <;> simp [hu,hx,hk] at hc
        | some k' =>
          cases hv:cOpd T v with
          | none=>cases dd <;> simp [hu,hx,hk,hv] at hc
          | some v' =>
            cases dd <;> simp only [hu,hx,hk,hv] at hc <;> try (simp at hc; done)
            rename_i kt et
            split at hc
            · rename_i hkk
              simp only [Option.some.injEq] at hc; subst hc
              exact mput_res I hd (.inl hop) hu (strKey_spec hkk) (E hx) (E hk) (E hv) h
            · simp at hc
  case insert t x k v =>
    cases hu:P.underlying t with
    | none=>simp [hu] at hc
    | some dd =>
      cases hx:cOpd T x with
      | none=>cases dd <;> simp [hu,hx] at hc
      | some x' =>
        cases hk:cOpd T k with
        | none=>cases dd <;> simp [hu,hx,hk] at hc
        | some k' =>
          cases hv:cOpd T v with
          | none=>cases dd <;> simp [hu,hx,hk,hv] at hc
          | some v' =>
            cases dd <;> simp only [hu,hx,hk,hv] at hc <;> try (simp at hc; done)
            rename_i kt et
            split at hc
            · rename_i hkk
              simp only [Option.some.injEq] at hc; subst hc
              exact mput_res I hd (.inr hop) hu (strKey_spec hkk) (E hx) (E hk) (E hv) h
            · simp at hc
  case range t x =>
    cases hu:P.underlying t with
    | none=>simp [hu] at hc
    | some dd =>
      cases hx:cOpd T x with
      | none=>cases dd <;> simp [hu,hx] at hc
      | some x' =>
        cases dd <;> simp only [hu,hx] at hc <;> try (simp at hc; done)
        case string =>
          simp only [Option.some.injEq] at hc; subst hc
          have hxr:=E hx
          simp only [aop] at h
          cases hxx:ev fr x' <;> simp only [hxx] at h <;> try (simp at h; done)
          rw [hxx] at hxr
          have:=made_eq h; subst this
          exact s_rangeS I hd hop hu hxr d hdk
        case map k e =>
          split at hc
          · simp only [Option.some.injEq] at hc; subst hc
            have hxr:=E hx
            simp only [aop] at h
            cases hxx:ev fr x' <;> simp only [hxx] at h <;> try (simp at h; done)
            rw [hxx] at hxr
            have:=made_eq h; subst this
            exact s_rangeM I hd hop hu hxr d hdk
          · simp at hc
  case entry x =>
    cases hx:cOpd T x with
    | none=>simp [hx] at hc
    | some x' =>
      simp [hx] at hc; subst hc
      have hxr:=E hx
      simp only [aop] at h
      cases hxx:ev fr x' <;> simp only [hxx] at h <;> try (simp at h; done)
      rename_i id off
      cases off with
      | succ _=>simp at h
      | zero =>
        simp only at h
        cases ho:hlk hp id with
        | none=>simp [ho] at h
        | some ob =>
          cases ob <;> simp only [ho] at h <;> try (simp at h; done)
          rename_i rem cur
          cases cur with
          | none=>simp at h
          | some q =>
            obtain ⟨k,v⟩:=q
            simp only [just,Option.some.injEq] at h; subst h
            rw [hxx] at hxr
            exact s_entry I hd hop hxr ho
  case next x b =>
    cases b <;> simp only at hc <;> try (simp at hc; done)
    cases hx:cOpd T x <;> simp [hx] at hc
    subst hc
    simp [aop] at h
  case typeAssert x xt t ok =>
    cases hu:P.underlying t with
    | none=>simp [hu] at hc
    | some dd =>
      cases hx:cOpd T x with
      | none=>cases dd <;> simp [hu,hx] at hc
      | some x' =>
        by_cases hifc:∃ ms,dd=.interface ms
        · obtain ⟨ms,rfl⟩:=hifc
          cases hz:zeroT P T t with
          | none=>cases hg0:lkN T.tys t <;> simp [hu,hx,hz,hg0] at hc
          | some z =>
          cases ok with
          | false=>cases z <;> cases hg0:lkN T.tys t <;> simp [hu,hx,hz,hg0] at hc
          | true =>
            cases hzi:z <;> cases hg0:lkN T.tys t <;> simp [hu,hx,hz,hzi,hg0] at hc
            all_goals
              subst hzi; subst hc
              obtain ⟨zv,i,hi,hzv,hzr⟩:=zero_rep (w:=w) hz F ρ
              simp only [Rep] at hzr; subst hzr
              have hxr:=E hx
              simp only [aop] at h
              cases hxx:ev fr x' <;> simp only [hxx] at h <;> try (simp at h; done)
              · rw [hxx] at hxr
                have:=just_eq h; subst this
                exact (g_assertI hop hu hT hi hzv hxr (.inl ⟨rfl,rfl⟩)).res I hd
              · rename_i u v
                rw [hxx] at hxr
                cases hb:lkB (implB P ms T.tys T.it) u with
                | none=>simp [hb] at h
                | some b =>
                  simp only [hb] at h
                  have:=just_eq h; subst this
                  exact (g_assertI hop hu hT hi hzv hxr (.inr ⟨u,v,b,rfl,hb,rfl⟩)).res I hd
        cases hg:lkN T.tys t with
        | none=>cases dd <;> first | (simp [hu,hx,hg] at hc; done) | exact absurd ⟨_,rfl⟩ hifc
        | some g =>
          cases hz:zeroT P T t with
          | none=>cases dd <;> first | (simp [hu,hx,hg,hz] at hc; done) | exact absurd ⟨_,rfl⟩ hifc
          | some z =>
            have hs:s=.assert g z ok x'∧∀ ms,dd ≠ .interface ms:=by
              cases dd <;> simp [hu,hx,hg,hz] at hc <;> first | exact ⟨hc.symm,by simp⟩ | exact absurd ⟨_,rfl⟩ hifc
            obtain ⟨rfl,hni⟩:=hs
            obtain ⟨zv,i,hi,hzv,hzr⟩:=zero_rep (w:=w) hz F ρ
            have hxr:=E hx
            simp only [aop] at h
            have inj:∀ u,lkN T.tys u=some g→u=t:=fun u hu'=>hT u t g hu' hg
            cases hxx:ev fr x' <;> simp only [hxx] at h <;> try (simp at h; done)
            · rw [hxx] at hxr
              split at h
              · rename_i hok
                have:=just_eq h; subst this
                exact (g_assert hop hu hni hg inj hi hzv hzr hxr (.inr (.inr ⟨rfl,hok,rfl⟩))).res I hd
              · simp at h
            · rename_i u v
              rw [hxx] at hxr
              split at h
              · rename_i he; subst he
                have:=just_eq h; subst this
                exact (g_assert hop hu hni hg inj hi hzv hzr hxr (.inl ⟨v,rfl,rfl⟩)).res I hd
              · rename_i hne
                split at h
                · rename_i hok
                  have:=just_eq h; subst this
                  exact (g_assert hop hu hni hg inj hi hzv hzr hxr (.inr (.inl ⟨u,v,rfl,hne,hok,rfl⟩))).res I hd
                · simp at h
  case extract x i =>
    cases hx:cOpd T x <;> simp [hx] at hc
    subst hc
    rename_i x'
    have hxr:=E hx
    simp only [aop] at h
    cases hxx:ev fr x' <;> simp only [hxx] at h <;> try (simp at h; done)
    rename_i vs
    rw [hxx] at hxr
    cases hv:vs[i]? with
    | none=>simp [hv] at h
    | some v =>
      simp only [hv] at h
      have:=just_eq h; subst this
      exact (g_extr hop hxr hv).res I hd
  case call c =>
    obtain ⟨b,hb⟩:=hnc c hop
    simp only [cCall] at hc
    cases hargs:cOpds T c.args.toList with
    | none=>simp [hargs] at hc
    | some args =>
      simp only [hargs,hb] at hc
      cases b <;> simp only at hc <;> try (simp at hc; done)
      case append =>
        obtain ⟨x,y,x',y',hca,hx,hy,hargs2,t,u,hct⟩:=two_args hargs hc
        subst hargs2
        simp only [hct] at hc
        have hcall:∀ {e:TypeId},P.underlying t=some (.slice e)→∀ {i:TypeInfo},P.info? e=some i→∀ {z:AV},zeroT P T e=some z→i.size=(cells z).length→((∃ e',P.underlying u=some (.slice e'))∨P.underlying u=some .string)→s=.app i.size i.bytes x' y'→OpRes P T w0 F0 n fr o a w out:=by
          intro e ht i hi z hz hsz hk hs
          subst hs
          simp only [aop] at h
          cases hys:slCells hp (ev fr y') with
          | none=>simp [hys] at h
          | some ys =>
            cases hkc:ycount i.size (ev fr y') with
            | none=>simp [hys,hkc] at h
            | some k =>
              simp only [hys,hkc] at h
              have hzz:=hz
              obtain ⟨zv,i',hi',hzv,hzr⟩:=zero_rep (w:=w) hz F ρ
              rw [hi] at hi'; injection hi' with hi'; subst hi'
              simp only [zeroT,hi,hzv] at hzz
              have hsh:=constAV_shape hzz
              have hl:=(cells_rep0 hzr hsh.1 hsh.2).length
              have hzs:zv.cells.size=i.size:=by rw [← Array.length_toList]; omega
              exact s_app I hd hop hb (by rw [← hca]) (by rw [← hct]) ht hi hzv hzs hk (E hx) (E hy) hys hkc hdk h
        cases ht:P.underlying t with
        | none=>simp [ht] at hc
        | some dt =>
          cases hu:P.underlying u with
          | none=>cases dt <;> simp [ht,hu] at hc
          | some du =>
            cases dt <;> cases du <;> simp only [ht,hu] at hc <;> try (simp at hc; done)
            · rename_i e
              cases hi:P.info? e <;> cases hz:zeroT P T e <;> simp [hi,hz] at hc
              exact hcall ht hi hz hc.1.2 (.inr hu) hc.2.symm
            · rename_i e e'
              cases hi:P.info? e <;> cases hz:zeroT P T e <;> simp [hi,hz] at hc
              exact hcall ht hi hz hc.1.2 (.inl ⟨e',hu⟩) hc.2.symm
      case min =>
        obtain ⟨x,y,x',y',hca,hx,hy,hargs2,t,u,hct⟩:=two_args (f:=fun x y _ _=>some (.mn x y)) hargs hc
        subst hargs2
        simp only [hct,Option.some.injEq] at hc
        subst hc
        simp only [aop] at h
        cases hm:amin (ev fr x') (ev fr y') with
        | none=>simp [hm] at h
        | some m =>
          simp only [hm] at h
          have:=just_eq h; subst this
          exact (g_mn hop hb (by rw [← hca]) (by rw [← hct]) (E hx) (E hy) hm).res I hd
      case len =>
        obtain ⟨x,x',hca,hx,hargs2,t,hct⟩:=one_arg hargs hc
        subst hargs2
        simp only [hct] at hc
        have hlen:∀ {dt:TypeDesc} (k:Nat),P.underlying t=some dt→((dt=.string∧k=0)∨((∃ e,dt=.slice e)∧k=1)∨((∃ k' e,dt=.map k' e)∧k=2))→s=.len k x'→OpRes P T w0 F0 n fr o a w out:=by
          intro dt k ht hk hs
          subst hs
          simp only [aop] at h
          cases hm:alen hp k (ev fr x') with
          | none=>simp [hm] at h
          | some m =>
            simp only [hm] at h
            have:=just_eq h; subst this
            exact (g_len hop hb (by rw [← hca]) (by rw [← hct]) ht hk I (E hx) hm).res I hd
        cases ht:P.underlying t with
        | none=>simp [ht] at hc
        | some dt =>
          cases dt <;> simp only [ht] at hc <;> try (simp at hc; done)
          · simp only [Option.some.injEq] at hc; exact hlen 0 ht (.inl ⟨rfl,rfl⟩) hc.symm
          · simp only [Option.some.injEq] at hc; exact hlen 1 ht (.inr (.inl ⟨⟨_,rfl⟩,rfl⟩)) hc.symm
          · simp only [Option.some.injEq] at hc; exact hlen 2 ht (.inr (.inr ⟨⟨_,_,rfl⟩,rfl⟩)) hc.symm
end
end Wax


namespace Wax
open Go

variable {Γ:Gam} {fr:List (Nat × AV)} {hp:List (Nat × AObj)} {d:Nat}

theorem aload_nil {n:Option Nat} {v x:AV} (h:aload [] n v=some x):aload hp n v=some x:=by
  cases v <;> simp [aload,hlk] at h ⊢ <;> exact h

theorem slCells_nil {v:AV} {x:List AV} (h:slCells [] v=some x):slCells hp v=some x:=by
  cases v <;> simp [slCells,hlk] at h ⊢ <;> exact h

theorem ments_nil {v:AV} {x:List (List UInt8 × AV)} (h:ments [] v=some x):ments hp v=some x:=by
  cases v <;> simp [ments,hlk] at h ⊢ <;> exact h

theorem alen_nil {k:Nat} {v:AV} {x:Nat} (h:alen [] k v=some x):alen hp k v=some x:=by
  rcases k with _ | _ | _ | k <;> cases v <;> simp [alen,hlk] at h ⊢ <;> exact h

theorem acall_nil {f:Nat} {args:List AV} (hr:hasRefL args=false):acall Γ [] f args=acall Γ hp f args:=by
  simp only [acall,hr]; rfl

mutual
theorem pureV_ref:∀ {v:AV},pureV v=true→hasRef v=false
  | .ref _ _,h=>by simp [pureV] at h
  | .msl _ _ _ _,h=>by simp [pureV] at h
  | .mref _,h=>by simp [pureV] at h
  | .agg cs,h=>by simpa [hasRef] using pureVL_ref (by simpa [pureV] using h)
  | .tup cs,h=>by simpa [hasRef] using pureVL_ref (by simpa [pureV] using h)
  | .ifc _ v,h=>by simpa [hasRef] using pureV_ref (v:=v) (by simpa [pureV] using h)
  | .fn _ cs,h=>by simpa [hasRef] using pureVL_ref (by simpa [pureV] using h)
  | .junk,h=>by simp [pureV] at h
  | .bool _,_=>rfl
  | .int _ _,_=>rfl
  | .str _,_=>rfl
  | .nilI,_=>rfl
  | .nilP,_=>rfl
  | .nilF,_=>rfl
  | .nilM,_=>rfl
  | .nilS,_=>rfl
  | .gp _,_=>rfl
  | .sl _ _,_=>rfl
  | .ptr _,_=>rfl
  | .bx _,_=>rfl
  | .mp _,_=>rfl
theorem pureVL_ref:∀ {l:List AV},pureVL l=true→hasRefL l=false
  | [],_=>rfl
  | v::r,h=>by
    simp only [pureVL,Bool.and_eq_true] at h
    simp only [hasRefL,pureV_ref h.1,pureVL_ref h.2,Bool.or_self]
end
mutual
theorem pureV_kill {d:Nat}:∀ {v:AV},pureV v=true∨pureV (kill d v)=true→kill d v=v
  | .ref id off,h=>by
    simp only [kill] at h
    split at h <;> simp [pureV] at h
  | .msl id es off n,h=>by
    simp only [kill] at h
    split at h <;> simp [pureV] at h
  | .mref id,h=>by
    simp only [kill] at h
    split at h <;> simp [pureV] at h
  | .agg cs,h=>by
    simp only [kill,AV.agg.injEq]
    exact pureVL_kill (by simpa [pureV,kill] using h)
  | .tup cs,h=>by
    simp only [kill,AV.tup.injEq]
    exact pureVL_kill (by simpa [pureV,kill] using h)
  | .ifc _ v,h=>by
    simp only [kill,AV.ifc.injEq,true_and]
    exact pureV_kill (by simpa [pureV,kill] using h)
  | .fn _ cs,h=>by
    simp only [kill,AV.fn.injEq,true_and]
    exact pureVL_kill (by simpa [pureV,kill] using h)
  | .junk,_=>rfl
  | .bool _,_=>rfl
  | .int _ _,_=>rfl
  | .str _,_=>rfl
  | .nilI,_=>rfl
  | .nilP,_=>rfl
  | .nilF,_=>rfl
  | .nilM,_=>rfl
  | .nilS,_=>rfl
  | .gp _,_=>rfl
  | .sl _ _,_=>rfl
  | .ptr _,_=>rfl
  | .bx _,_=>rfl
  | .mp _,_=>rfl
theorem pureVL_kill {d:Nat}:∀ {l:List AV},pureVL l=true∨pureVL (killL d l)=true→killL d l=l
  | [],_=>rfl
  | v::r,h=>by
    simp only [pureVL,killL,Bool.and_eq_true] at h
    simp only [killL]
    rw [pureV_kill (h.imp And.left And.left),pureVL_kill (h.imp And.right And.right)]
end
def killA:List Nat→AV→AV
  | [],v=>v
  | d::r,v=>killA r (kill d v)

theorem pureV_killA:∀ {l:List Nat} {v:AV},pureV v=true∨pureV (killA l v)=true→killA l v=v
  | [],v,_=>rfl
  | d::r,v,h=>by
    rcases h with h | h
    · have e:=pureV_kill (d:=d) (.inl h)
      simp only [killA,e]
      exact pureV_killA (.inl h)
    · simp only [killA] at h ⊢
      have e1:=pureV_killA (.inr h)
      rw [e1] at h ⊢
      exact pureV_kill (.inr h)

theorem hasRefL_map {fr:List (Nat × AV)}:∀ {l:List Opd},(l.all fun x=>pureV (ev fr x))=true→hasRefL (l.map (ev fr))=false
  | [],_=>rfl
  | x::r,h=>by
    simp only [List.all_cons,Bool.and_eq_true] at h
    simp only [List.map_cons,hasRefL,pureV_ref h.1,Bool.false_or]
    exact hasRefL_map h.2

theorem hasRefL_app:∀ {l m:List AV},hasRefL l=false→hasRefL m=false→hasRefL (l++m)=false
  | [],m,_,h=>h
  | x::r,m,h,h'=>by
    simp only [hasRefL,Bool.or_eq_false_iff] at h
    simp only [List.cons_append,hasRefL,h.1,Bool.false_or]
    exact hasRefL_app h.2 h'

theorem flat_hp {s:SOp} (hc:calm s=true) (hf:flatIn fr s=true) {out:Out} (h:aop Γ fr [] d s=some out):aop Γ fr hp d s=some ⟨out.v,hp,[]⟩:=by
  have J:∀ {v:AV} {q:Option Out},just [] v=some out→q=just hp v→q=some ⟨out.v,hp,[]⟩:=by
    intro v q h e; simp only [just,Option.some.injEq] at h; subst h; exact e
  simp only [flatIn,Bool.and_eq_true] at hf
  cases s
  case load n x =>
    simp only [aop] at h ⊢
    cases hl:aload [] n (ev fr x) with
    | none=>simp [hl] at h
    | some v=>simp only [hl] at h; rw [aload_nil hl]; exact J h rfl
  case cBytesStr x =>
    simp only [aop] at h ⊢
    have key:∀ v,(if one1 v then (match slCells [] v with | some cs=>(match toBytes cs with | some s=>just [] (AV.str s) | none=>none) | none=>none) else none)=some out →
        (if one1 v then (match slCells hp v with | some cs=>(match toBytes cs with | some s=>just hp (AV.str s) | none=>none) | none=>none) else none)=some ⟨out.v,hp,[]⟩:=by
      intro v h
      split at h
      · rename_i h1
        rw [if_pos h1]
        cases hl:slCells [] v with
        | none=>simp [hl] at h
        | some cs =>
          simp only [hl] at h
          rw [slCells_nil hl]
          cases ht:toBytes cs with
          | none=>simp [ht] at h
          | some s=>simp only [ht] at h ⊢; exact J h rfl
      · simp at h
    cases hx:ev fr x <;> simp only [hx] at h ⊢ <;> first | (simp at h; done) | exact key _ h
  case cRunesStr x =>
    simp only [aop] at h ⊢
    have key:∀ v,(if one1 v then (match slCells [] v with | some cs=>(match toRunes cs with | some s=>just [] (AV.str s) | none=>none) | none=>none) else none)=some out →
        (if one1 v then (match slCells hp v with | some cs=>(match toRunes cs with | some s=>just hp (AV.str s) | none=>none) | none=>none) else none)=some ⟨out.v,hp,[]⟩:=by
      intro v h
      split at h
      · rename_i h1
        rw [if_pos h1]
        cases hl:slCells [] v with
        | none=>simp [hl] at h
        | some cs =>
          simp only [hl] at h
          rw [slCells_nil hl]
          cases ht:toRunes cs with
          | none=>simp [ht] at h
          | some s=>simp only [ht] at h ⊢; exact J h rfl
      · simp at h
    cases hx:ev fr x <;> simp only [hx] at h ⊢ <;> first | (simp at h; done) | exact key _ h
  case cSl x =>
    simp only [aop] at h
    cases hx:ev fr x <;> simp [hx,hlk] at h
  case look z o m k =>
    simp only [aop] at h ⊢
    cases hl:ments [] (ev fr m) with
    | none=>simp [hl] at h
    | some es =>
      cases hs:asS (ev fr k) with
      | none=>simp [hl,hs] at h
      | some q =>
        simp only [hl,hs] at h
        simp only [ments_nil hl,hs]
        cases hm:mfind es q <;> simp only [hm] at h ⊢ <;> exact J h rfl
  case len k x =>
    simp only [aop] at h ⊢
    cases hl:alen [] k (ev fr x) with
    | none=>simp [hl] at h
    | some v=>simp only [hl] at h; rw [alen_nil hl]; exact J h rfl
  case call f l =>
    simp only [aop] at h ⊢
    simp only [argsOf] at hf
    rw [acall_nil (hp:=hp) (hasRefL_map hf.2)] at h
    cases hl:acall Γ hp f (l.map (ev fr)) with
    | none=>simp [hl] at h
    | some v=>simp only [hl] at h ⊢; exact J h rfl
  case callV f l =>
    simp only [aop] at h ⊢
    simp only [argsOf,List.all_cons,Bool.and_eq_true] at hf
    cases hx:ev fr f <;> simp only [hx] at h ⊢ <;> try (simp at h; done)
    rename_i g cap
    rw [hx] at hf
    rw [acall_nil (hp:=hp) (hasRefL_app (hasRefL_map hf.2.2) (by simpa [hasRef] using pureV_ref hf.2.1))] at h
    cases hl:acall Γ hp g (l.map (ev fr)++cap) with
    | none=>simp [hl] at h
    | some v=>simp only [hl] at h ⊢; exact J h rfl
  case inv x name l =>
    simp only [aop] at h ⊢
    simp only [argsOf,List.all_cons,Bool.and_eq_true] at hf
    cases hx:ev fr x <;> simp only [hx] at h ⊢ <;> try (simp at h; done)
    rename_i t v
    rw [hx] at hf
    cases hm:Γ.mth t name with
    | none=>simp [hm] at h
    | some q =>
      simp only [hm] at h ⊢
      have:hasRefL (v::l.map (ev fr))=false:=by
        simp only [hasRefL,Bool.or_eq_false_iff]
        exact ⟨by simpa [hasRef] using pureV_ref hf.2.1,hasRefL_map hf.2.2⟩
      rw [acall_nil (hp:=hp) this] at h
      cases hl:acall Γ hp q (v::l.map (ev fr)) with
      | none=>simp [hl] at h
      | some v=>simp only [hl] at h ⊢; exact J h rfl
  case fl s =>
    simp only [aop] at h ⊢
    split at h
    · rename_i h1
      rw [if_pos h1]
      cases ho:aop Γ fr [] d s with
      | none=>simp [ho] at h
      | some o =>
        simp only [ho] at h ⊢
        split at h
        · rename_i h2
          rw [if_pos h2]
          exact J h rfl
        · simp at h
    · simp at h
  case entry x =>
    simp only [aop] at h
    split at h <;> (try simp at h; done)
    simp [hlk] at h
  all_goals first
    | (simp [calm] at hc; done)
    | (simp only [aop] at h ⊢; exact J h rfl)
    | (simp only [aop] at h ⊢; (repeat' split at h) <;> first | (simp at h; done) | (simp_all only [reduceCtorEq]; done) | (simp_all only [reduceCtorEq]; exact J h rfl) | (simp_all; done) | (simp_all; exact J h rfl))

theorem fl_spec {s:SOp} {out:Out} (h:aop Γ fr hp d (.fl s)=some out):flatIn fr s=true∧pureV out.v=true∧out.hp=hp∧out.new=[]∧∃ o,aop Γ fr [] d s=some o∧o.v=out.v:=by
  simp only [aop] at h
  split at h
  · rename_i h1
    refine ⟨h1,?_⟩
    cases ho:aop Γ fr [] d s with
    | none=>simp [ho] at h
    | some o =>
      simp only [ho] at h
      split at h
      · rename_i h2
        simp only [just,Option.some.injEq] at h
        subst h
        exact ⟨h2,rfl,rfl,o,rfl,rfl⟩
      · simp at h
  · simp at h

theorem fl_aop {s:SOp} (hc:calm s=true) {out:Out} (h:aop Γ fr hp d (.fl s)=some out):aop Γ fr hp d s=some out:=by
  obtain ⟨h1,_,h3,h4,o,h5,h6⟩:=fl_spec h
  rw [flat_hp hc h1 h5,h6]
  obtain ⟨v,hp',nw⟩:=out
  simp only at h3 h4
  subst h3; subst h4; rfl

theorem argsOf_reads:∀ {s:SOp} {x:Opd},x∈argsOf s→∀ i∈opdS x,i∈readsOf s:=by
  intro s
  induction s
  case call f l=>intro x hx i hi; simp only [readsOf,List.mem_flatMap]; exact ⟨x,hx,hi⟩
  case callV f l =>
    intro x hx i hi
    simp only [argsOf,List.mem_cons] at hx
    simp only [readsOf,List.mem_append,List.mem_flatMap]
    rcases hx with rfl | hx
    · exact .inl hi
    · exact .inr ⟨x,hx,hi⟩
  case inv y n l =>
    intro x hx i hi
    simp only [argsOf,List.mem_cons] at hx
    simp only [readsOf,List.mem_append,List.mem_flatMap]
    rcases hx with rfl | hx
    · exact .inl hi
    · exact .inr ⟨x,hx,hi⟩
  case fl s ih=>intro x hx i hi; simpa [readsOf] using ih (by simpa [argsOf] using hx) i hi
  all_goals (intro x hx; simp [argsOf] at hx)
end Wax


