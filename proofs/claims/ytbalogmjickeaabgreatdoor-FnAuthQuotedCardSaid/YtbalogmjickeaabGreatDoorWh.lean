/- The machine by which the functions are read, and what is proved of them (part 8): no premise. -/
import Derived.Maps.Own
import Derived.Sort.KeysCollected
import Derived.Test.YtbalogmjickeaabGreatDoorWg
set_option linter.all false
namespace Wax
open Go (IntKind)

@[simp] theorem trV3_atom (x:List (L8 × L8 × L8)):atom (tripV x)=true:=by cases x <;> rfl
@[simp] theorem trV3_ref (x:List (L8 × L8 × L8)):hasRef (tripV x)=false:=by cases x <;> simp [tripV,hasRef]
@[simp] theorem trV3_kill (x:List (L8 × L8 × L8)) (d:Nat):kill d (tripV x)=tripV x:=by cases x <;> simp [tripV]
@[simp] theorem trV3_snapW (x:List (L8 × L8 × L8)) (g:AV→AV):snapW g (tripV x)=tripV x:=by cases x <;> simp [tripV,snapW]
@[simp] theorem trV3_snap (x:List (L8 × L8 × L8)) (n:Nat) (hp:List (Nat × AObj)):snap (n+1) hp (tripV x)=tripV x:=by cases x <;> simp [tripV]
@[simp] theorem trV3_cells (x:List (L8 × L8 × L8)):cells (tripV x)=[tripV x]:=by cases x <;> rfl
@[simp] theorem trV3_map (x:List (L8 × L8 × L8)) (g:Nat→Nat):mapId g (tripV x)=tripV x:=by cases x <;> rfl
@[simp] theorem trV3_refs (x:List (L8 × L8 × L8)):refs (tripV x)=[]:=by cases x <;> simp [tripV]
def Inf.cells (x:Inf):List AV:=[.str x.m,.str [],.str x.v,.str x.r,tripV x.ps]
def ifA (l:List Inf):List AV:=l.map Inf.V
def ifC (l:List Inf):List AV:=l.flatMap Inf.cells
@[simp] theorem ifA_nil:ifA []=[]:=rfl
@[simp] theorem ifA_cons {x:Inf} {l}:ifA (x::l)=.agg x.cells::ifA l:=rfl
@[simp] theorem ifA_app {l m}:ifA (l++m)=ifA l++ifA m:=by simp [ifA]
@[simp] theorem ifC_nil:ifC []=[]:=rfl
@[simp] theorem ifC_cons {x:Inf} {l}:ifC (x::l)=x.cells++ifC l:=rfl
@[simp] theorem ifC_app {l m}:ifC (l++m)=ifC l++ifC m:=by simp [ifC]
@[simp] theorem ifcells_length {x:Inf}:x.cells.length=5:=rfl
@[simp] theorem ifC_length {l:List Inf}:(ifC l).length=l.length * 5:=by induction l <;> simp_all; omega
@[simp] theorem atoms_ifcells {x:Inf}:atoms x.cells=true:=by simp [Inf.cells]
@[simp] theorem atoms_ifC {l:List Inf}:atoms (ifC l)=true:=by induction l <;> simp_all
@[simp] theorem killL_ifcells {d:Nat} {x:Inf}:killL d x.cells=x.cells:=by simp [Inf.cells]
@[simp] theorem killL_ifC {d:Nat} {l:List Inf}:killL d (ifC l)=ifC l:=by induction l <;> simp_all
@[simp] theorem snap_ifcells {n:Nat} {hp:List (Nat × AObj)} {x:Inf}:x.cells.map (snap (n+1) hp)=x.cells:=by simp [Inf.cells]
@[simp] theorem map_snap_ifC {n:Nat} {hp:List (Nat × AObj)} {l:List Inf}:(ifC l).map (snap (n+1) hp)=ifC l:=by induction l <;> simp_all
@[simp] theorem hasRefL_ifcells {x:Inf}:hasRefL x.cells=false:=by simp [Inf.cells,hasRefL]
@[simp] theorem hasRefL_ifC {l:List Inf}:hasRefL (ifC l)=false:=by induction l <;> simp_all [hasRefL]
@[simp] theorem refsL_ifcells {x:Inf}:refsL x.cells=[]:=by simp [Inf.cells]
@[simp] theorem refsL_ifC {l:List Inf}:refsL (ifC l)=[]:=by induction l <;> simp_all
@[simp] theorem snapWL_ifcells {g:AV→AV} {x:Inf}:snapWL g x.cells=x.cells:=by simp [Inf.cells]
@[simp] theorem snapWL_ifC {g:AV→AV} {l:List Inf}:snapWL g (ifC l)=ifC l:=by induction l <;> simp_all
@[simp] theorem group_ifC:∀ {l:List Inf},group 5 l.length (ifC l)=ifA l
  | []=>rfl
  | x::l=>by
    have h1:(x.cells++ifC l).take 5=x.cells:=List.take_left' rfl
    have h2:(x.cells++ifC l).drop 5=ifC l:=List.drop_left' rfl
    simp only [List.length_cons,group,ifC_cons,h1,h2,ifA_cons,group_ifC (l:=l)]
def ifV (l:List Inf):AV:=match l with | []=>.nilS | _=>.sl 5 (ifA l)
structure AFd where
  id:L8
  ver:L8
  l:List Inf
def AFd.V (f:AFd):AV:=.agg [.str f.id,.str f.ver,ifV f.l]
def aLoop:Nat→Nat→List Inf→L8→Option (List Inf × Bool)
  | 0,_,_,_=>none
  | k+1,n,acc,t=>match t with
    | []=>some (acc,true)
    | c::t1=>if c=59 then (match aInfo t1 with
        | none=>none
        | some r=>if r.2.2.1=false∨(r.2.1=true∧n ≠ 0) then some (acc,false) else aLoop k (n+1) (if r.2.1=true then acc else acc++[r.1]) r.2.2.2)
      else some (acc,false)
def aRest (id ver t:L8):Option (AFd × Bool):=(aLoop (t.length+1) 0 [] t).map fun r=>(⟨id,ver,r.1⟩,r.2)
def aField (s:L8):Option (AFd × Bool):=match bB s with
  | none=>none
  | some t1 =>
    if (rVal [64] t1).2.1=false then some (⟨[],[],[]⟩,false)
    else match bB (t1.drop (rVal [64] t1).2.2) with
      | none=>none
      | some t2 =>
        if t2=[]∨t2.head? = some 59 then aRest (rVal [64] t1).1 [] t2
        else if rWd [] t2=[] then some (⟨(rVal [64] t1).1,[],[]⟩,false)
        else match bB (t2.drop (rWd [] t2).length) with
          | none=>none
          | some t3=>aRest (rVal [64] t1).1 (rWd [] t2) t3
def qrt:Nat:=274877906944
def con_ARead:List AV→Option AV
  | [.str s]=>if s.length < qrt then (aField s).map fun r=>.tup [r.1.V,.bool r.2] else none
  | _=>none
theorem infoA {S p t:L8} {r:Inf × Bool × Bool × L8} (e:S=p++t) (hr:aInfo t=some r) (hl:S.length < half):∃ p',S=p'++r.2.2.2∧con_info [.ref 0 0] [(0,.cells [.str S,.int .i64 (p.length:Int)])]=some (.tup [r.1.V,.bool r.2.1,.bool r.2.2.1],[(0,.cells [.str S,.int .i64 (p'.length:Int)])]):=by
  subst e
  obtain ⟨d,hd⟩:=aInfo_sf hr
  refine ⟨p++d,by rw [List.append_assoc,hd],?_⟩
  have hk:t.length - r.2.2.2.length=d.length:=by rw [← hd]; simp
  have:=rdMk_at (lim:=half) (f:=fun t=>(aInfo t).map fun r=>(.tup [r.1.V,.bool r.2.1,.bool r.2.2.1],t.length - r.2.2.2.length)) (p:=p) (t:=t) (v:=.tup [r.1.V,.bool r.2.1,.bool r.2.2.1]) (k:=d.length) (by simp [hr,hk]) hl
  simp only [con_info,this,List.length_append]
section
variable {Γ:Gam} (s224:Γ.st 224=con_has) (s226:Γ.st 226=con_word) (s227:Γ.st 227=con_blank) (s228:Γ.st 228=con_value) (s229:Γ.st 229=con_info)
include s224 s226 s227 s228 s229
set_option maxRecDepth 100000 in
set_option maxHeartbeats 8000000 in
theorem aread_loop {S:L8} (hlq:S.length < qrt) {id ver:L8} {R:List Inf × Bool} {p t:L8} (e:S=p++t) (hR:aLoop (t.length+1) 0 [] t=some R) {ex:List (Nat × AV)} :
    awp Γ f_spec_ARead_3 (finQ [.c (some 3) 2,.t 3] fun v=>v=.tup [(⟨id,ver,R.1⟩:AFd).V,.bool R.2]) ⟨(2,.ref 2 0)::(4,.ref 14 0)::(5,.ref 5 0)::ex,[(14,.cells [.str S,.int .i64 (p.length:Int)]),(5,.cells [.str id,.str ver,.nilS]),(2,.cells [.str [],.str [],.nilS])]⟩:=by
  simp -implicitDefEqProofs [f_spec_ARead_3]
  refine awp_loop2 (σ:=List Inf × L8 × L8 × Nat × Nat) (fun q=>⟨[(2,.ref 2 0),(4,.ref 14 0),(5,.ref 5 0),(8,.int .i64 (q.2.2.2.1:Int))],grH 106 q.1.length (ifC q.1)++[(14,.cells [.str S,.int .i64 (q.2.1.length:Int)]),(5,.cells [.str id,.str ver,grV 106 5 q.1.length]),(2,.cells [.str [],.str [],.nilS])]⟩)
    (fun q=>S=q.2.1++q.2.2.1∧aLoop q.2.2.2.2 q.2.2.2.1 q.1 q.2.2.1=some R∧q.1.length+q.2.2.1.length≤S.length∧q.2.2.2.1+q.2.2.1.length≤S.length∧q.1.length≤q.2.2.2.1) (fun q=>q.2.2.2.2) ([],p,t,0,t.length+1) (by simp) ⟨e,hR,by rw [e]; simp,by rw [e]; simp,by simp⟩ ?_
  clear hR e
  have hlh:S.length < half:=by simp only [qrt] at hlq; simp only [half]; omega
  simp only [qrt] at hlq
  have hl:S.length < mid:=by simp only [half] at hlh; simp only [mid]; omega
  rintro ⟨acc,p,t,n,k⟩ ⟨e,hR,hal,hnl,han⟩ LQ hLQ
  simp only at e hR hal hnl han
  obtain ⟨k,rfl⟩:∃ j,k=j+1:=by
    cases k with
    | zero=>simp [aLoop] at hR
    | succ k=>exact ⟨k,rfl⟩
  have hSl:=congrArg List.length e
  simp only [List.length_append] at hSl
  have hn0:(0 < (n:Int))=(n ≠ 0):=by apply propext; omega
  simp only [half] at hlh
  have ew:IntKind.i64.wrap ((n:Int)+1)=(n:Int)+1:=wrap64 (by omega) (by omega)
  cases acc with
  | nil =>
    cases t with
    | nil =>
      simp only [aLoop,Option.some.injEq] at hR
      subst hR
      have hat:(p.length:Int)=(S.length:Int):=by simp at hSl; omega
      have hnlt:¬ (S.length:Int) < (S.length:Int):=by omega
      simp -implicitDefEqProofs [b_spec_ARead_1,t_spec_ARead_2,acallS,reach_succ,s224,s226,s227,s228,s229,hat,hnlt,AFd.V,ifV]
    | cons c t1 =>
    have hlt:(p.length:Int) < (S.length:Int):=by simp only [List.length_cons] at hSl; omega
    simp only [aLoop] at hR
    by_cases c59:c=59
    rotate_left
    · rw [if_neg c59] at hR
      simp only [Option.some.injEq] at hR
      subst hR
      have q59:=hasN (c:=59) e (by
            intro x hx; simp at hx; subst hx
            exact ne_int (c:=59) c59) hl
      simp -implicitDefEqProofs [b_spec_ARead_1,t_spec_ARead_2,acallS,reach_succ,s224,s226,s227,s228,s229,hlt,q59,AFd.V,ifV]
    rw [if_pos c59] at hR
    obtain ⟨p1,e1,q59⟩:=hasA (c:=59) e (by rw [c59]; rfl) hl
    split at hR
    · simp at hR
    rename_i r hr
    obtain ⟨p2,e2,k2⟩:=infoA e1 hr hlh
    have l2:=(aInfo_sf hr).length_le
    simp only [List.length_cons] at hal hnl
    clear hr
    obtain ⟨⟨m,v,r,ps⟩,no,ok,t2⟩:=r
    simp only [Inf.V] at hR k2 e2 l2
    split at hR
    · rename_i hbad
      simp only [Option.some.injEq] at hR
      subst hR
      cases ok with
      | false =>
        simp -implicitDefEqProofs [b_spec_ARead_1,acallS,reach_succ,s224,s226,s227,s228,s229,hlt,q59,k2,AFd.V,ifV]
      | true =>
        simp at hbad
        obtain ⟨rfl,hbad⟩:=hbad
        have hn1:¬ n=0:=hbad
        simp -implicitDefEqProofs [b_spec_ARead_1,acallS,reach_succ,s224,s226,s227,s228,s229,hlt,q59,k2,AFd.V,ifV,hn0,hn1]
    · rename_i hbad
      simp at hbad
      obtain ⟨rfl,hbad⟩:=hbad
      cases no with
      | false =>
        simp -implicitDefEqProofs [b_spec_ARead_1,acallS,reach_succ,s224,s226,s227,s228,s229,hlt,q59,k2,ew]
        exact hLQ ([]++[⟨m,v,r,ps⟩],p2,t2,n+1,k) ⟨e2,by simpa using hR,by simp at hal ⊢; omega,by simp; omega,by simp at han ⊢; try omega⟩ (by simp) _ (by simp [Inf.cells])
      | true =>
        have hn1:n=0:=hbad rfl
        simp -implicitDefEqProofs [b_spec_ARead_1,acallS,reach_succ,s224,s226,s227,s228,s229,hlt,q59,k2,ew,hn0,hn1]
        exact hLQ ([],p2,t2,n+1,k) ⟨e2,by simpa using hR,by simp at hal ⊢; omega,by simp; omega,by simp at han ⊢; try omega⟩ (by simp) _ (by simp [hn1,show IntKind.i64.wrap 1=1 by decide])
  | cons y ys =>
    obtain ⟨acc,hps⟩:∃ l,l=y::ys:=⟨_,rfl⟩
    have hk:acc.length=ys.length+1:=by rw [hps]; rfl
    rw [← hps] at hR hLQ hal han ⊢
    have hG:group 5 (ys.length+1) (ifC acc)=ifA acc:=by rw [← hk]; exact group_ifC
    have hT:ifV acc=.sl 5 (ifA acc):=by rw [hps]; rfl
    have hRf:hasRefL (ifC acc)=false:=hasRefL_ifC
    have hTk:List.take ((ys.length+1) * 5) (ifC acc)=ifC acc:=by rw [← hk]; exact List.take_of_length_le (by simp)
    clear hps
    cases t with
    | nil =>
      simp only [aLoop,Option.some.injEq] at hR
      subst hR
      have hat:(p.length:Int)=(S.length:Int):=by simp at hSl; omega
      have hnlt:¬ (S.length:Int) < (S.length:Int):=by omega
      simp -implicitDefEqProofs [b_spec_ARead_1,t_spec_ARead_2,acallS,reach_succ,s224,s226,s227,s228,s229,hk,hG,hT,hRf,hTk,hat,hnlt,AFd.V]
    | cons c t1 =>
    have hlt:(p.length:Int) < (S.length:Int):=by simp only [List.length_cons] at hSl; omega
    simp only [aLoop] at hR
    by_cases c59:c=59
    rotate_left
    · rw [if_neg c59] at hR
      simp only [Option.some.injEq] at hR
      subst hR
      have q59:=hasN (c:=59) e (by
            intro x hx; simp at hx; subst hx
            exact ne_int (c:=59) c59) hl
      simp -implicitDefEqProofs [b_spec_ARead_1,t_spec_ARead_2,acallS,reach_succ,s224,s226,s227,s228,s229,hk,hG,hT,hRf,hTk,hlt,q59,AFd.V]
    rw [if_pos c59] at hR
    obtain ⟨p1,e1,q59⟩:=hasA (c:=59) e (by rw [c59]; rfl) hl
    split at hR
    · simp at hR
    rename_i r hr
    obtain ⟨p2,e2,k2⟩:=infoA e1 hr hlh
    have l2:=(aInfo_sf hr).length_le
    simp only [List.length_cons] at hal hnl
    clear hr
    obtain ⟨⟨m,v,r,ps⟩,no,ok,t2⟩:=r
    simp only [Inf.V] at hR k2 e2 l2
    split at hR
    · rename_i hbad
      simp only [Option.some.injEq] at hR
      subst hR
      cases ok with
      | false =>
        simp -implicitDefEqProofs [b_spec_ARead_1,acallS,reach_succ,s224,s226,s227,s228,s229,hk,hG,hT,hRf,hTk,hlt,q59,k2,AFd.V]
      | true =>
        simp at hbad
        obtain ⟨rfl,hbad⟩:=hbad
        have hn1:¬ n=0:=hbad
        simp -implicitDefEqProofs [b_spec_ARead_1,acallS,reach_succ,s224,s226,s227,s228,s229,hk,hG,hT,hRf,hTk,hlt,q59,k2,AFd.V,hn0,hn1]
    · rename_i hbad
      simp at hbad
      obtain ⟨rfl,hbad⟩:=hbad
      cases no with
      | false =>
        simp -implicitDefEqProofs [b_spec_ARead_1,acallS,reach_succ,s224,s226,s227,s228,s229,hk,hG,hT,hRf,hTk,hlt,q59,k2,ew]
        refine ⟨by omega,?_⟩
        exact hLQ (acc++[⟨m,v,r,ps⟩],p2,t2,n+1,k) ⟨e2,by simpa using hR,by simp at hal ⊢; omega,by simp; omega,by simp at han ⊢; try omega⟩ (by simp) _ (by simp [hk,Inf.cells])
      | true =>
        have hn1:n=0:=hbad rfl
        omega
set_option maxRecDepth 100000 in
set_option maxHeartbeats 4000000 in
theorem ok_ARead:∀ args r,con_ARead args=some r→runs Γ c_spec_ARead args (fun v=>v=r):=by
  intro args r h
  simp only [con_ARead] at h
  split at h <;> (try simp at h; done)
  rename_i S
  split at h <;> (try simp at h; done)
  rename_i hlq
  have hlh:S.length < half:=by simp only [qrt] at hlq; simp only [half]; omega
  have hl:S.length < mid:=by simp only [half] at hlh; simp only [mid]; omega
  simp only [Option.map_eq_some_iff] at h
  obtain ⟨q,hq,rfl⟩:=h
  have e0:S=[]++S:=rfl
  unfold aField at hq
  split at hq
  · simp at hq
  rename_i t1 h1
  obtain ⟨_,rfl,hb1⟩:=bB_le h1
  obtain ⟨p1,e1,k1⟩:=blankA e0 hb1 hl
  obtain ⟨p2,e2,k2⟩:=valueA (m:=[64]) e1 (by simp [big]) hl
  simp only [List.length_nil,Int.natCast_zero] at k1
  generalize rB S=t1 at *
  generalize rVal [64] t1=V at *
  obtain ⟨id,ok,n⟩:=V
  simp only at hq e2 k2
  cases ok with
  | false =>
    simp only [if_pos,Option.some.injEq] at hq
    subst hq
    simp -implicitDefEqProofs [c_spec_ARead,f_spec_ARead_5,acallS,reach_succ,s224,s226,s227,s228,s229,k1,k2,AFd.V,ifV]
  | true =>
  simp only [Bool.true_eq_false,if_false] at hq
  split at hq
  · simp at hq
  rename_i t2 h2
  obtain ⟨_,rfl,hb2⟩:=bB_le h2
  obtain ⟨p3,e3,k3⟩:=blankA e2 hb2 hl
  generalize rB (t1.drop n)=t2 at *
  have hS3:=congrArg List.length e3
  simp only [List.length_append] at hS3
  unfold aRest at hq
  cases t2 with
  | nil =>
    simp only [true_or,if_true,Option.map_eq_some_iff] at hq
    obtain ⟨R,hR,rfl⟩:=hq
    have hat:¬ ((p3.length:Int) < (S.length:Int)):=by simp at hS3; omega
    have hat':¬ (p3.length < S.length):=by omega
    simp -implicitDefEqProofs [c_spec_ARead,f_spec_ARead_5,f_spec_ARead_4,acallS,reach_succ,s224,s226,s227,s228,s229,k1,k2,k3,hat,hat']
    exact aread_loop (ex:=[]) s224 s226 s227 s228 s229 hlq e3 hR
  | cons c t3 =>
    have hlt:(p3.length:Int) < (S.length:Int):=by simp only [List.length_cons] at hS3; omega
    have hlt':p3.length < S.length:=by omega
    have g:S[p3.length]? = some c:=by rw [e3]; exact get_mid rfl
    have g':S[p3.length]'hlt'=c:=by rw [List.getElem?_eq_getElem hlt'] at g; exact Option.some.inj g
    by_cases c59:c=59
    · rw [if_pos (.inr (by rw [c59]; rfl))] at hq
      simp only [Option.map_eq_some_iff] at hq
      obtain ⟨R,hR,rfl⟩:=hq
      have hc:(c.toNat:Int)=59:=by rw [c59]; rfl
      simp -implicitDefEqProofs [c_spec_ARead,f_spec_ARead_5,f_spec_ARead_4,acallS,reach_succ,s224,s226,s227,s228,s229,k1,k2,k3,hlt,hlt',g,g',hc]
      exact aread_loop (ex:=[]) s224 s226 s227 s228 s229 hlq e3 hR
    have hc:¬ (c.toNat:Int)=59:=ne_int (c:=59) c59
    rw [if_neg (by simp [c59])] at hq
    obtain ⟨p4,e4,k4⟩:=wordA (m:=[]) e3 (by simp [big]) hl
    simp -implicitDefEqProofs [c_spec_ARead,f_spec_ARead_5,f_spec_ARead_4,acallS,reach_succ,s224,s226,s227,s228,s229,k1,k2,k3,hlt,hlt',g,g',hc,k4]
    generalize rWd [] (c::t3)=W at *
    by_cases hW:W=[]
    · rw [if_pos hW] at hq
      simp only [Option.some.injEq] at hq
      subst hq
      subst hW
      simp -implicitDefEqProofs [AFd.V,ifV]
    rw [if_neg hW] at hq
    split at hq
    · simp at hq
    rename_i t5 h5
    obtain ⟨_,rfl,hb5⟩:=bB_le h5
    obtain ⟨p5,e5,k5⟩:=blankA e4 hb5 hl
    simp only [Option.map_eq_some_iff] at hq
    obtain ⟨R,hR,rfl⟩:=hq
    simp -implicitDefEqProofs [acallS,reach_succ,s224,s226,s227,s228,s229,k5,hW]
    exact aread_loop (ex:=[]) s224 s226 s227 s228 s229 hlq e5 hR
end
theorem rok_ARead (Γ:Gam) (s224:Γ.st 224=con_has) (s226:Γ.st 226=con_word) (s227:Γ.st 227=con_blank) (s228:Γ.st 228=con_value) (s229:Γ.st 229=con_info) :
    ∀ args r,con_ARead args=some r→runs Γ c_spec_ARead args (fun v=>v=r) :=
  ok_ARead s224 s226 s227 s228 s229
end Wax


namespace Wax
open Go Go.RowKit Go.Proofs

def noVal:Value→Option (DataW Nat × List MemPlace):=fun _=>some (.nil,[])

def SortedSays (P:Program) (T:Tab) (f g:FuncId):Prop :=
  (∀ h,lkN T.fns h=some 55→h=g)∧∃ e9 k:TypeId,P.underlying k=some .string ∧
  ∀ (Bm b nn:Nat) (D0:DataW Nat) (w:World),Bm < w.heap.size→w.cell? ⟨Bm,0,none⟩=some (.map (some b))→w.ownsMap P k noVal b nn D0→Maps.size D0≤maxLen→Maps.size D0 * 16≤140737488355328 →
    Calls P f #[.func (.func g) #[] #[.pointer (some ⟨Bm,0,none⟩)]] w fun e w'=>∃ (v:Value) (ss:List (List UInt8)),e=.returned v∧ss.Perm (Go.strKeys D0) ∧
      w'.ownsRow w.heap.size e9 1 v ss.length ((ss.mergeSort (fun x y=>decide (x≤y))).map encStr)∧(v=.slice none 0 0 ↔ ss=[])∧Below w.heap.size w w'

theorem repM_keyList {T:Tab} {w:World} {F:Frz}:∀ {es:List (List UInt8 × AV)} {l:List MapEntry},RepM T w F es l→l.map (·.key)=es.map fun p=>Value.string ⟨p.1.toArray⟩
  | [],[],_=>rfl
  | (k,c)::r,e::s,h=>by
    simp only [RepM] at h
    simp only [List.map_cons,h.1,repM_keyList h.2.2]
  | [],_::_,h=>by simp [RepM] at h
  | _::_,[],h=>by simp [RepM] at h

theorem ok_Sorted {P:Program} {T:Tab} {f g:FuncId} (H:SortedSays P T f g):∀ args r,con_Sorted args=some r→OkCall P T f args r:=by
  intro args r h w F vs hF _ hx
  obtain ⟨hinj,e9,k,hk,H⟩:=H
  simp only [con_Sorted] at h
  split at h <;> (try simp at h; done)
  rename_i es
  obtain ⟨⟨hlen,hkl⟩,rfl⟩:=ite_some h
  clear h
  simp only [half] at hlen
  match vs,hx with
  | [v],hx =>
    simp only [RepL,and_true] at hx
    simp only [Rep] at hx
    obtain ⟨f',vs',rfl,hf',hcap⟩:=hx
    obtain rfl:=hinj f' hf'
    obtain ⟨l⟩:=vs'
    match l,hcap with
    | [p],hcap =>
      simp only [RepL,and_true,Rep] at hcap
      obtain ⟨Bm,rfl,hat⟩:=hcap
      simp only [RepAt,and_true] at hat
      obtain ⟨hFB,x,hcell,hmp⟩:=hat
      simp only [Rep] at hmp
      obtain ⟨b,ents,clk,rfl,hFb,hheap,⟨el,hpe,hM⟩,hst⟩:=hmp
      have hBm:Bm < w.heap.size:=hF Bm hFB
      have hkeys:(ents.toList.map (·.key)).Perm (es.map fun p=>Value.string ⟨p.1.toArray⟩):=by
        rw [← repM_keyList hM]; exact (hpe.map _).symm
      have hsz:ents.size=es.length:=by
        have:=hkeys.length_eq
        simpa using this
      have hread:∀ x∈ents.toList,∃ s:List UInt8,x.key=.string ⟨s.toArray⟩∧keyOf P k x.key=some (.string s):=by
        intro x hx
        have hm:x.key∈ents.toList.map (·.key):=List.mem_map_of_mem hx
        rw [hkeys.mem_iff,List.mem_map] at hm
        obtain ⟨q,hq,e⟩:=hm
        refine ⟨q.1,e.symm,?_⟩
        have hs:=hkl q hq
        simp only [half] at hs
        rw [← e]
        have hsz:(⟨q.1.toArray⟩:ByteArray).size=q.1.length:=by show q.1.toArray.size=_; simp
        have:=Go.WideMaps.keyOf_string_mk hk (s:=⟨q.1.toArray⟩) (by rw [hsz]; simp only [maxLen]; omega)
        simpa using this
      have hown:w.ownsMap P k noVal b ents.size (.map ((ents.toList.map (WideElems.rg P k noVal)).foldr DataW.insert [])):=by
        refine ⟨ents,clk,hheap,⟨by rw [hsz]; simp only [maxLen]; omega,hst,fun x hx=>?_⟩,Nat.le_refl _,rfl⟩
        obtain ⟨s,_,hs⟩:=hread x hx
        exact ⟨_,WideElems.rd_mk (val:=x.val) (born:=x.born) hs rfl⟩
      have hds:Maps.size (.map ((ents.toList.map (WideElems.rg P k noVal)).foldr DataW.insert []))=es.length:=by
        simp only [Maps.size]
        rw [(WideShapes.sorted_perm _).length_eq]
        simp [hsz]
      have hsk:(Go.strKeys (.map ((ents.toList.map (WideElems.rg P k noVal)).foldr DataW.insert []))).Perm (es.map (·.1)):=by
        simp only [Go.strKeys]
        refine ((WideShapes.sorted_perm _).map _).trans ?_
        have:((ents.toList.map (WideElems.rg P k noVal)).map (fun p=>Go.strOf p.1)).Perm (es.map (·.1)):=by
          rw [List.map_map]
          have e1:ents.toList.map ((fun p=>Go.strOf p.1) ∘ WideElems.rg P k noVal)=(ents.toList.map (·.key)).map (fun v=>match v with | .string s=>s.data.toList | _=>[]):=by
            rw [List.map_map]
            refine List.map_congr_left fun x hx=>?_
            obtain ⟨s,h1,h2⟩:=hread x hx
            have h3:=WideElems.rg_of (WideElems.rd_mk (R:=noVal) (val:=x.val) (born:=x.born) h2 rfl)
            simp only [Function.comp_apply]
            rw [show x=⟨x.key,x.val,x.born⟩ from rfl,h3,h1]
            rfl
          have e2:(es.map fun p=>Value.string ⟨p.1.toArray⟩).map (fun v=>match v with | .string s=>s.data.toList | _=>[])=es.map (·.1):=by
            rw [List.map_map]
            refine List.map_congr_left fun x _=>?_
            simp
          rw [e1,← e2]
          exact hkeys.map _
        exact this
      refine (H Bm b ents.size _ w hBm hcell hown (by rw [hds]; simp only [maxLen]; omega) (by rw [hds]; omega)).mono ?_
      rintro e w' ⟨v,ss,rfl,hp,ho,hn,hbl⟩
      have hperm:ss.Perm (es.map (·.1)):=hp.trans hsk
      have hms:ss.mergeSort (fun x y=>decide (x≤y))=sortB (es.map (·.1)):=Go.mergeSort_of_perm hperm
      rw [hms] at ho
      have hl:ss.length=(sortB (es.map (·.1))).length:=by rw [hperm.length_eq]; simp [sortB]
      rw [hl] at ho
      refine ⟨v,rfl,hbl,?_⟩
      by_cases he:es=[]
      · subst he
        have hss:ss=[]:=by simpa using hperm
        rw [hn.2 hss]
        simp [sortB,strV,Rep]
      · have hss:ss ≠ []:=fun e=>he (by rw [e] at hperm; simpa using hperm.symm)
        have hne:sortB (es.map (·.1)) ≠ []:=fun e=>by rw [e] at hl; exact hss (List.length_eq_zero_iff.1 hl)
        have:strV (sortB (es.map (·.1)))=.sl 1 (strsA (sortB (es.map (·.1)))):=by
          cases hq:sortB (es.map (·.1)) with
          | nil=>exact absurd hq hne
          | cons _ _=>rfl
        rw [this]
        exact owned_strs (e9:=e9) (l:=sortB (es.map (·.1))) ho (fun e=>hss (hn.1 e))

def lkOnly (l:List (Nat × Nat)) (n g:Nat):Bool:=l.all fun p=>p.2 != n || p.1 == g

theorem lkN_only {l:List (Nat × Nat)} {n g:Nat} (h:lkOnly l n g=true):∀ i,lkN l i=some n→i=g:=by
  intro i hi
  induction l with
  | nil=>simp [lkN] at hi
  | cons p r ih =>
    simp only [lkOnly,List.all_cons,Bool.and_eq_true,Bool.or_eq_true,bne_iff_ne,ne_eq,beq_iff_eq] at h
    obtain ⟨a,b⟩:=p
    simp only [lkN] at hi
    split at hi
    · rename_i e
      simp only [beq_iff_eq] at e
      simp only [Option.some.injEq] at hi
      rcases h.1 with h1 | h1
      · exact absurd hi h1
      · exact e ▸ h1
    · exact ih (by simpa [lkOnly] using h.2) hi
end Wax


namespace Wax
open Go (IntKind)

def fmKeys (l:List KVp):List L8:=(if lookP l qReason=[] then [] else [qReason])++sortB ((l.map (·.1)).filter (· ≠ qReason))
def fmWord (l:List KVp) (k:L8):L8:=k++61::(if k=qReason then fmtV (lookP l k) else fmtP (lookP l k))
def joinW:List L8→L8
  | []=>[]
  | w::r=>w++r.flatMap (32 :: ·)
def fmtPs (l:List KVp):L8:=joinW (((fmKeys l).filter fun k=>decide (lookP l k ≠ [])).map (fmWord l))
def con_formatParams:List AV→Option AV
  | [.mp es]=>match asPm es with
    | some l=>if l.length < half∧(∀ p∈l,ascii p.2=true∧p.2.length < qrt)∧(fmtPs l).length < mid then some (.str (fmtPs l)) else none
    | none=>none
  | _=>none
theorem joinW_snoc:∀ (W:List L8) (w:L8),joinW (W++[w])=if W=[] then w else joinW W++32::w
  | [],w=>by simp [joinW]
  | x::W,w=>by simp [joinW]
theorem joinW_le:∀ (a b:List L8),(joinW a).length≤(joinW (a++b)).length
  | [],b=>by simp [joinW]
  | x::a,b=>by simp [joinW]
theorem lookP_val:∀ (l:List KVp) (k:L8),lookP l k=[]∨∃ p∈l,p.2=lookP l k
  | [],k=>.inl rfl
  | p::r,k=>by
    simp only [lookP]
    split
    · exact .inr ⟨p,by simp,rfl⟩
    · rcases lookP_val r k with h | ⟨q,h1,h2⟩
      · exact .inl h
      · exact .inr ⟨q,by simp [h1],h2⟩
def fmWs (l:List KVp) (ks:List L8):List L8:=(ks.filter fun k=>decide (lookP l k ≠ [])).map (fmWord l)
theorem fmWs_app (l:List KVp) (a b:List L8):fmWs l (a++b)=fmWs l a++fmWs l b:=by simp [fmWs]
theorem fmWs_len (l:List KVp) (a:List L8):(fmWs l a).length≤a.length:=by simpa [fmWs] using List.length_filter_le _ a
set_option maxHeartbeats 8000000 in
set_option maxRecDepth 100000 in
theorem fm_loop {Γ:Gam} (h241:Γ.fn 241=con_formatValue) (h242:Γ.fn 242=con_formatPvalue) {l:List KVp} (h2:∀ p∈l,ascii p.2=true∧p.2.length < qrt) (h3:(fmtPs l).length < mid) {ks:List L8} (hks:fmtPs l=joinW (fmWs l ks)) (hkl:ks.length < mid)
    {d:Nat} {more:List (Nat × AObj)} (hd:(d=12∧more=[])∨(d=24∧more=[])∨(d=30∧more=[(12,.cells [])])∨(d=32∧∃ cs,more=[(24,.cells (strsA cs))])) :
    awp Γ (.loop [0,5,6,33,34,35] b_authres_formatParams_2) (blockQ 2 (thenQ (awp Γ t_authres_formatParams_3 (finQ [.t 2] fun v=>v=.str (fmtPs l))) (finQ [.t 2] fun v=>v=.str (fmtPs l)))) ⟨[(0,.mp (pmA l)),(5,.str []),(6,.int .i64 0),(33,.msl d 1 0 ks.length),(34,.int .i64 ks.length),(35,.int .i64 0)],(d,.cells (strsA ks))::more⟩:=by
  refine awp_loop2 (σ:=List L8 × List L8) (fun p=>⟨[(0,.mp (pmA l)),(5,.str (joinW (fmWs l p.1))),(6,.int .i64 (fmWs l p.1).length),(33,.msl d 1 0 ks.length),(34,.int .i64 ks.length),(35,.int .i64 p.1.length)],(d,.cells (strsA ks))::more⟩)
    (fun p=>ks=p.1++p.2) (fun p=>p.2.length) ([],ks) (by simp [fmWs,joinW]) (by simp) ?_
  rintro ⟨pre,post⟩ e LQ hLQ
  simp only at e
  simp only [mid] at h3 hkl
  cases post with
  | nil =>
    simp only [List.append_nil] at e
    subst e
    have hnl:¬ ((ks.length:Int) < (ks.length:Int)):=by omega
    rcases hd with ⟨rfl,rfl⟩ | ⟨rfl,rfl⟩ | ⟨rfl,rfl⟩ | ⟨rfl,cs,rfl⟩ <;> simp -implicitDefEqProofs [b_authres_formatParams_2,t_authres_formatParams_3,hks]
  | cons k post =>
    have hlen:ks.length=pre.length+(post.length+1):=by rw [e]; simp
    have hlt:(pre.length:Int) < (ks.length:Int):=by omega
    have hlt':pre.length < ks.length:=by omega
    have g:List.drop pre.length ks=k::post:=by rw [e,List.drop_left]
    have ew:IntKind.i64.wrap ((pre.length:Int)+1)=(pre.length:Int)+1:=wrap64 (by omega) (by omega)
    have go:=fun st=>hLQ (pre++[k],post) (by rw [e]; simp) (by simp) st
    have lw:=fmWs_len l pre
    simp only [fmWs_app] at go
    by_cases hv:lookP l k=[]
    · have e0:fmWs l [k]=[]:=by simp [fmWs,hv]
      rw [e0,List.append_nil] at go
      simp -implicitDefEqProofs [b_authres_formatParams_2,hlt,hlt',g,ew,lookA_pmA,hv]
      exact go _ (by simp)
    · have e1:fmWs l [k]=[fmWord l k]:=by simp [fmWs,hv]
      rw [e1,joinW_snoc] at go
      have hl2:(joinW (fmWs l pre++[fmWord l k])).length≤(fmtPs l).length:=by
        rw [hks,e,show k::post=[k]++post from rfl,← List.append_assoc,fmWs_app l (pre++[k]),fmWs_app l pre,e1]
        exact joinW_le _ _
      rw [joinW_snoc] at hl2
      have hva:ascii (lookP l k)=true∧(lookP l k).length < mid:=by
        rcases lookP_val l k with h | ⟨q,hq,e⟩
        · exact absurd h hv
        · rw [← e]; exact ⟨(h2 q hq).1,by have:=(h2 q hq).2; simp only [qrt] at this; simp only [mid]; omega⟩
      have kv:con_formatValue [.str (lookP l k)]=some (.str (fmtV (lookP l k))):=if_pos ⟨hva.2,hva.1⟩
      have kp:con_formatPvalue [.str (lookP l k)]=some (.str (fmtP (lookP l k))):=if_pos ⟨hva.2,hva.1⟩
      have ew2:IntKind.i64.wrap (((fmWs l pre).length:Int)+1)=((fmWs l pre).length:Int)+1:=wrap64 (by omega) (by omega)
      have e10:IntKind.i64.wrap 1=1:=by decide
      by_cases hr:k=qReason
      · have hw:fmWord l k=k++61::fmtV (lookP l k):=by simp only [fmWord,if_pos hr]
        rw [hw] at go hl2
        have hr':k=[114,101,97,115,111,110]:=hr
        clear hr hw kp
        subst hr'
        cases hW:fmWs l pre with
        | nil =>
          rw [hW] at go hl2
          simp only [if_true,List.length_append,List.length_cons] at hl2
          simp -implicitDefEqProofs [b_authres_formatParams_2,hlt,hlt',g,ew,lookA_pmA,hv,hva,acall,h241,kv,e10]
          simp only [List.length_nil] at hl2
          exact ⟨by omega,by simp [joinW]; omega,go _ (by simp [joinW])⟩
        | cons w ws =>
          rw [hW] at go hl2 ew2
          simp only [reduceCtorEq,if_false,List.length_append,List.length_cons] at hl2
          simp only [List.length_cons,Int.natCast_add,Int.natCast_one] at ew2
          simp -implicitDefEqProofs [b_authres_formatParams_2,hlt,hlt',g,ew,lookA_pmA,hv,hva,acall,h241,kv,ew2]
          simp only [List.length_nil] at hl2
          exact ⟨by omega,by omega,by omega,go _ (by simp)⟩
      · have hw:fmWord l k=k++61::fmtP (lookP l k):=by simp only [fmWord,if_neg hr]
        rw [hw] at go hl2
        have hr':¬ k=[114,101,97,115,111,110]:=hr
        cases hW:fmWs l pre with
        | nil =>
          rw [hW] at go hl2
          simp only [if_true,List.length_append,List.length_cons] at hl2
          simp -implicitDefEqProofs [b_authres_formatParams_2,hlt,hlt',g,ew,lookA_pmA,hv,hr',acall,h242,kp,e10]
          exact ⟨by omega,by omega,by simp [joinW]; omega,go _ (by simp [joinW])⟩
        | cons w ws =>
          rw [hW] at go hl2 ew2
          simp only [reduceCtorEq,if_false,List.length_append,List.length_cons] at hl2
          simp only [List.length_cons,Int.natCast_add,Int.natCast_one] at ew2
          simp -implicitDefEqProofs [b_authres_formatParams_2,hlt,hlt',g,ew,lookA_pmA,hv,hr',acall,h242,kp,ew2]
          exact ⟨by omega,by omega,by omega,by omega,go _ (by simp)⟩
set_option maxHeartbeats 4000000 in
set_option maxRecDepth 100000 in
theorem fm_tail {Γ:Gam} (h240:Γ.st 240=con_Sort) (h241:Γ.fn 241=con_formatValue) (h242:Γ.fn 242=con_formatPvalue) {l:List KVp} (h2:∀ p∈l,ascii p.2=true∧p.2.length < qrt) (h3:(fmtPs l).length < mid) {got:List L8} {cur:Option (L8 × AV)} (hg:got.length < half) (hs:sortB got=sortB ((l.map (·.1)).filter (· ≠ qReason))) :
    awp Γ t_authres_formatParams_4 (finQ [.t 2] fun v=>v=.str (fmtPs l)) ⟨[(0,.mp (pmA l)),(3,if got=[] then .msl 12 1 0 0 else .msl 24 1 0 got.length),(14,.ref 14 0),(16,.bool false)],(if got=[] then [] else [(24,.cells (strsA got))])++(14,.mit [] cur)::(if got=[] then [(12,.cells [])] else [])⟩:=by
  simp only [half] at hg
  have hsl:(sortB got).length=got.length:=by simp [sortB]
  have hK:fmtPs l=joinW (fmWs l ((if lookP l qReason=[] then [] else [qReason])++sortB got)):=by rw [hs]; rfl
  clear hs
  have hm:got.length+1 < mid:=by simp only [mid]; omega
  cases got with
  | nil =>
    have ks:con_Sort [.msl 0 1 0 0] [(0,.cells [])]=some (.tup [],[(0,.cells [])]):=by simp [con_Sort,asStrs,sortB,strsA]
    have es:sortB []=[]:=by simp [sortB]
    rw [es] at hK
    simp -implicitDefEqProofs [t_authres_formatParams_4,acallS,reach_succ,h240,ks,lookA_pmA,just]
    refine ⟨fun hr=>?_,fun hr=>?_⟩
    · rw [if_neg (by exact hr)] at hK
      exact fm_loop h241 h242 h2 h3 (ks:=[qReason]) hK (by simp [mid]) (d:=30) (more:=[(12,.cells [])]) (.inr (.inr (.inl ⟨rfl,rfl⟩)))
    · rw [if_pos (by exact hr)] at hK
      exact fm_loop h241 h242 h2 h3 (ks:=[]) hK (by simp [mid]) (d:=12) (more:=[]) (.inl ⟨rfl,rfl⟩)
  | cons y ys =>
    generalize hgot:y::ys=got at *
    have hn:¬ got=[]:=by rw [← hgot]; simp
    have ks:con_Sort [.msl 0 1 0 got.length] [(0,.cells (strsA got))]=some (.tup [],[(0,.cells (strsA (sortB got)))]):=by
      have ha:asStrs (strsA got)=some got:=asStrs_strsA
      simp only [con_Sort,ha]
      exact if_pos ⟨trivial,by omega⟩
    have tk:List.take got.length (sortB got)=sortB got:=List.take_of_length_le (by omega)
    simp -implicitDefEqProofs [t_authres_formatParams_4,acallS,reach_succ,h240,ks,lookA_pmA,hn,tk]
    refine ⟨fun hr=>⟨by omega,by omega,?_⟩,fun hr=>?_⟩
    · rw [if_neg (by exact hr)] at hK
      have t:=fm_loop h241 h242 h2 h3 (ks:=qReason::sortB got) hK (by simp only [List.length_cons]; omega) (d:=32) (more:=[(24,.cells (strsA (sortB got)))]) (.inr (.inr (.inr ⟨rfl,_,rfl⟩)))
      have e1:(1+got.length)=(qReason::sortB got).length:=by simp only [List.length_cons]; omega
      have e2:(1+(got.length:Int))=((qReason::sortB got).length:Int):=by simp only [List.length_cons]; omega
      rw [e1,e2]
      exact t
    · rw [if_pos (by exact hr)] at hK
      have t:=fm_loop h241 h242 h2 h3 (ks:=sortB got) hK (by omega) (d:=24) (more:=[]) (.inr (.inl ⟨rfl,rfl⟩))
      rw [hsl] at t
      exact t
set_option maxHeartbeats 4000000 in
set_option maxRecDepth 100000 in
theorem ok_formatParams (Γ:Gam) (h240:Γ.st 240=con_Sort) (h241:Γ.fn 241=con_formatValue) (h242:Γ.fn 242=con_formatPvalue):∀ args r,con_formatParams args=some r→runs Γ c_authres_formatParams args (fun v=>v=r):=by
  intro args r h
  simp only [con_formatParams] at h
  split at h <;> (try simp at h; done)
  rename_i es
  split at h <;> (try simp at h; done)
  rename_i l hl
  obtain ⟨⟨h1,h2,h3⟩,rfl⟩:=ite_some h
  clear h
  rw [asPm_spec hl]
  clear hl
  simp only [half] at h1
  have hpl:(pmA l).length=l.length:=by simp [pmA]
  simp -implicitDefEqProofs [c_authres_formatParams]
  refine ⟨by omega,?_⟩
  refine awp_loop2 (σ:=List L8 × List KVp × Option (L8 × AV)) (fun q=>⟨[(0,.mp (pmA l)),(3,if q.1=[] then .msl 12 1 0 0 else .msl 24 1 0 q.1.length),(14,.ref 14 0)],(if q.1=[] then [] else [(24,.cells (strsA q.1))])++(14,.mit (pmA q.2.1) q.2.2)::(if q.1=[] then [(12,.cells [])] else [])⟩)
    (fun q=>(q.1++(q.2.1.map (·.1)).filter (· ≠ qReason)).Perm ((l.map (·.1)).filter (· ≠ qReason))∧q.1.length+q.2.1.length≤l.length) (fun q=>q.2.1.length) ([],l,none) (by simp) (by simp) ?_
  rintro ⟨got,rem,cur⟩ ⟨hp,hgl⟩ LQ hLQ
  simp only at hp hgl
  have step:∀ {pre post:List (L8 × AV)} {k:L8} {v:AV},pmA rem=pre++(k,v)::post→∃ a b w,rem=a++(k,w)::b∧pre=pmA a∧post=pmA b:=by
    intro pre post k v e
    obtain ⟨a,c,e1,e2,e3⟩:=List.map_eq_append_iff.1 e
    obtain ⟨x,b,e4,e5,e6⟩:=List.map_eq_cons_iff.1 e3
    refine ⟨a,b,x.2,?_,e2.symm,e6.symm⟩
    simp only [Prod.mk.injEq] at e5
    rw [e1,e4,← e5.1]
  have fin:pmA rem=[]→sortB got=sortB ((l.map (·.1)).filter (· ≠ qReason)):=by
    intro e
    have er:rem=[]:=by simpa [pmA] using e
    subst er
    simp only [List.map_nil,List.filter_nil,List.append_nil] at hp
    exact Go.mergeSort_of_perm hp
  have skip:∀ {a b:List KVp} {w:L8},rem=a++(qReason,w)::b→(got++((a++b).map (·.1)).filter (· ≠ qReason)).Perm ((l.map (·.1)).filter (· ≠ qReason))∧got.length+(a++b).length≤l.length:=by
    rintro a b w rfl
    refine ⟨by simpa using hp,by simp only [List.length_append,List.length_cons] at hgl ⊢; omega⟩
  have take:∀ {a b:List KVp} {k w:L8},rem=a++(k,w)::b→¬ k=qReason→((got++[k])++((a++b).map (·.1)).filter (· ≠ qReason)).Perm ((l.map (·.1)).filter (· ≠ qReason))∧(got++[k]).length+(a++b).length≤l.length:=by
    rintro a b k w rfl hk
    refine ⟨?_,by simp only [List.length_append,List.length_cons,List.length_nil] at hgl ⊢; omega⟩
    refine List.Perm.trans ?_ hp
    simp only [List.map_append,List.filter_append,List.map_cons,List.filter_cons,hk,ne_eq,not_false_eq_true,decide_true,if_true,List.append_assoc,List.singleton_append]
    exact List.perm_middle.symm.append_left got
  cases got with
  | nil =>
    simp -implicitDefEqProofs [b_authres_formatParams_1]
    refine ⟨fun e=>?_,fun pre k v post e=>⟨fun hk=>?_,fun hk=>?_⟩⟩
    · rw [e]
      have t:=fm_tail h240 h241 h242 h2 h3 (got:=[]) (cur:=cur) (by simp [half]) (fin e)
      exact t
    · obtain ⟨a,b,w,e1,rfl,rfl⟩:=step e
      subst hk
      exact hLQ ([],a++b,_) (skip e1) (by rw [e1]; simp) _ (by simp [pmA]; rfl)
    · obtain ⟨a,b,w,e1,rfl,rfl⟩:=step e
      exact hLQ ([k],a++b,_) (take e1 hk) (by rw [e1]; simp) _ (by simp [pmA]; rfl)
  | cons y ys =>
    simp -implicitDefEqProofs [b_authres_formatParams_1]
    refine ⟨fun e=>?_,fun pre k v post e=>⟨fun hk=>?_,fun hk=>⟨?_,?_⟩⟩⟩
    · rw [e]
      have t:=fm_tail h240 h241 h242 h2 h3 (got:=y::ys) (cur:=cur) (by simp only [half]; omega) (fin e)
      exact t
    · obtain ⟨a,b,w,e1,rfl,rfl⟩:=step e
      subst hk
      exact hLQ (y::ys,a++b,_) (skip e1) (by rw [e1]; simp) _ (by simp [pmA]; rfl)
    · simp only [List.length_cons] at hgl
      omega
    · obtain ⟨a,b,w,e1,rfl,rfl⟩:=step e
      exact hLQ (y::ys++[k],a++b,_) (take e1 hk) (by rw [e1]; simp) _ (by simp [pmA]; rfl)
end Wax


namespace Wax
open Go (IntKind)

def PR.meth:PR→L8
  | .arc _ _ _=>[]
  | .auth _ _ _=>sAuth
  | .dkim _ _ _ _=>sDkim
  | .domk _ _ _ _ _=>sDomk
  | .iprev _ _ _=>sIprev
  | .sender _ _ _ _=>sSender
  | .spf _ _ _ _=>sSpf
  | .dmarc _ _ _=>sDmarc
  | .gen m _ _=>m
def PR.val:PR→L8
  | .arc v _ _=>v
  | .auth v _ _=>v
  | .dkim v _ _ _=>v
  | .domk v _ _ _ _=>v
  | .iprev v _ _=>v
  | .sender v _ _ _=>v
  | .spf v _ _ _=>v
  | .dmarc v _ _=>v
  | .gen _ v _=>v
def PR.fm:PR→List KVp
  | .arc _ _ _=>[]
  | .auth _ _ a=>[(qAuth,a)]
  | .dkim _ r d i=>[(qD,d),(qI,i),(qReason,r)]
  | .domk _ r d f s=>[(qD,d),(qFrom,f),(qSend,s),(qReason,r)]
  | .iprev _ r i=>[(qIprev,i),(qReason,r)]
  | .sender _ r k x=>[(qHead++lowS k,x),(qReason,r)]
  | .spf _ r f h=>[(qReason,r),(qHelo,h),(qMail,f)]
  | .dmarc _ r f=>[(qFrom,f),(qReason,r)]
  | .gen _ _ l=>l
def PR.fmt (x:PR):AV:=.tup [.str x.val,.mp (pmA x.fm)]
def con_fAuth:List AV→Option AV
  | [.ptr [.str v,.str r,.str a]]=>some (PR.auth v r a).fmt
  | _=>none
set_option maxHeartbeats 4000000 in
set_option maxRecDepth 100000 in
theorem ok_fAuth (Γ:Gam):∀ args r,con_fAuth args=some r→runs Γ c_authres_AuthResult_format args (fun v=>v=r):=by
  intro args r h
  simp only [con_fAuth] at h
  split at h <;> (try simp at h; done)
  injection h with h; subst h
  simp -implicitDefEqProofs [c_authres_AuthResult_format,PR.fmt,PR.val,PR.fm,pmA,qAuth]
  exact ⟨rfl,rfl⟩
def con_fDKIM:List AV→Option AV
  | [.ptr [.str v,.str r,.str d,.str i]]=>some (PR.dkim v r d i).fmt
  | _=>none
set_option maxHeartbeats 4000000 in
set_option maxRecDepth 100000 in
theorem ok_fDKIM (Γ:Gam):∀ args r,con_fDKIM args=some r→runs Γ c_authres_DKIMResult_format args (fun v=>v=r):=by
  intro args r h
  simp only [con_fDKIM] at h
  split at h <;> (try simp at h; done)
  injection h with h; subst h
  simp -implicitDefEqProofs [c_authres_DKIMResult_format,PR.fmt,PR.val,PR.fm,pmA,qD,qI,qReason]
  exact ⟨rfl,rfl,rfl,rfl⟩
def con_fDomk:List AV→Option AV
  | [.ptr [.str v,.str r,.str d,.str f,.str s]]=>some (PR.domk v r d f s).fmt
  | _=>none
set_option maxHeartbeats 4000000 in
set_option maxRecDepth 100000 in
theorem ok_fDomk (Γ:Gam):∀ args r,con_fDomk args=some r→runs Γ c_authres_DomainKeysResult_format args (fun v=>v=r):=by
  intro args r h
  simp only [con_fDomk] at h
  split at h <;> (try simp at h; done)
  injection h with h; subst h
  simp -implicitDefEqProofs [c_authres_DomainKeysResult_format,PR.fmt,PR.val,PR.fm,pmA,qD,qFrom,qSend,qReason]
  exact ⟨rfl,rfl,rfl,rfl,rfl⟩
def con_fIprev:List AV→Option AV
  | [.ptr [.str v,.str r,.str i]]=>some (PR.iprev v r i).fmt
  | _=>none
set_option maxHeartbeats 4000000 in
set_option maxRecDepth 100000 in
theorem ok_fIprev (Γ:Gam):∀ args r,con_fIprev args=some r→runs Γ c_authres_IPRevResult_format args (fun v=>v=r):=by
  intro args r h
  simp only [con_fIprev] at h
  split at h <;> (try simp at h; done)
  injection h with h; subst h
  simp -implicitDefEqProofs [c_authres_IPRevResult_format,PR.fmt,PR.val,PR.fm,pmA,qIprev,qReason]
  exact ⟨rfl,rfl,rfl⟩
def con_fSpf:List AV→Option AV
  | [.ptr [.str v,.str r,.str f,.str h]]=>some (PR.spf v r f h).fmt
  | _=>none
set_option maxHeartbeats 4000000 in
set_option maxRecDepth 100000 in
theorem ok_fSpf (Γ:Gam):∀ args r,con_fSpf args=some r→runs Γ c_authres_SPFResult_format args (fun v=>v=r):=by
  intro args r h
  simp only [con_fSpf] at h
  split at h <;> (try simp at h; done)
  injection h with h; subst h
  simp -implicitDefEqProofs [c_authres_SPFResult_format,PR.fmt,PR.val,PR.fm,pmA,qReason,qHelo,qMail]
  exact ⟨rfl,rfl,rfl,rfl⟩
def con_fDmarc:List AV→Option AV
  | [.ptr [.str v,.str r,.str f]]=>some (PR.dmarc v r f).fmt
  | _=>none
set_option maxHeartbeats 4000000 in
set_option maxRecDepth 100000 in
theorem ok_fDmarc (Γ:Gam):∀ args r,con_fDmarc args=some r→runs Γ c_authres_DMARCResult_format args (fun v=>v=r):=by
  intro args r h
  simp only [con_fDmarc] at h
  split at h <;> (try simp at h; done)
  injection h with h; subst h
  simp -implicitDefEqProofs [c_authres_DMARCResult_format,PR.fmt,PR.val,PR.fm,pmA,qFrom,qReason]
  exact ⟨rfl,rfl,rfl⟩
def con_fSender:List AV→Option AV
  | [.ptr [.str v,.str r,.str k,.str x]]=>if k.length < mid∧ascii k=true then some (PR.sender v r k x).fmt else none
  | _=>none
set_option maxHeartbeats 4000000 in
set_option maxRecDepth 100000 in
theorem ok_fSender (Γ:Gam) (h172:Γ.fn 172=con_zzToLower):∀ args r,con_fSender args=some r→runs Γ c_authres_SenderIDResult_format args (fun v=>v=r):=by
  intro args r h
  simp only [con_fSender] at h
  split at h <;> (try simp at h; done)
  rename_i v r k x
  obtain ⟨hk,rfl⟩:=ite_some h
  have kl:con_zzToLower [.str k]=some (.str (lowS k)):=if_pos hk
  have hl:(lowS k).length=k.length:=by simp [lowS]
  have hk1:=hk.1
  simp only [mid] at hk1
  simp -implicitDefEqProofs [c_authres_SenderIDResult_format,acall,h172,kl,PR.fmt,PR.val,PR.fm,pmA,qHead,qReason]
  exact ⟨rfl,by omega,rfl,rfl⟩
def con_fGen:List AV→Option AV
  | [.ptr [.str m,.str v,.mp es]]=>some (.tup [.str v,.mp es])
  | _=>none
set_option maxHeartbeats 4000000 in
set_option maxRecDepth 100000 in
theorem ok_fGen (Γ:Gam):∀ args r,con_fGen args=some r→runs Γ c_authres_GenericResult_format args (fun v=>v=r):=by
  intro args r h
  simp only [con_fGen] at h
  split at h <;> (try simp at h; done)
  injection h with h; subst h
  simp -implicitDefEqProofs [c_authres_GenericResult_format]
def con_resultMethod:List AV→Option AV
  | [v]=>(asPR v).map fun x=>.str x.meth
  | _=>none
set_option maxHeartbeats 4000000 in
set_option maxRecDepth 100000 in
theorem ok_resultMethod (Γ:Gam):∀ args r,con_resultMethod args=some r→runs Γ c_authres_resultMethod args (fun v=>v=r):=by
  intro args r h
  simp only [con_resultMethod] at h
  split at h <;> (try simp at h; done)
  rename_i u
  simp only [Option.map_eq_some_iff] at h
  obtain ⟨x,hx,rfl⟩:=h
  rw [asPR_spec hx]
  cases x <;> simp -implicitDefEqProofs [c_authres_resultMethod,PR.av,PR.meth,sAuth,sDkim,sDomk,sIprev,sSender,sSpf,sDmarc]
def mapOf (l:List KVp):List KVp:=l.foldl (fun m p=>psetL m p.1 p.2) []
def AR.pr (r:AR):PR :=
  if r.kind=1 then .auth r.value r.reason r.auth
  else if r.kind=2 then .dkim r.value r.reason r.domain r.ident
  else if r.kind=3 then .domk r.value r.reason r.domain r.fr r.sender
  else if r.kind=4 then .iprev r.value r.reason r.ip
  else if r.kind=5 then .sender r.value r.reason r.hkey r.hval
  else if r.kind=6 then .spf r.value r.reason r.fr r.helo
  else if r.kind=7 then .dmarc r.value r.reason r.fr
  else if r.kind=8 then .arc r.value r.remote r.oldest
  else .gen r.method r.value (mapOf (r.ps.getD []))
def con_resultFor:List AV→Option AV
  | [.agg cs]=>match asAR cs with
    | some r=>if (r.ps.getD []).length < half then some r.pr.av else none
    | none=>none
  | _=>none
set_option maxHeartbeats 8000000 in
set_option maxRecDepth 100000 in
theorem ok_resultFor (Γ:Gam):∀ args r,con_resultFor args=some r→runs Γ c_impl_resultFor args (fun v=>v=r):=by
  intro args r h
  simp only [con_resultFor] at h
  split at h <;> (try simp at h; done)
  rename_i cs
  split at h <;> (try simp at h; done)
  rename_i r hr
  obtain ⟨hl,rfl⟩:=ite_some h
  rw [asAR_spec hr]
  have cu:=slP_cells r.ps
  simp only [cells] at cu
  clear h hr
  by_cases k1:r.kind=1
  · simp -implicitDefEqProofs [c_impl_resultFor,AR.cells,cu,k1,AR.pr,PR.av]
  by_cases k2:r.kind=2
  · simp -implicitDefEqProofs [c_impl_resultFor,AR.cells,cu,k2,AR.pr,PR.av]
  by_cases k3:r.kind=3
  · simp -implicitDefEqProofs [c_impl_resultFor,AR.cells,cu,k3,AR.pr,PR.av]
  by_cases k4:r.kind=4
  · simp -implicitDefEqProofs [c_impl_resultFor,AR.cells,cu,k4,AR.pr,PR.av]
  by_cases k5:r.kind=5
  · simp -implicitDefEqProofs [c_impl_resultFor,AR.cells,cu,k5,AR.pr,PR.av]
  by_cases k6:r.kind=6
  · simp -implicitDefEqProofs [c_impl_resultFor,AR.cells,cu,k6,AR.pr,PR.av]
  by_cases k7:r.kind=7
  · simp -implicitDefEqProofs [c_impl_resultFor,AR.cells,cu,k7,AR.pr,PR.av]
  by_cases k8:r.kind=8
  · simp -implicitDefEqProofs [c_impl_resultFor,AR.cells,cu,k8,AR.pr,PR.av]
  have hal:=fun hp=>slP_alen r.ps hp
  simp only [half] at hl
  simp -implicitDefEqProofs [-alen,c_impl_resultFor,AR.cells,cu,k1,k2,k3,k4,k5,k6,k7,k8,AR.pr,PR.av,hal]
  refine awp_loop2 (σ:=List KVp × List KVp) (fun q=>⟨[(1,.ref 1 0),(3,.str r.value),(4,.mref 101),(103,slP r.ps),(104,.int .i64 (r.ps.getD []).length),(105,.int .i64 q.1.length)],[(101,.mp (pmA (mapOf q.1))),(1,.cells r.cells)]⟩)
    (fun q=>r.ps.getD []=q.1++q.2) (fun q=>q.2.length) ([],r.ps.getD []) (by simp [mapOf,pmA,AR.cells]) (by simp) ?_
  rintro ⟨pre,post⟩ e LQ hLQ
  simp only at e
  cases post with
  | nil =>
    simp only [List.append_nil] at e
    rw [e] at hl ⊢
    simp -implicitDefEqProofs [-alen,b_impl_resultFor_1,t_impl_resultFor_2,AR.cells,cu]
  | cons x post =>
    have hps:r.ps=some (pre++x::post):=by
      cases hq:r.ps with
      | none=>rw [hq] at e; simp at e
      | some l=>rw [hq] at e; simp only [Option.getD_some] at e; rw [e]
    have hm:mapOf (pre++[x])=psetL (mapOf pre) x.1 x.2:=by simp [mapOf]
    have go:=fun st=>hLQ (pre++[x],post) (by rw [e]; simp) (by simp) st
    rw [e] at hl
    simp only [hm,hps,slP,AR.cells,Option.getD_some] at go
    have hlt:(pre.length:Int) < ((pre++x::post).length:Int):=by simp; omega
    have hlt':pre.length < (pre++x::post).length:=by simp
    simp only [List.length_append,List.length_cons] at hl
    have ew:IntKind.i64.wrap ((pre.length:Int)+1)=(pre.length:Int)+1:=wrap64 (by omega) (by omega)
    simp -implicitDefEqProofs [-alen,b_impl_resultFor_1,hps,slP,AR.cells,ew,mset_pmA]
    exact ⟨fun _=>go _ (by simp),fun h=>absurd h (by omega)⟩
end Wax


namespace Wax
open Go (IntKind)

def asPRl:List AV→Option (List PR)
  | []=>some []
  | v::r=>match asPR v,asPRl r with | some x,some l=>some (x::l) | _,_=>none
theorem asPRl_prsA:∀ l:List PR,asPRl (prsA l)=some l
  | []=>rfl
  | x::l=>by simp only [prsA_cons,asPRl,asPR_av,asPRl_prsA l]
theorem asPRl_spec:∀ {vs:List AV} {l:List PR},asPRl vs=some l→vs=prsA l
  | [],l,h=>by simp [asPRl] at h; subst h; rfl
  | v::r,l,h=>by
    simp only [asPRl] at h
    split at h
    · rename_i x q h1 h2
      simp only [Option.some.injEq] at h
      subst h
      rw [asPR_spec h1,asPRl_spec h2]; rfl
    · simp at h
def slPR:AV→Option (List PR)
  | .nilS=>some []
  | .sl es xs=>if es=1∧xs ≠ [] then asPRl xs else none
  | _=>none
theorem slPR_prsV (l:List PR):slPR (prsV l)=some l:=by
  cases l with
  | nil=>rfl
  | cons x l=>simp only [prsV,slPR]; rw [if_pos (by simp),asPRl_prsA]
theorem slPR_spec {v:AV} {l:List PR} (h:slPR v=some l):v=prsV l:=by
  unfold slPR at h
  split at h
  · simp only [Option.some.injEq] at h; subst h; rfl
  · rename_i es xs
    split at h
    · rename_i hc
      obtain ⟨rfl,hne⟩:=hc
      have:=asPRl_spec h
      subst this
      cases l with
      | nil=>simp at hne
      | cons x l=>rfl
    · simp at h
  · simp at h
def PR.isArc:PR→Bool
  | .arc _ _ _=>true
  | _=>false
def PR.fmOk (x:PR):Prop:=x.isArc=false∧x.fm.length < half∧(∀ p∈x.fm,ascii p.2=true∧p.2.length < qrt)∧∀ v r k y,x=.sender v r k y→k.length < mid∧ascii k=true
def fPart (x:PR):L8:=59::32::(x.meth++61::(x.val++32::fmtPs x.fm))
def fText (i:L8) (l:List PR):L8:=i++(if l=[] then [59,32,110,111,110,101] else l.flatMap fPart)
open Classical in
noncomputable def con_Format:List AV→Option AV
  | [.str i,v]=>match slPR v with
    | some l=>if l.length < half∧(∀ x∈l,x.fmOk)∧(fText i l).length < mid then some (.str (fText i l)) else none
    | none=>none
  | _=>none
theorem meth_fmt {Γ:Gam} (h251:Γ.fn 251=con_fAuth) (h252:Γ.fn 252=con_fDKIM) (h253:Γ.fn 253=con_fDomk) (h254:Γ.fn 254=con_fIprev) (h255:Γ.fn 255=con_fSender) (h256:Γ.fn 256=con_fSpf) (h257:Γ.fn 257=con_fDmarc) (h258:Γ.fn 258=con_fGen)
    (m8:Γ.mth 8 "given.example/pub-waxseal/pub/msgauth/authres.format" = some 251) (m9:Γ.mth 9 "given.example/pub-waxseal/pub/msgauth/authres.format" = some 252) (m10:Γ.mth 10 "given.example/pub-waxseal/pub/msgauth/authres.format" = some 253) (m11:Γ.mth 11 "given.example/pub-waxseal/pub/msgauth/authres.format" = some 254) (m12:Γ.mth 12 "given.example/pub-waxseal/pub/msgauth/authres.format" = some 255) (m13:Γ.mth 13 "given.example/pub-waxseal/pub/msgauth/authres.format" = some 256) (m14:Γ.mth 14 "given.example/pub-waxseal/pub/msgauth/authres.format" = some 257) (m15:Γ.mth 15 "given.example/pub-waxseal/pub/msgauth/authres.format" = some 258)
    {x:PR} (hx:x.fmOk):∃ t y n,x.av=.ifc t y∧Γ.mth t "given.example/pub-waxseal/pub/msgauth/authres.format" = some n∧Γ.fn n [y]=some (.tup [.str x.val,.mp (pmA x.fm)]):=by
  obtain ⟨h1,_,_,h4⟩:=hx
  cases x with
  | arc=>simp [PR.isArc] at h1
  | auth=>exact ⟨_,_,_,rfl,m8,by rw [h251]; rfl⟩
  | dkim=>exact ⟨_,_,_,rfl,m9,by rw [h252]; rfl⟩
  | domk=>exact ⟨_,_,_,rfl,m10,by rw [h253]; rfl⟩
  | iprev=>exact ⟨_,_,_,rfl,m11,by rw [h254]; rfl⟩
  | sender v r k y=>exact ⟨_,_,_,rfl,m12,by rw [h255]; exact if_pos (h4 v r k y rfl)⟩
  | spf=>exact ⟨_,_,_,rfl,m13,by rw [h256]; rfl⟩
  | dmarc=>exact ⟨_,_,_,rfl,m14,by rw [h257]; rfl⟩
  | gen=>exact ⟨_,_,_,rfl,m15,by rw [h258]; rfl⟩
set_option maxHeartbeats 8000000 in
set_option maxRecDepth 100000 in
theorem ok_Format (Γ:Gam) (h237:Γ.fn 237=con_resultMethod) (h238:Γ.fn 238=con_formatParams) (h251:Γ.fn 251=con_fAuth) (h252:Γ.fn 252=con_fDKIM) (h253:Γ.fn 253=con_fDomk) (h254:Γ.fn 254=con_fIprev) (h255:Γ.fn 255=con_fSender) (h256:Γ.fn 256=con_fSpf) (h257:Γ.fn 257=con_fDmarc) (h258:Γ.fn 258=con_fGen)
    (m8:Γ.mth 8 "given.example/pub-waxseal/pub/msgauth/authres.format" = some 251) (m9:Γ.mth 9 "given.example/pub-waxseal/pub/msgauth/authres.format" = some 252) (m10:Γ.mth 10 "given.example/pub-waxseal/pub/msgauth/authres.format" = some 253) (m11:Γ.mth 11 "given.example/pub-waxseal/pub/msgauth/authres.format" = some 254) (m12:Γ.mth 12 "given.example/pub-waxseal/pub/msgauth/authres.format" = some 255) (m13:Γ.mth 13 "given.example/pub-waxseal/pub/msgauth/authres.format" = some 256) (m14:Γ.mth 14 "given.example/pub-waxseal/pub/msgauth/authres.format" = some 257) (m15:Γ.mth 15 "given.example/pub-waxseal/pub/msgauth/authres.format" = some 258) :
    ∀ args r,con_Format args=some r→runs Γ c_authres_Format args (fun v=>v=r):=by
  intro args r h
  simp only [con_Format] at h
  split at h <;> (try simp at h; done)
  rename_i i v
  split at h <;> (try simp at h; done)
  rename_i l hl
  split at h <;> (try simp at h; done)
  rename_i hc
  obtain ⟨h1,h2,h3⟩:=hc
  simp only [Option.some.injEq] at h
  subst h
  rw [slPR_spec hl]
  clear hl
  simp only [mid] at h3
  cases l with
  | nil =>
    have h3':i.length+6 < 1099511627776:=by simpa [fText] using h3
    simp -implicitDefEqProofs [c_authres_Format,prsV,fText]
    omega
  | cons z zs =>
  generalize hzs:z::zs=l at *
  have hne:l ≠ []:=by rw [← hzs]; simp
  have hlen0:¬ (l.length:Int)=0:=by rw [← hzs]; simp; omega
  have hlen1:¬ l.length=0:=by rw [← hzs]; simp
  have hv:prsV l=.sl 1 (prsA l):=by rw [← hzs]; rfl
  have hF:fText i l=i++l.flatMap fPart:=by simp only [fText,if_neg hne]
  rw [hF] at h3 ⊢
  simp only [half] at h1
  rw [hv]
  simp -implicitDefEqProofs [c_authres_Format,hlen0,hlen1,hne]
  refine awp_loop2 (σ:=List PR × List PR) (fun q=>⟨[(5,.str (i++q.1.flatMap fPart)),(18,.sl 1 (prsA l)),(19,.int .i64 l.length),(20,.int .i64 q.1.length)],[]⟩)
    (fun q=>l=q.1++q.2) (fun q=>q.2.length) ([],l) (by simp) (by simp) ?_
  rintro ⟨pre,post⟩ e LQ hLQ
  simp only at e
  cases post with
  | nil =>
    simp only [List.append_nil] at e
    subst e
    simp -implicitDefEqProofs []
  | cons x post =>
    obtain ⟨t,y,n,e1,e2,e3⟩:=meth_fmt h251 h252 h253 h254 h255 h256 h257 h258 m8 m9 m10 m11 m12 m13 m14 m15 (h2 x (by rw [e]; simp))
    have hx:=h2 x (by rw [e]; simp)
    have hlen:l.length=pre.length+(post.length+1):=by rw [e]; simp
    have hlt:(pre.length:Int) < (l.length:Int):=by omega
    have hlt':pre.length < l.length:=by omega
    have g:l[pre.length]? = some x:=by rw [e]; exact get_mid rfl
    have ew:IntKind.i64.wrap ((pre.length:Int)+1)=(pre.length:Int)+1:=wrap64 (by omega) (by omega)
    have go:=fun st=>hLQ (pre++[x],post) (by rw [e]; simp) (by simp) st
    have hfl:(pre++[x]).flatMap fPart=pre.flatMap fPart++fPart x:=by simp
    rw [hfl] at go
    have hszz:(i++l.flatMap fPart).length=(i++(pre.flatMap fPart++fPart x)).length+(post.flatMap fPart).length:=by
      rw [e]; simp; omega
    rw [hszz] at h3
    simp only [List.length_append,fPart,List.length_cons] at h3
    have kr:con_resultMethod [x.av]=some (.str x.meth):=by simp only [con_resultMethod,asPR_av,Option.map]
    have kf:con_formatParams [.mp (pmA x.fm)]=some (.str (fmtPs x.fm)):=by
      simp only [con_formatParams,asPm_pmA]
      exact if_pos ⟨hx.2.1,hx.2.2.1,by simp only [mid]; omega⟩
    have ar:hasRef y=false:=by
      have:=pav_ref (x:=x)
      rw [e1] at this
      simpa [hasRef] using this
    have rv:hasRef (.tup [.str x.val,.mp (pmA x.fm)])=false:=by simp [hasRef,hasRefL]
    have g':l[pre.length]'hlt'=x:=by rw [List.getElem?_eq_getElem hlt'] at g; exact Option.some.inj g
    rw [e1] at kr
    simp -implicitDefEqProofs [hlt,hlt',g,g',e1,acall,h237,kr,e2,e3,h238,kf,ar,rv,ew]
    have hpf:(pre.flatMap fPart).length=(pre.map fun a=>(fPart a).length).sum:=by simp
    rw [hpf] at h3
    exact ⟨by omega,by omega,by omega,by omega,by omega,by omega,go _ (by simp [fPart])⟩
open Classical in
noncomputable def con_AFormat:List AV→Option AV
  | [.str i,u]=>match slAR u with
    | some l=>if l.length < half∧(∀ r∈l,(r.ps.getD []).length < half)∧(∀ r∈l,r.pr.fmOk)∧(fText i (l.map AR.pr)).length < mid then some (.str (fText i (l.map AR.pr))) else none
    | none=>none
  | _=>none
set_option maxHeartbeats 8000000 in
set_option maxRecDepth 100000 in
theorem ok_AFormat (Γ:Gam) (h235:Γ.fn 235=con_resultFor) (h236:Γ.fn 236=con_Format):∀ args r,con_AFormat args=some r→runs Γ c_impl_AFormat args (fun v=>v=r):=by
  intro args r h
  simp only [con_AFormat] at h
  split at h <;> (try simp at h; done)
  rename_i i u
  split at h <;> (try simp at h; done)
  rename_i l hl
  split at h <;> (try simp at h; done)
  rename_i hc
  obtain ⟨h1,h2,h4,h3⟩:=hc
  simp only [Option.some.injEq] at h
  subst h
  have uk:=sar_kill hl
  have us:=sar_snapW hl
  have ua:=sar_alen hl
  have kF:con_Format [.str i,prsV (l.map AR.pr)]=some (.str (fText i (l.map AR.pr))):=by
    simp only [con_Format,slPR_prsV]
    refine if_pos ⟨by simpa using h1,fun x hx=>?_,h3⟩
    simp only [List.mem_map] at hx
    obtain ⟨r,hr,rfl⟩:=hx
    exact h4 r hr
  simp only [half] at h1
  generalize fText i (l.map AR.pr)=T at *
  simp -implicitDefEqProofs [-alen,c_impl_AFormat,ua]
  refine awp_loop2 (σ:=List AR × List AR) (fun q=>⟨[(0,.str i),(5,grV 18 1 q.1.length),(8,u),(9,.int .i64 l.length),(10,.int .i64 q.1.length)],grH 18 q.1.length (prsA (q.1.map AR.pr))⟩)
    (fun q=>l=q.1++q.2) (fun q=>q.2.length) ([],l) (by simp) (by simp) ?_
  rintro ⟨pre,post⟩ e1 LQ hLQ
  simp only at e1
  cases post with
  | nil =>
    simp only [List.append_nil] at e1
    subst e1
    have hnl:¬ ((l.length:Int) < (l.length:Int)):=by omega
    cases l with
    | nil =>
      simp only [List.map_nil,prsV] at kF
      simp -implicitDefEqProofs [acall,h236,kF]
    | cons x l =>
      simp only [List.map_cons,prsV] at kF
      have tk:List.take (l.length+1) (x.pr.av::prsA (l.map AR.pr))=x.pr.av::prsA (l.map AR.pr):=List.take_of_length_le (by simp)
      simp only [prsA_cons] at kF
      simp -implicitDefEqProofs [acall,h236,kF,tk]
  | cons x post =>
    have hu:=sar_ne hl (by rw [e1]; simp)
    have hlen:l.length=pre.length+(post.length+1):=by rw [e1]; simp
    have hlt:(pre.length:Int) < (l.length:Int):=by omega
    have g:(arA l)[pre.length]? = some (.agg x.cells):=by rw [e1,arA_app]; exact get_mid (by simp)
    have ew:IntKind.i64.wrap ((pre.length:Int)+1)=(pre.length:Int)+1:=wrap64 (by omega) (by omega)
    have hx:(x.ps.getD []).length < half:=h2 x (by rw [e1]; simp)
    have kx:con_resultFor [.agg x.cells]=some x.pr.av:=by simp only [con_resultFor,asAR_cells]; exact if_pos hx
    have cu:=slP_cells x.ps
    simp only [cells] at cu
    have cx:=pav_cells (x:=x.pr)
    simp only [cells] at cx
    have go:=fun st=>hLQ (pre++[x],post) (by rw [e1]; simp) (by simp) st
    rw [hu] at go ⊢
    simp only [AR.cells] at g kx
    cases pre with
    | nil =>
      have hlt0:0 < l.length:=by omega
      have ew0:IntKind.i64.wrap 1=1:=by decide
      simp only [List.length_nil] at g
      rw [List.getElem?_eq_getElem (by simp; omega)] at g
      have g0:=Option.some.inj g
      simp -implicitDefEqProofs [-alen,hlt0,g0,ew0,cu,acall,h235,kx,cx]
      exact go _ (by simp)
    | cons y pre =>
      simp only [List.length_cons,Int.natCast_add,Int.natCast_one] at hlt g ew hlen
      have tk:List.take (pre.length+1) (y.pr.av::prsA (pre.map AR.pr))=y.pr.av::prsA (pre.map AR.pr):=List.take_of_length_le (by simp)
      simp -implicitDefEqProofs [-alen,hlt,g,ew,cu,acall,h235,kx,cx,tk]
      exact ⟨by omega,by omega,go _ (by simp)⟩
end Wax


namespace Wax
open Go (IntKind)

set_option maxRecDepth 100000 in
theorem kw_tok (c:UInt8) (h:kwB c=true):tokB c=true:=by
  have all:∀ n:Fin 256,kwB (UInt8.ofNat n.1)=true→tokB (UInt8.ofNat n.1)=true:=by decide
  have:=all ⟨c.toNat,c.toNat_lt⟩
  simp only [UInt8.ofNat_toNat] at this
  exact this h
theorem split_all {P:UInt8→Prop} {b:UInt8} (hb:P b):∀ {v:L8},(∀ p∈splitB b v,∀ x∈p,P x)→∀ x∈v,P x
  | [],_,x,hx=>by simp at hx
  | c::r,h,x,hx=>by
    simp only [splitB] at h
    split at h
    · rename_i e
      rcases List.mem_cons.1 hx with rfl | hx
      · rw [e]; exact hb
      · exact split_all hb (v:=r) (fun p hp=>h p (by simp [hp])) x hx
    · cases hs:splitB b r with
      | nil=>exact absurd hs (splitB_ne b r)
      | cons p t =>
        rw [hs] at h
        simp only at h
        rcases List.mem_cons.1 hx with rfl | hx
        · exact h (x::p) (by simp) x (by simp)
        · refine split_all hb (v:=r) ?_ x hx
          intro q hq y hy
          rw [hs] at hq
          rcases List.mem_cons.1 hq with rfl | hq
          · exact h (c::q) (by simp) y (by simp [hy])
          · exact h q (by simp [hq]) y hy
theorem plain_tk {s:L8} (h:aPlain s=true):(∀ x∈s,tkC [64] x=true)∧s ≠ []:=by
  refine ⟨?_,(aPlain_g h).2.1⟩
  have tk:∀ x,tokB x=true→tkC [64] x=true:=fun x hx=>by simp [tkC,hx]
  have tok:∀ {s:L8},mTok s=true→∀ x∈s,tkC [64] x=true:=fun hs x hx=>by
    simp only [mTok,Bool.and_eq_true] at hs
    exact tk x (List.all_eq_true.1 hs.1 x hx)
  unfold aPlain at h
  split at h
  · simp only [Bool.and_eq_true,decide_eq_true_eq] at h
    exact tok h.1
  · rename_i q hq
    simp only [Bool.and_eq_true,Bool.or_eq_true,decide_eq_true_eq] at h
    have e:=cut_mem (c:=64) hq
    rw [e]
    intro x hx
    simp only [List.mem_append,List.mem_cons] at hx
    rcases hx with hx | rfl | hx
    · rcases h.1.1 with h1 | h1
      · rw [h1] at hx; simp at hx
      · exact tok h1 x hx
    · decide
    · have hd:=h.1.2
      simp only [mDom,Bool.and_eq_true] at hd
      refine split_all (P:=fun x=>tkC [64] x=true) (b:=46) (by decide) (fun p hp x hx=>?_) x hx
      have:=List.all_eq_true.1 hd.1 p hp
      simp only [Bool.and_eq_true,mKw] at this
      exact tk x (kw_tok x (List.all_eq_true.1 this.1.1.1.1 x hx))
set_option maxRecDepth 100000 in
theorem tkC_head {x:UInt8} (h:tkC [64] x=true):ws4 x=false∧x ≠ 40∧x ≠ 34:=by
  have all:∀ n:Fin 256,tkC [64] (UInt8.ofNat n.1)=true→ws4 (UInt8.ofNat n.1)=false∧UInt8.ofNat n.1 ≠ 40∧UInt8.ofNat n.1 ≠ 34:=by decide
  have:=all ⟨x.toNat,x.toNat_lt⟩
  simp only [UInt8.ofNat_toNat] at this
  exact this h
theorem id_read {i r:L8} (hi:aPlain i=true) (hr:r.head? = some 59):bB (i++r)=some (i++r)∧rVal [64] (i++r)=(i,true,i.length)∧bB r=some r:=by
  obtain ⟨h1,h2⟩:=plain_tk hi
  cases r with
  | nil=>simp at hr
  | cons d r =>
  simp only [List.head?_cons,Option.some.injEq] at hr
  subst hr
  cases i with
  | nil=>exact absurd rfl h2
  | cons c i =>
    obtain ⟨k1,k2,k3⟩:=tkC_head (h1 c (by simp))
    have hw:rWd [64] (c::i++59::r)=c::i:=by
      have e:tkC [64] 59=false:=by decide
      rw [rWd,List.takeWhile_append_of_pos (fun x hx=>h1 x hx),List.takeWhile_cons,e]
      simp
    refine ⟨?_,?_,?_⟩
    · simp [bB,rB,List.dropWhile_cons,k1,k2]
    · simp only [rVal,List.cons_append,if_neg k3]
      rw [List.cons_append] at hw
      simp [hw]
    · have:ws4 59=false:=by decide
      simp [bB,rB,List.dropWhile_cons,this]
def sNoneT:L8:=[59,32,110,111,110,101]
theorem none_loop:aLoop 7 0 [] sNoneT=some ([],true):=by rfl
theorem none_field {i:L8} (hi:aPlain i=true):aField (i++sNoneT)=some (⟨i,[],[]⟩,true):=by
  obtain ⟨h1,h2,h3⟩:=id_read hi (r:=sNoneT) rfl
  unfold aField
  rw [h1]
  simp only [h2,Bool.true_eq_false,if_false,List.drop_left,h3]
  rw [if_pos (.inr rfl)]
  show (aLoop 7 0 [] sNoneT).map _=_
  rw [none_loop]; rfl

end Wax


namespace Wax
open Go (IntKind)

theorem lookP_kv:∀ {l:List KVp} {k:L8},lookP l k ≠ []→(k,lookP l k)∈l
  | [],k,h=>by simp [lookP] at h
  | (i,v)::r,k,h=>by
    simp only [lookP] at h ⊢
    split
    · rename_i e; subst e; simp
    · rename_i e
      rw [if_neg e] at h
      exact List.mem_cons_of_mem _ (lookP_kv h)
theorem joinW_flat (ws:List L8):32::joinW ws=if ws=[] then [32] else ws.flatMap (32 :: ·):=by
  cases ws with
  | nil=>rfl
  | cons w r=>simp [joinW]

structure PrGood (r:AR):Prop where
  meth:r.pr.meth=r.meth
  val:r.pr.val=r.value
  look:∀ k,lookP r.pr.fm k=lookP r.prm k
  nd:(r.pr.fm.map (·.1)).Nodup
  keys:∀ p∈r.pr.fm,p.2 ≠ []→p∈r.prm
  gen:r.kind=0→r.pr.fm=r.prm
theorem look_rPs (s:L8) (l:List KVp) (k:L8):lookP (rPs s++l) k=if k=qReason∧s ≠ [] then s else lookP l k:=by
  unfold rPs
  split
  · rename_i h; simp [h]
  · rename_i h
    simp only [List.cons_append,List.nil_append,lookP]
    by_cases hk:k=qReason
    · simp [hk,h]
    · simp [hk]
theorem good_Auth {r:AR} (h:r.kind=1) (hre:r.reason=[]):PrGood r:=by
  have hm:r.meth=sAuth:=by simp only [AR.meth,h]; rfl
  have hp:r.prm=rPs r.reason++[(qAuth,r.auth)]:=by simp only [AR.prm,AR.props,h]; rfl
  rw [hre] at hp
  have hpr:r.pr=.auth r.value r.reason r.auth:=by simp [AR.pr,h]
  have hfm:r.pr.fm=[(qAuth,r.auth)]:=by rw [hpr]; rfl
  refine ⟨by rw [hpr,hm]; rfl,by rw [hpr]; rfl,?_,by rw [hfm]; exact (show ([qAuth]:List L8).Nodup by decide),?_,fun h0=>by omega⟩
  · intro k
    rw [hp,hfm]; rfl
  · intro p hq hne
    rw [hfm] at hq
    rw [hp]
    simp only [List.mem_cons,List.not_mem_nil,or_false] at hq
    rcases hq with rfl <;> simp_all [rPs]
theorem good_Dkim {r:AR} (h:r.kind=2):PrGood r:=by
  have hm:r.meth=sDkim:=by simp only [AR.meth,h]; rfl
  have hp:r.prm=rPs r.reason++[(qD,r.domain),(qI,r.ident)]:=by simp only [AR.prm,AR.props,h]; rfl
  skip
  have hpr:r.pr=.dkim r.value r.reason r.domain r.ident:=by simp [AR.pr,h]
  have hfm:r.pr.fm=[(qD,r.domain),(qI,r.ident),(qReason,r.reason)]:=by rw [hpr]; rfl
  refine ⟨by rw [hpr,hm]; rfl,by rw [hpr]; rfl,?_,by rw [hfm]; exact (show ([qD,qI,qReason]:List L8).Nodup by decide),?_,fun h0=>by omega⟩
  · intro k
    rw [hp,hfm,look_rPs]
    by_cases hk:k=qReason
    · subst hk
      by_cases hr:r.reason=[]
      · simp [lookP,hr,qReason,qD,qI]
      · simp [lookP,hr,qReason,qD,qI]
    · simp [lookP,hk]
  · intro p hq hne
    rw [hfm] at hq
    rw [hp]
    simp only [List.mem_cons,List.not_mem_nil,or_false] at hq
    rcases hq with rfl | rfl | rfl <;> simp_all [rPs]
theorem good_Domk {r:AR} (h:r.kind=3):PrGood r:=by
  have hm:r.meth=sDomk:=by simp only [AR.meth,h]; rfl
  have hp:r.prm=rPs r.reason++[(qD,r.domain),(qFrom,r.fr),(qSend,r.sender)]:=by simp only [AR.prm,AR.props,h]; rfl
  skip
  have hpr:r.pr=.domk r.value r.reason r.domain r.fr r.sender:=by simp [AR.pr,h]
  have hfm:r.pr.fm=[(qD,r.domain),(qFrom,r.fr),(qSend,r.sender),(qReason,r.reason)]:=by rw [hpr]; rfl
  refine ⟨by rw [hpr,hm]; rfl,by rw [hpr]; rfl,?_,by rw [hfm]; exact (show ([qD,qFrom,qSend,qReason]:List L8).Nodup by decide),?_,fun h0=>by omega⟩
  · intro k
    rw [hp,hfm,look_rPs]
    by_cases hk:k=qReason
    · subst hk
      by_cases hr:r.reason=[]
      · simp [lookP,hr,qReason,qD,qFrom,qSend]
      · simp [lookP,hr,qReason,qD,qFrom,qSend]
    · simp [lookP,hk]
  · intro p hq hne
    rw [hfm] at hq
    rw [hp]
    simp only [List.mem_cons,List.not_mem_nil,or_false] at hq
    rcases hq with rfl | rfl | rfl | rfl <;> simp_all [rPs]
theorem good_Iprev {r:AR} (h:r.kind=4):PrGood r:=by
  have hm:r.meth=sIprev:=by simp only [AR.meth,h]; rfl
  have hp:r.prm=rPs r.reason++[(qIprev,r.ip)]:=by simp only [AR.prm,AR.props,h]; rfl
  skip
  have hpr:r.pr=.iprev r.value r.reason r.ip:=by simp [AR.pr,h]
  have hfm:r.pr.fm=[(qIprev,r.ip),(qReason,r.reason)]:=by rw [hpr]; rfl
  refine ⟨by rw [hpr,hm]; rfl,by rw [hpr]; rfl,?_,by rw [hfm]; exact (show ([qIprev,qReason]:List L8).Nodup by decide),?_,fun h0=>by omega⟩
  · intro k
    rw [hp,hfm,look_rPs]
    by_cases hk:k=qReason
    · subst hk
      by_cases hr:r.reason=[]
      · simp [lookP,hr,qReason,qIprev]
      · simp [lookP,hr,qReason,qIprev]
    · simp [lookP,hk]
  · intro p hq hne
    rw [hfm] at hq
    rw [hp]
    simp only [List.mem_cons,List.not_mem_nil,or_false] at hq
    rcases hq with rfl | rfl <;> simp_all [rPs]
theorem good_Spf {r:AR} (h:r.kind=6):PrGood r:=by
  have hm:r.meth=sSpf:=by simp only [AR.meth,h]; rfl
  have hp:r.prm=rPs r.reason++[(qMail,r.fr),(qHelo,r.helo)]:=by simp only [AR.prm,AR.props,h]; rfl
  skip
  have hpr:r.pr=.spf r.value r.reason r.fr r.helo:=by simp [AR.pr,h]
  have hfm:r.pr.fm=[(qReason,r.reason),(qHelo,r.helo),(qMail,r.fr)]:=by rw [hpr]; rfl
  refine ⟨by rw [hpr,hm]; rfl,by rw [hpr]; rfl,?_,by rw [hfm]; exact (show ([qReason,qHelo,qMail]:List L8).Nodup by decide),?_,fun h0=>by omega⟩
  · intro k
    rw [hp,hfm,look_rPs]
    by_cases hk:k=qReason
    · subst hk
      by_cases hr:r.reason=[]
      · simp [lookP,hr,qReason,qMail,qHelo]
      · simp [lookP,hr,qReason,qMail,qHelo]
    · by_cases h1:k=qHelo
      · subst h1
        simp [lookP,qReason,qHelo,qMail]
      · simp [lookP,hk,h1]
  · intro p hq hne
    rw [hfm] at hq
    rw [hp]
    simp only [List.mem_cons,List.not_mem_nil,or_false] at hq
    rcases hq with rfl | rfl | rfl <;> simp_all [rPs]
theorem good_Dmarc {r:AR} (h:r.kind=7):PrGood r:=by
  have hm:r.meth=sDmarc:=by simp only [AR.meth,h]; rfl
  have hp:r.prm=rPs r.reason++[(qFrom,r.fr)]:=by simp only [AR.prm,AR.props,h]; rfl
  skip
  have hpr:r.pr=.dmarc r.value r.reason r.fr:=by simp [AR.pr,h]
  have hfm:r.pr.fm=[(qFrom,r.fr),(qReason,r.reason)]:=by rw [hpr]; rfl
  refine ⟨by rw [hpr,hm]; rfl,by rw [hpr]; rfl,?_,by rw [hfm]; exact (show ([qFrom,qReason]:List L8).Nodup by decide),?_,fun h0=>by omega⟩
  · intro k
    rw [hp,hfm,look_rPs]
    by_cases hk:k=qReason
    · subst hk
      by_cases hr:r.reason=[]
      · simp [lookP,hr,qReason,qFrom]
      · simp [lookP,hr,qReason,qFrom]
    · simp [lookP,hk]
  · intro p hq hne
    rw [hfm] at hq
    rw [hp]
    simp only [List.mem_cons,List.not_mem_nil,or_false] at hq
    rcases hq with rfl | rfl <;> simp_all [rPs]
theorem good_Sender {r:AR} (h:r.kind=5) (hl:lowS r.hkey=r.hkey):PrGood r:=by
  have hm:r.meth=sSender:=by simp only [AR.meth,h]; rfl
  have hp:r.prm=rPs r.reason++[(tHeader++46::r.hkey,r.hval)]:=by simp only [AR.prm,AR.props,h]; rfl
  have hpr:r.pr=.sender r.value r.reason r.hkey r.hval:=by simp [AR.pr,h]
  have hne:tHeader++46::r.hkey ≠ qReason:=key_ne_reason
  have hfm:r.pr.fm=[(tHeader++46::r.hkey,r.hval),(qReason,r.reason)]:=by
    rw [hpr]
    simp only [PR.fm,hl]
    rfl
  refine ⟨by rw [hpr,hm]; rfl,by rw [hpr]; rfl,?_,by rw [hfm]; simp [hne],?_,fun h0=>by omega⟩
  · intro k
    rw [hp,hfm,look_rPs]
    by_cases hk:k=qReason
    · subst hk
      by_cases hr:r.reason=[]
      · simp [lookP,hr,hne.symm]
      · simp [lookP,hr,hne.symm]
    · simp [lookP,hk]
  · intro p hq hne
    rw [hfm] at hq
    rw [hp]
    simp only [List.mem_cons,List.not_mem_nil,or_false] at hq
    rcases hq with rfl | rfl <;> simp_all [rPs]
end Wax


namespace Wax
open Go (IntKind)

def AR.small (r:AR):Prop:=(0≤r.kind∧r.kind≤8∧(r.kind=0→(r.ps.getD []).length < half∧(∀ p∈r.ps.getD [],p.1.length < big)))∧r.iprops.length < half∧∀ p∈r.iprops,p.2.2.length < half
end Wax


namespace Wax
open Go (IntKind)

theorem nd_of_keys {l:List KVp} (h:(l.map (·.1)).Nodup):l.Nodup:=by
  have:l.Pairwise fun a b=>a.1 ≠ b.1:=List.pairwise_map.1 h
  exact this.imp fun h e=>h (by rw [e])
set_option maxRecDepth 100000 in
theorem tk_ascii {s:L8} (h:∀ x∈s,tkC [64] x=true):ascii s=true:=by
  refine List.all_eq_true.2 fun x hx=>?_
  have all:∀ n:Fin 256,tkC [64] (UInt8.ofNat n.1)=true→decide ((UInt8.ofNat n.1).toNat < 128)=true:=by decide
  have:=all ⟨x.toNat,x.toNat_lt⟩
  simp only [UInt8.ofNat_toNat] at this
  exact this (h x hx)
theorem kw_tk {s:L8} (h:mKw s=true):∀ x∈s,tkC [64] x=true:=fun x hx=>by
  simp only [mKw,Bool.and_eq_true] at h
  simp [tkC,kw_tok x (List.all_eq_true.1 h.1.1.1 x hx)]
end Wax


namespace Wax
open Go (IntKind)

def endR (rest:L8):Prop:=rest=[]∨rest.head? = some 32∨rest.head? = some 59
def HD (f:L8):Prop:=∃ c r,f=c::r∧ws4 c=false∧c ≠ 40
def VR (m s f:L8):Prop:=HD f∧∀ rest,endR rest→rVal m (f++rest)=(s,true,f.length)
theorem rWd_end {m s rest:L8} (hs:∀ x∈s,tkC m x=true) (h32:tkC m 32=false) (h59:tkC m 59=false) (hr:endR rest):rWd m (s++rest)=s:=by
  unfold rWd
  rw [List.takeWhile_append_of_pos hs]
  rcases hr with rfl | h | h
  · simp
  · cases rest with
    | nil=>simp
    | cons c r=>simp at h; subst h; simp [h32]
  · cases rest with
    | nil=>simp
    | cons c r=>simp at h; subst h; simp [h59]
set_option maxRecDepth 100000 in
theorem ws_tk0 (x:UInt8) (h:ws4 x=true):tkC [] x=false:=by
  have all:∀ n:Fin 256,ws4 (UInt8.ofNat n.1)=true→tkC [] (UInt8.ofNat n.1)=false:=by decide
  have:=all ⟨x.toNat,x.toNat_lt⟩
  simp only [UInt8.ofNat_toNat] at this
  exact this h
set_option maxRecDepth 100000 in
theorem ws_tk1 (x:UInt8) (h:ws4 x=true):tkC [64,58] x=false:=by
  have all:∀ n:Fin 256,ws4 (UInt8.ofNat n.1)=true→tkC [64,58] (UInt8.ofNat n.1)=false:=by decide
  have:=all ⟨x.toNat,x.toNat_lt⟩
  simp only [UInt8.ofNat_toNat] at this
  exact this h
theorem vr_word {m s:L8} (hne:s ≠ []) (hs:∀ x∈s,tkC m x=true) (h32:tkC m 32=false) (h59:tkC m 59=false) (h34:tkC m 34=false) (h40:tkC m 40=false) (hw:∀ x,ws4 x=true→tkC m x=false):VR m s s:=by
  refine ⟨?_,fun rest hr=>?_⟩
  · cases s with
    | nil=>exact absurd rfl hne
    | cons c s =>
      have h0:=hs c (by simp)
      refine ⟨c,s,rfl,?_,fun e=>by rw [e,h40] at h0; simp at h0⟩
      cases h:ws4 c with
      | false=>rfl
      | true=>rw [hw c h] at h0; simp at h0
  have hwd:=rWd_end hs h32 h59 hr
  cases s with
  | nil=>exact absurd rfl hne
  | cons c s =>
    have hc:¬ c=34:=fun e=>by have:=hs c (by simp); rw [e,h34] at this; simp at this
    simp only [rVal,List.cons_append,if_neg hc]
    rw [List.cons_append] at hwd
    simp [hwd]
def okQ (s:L8):Prop:=∀ x∈s,32≤x.toNat∧x.toNat < 127∧x ≠ 92
theorem rQ_read:∀ (s out rest:L8),okQ s→rQ out (qtB s++34::rest)=(out++s,true,(qtB s).length+1)
  | [],out,rest,_=>by
    simp only [qtB,List.nil_append]
    rw [rQ.eq_def]
    simp
  | c::s,out,rest,h=>by
    have h0:=h c (by simp)
    have ih:=fun o=>rQ_read s o rest fun x hx=>h x (by simp [hx])
    by_cases hc:c=34
    · subst hc
      simp only [qtB,if_true,List.cons_append]
      rw [rQ.eq_def]
      simp only
      rw [if_neg (by decide),if_pos trivial]
      simp only [ih]
      simp
    · simp only [qtB,if_neg hc,List.cons_append]
      rw [rQ.eq_def]
      simp only
      have h13:¬ (c=13∨c=10):=by rintro (rfl | rfl) <;> simp at h0
      rw [if_neg hc,if_neg h0.2.2,if_neg h13]
      simp only [ih]
      simp
theorem vr_quoted {m s:L8} (h:okQ s):VR m s (34::(qtB s++[34])):=by
  refine ⟨⟨34,_,rfl,by decide,by decide⟩,fun rest _=>?_⟩
  have e:34::(qtB s++[34])++rest=34::(qtB s++34::rest):=by simp
  rw [e]
  simp only [rVal,if_true,rQ_read s [] rest h]
  simp; omega
set_option maxRecDepth 100000 in
theorem nsp_tok {x:UInt8} (h:spB x=false) (h2:x.toNat < 127):tokB x=true:=by
  have all:∀ n:Fin 256,spB (UInt8.ofNat n.1)=false→(UInt8.ofNat n.1).toNat < 127→tokB (UInt8.ofNat n.1)=true:=by decide
  have:=all ⟨x.toNat,x.toNat_lt⟩
  simp only [UInt8.ofNat_toNat] at this
  exact this h h2
theorem tok_m {x:UInt8} (m:L8) (h:tokB x=true):tkC m x=true:=by simp [tkC,h]
theorem fmtV_read {m s:L8} (hm:m=[]∨m=[64,58]) (hne:s ≠ []) (h:okQ s):VR m s (fmtV s):=by
  unfold fmtV
  split
  · exact vr_quoted h
  · rename_i hs
    have hs':s.any spB=false:=by simpa using hs
    rw [List.any_eq_false] at hs'
    have ht:∀ x∈s,tkC m x=true:=fun x hx=>tok_m m (nsp_tok (by simpa using hs' x hx) (h x hx).2.1)
    rcases hm with rfl | rfl
    · exact vr_word hne ht (by decide) (by decide) (by decide) (by decide) ws_tk0
    · exact vr_word hne ht (by decide) (by decide) (by decide) (by decide) ws_tk1
set_option maxRecDepth 100000 in
theorem tkC_okQ {x:UInt8} (h:tkC [64] x=true):(32≤x.toNat∧x.toNat < 127∧x ≠ 92)∧tkC [64,58] x=true:=by
  have all:∀ n:Fin 256,tkC [64] (UInt8.ofNat n.1)=true→(32≤(UInt8.ofNat n.1).toNat∧(UInt8.ofNat n.1).toNat < 127∧UInt8.ofNat n.1 ≠ 92)∧tkC [64,58] (UInt8.ofNat n.1)=true:=by decide
  have:=all ⟨x.toNat,x.toNat_lt⟩
  simp only [UInt8.ofNat_toNat] at this
  exact this h
theorem fmtP_read {s:L8} (hne:s ≠ []) (h:okQ s) (h2:aPlain s=true∨s.all adB=false):VR [64,58] s (fmtP s):=by
  unfold fmtP
  split
  · rename_i ha
    rcases h2 with h2 | h2
    · exact vr_word hne (fun x hx=>(tkC_okQ ((plain_tk h2).1 x hx)).2) (by decide) (by decide) (by decide) (by decide) ws_tk1
    · rw [ha] at h2; simp at h2
  · exact fmtV_read (.inr rfl) hne h

structure KP (p:KVp):Prop where
  tok:∀ x∈p.1,tokB x=true
  cut:∃ q,cutAt 46 p.1=some q∧mKw q.1=true∧q.2 ≠ []
  low:lowS p.1 ≠ qReason
  val:VR [64,58] p.2 (fmtP p.2)
def split3 (p:KVp):L8 × L8 × L8:=((halfP p.1).1,(halfP p.1).2,p.2)
theorem bB_blank {c:UInt8} {r:L8} (h1:ws4 c=false) (h2:c ≠ 40):bB (32::c::r)=some (c::r)∧bB (c::r)=some (c::r):=by
  have h32:ws4 32=true:=by decide
  constructor <;> simp [bB,rB,List.dropWhile_cons,h1,h2,h32]
theorem tok_ws {c:UInt8} (h:tokB c=true):ws4 c=false∧c ≠ 40∧c ≠ 34:=tkC_head (tok_m [64] h)
theorem key_word {k r:L8} (h:∀ x∈k,tokB x=true):rWd [] (k++61::r)=k:=by
  unfold rWd
  rw [List.takeWhile_append_of_pos fun x hx=>tok_m [] (h x hx)]
  have:tkC [] 61=false:=by decide
  simp [this]
def fmw (p:KVp):L8:=p.1++61::fmtP p.2
theorem cut_ne {k:L8} {q:L8 × L8} (h:cutAt 46 k=some q):k ≠ []:=by
  intro e; subst e; simp [cutAt] at h
theorem endR_words (l:List KVp) {e rest:L8} (he:e=[]∨e=[32]) (hr:rest=[]∨rest.head? = some 59):endR (l.flatMap (fun p=>32::fmw p)++(e++rest)):=by
  cases l with
  | nil =>
    simp only [List.flatMap_nil,List.nil_append]
    rcases he with rfl | rfl
    · rcases hr with rfl | h
      · exact .inl rfl
      · exact .inr (.inr h)
    · exact .inr (.inl rfl)
  | cons p l=>exact .inr (.inl rfl)
theorem bB_end {e rest:L8} (he:e=[]∨e=[32]) (hr:rest=[]∨rest.head? = some 59):bB (e++rest)=some rest:=by
  have h32:ws4 32=true:=by decide
  have h59:ws4 59=false:=by decide
  have h:bB rest=some rest:=by
    rcases hr with rfl | h
    · rfl
    · cases rest with
      | nil=>rfl
      | cons c r=>simp at h; subst h; simp [bB,rB,List.dropWhile_cons,h59]
  rcases he with rfl | rfl
  · exact h
  · have e2:rB ([32]++rest)=rB rest:=by simp [rB,List.dropWhile_cons,h32]
    have:bB ([32]++rest)=bB rest:=by unfold bB; rw [e2]
    rw [this,h]
theorem rLoop_go:∀ (l:List KVp) (n:Nat) (x:Inf) {e rest:L8},(∀ p∈l,KP p)→l.length < n→(e=[]∨e=[32])→(rest=[]∨rest.head? = some 59) →
    rLoop n x (l.flatMap (fun p=>32::fmw p)++(e++rest))=some ({ x with ps:=x.ps++l.map split3 },true,rest)
  | [],0,_,_,_,_,h,_,_=>by simp at h
  | [],n+1,x,e,rest,_,_,he,hr=>by
    rw [rLoop]
    simp only [List.flatMap_nil,List.nil_append,bB_end he hr]
    rw [if_pos hr]
    simp
  | p::l,0,_,_,_,_,h,_,_=>by simp at h
  | p::l,n+1,x,e,rest,hk,hn,he,hr=>by
    have K:=hk p (by simp)
    obtain ⟨q,c1,c2,c3⟩:=K.cut
    have ih:=rLoop_go l n { x with ps:=x.ps++[split3 p] } (e:=e) (rest:=rest) (fun z hz=>hk z (by simp [hz])) (by simp at hn; omega) he hr
    generalize hR:l.flatMap (fun p=>32::fmw p)++(e++rest)=R at ih
    have hend:endR R:=by rw [← hR]; exact endR_words l he hr
    have e1:(p::l).flatMap (fun p=>32::fmw p)++(e++rest)=32::(p.1++61::(fmtP p.2++R)):=by
      rw [← hR]; simp [fmw]
    have hv:=K.val.2 R hend
    have hkw:=key_word (k:=p.1) (r:=fmtP p.2++R) K.tok
    obtain ⟨c,k,hck⟩:∃ c k,p.1=c::k:=by
      cases h:p.1 with
      | nil=>exact absurd h (cut_ne c1)
      | cons c k=>exact ⟨c,k,rfl⟩
    have hc:=tok_ws (K.tok c (by rw [hck]; simp))
    have b1:bB (32::(p.1++61::(fmtP p.2++R)))=some (p.1++61::(fmtP p.2++R)):=by
      rw [hck]; exact (bB_blank hc.1 hc.2.1).1
    have b2:bB (61::(fmtP p.2++R))=some (61::(fmtP p.2++R)):=(bB_blank (by decide) (by decide)).2
    have hend1:¬ (p.1++61::(fmtP p.2++R)=[]∨(p.1++61::(fmtP p.2++R)).head? = some 59):=by
      rw [hck]
      simp only [List.cons_append,reduceCtorEq,List.head?_cons,Option.some.injEq,false_or]
      intro e
      have:=K.tok c (by rw [hck]; simp)
      rw [e] at this; revert this; decide
    have b3:bB (fmtP p.2++R)=some (fmtP p.2++R):=by
      obtain ⟨d,r,hd,d1,d2⟩:=K.val.1
      rw [hd]; exact (bB_blank d1 d2).2
    rw [e1,rLoop,b1]
    simp only
    rw [if_neg hend1,hkw,List.drop_left,b2]
    simp only [if_true,b3]
    rw [if_neg K.low,hv]
    have hh:halvesP p.1=(q.1,q.2,true):=by simp [halvesP,c1]
    rw [if_neg (by simp [hh,c2,c3])]
    simp only [List.drop_left,hh]
    have hs:split3 p=(q.1,q.2,p.2):=by simp [split3,halfP,c1]
    rw [hs] at ih
    rw [ih]
    simp [hs]

theorem kw_toks {s:L8} (h:mKw s=true):(∀ x∈s,tokB x=true)∧s ≠ []:=by
  simp only [mKw,Bool.and_eq_true,decide_eq_true_eq] at h
  exact ⟨fun x hx=>kw_tok x (List.all_eq_true.1 h.1.1.1 x hx),h.1.1.2⟩
def rText (m v rs:L8) (pl:List KVp):L8:=32::(m++61::(v++((if rs=[] then [] else 32::(qReason++61::fmtV rs))++pl.flatMap (fun p=>32::fmw p))))
theorem aInfo_read {m v rs:L8} {pl:List KVp} {e rest:L8} (hm:mKw m=true) (hv:mKw v=true) (hrs:rs=[]∨VR [] rs (fmtV rs)) (hk:∀ p∈pl,KP p) (he:e=[]∨e=[32]) (hr:rest=[]∨rest.head? = some 59) :
    aInfo (rText m v rs pl++(e++rest))=some (⟨m,v,rs,pl.map split3⟩,false,true,rest):=by
  obtain ⟨m1,m2⟩:=kw_toks hm
  obtain ⟨v1,v2⟩:=kw_toks hv
  generalize hR:pl.flatMap (fun p=>32::fmw p)++(e++rest)=R
  have hend:endR R:=by rw [← hR]; exact endR_words pl he hr
  generalize hS:(if rs=[] then [] else 32::(qReason++61::fmtV rs))++R=S
  have hendS:endR S:=by
    rw [← hS]
    split
    · exact hend
    · exact .inr (.inl rfl)
  have e1:rText m v rs pl++(e++rest)=32::(m++61::(v++S)):=by
    rw [← hS,← hR]; simp [rText]
  obtain ⟨c,m',hc⟩:∃ c k,m=c::k:=by
    cases m with
    | nil=>exact absurd rfl m2
    | cons c k=>exact ⟨c,k,rfl⟩
  obtain ⟨d,v',hd⟩:∃ c k,v=c::k:=by
    cases v with
    | nil=>exact absurd rfl v2
    | cons c k=>exact ⟨c,k,rfl⟩
  have hcw:=tok_ws (m1 c (by rw [hc]; simp))
  have hdw:=tok_ws (v1 d (by rw [hd]; simp))
  have b1:bB (32::(m++61::(v++S)))=some (m++61::(v++S)):=by rw [hc]; exact (bB_blank hcw.1 hcw.2.1).1
  have b2:bB (61::(v++S))=some (61::(v++S)):=(bB_blank (by decide) (by decide)).2
  have b3:bB (v++S)=some (v++S):=by rw [hd]; exact (bB_blank hdw.1 hdw.2.1).2
  have w1:=key_word (k:=m) (r:=v++S) m1
  have w2:rWd [] (v++S)=v:=rWd_end (m:=[]) (fun x hx=>tok_m [] (v1 x hx)) (by decide) (by decide) hendS
  have hloop:∀ n,pl.length+1 < n→rLoop n ⟨m,v,[],[]⟩ S=some (⟨m,v,rs,pl.map split3⟩,true,rest):=by
    intro n hn
    by_cases hrs0:rs=[]
    · rw [← hS,if_pos hrs0,List.nil_append,← hR]
      have:=rLoop_go pl n ⟨m,v,[],[]⟩ (e:=e) (rest:=rest) hk (by omega) he hr
      rw [this,hrs0]; simp
    · obtain ⟨n,rfl⟩:∃ k,n=k+1:=⟨n - 1,by omega⟩
      rw [← hS,if_neg hrs0]
      have hV:=hrs.resolve_left hrs0
      obtain ⟨g,r,hg,g1,g2⟩:=hV.1
      have e2:32::(qReason++61::fmtV rs)++R=32::(qReason++61::(fmtV rs++R)):=by simp
      have bq1:bB (32::(qReason++61::(fmtV rs++R)))=some (qReason++61::(fmtV rs++R)):=(bB_blank (c:=114) (by decide) (by decide)).1
      have bq2:bB (61::(fmtV rs++R))=some (61::(fmtV rs++R)):=(bB_blank (by decide) (by decide)).2
      have bq3:bB (fmtV rs++R)=some (fmtV rs++R):=by rw [hg]; exact (bB_blank g1 g2).2
      have wq:=key_word (k:=qReason) (r:=fmtV rs++R) (by decide)
      rw [e2,rLoop,bq1]
      simp only
      rw [if_neg (by simp [qReason]),wq,List.drop_left,bq2]
      simp only [if_true,bq3]
      rw [if_pos (by decide),hV.2 R hend,if_neg (by simp),List.drop_left,← hR]
      have:=rLoop_go pl n ⟨m,v,rs,[]⟩ (e:=e) (rest:=rest) hk (by omega) he hr
      rw [this]; simp
  have hpl:∀ (l:List KVp),l.length≤(l.flatMap (fun p=>32::fmw p)).length:=by
    intro l
    induction l with
    | nil=>simp
    | cons p l ih=>simp only [List.flatMap_cons,List.length_append,List.length_cons]; omega
  have hfuel:pl.length+1 < (v++S).length+1:=by
    have h1:=hpl pl
    have h2:v.length ≠ 0:=by simpa using v2
    have h3:=congrArg List.length hR
    have h4:=congrArg List.length hS
    simp only [List.length_append] at h3 h4 ⊢
    omega
  unfold aInfo
  rw [e1,b1]
  simp only [w1,List.drop_left]
  rw [if_neg (by rw [hm]; simp),b2]
  simp only [reduceCtorEq,and_false,if_false]
  rw [if_neg (by decide),if_true]
  simp only [b3,w2]
  rw [if_neg (by rw [hv]; simp),List.drop_left,hloop _ hfuel]
  rfl
end Wax


namespace Wax
open Go (IntKind)

abbrev T3:=L8 × L8 × L8
def cnt (p:T3) (l:List T3):Nat:=(l.filter fun q=>decide (p=q)).length
theorem cnt_app (p:T3) (a b:List T3):cnt p (a++b)=cnt p a+cnt p b:=by simp [cnt]
theorem cnt_le (p:T3) (l:List T3):cnt p l≤l.length:=List.length_filter_le _ _
def infCells (m v r:L8) (ps:List T3):List AV:=[.str m,.str [],.str v,.str r,tripV ps]
set_option maxHeartbeats 4000000 in
theorem agree_in {Γ:Gam} {Q:APost} {m v r:L8} {ps:List T3} {p:T3} {T:AV} {x y:Int} (hl:ps.length < half) (hT:∀ d,kill d T=T)
    (hex:Q (.exit 2) ⟨[(2,.ref 2 0),(7,.ref 7 0),(8,.int .i64 (cnt p ps)),(43,T),(44,.int .i64 x),(45,.int .i64 y),(50,tripV ps),(51,.int .i64 ps.length),(52,.int .i64 ps.length),(53,.bool false)],[(7,.cells [.str p.1,.str p.2.1,.str p.2.2]),(2,.cells (infCells m v r ps))]⟩) :
    awp Γ (.loop [2,7,8,43,44,45,50,51,52] b_spec_AAgree_1) Q ⟨[(2,.ref 2 0),(7,.ref 7 0),(8,.int .i64 0),(43,T),(44,.int .i64 x),(45,.int .i64 y),(50,tripV ps),(51,.int .i64 ps.length),(52,.int .i64 0)],[(7,.cells [.str p.1,.str p.2.1,.str p.2.2]),(2,.cells (infCells m v r ps))]⟩:=by
  simp only [half] at hl
  refine awp_loop2 (σ:=List T3 × List T3) (fun q=>⟨[(2,.ref 2 0),(7,.ref 7 0),(8,.int .i64 (cnt p q.1)),(43,T),(44,.int .i64 x),(45,.int .i64 y),(50,tripV ps),(51,.int .i64 ps.length),(52,.int .i64 q.1.length)],[(7,.cells [.str p.1,.str p.2.1,.str p.2.2]),(2,.cells (infCells m v r ps))]⟩)
    (fun q=>ps=q.1++q.2) (fun q=>q.2.length) ([],ps) (by simp [cnt]) (by simp) ?_
  rintro ⟨pre,post⟩ e LQ hLQ
  simp only at e
  cases post with
  | nil =>
    simp only [List.append_nil] at e
    subst e
    have hnl:¬ ((ps.length:Int) < (ps.length:Int)):=by omega
    simp -implicitDefEqProofs [b_spec_AAgree_1]
    exact hex
  | cons q post =>
    have hlen:ps.length=pre.length+(post.length+1):=by rw [e]; simp
    have hlt:(pre.length:Int) < (ps.length:Int):=by omega
    have hlt':pre.length < ps.length:=by omega
    have hTp:tripV ps=.sl 3 (tr3 ps):=by rw [e]; cases pre <;> rfl
    have g:(tr3 ps)[pre.length]? = some (.agg [.str q.1,.str q.2.1,.str q.2.2]):=by rw [e]; simp [tr3]
    have g':(tr3 ps)[pre.length]'(by simp; omega)=.agg [.str q.1,.str q.2.1,.str q.2.2]:=by rw [List.getElem?_eq_getElem (by simp; omega)] at g; exact Option.some.inj g
    have ew:IntKind.i64.wrap ((pre.length:Int)+1)=(pre.length:Int)+1:=wrap64 (by omega) (by omega)
    have hc:=cnt_le p pre
    have ew2:IntKind.i64.wrap ((cnt p pre:Int)+1)=(cnt p pre:Int)+1:=wrap64 (by omega) (by omega)
    have go:=fun st=>hLQ (pre++[q],post) (by rw [e]; simp) (by simp) st
    simp only [cnt_app] at go
    by_cases hq:p=q
    · have h1:cnt p [q]=1:=by simp [cnt,hq]
      rw [h1] at go
      subst hq
      rw [hTp] at go ⊢
      simp -implicitDefEqProofs [b_spec_AAgree_1,hlt,hlt',g,g',hT,infCells,ew,ew2]
      exact go _ (by simp [infCells])
    · have h1:cnt p [q]=0:=by simp [cnt,hq]
      rw [h1] at go
      have hne:¬ (p.1=q.1∧p.2.1=q.2.1∧p.2.2=q.2.2):=fun h=>hq (by obtain ⟨a,b,c⟩:=h; exact Prod.ext a (Prod.ext b c))
      rw [hTp] at go ⊢
      simp -implicitDefEqProofs [b_spec_AAgree_1,hlt,hlt',g,g',hT,infCells,ew,ew2]
      exact ⟨fun a b c=>absurd ⟨a,b,c⟩ hne,fun _=>go _ (by simp [infCells])⟩
def agrees (m v r:L8) (ps:List T3) (q:AR):Prop:=lowS m=q.meth∧v=q.value∧r=q.reason∧ps.length=q.iprops.length∧∀ p∈q.iprops,cnt p ps=1
open Classical in
noncomputable def con_AAgree:List AV→Option AV
  | [.agg [.str m,.str [],.str v,.str r,u],.agg cs]=>match slTr u,asAR cs with
    | some ps,some q=>if u=tripV ps∧m.length < big∧ps.length < half∧q.small∧agrees m v r ps q then some (.bool true) else none
    | _,_=>none
  | _=>none
set_option maxHeartbeats 8000000 in
set_option maxRecDepth 100000 in
theorem ok_AAgree (Γ:Gam) (h206:Γ.fn 206=con_AInfoOf) (h112:Γ.fn 112=con_MailLower):∀ args r,con_AAgree args=some r→runs Γ c_spec_AAgree args (fun v=>v=r):=by
  intro args r h
  simp only [con_AAgree] at h
  split at h <;> (try simp at h; done)
  rename_i m v rs u cs
  split at h <;> (try simp at h; done)
  rename_i ps q hu hq
  split at h <;> (try simp at h; done)
  rename_i hc
  obtain ⟨rfl,hml,hpl,hsm,a1,a2,a3,a4,a5⟩:=hc
  simp only [Option.some.injEq] at h
  subst h
  rw [asAR_spec hq]
  clear hq hu
  have kx:con_AInfoOf [.agg q.cells]=some (infoV q):=by simp only [con_AInfoOf,asAR_cells]; exact if_pos hsm.1
  have km:con_MailLower [.str m]=some (.str q.meth):=by rw [← a1]; exact if_pos hml
  have cu:=slP_cells q.ps
  simp only [cells] at cu
  have ri:hasRef (infoV q)=false:=by simp [infoV,hasRef,hasRefL]
  have al:∀ (l:List T3) hp,alen hp 1 (tripV l)=some l.length:=fun l hp=>by cases l <;> simp [tripV,alen]
  have cT:=trV3_cells q.iprops
  simp only [cells] at cT
  have cT2:=trV3_cells ps
  simp only [cells] at cT2
  have hil:=hsm.2.1
  subst a2 a3
  simp only [AR.cells] at kx
  have a4':(ps.length:Int)=(q.iprops.length:Int):=by omega
  simp -implicitDefEqProofs [-alen,c_spec_AAgree,AR.cells,cu,acall,h206,kx,ri,infoV,cT,cT2,h112,km,al,a4,a4']
  simp only [half] at hil
  refine awp_loop2 (σ:=List T3 × List T3) (fun p=>⟨[(2,.ref 2 0),(43,tripV q.iprops),(44,.int .i64 q.iprops.length),(45,.int .i64 p.1.length)],[(2,.cells (infCells m q.value q.reason ps))]⟩)
    (fun p=>q.iprops=p.1++p.2) (fun p=>p.2.length) ([],q.iprops) (by simp [infCells]) (by simp) ?_
  rintro ⟨pre,post⟩ e LQ hLQ
  simp only at e
  have hT:∀ d,kill d (tripV q.iprops)=tripV q.iprops:=fun d=>by simp
  cases post with
  | nil =>
    simp only [List.append_nil] at e
    rw [e] at hT ⊢
    have hnl:¬ ((pre.length:Int) < (pre.length:Int)):=by omega
    simp -implicitDefEqProofs [b_spec_AAgree_4,t_spec_AAgree_5]
  | cons z post =>
    have hlen:q.iprops.length=pre.length+(post.length+1):=by rw [e]; simp
    have hlt:(pre.length:Int) < (q.iprops.length:Int):=by omega
    have hlt':pre.length < q.iprops.length:=by omega
    have hz:=a5 z (by rw [e]; simp)
    have hTp:tripV q.iprops=.sl 3 (tr3 q.iprops):=by rw [e]; cases pre <;> rfl
    have g:(tr3 q.iprops)[pre.length]? = some (.agg [.str z.1,.str z.2.1,.str z.2.2]):=by rw [e]; simp [tr3]
    have g':(tr3 q.iprops)[pre.length]'(by simp; omega)=.agg [.str z.1,.str z.2.1,.str z.2.2]:=by rw [List.getElem?_eq_getElem (by simp; omega)] at g; exact Option.some.inj g
    have ew:IntKind.i64.wrap ((pre.length:Int)+1)=(pre.length:Int)+1:=wrap64 (by omega) (by omega)
    have go:=fun st=>hLQ (pre++[z],post) (by rw [e]; simp) (by simp) st
    rw [hTp] at go hT ⊢
    simp -implicitDefEqProofs [-alen,b_spec_AAgree_4,hlt,hlt',g,g',infCells,al,cT2]
    refine agree_in (m:=m) (v:=q.value) (r:=q.reason) hpl hT ?_
    simp -implicitDefEqProofs [t_spec_AAgree_2,t_spec_AAgree_3,hz,infCells,ew]
    exact go _ (by simp [infCells])
end Wax


namespace Wax
open Go (IntKind)

def AR.rest (r:AR):List KVp:=if r.kind=0 then r.ps.getD [] else r.props.map fun p=>(p.1++46::p.2.1,p.2.2)
theorem prm_rest (r:AR):r.prm=rPs r.reason++r.rest:=rfl
structure FR (r:AR):Prop where
  good:PrGood r
  meth:mKw r.meth=true
  low:lowS r.meth=r.meth
  val:mKw r.value=true
  rs:r.reason=[]∨VR [] r.reason (fmtV r.reason)
  key:∀ p∈r.rest,p.1 ≠ qReason∧p.2 ≠ []∧KP p
  nd:(r.prm.map (·.1)).Nodup
  ip:r.rest.map split3=r.iprops
def ppl (r:AR):List KVp:=((sortB ((r.pr.fm.map (·.1)).filter (· ≠ qReason))).filter fun k=>decide (lookP r.pr.fm k ≠ [])).map fun k=>(k,lookP r.pr.fm k)
theorem rest_nd {r:AR} (F:FR r):(r.rest.map (·.1)).Nodup:=by
  have:=F.nd
  rw [prm_rest,List.map_append,List.nodup_append] at this
  exact this.2.1
theorem ppl_mem {r:AR} (F:FR r) {p:KVp}:p∈ppl r ↔ p∈r.rest:=by
  simp only [ppl,List.mem_map,List.mem_filter,decide_eq_true_eq,sortB,List.mem_mergeSort]
  constructor
  · rintro ⟨k,⟨⟨_,hk⟩,hv⟩,rfl⟩
    have:=F.good.keys _ (lookP_kv hv) hv
    rw [prm_rest,List.mem_append] at this
    rcases this with h | h
    · unfold rPs at h
      split at h
      · simp at h
      · simp only [List.mem_singleton,Prod.mk.injEq] at h
        exact absurd h.1 hk
    · exact h
  · intro hp
    obtain ⟨k1,k2,_⟩:=F.key p hp
    have h1:lookP r.prm p.1=p.2:=lookP_mem F.nd (by rw [prm_rest]; exact List.mem_append_right _ hp)
    have h2:lookP r.pr.fm p.1=p.2:=by rw [F.good.look,h1]
    have h3:lookP r.pr.fm p.1 ≠ []:=by rw [h2]; exact k2
    exact ⟨p.1,⟨⟨⟨_,lookP_kv h3,rfl⟩,k1⟩,h3⟩,by rw [h2]⟩
theorem ppl_nd {r:AR} (F:FR r):(ppl r).Nodup:=by
  refine nd_of_keys ?_
  have e:(ppl r).map (·.1)=(sortB ((r.pr.fm.map (·.1)).filter (· ≠ qReason))).filter fun k=>decide (lookP r.pr.fm k ≠ []):=by simp [ppl,Function.comp_def]
  rw [e]
  refine List.Pairwise.filter _ ?_
  have:(sortB ((r.pr.fm.map (·.1)).filter (· ≠ qReason))).Perm ((r.pr.fm.map (·.1)).filter (· ≠ qReason)):=List.mergeSort_perm _ _
  exact this.nodup_iff.2 (List.Pairwise.filter _ F.good.nd)
theorem ppl_perm {r:AR} (F:FR r):(ppl r).Perm r.rest:=(List.perm_ext_iff_of_nodup (ppl_nd F) (nd_of_keys (rest_nd F))).2 fun _=>ppl_mem F
theorem ppl_kp {r:AR} (F:FR r):∀ p∈ppl r,KP p:=fun p hp=>(F.key p ((ppl_mem F).1 hp)).2.2
def re (r:AR):L8:=if r.reason=[]∧ppl r=[] then [32] else []
theorem re_or (r:AR):re r=[]∨re r=[32]:=by unfold re; split <;> simp
theorem fPart_rText {r:AR} (F:FR r):fPart r.pr=59::(rText r.meth r.value r.reason (ppl r)++re r):=by
  have hlr:lookP r.pr.fm qReason=r.reason:=by
    rw [F.good.look,prm_rest,look_rPs]
    by_cases h:r.reason=[]
    · simp only [h,ne_eq,not_true_eq_false,and_false,if_false]
      by_cases hl:lookP r.rest qReason=[]
      · exact hl
      · exact absurd rfl (F.key _ (lookP_kv hl)).1
    · simp [h]
  have hks:((fmKeys r.pr.fm).filter fun k=>decide (lookP r.pr.fm k ≠ []))=(if r.reason=[] then [] else [qReason])++(sortB ((r.pr.fm.map (·.1)).filter (· ≠ qReason))).filter fun k=>decide (lookP r.pr.fm k ≠ []):=by
    unfold fmKeys
    rw [List.filter_append,hlr]
    congr 1
    split
    · rfl
    · rename_i h
      simp [hlr,h]
  have hw:((fmKeys r.pr.fm).filter fun k=>decide (lookP r.pr.fm k ≠ [])).map (fmWord r.pr.fm)=(if r.reason=[] then [] else [qReason++61::fmtV r.reason])++(ppl r).map fmw:=by
    rw [hks,List.map_append]
    congr 1
    · split
      · rfl
      · simp [fmWord,hlr]
    · unfold ppl
      rw [List.map_map]
      refine List.map_congr_left fun k hk=>?_
      simp only [sortB,List.mem_filter,List.mem_mergeSort,decide_eq_true_eq] at hk
      simp only [fmWord,Function.comp,fmw,if_neg hk.1.2]
  have hf:32::fmtPs r.pr.fm=((if r.reason=[] then [] else 32::(qReason++61::fmtV r.reason))++(ppl r).flatMap (fun p=>32::fmw p))++re r:=by
    unfold fmtPs
    rw [hw,joinW_flat]
    unfold re
    by_cases h1:r.reason=[]
    · by_cases h2:ppl r=[]
      · simp [h1,h2]
      · simp [h1,h2,List.flatMap_map]
    · simp [h1,List.flatMap_map]
  simp only [fPart,F.good.meth,F.good.val,hf,rText]
  simp
def infOf (r:AR):Inf:=⟨r.meth,r.value,r.reason,(ppl r).map split3⟩
theorem tail_end (l:List AR):(l.map AR.pr).flatMap fPart=[]∨((l.map AR.pr).flatMap fPart).head? = some 59:=by
  cases l with
  | nil=>exact .inl rfl
  | cons r l=>exact .inr rfl
theorem aLoop_read:∀ (l:List AR) (n k:Nat) (acc:List Inf),(∀ r∈l,FR r)→l.length < n→aLoop n k acc ((l.map AR.pr).flatMap fPart)=some (acc++l.map infOf,true)
  | [],n+1,k,acc,_,_=>by simp [aLoop]
  | [],0,_,_,_,h=>by simp at h
  | r::l,0,_,_,_,h=>by simp at h
  | r::l,n+1,k,acc,hF,hn=>by
    have F:=hF r (by simp)
    have ih:=aLoop_read l n (k+1) (acc++[infOf r]) (fun q hq=>hF q (by simp [hq])) (by simp at hn; omega)
    have hrest:=tail_end l
    have hi:=aInfo_read F.meth F.val F.rs (ppl_kp F) (re_or r) hrest
    simp only [List.map_cons,List.flatMap_cons]
    rw [fPart_rText F]
    simp only [List.cons_append,List.append_assoc,aLoop,if_true,hi]
    rw [if_neg (by simp)]
    simp only [Bool.false_eq_true,if_false]
    have:(⟨r.meth,r.value,r.reason,(ppl r).map split3⟩:Inf)=infOf r:=rfl
    rw [this,ih]
    simp
theorem field_read {i:L8} (hi:aPlain i=true) {l:List AR} (hF:∀ r∈l,FR r):aField (fText i (l.map AR.pr))=some (⟨i,[],l.map infOf⟩,true):=by
  cases l with
  | nil=>exact none_field hi
  | cons r l =>
    have e:fText i ((r::l).map AR.pr)=i++((r::l).map AR.pr).flatMap fPart:=by simp [fText]
    have hh:(((r::l).map AR.pr).flatMap fPart).head? = some 59:=rfl
    obtain ⟨h1,h2,h3⟩:=id_read hi hh
    have hlen:(r::l).length < (((r::l).map AR.pr).flatMap fPart).length+1:=by
      have:∀ l:List AR,l.length≤((l.map AR.pr).flatMap fPart).length:=by
        intro l
        induction l with
        | nil=>simp
        | cons q l ih=>simp only [List.map_cons,List.flatMap_cons,List.length_append,List.length_cons,fPart]; omega
      have:=this (r::l)
      omega
    have hl:=aLoop_read (r::l) _ 0 [] hF hlen
    rw [e]
    unfold aField
    rw [h1]
    simp only [h2,Bool.true_eq_false,if_false,List.drop_left,h3]
    rw [if_pos (.inr hh)]
    unfold aRest
    rw [hl]; simp
end Wax


namespace Wax
open Go (IntKind)

theorem val_kw {v:L8} (h:aVals.contains v=true):mKw v=true:=by
  simp only [aVals,List.contains_cons,List.contains_nil,Bool.or_false,Bool.or_eq_true,beq_iff_eq] at h
  rcases h with h | h | h | h | h | h | h | h | h <;> subst h <;> decide
theorem meth_kw {r:AR} (h:1≤r.kind∧r.kind≤7):mKw r.meth=true:=by
  have:r.kind=1∨r.kind=2∨r.kind=3∨r.kind=4∨r.kind=5∨r.kind=6∨r.kind=7:=by omega
  rcases this with h | h | h | h | h | h | h
  · rw [show r.meth=sAuth by simp only [AR.meth,h]; rfl]; decide
  · rw [show r.meth=sDkim by simp only [AR.meth,h]; rfl]; decide
  · rw [show r.meth=sDomk by simp only [AR.meth,h]; rfl]; decide
  · rw [show r.meth=sIprev by simp only [AR.meth,h]; rfl]; decide
  · rw [show r.meth=sSender by simp only [AR.meth,h]; rfl]; decide
  · rw [show r.meth=sSpf by simp only [AR.meth,h]; rfl]; decide
  · rw [show r.meth=sDmarc by simp only [AR.meth,h]; rfl]; decide
theorem cut_join {t n:L8} (h:46 ∉ t):cutAt 46 (t++46::n)=some (t,n):=by
  have hno:noB (46:UInt8).toNat t:=fun x hx e=>h (by
    have:x=46:=UInt8.toNat_inj.1 (by exact_mod_cast e)
    rw [← this]; exact hx)
  exact cutAt_noB (c:=46) hno
theorem props_kw {r:AR}:∀ p∈r.props,mKw p.1=true:=by
  intro p hp
  unfold AR.props at hp
  repeat' split at hp
  all_goals
    simp only [List.mem_cons,List.not_mem_nil,or_false] at hp
    try (rcases hp with rfl | rfl | rfl)
    try (rcases hp with rfl | rfl)
    try subst hp
  all_goals try (first | exact (show mKw tSmtp=true by decide) | exact (show mKw tHeader=true by decide) | exact (show mKw tPolicy=true by decide))
theorem dot_tok {a b:L8} (ha:mKw a=true) (hb:mKw b=true):∀ x∈a++46::b,tokB x=true:=by
  intro x hx
  simp only [List.mem_append,List.mem_cons] at hx
  rcases hx with hx | rfl | hx
  · exact (kw_toks ha).1 x hx
  · decide
  · exact (kw_toks hb).1 x hx
theorem kp_prop {r:AR} {p:T3} (hp:p∈r.props) (hn:mKw p.2.1=true) (hl:lowS p.2.1=p.2.1) (hv:VR [64,58] p.2.2 (fmtP p.2.2)):KP (p.1++46::p.2.1,p.2.2)∧split3 (p.1++46::p.2.1,p.2.2)=p:=by
  obtain ⟨ht,h46,_⟩:=props_t p hp
  have hc:=cut_join (n:=p.2.1) h46
  refine ⟨⟨dot_tok (props_kw p hp) hn,⟨_,hc,props_kw p hp,(kw_toks hn).2⟩,?_,hv⟩,?_⟩
  · have:lowS (p.1++46::p.2.1)=lowS p.1++46::lowS p.2.1:=by simp [lowS,lowB]
    rw [this,ht.2.2,hl]
    exact key_ne_reason
  · simp [split3,halfP,hc]
theorem cnt_one:∀ {l:List T3} {p:T3},l.Nodup→p∈l→cnt p l=1
  | q::l,p,hn,hp=>by
    rw [List.nodup_cons] at hn
    have h0:∀ {l:List T3} {p:T3},p ∉ l→cnt p l=0:=by
      intro l p h
      simp only [cnt,List.length_eq_zero_iff,List.filter_eq_nil_iff,decide_eq_true_eq]
      intro x hx e
      exact h (e ▸ hx)
    have e:cnt p (q::l)=cnt p [q]+cnt p l:=cnt_app p [q] l
    rw [e]
    by_cases h:p=q
    · subst h
      rw [h0 hn.1]; simp [cnt]
    · have hp2:p∈l:=by
        rcases List.mem_cons.1 hp with h2 | h2
        · exact absurd h2 h
        · exact h2
      rw [cnt_one hn.2 hp2]; simp [cnt,h]
theorem ip_nd {r:AR} (F:FR r):r.iprops.Nodup:=by
  rw [← F.ip]
  have h:=rest_nd F
  have h2:r.rest.Pairwise fun a b=>a.1 ≠ b.1:=List.pairwise_map.1 h
  refine List.pairwise_map.2 ?_
  refine List.Pairwise.imp_of_mem ?_ h2
  intro a b ha hb hab e
  obtain ⟨q,c1,_⟩:=(F.key a ha).2.2.cut
  obtain ⟨q',c2,_⟩:=(F.key b hb).2.2.cut
  simp only [split3,halfP,c1,c2,Prod.mk.injEq] at e
  apply hab
  rw [cut_mem (c:=46) c1,cut_mem (c:=46) c2,e.1,e.2.1]
theorem fr_agrees {r:AR} (F:FR r):agrees r.meth r.value r.reason ((ppl r).map split3) r:=by
  have hp:((ppl r).map split3).Perm r.iprops:=by rw [← F.ip]; exact (ppl_perm F).map _
  refine ⟨F.low,rfl,rfl,hp.length_eq,fun p hpm=>?_⟩
  have:cnt p ((ppl r).map split3)=cnt p r.iprops:=(hp.filter _).length_eq
  rw [this]
  exact cnt_one (ip_nd F) hpm
theorem k_agree {r:AR} (F:FR r) (hs:r.small) (hm:r.meth.length < big):con_AAgree [(infOf r).V,.agg r.cells]=some (.bool true):=by
  have hp:((ppl r).map split3).Perm r.iprops:=by rw [← F.ip]; exact (ppl_perm F).map _
  simp only [Inf.V,infOf,con_AAgree,slTr_tripV,asAR_cells]
  exact if_pos ⟨rfl,hm,by rw [hp.length_eq]; exact hs.2.1,hs,fr_agrees F⟩
end Wax


namespace Wax
open Go (IntKind)

def okC (c:UInt8):Bool:=decide (32≤(c.toNat:Int)) && decide ((c.toNat:Int) < 127) && decide (c ≠ 92)
def spcL:L8:=[32,34,40,41,59,60,62,58,61,63]
def spc (c:UInt8):Bool:=anyN c.toNat spcL
def aQt (s:L8):Bool:=s.all okC && (decide (s.length≤200) && (s.any spc || aPlain s))
def con_AQuotes:List AV→Option AV
  | [.str s]=>if s.length < mid then some (.bool (aQt s)) else none
  | _=>none
set_option maxHeartbeats 4000000 in
set_option maxRecDepth 100000 in
theorem ok_AQuotes (Γ:Gam) (h100:Γ.fn 100=con_MailAny) (h204:Γ.fn 204=con_APlain):∀ args r,con_AQuotes args=some r→runs Γ c_spec_AQuotes args (fun v=>v=r):=by
  intro args r h
  simp only [con_AQuotes] at h
  split at h <;> (try simp at h; done)
  rename_i s
  obtain ⟨hs,rfl⟩:=ite_some h
  clear h
  have kp:=plain_con (s:=s) hs
  simp only [mid] at hs
  simp -implicitDefEqProofs [c_spec_AQuotes]
  refine awp_loop2 (σ:=L8 × L8) (fun p=>⟨[(0,.str s),(3,.bool (p.1.any spc)),(4,.int .i64 p.1.length)],[]⟩)
    (fun p=>s=p.1++p.2∧p.1.all okC=true) (fun p=>p.2.length) ([],s) (by simp) (by simp) ?_
  rintro ⟨pre,post⟩ ⟨e,hp⟩ LQ hLQ
  simp only at e hp
  cases post with
  | nil =>
    simp only [List.append_nil] at e
    subst e
    have hnl:¬ ((s.length:Int) < (s.length:Int)):=by omega
    by_cases h200:s.length≤200
    · have h2:(s.length:Int)≤200:=by omega
      cases ha:s.any spc with
      | true =>
        have hq:aQt s=true:=by simp [aQt,hp,h200,ha]
        simp -implicitDefEqProofs [b_spec_AQuotes_1,t_spec_AQuotes_2,ha,h2,hq,h200]
      | false =>
        have hq:aQt s=aPlain s:=by simp [aQt,hp,h200,ha]
        simp -implicitDefEqProofs [b_spec_AQuotes_1,t_spec_AQuotes_2,ha,h2,hq,h200,acall,h204,kp]
    · have h2:¬ (s.length:Int)≤200:=by omega
      have hq:aQt s=false:=by simp [aQt,h200]
      simp -implicitDefEqProofs [b_spec_AQuotes_1,t_spec_AQuotes_2,h2,hq,h200]
  | cons c post =>
    have hlen:s.length=pre.length+(post.length+1):=by rw [e]; simp
    have hlt:(pre.length:Int) < (s.length:Int):=by omega
    have hlt':pre.length < s.length:=by omega
    have g:s[pre.length]? = some c:=by rw [e]; exact get_mid rfl
    have g':s[pre.length]'hlt'=c:=by rw [List.getElem?_eq_getElem hlt'] at g; exact Option.some.inj g
    have ew:IntKind.i64.wrap ((pre.length:Int)+1)=(pre.length:Int)+1:=wrap64 (by omega) (by omega)
    have ka:con_MailAny [.int .u8 (c.toNat:Int),.str [32,34,40,41,59,60,62,58,61,63]]=some (.bool (spc c)):=by
      simp only [con_MailAny]
      rw [if_pos (by simp [big])]; rfl
    have bad:okC c=false→aQt s=false:=fun h=>by rw [e]; simp [aQt,h]
    have go:=fun h st=>hLQ (pre++[c],post) ⟨by rw [e]; simp,by rw [List.all_append,hp]; simpa using h⟩ (by simp) st
    have ea:(pre++[c]).any spc=(pre.any spc || spc c):=by simp
    simp only [ea] at go
    by_cases c1:(c.toNat:Int) < 32
    · have hb:=bad (by simp only [okC]; rw [decide_eq_false (by omega)]; rfl)
      simp -implicitDefEqProofs [b_spec_AQuotes_1,hlt,hlt',g,g',c1,hb]
    by_cases c2:127≤(c.toNat:Int)
    · have hb:=bad (by simp only [okC]; rw [decide_eq_false (p:=(c.toNat:Int) < 127) (by omega)]; simp)
      simp -implicitDefEqProofs [b_spec_AQuotes_1,hlt,hlt',g,g',c1,c2,hb]
    by_cases c3:c=92
    · have hx:(c.toNat:Int)=92:=by rw [c3]; rfl
      have hb:=bad (by simp [okC,c3])
      simp -implicitDefEqProofs [b_spec_AQuotes_1,hlt,hlt',g,g',hx,hb]
    have hx:¬ (c.toNat:Int)=92:=ne_int (c:=92) c3
    have go2:=go (by simp only [okC]; rw [decide_eq_true (p:=32≤(c.toNat:Int)) (by omega),decide_eq_true (p:=(c.toNat:Int) < 127) (by omega)]; simp [c3])
    cases hpa:pre.any spc with
    | true =>
      simp only [hpa,Bool.true_or] at go2
      simp -implicitDefEqProofs [b_spec_AQuotes_1,hlt,hlt',g,g',c1,c2,hx,ew,acall,h100,ka]
      exact go2 _ (by simp)
    | false =>
      simp only [hpa,Bool.false_or] at go2
      simp -implicitDefEqProofs [b_spec_AQuotes_1,hlt,hlt',g,g',c1,c2,hx,ew,acall,h100,ka]
      exact go2 _ (by simp)
theorem aQt_ok {s:L8} (h:aQt s=true):okQ s∧s.length≤200∧(aPlain s=true∨s.all adB=false):=by
  simp only [aQt,Bool.and_eq_true,Bool.or_eq_true,decide_eq_true_eq] at h
  obtain ⟨h1,h2,h3⟩:=h
  refine ⟨fun x hx=>?_,h2,?_⟩
  · have:=List.all_eq_true.1 h1 x hx
    simp only [okC,Bool.and_eq_true,decide_eq_true_eq] at this
    exact ⟨by omega,by omega,this.2⟩
  · rcases h3 with h3 | h3
    · right
      obtain ⟨x,hx,hs⟩:=List.any_eq_true.1 h3
      have all:∀ y∈spcL,adB y=false:=by decide
      have hm:x∈spcL:=by
        simp only [spc,anyN,List.any_eq_true,decide_eq_true_eq] at hs
        obtain ⟨y,hy,e⟩:=hs
        have:y=x:=UInt8.toNat_inj.1 (by omega)
        rw [← this]; exact hy
      cases ha:s.all adB with
      | false=>rfl
      | true =>
        have:=List.all_eq_true.1 ha x hx
        rw [all x hm] at this; simp at this
    · exact .inl h3
end Wax


namespace Wax
open Go (IntKind)

structure QC (i:L8) (q:AR):Prop where
  kind:1≤q.kind∧q.kind≤7
  plain:aPlain i=true
  mute:q.kind=1→q.reason=[]
  rlen:q.reason.length≤200
  rok:q.reason.all okC=true
  ps:q.ps=none
  props:∀ p∈q.props,p.2.2 ≠ []∧aQt p.2.2=true∧mKw p.2.1=true∧lowS p.2.1=p.2.1
  fit:fit2 q=true
  val:aVals.contains q.value=true
section
variable {i:L8} {q:AR} (C:QC i q)
include C
theorem qc_okr:okQ q.reason:=fun x hx=>by
  have:=List.all_eq_true.1 C.rok x hx
  simp only [okC,Bool.and_eq_true,decide_eq_true_eq] at this
  exact ⟨by omega,by omega,this.2⟩
theorem qc_k:q.kind=1∨q.kind=2∨q.kind=3∨q.kind=4∨q.kind=5∨q.kind=6∨q.kind=7:=by have:=C.kind; omega
theorem qc_good:PrGood q:=by
  rcases qc_k C with h | h | h | h | h | h | h
  · exact good_Auth h (C.mute h)
  · exact good_Dkim h
  · exact good_Domk h
  · exact good_Iprev h
  · exact good_Sender h (C.props (tHeader,q.hkey,q.hval) (by simp [AR.props,h])).2.2.2
  · exact good_Spf h
  · exact good_Dmarc h
theorem qc_rest:q.rest=q.props.map fun p=>(p.1++46::p.2.1,p.2.2):=by
  have:=C.kind
  simp only [AR.rest]; rw [if_neg (by omega)]
theorem qc_nd:(q.prm.map (·.1)).Nodup:=by
  have hnd:(q.props.map fun p=>(p.1++46::p.2.1:L8)).Nodup:=by
    unfold AR.props
    repeat' split
    all_goals simp only [List.map_cons,List.map_nil]
    all_goals first | decide | simp
  rw [prm_rest,qc_rest C,List.map_append,List.nodup_append]
  refine ⟨?_,by simpa [Function.comp_def] using hnd,?_⟩
  · unfold rPs; split <;> simp
  · intro a ha b hb e
    rw [List.map_map] at hb
    obtain ⟨z,hz,rfl⟩:=List.mem_map.1 hb
    unfold rPs at ha
    split at ha
    · simp at ha
    · simp only [List.map_cons,List.map_nil,List.mem_singleton] at ha
      rw [ha] at e
      exact key_ne_reason e.symm
theorem qc_low:lowS q.meth=q.meth:=by
  rcases qc_k C with h | h | h | h | h | h | h
  · rw [show q.meth=sAuth by simp only [AR.meth,h]; rfl]; decide
  · rw [show q.meth=sDkim by simp only [AR.meth,h]; rfl]; decide
  · rw [show q.meth=sDomk by simp only [AR.meth,h]; rfl]; decide
  · rw [show q.meth=sIprev by simp only [AR.meth,h]; rfl]; decide
  · rw [show q.meth=sSender by simp only [AR.meth,h]; rfl]; decide
  · rw [show q.meth=sSpf by simp only [AR.meth,h]; rfl]; decide
  · rw [show q.meth=sDmarc by simp only [AR.meth,h]; rfl]; decide
theorem qc_FR:FR q:=by
  have hp5:∀ p∈q.props,KP (p.1++46::p.2.1,p.2.2)∧split3 (p.1++46::p.2.1,p.2.2)=p:=by
    intro p hp
    obtain ⟨h1,h2,h3,h4⟩:=C.props p hp
    obtain ⟨o1,_,o3⟩:=aQt_ok h2
    exact kp_prop hp h3 h4 (fmtP_read h1 o1 o3)
  have hk:=C.kind
  refine ⟨qc_good C,meth_kw hk,qc_low C,val_kw C.val,?_,fun p hp=>?_,qc_nd C,?_⟩
  · by_cases h:q.reason=[]
    · exact .inl h
    · exact .inr (fmtV_read (.inl rfl) h (qc_okr C))
  · rw [qc_rest C] at hp
    obtain ⟨z,hz,rfl⟩:=List.mem_map.1 hp
    exact ⟨key_ne_reason,(C.props z hz).1,(hp5 z hz).1⟩
  · rw [qc_rest C,List.map_map]
    simp only [AR.iprops]
    rw [if_neg (by omega)]
    conv=>rhs; rw [← List.map_id q.props]
    exact List.map_congr_left fun p hp=>(hp5 p hp).2
theorem qc_keys:∀ p∈q.props,p.1.length≤10∧p.2.1.length≤2147483647:=by
  intro p hp
  have hf:=C.fit
  simp only [fit2,lenB,Bool.and_eq_true,decide_eq_true_eq] at hf
  unfold AR.props at hp
  repeat' split at hp
  all_goals
    simp only [List.mem_cons,List.not_mem_nil,or_false] at hp
    try (rcases hp with rfl | rfl | rfl)
    try (rcases hp with rfl | rfl)
    try subst hp
  all_goals refine ⟨by simp [tSmtp,tHeader,tPolicy],?_⟩
  all_goals first | (simp [nAuth,nD,nI,nFrom,nSender,nIprev,nMail,nHelo]; done) | (simp only; omega)
omit C in
theorem qc_plen:q.props.length≤3:=by
  unfold AR.props
  repeat' split
  all_goals simp
omit C in
theorem okQ_ascii {s:L8} (h:okQ s):ascii s=true:=List.all_eq_true.2 fun x hx=>by have:=(h x hx).2.1; simp; omega
end

theorem flat_len {α:Type} {f:α→L8} {M:Nat}:∀ (l:List α),(∀ x∈l,(f x).length≤M)→(l.flatMap f).length≤l.length * M
  | [],_=>by simp
  | x::l,h=>by
    have h1:=h x (by simp)
    have h2:=flat_len l fun y hy=>h y (by simp [hy])
    simp only [List.flatMap_cons,List.length_append,List.length_cons,Nat.add_mul,Nat.one_mul]
    omega
section
variable {i:L8} {q:AR} (C:QC i q)
include C
theorem qc_fmOk:q.pr.fmOk:=by
  have G:=qc_good C
  refine ⟨?_,?_,fun p hp=>?_,?_⟩
  · rcases qc_k C with h | h | h | h | h | h | h <;> simp [AR.pr,h,PR.isArc]
  · rcases qc_k C with h | h | h | h | h | h | h <;> simp [AR.pr,h,PR.fm,half]
  · by_cases hv:p.2=[]
    · rw [hv]; exact ⟨rfl,by simp [qrt]⟩
    · have hq:=G.keys p hp hv
      rw [prm_rest,qc_rest C,List.mem_append] at hq
      rcases hq with hq | hq
      · unfold rPs at hq
        split at hq
        · simp at hq
        · simp only [List.mem_singleton] at hq
          subst hq
          have:=C.rlen
          exact ⟨okQ_ascii (qc_okr C),by simp only [qrt]; omega⟩
      · obtain ⟨z,hz,rfl⟩:=List.mem_map.1 hq
        obtain ⟨a,b,_⟩:=aQt_ok (C.props z hz).2.1
        exact ⟨okQ_ascii a,by simp only [qrt]; omega⟩
  · intro v rr k y e
    have h5:q.kind=5:=by
      rcases qc_k C with h | h | h | h | h | h | h <;> first | exact h | simp [AR.pr,h] at e
    have hk:k=q.hkey:=by simp only [AR.pr,h5] at e; simp at e; exact e.2.2.1.symm
    have hp:(tHeader,q.hkey,q.hval)∈q.props:=by simp [AR.props,h5]
    have:=(C.props _ hp).2.2.1
    have hl:=(qc_keys C _ hp).2
    simp only at hl
    rw [hk]
    exact ⟨by simp only [mid]; omega,tk_ascii (kw_tk this)⟩
theorem qc_small:q.small:=by
  have hk:=C.kind
  refine ⟨⟨by omega,by omega,fun h=>by omega⟩,?_,fun p hp=>?_⟩
  · simp only [AR.iprops]; rw [if_neg (by omega)]
    have:=qc_plen (q:=q)
    simp only [half]; omega
  · simp only [AR.iprops] at hp; rw [if_neg (by omega)] at hp
    have:=(aQt_ok (C.props p hp).2.1).2.1
    simp only [half]; omega
theorem qc_ml:q.meth.length≤10:=by
  rcases qc_k C with h | h | h | h | h | h | h
  · rw [show q.meth=sAuth by simp only [AR.meth,h]; rfl]; decide
  · rw [show q.meth=sDkim by simp only [AR.meth,h]; rfl]; decide
  · rw [show q.meth=sDomk by simp only [AR.meth,h]; rfl]; decide
  · rw [show q.meth=sIprev by simp only [AR.meth,h]; rfl]; decide
  · rw [show q.meth=sSender by simp only [AR.meth,h]; rfl]; decide
  · rw [show q.meth=sSpf by simp only [AR.meth,h]; rfl]; decide
  · rw [show q.meth=sDmarc by simp only [AR.meth,h]; rfl]; decide
theorem qc_len:(fText i [q.pr]).length < 20000000000:=by
  have F:=qc_FR C
  have hi:=(aPlain_g C.plain).2.2
  have hm:=qc_ml C
  have hv:q.value.length≤2147483647:=by
    have hf:=C.fit
    simp only [fit2,lenB,Bool.and_eq_true,decide_eq_true_eq] at hf
    omega
  have hr:=fmtV_len q.reason
  have hrl:=C.rlen
  have hpl:(ppl q).length≤3:=by
    rw [(ppl_perm F).length_eq,qc_rest C,List.length_map]; exact qc_plen
  have hfl:=flat_len (f:=fun p:KVp=>32::fmw p) (M:=3000000000) (ppl q) fun p hp=>by
    have hp2:=(ppl_mem F).1 hp
    rw [qc_rest C] at hp2
    obtain ⟨z,hz,rfl⟩:=List.mem_map.1 hp2
    have h1:=qc_keys C z hz
    have h2:=(aQt_ok (C.props z hz).2.1).2.1
    have h3:=fmtP_len z.2.2
    simp only [fmw,List.length_cons,List.length_append]
    omega
  have hre:(re q).length≤1:=by unfold re; split <;> simp
  have hrs:(if q.reason=[] then ([]:L8) else 32::(qReason++61::fmtV q.reason)).length≤420:=by
    split
    · simp
    · simp only [List.length_cons,List.length_append,qReason,List.length_nil]; omega
  have hmul:(ppl q).length * 3000000000≤3 * 3000000000:=Nat.mul_le_mul_right _ hpl
  simp only [fText,List.cons_ne_nil,if_false,List.flatMap_cons,List.flatMap_nil,List.append_nil]
  rw [fPart_rText F]
  simp only [rText,List.length_append,List.length_cons]
  omega
theorem law_quoted:∃ T:L8,con_AFormat [.str i,.sl 16 [.agg q.cells]]=some (.str T)∧con_ARead [.str T]=some (.tup [.agg [.str i,.str [],.sl 5 [(infOf q).V]],.bool true])∧con_AAgree [(infOf q).V,.agg q.cells]=some (.bool true):=by
  have F:=qc_FR C
  have hl:=qc_len C
  refine ⟨fText i [q.pr],?_,?_,?_⟩
  · have hs:slAR (.sl 16 [.agg q.cells])=some [q]:=slAR_arV [q]
    simp only [con_AFormat,hs]
    exact if_pos ⟨by simp [half],by simp [C.ps,half],by simpa using qc_fmOk C,by simp only [List.map_cons,List.map_nil,mid]; omega⟩
  · have hf:=field_read C.plain (l:=[q]) (by simpa using F)
    simp only [List.map_cons,List.map_nil] at hf
    simp only [con_ARead,hf]
    exact if_pos (by simp only [qrt]; omega)
  · exact k_agree F (qc_small C) (by have:=qc_ml C; simp only [big]; omega)
end
end Wax


namespace Wax
open Go (IntKind)

section
variable {Γ:Gam} (h233:Γ.fn 233=con_AFormat) (h234:Γ.fn 234=con_ARead) (h249:Γ.fn 249=con_AAgree) (h137:Γ.fn 137=con_awake)
include h233 h234 h249 h137
set_option maxRecDepth 100000 in
set_option maxHeartbeats 8000000 in
theorem qt4 {i:L8} {q:AR} {b:Bool} (hq:b=true→QC i q):awp Γ t_laws_FnAuthQuoted_4 (finQ [.t 4] fun v=>v=.bool true) ⟨[(0,.str i),(3,.ref 3 0),(7,.bool b)],[(3,.cells q.cells)]⟩:=by
  have cu:=slP_cells q.ps
  simp only [cells] at cu
  cases b with
  | false=>simp -implicitDefEqProofs [t_laws_FnAuthQuoted_4,AR.cells]
  | true =>
    have C:=hq rfl
    obtain ⟨T,kt,kr,ka⟩:=law_quoted C
    have k6:con_awake []=some (.bool true):=rfl
    have ci:=trV3_cells (infOf q).ps
    simp only [cells] at ci
    have hg:group 16 1 q.cells=[.agg q.cells]:=by have:=group_arC (l:=[q]); simpa using this
    simp only [AR.cells] at kt ka hg
    simp only [Inf.V] at kr ka
    generalize infOf q=Z at *
    simp -implicitDefEqProofs [t_laws_FnAuthQuoted_4,AR.cells,cu,hg,acall,h233,kt,h234,kr,ci,h249,ka,h137,k6]
end
theorem fit_lens {q:AR} (hf:fit2 q=true):∀ p∈q.props,p.2.1.length≤2147483647∧p.2.2.length≤2147483647:=by
  intro p hp
  simp only [fit2,lenB,Bool.and_eq_true,decide_eq_true_eq] at hf
  unfold AR.props at hp
  repeat' split at hp
  all_goals
    simp only [List.mem_cons,List.not_mem_nil,or_false] at hp
    try (rcases hp with rfl | rfl | rfl)
    try (rcases hp with rfl | rfl)
    try subst hp
  all_goals refine ⟨?_,by simp only; omega⟩
  all_goals first | (simp [nAuth,nD,nI,nFrom,nSender,nIprev,nMail,nHelo]; done) | (simp only; omega)
def pOk (p:T3):Prop:=p.2.2 ≠ []∧aQt p.2.2=true∧mKw p.2.1=true∧lowS p.2.1=p.2.1
section
variable {Γ:Gam} (h233:Γ.fn 233=con_AFormat) (h234:Γ.fn 234=con_ARead) (h249:Γ.fn 249=con_AAgree) (h137:Γ.fn 137=con_awake) (h201:Γ.fn 201=con_AProps) (h250:Γ.fn 250=con_AQuotes) (h99:Γ.fn 99=con_MailKeyword) (h112:Γ.fn 112=con_MailLower) (h203:Γ.fn 203=con_AValues)
include h233 h234 h249 h137 h201 h250 h99 h112
set_option maxRecDepth 100000 in
set_option maxHeartbeats 8000000 in
theorem qt5 {i:L8} {q:AR} {b:Bool} {ex:List (Nat × AV)} (hf:fit2 q=true) (hq:b=true→(∀ p∈q.props,pOk p)→QC i q):awp Γ t_laws_FnAuthQuoted_5 (finQ [.t 4] fun v=>v=.bool true) ⟨(0,.str i)::(3,.ref 3 0)::(7,.bool b)::ex,[(3,.cells q.cells)]⟩:=by
  have cu:=slP_cells q.ps
  simp only [cells] at cu
  have kx:con_AProps [.agg q.cells]=some (tripV q.props):=by simp only [con_AProps,asAR_cells,Option.map]
  simp only [AR.cells] at kx
  have al:∀ hp,alen hp 1 (tripV q.props)=some q.props.length:=fun hp=>by cases q.props <;> simp [tripV,alen]
  have hpl:=qc_plen (q:=q)
  simp -implicitDefEqProofs [-alen,t_laws_FnAuthQuoted_5,AR.cells,cu,acall,h201,kx,al]
  refine awp_loop2 (σ:=List T3 × List T3) (fun p=>⟨[(0,.str i),(3,.ref 3 0),(7,.bool b),(90,tripV q.props),(91,.int .i64 q.props.length),(92,.int .i64 p.1.length)],[(3,.cells q.cells)]⟩)
    (fun p=>q.props=p.1++p.2∧∀ z∈p.1,pOk z) (fun p=>p.2.length) ([],q.props) (by simp [AR.cells]) (by simp) ?_
  rintro ⟨pre,post⟩ ⟨e,hp⟩ LQ hLQ
  simp only at e hp
  cases post with
  | nil =>
    simp only [List.append_nil] at e
    have hnl:¬ ((q.props.length:Int) < (q.props.length:Int)):=by omega
    have el:pre.length=q.props.length:=by rw [e]
    have t4:=qt4 h233 h234 h249 h137 (i:=i) (q:=q) (b:=b) fun hb=>hq hb (by rw [e]; exact hp)
    simp -implicitDefEqProofs [-alen,b_laws_FnAuthQuoted_3,el]
    exact t4
  | cons z post =>
    have hz:=fit_lens hf z (by rw [e]; simp)
    have hlen:q.props.length=pre.length+(post.length+1):=by rw [e]; simp
    have hlt:(pre.length:Int) < (q.props.length:Int):=by omega
    have hlt':pre.length < q.props.length:=by omega
    have hTp:tripV q.props=.sl 3 (tr3 q.props):=by rw [e]; cases pre <;> rfl
    have g:(tr3 q.props)[pre.length]? = some (.agg [.str z.1,.str z.2.1,.str z.2.2]):=by rw [e]; simp [tr3]
    have g':(tr3 q.props)[pre.length]'(by simp; omega)=.agg [.str z.1,.str z.2.1,.str z.2.2]:=by rw [List.getElem?_eq_getElem (by simp; omega)] at g; exact Option.some.inj g
    have ew:IntKind.i64.wrap ((pre.length:Int)+1)=(pre.length:Int)+1:=wrap64 (by omega) (by omega)
    have k1:con_AQuotes [.str z.2.2]=some (.bool (aQt z.2.2)):=if_pos (by simp only [mid]; omega)
    have k2:con_MailKeyword [.str z.2.1]=some (.bool (mKw z.2.1)):=if_pos (by simp only [big]; omega)
    have k3:con_MailLower [.str z.2.1]=some (.str (lowS z.2.1)):=if_pos (by simp only [big]; omega)
    have go:=fun h st=>hLQ (pre++[z],post) ⟨by rw [e]; simp,h⟩ (by simp) st
    rw [hTp] at go ⊢
    by_cases c1:z.2.2=[]
    · simp -implicitDefEqProofs [-alen,b_laws_FnAuthQuoted_3,hlt,hlt',g',AR.cells,c1]
    cases c2:aQt z.2.2 with
    | false =>
      rw [c2] at k1
      simp -implicitDefEqProofs [-alen,b_laws_FnAuthQuoted_3,hlt,hlt',g',AR.cells,c1,acall,h250,k1]
    | true =>
      rw [c2] at k1
      cases c3:mKw z.2.1 with
      | false =>
        rw [c3] at k2
        simp -implicitDefEqProofs [-alen,b_laws_FnAuthQuoted_3,hlt,hlt',g',AR.cells,c1,acall,h250,k1,h99,k2]
      | true =>
        rw [c3] at k2
        by_cases c4:lowS z.2.1=z.2.1
        · rw [c4] at k3
          simp -implicitDefEqProofs [-alen,b_laws_FnAuthQuoted_3,hlt,hlt',g',AR.cells,c1,acall,h250,k1,h99,k2,h112,k3,ew]
          exact go (fun w hw=>by
            simp only [List.mem_append,List.mem_singleton] at hw
            rcases hw with hw | rfl
            · exact hp w hw
            · exact ⟨c1,c2,c3,c4⟩) _ (by simp [AR.cells])
        · simp -implicitDefEqProofs [-alen,b_laws_FnAuthQuoted_3,hlt,hlt',g',AR.cells,c1,acall,h250,k1,h99,k2,h112,k3,c4]
include h203
set_option maxRecDepth 100000 in
set_option maxHeartbeats 8000000 in
theorem qt6 {i:L8} {q:AR} {ex:List (Nat × AV)} (hf:fit2 q=true) (hq:aVals.contains q.value=true→(∀ p∈q.props,pOk p)→QC i q):awp Γ t_laws_FnAuthQuoted_6 (finQ [.t 4] fun v=>v=.bool true) ⟨(0,.str i)::(3,.ref 3 0)::ex,[(3,.cells q.cells)]⟩:=by
  have kv:con_AValues []=some (.sl 1 (strsA aVals)):=rfl
  simp -implicitDefEqProofs [t_laws_FnAuthQuoted_6,acall,h203,kv]
  refine awp_loop2 (σ:=List L8 × List L8) (fun p=>⟨[(0,.str i),(3,.ref 3 0),(7,.bool (p.1.contains q.value)),(75,.sl 1 (strsA aVals)),(76,.int .i64 aVals.length),(77,.int .i64 p.1.length)],[(3,.cells q.cells)]⟩)
    (fun p=>aVals=p.1++p.2) (fun p=>p.2.length) ([],aVals) (by simp) (by simp) ?_
  rintro ⟨pre,post⟩ e LQ hLQ
  simp only at e
  have hal:aVals.length≤9:=by decide
  cases post with
  | nil =>
    simp only [List.append_nil] at e
    have hnl:¬ ((aVals.length:Int) < (aVals.length:Int)):=by omega
    have t5:=fun ex=>qt5 h233 h234 h249 h137 h201 h250 h99 h112 (i:=i) (q:=q) (b:=aVals.contains q.value) (ex:=ex) hf hq
    have el:pre.length=aVals.length:=by rw [e]
    rw [← e] at *
    generalize aVals=V at *
    have e2:V.contains q.value=decide (q.value∈V):=by simp
    simp only [e2] at t5
    simp -implicitDefEqProofs [b_laws_FnAuthQuoted_2]
    exact t5 _
  | cons z post =>
    generalize aVals=V at *
    have hlen:V.length=pre.length+(post.length+1):=by rw [e]; simp
    have hlt:(pre.length:Int) < (V.length:Int):=by omega
    have hlt':pre.length < V.length:=by omega
    have gd:List.drop pre.length V=z::post:=by rw [e,List.drop_left]
    have g:(strsA V)[pre.length]? = some (.str z):=by rw [e]; simp [strsA]
    have ew:IntKind.i64.wrap ((pre.length:Int)+1)=(pre.length:Int)+1:=wrap64 (by omega) (by omega)
    have go:=fun st=>hLQ (pre++[z],post) (by rw [e]; simp) (by simp) st
    have hc:(pre++[z]).contains q.value=(pre.contains q.value || decide (z=q.value)):=by
      have hcm:(z=q.value)=(q.value=z):=propext eq_comm
      rw [Bool.eq_iff_iff]; simp [hcm]
    simp only [hc] at go
    have g2:(strsA V)[pre.length]'(by simp [strsA]; omega)=.str z:=by rw [List.getElem?_eq_getElem (by simp [strsA]; omega)] at g; exact Option.some.inj g
    have g3:V[pre.length]'hlt'=z:=by
      have:V[pre.length]? = some z:=by rw [e]; exact get_mid rfl
      rw [List.getElem?_eq_getElem hlt'] at this; exact Option.some.inj this
    cases hp:pre.contains q.value with
    | true =>
      simp only [hp,Bool.true_or] at go
      simp -implicitDefEqProofs [b_laws_FnAuthQuoted_2,hlt,hlt',gd,g,g2,g3,AR.cells,ew]
      exact go _ (by simp [AR.cells])
    | false =>
      simp only [hp,Bool.false_or] at go
      simp -implicitDefEqProofs [b_laws_FnAuthQuoted_2,hlt,hlt',gd,g,g2,g3,AR.cells,ew]
      exact go _ (by simp [AR.cells])
set_option maxRecDepth 100000 in
set_option maxHeartbeats 8000000 in
theorem qt7 {i:L8} {q:AR} (hf:fit2 q=true) (hrl:q.reason.length≤200) (hq:q.reason.all okC=true→aVals.contains q.value=true→(∀ p∈q.props,pOk p)→QC i q):awp Γ (.loop [0,3,5,6] b_laws_FnAuthQuoted_1) (blockQ 0 (thenQ (awp Γ t_laws_FnAuthQuoted_6 (finQ [.t 4] fun v=>v=.bool true)) (finQ [.t 4] fun v=>v=.bool true))) ⟨[(0,.str i),(3,.ref 3 0),(5,.str q.reason),(6,.int .i64 0)],[(3,.cells q.cells)]⟩:=by
  have t6:=fun h ex=>qt6 h233 h234 h249 h137 h201 h250 h99 h112 h203 (i:=i) (q:=q) (ex:=ex) hf (hq h)
  generalize q.reason=s at *
  refine awp_loop2 (σ:=L8 × L8) (fun p=>⟨[(0,.str i),(3,.ref 3 0),(5,.str s),(6,.int .i64 p.1.length)],[(3,.cells q.cells)]⟩)
    (fun p=>s=p.1++p.2∧p.1.all okC=true) (fun p=>p.2.length) ([],s) (by simp) (by simp) ?_
  rintro ⟨pre,post⟩ ⟨e,hp⟩ LQ hLQ
  simp only at e hp
  cases post with
  | nil =>
    simp only [List.append_nil] at e
    subst e
    have hnl:¬ ((s.length:Int) < (s.length:Int)):=by omega
    simp -implicitDefEqProofs [b_laws_FnAuthQuoted_1]
    exact t6 hp _
  | cons c post =>
    have hlen:s.length=pre.length+(post.length+1):=by rw [e]; simp
    have hlt:(pre.length:Int) < (s.length:Int):=by omega
    have hlt':pre.length < s.length:=by omega
    have g:s[pre.length]? = some c:=by rw [e]; exact get_mid rfl
    have g':s[pre.length]'hlt'=c:=by rw [List.getElem?_eq_getElem hlt'] at g; exact Option.some.inj g
    have ew:IntKind.i64.wrap ((pre.length:Int)+1)=(pre.length:Int)+1:=wrap64 (by omega) (by omega)
    have go:=fun h st=>hLQ (pre++[c],post) ⟨by rw [e]; simp,by rw [List.all_append,hp]; simpa using h⟩ (by simp) st
    clear t6
    by_cases c1:(c.toNat:Int) < 32
    · simp -implicitDefEqProofs [b_laws_FnAuthQuoted_1,hlt,hlt',g,g',c1,AR.cells]
    by_cases c2:127≤(c.toNat:Int)
    · simp -implicitDefEqProofs [b_laws_FnAuthQuoted_1,hlt,hlt',g,g',c1,c2,AR.cells]
    by_cases c3:c=92
    · have hx:(c.toNat:Int)=92:=by rw [c3]; rfl
      simp -implicitDefEqProofs [b_laws_FnAuthQuoted_1,hlt,hlt',g,g',hx,AR.cells]
    have hx:¬ (c.toNat:Int)=92:=ne_int (c:=92) c3
    have go2:=go (by simp only [okC]; rw [decide_eq_true (p:=32≤(c.toNat:Int)) (by omega),decide_eq_true (p:=(c.toNat:Int) < 127) (by omega)]; simp [c3])
    simp -implicitDefEqProofs [b_laws_FnAuthQuoted_1,hlt,hlt',g,g',c1,c2,hx,ew,AR.cells]
    exact go2 _ (by simp [AR.cells])
end
theorem only_ps {r:AR} (h:r.only.kind ≠ 0):r.only.ps=none:=by
  unfold AR.only at h ⊢
  repeat' split
  all_goals first | rfl | (rename_i h0; exfalso; apply h; simp [h0])
def con_FnAuthQuoted:List AV→Option AV
  | [.str i,.agg cs]=>match asAR cs with
    | some r=>if i.length < 9223372036854775808∧(r.ps.getD []).length < 9223372036854775808 then some (.bool true) else none
    | none=>none
  | _=>none
set_option maxRecDepth 100000 in
set_option maxHeartbeats 8000000 in
theorem ok_FnAuthQuoted (Γ:Gam) (h209:Γ.fn 209=con_zzFits2) (h208:Γ.fn 208=con_AOnly) (h204:Γ.fn 204=con_APlain) (h233:Γ.fn 233=con_AFormat) (h234:Γ.fn 234=con_ARead) (h249:Γ.fn 249=con_AAgree) (h137:Γ.fn 137=con_awake) (h201:Γ.fn 201=con_AProps) (h250:Γ.fn 250=con_AQuotes) (h99:Γ.fn 99=con_MailKeyword) (h112:Γ.fn 112=con_MailLower) (h203:Γ.fn 203=con_AValues) :
    ∀ args r,con_FnAuthQuoted args=some r→runs Γ c_laws_FnAuthQuoted args (fun v=>v=r):=by
  intro args r h
  simp only [con_FnAuthQuoted] at h
  split at h <;> (try simp at h; done)
  rename_i i cs
  split at h <;> (try simp at h; done)
  rename_i r hr
  obtain ⟨⟨h1,h2⟩,rfl⟩:=ite_some h
  rw [asAR_spec hr]
  clear h hr
  have cu:=slP_cells r.ps
  simp only [cells] at cu
  have k1:con_zzFits2 [.agg r.cells]=some (.bool (fit2 r)):=by simp only [con_zzFits2,asAR_cells]; exact if_pos h2
  have ko:con_AOnly [.agg r.cells]=some (.agg r.only.cells):=by simp only [con_AOnly,asAR_cells,Option.map]
  simp only [AR.cells] at k1 ko
  by_cases b1:(2147483647:Int) < (i.length:Int)
  · simp -implicitDefEqProofs [c_laws_FnAuthQuoted,AR.cells,cu,b1]
  cases b2:fit2 r with
  | false =>
    rw [b2] at k1
    simp -implicitDefEqProofs [c_laws_FnAuthQuoted,AR.cells,cu,b1,acall,h209,k1]
  | true =>
    rw [b2] at k1
    have hf:=fit2_only b2
    have kp:=plain_con (s:=i) (by simp only [mid]; omega)
    have hps:=only_ps (r:=r)
    generalize r.only=q at *
    have cq:=slP_cells q.ps
    simp only [cells] at cq
    have fin:(1≤q.kind∧q.kind≤7)→aPlain i=true→(q.kind=1→q.reason=[])→q.reason.length≤200→awp Γ (.loop [0,3,5,6] b_laws_FnAuthQuoted_1) (blockQ 0 (thenQ (awp Γ t_laws_FnAuthQuoted_6 (finQ [.t 4] fun v=>v=.bool true)) (finQ [.t 4] fun v=>v=.bool true))) ⟨[(0,.str i),(3,.ref 3 0),(5,.str q.reason),(6,.int .i64 0)],[(3,.cells q.cells)]⟩:=fun a b c d =>
      qt7 h233 h234 h249 h137 h201 h250 h99 h112 h203 hf d fun e f g=>⟨a,b,c,d,e,hps (by omega),g,hf,f⟩
    simp only [AR.cells] at fin
    by_cases c1:q.kind≤0
    · simp -implicitDefEqProofs [c_laws_FnAuthQuoted,AR.cells,cu,cq,b1,acall,h209,k1,h208,ko,c1]
    by_cases c2:(7:Int) < q.kind
    · simp -implicitDefEqProofs [c_laws_FnAuthQuoted,AR.cells,cu,cq,b1,acall,h209,k1,h208,ko,c1,c2]
    cases c3:aPlain i with
    | false =>
      rw [c3] at kp
      simp -implicitDefEqProofs [c_laws_FnAuthQuoted,AR.cells,cu,cq,b1,acall,h209,k1,h208,ko,c1,c2,h204,kp]
    | true =>
      rw [c3] at kp
      by_cases c4:q.kind=1∧q.reason ≠ []
      · simp -implicitDefEqProofs [c_laws_FnAuthQuoted,AR.cells,cu,cq,b1,acall,h209,k1,h208,ko,h204,kp,c4.1,c4.2]
      have c4':q.kind=1→q.reason=[]:=fun h=>Classical.byContradiction fun h3=>c4 ⟨h,h3⟩
      have fin2:=fin (by omega) c3 c4'
      by_cases c5:(200:Int) < (q.reason.length:Int)
      · by_cases c6:q.kind=1
        · rw [c4' c6] at c5; simp at c5
        · simp -implicitDefEqProofs [c_laws_FnAuthQuoted,AR.cells,cu,cq,b1,acall,h209,k1,h208,ko,c1,c2,h204,kp,c6,c5]
      · have fin3:=fin2 (by omega)
        by_cases c6:q.kind=1
        · have c7:=c4' c6
          rw [c6,c7] at fin3
          simp -implicitDefEqProofs [c_laws_FnAuthQuoted,AR.cells,cu,cq,b1,acall,h209,k1,h208,ko,h204,kp,c6,c7]
          exact fin3
        · simp -implicitDefEqProofs [c_laws_FnAuthQuoted,AR.cells,cu,cq,b1,acall,h209,k1,h208,ko,c1,c2,h204,kp,c6,c5]
          exact fin3
end Wax


namespace Wax
open Go Go.ChangeShapes Go.WideShapes Go.RowKit Go.Joins Go.Deep

section
variable {P:Program} {T:Tab} {w:World} {H:Type} {enc:TypeId × Value→H}

theorem open_ar {e pt:TypeId} {f0 f1:Field} {fs:Array Field} {base:Nat} {v:Value} {d:DataW H} {ps:List MemPlace} (K:Bulk H) (he:P.underlying e=some (.struct fs)) (ce:P.cellsOf e=16)
    (hfs:(fs.toList.map fun f=>(f.offset,P.cellsOf f.type,P.underlying f.type))=arFlds pt) (hp:P.underlying pt=some (.struct #[f0,f1]))
    (cp:P.cellsOf pt=2) (o0:f0.offset=0) (o1:f1.offset=1) (c0:P.cellsOf f0.type=1) (c1:P.cellsOf f1.type=1) (s0:P.underlying f0.type=some .string) (s1:P.underlying f1.type=some .string)
    (hval:Value.okWide P w .any base e v) (h:DataW.Trod enc P w 0 (fun _=>true) true e v d ps) :
    ∃ r:AR,Rep T w (fun k=>k < w.heap.size) noRho (.agg r.cells) v∧(r.ps.getD []).length < 9223372036854775808∧r.bulk+1≤K.B d:=by
  unfold Value.okWide at hval
  rw [he] at hval
  obtain ⟨cs,rfl,_⟩:=hval
  obtain ⟨fuel,hf⟩:=h
  obtain ⟨r,h1,h2,h3⟩:=trod_ar (T:=T) K he ce hfs hp cp o0 o1 c0 c1 s0 s1 hf
  refine ⟨r,⟨cs,rfl,?_⟩,h2,h3⟩
  simpa [Value.cells] using h1

end
end Wax


