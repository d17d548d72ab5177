/- The machine by which the functions are read, and what is proved of them (part 7): no premise. -/
import Derived.Laws.OwnMore
import Derived.Sort.Grow
import Derived.Sort.EncStr
import Derived.WideShapes
import Derived.SliceStrings
import Derived.OpenShut
import Derived.Lib.LaidTab
import Derived.Deep.SlicePairs
import Derived.ChangeArms
import Derived.Lib.SmallJoins
import Derived.Test.YtbalogmjickeaabGreatDoorWf
set_option linter.all false
namespace Wax
open Go (IntKind)

def prsA (l:List PR):List AV:=l.map PR.av
@[simp] theorem prsA_nil:prsA []=[]:=rfl
@[simp] theorem prsA_cons {x:PR} {l}:prsA (x::l)=x.av::prsA l:=rfl
@[simp] theorem prsA_app {l m}:prsA (l++m)=prsA l++prsA m:=by simp [prsA]
@[simp] theorem prsA_length {l}:(prsA l).length=l.length:=by simp [prsA]
@[simp] theorem pav_atom {x:PR}:atom x.av=true:=by cases x <;> rfl
@[simp] theorem pav_kill {d:Nat} {x:PR}:kill d x.av=x.av:=by cases x <;> rfl
@[simp] theorem pav_ref {x:PR}:hasRef x.av=false:=by cases x <;> rfl
@[simp] theorem pav_refs {x:PR}:refs x.av=[]:=by cases x <;> rfl
@[simp] theorem pav_snap {n:Nat} {hp:List (Nat × AObj)} {x:PR}:snap (n+1) hp x.av=x.av:=by cases x <;> rfl
@[simp] theorem pav_snapW {g:AV→AV} {x:PR}:snapW g x.av=x.av:=by cases x <;> rfl
@[simp] theorem pav_map {g:Nat→Nat} {x:PR}:mapId g x.av=x.av:=by cases x <;> rfl
@[simp] theorem pav_nil {x:PR}:isNilA 0 x.av=some false:=by cases x <;> rfl
theorem pav_cells {x:PR}:cells x.av=[x.av]:=by cases x <;> rfl
@[simp] theorem atoms_prsA {l:List PR}:atoms (prsA l)=true:=by induction l <;> simp_all
@[simp] theorem killL_prsA {d:Nat} {l:List PR}:killL d (prsA l)=prsA l:=by induction l <;> simp_all
@[simp] theorem map_snap_prsA {n:Nat} {hp:List (Nat × AObj)} {l:List PR}:(prsA l).map (snap (n+1) hp)=prsA l:=by induction l <;> simp_all
@[simp] theorem hasRefL_prsA {l:List PR}:hasRefL (prsA l)=false:=by induction l <;> simp_all
@[simp] theorem refsL_prsA {l:List PR}:refsL (prsA l)=[]:=by induction l <;> simp_all
@[simp] theorem snapWL_prsA {g:AV→AV} {l:List PR}:snapWL g (prsA l)=prsA l:=by induction l <;> simp_all
@[simp] theorem prsA_get {l:List PR} {i:Nat}:(prsA l)[i]? = l[i]?.map PR.av:=by simp [prsA]
theorem prsA_take {l:List PR} {i:Nat}:(prsA l).take i=prsA (l.take i):=by simp [prsA,List.map_take]

def arVer:L8:=[109,115,103,97,117,116,104,58,32,117,110,115,117,112,112,111,114,116,101,100,32,118,101,114,115,105,111,110]
def adId (p:L8):Option L8:=match wsAt (trimS p) 0 with
  | none=>some (trimS p)
  | some n=>if n=0 then some (trimS p) else if trimS ((trimS p).drop n)=[49] then some ((trimS p).take n) else none
def adGo:List L8→List PR→List PR × Option L8
  | [],acc=>(acc,none)
  | p::r,acc=>if trimS p=[] then adGo r acc else match resAOf (trimS p) with
    | .inl e=>(acc,some e)
    | .inr none=>adGo r acc
    | .inr (some x)=>adGo r (acc++[x])
def prsV (l:List PR):AV:=match l with | []=>.nilS | _=>.sl 1 (prsA l)
def errA:Option L8→AV
  | none=>.nilI
  | some e=>.ifc 3 (.ptr [.str e])
def adP (s:L8):AV:=match splitB 59 s with
  | []=>.junk
  | p::r=>match adId p with
    | none=>.tup [.str [],.nilS,.ifc 3 (.ptr [.str arVer])]
    | some i=>.tup [.str i,prsV (adGo r []).1,errA (adGo r []).2]
def con_adParse:List AV→Option AV
  | [.str s]=>if s.length < half∧plain s=true then some (adP s) else none
  | _=>none

theorem wsAt_lt:∀ {s:L8} {k n:Nat},wsAt s k=some n→k≤n∧n < k+s.length
  | [],k,n,h=>by simp [wsAt] at h
  | x::r,k,n,h=>by
    simp only [wsAt] at h
    split at h
    · simp at h; subst h; simp
    · have:=wsAt_lt h; simp; omega

set_option maxHeartbeats 1000000 in
theorem ok_adParse (Γ:Gam) (s162:Γ.st 162=con_zzSplit) (h163:Γ.fn 163=con_zzTrimSpace) (h164:Γ.fn 164=con_IndexFunc) (h50:Γ.fn 50=con_errorsNew) (h166:Γ.fn 166=con_parseResult) :
    ∀ args r,con_adParse args=some r→runs Γ c_authres_Parse args (fun v=>v=r):=by
  intro args r h
  simp only [con_adParse] at h
  split at h <;> (try simp at h; done)
  rename_i s
  obtain ⟨⟨hs,hp⟩,rfl⟩:=ite_some h
  clear h
  simp only [half] at hs
  have hsp:con_zzSplit [.str s,.str [59]] []=some (.msl 0 1 0 (splitB 59 s).length,[(0,.cells (strsA (splitB 59 s)))]):=if_pos (by simp only [mid]; omega)
  have hl:=splitB_length 59 s
  have hml:=splitB_mem_length 59 s
  have hmp:=fun p=>splitB_plain 59 s p hp
  have hne:=splitB_ne 59 s
  simp only [adP]
  generalize splitB 59 s=L at *
  cases L with
  | nil=>exact absurd rfl hne
  | cons p0 L =>
    clear hne
    have kt:∀ p:L8,p.length < 549755813888→plain p=true→con_zzTrimSpace [.str p]=some (.str (trimS p)):=fun p h1 h2=>if_pos ⟨by simp only [mid]; omega,h2⟩
    have hp0:=hml p0 (by simp)
    have pp0:=hmp p0 (by simp)
    have k0:=kt p0 (by omega) pp0
    have ti:=trimS_length p0
    have pi:=trimS_plain pp0
    have ki:con_IndexFunc [.str (trimS p0),.fn 165 []]=some (.int .i64 (wsV (trimS p0))):=if_pos ⟨by simp only [mid]; omega,pi⟩
    simp only [List.length_cons] at hl
    have main:∀ (i:L8),awp Γ (.loop [2,3,4,5,8] b_authres_Parse_1) (blockQ 0 (thenQ (awp Γ .ret (finQ [.t 2,.t 3,.t 4] fun v=>v=.tup [.str i,prsV (adGo L []).1,errA (adGo L []).2])) (finQ [.t 2,.t 3,.t 4] fun v=>v=.tup [.str i,prsV (adGo L []).1,errA (adGo L []).2])))
        ⟨[(2,.str i),(3,.nilS),(4,.nilI),(5,.msl 13 1 0 (L.length+1)),(8,.int .i64 1)],[(13,.cells (.str p0::strsA L))]⟩:=by
      intro i
      refine awp_loop2 (σ:=List L8 × List L8 × List PR) (fun q=>⟨[(2,.str i),(3,grV 60 1 q.2.2.length),(4,.nilI),(5,.msl 13 1 0 (L.length+1)),(8,.int .i64 ((q.1.length:Int)+1))],grH 60 q.2.2.length (prsA q.2.2)++[(13,.cells (.str p0::strsA L))]⟩)
        (fun q=>L=q.1++q.2.1∧adGo L []=adGo q.2.1 q.2.2∧q.2.2.length≤q.1.length) (fun q=>q.2.1.length) ([],L,[]) (by simp) (by simp) ?_
      rintro ⟨pre,post,acc⟩ ⟨e1,e2,e3⟩ LQ hLQ
      simp only at e1 e2 e3
      cases post with
      | nil =>
        simp only [List.append_nil] at e1
        rw [e2]
        simp only [adGo]
        rw [← e1] at e3
        cases acc with
        | nil=>simp -implicitDefEqProofs [b_authres_Parse_1,← e1,prsV,errA]
        | cons x acc=>simp -implicitDefEqProofs [b_authres_Parse_1,← e1,prsV,errA,prsA_take]
      | cons u post =>
        have hlen:L.length=pre.length+(post.length+1):=by rw [e1]; simp
        have hlt:(pre.length:Int)+1 < (L.length:Int)+1:=by omega
        have hlt2:pre.length < L.length:=by omega
        have hle:(0:Int)≤(pre.length:Int)+1:=by omega
        have et:((pre.length:Int)+1).toNat=pre.length+1:=by omega
        have g:L[pre.length]? = some u:=by rw [e1]; exact get_mid rfl
        have ew:IntKind.i64.wrap ((pre.length:Int)+1+1)=(pre.length:Int)+1+1:=wrap64 (by omega) (by omega)
        have hul:=hml u (by rw [e1]; simp)
        have hup:=hmp u (by rw [e1]; simp)
        have ku:=kt u (by omega) hup
        have tu:=trimS_length u
        have pu:=trimS_plain hup
        have hdr:L.drop pre.length=u::post:=by rw [e1]; simp
        by_cases hz:trimS u=[]
        · rw [hz] at ku
          have f:=fun st h=>hLQ (pre++[u],post,acc) ⟨by rw [e1]; simp,by rw [e2]; simp only [adGo,if_pos hz],by simp; omega⟩ (by simp) st h
          cases acc with
          | nil =>
            simp -implicitDefEqProofs [b_authres_Parse_1,hlt,hlt2,et,g,hdr,hle,acall,h163,ku,ew]
            exact f _ (by simp)
          | cons x acc =>
            simp -implicitDefEqProofs [b_authres_Parse_1,hlt,hlt2,et,g,hdr,hle,acall,h163,ku,ew]
            exact f _ (by simp)
        · have kr:con_parseResult [.str (trimS u)]=some (resAV (trimS u)):=if_pos ⟨by simp only [half]; omega,pu⟩
          simp only [resAV] at kr
          have e2':adGo L []=match resAOf (trimS u) with | .inl e=>(acc,some e) | .inr none=>adGo post acc | .inr (some x)=>adGo post (acc++[x]):=by
            rw [e2]; simp only [adGo,if_neg hz]
          cases hr:resAOf (trimS u) with
          | inl e =>
            rw [hr] at kr e2'
            simp only at kr e2'
            rw [e2']
            have hre:hasRef (resAE (trimS u))=false:=by
              simp only [resAE]
              split
              · rfl
              · split
                · rfl
                · split <;> rfl
            cases acc with
            | nil=>simp -implicitDefEqProofs [b_authres_Parse_1,hlt,hlt2,et,g,hdr,hle,acall,h163,ku,ew,hz,h166,kr,hre,prsV,errA]
            | cons x acc =>
              simp -implicitDefEqProofs [b_authres_Parse_1,hlt,hlt2,et,g,hdr,hle,acall,h163,ku,ew,hz,h166,kr,hre,prsV,errA,prsA_take]
          | inr o =>
            rw [hr] at kr e2'
            cases o with
            | none =>
              simp only at kr e2'
              have f:=fun st h=>hLQ (pre++[u],post,acc) ⟨by rw [e1]; simp,e2',by simp; omega⟩ (by simp) st h
              cases acc with
              | nil =>
                simp -implicitDefEqProofs [b_authres_Parse_1,hlt,hlt2,et,g,hdr,hle,acall,h163,ku,ew,hz,h166,kr]
                exact f _ (by simp)
              | cons x acc =>
                simp -implicitDefEqProofs [b_authres_Parse_1,hlt,hlt2,et,g,hdr,hle,acall,h163,ku,ew,hz,h166,kr]
                exact f _ (by simp)
            | some z =>
              simp only at kr e2'
              have f:=fun st h=>hLQ (pre++[u],post,acc++[z]) ⟨by rw [e1]; simp,e2',by simp; omega⟩ (by simp) st h
              have cz:=pav_cells (x:=z)
              simp only [cells] at cz
              have cn:=pav_nil (x:=z)
              simp only [isNilA] at cn
              cases acc with
              | nil =>
                simp -implicitDefEqProofs [b_authres_Parse_1,hlt,hlt2,et,g,hdr,hle,acall,h163,ku,ew,hz,h166,kr,cz,cn]
                exact f _ (by simp)
              | cons x acc =>
                simp at e3
                simp -implicitDefEqProofs [b_authres_Parse_1,hlt,hlt2,et,g,hdr,hle,acall,h163,ku,ew,hz,h166,kr,cz,cn]
                exact ⟨by omega,f _ (by simp [prsA_take])⟩
    have hnn:∀ n,wsAt (trimS p0) 0=some n→n < 0+(trimS p0).length:=fun n h=>(wsAt_lt h).2
    cases hw:wsAt (trimS p0) 0 with
    | none =>
      have hwv:wsV (trimS p0) = -1:=by simp only [wsV,hw]
      rw [hwv] at ki
      have hi:adId p0=some (trimS p0):=by simp only [adId,hw]
      simp only [hi]
      simp -implicitDefEqProofs [c_authres_Parse,acallS,s162,hsp,acall,h163,k0,h164,ki]
      exact main _
    | some n =>
      have hwv:wsV (trimS p0)=(n:Int):=by simp only [wsV,hw]
      rw [hwv] at ki
      by_cases hn0:n=0
      · subst hn0
        have hi:adId p0=some (trimS p0):=by simp only [adId,hw,if_true]
        simp only [hi]
        simp -implicitDefEqProofs [c_authres_Parse,acallS,s162,hsp,acall,h163,k0,h164,ki]
        exact main _
      · have hnp:0 < n:=by omega
        have hnl:n≤(trimS p0).length:=by have:=hnn n hw; omega
        have hdl:((trimS p0).drop n).length < 549755813888:=by simp; omega
        have kd:=kt ((trimS p0).drop n) hdl (plain_sub (fun y hy=>List.mem_of_mem_drop hy) pi)
        by_cases h1:trimS ((trimS p0).drop n)=[49]
        · have hi:adId p0=some ((trimS p0).take n):=by simp only [adId,hw,if_neg hn0,if_pos h1]
          rw [h1] at kd
          simp only [hi]
          simp -implicitDefEqProofs [c_authres_Parse,acallS,s162,hsp,acall,h163,k0,h164,ki,hnp,hnl,kd]
          exact main _
        · have hi:adId p0=none:=by simp only [adId,hw,if_neg hn0,if_neg h1]
          simp only [hi]
          simp -implicitDefEqProofs [c_authres_Parse,acallS,s162,hsp,acall,h163,k0,h164,ki,hnp,hnl,kd,h1,h50,con_errorsNew,arVer]
end Wax


namespace Wax
open Go (IntKind)

def qtr:Nat:=68719476736
def adText (s:L8):Option (L8 × List PR):=match splitB 59 s with
  | []=>none
  | p::r=>match adId p with
    | none=>none
    | some i=>match adGo r [] with
      | (l,none)=>some (i,l)
      | (_,some _)=>none
def arV (l:List AR):AV:=match l with | []=>.nilS | _=>.sl 16 (arA l)
def adV:Option (L8 × List PR)→AV
  | some p=>.tup [.str p.1,arV (p.2.map PR.ar),.bool true]
  | none=>.tup [.str [],.nilS,.bool false]
def con_AParse:List AV→Option AV
  | [.str s]=>if s.length < qtr∧plain s=true then some (adV (adText s)) else none
  | _=>none

def PR.kOk:PR→Prop
  | .gen _ _ l=>l.length < half∧∀ q∈l,q.1.length < half
  | _=>True
theorem resAOf_ok {t:L8} {x:PR} (ht:t.length < half) (h:resAOf t=.inr (some x)):x.kOk:=by
  simp only [resAOf] at h
  obtain ⟨b1,b2⟩:=wordsOf_bnd t
  cases hw:wordsOf t with
  | nil=>rw [hw] at h; simp at h
  | cons w r =>
    rw [hw] at h b1 b2
    simp only at h
    split at h
    · simp at h
    · cases hk:kvOf w with
      | none=>rw [hk] at h; simp at h
      | some p =>
        rw [hk] at h
        simp only at h
        obtain ⟨c1,c2⟩:=prmsOf_bnd t.length r [] (fun u hu=>(b2 u (by simp [hu])).2.1) (by simp)
        have hb:(prmsOf r []).length < half∧∀ q∈prmsOf r [],q.1.length < half:=⟨by simp at c1 b1; omega,fun q hq=>by have:=(c2 q hq).1; omega⟩
        generalize prmsOf r []=F at *
        cases hp:prOf p.1 (lowS p.2) F with
        | inl e=>rw [hp] at h; simp at h
        | inr y =>
          rw [hp] at h
          simp only [Sum.inr.injEq,Option.some.injEq] at h
          subst h
          simp only [prOf] at hp
          repeat' split at hp
          all_goals first | (simp at hp; done) | (simp only [Sum.inr.injEq] at hp; subst hp; first | trivial | exact hb)
theorem adGo_ok:∀ (L:List L8) (acc:List PR),(∀ p∈L,p.length < half)→(∀ x∈acc,x.kOk)→(adGo L acc).1.length≤acc.length+L.length∧∀ x∈(adGo L acc).1,x.kOk
  | [],acc,_,h=>⟨by simp [adGo],h⟩
  | p::r,acc,hL,h=>by
    have hr:∀ p∈r,p.length < half:=fun q hq=>hL q (by simp [hq])
    have hp:=hL p (by simp)
    have tp:=trimS_length p
    simp only [adGo]
    split
    · obtain ⟨a,b⟩:=adGo_ok r acc hr h
      exact ⟨by simp; omega,b⟩
    · cases hq:resAOf (trimS p) with
      | inl e=>exact ⟨by simp,h⟩
      | inr o =>
        cases o with
        | none =>
          obtain ⟨a,b⟩:=adGo_ok r acc hr h
          exact ⟨by simp; omega,b⟩
        | some x =>
          obtain ⟨a,b⟩:=adGo_ok r (acc++[x]) hr (fun y hy=>by
            rcases List.mem_append.1 hy with hy | hy
            · exact h y hy
            · rw [List.mem_singleton.1 hy]; exact resAOf_ok (by omega) hq)
          exact ⟨by simp at a ⊢; omega,b⟩

theorem con_resultOf_ok {x:PR} (h:x.kOk):con_resultOf [x.av]=some (.agg x.ar.cells):=by
  simp only [con_resultOf,asPR_av]
  cases x <;> first | rfl | exact if_pos h

theorem splice_ar (r:AR):spliceL [.int .i64 0,.str [],.str [],.str [],.str [],.str [],.str [],.str [],.str [],.str [],.str [],.str [],.str [],.str [],.int .i64 0,.nilS] 0 r.cells=r.cells:=rfl
theorem take_ar (r:AR):List.take 16 r.cells=r.cells:=rfl
set_option maxHeartbeats 1000000 in
theorem ok_AParse (Γ:Gam) (h156:Γ.fn 156=con_adParse) (h157:Γ.fn 157=con_resultOf):∀ args r,con_AParse args=some r→runs Γ c_impl_AParse args (fun v=>v=r):=by
  intro args r h
  simp only [con_AParse] at h
  split at h <;> (try simp at h; done)
  rename_i s
  obtain ⟨⟨hs,hp⟩,rfl⟩:=ite_some h
  clear h
  simp only [qtr] at hs
  have k156:con_adParse [.str s]=some (adP s):=if_pos ⟨by simp only [half]; omega,hp⟩
  have hl:=splitB_length 59 s
  have hml:=splitB_mem_length 59 s
  have hne:=splitB_ne 59 s
  simp only [adP] at k156
  simp only [adText]
  generalize splitB 59 s=L at *
  cases L with
  | nil=>exact absurd rfl hne
  | cons p0 L =>
    simp only at k156 ⊢
    cases hi:adId p0 with
    | none =>
      rw [hi] at k156
      simp only at k156
      simp -implicitDefEqProofs [c_impl_AParse,acall,h156,k156,adV]
    | some i =>
      rw [hi] at k156
      simp only at k156 ⊢
      obtain ⟨b1,b2⟩:=adGo_ok L [] (fun p hp=>by have:=hml p (by simp [hp]); simp only [half]; omega) (by simp)
      simp at hl b1
      generalize adGo L []=q at *
      obtain ⟨l,e⟩:=q
      have hr:hasRef (prsV l)=false:=by cases l <;> simp [prsV]
      cases e with
      | some m=>simp -implicitDefEqProofs [c_impl_AParse,acall,h156,k156,adV,errA,hr]
      | none =>
        simp only at b1 b2
        simp only [errA] at k156
        cases l with
        | nil =>
          simp only [prsV] at k156
          simp -implicitDefEqProofs [c_impl_AParse,acall,h156,k156,adV]
          refine awp_loop2 (σ:=Unit) (fun _=>⟨[(5,.str i),(8,.nilS),(19,.nilS),(20,.int .i64 0),(21,.int .i64 0)],[]⟩) (fun _=>True) (fun _=>0) () (by simp) trivial ?_
          intro _ _ LQ hLQ
          simp -implicitDefEqProofs [b_impl_AParse_1,t_impl_AParse_2,arV]
        | cons x0 l0 =>
          simp only [prsV] at k156
          generalize hl0:x0::l0=l at *
          have hln:l ≠ []:=by rw [← hl0]; simp
          clear hl0 x0 l0
          simp -implicitDefEqProofs [c_impl_AParse,acall,h156,k156,adV]
          refine awp_loop2 (σ:=List PR × List PR) (fun q=>⟨[(5,.str i),(8,grV 29 16 q.1.length),(19,.sl 1 (prsA l)),(20,.int .i64 l.length),(21,.int .i64 q.1.length)],grH 29 q.1.length (arC (q.1.map PR.ar))⟩)
            (fun q=>l=q.1++q.2) (fun q=>q.2.length) ([],l) (by simp) (by simp) ?_
          rintro ⟨pre,post⟩ e1 LQ hLQ
          simp only at e1
          cases post with
          | nil =>
            simp only [List.append_nil] at e1
            subst e1
            cases l with
            | nil=>exact absurd rfl hln
            | cons x l =>
              have hg:=group_arC (l:=(x::l).map PR.ar)
              simp only [List.length_map,List.length_cons,List.map_cons,arC_cons] at hg
              simp -implicitDefEqProofs [b_impl_AParse_1,t_impl_AParse_2,arV,hg]
              omega
          | cons x post =>
            have hlen:l.length=pre.length+(post.length+1):=by rw [e1]; simp
            have hlt:(pre.length:Int) < (l.length:Int):=by omega
            have g:l[pre.length]? = some x:=by rw [e1]; exact get_mid rfl
            have ew:IntKind.i64.wrap ((pre.length:Int)+1)=(pre.length:Int)+1:=wrap64 (by omega) (by omega)
            have kx:=con_resultOf_ok (b2 x (by rw [e1]; simp))
            have cx:=pav_cells (x:=x)
            simp only [cells] at cx
            have f:∀ st,norm [5,8,19,20,21] st=⟨[(5,.str i),(8,.msl 29 16 0 (pre.length+1)),(19,.sl 1 (prsA l)),(20,.int .i64 l.length),(21,.int .i64 ((pre.length:Int)+1))],[(29,.cells (arC (pre.map PR.ar)++x.ar.cells))]⟩→LQ st:=by
              intro st hst
              exact hLQ (pre++[x],post) (by rw [e1]; simp) (by simp) st (by rw [hst]; simp)
            cases pre with
            | nil =>
              simp only [List.nil_append] at e1
              subst e1
              have ew0:IntKind.i64.wrap 1=1:=rfl
              have hl0:(0:Int) < (post.length:Int)+1:=by omega
              simp -implicitDefEqProofs [b_impl_AParse_1,ew0,hl0,acall,h157,kx,cx,splice_ar,take_ar]
              exact f _ (by simp)
            | cons y pre =>
              have hln2:l.length=pre.length+1+(post.length+1):=hlen
              have hlt1:(pre.length:Int)+1 < (l.length:Int):=by omega
              have g1:l[pre.length+1]? = some x:=g
              have ew1:IntKind.i64.wrap ((pre.length:Int)+1+1)=(pre.length:Int)+1+1:=wrap64 (by omega) (by omega)
              have et:((pre.length:Int)+1).toNat=pre.length+1:=by omega
              have hle:(0:Int)≤(pre.length:Int)+1:=by omega
              have tk:List.take ((pre.length+1) * 16) (y.ar.cells++arC (pre.map PR.ar))=y.ar.cells++arC (pre.map PR.ar):=List.take_of_length_le (by simp; omega)
              simp -implicitDefEqProofs [b_impl_AParse_1,hlt1,g1,ew1,et,hle,acall,h157,kx,cx,tk,splice_ar,take_ar]
              exact ⟨⟨by omega,by omega⟩,f _ (by simp)⟩
end Wax


namespace Wax
open Go (IntKind)

def fits14 (a b:L8):Bool:=decide (a.length≤2147483647) && decide (b.length≤2147483647)
def fits13 (l:List KVp):Bool:=decide (l.length≤2147483647) && l.all fun t=>fits14 t.1 t.2
end Wax


namespace Wax
open Go (IntKind)

@[simp] theorem mrc_refs (r:MR):refsL r.cells=[]:=by simp [MR.cells]
@[simp] theorem mrc_map (r:MR) (g:Nat→Nat):mapIdL g r.cells=r.cells:=by simp [MR.cells]
@[simp] theorem mrc_kill (r:MR) (d:Nat):killL d r.cells=r.cells:=by simp [MR.cells]
@[simp] theorem mrc_snapW (r:MR) (g:AV→AV):snapWL g r.cells=r.cells:=by simp [MR.cells]
@[simp] theorem mrc_len (r:MR):r.cells.length=11:=rfl

end Wax


namespace Wax
open Go (IntKind)

def spAt (fm:L8) (k:Nat):L8:=if fm=[] then [] else mSpace (fm.getD (k % fm.length) 0).toNat
theorem mSpace_len (n:Nat):(mSpace n).length≤2:=by
  have h:n % 6 < 6:=Nat.mod_lt _ (by omega)
  simp only [mSpace]
  generalize n % 6=q at *
  match q,h with
  | 0,_=>simp
  | 1,_=>simp
  | 2,_=>simp
  | 3,_=>simp
  | 4,_=>simp
  | 5,_=>simp
theorem spAt_len (fm:L8) (k:Nat):(spAt fm k).length≤2:=by
  unfold spAt
  split
  · simp
  · exact mSpace_len _

def oneT (fm:L8) (k:Nat) (t:KVp):L8:=spAt fm (k+1)++59::(spAt fm (k+2)++t.1++spAt fm (k+3)++61::(spAt fm (k+4)++t.2))
def tagsT (fm:L8):Nat→List KVp→L8
  | _,[]=>[]
  | k,t::r=>oneT fm k t++tagsT fm (k+4) r
def headT (fm:L8):L8:=118::(spAt fm 1++61::(spAt fm 2++sDM))
def mText (fm:L8) (l:List KVp) (e:Bool):L8:=headT fm++tagsT fm 2 l++(if e then spAt fm (2+4 * l.length+1)++[59] else [])

theorem oneT_len {fm:L8} {k:Nat} {t:KVp} (h1:t.1.length≤20) (h2:t.2.length≤200):(oneT fm k t).length≤230:=by
  have a:=spAt_len fm (k+1)
  have b:=spAt_len fm (k+2)
  have c:=spAt_len fm (k+3)
  have d:=spAt_len fm (k+4)
  simp [oneT]; omega
theorem tagsT_len {fm:L8}:∀ {l:List KVp} {k:Nat},(∀ t∈l,t.1.length≤20∧t.2.length≤200)→(tagsT fm k l).length≤230 * l.length
  | [],_,_=>by simp [tagsT]
  | t::l,k,h=>by
    have h1:=h t (by simp)
    have:=tagsT_len (fm:=fm) (l:=l) (k:=k+4) (fun t ht=>h t (by simp [ht]))
    have o:=oneT_len (fm:=fm) (k:=k) h1.1 h1.2
    simp only [tagsT,List.length_append,List.length_cons]; omega
theorem headT_len (fm:L8):(headT fm).length≤12:=by
  have a:=spAt_len fm 1
  have b:=spAt_len fm 2
  simp [headT,sDM]; omega

end Wax


namespace Wax
open Go (IntKind)

def asDR:List AV→Option DR
  | [.str dk,.str sp,.int .i64 fo,.str p,pct,rf,.int .i64 ri,rua,ruf,.str sub]=>match (match pct with | .nilP=>some none | .ptr [.int .i64 n]=>some (some n) | _=>none:Option (Option Int)),asO rf,asO rua,asO ruf with
    | some pct,some rf,some rua,some ruf=>some ⟨dk,sp,fo,p,pct,rf,ri,rua,ruf,sub⟩
    | _,_,_,_=>none
  | _=>none
theorem asDR_cells (r:DR):asDR r.cells=some r:=by
  obtain ⟨dk,sp,fo,p,pct,rf,ri,rua,ruf,sub⟩:=r
  cases pct <;> simp [DR.cells,asDR,asO_slO]
theorem asDR_spec {cs:List AV} {r:DR} (h:asDR cs=some r):cs=r.cells:=by
  unfold asDR at h
  split at h
  · split at h
    · rename_i h0 h1 h2 h3
      simp at h; subst h
      rw [asO_spec h1,asO_spec h2,asO_spec h3]
      split at h0
      · simp at h0; subst h0; rfl
      · simp at h0; subst h0; rfl
      · simp at h0
    · simp at h
  · simp at h

def con_recordOf:List AV→Option AV
  | [.ptr c]=>match asDR c with
    | some r=>if (r.rf.getD []).length≤mid then some (.agg (recM r).cells) else none
    | none=>none
  | _=>none
theorem rec_con {r:DR} (h:(r.rf.getD []).length≤mid):con_recordOf [.ptr r.cells]=some (.agg (recM r).cells):=by
  simp only [con_recordOf,asDR_cells]
  exact if_pos h

theorem slO_alen (hp:List (Nat × AObj)) (x:Option (List L8)):alen hp 1 (slO x)=some (x.getD []).length:=by cases x <;> simp [slO]
def slN (l:List L8):AV:=if l=[] then .nilS else .sl 1 (strsA l)
@[simp] theorem slN_atom (x:List L8):atom (slN x)=true:=by unfold slN; split <;> rfl
@[simp] theorem slN_ref (x:List L8):hasRef (slN x)=false:=by unfold slN; split <;> rfl
@[simp] theorem slN_refs (x:List L8):refs (slN x)=[]:=by unfold slN; split <;> rfl
@[simp] theorem slN_kill (x:List L8) (d:Nat):kill d (slN x)=slN x:=by unfold slN; split <;> rfl
@[simp] theorem slN_snapW (x:List L8) (g:AV→AV):snapW g (slN x)=slN x:=by unfold slN; split <;> rfl
@[simp] theorem slN_cells (x:List L8):cells (slN x)=[slN x]:=by unfold slN; split <;> rfl

def slM (l:List L8):AV:=if l=[] then .nilS else .msl 66 1 0 l.length
def hpM (l:List L8) (h:List (Nat × AObj)):List (Nat × AObj):=if l=[] then h else (66,.cells (strsA l))::h
theorem ro_loop {Γ:Gam} (dk sp:L8) (fo:Int) (p:L8) (P:Int) (hs:Bool) (rf:Option (List L8)) (ri:Int) (rua ruf:Option (List L8)) (sub:L8) (L:List L8) (hL:rf.getD []=L) (hl:L.length≤1099511627776) :
    awp Γ (SCode.loop [2,3,56,57,58] b_impl_recordOf_1) (blockQ 0 (thenQ (awp Γ t_impl_recordOf_2 (finQ [RV.c (some 11) 2] fun v=>v=.agg (MR.cells ⟨dk,sp,fo,p,P,hs,if L=[] then none else rf,ri,rua,ruf,sub⟩)))
      (finQ [RV.c (some 11) 2] fun v=>v=.agg (MR.cells ⟨dk,sp,fo,p,P,hs,if L=[] then none else rf,ri,rua,ruf,sub⟩))))
    ⟨[(2,AV.ref 2 0),(3,AV.ref 3 0),(56,slO rf),(57,AV.int IntKind.i64 L.length),(58,AV.int IntKind.i64 0)],
      [(3,AObj.cells [AV.str dk,AV.str sp,AV.int IntKind.i64 fo,AV.str p,AV.int IntKind.i64 P,AV.bool hs,AV.nilS,AV.int IntKind.i64 ri,slO rua,slO ruf,AV.str sub]),
       (2,AObj.cells [AV.str [],AV.str [],AV.int IntKind.i64 0,AV.str [],AV.int IntKind.i64 0,AV.bool false,AV.nilS,AV.int IntKind.i64 0,AV.nilS,AV.nilS,AV.str []])]⟩:=by
  have cu:=slO_cells rua
  have cf:=slO_cells ruf
  have cn:=slO_cells (if L=[] then none else rf)
  simp only [cells] at cu cf cn
  refine awp_loop2 (σ:=List L8 × List L8) (fun q=>⟨[(2,AV.ref 2 0),(3,AV.ref 3 0),(56,slO rf),(57,AV.int IntKind.i64 L.length),(58,AV.int IntKind.i64 q.1.length)],
      hpM q.1 [(3,AObj.cells [AV.str dk,AV.str sp,AV.int IntKind.i64 fo,AV.str p,AV.int IntKind.i64 P,AV.bool hs,slM q.1,AV.int IntKind.i64 ri,slO rua,slO ruf,AV.str sub]),
       (2,AObj.cells [AV.str [],AV.str [],AV.int IntKind.i64 0,AV.str [],AV.int IntKind.i64 0,AV.bool false,AV.nilS,AV.int IntKind.i64 0,AV.nilS,AV.nilS,AV.str []])]⟩)
    (fun q=>L=q.1++q.2) (fun q=>q.2.length) ([],L) ?_ (by simp) ?_
  · simp [slM,hpM]
  rintro ⟨pre,post⟩ e1 LQ hLQ
  simp only at e1
  have hlen:L.length=pre.length+post.length:=by rw [e1]; simp
  cases post with
  | nil =>
    simp only [List.append_nil] at e1
    subst e1
    by_cases hp:L=[]
    · subst hp
      have hs':slM []=.nilS:=rfl
      have hh:∀ h,hpM [] h=h:=fun h=>rfl
      simp -implicitDefEqProofs [b_impl_recordOf_1,t_impl_recordOf_2,hs',hh,cu,cf,MR.cells]
    · have hs':slM L=.msl 66 1 0 L.length:=by simp [slM,hp]
      have hh:∀ h,hpM L h=(66,.cells (strsA L))::h:=fun h=>by simp [hpM,hp]
      obtain rfl:rf=some L:=by
        cases rf with
        | none=>simp at hL; exact absurd hL hp
        | some l=>simp at hL; rw [hL]
      simp -implicitDefEqProofs [b_impl_recordOf_1,t_impl_recordOf_2,hs',hh,cu,cf,hp,MR.cells]
  | cons x post =>
    obtain rfl:rf=some L:=by
      cases rf with
      | none=>simp at hL; rw [hL] at e1; simp at e1
      | some l=>simp at hL; rw [hL]
    have hlen':L.length=pre.length+(post.length+1):=by rw [e1]; simp
    have hlt:(pre.length:Int) < (L.length:Int):=by omega
    have g:L[pre.length]? = some x:=by rw [e1]; exact get_mid rfl
    have ew:IntKind.i64.wrap ((pre.length:Int)+1)=(pre.length:Int)+1:=wrap64 (by omega) (by omega)
    have fin:=fun st=>hLQ (pre++[x],post) (by rw [e1]; simp) (by simp) st
    have hs2:slM (pre++[x])=.msl 66 1 0 (pre.length+1):=by simp [slM]
    have hh2:∀ h,hpM (pre++[x]) h=(66,.cells (strsA pre++[.str x]))::h:=fun h=>by simp [hpM]
    simp only [hs2,hh2] at fin
    by_cases hp:pre=[]
    · subst hp
      simp at g
      have h0:0 < L.length:=by simp at hlen; omega
      have ew1:IntKind.i64.wrap 1=1:=rfl
      have g0:L[0]=x:=by rw [List.getElem?_eq_getElem h0] at g; injection g
      have hs':slM []=.nilS:=rfl
      have hh:∀ h,hpM [] h=h:=fun h=>rfl
      simp -implicitDefEqProofs [b_impl_recordOf_1,h0,g0,hs',hh,ew1]
      refine fin _ ?_
      simp
    · have hs':slM pre=.msl 66 1 0 pre.length:=by simp [slM,hp]
      have hh:∀ h,hpM pre h=(66,.cells (strsA pre))::h:=fun h=>by simp [hpM,hp]
      simp -implicitDefEqProofs [b_impl_recordOf_1,hlt,g,hs',hh,ew]
      refine ⟨by omega,?_⟩
      refine fin _ ?_
      simp

set_option maxHeartbeats 1000000 in
theorem ok_recordOf (Γ:Gam):∀ args r,con_recordOf args=some r→runs Γ c_impl_recordOf args (fun v=>v=r):=by
  intro args q h
  simp only [con_recordOf] at h
  split at h <;> (try simp at h; done)
  rename_i c
  split at h <;> (try simp at h; done)
  rename_i r hr
  obtain ⟨hl,rfl⟩:=ite_some h
  clear h
  rw [asDR_spec hr]
  clear hr
  obtain ⟨dk,sp,fo,p,pct,rf,ri,rua,ruf,sub⟩:=r
  simp only at hl
  have hl':=hl
  simp only [mid] at hl'
  generalize hL:rf.getD []=L at *
  have hal:∀ hp,alen hp 1 (slO rf)=some L.length:=fun hp=>by rw [slO_alen,hL]
  have hrec:recM ⟨dk,sp,fo,p,pct,rf,ri,rua,ruf,sub⟩=⟨dk,sp,fo,p,pct.getD 0,pct.isSome,if L=[] then none else rf,IntKind.i64.wrap (ri * 1000000000),rua,ruf,sub⟩:=by simp [recM,hL]
  have cu:=slO_cells rua
  have cf:=slO_cells ruf
  have cn:=fun l=>slN_cells l
  simp only [cells] at cu cf cn
  cases pct with
  | none =>
    simp -implicitDefEqProofs [-alen,c_impl_recordOf,DR.cells,hal,cu,cf]
    rw [hrec]
    exact ro_loop dk sp fo p 0 false rf _ rua ruf sub L hL hl'
  | some n =>
    simp -implicitDefEqProofs [-alen,c_impl_recordOf,DR.cells,hal,cu,cf]
    rw [hrec]
    exact ro_loop dk sp fo p n true rf _ rua ruf sub L hL hl'
def mdOk:AV ⊕ DR→Prop
  | .inl e=>e=.ifc 3 .junk∨∃ m,e=eN m
  | .inr r=>(r.rf.getD []).length≤mid

section
variable (acc:List KVp) (ha:valsOk acc)
theorem sp_ok {r:DR} (h:(r.rf.getD []).length≤mid):mdOk (mdSp acc r):=by
  unfold mdSp
  split
  · exact h
  · split
    · exact h
    · exact .inr ⟨_,rfl⟩
theorem ruf_ok {r:DR} (h:(r.rf.getD []).length≤mid):mdOk (mdRuf acc r):=by
  unfold mdRuf
  apply sp_ok
  split <;> exact h
theorem rua_ok {r:DR} (h:(r.rf.getD []).length≤mid):mdOk (mdRua acc r):=by
  unfold mdRua
  apply ruf_ok
  split <;> exact h
theorem ri_ok {r:DR} (h:(r.rf.getD []).length≤mid):mdOk (mdRi acc r):=by
  unfold mdRi
  split
  · exact rua_ok acc h
  · split
    · split
      · exact .inr ⟨_,rfl⟩
      · exact rua_ok acc h
    · exact .inr ⟨_,rfl⟩
include ha
theorem rf_ok {r:DR} (h:(r.rf.getD []).length≤mid):mdOk (mdRf acc r):=by
  unfold mdRf
  split
  · exact ri_ok acc h
  · rename_i v hf
    have hv:=ha _ (findP_in hf)
    have hl:=splitB_length 58 v
    have hv1:=hv.1
    simp only at hv1
    split
    · rename_i hall
      refine ri_ok acc ?_
      simp only [Option.getD_some]
      omega
    · exact .inr ⟨_,rfl⟩
theorem pct_ok {r:DR} (h:(r.rf.getD []).length≤mid):mdOk (mdPct acc r):=by
  unfold mdPct
  split
  · exact rf_ok acc ha h
  · split
    · split
      · exact .inr ⟨_,rfl⟩
      · exact rf_ok acc ha h
    · exact .inr ⟨_,rfl⟩
theorem fo_ok {r:DR} (h:(r.rf.getD []).length≤mid):mdOk (mdFo acc r):=by
  unfold mdFo
  split
  · exact pct_ok acc ha h
  · split
    · exact pct_ok acc ha h
    · exact .inr ⟨_,rfl⟩
theorem aspf_ok {r:DR} (h:(r.rf.getD []).length≤mid):mdOk (mdAspf acc r):=by
  unfold mdAspf
  split
  · exact fo_ok acc ha h
  · split
    · exact fo_ok acc ha h
    · exact .inr ⟨_,rfl⟩
theorem adkim_ok {r:DR} (h:(r.rf.getD []).length≤mid):mdOk (mdAdkim acc r):=by
  unfold mdAdkim
  split
  · exact aspf_ok acc ha h
  · split
    · exact aspf_ok acc ha h
    · exact .inr ⟨_,rfl⟩
theorem all_ok:mdOk (mdAll acc):=by
  unfold mdAll
  split
  · split
    · exact .inr ⟨_,rfl⟩
    · split
      · exact adkim_ok acc ha (by simp [dr0])
      · exact .inr ⟨_,rfl⟩
  · exact .inl rfl
end
theorem text_ok {s:L8} (hs:s.length < mid) (hp:plain s=true):mdOk (mdText s):=by
  have ha:=prd2_vals s.length hs (splitB 59 s) [] (fun p hp'=>⟨splitB_mem_length 59 s p hp',splitB_plain 59 s p hp hp'⟩) (fun q hq=>by simp at hq)
  unfold mdText
  split
  · exact all_ok _ ha
  · exact .inr ⟨_,rfl⟩

def mpV:AV ⊕ DR→AV
  | .inl _=>.tup [.agg mr0.cells,.bool false]
  | .inr r=>.tup [.agg (recM r).cells,.bool true]
def con_MParse:List AV→Option AV
  | [.str s]=>if s.length < mid∧plain s=true then some (mpV (mdText s)) else none
  | _=>none

theorem ok_MParse (Γ:Gam) (h142:Γ.fn 142=con_dmParse) (h143:Γ.fn 143=con_recordOf):∀ args r,con_MParse args=some r→runs Γ c_impl_MParse args (fun v=>v=r):=by
  intro args q h
  simp only [con_MParse] at h
  split at h <;> (try simp at h; done)
  rename_i s
  obtain ⟨hs,rfl⟩:=ite_some h
  clear h
  have k:con_dmParse [.str s]=some (mdV (mdText s)):=if_pos hs
  have ho:=text_ok hs.1 hs.2
  generalize mdText s=x at *
  cases x with
  | inl e =>
    rcases ho with rfl | ⟨m,rfl⟩ <;> simp -implicitDefEqProofs [c_impl_MParse,acall,h142,k,mdV,mpV,eN,MR.cells,mr0]
  | inr r =>
    have k2:=rec_con ho
    simp only [mpV]
    generalize recM r=R at *
    simp only [MR.cells] at k2
    have cu:=slO_cells R.rua
    have cf:=slO_cells R.ruf
    have cn:=slO_cells R.rf
    simp only [cells] at cu cf cn
    simp -implicitDefEqProofs [c_impl_MParse,acall,h142,h143,k,k2,mdV,cu,cf,cn,MR.cells]
end Wax


namespace Wax
open Go (IntKind)

def gB (c:UInt8):Prop:=32 < c.toNat∧c.toNat < 127∧c ≠ 59
def allBl (s:L8):Prop:=∀ x∈s,blB x=true
theorem blB_ws {x:UInt8} (h:blB x=true):isWs x.toNat=true:=by
  simp only [blB,decide_eq_true_eq] at h
  simp only [isWs,decide_eq_true_eq]
  omega
theorem gB_ws {x:UInt8} (h:gB x):isWs x.toNat=false:=by
  obtain ⟨h1,h2,_⟩:=h
  simp only [isWs,decide_eq_false_iff_not]
  omega
theorem allBl_ws {s:L8} (h:allBl s):allWs s:=fun x hx=>blB_ws (h x hx)
theorem allBl_no {s:L8} (h:allBl s) {n:Int} (hn:32 < n):noB n s:=by
  intro x hx
  have:=h x hx
  simp only [blB,decide_eq_true_eq] at this
  omega
theorem allBl_nil:allBl []:=by intro x hx; simp at hx
theorem mSpace_bl (n:Nat):allBl (mSpace n):=by
  have h:n % 6 < 6:=Nat.mod_lt _ (by omega)
  simp only [mSpace]
  generalize n % 6=q at *
  match q,h with
  | 0,_=>simp [allBl,blB]
  | 1,_=>simp [allBl,blB]
  | 2,_=>simp [allBl,blB]
  | 3,_=>simp [allBl,blB]
  | 4,_=>simp [allBl,blB]
  | 5,_=>simp [allBl,blB]
theorem spAt_bl (fm:L8) (k:Nat):allBl (spAt fm k):=by
  unfold spAt
  split
  · exact allBl_nil
  · exact mSpace_bl _
theorem trimS_mid {a n b:L8} (ha:allBl a) (hn:∀ x∈n,gB x) (hne:n ≠ []) (hb:allBl b):trimS (a++n++b)=n:=by
  have e:trimS (a++n++b)=trimS (n++b):=by
    rw [List.append_assoc]
    simp only [trimS]
    rw [trimL_app (allBl_ws ha)]
  rw [e]
  exact trimS_word (fun x hx=>gB_ws (hn x hx)) hne (allBl_ws hb)
theorem trimS_bl {a:L8} (ha:allBl a):trimS a=[]:=by
  have e:=trimL_app (a:=a) (b:=[]) (allBl_ws ha)
  simp only [List.append_nil] at e
  simp only [trimS,e]
  rfl

structure Gt (t:KVp):Prop where
  n1:t.1 ≠ []
  n2:∀ x∈t.1,gB x∧x ≠ 61
  v1:t.2 ≠ []
  v2:∀ x∈t.2,gB x

def Pc (p:L8) (t:KVp):Prop:=∃ a b c d,allBl a∧allBl b∧allBl c∧allBl d∧p=a++t.1++b++61::(c++t.2++d)

theorem prd2_pc {p:L8} {t:KVp} (h:Pc p t) (g:Gt t) {acc:List KVp} (hk:hasK t.1 acc=false) (r:List L8):prd2 (p::r) acc=prd2 r (acc++[t]):=by
  obtain ⟨a,b,c,d,ha,hb,hc,hd,rfl⟩:=h
  have hno:noB (61:UInt8).toNat (a++t.1++b):=by
    intro x hx
    simp only [List.mem_append] at hx
    rcases hx with (hx | hx) | hx
    · exact allBl_no ha (by decide) x hx
    · have:=(g.n2 x hx).2
      intro e
      exact this (UInt8.toNat_inj.1 (by exact_mod_cast e))
    · exact allBl_no hb (by decide) x hx
  have e:cutAt 61 (a++t.1++b++61::(c++t.2++d))=some (a++t.1++b,c++t.2++d):=cutAt_noB hno
  simp only [prd2,e]
  rw [trimS_mid ha (fun x hx=>(g.n2 x hx).1) g.n1 hb,trimS_mid hc g.v2 g.v1 hd,psetL_new hk]
theorem prd2_bl {p:L8} (h:allBl p) (r:List L8) (acc:List KVp):prd2 (p::r) acc=prd2 r acc:=by
  have e:cutAt 61 p=none:=by
    have:=cutAt_app 61 p [] (allBl_no h (by decide))
    simpa [cutAt] using this
  simp only [prd2,e,trimS_bl h,if_true]

def tailT (fm:L8) (k:Nat) (e:Bool):L8:=if e then spAt fm (k+1)++[59] else []
def pcsL (fm:L8):Nat→L8→List KVp→Bool→List L8
  | k,cur,[],e=>if e then [cur++spAt fm (k+1),[]] else [cur]
  | k,cur,t::r,e=>(cur++spAt fm (k+1))::pcsL fm (k+4) (spAt fm (k+2)++t.1++spAt fm (k+3)++61::(spAt fm (k+4)++t.2)) r e
theorem noB_app {c:Int} {a b:L8} (ha:noB c a) (hb:noB c b):noB c (a++b):=by
  intro x hx
  rcases List.mem_append.1 hx with hx | hx
  · exact ha x hx
  · exact hb x hx
theorem gB_no {s:L8} (h:∀ x∈s,gB x):noB 59 s:=fun x hx e=>(h x hx).2.2 (UInt8.toNat_inj.1 (by exact_mod_cast e))
theorem cur_no {fm:L8} {k:Nat} {t:KVp} (g:Gt t):noB 59 (spAt fm (k+2)++t.1++spAt fm (k+3)++61::(spAt fm (k+4)++t.2)):=by
  have h1:noB 59 (61::(spAt fm (k+4)++t.2)):=by
    intro x hx
    rcases List.mem_cons.1 hx with rfl | hx
    · decide
    · exact noB_app (allBl_no (spAt_bl fm _) (by decide)) (gB_no g.v2) x hx
  exact noB_app (noB_app (noB_app (allBl_no (spAt_bl fm _) (by decide)) (gB_no fun x hx=>(g.n2 x hx).1)) (allBl_no (spAt_bl fm _) (by decide))) h1
theorem split_tags (fm:L8) (e:Bool):∀ (l:List KVp) (k:Nat) (cur:L8),noB 59 cur→(∀ t∈l,Gt t)→splitB 59 (cur++(tagsT fm k l++tailT fm (k+4 * l.length) e))=pcsL fm k cur l e
  | [],k,cur,hc,_=>by
    cases e with
    | false =>
      simp only [tagsT,tailT,pcsL]
      simpa using splitB_only (b:=59) hc
    | true =>
      have h:=splitB_app (b:=59) (post:=[]) (noB_app hc (allBl_no (spAt_bl fm (k+1)) (by decide)))
      simp only [tagsT,tailT,pcsL,List.nil_append,List.length_nil,Nat.mul_zero,Nat.add_zero,if_true]
      rw [← List.append_assoc]
      simpa [splitB] using h
  | t::r,k,cur,hc,hg=>by
    have ih:=split_tags fm e r (k+4) _ (cur_no (fm:=fm) (k:=k) (hg t (by simp))) (fun t' ht=>hg t' (by simp [ht]))
    have h:=splitB_app (b:=59) (post:=(spAt fm (k+2)++t.1++spAt fm (k+3)++61::(spAt fm (k+4)++t.2))++(tagsT fm (k+4) r++tailT fm (k+4+4 * r.length) e)) (noB_app hc (allBl_no (spAt_bl fm (k+1)) (by decide)))
    simp only [pcsL]
    rw [← ih,← h]
    have e4:k+4 * (t::r).length=k+4+4 * r.length:=by simp; omega
    rw [e4]
    congr 1
    simp [tagsT,oneT]
theorem prd2_pcsL (fm:L8) (e:Bool):∀ (l:List KVp) (k:Nat) (cur:L8) (t:KVp) (acc:List KVp),(∃ a b c,allBl a∧allBl b∧allBl c∧cur=a++t.1++b++61::(c++t.2))→Gt t→(∀ t∈l,Gt t)→((acc++t::l).map (·.1)).Nodup→prd2 (pcsL fm k cur l e) acc=(acc++t::l,true)
  | [],k,cur,t,acc,⟨a,b,c,ha,hb,hc,hcur⟩,g,_,nd=>by
    have hk:hasK t.1 acc=false:=by
      simp only [hasK,List.any_eq_false,decide_eq_true_eq]
      intro u hu e
      rw [List.map_append,List.nodup_append] at nd
      exact nd.2.2 u.1 (List.mem_map.2 ⟨u,hu,rfl⟩) t.1 (by simp) e.symm
    cases e with
    | false =>
      simp only [pcsL]
      rw [if_neg (by simp),prd2_pc ⟨a,b,c,[],ha,hb,hc,allBl_nil,by simpa using hcur⟩ g hk]
      rfl
    | true =>
      simp only [pcsL,if_true]
      rw [prd2_pc ⟨a,b,c,spAt fm (k+1),ha,hb,hc,spAt_bl _ _,by rw [hcur]; simp⟩ g hk,prd2_bl allBl_nil]
      rfl
  | t2::r,k,cur,t,acc,⟨a,b,c,ha,hb,hc,hcur⟩,g,hg,nd=>by
    have hk:hasK t.1 acc=false:=by
      simp only [hasK,List.any_eq_false,decide_eq_true_eq]
      intro u hu e
      rw [List.map_append,List.nodup_append] at nd
      exact nd.2.2 u.1 (List.mem_map.2 ⟨u,hu,rfl⟩) t.1 (by simp) e.symm
    simp only [pcsL]
    rw [prd2_pc ⟨a,b,c,spAt fm (k+1),ha,hb,hc,spAt_bl _ _,by rw [hcur]; simp⟩ g hk]
    rw [prd2_pcsL fm e r (k+4) _ t2 (acc++[t]) ⟨spAt fm (k+2),spAt fm (k+3),spAt fm (k+4),spAt_bl _ _,spAt_bl _ _,spAt_bl _ _,rfl⟩ (hg t2 (by simp)) (fun t' ht=>hg t' (by simp [ht])) (by simpa using nd)]
    simp
theorem gt_v:Gt (kV,sDM):=⟨by simp [kV],by simp only [kV,gB]; decide,by simp [sDM],by simp only [sDM,gB]; decide⟩
theorem mText_eq (fm:L8) (l:List KVp) (e:Bool):mText fm l e=(spAt [] 0++kV++spAt fm 1++61::(spAt fm 2++sDM))++(tagsT fm 2 l++tailT fm (2+4 * l.length) e):=by
  simp [mText,headT,tailT,kV,spAt]
theorem prd2_text (fm:L8) (l:List KVp) (e:Bool) (hg:∀ t∈l,Gt t) (nd:(((kV,sDM)::l).map (·.1)).Nodup):prd2 (splitB 59 (mText fm l e)) []=((kV,sDM)::l,true):=by
  have hno:noB 59 (spAt [] 0++kV++spAt fm 1++61::(spAt fm 2++sDM)):=by
    have h1:noB 59 (61::(spAt fm 2++sDM)):=by
      intro x hx
      rcases List.mem_cons.1 hx with rfl | hx
      · decide
      · exact noB_app (allBl_no (spAt_bl fm _) (by decide)) (gB_no gt_v.v2) x hx
    exact noB_app (noB_app (noB_app (allBl_no (spAt_bl [] _) (by decide)) (gB_no fun x hx=>(gt_v.n2 x hx).1)) (allBl_no (spAt_bl fm _) (by decide))) h1
  rw [mText_eq,split_tags fm e l 2 _ hno hg]
  exact prd2_pcsL fm e l 2 _ (kV,sDM) [] ⟨spAt [] 0,spAt fm 1,spAt fm 2,spAt_bl _ _,spAt_bl _ _,spAt_bl _ _,rfl⟩ gt_v hg (by simpa using nd)
end Wax


namespace Wax
open Go (IntKind)

theorem pu_num:∀ (l:L8) (acc:Nat),l.all digB=true→(acc+1) * 10 ^ l.length≤100000000000→∃ m:Nat,Go.Lib.parseUint10 acc l=.ok m∧numW (acc:Int) l=(m:Int)∧m+1≤100000000000
  | [],acc,_,h=>⟨acc,rfl,rfl,by simpa using h⟩
  | c::r,acc,hd,h=>by
    simp only [List.all_cons,Bool.and_eq_true] at hd
    have hc:=hd.1
    simp only [digB,decide_eq_true_eq] at hc
    have hp:1≤10 ^ r.length:=Nat.pos_of_ne_zero (by simp)
    have h2:(acc+1) * 10 * 10 ^ r.length≤100000000000:=by
      have:(acc+1) * 10 ^ (c::r).length=(acc+1) * 10 * 10 ^ r.length:=by rw [List.length_cons,Nat.pow_succ]; simp [Nat.mul_assoc,Nat.mul_comm]
      omega
    have h3:(acc+1) * 10≤100000000000:=Nat.le_trans (Nat.le_mul_of_pos_right _ hp) h2
    have h4:(acc * 10+(c.toNat - 48)+1) * 10 ^ r.length≤100000000000:=Nat.le_trans (Nat.mul_le_mul_right _ (by omega)) h2
    obtain ⟨m,e1,e2,e3⟩:=pu_num r (acc * 10+(c.toNat - 48)) hd.2 h4
    refine ⟨m,?_,?_,e3⟩
    · simp only [Go.Lib.parseUint10]
      rw [if_pos hc,if_neg (by omega),if_neg (by omega),e1]
    · rw [← e2]
      have w1:IntKind.i64.wrap (10 * (acc:Int))=10 * (acc:Int):=wrap64 (by omega) (by omega)
      have w2:IntKind.i64.wrap (10 * (acc:Int)+((c.toNat:Int) - 48))=((acc * 10+(c.toNat - 48):Nat):Int):=by
        rw [wrap64 (by omega) (by omega)]; omega
      simp only [numW,List.foldl_cons,w1,w2]
theorem num_atoi {v:L8} {n:Int} (h:(mNum v n).2=true) (hn:n≤10):∃ m:Nat,Go.Lib.atoiAll v=.ok (m:Int)∧(mNum v n).1=(m:Int)∧m+1≤100000000000:=by
  unfold mNum at h ⊢
  split at h
  · rename_i hd
    rw [if_pos hd]
    simp only [Bool.and_eq_true,decide_eq_true_eq] at h
    obtain ⟨h1,h2⟩:=h
    have hp:10 ^ v.length≤10 ^ 10:=Nat.pow_le_pow_right (by omega) (by omega)
    obtain ⟨m,e1,e2,e3⟩:=pu_num v 0 hd (by omega)
    refine ⟨m,?_,by simpa using e2,e3⟩
    cases v with
    | nil=>exact absurd rfl h1
    | cons c r =>
      simp only [List.all_cons,Bool.and_eq_true] at hd
      have hc:=hd.1
      simp only [digB,decide_eq_true_eq] at hc
      have e0:Go.Lib.parseMag (c::r)=.ok m:=by simp only [Go.Lib.parseMag]; rw [if_neg (by simp),e1]
      simp only [Go.Lib.atoiAll]
      rw [if_neg (by omega),e0]
      simp only
      rw [if_neg (by omega),if_neg (by omega),if_neg (by omega)]
  · simp at h

theorem tokB_g {c:UInt8} (h:tokB c=true):gB c:=by
  simp only [tokB,Bool.and_eq_true,decide_eq_true_eq,Bool.not_eq_true'] at h
  refine ⟨h.1.1,h.1.2,?_⟩
  rintro rfl
  simp [tokStop] at h
theorem kwB_g {c:UInt8} (h:kwB c=true):gB c∧c ≠ 61:=by
  simp only [kwB,decide_eq_true_eq] at h
  refine ⟨⟨by omega,by omega,?_⟩,?_⟩ <;> rintro rfl <;> simp at h
theorem digB_g {c:UInt8} (h:digB c=true):gB c:=by
  simp only [digB,decide_eq_true_eq] at h
  refine ⟨by omega,by omega,?_⟩; rintro rfl; simp at h
theorem split_g {b:UInt8} (hb:gB b):∀ {v:L8},(∀ p∈splitB b v,∀ x∈p,gB x)→∀ x∈v,gB x
  | [],_,x,hx=>by simp at hx
  | c::r,h,x,hx=>by
    simp only [splitB] at h
    split at h
    · rename_i e
      rcases List.mem_cons.1 hx with rfl | hx
      · rw [e]; exact hb
      · exact split_g hb (v:=r) (fun p hp=>h p (by simp [hp])) x hx
    · cases hs:splitB b r with
      | nil=>exact absurd hs (splitB_ne b r)
      | cons p t =>
        rw [hs] at h
        simp only at h
        rcases List.mem_cons.1 hx with rfl | hx
        · exact h (x::p) (by simp) x (by simp)
        · refine split_g hb (v:=r) ?_ x hx
          intro q hq y hy
          rw [hs] at hq
          rcases List.mem_cons.1 hq with rfl | hq
          · exact h (c::q) (by simp) y (by simp [hy])
          · exact h q (by simp [hq]) y hy
theorem mlist_g {b:UInt8} (hb:gB b) {right:L8→Bool} (hr:∀ p,right p=true→∀ x∈p,gB x) {v:L8} (h:(mlist b right v).isSome=true):(∀ x∈v,gB x)∧mlist b right v=some (splitB b v)∧(splitB b v).all right=true:=by
  unfold mlist at h ⊢
  split at h
  · rename_i ha
    rw [if_pos ha]
    refine ⟨split_g hb (fun p hp=>hr p (List.all_eq_true.1 ha p hp)),rfl,ha⟩
  · simp at h
theorem dom_g {s:L8} (h:mDom s=true):∀ x∈s,gB x:=by
  simp only [mDom,Bool.and_eq_true] at h
  refine split_g (b:=46) (by simp only [gB]; decide) (fun p hp x hx=>?_)
  have:=List.all_eq_true.1 h.1 p hp
  simp only [Bool.and_eq_true,mKw] at this
  exact (kwB_g (List.all_eq_true.1 this.1.1.1.1 x hx)).1
theorem cut_mem {c:UInt8} {s:L8} {p:L8 × L8} (h:cutAt c.toNat s=some p):s=p.1++c::p.2:=by
  obtain ⟨x,hx,e,_⟩:=cutAt_eq (a:=p.1) (b:=p.2) h
  have:x=c:=UInt8.toNat_inj.1 (by exact_mod_cast hx)
  rw [e,this]
theorem addr_g {s:L8} (h:addrB s=true):∀ x∈s,gB x:=by
  unfold addrB at h
  split at h
  · rename_i p hp
    simp only [Bool.and_eq_true,mTok] at h
    rw [cut_mem (c:=64) hp]
    intro x hx
    simp only [List.mem_append,List.mem_cons] at hx
    rcases hx with hx | rfl | hx
    · exact tokB_g (List.all_eq_true.1 h.1.1 x hx)
    · simp only [gB]; decide
    · exact dom_g h.2 x hx
  · simp at h
theorem mNum_g {v:L8} {n:Int} (h:(mNum v n).2=true):∀ x∈v,gB x:=by
  unfold mNum at h
  split at h
  · rename_i hd
    exact fun x hx=>digB_g (List.all_eq_true.1 hd x hx)
  · simp at h
theorem size_g {s:L8} (h:∀ x∈sizeOff s,gB x):∀ x∈s,gB x:=by
  unfold sizeOff at h
  split at h
  · rename_i c hc
    split at h
    · rename_i hk
      have e:s=s.dropLast++[c]:=by
        rw [List.getLast?_eq_some_iff] at hc
        obtain ⟨ys,rfl⟩:=hc
        simp
      rw [e]
      intro x hx
      simp only [List.mem_append,List.mem_singleton] at hx
      rcases hx with hx | rfl
      · exact h x hx
      · simp only [sKmgt,List.contains_eq_mem,decide_eq_true_eq,List.mem_cons,List.not_mem_nil,or_false] at hk
        rcases hk with rfl | rfl | rfl | rfl <;> (simp only [gB]; decide)
    · exact h
  · exact h
theorem muri_g {s:L8} (h:muri s=true):∀ x∈s,gB x:=by
  simp only [muri,Bool.and_eq_true,decide_eq_true_eq] at h
  obtain ⟨⟨h1,h2⟩,h3⟩:=h
  have hd:∀ x∈s.drop 7,gB x:=by
    split at h3
    · rename_i p hp
      simp only [Bool.and_eq_true] at h3
      rw [cut_mem (c:=33) hp]
      intro x hx
      simp only [List.mem_append,List.mem_cons] at hx
      rcases hx with hx | rfl | hx
      · exact addr_g h3.2 x hx
      · simp only [gB]; decide
      · exact size_g (mNum_g h3.1) x hx
    · exact addr_g h3
  rw [← List.take_append_drop 7 s,h2]
  intro x hx
  rcases List.mem_append.1 hx with hx | hx
  · clear h3 hd h1 h2
    have hm:∀ y∈sMailto,gB y:=by simp only [sMailto,gB]; decide
    exact hm x hx
  · exact hd x hx
theorem foOk_c {s:L8} (h:foOk s=true):∃ c,s=[c]∧(c=48∨c=49∨c=100∨c=115):=by
  unfold foOk at h
  split at h
  · rename_i c
    simp only [s01ds,List.contains_eq_mem,decide_eq_true_eq,List.mem_cons,List.not_mem_nil,or_false] at h
    exact ⟨c,rfl,h⟩
  · simp at h
theorem foOk_g {s:L8} (h:foOk s=true):∀ x∈s,gB x:=by
  obtain ⟨c,rfl,rfl | rfl | rfl | rfl⟩:=foOk_c h <;> (simp only [gB]; decide)
structure Rd (l:List KVp):Prop where
  ok:∀ t∈l,mOk t=true∧Gt t
  nd:(((kV,sDM)::l).map (·.1)).Nodup
  p:∃ v,findP l kP=some v

def recOf (f:L8→Option L8):DR :=
  { dk:=(f kAdkim).getD sR,sp:=(f kAspf).getD sR,fo:=(match f kFo with | none=>0 | some v=>foOf (splitB 58 v)),p:=(f kP).getD [],pct:=(f kPct).map fun v=>(mNum v 3).1,
    rf:=(f kRf).map (splitB 58),ri:=(match f kRi with | none=>0 | some v=>(mNum v 10).1),rua:=(f kRua).map (splitB 44),ruf:=(f kRuf).map (splitB 44),sub:=(f kSp).getD [] }

theorem fo2_of:∀ (L:List L8) (n:Int),L.all foOk=true→fo2 n L=some (L.foldl (fun n x=>orI n (foBit x)) n)
  | [],n,_=>rfl
  | x::r,n,h=>by
    simp only [List.all_cons,Bool.and_eq_true] at h
    have ih:=fun m=>fo2_of r m h.2
    obtain ⟨c,rfl,hc⟩:=foOk_c h.1
    have ht:trimS [c]=[c]:=by rcases hc with rfl | rfl | rfl | rfl <;> decide
    have hb:fobit2 [c]=some (foBit [c]):=by
      simp only [fobit2,ht]
      rcases hc with rfl | rfl | rfl | rfl <;> decide
    simp only [fo2,hb,ih,List.foldl_cons]
theorem uris_of {v:L8} (h:(splitB 44 v).all muri=true):uris v=splitB 44 v:=by
  simp only [uris]
  have:∀ (L:List L8),L.all muri=true→L.map trimS=L:=by
    intro L
    induction L with
    | nil=>intro _; rfl
    | cons x r ih =>
      intro h
      simp only [List.all_cons,Bool.and_eq_true] at h
      have hne:x ≠ []:=by rintro rfl; simp [muri] at h
      have:=trimS_word (n:=x) (b:=[]) (fun y hy=>gB_ws (muri_g h.1 y hy)) hne (fun y hy=>by simp at hy)
      simp only [List.append_nil] at this
      simp [this,ih h.2]
  exact this _ h

section
variable {acc:List KVp} (ha:∀ k v,findP acc k=some v→k ≠ kV→mOk (k,v)=true)
include ha
theorem mdSp_of (r:DR) (hr:r.sub=[]):mdSp acc r=.inr { r with sub:=(findP acc kSp).getD [] }:=by
  unfold mdSp
  split
  · rename_i h; rw [h]; simp [← hr]
  · rename_i v h
    have:=ha _ _ h (by decide)
    rw [h]
    have hp:polB v=true:=by simpa [mOk,kSp,kAdkim,kAspf,kP] using this
    rw [if_pos hp]; rfl
theorem mdRuf_of (r:DR) (hr:r.sub=[]∧r.ruf=none):mdRuf acc r=.inr { r with sub:=(findP acc kSp).getD [],ruf:=(findP acc kRuf).map (splitB 44) }:=by
  unfold mdRuf
  cases h:findP acc kRuf with
  | none=>simp only; rw [mdSp_of ha _ hr.1]; simp [← hr.2]
  | some v =>
    have:=ha _ _ h (by decide)
    have hp:(mlist 44 muri v).isSome=true:=by simpa [mOk,kSp,kAdkim,kAspf,kP,kFo,kPct,kRf,kRi,kRua,kRuf] using this
    have hu:=(mlist_g (by simp only [gB]; decide) (fun p=>muri_g) hp).2.2
    simp only
    rw [uris_of hu,mdSp_of ha]; rfl
    exact hr.1
theorem mdRua_of (r:DR) (hr:r.sub=[]∧r.ruf=none∧r.rua=none):mdRua acc r=.inr { r with sub:=(findP acc kSp).getD [],ruf:=(findP acc kRuf).map (splitB 44),rua:=(findP acc kRua).map (splitB 44) }:=by
  unfold mdRua
  cases h:findP acc kRua with
  | none=>simp only; rw [mdRuf_of ha _ ⟨hr.1,hr.2.1⟩]; simp [← hr.2.2]
  | some v =>
    have:=ha _ _ h (by decide)
    have hp:(mlist 44 muri v).isSome=true:=by simpa [mOk,kSp,kAdkim,kAspf,kP,kFo,kPct,kRf,kRi,kRua,kRuf] using this
    have hu:=(mlist_g (by simp only [gB]; decide) (fun p=>muri_g) hp).2.2
    simp only
    rw [uris_of hu,mdRuf_of ha]; rfl
    exact ⟨hr.1,hr.2.1⟩
theorem mdRi_of (r:DR) (hr:r.sub=[]∧r.ruf=none∧r.rua=none∧r.ri=0):mdRi acc r=.inr { r with sub:=(findP acc kSp).getD [],ruf:=(findP acc kRuf).map (splitB 44),rua:=(findP acc kRua).map (splitB 44),ri:=(match findP acc kRi with | none=>0 | some v=>(mNum v 10).1) }:=by
  unfold mdRi
  cases h:findP acc kRi with
  | none=>simp only; rw [mdRua_of ha _ ⟨hr.1,hr.2.1,hr.2.2.1⟩]; simp [← hr.2.2.2]
  | some v =>
    have:=ha _ _ h (by decide)
    have hp:((mNum v 10).2=true∧0 < (mNum v 10).1)∧(mNum v 10).1 < 4294967296:=by simpa [mOk,kSp,kAdkim,kAspf,kP,kFo,kPct,kRf,kRi,kRua,kRuf] using this
    obtain ⟨m,e1,e2,e3⟩:=num_atoi hp.1.1 (by omega)
    simp only [e1,e2]
    rw [if_neg (by omega),mdRua_of ha]
    exact ⟨hr.1,hr.2.1,hr.2.2.1⟩
theorem mdRf_of (r:DR) (hr:r.sub=[]∧r.ruf=none∧r.rua=none∧r.ri=0∧r.rf=none):mdRf acc r=.inr { r with sub:=(findP acc kSp).getD [],ruf:=(findP acc kRuf).map (splitB 44),rua:=(findP acc kRua).map (splitB 44),ri:=(match findP acc kRi with | none=>0 | some v=>(mNum v 10).1),rf:=(findP acc kRf).map (splitB 58) }:=by
  unfold mdRf
  cases h:findP acc kRf with
  | none=>simp only; rw [mdRi_of ha _ ⟨hr.1,hr.2.1,hr.2.2.1,hr.2.2.2.1⟩]; simp [← hr.2.2.2.2]
  | some v =>
    have:=ha _ _ h (by decide)
    have hp:(mlist 58 (fun s=>decide (s=sAfrf)) v).isSome=true:=by simpa [mOk,kSp,kAdkim,kAspf,kP,kFo,kPct,kRf,kRi,kRua,kRuf] using this
    have hu:(splitB 58 v).all (fun s=>decide (s=sAfrf))=true:=by
      unfold mlist at hp; split at hp
      · assumption
      · simp at hp
    simp only
    rw [if_pos hu,mdRi_of ha]; rfl
    exact ⟨hr.1,hr.2.1,hr.2.2.1,hr.2.2.2.1⟩
theorem mdPct_of (r:DR) (hr:r.sub=[]∧r.ruf=none∧r.rua=none∧r.ri=0∧r.rf=none∧r.pct=none):mdPct acc r=.inr { r with sub:=(findP acc kSp).getD [],ruf:=(findP acc kRuf).map (splitB 44),rua:=(findP acc kRua).map (splitB 44),ri:=(match findP acc kRi with | none=>0 | some v=>(mNum v 10).1),rf:=(findP acc kRf).map (splitB 58),pct:=(findP acc kPct).map fun v=>(mNum v 3).1 }:=by
  unfold mdPct
  cases h:findP acc kPct with
  | none=>simp only; rw [mdRf_of ha _ ⟨hr.1,hr.2.1,hr.2.2.1,hr.2.2.2.1,hr.2.2.2.2.1⟩]; simp [← hr.2.2.2.2.2]
  | some v =>
    have:=ha _ _ h (by decide)
    have hp:(mNum v 3).2=true∧(mNum v 3).1≤100:=by simpa [mOk,kSp,kAdkim,kAspf,kP,kFo,kPct,kRf,kRi,kRua,kRuf] using this
    obtain ⟨m,e1,e2,e3⟩:=num_atoi hp.1 (by omega)
    simp only [e1,Option.map_some,e2]
    rw [if_neg (by omega),mdRf_of ha]
    exact ⟨hr.1,hr.2.1,hr.2.2.1,hr.2.2.2.1,hr.2.2.2.2.1⟩
theorem mdFo_of (r:DR) (hr:r.sub=[]∧r.ruf=none∧r.rua=none∧r.ri=0∧r.rf=none∧r.pct=none∧r.fo=0):mdFo acc r=.inr { r with sub:=(findP acc kSp).getD [],ruf:=(findP acc kRuf).map (splitB 44),rua:=(findP acc kRua).map (splitB 44),ri:=(match findP acc kRi with | none=>0 | some v=>(mNum v 10).1),rf:=(findP acc kRf).map (splitB 58),pct:=(findP acc kPct).map (fun v=>(mNum v 3).1),fo:=(match findP acc kFo with | none=>0 | some v=>foOf (splitB 58 v)) }:=by
  have hr6:r.sub=[]∧r.ruf=none∧r.rua=none∧r.ri=0∧r.rf=none∧r.pct=none:=⟨hr.1,hr.2.1,hr.2.2.1,hr.2.2.2.1,hr.2.2.2.2.1,hr.2.2.2.2.2.1⟩
  unfold mdFo
  cases h:findP acc kFo with
  | none=>simp only; rw [mdPct_of ha _ hr6]; simp [← hr.2.2.2.2.2.2]
  | some v =>
    have:=ha _ _ h (by decide)
    have hp:(mlist 58 foOk v).isSome=true:=by simpa [mOk,kSp,kAdkim,kAspf,kP,kFo,kPct,kRf,kRi,kRua,kRuf] using this
    have hu:=(mlist_g (by simp only [gB]; decide) (fun p=>foOk_g) hp).2.2
    simp only [fo2_of _ 0 hu]
    rw [mdPct_of ha]; rfl
    exact hr6
theorem mdAspf_of (r:DR) (hr:r.sub=[]∧r.ruf=none∧r.rua=none∧r.ri=0∧r.rf=none∧r.pct=none∧r.fo=0):mdAspf acc r=.inr { r with sub:=(findP acc kSp).getD [],ruf:=(findP acc kRuf).map (splitB 44),rua:=(findP acc kRua).map (splitB 44),ri:=(match findP acc kRi with | none=>0 | some v=>(mNum v 10).1),rf:=(findP acc kRf).map (splitB 58),pct:=(findP acc kPct).map (fun v=>(mNum v 3).1),fo:=(match findP acc kFo with | none=>0 | some v=>foOf (splitB 58 v)),sp:=(findP acc kAspf).getD sR }:=by
  unfold mdAspf
  cases h:findP acc kAspf with
  | none=>simp only; rw [mdFo_of ha]; rfl; exact hr
  | some v =>
    have:=ha _ _ h (by decide)
    have hp:alignB v=true:=by simpa [mOk,kSp,kAdkim,kAspf] using this
    simp only
    rw [if_pos hp,mdFo_of ha]; rfl; exact hr
theorem mdAdkim_of (r:DR) (hr:r.sub=[]∧r.ruf=none∧r.rua=none∧r.ri=0∧r.rf=none∧r.pct=none∧r.fo=0):mdAdkim acc r=.inr { r with sub:=(findP acc kSp).getD [],ruf:=(findP acc kRuf).map (splitB 44),rua:=(findP acc kRua).map (splitB 44),ri:=(match findP acc kRi with | none=>0 | some v=>(mNum v 10).1),rf:=(findP acc kRf).map (splitB 58),pct:=(findP acc kPct).map (fun v=>(mNum v 3).1),fo:=(match findP acc kFo with | none=>0 | some v=>foOf (splitB 58 v)),sp:=(findP acc kAspf).getD sR,dk:=(findP acc kAdkim).getD sR }:=by
  unfold mdAdkim
  cases h:findP acc kAdkim with
  | none=>simp only; rw [mdAspf_of ha]; rfl; exact hr
  | some v =>
    have:=ha _ _ h (by decide)
    have hp:alignB v=true:=by simpa [mOk,kSp,kAdkim] using this
    simp only
    rw [if_pos hp,mdAspf_of ha]; rfl; exact hr
end
theorem mdAll_of {acc:List KVp} (ha:∀ k v,findP acc k=some v→k ≠ kV→mOk (k,v)=true) (hv:findP acc kV=some sDM) {v:L8} (hp:findP acc kP=some v):mdAll acc=.inr (recOf (findP acc)):=by
  unfold mdAll
  have e:(some sDM:Option L8).getD []=sDM:=rfl
  rw [hv,if_pos e,hp]
  have:=ha _ _ hp (by decide)
  have hpv:polB v=true:=by simpa [mOk,kAdkim,kAspf,kP] using this
  simp only
  rw [if_pos hpv,mdAdkim_of ha]
  · simp only [recOf,hp,dr0,Option.getD_some]
    congr 1
  · simp [dr0]
end Wax


namespace Wax
open Go (IntKind)

def MR.short (r:MR):Prop:=(r.rf.getD []).length < mid∧(r.rua.getD []).length < mid∧(r.ruf.getD []).length < mid
instance (r:MR):Decidable r.short:=by unfold MR.short; infer_instance

end Wax


namespace Wax
open Go (IntKind)

theorem findP_cons_ne {k i v:L8} {l:List KVp} (h:k ≠ i):findP ((i,v)::l) k=findP l k:=by
  simp only [findP]; rw [if_neg (fun e=>h e.symm)]
theorem findP_of_mem:∀ {l:List KVp} {k v:L8},(l.map (·.1)).Nodup→(k,v)∈l→findP l k=some v
  | [],_,_,_,h=>by simp at h
  | (i,u)::r,k,v,nd,h=>by
    simp only [List.map_cons,List.nodup_cons] at nd
    rcases List.mem_cons.1 h with h2 | h2
    · injection h2 with h3 h4; subst h3; subst h4; simp [findP]
    · have hne:k ≠ i:=fun e=>nd.1 (List.mem_map.2 ⟨(k,v),h2,e⟩)
      rw [findP_cons_ne hne]
      exact findP_of_mem nd.2 h2
theorem recOf_congr {f g:L8→Option L8} (h:∀ k∈mKnown,f k=g k):recOf f=recOf g:=by
  have:=fun k hk=>h k hk
  simp only [recOf,h kAdkim (by decide),h kAspf (by decide),h kFo (by decide),h kP (by decide),h kPct (by decide),h kRf (by decide),h kRi (by decide),h kRua (by decide),h kRuf (by decide),h kSp (by decide)]
theorem known_ne {k:L8} (h:k∈mKnown):k ≠ kV:=by
  simp only [mKnown,List.mem_cons,List.not_mem_nil,or_false] at h
  rcases h with rfl | rfl | rfl | rfl | rfl | rfl | rfl | rfl | rfl | rfl <;> decide
theorem Rd.text {l:List KVp} (h:Rd l) (fm:L8) (e:Bool):mdText (mText fm l e)=.inr (recOf (findP l)):=by
  have hp:=prd2_text fm l e (fun t ht=>(h.ok t ht).2) h.nd
  simp only [mdText,hp,if_true]
  obtain ⟨v,hv⟩:=h.p
  rw [mdAll_of (acc:=(kV,sDM)::l) (v:=v) _ (by simp [findP]) (by rw [findP_cons_ne (by decide)]; exact hv)]
  · rw [recOf_congr (g:=findP l)]
    intro k hk
    exact findP_cons_ne (known_ne hk)
  · intro k v hf hk
    rw [findP_cons_ne hk] at hf
    exact (h.ok _ (findP_in hf)).1

theorem gB_plain {x:UInt8} (h:gB x):plainB x=true:=plainB_true (by have:=h.1; have:=h.2.1; omega)
theorem allBl_plain {s:L8} (h:allBl s):plain s=true:=by
  simp only [plain,List.all_eq_true]
  intro x hx
  have:=h x hx
  simp only [blB,decide_eq_true_eq] at this
  exact plainB_true (by omega)
theorem gt_plain {t:KVp} (g:Gt t):plain t.1=true∧plain t.2=true:=by
  simp only [plain,List.all_eq_true]
  exact ⟨fun x hx=>gB_plain (g.n2 x hx).1,fun x hx=>gB_plain (g.v2 x hx)⟩
theorem plain_cons {x:UInt8} {s:L8}:plain (x::s)=(plainB x && plain s):=rfl
theorem tagsT_plain (fm:L8):∀ (l:List KVp) (k:Nat),(∀ t∈l,Gt t)→plain (tagsT fm k l)=true
  | [],_,_=>rfl
  | t::r,k,h=>by
    have g:=gt_plain (h t (by simp))
    have s:=fun j=>allBl_plain (spAt_bl fm j)
    have b1:plainB 59=true:=by decide
    have b2:plainB 61=true:=by decide
    simp only [tagsT,oneT,plain_app,plain_cons,g.1,g.2,s,b1,b2,tagsT_plain fm r (k+4) (fun t ht=>h t (by simp [ht])),Bool.and_self]
theorem mText_plain {fm:L8} {l:List KVp} {e:Bool} (h:∀ t∈l,Gt t):plain (mText fm l e)=true:=by
  have s:=fun j=>allBl_plain (spAt_bl fm j)
  have b1:plainB 59=true:=by decide
  have b2:plainB 61=true:=by decide
  have b3:plainB 118=true:=by decide
  have b4:plain sDM=true:=by decide
  have b5:plain []=true:=rfl
  cases e <;> simp only [mText,headT,plain_app,plain_cons,b1,b2,b3,b4,b5,s,tagsT_plain fm l 2 h,Bool.and_self,if_true,if_false,Bool.false_eq_true]
theorem mText_len {fm:L8} {l:List KVp} {e:Bool} (h:l.length≤20) (h2:∀ t∈l,t.1.length≤20∧t.2.length≤200):(mText fm l e).length < mid:=by
  have a:=headT_len fm
  have b:=tagsT_len (fm:=fm) (k:=2) h2
  have c:=spAt_len fm (2+4 * l.length+1)
  simp only [mText,List.length_append,mid]
  cases e <;> simp <;> omega

structure Sz (l:List KVp):Prop where
  n:l.length≤20
  t:∀ t∈l,t.1.length≤20∧t.2.length≤200
theorem Rd.parse {l:List KVp} (h:Rd l) (z:Sz l) (fm:L8) (e:Bool):con_MParse [.str (mText fm l e)]=some (.tup [.agg (recM (recOf (findP l))).cells,.bool true]):=by
  have b:(mText fm l e).length < mid∧plain (mText fm l e)=true:=⟨mText_len z.n z.t,mText_plain fun t ht=>(h.ok t ht).2⟩
  simp only [con_MParse]
  rw [if_pos b,h.text]; rfl

theorem has_one {f:L8→Option L8} {k v:L8} (hf:f k=some v) (ho:mOk (k,v)=true):mSameAt k (recM (recOf f)) (mPut mr0 (k,v))=true:=by
  unfold mOk at ho
  simp only at ho
  unfold mSameAt mPut
  simp only
  by_cases h1:k=kAdkim
  · rw [if_pos h1,if_pos h1]; subst h1; simp [recM,recOf,hf]
  rw [if_neg h1,if_neg h1]; rw [if_neg h1] at ho
  by_cases h2:k=kAspf
  · rw [if_pos h2,if_pos h2]; subst h2; simp [recM,recOf,hf]
  rw [if_neg h2,if_neg h2]; rw [if_neg h2] at ho
  by_cases h3:k=kP
  · rw [if_pos h3,if_pos h3]; subst h3; simp [recM,recOf,hf]
  rw [if_neg h3,if_neg h3]; rw [if_neg h3] at ho
  by_cases h4:k=kSp
  · rw [if_pos h4,if_pos h4]; subst h4; simp [recM,recOf,hf]
  rw [if_neg h4,if_neg h4]; rw [if_neg h4] at ho
  by_cases h5:k=kFo
  · rw [if_pos h5,if_pos h5]; rw [if_pos h5] at ho; subst h5
    have:=(mlist_g (by simp only [gB]; decide) (fun p=>foOk_g) ho).2.1
    have e:(mlist 58 foOk v)=some (splitB 58 v):=this
    simp [recM,recOf,hf,e]
  rw [if_neg h5,if_neg h5]; rw [if_neg h5] at ho
  by_cases h6:k=kPct
  · rw [if_pos h6,if_pos h6]; subst h6; simp [recM,recOf,hf]
  rw [if_neg h6,if_neg h6]; rw [if_neg h6] at ho
  by_cases h7:k=kRf
  · rw [if_pos h7,if_pos h7]; rw [if_pos h7] at ho; subst h7
    have e:mlist 58 (fun s=>decide (s=sAfrf)) v=some (splitB 58 v):=by
      unfold mlist at ho ⊢; split at ho
      · rename_i hh; rw [if_pos hh]
      · simp at ho
    simp [recM,recOf,hf,e,splitB_ne]
  rw [if_neg h7,if_neg h7]; rw [if_neg h7] at ho
  by_cases h8:k=kRi
  · rw [if_pos h8,if_pos h8]; subst h8; simp [recM,recOf,hf]
  rw [if_neg h8,if_neg h8]; rw [if_neg h8] at ho
  by_cases h9:k=kRua
  · rw [if_pos h9,if_pos h9]; rw [if_pos h9] at ho; subst h9
    have e:mlist 44 muri v=some (splitB 44 v):=(mlist_g (by simp only [gB]; decide) (fun p=>muri_g) ho).2.1
    simp [recM,recOf,hf,e]
  rw [if_neg h9,if_neg h9]; rw [if_neg h9] at ho
  by_cases h10:k=kRuf
  · rw [if_pos h10,if_pos h10]; rw [if_pos h10] at ho; subst h10
    have e:mlist 44 muri v=some (splitB 44 v):=(mlist_g (by simp only [gB]; decide) (fun p=>muri_g) ho).2.1
    simp [recM,recOf,hf,e]
  rw [if_neg h10]
theorem Rd.nd' {l:List KVp} (h:Rd l):(l.map (·.1)).Nodup:=by
  have:=h.nd
  simp only [List.map_cons,List.nodup_cons] at this
  exact this.2
theorem Rd.has {l:List KVp} (h:Rd l):mHas (recM (recOf (findP l))) l=true:=by
  simp only [mHas,List.all_eq_true]
  rintro ⟨k,v⟩ ht
  exact has_one (findP_of_mem h.nd' ht) (h.ok _ ht).1

end Wax


namespace Wax
open Go (IntKind)

theorem takeW {p:UInt8→Bool}:∀ {l:L8} {x:UInt8},x∈l.takeWhile p→p x=true
  | y::r,x,h=>by
    by_cases hy:p y=true
    · rw [List.takeWhile_cons_of_pos hy] at h
      rcases List.mem_cons.1 h with rfl | h
      · exact hy
      · exact takeW h
    · rw [List.takeWhile_cons_of_neg hy] at h; simp at h
theorem wordsGo_tail {R:L8} (hR:allWs R):∀ (m cur:L8),wordsGo cur (m++R)=wordsGo cur m
  | [],cur=>by
    by_cases hc:cur=[]
    · subst hc
      have:=wordsGo_ws (b:=R) [] hR
      simpa [wordsGo] using this
    · by_cases hb:R=[]
      · subst hb; rfl
      · have h1:=wordsGo_end (s:=[]) hc hb hR
        have h2:=wordsGo_ws (b:=R) [] hR
        simp only [List.append_nil] at h1 h2
        simp only [List.nil_append]
        rw [h1,h2]
        simp [wordsGo,hc]
  | x::r,cur=>by
    simp only [List.cons_append,wordsGo]
    split
    · split
      · exact wordsGo_tail hR r []
      · rw [wordsGo_tail hR r []]
    · exact wordsGo_tail hR r _
theorem trimL_split (t:L8):∃ a,allWs a∧t=a++trimL t:=by
  refine ⟨t.takeWhile fun b=>isWs b.toNat,fun x hx=>?_,(List.takeWhile_append_dropWhile).symm⟩
  exact takeW hx
theorem trimR_split (t:L8):∃ b,allWs b∧t=trimR t++b:=by
  obtain ⟨a,ha,e⟩:=trimL_split t.reverse
  refine ⟨a.reverse,fun x hx=>ha x (List.mem_reverse.1 hx),?_⟩
  have:=congrArg List.reverse e
  simp only [List.reverse_reverse,List.reverse_append,trimL] at this
  exact this
theorem wordsOf_trim (t:L8):wordsOf (trimS t)=wordsOf t:=by
  obtain ⟨a,ha,e1⟩:=trimL_split t
  obtain ⟨b,hb,e2⟩:=trimR_split (trimL t)
  have e3:wordsOf t=wordsOf (trimL t):=by
    conv=>lhs; rw [e1]
    exact wordsGo_ws _ ha
  have e4:wordsOf (trimL t)=wordsOf (trimR (trimL t)):=by
    conv=>lhs; rw [e2]
    exact wordsGo_tail hb _ _
  rw [e3,e4]; rfl

def flatW (l:List (L8 × L8)):L8:=l.flatMap fun p=>p.1++p.2
def SepOk (l:List (L8 × L8)):Prop:=∀ p∈l,(p.1 ≠ []∧allWs p.1)∧p.2 ≠ []∧nonWs p.2
theorem wordsGo_flat {b:L8} (hb:allWs b):∀ (l:List (L8 × L8)) (cur:L8),cur ≠ []→SepOk l→wordsGo cur (flatW l++b)=cur::l.map (·.2)
  | [],cur,hc,_=>by
    have:=wordsGo_tail hb [] cur
    simp only [flatW,List.flatMap_nil,List.nil_append] at this ⊢
    rw [this]; simp [wordsGo,hc]
  | (sp,w)::r,cur,hc,h=>by
    obtain ⟨⟨h1,h2⟩,h3,h4⟩:=h (sp,w) (by simp)
    have ih:=wordsGo_flat hb r w h3 (fun p hp=>h p (by simp [hp]))
    have e:flatW ((sp,w)::r)++b=sp++(w++(flatW r++b)):=by simp [flatW]
    rw [e,wordsGo_end hc h1 h2,wordsGo_ws _ h2,wordsGo_word _ _ h4]
    simp only [List.nil_append,List.map_cons]
    rw [ih]
theorem wordsOf_flat {a b w:L8} {l:List (L8 × L8)} (ha:allWs a) (hb:allWs b) (hw:w ≠ []) (hn:nonWs w) (hl:SepOk l):wordsOf (a++(w++(flatW l++b)))=w::l.map (·.2):=by
  rw [wordsOf,wordsGo_ws _ ha,wordsGo_word _ _ hn,List.nil_append]
  exact wordsGo_flat hb l w hw hl

def gW (s:L8):Prop:=∀ x∈s,32 < x.toNat∧x.toNat < 127∧x ≠ 59
theorem gW_non {s:L8} (h:gW s):nonWs s:=by
  intro x hx
  obtain ⟨h1,h2,_⟩:=h x hx
  simp only [isWs,decide_eq_false_iff_not]
  omega
theorem gW_no {s:L8} (h:gW s):noB 59 s:=fun x hx e=>(h x hx).2.2 (UInt8.toNat_inj.1 (by exact_mod_cast e))
theorem gW_trim {s:L8} (h:gW s):trimS s=s:=by
  by_cases hs:s=[]
  · subst hs; rfl
  · have:=trimS_word (gW_non h) hs (b:=[]) (by intro x hx; simp at hx)
    simpa using this
theorem allWs_no {s:L8} (h:allWs s):noB 59 s:=by
  intro x hx e
  have:=h x hx
  simp only [isWs,decide_eq_true_eq] at this
  omega
structure KvOk (p:KVp):Prop where
  k:gW p.1
  e:∀ x∈p.1,x ≠ 61
  v:gW p.2
def kvW (p:KVp):L8:=p.1++61::p.2
theorem kvW_g {p:KVp} (h:KvOk p):gW (kvW p):=by
  intro x hx
  simp only [kvW,List.mem_append,List.mem_cons] at hx
  rcases hx with hx | rfl | hx
  · exact h.k x hx
  · decide
  · exact h.v x hx
theorem kvW_ne {p:KVp}:kvW p ≠ []:=by simp [kvW]
theorem kvW_of {p:KVp} (h:KvOk p):kvOf (kvW p)=some (lowS p.1,p.2):=by
  have hno:noB (61:UInt8).toNat p.1:=fun x hx e=>h.e x hx (UInt8.toNat_inj.1 (by exact_mod_cast e))
  have:=cutAt_noB (c:=61) (r:=p.2) hno
  simp only [kvOf,kvW]
  have e61:((61:UInt8).toNat:Int)=61:=rfl
  rw [e61] at this
  rw [this]
  simp only [Option.map_some,gW_trim h.k,gW_trim h.v]

theorem hasK_none {k:L8} {l:List KVp} (h:k ∉ l.map (·.1)):hasK k l=false:=by
  simp only [hasK,List.any_eq_false,decide_eq_true_eq]
  rintro p hp rfl
  exact h (List.mem_map.2 ⟨p,hp,rfl⟩)
theorem prmsOf_kv:∀ (l:List KVp) (acc:List KVp),(∀ p∈l,KvOk p)→((acc++l.map fun p=>(lowS p.1,p.2)).map (·.1)).Nodup→prmsOf (l.map kvW) acc=acc++l.map fun p=>(lowS p.1,p.2)
  | [],acc,_,_=>by simp [prmsOf]
  | p::r,acc,h,nd=>by
    have hp:=h p (by simp)
    have hk:hasK (lowS p.1) acc=false:=by
      refine hasK_none fun hm=>?_
      rw [List.map_append,List.nodup_append] at nd
      exact nd.2.2 _ hm _ (by simp) rfl
    simp only [List.map_cons,prmsOf,kvW_of hp]
    rw [psetL_new hk,prmsOf_kv r _ (fun q hq=>h q (by simp [hq])) (by simpa using nd)]
    simp

structure ResT where
  pre:L8
  head:KVp
  ps:List (L8 × KVp)
def ResT.txt (t:ResT):L8:=t.pre++(kvW t.head++flatW (t.ps.map fun p=>(p.1,kvW p.2)))
structure ResT.Ok (t:ResT):Prop where
  pre:allWs t.pre
  head:KvOk t.head
  ps:∀ p∈t.ps,(p.1 ≠ []∧allWs p.1)∧KvOk p.2
  nd:(t.ps.map fun p=>lowS p.2.1).Nodup
def ResT.prm (t:ResT):List KVp:=t.ps.map fun p=>(lowS p.2.1,p.2.2)
theorem kvW_not_none {p:KVp}:kvW p ≠ sNone0:=by
  intro h
  have:(61:UInt8)∈sNone0:=by rw [← h]; simp [kvW]
  simp [sNone0] at this
theorem ResT.Ok.words {t:ResT} (h:t.Ok) {b:L8} (hb:allWs b):wordsOf (t.txt++b)=kvW t.head::(t.ps.map (·.2)).map kvW:=by
  have e:t.txt++b=t.pre++(kvW t.head++(flatW (t.ps.map fun p=>(p.1,kvW p.2))++b)):=by simp [ResT.txt]
  rw [e,wordsOf_flat h.pre hb kvW_ne (gW_non (kvW_g h.head))]
  · simp
  · intro p hp
    obtain ⟨q,hq,rfl⟩:=List.mem_map.1 hp
    have:=h.ps q hq
    exact ⟨this.1,kvW_ne,gW_non (kvW_g this.2)⟩
theorem ResT.Ok.res {t:ResT} (h:t.Ok) {b:L8} (hb:allWs b) {x:PR} (hx:prOf (lowS t.head.1) (lowS t.head.2) t.prm=.inr x):trimS (t.txt++b) ≠ []∧resAOf (trimS (t.txt++b))=.inr (some x):=by
  have hw:=h.words hb
  have hw2:=wordsOf_trim (t.txt++b)
  rw [hw] at hw2
  refine ⟨fun e=>?_,?_⟩
  · rw [e] at hw2; simp [wordsOf,wordsGo] at hw2
  · have hp:prmsOf ((t.ps.map (·.2)).map kvW) []=t.prm:=by
      rw [prmsOf_kv _ [] (fun p hp=>by obtain ⟨q,hq,rfl⟩:=List.mem_map.1 hp; exact (h.ps q hq).2)]
      · simp [ResT.prm]
      · simpa [Function.comp_def] using h.nd
    simp only [resAOf,hw2]
    rw [if_neg kvW_not_none,kvW_of h.head]
    simp only [hp,hx]
theorem ResT.Ok.no {t:ResT} (h:t.Ok):noB 59 t.txt:=by
  refine noB_app (allWs_no h.pre) (noB_app (gW_no (kvW_g h.head)) ?_)
  intro x hx
  simp only [flatW,List.mem_flatMap,List.mem_map] at hx
  obtain ⟨_,⟨q,hq,rfl⟩,hx⟩:=hx
  have:=h.ps q hq
  rcases List.mem_append.1 hx with hx | hx
  · exact allWs_no this.1.2 x hx
  · exact gW_no (kvW_g this.2) x hx
end Wax


namespace Wax
open Go (IntKind)

def tSmtp:L8:=[115,109,116,112]
def tHeader:L8:=[104,101,97,100,101,114]
def tPolicy:L8:=[112,111,108,105,99,121]
def nAuth:L8:=[97,117,116,104]
def nD:L8:=[100]
def nI:L8:=[105]
def nFrom:L8:=[102,114,111,109]
def nSender:L8:=[115,101,110,100,101,114]
def nIprev:L8:=[105,112,114,101,118]
def nMail:L8:=[109,97,105,108,102,114,111,109]
def nHelo:L8:=[104,101,108,111]
def aVals:List L8:=[[110,111,110,101],[112,97,115,115],[102,97,105,108],[112,111,108,105,99,121],[110,101,117,116,114,97,108],[116,101,109,112,101,114,114,111,114],[112,101,114,109,101,114,114,111,114],[115,111,102,116,102,97,105,108],[104,97,114,100,102,97,105,108]]
def aMeths:List L8:=[sAuth,sDkim,sDomk,sIprev,sSender,sSpf,sDmarc,sArc]

def aPlain (s:L8):Bool:=match cutAt 64 s with
  | none=>mTok s && decide (s.length≤200)
  | some p=>(decide (p.1=[]) || mTok p.1) && mDom p.2 && decide (s.length≤200)
theorem tok_ne {s:L8} (h:mTok s=true):s ≠ []:=by simp only [mTok,Bool.and_eq_true,decide_eq_true_eq] at h; exact h.2
theorem tok_g {s:L8} (h:mTok s=true):gW s:=by
  simp only [mTok,Bool.and_eq_true] at h
  exact fun x hx=>tokB_g (List.all_eq_true.1 h.1 x hx)
theorem aPlain_g {s:L8} (h:aPlain s=true):gW s∧s ≠ []∧s.length≤200:=by
  unfold aPlain at h
  split at h
  · simp only [Bool.and_eq_true,decide_eq_true_eq] at h
    exact ⟨tok_g h.1,tok_ne h.1,h.2⟩
  · rename_i q hq
    simp only [Bool.and_eq_true,Bool.or_eq_true,decide_eq_true_eq] at h
    have e:=cut_mem (c:=64) hq
    refine ⟨?_,by rw [e]; simp,h.2⟩
    rw [e]
    intro x hx
    simp only [List.mem_append,List.mem_cons] at hx
    rcases hx with hx | rfl | hx
    · rcases h.1.1 with h1 | h1
      · rw [h1] at hx; simp at hx
      · exact tok_g h1 x hx
    · decide
    · exact dom_g h.1.2 x hx

def AR.props (r:AR):List (L8 × L8 × L8) :=
  if r.kind=1 then [(tSmtp,nAuth,r.auth)]
  else if r.kind=2 then [(tHeader,nD,r.domain),(tHeader,nI,r.ident)]
  else if r.kind=3 then [(tHeader,nD,r.domain),(tHeader,nFrom,r.fr),(tHeader,nSender,r.sender)]
  else if r.kind=4 then [(tPolicy,nIprev,r.ip)]
  else if r.kind=5 then [(tHeader,r.hkey,r.hval)]
  else if r.kind=6 then [(tSmtp,nMail,r.fr),(tSmtp,nHelo,r.helo)]
  else if r.kind=7 then [(tHeader,nFrom,r.fr)]
  else []
def AR.only (r:AR):AR :=
  if r.kind=0 then { ar0 with kind:=r.kind,value:=r.value,method:=r.method,ps:=r.ps }
  else if r.kind=1 then { ar0 with kind:=r.kind,value:=r.value,reason:=r.reason,auth:=r.auth }
  else if r.kind=2 then { ar0 with kind:=r.kind,value:=r.value,reason:=r.reason,domain:=r.domain,ident:=r.ident }
  else if r.kind=3 then { ar0 with kind:=r.kind,value:=r.value,reason:=r.reason,domain:=r.domain,fr:=r.fr,sender:=r.sender }
  else if r.kind=4 then { ar0 with kind:=r.kind,value:=r.value,reason:=r.reason,ip:=r.ip }
  else if r.kind=5 then { ar0 with kind:=r.kind,value:=r.value,reason:=r.reason,hkey:=r.hkey,hval:=r.hval }
  else if r.kind=6 then { ar0 with kind:=r.kind,value:=r.value,reason:=r.reason,fr:=r.fr,helo:=r.helo }
  else if r.kind=7 then { ar0 with kind:=r.kind,value:=r.value,reason:=r.reason,fr:=r.fr }
  else { ar0 with kind:=r.kind,value:=r.value,reason:=r.reason }
def AR.meth (r:AR):L8:=if r.kind=0 then r.method else aMeths.getD (r.kind - 1).toNat []
def rPs (s:L8):List KVp:=if s=[] then [] else [(qReason,s)]
def AR.prm (r:AR):List KVp:=rPs r.reason++(if r.kind=0 then r.ps.getD [] else r.props.map fun p=>(p.1++46::p.2.1,p.2.2))

end Wax


namespace Wax
open Go (IntKind)

def nx (fm:L8) (k:Nat):Nat:=if fm=[] then 0 else (fm.getD (k % fm.length) 0).toNat

theorem smtp_t:gW tSmtp∧(∀ x∈tSmtp,x ≠ 61)∧lowS tSmtp=tSmtp:=⟨by simp only [gW]; decide,by decide,by decide⟩
theorem header_t:gW tHeader∧(∀ x∈tHeader,x ≠ 61)∧lowS tHeader=tHeader:=⟨by simp only [gW]; decide,by decide,by decide⟩
theorem policy_t:gW tPolicy∧(∀ x∈tPolicy,x ≠ 61)∧lowS tPolicy=tPolicy:=⟨by simp only [gW]; decide,by decide,by decide⟩
theorem props_t {r:AR}:∀ p∈r.props,(gW p.1∧(∀ x∈p.1,x ≠ 61)∧lowS p.1=p.1)∧46 ∉ p.1∧p.1 ≠ []:=by
  intro p hp
  unfold AR.props at hp
  repeat' split at hp
  all_goals
    simp only [List.mem_cons,List.not_mem_nil,or_false] at hp
    try (rcases hp with rfl | rfl | rfl)
    try (rcases hp with rfl | rfl)
    try subst hp
  all_goals try (first | exact ⟨smtp_t,(show ¬ 46∈tSmtp by decide),(show tSmtp ≠ [] by decide)⟩ | exact ⟨header_t,(show ¬ 46∈tHeader by decide),(show tHeader ≠ [] by decide)⟩ | exact ⟨policy_t,(show ¬ 46∈tPolicy by decide),(show tPolicy ≠ [] by decide)⟩)
theorem key_ne_reason {t n:L8}:t++46::n ≠ qReason:=by
  intro h
  have:(46:UInt8)∈qReason:=by rw [← h]; simp
  revert this; decide
end Wax


namespace Wax
open Go (IntKind)

@[simp] theorem slP_none:slP none=.nilS:=rfl
def con_AValues:List AV→Option AV
  | []=>some (.sl 1 (strsA aVals))
  | _=>none
theorem ok_AValues (Γ:Gam):∀ args r,con_AValues args=some r→runs Γ c_spec_AValues args (fun v=>v=r):=by
  intro args r h
  cases args <;> simp [con_AValues] at h
  subst h
  simp -implicitDefEqProofs [c_spec_AValues,aVals,snap,resolveA]
def con_AMethods:List AV→Option AV
  | []=>some (.sl 1 (strsA aMeths))
  | _=>none
theorem ok_AMethods (Γ:Gam):∀ args r,con_AMethods args=some r→runs Γ c_spec_AMethods args (fun v=>v=r):=by
  intro args r h
  cases args <;> simp [con_AMethods] at h
  subst h
  simp -implicitDefEqProofs [c_spec_AMethods,aMeths,sAuth,sDkim,sDomk,sIprev,sSender,sSpf,sDmarc,sArc,snap,resolveA]
def con_APlain:List AV→Option AV
  | [.str s]=>if s.length < mid then some (.bool (aPlain s)) else none
  | _=>none
theorem ok_APlain (Γ:Gam) (h102:Γ.fn 102=con_MailHalves) (h104:Γ.fn 104=con_MailToken) (h105:Γ.fn 105=con_MailDomain):∀ args r,con_APlain args=some r→runs Γ c_spec_APlain args (fun v=>v=r):=by
  intro args r h
  simp only [con_APlain] at h
  split at h <;> (try simp at h; done)
  rename_i s
  obtain ⟨hs,rfl⟩:=ite_some h
  clear h
  have hs':s.length < big:=by simp only [mid] at hs; simp only [big]; omega
  have k102:con_MailHalves [.str s,.int .u8 64]=some (cutV 64 s):=if_pos hs'
  have hI:decide ((s.length:Int)≤200)=decide (s.length≤200):=by rw [decide_eq_decide]; omega
  cases hc:cutAt 64 s with
  | none =>
    have k104:con_MailToken [.str s]=some (.bool (mTok s)):=if_pos hs'
    simp only [aPlain,hc]
    cases ht:mTok s with
    | false =>
      rw [ht] at k104
      simp -implicitDefEqProofs [c_spec_APlain,acall,h102,k102,cutV,hc,h104,k104]
    | true =>
      rw [ht] at k104
      simp -implicitDefEqProofs [c_spec_APlain,acall,h102,k102,cutV,hc,h104,k104,hI]
  | some p =>
    obtain ⟨l1,l2⟩:=cutAt_lens hc
    have k104:con_MailToken [.str p.1]=some (.bool (mTok p.1)):=if_pos (by omega)
    have k105:con_MailDomain [.str p.2]=some (.bool (mDom p.2)):=if_pos (by omega)
    simp only [aPlain,hc]
    by_cases hp:p.1=[]
    · cases hd:mDom p.2 with
      | false =>
        rw [hd] at k105
        simp -implicitDefEqProofs [c_spec_APlain,acall,h102,k102,cutV,hc,h104,k104,h105,k105,hp]
      | true =>
        rw [hd] at k105
        simp -implicitDefEqProofs [c_spec_APlain,acall,h102,k102,cutV,hc,h104,k104,h105,k105,hp,hI]
    · cases ht:mTok p.1 with
      | false =>
        rw [ht] at k104
        simp -implicitDefEqProofs [c_spec_APlain,acall,h102,k102,cutV,hc,h104,k104,h105,k105,hp]
      | true =>
        rw [ht] at k104
        cases hd:mDom p.2 with
        | false =>
          rw [hd] at k105
          simp -implicitDefEqProofs [c_spec_APlain,acall,h102,k102,cutV,hc,h104,k104,h105,k105,hp]
        | true =>
          rw [hd] at k105
          simp -implicitDefEqProofs [c_spec_APlain,acall,h102,k102,cutV,hc,h104,k104,h105,k105,hp,hI]

def tr3 (l:List (L8 × L8 × L8)):List AV:=l.map fun p=>.agg [.str p.1,.str p.2.1,.str p.2.2]
def tc3 (l:List (L8 × L8 × L8)):List AV:=l.flatMap fun p=>[.str p.1,.str p.2.1,.str p.2.2]
@[simp] theorem tr3_nil:tr3 []=[]:=rfl
@[simp] theorem tr3_cons {x l}:tr3 (x::l)=.agg [.str x.1,.str x.2.1,.str x.2.2]::tr3 l:=rfl
@[simp] theorem tr3_length {l}:(tr3 l).length=l.length:=by simp [tr3]
@[simp] theorem tc3_nil:tc3 []=[]:=rfl
@[simp] theorem tc3_cons {x:L8 × L8 × L8} {l}:tc3 (x::l)=.str x.1::.str x.2.1::.str x.2.2::tc3 l:=rfl
@[simp] theorem tc3_app {l m}:tc3 (l++m)=tc3 l++tc3 m:=by simp [tc3]
@[simp] theorem tc3_length {l:List (L8 × L8 × L8)}:(tc3 l).length=l.length * 3:=by induction l <;> simp_all; omega
@[simp] theorem atoms_tc3 {l}:atoms (tc3 l)=true:=by induction l <;> simp_all
@[simp] theorem killL_tc3 {d l}:killL d (tc3 l)=tc3 l:=by induction l <;> simp_all
@[simp] theorem map_snap_tc3 {n:Nat} {hp:List (Nat × AObj)} {l}:(tc3 l).map (snap (n+1) hp)=tc3 l:=by induction l <;> simp_all
@[simp] theorem snapWL_tc3 {g:AV→AV} {l}:snapWL g (tc3 l)=tc3 l:=by induction l <;> simp_all
@[simp] theorem hasRefL_tr3 {l}:hasRefL (tr3 l)=false:=by induction l <;> simp_all
@[simp] theorem group_tc3:∀ {l:List (L8 × L8 × L8)},group 3 l.length (tc3 l)=tr3 l
  | []=>rfl
  | x::l=>by simp [group,group_tc3 (l:=l)]
def tripV (l:List (L8 × L8 × L8)):AV:=match l with | []=>.nilS | _=>.sl 3 (tr3 l)

def con_AProps:List AV→Option AV
  | [.agg cs]=>(asAR cs).map fun r=>tripV r.props
  | _=>none
set_option maxHeartbeats 1000000 in
theorem ok_AProps (Γ:Gam):∀ args r,con_AProps args=some r→runs Γ c_spec_AProps args (fun v=>v=r):=by
  intro args r h
  simp only [con_AProps] at h
  split at h <;> (try simp at h; done)
  rename_i cs
  simp only [Option.map_eq_some_iff] at h
  obtain ⟨r,hr,rfl⟩:=h
  rw [asAR_spec hr]
  have cu:=slP_cells r.ps
  simp only [cells] at cu
  by_cases h1:r.kind=1
  · simp -implicitDefEqProofs [c_spec_AProps,AR.cells,cu,h1,AR.props,tripV,group,tSmtp,nAuth]
  by_cases h2:r.kind=2
  · simp -implicitDefEqProofs [c_spec_AProps,AR.cells,cu,h2,AR.props,tripV,group,tHeader,nD,nI]
  by_cases h3:r.kind=3
  · simp -implicitDefEqProofs [c_spec_AProps,AR.cells,cu,h3,AR.props,tripV,group,tHeader,nD,nFrom,nSender]
  by_cases h4:r.kind=4
  · simp -implicitDefEqProofs [c_spec_AProps,AR.cells,cu,h4,AR.props,tripV,group,tPolicy,nIprev]
  by_cases h5:r.kind=5
  · simp -implicitDefEqProofs [c_spec_AProps,AR.cells,cu,h5,AR.props,tripV,group,tHeader]
  by_cases h6:r.kind=6
  · simp -implicitDefEqProofs [c_spec_AProps,AR.cells,cu,h6,AR.props,tripV,group,tSmtp,nMail,nHelo]
  by_cases h7:r.kind=7
  · simp -implicitDefEqProofs [c_spec_AProps,AR.cells,cu,h7,AR.props,tripV,group,tHeader,nFrom]
  simp -implicitDefEqProofs [c_spec_AProps,AR.cells,cu,h1,h2,h3,h4,h5,h6,h7,AR.props,tripV,group]

def con_AOnly:List AV→Option AV
  | [.agg cs]=>(asAR cs).map fun r=>.agg r.only.cells
  | _=>none
set_option maxHeartbeats 2000000 in
theorem ok_AOnly (Γ:Gam):∀ args r,con_AOnly args=some r→runs Γ c_spec_AOnly args (fun v=>v=r):=by
  intro args r h
  simp only [con_AOnly] at h
  split at h <;> (try simp at h; done)
  rename_i cs
  simp only [Option.map_eq_some_iff] at h
  obtain ⟨r,hr,rfl⟩:=h
  rw [asAR_spec hr]
  have cu:=slP_cells r.ps
  simp only [cells] at cu
  by_cases h0:r.kind=0
  · simp -implicitDefEqProofs [c_spec_AOnly,AR.cells,cu,h0,AR.only,ar0]
  by_cases h1:r.kind=1
  · simp -implicitDefEqProofs [c_spec_AOnly,AR.cells,cu,h1,AR.only,ar0]
  by_cases h2:r.kind=2
  · simp -implicitDefEqProofs [c_spec_AOnly,AR.cells,cu,h2,AR.only,ar0]
  by_cases h3:r.kind=3
  · simp -implicitDefEqProofs [c_spec_AOnly,AR.cells,cu,h3,AR.only,ar0]
  by_cases h4:r.kind=4
  · simp -implicitDefEqProofs [c_spec_AOnly,AR.cells,cu,h4,AR.only,ar0]
  by_cases h5:r.kind=5
  · simp -implicitDefEqProofs [c_spec_AOnly,AR.cells,cu,h5,AR.only,ar0]
  by_cases h6:r.kind=6
  · simp -implicitDefEqProofs [c_spec_AOnly,AR.cells,cu,h6,AR.only,ar0]
  by_cases h7:r.kind=7
  · simp -implicitDefEqProofs [c_spec_AOnly,AR.cells,cu,h7,AR.only,ar0]
  simp -implicitDefEqProofs [c_spec_AOnly,AR.cells,cu,h0,h1,h2,h3,h4,h5,h6,h7,AR.only,ar0]
end Wax


namespace Wax
open Go (IntKind)

def halfP (s:L8):L8 × L8:=match cutAt 46 s with | some q=>q | none=>(s,[])
def AR.iprops (r:AR):List (L8 × L8 × L8):=if r.kind=0 then (r.ps.getD []).map fun p=>((halfP p.1).1,(halfP p.1).2,p.2) else r.props
def infoV (r:AR):AV:=.agg [.str r.meth,.str [],.str r.value,.str r.reason,tripV r.iprops]
def con_AInfoOf:List AV→Option AV
  | [.agg cs]=>match asAR cs with
    | some r=>if 0≤r.kind∧r.kind≤8∧(r.kind=0→(r.ps.getD []).length < half∧(∀ p∈r.ps.getD [],p.1.length < big)) then some (infoV r) else none
    | none=>none
  | _=>none

theorem tripV_ref (l:List (L8 × L8 × L8)):hasRef (tripV l)=false:=by cases l <;> simp [tripV,← tr3_cons,-tr3_cons]
theorem tripV_cells (l:List (L8 × L8 × L8)):cells (tripV l)=[tripV l]:=by cases l <;> rfl
theorem tripV_atom (l:List (L8 × L8 × L8)):atom (tripV l)=true:=by cases l <;> rfl
theorem tripV_kill (l:List (L8 × L8 × L8)) (d:Nat):kill d (tripV l)=tripV l:=by cases l <;> rfl

set_option maxHeartbeats 2000000 in
theorem ok_AInfoOf (Γ:Gam) (h200:Γ.fn 200=con_AMethods) (h201:Γ.fn 201=con_AProps) (h102:Γ.fn 102=con_MailHalves):∀ args r,con_AInfoOf args=some r→runs Γ c_spec_AInfoOf args (fun v=>v=r):=by
  intro args r h
  simp only [con_AInfoOf] at h
  split at h <;> (try simp at h; done)
  rename_i cs
  split at h <;> (try simp at h; done)
  rename_i r hr
  obtain ⟨⟨hk0,hk8,hpk⟩,rfl⟩:=ite_some h
  clear h
  rw [asAR_spec hr]
  clear hr cs
  have cu:=slP_cells r.ps
  simp only [cells] at cu
  by_cases h0:r.kind=0
  · obtain ⟨hps,hkl⟩:=hpk h0
    clear hpk
    have hm:r.meth=r.method:=by simp only [AR.meth,h0,if_true]
    have hi:r.iprops=(r.ps.getD []).map fun p=>((halfP p.1).1,(halfP p.1).2,p.2):=by simp only [AR.iprops,h0,if_true]
    have ha:=slP_alen r.ps
    simp only [infoV,hm,hi]
    have hcase:r.ps.getD []=[]∨r.ps=some (r.ps.getD []):=by cases r.ps <;> simp
    generalize hL:r.ps.getD []=L at *
    simp only [half] at hps
    simp -implicitDefEqProofs [-alen,c_spec_AInfoOf,AR.cells,cu,h0,ha,hL]
    refine awp_loop2 (σ:=List KVp × List KVp) (fun q=>⟨[(2,.ref 2 0),(3,.ref 3 0),(20,slP r.ps),(21,.int .i64 L.length),(22,.int .i64 q.1.length)],grH 41 q.1.length (tc3 (q.1.map fun p=>((halfP p.1).1,(halfP p.1).2,p.2)))++[(3,.cells [.str r.method,.str [],.str r.value,.str r.reason,grV 41 3 q.1.length]),(2,.cells [.str [],.str [],.str [],.str [],.nilS])]⟩)
      (fun q=>L=q.1++q.2) (fun q=>q.2.length) ([],L) (by simp) (by simp) ?_
    rintro ⟨pre,post⟩ e1 LQ hLQ
    simp only at e1
    cases post with
    | nil =>
      simp only [List.append_nil] at e1
      subst e1
      have hnl:¬ ((L.length:Int) < (L.length:Int)):=by omega
      cases L with
      | nil=>simp -implicitDefEqProofs [b_spec_AInfoOf_1,t_spec_AInfoOf_2,tripV]
      | cons x L =>
        have hg:=group_tc3 (l:=(x::L).map fun p=>((halfP p.1).1,(halfP p.1).2,p.2))
        simp only [List.length_map,List.length_cons,List.map_cons,tc3_cons,tr3_cons] at hg
        simp -implicitDefEqProofs [b_spec_AInfoOf_1,t_spec_AInfoOf_2,tripV,hg]
        try omega
    | cons x post =>
      have hs:=hcase.resolve_left (by rw [e1]; simp)
      rw [hs] at hLQ ⊢
      simp only [slP] at hLQ ⊢
      have hlen:L.length=pre.length+(post.length+1):=by rw [e1]; simp
      have hlt:(pre.length:Int) < (L.length:Int):=by omega
      have g:L[pre.length]? = some x:=by rw [e1]; exact get_mid rfl
      have g2:(pr2 L)[pre.length]? = some (.agg [.str x.1,.str x.2]):=by simp [pr2,g]
      have ew:IntKind.i64.wrap ((pre.length:Int)+1)=(pre.length:Int)+1:=wrap64 (by omega) (by omega)
      have k102:con_MailHalves [.str x.1,.int .u8 46]=some (cutV 46 x.1):=if_pos (hkl x (by rw [e1]; simp))
      obtain ⟨z,hz⟩:∃ z:L8 × L8 × AV,cutV 46 x.1=.tup [.str z.1,.str z.2.1,z.2.2]∧halfP x.1=(z.1,z.2.1):=by
        simp only [cutV,halfP]
        cases hc:cutAt 46 x.1 with
        | none=>exact ⟨(x.1,[],.bool false),rfl,rfl⟩
        | some q=>exact ⟨(q.1,q.2,.bool true),rfl,rfl⟩
      rw [hz.1] at k102
      have hz3:hasRef z.2.2=false:=by
        have h1:=hz.1
        simp only [cutV] at h1
        cases hc:cutAt 46 x.1 with
        | none=>rw [hc] at h1; simp at h1; rw [← h1.2.2]; rfl
        | some q=>rw [hc] at h1; simp at h1; rw [← h1.2.2]; rfl
      have f:∀ st,norm [2,3,20,21,22] st=⟨[(2,.ref 2 0),(3,.ref 3 0),(20,.sl 2 (pr2 L)),(21,.int .i64 L.length),(22,.int .i64 ((pre.length:Int)+1))],[(41,.cells (tc3 (pre.map fun p=>((halfP p.1).1,(halfP p.1).2,p.2))++[.str z.1,.str z.2.1,.str x.2])),(3,.cells [.str r.method,.str [],.str r.value,.str r.reason,.msl 41 3 0 (pre.length+1)]),(2,.cells [.str [],.str [],.str [],.str [],.nilS])]⟩→LQ st:=by
        intro st hst
        refine hLQ (pre++[x],post) (by rw [e1]; simp) (by simp) st ?_
        rw [hst]; simp [hz.2]
      cases pre with
      | nil =>
        simp only [List.nil_append] at e1
        subst e1
        have ew0:IntKind.i64.wrap 1=1:=rfl
        have hl0:(0:Int) < (post.length:Int)+1:=by omega
        simp -implicitDefEqProofs [b_spec_AInfoOf_1,hl0,ew0,acall,h102,k102,hz3]
        exact f _ (by simp)
      | cons y pre =>
        have hln2:L.length=pre.length+1+(post.length+1):=hlen
        have hlt1:(pre.length:Int)+1 < (L.length:Int):=by omega
        have g1:L[pre.length+1]? = some x:=g
        have g3:(pr2 L)[pre.length+1]? = some (.agg [.str x.1,.str x.2]):=g2
        have ew1:IntKind.i64.wrap ((pre.length:Int)+1+1)=(pre.length:Int)+1+1:=wrap64 (by omega) (by omega)
        have et:((pre.length:Int)+1).toNat=pre.length+1:=by omega
        have hle:(0:Int)≤(pre.length:Int)+1:=by omega
        have tk:List.take ((pre.length+1) * 3) (AV.str (halfP y.1).1::AV.str (halfP y.1).2::AV.str y.2::tc3 (pre.map fun p=>((halfP p.1).1,(halfP p.1).2,p.2)))=AV.str (halfP y.1).1::AV.str (halfP y.1).2::AV.str y.2::tc3 (pre.map fun p=>((halfP p.1).1,(halfP p.1).2,p.2)):=List.take_of_length_le (by simp; omega)
        simp -implicitDefEqProofs [b_spec_AInfoOf_1,hlt1,g1,g3,ew1,et,hle,acall,h102,k102,hz3,tk]
        exact ⟨⟨by omega,by omega⟩,f _ (by simp)⟩
  · have hi:r.iprops=r.props:=by simp only [AR.iprops,if_neg h0]
    obtain ⟨q,hq,hqm⟩:∃ q:Nat,r.kind - 1=(q:Int)∧aMeths[q]? = some r.meth:=by
      refine ⟨(r.kind - 1).toNat,by omega,?_⟩
      have hlt:(r.kind - 1).toNat < aMeths.length:=by simp [aMeths]; omega
      simp only [AR.meth,if_neg h0,List.getD_eq_getElem?_getD,List.getElem?_eq_getElem hlt,Option.getD_some]
    have ew:IntKind.i64.wrap (r.kind - 1)=(q:Int):=by rw [wrap64 (by omega) (by omega)]; exact hq
    have k200:con_AMethods []=some (.sl 1 (strsA aMeths)):=rfl
    have k201:con_AProps [.agg r.cells]=some (tripV r.props):=by simp [con_AProps,asAR_cells]
    have tr:=tripV_ref r.props
    have tc:=tripV_cells r.props
    have ta:=tripV_atom r.props
    have tk:=tripV_kill r.props
    simp only [cells] at tc
    simp only [infoV,hi]
    generalize tripV r.props=V at *
    generalize hM:aMeths=Ms at *
    generalize r.meth=m at *
    simp only [AR.cells] at k201
    simp -implicitDefEqProofs [c_spec_AInfoOf,t_spec_AInfoOf_3,AR.cells,cu,h0,acall,h200,k200,h201,k201,ew,hqm,tr,tc,ta,tk]

end Wax


namespace Wax
@[simp 2000] theorem guardK_tt {Γ:Gam} {dst:Option Nat} {op:SOp} {g:Nat} {r:List SO} {dd:List (List Nat)} {st:St} {K:St→Prop}:guardK (.bool true) Γ dst op g true r dd st K=opsK Γ (⟨dst,op,none⟩::r) dd ⟨(g,.bool true)::st.fr,st.hp⟩ K:=by simp [guardK]
@[simp 2000] theorem guardK_ff {Γ:Gam} {dst:Option Nat} {op:SOp} {g:Nat} {r:List SO} {dd:List (List Nat)} {st:St} {K:St→Prop}:guardK (.bool false) Γ dst op g false r dd st K=opsK Γ (⟨dst,op,none⟩::r) dd ⟨(g,.bool false)::st.fr,st.hp⟩ K:=by simp [guardK]
@[simp 2000] theorem guardK_tf {Γ:Gam} {dst:Option Nat} {op:SOp} {g:Nat} {r:List SO} {dd:List (List Nat)} {st:St} {K:St→Prop}:guardK (.bool true) Γ dst op g false r dd st K=opsK Γ r (dTl dd) ⟨rmF (dHd dd) (putS ((g,.bool true)::st.fr) dst (.tup [])),st.hp⟩ K:=by simp [guardK]
@[simp 2000] theorem guardK_ft {Γ:Gam} {dst:Option Nat} {op:SOp} {g:Nat} {r:List SO} {dd:List (List Nat)} {st:St} {K:St→Prop}:guardK (.bool false) Γ dst op g true r dd st K=opsK Γ r (dTl dd) ⟨rmF (dHd dd) (putS ((g,.bool false)::st.fr) dst (.tup [])),st.hp⟩ K:=by simp [guardK]
end Wax


namespace Wax
open Go

def lkF:List (Nat × SFn)→Nat→Option SFn
  | [],_=>none
  | (i,v)::r,j=>if i == j then some v else lkF r j

inductive TbOk (P:Program) (T:Tab):List (Nat × SFn)→Prop where
  | nil:TbOk P T []
  | cons {f g:Nat} {fn:Func} {sfn:SFn} {L:Lay} {r:List (Nat × SFn)} (hf:lkN T.fns f=some g) (hb:hasBody P f=true) (hfn:P.funcs[f]? = some fn) (hc:compFn P T L fn=some sfn) (hr:TbOk P T r):TbOk P T ((g,sfn)::r)

theorem TbOk.get {P:Program} {T:Tab}:∀ {tb:List (Nat × SFn)},TbOk P T tb→∀ {g:Nat} {sfn:SFn},lkF tb g=some sfn→∃ f fn L,lkN T.fns f=some g∧hasBody P f=true∧P.funcs[f]? = some fn∧compFn P T L fn=some sfn
  | _,.nil,g,sfn,h=>by simp [lkF] at h
  | _,.cons (f:=f) (fn:=fn) (L:=L) hf hb hfn hc hr,g,sfn,h=>by
    simp only [lkF] at h
    split at h
    · rename_i e
      simp only [beq_iff_eq] at e
      simp only [Option.some.injEq] at h
      subst e; subst h
      exact ⟨f,fn,L,hf,hb,hfn,hc⟩
    · exact hr.get h

end Wax


namespace Wax
open Go
def aIn:List UInt8:=[97,59,32,100,107,105,109,61,112,97,115,115,32,104,101,97,100,101,114,46,100,61,98]
def aOut:AV:=.tup [.str [97],.sl 16 [.agg [.int .i64 2,.str [],.str [112,97,115,115],.str [],.str [98],.str [],.str [],.str [],.str [],.str [],.str [],.str [],.str [],.str [],.int .i64 0,.nilS]],.bool true]
end Wax


namespace Wax
open Go (IntKind)
def tIn:L8:=[118,61,68,77,65,82,67,49,59,32,112,61,110,111,110,101]
def con_awake:List AV→Option AV
  | []=>some (.bool true)
  | _=>none
theorem tIn_ok:mpV (mdText tIn)=.tup [.agg (MR.cells { mr0 with adkim:=sR,aspf:=sR,p:=sNone }),.bool true]:=by rfl
end Wax


namespace Wax
open Go (IntKind)

theorem adIn:adText aIn=some ([97],[.dkim [112,97,115,115] [] [98] []]):=by kernel_rfl
theorem au_ok_awake (Γ:Gam) (h144:Γ.fn 144=con_AParse) (h133:Γ.fn 133=con_MParse):∀ args r,con_awake args=some r→runs Γ c_laws_awake args (fun v=>v=r):=by
  intro args r h
  simp only [con_awake] at h
  split at h <;> (try simp at h; done)
  injection h with h
  subst h
  have k:con_AParse [.str [97,59,32,100,107,105,109,61,112,97,115,115,32,104,101,97,100,101,114,46,100,61,98]]=some aOut:=by
    have e:aIn.length < qtr∧plain aIn=true:=⟨by simp [aIn,qtr],by kernel_rfl⟩
    show con_AParse [.str aIn]=_
    simp only [con_AParse]
    rw [if_pos e,adIn]
    rfl
  have k2:con_MParse [.str tIn]=some (.tup [.agg (MR.cells { mr0 with adkim:=sR,aspf:=sR,p:=sNone }),.bool true]):=by
    have e:tIn.length < mid∧plain tIn=true:=⟨by simp [tIn,mid],by kernel_rfl⟩
    simp only [con_MParse]
    rw [if_pos e,tIn_ok]
  simp only [aOut] at k
  simp only [MR.cells,mr0,slO_none,tIn,sR,sNone] at k2
  simp -implicitDefEqProofs [c_laws_awake,acall,h144,h133,k,k2,sNone]

end Wax


namespace Wax
open Go (IntKind)

def asARs:List AV→Option (List AR)
  | []=>some []
  | .agg cs::r=>match asAR cs,asARs r with
    | some x,some l=>some (x::l)
    | _,_=>none
  | _::_=>none
def slAR:AV→Option (List AR)
  | .nilS=>some []
  | .sl es xs=>if es=16 then asARs xs else none
  | _=>none
theorem asARs_arA:∀ l,asARs (arA l)=some l
  | []=>rfl
  | x::l=>by simp [asARs,asAR_cells,asARs_arA l]
theorem asARs_spec:∀ {xs:List AV} {l:List AR},asARs xs=some l→xs=arA l
  | [],l,h=>by simp [asARs] at h; subst h; rfl
  | v::r,l,h=>by
    unfold asARs at h
    split at h
    · rename_i e; simp at e
    · rename_i cs r' e
      simp at e; obtain ⟨rfl,rfl⟩:=e
      split at h
      · rename_i x l' h1 h2
        simp at h; subst h
        rw [asAR_spec h1,asARs_spec h2]; rfl
      · simp at h
    · simp at h
theorem slAR_cases {v:AV} {l} (h:slAR v=some l):(v=.nilS∧l=[])∨v=.sl 16 (arA l):=by
  cases v <;> simp [slAR] at h
  · left; exact ⟨rfl,h⟩
  · right; obtain ⟨e,h⟩:=h; rw [asARs_spec h,e]
section
variable {u:AV} {l:List AR} (h:slAR u=some l)
include h
theorem sar_kill (d:Nat):kill d u=u:=by rcases slAR_cases h with ⟨rfl,_⟩ | rfl <;> rfl
theorem sar_snapW (g:AV→AV):snapW g u=u:=by rcases slAR_cases h with ⟨rfl,_⟩ | rfl <;> rfl
theorem sar_alen (hp:List (Nat × AObj)):alen hp 1 u=some l.length:=by rcases slAR_cases h with ⟨rfl,rfl⟩ | rfl <;> simp [alen]
theorem sar_ne (hn:l ≠ []):u=.sl 16 (arA l):=by
  rcases slAR_cases h with ⟨_,rfl⟩ | rfl
  · exact absurd rfl hn
  · rfl
end
theorem slAR_arV (l:List AR):slAR (arV l)=some l:=by cases l <;> simp [arV,slAR,← arA_cons,asARs_arA,-arA_cons]

end Wax


namespace Wax
open Go (IntKind)

def con_zzFits4:List AV→Option AV
  | [.agg [.str a,.str b]]=>some (.bool (fits14 a b))
  | _=>none
theorem ok_zzFits4 (Γ:Gam):∀ args r,con_zzFits4 args=some r→runs Γ c_laws_zzFits4 args (fun v=>v=r):=by
  intro args r h
  simp only [con_zzFits4] at h
  split at h <;> simp at h
  rename_i a b
  subst h
  by_cases h1:(2147483647:Int) < (a.length:Int)
  · have e:¬ a.length≤2147483647:=by omega
    simp -implicitDefEqProofs [c_laws_zzFits4,h1,fits14,e]
  · have e:a.length≤2147483647:=by omega
    by_cases h2:(2147483647:Int) < (b.length:Int)
    · have e2:¬ b.length≤2147483647:=by omega
      simp -implicitDefEqProofs [c_laws_zzFits4,h1,h2,fits14,e,e2]
    · have e2:b.length≤2147483647:=by omega
      simp -implicitDefEqProofs [c_laws_zzFits4,h1,h2,fits14,e,e2]


def con_zzFits3:List AV→Option AV
  | [u]=>match slPairs u with
    | some l=>if l.length < 9223372036854775808 then some (.bool (fits13 l)) else none
    | none=>none
  | _=>none
theorem ok_zzFits3 (Γ:Gam) (h211:Γ.fn 211=con_zzFits4):∀ args r,con_zzFits3 args=some r→runs Γ c_laws_zzFits3 args (fun v=>v=r):=by
  intro args r h
  simp only [con_zzFits3] at h
  split at h <;> (try simp at h; done)
  rename_i u
  split at h <;> (try simp at h; done)
  rename_i l hl
  obtain ⟨h1,rfl⟩:=ite_some h
  clear h
  by_cases hb:(2147483647:Int) < (l.length:Int)
  · have e:¬ l.length≤2147483647:=by omega
    simp -implicitDefEqProofs [-alen,c_laws_zzFits3,slp_alen hl,hb,fits13,e]
  · have e:l.length≤2147483647:=by omega
    simp -implicitDefEqProofs [-alen,c_laws_zzFits3,slp_alen hl,hb]
    refine awp_loop2 (σ:=List KVp × List KVp) (fun p=>⟨[(8,u),(9,.int .i64 l.length),(10,.int .i64 p.1.length)],[]⟩)
      (fun p=>l=p.1++p.2∧(p.1.all fun t=>fits14 t.1 t.2)=true) (fun p=>p.2.length) ([],l) (by simp) (by simp) ?_
    rintro ⟨pre,post⟩ ⟨e1,e2⟩ LQ hLQ
    simp only at e1 e2
    cases post with
    | nil =>
      simp only [List.append_nil] at e1
      subst e1
      have:fits13 l=true:=by simp only [fits13,e2,e]; rfl
      simp -implicitDefEqProofs [b_laws_zzFits3_1,t_laws_zzFits3_2,this]
    | cons x post =>
      obtain ⟨a,b⟩:=x
      have hu:=slp_ne hl (by rw [e1]; simp)
      subst hu
      have hlen:l.length=pre.length+(post.length+1):=by rw [e1]; simp
      have hlt:(pre.length:Int) < (l.length:Int):=by omega
      have ew:IntKind.i64.wrap ((pre.length:Int)+1)=(pre.length:Int)+1:=wrap64 (by omega) (by omega)
      have g:l[pre.length]? = some (a,b):=by rw [e1]; exact get_mid rfl
      cases hf:fits14 a b with
      | true =>
        simp -implicitDefEqProofs [b_laws_zzFits3_1,hlt,g,acall,h211,con_zzFits4,hf,ew]
        exact hLQ (pre++[(a,b)],post) ⟨by rw [e1]; simp,by simp only [List.all_append,e2,List.all_cons,hf]; rfl⟩ (by simp) _ (by simp)
      | false =>
        have:fits13 l=false:=by
          have:(l.all fun t=>fits14 t.1 t.2)=false:=by rw [e1]; simp [hf]
          simp only [fits13,this,Bool.and_false]
        simp -implicitDefEqProofs [b_laws_zzFits3_1,hlt,g,acall,h211,con_zzFits4,hf,this]


def lenB (s:L8):Bool:=decide (s.length≤2147483647)
def fit2 (r:AR):Bool:=lenB r.method && (lenB r.value && (lenB r.reason && (lenB r.domain && (lenB r.ident && (lenB r.fr && (lenB r.sender && (lenB r.ip && (lenB r.helo && (lenB r.auth && (lenB r.hkey && (lenB r.hval && (lenB r.remote && fits13 (r.ps.getD [])))))))))))))
def con_zzFits2:List AV→Option AV
  | [.agg cs]=>match asAR cs with
    | some r=>if (r.ps.getD []).length < 9223372036854775808 then some (.bool (fit2 r)) else none
    | none=>none
  | _=>none
theorem lenB_f {s:L8} (h:(2147483647:Int) < (s.length:Int)):lenB s=false:=decide_eq_false (by omega)
theorem lenB_t {s:L8} (h:¬ (2147483647:Int) < (s.length:Int)):lenB s=true:=decide_eq_true (by omega)
set_option maxRecDepth 100000 in
set_option maxHeartbeats 4000000 in
theorem ok_zzFits2 (Γ:Gam) (h210:Γ.fn 210=con_zzFits3):∀ args r,con_zzFits2 args=some r→runs Γ c_laws_zzFits2 args (fun v=>v=r):=by
  intro args r h
  simp only [con_zzFits2] at h
  split at h <;> (try simp at h; done)
  rename_i cs
  split at h <;> (try simp at h; done)
  rename_i r hr
  obtain ⟨h1,rfl⟩:=ite_some h
  clear h
  rw [asAR_spec hr]
  obtain ⟨kind,method,value,reason,domain,ident,fr,sender,ip,helo,auth,hkey,hval,remote,oldest,ps⟩:=r
  simp only at h1
  have k3:con_zzFits3 [slP ps]=some (.bool (fits13 (ps.getD []))):=by
    simp only [con_zzFits3,slP_pairs]
    exact if_pos h1
  have cu:=slP_cells ps
  simp only [cells] at cu
  have ca:=slP_atom ps
  have cr:=slP_ref ps
  have ck:=slP_kill ps
  simp only [fit2,AR.cells]
  by_cases q0:(2147483647:Int) < (method.length:Int)
  · have e:=lenB_f q0
    simp -implicitDefEqProofs [c_laws_zzFits2,cu,ca,cr,ck,q0,e]
  have e0:=lenB_t q0
  simp only [e0,Bool.true_and]
  by_cases q1:(2147483647:Int) < (value.length:Int)
  · have e:=lenB_f q1
    simp -implicitDefEqProofs [c_laws_zzFits2,cu,ca,cr,ck,q0,q1,e]
  have e1:=lenB_t q1
  simp only [e1,Bool.true_and]
  by_cases q2:(2147483647:Int) < (reason.length:Int)
  · have e:=lenB_f q2
    simp -implicitDefEqProofs [c_laws_zzFits2,cu,ca,cr,ck,q0,q1,q2,e]
  have e2:=lenB_t q2
  simp only [e2,Bool.true_and]
  by_cases q3:(2147483647:Int) < (domain.length:Int)
  · have e:=lenB_f q3
    simp -implicitDefEqProofs [c_laws_zzFits2,cu,ca,cr,ck,q0,q1,q2,q3,e]
  have e3:=lenB_t q3
  simp only [e3,Bool.true_and]
  by_cases q4:(2147483647:Int) < (ident.length:Int)
  · have e:=lenB_f q4
    simp -implicitDefEqProofs [c_laws_zzFits2,cu,ca,cr,ck,q0,q1,q2,q3,q4,e]
  have e4:=lenB_t q4
  simp only [e4,Bool.true_and]
  by_cases q5:(2147483647:Int) < (fr.length:Int)
  · have e:=lenB_f q5
    simp -implicitDefEqProofs [c_laws_zzFits2,cu,ca,cr,ck,q0,q1,q2,q3,q4,q5,e]
  have e5:=lenB_t q5
  simp only [e5,Bool.true_and]
  by_cases q6:(2147483647:Int) < (sender.length:Int)
  · have e:=lenB_f q6
    simp -implicitDefEqProofs [c_laws_zzFits2,cu,ca,cr,ck,q0,q1,q2,q3,q4,q5,q6,e]
  have e6:=lenB_t q6
  simp only [e6,Bool.true_and]
  by_cases q7:(2147483647:Int) < (ip.length:Int)
  · have e:=lenB_f q7
    simp -implicitDefEqProofs [c_laws_zzFits2,cu,ca,cr,ck,q0,q1,q2,q3,q4,q5,q6,q7,e]
  have e7:=lenB_t q7
  simp only [e7,Bool.true_and]
  by_cases q8:(2147483647:Int) < (helo.length:Int)
  · have e:=lenB_f q8
    simp -implicitDefEqProofs [c_laws_zzFits2,cu,ca,cr,ck,q0,q1,q2,q3,q4,q5,q6,q7,q8,e]
  have e8:=lenB_t q8
  simp only [e8,Bool.true_and]
  by_cases q9:(2147483647:Int) < (auth.length:Int)
  · have e:=lenB_f q9
    simp -implicitDefEqProofs [c_laws_zzFits2,cu,ca,cr,ck,q0,q1,q2,q3,q4,q5,q6,q7,q8,q9,e]
  have e9:=lenB_t q9
  simp only [e9,Bool.true_and]
  by_cases q10:(2147483647:Int) < (hkey.length:Int)
  · have e:=lenB_f q10
    simp -implicitDefEqProofs [c_laws_zzFits2,cu,ca,cr,ck,q0,q1,q2,q3,q4,q5,q6,q7,q8,q9,q10,e]
  have e10:=lenB_t q10
  simp only [e10,Bool.true_and]
  by_cases q11:(2147483647:Int) < (hval.length:Int)
  · have e:=lenB_f q11
    simp -implicitDefEqProofs [c_laws_zzFits2,cu,ca,cr,ck,q0,q1,q2,q3,q4,q5,q6,q7,q8,q9,q10,q11,e]
  have e11:=lenB_t q11
  simp only [e11,Bool.true_and]
  by_cases q12:(2147483647:Int) < (remote.length:Int)
  · have e:=lenB_f q12
    simp -implicitDefEqProofs [c_laws_zzFits2,cu,ca,cr,ck,q0,q1,q2,q3,q4,q5,q6,q7,q8,q9,q10,q11,q12,e]
  have e12:=lenB_t q12
  simp only [e12,Bool.true_and]
  generalize fits13 (ps.getD [])=b at k3 ⊢
  cases b <;> simp -implicitDefEqProofs [c_laws_zzFits2,cu,ca,cr,ck,q0,q1,q2,q3,q4,q5,q6,q7,q8,q9,q10,q11,q12,acall,h210,k3]

end Wax


namespace Wax
open Go (IntKind)

theorem plain_con {s:L8} (h:s.length < mid):con_APlain [.str s]=some (.bool (aPlain s)):=if_pos h
end Wax


namespace Wax
open Go (IntKind)

theorem fit2_only {r:AR} (h:fit2 r=true):fit2 r.only=true:=by
  simp only [fit2,lenB,Bool.and_eq_true,decide_eq_true_eq] at h
  obtain ⟨h1,h2,h3,h4,h5,h6,h7,h8,h9,h10,h11,h12,h13,h14⟩:=h
  have hn:fits13 []=true:=rfl
  unfold AR.only
  repeat' split
  all_goals simp [fit2,lenB,ar0,h1,h2,h3,h4,h5,h6,h7,h8,h9,h10,h11,h12,h13,h14,hn]
end Wax


namespace Wax
open Go (IntKind)

def tspL:List Int:=[40,41,60,62,64,44,59,58,92,34,47,91,93,63,61]
def adrL:List Int:=[35,36,37,38,39,42,43,44,46,47,45,64,91,93,92,94,95,96,123,124,125,126]
def con_tspecial:List AV→Option AV
  | [.int .i32 c]=>some (.bool (tspL.contains c))
  | _=>none
set_option maxHeartbeats 4000000 in
set_option maxRecDepth 10000 in
theorem ok_tspecial (Γ:Gam):∀ args r,con_tspecial args=some r→runs Γ c_authres_tspecial args (fun v=>v=r):=by
  intro args r h
  simp only [con_tspecial] at h
  split at h <;> (try simp at h; done)
  rename_i c
  injection h with h; subst h
  simp -implicitDefEqProofs [c_authres_tspecial]
  simp +contextual [tspL]
def con_addressOk:List AV→Option AV
  | [.int .i32 c]=>some (.bool (adrL.contains c))
  | _=>none
set_option maxHeartbeats 4000000 in
set_option maxRecDepth 10000 in
theorem ok_addressOk (Γ:Gam):∀ args r,con_addressOk args=some r→runs Γ c_authres_addressOk args (fun v=>v=r):=by
  intro args r h
  simp only [con_addressOk] at h
  split at h <;> (try simp at h; done)
  rename_i c
  injection h with h; subst h
  simp -implicitDefEqProofs [c_authres_addressOk]
  simp +contextual [adrL]
def letN (c:Int):Bool:=decide ((97≤c∧c≤122)∨(65≤c∧c≤90)∨c=170∨c=181∨c=186∨(192≤c∧c≤255∧c ≠ 215∧c ≠ 247))
def con_zzIsLetter2:List AV→Option AV
  | [.int .i32 c]=>some (.bool (letN c))
  | _=>none
set_option maxHeartbeats 4000000 in
theorem ok_zzIsLetter2 (Γ:Gam):∀ args r,con_zzIsLetter2 args=some r→runs Γ c_authres_zzIsLetter args (fun v=>v=r):=by
  intro args r h
  simp only [con_zzIsLetter2] at h
  split at h <;> (try simp at h; done)
  rename_i c
  injection h with h; subst h
  simp -implicitDefEqProofs [c_authres_zzIsLetter]
  have hl:∀ b:Bool,(letN c=b)=(decide ((97≤c∧c≤122)∨(65≤c∧c≤90)∨c=170∨c=181∨c=186∨(192≤c∧c≤255∧c ≠ 215∧c ≠ 247))=b):=fun _=>rfl
  simp only [hl,decide_eq_true_eq,decide_eq_false_iff_not]
  omega
def digN (c:Int):Bool:=decide (48≤c∧c≤57)
def con_zzIsDigit2:List AV→Option AV
  | [.int .i32 c]=>some (.bool (digN c))
  | _=>none
theorem ok_zzIsDigit2 (Γ:Gam):∀ args r,con_zzIsDigit2 args=some r→runs Γ c_authres_zzIsDigit args (fun v=>v=r):=by
  intro args r h
  simp only [con_zzIsDigit2] at h
  split at h <;> (try simp at h; done)
  rename_i c
  injection h with h; subst h
  simp -implicitDefEqProofs [c_authres_zzIsDigit]
  refine ⟨fun h=>by simp [digN,h],fun h=>by simp [digN]; omega⟩
def qtB:L8→L8
  | []=>[]
  | c::r=>if c=34 then 92::34::qtB r else c::qtB r
theorem qtB_len:∀ s:L8,(qtB s).length≤2 * s.length
  | []=>by simp [qtB]
  | c::r=>by
    have:=qtB_len r
    simp only [qtB]
    split <;> simp <;> omega
theorem qtB_app:∀ (a b:L8),qtB (a++b)=qtB a++qtB b
  | [],b=>rfl
  | c::a,b=>by
    simp only [List.cons_append,qtB,qtB_app a b]
    split <;> simp
def con_zzQuotes:List AV→Option AV
  | [.str s]=>if s.length < mid then some (.str (qtB s)) else none
  | _=>none
set_option maxHeartbeats 4000000 in
theorem ok_zzQuotes (Γ:Gam):∀ args r,con_zzQuotes args=some r→runs Γ c_authres_zzQuotes args (fun v=>v=r):=by
  intro args r h
  simp only [con_zzQuotes] at h
  split at h <;> (try simp at h; done)
  rename_i s
  obtain ⟨hl,rfl⟩:=ite_some h
  clear h
  simp only [mid] at hl
  simp -implicitDefEqProofs [c_authres_zzQuotes]
  refine awp_loop2 (σ:=L8 × L8 × L8) (fun p=>⟨[(0,.str s),(3,grV 23 1 p.2.2.length),(4,.int .i64 p.1.length)],grH 23 p.2.2.length (bcA p.2.2)⟩) (fun p=>s=p.1++p.2.1∧p.2.2=qtB p.1) (fun p=>p.2.1.length) ([],s,[]) (by simp) (by simp [qtB]) ?_
  rintro ⟨pre,post,out⟩ ⟨e1,e2⟩ LQ hLQ
  simp only at e1 e2
  have hol:out.length≤2 * pre.length:=by rw [e2]; exact qtB_len pre
  cases post with
  | nil =>
    simp only [List.append_nil] at e1
    subst e1
    have hnl:¬ ((s.length:Int) < (s.length:Int)):=by omega
    cases out with
    | nil=>simp -implicitDefEqProofs [← e2]
    | cons y out =>
      simp -implicitDefEqProofs [← e2]
  | cons c post =>
    have hlen:s.length=pre.length+(post.length+1):=by rw [e1]; simp
    have hlt:(pre.length:Int) < (s.length:Int):=by omega
    have hlt':pre.length < s.length:=by omega
    have g:s[pre.length]? = some c:=by rw [e1]; exact get_mid rfl
    have g':s[pre.length]'hlt'=c:=by rw [List.getElem?_eq_getElem hlt'] at g; exact Option.some.inj g
    have ew:IntKind.i64.wrap ((pre.length:Int)+1)=(pre.length:Int)+1:=wrap64 (by omega) (by omega)
    have nx:qtB (pre++[c])=out++(if c=34 then [92,34] else [c]):=by
      rw [qtB_app,← e2]; simp only [qtB]
    by_cases hc:c=34
    · have hx:(c.toNat:Int)=34:=by rw [hc]; rfl
      rw [if_pos hc] at nx
      have go:=fun st=>hLQ (pre++[c],post,out++[92,34]) ⟨by simp [e1],nx.symm⟩ (by simp) st
      simp only at go
      cases out with
      | nil =>
        simp -implicitDefEqProofs [hlt,hlt',g,g',ew,hx]
        exact go _ (by simp)
      | cons y out =>
        simp only [List.length_cons] at hol
        have hk:List.take (out.length+1) (bcA out++[AV.int .u8 92])=bcA out++[AV.int .u8 92]:=List.take_of_length_le (by simp)
        simp -implicitDefEqProofs [hlt,hlt',g,g',ew,hx,hk]
        refine ⟨by omega,by omega,go _ (by simp)⟩
    · rw [if_neg hc] at nx
      have hn:¬ (c.toNat:Int)=34:=fun e=>hc (UInt8.toNat_inj.1 (by simp; omega))
      have go:=fun st=>hLQ (pre++[c],post,out++[c]) ⟨by simp [e1],nx.symm⟩ (by simp) st
      simp only at go
      cases out with
      | nil =>
        simp -implicitDefEqProofs [hlt,hlt',g,g',ew,hn]
        exact go _ (by simp)
      | cons y out =>
        simp only [List.length_cons] at hol
        simp -implicitDefEqProofs [hlt,hlt',g,g',ew,hn]
        refine ⟨by omega,go _ (by simp)⟩
end Wax


namespace Wax
open Go (IntKind)

def spB (c:UInt8):Bool:=decide ((c.toNat:Int)≤32) || tspL.contains (c.toNat:Int)
def adB (c:UInt8):Bool:=letN c.toNat || digN c.toNat || adrL.contains (c.toNat:Int)
def fmtV (s:L8):L8:=if s.any spB=true then 34::(qtB s++[34]) else s
def fmtP (s:L8):L8:=if s.all adB=true then s else fmtV s
theorem fmtV_len (s:L8):(fmtV s).length≤2 * s.length+2:=by
  unfold fmtV
  split
  · have:=qtB_len s
    simp; omega
  · omega
theorem fmtP_len (s:L8):(fmtP s).length≤2 * s.length+2:=by
  unfold fmtP
  split
  · omega
  · exact fmtV_len s
def con_formatValue:List AV→Option AV
  | [.str s]=>if s.length < mid∧ascii s=true then some (.str (fmtV s)) else none
  | _=>none
set_option maxHeartbeats 4000000 in
set_option maxRecDepth 100000 in
theorem ok_formatValue (Γ:Gam) (h243:Γ.fn 243=con_tspecial) (h244:Γ.fn 244=con_zzQuotes):∀ args r,con_formatValue args=some r→runs Γ c_authres_formatValue args (fun v=>v=r):=by
  intro args r h
  simp only [con_formatValue] at h
  split at h <;> (try simp at h; done)
  rename_i s
  obtain ⟨⟨hs,ha⟩,rfl⟩:=ite_some h
  clear h
  have kq:con_zzQuotes [.str s]=some (.str (qtB s)):=if_pos hs
  have hql:=qtB_len s
  simp only [mid] at hs
  simp -implicitDefEqProofs [c_authres_formatValue]
  refine awp_loop2 (σ:=L8 × L8) (fun p=>⟨[(0,.str s),(3,.bool (p.1.any spB)),(8,.ref 8 0)],[(8,.sit s p.1.length)]⟩)
    (fun p=>s=p.1++p.2) (fun p=>p.2.length) ([],s) (by simp) (by simp) ?_
  rintro ⟨pre,post⟩ hs1 LQ hLQ
  simp only at hs1
  cases post with
  | nil =>
    simp only [List.append_nil] at hs1
    subst hs1
    cases hc:s.any spB with
    | true =>
      simp -implicitDefEqProofs [b_authres_formatValue_1,t_authres_formatValue_2,hc,acall,h244,kq,fmtV]
      omega
    | false=>simp -implicitDefEqProofs [b_authres_formatValue_1,t_authres_formatValue_2,hc,fmtV]
  | cons x post =>
    subst hs1
    have hx:=(ascii_lt (by rw [ascii_app] at ha; simp only [Bool.and_eq_true] at ha; exact ha.2:ascii (x::post)=true)).1
    have go:=fun st=>hLQ (pre++[x],post) (by simp) (by simp) st
    have ea:(pre++[x]).any spB=(pre.any spB || spB x):=by simp
    simp only [ea] at go
    have kt:con_tspecial [.int .i32 (x.toNat:Int)]=some (.bool (tspL.contains (x.toNat:Int))):=rfl
    by_cases h32:(x.toNat:Int)≤32
    · have e:spB x=true:=by simp only [spB,h32,decide_true,Bool.true_or]
      simp only [e,Bool.or_true] at go
      simp -implicitDefEqProofs [b_authres_formatValue_1,decA hx,acall,h243,kt,h32]
      exact go _ (by simp)
    · have e:spB x=tspL.contains (x.toNat:Int):=by simp only [spB,h32,decide_false,Bool.false_or]
      rw [e] at go
      cases ht:tspL.contains (x.toNat:Int) with
      | true =>
        simp only [ht,Bool.or_true] at go kt
        simp -implicitDefEqProofs [b_authres_formatValue_1,decA hx,acall,h243,kt,h32]
        exact go _ (by simp)
      | false =>
        simp only [ht,Bool.or_false] at go kt
        simp -implicitDefEqProofs [b_authres_formatValue_1,decA hx,acall,h243,kt,h32]
        exact go _ (by simp)
def con_formatPvalue:List AV→Option AV
  | [.str s]=>if s.length < mid∧ascii s=true then some (.str (fmtP s)) else none
  | _=>none
set_option maxHeartbeats 4000000 in
set_option maxRecDepth 100000 in
theorem ok_formatPvalue (Γ:Gam) (h245:Γ.fn 245=con_addressOk) (h246:Γ.fn 246=con_zzIsLetter2) (h247:Γ.fn 247=con_zzIsDigit2) (h241:Γ.fn 241=con_formatValue):∀ args r,con_formatPvalue args=some r→runs Γ c_authres_formatPvalue args (fun v=>v=r):=by
  intro args r h
  simp only [con_formatPvalue] at h
  split at h <;> (try simp at h; done)
  rename_i s
  obtain ⟨⟨hs,ha⟩,rfl⟩:=ite_some h
  clear h
  have kq:con_formatValue [.str s]=some (.str (fmtV s)):=if_pos ⟨hs,ha⟩
  simp only [mid] at hs
  simp -implicitDefEqProofs [c_authres_formatPvalue]
  refine awp_loop2 (σ:=L8 × L8) (fun p=>⟨[(0,.str s),(3,.bool (p.1.all adB)),(8,.ref 8 0)],[(8,.sit s p.1.length)]⟩)
    (fun p=>s=p.1++p.2) (fun p=>p.2.length) ([],s) (by simp) (by simp) ?_
  rintro ⟨pre,post⟩ hs1 LQ hLQ
  simp only at hs1
  cases post with
  | nil =>
    simp only [List.append_nil] at hs1
    subst hs1
    cases hc:s.all adB with
    | true=>simp -implicitDefEqProofs [b_authres_formatPvalue_1,t_authres_formatPvalue_2,hc,fmtP]
    | false=>simp -implicitDefEqProofs [b_authres_formatPvalue_1,t_authres_formatPvalue_2,hc,acall,h241,kq,fmtP]
  | cons x post =>
    subst hs1
    have hx:=(ascii_lt (by rw [ascii_app] at ha; simp only [Bool.and_eq_true] at ha; exact ha.2:ascii (x::post)=true)).1
    have go:=fun st=>hLQ (pre++[x],post) (by simp) (by simp) st
    have ea:(pre++[x]).all adB=(pre.all adB && adB x):=by simp
    simp only [ea] at go
    have k1:con_addressOk [.int .i32 (x.toNat:Int)]=some (.bool (adrL.contains (x.toNat:Int))):=rfl
    have k2:con_zzIsLetter2 [.int .i32 (x.toNat:Int)]=some (.bool (letN (x.toNat:Int))):=rfl
    have k3:con_zzIsDigit2 [.int .i32 (x.toNat:Int)]=some (.bool (digN (x.toNat:Int))):=rfl
    cases h1:letN (x.toNat:Int) with
    | true =>
      have e:adB x=true:=by simp only [adB,h1,Bool.true_or]
      simp only [e,Bool.and_true] at go
      simp only [h1] at k2
      simp -implicitDefEqProofs [b_authres_formatPvalue_1,decA hx,acall,h245,k1,h246,k2]
      exact go _ (by simp)
    | false =>
      simp only [h1] at k2
      cases h2:digN (x.toNat:Int) with
      | true =>
        have e:adB x=true:=by simp only [adB,h1,h2,Bool.false_or,Bool.true_or]
        simp only [e,Bool.and_true] at go
        simp only [h2] at k3
        simp -implicitDefEqProofs [b_authres_formatPvalue_1,decA hx,acall,h245,k1,h246,k2,h247,k3]
        exact go _ (by simp)
      | false =>
        simp only [h2] at k3
        have e:adB x=adrL.contains (x.toNat:Int):=by simp only [adB,h1,h2,Bool.false_or]
        rw [e] at go
        cases h3:adrL.contains (x.toNat:Int) with
        | true =>
          simp only [h3,Bool.and_true] at go k1
          simp -implicitDefEqProofs [b_authres_formatPvalue_1,decA hx,acall,h245,k1,h246,k2,h247,k3]
          exact go _ (by simp)
        | false =>
          simp only [h3,Bool.and_false] at go k1
          simp -implicitDefEqProofs [b_authres_formatPvalue_1,decA hx,acall,h245,k1,h246,k2,h247,k3]
          exact go _ (by simp)
end Wax


namespace Wax
open Go Go.RowKit

theorem repSl_mk {T:Tab} {w:World} {F:Frz} {b:Nat} (hF:F b):∀ (l:List (List UInt8)) (o:Nat),(∀ (j:Nat) s,l[j]? = some s→w.cell? ⟨b,o+j,none⟩=some (.string ⟨s.toArray⟩))→RepSl T w F 1 b o (strsA l)
  | [],_,_=>trivial
  | x::r,o,h=>by
    simp only [strsA,List.map_cons,RepSl]
    refine ⟨trivial,⟨hF,_,by simpa using h 0 x rfl,by simp [Rep]⟩,?_⟩
    exact repSl_mk hF r (o+1) fun j s hj=>by
      rw [show o+1+j=o+(j+1) by omega]
      exact h (j+1) s (by simpa using hj)

theorem owned_strs {T:Tab} {w w':World} {F:Frz} {e9:TypeId} {v':Value} {l:List (List UInt8)} (ho:w'.ownsRow w.heap.size e9 1 v' l.length (l.map fun s=>Value.string ⟨s.toArray⟩)) (hn:v' ≠ .slice none 0 0) :
    Rep T w' (fun b=>F b∨(w.heap.size≤b∧b < w'.heap.size)) noRho (.sl 1 (strsA l)) v':=by
  have ho':=ho
  obtain ⟨_,hx⟩:=ho
  rcases hx with ⟨he,_⟩ | ⟨g,cap,cur,rfl,hg,hh,hcap,_,_,_⟩
  · exact absurd he hn
  · simp only [Rep]
    refine .inl ⟨g,0,cap,by simp,by simpa using hcap,?_⟩
    have hgl:g < w'.heap.size:=by
      rcases Nat.lt_or_ge g w'.heap.size with h | h
      · exact h
      · rw [Array.getElem?_eq_none h] at hh; simp at hh
    refine repSl_mk (.inr ⟨hg,hgl⟩) l 0 fun j s hj=>?_
    have:=ho'.cells (g:=g) rfl j (.string ⟨s.toArray⟩) (by rw [List.getElem?_map,hj]; rfl)
    have e:((⟨g,0,none⟩:Addr).add j)=⟨g,0+j,none⟩:=by
      cases j <;> simp [Addr.add]
    rw [e] at this
    exact this

end Wax


namespace Wax
open Go Go.RowKit Go.Proofs Go.Sort

def SortSays (P:Program) (f:FuncId):Prop :=
  (∀ (p:Option Addr) (cap:Nat) (w:World),Calls P f #[.slice p 0 cap] w fun e w'=>e=.returned (.tuple #[])∧w'=w) ∧
  ∀ (blk off cap:Nat) (ss:List (List UInt8)) (w:World),Holds encStr w blk off ss.toArray→blk < w.heap.size→ss.length < 4611686018427387904 →
    Calls P f #[.slice (some ⟨blk,off,none⟩) ss.length cap] w fun e w'=>e=.returned (.tuple #[])∧∃ n os,w'=grow (putRow encStr (Sort.ahead w n) blk off (ss.mergeSort fun x y=>decide (x≤y)).toArray) os

def con_Sort:List AV→List (Nat × AObj)→Option (AV × List (Nat × AObj))
  | [.msl 0 1 0 n],[(0,.cells cs)]=>match asStrs cs with
    | some l=>if l.length=n∧n < 4611686018427387904 then some (.tup [],[(0,.cells (strsA (sortB l)))]) else none
    | none=>none
  | _,_=>none

theorem repL_strs2 {T:Tab} {w:World} {F:Frz} {ρ:Rho}:∀ {l:List (List UInt8)} {vs:List Value},RepL T w F ρ (strsA l) vs→vs=l.map encStr
  | [],[],_=>rfl
  | s::l,v::vs,h=>by
    simp only [strsA,List.map_cons,RepL] at h
    obtain ⟨h1,h2⟩:=h
    simp only [Rep] at h1
    rw [List.map_cons,h1,← repL_strs2 (l:=l) h2]
  | [],_::_,h=>by simp [strsA,RepL] at h
  | _::_,[],h=>by simp [strsA,RepL] at h
theorem strs2_repL {T:Tab} {w:World} {F:Frz} {ρ:Rho}:∀ {l:List (List UInt8)},RepL T w F ρ (strsA l) (l.map encStr)
  | []=>by simp [strsA,RepL]
  | s::l=>by
    simp only [strsA,List.map_cons,RepL]
    exact ⟨by simp only [Rep],strs2_repL (l:=l)⟩

theorem ok_SortS {P:Program} {T:Tab} {f:FuncId} (H:SortSays P f):∀ args hp q,con_Sort args hp=some q→OkS P T f args hp q.1 q.2:=by
  intro args hp q h w F ρ vs hF hG hid hH hx
  obtain ⟨H0,H1⟩:=H
  simp only [con_Sort] at h
  split at h <;> (try simp at h; done)
  rename_i n cs
  split at h <;> (try simp at h; done)
  rename_i l hl
  rw [asStrs_spec hl] at hH
  split at h <;> (try simp at h; done)
  rename_i hc
  obtain ⟨rfl,hlen⟩:=hc
  simp only [Option.some.injEq] at h
  subst h
  match vs,hx with
  | [v],hx =>
  simp only [RepL,and_true] at hx
  simp only [Rep] at hx
  obtain ⟨b,o,x,cap,c,e,fz,hρ,rfl,hcap,hbk,hsh⟩:=hx
  obtain ⟨b',o',hρ',hb,hnF,pre,us,post,e',f',hb2,hpo,hr,hnf⟩:=hH.obj 0 _ rfl
  rw [hρ] at hρ'
  simp only [Option.some.injEq,Prod.mk.injEq] at hρ'
  obtain ⟨rfl,rfl⟩:=hρ'
  have hus:=repL_strs2 hr
  subst hus
  have hsame:BelX (fun b=>∃ id o,ρ id=some (b,o)) w.heap.size w w:=BelX.refl _ _ _
  cases hl0:l with
  | nil =>
    subst hl0
    refine (H0 _ _ w).mono ?_
    rintro r w' ⟨rfl,rfl⟩
    refine ⟨_,F,ρ,rfl,hsame,fun _ h=>h,fun _ h=>.inl h,hF,?_,fun _ p h=>.inr h,fun id b o h1 h2=>by rw [h2] at h1; simp at h1,?_⟩
    · have:sortB []=[]:=by simp [sortB]
      rw [this]
      exact hH
    · exact ⟨#[],rfl,by simp [RepL]⟩
  | cons y ys =>
    rw [← hl0]
    have hn:0 < l.length:=by rw [hl0]; simp
    have hx:x=o:=by
      rcases hsh with h | h
      · omega
      · omega
    subst hx
    have hsz:(sortB l).length=l.length:=by simp [sortB]
    have hpl:(pre++(l.map encStr++post)).length=x+l.length+post.length:=by simp [hpo]; omega
    have hold:Holds encStr w b x l.toArray:=by
      intro j hj
      simp only [List.size_toArray] at hj
      refine ⟨?_,hnf.1 (x+j) (by omega)⟩
      simp only [World.cell?,hb2,Option.isSome_none,Bool.false_eq_true,if_false,List.getElem?_toArray]
      rw [← hpo,List.getElem?_append_right (by omega),Nat.add_sub_cancel_left,List.getElem?_append_left (by simpa using hj),List.getElem?_map,List.getElem?_eq_getElem hj]
      simp [hj]
    refine (H1 b x cap l w hold hb hlen).mono ?_
    rintro r w' ⟨rfl,m,os,rfl⟩
    have hsa:(l.mergeSort fun x y=>decide (x≤y))=sortB l:=rfl
    rw [hsa]
    have hheap:∀ k,k < w.heap.size→(grow (putRow encStr (Sort.ahead w m) b x (sortB l).toArray) os).heap[k]? = if b=k then some (.cells (pre++((sortB l).map encStr++post)).toArray e' f') else w.heap[k]? := by
      intro k hk
      rw [heap_grow_old _ _ (by simpa [Sort.ahead] using hk)]
      simp only [putRow,mapBlock,Sort.ahead,Array.getElem?_modify]
      by_cases hbk:b=k
      · subst hbk
        simp only [if_true,hb2,Option.map_some,onCells,Option.some.injEq,Obj.cells.injEq,and_true]
        apply Array.ext_getElem?
        intro j
        simp only [putCells,Array.getElem?_mapIdx,List.size_toArray,hsz,List.getElem?_toArray]
        by_cases h1:j < x
        · rw [List.getElem?_append_left (by omega),List.getElem?_append_left (by omega)]
          cases pre[j]? with
          | none=>rfl
          | some y=>rw [Option.map_some,if_neg (by omega)]
        · have a1:∀ z:List Value,(pre++z)[j]? = z[j - x]? := fun z=>by rw [List.getElem?_append_right (by omega),hpo]
          by_cases h2:j < x+l.length
          · have a2:∀ z:List Value,z.length=l.length→(z++post)[j - x]? = z[j - x]? := fun z hz=>List.getElem?_append_left (by omega)
            rw [a1,a1,a2 _ (by simp),a2 _ (by simp [hsz]),List.getElem?_map,List.getElem?_map,List.getElem?_eq_getElem (by omega),List.getElem?_eq_getElem (by omega)]
            simp only [Option.map_some]
            rw [if_pos ⟨by omega,h2⟩]
            have hjj:j - x < (sortB l).length:=by omega
            simp [hjj]
          · have a3:∀ z:List Value,z.length=l.length→(z++post)[j - x]? = post[j - x - l.length]? := fun z hz=>by rw [List.getElem?_append_right (by omega),hz]
            rw [a1,a1,a3 _ (by simp),a3 _ (by simp [hsz])]
            cases post[j - x - l.length]? with
            | none=>rfl
            | some y=>rw [Option.map_some,if_neg (by omega)]
      · simp [hbk]
    have hgs:(grow (putRow encStr (Sort.ahead w m) b x (sortB l).toArray) os).heap.size=w.heap.size+os.size:=by simp [Sort.ahead]
    generalize hw':grow (putRow encStr (Sort.ahead w m) b x (sortB l).toArray) os=w' at *
    have hbel:BelX (fun b=>∃ id o,ρ id=some (b,o)) w.heap.size w w':=by
      refine ⟨by rw [← hw']; rfl,by rw [← hw']; rfl,by rw [← hw']; rfl,by omega,fun k hk hB=>?_,fun k c1 e1 f1 hk h1=>?_⟩
      · rw [hheap k hk,if_neg (fun h=>hB ⟨0,x,by rw [← h]; exact hρ⟩)]
      · rw [hheap k hk]
        by_cases h:b=k
        · subst h
          rw [hb2] at h1
          injection h1 with h1
          injection h1 with h1 h2 h3
          rw [if_pos rfl]
          refine ⟨_,_,_,rfl,?_⟩
          rw [← h1]
          simp [hsz]
        · rw [if_neg h]
          exact ⟨c1,e1,f1,h1,Nat.le_refl _⟩
    refine ⟨_,F,ρ,rfl,hbel,fun _ h=>h,fun _ h=>.inl h,fun k hk=>by have:=hF k hk; omega,?_,fun _ p h=>.inr h,fun id b o h1 h2=>by rw [h2] at h1; simp at h1,?_⟩
    · refine ⟨fun id p hp=>?_,fun id y hy=>?_,hH.inj⟩
      · obtain ⟨z,hz⟩:=hH.dom id p hp
        simp only [hlk] at hz ⊢
        split at hz
        · exact ⟨_,if_pos (by assumption)⟩
        · simp at hz
      · simp only [hlk] at hy
        split at hy
        · rename_i h0
          simp only [Option.some.injEq] at hy
          subst hy
          have h0':id=0:=by omega
          subst h0'
          refine ⟨b,x,hρ,by omega,hnF,pre,(sortB l).map encStr,post,e',f',by rw [hheap b hb,if_pos rfl],hpo,strs2_repL,?_⟩
          have hlen2:(pre++((sortB l).map encStr++post)).length=(pre++(l.map encStr++post)).length:=by simp [hsz]
          rw [hlen2]
          refine ⟨fun k hk=>?_,fun c1 e1 f1 h1=>?_⟩
          · have:=hnf.1 k hk
            simp only [World.frozen?,hb2] at this
            simp only [World.frozen?,hheap b hb,if_true]
            exact this
          · rw [hheap b hb,if_pos rfl] at h1
            injection h1 with h1
            injection h1 with _ _ h3
            subst h3
            exact hnf.2 _ _ _ hb2
        · simp at hy
    · exact ⟨#[],rfl,by simp [RepL]⟩
end Wax


namespace Wax
open Go (IntKind)

def ws4 (c:UInt8):Bool:=anyN c.toNat [32,9,13,10]
def rB (t:L8):L8:=t.dropWhile ws4
def tkC (m:L8) (c:UInt8):Bool:=tokB c || anyN c.toNat m
theorem mTok_one (c:UInt8):mTok [c]=tokB c:=by simp [mTok]
abbrev rdO (s:L8) (n:Nat):AObj:=.cells [.str s,.int .i64 (n:Int)]
def rdMk (lim:Nat) (f:L8→Option (AV × Nat)) (s:L8) (n:Int):Option (AV × List (Nat × AObj)) :=
  if 0≤n∧n.toNat≤s.length∧s.length < lim then (match f (s.drop n.toNat) with
    | some q=>some (q.1,[(0,rdO s (n.toNat+q.2))])
    | none=>none) else none
theorem rdMk_at {lim:Nat} {f:L8→Option (AV × Nat)} {p t:L8} {v:AV} {k:Nat} (hf:f t=some (v,k)) (hl:(p++t).length < lim):rdMk lim f (p++t) (p.length:Int)=some (v,[(0,rdO (p++t) (p.length+k))]):=by
  unfold rdMk
  rw [if_pos ⟨by omega,by simp,hl⟩]
  simp only [Int.toNat_natCast,List.drop_left,hf]
theorem rdMk_spec {lim:Nat} {f:L8→Option (AV × Nat)} {s:L8} {n:Int} {q:AV × List (Nat × AObj)} (h:rdMk lim f s n=some q):∃ (p t:L8) (v:AV) (k:Nat),s=p++t∧n=(p.length:Int)∧f t=some (v,k)∧s.length < lim∧q=(v,[(0,rdO s (p.length+k))]):=by
  unfold rdMk at h
  split at h
  · rename_i hc
    cases hf:f (s.drop n.toNat) with
    | none=>simp [hf] at h
    | some r =>
      simp only [hf,Option.some.injEq] at h
      refine ⟨s.take n.toNat,s.drop n.toNat,r.1,r.2,(List.take_append_drop _ _).symm,?_,hf,hc.2.2,?_⟩
      · simp; omega
      · rw [← h]; simp; omega
  · simp at h

def con_blank:List AV→List (Nat × AObj)→Option (AV × List (Nat × AObj))
  | [.ref 0 0],[(0,.cells [.str s,.int .i64 n])]=>rdMk mid (fun t=>if (rB t).head? = some 40 then none else some (.bool true,(t.takeWhile ws4).length)) s n
  | _,_=>none
theorem ok_blank (Γ:Gam) (h100:Γ.fn 100=con_MailAny):∀ args hp q,con_blank args hp=some q→runsS Γ c_spec_areader_blank args hp (fun v=>v=some q):=by
  intro args hp q h
  simp only [con_blank] at h
  split at h <;> (try simp at h; done)
  rename_i s n
  obtain ⟨p0,t0,v,k,rfl,rfl,hf,hl,rfl⟩:=rdMk_spec h
  clear h
  try simp only at hf
  split at hf
  · simp at hf
  rename_i hb
  simp only [Option.some.injEq,Prod.mk.injEq] at hf
  obtain ⟨rfl,rfl⟩:=hf
  simp only [mid] at hl
  simp -implicitDefEqProofs [c_spec_areader_blank]
  refine awp_loop2 (σ:=L8 × L8) (fun q=>⟨[(0,.ref 1000000 0)],[(1000000,.cells [.str (p0++t0),.int .i64 ((p0++q.1).length:Int)])]⟩)
    (fun q=>t0=q.1++q.2∧∀ c∈q.1,ws4 c=true) (fun q=>q.2.length) ([],t0) (by simp) (by simp) ?_
  rintro ⟨d,t⟩ ⟨e1,e2⟩ LQ hLQ
  simp only at e1 e2
  have hskip:∀ c∈d,ws4 c=true:=e2
  have etk:t0.takeWhile ws4=d++t.takeWhile ws4:=by rw [e1,List.takeWhile_append_of_pos e2]
  have edk:rB t0=rB t:=by rw [e1,rB,List.dropWhile_append_of_pos e2]; rfl
  rw [edk] at hb
  rw [etk]
  subst e1
  cases t with
  | nil =>
    simp -implicitDefEqProofs [reach_succ]
  | cons c t =>
    have hlt:((p0++d).length:Int) < ((p0++(d++c::t)).length:Int):=by simp only [List.length_append,List.length_cons]; omega
    have g:(p0++(d++c::t))[(p0++d).length]? = some c:=by rw [← List.append_assoc]; exact get_mid rfl
    have k100:con_MailAny [.int .u8 (c.toNat:Int),.str [32,9,13,10]]=some (.bool (ws4 c)):=rfl
    have ew:IntKind.i64.wrap (((p0++d).length:Int)+1)=((p0++d).length:Int)+1:=by
      have:(p0++d).length < (p0++(d++c::t)).length:=by simp only [List.length_append,List.length_cons]; omega
      exact wrap64 (by omega) (by omega)
    cases hc:ws4 c with
    | true =>
      rw [hc] at k100
      have fin:∀ st,norm [0] st=⟨[(0,.ref 1000000 0)],[(1000000,.cells [.str (p0++(d++c::t)),.int .i64 (((p0++d).length:Int)+1)])]⟩→LQ st:=by
        intro st hst
        refine hLQ (d++[c],t) ⟨by simp,fun x hx=>?_⟩ (by simp) st ?_
        · rcases List.mem_append.1 hx with hx | hx
          · exact e2 x hx
          · simp at hx; subst hx; exact hc
        · rw [hst]; simp; omega
      generalize (p0++d).length=n at *
      generalize p0++(d++c::t)=S at *
      simp -implicitDefEqProofs [hlt,g,acall,h100,k100,ew]
      exact fin _ (by simp)
    | false =>
      rw [hc] at k100
      have h40:¬ (c.toNat:Int)=40:=by
        intro e
        apply hb
        have:c=40:=UInt8.toNat_inj.1 (by have:(40:UInt8).toNat=40:=rfl; omega)
        simp only [rB,List.dropWhile_cons,hc]
        simp [this]
      have e0:(c::t).takeWhile ws4=[]:=by simp [hc]
      rw [e0]
      have en:p0.length+(d++([]:L8)).length=(p0++d).length:=by simp
      rw [en]
      clear en
      generalize (p0++d).length=n at *
      generalize p0++(d++c::t)=S at *
      simp -implicitDefEqProofs [hlt,g,acall,h100,k100,h40,reach_succ]

def con_has:List AV→List (Nat × AObj)→Option (AV × List (Nat × AObj))
  | [.ref 0 0,.int .u8 c],[(0,.cells [.str s,.int .i64 n])]=>rdMk mid (fun t=>match t with | []=>some (.bool false,0) | x::_=>if (x.toNat:Int)=c then some (.bool true,1) else some (.bool false,0)) s n
  | _,_=>none
theorem ok_has (Γ:Gam):∀ args hp q,con_has args hp=some q→runsS Γ c_spec_areader_has args hp (fun v=>v=some q):=by
  intro args hp q h
  simp only [con_has] at h
  split at h <;> (try simp at h; done)
  rename_i c s n
  obtain ⟨p,t,v,k,rfl,rfl,hf,hl,rfl⟩:=rdMk_spec h
  clear h
  simp only [mid] at hl
  cases t with
  | nil =>
    simp only [Option.some.injEq,Prod.mk.injEq] at hf
    obtain ⟨rfl,rfl⟩:=hf
    simp only [List.append_nil] at hl ⊢
    simp -implicitDefEqProofs [c_spec_areader_has,reach_succ]
  | cons x t =>
    simp only at hf
    have hlt:(p.length:Int) < ((p++x::t).length:Int):=by simp only [List.length_append,List.length_cons]; omega
    have g:(p++x::t)[p.length]? = some x:=get_mid rfl
    have ew:IntKind.i64.wrap ((p.length:Int)+1)=(p.length:Int)+1:=wrap64 (by omega) (by omega)
    generalize p.length=n at *
    generalize p++x::t=S at *
    by_cases hc:(x.toNat:Int)=c
    · rw [if_pos hc] at hf
      simp only [Option.some.injEq,Prod.mk.injEq] at hf
      obtain ⟨rfl,rfl⟩:=hf
      simp -implicitDefEqProofs [c_spec_areader_has,reach_succ,hlt,g,hc,ew]
    · rw [if_neg hc] at hf
      simp only [Option.some.injEq,Prod.mk.injEq] at hf
      obtain ⟨rfl,rfl⟩:=hf
      simp -implicitDefEqProofs [c_spec_areader_has,reach_succ,hlt,g,hc]

def rWd (m t:L8):L8:=t.takeWhile (tkC m)
def con_word:List AV→List (Nat × AObj)→Option (AV × List (Nat × AObj))
  | [.ref 0 0,.str m],[(0,.cells [.str s,.int .i64 n])]=>if m.length < big then rdMk mid (fun t=>some (.str (rWd m t),(rWd m t).length)) s n else none
  | _,_=>none
theorem ok_word (Γ:Gam) (h100:Γ.fn 100=con_MailAny) (h104:Γ.fn 104=con_MailToken):∀ args hp q,con_word args hp=some q→runsS Γ c_spec_areader_word args hp (fun v=>v=some q):=by
  intro args hp q h
  simp only [con_word] at h
  split at h <;> (try simp at h; done)
  rename_i m s n
  split at h <;> (try simp at h; done)
  rename_i hm
  obtain ⟨p0,t0,v,k,rfl,rfl,hf,hl,rfl⟩:=rdMk_spec h
  clear h
  simp only [Option.some.injEq,Prod.mk.injEq] at hf
  obtain ⟨rfl,rfl⟩:=hf
  simp only [mid] at hl
  simp -implicitDefEqProofs [c_spec_areader_word]
  refine awp_loop2 (σ:=L8 × L8) (fun q=>⟨[(0,.ref 1000000 0),(1,.str m),(5,.int .i64 (p0.length:Int))],[(1000000,.cells [.str (p0++t0),.int .i64 ((p0++q.1).length:Int)])]⟩)
    (fun q=>t0=q.1++q.2∧∀ c∈q.1,tkC m c=true) (fun q=>q.2.length) ([],t0) (by simp) (by simp) ?_
  rintro ⟨d,t⟩ ⟨e1,e2⟩ LQ hLQ
  simp only at e1 e2
  have etk:rWd m t0=d++rWd m t:=by rw [e1,rWd,List.takeWhile_append_of_pos e2]; rfl
  rw [etk]
  subst e1
  cases t with
  | nil =>
    have e0:rWd m []=[]:=rfl
    rw [e0]
    simp only [List.append_nil] at hl ⊢
    have hd:(p0++d).drop p0.length=d:=List.drop_left
    have hlen:((p0++d).length:Int)=(p0.length:Int)+(d.length:Int):=by simp
    have hle:p0.length≤(p0++d).length:=by simp
    have en:p0.length+d.length=(p0++d).length:=by simp
    rw [en]
    have htk:(p0++d).take (p0++d).length=p0++d:=List.take_length
    generalize p0++d=S at *
    simp -implicitDefEqProofs [b_spec_areader_word_1,t_spec_areader_word_2,reach_succ]
    exact ⟨hle,hd⟩
  | cons c t =>
    have hlt:((p0++d).length:Int) < ((p0++(d++c::t)).length:Int):=by simp only [List.length_append,List.length_cons]; omega
    have g:(p0++(d++c::t))[(p0++d).length]? = some c:=by rw [← List.append_assoc]; exact get_mid rfl
    have k100:con_MailAny [.int .u8 (c.toNat:Int),.str m]=some (.bool (anyN c.toNat m)):=if_pos hm
    have k104:con_MailToken [.str [c]]=some (.bool (tokB c)):=by
      have:con_MailToken [.str [c]]=some (.bool (mTok [c])):=by
        simp only [con_MailToken]; exact if_pos (by simp [big])
      rw [this,mTok_one]
    have hN:(p0++d).length+1≤(p0++(d++c::t)).length:=by simp only [List.length_append,List.length_cons]; omega
    have hle0:p0.length≤(p0++d).length:=by simp
    have ew:IntKind.i64.wrap (((p0++d).length:Int)+1)=((p0++d).length:Int)+1:=wrap64 (by omega) (by omega)
    have hcut:((p0++(d++c::t)).take ((p0++d).length+1)).drop (p0++d).length=[c]:=by
      rw [← List.append_assoc,List.take_append,List.take_of_length_le (by omega),show (p0++d).length+1 - (p0++d).length=1 by omega,List.drop_left]
      rfl
    have hcut0:((p0++(d++c::t)).take (p0++d).length).drop p0.length=d:=by
      rw [← List.append_assoc,List.take_left,List.drop_left]
    have fin:tkC m c=true→∀ st,norm [0,1,5] st=⟨[(0,.ref 1000000 0),(1,.str m),(5,.int .i64 (p0.length:Int))],[(1000000,.cells [.str (p0++(d++c::t)),.int .i64 (((p0++d).length:Int)+1)])]⟩→LQ st:=by
      intro hc st hst
      refine hLQ (d++[c],t) ⟨by simp,fun x hx=>?_⟩ (by simp) st ?_
      · rcases List.mem_append.1 hx with hx | hx
        · exact e2 x hx
        · simp at hx; subst hx; exact hc
      · rw [hst]; simp; omega
    have en:tkC m c=false→d++rWd m (c::t)=d∧p0.length+(d++rWd m (c::t)).length=(p0++d).length:=by
      intro hc
      have:rWd m (c::t)=[]:=by simp [rWd,hc]
      rw [this]; simp
    generalize (p0++d).length=n at *
    generalize p0++(d++c::t)=S at *
    cases h1:tokB c with
    | true =>
      rw [h1] at k104
      simp -implicitDefEqProofs [b_spec_areader_word_1,hlt,hN,g,acall,h100,k100,h104,k104,ew,hcut]
      exact ⟨⟨by omega,by omega⟩,fin (by simp [tkC,h1]) _ (by simp)⟩
    | false =>
      rw [h1] at k104
      cases h2:anyN c.toNat m with
      | true =>
        rw [h2] at k100
        simp -implicitDefEqProofs [b_spec_areader_word_1,hlt,hN,g,acall,h100,k100,h104,k104,ew,hcut]
        exact ⟨⟨by omega,by omega⟩,fin (by simp [tkC,h2]) _ (by simp)⟩
      | false =>
        rw [h2] at k100
        obtain ⟨q1,q2⟩:=en (by simp [tkC,h1,h2])
        rw [q2,q1]
        simp -implicitDefEqProofs [b_spec_areader_word_1,t_spec_areader_word_2,reach_succ,hlt,hN,g,acall,h100,k100,h104,k104,ew,hcut,hcut0]
        exact ⟨⟨by omega,by omega⟩,hle0,by omega⟩

def rQ:L8→L8→L8 × Bool × Nat
  | out,[]=>([],false,0)
  | out,c::t =>
    if c=34 then (out,true,1)
    else if c=92 then (match t with
      | []=>([],false,1)
      | d::t'=>((rQ (out++[d]) t').1,(rQ (out++[d]) t').2.1,(rQ (out++[d]) t').2.2+2))
    else if c=13∨c=10 then ((rQ out t).1,(rQ out t).2.1,(rQ out t).2.2+1)
    else ((rQ (out++[c]) t).1,(rQ (out++[c]) t).2.1,(rQ (out++[c]) t).2.2+1)
def con_quoted:List AV→List (Nat × AObj)→Option (AV × List (Nat × AObj))
  | [.ref 0 0],[(0,.cells [.str s,.int .i64 n])]=>rdMk mid (fun t=>some (.tup [.str (rQ [] t).1,.bool (rQ [] t).2.1],(rQ [] t).2.2)) s n
  | _,_=>none
set_option maxHeartbeats 2000000 in
theorem ok_quoted (Γ:Gam):∀ args hp q,con_quoted args hp=some q→runsS Γ c_spec_areader_quoted args hp (fun v=>v=some q):=by
  intro args hp q h
  simp only [con_quoted] at h
  split at h <;> (try simp at h; done)
  rename_i s n
  obtain ⟨p0,t0,v,k,rfl,rfl,hf,hl,rfl⟩:=rdMk_spec h
  clear h
  simp only [Option.some.injEq,Prod.mk.injEq] at hf
  obtain ⟨rfl,rfl⟩:=hf
  simp only [mid] at hl
  simp -implicitDefEqProofs [c_spec_areader_quoted]
  refine awp_loop2 (σ:=L8 × L8 × L8) (fun q=>⟨[(0,.ref 1000000 0),(4,outV 71 q.2.2)],outH 71 q.2.2++[(1000000,.cells [.str (p0++t0),.int .i64 (q.1.length:Int)])]⟩)
    (fun q=>p0++t0=q.1++q.2.1∧(rQ [] t0).1=(rQ q.2.2 q.2.1).1∧(rQ [] t0).2.1=(rQ q.2.2 q.2.1).2.1∧p0.length+(rQ [] t0).2.2=q.1.length+(rQ q.2.2 q.2.1).2.2∧q.2.2.length≤q.1.length) (fun q=>q.2.1.length) (p0,t0,[]) (by simp) ?_ ?_
  · simp
  rintro ⟨p,t,out⟩ ⟨e1,e2,e3,e4,e5⟩ LQ hLQ
  simp only at e1 e2 e3 e4 e5
  rw [e2,e3,e4]
  have hlN:(p++t).length < 1099511627776:=by rw [← e1]; exact hl
  simp only [List.length_append] at hlN
  cases t with
  | nil =>
    simp only [rQ,Nat.add_zero]
    simp only [List.append_nil] at e1
    rw [e1]
    cases out with
    | nil=>simp -implicitDefEqProofs [b_spec_areader_quoted_1,t_spec_areader_quoted_2,reach_succ]
    | cons o out=>simp -implicitDefEqProofs [b_spec_areader_quoted_1,t_spec_areader_quoted_2,reach_succ,outV,outH]
  | cons c t =>
    have hlt:(p.length:Int) < ((p0++t0).length:Int):=by rw [e1]; simp only [List.length_append,List.length_cons]; omega
    have g:(p0++t0)[p.length]? = some c:=by rw [e1]; exact get_mid rfl
    simp only [List.length_cons] at hlN
    have ew:IntKind.i64.wrap ((p.length:Int)+1)=(p.length:Int)+1:=wrap64 (by omega) (by omega)
    have e34:((c.toNat:Int)=34)=(c=34):=by
      apply propext; constructor
      · intro e; exact UInt8.toNat_inj.1 (by have:(34:UInt8).toNat=34:=rfl; omega)
      · rintro rfl; rfl
    have e92:((c.toNat:Int)=92)=(c=92):=by
      apply propext; constructor
      · intro e; exact UInt8.toNat_inj.1 (by have:(92:UInt8).toNat=92:=rfl; omega)
      · rintro rfl; rfl
    have e13:((c.toNat:Int)=13)=(c=13):=by
      apply propext; constructor
      · intro e; exact UInt8.toNat_inj.1 (by have:(13:UInt8).toNat=13:=rfl; omega)
      · rintro rfl; rfl
    have e10:((c.toNat:Int)=10)=(c=10):=by
      apply propext; constructor
      · intro e; exact UInt8.toNat_inj.1 (by have:(10:UInt8).toNat=10:=rfl; omega)
      · rintro rfl; rfl
    have fin:∀ (t':L8) (out':L8) (p':L8),p0++t0=p'++t'→t'.length < (c::t).length→rQ out (c::t)=((rQ out' t').1,(rQ out' t').2.1,(rQ out (c::t)).2.2)→p.length+(rQ out (c::t)).2.2=p'.length+(rQ out' t').2.2→out'.length≤p'.length →
        ∀ st,norm [0,4] st=⟨[(0,.ref 1000000 0),(4,outV 71 out')],outH 71 out'++[(1000000,.cells [.str (p0++t0),.int .i64 (p'.length:Int)])]⟩→LQ st:=by
      intro t' out' p' q1 q2 q3 q4 q5 st hst
      have q6:=congrArg (·.1) q3
      have q7:=congrArg (·.2.1) q3
      simp only at q6 q7
      exact hLQ (p',t',out') ⟨q1,e2.trans q6,e3.trans q7,e4.trans q4,q5⟩ q2 st hst
    have hS:p0++t0=p++c::t:=e1
    have hSl:(p0++t0).length=p.length+(t.length+1):=by rw [e1]; simp
    clear e2 e3 e4 hLQ
    generalize p0++t0=S at *
    by_cases c34:c=34
    · have er:rQ out (c::t)=(out,true,1):=by rw [rQ.eq_def]; simp only [if_pos c34]
      rw [er]
      clear fin er
      cases out with
      | nil=>simp -implicitDefEqProofs [b_spec_areader_quoted_1,reach_succ,hlt,g,ew,e34,c34]
      | cons o out=>simp -implicitDefEqProofs [b_spec_areader_quoted_1,reach_succ,outV,outH,hlt,g,ew,e34,c34]
    by_cases c92:c=92
    · cases t with
      | nil =>
        have er:rQ out [c]=([],false,1):=by rw [rQ.eq_def]; simp only [if_neg c34,if_pos c92]
        rw [er]
        clear fin er
        have hS1:(S.length:Int)≤(p.length:Int)+1:=by rw [hSl]; simp
        cases out with
        | nil=>simp -implicitDefEqProofs [b_spec_areader_quoted_1,reach_succ,hlt,g,ew,e34,c34,e92,c92,hS1]
        | cons o out=>simp -implicitDefEqProofs [b_spec_areader_quoted_1,reach_succ,outV,outH,hlt,g,ew,e34,c34,e92,c92,hS1]
      | cons d t =>
        have er:rQ out (c::d::t)=((rQ (out++[d]) t).1,(rQ (out++[d]) t).2.1,(rQ (out++[d]) t).2.2+2):=by rw [rQ.eq_def]; simp only [if_neg c34,if_pos c92]
        have g2:S[p.length+1]? = some d:=by
          rw [hS,show p++c::d::t=(p++[c])++d::t by simp]; exact get_mid (by simp)
        have hn:¬ ((S.length:Int)≤(p.length:Int)+1):=by rw [hSl]; simp only [List.length_cons]; omega
        have ew2:IntKind.i64.wrap ((p.length:Int)+1+1)=(p.length:Int)+1+1:=wrap64 (by omega) (by omega)
        have fin:=fin t (out++[d]) (p++[c,d]) (by rw [hS]; simp) (by simp only [List.length_cons]; omega) (by rw [er]) (by rw [er]; simp; omega) (by simp; omega)
        clear er
        cases out with
        | nil =>
          simp -implicitDefEqProofs [b_spec_areader_quoted_1,hlt,g,ew,e34,c34,e92,c92,hn,g2,ew2]
          exact ⟨by omega,fin _ (by simp [outV,outH]; omega)⟩
        | cons o out =>
          simp only [List.length_cons] at e5
          simp -implicitDefEqProofs [b_spec_areader_quoted_1,outV,outH,hlt,g,ew,e34,c34,e92,c92,hn,g2,ew2]
          exact ⟨by omega,by omega,fin _ (by simp [outV,outH]; omega)⟩
    by_cases c1310:c=13∨c=10
    · have er:rQ out (c::t)=((rQ out t).1,(rQ out t).2.1,(rQ out t).2.2+1):=by rw [rQ.eq_def]; simp only [if_neg c34,if_neg c92,if_pos c1310]
      have fin:=fin t out (p++[c]) (by rw [hS]; simp) (by simp only [List.length_cons]; omega) (by rw [er]) (by rw [er]; simp; omega) (by simp; omega)
      clear er
      rcases c1310 with c13 | c10
      · cases out with
        | nil =>
          simp -implicitDefEqProofs [b_spec_areader_quoted_1,hlt,g,ew,e34,c34,e92,c92,e13,c13]
          exact fin _ (by simp [outV,outH])
        | cons o out =>
          simp -implicitDefEqProofs [b_spec_areader_quoted_1,outV,outH,hlt,g,ew,e34,c34,e92,c92,e13,c13]
          exact fin _ (by simp [outV,outH])
      · have c13:¬ c=13:=by rw [c10]; decide
        cases out with
        | nil =>
          simp -implicitDefEqProofs [b_spec_areader_quoted_1,hlt,g,ew,e34,c34,e92,c92,e13,c13,e10,c10]
          exact fin _ (by simp [outV,outH])
        | cons o out =>
          simp -implicitDefEqProofs [b_spec_areader_quoted_1,outV,outH,hlt,g,ew,e34,c34,e92,c92,e13,c13,e10,c10]
          exact fin _ (by simp [outV,outH])
    · have er:rQ out (c::t)=((rQ (out++[c]) t).1,(rQ (out++[c]) t).2.1,(rQ (out++[c]) t).2.2+1):=by rw [rQ.eq_def]; simp only [if_neg c34,if_neg c92,if_neg c1310]
      have fin:=fin t (out++[c]) (p++[c]) (by rw [hS]; simp) (by simp only [List.length_cons]; omega) (by rw [er]) (by rw [er]; simp; omega) (by simp; omega)
      clear er
      have c13:¬ c=13:=fun h=>c1310 (.inl h)
      have c10:¬ c=10:=fun h=>c1310 (.inr h)
      cases out with
      | nil =>
        simp -implicitDefEqProofs [b_spec_areader_quoted_1,hlt,g,ew,e34,c34,e92,c92,e13,c13,e10,c10]
        exact fin _ (by simp [outV,outH])
      | cons o out =>
        simp only [List.length_cons] at e5
        simp -implicitDefEqProofs [b_spec_areader_quoted_1,outV,outH,hlt,g,ew,e34,c34,e92,c92,e13,c13,e10,c10]
        exact ⟨by omega,fin _ (by simp [outV,outH])⟩

def rVal (m t:L8):L8 × Bool × Nat:=match t with
  | []=>([],false,0)
  | c::t'=>if c=34 then ((rQ [] t').1,(rQ [] t').2.1,1+(rQ [] t').2.2) else (rWd m t,decide (rWd m t ≠ []),(rWd m t).length)
def con_value:List AV→List (Nat × AObj)→Option (AV × List (Nat × AObj))
  | [.ref 0 0,.str m],[(0,.cells [.str s,.int .i64 n])]=>if m.length < big then rdMk mid (fun t=>some (.tup [.str (rVal m t).1,.bool (rVal m t).2.1],(rVal m t).2.2)) s n else none
  | _,_=>none
theorem has_nil {c:Int} {p:L8} (hl:(p++[]).length < mid):con_has [.ref 0 0,.int .u8 c] [(0,rdO (p++[]) p.length)]=some (.bool false,[(0,rdO (p++[]) p.length)]):=by
  simp only [con_has]
  exact rdMk_at (k:=0) rfl hl
theorem has_yes {c:Int} {p t:L8} {x:UInt8} (h:(x.toNat:Int)=c) (hl:(p++x::t).length < mid):con_has [.ref 0 0,.int .u8 c] [(0,rdO (p++x::t) p.length)]=some (.bool true,[(0,rdO (p++x::t) (p.length+1))]):=by
  simp only [con_has]
  exact rdMk_at (k:=1) (by simp only [if_pos h]) hl
theorem has_no {c:Int} {p t:L8} {x:UInt8} (h:¬ (x.toNat:Int)=c) (hl:(p++x::t).length < mid):con_has [.ref 0 0,.int .u8 c] [(0,rdO (p++x::t) p.length)]=some (.bool false,[(0,rdO (p++x::t) p.length)]):=by
  simp only [con_has]
  exact rdMk_at (k:=0) (by simp only [if_neg h]) hl
theorem word_at {m p t:L8} (hm:m.length < big) (hl:(p++t).length < mid):con_word [.ref 0 0,.str m] [(0,rdO (p++t) p.length)]=some (.str (rWd m t),[(0,rdO (p++t) (p.length+(rWd m t).length))]):=by
  simp only [con_word,if_pos hm]
  exact rdMk_at rfl hl
theorem quoted_at {p t:L8} (hl:(p++t).length < mid):con_quoted [.ref 0 0] [(0,rdO (p++t) p.length)]=some (.tup [.str (rQ [] t).1,.bool (rQ [] t).2.1],[(0,rdO (p++t) (p.length+(rQ [] t).2.2))]):=by
  simp only [con_quoted]
  exact rdMk_at rfl hl
theorem value_at {m p t:L8} (hm:m.length < big) (hl:(p++t).length < mid):con_value [.ref 0 0,.str m] [(0,rdO (p++t) p.length)]=some (.tup [.str (rVal m t).1,.bool (rVal m t).2.1],[(0,rdO (p++t) (p.length+(rVal m t).2.2))]):=by
  simp only [con_value,if_pos hm]
  exact rdMk_at rfl hl
theorem blank_at {p t:L8} (hb:(rB t).head? ≠ some 40) (hl:(p++t).length < mid):con_blank [.ref 0 0] [(0,rdO (p++t) p.length)]=some (.bool true,[(0,rdO (p++t) (p.length+(t.takeWhile ws4).length))]):=by
  simp only [con_blank]
  exact rdMk_at (by simp only [if_neg hb]) hl
theorem ok_value (Γ:Gam) (s224:Γ.st 224=con_has) (s225:Γ.st 225=con_quoted) (s226:Γ.st 226=con_word):∀ args hp q,con_value args hp=some q→runsS Γ c_spec_areader_value args hp (fun v=>v=some q):=by
  intro args hp q h
  simp only [con_value] at h
  split at h <;> (try simp at h; done)
  rename_i m s n
  split at h <;> (try simp at h; done)
  rename_i hm
  obtain ⟨p,t,v,k,rfl,rfl,hf,hl,rfl⟩:=rdMk_spec h
  clear h
  simp only [Option.some.injEq,Prod.mk.injEq] at hf
  obtain ⟨rfl,rfl⟩:=hf
  have k226:=word_at hm hl
  cases t with
  | nil =>
    have k224:=has_nil (c:=34) hl
    have e0:rWd m []=[]:=rfl
    simp only [e0] at k226
    simp only [List.length_nil,Nat.add_zero] at k226
    simp only [rVal,Nat.add_zero]
    generalize p++[]=S at *
    generalize p.length=n at *
    simp -implicitDefEqProofs [c_spec_areader_value,acallS,reach_succ,s224,k224,s226,k226]
  | cons c t =>
    by_cases hc:c=34
    · have hc':(c.toNat:Int)=34:=by rw [hc]; rfl
      have k224:=has_yes hc' hl
      have k225:=quoted_at (p:=p++[c]) (t:=t) (by simpa using hl)
      have e1:(p++[c])++t=p++c::t:=by simp
      have e2:(p++[c]).length=p.length+1:=by simp
      rw [e1,e2] at k225
      simp only [rVal,if_pos hc]
      rw [show p.length+(1+(rQ [] t).2.2)=p.length+1+(rQ [] t).2.2 by omega]
      generalize rQ [] t=Q at *
      generalize p++c::t=S at *
      generalize p.length=n at *
      simp only [rdO,Int.natCast_add,Int.natCast_one] at k224 k225
      simp -implicitDefEqProofs [c_spec_areader_value,acallS,reach_succ,s224,k224,s225,k225]
    · have hc':¬ (c.toNat:Int)=34:=by
        intro e; exact hc (UInt8.toNat_inj.1 (by have:(34:UInt8).toNat=34:=rfl; omega))
      have k224:=has_no hc' hl
      simp only [rVal,if_neg hc]
      generalize rWd m (c::t)=W at *
      generalize p++c::t=S at *
      generalize p.length=n at *
      simp -implicitDefEqProofs [c_spec_areader_value,acallS,reach_succ,s224,k224,s226,k226]
end Wax


namespace Wax
open Go (IntKind)

structure ResT.OkW (t:ResT):Prop where
  pre:allWs t.pre
  head:KvOk t.head
  ps:∀ p∈t.ps,(p.1 ≠ []∧allWs p.1)∧KvOk p.2
theorem ResT.OkW.res {t:ResT} (h:t.OkW) {b:L8} (hb:allWs b) {x:PR} (hx:prOf (lowS t.head.1) (lowS t.head.2) (prmsOf ((t.ps.map (·.2)).map kvW) [])=.inr x):trimS (t.txt++b) ≠ []∧resAOf (trimS (t.txt++b))=.inr (some x):=by
  have hw:wordsOf (t.txt++b)=kvW t.head::(t.ps.map (·.2)).map kvW:=by
    have e:t.txt++b=t.pre++(kvW t.head++(flatW (t.ps.map fun p=>(p.1,kvW p.2))++b)):=by simp [ResT.txt]
    rw [e,wordsOf_flat h.pre hb kvW_ne (gW_non (kvW_g h.head))]
    · simp
    · intro p hp
      obtain ⟨q,hq,rfl⟩:=List.mem_map.1 hp
      have:=h.ps q hq
      exact ⟨this.1,kvW_ne,gW_non (kvW_g this.2)⟩
  have hw2:=wordsOf_trim (t.txt++b)
  rw [hw] at hw2
  refine ⟨fun e=>?_,?_⟩
  · rw [e] at hw2; simp [wordsOf,wordsGo] at hw2
  · simp only [resAOf,hw2]
    rw [if_neg kvW_not_none,kvW_of h.head]
    simp only [hx]
theorem ResT.OkW.no {t:ResT} (h:t.OkW):noB 59 t.txt:=by
  refine noB_app (allWs_no h.pre) (noB_app (gW_no (kvW_g h.head)) ?_)
  intro x hx
  simp only [flatW,List.mem_flatMap,List.mem_map] at hx
  obtain ⟨_,⟨q,hq,rfl⟩,hx⟩:=hx
  have:=h.ps q hq
  rcases List.mem_append.1 hx with hx | hx
  · exact allWs_no this.1.2 x hx
  · exact gW_no (kvW_g this.2) x hx
end Wax


namespace Wax
open Go Go.ChangeShapes Go.WideShapes Go.RowKit

theorem lkGl_mem:∀ {l:List (Nat × List AV)} {g:Nat} {cs:List AV},lkGl l g=some cs→(g,cs)∈l
  | [],_,_,h=>by simp [lkGl] at h
  | (i,v)::r,g,cs,h=>by
    simp only [lkGl] at h
    split at h
    · rename_i e
      simp only [beq_iff_eq] at e
      simp only [Option.some.injEq] at h
      subst e; subst h; simp
    · exact List.mem_cons_of_mem _ (lkGl_mem h)

theorem GlobOk.of {T:Tab} {w:World} {F:Frz} (h:∀ p∈T.gl,RepAt T w F p.1 0 p.2∧F p.1∧∃ vs q a,w.heap[p.1]? = some (.cells vs q a)∧vs.size=p.2.length):GlobOk T w F:=fun g cs hg=>h (g,cs) (lkGl_mem hg)

theorem var_heap {P:Program} {w:World} {n:String} {g:Nat} {cs:Array Value} (hg:P.globalNamed n=some g) (hv:w.var? P n=some cs):∃ q a,w.heap[g]? = some (.cells cs q a):=by
  simp only [World.var?,hg,Option.bind_some] at hv
  split at hv
  · rename_i cs' q a h
    injection hv with hv
    subst hv
    exact ⟨q,a,h⟩
  · simp at hv

theorem lt_of_heap {w:World} {g:Nat} {x:Obj} (h:w.heap[g]? = some x):g < w.heap.size:=by
  rcases Nat.lt_or_ge g w.heap.size with h' | h'
  · exact h'
  · rw [Array.getElem?_eq_none h'] at h; simp at h

theorem repAt_err {T:Tab} {P:Program} {w:World} {n:String} {g tp:Nat} {y:Value} (hg:P.globalNamed n=some g) (hv:w.var? P n=some #[.iface tp y]) (ht:lkN T.tys tp=some 3) :
    RepAt T w (fun b=>b < w.heap.size) g 0 [.ifc 3 .junk]∧g < w.heap.size∧∃ vs q a,w.heap[g]? = some (.cells vs q a)∧vs.size=1:=by
  obtain ⟨q,a,h⟩:=var_heap hg hv
  refine ⟨?_,lt_of_heap h,_,q,a,h,rfl⟩
  simp only [RepAt,and_true]
  exact ⟨lt_of_heap h,_,by simpa using World.var?_cell hg hv 0,tp,y,rfl,ht,trivial⟩

theorem repAt_ints {T:Tab} {w:World} {F:Frz} {g:Nat} {k:IntKind} (hF:F g):∀ (zs:List Int) (o:Nat),(∀ j z,zs[j]? = some z→w.cell? ⟨g,o+j,none⟩=some (.int k z))→RepAt T w F g o (zs.map (AV.int k))
  | [],_,_=>trivial
  | z::r,o,h=>by
    simp only [List.map_cons,RepAt]
    refine ⟨⟨hF,_,by simpa using h 0 z rfl,by simp [Rep]⟩,?_⟩
    exact repAt_ints hF r (o+1) fun j s hj=>by
      rw [show o+1+j=o+(j+1) by omega]
      exact h (j+1) s (by simpa using hj)

theorem repAt_tab {T:Tab} {P:Program} {w:World} {n:String} {g:Nat} {k:IntKind} {zs:List Int} (hg:P.globalNamed n=some g) (hv:Lib.TabIs P w n k zs) :
    RepAt T w (fun b=>b < w.heap.size) g 0 (zs.map (AV.int k))∧g < w.heap.size∧∃ vs q a,w.heap[g]? = some (.cells vs q a)∧vs.size=(zs.map (AV.int k)).length:=by
  have hv':w.var? P n=some (zs.map fun z=>Value.int k z).toArray:=hv
  obtain ⟨q,a,h⟩:=var_heap hg hv'
  refine ⟨repAt_ints (F:=fun b=>b < w.heap.size) (lt_of_heap h) zs 0 fun j z hj=>?_,lt_of_heap h,_,q,a,h,by simp⟩
  have hc:=World.var?_cell hg hv' j
  rw [Nat.zero_add,hc]
  simp [hj]

end Wax


namespace Wax
open Go Go.ChangeShapes Go.WideShapes Go.RowKit Go.Joins Go.Deep

section
variable {P:Program} {T:Tab} {w:World} {H:Type} {enc:TypeId × Value→H}

theorem repSl_pairs {F:Frz} {b:Nat} (hF:F b):∀ (l:List (List UInt8 × List UInt8)) (o:Nat),(∀ (j:Nat) p,l[j]? = some p→w.cell? ⟨b,o+j * 2,none⟩=some (.string ⟨p.1.toArray⟩)∧w.cell? ⟨b,o+j * 2+1,none⟩=some (.string ⟨p.2.toArray⟩))→RepSl T w F 2 b o (pr2 l)
  | [],_,_=>trivial
  | p::r,o,h=>by
    have h0:=h 0 p rfl
    simp only [Nat.zero_mul,Nat.add_zero] at h0
    simp only [pr2_cons,RepSl,RepAt,and_true]
    refine ⟨rfl,⟨⟨hF,_,h0.1,by simp [Rep]⟩,hF,_,h0.2,by simp [Rep]⟩,?_⟩
    exact repSl_pairs hF r (o+2) fun j q hj=>by
      have:=h (j+1) q (by simpa using hj)
      rwa [show o+(j+1) * 2=o+2+j * 2 by omega] at this

def strOf:Value→List UInt8
  | .string s=>s.data.toList
  | _=>[]

end
end Wax


namespace Wax
open Go Go.ChangeShapes Go.WideShapes Go.RowKit Go.Joins Go.Deep

structure Bulk (H:Type) where
  B:DataW H→Nat
  A:List (DataW H)→Nat
  str:∀ b,B (.lit (.string b))=b.length+1
  agg:∀ l,B (.agg l)=A l+1
  slice:∀ e s,B (.slice e s)=A e+A s+1
  nil:A []=0
  cons:∀ d l,A (d::l)=B d+A l
theorem Bulk.range {H:Type} (K:Bulk H) (D:Nat→DataW H) (f:Nat→Nat):∀ (l:List Nat),(∀ i∈l,f i≤K.B (D i))→(l.map f).sum≤K.A (l.map D)
  | [],_=>by simp
  | i::l,h=>by
    rw [List.map_cons,List.map_cons,List.sum_cons,K.cons]
    have h1:=h i (by simp)
    have h2:=K.range D f l (fun j hj=>h j (by simp [hj]))
    omega
def kvSz (p:List UInt8 × List UInt8):Nat:=p.1.length+p.2.length
def AR.bulk (r:AR):Nat:=r.method.length+r.value.length+r.reason.length+r.domain.length+r.ident.length+r.fr.length+r.sender.length+r.ip.length+r.helo.length+r.auth.length+r.hkey.length+r.hval.length+r.remote.length+((r.ps.getD []).map fun p=>kvSz p+1).sum

section
variable {P:Program} {T:Tab} {w:World} {H:Type} {enc:TypeId × Value→H}

theorem addr_eta {a:Addr} (h:a.spot=none):a=⟨a.block,a.off,none⟩:=by cases a; simp_all
theorem cell_spot {a:Addr} {v:Value} (h:w.cell? a=some v):a.spot=none∧a.block < w.heap.size:=by
  unfold World.cell? at h
  split at h
  · rename_i c t f hh
    split at h
    · simp at h
    · rename_i hs
      refine ⟨by simpa using hs,?_⟩
      rcases Nat.lt_or_ge a.block w.heap.size with h1 | h1
      · exact h1
      · rw [Array.getElem?_eq_none h1] at hh; simp at hh
  · simp at h
theorem trod_pairs {t e:TypeId} {f0 f1:Field} {n:Nat} {v:Value} {y:DataW H × List MemPlace} (K:Bulk H) (ht:P.underlying t=some (.slice e)) (he:P.underlying e=some (.struct #[f0,f1]))
    (ce:P.cellsOf e=2) (o0:f0.offset=0) (o1:f1.offset=1) (c0:P.cellsOf f0.type=1) (c1:P.cellsOf f1.type=1) (s0:P.underlying f0.type=some .string) (s1:P.underlying f1.type=some .string)
    (h:DataW.trod enc P w 0 (fun _=>true) true n t [v]=some y) :
    ∃ x:Option (List (List UInt8 × List UInt8)),Rep T w (fun k=>k < w.heap.size) noRho (slP x) v∧(x.getD []).length < 9223372036854775808∧((x.getD []).map fun p=>kvSz p+1).sum≤K.B y.1:=by
  rcases open_slice_pairs ht he ce o0 o1 c0 c1 h with ⟨hcs,rfl⟩ | ⟨a,len,cap,m,k,V0,V1,D0,D1,P0,P1,hcs,_,hl,hm,hmm,rfl,hcell⟩
  · simp at hcs
    subst hcs
    exact ⟨none,by simp [slP,Rep],by simp,by simp⟩
  · simp at hcs
    subst hcs
    simp only [if_true] at hmm
    have h1:cap≤9223372036854775807:=hm
    by_cases h0:len=0
    · subst h0
      refine ⟨some [],?_,by simp,by simp⟩
      simp only [slP,pr2,List.map_nil,Rep]
      exact .inr ⟨trivial,a,cap,rfl⟩
    · obtain ⟨g0,_,_,_⟩:=hcell 0 (by omega)
      have ea:a.add (0 * 2)=a:=by simp [Addr.add]
      rw [ea] at g0
      obtain ⟨hs,hb⟩:=cell_spot g0
      rw [addr_eta hs] at hcell ⊢
      generalize a.block=b at *
      generalize a.off=o at *
      obtain ⟨l,hl'⟩:∃ l:List (List UInt8 × List UInt8),l=(List.range len).map fun i=>(strOf (V0 i),strOf (V1 i)):=⟨_,rfl⟩
      have hll:l.length=len:=by rw [hl']; simp
      refine ⟨some l,?_,by simp only [Option.getD_some]; omega,?_⟩
      · simp only [slP,Rep]
        refine .inl ⟨b,o,cap,?_,?_,?_⟩
        · simp [pr2,hll]
        · simp [pr2,hll]; exact hl
        · refine repSl_pairs (F:=fun k=>k < w.heap.size) hb l o ?_
          intro j p hj
          have hjl:j < len:=by
            rcases Nat.lt_or_ge j l.length with h | h
            · omega
            · simp [List.getElem?_eq_none h] at hj
          obtain ⟨g0,g1,r0,r1⟩:=hcell j (by omega)
          rw [addr_add] at g0
          have e1:((⟨b,o,none⟩:Addr).add (j * 2+1))=⟨b,o+(j * 2+1),none⟩:=addr_add _ _ _
          rw [e1,← Nat.add_assoc] at g1
          rw [hl',List.getElem?_map,List.getElem?_range hjl] at hj
          simp only [Option.map_some,Option.some.injEq] at hj
          subst hj
          rw [g0,g1]
          obtain ⟨t0,q0,_,_⟩:=DataW.trod_string s0 r0
          obtain ⟨t1,q1,_,_⟩:=DataW.trod_string s1 r1
          injection q0 with q0
          injection q1 with q1
          rw [q0,q1]
          exact ⟨rfl,rfl⟩
      · simp only [Option.getD_some]
        have hr:=K.range (fun i=>.agg [D0 i,D1 i]) (fun i=>kvSz (strOf (V0 i),strOf (V1 i))+1) (List.range len) (fun i hi=>by
          have hi':i < m:=by have:=List.mem_range.1 hi; omega
          obtain ⟨_,_,r0,r1⟩:=hcell i hi'
          obtain ⟨t0,q0,z0,_⟩:=DataW.trod_string s0 r0
          obtain ⟨t1,q1,z1,_⟩:=DataW.trod_string s1 r1
          injection q0 with q0
          injection q1 with q1
          injection z0 with z0
          injection z1 with z1
          rw [z0,z1,q0,q1,K.agg,K.cons,K.cons,K.nil,K.str,K.str]
          simp only [kvSz,strOf]
          omega)
        rw [K.slice]
        have:(l.map fun p=>kvSz p+1)=(List.range len).map (fun i=>kvSz (strOf (V0 i),strOf (V1 i))+1):=by rw [hl',List.map_map]; rfl
        rw [this]
        omega

theorem list16 {α:Type} {l:List α} (h:l.length=16):∃ c0 c1 c2 c3 c4 c5 c6 c7 c8 c9 c10 c11 c12 c13 c14 c15,l=[c0,c1,c2,c3,c4,c5,c6,c7,c8,c9,c10,c11,c12,c13,c14,c15]:=by
  match l,h with
  | [c0,c1,c2,c3,c4,c5,c6,c7,c8,c9,c10,c11,c12,c13,c14,c15],_=>exact ⟨c0,c1,c2,c3,c4,c5,c6,c7,c8,c9,c10,c11,c12,c13,c14,c15,rfl⟩
def arFlds (ps:TypeId):List (Nat × Nat × Option TypeDesc):=[(0,1,some (.int .i64)),(1,1,some .string),(2,1,some .string),(3,1,some .string),(4,1,some .string),(5,1,some .string),(6,1,some .string),(7,1,some .string),(8,1,some .string),(9,1,some .string),(10,1,some .string),(11,1,some .string),(12,1,some .string),(13,1,some .string),(14,1,some (.int .i64)),(15,1,some (.slice ps))]

theorem trod_ar {e pt:TypeId} {f0 f1:Field} {fs:Array Field} {n:Nat} {cs:List Value} {y:DataW H × List MemPlace} (K:Bulk H) (he:P.underlying e=some (.struct fs)) (ce:P.cellsOf e=16)
    (hfs:(fs.toList.map fun f=>(f.offset,P.cellsOf f.type,P.underlying f.type))=arFlds pt) (hp:P.underlying pt=some (.struct #[f0,f1]))
    (cp:P.cellsOf pt=2) (o0:f0.offset=0) (o1:f1.offset=1) (c0:P.cellsOf f0.type=1) (c1:P.cellsOf f1.type=1) (s0:P.underlying f0.type=some .string) (s1:P.underlying f1.type=some .string)
    (h:DataW.trod enc P w 0 (fun _=>true) true n e cs=some y) :
    ∃ r:AR,RepL T w (fun k=>k < w.heap.size) noRho r.cells cs∧(r.ps.getD []).length < 9223372036854775808∧r.bulk+1≤K.B y.1:=by
  obtain ⟨xs,k,_,rfl,hcl,hxl,hf⟩:=DataW.trod_struct he h
  rw [ce] at hcl
  obtain ⟨g⟩:=fs
  have hgl:g.length=16:=by have:=congrArg List.length hfs; simpa [arFlds] using this
  obtain ⟨a0,a1,a2,a3,a4,a5,a6,a7,a8,a9,a10,a11,a12,a13,a14,a15,rfl⟩:=list16 hgl
  obtain ⟨y0,y1,y2,y3,y4,y5,y6,y7,y8,y9,y10,y11,y12,y13,y14,y15,rfl⟩:=list16 (hxl.trans (by simp))
  obtain ⟨v0,v1,v2,v3,v4,v5,v6,v7,v8,v9,v10,v11,v12,v13,v14,v15,rfl⟩:=list16 hcl
  simp only [arFlds,List.map_cons,List.map_nil,List.cons.injEq,Prod.mk.injEq,and_true] at hfs
  obtain ⟨⟨p0,q0,u0⟩,⟨p1,q1,u1⟩,⟨p2,q2,u2⟩,⟨p3,q3,u3⟩,⟨p4,q4,u4⟩,⟨p5,q5,u5⟩,⟨p6,q6,u6⟩,⟨p7,q7,u7⟩,⟨p8,q8,u8⟩,⟨p9,q9,u9⟩,⟨p10,q10,u10⟩,⟨p11,q11,u11⟩,⟨p12,q12,u12⟩,⟨p13,q13,u13⟩,⟨p14,q14,u14⟩,p15,q15,u15⟩:=hfs
  have F:∀ (i:Nat) (f:Field) (v:Value) (z:DataW H × List MemPlace),[a0,a1,a2,a3,a4,a5,a6,a7,a8,a9,a10,a11,a12,a13,a14,a15][i]? = some f→f.offset=i→P.cellsOf f.type=1→([v0,v1,v2,v3,v4,v5,v6,v7,v8,v9,v10,v11,v12,v13,v14,v15].drop i).take 1=[v]→[y0,y1,y2,y3,y4,y5,y6,y7,y8,y9,y10,y11,y12,y13,y14,y15][i]? = some z→DataW.trod enc P w 0 (fun _=>true) true k f.type [v]=some z:=by
    intro i f v z h1 h2 h3 h4 h5
    have:=hf i f (by simpa using h1)
    rw [h2,h3,h4,h5] at this
    exact this
  obtain ⟨n0,e0,d0,_⟩:=DataW.trod_int u0 (F 0 a0 v0 y0 rfl p0 q0 rfl rfl)
  obtain ⟨t1,e1,d1,_⟩:=DataW.trod_string u1 (F 1 a1 v1 y1 rfl p1 q1 rfl rfl)
  obtain ⟨t2,e2,d2,_⟩:=DataW.trod_string u2 (F 2 a2 v2 y2 rfl p2 q2 rfl rfl)
  obtain ⟨t3,e3,d3,_⟩:=DataW.trod_string u3 (F 3 a3 v3 y3 rfl p3 q3 rfl rfl)
  obtain ⟨t4,e4,d4,_⟩:=DataW.trod_string u4 (F 4 a4 v4 y4 rfl p4 q4 rfl rfl)
  obtain ⟨t5,e5,d5,_⟩:=DataW.trod_string u5 (F 5 a5 v5 y5 rfl p5 q5 rfl rfl)
  obtain ⟨t6,e6,d6,_⟩:=DataW.trod_string u6 (F 6 a6 v6 y6 rfl p6 q6 rfl rfl)
  obtain ⟨t7,e7,d7,_⟩:=DataW.trod_string u7 (F 7 a7 v7 y7 rfl p7 q7 rfl rfl)
  obtain ⟨t8,e8,d8,_⟩:=DataW.trod_string u8 (F 8 a8 v8 y8 rfl p8 q8 rfl rfl)
  obtain ⟨t9,e9,d9,_⟩:=DataW.trod_string u9 (F 9 a9 v9 y9 rfl p9 q9 rfl rfl)
  obtain ⟨t10,e10,d10,_⟩:=DataW.trod_string u10 (F 10 a10 v10 y10 rfl p10 q10 rfl rfl)
  obtain ⟨t11,e11,d11,_⟩:=DataW.trod_string u11 (F 11 a11 v11 y11 rfl p11 q11 rfl rfl)
  obtain ⟨t12,e12,d12,_⟩:=DataW.trod_string u12 (F 12 a12 v12 y12 rfl p12 q12 rfl rfl)
  obtain ⟨t13,e13,d13,_⟩:=DataW.trod_string u13 (F 13 a13 v13 y13 rfl p13 q13 rfl rfl)
  obtain ⟨n14,e14,d14,_⟩:=DataW.trod_int u14 (F 14 a14 v14 y14 rfl p14 q14 rfl rfl)
  obtain ⟨x,rx,lx,bx⟩:=trod_pairs (T:=T) K u15 hp cp o0 o1 c0 c1 s0 s1 (F 15 a15 v15 y15 rfl p15 q15 rfl rfl)
  simp only [List.cons.injEq,and_true] at e0 e1 e2 e3 e4 e5 e6 e7 e8 e9 e10 e11 e12 e13 e14
  subst e0 e1 e2 e3 e4 e5 e6 e7 e8 e9 e10 e11 e12 e13 e14
  refine ⟨⟨n0,t1.data.toList,t2.data.toList,t3.data.toList,t4.data.toList,t5.data.toList,t6.data.toList,t7.data.toList,t8.data.toList,t9.data.toList,t10.data.toList,t11.data.toList,t12.data.toList,t13.data.toList,n14,x⟩,?_,lx,?_⟩
  · simp [AR.cells,RepL,Rep,rx]
  · rw [K.agg]
    simp only [List.map_cons,List.map_nil,K.cons,K.nil,d1,d2,d3,d4,d5,d6,d7,d8,d9,d10,d11,d12,d13,K.str]
    simp only [AR.bulk]
    omega

end
end Wax


namespace Wax
open Go (IntKind)

def asTr:List AV→Option (List (L8 × L8 × L8))
  | []=>some []
  | .agg [.str a,.str b,.str c]::r=>(asTr r).map ((a,b,c) :: ·)
  | _::_=>none
def slTr:AV→Option (List (L8 × L8 × L8))
  | .nilS=>some []
  | .sl es xs=>if es=3 then asTr xs else none
  | _=>none
theorem asTr_tr3:∀ l,asTr (tr3 l)=some l
  | []=>rfl
  | (a,b,c)::l=>by simp [asTr,asTr_tr3 l]
theorem slTr_tripV (l):slTr (tripV l)=some l:=by cases l <;> simp [tripV,slTr,← tr3_cons,asTr_tr3,-tr3_cons]
@[simp] theorem tr3_app {l m}:tr3 (l++m)=tr3 l++tr3 m:=by simp [tr3]

end Wax


namespace Wax
open Go (IntKind)

theorem blankA {S p t:L8} (e:S=p++t) (hb:(rB t).head? ≠ some 40) (hl:S.length < mid):∃ p',S=p'++rB t∧con_blank [.ref 0 0] [(0,.cells [.str S,.int .i64 (p.length:Int)])]=some (.bool true,[(0,.cells [.str S,.int .i64 (p'.length:Int)])]):=by
  subst e
  refine ⟨p++t.takeWhile ws4,?_,?_⟩
  · rw [List.append_assoc,rB,List.takeWhile_append_dropWhile]
  · have:=blank_at hb hl
    rw [this,List.length_append]
theorem wordA {S p t m:L8} (e:S=p++t) (hm:m.length < big) (hl:S.length < mid):∃ p',S=p'++t.drop (rWd m t).length∧con_word [.ref 0 0,.str m] [(0,.cells [.str S,.int .i64 (p.length:Int)])]=some (.str (rWd m t),[(0,.cells [.str S,.int .i64 (p'.length:Int)])]):=by
  subst e
  refine ⟨p++rWd m t,?_,?_⟩
  · have h:rWd m t++t.dropWhile (tkC m)=t:=List.takeWhile_append_dropWhile
    have h2:t.drop (rWd m t).length=t.dropWhile (tkC m):=by
      have:t.drop (rWd m t).length=(rWd m t++t.dropWhile (tkC m)).drop (rWd m t).length:=by rw [h]
      rw [this,List.drop_left]
    rw [h2,List.append_assoc,h]
  · have:=word_at hm hl
    rw [this,List.length_append]
theorem hasA {S p t:L8} {x:UInt8} {c:Int} (e:S=p++x::t) (hx:(x.toNat:Int)=c) (hl:S.length < mid):∃ p',S=p'++t∧con_has [.ref 0 0,.int .u8 c] [(0,.cells [.str S,.int .i64 (p.length:Int)])]=some (.bool true,[(0,.cells [.str S,.int .i64 (p'.length:Int)])]):=by
  subst e
  refine ⟨p++[x],by simp,?_⟩
  have:=has_yes hx hl
  rw [this,List.length_append]; rfl
theorem hasN {S p t:L8} {c:Int} (e:S=p++t) (hx:∀ x:UInt8,t.head? = some x→¬ (x.toNat:Int)=c) (hl:S.length < mid):con_has [.ref 0 0,.int .u8 c] [(0,.cells [.str S,.int .i64 (p.length:Int)])]=some (.bool false,[(0,.cells [.str S,.int .i64 (p.length:Int)])]):=by
  subst e
  cases t with
  | nil=>exact has_nil hl
  | cons x t=>exact has_no (hx x rfl) hl
theorem ne_int {x c:UInt8} (h:¬ x=c):¬ (x.toNat:Int)=(c.toNat:Int):=fun e=>h (UInt8.toNat_inj.1 (by omega))
theorem rQ_le:∀ (n:Nat) (t out:L8),t.length≤n→(rQ out t).2.2≤t.length
  | 0,t,out,h=>by
    cases t with
    | nil=>simp [rQ]
    | cons _ _=>simp at h
  | n+1,t,out,h=>by
    cases t with
    | nil=>simp [rQ]
    | cons c t =>
      simp only [List.length_cons] at h ⊢
      rw [rQ.eq_def]
      simp only
      split
      · show 1≤t.length+1
        omega
      split
      · cases t with
        | nil=>simp
        | cons d t =>
          simp only [List.length_cons] at h ⊢
          have:=rQ_le n t (out++[d]) (by omega)
          omega
      split
      · have:=rQ_le n t out (by omega)
        simp only; omega
      · have:=rQ_le n t (out++[c]) (by omega)
        simp only; omega
theorem rVal_le (m t:L8):(rVal m t).2.2≤t.length:=by
  unfold rVal
  cases t with
  | nil=>simp
  | cons c t =>
    simp only
    split
    · have:=rQ_le t.length t [] (Nat.le_refl _)
      simp only [List.length_cons]; omega
    · exact (List.takeWhile_prefix _).length_le
theorem valueA {S p t m:L8} (e:S=p++t) (hm:m.length < big) (hl:S.length < mid):∃ p',S=p'++t.drop (rVal m t).2.2∧con_value [.ref 0 0,.str m] [(0,.cells [.str S,.int .i64 (p.length:Int)])]=some (.tup [.str (rVal m t).1,.bool (rVal m t).2.1],[(0,.cells [.str S,.int .i64 (p'.length:Int)])]):=by
  subst e
  refine ⟨p++t.take (rVal m t).2.2,?_,?_⟩
  · rw [List.append_assoc,List.take_append_drop]
  · have:=value_at hm hl
    rw [this,List.length_append,List.length_take,Nat.min_eq_left (rVal_le m t)]

structure Inf where
  m:L8
  v:L8
  r:L8
  ps:List (L8 × L8 × L8)
def Inf.V (x:Inf):AV:=.agg [.str x.m,.str [],.str x.v,.str x.r,tripV x.ps]
def bB (t:L8):Option L8:=if (rB t).head? = some 40 then none else some (rB t)
def halvesP (s:L8):L8 × L8 × Bool:=match cutAt 46 s with | some q=>(q.1,q.2,true) | none=>(s,[],false)
def rLoop:Nat→Inf→L8→Option (Inf × Bool × L8)
  | 0,_,_=>none
  | n+1,x,t=>match bB t with
    | none=>none
    | some t1 =>
      if t1=[]∨t1.head? = some 59 then some (x,true,t1)
      else match bB (t1.drop (rWd [] t1).length) with
        | none=>none
        | some t3=>match t3 with
          | []=>some (x,false,[])
          | c::t4=>if c=61 then (match bB t4 with
              | none=>none
              | some t5 =>
                if lowS (rWd [] t1)=qReason then
                  (if (rVal [] t5).2.1=false∨x.r ≠ []∨x.ps ≠ [] then some (x,false,t5.drop (rVal [] t5).2.2)
                   else rLoop n { x with r:=(rVal [] t5).1 } (t5.drop (rVal [] t5).2.2))
                else
                  (if (rVal [64,58] t5).2.1=false∨(halvesP (rWd [] t1)).2.2=false∨mKw (halvesP (rWd [] t1)).1=false∨(halvesP (rWd [] t1)).2.1=[] then some (x,false,t5.drop (rVal [64,58] t5).2.2)
                   else rLoop n { x with ps:=x.ps++[((halvesP (rWd [] t1)).1,(halvesP (rWd [] t1)).2.1,(rVal [64,58] t5).1)] } (t5.drop (rVal [64,58] t5).2.2)))
            else some (x,false,c::t4)
def aInfo (t:L8):Option (Inf × Bool × Bool × L8):=match bB t with
  | none=>none
  | some t1 =>
    if mKw (rWd [] t1)=false then some (⟨rWd [] t1,[],[],[]⟩,false,false,t1.drop (rWd [] t1).length)
    else match bB (t1.drop (rWd [] t1).length) with
      | none=>none
      | some t3 =>
        if lowS (rWd [] t1)=sNone0∧t3=[] then some (⟨rWd [] t1,[],[],[]⟩,true,true,[])
        else match t3 with
          | []=>some (⟨rWd [] t1,[],[],[]⟩,false,false,[])
          | c::t4=>if c=47 then none else if c=61 then (match bB t4 with
              | none=>none
              | some t5 =>
                if mKw (rWd [] t5)=false then some (⟨rWd [] t1,rWd [] t5,[],[]⟩,false,false,t5.drop (rWd [] t5).length)
                else (rLoop (t5.length+1) ⟨rWd [] t1,rWd [] t5,[],[]⟩ (t5.drop (rWd [] t5).length)).map fun r=>(r.1,false,r.2.1,r.2.2))
            else some (⟨rWd [] t1,[],[],[]⟩,false,false,c::t4)
def con_info:List AV→List (Nat × AObj)→Option (AV × List (Nat × AObj))
  | [.ref 0 0],[(0,.cells [.str s,.int .i64 n])]=>rdMk half (fun t=>(aInfo t).map fun r=>(.tup [r.1.V,.bool r.2.1,.bool r.2.2.1],t.length - r.2.2.2.length)) s n
  | _,_=>none
theorem bB_sf {t u:L8} (h:bB t=some u):u <:+ t∧u=rB t∧(rB t).head? ≠ some 40:=by
  unfold bB at h
  split at h
  · simp at h
  · rename_i hb
    simp only [Option.some.injEq] at h
    exact ⟨h ▸ List.dropWhile_suffix _,h.symm,hb⟩
theorem bB_le {t u:L8} (h:bB t=some u):u.length≤t.length∧u=rB t∧(rB t).head? ≠ some 40:=⟨(bB_sf h).1.length_le,(bB_sf h).2⟩
theorem drop_le (t:L8) (n:Nat):(t.drop n).length≤t.length:=by simp
theorem rLoop_sf:∀ (n:Nat) (x:Inf) (t:L8) {R:Inf × Bool × L8},rLoop n x t=some R→R.2.2 <:+ t
  | 0,_,_,_,h=>by simp [rLoop] at h
  | n+1,x,t,R,h=>by
    rw [rLoop] at h
    split at h
    · simp at h
    rename_i t1 h1
    have l1:=(bB_sf h1).1
    split at h
    · simp only [Option.some.injEq] at h; subst h; exact l1
    split at h
    · simp at h
    rename_i t3 h3
    have l3:=((bB_sf h3).1.trans (List.drop_suffix _ _)).trans l1
    split at h
    · simp only [Option.some.injEq] at h; subst h; exact List.nil_suffix
    rename_i c t4
    split at h
    · split at h
      · simp at h
      rename_i t5 h5
      have l5:=((bB_sf h5).1.trans (List.suffix_cons c t4)).trans l3
      split at h
      · split at h
        · simp only [Option.some.injEq] at h; subst h
          exact (List.drop_suffix _ _).trans l5
        · exact (rLoop_sf n _ _ h).trans ((List.drop_suffix _ _).trans l5)
      · split at h
        · simp only [Option.some.injEq] at h; subst h
          exact (List.drop_suffix _ _).trans l5
        · exact (rLoop_sf n _ _ h).trans ((List.drop_suffix _ _).trans l5)
    · simp only [Option.some.injEq] at h; subst h
      exact l3
theorem aInfo_sf {t:L8} {r:Inf × Bool × Bool × L8} (h:aInfo t=some r):r.2.2.2 <:+ t:=by
  unfold aInfo at h
  split at h
  · simp at h
  rename_i t1 h1
  have l1:=(bB_sf h1).1
  split at h
  · simp only [Option.some.injEq] at h; subst h
    exact (List.drop_suffix _ _).trans l1
  split at h
  · simp at h
  rename_i t3 h3
  have l3:=((bB_sf h3).1.trans (List.drop_suffix _ _)).trans l1
  split at h
  · simp only [Option.some.injEq] at h; subst h; exact List.nil_suffix
  split at h
  · simp only [Option.some.injEq] at h; subst h; exact List.nil_suffix
  rename_i c t4 _
  split at h
  · simp at h
  split at h
  · split at h
    · simp at h
    rename_i t5 h5
    have l5:=((bB_sf h5).1.trans (List.suffix_cons c t4)).trans l3
    split at h
    · simp only [Option.some.injEq] at h; subst h
      exact (List.drop_suffix _ _).trans l5
    · cases hr:rLoop (t5.length+1) ⟨rWd [] t1,rWd [] t5,[],[]⟩ (t5.drop (rWd [] t5).length) with
      | none=>simp [hr] at h
      | some q =>
        simp only [hr,Option.map_some,Option.some.injEq] at h
        subst h
        exact (rLoop_sf _ _ _ hr).trans ((List.drop_suffix _ _).trans l5)
  · simp only [Option.some.injEq] at h; subst h
    exact l3
theorem hasRefL_tc3:∀ l:List (L8 × L8 × L8),hasRefL (tc3 l)=false
  | []=>rfl
  | x::l=>by simp [hasRefL,hasRefL_tc3 l]
theorem end_at {S p q u:L8} (e:S=p++u) (e0:S=q++u):p.length=q.length:=by
  have h1:=congrArg List.length e
  have h2:=congrArg List.length e0
  simp only [List.length_append] at h1 h2
  omega
section
variable {Γ:Gam} (h99:Γ.fn 99=con_MailKeyword) (h102:Γ.fn 102=con_MailHalves) (h112:Γ.fn 112=con_MailLower) (s224:Γ.st 224=con_has) (s226:Γ.st 226=con_word) (s227:Γ.st 227=con_blank) (s228:Γ.st 228=con_value)
include h99 h102 h112 s224 s226 s227 s228
set_option maxRecDepth 100000 in
set_option maxHeartbeats 8000000 in
theorem info_loop {S:L8} (hlh:S.length < half) {pf:L8} {R:Inf × Bool × L8} (ef:S=pf++R.2.2) {n:Nat} {x:Inf} {p t:L8} (e:S=p++t) (hR:rLoop n x t=some R) (hps:x.ps=[]) {ex:List (Nat × AV)} :
    awp Γ (.loop [0,2] b_spec_areader_info_5) (blockQ 0 (finS 1 [.c (some 5) 2,.t 3,.t 4] fun v=>v=some (.tup [R.1.V,.bool false,.bool R.2.1],[(0,rdO S pf.length)]))) ⟨(0,.ref 1000000 0)::(2,.ref 2 0)::ex,[(1000000,.cells [.str S,.int .i64 (p.length:Int)]),(2,.cells [.str x.m,.str [],.str x.v,.str x.r,.nilS])]⟩:=by
  refine awp_loop2 (σ:=Inf × L8 × L8 × Nat) (fun q=>⟨[(0,.ref 1000000 0),(2,.ref 2 0)],grH 183 q.1.ps.length (tc3 q.1.ps)++[(1000000,.cells [.str S,.int .i64 (q.2.1.length:Int)]),(2,.cells [.str q.1.m,.str [],.str q.1.v,.str q.1.r,grV 183 3 q.1.ps.length])]⟩)
    (fun q=>S=q.2.1++q.2.2.1∧rLoop q.2.2.2 q.1 q.2.2.1=some R∧q.1.ps.length+q.2.2.1.length≤S.length) (fun q=>q.2.2.2) (x,p,t,n) (by simp [hps]) ⟨e,hR,by rw [hps,e]; simp⟩ ?_
  clear hps hR e
  have hl:S.length < mid:=by simp only [half] at hlh; simp only [mid]; omega
  rintro ⟨⟨xm,xv,xr,ps⟩,p,t,n⟩ ⟨e,hR,hpl⟩ LQ hLQ
  simp only at e hR hpl
  cases ps with
  | nil =>
    obtain ⟨n,rfl⟩:∃ k,n=k+1:=by
      cases n with
      | zero=>simp [rLoop] at hR
      | succ k=>exact ⟨k,rfl⟩
    rw [rLoop] at hR
    split at hR
    · simp at hR
    rename_i t1 h1
    obtain ⟨_,rfl,hb1⟩:=bB_le h1
    obtain ⟨p1,e1,k1⟩:=blankA e hb1 hl
    have l1:=(bB_le h1).1
    clear h1 hb1
    generalize rB t=t1 at *
    have hS1:=congrArg List.length e1
    simp only [List.length_append] at hS1
    split at hR
    · rename_i hend
      simp only [Option.some.injEq] at hR
      subst hR
      have hpf:=end_at e1 ef
      rw [← hpf]
      clear hpf ef
      cases t1 with
      | nil =>
        have hat:(p1.length:Int)=(S.length:Int):=by simp at hS1; omega
        simp -implicitDefEqProofs [b_spec_areader_info_5,f_spec_areader_info_4,acallS,reach_succ,s224,s226,s227,s228,k1,hat,Inf.V,tripV]
      | cons c t1 =>
        simp only [reduceCtorEq,false_or,List.head?_cons,Option.some.injEq] at hend
        subst hend
        have hat:¬ (p1.length:Int)=(S.length:Int):=by simp only [List.length_cons] at hS1; omega
        have g:S[p1.length]? = some 59:=by rw [e1]; exact get_mid rfl
        simp -implicitDefEqProofs [b_spec_areader_info_5,f_spec_areader_info_4,acallS,reach_succ,s224,s226,s227,s228,k1,hat,g,Inf.V,tripV]
    rename_i hend
    have hne:t1 ≠ []:=fun h=>hend (.inl h)
    obtain ⟨c,t1',ht1⟩:∃ c t',t1=c::t':=by cases t1 with | nil=>exact absurd rfl hne | cons c t'=>exact ⟨c,t',rfl⟩
    have hat:¬ (p1.length:Int)=(S.length:Int):=by rw [ht1] at hS1; simp only [List.length_cons] at hS1; omega
    have g:S[p1.length]? = some c:=by rw [e1,ht1]; exact get_mid rfl
    have hc59:¬ (c.toNat:Int)=59:=by
      refine ne_int (c:=59) fun h=>hend (.inr ?_)
      rw [ht1,h]; rfl
    simp -implicitDefEqProofs [b_spec_areader_info_5,f_spec_areader_info_4,acallS,reach_succ,s224,s226,s227,s228,k1,hat,g,hc59,tripV]
    clear hat g hc59 ht1 hne hend k1 hS1
    obtain ⟨p2,e2,k2⟩:=wordA (m:=[]) e1 (by simp [big]) hl
    have hwl:(rWd [] t1).length < big:=by
      have:=congrArg List.length e1
      have h3:(rWd [] t1).length≤t1.length:=(List.takeWhile_prefix _).length_le
      simp only [List.length_append] at this
      simp only [mid] at hl
      simp only [big]
      omega
    have k112:con_MailLower [.str (rWd [] t1)]=some (.str (lowS (rWd [] t1))):=if_pos hwl
    have k102:con_MailHalves [.str (rWd [] t1),.int .u8 46]=some (cutV 46 (rWd [] t1)):=if_pos hwl
    generalize rWd [] t1=W at *
    split at hR
    · simp at hR
    rename_i t3 h3
    obtain ⟨_,rfl,hb3⟩:=bB_le h3
    obtain ⟨p3,e3,k3⟩:=blankA e2 hb3 hl
    have l3:=(bB_le h3).1
    simp only [List.length_drop] at l3
    clear h3 hb3
    generalize rB (t1.drop W.length)=t3 at *
    cases t3 with
    | nil =>
      simp only [Option.some.injEq] at hR
      subst hR
      have hpf:=end_at e3 ef
      rw [← hpf]
      have q61:=hasN (c:=61) e3 (by intro x hx; simp at hx) hl
      simp -implicitDefEqProofs [f_spec_areader_info_3,acallS,reach_succ,s224,s226,s227,s228,k2,k3,q61,Inf.V,tripV]
    | cons c t4 =>
    simp only at hR
    by_cases c61:c=61
    rotate_left
    · rw [if_neg c61] at hR
      simp only [Option.some.injEq] at hR
      subst hR
      have hpf:=end_at e3 ef
      rw [← hpf]
      have q61:=hasN (c:=61) e3 (by
            intro x hx; simp at hx; subst hx
            exact ne_int (c:=61) c61) hl
      simp -implicitDefEqProofs [f_spec_areader_info_3,acallS,reach_succ,s224,s226,s227,s228,k2,k3,q61,Inf.V,tripV]
    rw [if_pos c61] at hR
    obtain ⟨p4,e4,q61⟩:=hasA (c:=61) e3 (by rw [c61]; rfl) hl
    split at hR
    · simp at hR
    rename_i t5 h5
    obtain ⟨_,rfl,hb5⟩:=bB_le h5
    obtain ⟨p5,e5,k5⟩:=blankA e4 hb5 hl
    have l5:=(bB_le h5).1
    clear h5 hb5
    generalize rB t4=t5 at *
    simp only [List.length_cons] at l3
    simp -implicitDefEqProofs [f_spec_areader_info_3,acallS,reach_succ,s224,s226,s227,s228,k2,k3,q61,k5,tripV]
    clear k2 k3 q61 k5
    split at hR
    · rename_i hre
      simp only [qReason] at hre
      obtain ⟨p6,e6,k6⟩:=valueA (m:=[]) e5 (by simp [big]) hl
      have l6:=drop_le t5 (rVal [] t5).2.2
      generalize t5.drop (rVal [] t5).2.2=t6 at *
      generalize rVal [] t5=V at *
      obtain ⟨w,ok,nn⟩:=V
      simp only at hR
      split at hR
      · rename_i hbad
        simp only [Option.some.injEq] at hR
        subst hR
        have hpf:=end_at e6 ef
        rw [← hpf]
        clear hpf ef
        cases ok with
        | false =>
          simp -implicitDefEqProofs [acallS,reach_succ,s224,s226,s227,s228,f_spec_areader_info_2,f_spec_areader_info_1,k6,hre,acall,h112,k112,h102,k102,h99,Inf.V,tripV]
        | true =>
          by_cases hxr:xr=[]
          · simp [hxr] at hbad
          · simp -implicitDefEqProofs [acallS,reach_succ,s224,s226,s227,s228,f_spec_areader_info_2,f_spec_areader_info_1,k6,hre,acall,h112,k112,h102,k102,h99,Inf.V,tripV,hxr]
      · rename_i hbad
        simp only [not_or,Bool.not_eq_false,ne_eq,Decidable.not_not] at hbad
        obtain ⟨rfl,hxr,hpz⟩:=hbad
        subst hxr
        simp -implicitDefEqProofs [acallS,reach_succ,s224,s226,s227,s228,f_spec_areader_info_2,f_spec_areader_info_1,k6,hre,acall,h112,k112,h102,k102,h99,tripV]
        exact hLQ (⟨xm,xv,w,[]⟩,p6,t6,n) ⟨e6,hR,by simp; omega⟩ (by simp) _ (by simp)
    · rename_i hre
      simp only [qReason] at hre
      obtain ⟨p6,e6,k6⟩:=valueA (m:=[64,58]) e5 (by simp [big]) hl
      have l6:=drop_le t5 (rVal [64,58] t5).2.2
      generalize t5.drop (rVal [64,58] t5).2.2=t6 at *
      generalize rVal [64,58] t5=V at *
      obtain ⟨w,ok,nn⟩:=V
      simp only at hR
      cases hc:cutAt 46 W with
      | none =>
        simp only [cutV,hc] at k102
        simp only [halvesP,hc] at hR
        rw [if_pos (by simp)] at hR
        simp only [Option.some.injEq] at hR
        subst hR
        have hpf:=end_at e6 ef
        rw [← hpf]
        clear hpf ef
        cases ok with
        | false =>
          simp -implicitDefEqProofs [acallS,reach_succ,s224,s226,s227,s228,f_spec_areader_info_2,f_spec_areader_info_1,k6,hre,acall,h112,k112,h102,k102,h99,Inf.V,tripV]
        | true =>
          simp -implicitDefEqProofs [acallS,reach_succ,s224,s226,s227,s228,f_spec_areader_info_2,f_spec_areader_info_1,k6,hre,acall,h112,k112,h102,k102,h99,Inf.V,tripV]
      | some ab =>
        obtain ⟨a,b⟩:=ab
        have hlens:=cutAt_lens hc
        simp only at hlens
        have k99:con_MailKeyword [.str a]=some (.bool (mKw a)):=if_pos (by omega)
        simp only [cutV,hc] at k102
        simp only [halvesP,hc] at hR
        split at hR
        · rename_i hbad
          simp only [Option.some.injEq] at hR
          subst hR
          have hpf:=end_at e6 ef
          rw [← hpf]
          clear hpf ef
          cases ok with
          | false =>
            simp -implicitDefEqProofs [acallS,reach_succ,s224,s226,s227,s228,f_spec_areader_info_2,f_spec_areader_info_1,k6,hre,acall,h112,k112,h102,k102,h99,Inf.V,tripV]
          | true =>
            cases hka:mKw a with
            | false =>
              rw [hka] at k99
              simp -implicitDefEqProofs [acallS,reach_succ,s224,s226,s227,s228,f_spec_areader_info_2,f_spec_areader_info_1,k6,hre,acall,h112,k112,h102,k102,h99,Inf.V,tripV,k99]
            | true =>
              rw [hka] at k99
              have hb:b=[]:=by simpa [hka] using hbad
              subst hb
              simp -implicitDefEqProofs [acallS,reach_succ,s224,s226,s227,s228,f_spec_areader_info_2,f_spec_areader_info_1,k6,hre,acall,h112,k112,h102,k102,h99,Inf.V,tripV,k99]
        · rename_i hbad
          simp only [not_or,Bool.not_eq_false,ne_eq] at hbad
          obtain ⟨rfl,_,hka,hb⟩:=hbad
          rw [hka] at k99
          simp only [half] at hlh
          simp -implicitDefEqProofs [acallS,reach_succ,s224,s226,s227,s228,f_spec_areader_info_2,f_spec_areader_info_1,k6,hre,acall,h112,k112,h102,k102,h99,tripV,k99,hb]
          exact hLQ (⟨xm,xv,xr,[]++[(a,b,w)]⟩,p6,t6,n) ⟨e6,hR,by simp at hpl ⊢; omega⟩ (by simp) _ (by simp [])
  | cons y ys =>
    obtain ⟨ps,hps⟩:∃ l,l=y::ys:=⟨_,rfl⟩
    have hk:ps.length=ys.length+1:=by rw [hps]; rfl
    rw [← hps] at hR hLQ hpl ⊢
    have hG:group 3 (ys.length+1) (tc3 ps)=tr3 ps:=by rw [← hk]; exact group_tc3
    have hT:tripV ps=.sl 3 (tr3 ps):=by rw [hps]; rfl
    have hRf:=hasRefL_tc3 ps
    have hTk:List.take ((ys.length+1) * 3) (tc3 ps)=tc3 ps:=by rw [← hk]; exact List.take_of_length_le (by simp)
    clear hps
    obtain ⟨n,rfl⟩:∃ k,n=k+1:=by
      cases n with
      | zero=>simp [rLoop] at hR
      | succ k=>exact ⟨k,rfl⟩
    rw [rLoop] at hR
    split at hR
    · simp at hR
    rename_i t1 h1
    obtain ⟨_,rfl,hb1⟩:=bB_le h1
    obtain ⟨p1,e1,k1⟩:=blankA e hb1 hl
    have l1:=(bB_le h1).1
    clear h1 hb1
    generalize rB t=t1 at *
    have hS1:=congrArg List.length e1
    simp only [List.length_append] at hS1
    split at hR
    · rename_i hend
      simp only [Option.some.injEq] at hR
      subst hR
      have hpf:=end_at e1 ef
      rw [← hpf]
      clear hpf ef
      cases t1 with
      | nil =>
        have hat:(p1.length:Int)=(S.length:Int):=by simp at hS1; omega
        simp -implicitDefEqProofs [b_spec_areader_info_5,f_spec_areader_info_4,acallS,reach_succ,s224,s226,s227,s228,k1,hat,Inf.V,hk,hG,hT,hRf]
      | cons c t1 =>
        simp only [reduceCtorEq,false_or,List.head?_cons,Option.some.injEq] at hend
        subst hend
        have hat:¬ (p1.length:Int)=(S.length:Int):=by simp only [List.length_cons] at hS1; omega
        have g:S[p1.length]? = some 59:=by rw [e1]; exact get_mid rfl
        simp -implicitDefEqProofs [b_spec_areader_info_5,f_spec_areader_info_4,acallS,reach_succ,s224,s226,s227,s228,k1,hat,g,Inf.V,hk,hG,hT,hRf]
    rename_i hend
    have hne:t1 ≠ []:=fun h=>hend (.inl h)
    obtain ⟨c,t1',ht1⟩:∃ c t',t1=c::t':=by cases t1 with | nil=>exact absurd rfl hne | cons c t'=>exact ⟨c,t',rfl⟩
    have hat:¬ (p1.length:Int)=(S.length:Int):=by rw [ht1] at hS1; simp only [List.length_cons] at hS1; omega
    have g:S[p1.length]? = some c:=by rw [e1,ht1]; exact get_mid rfl
    have hc59:¬ (c.toNat:Int)=59:=by
      refine ne_int (c:=59) fun h=>hend (.inr ?_)
      rw [ht1,h]; rfl
    simp -implicitDefEqProofs [b_spec_areader_info_5,f_spec_areader_info_4,acallS,reach_succ,s224,s226,s227,s228,k1,hat,g,hc59,hk,hG,hT,hRf]
    clear hat g hc59 ht1 hne hend k1 hS1
    obtain ⟨p2,e2,k2⟩:=wordA (m:=[]) e1 (by simp [big]) hl
    have hwl:(rWd [] t1).length < big:=by
      have:=congrArg List.length e1
      have h3:(rWd [] t1).length≤t1.length:=(List.takeWhile_prefix _).length_le
      simp only [List.length_append] at this
      simp only [mid] at hl
      simp only [big]
      omega
    have k112:con_MailLower [.str (rWd [] t1)]=some (.str (lowS (rWd [] t1))):=if_pos hwl
    have k102:con_MailHalves [.str (rWd [] t1),.int .u8 46]=some (cutV 46 (rWd [] t1)):=if_pos hwl
    generalize rWd [] t1=W at *
    split at hR
    · simp at hR
    rename_i t3 h3
    obtain ⟨_,rfl,hb3⟩:=bB_le h3
    obtain ⟨p3,e3,k3⟩:=blankA e2 hb3 hl
    have l3:=(bB_le h3).1
    simp only [List.length_drop] at l3
    clear h3 hb3
    generalize rB (t1.drop W.length)=t3 at *
    cases t3 with
    | nil =>
      simp only [Option.some.injEq] at hR
      subst hR
      have hpf:=end_at e3 ef
      rw [← hpf]
      have q61:=hasN (c:=61) e3 (by intro x hx; simp at hx) hl
      simp -implicitDefEqProofs [f_spec_areader_info_3,acallS,reach_succ,s224,s226,s227,s228,k2,k3,q61,Inf.V,hk,hG,hT,hRf]
    | cons c t4 =>
    simp only at hR
    by_cases c61:c=61
    rotate_left
    · rw [if_neg c61] at hR
      simp only [Option.some.injEq] at hR
      subst hR
      have hpf:=end_at e3 ef
      rw [← hpf]
      have q61:=hasN (c:=61) e3 (by
            intro x hx; simp at hx; subst hx
            exact ne_int (c:=61) c61) hl
      simp -implicitDefEqProofs [f_spec_areader_info_3,acallS,reach_succ,s224,s226,s227,s228,k2,k3,q61,Inf.V,hk,hG,hT,hRf]
    rw [if_pos c61] at hR
    obtain ⟨p4,e4,q61⟩:=hasA (c:=61) e3 (by rw [c61]; rfl) hl
    split at hR
    · simp at hR
    rename_i t5 h5
    obtain ⟨_,rfl,hb5⟩:=bB_le h5
    obtain ⟨p5,e5,k5⟩:=blankA e4 hb5 hl
    have l5:=(bB_le h5).1
    clear h5 hb5
    generalize rB t4=t5 at *
    simp only [List.length_cons] at l3
    simp -implicitDefEqProofs [f_spec_areader_info_3,acallS,reach_succ,s224,s226,s227,s228,k2,k3,q61,k5,hk,hG,hT,hRf]
    clear k2 k3 q61 k5
    split at hR
    · rename_i hre
      simp only [qReason] at hre
      obtain ⟨p6,e6,k6⟩:=valueA (m:=[]) e5 (by simp [big]) hl
      have l6:=drop_le t5 (rVal [] t5).2.2
      generalize t5.drop (rVal [] t5).2.2=t6 at *
      generalize rVal [] t5=V at *
      obtain ⟨w,ok,nn⟩:=V
      simp only at hR
      split at hR
      · rename_i hbad
        simp only [Option.some.injEq] at hR
        subst hR
        have hpf:=end_at e6 ef
        rw [← hpf]
        clear hpf ef
        cases ok with
        | false =>
          simp -implicitDefEqProofs [acallS,reach_succ,s224,s226,s227,s228,f_spec_areader_info_2,f_spec_areader_info_1,k6,hre,acall,h112,k112,h102,k102,h99,Inf.V,hk,hG,hT,hRf]
        | true =>
          by_cases hxr:xr=[]
          · subst hxr
            simp -implicitDefEqProofs [acallS,reach_succ,s224,s226,s227,s228,f_spec_areader_info_2,f_spec_areader_info_1,k6,hre,acall,h112,k112,h102,k102,h99,Inf.V,hk,hG,hT,hRf]
          · simp -implicitDefEqProofs [acallS,reach_succ,s224,s226,s227,s228,f_spec_areader_info_2,f_spec_areader_info_1,k6,hre,acall,h112,k112,h102,k102,h99,Inf.V,hk,hG,hT,hRf,hxr]
      · rename_i hbad
        simp only [not_or,Bool.not_eq_false,ne_eq,Decidable.not_not] at hbad
        obtain ⟨rfl,hxr,hpz⟩:=hbad
        rw [hpz] at hk
        simp at hk
    · rename_i hre
      simp only [qReason] at hre
      obtain ⟨p6,e6,k6⟩:=valueA (m:=[64,58]) e5 (by simp [big]) hl
      have l6:=drop_le t5 (rVal [64,58] t5).2.2
      generalize t5.drop (rVal [64,58] t5).2.2=t6 at *
      generalize rVal [64,58] t5=V at *
      obtain ⟨w,ok,nn⟩:=V
      simp only at hR
      cases hc:cutAt 46 W with
      | none =>
        simp only [cutV,hc] at k102
        simp only [halvesP,hc] at hR
        rw [if_pos (by simp)] at hR
        simp only [Option.some.injEq] at hR
        subst hR
        have hpf:=end_at e6 ef
        rw [← hpf]
        clear hpf ef
        cases ok with
        | false =>
          simp -implicitDefEqProofs [acallS,reach_succ,s224,s226,s227,s228,f_spec_areader_info_2,f_spec_areader_info_1,k6,hre,acall,h112,k112,h102,k102,h99,Inf.V,hk,hG,hT,hRf]
        | true =>
          simp -implicitDefEqProofs [acallS,reach_succ,s224,s226,s227,s228,f_spec_areader_info_2,f_spec_areader_info_1,k6,hre,acall,h112,k112,h102,k102,h99,Inf.V,hk,hG,hT,hRf]
      | some ab =>
        obtain ⟨a,b⟩:=ab
        have hlens:=cutAt_lens hc
        simp only at hlens
        have k99:con_MailKeyword [.str a]=some (.bool (mKw a)):=if_pos (by omega)
        simp only [cutV,hc] at k102
        simp only [halvesP,hc] at hR
        split at hR
        · rename_i hbad
          simp only [Option.some.injEq] at hR
          subst hR
          have hpf:=end_at e6 ef
          rw [← hpf]
          clear hpf ef
          cases ok with
          | false =>
            simp -implicitDefEqProofs [acallS,reach_succ,s224,s226,s227,s228,f_spec_areader_info_2,f_spec_areader_info_1,k6,hre,acall,h112,k112,h102,k102,h99,Inf.V,hk,hG,hT,hRf]
          | true =>
            cases hka:mKw a with
            | false =>
              rw [hka] at k99
              simp -implicitDefEqProofs [acallS,reach_succ,s224,s226,s227,s228,f_spec_areader_info_2,f_spec_areader_info_1,k6,hre,acall,h112,k112,h102,k102,h99,Inf.V,hk,hG,hT,hRf,k99]
            | true =>
              rw [hka] at k99
              have hb:b=[]:=by simpa [hka] using hbad
              subst hb
              simp -implicitDefEqProofs [acallS,reach_succ,s224,s226,s227,s228,f_spec_areader_info_2,f_spec_areader_info_1,k6,hre,acall,h112,k112,h102,k102,h99,Inf.V,hk,hG,hT,hRf,k99]
        · rename_i hbad
          simp only [not_or,Bool.not_eq_false,ne_eq] at hbad
          obtain ⟨rfl,_,hka,hb⟩:=hbad
          rw [hka] at k99
          simp only [half] at hlh
          simp -implicitDefEqProofs [acallS,reach_succ,s224,s226,s227,s228,f_spec_areader_info_2,f_spec_areader_info_1,k6,hre,acall,h112,k112,h102,k102,h99,hk,hG,hT,hRf,k99,hb]
          refine ⟨by omega,?_⟩
          exact hLQ (⟨xm,xv,xr,ps++[(a,b,w)]⟩,p6,t6,n) ⟨e6,hR,by simp at hpl ⊢; omega⟩ (by simp) _ (by simp [hk,hTk])
set_option maxRecDepth 100000 in
set_option maxHeartbeats 4000000 in
theorem ok_info:∀ args hp q,con_info args hp=some q→runsS Γ c_spec_areader_info args hp (fun v=>v=some q):=by
  intro args hp q h
  simp only [con_info] at h
  split at h <;> (try simp at h; done)
  rename_i S n
  obtain ⟨p,t,v,k,e0,rfl,hf,hlh,rfl⟩:=rdMk_spec h
  have hl:S.length < mid:=by simp only [half] at hlh; simp only [mid]; omega
  clear h
  cases hr:aInfo t with
  | none=>simp [hr] at hf
  | some r =>
    simp only [hr,Option.map_some,Option.some.injEq,Prod.mk.injEq] at hf
    obtain ⟨rfl,rfl⟩:=hf
    obtain ⟨pf,ef,lf⟩:∃ pf,S=pf++r.2.2.2∧p.length+(t.length - r.2.2.2.length)=pf.length:=by
      obtain ⟨d,hd⟩:=aInfo_sf hr
      refine ⟨p++d,by rw [e0,← hd,List.append_assoc],?_⟩
      have:=congrArg List.length hd
      simp only [List.length_append] at this ⊢
      omega
    rw [lf]
    have hlb:S.length < big:=by simp only [mid] at hl; simp only [big]; omega
    unfold aInfo at hr
    split at hr
    · simp at hr
    rename_i t1 h1
    obtain ⟨_,rfl,hb1⟩:=bB_le h1
    obtain ⟨p1,e1,k1⟩:=blankA e0 hb1 hl
    obtain ⟨p2,e2,k2⟩:=wordA (m:=[]) e1 (by simp [big]) hl
    have hml:(rWd [] (rB t)).length < big:=by
      have:=congrArg List.length e1
      have h3:(rWd [] (rB t)).length≤(rB t).length:=(List.takeWhile_prefix _).length_le
      simp only [List.length_append] at this
      omega
    have k99:con_MailKeyword [.str (rWd [] (rB t))]=some (.bool (mKw (rWd [] (rB t)))):=if_pos hml
    have k112:con_MailLower [.str (rWd [] (rB t))]=some (.str (lowS (rWd [] (rB t)))):=if_pos hml
    generalize rWd [] (rB t)=M at *
    split at hr
    · rename_i hk
      rw [hk] at k99
      simp only [Option.some.injEq] at hr
      subst hr
      have:=end_at e2 ef
      rw [← this]
      simp -implicitDefEqProofs [c_spec_areader_info,f_spec_areader_info_10,acallS,reach_succ,s224,s226,s227,s228,k1,k2,acall,h99,k99,Inf.V,tripV]
    rename_i hk
    replace hk:mKw M=true:=by simpa using hk
    rw [hk] at k99
    split at hr
    · simp at hr
    rename_i t3 h3
    obtain ⟨_,rfl,hb3⟩:=bB_le h3
    obtain ⟨p3,e3,k3⟩:=blankA e2 hb3 hl
    generalize rB ((rB t).drop M.length)=t3 at *
    simp -implicitDefEqProofs [c_spec_areader_info,f_spec_areader_info_10,acallS,reach_succ,s224,s226,s227,s228,k1,k2,k3,acall,h99,k99]
    have hS3:=congrArg List.length e3
    simp only [List.length_append] at hS3
    have hat:((p3.length:Int)=(S.length:Int))=(t3=[]):=by
      apply propext
      cases t3 with
      | nil=>simp at hS3 ⊢; omega
      | cons c t4=>simp only [List.length_cons] at hS3; simp; omega
    by_cases hcond:lowS M=sNone0∧t3=[]
    · rw [if_pos hcond] at hr
      obtain ⟨hno,ht3⟩:=hcond
      simp only [sNone0] at hno
      simp only [Option.some.injEq] at hr
      subst hr
      subst ht3
      have:=end_at e3 ef
      rw [← this]
      simp -implicitDefEqProofs [f_spec_areader_info_9,acallS,reach_succ,s224,s226,s227,s228,acall,h112,k112,hno,hat,Inf.V,tripV]
    rw [if_neg hcond] at hr
    have rest:∀ ex:List (Nat × AV),awp Γ f_spec_areader_info_8 (finS 1 [.c (some 5) 2,.t 3,.t 4] fun v=>v=some (.tup [r.1.V,.bool r.2.1,.bool r.2.2.1],[(0,rdO S pf.length)])) ⟨(0,.ref 1000000 0)::(2,.ref 2 0)::ex,[(1000000,.cells [.str S,.int .i64 (p3.length:Int)]),(2,.cells [.str M,.str [],.str [],.str [],.nilS])]⟩:=by
      intro ex
      clear k1 k2 k3 hat hS3
      cases t3 with
      | nil =>
        simp only [Option.some.injEq] at hr
        subst hr
        have q47:=hasN (c:=47) e3 (by intro x hx; simp at hx) hl
        have q61:=hasN (c:=61) e3 (by intro x hx; simp at hx) hl
        have:=end_at e3 ef
        rw [← this]
        simp -implicitDefEqProofs [f_spec_areader_info_8,f_spec_areader_info_7,acallS,reach_succ,s224,s226,s227,s228,q47,q61,Inf.V,tripV]
      | cons c t4 =>
        simp only at hr
        by_cases c47:c=47
        · rw [if_pos c47] at hr; simp at hr
        rw [if_neg c47] at hr
        have q47:=hasN (c:=47) e3 (by
          intro x hx; simp at hx; subst hx
          exact ne_int (c:=47) c47) hl
        by_cases c61:c=61
        · rw [if_pos c61] at hr
          have q61:=hasA (c:=61) e3 (by rw [c61]; rfl) hl
          obtain ⟨p4,e4,q61⟩:=q61
          split at hr
          · simp at hr
          rename_i t5 h5
          obtain ⟨_,rfl,hb5⟩:=bB_le h5
          obtain ⟨p5,e5,k5⟩:=blankA e4 hb5 hl
          obtain ⟨p6,e6,k6⟩:=wordA (m:=[]) e5 (by simp [big]) hl
          have hvl:(rWd [] (rB t4)).length < big:=by
            have:=congrArg List.length e5
            have h3:(rWd [] (rB t4)).length≤(rB t4).length:=(List.takeWhile_prefix _).length_le
            simp only [List.length_append] at this
            omega
          have kv99:con_MailKeyword [.str (rWd [] (rB t4))]=some (.bool (mKw (rWd [] (rB t4)))):=if_pos hvl
          generalize rB t4=t5 at *
          generalize rWd [] t5=W at *
          split at hr
          · rename_i hw
            rw [hw] at kv99
            simp only [Option.some.injEq] at hr
            subst hr
            have:=end_at e6 ef
            rw [← this]
            simp -implicitDefEqProofs [f_spec_areader_info_8,f_spec_areader_info_7,f_spec_areader_info_6,acallS,reach_succ,s224,s226,s227,s228,q47,q61,k5,k6,acall,h99,kv99,Inf.V,tripV]
          · rename_i hw
            replace hw:mKw W=true:=by simpa using hw
            rw [hw] at kv99
            simp -implicitDefEqProofs [f_spec_areader_info_8,f_spec_areader_info_7,f_spec_areader_info_6,acallS,reach_succ,s224,s226,s227,s228,q47,q61,k5,k6,acall,h99,kv99]
            cases hq:rLoop (t5.length+1) ⟨M,W,[],[]⟩ (t5.drop W.length) with
            | none=>simp [hq] at hr
            | some R =>
              simp only [hq,Option.map_some,Option.some.injEq] at hr
              subst hr
              exact info_loop (n:=t5.length+1) (x:=⟨M,W,[],[]⟩) (p:=p6) (ex:=[]) h99 h102 h112 s224 s226 s227 s228 hlh ef e6 hq rfl
        · rw [if_neg c61] at hr
          simp only [Option.some.injEq] at hr
          subst hr
          have q61:=hasN (c:=61) e3 (by
            intro x hx; simp at hx; subst hx
            exact ne_int (c:=61) c61) hl
          have:=end_at e3 ef
          rw [← this]
          simp -implicitDefEqProofs [f_spec_areader_info_8,f_spec_areader_info_7,acallS,reach_succ,s224,s226,s227,s228,q47,q61,Inf.V,tripV]
    by_cases hno:lowS M=sNone0
    · have ht3:¬ t3=[]:=fun h=>hcond ⟨hno,h⟩
      simp only [sNone0] at hno
      simp -implicitDefEqProofs [f_spec_areader_info_9,acallS,reach_succ,s224,s226,s227,s228,acall,h112,k112,hno,hat,ht3]
      exact rest _
    · simp only [sNone0] at hno
      simp -implicitDefEqProofs [f_spec_areader_info_9,acallS,reach_succ,s224,s226,s227,s228,acall,h112,k112,hno]
      exact rest _
end
theorem rok_info (Γ:Gam) (h99:Γ.fn 99=con_MailKeyword) (h102:Γ.fn 102=con_MailHalves) (h112:Γ.fn 112=con_MailLower) (s224:Γ.st 224=con_has) (s226:Γ.st 226=con_word) (s227:Γ.st 227=con_blank) (s228:Γ.st 228=con_value) :
    ∀ args hp q,con_info args hp=some q→runsS Γ c_spec_areader_info args hp (fun v=>v=some q) :=
  ok_info h99 h102 h112 s224 s226 s227 s228
end Wax


