/- The machine by which the functions are read, and what is proved of them (part 8): no premise. -/
import Derived.Test.YtbalogmjickeaabGreatDoorWg
set_option linter.all false
namespace Wax
open Go (IntKind)

def fmKeys (l:List KVp):List L8:=(if lookP l qReason=[] then [] else [qReason]) ++ sortB ((l.map (·.1)).filter (· ≠ qReason))
def fmWord (l:List KVp) (k:L8):L8:=k ++ 61 :: (if k=qReason then fmtV (lookP l k) else fmtP (lookP l k))
def joinW:List L8 → L8
  | []=>[]
  | w :: r=>w ++ r.flatMap (32 :: ·)
def fmtPs (l:List KVp):L8:=joinW (((fmKeys l).filter fun k=>decide (lookP l k ≠ [])).map (fmWord l))
def con_formatParams:List AV → Option AV
  | [.mp es]=>match asPm es with
    | some l=>if l.length < half ∧ (∀ p ∈ l,ascii p.2=true ∧ p.2.length < qrt) ∧ (fmtPs l).length < mid then some (.str (fmtPs l)) else none
    | none=>none
  | _=>none
theorem joinW_snoc:∀ (W:List L8) (w:L8),joinW (W ++ [w])=if W=[] then w else joinW W ++ 32 :: w
  | [],w=>by simp [joinW]
  | x :: W,w=>by simp [joinW]
theorem joinW_le:∀ (a b:List L8),(joinW a).length ≤ (joinW (a ++ b)).length
  | [],b=>by simp [joinW]
  | x :: a,b=>by simp [joinW]
theorem lookP_val:∀ (l:List KVp) (k:L8),lookP l k=[] ∨ ∃ p ∈ l,p.2=lookP l k
  | [],k=>.inl rfl
  | p :: r,k=>by
    simp only [lookP]
    split
    · exact .inr ⟨p,by simp,rfl⟩
    · rcases lookP_val r k with h | ⟨q,h1,h2⟩
      · exact .inl h
      · exact .inr ⟨q,by simp [h1],h2⟩
def fmWs (l:List KVp) (ks:List L8):List L8:=(ks.filter fun k=>decide (lookP l k ≠ [])).map (fmWord l)
theorem fmWs_app (l:List KVp) (a b:List L8):fmWs l (a ++ b)=fmWs l a ++ fmWs l b:=by simp [fmWs]
theorem fmWs_len (l:List KVp) (a:List L8):(fmWs l a).length ≤ a.length:=by simpa [fmWs] using List.length_filter_le _ a
set_option maxHeartbeats 8000000 in
set_option maxRecDepth 100000 in
theorem fm_loop {Γ:Gam} (h241:Γ.fn 241=con_formatValue) (h242:Γ.fn 242=con_formatPvalue) {l:List KVp} (h2:∀ p ∈ l,ascii p.2=true ∧ p.2.length < qrt) (h3:(fmtPs l).length < mid) {ks:List L8} (hks:fmtPs l=joinW (fmWs l ks)) (hkl:ks.length < mid)
    {d:Nat} {more:List (Nat × AObj)} (hd:(d=12 ∧ more=[]) ∨ (d=24 ∧ more=[]) ∨ (d=30 ∧ more=[(12,.cells [])]) ∨ (d=32 ∧ ∃ cs,more=[(24,.cells (strsA cs))])) :
    awp Γ (.loop [0,5,6,33,34,35] b_authres_formatParams_2) (blockQ 2 (thenQ (awp Γ t_authres_formatParams_3 (finQ [.t 2] fun v=>v=.str (fmtPs l))) (finQ [.t 2] fun v=>v=.str (fmtPs l)))) ⟨[(0,.mp (pmA l)),(5,.str []),(6,.int .i64 0),(33,.msl d 1 0 ks.length),(34,.int .i64 ks.length),(35,.int .i64 0)],(d,.cells (strsA ks)) :: more⟩:=by
  refine awp_loop2 (σ:=List L8 × List L8) (fun p=>⟨[(0,.mp (pmA l)),(5,.str (joinW (fmWs l p.1))),(6,.int .i64 (fmWs l p.1).length),(33,.msl d 1 0 ks.length),(34,.int .i64 ks.length),(35,.int .i64 p.1.length)],(d,.cells (strsA ks)) :: more⟩)
    (fun p=>ks=p.1 ++ p.2) (fun p=>p.2.length) ([],ks) (by simp [fmWs,joinW]) (by simp) ?_
  rintro ⟨pre,post⟩ e LQ hLQ
  simp only at e
  simp only [mid] at h3 hkl
  cases post with
  | nil =>
    simp only [List.append_nil] at e
    subst e
    have hnl:¬ ((ks.length:Int) < (ks.length:Int)):=by omega
    rcases hd with ⟨rfl,rfl⟩ | ⟨rfl,rfl⟩ | ⟨rfl,rfl⟩ | ⟨rfl,cs,rfl⟩ <;> simp -implicitDefEqProofs [b_authres_formatParams_2,t_authres_formatParams_3,hks]
  | cons k post =>
    have hlen:ks.length=pre.length + (post.length + 1):=by rw [e]; simp
    have hlt:(pre.length:Int) < (ks.length:Int):=by omega
    have hlt':pre.length < ks.length:=by omega
    have g:List.drop pre.length ks=k :: post:=by rw [e,List.drop_left]
    have ew:IntKind.i64.wrap ((pre.length:Int) + 1)=(pre.length:Int) + 1:=wrap64 (by omega) (by omega)
    have go:=fun st=>hLQ (pre ++ [k],post) (by rw [e]; simp) (by simp) st
    have lw:=fmWs_len l pre
    simp only [fmWs_app] at go
    by_cases hv:lookP l k=[]
    · have e0:fmWs l [k]=[]:=by simp [fmWs,hv]
      rw [e0,List.append_nil] at go
      simp -implicitDefEqProofs [b_authres_formatParams_2,hlt,hlt',g,ew,lookA_pmA,hv]
      exact go _ (by simp)
    · have e1:fmWs l [k]=[fmWord l k]:=by simp [fmWs,hv]
      rw [e1,joinW_snoc] at go
      have hl2:(joinW (fmWs l pre ++ [fmWord l k])).length ≤ (fmtPs l).length:=by
        rw [hks,e,show k :: post=[k] ++ post from rfl,← List.append_assoc,fmWs_app l (pre ++ [k]),fmWs_app l pre,e1]
        exact joinW_le _ _
      rw [joinW_snoc] at hl2
      have hva:ascii (lookP l k)=true ∧ (lookP l k).length < mid:=by
        rcases lookP_val l k with h | ⟨q,hq,e⟩
        · exact absurd h hv
        · rw [← e]; exact ⟨(h2 q hq).1,by have:=(h2 q hq).2; simp only [qrt] at this; simp only [mid]; omega⟩
      have kv:con_formatValue [.str (lookP l k)]=some (.str (fmtV (lookP l k))):=if_pos ⟨hva.2,hva.1⟩
      have kp:con_formatPvalue [.str (lookP l k)]=some (.str (fmtP (lookP l k))):=if_pos ⟨hva.2,hva.1⟩
      have ew2:IntKind.i64.wrap (((fmWs l pre).length:Int) + 1)=((fmWs l pre).length:Int) + 1:=wrap64 (by omega) (by omega)
      have e10:IntKind.i64.wrap 1=1:=by decide
      by_cases hr:k=qReason
      · have hw:fmWord l k=k ++ 61 :: fmtV (lookP l k):=by simp only [fmWord,if_pos hr]
        rw [hw] at go hl2
        have hr':k=[114,101,97,115,111,110]:=hr
        clear hr hw kp
        subst hr'
        cases hW:fmWs l pre with
        | nil =>
          rw [hW] at go hl2
          simp only [if_true,List.length_append,List.length_cons] at hl2
          simp -implicitDefEqProofs [b_authres_formatParams_2,hlt,hlt',g,ew,lookA_pmA,hv,hva,acall,h241,kv,e10]
          simp only [List.length_nil] at hl2
          exact ⟨by omega,by simp [joinW]; omega,go _ (by simp [joinW])⟩
        | cons w ws =>
          rw [hW] at go hl2 ew2
          simp only [reduceCtorEq,if_false,List.length_append,List.length_cons] at hl2
          simp only [List.length_cons,Int.natCast_add,Int.natCast_one] at ew2
          simp -implicitDefEqProofs [b_authres_formatParams_2,hlt,hlt',g,ew,lookA_pmA,hv,hva,acall,h241,kv,ew2]
          simp only [List.length_nil] at hl2
          exact ⟨by omega,by omega,by omega,go _ (by simp)⟩
      · have hw:fmWord l k=k ++ 61 :: fmtP (lookP l k):=by simp only [fmWord,if_neg hr]
        rw [hw] at go hl2
        have hr':¬ k=[114,101,97,115,111,110]:=hr
        cases hW:fmWs l pre with
        | nil =>
          rw [hW] at go hl2
          simp only [if_true,List.length_append,List.length_cons] at hl2
          simp -implicitDefEqProofs [b_authres_formatParams_2,hlt,hlt',g,ew,lookA_pmA,hv,hr',acall,h242,kp,e10]
          exact ⟨by omega,by omega,by simp [joinW]; omega,go _ (by simp [joinW])⟩
        | cons w ws =>
          rw [hW] at go hl2 ew2
          simp only [reduceCtorEq,if_false,List.length_append,List.length_cons] at hl2
          simp only [List.length_cons,Int.natCast_add,Int.natCast_one] at ew2
          simp -implicitDefEqProofs [b_authres_formatParams_2,hlt,hlt',g,ew,lookA_pmA,hv,hr',acall,h242,kp,ew2]
          exact ⟨by omega,by omega,by omega,by omega,go _ (by simp)⟩
set_option maxHeartbeats 4000000 in
set_option maxRecDepth 100000 in
theorem fm_tail {Γ:Gam} (h240:Γ.st 240=con_Sort) (h241:Γ.fn 241=con_formatValue) (h242:Γ.fn 242=con_formatPvalue) {l:List KVp} (h2:∀ p ∈ l,ascii p.2=true ∧ p.2.length < qrt) (h3:(fmtPs l).length < mid) {got:List L8} {cur:Option (L8 × AV)} (hg:got.length < half) (hs:sortB got=sortB ((l.map (·.1)).filter (· ≠ qReason))) :
    awp Γ t_authres_formatParams_4 (finQ [.t 2] fun v=>v=.str (fmtPs l)) ⟨[(0,.mp (pmA l)),(3,if got=[] then .msl 12 1 0 0 else .msl 24 1 0 got.length),(14,.ref 14 0),(16,.bool false)],(if got=[] then [] else [(24,.cells (strsA got))]) ++ (14,.mit [] cur) :: (if got=[] then [(12,.cells [])] else [])⟩:=by
  simp only [half] at hg
  have hsl:(sortB got).length=got.length:=by simp [sortB]
  have hK:fmtPs l=joinW (fmWs l ((if lookP l qReason=[] then [] else [qReason]) ++ sortB got)):=by rw [hs]; rfl
  clear hs
  have hm:got.length + 1 < mid:=by simp only [mid]; omega
  cases got with
  | nil =>
    have ks:con_Sort [.msl 0 1 0 0] [(0,.cells [])]=some (.tup [],[(0,.cells [])]):=by simp [con_Sort,asStrs,sortB,strsA]
    have es:sortB []=[]:=by simp [sortB]
    rw [es] at hK
    simp -implicitDefEqProofs [t_authres_formatParams_4,acallS,reach_succ,h240,ks,lookA_pmA,just]
    refine ⟨fun hr=>?_,fun hr=>?_⟩
    · rw [if_neg (by exact hr)] at hK
      exact fm_loop h241 h242 h2 h3 (ks:=[qReason]) hK (by simp [mid]) (d:=30) (more:=[(12,.cells [])]) (.inr (.inr (.inl ⟨rfl,rfl⟩)))
    · rw [if_pos (by exact hr)] at hK
      exact fm_loop h241 h242 h2 h3 (ks:=[]) hK (by simp [mid]) (d:=12) (more:=[]) (.inl ⟨rfl,rfl⟩)
  | cons y ys =>
    generalize hgot:y :: ys=got at *
    have hn:¬ got=[]:=by rw [← hgot]; simp
    have ks:con_Sort [.msl 0 1 0 got.length] [(0,.cells (strsA got))]=some (.tup [],[(0,.cells (strsA (sortB got)))]):=by
      have ha:asStrs (strsA got)=some got:=asStrs_strsA
      simp only [con_Sort,ha]
      exact if_pos ⟨trivial,by omega⟩
    have tk:List.take got.length (sortB got)=sortB got:=List.take_of_length_le (by omega)
    simp -implicitDefEqProofs [t_authres_formatParams_4,acallS,reach_succ,h240,ks,lookA_pmA,hn,tk]
    refine ⟨fun hr=>⟨by omega,by omega,?_⟩,fun hr=>?_⟩
    · rw [if_neg (by exact hr)] at hK
      have t:=fm_loop h241 h242 h2 h3 (ks:=qReason :: sortB got) hK (by simp only [List.length_cons]; omega) (d:=32) (more:=[(24,.cells (strsA (sortB got)))]) (.inr (.inr (.inr ⟨rfl,_,rfl⟩)))
      have e1:(1 + got.length)=(qReason :: sortB got).length:=by simp only [List.length_cons]; omega
      have e2:(1 + (got.length:Int))=((qReason :: sortB got).length:Int):=by simp only [List.length_cons]; omega
      rw [e1,e2]
      exact t
    · rw [if_pos (by exact hr)] at hK
      have t:=fm_loop h241 h242 h2 h3 (ks:=sortB got) hK (by omega) (d:=24) (more:=[]) (.inr (.inl ⟨rfl,rfl⟩))
      rw [hsl] at t
      exact t
set_option maxHeartbeats 4000000 in
set_option maxRecDepth 100000 in
theorem ok_formatParams (Γ:Gam) (h240:Γ.st 240=con_Sort) (h241:Γ.fn 241=con_formatValue) (h242:Γ.fn 242=con_formatPvalue):∀ args r,con_formatParams args=some r → runs Γ c_authres_formatParams args (fun v=>v=r):=by
  intro args r h
  simp only [con_formatParams] at h
  split at h <;> (try simp at h; done)
  rename_i es
  split at h <;> (try simp at h; done)
  rename_i l hl
  obtain ⟨⟨h1,h2,h3⟩,rfl⟩:=ite_some h
  clear h
  rw [asPm_spec hl]
  clear hl
  simp only [half] at h1
  have hpl:(pmA l).length=l.length:=by simp [pmA]
  simp -implicitDefEqProofs [c_authres_formatParams]
  refine ⟨by omega,?_⟩
  refine awp_loop2 (σ:=List L8 × List KVp × Option (L8 × AV)) (fun q=>⟨[(0,.mp (pmA l)),(3,if q.1=[] then .msl 12 1 0 0 else .msl 24 1 0 q.1.length),(14,.ref 14 0)],(if q.1=[] then [] else [(24,.cells (strsA q.1))]) ++ (14,.mit (pmA q.2.1) q.2.2) :: (if q.1=[] then [(12,.cells [])] else [])⟩)
    (fun q=>(q.1 ++ (q.2.1.map (·.1)).filter (· ≠ qReason)).Perm ((l.map (·.1)).filter (· ≠ qReason)) ∧ q.1.length + q.2.1.length ≤ l.length) (fun q=>q.2.1.length) ([],l,none) (by simp) (by simp) ?_
  rintro ⟨got,rem,cur⟩ ⟨hp,hgl⟩ LQ hLQ
  simp only at hp hgl
  have step:∀ {pre post:List (L8 × AV)} {k:L8} {v:AV},pmA rem=pre ++ (k,v) :: post → ∃ a b w,rem=a ++ (k,w) :: b ∧ pre=pmA a ∧ post=pmA b:=by
    intro pre post k v e
    obtain ⟨a,c,e1,e2,e3⟩:=List.map_eq_append_iff.1 e
    obtain ⟨x,b,e4,e5,e6⟩:=List.map_eq_cons_iff.1 e3
    refine ⟨a,b,x.2,?_,e2.symm,e6.symm⟩
    simp only [Prod.mk.injEq] at e5
    rw [e1,e4,← e5.1]
  have fin:pmA rem=[] → sortB got=sortB ((l.map (·.1)).filter (· ≠ qReason)):=by
    intro e
    have er:rem=[]:=by simpa [pmA] using e
    subst er
    simp only [List.map_nil,List.filter_nil,List.append_nil] at hp
    exact Go.mergeSort_of_perm hp
  have skip:∀ {a b:List KVp} {w:L8},rem=a ++ (qReason,w) :: b → (got ++ ((a ++ b).map (·.1)).filter (· ≠ qReason)).Perm ((l.map (·.1)).filter (· ≠ qReason)) ∧ got.length + (a ++ b).length ≤ l.length:=by
    rintro a b w rfl
    refine ⟨by simpa using hp,by simp only [List.length_append,List.length_cons] at hgl ⊢; omega⟩
  have take:∀ {a b:List KVp} {k w:L8},rem=a ++ (k,w) :: b → ¬ k=qReason → ((got ++ [k]) ++ ((a ++ b).map (·.1)).filter (· ≠ qReason)).Perm ((l.map (·.1)).filter (· ≠ qReason)) ∧ (got ++ [k]).length + (a ++ b).length ≤ l.length:=by
    rintro a b k w rfl hk
    refine ⟨?_,by simp only [List.length_append,List.length_cons,List.length_nil] at hgl ⊢; omega⟩
    refine List.Perm.trans ?_ hp
    simp only [List.map_append,List.filter_append,List.map_cons,List.filter_cons,hk,ne_eq,not_false_eq_true,decide_true,if_true,List.append_assoc,List.singleton_append]
    exact List.perm_middle.symm.append_left got
  cases got with
  | nil =>
    simp -implicitDefEqProofs [b_authres_formatParams_1]
    refine ⟨fun e=>?_,fun pre k v post e=>⟨fun hk=>?_,fun hk=>?_⟩⟩
    · rw [e]
      have t:=fm_tail h240 h241 h242 h2 h3 (got:=[]) (cur:=cur) (by simp [half]) (fin e)
      exact t
    · obtain ⟨a,b,w,e1,rfl,rfl⟩:=step e
      subst hk
      exact hLQ ([],a ++ b,_) (skip e1) (by rw [e1]; simp) _ (by simp [pmA]; rfl)
    · obtain ⟨a,b,w,e1,rfl,rfl⟩:=step e
      exact hLQ ([k],a ++ b,_) (take e1 hk) (by rw [e1]; simp) _ (by simp [pmA]; rfl)
  | cons y ys =>
    simp -implicitDefEqProofs [b_authres_formatParams_1]
    refine ⟨fun e=>?_,fun pre k v post e=>⟨fun hk=>?_,fun hk=>⟨?_,?_⟩⟩⟩
    · rw [e]
      have t:=fm_tail h240 h241 h242 h2 h3 (got:=y :: ys) (cur:=cur) (by simp only [half]; omega) (fin e)
      exact t
    · obtain ⟨a,b,w,e1,rfl,rfl⟩:=step e
      subst hk
      exact hLQ (y :: ys,a ++ b,_) (skip e1) (by rw [e1]; simp) _ (by simp [pmA]; rfl)
    · simp only [List.length_cons] at hgl
      omega
    · obtain ⟨a,b,w,e1,rfl,rfl⟩:=step e
      exact hLQ (y :: ys ++ [k],a ++ b,_) (take e1 hk) (by rw [e1]; simp) _ (by simp [pmA]; rfl)
end Wax


namespace Wax
open Go (IntKind)

def PR.meth:PR → L8
  | .arc _ _ _=>[]
  | .auth _ _ _=>sAuth
  | .dkim _ _ _ _=>sDkim
  | .domk _ _ _ _ _=>sDomk
  | .iprev _ _ _=>sIprev
  | .sender _ _ _ _=>sSender
  | .spf _ _ _ _=>sSpf
  | .dmarc _ _ _=>sDmarc
  | .gen m _ _=>m
def PR.val:PR → L8
  | .arc v _ _=>v
  | .auth v _ _=>v
  | .dkim v _ _ _=>v
  | .domk v _ _ _ _=>v
  | .iprev v _ _=>v
  | .sender v _ _ _=>v
  | .spf v _ _ _=>v
  | .dmarc v _ _=>v
  | .gen _ v _=>v
def PR.fm:PR → List KVp
  | .arc _ _ _=>[]
  | .auth _ _ a=>[(qAuth,a)]
  | .dkim _ r d i=>[(qD,d),(qI,i),(qReason,r)]
  | .domk _ r d f s=>[(qD,d),(qFrom,f),(qSend,s),(qReason,r)]
  | .iprev _ r i=>[(qIprev,i),(qReason,r)]
  | .sender _ r k x=>[(qHead ++ lowS k,x),(qReason,r)]
  | .spf _ r f h=>[(qReason,r),(qHelo,h),(qMail,f)]
  | .dmarc _ r f=>[(qFrom,f),(qReason,r)]
  | .gen _ _ l=>l
def PR.fmt (x:PR):AV:=.tup [.str x.val,.mp (pmA x.fm)]
def con_fAuth:List AV → Option AV
  | [.ptr [.str v,.str r,.str a]]=>some (PR.auth v r a).fmt
  | _=>none
set_option maxHeartbeats 4000000 in
set_option maxRecDepth 100000 in
theorem ok_fAuth (Γ:Gam):∀ args r,con_fAuth args=some r → runs Γ c_authres_AuthResult_format args (fun v=>v=r):=by
  intro args r h
  simp only [con_fAuth] at h
  split at h <;> (try simp at h; done)
  injection h with h; subst h
  simp -implicitDefEqProofs [c_authres_AuthResult_format,PR.fmt,PR.val,PR.fm,pmA,qAuth]
  exact ⟨rfl,rfl⟩
def con_fDKIM:List AV → Option AV
  | [.ptr [.str v,.str r,.str d,.str i]]=>some (PR.dkim v r d i).fmt
  | _=>none
set_option maxHeartbeats 4000000 in
set_option maxRecDepth 100000 in
theorem ok_fDKIM (Γ:Gam):∀ args r,con_fDKIM args=some r → runs Γ c_authres_DKIMResult_format args (fun v=>v=r):=by
  intro args r h
  simp only [con_fDKIM] at h
  split at h <;> (try simp at h; done)
  injection h with h; subst h
  simp -implicitDefEqProofs [c_authres_DKIMResult_format,PR.fmt,PR.val,PR.fm,pmA,qD,qI,qReason]
  exact ⟨rfl,rfl,rfl,rfl⟩
def con_fDomk:List AV → Option AV
  | [.ptr [.str v,.str r,.str d,.str f,.str s]]=>some (PR.domk v r d f s).fmt
  | _=>none
set_option maxHeartbeats 4000000 in
set_option maxRecDepth 100000 in
theorem ok_fDomk (Γ:Gam):∀ args r,con_fDomk args=some r → runs Γ c_authres_DomainKeysResult_format args (fun v=>v=r):=by
  intro args r h
  simp only [con_fDomk] at h
  split at h <;> (try simp at h; done)
  injection h with h; subst h
  simp -implicitDefEqProofs [c_authres_DomainKeysResult_format,PR.fmt,PR.val,PR.fm,pmA,qD,qFrom,qSend,qReason]
  exact ⟨rfl,rfl,rfl,rfl,rfl⟩
def con_fIprev:List AV → Option AV
  | [.ptr [.str v,.str r,.str i]]=>some (PR.iprev v r i).fmt
  | _=>none
set_option maxHeartbeats 4000000 in
set_option maxRecDepth 100000 in
theorem ok_fIprev (Γ:Gam):∀ args r,con_fIprev args=some r → runs Γ c_authres_IPRevResult_format args (fun v=>v=r):=by
  intro args r h
  simp only [con_fIprev] at h
  split at h <;> (try simp at h; done)
  injection h with h; subst h
  simp -implicitDefEqProofs [c_authres_IPRevResult_format,PR.fmt,PR.val,PR.fm,pmA,qIprev,qReason]
  exact ⟨rfl,rfl,rfl⟩
def con_fSpf:List AV → Option AV
  | [.ptr [.str v,.str r,.str f,.str h]]=>some (PR.spf v r f h).fmt
  | _=>none
set_option maxHeartbeats 4000000 in
set_option maxRecDepth 100000 in
theorem ok_fSpf (Γ:Gam):∀ args r,con_fSpf args=some r → runs Γ c_authres_SPFResult_format args (fun v=>v=r):=by
  intro args r h
  simp only [con_fSpf] at h
  split at h <;> (try simp at h; done)
  injection h with h; subst h
  simp -implicitDefEqProofs [c_authres_SPFResult_format,PR.fmt,PR.val,PR.fm,pmA,qReason,qHelo,qMail]
  exact ⟨rfl,rfl,rfl,rfl⟩
def con_fDmarc:List AV → Option AV
  | [.ptr [.str v,.str r,.str f]]=>some (PR.dmarc v r f).fmt
  | _=>none
set_option maxHeartbeats 4000000 in
set_option maxRecDepth 100000 in
theorem ok_fDmarc (Γ:Gam):∀ args r,con_fDmarc args=some r → runs Γ c_authres_DMARCResult_format args (fun v=>v=r):=by
  intro args r h
  simp only [con_fDmarc] at h
  split at h <;> (try simp at h; done)
  injection h with h; subst h
  simp -implicitDefEqProofs [c_authres_DMARCResult_format,PR.fmt,PR.val,PR.fm,pmA,qFrom,qReason]
  exact ⟨rfl,rfl,rfl⟩
def con_fSender:List AV → Option AV
  | [.ptr [.str v,.str r,.str k,.str x]]=>if k.length < mid ∧ ascii k=true then some (PR.sender v r k x).fmt else none
  | _=>none
set_option maxHeartbeats 4000000 in
set_option maxRecDepth 100000 in
theorem ok_fSender (Γ:Gam) (h172:Γ.fn 172=con_zzToLower):∀ args r,con_fSender args=some r → runs Γ c_authres_SenderIDResult_format args (fun v=>v=r):=by
  intro args r h
  simp only [con_fSender] at h
  split at h <;> (try simp at h; done)
  rename_i v r k x
  obtain ⟨hk,rfl⟩:=ite_some h
  have kl:con_zzToLower [.str k]=some (.str (lowS k)):=if_pos hk
  have hl:(lowS k).length=k.length:=by simp [lowS]
  have hk1:=hk.1
  simp only [mid] at hk1
  simp -implicitDefEqProofs [c_authres_SenderIDResult_format,acall,h172,kl,PR.fmt,PR.val,PR.fm,pmA,qHead,qReason]
  exact ⟨rfl,by omega,rfl,rfl⟩
def con_fGen:List AV → Option AV
  | [.ptr [.str m,.str v,.mp es]]=>some (.tup [.str v,.mp es])
  | _=>none
set_option maxHeartbeats 4000000 in
set_option maxRecDepth 100000 in
theorem ok_fGen (Γ:Gam):∀ args r,con_fGen args=some r → runs Γ c_authres_GenericResult_format args (fun v=>v=r):=by
  intro args r h
  simp only [con_fGen] at h
  split at h <;> (try simp at h; done)
  injection h with h; subst h
  simp -implicitDefEqProofs [c_authres_GenericResult_format]
def con_resultMethod:List AV → Option AV
  | [v]=>(asPR v).map fun x=>.str x.meth
  | _=>none
set_option maxHeartbeats 4000000 in
set_option maxRecDepth 100000 in
theorem ok_resultMethod (Γ:Gam):∀ args r,con_resultMethod args=some r → runs Γ c_authres_resultMethod args (fun v=>v=r):=by
  intro args r h
  simp only [con_resultMethod] at h
  split at h <;> (try simp at h; done)
  rename_i u
  simp only [Option.map_eq_some_iff] at h
  obtain ⟨x,hx,rfl⟩:=h
  rw [asPR_spec hx]
  cases x <;> simp -implicitDefEqProofs [c_authres_resultMethod,PR.av,PR.meth,sAuth,sDkim,sDomk,sIprev,sSender,sSpf,sDmarc]
def mapOf (l:List KVp):List KVp:=l.foldl (fun m p=>psetL m p.1 p.2) []
def AR.pr (r:AR):PR :=
  if r.kind=1 then .auth r.value r.reason r.auth
  else if r.kind=2 then .dkim r.value r.reason r.domain r.ident
  else if r.kind=3 then .domk r.value r.reason r.domain r.fr r.sender
  else if r.kind=4 then .iprev r.value r.reason r.ip
  else if r.kind=5 then .sender r.value r.reason r.hkey r.hval
  else if r.kind=6 then .spf r.value r.reason r.fr r.helo
  else if r.kind=7 then .dmarc r.value r.reason r.fr
  else if r.kind=8 then .arc r.value r.remote r.oldest
  else .gen r.method r.value (mapOf (r.ps.getD []))
def con_resultFor:List AV → Option AV
  | [.agg cs]=>match asAR cs with
    | some r=>if (r.ps.getD []).length < half then some r.pr.av else none
    | none=>none
  | _=>none
set_option maxHeartbeats 8000000 in
set_option maxRecDepth 100000 in
theorem ok_resultFor (Γ:Gam):∀ args r,con_resultFor args=some r → runs Γ c_impl_resultFor args (fun v=>v=r):=by
  intro args r h
  simp only [con_resultFor] at h
  split at h <;> (try simp at h; done)
  rename_i cs
  split at h <;> (try simp at h; done)
  rename_i r hr
  obtain ⟨hl,rfl⟩:=ite_some h
  rw [asAR_spec hr]
  have cu:=slP_cells r.ps
  simp only [cells] at cu
  clear h hr
  by_cases k1:r.kind=1
  · simp -implicitDefEqProofs [c_impl_resultFor,AR.cells,cu,k1,AR.pr,PR.av]
  by_cases k2:r.kind=2
  · simp -implicitDefEqProofs [c_impl_resultFor,AR.cells,cu,k2,AR.pr,PR.av]
  by_cases k3:r.kind=3
  · simp -implicitDefEqProofs [c_impl_resultFor,AR.cells,cu,k3,AR.pr,PR.av]
  by_cases k4:r.kind=4
  · simp -implicitDefEqProofs [c_impl_resultFor,AR.cells,cu,k4,AR.pr,PR.av]
  by_cases k5:r.kind=5
  · simp -implicitDefEqProofs [c_impl_resultFor,AR.cells,cu,k5,AR.pr,PR.av]
  by_cases k6:r.kind=6
  · simp -implicitDefEqProofs [c_impl_resultFor,AR.cells,cu,k6,AR.pr,PR.av]
  by_cases k7:r.kind=7
  · simp -implicitDefEqProofs [c_impl_resultFor,AR.cells,cu,k7,AR.pr,PR.av]
  by_cases k8:r.kind=8
  · simp -implicitDefEqProofs [c_impl_resultFor,AR.cells,cu,k8,AR.pr,PR.av]
  have hal:=fun hp=>slP_alen r.ps hp
  simp only [half] at hl
  simp -implicitDefEqProofs [-alen,c_impl_resultFor,AR.cells,cu,k1,k2,k3,k4,k5,k6,k7,k8,AR.pr,PR.av,hal]
  refine awp_loop2 (σ:=List KVp × List KVp) (fun q=>⟨[(1,.ref 1 0),(3,.str r.value),(4,.mref 101),(103,slP r.ps),(104,.int .i64 (r.ps.getD []).length),(105,.int .i64 q.1.length)],[(101,.mp (pmA (mapOf q.1))),(1,.cells r.cells)]⟩)
    (fun q=>r.ps.getD []=q.1 ++ q.2) (fun q=>q.2.length) ([],r.ps.getD []) (by simp [mapOf,pmA,AR.cells]) (by simp) ?_
  rintro ⟨pre,post⟩ e LQ hLQ
  simp only at e
  cases post with
  | nil =>
    simp only [List.append_nil] at e
    rw [e] at hl ⊢
    simp -implicitDefEqProofs [-alen,b_impl_resultFor_1,t_impl_resultFor_2,AR.cells,cu]
  | cons x post =>
    have hps:r.ps=some (pre ++ x :: post):=by
      cases hq:r.ps with
      | none=>rw [hq] at e; simp at e
      | some l=>rw [hq] at e; simp only [Option.getD_some] at e; rw [e]
    have hm:mapOf (pre ++ [x])=psetL (mapOf pre) x.1 x.2:=by simp [mapOf]
    have go:=fun st=>hLQ (pre ++ [x],post) (by rw [e]; simp) (by simp) st
    rw [e] at hl
    simp only [hm,hps,slP,AR.cells,Option.getD_some] at go
    have hlt:(pre.length:Int) < ((pre ++ x :: post).length:Int):=by simp; omega
    have hlt':pre.length < (pre ++ x :: post).length:=by simp
    simp only [List.length_append,List.length_cons] at hl
    have ew:IntKind.i64.wrap ((pre.length:Int) + 1)=(pre.length:Int) + 1:=wrap64 (by omega) (by omega)
    simp -implicitDefEqProofs [-alen,b_impl_resultFor_1,hps,slP,AR.cells,ew,mset_pmA]
    exact ⟨fun _=>go _ (by simp),fun h=>absurd h (by omega)⟩
end Wax


namespace Wax
open Go (IntKind)

def asPRl:List AV → Option (List PR)
  | []=>some []
  | v :: r=>match asPR v,asPRl r with | some x,some l=>some (x :: l) | _,_=>none
theorem asPRl_prsA:∀ l:List PR,asPRl (prsA l)=some l
  | []=>rfl
  | x :: l=>by simp only [prsA_cons,asPRl,asPR_av,asPRl_prsA l]
theorem asPRl_spec:∀ {vs:List AV} {l:List PR},asPRl vs=some l → vs=prsA l
  | [],l,h=>by simp [asPRl] at h; subst h; rfl
  | v :: r,l,h=>by
    simp only [asPRl] at h
    split at h
    · rename_i x q h1 h2
      simp only [Option.some.injEq] at h
      subst h
      rw [asPR_spec h1,asPRl_spec h2]; rfl
    · simp at h
def slPR:AV → Option (List PR)
  | .nilS=>some []
  | .sl es xs=>if es=1 ∧ xs ≠ [] then asPRl xs else none
  | _=>none
theorem slPR_prsV (l:List PR):slPR (prsV l)=some l:=by
  cases l with
  | nil=>rfl
  | cons x l=>simp only [prsV,slPR]; rw [if_pos (by simp),asPRl_prsA]
theorem slPR_spec {v:AV} {l:List PR} (h:slPR v=some l):v=prsV l:=by
  unfold slPR at h
  split at h
  · simp only [Option.some.injEq] at h; subst h; rfl
  · rename_i es xs
    split at h
    · rename_i hc
      obtain ⟨rfl,hne⟩:=hc
      have:=asPRl_spec h
      subst this
      cases l with
      | nil=>simp at hne
      | cons x l=>rfl
    · simp at h
  · simp at h
def PR.isArc:PR → Bool
  | .arc _ _ _=>true
  | _=>false
def PR.fmOk (x:PR):Prop:=x.isArc=false ∧ x.fm.length < half ∧ (∀ p ∈ x.fm,ascii p.2=true ∧ p.2.length < qrt) ∧ ∀ v r k y,x=.sender v r k y → k.length < mid ∧ ascii k=true
def fPart (x:PR):L8:=59 :: 32 :: (x.meth ++ 61 :: (x.val ++ 32 :: fmtPs x.fm))
def fText (i:L8) (l:List PR):L8:=i ++ (if l=[] then [59,32,110,111,110,101] else l.flatMap fPart)
open Classical in
noncomputable def con_Format:List AV → Option AV
  | [.str i,v]=>match slPR v with
    | some l=>if l.length < half ∧ (∀ x ∈ l,x.fmOk) ∧ (fText i l).length < mid then some (.str (fText i l)) else none
    | none=>none
  | _=>none
theorem meth_fmt {Γ:Gam} (h251:Γ.fn 251=con_fAuth) (h252:Γ.fn 252=con_fDKIM) (h253:Γ.fn 253=con_fDomk) (h254:Γ.fn 254=con_fIprev) (h255:Γ.fn 255=con_fSender) (h256:Γ.fn 256=con_fSpf) (h257:Γ.fn 257=con_fDmarc) (h258:Γ.fn 258=con_fGen)
    (m8:Γ.mth 8 "given.example/pub-waxseal/pub/msgauth/authres.format" = some 251) (m9:Γ.mth 9 "given.example/pub-waxseal/pub/msgauth/authres.format" = some 252) (m10:Γ.mth 10 "given.example/pub-waxseal/pub/msgauth/authres.format" = some 253) (m11:Γ.mth 11 "given.example/pub-waxseal/pub/msgauth/authres.format" = some 254) (m12:Γ.mth 12 "given.example/pub-waxseal/pub/msgauth/authres.format" = some 255) (m13:Γ.mth 13 "given.example/pub-waxseal/pub/msgauth/authres.format" = some 256) (m14:Γ.mth 14 "given.example/pub-waxseal/pub/msgauth/authres.format" = some 257) (m15:Γ.mth 15 "given.example/pub-waxseal/pub/msgauth/authres.format" = some 258)
    {x:PR} (hx:x.fmOk):∃ t y n,x.av=.ifc t y ∧ Γ.mth t "given.example/pub-waxseal/pub/msgauth/authres.format" = some n ∧ Γ.fn n [y]=some (.tup [.str x.val,.mp (pmA x.fm)]):=by
  obtain ⟨h1,_,_,h4⟩:=hx
  cases x with
  | arc=>simp [PR.isArc] at h1
  | auth=>exact ⟨_,_,_,rfl,m8,by rw [h251]; rfl⟩
  | dkim=>exact ⟨_,_,_,rfl,m9,by rw [h252]; rfl⟩
  | domk=>exact ⟨_,_,_,rfl,m10,by rw [h253]; rfl⟩
  | iprev=>exact ⟨_,_,_,rfl,m11,by rw [h254]; rfl⟩
  | sender v r k y=>exact ⟨_,_,_,rfl,m12,by rw [h255]; exact if_pos (h4 v r k y rfl)⟩
  | spf=>exact ⟨_,_,_,rfl,m13,by rw [h256]; rfl⟩
  | dmarc=>exact ⟨_,_,_,rfl,m14,by rw [h257]; rfl⟩
  | gen=>exact ⟨_,_,_,rfl,m15,by rw [h258]; rfl⟩
set_option maxHeartbeats 8000000 in
set_option maxRecDepth 100000 in
theorem ok_Format (Γ:Gam) (h237:Γ.fn 237=con_resultMethod) (h238:Γ.fn 238=con_formatParams) (h251:Γ.fn 251=con_fAuth) (h252:Γ.fn 252=con_fDKIM) (h253:Γ.fn 253=con_fDomk) (h254:Γ.fn 254=con_fIprev) (h255:Γ.fn 255=con_fSender) (h256:Γ.fn 256=con_fSpf) (h257:Γ.fn 257=con_fDmarc) (h258:Γ.fn 258=con_fGen)
    (m8:Γ.mth 8 "given.example/pub-waxseal/pub/msgauth/authres.format" = some 251) (m9:Γ.mth 9 "given.example/pub-waxseal/pub/msgauth/authres.format" = some 252) (m10:Γ.mth 10 "given.example/pub-waxseal/pub/msgauth/authres.format" = some 253) (m11:Γ.mth 11 "given.example/pub-waxseal/pub/msgauth/authres.format" = some 254) (m12:Γ.mth 12 "given.example/pub-waxseal/pub/msgauth/authres.format" = some 255) (m13:Γ.mth 13 "given.example/pub-waxseal/pub/msgauth/authres.format" = some 256) (m14:Γ.mth 14 "given.example/pub-waxseal/pub/msgauth/authres.format" = some 257) (m15:Γ.mth 15 "given.example/pub-waxseal/pub/msgauth/authres.format" = some 258) :
    ∀ args r,con_Format args=some r → runs Γ c_authres_Format args (fun v=>v=r):=by
  intro args r h
  simp only [con_Format] at h
  split at h <;> (try simp at h; done)
  rename_i i v
  split at h <;> (try simp at h; done)
  rename_i l hl
  split at h <;> (try simp at h; done)
  rename_i hc
  obtain ⟨h1,h2,h3⟩:=hc
  simp only [Option.some.injEq] at h
  subst h
  rw [slPR_spec hl]
  clear hl
  simp only [mid] at h3
  cases l with
  | nil =>
    have h3':i.length + 6 < 1099511627776:=by simpa [fText] using h3
    simp -implicitDefEqProofs [c_authres_Format,prsV,fText]
    omega
  | cons z zs =>
  generalize hzs:z :: zs=l at *
  have hne:l ≠ []:=by rw [← hzs]; simp
  have hlen0:¬ (l.length:Int)=0:=by rw [← hzs]; simp; omega
  have hlen1:¬ l.length=0:=by rw [← hzs]; simp
  have hv:prsV l=.sl 1 (prsA l):=by rw [← hzs]; rfl
  have hF:fText i l=i ++ l.flatMap fPart:=by simp only [fText,if_neg hne]
  rw [hF] at h3 ⊢
  simp only [half] at h1
  rw [hv]
  simp -implicitDefEqProofs [c_authres_Format,hlen0,hlen1,hne]
  refine awp_loop2 (σ:=List PR × List PR) (fun q=>⟨[(5,.str (i ++ q.1.flatMap fPart)),(18,.sl 1 (prsA l)),(19,.int .i64 l.length),(20,.int .i64 q.1.length)],[]⟩)
    (fun q=>l=q.1 ++ q.2) (fun q=>q.2.length) ([],l) (by simp) (by simp) ?_
  rintro ⟨pre,post⟩ e LQ hLQ
  simp only at e
  cases post with
  | nil =>
    simp only [List.append_nil] at e
    subst e
    simp -implicitDefEqProofs []
  | cons x post =>
    obtain ⟨t,y,n,e1,e2,e3⟩:=meth_fmt h251 h252 h253 h254 h255 h256 h257 h258 m8 m9 m10 m11 m12 m13 m14 m15 (h2 x (by rw [e]; simp))
    have hx:=h2 x (by rw [e]; simp)
    have hlen:l.length=pre.length + (post.length + 1):=by rw [e]; simp
    have hlt:(pre.length:Int) < (l.length:Int):=by omega
    have hlt':pre.length < l.length:=by omega
    have g:l[pre.length]? = some x:=by rw [e]; exact get_mid rfl
    have ew:IntKind.i64.wrap ((pre.length:Int) + 1)=(pre.length:Int) + 1:=wrap64 (by omega) (by omega)
    have go:=fun st=>hLQ (pre ++ [x],post) (by rw [e]; simp) (by simp) st
    have hfl:(pre ++ [x]).flatMap fPart=pre.flatMap fPart ++ fPart x:=by simp
    rw [hfl] at go
    have hszz:(i ++ l.flatMap fPart).length=(i ++ (pre.flatMap fPart ++ fPart x)).length + (post.flatMap fPart).length:=by
      rw [e]; simp; omega
    rw [hszz] at h3
    simp only [List.length_append,fPart,List.length_cons] at h3
    have kr:con_resultMethod [x.av]=some (.str x.meth):=by simp only [con_resultMethod,asPR_av,Option.map]
    have kf:con_formatParams [.mp (pmA x.fm)]=some (.str (fmtPs x.fm)):=by
      simp only [con_formatParams,asPm_pmA]
      exact if_pos ⟨hx.2.1,hx.2.2.1,by simp only [mid]; omega⟩
    have ar:hasRef y=false:=by
      have:=pav_ref (x:=x)
      rw [e1] at this
      simpa [hasRef] using this
    have rv:hasRef (.tup [.str x.val,.mp (pmA x.fm)])=false:=by simp [hasRef,hasRefL]
    have g':l[pre.length]'hlt'=x:=by rw [List.getElem?_eq_getElem hlt'] at g; exact Option.some.inj g
    rw [e1] at kr
    simp -implicitDefEqProofs [hlt,hlt',g,g',e1,acall,h237,kr,e2,e3,h238,kf,ar,rv,ew]
    have hpf:(pre.flatMap fPart).length=(pre.map fun a=>(fPart a).length).sum:=by simp
    rw [hpf] at h3
    exact ⟨by omega,by omega,by omega,by omega,by omega,by omega,go _ (by simp [fPart])⟩
open Classical in
noncomputable def con_AFormat:List AV → Option AV
  | [.str i,u]=>match slAR u with
    | some l=>if l.length < half ∧ (∀ r ∈ l,(r.ps.getD []).length < half) ∧ (∀ r ∈ l,r.pr.fmOk) ∧ (fText i (l.map AR.pr)).length < mid then some (.str (fText i (l.map AR.pr))) else none
    | none=>none
  | _=>none
set_option maxHeartbeats 8000000 in
set_option maxRecDepth 100000 in
theorem ok_AFormat (Γ:Gam) (h235:Γ.fn 235=con_resultFor) (h236:Γ.fn 236=con_Format):∀ args r,con_AFormat args=some r → runs Γ c_impl_AFormat args (fun v=>v=r):=by
  intro args r h
  simp only [con_AFormat] at h
  split at h <;> (try simp at h; done)
  rename_i i u
  split at h <;> (try simp at h; done)
  rename_i l hl
  split at h <;> (try simp at h; done)
  rename_i hc
  obtain ⟨h1,h2,h4,h3⟩:=hc
  simp only [Option.some.injEq] at h
  subst h
  have uk:=sar_kill hl
  have us:=sar_snapW hl
  have ua:=sar_alen hl
  have kF:con_Format [.str i,prsV (l.map AR.pr)]=some (.str (fText i (l.map AR.pr))):=by
    simp only [con_Format,slPR_prsV]
    refine if_pos ⟨by simpa using h1,fun x hx=>?_,h3⟩
    simp only [List.mem_map] at hx
    obtain ⟨r,hr,rfl⟩:=hx
    exact h4 r hr
  simp only [half] at h1
  generalize fText i (l.map AR.pr)=T at *
  simp -implicitDefEqProofs [-alen,c_impl_AFormat,ua]
  refine awp_loop2 (σ:=List AR × List AR) (fun q=>⟨[(0,.str i),(5,grV 18 1 q.1.length),(8,u),(9,.int .i64 l.length),(10,.int .i64 q.1.length)],grH 18 q.1.length (prsA (q.1.map AR.pr))⟩)
    (fun q=>l=q.1 ++ q.2) (fun q=>q.2.length) ([],l) (by simp) (by simp) ?_
  rintro ⟨pre,post⟩ e1 LQ hLQ
  simp only at e1
  cases post with
  | nil =>
    simp only [List.append_nil] at e1
    subst e1
    have hnl:¬ ((l.length:Int) < (l.length:Int)):=by omega
    cases l with
    | nil =>
      simp only [List.map_nil,prsV] at kF
      simp -implicitDefEqProofs [acall,h236,kF]
    | cons x l =>
      simp only [List.map_cons,prsV] at kF
      have tk:List.take (l.length + 1) (x.pr.av :: prsA (l.map AR.pr))=x.pr.av :: prsA (l.map AR.pr):=List.take_of_length_le (by simp)
      simp only [prsA_cons] at kF
      simp -implicitDefEqProofs [acall,h236,kF,tk]
  | cons x post =>
    have hu:=sar_ne hl (by rw [e1]; simp)
    have hlen:l.length=pre.length + (post.length + 1):=by rw [e1]; simp
    have hlt:(pre.length:Int) < (l.length:Int):=by omega
    have g:(arA l)[pre.length]? = some (.agg x.cells):=by rw [e1,arA_app]; exact get_mid (by simp)
    have ew:IntKind.i64.wrap ((pre.length:Int) + 1)=(pre.length:Int) + 1:=wrap64 (by omega) (by omega)
    have hx:(x.ps.getD []).length < half:=h2 x (by rw [e1]; simp)
    have kx:con_resultFor [.agg x.cells]=some x.pr.av:=by simp only [con_resultFor,asAR_cells]; exact if_pos hx
    have cu:=slP_cells x.ps
    simp only [cells] at cu
    have cx:=pav_cells (x:=x.pr)
    simp only [cells] at cx
    have go:=fun st=>hLQ (pre ++ [x],post) (by rw [e1]; simp) (by simp) st
    rw [hu] at go ⊢
    simp only [AR.cells] at g kx
    cases pre with
    | nil =>
      have hlt0:0 < l.length:=by omega
      have ew0:IntKind.i64.wrap 1=1:=by decide
      simp only [List.length_nil] at g
      rw [List.getElem?_eq_getElem (by simp; omega)] at g
      have g0:=Option.some.inj g
      simp -implicitDefEqProofs [-alen,hlt0,g0,ew0,cu,acall,h235,kx,cx]
      exact go _ (by simp)
    | cons y pre =>
      simp only [List.length_cons,Int.natCast_add,Int.natCast_one] at hlt g ew hlen
      have tk:List.take (pre.length + 1) (y.pr.av :: prsA (pre.map AR.pr))=y.pr.av :: prsA (pre.map AR.pr):=List.take_of_length_le (by simp)
      simp -implicitDefEqProofs [-alen,hlt,g,ew,cu,acall,h235,kx,cx,tk]
      exact ⟨by omega,by omega,go _ (by simp)⟩
end Wax


namespace Wax
open Go (IntKind)

set_option maxRecDepth 100000 in
theorem kw_tok (c:UInt8) (h:kwB c=true):tokB c=true:=by
  have all:∀ n:Fin 256,kwB (UInt8.ofNat n.1)=true → tokB (UInt8.ofNat n.1)=true:=by decide
  have:=all ⟨c.toNat,c.toNat_lt⟩
  simp only [UInt8.ofNat_toNat] at this
  exact this h
theorem split_all {P:UInt8 → Prop} {b:UInt8} (hb:P b):∀ {v:L8},(∀ p ∈ splitB b v,∀ x ∈ p,P x) → ∀ x ∈ v,P x
  | [],_,x,hx=>by simp at hx
  | c :: r,h,x,hx=>by
    simp only [splitB] at h
    split at h
    · rename_i e
      rcases List.mem_cons.1 hx with rfl | hx
      · rw [e]; exact hb
      · exact split_all hb (v:=r) (fun p hp=>h p (by simp [hp])) x hx
    · cases hs:splitB b r with
      | nil=>exact absurd hs (splitB_ne b r)
      | cons p t =>
        rw [hs] at h
        simp only at h
        rcases List.mem_cons.1 hx with rfl | hx
        · exact h (x :: p) (by simp) x (by simp)
        · refine split_all hb (v:=r) ?_ x hx
          intro q hq y hy
          rw [hs] at hq
          rcases List.mem_cons.1 hq with rfl | hq
          · exact h (c :: q) (by simp) y (by simp [hy])
          · exact h q (by simp [hq]) y hy
theorem plain_tk {s:L8} (h:aPlain s=true):(∀ x ∈ s,tkC [64] x=true) ∧ s ≠ []:=by
  refine ⟨?_,(aPlain_g h).2.1⟩
  have tk:∀ x,tokB x=true → tkC [64] x=true:=fun x hx=>by simp [tkC,hx]
  have tok:∀ {s:L8},mTok s=true → ∀ x ∈ s,tkC [64] x=true:=fun hs x hx=>by
    simp only [mTok,Bool.and_eq_true] at hs
    exact tk x (List.all_eq_true.1 hs.1 x hx)
  unfold aPlain at h
  split at h
  · simp only [Bool.and_eq_true,decide_eq_true_eq] at h
    exact tok h.1
  · rename_i q hq
    simp only [Bool.and_eq_true,Bool.or_eq_true,decide_eq_true_eq] at h
    have e:=cut_mem (c:=64) hq
    rw [e]
    intro x hx
    simp only [List.mem_append,List.mem_cons] at hx
    rcases hx with hx | rfl | hx
    · rcases h.1.1 with h1 | h1
      · rw [h1] at hx; simp at hx
      · exact tok h1 x hx
    · decide
    · have hd:=h.1.2
      simp only [mDom,Bool.and_eq_true] at hd
      refine split_all (P:=fun x=>tkC [64] x=true) (b:=46) (by decide) (fun p hp x hx=>?_) x hx
      have:=List.all_eq_true.1 hd.1 p hp
      simp only [Bool.and_eq_true,mKw] at this
      exact tk x (kw_tok x (List.all_eq_true.1 this.1.1.1.1 x hx))
end Wax


namespace Wax
open Go (IntKind)

theorem lookP_kv:∀ {l:List KVp} {k:L8},lookP l k ≠ [] → (k,lookP l k) ∈ l
  | [],k,h=>by simp [lookP] at h
  | (i,v) :: r,k,h=>by
    simp only [lookP] at h ⊢
    split
    · rename_i e; subst e; simp
    · rename_i e
      rw [if_neg e] at h
      exact List.mem_cons_of_mem _ (lookP_kv h)
def fmPairs (l:List KVp):List KVp:=((fmKeys l).filter fun k=>decide (lookP l k ≠ [])).map fun k=>(k,lookP l k)
theorem fmPairs_mem {l:List KVp} {p:KVp} (h:p ∈ fmPairs l):p ∈ l ∧ p.2 ≠ [] ∧ p.2=lookP l p.1:=by
  simp only [fmPairs,List.mem_map,List.mem_filter,decide_eq_true_eq] at h
  obtain ⟨k,⟨_,h2⟩,rfl⟩:=h
  exact ⟨lookP_kv h2,h2,rfl⟩
theorem fmKeys_mem {l:List KVp} {k:L8} (h:lookP l k ≠ []):k ∈ fmKeys l:=by
  simp only [fmKeys,List.mem_append]
  by_cases hk:k=qReason
  · subst hk
    exact .inl (by rw [if_neg h]; simp)
  · refine .inr ?_
    simp only [sortB,List.mem_mergeSort,List.mem_filter,List.mem_map,decide_eq_true_eq]
    exact ⟨⟨_,lookP_kv h,rfl⟩,hk⟩
theorem lookP_keyed {f:L8 → L8}:∀ (ks:List L8) (k:L8),lookP (ks.map fun k=>(k,f k)) k=if k ∈ ks then f k else []
  | [],k=>by simp [lookP]
  | j :: ks,k=>by
    simp only [List.map_cons,lookP,lookP_keyed ks k,List.mem_cons]
    by_cases h:k=j
    · simp [h]
    · simp [h]
theorem lookP_fmPairs (l:List KVp) (k:L8):lookP (fmPairs l) k=lookP l k:=by
  unfold fmPairs
  rw [lookP_keyed]
  split
  · rfl
  · rename_i h
    by_cases hk:lookP l k=[]
    · exact hk.symm
    · exact absurd (List.mem_filter.2 ⟨fmKeys_mem hk,by simpa using hk⟩) h
theorem fmPairs_nd {l:List KVp} (h:(l.map (·.1)).Nodup):((fmPairs l).map (·.1)).Nodup:=by
  have e:(fmPairs l).map (·.1)=(fmKeys l).filter fun k=>decide (lookP l k ≠ []):=by simp [fmPairs,Function.comp_def]
  rw [e]
  refine List.Pairwise.filter _ ?_
  unfold fmKeys
  refine List.nodup_append.2 ?_
  refine ⟨by split <;> simp,?_,?_⟩
  · have:(sortB ((l.map (·.1)).filter (· ≠ qReason))).Perm ((l.map (·.1)).filter (· ≠ qReason)):=List.mergeSort_perm _ _
    exact this.nodup_iff.2 (List.Pairwise.filter _ h)
  · intro a ha b hb e
    split at ha
    · simp at ha
    · simp only [List.mem_singleton] at ha
      simp only [sortB,List.mem_mergeSort,List.mem_filter,decide_eq_true_eq] at hb
      exact hb.2 (by rw [← e,ha])
def NoQ (l:List KVp):Prop:=∀ p ∈ l,p.2 ≠ [] → (p.1=qReason → fmtV p.2=p.2) ∧ (p.1 ≠ qReason → fmtP p.2=p.2)
theorem fmtPs_noq {l:List KVp} (h:NoQ l):fmtPs l=joinW ((fmPairs l).map kvW):=by
  unfold fmtPs fmPairs
  congr 1
  rw [List.map_map]
  refine List.map_congr_left fun k hk=>?_
  simp only [List.mem_filter,decide_eq_true_eq] at hk
  have:=h _ (lookP_kv hk.2) hk.2
  simp only [fmWord,Function.comp,kvW]
  by_cases hr:k=qReason
  · rw [if_pos hr,this.1 hr]
  · rw [if_neg hr,this.2 hr]
theorem joinW_flat (ws:List L8):32 :: joinW ws=if ws=[] then [32] else ws.flatMap (32 :: ·):=by
  cases ws with
  | nil=>rfl
  | cons w r=>simp [joinW]

def pcsB (b:L8):L8 → List (L8 × ResT) → List L8
  | cur,[]=>[cur ++ b]
  | cur,p :: r=>(cur ++ p.1) :: pcsB b p.2.txt r
theorem split_flatB {b:L8} (hb:allWs b):∀ (l:List (L8 × ResT)) (cur:L8),noB 59 cur → (∀ p ∈ l,allWs p.1 ∧ p.2.Ok) → splitB 59 (cur ++ (flatP l ++ b))=pcsB b cur l
  | [],cur,hc,_=>by
    simp only [flatP,List.flatMap_nil,List.nil_append,pcsB]
    exact splitB_only (b:=59) (noB_app hc (allWs_no hb))
  | p :: r,cur,hc,h=>by
    obtain ⟨h1,h2⟩:=h p (by simp)
    have ih:=split_flatB hb r p.2.txt h2.no (fun q hq=>h q (by simp [hq]))
    have e:cur ++ (flatP (p :: r) ++ b)=(cur ++ p.1) ++ 59 :: (p.2.txt ++ (flatP r ++ b)):=by simp [flatP]
    rw [e,splitB_app (b:=59) (noB_app hc (allWs_no h1)),ih]; rfl
theorem adGo_pcsB {b:L8} (hb:allWs b):∀ (l:List (L8 × ResT)) (t:ResT) (xs:List PR) (x:PR) (acc:List PR),t.Ok → prOf (lowS t.head.1) (lowS t.head.2) t.prm=.inr x → (∀ p ∈ l,allWs p.1 ∧ p.2.Ok) →
    l.map (fun p=>prOf (lowS p.2.head.1) (lowS p.2.head.2) p.2.prm)=xs.map .inr → adGo (pcsB b t.txt l) acc=(acc ++ x :: xs,none)
  | [],t,xs,x,acc,ht,hx,_,e=>by
    have hxs:xs=[]:=by
      cases xs with
      | nil=>rfl
      | cons _ _=>simp at e
    subst hxs
    obtain ⟨h1,h2⟩:=ht.res hb hx
    simp only [pcsB,adGo,if_neg h1,h2]
  | p :: r,t,xs,x,acc,ht,hx,h,e=>by
    obtain ⟨h1,h2⟩:=h p (by simp)
    cases xs with
    | nil=>simp at e
    | cons y ys =>
      simp only [List.map_cons,List.cons.injEq] at e
      obtain ⟨n1,n2⟩:=ht.res h1 hx
      simp only [pcsB,adGo,if_neg n1,n2]
      rw [adGo_pcsB hb r p.2 ys y (acc ++ [x]) h2 e.1 (fun q hq=>h q (by simp [hq])) e.2]
      simp
theorem ad_textB {b:L8} (hb:allWs b) {i c:L8} (hc:noB 59 c) (hid:∀ b,allWs b → adId (c ++ b)=some i) {p:L8 × ResT} {l:List (L8 × ResT)} {xs:List PR} (h:∀ q ∈ p :: l,allWs q.1 ∧ q.2.Ok) (e:(p :: l).map (fun p=>prOf (lowS p.2.head.1) (lowS p.2.head.2) p.2.prm)=xs.map .inr):adText (c ++ (flatP (p :: l) ++ b))=some (i,xs):=by
  simp only [adText]
  rw [split_flatB hb (p :: l) c hc h]
  obtain ⟨h1,h2⟩:=h p (by simp)
  cases xs with
  | nil=>simp at e
  | cons y ys =>
    simp only [List.map_cons,List.cons.injEq] at e
    have hg:=adGo_pcsB hb l p.2 ys y [] h2 e.1 (fun q hq=>h q (by simp [hq])) e.2
    simp only [pcsB,hid _ h1,hg,List.nil_append]

def aMute1 (r:AR):Bool := !(decide (r.kind=1) && decide (r.reason ≠ [])) && (if r.kind=0 then (r.ps.getD []).map (·.2) else r.props.map (·.2.2)).all fun v=>v.all fun c=>decide (c ≠ 33)
set_option maxRecDepth 100000 in
theorem tkC_ad {x:UInt8} (h:tkC [64] x=true) (h2:x ≠ 33):adB x=true:=by
  have all:∀ n:Fin 256,tkC [64] (UInt8.ofNat n.1)=true → UInt8.ofNat n.1 ≠ 33 → adB (UInt8.ofNat n.1)=true:=by decide
  have:=all ⟨x.toNat,x.toNat_lt⟩
  simp only [UInt8.ofNat_toNat] at this
  exact this h h2
set_option maxRecDepth 100000 in
theorem tok_sp {x:UInt8} (h:tokB x=true):spB x=false:=by
  have all:∀ n:Fin 256,tokB (UInt8.ofNat n.1)=true → spB (UInt8.ofNat n.1)=false:=by decide
  have:=all ⟨x.toNat,x.toNat_lt⟩
  simp only [UInt8.ofNat_toNat] at this
  exact this h
theorem tok_fmtV {s:L8} (h:mTok s=true):fmtV s=s:=by
  simp only [mTok,Bool.and_eq_true] at h
  have:s.any spB=false:=by
    rw [List.any_eq_false]
    intro x hx
    simp [tok_sp (List.all_eq_true.1 h.1 x hx)]
  simp [fmtV,this]
theorem plain_fmtP {s:L8} (h:aPlain s=true) (h2:∀ x ∈ s,x ≠ 33):fmtP s=s:=by
  have:s.all adB=true:=List.all_eq_true.2 fun x hx=>tkC_ad ((plain_tk h).1 x hx) (h2 x hx)
  simp [fmtP,this]
structure PrGood (r:AR):Prop where
  meth:r.pr.meth=r.meth
  val:r.pr.val=r.value
  look:∀ k,lookP r.pr.fm k=lookP r.prm k
  nd:(r.pr.fm.map (·.1)).Nodup
  keys:∀ p ∈ r.pr.fm,p.2 ≠ [] → p ∈ r.prm
  gen:r.kind=0 → r.pr.fm=r.prm
theorem look_rPs (s:L8) (l:List KVp) (k:L8):lookP (rPs s ++ l) k=if k=qReason ∧ s ≠ [] then s else lookP l k:=by
  unfold rPs
  split
  · rename_i h; simp [h]
  · rename_i h
    simp only [List.cons_append,List.nil_append,lookP]
    by_cases hk:k=qReason
    · simp [hk,h]
    · simp [hk]
theorem mapOf_asc {l:List KVp} (h:(l.map (·.1)).Nodup):mapOf l=l:=by
  have gen:∀ (r acc:List KVp),((acc ++ r).map (·.1)).Nodup → r.foldl (fun m p=>psetL m p.1 p.2) acc=acc ++ r:=by
    intro r
    induction r with
    | nil=>intro acc _; simp
    | cons p r ih =>
      intro acc h
      have hn:hasK p.1 acc=false:=by
        refine hasK_none fun hm=>?_
        simp only [List.map_append,List.map_cons,List.nodup_append] at h
        exact h.2.2 _ hm _ (by simp) rfl
      simp only [List.foldl_cons,psetL_new hn]
      rw [ih (acc ++ [(p.1,p.2)]) (by simpa using h)]
      simp
  have:=gen l [] (by simpa using h)
  simpa [mapOf] using this
theorem good_Auth {r:AR} (h:r.kind=1) (hre:r.reason=[]):PrGood r:=by
  have hm:r.meth=sAuth:=by simp only [AR.meth,h]; rfl
  have hp:r.prm=rPs r.reason ++ [(qAuth,r.auth)]:=by simp only [AR.prm,AR.props,h]; rfl
  rw [hre] at hp
  have hpr:r.pr=.auth r.value r.reason r.auth:=by simp [AR.pr,h]
  have hfm:r.pr.fm=[(qAuth,r.auth)]:=by rw [hpr]; rfl
  refine ⟨by rw [hpr,hm]; rfl,by rw [hpr]; rfl,?_,by rw [hfm]; exact (show ([qAuth]:List L8).Nodup by decide),?_,fun h0=>by omega⟩
  · intro k
    rw [hp,hfm]; rfl
  · intro p hq hne
    rw [hfm] at hq
    rw [hp]
    simp only [List.mem_cons,List.not_mem_nil,or_false] at hq
    rcases hq with rfl <;> simp_all [rPs]
theorem good_Dkim {r:AR} (h:r.kind=2):PrGood r:=by
  have hm:r.meth=sDkim:=by simp only [AR.meth,h]; rfl
  have hp:r.prm=rPs r.reason ++ [(qD,r.domain),(qI,r.ident)]:=by simp only [AR.prm,AR.props,h]; rfl
  skip
  have hpr:r.pr=.dkim r.value r.reason r.domain r.ident:=by simp [AR.pr,h]
  have hfm:r.pr.fm=[(qD,r.domain),(qI,r.ident),(qReason,r.reason)]:=by rw [hpr]; rfl
  refine ⟨by rw [hpr,hm]; rfl,by rw [hpr]; rfl,?_,by rw [hfm]; exact (show ([qD,qI,qReason]:List L8).Nodup by decide),?_,fun h0=>by omega⟩
  · intro k
    rw [hp,hfm,look_rPs]
    by_cases hk:k=qReason
    · subst hk
      by_cases hr:r.reason=[]
      · simp [lookP,hr,qReason,qD,qI]
      · simp [lookP,hr,qReason,qD,qI]
    · simp [lookP,hk]
  · intro p hq hne
    rw [hfm] at hq
    rw [hp]
    simp only [List.mem_cons,List.not_mem_nil,or_false] at hq
    rcases hq with rfl | rfl | rfl <;> simp_all [rPs]
theorem good_Domk {r:AR} (h:r.kind=3):PrGood r:=by
  have hm:r.meth=sDomk:=by simp only [AR.meth,h]; rfl
  have hp:r.prm=rPs r.reason ++ [(qD,r.domain),(qFrom,r.fr),(qSend,r.sender)]:=by simp only [AR.prm,AR.props,h]; rfl
  skip
  have hpr:r.pr=.domk r.value r.reason r.domain r.fr r.sender:=by simp [AR.pr,h]
  have hfm:r.pr.fm=[(qD,r.domain),(qFrom,r.fr),(qSend,r.sender),(qReason,r.reason)]:=by rw [hpr]; rfl
  refine ⟨by rw [hpr,hm]; rfl,by rw [hpr]; rfl,?_,by rw [hfm]; exact (show ([qD,qFrom,qSend,qReason]:List L8).Nodup by decide),?_,fun h0=>by omega⟩
  · intro k
    rw [hp,hfm,look_rPs]
    by_cases hk:k=qReason
    · subst hk
      by_cases hr:r.reason=[]
      · simp [lookP,hr,qReason,qD,qFrom,qSend]
      · simp [lookP,hr,qReason,qD,qFrom,qSend]
    · simp [lookP,hk]
  · intro p hq hne
    rw [hfm] at hq
    rw [hp]
    simp only [List.mem_cons,List.not_mem_nil,or_false] at hq
    rcases hq with rfl | rfl | rfl | rfl <;> simp_all [rPs]
theorem good_Iprev {r:AR} (h:r.kind=4):PrGood r:=by
  have hm:r.meth=sIprev:=by simp only [AR.meth,h]; rfl
  have hp:r.prm=rPs r.reason ++ [(qIprev,r.ip)]:=by simp only [AR.prm,AR.props,h]; rfl
  skip
  have hpr:r.pr=.iprev r.value r.reason r.ip:=by simp [AR.pr,h]
  have hfm:r.pr.fm=[(qIprev,r.ip),(qReason,r.reason)]:=by rw [hpr]; rfl
  refine ⟨by rw [hpr,hm]; rfl,by rw [hpr]; rfl,?_,by rw [hfm]; exact (show ([qIprev,qReason]:List L8).Nodup by decide),?_,fun h0=>by omega⟩
  · intro k
    rw [hp,hfm,look_rPs]
    by_cases hk:k=qReason
    · subst hk
      by_cases hr:r.reason=[]
      · simp [lookP,hr,qReason,qIprev]
      · simp [lookP,hr,qReason,qIprev]
    · simp [lookP,hk]
  · intro p hq hne
    rw [hfm] at hq
    rw [hp]
    simp only [List.mem_cons,List.not_mem_nil,or_false] at hq
    rcases hq with rfl | rfl <;> simp_all [rPs]
theorem good_Spf {r:AR} (h:r.kind=6):PrGood r:=by
  have hm:r.meth=sSpf:=by simp only [AR.meth,h]; rfl
  have hp:r.prm=rPs r.reason ++ [(qMail,r.fr),(qHelo,r.helo)]:=by simp only [AR.prm,AR.props,h]; rfl
  skip
  have hpr:r.pr=.spf r.value r.reason r.fr r.helo:=by simp [AR.pr,h]
  have hfm:r.pr.fm=[(qReason,r.reason),(qHelo,r.helo),(qMail,r.fr)]:=by rw [hpr]; rfl
  refine ⟨by rw [hpr,hm]; rfl,by rw [hpr]; rfl,?_,by rw [hfm]; exact (show ([qReason,qHelo,qMail]:List L8).Nodup by decide),?_,fun h0=>by omega⟩
  · intro k
    rw [hp,hfm,look_rPs]
    by_cases hk:k=qReason
    · subst hk
      by_cases hr:r.reason=[]
      · simp [lookP,hr,qReason,qMail,qHelo]
      · simp [lookP,hr,qReason,qMail,qHelo]
    · by_cases h1:k=qHelo
      · subst h1
        simp [lookP,qReason,qHelo,qMail]
      · simp [lookP,hk,h1]
  · intro p hq hne
    rw [hfm] at hq
    rw [hp]
    simp only [List.mem_cons,List.not_mem_nil,or_false] at hq
    rcases hq with rfl | rfl | rfl <;> simp_all [rPs]
theorem good_Dmarc {r:AR} (h:r.kind=7):PrGood r:=by
  have hm:r.meth=sDmarc:=by simp only [AR.meth,h]; rfl
  have hp:r.prm=rPs r.reason ++ [(qFrom,r.fr)]:=by simp only [AR.prm,AR.props,h]; rfl
  skip
  have hpr:r.pr=.dmarc r.value r.reason r.fr:=by simp [AR.pr,h]
  have hfm:r.pr.fm=[(qFrom,r.fr),(qReason,r.reason)]:=by rw [hpr]; rfl
  refine ⟨by rw [hpr,hm]; rfl,by rw [hpr]; rfl,?_,by rw [hfm]; exact (show ([qFrom,qReason]:List L8).Nodup by decide),?_,fun h0=>by omega⟩
  · intro k
    rw [hp,hfm,look_rPs]
    by_cases hk:k=qReason
    · subst hk
      by_cases hr:r.reason=[]
      · simp [lookP,hr,qReason,qFrom]
      · simp [lookP,hr,qReason,qFrom]
    · simp [lookP,hk]
  · intro p hq hne
    rw [hfm] at hq
    rw [hp]
    simp only [List.mem_cons,List.not_mem_nil,or_false] at hq
    rcases hq with rfl | rfl <;> simp_all [rPs]
theorem good_Sender {r:AR} (h:r.kind=5) (hl:lowS r.hkey=r.hkey):PrGood r:=by
  have hm:r.meth=sSender:=by simp only [AR.meth,h]; rfl
  have hp:r.prm=rPs r.reason ++ [(tHeader ++ 46 :: r.hkey,r.hval)]:=by simp only [AR.prm,AR.props,h]; rfl
  have hpr:r.pr=.sender r.value r.reason r.hkey r.hval:=by simp [AR.pr,h]
  have hne:tHeader ++ 46 :: r.hkey ≠ qReason:=key_ne_reason
  have hfm:r.pr.fm=[(tHeader ++ 46 :: r.hkey,r.hval),(qReason,r.reason)]:=by
    rw [hpr]
    simp only [PR.fm,hl]
    rfl
  refine ⟨by rw [hpr,hm]; rfl,by rw [hpr]; rfl,?_,by rw [hfm]; simp [hne],?_,fun h0=>by omega⟩
  · intro k
    rw [hp,hfm,look_rPs]
    by_cases hk:k=qReason
    · subst hk
      by_cases hr:r.reason=[]
      · simp [lookP,hr,hne.symm]
      · simp [lookP,hr,hne.symm]
    · simp [lookP,hk]
  · intro p hq hne
    rw [hfm] at hq
    rw [hp]
    simp only [List.mem_cons,List.not_mem_nil,or_false] at hq
    rcases hq with rfl | rfl <;> simp_all [rPs]
set_option maxHeartbeats 1000000 in
theorem pr_good {r:AR} (hf:aFit1 r=true) (hm:aMute1 r=true):PrGood r:=by
  have hP:=fit_parts hf
  rcases kind_cases hf with h | h | h | h | h | h | h | h
  · have hm:r.meth=r.method:=by simp only [AR.meth,h,if_true]
    have hre:r.reason=[]:=by
      simp only [aFit1,Bool.and_eq_true,decide_eq_true_eq,h,if_true] at hf
      exact hf.2.1.1.1.2
    have hp:r.prm=r.ps.getD []:=by simp only [AR.prm,h,hre,rPs,if_true,List.nil_append]
    have hpr:r.pr=.gen r.method r.value (mapOf (r.ps.getD [])):=by simp [AR.pr,h]
    have hnd:=hP.1.nd
    rw [hp] at hnd
    have hfm:r.pr.fm=r.prm:=by rw [hpr,hp]; exact mapOf_asc hnd
    exact ⟨by rw [hpr,hm]; rfl,by rw [hpr]; rfl,fun k=>by rw [hfm],by rw [hfm,hp]; exact hnd,fun p hp _=>by rw [← hfm]; exact hp,fun _=>hfm⟩
  · refine good_Auth h ?_
    simp only [aMute1,h,decide_true,Bool.true_and,Bool.and_eq_true,Bool.not_eq_true',decide_eq_false_iff_not,ne_eq,Decidable.not_not] at hm
    exact hm.1
  · exact good_Dkim h
  · exact good_Domk h
  · exact good_Iprev h
  · refine good_Sender h ?_
    simp only [aFit1,Bool.and_eq_true,decide_eq_true_eq] at hf
    have h5:=hf.2
    rw [if_neg (by omega)] at h5
    have:=List.all_eq_true.1 h5 (tHeader,r.hkey,r.hval) (by simp [AR.props,h])
    simp only [Bool.and_eq_true,decide_eq_true_eq] at this
    exact this.2
  · exact good_Spf h
  · exact good_Dmarc h

theorem gFit_plain:∀ (l:List KVp) (prev:Option L8),gFit prev l=true → ∀ p ∈ l,aPlain p.2=true ∧ p.1 ≠ qReason
  | [],_,_=>by simp
  | p :: r,prev,h=>by
    simp only [gFit,Bool.and_eq_true,decide_eq_true_eq] at h
    obtain ⟨⟨⟨⟨h1,h2⟩,h3⟩,h4⟩,h5⟩:=h
    intro q hq
    rcases List.mem_cons.1 hq with rfl | hq
    · refine ⟨h3,fun e=>?_⟩
      split at h1
      · rename_i z hz
        have:=cut_mem (c:=46) hz
        rw [e] at this
        exact key_ne_reason this.symm
      · simp at h1
    · exact gFit_plain r _ h5 q hq
theorem prm_vals {r:AR} (hf:aFit1 r=true) (hm:aMute1 r=true):∀ p ∈ r.prm,(p.1=qReason → mTok p.2=true) ∧ (p.1 ≠ qReason → aPlain p.2=true ∧ ∀ x ∈ p.2,x ≠ 33):=by
  intro p hp
  simp only [aFit1,Bool.and_eq_true,decide_eq_true_eq,Bool.or_eq_true] at hf
  obtain ⟨⟨⟨⟨f1,f2⟩,f3⟩,f4⟩,f5⟩:=hf
  simp only [aMute1,Bool.and_eq_true] at hm
  have hm2:=hm.2
  simp only [AR.prm,List.mem_append] at hp
  rcases hp with hp | hp
  · unfold rPs at hp
    split at hp
    · simp at hp
    · rename_i hne
      simp only [List.mem_singleton] at hp
      subst hp
      refine ⟨fun _=>?_,fun h=>absurd rfl h⟩
      rcases f4 with h | h
      · exact absurd h hne
      · exact h
  · by_cases h0:r.kind=0
    · rw [if_pos h0] at hp f5 hm2
      simp only [Bool.and_eq_true,decide_eq_true_eq] at f5
      obtain ⟨a,b⟩:=gFit_plain _ _ f5.2 p hp
      refine ⟨fun e=>absurd e b,fun _=>⟨a,fun x hx=>?_⟩⟩
      have:=List.all_eq_true.1 (List.all_eq_true.1 hm2 p.2 (List.mem_map.2 ⟨p,hp,rfl⟩)) x hx
      simpa using this
    · rw [if_neg h0] at hp f5 hm2
      obtain ⟨q,hq,rfl⟩:=List.mem_map.1 hp
      have h5:=List.all_eq_true.1 f5 q hq
      simp only [Bool.and_eq_true,decide_eq_true_eq] at h5
      refine ⟨fun e=>absurd e key_ne_reason,fun _=>⟨h5.1.1,fun x hx=>?_⟩⟩
      have:=List.all_eq_true.1 (List.all_eq_true.1 hm2 q.2.2 (List.mem_map.2 ⟨q,hq,rfl⟩)) x hx
      simpa using this
def ft (r:AR):ResT:=⟨[32],(r.meth,r.value),(fmPairs r.pr.fm).map fun p=>([32],p)⟩
def tl (r:AR):L8:=if fmPairs r.pr.fm=[] then [32] else []
theorem tl_ws (r:AR):allWs (tl r):=by
  unfold tl
  split
  · intro x hx
    simp only [List.mem_singleton] at hx
    subst hx; decide
  · intro x hx; simp at hx
theorem noq {r:AR} (hf:aFit1 r=true) (hm:aMute1 r=true):NoQ r.pr.fm:=by
  intro p hp hne
  obtain ⟨h1,h2⟩:=prm_vals hf hm p ((pr_good hf hm).keys p hp hne)
  exact ⟨fun e=>tok_fmtV (h1 e),fun e=>plain_fmtP (h2 e).1 (h2 e).2⟩
theorem fPart_ft {r:AR} (hf:aFit1 r=true) (hm:aMute1 r=true):fPart r.pr=59 :: ((ft r).txt ++ tl r):=by
  have G:=pr_good hf hm
  have e:32 :: fmtPs r.pr.fm=flatW ((ft r).ps.map fun p=>(p.1,kvW p.2)) ++ tl r:=by
    rw [fmtPs_noq (noq hf hm),joinW_flat]
    simp only [ft,tl,flatW,List.map_map,List.map_eq_nil_iff]
    split
    · rename_i h; simp [h]
    · simp [List.flatMap_map,Function.comp_def]
  simp only [fPart,G.meth,G.val,e,ResT.txt]
  simp [ft,kvW]
theorem ft_ok {r:AR} (hf:aFit1 r=true) (hm:aMute1 r=true):(ft r).Ok ∧ (ft r).prm=fmPairs r.pr.fm:=by
  have G:=pr_good hf hm
  obtain ⟨P,K,h3,h4⟩:=fit_parts hf
  have hk:∀ p ∈ fmPairs r.pr.fm,KvOk p ∧ lowS p.1=p.1:=by
    intro p hp
    obtain ⟨a,b,_⟩:=fmPairs_mem hp
    exact P.kv p (G.keys p a b)
  have hws:allWs [32]:=by intro x hx; simp only [List.mem_singleton] at hx; subst hx; decide
  have e:(ft r).ps.map (fun p=>(lowS p.2.1,p.2.2))=fmPairs r.pr.fm:=by
    simp only [ft,List.map_map]
    conv=>rhs; rw [← List.map_id (fmPairs r.pr.fm)]
    refine List.map_congr_left fun p hp=>?_
    simp only [Function.comp,(hk p hp).2]; rfl
  refine ⟨⟨hws,K,fun p hp=>?_,?_⟩,e⟩
  · simp only [ft,List.mem_map] at hp
    obtain ⟨q,hq,rfl⟩:=hp
    exact ⟨⟨by simp,hws⟩,(hk q hq).1⟩
  · have e2:(ft r).ps.map (fun p=>lowS p.2.1)=(fmPairs r.pr.fm).map (·.1):=by rw [← e]; simp [Function.comp_def]
    rw [e2]
    exact fmPairs_nd G.nd
theorem sort_asc {l:List KVp} (h:Asc l):sortB (l.map (·.1))=l.map (·.1):=by
  refine List.mergeSort_of_pairwise ?_
  have:(l.map (·.1)).Pairwise (· < ·):=List.pairwise_map.2 h
  exact this.imp fun {a b} hab=>by
    simp only [decide_eq_true_eq]
    exact List.le_of_lt hab
theorem fmPairs_asc {l:List KVp} (h:Asc l) (hk:∀ p ∈ l,p.1 ≠ qReason ∧ p.2 ≠ []):fmPairs l=l:=by
  have hnd:(l.map (·.1)).Nodup:=by
    have:(l.map (·.1)).Pairwise (· < ·):=List.pairwise_map.2 h
    exact this.imp fun h=>fun e=>absurd (e ▸ h) (List.lt_irrefl _)
  have hl:∀ p ∈ l,lookP l p.1=p.2:=fun p hp=>lookP_mem hnd hp
  have hr:lookP l qReason=[]:=by
    by_cases hr:lookP l qReason=[]
    · exact hr
    · exact absurd rfl (hk _ (lookP_kv hr)).1
  have hf:(l.map (·.1)).filter (· ≠ qReason)=l.map (·.1):=by
    rw [List.filter_eq_self]
    intro k hk2
    obtain ⟨p,hp,rfl⟩:=List.mem_map.1 hk2
    simpa using (hk p hp).1
  have hK:fmKeys l=l.map (·.1):=by
    unfold fmKeys
    rw [if_pos hr,hf,sort_asc h]; rfl
  unfold fmPairs
  rw [hK]
  have hf2:(l.map (·.1)).filter (fun k=>decide (lookP l k ≠ []))=l.map (·.1):=by
    rw [List.filter_eq_self]
    intro k hk2
    obtain ⟨p,hp,rfl⟩:=List.mem_map.1 hk2
    simp only [hl p hp,decide_eq_true_eq]
    exact (hk p hp).2
  rw [hf2,List.map_map]
  conv=>rhs; rw [← List.map_id l]
  refine List.map_congr_left fun p hp=>?_
  simp only [Function.comp,hl p hp]; rfl
theorem ft_reads {r:AR} (hf:aFit1 r=true) (hm:aMute1 r=true):∃ x:PR,prOf (lowS (ft r).head.1) (lowS (ft r).head.2) (ft r).prm=.inr x ∧ x.ar=r.only.norm:=by
  have G:=pr_good hf hm
  obtain ⟨P,_,h3,h4⟩:=fit_parts hf
  obtain ⟨x,hx,hxa⟩:=reads_all hf
  refine ⟨x,?_,hxa⟩
  rw [(ft_ok hf hm).2]
  show prOf (lowS r.meth) (lowS r.value) _=_
  rw [h3,h4,← hx]
  have hkeys:∀ k,lookP (fmPairs r.pr.fm) k=lookP r.prm k:=fun k=>by rw [lookP_fmPairs,G.look]
  by_cases h0:r.kind=0
  · have hp:r.prm=r.ps.getD []:=by
      simp only [aFit1,Bool.and_eq_true,decide_eq_true_eq,h0,if_true] at hf
      simp only [AR.prm,h0,hf.2.1.1.1.2,rPs,if_true,List.nil_append]
    have hg:gFit none (r.ps.getD [])=true:=by
      simp only [aFit1,Bool.and_eq_true,decide_eq_true_eq,h0,if_true] at hf
      exact hf.2.2
    have e:fmPairs r.pr.fm=r.prm:=by
      rw [G.gen h0,hp]
      refine fmPairs_asc (gFit_spec _ _ hg).2.1 fun p hp2=>?_
      have:=gFit_plain _ _ hg p hp2
      exact ⟨this.2,(plain_tk this.1).2⟩
    rw [e]
  · have hms:r.meth ∈ aMeths ∧ r.meth ≠ sArc ∧ (r.meth=sSender → r.kind=5):=by
      rcases kind_cases hf with h | h | h | h | h | h | h | h
      · exact absurd h h0
      · rw [show r.meth=sAuth by simp only [AR.meth,h]; rfl]; exact ⟨by decide,by decide,fun h=>absurd h (by decide)⟩
      · rw [show r.meth=sDkim by simp only [AR.meth,h]; rfl]; exact ⟨by decide,by decide,fun h=>absurd h (by decide)⟩
      · rw [show r.meth=sDomk by simp only [AR.meth,h]; rfl]; exact ⟨by decide,by decide,fun h=>absurd h (by decide)⟩
      · rw [show r.meth=sIprev by simp only [AR.meth,h]; rfl]; exact ⟨by decide,by decide,fun h=>absurd h (by decide)⟩
      · rw [show r.meth=sSender by simp only [AR.meth,h]; rfl]; exact ⟨by decide,by decide,fun _=>h⟩
      · rw [show r.meth=sSpf by simp only [AR.meth,h]; rfl]; exact ⟨by decide,by decide,fun h=>absurd h (by decide)⟩
      · rw [show r.meth=sDmarc by simp only [AR.meth,h]; rfl]; exact ⟨by decide,by decide,fun h=>absurd h (by decide)⟩
    refine prOf_congr hms.1 hms.2.1 (fun k _=>hkeys k) fun hs=>?_
    have h5:=hms.2.2 hs
    have hp:r.prm=rPs r.reason ++ [(tHeader ++ 46 :: r.hkey,r.hval)]:=by simp only [AR.prm,AR.props,h5]; rfl
    have hb:headB (tHeader ++ 46 :: r.hkey)=true:=by
      simp only [headB,tHeader,qHead]
      simp [List.isPrefixOf]
    have hq:headB qReason=false:=by decide
    have hin:(tHeader ++ 46 :: r.hkey,r.hval) ∈ r.prm:=by rw [hp]; simp
    have hv:aPlain r.hval=true:=((prm_vals hf hm _ hin).2 key_ne_reason).1
    have ho:∀ x ∈ r.prm.map (·.1),x=tHeader ++ 46 :: r.hkey ∨ headB x=false:=by
      intro x hx
      rw [hp] at hx
      unfold rPs at hx
      split at hx
      · simp at hx; exact .inl (by simpa using hx)
      · simp at hx
        rcases hx with rfl | rfl
        · exact .inr hq
        · exact .inl (by simp)
    have hlk:lookP (fmPairs r.pr.fm) (tHeader ++ 46 :: r.hkey) ≠ []:=by
      rw [hkeys,lookP_mem P.nd hin]
      exact (plain_tk hv).2
    rw [sid_only hb (List.mem_map.2 ⟨_,hin,rfl⟩) ho,sid_only hb (List.mem_map.2 ⟨_,lookP_kv hlk,rfl⟩) (fun x hx=>?_),hkeys]
    obtain ⟨p,hp2,rfl⟩:=List.mem_map.1 hx
    obtain ⟨a,b,_⟩:=fmPairs_mem hp2
    exact ho _ (List.mem_map.2 ⟨p,G.keys p a b,rfl⟩)

def fPts:L8 → List AR → List (L8 × ResT)
  | _,[]=>[]
  | t,r :: l=>(t,ft r) :: fPts (tl r) l
def lastTl:L8 → List AR → L8
  | t,[]=>t
  | _,r :: l=>lastTl (tl r) l
theorem flat_fPts:∀ (l:List AR) (t:L8),(∀ r ∈ l,aFit1 r=true ∧ aMute1 r=true) → t ++ (l.map AR.pr).flatMap fPart=flatP (fPts t l) ++ lastTl t l
  | [],t,_=>by simp [fPts,lastTl,flatP]
  | r :: l,t,h=>by
    have h1:=h r (by simp)
    have ih:=flat_fPts l (tl r) (fun q hq=>h q (by simp [hq]))
    have e:flatP (fPts t (r :: l))=t ++ 59 :: ((ft r).txt ++ flatP (fPts (tl r) l)):=by simp [fPts,flatP]
    rw [e]
    simp only [List.map_cons,List.flatMap_cons,fPart_ft h1.1 h1.2,lastTl]
    have:=congrArg (fun z=>t ++ 59 :: ((ft r).txt ++ z)) ih
    simpa using this
theorem lastTl_ws:∀ (l:List AR) (t:L8),allWs t → allWs (lastTl t l)
  | [],_,h=>h
  | r :: l,_,_=>lastTl_ws l (tl r) (tl_ws r)
theorem fPts_ok:∀ (l:List AR) (t:L8),allWs t → (∀ r ∈ l,aFit1 r=true ∧ aMute1 r=true) → (∀ p ∈ fPts t l,allWs p.1 ∧ p.2.Ok) ∧
    ∃ xs:List PR,(fPts t l).map (fun p=>prOf (lowS p.2.head.1) (lowS p.2.head.2) p.2.prm)=xs.map .inr ∧ xs.map PR.ar=l.map fun r=>r.only.norm
  | [],t,_,_=>⟨by simp [fPts],[],by simp [fPts],rfl⟩
  | r :: l,t,ht,h=>by
    have h1:=h r (by simp)
    obtain ⟨x,hx,hxa⟩:=ft_reads h1.1 h1.2
    obtain ⟨b1,xs,b2,b3⟩:=fPts_ok l (tl r) (tl_ws r) (fun q hq=>h q (by simp [hq]))
    refine ⟨fun p hp=>?_,x :: xs,by simp only [fPts,List.map_cons,b2,hx],by simp [hxa,b3]⟩
    rcases List.mem_cons.1 hp with rfl | hp
    · exact ⟨ht,(ft_ok h1.1 h1.2).1⟩
    · exact b1 p hp
theorem none_text (i:L8):fText i []=aTextOf i [] []:=by
  simp only [fText,aTextOf,if_true,aParts,flatP,List.flatMap_nil,List.nil_append]
  rfl
theorem fmt_read {i:L8} (hi:aPlain i=true) {l:List AR} (h:aFits l=true) (hm:l.all aMute1=true):(∃ xs:List PR,adText (fText i (l.map AR.pr))=some (i,xs) ∧ xs.map PR.ar=l.map fun r=>r.only.norm) ∧ plain (fText i (l.map AR.pr))=true:=by
  obtain ⟨g1,g2,g3⟩:=aPlain_g hi
  cases l with
  | nil =>
    simp only [List.map_nil,none_text]
    have:=read_text hi h []
    exact ⟨this,text_plain hi h []⟩
  | cons r l =>
    simp only [aFits,Bool.and_eq_true,List.all_eq_true] at h hm
    have hh:∀ q ∈ r :: l,aFit1 q=true ∧ aMute1 q=true:=fun q hq=>⟨h.1 q hq,hm q hq⟩
    have hw0:allWs []:=by intro x hx; simp at hx
    have e:=flat_fPts (r :: l) [] hh
    have hb:=lastTl_ws (r :: l) [] hw0
    obtain ⟨a,xs,b,c⟩:=fPts_ok (r :: l) [] hw0 hh
    have hT:fText i ((r :: l).map AR.pr)=i ++ (flatP (fPts [] (r :: l)) ++ lastTl [] (r :: l)):=by
      rw [← e]
      simp [fText]
    rw [hT]
    refine ⟨⟨xs,ad_textB hb (gW_no g1) (fun b hb=>adId_word g1 g2 hb) a b,c⟩,?_⟩
    exact plain_appB (gW_plain g1) (plain_appB (flatP_plain _ a) (allWs_plain hb))
end Wax


namespace Wax
open Go (IntKind)

def no33 (v:L8):Bool:=v.all fun c=>decide (c ≠ 33)
def aMuteI (r:AR):Bool := !(decide (r.kind=1) && decide (r.reason ≠ [])) && r.iprops.all fun p=>no33 p.2.2
theorem aMuteI_eq (r:AR):aMuteI r=aMute1 r:=by
  simp only [aMuteI,aMute1,AR.iprops]
  congr 1
  split
  · simp [List.all_map,Function.comp_def,no33]
  · simp [List.all_map,Function.comp_def,no33]
set_option maxHeartbeats 4000000 in
theorem mute_v {Γ:Gam} {Q:APost} {a b v:L8} {u x y z w t:AV} (hv:v.length < half) (hret:no33 v=false → Q .ret ⟨[(2,.bool false)],[]⟩)
    (hex:no33 v=true → Q (.exit 4) ⟨[(6,.ref 6 0),(7,.int .i64 v.length),(8,u),(9,x),(10,y),(24,z),(25,w),(26,t),(34,.bool false)],[(6,.cells [.str a,.str b,.str v])]⟩) :
    awp Γ (.loop [6,7,8,9,10,24,25,26] b_spec_AMute_1) Q ⟨[(6,.ref 6 0),(7,.int .i64 0),(8,u),(9,x),(10,y),(24,z),(25,w),(26,t)],[(6,.cells [.str a,.str b,.str v])]⟩:=by
  simp only [half] at hv
  refine awp_loop2 (σ:=L8 × L8) (fun q=>⟨[(6,.ref 6 0),(7,.int .i64 q.1.length),(8,u),(9,x),(10,y),(24,z),(25,w),(26,t)],[(6,.cells [.str a,.str b,.str v])]⟩)
    (fun q=>v=q.1 ++ q.2 ∧ no33 q.1=true) (fun q=>q.2.length) ([],v) (by simp) (by simp [no33]) ?_
  rintro ⟨pre,post⟩ ⟨e,hp⟩ LQ hLQ
  simp only at e hp
  cases post with
  | nil =>
    simp only [List.append_nil] at e
    subst e
    have hnl:¬ ((v.length:Int) < (v.length:Int)):=by omega
    simp -implicitDefEqProofs [b_spec_AMute_1]
    exact hex hp
  | cons c post =>
    have hlen:v.length=pre.length + (post.length + 1):=by rw [e]; simp
    have hlt:(pre.length:Int) < (v.length:Int):=by omega
    have hlt':pre.length < v.length:=by omega
    have g:v[pre.length]? = some c:=by rw [e]; exact get_mid rfl
    have g':v[pre.length]'hlt'=c:=by rw [List.getElem?_eq_getElem hlt'] at g; exact Option.some.inj g
    have ew:IntKind.i64.wrap ((pre.length:Int) + 1)=(pre.length:Int) + 1:=wrap64 (by omega) (by omega)
    by_cases hc:c=33
    · have hx:(c.toNat:Int)=33:=by rw [hc]; rfl
      have hn:no33 v=false:=by rw [e,hc]; simp [no33]
      simp -implicitDefEqProofs [b_spec_AMute_1,hlt,hlt',g,g',hx]
      exact hret hn
    · have hx:¬ (c.toNat:Int)=33:=ne_int (c:=33) hc
      have go:=fun st=>hLQ (pre ++ [c],post) ⟨by rw [e]; simp,by rw [show no33 (pre ++ [c])=(no33 pre && no33 [c]) by simp [no33],hp]; simp [no33,hc]⟩ (by simp) st
      simp -implicitDefEqProofs [b_spec_AMute_1,hlt,hlt',g,g',hx,ew]
      exact go _ (by simp)
set_option maxHeartbeats 4000000 in
theorem mute_ps {Γ:Gam} {Q:APost} {ps:List (L8 × L8 × L8)} {u:AV} {nx ny:Int} (hu:∀ d,kill d u=u) (hl:ps.length < half) (hv:∀ p ∈ ps,p.2.2.length < half) (hret:(ps.all fun p=>no33 p.2.2)=false → Q .ret ⟨[(2,.bool false)],[]⟩)
    (hex:(ps.all fun p=>no33 p.2.2)=true → Q (.exit 2) ⟨[(8,u),(9,.int .i64 nx),(10,.int .i64 ny),(24,tripV ps),(25,.int .i64 ps.length),(26,.int .i64 ps.length),(27,.bool false)],[]⟩) :
    awp Γ (.loop [8,9,10,24,25,26] b_spec_AMute_3) Q ⟨[(8,u),(9,.int .i64 nx),(10,.int .i64 ny),(24,tripV ps),(25,.int .i64 ps.length),(26,.int .i64 0)],[]⟩:=by
  simp only [half] at hl
  refine awp_loop2 (σ:=List (L8 × L8 × L8) × List (L8 × L8 × L8)) (fun q=>⟨[(8,u),(9,.int .i64 nx),(10,.int .i64 ny),(24,tripV ps),(25,.int .i64 ps.length),(26,.int .i64 q.1.length)],[]⟩)
    (fun q=>ps=q.1 ++ q.2 ∧ (q.1.all fun p=>no33 p.2.2)=true) (fun q=>q.2.length) ([],ps) (by simp) (by simp) ?_
  rintro ⟨pre,post⟩ ⟨e,hp⟩ LQ hLQ
  simp only at e hp
  cases post with
  | nil =>
    simp only [List.append_nil] at e
    subst e
    have hnl:¬ ((ps.length:Int) < (ps.length:Int)):=by omega
    simp -implicitDefEqProofs [b_spec_AMute_3]
    exact hex hp
  | cons p post =>
    have hlen:ps.length=pre.length + (post.length + 1):=by rw [e]; simp
    have hlt:(pre.length:Int) < (ps.length:Int):=by omega
    have hlt':pre.length < ps.length:=by omega
    have hT:tripV ps=.sl 3 (tr3 ps):=by rw [e]; cases pre <;> rfl
    have g:(tr3 ps)[pre.length]? = some (.agg [.str p.1,.str p.2.1,.str p.2.2]):=by rw [e]; simp [tr3]
    have g':(tr3 ps)[pre.length]'(by simp; omega)=.agg [.str p.1,.str p.2.1,.str p.2.2]:=by rw [List.getElem?_eq_getElem (by simp; omega)] at g; exact Option.some.inj g
    have ew:IntKind.i64.wrap ((pre.length:Int) + 1)=(pre.length:Int) + 1:=wrap64 (by omega) (by omega)
    have go:=fun h st=>hLQ (pre ++ [p],post) ⟨by rw [e]; simp,h⟩ (by simp) st
    rw [hT] at go ⊢
    simp -implicitDefEqProofs [b_spec_AMute_3,hlt,hlt',g,g',hu]
    refine mute_v (hv p (by rw [e]; simp)) (fun hn=>?_) (fun hn=>?_)
    · exact hret (by rw [e]; simp [hn])
    · simp -implicitDefEqProofs [t_spec_AMute_2,ew,hu]
      exact go (by simp only [List.all_append,hp]; simp [hn]) _ (by simp)
def AR.small (r:AR):Prop:=(0 ≤ r.kind ∧ r.kind ≤ 8 ∧ (r.kind=0 → (r.ps.getD []).length < half ∧ (∀ p ∈ r.ps.getD [],p.1.length < big))) ∧ r.iprops.length < half ∧ ∀ p ∈ r.iprops,p.2.2.length < half
open Classical in
noncomputable def con_AMute:List AV → Option AV
  | [u]=>match slAR u with
    | some l=>if l.length < half ∧ ∀ r ∈ l,r.small then some (.bool (l.all aMuteI)) else none
    | none=>none
  | _=>none
set_option maxHeartbeats 8000000 in
set_option maxRecDepth 100000 in
theorem ok_AMute (Γ:Gam) (h206:Γ.fn 206=con_AInfoOf):∀ args r,con_AMute args=some r → runs Γ c_spec_AMute args (fun v=>v=r):=by
  intro args r h
  simp only [con_AMute] at h
  split at h <;> (try simp at h; done)
  rename_i u
  split at h <;> (try simp at h; done)
  rename_i l hl
  split at h <;> (try simp at h; done)
  rename_i hc
  obtain ⟨h1,h2⟩:=hc
  simp only [Option.some.injEq] at h
  subst h
  have uk:=sar_kill hl
  have us:=sar_snapW hl
  have ua:=sar_alen hl
  simp only [half] at h1
  simp -implicitDefEqProofs [-alen,c_spec_AMute,ua]
  refine awp_loop2 (σ:=List AR × List AR) (fun q=>⟨[(8,u),(9,.int .i64 l.length),(10,.int .i64 q.1.length)],[]⟩)
    (fun q=>l=q.1 ++ q.2 ∧ q.1.all aMuteI=true) (fun q=>q.2.length) ([],l) (by simp) (by simp) ?_
  rintro ⟨pre,post⟩ ⟨e1,hp⟩ LQ hLQ
  simp only at e1 hp
  cases post with
  | nil =>
    simp only [List.append_nil] at e1
    subst e1
    have hnl:¬ ((l.length:Int) < (l.length:Int)):=by omega
    simp -implicitDefEqProofs [b_spec_AMute_5,t_spec_AMute_6,hp]
  | cons x post =>
    have hu:=sar_ne hl (by rw [e1]; simp)
    have hlen:l.length=pre.length + (post.length + 1):=by rw [e1]; simp
    have hlt:(pre.length:Int) < (l.length:Int):=by omega
    have hlt':pre.length < l.length:=by omega
    have g:(arA l)[pre.length]? = some (.agg x.cells):=by rw [e1,arA_app]; exact get_mid (by simp)
    rw [List.getElem?_eq_getElem (by simp; omega)] at g
    have g0:=Option.some.inj g
    have ew:IntKind.i64.wrap ((pre.length:Int) + 1)=(pre.length:Int) + 1:=wrap64 (by omega) (by omega)
    have hx:=h2 x (by rw [e1]; simp)
    have kx:con_AInfoOf [.agg x.cells]=some (infoV x):=by simp only [con_AInfoOf,asAR_cells]; exact if_pos hx.1
    have cu:=slP_cells x.ps
    simp only [cells] at cu
    have go:=fun h st=>hLQ (pre ++ [x],post) ⟨by rw [e1]; simp,h⟩ (by simp) st
    have hsl:∀ d,kill d (AV.sl 16 (arA l))=AV.sl 16 (arA l):=fun d=>by rw [← hu]; exact uk d
    have ri:hasRef (infoV x)=false:=by simp [infoV,hasRef,hasRefL]
    have al:∀ hp,alen hp 1 (tripV x.iprops)=some x.iprops.length:=fun hp=>by cases x.iprops <;> simp [tripV,alen]
    rw [hu] at go ⊢
    simp only [AR.cells] at g0 kx
    by_cases hb:x.kind=1 ∧ x.reason ≠ []
    · have hn:aMuteI x=false:=by simp [aMuteI,hb.1,hb.2]
      have hn2:l.all aMuteI=false:=by rw [e1]; simp [hn]
      simp -implicitDefEqProofs [-alen,b_spec_AMute_5,hlt,hlt',g0,cu,hb.1,hb.2,hn2]
    · have hm:aMuteI x=x.iprops.all fun p=>no33 p.2.2:=by
        have:(decide (x.kind=1) && decide (x.reason ≠ []))=false:=by simpa using hb
        simp only [aMuteI,this,Bool.not_false,Bool.true_and]
      have fin:awp Γ (.loop [8,9,10,24,25,26] b_spec_AMute_3) (blockQ 2 (blockQ 1 (thenQ (awp Γ t_spec_AMute_4 (thenQ LQ (blockQ 0 (thenQ (awp Γ t_spec_AMute_6 (finQ [.t 2] fun v=>v=.bool (l.all aMuteI))) (finQ [.t 2] fun v=>v=.bool (l.all aMuteI)))))) (thenQ LQ (blockQ 0 (thenQ (awp Γ t_spec_AMute_6 (finQ [.t 2] fun v=>v=.bool (l.all aMuteI))) (finQ [.t 2] fun v=>v=.bool (l.all aMuteI)))))))) ⟨[(8,.sl 16 (arA l)),(9,.int .i64 l.length),(10,.int .i64 pre.length),(24,tripV x.iprops),(25,.int .i64 x.iprops.length),(26,.int .i64 0)],[]⟩:=by
        refine mute_ps hsl hx.2.1 hx.2.2 (fun hn=>?_) (fun hn=>?_)
        · have hn2:l.all aMuteI=false:=by rw [e1]; simp [hm,hn]
          simp -implicitDefEqProofs [hn2]
        · simp -implicitDefEqProofs [t_spec_AMute_4,ew,hsl]
          exact go (by simp only [List.all_append,hp,List.all_cons,List.all_nil,hm,hn]; rfl) _ (by simp)
      by_cases hk:x.kind=1
      · have hr:x.reason=[]:=by simpa [hk] using hb
        rw [hk,hr] at kx
        simp -implicitDefEqProofs [-alen,b_spec_AMute_5,hlt,hlt',g0,cu,hk,hr,hsl,acall,h206,kx,ri,infoV,al]
        exact fin
      · simp -implicitDefEqProofs [-alen,b_spec_AMute_5,hlt,hlt',g0,cu,hk,acall,h206,kx,ri,hsl,infoV,al]
        exact fin
end Wax


namespace Wax
open Go (IntKind)

theorem sum_sub {α:Type} [DecidableEq α] {f:α → Nat}:∀ (a b:List α),a.Nodup → (∀ x ∈ a,x ∈ b) → (a.map f).sum ≤ (b.map f).sum
  | [],_,_,_=>by simp
  | x :: a,b,hn,h=>by
    obtain ⟨b1,b2,rfl⟩:=List.append_of_mem (h x (by simp))
    rw [List.nodup_cons] at hn
    have:=sum_sub (f:=f) a (b1 ++ b2) hn.2 fun y hy=>by
      have hy2:=h y (by simp [hy])
      simp only [List.mem_append,List.mem_cons] at hy2 ⊢
      rcases hy2 with h1 | rfl | h1
      · exact .inl h1
      · exact absurd hy hn.1
      · exact .inr h1
    simp only [List.map_cons,List.sum_cons,List.map_append,List.sum_append] at this ⊢
    omega
theorem mem_sum {α:Type} {f:α → Nat}:∀ {l:List α} {x:α},x ∈ l → f x ≤ (l.map f).sum
  | y :: l,x,h=>by
    simp only [List.map_cons,List.sum_cons]
    rcases List.mem_cons.1 h with rfl | h
    · omega
    · have:=mem_sum (f:=f) h; omega
theorem nd_of_keys {l:List KVp} (h:(l.map (·.1)).Nodup):l.Nodup:=by
  have:l.Pairwise fun a b=>a.1 ≠ b.1:=List.pairwise_map.1 h
  exact this.imp fun h e=>h (by rw [e])
theorem fPart_len {r:AR} (hf:aFit1 r=true) (hm:aMute1 r=true):(fPart r.pr).length ≤ 100 + 4 * r.bulk:=by
  have G:=pr_good hf hm
  have h1:((fmPairs r.pr.fm).map fun p:KVp=>kvSz p + 4).sum ≤ prmSz r.prm:=sum_sub (f:=fun p:KVp=>kvSz p + 4) (fmPairs r.pr.fm) r.prm (nd_of_keys (fmPairs_nd G.nd)) fun p hp=>by
    obtain ⟨a,b,_⟩:=fmPairs_mem hp
    exact G.keys p a b
  have h2:=prm_len r
  have h3:(flatW ((ft r).ps.map fun p=>(p.1,kvW p.2))).length ≤ ((fmPairs r.pr.fm).map fun p:KVp=>kvSz p + 4).sum:=by
    simp only [ft,List.map_map]
    generalize fmPairs r.pr.fm=l
    induction l with
    | nil=>simp [flatW]
    | cons p l ih =>
      simp only [flatW,List.map_cons,List.flatMap_cons,List.length_append,List.sum_cons,Function.comp] at ih ⊢
      simp only [kvW,kvSz,List.length_append,List.length_cons,List.length_nil] at ih ⊢
      omega
  have h4:(tl r).length ≤ 1:=by unfold tl; split <;> simp
  rw [fPart_ft hf hm]
  simp only [List.length_cons,List.length_append,ResT.txt]
  have h5:(ft r).pre.length=1:=rfl
  have h6:(kvW (ft r).head).length=r.meth.length + (r.value.length + 1):=by simp [ft,kvW]
  omega
theorem fText_len (i:L8) (l:List AR) (h:∀ r ∈ l,aFit1 r=true ∧ aMute1 r=true):(fText i (l.map AR.pr)).length ≤ i.length + (l.map fun r=>100 + 4 * r.bulk).sum + 6:=by
  have:((l.map AR.pr).flatMap fPart).length ≤ (l.map fun r=>100 + 4 * r.bulk).sum:=by
    induction l with
    | nil=>simp
    | cons r l ih =>
      have h1:=fPart_len (h r (by simp)).1 (h r (by simp)).2
      have h2:=ih fun q hq=>h q (by simp [hq])
      simp only [List.map_cons,List.flatMap_cons,List.length_append,List.sum_cons]
      omega
  simp only [fText]
  split
  · simp only [List.length_append,List.length_cons,List.length_nil]; omega
  · simp only [List.length_append]; omega
set_option maxRecDepth 100000 in
theorem tk_ascii {s:L8} (h:∀ x ∈ s,tkC [64] x=true):ascii s=true:=by
  refine List.all_eq_true.2 fun x hx=>?_
  have all:∀ n:Fin 256,tkC [64] (UInt8.ofNat n.1)=true → decide ((UInt8.ofNat n.1).toNat < 128)=true:=by decide
  have:=all ⟨x.toNat,x.toNat_lt⟩
  simp only [UInt8.ofNat_toNat] at this
  exact this (h x hx)
theorem tok_tk {s:L8} (h:mTok s=true):∀ x ∈ s,tkC [64] x=true:=fun x hx=>by
  simp only [mTok,Bool.and_eq_true] at h
  simp [tkC,List.all_eq_true.1 h.1 x hx]
theorem kw_tk {s:L8} (h:mKw s=true):∀ x ∈ s,tkC [64] x=true:=fun x hx=>by
  simp only [mKw,Bool.and_eq_true] at h
  simp [tkC,kw_tok x (List.all_eq_true.1 h.1.1.1 x hx)]
theorem ip_vals {r:AR} (hf:aFit1 r=true):∀ p ∈ r.iprops,aPlain p.2.2=true:=by
  intro p hp
  simp only [aFit1,Bool.and_eq_true,decide_eq_true_eq,Bool.or_eq_true] at hf
  have f5:=hf.2
  unfold AR.iprops at hp
  split at hp
  · rename_i h0
    rw [if_pos h0] at f5
    simp only [Bool.and_eq_true,decide_eq_true_eq] at f5
    obtain ⟨q,hq,rfl⟩:=List.mem_map.1 hp
    exact (gFit_plain _ _ f5.2 q hq).1
  · rename_i h0
    rw [if_neg h0] at f5
    have h5:=List.all_eq_true.1 f5 p hp
    simp only [Bool.and_eq_true,decide_eq_true_eq] at h5
    exact h5.1.1
theorem fit_small {r:AR} (hf:aFit1 r=true) (h2:(r.ps.getD []).length < half) (hb:r.bulk ≤ 2097152):r.small:=by
  have hk:=kind_cases hf
  refine ⟨⟨by omega,by omega,fun h0=>⟨h2,fun p hp=>?_⟩⟩,?_,fun p hp=>?_⟩
  · have h1:((r.ps.getD []).map fun p=>kvSz p + 1).sum ≤ r.bulk:=by simp only [AR.bulk]; omega
    have h3:kvSz p + 1 ≤ ((r.ps.getD []).map fun p=>kvSz p + 1).sum:=mem_sum (f:=fun p:KVp=>kvSz p + 1) hp
    have h4:p.1.length ≤ kvSz p:=by simp only [kvSz]; omega
    simp only [big]; omega
  · unfold AR.iprops
    split
    · simpa using h2
    · unfold AR.props
      repeat' split
      all_goals simp [half]
  · have:=(aPlain_g (ip_vals hf p hp)).2.2
    simp only [half]; omega
theorem fit_fmOk {r:AR} (hf:aFit1 r=true) (hm:aMute1 r=true) (h2:(r.ps.getD []).length < half) (hb:r.bulk ≤ 2097152):r.pr.fmOk:=by
  have G:=pr_good hf hm
  refine ⟨?_,?_,fun p hp=>?_,?_⟩
  · rcases kind_cases hf with h | h | h | h | h | h | h | h <;> simp [AR.pr,h,PR.isArc]
  · rcases kind_cases hf with h | h | h | h | h | h | h | h
    · have hp:r.prm=r.ps.getD []:=by
        simp only [aFit1,Bool.and_eq_true,decide_eq_true_eq,h,if_true] at hf
        simp only [AR.prm,h,hf.2.1.1.1.2,rPs,if_true,List.nil_append]
      rw [G.gen h,hp]; exact h2
    all_goals simp [AR.pr,h,PR.fm,half]
  · by_cases hv:p.2=[]
    · rw [hv]; exact ⟨rfl,by simp [qrt]⟩
    · have hq:=G.keys p hp hv
      obtain ⟨a,b⟩:=prm_vals hf hm p hq
      refine ⟨?_,?_⟩
      · by_cases hr:p.1=qReason
        · exact tk_ascii (tok_tk (a hr))
        · exact tk_ascii (plain_tk (b hr).1).1
      · have h1:=prm_len r
        have h3:kvSz p + 4 ≤ prmSz r.prm:=mem_sum (f:=fun p:KVp=>kvSz p + 4) hq
        have h4:p.2.length ≤ kvSz p:=by simp only [kvSz]; omega
        simp only [qrt]; omega
  · intro v rr k y e
    have h5:r.kind=5:=by
      rcases kind_cases hf with h | h | h | h | h | h | h | h <;> first | exact h | simp [AR.pr,h] at e
    have hk:k=r.hkey:=by simp only [AR.pr,h5] at e; simp at e; exact e.2.2.1.symm
    simp only [aFit1,Bool.and_eq_true,decide_eq_true_eq] at hf
    have f5:=hf.2
    rw [if_neg (by omega)] at f5
    have:=List.all_eq_true.1 f5 (tHeader,r.hkey,r.hval) (by simp [AR.props,h5])
    simp only [Bool.and_eq_true,decide_eq_true_eq] at this
    rw [hk]
    refine ⟨?_,tk_ascii (kw_tk this.1.2)⟩
    simp only [AR.bulk] at hb
    simp only [mid]; omega

theorem law_fmt {i:L8} (hi:aPlain i=true) {l:List AR} (L:LawAR l) (hf:aFits (l.map AR.only)=true) (hm:(l.map AR.only).all aMute1=true) (hq:i.length + (l.map fun r=>r.bulk + 1).sum ≤ 2097152) :
    ∃ (T:L8) (R:List AR),con_AFormat [.str i,arV (l.map AR.only)]=some (.str T) ∧ T=fText i ((l.map AR.only).map AR.pr) ∧ T.length < qtr ∧ con_AParse [.str T]=some (.tup [.str i,arV R,.bool true]) ∧ R=(l.map AR.only).map AR.norm:=by
  obtain ⟨⟨xs,e1,e2⟩,hpl⟩:=fmt_read hi hf hm
  have hsz:=(law_sz L hf).1
  have hff:=hf
  simp only [aFits,Bool.and_eq_true,List.all_eq_true] at hff hm
  have hb:∀ r ∈ l.map AR.only,r.bulk ≤ 2097152:=by
    intro r hr
    obtain ⟨q,hq2,rfl⟩:=List.mem_map.1 hr
    have h1:=only_bulk q
    have h2:=mem_sum (f:=fun r:AR=>r.bulk + 1) hq2
    omega
  have hlen:=fText_len i (l.map AR.only) fun r hr=>⟨hff.1 r hr,hm r hr⟩
  have hso:=sum_only l
  have hT:(fText i ((l.map AR.only).map AR.pr)).length < qtr:=by simp only [qtr]; omega
  refine ⟨_,xs.map PR.ar,?_,rfl,hT,?_,?_⟩
  · simp only [con_AFormat,slAR_arV]
    exact if_pos ⟨hsz.1,hsz.2,fun r hr=>fit_fmOk (hff.1 r hr) (hm r hr) (hsz.2 r hr) (hb r hr),by simp only [qtr] at hT; simp only [mid]; omega⟩
  · have:con_AParse [.str (fText i ((l.map AR.only).map AR.pr))]=some (adV (adText (fText i ((l.map AR.only).map AR.pr)))):=if_pos ⟨hT,hpl⟩
    rw [this,e1]; rfl
  · rw [e2]
    simp only [List.map_map]
    refine List.map_congr_left fun r _=>?_
    simp only [Function.comp,only_only]
theorem law_mute {l:List AR} (L:LawAR l) (hf:aFits (l.map AR.only)=true) (hq:(l.map fun r=>r.bulk + 1).sum ≤ 2097152):con_AMute [arV (l.map AR.only)]=some (.bool ((l.map AR.only).all aMute1)):=by
  have hsz:=(law_sz L hf).1
  have hff:=hf
  simp only [aFits,Bool.and_eq_true,List.all_eq_true] at hff
  have e:(l.map AR.only).all aMute1=(l.map AR.only).all aMuteI:=by
    congr 1; funext r; exact (aMuteI_eq r).symm
  rw [e]
  simp only [con_AMute,slAR_arV]
  refine if_pos ⟨hsz.1,fun r hr=>fit_small (hff.1 r hr) (hsz.2 r hr) ?_⟩
  obtain ⟨q,hq2,rfl⟩:=List.mem_map.1 hr
  have h1:=only_bulk q
  have h2:=mem_sum (f:=fun r:AR=>r.bulk + 1) hq2
  omega
def con_FnAuthBack:List AV → Option AV
  | [.str i,u]=>match slAR u with
    | some l=>if i.length < 9223372036854775808 ∧ (l.length < 9223372036854775808 ∧ ∀ r ∈ l,(r.ps.getD []).length < 9223372036854775808) ∧ i.length + (l.map fun r=>r.bulk + 1).sum ≤ 2097152 then some (.bool true) else none
    | _=>none
  | _=>none
set_option maxRecDepth 100000 in
set_option maxHeartbeats 4000000 in
theorem ok_FnAuthBack (Γ:Gam) (h213:Γ.fn 213=con_zzFits1) (h214:Γ.fn 214=con_only) (h204:Γ.fn 204=con_APlain) (h215:Γ.fn 215=con_AFits) (h248:Γ.fn 248=con_AMute) (h233:Γ.fn 233=con_AFormat) (h144:Γ.fn 144=con_AParse) (h217:Γ.fn 217=con_ASames) (h137:Γ.fn 137=con_awake) :
    ∀ args r,con_FnAuthBack args=some r → runs Γ c_laws_FnAuthBack args (fun v=>v=r):=by
  intro args r h
  simp only [con_FnAuthBack] at h
  split at h <;> (try simp at h; done)
  rename_i i u
  split at h <;> (try simp at h; done)
  rename_i l hl
  obtain ⟨⟨h1,⟨h2,h3⟩,hq⟩,rfl⟩:=ite_some h
  clear h
  have k6:con_awake []=some (.bool true):=rfl
  have alS:∀ (hp:List (Nat × AObj)) (s:L8),alen hp 0 (.str s)=some s.length:=fun _ _=>rfl
  have uk:=sar_kill hl
  have us:=sar_snapW hl
  have ur:=sar_ref hl
  have k1:=k_fit1 hl h2 h3
  by_cases b1:(2147483647:Int) < (i.length:Int)
  · simp -implicitDefEqProofs [-alen,c_laws_FnAuthBack,alS,b1,uk,us,ur]
  cases b2:fit1 l with
  | false =>
    rw [b2] at k1
    simp -implicitDefEqProofs [-alen,c_laws_FnAuthBack,alS,b1,uk,us,ur,acall,h213,k1]
  | true =>
    rw [b2] at k1
    have L:=lawAR b2
    have ko:=k_only hl L
    have kf:=k_fits L
    have kp:=plain_con (s:=i) (by simp only [mid]; omega)
    have vr:=sar_ref (slAR_arV (l.map AR.only))
    have vk:=sar_kill (slAR_arV (l.map AR.only))
    have vs:=sar_snapW (slAR_arV (l.map AR.only))
    cases b4:aPlain i with
    | false =>
      rw [b4] at kp
      simp -implicitDefEqProofs [-alen,c_laws_FnAuthBack,alS,b1,uk,us,ur,acall,h213,k1,h214,ko,vr,vk,vs,h204,kp]
    | true =>
      rw [b4] at kp
      cases b5:aFits (l.map AR.only) with
      | false =>
        rw [b5] at kf
        simp -implicitDefEqProofs [-alen,c_laws_FnAuthBack,alS,b1,uk,us,ur,acall,h213,k1,h214,ko,vr,vk,vs,h204,kp,h215,kf]
      | true =>
        rw [b5] at kf
        have km:=law_mute L b5 (by omega)
        cases b6:(l.map AR.only).all aMute1 with
        | false =>
          rw [b6] at km
          simp -implicitDefEqProofs [-alen,c_laws_FnAuthBack,alS,b1,uk,us,ur,acall,h213,k1,h214,ko,vr,vk,vs,h204,kp,h215,kf,h248,km]
        | true =>
          rw [b6] at km
          obtain ⟨T,R,kt,_,_,ka,eR⟩:=law_fmt b4 L b5 b6 hq
          obtain ⟨⟨z1,z2⟩,z3,z4⟩:=law_sz L b5
          rw [← eR] at z3 z4
          have ks:con_ASames [arV R,arV (l.map AR.only)]=some (.bool true):=by
            have e:arSames R (l.map AR.only)=true:=by rw [eR]; exact sames_norm norm_norm _
            simp only [con_ASames,slAR_arV,e]
            exact if_pos ⟨z3,z1,z4,z2⟩
          have wr:=sar_ref (slAR_arV R)
          have wk:=sar_kill (slAR_arV R)
          have ws:=sar_snapW (slAR_arV R)
          generalize arV R=RV at *
          generalize arV (l.map AR.only)=LV at *
          simp -implicitDefEqProofs [-alen,c_laws_FnAuthBack,alS,b1,uk,us,ur,acall,h213,k1,h214,ko,vr,vk,vs,h204,kp,h215,kf,h248,km,h233,kt,h144,ka,wr,wk,ws,h217,ks,h137,k6]
end Wax


