/- The machine by which the functions are read, and what is proved of them (part 9): no premise. -/
import Derived.Test.YtpmdjfblfpjpoaaGreatDoorWh
set_option linter.all false
namespace Wax
open Go (IntKind)

theorem lookP_kv:∀ {l:List KVp} {k:L8},lookP l k ≠ []→(k,lookP l k)∈l
  | [],k,h=>by simp [lookP] at h
  | (i,v)::r,k,h=>by
    simp only [lookP] at h ⊢
    split
    · rename_i e; subst e; simp
    · rename_i e
      rw [if_neg e] at h
      exact List.mem_cons_of_mem _ (lookP_kv h)
theorem joinW_flat (ws:List L8):32::joinW ws=if ws=[] then [32] else ws.flatMap (32 :: ·):=by
  cases ws with
  | nil=>rfl
  | cons w r=>simp [joinW]

def aMute1 (r:AR):Bool := !(decide (r.kind=1) && decide (r.reason ≠ [])) && (if r.kind=0 then (r.ps.getD []).map (·.2) else r.props.map (·.2.2)).all fun v=>v.all fun c=>decide (c ≠ 33)
structure PrGood (r:AR):Prop where
  meth:r.pr.meth=r.meth
  val:r.pr.val=r.value
  look:∀ k,lookP r.pr.fm k=lookP r.prm k
  nd:(r.pr.fm.map (·.1)).Nodup
  keys:∀ p∈r.pr.fm,p.2 ≠ []→p∈r.prm
  gen:r.kind=0→r.pr.fm=r.prm
theorem look_rPs (s:L8) (l:List KVp) (k:L8):lookP (rPs s++l) k=if k=qReason∧s ≠ [] then s else lookP l k:=by
  unfold rPs
  split
  · rename_i h; simp [h]
  · rename_i h
    simp only [List.cons_append,List.nil_append,lookP]
    by_cases hk:k=qReason
    · simp [hk,h]
    · simp [hk]
theorem mapOf_asc {l:List KVp} (h:(l.map (·.1)).Nodup):mapOf l=l:=by
  have gen:∀ (r acc:List KVp),((acc++r).map (·.1)).Nodup→r.foldl (fun m p=>psetL m p.1 p.2) acc=acc++r:=by
    intro r
    induction r with
    | nil=>intro acc _; simp
    | cons p r ih =>
      intro acc h
      have hn:hasK p.1 acc=false:=by
        refine hasK_none fun hm=>?_
        simp only [List.map_append,List.map_cons,List.nodup_append] at h
        exact h.2.2 _ hm _ (by simp) rfl
      simp only [List.foldl_cons,psetL_new hn]
      rw [ih (acc++[(p.1,p.2)]) (by simpa using h)]
      simp
  have:=gen l [] (by simpa using h)
  simpa [mapOf] using this
theorem good_Auth {r:AR} (h:r.kind=1) (hre:r.reason=[]):PrGood r:=by
  have hm:r.meth=sAuth:=by simp only [AR.meth,h]; rfl
  have hp:r.prm=rPs r.reason++[(qAuth,r.auth)]:=by simp only [AR.prm,AR.props,h]; rfl
  rw [hre] at hp
  have hpr:r.pr=.auth r.value r.reason r.auth:=by simp [AR.pr,h]
  have hfm:r.pr.fm=[(qAuth,r.auth)]:=by rw [hpr]; rfl
  refine ⟨by rw [hpr,hm]; rfl,by rw [hpr]; rfl,?_,by rw [hfm]; exact (show ([qAuth]:List L8).Nodup by decide),?_,fun h0=>by omega⟩
  · intro k
    rw [hp,hfm]; rfl
  · intro p hq hne
    rw [hfm] at hq
    rw [hp]
    simp only [List.mem_cons,List.not_mem_nil,or_false] at hq
    rcases hq with rfl <;> simp_all [rPs]
theorem good_Dkim {r:AR} (h:r.kind=2):PrGood r:=by
  have hm:r.meth=sDkim:=by simp only [AR.meth,h]; rfl
  have hp:r.prm=rPs r.reason++[(qD,r.domain),(qI,r.ident)]:=by simp only [AR.prm,AR.props,h]; rfl
  skip
  have hpr:r.pr=.dkim r.value r.reason r.domain r.ident:=by simp [AR.pr,h]
  have hfm:r.pr.fm=[(qD,r.domain),(qI,r.ident),(qReason,r.reason)]:=by rw [hpr]; rfl
  refine ⟨by rw [hpr,hm]; rfl,by rw [hpr]; rfl,?_,by rw [hfm]; exact (show ([qD,qI,qReason]:List L8).Nodup by decide),?_,fun h0=>by omega⟩
  · intro k
    rw [hp,hfm,look_rPs]
    by_cases hk:k=qReason
    · subst hk
      by_cases hr:r.reason=[]
      · simp [lookP,hr,qReason,qD,qI]
      · simp [lookP,hr,qReason,qD,qI]
    · simp [lookP,hk]
  · intro p hq hne
    rw [hfm] at hq
    rw [hp]
    simp only [List.mem_cons,List.not_mem_nil,or_false] at hq
    rcases hq with rfl | rfl | rfl <;> simp_all [rPs]
theorem good_Domk {r:AR} (h:r.kind=3):PrGood r:=by
  have hm:r.meth=sDomk:=by simp only [AR.meth,h]; rfl
  have hp:r.prm=rPs r.reason++[(qD,r.domain),(qFrom,r.fr),(qSend,r.sender)]:=by simp only [AR.prm,AR.props,h]; rfl
  skip
  have hpr:r.pr=.domk r.value r.reason r.domain r.fr r.sender:=by simp [AR.pr,h]
  have hfm:r.pr.fm=[(qD,r.domain),(qFrom,r.fr),(qSend,r.sender),(qReason,r.reason)]:=by rw [hpr]; rfl
  refine ⟨by rw [hpr,hm]; rfl,by rw [hpr]; rfl,?_,by rw [hfm]; exact (show ([qD,qFrom,qSend,qReason]:List L8).Nodup by decide),?_,fun h0=>by omega⟩
  · intro k
    rw [hp,hfm,look_rPs]
    by_cases hk:k=qReason
    · subst hk
      by_cases hr:r.reason=[]
      · simp [lookP,hr,qReason,qD,qFrom,qSend]
      · simp [lookP,hr,qReason,qD,qFrom,qSend]
    · simp [lookP,hk]
  · intro p hq hne
    rw [hfm] at hq
    rw [hp]
    simp only [List.mem_cons,List.not_mem_nil,or_false] at hq
    rcases hq with rfl | rfl | rfl | rfl <;> simp_all [rPs]
theorem good_Iprev {r:AR} (h:r.kind=4):PrGood r:=by
  have hm:r.meth=sIprev:=by simp only [AR.meth,h]; rfl
  have hp:r.prm=rPs r.reason++[(qIprev,r.ip)]:=by simp only [AR.prm,AR.props,h]; rfl
  skip
  have hpr:r.pr=.iprev r.value r.reason r.ip:=by simp [AR.pr,h]
  have hfm:r.pr.fm=[(qIprev,r.ip),(qReason,r.reason)]:=by rw [hpr]; rfl
  refine ⟨by rw [hpr,hm]; rfl,by rw [hpr]; rfl,?_,by rw [hfm]; exact (show ([qIprev,qReason]:List L8).Nodup by decide),?_,fun h0=>by omega⟩
  · intro k
    rw [hp,hfm,look_rPs]
    by_cases hk:k=qReason
    · subst hk
      by_cases hr:r.reason=[]
      · simp [lookP,hr,qReason,qIprev]
      · simp [lookP,hr,qReason,qIprev]
    · simp [lookP,hk]
  · intro p hq hne
    rw [hfm] at hq
    rw [hp]
    simp only [List.mem_cons,List.not_mem_nil,or_false] at hq
    rcases hq with rfl | rfl <;> simp_all [rPs]
theorem good_Spf {r:AR} (h:r.kind=6):PrGood r:=by
  have hm:r.meth=sSpf:=by simp only [AR.meth,h]; rfl
  have hp:r.prm=rPs r.reason++[(qMail,r.fr),(qHelo,r.helo)]:=by simp only [AR.prm,AR.props,h]; rfl
  skip
  have hpr:r.pr=.spf r.value r.reason r.fr r.helo:=by simp [AR.pr,h]
  have hfm:r.pr.fm=[(qReason,r.reason),(qHelo,r.helo),(qMail,r.fr)]:=by rw [hpr]; rfl
  refine ⟨by rw [hpr,hm]; rfl,by rw [hpr]; rfl,?_,by rw [hfm]; exact (show ([qReason,qHelo,qMail]:List L8).Nodup by decide),?_,fun h0=>by omega⟩
  · intro k
    rw [hp,hfm,look_rPs]
    by_cases hk:k=qReason
    · subst hk
      by_cases hr:r.reason=[]
      · simp [lookP,hr,qReason,qMail,qHelo]
      · simp [lookP,hr,qReason,qMail,qHelo]
    · by_cases h1:k=qHelo
      · subst h1
        simp [lookP,qReason,qHelo,qMail]
      · simp [lookP,hk,h1]
  · intro p hq hne
    rw [hfm] at hq
    rw [hp]
    simp only [List.mem_cons,List.not_mem_nil,or_false] at hq
    rcases hq with rfl | rfl | rfl <;> simp_all [rPs]
theorem good_Dmarc {r:AR} (h:r.kind=7):PrGood r:=by
  have hm:r.meth=sDmarc:=by simp only [AR.meth,h]; rfl
  have hp:r.prm=rPs r.reason++[(qFrom,r.fr)]:=by simp only [AR.prm,AR.props,h]; rfl
  skip
  have hpr:r.pr=.dmarc r.value r.reason r.fr:=by simp [AR.pr,h]
  have hfm:r.pr.fm=[(qFrom,r.fr),(qReason,r.reason)]:=by rw [hpr]; rfl
  refine ⟨by rw [hpr,hm]; rfl,by rw [hpr]; rfl,?_,by rw [hfm]; exact (show ([qFrom,qReason]:List L8).Nodup by decide),?_,fun h0=>by omega⟩
  · intro k
    rw [hp,hfm,look_rPs]
    by_cases hk:k=qReason
    · subst hk
      by_cases hr:r.reason=[]
      · simp [lookP,hr,qReason,qFrom]
      · simp [lookP,hr,qReason,qFrom]
    · simp [lookP,hk]
  · intro p hq hne
    rw [hfm] at hq
    rw [hp]
    simp only [List.mem_cons,List.not_mem_nil,or_false] at hq
    rcases hq with rfl | rfl <;> simp_all [rPs]
theorem good_Sender {r:AR} (h:r.kind=5) (hl:lowS r.hkey=r.hkey):PrGood r:=by
  have hm:r.meth=sSender:=by simp only [AR.meth,h]; rfl
  have hp:r.prm=rPs r.reason++[(tHeader++46::r.hkey,r.hval)]:=by simp only [AR.prm,AR.props,h]; rfl
  have hpr:r.pr=.sender r.value r.reason r.hkey r.hval:=by simp [AR.pr,h]
  have hne:tHeader++46::r.hkey ≠ qReason:=key_ne_reason
  have hfm:r.pr.fm=[(tHeader++46::r.hkey,r.hval),(qReason,r.reason)]:=by
    rw [hpr]
    simp only [PR.fm,hl]
    rfl
  refine ⟨by rw [hpr,hm]; rfl,by rw [hpr]; rfl,?_,by rw [hfm]; simp [hne],?_,fun h0=>by omega⟩
  · intro k
    rw [hp,hfm,look_rPs]
    by_cases hk:k=qReason
    · subst hk
      by_cases hr:r.reason=[]
      · simp [lookP,hr,hne.symm]
      · simp [lookP,hr,hne.symm]
    · simp [lookP,hk]
  · intro p hq hne
    rw [hfm] at hq
    rw [hp]
    simp only [List.mem_cons,List.not_mem_nil,or_false] at hq
    rcases hq with rfl | rfl <;> simp_all [rPs]
set_option maxHeartbeats 1000000 in
theorem pr_good {r:AR} (hf:aFit1 r=true) (hm:aMute1 r=true):PrGood r:=by
  have hP:=fit_parts hf
  rcases kind_cases hf with h | h | h | h | h | h | h | h
  · have hm:r.meth=r.method:=by simp only [AR.meth,h,if_true]
    have hre:r.reason=[]:=by
      simp only [aFit1,Bool.and_eq_true,decide_eq_true_eq,h,if_true] at hf
      exact hf.2.1.1.1.2
    have hp:r.prm=r.ps.getD []:=by simp only [AR.prm,h,hre,rPs,if_true,List.nil_append]
    have hpr:r.pr=.gen r.method r.value (mapOf (r.ps.getD [])):=by simp [AR.pr,h]
    have hnd:=hP.1.nd
    rw [hp] at hnd
    have hfm:r.pr.fm=r.prm:=by rw [hpr,hp]; exact mapOf_asc hnd
    exact ⟨by rw [hpr,hm]; rfl,by rw [hpr]; rfl,fun k=>by rw [hfm],by rw [hfm,hp]; exact hnd,fun p hp _=>by rw [← hfm]; exact hp,fun _=>hfm⟩
  · refine good_Auth h ?_
    simp only [aMute1,h,decide_true,Bool.true_and,Bool.and_eq_true,Bool.not_eq_true',decide_eq_false_iff_not,ne_eq,Decidable.not_not] at hm
    exact hm.1
  · exact good_Dkim h
  · exact good_Domk h
  · exact good_Iprev h
  · refine good_Sender h ?_
    simp only [aFit1,Bool.and_eq_true,decide_eq_true_eq] at hf
    have h5:=hf.2
    rw [if_neg (by omega)] at h5
    have:=List.all_eq_true.1 h5 (tHeader,r.hkey,r.hval) (by simp [AR.props,h])
    simp only [Bool.and_eq_true,decide_eq_true_eq] at this
    exact this.2
  · exact good_Spf h
  · exact good_Dmarc h

theorem gFit_plain:∀ (l:List KVp) (prev:Option L8),gFit prev l=true→∀ p∈l,aPlain p.2=true∧p.1 ≠ qReason
  | [],_,_=>by simp
  | p::r,prev,h=>by
    simp only [gFit,Bool.and_eq_true,decide_eq_true_eq] at h
    obtain ⟨⟨⟨⟨h1,h2⟩,h3⟩,h4⟩,h5⟩:=h
    intro q hq
    rcases List.mem_cons.1 hq with rfl | hq
    · refine ⟨h3,fun e=>?_⟩
      split at h1
      · rename_i z hz
        have:=cut_mem (c:=46) hz
        rw [e] at this
        exact key_ne_reason this.symm
      · simp at h1
    · exact gFit_plain r _ h5 q hq
theorem prm_vals {r:AR} (hf:aFit1 r=true) (hm:aMute1 r=true):∀ p∈r.prm,(p.1=qReason→mTok p.2=true)∧(p.1 ≠ qReason→aPlain p.2=true∧∀ x∈p.2,x ≠ 33):=by
  intro p hp
  simp only [aFit1,Bool.and_eq_true,decide_eq_true_eq,Bool.or_eq_true] at hf
  obtain ⟨⟨⟨⟨f1,f2⟩,f3⟩,f4⟩,f5⟩:=hf
  simp only [aMute1,Bool.and_eq_true] at hm
  have hm2:=hm.2
  simp only [AR.prm,List.mem_append] at hp
  rcases hp with hp | hp
  · unfold rPs at hp
    split at hp
    · simp at hp
    · rename_i hne
      simp only [List.mem_singleton] at hp
      subst hp
      refine ⟨fun _=>?_,fun h=>absurd rfl h⟩
      rcases f4 with h | h
      · exact absurd h hne
      · exact h
  · by_cases h0:r.kind=0
    · rw [if_pos h0] at hp f5 hm2
      simp only [Bool.and_eq_true,decide_eq_true_eq] at f5
      obtain ⟨a,b⟩:=gFit_plain _ _ f5.2 p hp
      refine ⟨fun e=>absurd e b,fun _=>⟨a,fun x hx=>?_⟩⟩
      have:=List.all_eq_true.1 (List.all_eq_true.1 hm2 p.2 (List.mem_map.2 ⟨p,hp,rfl⟩)) x hx
      simpa using this
    · rw [if_neg h0] at hp f5 hm2
      obtain ⟨q,hq,rfl⟩:=List.mem_map.1 hp
      have h5:=List.all_eq_true.1 f5 q hq
      simp only [Bool.and_eq_true,decide_eq_true_eq] at h5
      refine ⟨fun e=>absurd e key_ne_reason,fun _=>⟨h5.1.1,fun x hx=>?_⟩⟩
      have:=List.all_eq_true.1 (List.all_eq_true.1 hm2 q.2.2 (List.mem_map.2 ⟨q,hq,rfl⟩)) x hx
      simpa using this
end Wax


namespace Wax
open Go (IntKind)

def no33 (v:L8):Bool:=v.all fun c=>decide (c ≠ 33)
def aMuteI (r:AR):Bool := !(decide (r.kind=1) && decide (r.reason ≠ [])) && r.iprops.all fun p=>no33 p.2.2
theorem aMuteI_eq (r:AR):aMuteI r=aMute1 r:=by
  simp only [aMuteI,aMute1,AR.iprops]
  congr 1
  split
  · simp [List.all_map,Function.comp_def,no33]
  · simp [List.all_map,Function.comp_def,no33]
set_option maxHeartbeats 4000000 in
theorem mute_v {Γ:Gam} {Q:APost} {a b v:L8} {u x y z w t:AV} (hv:v.length < half) (hret:no33 v=false→Q .ret ⟨[(2,.bool false)],[]⟩)
    (hex:no33 v=true→Q (.exit 4) ⟨[(6,.ref 6 0),(7,.int .i64 v.length),(8,u),(9,x),(10,y),(24,z),(25,w),(26,t),(34,.bool false)],[(6,.cells [.str a,.str b,.str v])]⟩) :
    awp Γ (.loop [6,7,8,9,10,24,25,26] b_spec_AMute_1) Q ⟨[(6,.ref 6 0),(7,.int .i64 0),(8,u),(9,x),(10,y),(24,z),(25,w),(26,t)],[(6,.cells [.str a,.str b,.str v])]⟩:=by
  simp only [half] at hv
  refine awp_loop2 (σ:=L8 × L8) (fun q=>⟨[(6,.ref 6 0),(7,.int .i64 q.1.length),(8,u),(9,x),(10,y),(24,z),(25,w),(26,t)],[(6,.cells [.str a,.str b,.str v])]⟩)
    (fun q=>v=q.1++q.2∧no33 q.1=true) (fun q=>q.2.length) ([],v) (by simp) (by simp [no33]) ?_
  rintro ⟨pre,post⟩ ⟨e,hp⟩ LQ hLQ
  simp only at e hp
  cases post with
  | nil =>
    simp only [List.append_nil] at e
    subst e
    have hnl:¬ ((v.length:Int) < (v.length:Int)):=by omega
    simp -implicitDefEqProofs [b_spec_AMute_1]
    exact hex hp
  | cons c post =>
    have hlen:v.length=pre.length+(post.length+1):=by rw [e]; simp
    have hlt:(pre.length:Int) < (v.length:Int):=by omega
    have hlt':pre.length < v.length:=by omega
    have g:v[pre.length]? = some c:=by rw [e]; exact get_mid rfl
    have g':v[pre.length]'hlt'=c:=by rw [List.getElem?_eq_getElem hlt'] at g; exact Option.some.inj g
    have ew:IntKind.i64.wrap ((pre.length:Int)+1)=(pre.length:Int)+1:=wrap64 (by omega) (by omega)
    by_cases hc:c=33
    · have hx:(c.toNat:Int)=33:=by rw [hc]; rfl
      have hn:no33 v=false:=by rw [e,hc]; simp [no33]
      simp -implicitDefEqProofs [b_spec_AMute_1,hlt,hlt',g,g',hx]
      exact hret hn
    · have hx:¬ (c.toNat:Int)=33:=ne_int (c:=33) hc
      have go:=fun st=>hLQ (pre++[c],post) ⟨by rw [e]; simp,by rw [show no33 (pre++[c])=(no33 pre && no33 [c]) by simp [no33],hp]; simp [no33,hc]⟩ (by simp) st
      simp -implicitDefEqProofs [b_spec_AMute_1,hlt,hlt',g,g',hx,ew]
      exact go _ (by simp)
set_option maxHeartbeats 4000000 in
theorem mute_ps {Γ:Gam} {Q:APost} {ps:List (L8 × L8 × L8)} {u:AV} {nx ny:Int} (hu:∀ d,kill d u=u) (hl:ps.length < half) (hv:∀ p∈ps,p.2.2.length < half) (hret:(ps.all fun p=>no33 p.2.2)=false→Q .ret ⟨[(2,.bool false)],[]⟩)
    (hex:(ps.all fun p=>no33 p.2.2)=true→Q (.exit 2) ⟨[(8,u),(9,.int .i64 nx),(10,.int .i64 ny),(24,tripV ps),(25,.int .i64 ps.length),(26,.int .i64 ps.length),(27,.bool false)],[]⟩) :
    awp Γ (.loop [8,9,10,24,25,26] b_spec_AMute_3) Q ⟨[(8,u),(9,.int .i64 nx),(10,.int .i64 ny),(24,tripV ps),(25,.int .i64 ps.length),(26,.int .i64 0)],[]⟩:=by
  simp only [half] at hl
  refine awp_loop2 (σ:=List (L8 × L8 × L8) × List (L8 × L8 × L8)) (fun q=>⟨[(8,u),(9,.int .i64 nx),(10,.int .i64 ny),(24,tripV ps),(25,.int .i64 ps.length),(26,.int .i64 q.1.length)],[]⟩)
    (fun q=>ps=q.1++q.2∧(q.1.all fun p=>no33 p.2.2)=true) (fun q=>q.2.length) ([],ps) (by simp) (by simp) ?_
  rintro ⟨pre,post⟩ ⟨e,hp⟩ LQ hLQ
  simp only at e hp
  cases post with
  | nil =>
    simp only [List.append_nil] at e
    subst e
    have hnl:¬ ((ps.length:Int) < (ps.length:Int)):=by omega
    simp -implicitDefEqProofs [b_spec_AMute_3]
    exact hex hp
  | cons p post =>
    have hlen:ps.length=pre.length+(post.length+1):=by rw [e]; simp
    have hlt:(pre.length:Int) < (ps.length:Int):=by omega
    have hlt':pre.length < ps.length:=by omega
    have hT:tripV ps=.sl 3 (tr3 ps):=by rw [e]; cases pre <;> rfl
    have g:(tr3 ps)[pre.length]? = some (.agg [.str p.1,.str p.2.1,.str p.2.2]):=by rw [e]; simp [tr3]
    have g':(tr3 ps)[pre.length]'(by simp; omega)=.agg [.str p.1,.str p.2.1,.str p.2.2]:=by rw [List.getElem?_eq_getElem (by simp; omega)] at g; exact Option.some.inj g
    have ew:IntKind.i64.wrap ((pre.length:Int)+1)=(pre.length:Int)+1:=wrap64 (by omega) (by omega)
    have go:=fun h st=>hLQ (pre++[p],post) ⟨by rw [e]; simp,h⟩ (by simp) st
    rw [hT] at go ⊢
    simp -implicitDefEqProofs [b_spec_AMute_3,hlt,hlt',g,g',hu]
    refine mute_v (hv p (by rw [e]; simp)) (fun hn=>?_) (fun hn=>?_)
    · exact hret (by rw [e]; simp [hn])
    · simp -implicitDefEqProofs [t_spec_AMute_2,ew,hu]
      exact go (by simp only [List.all_append,hp]; simp [hn]) _ (by simp)
def AR.small (r:AR):Prop:=(0≤r.kind∧r.kind≤8∧(r.kind=0→(r.ps.getD []).length < half∧(∀ p∈r.ps.getD [],p.1.length < big)))∧r.iprops.length < half∧∀ p∈r.iprops,p.2.2.length < half
open Classical in
noncomputable def con_AMute:List AV→Option AV
  | [u]=>match slAR u with
    | some l=>if l.length < half∧∀ r∈l,r.small then some (.bool (l.all aMuteI)) else none
    | none=>none
  | _=>none
set_option maxHeartbeats 8000000 in
set_option maxRecDepth 100000 in
theorem ok_AMute (Γ:Gam) (h206:Γ.fn 206=con_AInfoOf):∀ args r,con_AMute args=some r→runs Γ c_spec_AMute args (fun v=>v=r):=by
  intro args r h
  simp only [con_AMute] at h
  split at h <;> (try simp at h; done)
  rename_i u
  split at h <;> (try simp at h; done)
  rename_i l hl
  split at h <;> (try simp at h; done)
  rename_i hc
  obtain ⟨h1,h2⟩:=hc
  simp only [Option.some.injEq] at h
  subst h
  have uk:=sar_kill hl
  have us:=sar_snapW hl
  have ua:=sar_alen hl
  simp only [half] at h1
  simp -implicitDefEqProofs [-alen,c_spec_AMute,ua]
  refine awp_loop2 (σ:=List AR × List AR) (fun q=>⟨[(8,u),(9,.int .i64 l.length),(10,.int .i64 q.1.length)],[]⟩)
    (fun q=>l=q.1++q.2∧q.1.all aMuteI=true) (fun q=>q.2.length) ([],l) (by simp) (by simp) ?_
  rintro ⟨pre,post⟩ ⟨e1,hp⟩ LQ hLQ
  simp only at e1 hp
  cases post with
  | nil =>
    simp only [List.append_nil] at e1
    subst e1
    have hnl:¬ ((l.length:Int) < (l.length:Int)):=by omega
    simp -implicitDefEqProofs [b_spec_AMute_5,t_spec_AMute_6,hp]
  | cons x post =>
    have hu:=sar_ne hl (by rw [e1]; simp)
    have hlen:l.length=pre.length+(post.length+1):=by rw [e1]; simp
    have hlt:(pre.length:Int) < (l.length:Int):=by omega
    have hlt':pre.length < l.length:=by omega
    have g:(arA l)[pre.length]? = some (.agg x.cells):=by rw [e1,arA_app]; exact get_mid (by simp)
    rw [List.getElem?_eq_getElem (by simp; omega)] at g
    have g0:=Option.some.inj g
    have ew:IntKind.i64.wrap ((pre.length:Int)+1)=(pre.length:Int)+1:=wrap64 (by omega) (by omega)
    have hx:=h2 x (by rw [e1]; simp)
    have kx:con_AInfoOf [.agg x.cells]=some (infoV x):=by simp only [con_AInfoOf,asAR_cells]; exact if_pos hx.1
    have cu:=slP_cells x.ps
    simp only [cells] at cu
    have go:=fun h st=>hLQ (pre++[x],post) ⟨by rw [e1]; simp,h⟩ (by simp) st
    have hsl:∀ d,kill d (AV.sl 16 (arA l))=AV.sl 16 (arA l):=fun d=>by rw [← hu]; exact uk d
    have ri:hasRef (infoV x)=false:=by simp [infoV,hasRef,hasRefL]
    have al:∀ hp,alen hp 1 (tripV x.iprops)=some x.iprops.length:=fun hp=>by cases x.iprops <;> simp [tripV,alen]
    rw [hu] at go ⊢
    simp only [AR.cells] at g0 kx
    by_cases hb:x.kind=1∧x.reason ≠ []
    · have hn:aMuteI x=false:=by simp [aMuteI,hb.1,hb.2]
      have hn2:l.all aMuteI=false:=by rw [e1]; simp [hn]
      simp -implicitDefEqProofs [-alen,b_spec_AMute_5,hlt,hlt',g0,cu,hb.1,hb.2,hn2]
    · have hm:aMuteI x=x.iprops.all fun p=>no33 p.2.2:=by
        have:(decide (x.kind=1) && decide (x.reason ≠ []))=false:=by simpa using hb
        simp only [aMuteI,this,Bool.not_false,Bool.true_and]
      have fin:awp Γ (.loop [8,9,10,24,25,26] b_spec_AMute_3) (blockQ 2 (blockQ 1 (thenQ (awp Γ t_spec_AMute_4 (thenQ LQ (blockQ 0 (thenQ (awp Γ t_spec_AMute_6 (finQ [.t 2] fun v=>v=.bool (l.all aMuteI))) (finQ [.t 2] fun v=>v=.bool (l.all aMuteI)))))) (thenQ LQ (blockQ 0 (thenQ (awp Γ t_spec_AMute_6 (finQ [.t 2] fun v=>v=.bool (l.all aMuteI))) (finQ [.t 2] fun v=>v=.bool (l.all aMuteI)))))))) ⟨[(8,.sl 16 (arA l)),(9,.int .i64 l.length),(10,.int .i64 pre.length),(24,tripV x.iprops),(25,.int .i64 x.iprops.length),(26,.int .i64 0)],[]⟩:=by
        refine mute_ps hsl hx.2.1 hx.2.2 (fun hn=>?_) (fun hn=>?_)
        · have hn2:l.all aMuteI=false:=by rw [e1]; simp [hm,hn]
          simp -implicitDefEqProofs [hn2]
        · simp -implicitDefEqProofs [t_spec_AMute_4,ew,hsl]
          exact go (by simp only [List.all_append,hp,List.all_cons,List.all_nil,hm,hn]; rfl) _ (by simp)
      by_cases hk:x.kind=1
      · have hr:x.reason=[]:=by simpa [hk] using hb
        rw [hk,hr] at kx
        simp -implicitDefEqProofs [-alen,b_spec_AMute_5,hlt,hlt',g0,cu,hk,hr,hsl,acall,h206,kx,ri,infoV,al]
        exact fin
      · simp -implicitDefEqProofs [-alen,b_spec_AMute_5,hlt,hlt',g0,cu,hk,acall,h206,kx,ri,hsl,infoV,al]
        exact fin
end Wax


namespace Wax
open Go (IntKind)

theorem mem_sum {α:Type} {f:α→Nat}:∀ {l:List α} {x:α},x∈l→f x≤(l.map f).sum
  | y::l,x,h=>by
    simp only [List.map_cons,List.sum_cons]
    rcases List.mem_cons.1 h with rfl | h
    · omega
    · have:=mem_sum (f:=f) h; omega
theorem nd_of_keys {l:List KVp} (h:(l.map (·.1)).Nodup):l.Nodup:=by
  have:l.Pairwise fun a b=>a.1 ≠ b.1:=List.pairwise_map.1 h
  exact this.imp fun h e=>h (by rw [e])
set_option maxRecDepth 100000 in
theorem tk_ascii {s:L8} (h:∀ x∈s,tkC [64] x=true):ascii s=true:=by
  refine List.all_eq_true.2 fun x hx=>?_
  have all:∀ n:Fin 256,tkC [64] (UInt8.ofNat n.1)=true→decide ((UInt8.ofNat n.1).toNat < 128)=true:=by decide
  have:=all ⟨x.toNat,x.toNat_lt⟩
  simp only [UInt8.ofNat_toNat] at this
  exact this (h x hx)
theorem tok_tk {s:L8} (h:mTok s=true):∀ x∈s,tkC [64] x=true:=fun x hx=>by
  simp only [mTok,Bool.and_eq_true] at h
  simp [tkC,List.all_eq_true.1 h.1 x hx]
theorem kw_tk {s:L8} (h:mKw s=true):∀ x∈s,tkC [64] x=true:=fun x hx=>by
  simp only [mKw,Bool.and_eq_true] at h
  simp [tkC,kw_tok x (List.all_eq_true.1 h.1.1.1 x hx)]
theorem ip_vals {r:AR} (hf:aFit1 r=true):∀ p∈r.iprops,aPlain p.2.2=true:=by
  intro p hp
  simp only [aFit1,Bool.and_eq_true,decide_eq_true_eq,Bool.or_eq_true] at hf
  have f5:=hf.2
  unfold AR.iprops at hp
  split at hp
  · rename_i h0
    rw [if_pos h0] at f5
    simp only [Bool.and_eq_true,decide_eq_true_eq] at f5
    obtain ⟨q,hq,rfl⟩:=List.mem_map.1 hp
    exact (gFit_plain _ _ f5.2 q hq).1
  · rename_i h0
    rw [if_neg h0] at f5
    have h5:=List.all_eq_true.1 f5 p hp
    simp only [Bool.and_eq_true,decide_eq_true_eq] at h5
    exact h5.1.1
theorem fit_small {r:AR} (hf:aFit1 r=true) (h2:(r.ps.getD []).length < half) (hb:r.bulk≤2097152):r.small:=by
  have hk:=kind_cases hf
  refine ⟨⟨by omega,by omega,fun h0=>⟨h2,fun p hp=>?_⟩⟩,?_,fun p hp=>?_⟩
  · have h1:((r.ps.getD []).map fun p=>kvSz p+1).sum≤r.bulk:=by simp only [AR.bulk]; omega
    have h3:kvSz p+1≤((r.ps.getD []).map fun p=>kvSz p+1).sum:=mem_sum (f:=fun p:KVp=>kvSz p+1) hp
    have h4:p.1.length≤kvSz p:=by simp only [kvSz]; omega
    simp only [big]; omega
  · unfold AR.iprops
    split
    · simpa using h2
    · unfold AR.props
      repeat' split
      all_goals simp [half]
  · have:=(aPlain_g (ip_vals hf p hp)).2.2
    simp only [half]; omega
theorem fit_fmOk {r:AR} (hf:aFit1 r=true) (hm:aMute1 r=true) (h2:(r.ps.getD []).length < half) (hb:r.bulk≤2097152):r.pr.fmOk:=by
  have G:=pr_good hf hm
  refine ⟨?_,?_,fun p hp=>?_,?_⟩
  · rcases kind_cases hf with h | h | h | h | h | h | h | h <;> simp [AR.pr,h,PR.isArc]
  · rcases kind_cases hf with h | h | h | h | h | h | h | h
    · have hp:r.prm=r.ps.getD []:=by
        simp only [aFit1,Bool.and_eq_true,decide_eq_true_eq,h,if_true] at hf
        simp only [AR.prm,h,hf.2.1.1.1.2,rPs,if_true,List.nil_append]
      rw [G.gen h,hp]; exact h2
    all_goals simp [AR.pr,h,PR.fm,half]
  · by_cases hv:p.2=[]
    · rw [hv]; exact ⟨rfl,by simp [qrt]⟩
    · have hq:=G.keys p hp hv
      obtain ⟨a,b⟩:=prm_vals hf hm p hq
      refine ⟨?_,?_⟩
      · by_cases hr:p.1=qReason
        · exact tk_ascii (tok_tk (a hr))
        · exact tk_ascii (plain_tk (b hr).1).1
      · have h1:=prm_len r
        have h3:kvSz p+4≤prmSz r.prm:=mem_sum (f:=fun p:KVp=>kvSz p+4) hq
        have h4:p.2.length≤kvSz p:=by simp only [kvSz]; omega
        simp only [qrt]; omega
  · intro v rr k y e
    have h5:r.kind=5:=by
      rcases kind_cases hf with h | h | h | h | h | h | h | h <;> first | exact h | simp [AR.pr,h] at e
    have hk:k=r.hkey:=by simp only [AR.pr,h5] at e; simp at e; exact e.2.2.1.symm
    simp only [aFit1,Bool.and_eq_true,decide_eq_true_eq] at hf
    have f5:=hf.2
    rw [if_neg (by omega)] at f5
    have:=List.all_eq_true.1 f5 (tHeader,r.hkey,r.hval) (by simp [AR.props,h5])
    simp only [Bool.and_eq_true,decide_eq_true_eq] at this
    rw [hk]
    refine ⟨?_,tk_ascii (kw_tk this.1.2)⟩
    simp only [AR.bulk] at hb
    simp only [mid]; omega

theorem law_mute {l:List AR} (L:LawAR l) (hf:aFits (l.map AR.only)=true) (hq:(l.map fun r=>r.bulk+1).sum≤2097152):con_AMute [arV (l.map AR.only)]=some (.bool ((l.map AR.only).all aMute1)):=by
  have hsz:=(law_sz L hf).1
  have hff:=hf
  simp only [aFits,Bool.and_eq_true,List.all_eq_true] at hff
  have e:(l.map AR.only).all aMute1=(l.map AR.only).all aMuteI:=by
    congr 1; funext r; exact (aMuteI_eq r).symm
  rw [e]
  simp only [con_AMute,slAR_arV]
  refine if_pos ⟨hsz.1,fun r hr=>fit_small (hff.1 r hr) (hsz.2 r hr) ?_⟩
  obtain ⟨q,hq2,rfl⟩:=List.mem_map.1 hr
  have h1:=only_bulk q
  have h2:=mem_sum (f:=fun r:AR=>r.bulk+1) hq2
  omega
end Wax


namespace Wax
open Go (IntKind)

def endR (rest:L8):Prop:=rest=[]∨rest.head? = some 32∨rest.head? = some 59
def HD (f:L8):Prop:=∃ c r,f=c::r∧ws4 c=false∧c ≠ 40
def VR (m s f:L8):Prop:=HD f∧∀ rest,endR rest→rVal m (f++rest)=(s,true,f.length)
theorem rWd_end {m s rest:L8} (hs:∀ x∈s,tkC m x=true) (h32:tkC m 32=false) (h59:tkC m 59=false) (hr:endR rest):rWd m (s++rest)=s:=by
  unfold rWd
  rw [List.takeWhile_append_of_pos hs]
  rcases hr with rfl | h | h
  · simp
  · cases rest with
    | nil=>simp
    | cons c r=>simp at h; subst h; simp [h32]
  · cases rest with
    | nil=>simp
    | cons c r=>simp at h; subst h; simp [h59]
set_option maxRecDepth 100000 in
theorem ws_tk0 (x:UInt8) (h:ws4 x=true):tkC [] x=false:=by
  have all:∀ n:Fin 256,ws4 (UInt8.ofNat n.1)=true→tkC [] (UInt8.ofNat n.1)=false:=by decide
  have:=all ⟨x.toNat,x.toNat_lt⟩
  simp only [UInt8.ofNat_toNat] at this
  exact this h
set_option maxRecDepth 100000 in
theorem ws_tk1 (x:UInt8) (h:ws4 x=true):tkC [64,58] x=false:=by
  have all:∀ n:Fin 256,ws4 (UInt8.ofNat n.1)=true→tkC [64,58] (UInt8.ofNat n.1)=false:=by decide
  have:=all ⟨x.toNat,x.toNat_lt⟩
  simp only [UInt8.ofNat_toNat] at this
  exact this h
theorem vr_word {m s:L8} (hne:s ≠ []) (hs:∀ x∈s,tkC m x=true) (h32:tkC m 32=false) (h59:tkC m 59=false) (h34:tkC m 34=false) (h40:tkC m 40=false) (hw:∀ x,ws4 x=true→tkC m x=false):VR m s s:=by
  refine ⟨?_,fun rest hr=>?_⟩
  · cases s with
    | nil=>exact absurd rfl hne
    | cons c s =>
      have h0:=hs c (by simp)
      refine ⟨c,s,rfl,?_,fun e=>by rw [e,h40] at h0; simp at h0⟩
      cases h:ws4 c with
      | false=>rfl
      | true=>rw [hw c h] at h0; simp at h0
  have hwd:=rWd_end hs h32 h59 hr
  cases s with
  | nil=>exact absurd rfl hne
  | cons c s =>
    have hc:¬ c=34:=fun e=>by have:=hs c (by simp); rw [e,h34] at this; simp at this
    simp only [rVal,List.cons_append,if_neg hc]
    rw [List.cons_append] at hwd
    simp [hwd]
def okQ (s:L8):Prop:=∀ x∈s,32≤x.toNat∧x.toNat < 127∧x ≠ 92
theorem rQ_read:∀ (s out rest:L8),okQ s→rQ out (qtB s++34::rest)=(out++s,true,(qtB s).length+1)
  | [],out,rest,_=>by
    simp only [qtB,List.nil_append]
    rw [rQ.eq_def]
    simp
  | c::s,out,rest,h=>by
    have h0:=h c (by simp)
    have ih:=fun o=>rQ_read s o rest fun x hx=>h x (by simp [hx])
    by_cases hc:c=34
    · subst hc
      simp only [qtB,if_true,List.cons_append]
      rw [rQ.eq_def]
      simp only
      rw [if_neg (by decide),if_pos trivial]
      simp only [ih]
      simp
    · simp only [qtB,if_neg hc,List.cons_append]
      rw [rQ.eq_def]
      simp only
      have h13:¬ (c=13∨c=10):=by rintro (rfl | rfl) <;> simp at h0
      rw [if_neg hc,if_neg h0.2.2,if_neg h13]
      simp only [ih]
      simp
theorem vr_quoted {m s:L8} (h:okQ s):VR m s (34::(qtB s++[34])):=by
  refine ⟨⟨34,_,rfl,by decide,by decide⟩,fun rest _=>?_⟩
  have e:34::(qtB s++[34])++rest=34::(qtB s++34::rest):=by simp
  rw [e]
  simp only [rVal,if_true,rQ_read s [] rest h]
  simp; omega
set_option maxRecDepth 100000 in
theorem nsp_tok {x:UInt8} (h:spB x=false) (h2:x.toNat < 127):tokB x=true:=by
  have all:∀ n:Fin 256,spB (UInt8.ofNat n.1)=false→(UInt8.ofNat n.1).toNat < 127→tokB (UInt8.ofNat n.1)=true:=by decide
  have:=all ⟨x.toNat,x.toNat_lt⟩
  simp only [UInt8.ofNat_toNat] at this
  exact this h h2
theorem tok_m {x:UInt8} (m:L8) (h:tokB x=true):tkC m x=true:=by simp [tkC,h]
theorem fmtV_read {m s:L8} (hm:m=[]∨m=[64,58]) (hne:s ≠ []) (h:okQ s):VR m s (fmtV s):=by
  unfold fmtV
  split
  · exact vr_quoted h
  · rename_i hs
    have hs':s.any spB=false:=by simpa using hs
    rw [List.any_eq_false] at hs'
    have ht:∀ x∈s,tkC m x=true:=fun x hx=>tok_m m (nsp_tok (by simpa using hs' x hx) (h x hx).2.1)
    rcases hm with rfl | rfl
    · exact vr_word hne ht (by decide) (by decide) (by decide) (by decide) ws_tk0
    · exact vr_word hne ht (by decide) (by decide) (by decide) (by decide) ws_tk1
set_option maxRecDepth 100000 in
theorem tkC_okQ {x:UInt8} (h:tkC [64] x=true):(32≤x.toNat∧x.toNat < 127∧x ≠ 92)∧tkC [64,58] x=true:=by
  have all:∀ n:Fin 256,tkC [64] (UInt8.ofNat n.1)=true→(32≤(UInt8.ofNat n.1).toNat∧(UInt8.ofNat n.1).toNat < 127∧UInt8.ofNat n.1 ≠ 92)∧tkC [64,58] (UInt8.ofNat n.1)=true:=by decide
  have:=all ⟨x.toNat,x.toNat_lt⟩
  simp only [UInt8.ofNat_toNat] at this
  exact this h
theorem plain_okQ {s:L8} (h:aPlain s=true):okQ s:=fun x hx=>(tkC_okQ ((plain_tk h).1 x hx)).1
theorem fmtP_read {s:L8} (hne:s ≠ []) (h:okQ s) (h2:aPlain s=true∨s.all adB=false):VR [64,58] s (fmtP s):=by
  unfold fmtP
  split
  · rename_i ha
    rcases h2 with h2 | h2
    · exact vr_word hne (fun x hx=>(tkC_okQ ((plain_tk h2).1 x hx)).2) (by decide) (by decide) (by decide) (by decide) ws_tk1
    · rw [ha] at h2; simp at h2
  · exact fmtV_read (.inr rfl) hne h

structure KP (p:KVp):Prop where
  tok:∀ x∈p.1,tokB x=true
  cut:∃ q,cutAt 46 p.1=some q∧mKw q.1=true∧q.2 ≠ []
  low:lowS p.1 ≠ qReason
  val:VR [64,58] p.2 (fmtP p.2)
def split3 (p:KVp):L8 × L8 × L8:=((halfP p.1).1,(halfP p.1).2,p.2)
theorem bB_blank {c:UInt8} {r:L8} (h1:ws4 c=false) (h2:c ≠ 40):bB (32::c::r)=some (c::r)∧bB (c::r)=some (c::r):=by
  have h32:ws4 32=true:=by decide
  constructor <;> simp [bB,rB,List.dropWhile_cons,h1,h2,h32]
theorem tok_ws {c:UInt8} (h:tokB c=true):ws4 c=false∧c ≠ 40∧c ≠ 34:=tkC_head (tok_m [64] h)
theorem key_word {k r:L8} (h:∀ x∈k,tokB x=true):rWd [] (k++61::r)=k:=by
  unfold rWd
  rw [List.takeWhile_append_of_pos fun x hx=>tok_m [] (h x hx)]
  have:tkC [] 61=false:=by decide
  simp [this]
def fmw (p:KVp):L8:=p.1++61::fmtP p.2
theorem cut_ne {k:L8} {q:L8 × L8} (h:cutAt 46 k=some q):k ≠ []:=by
  intro e; subst e; simp [cutAt] at h
theorem endR_words (l:List KVp) {e rest:L8} (he:e=[]∨e=[32]) (hr:rest=[]∨rest.head? = some 59):endR (l.flatMap (fun p=>32::fmw p)++(e++rest)):=by
  cases l with
  | nil =>
    simp only [List.flatMap_nil,List.nil_append]
    rcases he with rfl | rfl
    · rcases hr with rfl | h
      · exact .inl rfl
      · exact .inr (.inr h)
    · exact .inr (.inl rfl)
  | cons p l=>exact .inr (.inl rfl)
theorem bB_end {e rest:L8} (he:e=[]∨e=[32]) (hr:rest=[]∨rest.head? = some 59):bB (e++rest)=some rest:=by
  have h32:ws4 32=true:=by decide
  have h59:ws4 59=false:=by decide
  have h:bB rest=some rest:=by
    rcases hr with rfl | h
    · rfl
    · cases rest with
      | nil=>rfl
      | cons c r=>simp at h; subst h; simp [bB,rB,List.dropWhile_cons,h59]
  rcases he with rfl | rfl
  · exact h
  · have e2:rB ([32]++rest)=rB rest:=by simp [rB,List.dropWhile_cons,h32]
    have:bB ([32]++rest)=bB rest:=by unfold bB; rw [e2]
    rw [this,h]
theorem rLoop_go:∀ (l:List KVp) (n:Nat) (x:Inf) {e rest:L8},(∀ p∈l,KP p)→l.length < n→(e=[]∨e=[32])→(rest=[]∨rest.head? = some 59) →
    rLoop n x (l.flatMap (fun p=>32::fmw p)++(e++rest))=some ({ x with ps:=x.ps++l.map split3 },true,rest)
  | [],0,_,_,_,_,h,_,_=>by simp at h
  | [],n+1,x,e,rest,_,_,he,hr=>by
    rw [rLoop]
    simp only [List.flatMap_nil,List.nil_append,bB_end he hr]
    rw [if_pos hr]
    simp
  | p::l,0,_,_,_,_,h,_,_=>by simp at h
  | p::l,n+1,x,e,rest,hk,hn,he,hr=>by
    have K:=hk p (by simp)
    obtain ⟨q,c1,c2,c3⟩:=K.cut
    have ih:=rLoop_go l n { x with ps:=x.ps++[split3 p] } (e:=e) (rest:=rest) (fun z hz=>hk z (by simp [hz])) (by simp at hn; omega) he hr
    generalize hR:l.flatMap (fun p=>32::fmw p)++(e++rest)=R at ih
    have hend:endR R:=by rw [← hR]; exact endR_words l he hr
    have e1:(p::l).flatMap (fun p=>32::fmw p)++(e++rest)=32::(p.1++61::(fmtP p.2++R)):=by
      rw [← hR]; simp [fmw]
    have hv:=K.val.2 R hend
    have hkw:=key_word (k:=p.1) (r:=fmtP p.2++R) K.tok
    obtain ⟨c,k,hck⟩:∃ c k,p.1=c::k:=by
      cases h:p.1 with
      | nil=>exact absurd h (cut_ne c1)
      | cons c k=>exact ⟨c,k,rfl⟩
    have hc:=tok_ws (K.tok c (by rw [hck]; simp))
    have b1:bB (32::(p.1++61::(fmtP p.2++R)))=some (p.1++61::(fmtP p.2++R)):=by
      rw [hck]; exact (bB_blank hc.1 hc.2.1).1
    have b2:bB (61::(fmtP p.2++R))=some (61::(fmtP p.2++R)):=(bB_blank (by decide) (by decide)).2
    have hend1:¬ (p.1++61::(fmtP p.2++R)=[]∨(p.1++61::(fmtP p.2++R)).head? = some 59):=by
      rw [hck]
      simp only [List.cons_append,reduceCtorEq,List.head?_cons,Option.some.injEq,false_or]
      intro e
      have:=K.tok c (by rw [hck]; simp)
      rw [e] at this; revert this; decide
    have b3:bB (fmtP p.2++R)=some (fmtP p.2++R):=by
      obtain ⟨d,r,hd,d1,d2⟩:=K.val.1
      rw [hd]; exact (bB_blank d1 d2).2
    rw [e1,rLoop,b1]
    simp only
    rw [if_neg hend1,hkw,List.drop_left,b2]
    simp only [if_true,b3]
    rw [if_neg K.low,hv]
    have hh:halvesP p.1=(q.1,q.2,true):=by simp [halvesP,c1]
    rw [if_neg (by simp [hh,c2,c3])]
    simp only [List.drop_left,hh]
    have hs:split3 p=(q.1,q.2,p.2):=by simp [split3,halfP,c1]
    rw [hs] at ih
    rw [ih]
    simp [hs]

theorem kw_toks {s:L8} (h:mKw s=true):(∀ x∈s,tokB x=true)∧s ≠ []:=by
  simp only [mKw,Bool.and_eq_true,decide_eq_true_eq] at h
  exact ⟨fun x hx=>kw_tok x (List.all_eq_true.1 h.1.1.1 x hx),h.1.1.2⟩
def rText (m v rs:L8) (pl:List KVp):L8:=32::(m++61::(v++((if rs=[] then [] else 32::(qReason++61::fmtV rs))++pl.flatMap (fun p=>32::fmw p))))
theorem aInfo_read {m v rs:L8} {pl:List KVp} {e rest:L8} (hm:mKw m=true) (hv:mKw v=true) (hrs:rs=[]∨VR [] rs (fmtV rs)) (hk:∀ p∈pl,KP p) (he:e=[]∨e=[32]) (hr:rest=[]∨rest.head? = some 59) :
    aInfo (rText m v rs pl++(e++rest))=some (⟨m,v,rs,pl.map split3⟩,false,true,rest):=by
  obtain ⟨m1,m2⟩:=kw_toks hm
  obtain ⟨v1,v2⟩:=kw_toks hv
  generalize hR:pl.flatMap (fun p=>32::fmw p)++(e++rest)=R
  have hend:endR R:=by rw [← hR]; exact endR_words pl he hr
  generalize hS:(if rs=[] then [] else 32::(qReason++61::fmtV rs))++R=S
  have hendS:endR S:=by
    rw [← hS]
    split
    · exact hend
    · exact .inr (.inl rfl)
  have e1:rText m v rs pl++(e++rest)=32::(m++61::(v++S)):=by
    rw [← hS,← hR]; simp [rText]
  obtain ⟨c,m',hc⟩:∃ c k,m=c::k:=by
    cases m with
    | nil=>exact absurd rfl m2
    | cons c k=>exact ⟨c,k,rfl⟩
  obtain ⟨d,v',hd⟩:∃ c k,v=c::k:=by
    cases v with
    | nil=>exact absurd rfl v2
    | cons c k=>exact ⟨c,k,rfl⟩
  have hcw:=tok_ws (m1 c (by rw [hc]; simp))
  have hdw:=tok_ws (v1 d (by rw [hd]; simp))
  have b1:bB (32::(m++61::(v++S)))=some (m++61::(v++S)):=by rw [hc]; exact (bB_blank hcw.1 hcw.2.1).1
  have b2:bB (61::(v++S))=some (61::(v++S)):=(bB_blank (by decide) (by decide)).2
  have b3:bB (v++S)=some (v++S):=by rw [hd]; exact (bB_blank hdw.1 hdw.2.1).2
  have w1:=key_word (k:=m) (r:=v++S) m1
  have w2:rWd [] (v++S)=v:=rWd_end (m:=[]) (fun x hx=>tok_m [] (v1 x hx)) (by decide) (by decide) hendS
  have hloop:∀ n,pl.length+1 < n→rLoop n ⟨m,v,[],[]⟩ S=some (⟨m,v,rs,pl.map split3⟩,true,rest):=by
    intro n hn
    by_cases hrs0:rs=[]
    · rw [← hS,if_pos hrs0,List.nil_append,← hR]
      have:=rLoop_go pl n ⟨m,v,[],[]⟩ (e:=e) (rest:=rest) hk (by omega) he hr
      rw [this,hrs0]; simp
    · obtain ⟨n,rfl⟩:∃ k,n=k+1:=⟨n - 1,by omega⟩
      rw [← hS,if_neg hrs0]
      have hV:=hrs.resolve_left hrs0
      obtain ⟨g,r,hg,g1,g2⟩:=hV.1
      have e2:32::(qReason++61::fmtV rs)++R=32::(qReason++61::(fmtV rs++R)):=by simp
      have bq1:bB (32::(qReason++61::(fmtV rs++R)))=some (qReason++61::(fmtV rs++R)):=(bB_blank (c:=114) (by decide) (by decide)).1
      have bq2:bB (61::(fmtV rs++R))=some (61::(fmtV rs++R)):=(bB_blank (by decide) (by decide)).2
      have bq3:bB (fmtV rs++R)=some (fmtV rs++R):=by rw [hg]; exact (bB_blank g1 g2).2
      have wq:=key_word (k:=qReason) (r:=fmtV rs++R) (by decide)
      rw [e2,rLoop,bq1]
      simp only
      rw [if_neg (by simp [qReason]),wq,List.drop_left,bq2]
      simp only [if_true,bq3]
      rw [if_pos (by decide),hV.2 R hend,if_neg (by simp),List.drop_left,← hR]
      have:=rLoop_go pl n ⟨m,v,rs,[]⟩ (e:=e) (rest:=rest) hk (by omega) he hr
      rw [this]; simp
  have hpl:∀ (l:List KVp),l.length≤(l.flatMap (fun p=>32::fmw p)).length:=by
    intro l
    induction l with
    | nil=>simp
    | cons p l ih=>simp only [List.flatMap_cons,List.length_append,List.length_cons]; omega
  have hfuel:pl.length+1 < (v++S).length+1:=by
    have h1:=hpl pl
    have h2:v.length ≠ 0:=by simpa using v2
    have h3:=congrArg List.length hR
    have h4:=congrArg List.length hS
    simp only [List.length_append] at h3 h4 ⊢
    omega
  unfold aInfo
  rw [e1,b1]
  simp only [w1,List.drop_left]
  rw [if_neg (by rw [hm]; simp),b2]
  simp only [reduceCtorEq,and_false,if_false]
  rw [if_neg (by decide),if_true]
  simp only [b3,w2]
  rw [if_neg (by rw [hv]; simp),List.drop_left,hloop _ hfuel]
  rfl
end Wax


namespace Wax
open Go (IntKind)

abbrev T3:=L8 × L8 × L8
def cnt (p:T3) (l:List T3):Nat:=(l.filter fun q=>decide (p=q)).length
theorem cnt_app (p:T3) (a b:List T3):cnt p (a++b)=cnt p a+cnt p b:=by simp [cnt]
theorem cnt_le (p:T3) (l:List T3):cnt p l≤l.length:=List.length_filter_le _ _
def infCells (m v r:L8) (ps:List T3):List AV:=[.str m,.str [],.str v,.str r,tripV ps]
set_option maxHeartbeats 4000000 in
theorem agree_in {Γ:Gam} {Q:APost} {m v r:L8} {ps:List T3} {p:T3} {T:AV} {x y:Int} (hl:ps.length < half) (hT:∀ d,kill d T=T)
    (hex:Q (.exit 2) ⟨[(2,.ref 2 0),(7,.ref 7 0),(8,.int .i64 (cnt p ps)),(43,T),(44,.int .i64 x),(45,.int .i64 y),(50,tripV ps),(51,.int .i64 ps.length),(52,.int .i64 ps.length),(53,.bool false)],[(7,.cells [.str p.1,.str p.2.1,.str p.2.2]),(2,.cells (infCells m v r ps))]⟩) :
    awp Γ (.loop [2,7,8,43,44,45,50,51,52] b_spec_AAgree_1) Q ⟨[(2,.ref 2 0),(7,.ref 7 0),(8,.int .i64 0),(43,T),(44,.int .i64 x),(45,.int .i64 y),(50,tripV ps),(51,.int .i64 ps.length),(52,.int .i64 0)],[(7,.cells [.str p.1,.str p.2.1,.str p.2.2]),(2,.cells (infCells m v r ps))]⟩:=by
  simp only [half] at hl
  refine awp_loop2 (σ:=List T3 × List T3) (fun q=>⟨[(2,.ref 2 0),(7,.ref 7 0),(8,.int .i64 (cnt p q.1)),(43,T),(44,.int .i64 x),(45,.int .i64 y),(50,tripV ps),(51,.int .i64 ps.length),(52,.int .i64 q.1.length)],[(7,.cells [.str p.1,.str p.2.1,.str p.2.2]),(2,.cells (infCells m v r ps))]⟩)
    (fun q=>ps=q.1++q.2) (fun q=>q.2.length) ([],ps) (by simp [cnt]) (by simp) ?_
  rintro ⟨pre,post⟩ e LQ hLQ
  simp only at e
  cases post with
  | nil =>
    simp only [List.append_nil] at e
    subst e
    have hnl:¬ ((ps.length:Int) < (ps.length:Int)):=by omega
    simp -implicitDefEqProofs [b_spec_AAgree_1]
    exact hex
  | cons q post =>
    have hlen:ps.length=pre.length+(post.length+1):=by rw [e]; simp
    have hlt:(pre.length:Int) < (ps.length:Int):=by omega
    have hlt':pre.length < ps.length:=by omega
    have hTp:tripV ps=.sl 3 (tr3 ps):=by rw [e]; cases pre <;> rfl
    have g:(tr3 ps)[pre.length]? = some (.agg [.str q.1,.str q.2.1,.str q.2.2]):=by rw [e]; simp [tr3]
    have g':(tr3 ps)[pre.length]'(by simp; omega)=.agg [.str q.1,.str q.2.1,.str q.2.2]:=by rw [List.getElem?_eq_getElem (by simp; omega)] at g; exact Option.some.inj g
    have ew:IntKind.i64.wrap ((pre.length:Int)+1)=(pre.length:Int)+1:=wrap64 (by omega) (by omega)
    have hc:=cnt_le p pre
    have ew2:IntKind.i64.wrap ((cnt p pre:Int)+1)=(cnt p pre:Int)+1:=wrap64 (by omega) (by omega)
    have go:=fun st=>hLQ (pre++[q],post) (by rw [e]; simp) (by simp) st
    simp only [cnt_app] at go
    by_cases hq:p=q
    · have h1:cnt p [q]=1:=by simp [cnt,hq]
      rw [h1] at go
      subst hq
      rw [hTp] at go ⊢
      simp -implicitDefEqProofs [b_spec_AAgree_1,hlt,hlt',g,g',hT,infCells,ew,ew2]
      exact go _ (by simp [infCells])
    · have h1:cnt p [q]=0:=by simp [cnt,hq]
      rw [h1] at go
      have hne:¬ (p.1=q.1∧p.2.1=q.2.1∧p.2.2=q.2.2):=fun h=>hq (by obtain ⟨a,b,c⟩:=h; exact Prod.ext a (Prod.ext b c))
      rw [hTp] at go ⊢
      simp -implicitDefEqProofs [b_spec_AAgree_1,hlt,hlt',g,g',hT,infCells,ew,ew2]
      exact ⟨fun a b c=>absurd ⟨a,b,c⟩ hne,fun _=>go _ (by simp [infCells])⟩
def agrees (m v r:L8) (ps:List T3) (q:AR):Prop:=lowS m=q.meth∧v=q.value∧r=q.reason∧ps.length=q.iprops.length∧∀ p∈q.iprops,cnt p ps=1
open Classical in
noncomputable def con_AAgree:List AV→Option AV
  | [.agg [.str m,.str [],.str v,.str r,u],.agg cs]=>match slTr u,asAR cs with
    | some ps,some q=>if u=tripV ps∧m.length < big∧ps.length < half∧q.small∧agrees m v r ps q then some (.bool true) else none
    | _,_=>none
  | _=>none
set_option maxHeartbeats 8000000 in
set_option maxRecDepth 100000 in
theorem ok_AAgree (Γ:Gam) (h206:Γ.fn 206=con_AInfoOf) (h112:Γ.fn 112=con_MailLower):∀ args r,con_AAgree args=some r→runs Γ c_spec_AAgree args (fun v=>v=r):=by
  intro args r h
  simp only [con_AAgree] at h
  split at h <;> (try simp at h; done)
  rename_i m v rs u cs
  split at h <;> (try simp at h; done)
  rename_i ps q hu hq
  split at h <;> (try simp at h; done)
  rename_i hc
  obtain ⟨rfl,hml,hpl,hsm,a1,a2,a3,a4,a5⟩:=hc
  simp only [Option.some.injEq] at h
  subst h
  rw [asAR_spec hq]
  clear hq hu
  have kx:con_AInfoOf [.agg q.cells]=some (infoV q):=by simp only [con_AInfoOf,asAR_cells]; exact if_pos hsm.1
  have km:con_MailLower [.str m]=some (.str q.meth):=by rw [← a1]; exact if_pos hml
  have cu:=slP_cells q.ps
  simp only [cells] at cu
  have ri:hasRef (infoV q)=false:=by simp [infoV,hasRef,hasRefL]
  have al:∀ (l:List T3) hp,alen hp 1 (tripV l)=some l.length:=fun l hp=>by cases l <;> simp [tripV,alen]
  have cT:=trV3_cells q.iprops
  simp only [cells] at cT
  have cT2:=trV3_cells ps
  simp only [cells] at cT2
  have hil:=hsm.2.1
  subst a2 a3
  simp only [AR.cells] at kx
  have a4':(ps.length:Int)=(q.iprops.length:Int):=by omega
  simp -implicitDefEqProofs [-alen,c_spec_AAgree,AR.cells,cu,acall,h206,kx,ri,infoV,cT,cT2,h112,km,al,a4,a4']
  simp only [half] at hil
  refine awp_loop2 (σ:=List T3 × List T3) (fun p=>⟨[(2,.ref 2 0),(43,tripV q.iprops),(44,.int .i64 q.iprops.length),(45,.int .i64 p.1.length)],[(2,.cells (infCells m q.value q.reason ps))]⟩)
    (fun p=>q.iprops=p.1++p.2) (fun p=>p.2.length) ([],q.iprops) (by simp [infCells]) (by simp) ?_
  rintro ⟨pre,post⟩ e LQ hLQ
  simp only at e
  have hT:∀ d,kill d (tripV q.iprops)=tripV q.iprops:=fun d=>by simp
  cases post with
  | nil =>
    simp only [List.append_nil] at e
    rw [e] at hT ⊢
    have hnl:¬ ((pre.length:Int) < (pre.length:Int)):=by omega
    simp -implicitDefEqProofs [b_spec_AAgree_4,t_spec_AAgree_5]
  | cons z post =>
    have hlen:q.iprops.length=pre.length+(post.length+1):=by rw [e]; simp
    have hlt:(pre.length:Int) < (q.iprops.length:Int):=by omega
    have hlt':pre.length < q.iprops.length:=by omega
    have hz:=a5 z (by rw [e]; simp)
    have hTp:tripV q.iprops=.sl 3 (tr3 q.iprops):=by rw [e]; cases pre <;> rfl
    have g:(tr3 q.iprops)[pre.length]? = some (.agg [.str z.1,.str z.2.1,.str z.2.2]):=by rw [e]; simp [tr3]
    have g':(tr3 q.iprops)[pre.length]'(by simp; omega)=.agg [.str z.1,.str z.2.1,.str z.2.2]:=by rw [List.getElem?_eq_getElem (by simp; omega)] at g; exact Option.some.inj g
    have ew:IntKind.i64.wrap ((pre.length:Int)+1)=(pre.length:Int)+1:=wrap64 (by omega) (by omega)
    have go:=fun st=>hLQ (pre++[z],post) (by rw [e]; simp) (by simp) st
    rw [hTp] at go hT ⊢
    simp -implicitDefEqProofs [-alen,b_spec_AAgree_4,hlt,hlt',g,g',infCells,al,cT2]
    refine agree_in (m:=m) (v:=q.value) (r:=q.reason) hpl hT ?_
    simp -implicitDefEqProofs [t_spec_AAgree_2,t_spec_AAgree_3,hz,infCells,ew]
    exact go _ (by simp [infCells])
end Wax


namespace Wax
open Go (IntKind)

def AR.rest (r:AR):List KVp:=if r.kind=0 then r.ps.getD [] else r.props.map fun p=>(p.1++46::p.2.1,p.2.2)
theorem prm_rest (r:AR):r.prm=rPs r.reason++r.rest:=rfl
structure FR (r:AR):Prop where
  good:PrGood r
  meth:mKw r.meth=true
  low:lowS r.meth=r.meth
  val:mKw r.value=true
  rs:r.reason=[]∨VR [] r.reason (fmtV r.reason)
  key:∀ p∈r.rest,p.1 ≠ qReason∧p.2 ≠ []∧KP p
  nd:(r.prm.map (·.1)).Nodup
  ip:r.rest.map split3=r.iprops
def ppl (r:AR):List KVp:=((sortB ((r.pr.fm.map (·.1)).filter (· ≠ qReason))).filter fun k=>decide (lookP r.pr.fm k ≠ [])).map fun k=>(k,lookP r.pr.fm k)
theorem rest_nd {r:AR} (F:FR r):(r.rest.map (·.1)).Nodup:=by
  have:=F.nd
  rw [prm_rest,List.map_append,List.nodup_append] at this
  exact this.2.1
theorem ppl_mem {r:AR} (F:FR r) {p:KVp}:p∈ppl r ↔ p∈r.rest:=by
  simp only [ppl,List.mem_map,List.mem_filter,decide_eq_true_eq,sortB,List.mem_mergeSort]
  constructor
  · rintro ⟨k,⟨⟨_,hk⟩,hv⟩,rfl⟩
    have:=F.good.keys _ (lookP_kv hv) hv
    rw [prm_rest,List.mem_append] at this
    rcases this with h | h
    · unfold rPs at h
      split at h
      · simp at h
      · simp only [List.mem_singleton,Prod.mk.injEq] at h
        exact absurd h.1 hk
    · exact h
  · intro hp
    obtain ⟨k1,k2,_⟩:=F.key p hp
    have h1:lookP r.prm p.1=p.2:=lookP_mem F.nd (by rw [prm_rest]; exact List.mem_append_right _ hp)
    have h2:lookP r.pr.fm p.1=p.2:=by rw [F.good.look,h1]
    have h3:lookP r.pr.fm p.1 ≠ []:=by rw [h2]; exact k2
    exact ⟨p.1,⟨⟨⟨_,lookP_kv h3,rfl⟩,k1⟩,h3⟩,by rw [h2]⟩
theorem ppl_nd {r:AR} (F:FR r):(ppl r).Nodup:=by
  refine nd_of_keys ?_
  have e:(ppl r).map (·.1)=(sortB ((r.pr.fm.map (·.1)).filter (· ≠ qReason))).filter fun k=>decide (lookP r.pr.fm k ≠ []):=by simp [ppl,Function.comp_def]
  rw [e]
  refine List.Pairwise.filter _ ?_
  have:(sortB ((r.pr.fm.map (·.1)).filter (· ≠ qReason))).Perm ((r.pr.fm.map (·.1)).filter (· ≠ qReason)):=List.mergeSort_perm _ _
  exact this.nodup_iff.2 (List.Pairwise.filter _ F.good.nd)
theorem ppl_perm {r:AR} (F:FR r):(ppl r).Perm r.rest:=(List.perm_ext_iff_of_nodup (ppl_nd F) (nd_of_keys (rest_nd F))).2 fun _=>ppl_mem F
theorem ppl_kp {r:AR} (F:FR r):∀ p∈ppl r,KP p:=fun p hp=>(F.key p ((ppl_mem F).1 hp)).2.2
def re (r:AR):L8:=if r.reason=[]∧ppl r=[] then [32] else []
theorem re_or (r:AR):re r=[]∨re r=[32]:=by unfold re; split <;> simp
theorem fPart_rText {r:AR} (F:FR r):fPart r.pr=59::(rText r.meth r.value r.reason (ppl r)++re r):=by
  have hlr:lookP r.pr.fm qReason=r.reason:=by
    rw [F.good.look,prm_rest,look_rPs]
    by_cases h:r.reason=[]
    · simp only [h,ne_eq,not_true_eq_false,and_false,if_false]
      by_cases hl:lookP r.rest qReason=[]
      · exact hl
      · exact absurd rfl (F.key _ (lookP_kv hl)).1
    · simp [h]
  have hks:((fmKeys r.pr.fm).filter fun k=>decide (lookP r.pr.fm k ≠ []))=(if r.reason=[] then [] else [qReason])++(sortB ((r.pr.fm.map (·.1)).filter (· ≠ qReason))).filter fun k=>decide (lookP r.pr.fm k ≠ []):=by
    unfold fmKeys
    rw [List.filter_append,hlr]
    congr 1
    split
    · rfl
    · rename_i h
      simp [hlr,h]
  have hw:((fmKeys r.pr.fm).filter fun k=>decide (lookP r.pr.fm k ≠ [])).map (fmWord r.pr.fm)=(if r.reason=[] then [] else [qReason++61::fmtV r.reason])++(ppl r).map fmw:=by
    rw [hks,List.map_append]
    congr 1
    · split
      · rfl
      · simp [fmWord,hlr]
    · unfold ppl
      rw [List.map_map]
      refine List.map_congr_left fun k hk=>?_
      simp only [sortB,List.mem_filter,List.mem_mergeSort,decide_eq_true_eq] at hk
      simp only [fmWord,Function.comp,fmw,if_neg hk.1.2]
  have hf:32::fmtPs r.pr.fm=((if r.reason=[] then [] else 32::(qReason++61::fmtV r.reason))++(ppl r).flatMap (fun p=>32::fmw p))++re r:=by
    unfold fmtPs
    rw [hw,joinW_flat]
    unfold re
    by_cases h1:r.reason=[]
    · by_cases h2:ppl r=[]
      · simp [h1,h2]
      · simp [h1,h2,List.flatMap_map]
    · simp [h1,List.flatMap_map]
  simp only [fPart,F.good.meth,F.good.val,hf,rText]
  simp
def infOf (r:AR):Inf:=⟨r.meth,r.value,r.reason,(ppl r).map split3⟩
theorem tail_end (l:List AR):(l.map AR.pr).flatMap fPart=[]∨((l.map AR.pr).flatMap fPart).head? = some 59:=by
  cases l with
  | nil=>exact .inl rfl
  | cons r l=>exact .inr rfl
theorem aLoop_read:∀ (l:List AR) (n k:Nat) (acc:List Inf),(∀ r∈l,FR r)→l.length < n→aLoop n k acc ((l.map AR.pr).flatMap fPart)=some (acc++l.map infOf,true)
  | [],n+1,k,acc,_,_=>by simp [aLoop]
  | [],0,_,_,_,h=>by simp at h
  | r::l,0,_,_,_,h=>by simp at h
  | r::l,n+1,k,acc,hF,hn=>by
    have F:=hF r (by simp)
    have ih:=aLoop_read l n (k+1) (acc++[infOf r]) (fun q hq=>hF q (by simp [hq])) (by simp at hn; omega)
    have hrest:=tail_end l
    have hi:=aInfo_read F.meth F.val F.rs (ppl_kp F) (re_or r) hrest
    simp only [List.map_cons,List.flatMap_cons]
    rw [fPart_rText F]
    simp only [List.cons_append,List.append_assoc,aLoop,if_true,hi]
    rw [if_neg (by simp)]
    simp only [Bool.false_eq_true,if_false]
    have:(⟨r.meth,r.value,r.reason,(ppl r).map split3⟩:Inf)=infOf r:=rfl
    rw [this,ih]
    simp
theorem field_read {i:L8} (hi:aPlain i=true) {l:List AR} (hF:∀ r∈l,FR r):aField (fText i (l.map AR.pr))=some (⟨i,[],l.map infOf⟩,true):=by
  cases l with
  | nil=>exact none_field hi
  | cons r l =>
    have e:fText i ((r::l).map AR.pr)=i++((r::l).map AR.pr).flatMap fPart:=by simp [fText]
    have hh:(((r::l).map AR.pr).flatMap fPart).head? = some 59:=rfl
    obtain ⟨h1,h2,h3⟩:=id_read hi hh
    have hlen:(r::l).length < (((r::l).map AR.pr).flatMap fPart).length+1:=by
      have:∀ l:List AR,l.length≤((l.map AR.pr).flatMap fPart).length:=by
        intro l
        induction l with
        | nil=>simp
        | cons q l ih=>simp only [List.map_cons,List.flatMap_cons,List.length_append,List.length_cons,fPart]; omega
      have:=this (r::l)
      omega
    have hl:=aLoop_read (r::l) _ 0 [] hF hlen
    rw [e]
    unfold aField
    rw [h1]
    simp only [h2,Bool.true_eq_false,if_false,List.drop_left,h3]
    rw [if_pos (.inr hh)]
    unfold aRest
    rw [hl]; simp
end Wax


namespace Wax
open Go (IntKind)

theorem val_kw {v:L8} (h:aVals.contains v=true):mKw v=true:=by
  simp only [aVals,List.contains_cons,List.contains_nil,Bool.or_false,Bool.or_eq_true,beq_iff_eq] at h
  rcases h with h | h | h | h | h | h | h | h | h <;> subst h <;> decide
theorem meth_kw {r:AR} (h:1≤r.kind∧r.kind≤7):mKw r.meth=true:=by
  have:r.kind=1∨r.kind=2∨r.kind=3∨r.kind=4∨r.kind=5∨r.kind=6∨r.kind=7:=by omega
  rcases this with h | h | h | h | h | h | h
  · rw [show r.meth=sAuth by simp only [AR.meth,h]; rfl]; decide
  · rw [show r.meth=sDkim by simp only [AR.meth,h]; rfl]; decide
  · rw [show r.meth=sDomk by simp only [AR.meth,h]; rfl]; decide
  · rw [show r.meth=sIprev by simp only [AR.meth,h]; rfl]; decide
  · rw [show r.meth=sSender by simp only [AR.meth,h]; rfl]; decide
  · rw [show r.meth=sSpf by simp only [AR.meth,h]; rfl]; decide
  · rw [show r.meth=sDmarc by simp only [AR.meth,h]; rfl]; decide
theorem tok_okQ {s:L8} (h:mTok s=true):okQ s:=fun x hx=>(tkC_okQ (tok_tk h x hx)).1
theorem cut_join {t n:L8} (h:46 ∉ t):cutAt 46 (t++46::n)=some (t,n):=by
  have hno:noB (46:UInt8).toNat t:=fun x hx e=>h (by
    have:x=46:=UInt8.toNat_inj.1 (by exact_mod_cast e)
    rw [← this]; exact hx)
  exact cutAt_noB (c:=46) hno
theorem props_kw {r:AR}:∀ p∈r.props,mKw p.1=true:=by
  intro p hp
  unfold AR.props at hp
  repeat' split at hp
  all_goals
    simp only [List.mem_cons,List.not_mem_nil,or_false] at hp
    try (rcases hp with rfl | rfl | rfl)
    try (rcases hp with rfl | rfl)
    try subst hp
  all_goals try (first | exact (show mKw tSmtp=true by decide) | exact (show mKw tHeader=true by decide) | exact (show mKw tPolicy=true by decide))
theorem dot_tok {a b:L8} (ha:mKw a=true) (hb:mKw b=true):∀ x∈a++46::b,tokB x=true:=by
  intro x hx
  simp only [List.mem_append,List.mem_cons] at hx
  rcases hx with hx | rfl | hx
  · exact (kw_toks ha).1 x hx
  · decide
  · exact (kw_toks hb).1 x hx
theorem kp_prop {r:AR} {p:T3} (hp:p∈r.props) (hn:mKw p.2.1=true) (hl:lowS p.2.1=p.2.1) (hv:VR [64,58] p.2.2 (fmtP p.2.2)):KP (p.1++46::p.2.1,p.2.2)∧split3 (p.1++46::p.2.1,p.2.2)=p:=by
  obtain ⟨ht,h46,_⟩:=props_t p hp
  have hc:=cut_join (n:=p.2.1) h46
  refine ⟨⟨dot_tok (props_kw p hp) hn,⟨_,hc,props_kw p hp,(kw_toks hn).2⟩,?_,hv⟩,?_⟩
  · have:lowS (p.1++46::p.2.1)=lowS p.1++46::lowS p.2.1:=by simp [lowS,lowB]
    rw [this,ht.2.2,hl]
    exact key_ne_reason
  · simp [split3,halfP,hc]
theorem fit_FR {r:AR} (hf:aFit1 r=true) (hm:aMute1 r=true):FR r:=by
  obtain ⟨P,_,hlow,_⟩:=fit_parts hf
  have G:=pr_good hf hm
  have hk:=kind_cases hf
  have hff:=hf
  simp only [aFit1,Bool.and_eq_true,decide_eq_true_eq,Bool.or_eq_true] at hff
  obtain ⟨⟨⟨⟨f1,f2⟩,f3⟩,f4⟩,f5⟩:=hff
  have hrs:r.reason=[]∨VR [] r.reason (fmtV r.reason):=by
    rcases f4 with h | h
    · exact .inl h
    · exact .inr (fmtV_read (.inl rfl) (tok_ne h) (tok_okQ h))
  by_cases h0:r.kind=0
  · rw [if_pos h0] at f5
    simp only [Bool.and_eq_true,decide_eq_true_eq] at f5
    obtain ⟨⟨⟨⟨⟨⟨m1,m2⟩,m3⟩,m4⟩,m5⟩,m6⟩,m7⟩:=f5
    have hm0:r.meth=r.method:=by simp only [AR.meth,h0,if_true]
    have hrest:r.rest=r.ps.getD []:=by simp only [AR.rest,h0,if_true]
    refine ⟨G,by rw [hm0]; exact m1,hlow,val_kw f1,hrs,fun p hp=>?_,P.nd,?_⟩
    · rw [hrest] at hp
      obtain ⟨a,b⟩:=gFit_plain _ _ m7 p hp
      obtain ⟨_,c2,⟨q,c3,c4,c5⟩,_⟩:=(gFit_spec _ _ m7).1 p hp
      have hne:=(plain_tk a).2
      refine ⟨b,hne,⟨?_,⟨q,c3,c4,(kw_toks c5).2⟩,by rw [c2]; exact b,fmtP_read hne (plain_okQ a) (.inl a)⟩⟩
      rw [cut_mem (c:=46) c3]
      exact dot_tok c4 c5
    · rw [hrest]; simp only [AR.iprops,h0,if_true]; rfl
  · rw [if_neg h0] at f5
    have hrest:r.rest=r.props.map fun p=>(p.1++46::p.2.1,p.2.2):=by simp only [AR.rest,if_neg h0]
    have hp5:∀ p∈r.props,KP (p.1++46::p.2.1,p.2.2)∧split3 (p.1++46::p.2.1,p.2.2)=p∧p.2.2 ≠ []:=by
      intro p hp
      have h5:=List.all_eq_true.1 f5 p hp
      simp only [Bool.and_eq_true,decide_eq_true_eq] at h5
      have hne:=(plain_tk h5.1.1).2
      obtain ⟨a,b⟩:=kp_prop hp h5.1.2 h5.2 (fmtP_read hne (plain_okQ h5.1.1) (.inl h5.1.1))
      exact ⟨a,b,hne⟩
    refine ⟨G,meth_kw (by omega),hlow,val_kw f1,hrs,fun p hp=>?_,P.nd,?_⟩
    · rw [hrest] at hp
      obtain ⟨q,hq,rfl⟩:=List.mem_map.1 hp
      obtain ⟨a,b,c⟩:=hp5 q hq
      exact ⟨key_ne_reason,c,a⟩
    · rw [hrest,List.map_map]
      simp only [AR.iprops,if_neg h0]
      conv=>rhs; rw [← List.map_id r.props]
      exact List.map_congr_left fun p hp=>(hp5 p hp).2.1
theorem cnt_one:∀ {l:List T3} {p:T3},l.Nodup→p∈l→cnt p l=1
  | q::l,p,hn,hp=>by
    rw [List.nodup_cons] at hn
    have h0:∀ {l:List T3} {p:T3},p ∉ l→cnt p l=0:=by
      intro l p h
      simp only [cnt,List.length_eq_zero_iff,List.filter_eq_nil_iff,decide_eq_true_eq]
      intro x hx e
      exact h (e ▸ hx)
    have e:cnt p (q::l)=cnt p [q]+cnt p l:=cnt_app p [q] l
    rw [e]
    by_cases h:p=q
    · subst h
      rw [h0 hn.1]; simp [cnt]
    · have hp2:p∈l:=by
        rcases List.mem_cons.1 hp with h2 | h2
        · exact absurd h2 h
        · exact h2
      rw [cnt_one hn.2 hp2]; simp [cnt,h]
theorem ip_nd {r:AR} (F:FR r):r.iprops.Nodup:=by
  rw [← F.ip]
  have h:=rest_nd F
  have h2:r.rest.Pairwise fun a b=>a.1 ≠ b.1:=List.pairwise_map.1 h
  refine List.pairwise_map.2 ?_
  refine List.Pairwise.imp_of_mem ?_ h2
  intro a b ha hb hab e
  obtain ⟨q,c1,_⟩:=(F.key a ha).2.2.cut
  obtain ⟨q',c2,_⟩:=(F.key b hb).2.2.cut
  simp only [split3,halfP,c1,c2,Prod.mk.injEq] at e
  apply hab
  rw [cut_mem (c:=46) c1,cut_mem (c:=46) c2,e.1,e.2.1]
theorem fr_agrees {r:AR} (F:FR r):agrees r.meth r.value r.reason ((ppl r).map split3) r:=by
  have hp:((ppl r).map split3).Perm r.iprops:=by rw [← F.ip]; exact (ppl_perm F).map _
  refine ⟨F.low,rfl,rfl,hp.length_eq,fun p hpm=>?_⟩
  have:cnt p ((ppl r).map split3)=cnt p r.iprops:=(hp.filter _).length_eq
  rw [this]
  exact cnt_one (ip_nd F) hpm
theorem k_agree {r:AR} (F:FR r) (hs:r.small) (hm:r.meth.length < big):con_AAgree [(infOf r).V,.agg r.cells]=some (.bool true):=by
  have hp:((ppl r).map split3).Perm r.iprops:=by rw [← F.ip]; exact (ppl_perm F).map _
  simp only [Inf.V,infOf,con_AAgree,slTr_tripV,asAR_cells]
  exact if_pos ⟨rfl,hm,by rw [hp.length_eq]; exact hs.2.1,hs,fr_agrees F⟩
theorem fPart_len2 {r:AR} (F:FR r):(fPart r.pr).length≤2 * (100+4 * r.bulk):=by
  have h2:=prm_len r
  have hs:((ppl r).map fun p:KVp=>kvSz p+4).sum=(r.rest.map fun p:KVp=>kvSz p+4).sum:=((ppl_perm F).map _).sum_nat
  have h1:∀ l:List KVp,(l.flatMap (fun p=>32::fmw p)).length≤2 * (l.map fun p:KVp=>kvSz p+4).sum:=by
    intro l
    induction l with
    | nil=>simp
    | cons p l ih =>
      have:=fmtP_len p.2
      simp only [List.flatMap_cons,List.length_append,List.length_cons,List.map_cons,List.sum_cons,fmw,kvSz] at ih ⊢
      omega
  have h3:=h1 (ppl r)
  have h4:prmSz r.prm=prmSz (rPs r.reason)+(r.rest.map fun p:KVp=>kvSz p+4).sum:=by rw [prm_rest,prmSz_app]; rfl
  have h5:(if r.reason=[] then ([]:L8) else 32::(qReason++61::fmtV r.reason)).length≤2 * prmSz (rPs r.reason):=by
    have:=fmtV_len r.reason
    unfold rPs
    split
    · simp
    · simp only [prmSz,kvSz,List.map_cons,List.map_nil,List.sum_cons,List.sum_nil,List.length_cons,List.length_append,qReason,List.length_nil]
      omega
  have h6:(re r).length≤1:=by unfold re; split <;> simp
  rw [fPart_rText F]
  simp only [rText,List.length_cons,List.length_append]
  omega
theorem fText_len2 (i:L8) (l:List AR) (h:∀ r∈l,FR r):(fText i (l.map AR.pr)).length≤i.length+2 * (l.map fun r=>100+4 * r.bulk).sum+6:=by
  have:((l.map AR.pr).flatMap fPart).length≤2 * (l.map fun r=>100+4 * r.bulk).sum:=by
    induction l with
    | nil=>simp
    | cons r l ih =>
      have h1:=fPart_len2 (h r (by simp))
      have h2:=ih fun q hq=>h q (by simp [hq])
      simp only [List.map_cons,List.flatMap_cons,List.length_append,List.sum_cons]
      omega
  simp only [fText]
  split
  · simp only [List.length_append,List.length_cons,List.length_nil]; omega
  · simp only [List.length_append]; omega
theorem law_fmt1 {i:L8} {l:List AR} (L:LawAR l) (hf:aFits (l.map AR.only)=true) (hm:(l.map AR.only).all aMute1=true) (hq:i.length+(l.map fun r=>r.bulk+1).sum≤2097152) :
    con_AFormat [.str i,arV (l.map AR.only)]=some (.str (fText i ((l.map AR.only).map AR.pr)))∧(fText i ((l.map AR.only).map AR.pr)).length < qtr:=by
  have hsz:=(law_sz L hf).1
  have hff:=hf
  simp only [aFits,Bool.and_eq_true,List.all_eq_true] at hff hm
  have hb:∀ r∈l.map AR.only,r.bulk≤2097152:=by
    intro r hr
    obtain ⟨q,hq2,rfl⟩:=List.mem_map.1 hr
    have h1:=only_bulk q
    have h2:=mem_sum (f:=fun r:AR=>r.bulk+1) hq2
    omega
  have hlen:=fText_len2 i (l.map AR.only) fun r hr=>fit_FR (hff.1 r hr) (hm r hr)
  have hso:=sum_only l
  have hT:(fText i ((l.map AR.only).map AR.pr)).length < qtr:=by simp only [qtr]; omega
  refine ⟨?_,hT⟩
  simp only [con_AFormat,slAR_arV]
  exact if_pos ⟨hsz.1,hsz.2,fun r hr=>fit_fmOk (hff.1 r hr) (hm r hr) (hsz.2 r hr) (hb r hr),by simp only [qtr] at hT; simp only [mid]; omega⟩
def con_FnAuthFormats:List AV→Option AV
  | [.str i,u]=>match slAR u with
    | some l=>if i.length < 9223372036854775808∧(l.length < 9223372036854775808∧∀ r∈l,(r.ps.getD []).length < 9223372036854775808)∧i.length+(l.map fun r=>r.bulk+1).sum≤2097152 then some (.bool true) else none
    | _=>none
  | _=>none
set_option maxRecDepth 100000 in
set_option maxHeartbeats 8000000 in
theorem ok_FnAuthFormats (Γ:Gam) (h213:Γ.fn 213=con_zzFits1) (h214:Γ.fn 214=con_only) (h204:Γ.fn 204=con_APlain) (h215:Γ.fn 215=con_AFits) (h248:Γ.fn 248=con_AMute) (h233:Γ.fn 233=con_AFormat) (h234:Γ.fn 234=con_ARead) (h249:Γ.fn 249=con_AAgree) (h137:Γ.fn 137=con_awake) :
    ∀ args r,con_FnAuthFormats args=some r→runs Γ c_laws_FnAuthFormats args (fun v=>v=r):=by
  intro args r h
  simp only [con_FnAuthFormats] at h
  split at h <;> (try simp at h; done)
  rename_i i u
  split at h <;> (try simp at h; done)
  rename_i l hl
  obtain ⟨⟨h1,⟨h2,h3⟩,hq⟩,rfl⟩:=ite_some h
  clear h
  have k6:con_awake []=some (.bool true):=rfl
  have alS:∀ (hp:List (Nat × AObj)) (s:L8),alen hp 0 (.str s)=some s.length:=fun _ _=>rfl
  have uk:=sar_kill hl
  have us:=sar_snapW hl
  have ur:=sar_ref hl
  have k1:=k_fit1 hl h2 h3
  by_cases b1:(2147483647:Int) < (i.length:Int)
  · simp -implicitDefEqProofs [-alen,c_laws_FnAuthFormats,alS,b1,uk,us,ur]
  cases b2:fit1 l with
  | false =>
    rw [b2] at k1
    simp -implicitDefEqProofs [-alen,c_laws_FnAuthFormats,alS,b1,uk,us,ur,acall,h213,k1]
  | true =>
    rw [b2] at k1
    have L:=lawAR b2
    have ko:=k_only hl L
    have kf:=k_fits L
    have kp:=plain_con (s:=i) (by simp only [mid]; omega)
    have hA:=slAR_arV (l.map AR.only)
    have vr:=sar_ref hA
    have vk:=sar_kill hA
    have vs:=sar_snapW hA
    cases b4:aPlain i with
    | false =>
      rw [b4] at kp
      simp -implicitDefEqProofs [-alen,c_laws_FnAuthFormats,alS,b1,uk,us,ur,acall,h213,k1,h214,ko,vr,vk,vs,h204,kp]
    | true =>
      rw [b4] at kp
      cases b5:aFits (l.map AR.only) with
      | false =>
        rw [b5] at kf
        simp -implicitDefEqProofs [-alen,c_laws_FnAuthFormats,alS,b1,uk,us,ur,acall,h213,k1,h214,ko,vr,vk,vs,h204,kp,h215,kf]
      | true =>
        rw [b5] at kf
        have km:=law_mute L b5 (by omega)
        cases b6:(l.map AR.only).all aMute1 with
        | false =>
          rw [b6] at km
          simp -implicitDefEqProofs [-alen,c_laws_FnAuthFormats,alS,b1,uk,us,ur,acall,h213,k1,h214,ko,vr,vk,vs,h204,kp,h215,kf,h248,km]
        | true =>
          rw [b6] at km
          obtain ⟨kt,hT⟩:=law_fmt1 (i:=i) L b5 b6 hq
          generalize eT:fText i ((l.map AR.only).map AR.pr)=T at kt hT
          have b5':=b5
          simp only [aFits,Bool.and_eq_true,List.all_eq_true,decide_eq_true_eq] at b5' b6
          have hF:∀ r∈l.map AR.only,FR r:=fun r hr=>fit_FR (b5'.1 r hr) (b6 r hr)
          have hsz:=(law_sz L b5).1
          have hbk:∀ r∈l.map AR.only,r.bulk≤2097152:=by
            intro r hr
            obtain ⟨q,hq2,rfl⟩:=List.mem_map.1 hr
            have g1:=only_bulk q
            have g2:=mem_sum (f:=fun r:AR=>r.bulk+1) hq2
            omega
          have kag:∀ r∈l.map AR.only,con_AAgree [(infOf r).V,.agg r.cells]=some (.bool true):=fun r hr=>by
            refine k_agree (hF r hr) (fit_small (b5'.1 r hr) (hsz.2 r hr) (hbk r hr)) ?_
            have g1:=meth_len r
            have g2:=hbk r hr
            simp only [AR.bulk] at g2
            simp only [big]; omega
          have kr:con_ARead [.str T]=some (.tup [.agg [.str i,.str [],ifV ((l.map AR.only).map infOf)],.bool true]):=by
            have:aField T=some (⟨i,[],(l.map AR.only).map infOf⟩,true):=by rw [← eT]; exact field_read b4 hF
            simp only [con_ARead,this]
            exact if_pos (by simp only [qtr] at hT; simp only [qrt]; omega)
          have va:=sar_alen hA
          have hlen10:=b5'.2
          have km':=km
          clear b5 b6 b5' hF hsz hbk eT km L
          generalize l.map AR.only=A at *
          have hil:(ifV (A.map infOf))=(ifV (A.map infOf)):=rfl
          have ial:∀ hp,alen hp 1 (ifV (A.map infOf))=some A.length:=fun hp=>by cases A <;> simp [ifV,alen,ifA]
          have ik:∀ d,kill d (ifV (A.map infOf))=ifV (A.map infOf):=fun d=>by cases A <;> simp [ifV,kill]
          have iat:atom (ifV (A.map infOf))=true:=by cases A <;> simp [ifV,atom]
          have ic:cells (ifV (A.map infOf))=[ifV (A.map infOf)]:=by cases A <;> rfl
          simp only [cells] at ic
          have irf:hasRef (ifV (A.map infOf))=false:=by
            have:∀ B:List Inf,hasRefL (ifA B)=false:=fun B=>by induction B <;> simp_all [hasRefL,hasRef]
            cases A with
            | nil=>rfl
            | cons x A=>simp [ifV,hasRef,this]
          simp -implicitDefEqProofs [-alen,c_laws_FnAuthFormats,alS,b1,uk,us,ur,acall,h213,k1,h214,ko,vr,vk,vs,h204,kp,h215,kf,h248,km',h233,kt,h234,kr,ial,ik,iat,ic,irf,va]
          refine awp_loop2 (σ:=List AR × List AR) (fun q=>⟨[(1,arV A),(5,.ref 5 0),(55,.int .i64 A.length),(56,.int .i64 q.1.length)],[(5,.cells [.str i,.str [],ifV (A.map infOf)])]⟩)
            (fun q=>A=q.1++q.2) (fun q=>q.2.length) ([],A) (by simp) (by simp) ?_
          rintro ⟨pre,post⟩ e LQ hLQ
          simp only at e
          cases post with
          | nil =>
            simp only [List.append_nil] at e
            have hnl:¬ ((pre.length:Int) < (pre.length:Int)):=by omega
            subst e
            simp -implicitDefEqProofs [b_laws_FnAuthFormats_1,t_laws_FnAuthFormats_2,acall,h137,k6]
          | cons x post =>
            have hu:arV A=.sl 16 (arA A):=sar_ne hA (by rw [e]; simp)
            have hi5:ifV (A.map infOf)=.sl 5 (ifA (A.map infOf)):=by rw [e]; cases pre <;> rfl
            have hlen:A.length=pre.length+(post.length+1):=by rw [e]; simp
            have hlt:(pre.length:Int) < (A.length:Int):=by omega
            have hlt':pre.length < A.length:=by omega
            have g:(arA A)[pre.length]? = some (.agg x.cells):=by rw [e,arA_app]; exact get_mid (by simp)
            rw [List.getElem?_eq_getElem (by simp; omega)] at g
            have g0:=Option.some.inj g
            have gi:(ifA (A.map infOf))[pre.length]? = some (infOf x).V:=by rw [e]; simp [ifA]
            rw [List.getElem?_eq_getElem (by simp [ifA]; omega)] at gi
            have gi0:=Option.some.inj gi
            have ka:=kag x (by rw [e]; simp)
            have cu:=slP_cells x.ps
            simp only [cells] at cu
            have ci:=trV3_cells (infOf x).ps
            simp only [cells] at ci
            have ew:IntKind.i64.wrap ((pre.length:Int)+1)=(pre.length:Int)+1:=wrap64 (by omega) (by omega)
            have go:=fun st=>hLQ (pre++[x],post) (by rw [e]; simp) (by simp) st
            have ifl:(ifA (A.map infOf)).length=A.length:=by simp [ifA]
            simp only [Inf.V,AR.cells] at gi0 g0 ka
            rw [hu,hi5] at go ⊢
            simp -implicitDefEqProofs [-alen,b_laws_FnAuthFormats_1,hlt,hlt',g0,gi0,cu,ci,ifl,acall,h249,ka,ew]
            exact go _ (by simp)
end Wax


