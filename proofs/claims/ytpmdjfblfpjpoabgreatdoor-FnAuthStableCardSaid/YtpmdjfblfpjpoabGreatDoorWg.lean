/- The machine by which the functions are read, and what is proved of them (part 7): no premise. -/
import Derived.Laws.OwnMore
import Derived.Sort.Grow
import Derived.Sort.EncStr
import Derived.WideShapes
import Derived.SliceStrings
import Derived.OpenShut
import Derived.Lib.LaidTab
import Derived.Deep.SlicePairs
import Derived.ChangeArms
import Derived.Lib.SmallJoins
import Derived.Maps.Own
import Derived.Sort.KeysCollected
import Derived.Test.YtpmdjfblfpjpoabGreatDoorWf
set_option linter.all false
namespace Wax
open Go (IntKind)

def tSmtp:L8:=[115,109,116,112]
def tHeader:L8:=[104,101,97,100,101,114]
def tPolicy:L8:=[112,111,108,105,99,121]
def nAuth:L8:=[97,117,116,104]
def nD:L8:=[100]
def nI:L8:=[105]
def nFrom:L8:=[102,114,111,109]
def nSender:L8:=[115,101,110,100,101,114]
def nIprev:L8:=[105,112,114,101,118]
def nMail:L8:=[109,97,105,108,102,114,111,109]
def nHelo:L8:=[104,101,108,111]
def aVals:List L8:=[[110,111,110,101],[112,97,115,115],[102,97,105,108],[112,111,108,105,99,121],[110,101,117,116,114,97,108],[116,101,109,112,101,114,114,111,114],[112,101,114,109,101,114,114,111,114],[115,111,102,116,102,97,105,108],[104,97,114,100,102,97,105,108]]
def aMeths:List L8:=[sAuth,sDkim,sDomk,sIprev,sSender,sSpf,sDmarc,sArc]

def aPlain (s:L8):Bool:=match cutAt 64 s with
  | none=>mTok s && decide (s.length≤200)
  | some p=>(decide (p.1=[]) || mTok p.1) && mDom p.2 && decide (s.length≤200)
theorem tok_ne {s:L8} (h:mTok s=true):s ≠ []:=by simp only [mTok,Bool.and_eq_true,decide_eq_true_eq] at h; exact h.2
theorem tok_g {s:L8} (h:mTok s=true):gW s:=by
  simp only [mTok,Bool.and_eq_true] at h
  exact fun x hx=>tokB_g (List.all_eq_true.1 h.1 x hx)
theorem kw_g {s:L8} (h:mKw s=true):gW s∧(∀ x∈s,x ≠ 61)∧s ≠ []:=by
  simp only [mKw,Bool.and_eq_true,decide_eq_true_eq] at h
  have hk:=fun x hx=>kwB_g (List.all_eq_true.1 h.1.1.1 x hx)
  exact ⟨fun x hx=>(hk x hx).1,fun x hx=>(hk x hx).2,h.1.1.2⟩
theorem aPlain_g {s:L8} (h:aPlain s=true):gW s∧s ≠ []∧s.length≤200:=by
  unfold aPlain at h
  split at h
  · simp only [Bool.and_eq_true,decide_eq_true_eq] at h
    exact ⟨tok_g h.1,tok_ne h.1,h.2⟩
  · rename_i q hq
    simp only [Bool.and_eq_true,Bool.or_eq_true,decide_eq_true_eq] at h
    have e:=cut_mem (c:=64) hq
    refine ⟨?_,by rw [e]; simp,h.2⟩
    rw [e]
    intro x hx
    simp only [List.mem_append,List.mem_cons] at hx
    rcases hx with hx | rfl | hx
    · rcases h.1.1 with h1 | h1
      · rw [h1] at hx; simp at hx
      · exact tok_g h1 x hx
    · decide
    · exact dom_g h.1.2 x hx

def AR.props (r:AR):List (L8 × L8 × L8) :=
  if r.kind=1 then [(tSmtp,nAuth,r.auth)]
  else if r.kind=2 then [(tHeader,nD,r.domain),(tHeader,nI,r.ident)]
  else if r.kind=3 then [(tHeader,nD,r.domain),(tHeader,nFrom,r.fr),(tHeader,nSender,r.sender)]
  else if r.kind=4 then [(tPolicy,nIprev,r.ip)]
  else if r.kind=5 then [(tHeader,r.hkey,r.hval)]
  else if r.kind=6 then [(tSmtp,nMail,r.fr),(tSmtp,nHelo,r.helo)]
  else if r.kind=7 then [(tHeader,nFrom,r.fr)]
  else []
def AR.only (r:AR):AR :=
  if r.kind=0 then { ar0 with kind:=r.kind,value:=r.value,method:=r.method,ps:=r.ps }
  else if r.kind=1 then { ar0 with kind:=r.kind,value:=r.value,reason:=r.reason,auth:=r.auth }
  else if r.kind=2 then { ar0 with kind:=r.kind,value:=r.value,reason:=r.reason,domain:=r.domain,ident:=r.ident }
  else if r.kind=3 then { ar0 with kind:=r.kind,value:=r.value,reason:=r.reason,domain:=r.domain,fr:=r.fr,sender:=r.sender }
  else if r.kind=4 then { ar0 with kind:=r.kind,value:=r.value,reason:=r.reason,ip:=r.ip }
  else if r.kind=5 then { ar0 with kind:=r.kind,value:=r.value,reason:=r.reason,hkey:=r.hkey,hval:=r.hval }
  else if r.kind=6 then { ar0 with kind:=r.kind,value:=r.value,reason:=r.reason,fr:=r.fr,helo:=r.helo }
  else if r.kind=7 then { ar0 with kind:=r.kind,value:=r.value,reason:=r.reason,fr:=r.fr }
  else { ar0 with kind:=r.kind,value:=r.value,reason:=r.reason }
def gFit:Option L8→List KVp→Bool
  | _,[]=>true
  | prev,p::r=>(match cutAt 46 p.1 with | some q=>mKw q.1 && mKw q.2 | none=>false) && decide (lowS p.1=p.1) && aPlain p.2 && (match prev with | none=>true | some k=>decide (k < p.1)) && gFit (some p.1) r
def aFit1 (r:AR):Bool:=aVals.contains r.value && decide (0≤r.kind) && decide (r.kind≤7) && (decide (r.reason=[]) || mTok r.reason) &&
  (if r.kind=0 then mKw r.method && decide (lowS r.method=r.method) && decide (r.method ≠ sNone0) && decide (r.reason=[]) && decide (r.method.length≤30) && !aMeths.contains r.method && gFit none (r.ps.getD [])
   else r.props.all fun p=>aPlain p.2.2 && mKw p.2.1 && decide (lowS p.2.1=p.2.1))
def aFits (l:List AR):Bool:=l.all aFit1 && decide (l.length≤10)
def AR.norm (r:AR):AR:={ r with ps:=nilO (r.ps.getD []) }

def AR.meth (r:AR):L8:=if r.kind=0 then r.method else aMeths.getD (r.kind - 1).toNat []
def rPs (s:L8):List KVp:=if s=[] then [] else [(qReason,s)]
def AR.prm (r:AR):List KVp:=rPs r.reason++(if r.kind=0 then r.ps.getD [] else r.props.map fun p=>(p.1++46::p.2.1,p.2.2))

theorem lookP_rPs (s:L8) (l:List KVp) (k:L8) (h:k ≠ qReason):lookP (rPs s++l) k=lookP l k:=by
  unfold rPs
  split
  · rfl
  · simp only [List.cons_append,List.nil_append,lookP,if_neg h]
theorem lookP_reason (s:L8) (l:List KVp) (h:qReason ∉ l.map (·.1)):lookP (rPs s++l) qReason=s:=by
  have hn:∀ l:List KVp,qReason ∉ l.map (·.1)→lookP l qReason=[]:=by
    intro l
    induction l with
    | nil=>intro _; rfl
    | cons t l ih =>
      intro h
      simp only [List.map_cons,List.mem_cons,not_or] at h
      simp only [lookP,if_neg h.1]
      exact ih h.2
  unfold rPs
  split
  · rename_i e; subst e; exact hn l h
  · simp [lookP]

theorem val_low {v:L8} (h:aVals.contains v=true):lowS v=v∧gW v∧v ≠ []:=by
  simp only [aVals,List.contains_cons,List.contains_nil,Bool.or_false,Bool.or_eq_true,beq_iff_eq] at h
  rcases h with h | h | h | h | h | h | h | h | h <;> subst h <;> refine ⟨by decide,?_,by decide⟩ <;> simp only [gW] <;> decide
theorem gFit_spec:∀ (l:List KVp) (prev:Option L8),gFit prev l=true→(∀ p∈l,KvOk p∧lowS p.1=p.1∧(∃ q,cutAt 46 p.1=some q∧mKw q.1=true∧mKw q.2=true)∧p.2.length≤200)∧Asc l∧∀ k,prev=some k→∀ p∈l,k < p.1
  | [],_,_=>⟨by simp,by simp [Asc],by simp⟩
  | p::r,prev,h=>by
    simp only [gFit,Bool.and_eq_true,decide_eq_true_eq] at h
    obtain ⟨⟨⟨⟨h1,h2⟩,h3⟩,h4⟩,h5⟩:=h
    obtain ⟨a,b,c⟩:=gFit_spec r (some p.1) h5
    have hq:∃ q,cutAt 46 p.1=some q∧mKw q.1=true∧mKw q.2=true:=by
      split at h1
      · rename_i q hq
        simp only [Bool.and_eq_true] at h1
        exact ⟨q,hq,h1⟩
      · simp at h1
    have hv:=aPlain_g h3
    have hk:KvOk p:=by
      obtain ⟨q,hq,k1,k2⟩:=hq
      have e:=cut_mem (c:=46) hq
      obtain ⟨g1,e1,_⟩:=kw_g k1
      obtain ⟨g2,e2,_⟩:=kw_g k2
      refine ⟨?_,?_,hv.1⟩
      · rw [e]
        intro x hx
        simp only [List.mem_append,List.mem_cons] at hx
        rcases hx with hx | rfl | hx
        · exact g1 x hx
        · decide
        · exact g2 x hx
      · rw [e]
        intro x hx
        simp only [List.mem_append,List.mem_cons] at hx
        rcases hx with hx | rfl | hx
        · exact e1 x hx
        · decide
        · exact e2 x hx
    refine ⟨fun q hq'=>?_,?_,fun k hk' q hq'=>?_⟩
    · rcases List.mem_cons.1 hq' with rfl | hq'
      · exact ⟨hk,h2,hq,hv.2.2⟩
      · exact a q hq'
    · exact List.pairwise_cons.2 ⟨fun q hq'=>c p.1 rfl q hq',b⟩
    · subst hk'
      simp only [decide_eq_true_eq] at h4
      rcases List.mem_cons.1 hq' with rfl | hq'
      · exact h4
      · exact List.lt_trans h4 (c p.1 rfl q hq')


def Reads (r:AR):Prop:=∃ x:PR,prOf r.meth r.value r.prm=.inr x∧x.ar=r.only.norm

theorem reads_Auth {r:AR} (h:r.kind=1):Reads r:=by
  have hm:r.meth=sAuth:=by simp only [AR.meth,h]; rfl
  have hp:r.prm=rPs r.reason++[(qAuth,r.auth)]:=by simp only [AR.prm,AR.props,h]; rfl
  have hr:lookP r.prm qReason=r.reason:=by rw [hp]; exact lookP_reason _ _ (by simp only [List.map_cons,List.map_nil]; decide)
  have hl_qAuth:lookP r.prm qAuth=r.auth:=by rw [hp,lookP_rPs _ _ _ (by decide)]; simp only [lookP]; simp [qAuth]
  refine ⟨.auth r.value r.reason r.auth,?_,?_⟩
  · rw [hm]; simp only [prOf]; rw [if_neg (show ¬ sAuth=sArc by decide),if_pos trivial,hr,hl_qAuth]
  · simp only [PR.ar,AR.only,AR.norm,h,ar0]; rfl

theorem reads_Dkim {r:AR} (h:r.kind=2):Reads r:=by
  have hm:r.meth=sDkim:=by simp only [AR.meth,h]; rfl
  have hp:r.prm=rPs r.reason++[(qD,r.domain),(qI,r.ident)]:=by simp only [AR.prm,AR.props,h]; rfl
  have hr:lookP r.prm qReason=r.reason:=by rw [hp]; exact lookP_reason _ _ (by simp only [List.map_cons,List.map_nil]; decide)
  have hl_qD:lookP r.prm qD=r.domain:=by rw [hp,lookP_rPs _ _ _ (by decide)]; simp only [lookP]; simp [qD,qI]
  have hl_qI:lookP r.prm qI=r.ident:=by rw [hp,lookP_rPs _ _ _ (by decide)]; simp only [lookP]; simp [qD,qI]
  refine ⟨.dkim r.value r.reason r.domain r.ident,?_,?_⟩
  · rw [hm]; simp only [prOf]; rw [if_neg (show ¬ sDkim=sArc by decide),if_neg (show ¬ sDkim=sAuth by decide),if_pos trivial,hr,hl_qD,hl_qI]
  · simp only [PR.ar,AR.only,AR.norm,h,ar0]; rfl

theorem reads_Domk {r:AR} (h:r.kind=3):Reads r:=by
  have hm:r.meth=sDomk:=by simp only [AR.meth,h]; rfl
  have hp:r.prm=rPs r.reason++[(qD,r.domain),(qFrom,r.fr),(qSend,r.sender)]:=by simp only [AR.prm,AR.props,h]; rfl
  have hr:lookP r.prm qReason=r.reason:=by rw [hp]; exact lookP_reason _ _ (by simp only [List.map_cons,List.map_nil]; decide)
  have hl_qD:lookP r.prm qD=r.domain:=by rw [hp,lookP_rPs _ _ _ (by decide)]; simp only [lookP]; simp [qD,qFrom,qSend]
  have hl_qFrom:lookP r.prm qFrom=r.fr:=by rw [hp,lookP_rPs _ _ _ (by decide)]; simp only [lookP]; simp [qD,qFrom,qSend]
  have hl_qSend:lookP r.prm qSend=r.sender:=by rw [hp,lookP_rPs _ _ _ (by decide)]; simp only [lookP]; simp [qD,qFrom,qSend]
  refine ⟨.domk r.value r.reason r.domain r.fr r.sender,?_,?_⟩
  · rw [hm]; simp only [prOf]; rw [if_neg (show ¬ sDomk=sArc by decide),if_neg (show ¬ sDomk=sAuth by decide),if_neg (show ¬ sDomk=sDkim by decide),if_pos trivial,hr,hl_qD,hl_qFrom,hl_qSend]
  · simp only [PR.ar,AR.only,AR.norm,h,ar0]; rfl

theorem reads_Iprev {r:AR} (h:r.kind=4):Reads r:=by
  have hm:r.meth=sIprev:=by simp only [AR.meth,h]; rfl
  have hp:r.prm=rPs r.reason++[(qIprev,r.ip)]:=by simp only [AR.prm,AR.props,h]; rfl
  have hr:lookP r.prm qReason=r.reason:=by rw [hp]; exact lookP_reason _ _ (by simp only [List.map_cons,List.map_nil]; decide)
  have hl_qIprev:lookP r.prm qIprev=r.ip:=by rw [hp,lookP_rPs _ _ _ (by decide)]; simp only [lookP]; simp [qIprev]
  refine ⟨.iprev r.value r.reason r.ip,?_,?_⟩
  · rw [hm]; simp only [prOf]; rw [if_neg (show ¬ sIprev=sArc by decide),if_neg (show ¬ sIprev=sAuth by decide),if_neg (show ¬ sIprev=sDkim by decide),if_neg (show ¬ sIprev=sDomk by decide),if_pos trivial,hr,hl_qIprev]
  · simp only [PR.ar,AR.only,AR.norm,h,ar0]; rfl

theorem reads_Spf {r:AR} (h:r.kind=6):Reads r:=by
  have hm:r.meth=sSpf:=by simp only [AR.meth,h]; rfl
  have hp:r.prm=rPs r.reason++[(qMail,r.fr),(qHelo,r.helo)]:=by simp only [AR.prm,AR.props,h]; rfl
  have hr:lookP r.prm qReason=r.reason:=by rw [hp]; exact lookP_reason _ _ (by simp only [List.map_cons,List.map_nil]; decide)
  have hl_qMail:lookP r.prm qMail=r.fr:=by rw [hp,lookP_rPs _ _ _ (by decide)]; simp only [lookP]; simp [qMail,qHelo]
  have hl_qHelo:lookP r.prm qHelo=r.helo:=by rw [hp,lookP_rPs _ _ _ (by decide)]; simp only [lookP]; simp [qMail,qHelo]
  refine ⟨.spf r.value r.reason r.fr r.helo,?_,?_⟩
  · rw [hm]; simp only [prOf]; rw [if_neg (show ¬ sSpf=sArc by decide),if_neg (show ¬ sSpf=sAuth by decide),if_neg (show ¬ sSpf=sDkim by decide),if_neg (show ¬ sSpf=sDomk by decide),if_neg (show ¬ sSpf=sIprev by decide),if_neg (show ¬ sSpf=sSender by decide),if_pos trivial,hr,hl_qMail,hl_qHelo]
  · simp only [PR.ar,AR.only,AR.norm,h,ar0]; rfl

theorem reads_Dmarc {r:AR} (h:r.kind=7):Reads r:=by
  have hm:r.meth=sDmarc:=by simp only [AR.meth,h]; rfl
  have hp:r.prm=rPs r.reason++[(qFrom,r.fr)]:=by simp only [AR.prm,AR.props,h]; rfl
  have hr:lookP r.prm qReason=r.reason:=by rw [hp]; exact lookP_reason _ _ (by simp only [List.map_cons,List.map_nil]; decide)
  have hl_qFrom:lookP r.prm qFrom=r.fr:=by rw [hp,lookP_rPs _ _ _ (by decide)]; simp only [lookP]; simp [qFrom]
  refine ⟨.dmarc r.value r.reason r.fr,?_,?_⟩
  · rw [hm]; simp only [prOf]; rw [if_neg (show ¬ sDmarc=sArc by decide),if_neg (show ¬ sDmarc=sAuth by decide),if_neg (show ¬ sDmarc=sDkim by decide),if_neg (show ¬ sDmarc=sDomk by decide),if_neg (show ¬ sDmarc=sIprev by decide),if_neg (show ¬ sDmarc=sSender by decide),if_neg (show ¬ sDmarc=sSpf by decide),if_pos trivial,hr,hl_qFrom]
  · simp only [PR.ar,AR.only,AR.norm,h,ar0]; rfl

theorem sort2 (k:L8) (s:L8) (hk:headB k=true):(sortB ((rPs s++[(k,([]:L8))]).map (·.1))).find? headB=some k:=by
  have hq:headB qReason=false:=by decide
  have hmem:∀ y,y∈sortB ((rPs s++[(k,([]:L8))]).map (·.1))→y=k∨headB y=false:=by
    intro y hy
    have:y∈(rPs s++[(k,([]:L8))]).map (·.1):=by simpa [sortB] using hy
    unfold rPs at this
    split at this
    · simp at this; exact .inl this
    · simp at this
      rcases this with rfl | rfl
      · exact .inr hq
      · exact .inl rfl
  have hin:k∈sortB ((rPs s++[(k,([]:L8))]).map (·.1)):=by simp [sortB]
  generalize sortB ((rPs s++[(k,([]:L8))]).map (·.1))=L at *
  cases hf:L.find? headB with
  | none =>
    have:=List.find?_eq_none.1 hf k hin
    rw [hk] at this; simp at this
  | some y =>
    have h1:=List.find?_some hf
    rcases hmem y (List.mem_of_find?_eq_some hf) with rfl | h
    · rfl
    · rw [h] at h1; simp at h1
theorem reads_Sender {r:AR} (h:r.kind=5):Reads r:=by
  have hm:r.meth=sSender:=by simp only [AR.meth,h]; rfl
  have hp:r.prm=rPs r.reason++[(tHeader++46::r.hkey,r.hval)]:=by simp only [AR.prm,AR.props,h]; rfl
  have hne:tHeader++46::r.hkey ≠ qReason:=by
    intro e
    have:=congrArg List.head? e
    simp [tHeader,qReason] at this
  have hr:lookP r.prm qReason=r.reason:=by
    rw [hp]; exact lookP_reason _ _ (by simp only [List.map_cons,List.map_nil,List.mem_singleton]; exact fun e=>hne e.symm)
  have hl:lookP r.prm (tHeader++46::r.hkey)=r.hval:=by rw [hp,lookP_rPs _ _ _ hne]; simp [lookP]
  have hb:headB (tHeader++46::r.hkey)=true:=by
    simp only [headB,tHeader,qHead]
    simp [List.isPrefixOf]
  have hs:sidOf r.prm=(r.hkey,r.hval):=by
    have h2:=sort2 (tHeader++46::r.hkey) r.reason hb
    have e:(rPs r.reason++[(tHeader++46::r.hkey,([]:L8))]).map (·.1)=r.prm.map (·.1):=by rw [hp]; simp
    rw [e] at h2
    simp only [sidOf,h2,hl]
    rfl
  refine ⟨.sender r.value r.reason r.hkey r.hval,?_,?_⟩
  · rw [hm]; simp only [prOf]; rw [if_neg (show ¬ sSender=sArc by decide),if_neg (show ¬ sSender=sAuth by decide),if_neg (show ¬ sSender=sDkim by decide),if_neg (show ¬ sSender=sDomk by decide),if_neg (show ¬ sSender=sIprev by decide),if_pos trivial,hr,hs]
  · simp only [PR.ar,AR.only,AR.norm,h,ar0]; rfl

theorem reads_Gen {r:AR} (h:r.kind=0) (hf:aFit1 r=true):Reads r:=by
  simp only [aFit1,Bool.and_eq_true,if_pos h,decide_eq_true_eq] at hf
  obtain ⟨_,⟨⟨⟨⟨⟨⟨m1,m2⟩,m3⟩,m4⟩,m5⟩,m6⟩,m7⟩⟩:=hf
  have hm:r.meth=r.method:=by simp only [AR.meth,h,if_true]
  have hp:r.prm=r.ps.getD []:=by simp only [AR.prm,h,m4,rPs,if_true,List.nil_append]
  have nm:∀ x∈aMeths,r.method ≠ x:=by
    intro x hx e
    have:aMeths.contains r.method=true:=by rw [e]; simpa using hx
    rw [this] at m6; simp at m6
  have hs:sortP (r.ps.getD [])=r.ps.getD []:=(asc_sortP (gFit_spec _ _ m7).2.1 (List.Perm.refl _)).symm
  refine ⟨.gen r.method r.value (r.ps.getD []),?_,?_⟩
  · rw [hm,hp]; simp only [prOf]
    rw [if_neg (nm sArc (by simp [aMeths])),if_neg (nm sAuth (by simp [aMeths])),if_neg (nm sDkim (by simp [aMeths])),if_neg (nm sDomk (by simp [aMeths])),if_neg (nm sIprev (by simp [aMeths])),if_neg (nm sSender (by simp [aMeths])),if_neg (nm sSpf (by simp [aMeths])),if_neg (nm sDmarc (by simp [aMeths]))]
  · simp only [PR.ar,AR.only,AR.norm,h,ar0,hs,if_true]
theorem reads_all {r:AR} (hf:aFit1 r=true):Reads r:=by
  have hk:0≤r.kind∧r.kind≤7:=by
    simp only [aFit1,Bool.and_eq_true,decide_eq_true_eq] at hf
    exact ⟨hf.1.1.1.2,hf.1.1.2⟩
  have:r.kind=0∨r.kind=1∨r.kind=2∨r.kind=3∨r.kind=4∨r.kind=5∨r.kind=6∨r.kind=7:=by omega
  rcases this with h | h | h | h | h | h | h | h
  · exact reads_Gen h hf
  · exact reads_Auth h
  · exact reads_Dkim h
  · exact reads_Domk h
  · exact reads_Iprev h
  · exact reads_Sender h
  · exact reads_Spf h
  · exact reads_Dmarc h
end Wax


namespace Wax
open Go (IntKind)

def aSp (n:Nat):L8:=([[32],[32],[32,32],[9],[13,10,32],[32,9]]:List L8).getD (n % 6) []
theorem aSp_ok (n:Nat):aSp n ≠ []∧allWs (aSp n):=by
  have h:n % 6 < 6:=Nat.mod_lt _ (by omega)
  simp only [aSp]
  generalize n % 6=q at *
  match q,h with
  | 0,_=>exact ⟨by simp,by simp only [allWs]; decide⟩
  | 1,_=>exact ⟨by simp,by simp only [allWs]; decide⟩
  | 2,_=>exact ⟨by simp,by simp only [allWs]; decide⟩
  | 3,_=>exact ⟨by simp,by simp only [allWs]; decide⟩
  | 4,_=>exact ⟨by simp,by simp only [allWs]; decide⟩
  | 5,_=>exact ⟨by simp,by simp only [allWs]; decide⟩
def nx (fm:L8) (k:Nat):Nat:=if fm=[] then 0 else (fm.getD (k % fm.length) 0).toNat

def sepKv (fm:L8):Nat→List KVp→List (L8 × KVp)
  | _,[]=>[]
  | k,p::r=>(aSp (nx fm k),p)::sepKv fm (k+1) r
theorem sepKv_map (fm:L8):∀ (l:List KVp) (k:Nat),(sepKv fm k l).map (·.2)=l
  | [],_=>rfl
  | p::r,k=>by simp [sepKv,sepKv_map fm r (k+1)]
theorem sepKv_mem (fm:L8):∀ (l:List KVp) (k:Nat),∀ p∈sepKv fm k l,(p.1 ≠ []∧allWs p.1)∧p.2∈l
  | [],_,p,h=>by simp [sepKv] at h
  | q::r,k,p,h=>by
    rcases List.mem_cons.1 h with rfl | h
    · exact ⟨aSp_ok _,by simp⟩
    · have:=sepKv_mem fm r (k+1) p h
      exact ⟨this.1,by simp [this.2]⟩
def aPre (n:Nat):L8:=if n % 3=0 then aSp n else []
def aBeh (n:Nat):L8:=if n % 3=0 then [] else aSp n
theorem aPre_ws (n:Nat):allWs (aPre n):=by
  unfold aPre
  split
  · exact (aSp_ok n).2
  · intro x hx; simp at hx
theorem aBeh_ws (n:Nat):allWs (aBeh n):=by
  unfold aBeh
  split
  · intro x hx; simp at hx
  · exact (aSp_ok n).2
def aPart (fm:L8) (k:Nat) (r:AR):L8 × ResT:=(aPre (nx fm (k+1)),⟨aBeh (nx fm (k+2)),(r.meth,r.value),sepKv fm (k+3) r.prm⟩)
def aParts (fm:L8):Nat→List AR→List (L8 × ResT)
  | _,[]=>[]
  | k,r::l=>aPart fm k r::aParts fm (k+2+r.prm.length) l
def aTextOf (i:L8) (l:List AR) (fm:L8):L8:=i++(flatP (aParts fm 0 l)++(if l=[] then 59::(aSp (nx fm 1)++sNone0) else []))

structure PrmOk (l:List KVp):Prop where
  kv:∀ p∈l,KvOk p∧lowS p.1=p.1
  nd:(l.map (·.1)).Nodup
theorem low_kv {l:List KVp} (h:PrmOk l):(l.map fun p=>(lowS p.1,p.2))=l:=by
  conv=>rhs; rw [← List.map_id l]
  refine List.map_congr_left fun p hp=>?_
  rw [(h.kv p hp).2]; rfl

theorem rPs_ok {s:L8} (h:s=[]∨mTok s=true):∀ p∈rPs s,KvOk p∧lowS p.1=p.1∧p.1=qReason:=by
  intro p hp
  unfold rPs at hp
  split at hp
  · simp at hp
  · rename_i hs
    simp only [List.mem_singleton] at hp
    subst hp
    refine ⟨⟨(show gW qReason by simp only [gW]; decide),(show ∀ x∈qReason,x ≠ 61 by decide),?_⟩,(show lowS qReason=qReason by decide),rfl⟩
    rcases h with h | h
    · exact absurd h hs
    · exact tok_g h
theorem prop_kv {t n v:L8} (ht:gW t∧(∀ x∈t,x ≠ 61)∧lowS t=t) (hn:mKw n=true) (hl:lowS n=n) (hv:aPlain v=true):KvOk (t++46::n,v)∧lowS (t++46::n)=t++46::n:=by
  obtain ⟨g,e,_⟩:=kw_g hn
  refine ⟨⟨?_,?_,(aPlain_g hv).1⟩,?_⟩
  · intro x hx
    simp only [List.mem_append,List.mem_cons] at hx
    rcases hx with hx | rfl | hx
    · exact ht.1 x hx
    · decide
    · exact g x hx
  · intro x hx
    simp only [List.mem_append,List.mem_cons] at hx
    rcases hx with hx | rfl | hx
    · exact ht.2.1 x hx
    · decide
    · exact e x hx
  · have:lowS (t++46::n)=lowS t++46::lowS n:=by simp [lowS,lowB]
    rw [this,ht.2.2,hl]
theorem kind_cases {r:AR} (hf:aFit1 r=true):r.kind=0∨r.kind=1∨r.kind=2∨r.kind=3∨r.kind=4∨r.kind=5∨r.kind=6∨r.kind=7:=by
  simp only [aFit1,Bool.and_eq_true,decide_eq_true_eq] at hf
  have:=hf.1.1.1.2
  have:=hf.1.1.2
  omega
theorem smtp_t:gW tSmtp∧(∀ x∈tSmtp,x ≠ 61)∧lowS tSmtp=tSmtp:=⟨by simp only [gW]; decide,by decide,by decide⟩
theorem header_t:gW tHeader∧(∀ x∈tHeader,x ≠ 61)∧lowS tHeader=tHeader:=⟨by simp only [gW]; decide,by decide,by decide⟩
theorem policy_t:gW tPolicy∧(∀ x∈tPolicy,x ≠ 61)∧lowS tPolicy=tPolicy:=⟨by simp only [gW]; decide,by decide,by decide⟩
theorem props_t {r:AR}:∀ p∈r.props,(gW p.1∧(∀ x∈p.1,x ≠ 61)∧lowS p.1=p.1)∧46 ∉ p.1∧p.1 ≠ []:=by
  intro p hp
  unfold AR.props at hp
  repeat' split at hp
  all_goals
    simp only [List.mem_cons,List.not_mem_nil,or_false] at hp
    try (rcases hp with rfl | rfl | rfl)
    try (rcases hp with rfl | rfl)
    try subst hp
  all_goals try (first | exact ⟨smtp_t,(show ¬ 46∈tSmtp by decide),(show tSmtp ≠ [] by decide)⟩ | exact ⟨header_t,(show ¬ 46∈tHeader by decide),(show tHeader ≠ [] by decide)⟩ | exact ⟨policy_t,(show ¬ 46∈tPolicy by decide),(show tPolicy ≠ [] by decide)⟩)
theorem key_ne_reason {t n:L8}:t++46::n ≠ qReason:=by
  intro h
  have:(46:UInt8)∈qReason:=by rw [← h]; simp
  revert this; decide
theorem fit_parts {r:AR} (hf:aFit1 r=true):PrmOk r.prm∧KvOk (r.meth,r.value)∧lowS r.meth=r.meth∧lowS r.value=r.value:=by
  have hk:=kind_cases hf
  simp only [aFit1,Bool.and_eq_true,decide_eq_true_eq,Bool.or_eq_true] at hf
  obtain ⟨⟨⟨⟨f1,f2⟩,f3⟩,f4⟩,f5⟩:=hf
  obtain ⟨v1,v2,v3⟩:=val_low f1
  have hrp:=rPs_ok f4
  by_cases h0:r.kind=0
  · rw [if_pos h0] at f5
    simp only [Bool.and_eq_true,decide_eq_true_eq] at f5
    obtain ⟨⟨⟨⟨⟨⟨m1,m2⟩,m3⟩,m4⟩,m5⟩,m6⟩,m7⟩:=f5
    obtain ⟨g1,g2,_⟩:=kw_g m1
    have hm:r.meth=r.method:=by simp only [AR.meth,h0,if_true]
    have hp:r.prm=r.ps.getD []:=by simp only [AR.prm,h0,m4,rPs,if_true,List.nil_append]
    obtain ⟨a,b,_⟩:=gFit_spec _ _ m7
    rw [hm,hp]
    refine ⟨⟨fun p hp=>⟨(a p hp).1,(a p hp).2.1⟩,?_⟩,⟨g1,g2,v2⟩,m2,v1⟩
    have:((r.ps.getD []).map (·.1)).Pairwise (· < ·):=List.pairwise_map.2 b
    exact this.imp fun h=>fun e=>absurd (e ▸ h) (List.lt_irrefl _)
  · rw [if_neg h0] at f5
    simp only [List.all_eq_true,Bool.and_eq_true,decide_eq_true_eq] at f5
    have hp:r.prm=rPs r.reason++r.props.map fun p=>(p.1++46::p.2.1,p.2.2):=by simp only [AR.prm,if_neg h0]
    have hmk:∀ k:Nat,k < 7→gW (aMeths.getD k [])∧(∀ x∈aMeths.getD k [],x ≠ 61)∧lowS (aMeths.getD k [])=aMeths.getD k []:=by
      intro k hk
      match k,hk with
      | 0,_=>exact ⟨by simp only [gW]; decide,by decide,by decide⟩
      | 1,_=>exact ⟨by simp only [gW]; decide,by decide,by decide⟩
      | 2,_=>exact ⟨by simp only [gW]; decide,by decide,by decide⟩
      | 3,_=>exact ⟨by simp only [gW]; decide,by decide,by decide⟩
      | 4,_=>exact ⟨by simp only [gW]; decide,by decide,by decide⟩
      | 5,_=>exact ⟨by simp only [gW]; decide,by decide,by decide⟩
      | 6,_=>exact ⟨by simp only [gW]; decide,by decide,by decide⟩
    obtain ⟨m,hm7,hmm⟩:∃ m,m < 7∧r.meth=aMeths.getD m []:=by
      refine ⟨(r.kind - 1).toNat,by omega,?_⟩
      simp only [AR.meth,if_neg h0]
    obtain ⟨mg,me,ml⟩:=hmk m hm7
    rw [hmm]
    have hkv:∀ p∈r.prm,KvOk p∧lowS p.1=p.1:=by
      intro p hpm
      rw [hp] at hpm
      rcases List.mem_append.1 hpm with hpm | hpm
      · have:=hrp p hpm; exact ⟨this.1,this.2.1⟩
      · obtain ⟨q,hq,rfl⟩:=List.mem_map.1 hpm
        have hq5:=f5 q hq
        exact prop_kv (props_t q hq).1 hq5.1.2 hq5.2 hq5.1.1
    refine ⟨⟨hkv,?_⟩,⟨mg,me,v2⟩,ml,v1⟩
    have hnd:(r.props.map fun p=>(p.1++46::p.2.1:L8)).Nodup:=by
      unfold AR.props
      repeat' split
      all_goals simp only [List.map_cons,List.map_nil]
      all_goals first | decide | simp
    rw [hp,List.map_append,List.nodup_append]
    refine ⟨?_,by simpa [Function.comp_def] using hnd,?_⟩
    · unfold rPs; split <;> simp
    · intro a ha b hb e
      obtain ⟨q,hq,rfl⟩:=List.mem_map.1 ha
      have hqr:=(hrp q hq).2.2
      rw [List.map_map] at hb
      obtain ⟨z,hz,rfl⟩:=List.mem_map.1 hb
      rw [hqr] at e
      exact key_ne_reason e.symm

theorem aPart_ok {r:AR} (hf:aFit1 r=true) (fm:L8) (k:Nat):allWs (aPart fm k r).1∧(aPart fm k r).2.Ok∧(aPart fm k r).2.prm=r.prm:=by
  obtain ⟨h1,h2,h3,h4⟩:=fit_parts hf
  have hmp:((sepKv fm (k+3) r.prm).map fun p=>(lowS p.2.1,p.2.2))=r.prm:=by
    have:=congrArg (List.map fun p:KVp=>(lowS p.1,p.2)) (sepKv_map fm r.prm (k+3))
    rw [low_kv h1,List.map_map] at this
    exact this
  refine ⟨aPre_ws _,⟨aBeh_ws _,h2,fun p hp=>?_,?_⟩,hmp⟩
  · have:=sepKv_mem fm _ _ p hp
    exact ⟨this.1,(h1.kv _ this.2).1⟩
  · have:=congrArg (List.map fun p:KVp=>p.1) hmp
    rw [List.map_map] at this
    show (List.map _ (sepKv fm (k+3) r.prm)).Nodup
    have e:(sepKv fm (k+3) r.prm).map (fun p=>lowS p.2.1)=r.prm.map (·.1):=this
    rw [e]
    exact h1.nd
theorem aParts_ok:∀ (l:List AR),(∀ r∈l,aFit1 r=true)→∀ (fm:L8) (k:Nat),(∀ p∈aParts fm k l,allWs p.1∧p.2.Ok) ∧
    ∃ xs:List PR,(aParts fm k l).map (fun p=>prOf (lowS p.2.head.1) (lowS p.2.head.2) p.2.prm)=xs.map .inr∧xs.map PR.ar=l.map fun r=>r.only.norm
  | [],_,fm,k=>⟨by simp [aParts],[],by simp [aParts],rfl⟩
  | r::l,h,fm,k=>by
    have hf:=h r (by simp)
    obtain ⟨a1,a2,a3⟩:=aPart_ok hf fm k
    obtain ⟨_,_,h3,h4⟩:=fit_parts hf
    obtain ⟨x,hx,hxa⟩:=reads_all hf
    obtain ⟨b1,xs,b2,b3⟩:=aParts_ok l (fun q hq=>h q (by simp [hq])) fm (k+2+r.prm.length)
    refine ⟨fun p hp=>?_,x::xs,?_,by simp [hxa,b3]⟩
    · rcases List.mem_cons.1 hp with rfl | hp
      · exact ⟨a1,a2⟩
      · exact b1 p hp
    · simp only [aParts,List.map_cons,b2,a3]
      have e1:lowS (aPart fm k r).2.head.1=r.meth:=h3
      have e2:lowS (aPart fm k r).2.head.2=r.value:=h4
      rw [e1,e2,hx]

theorem read_text {i:L8} (hi:aPlain i=true) {l:List AR} (h:aFits l=true) (fm:L8):∃ xs:List PR,adText (aTextOf i l fm)=some (i,xs)∧xs.map PR.ar=l.map fun r=>r.only.norm:=by
  obtain ⟨g1,g2,g3⟩:=aPlain_g hi
  simp only [aFits,Bool.and_eq_true,List.all_eq_true] at h
  obtain ⟨a,xs,b,c⟩:=aParts_ok l h.1 fm 0
  by_cases hl:l=[]
  · subst hl
    simp at c
    subst c
    refine ⟨[],?_,rfl⟩
    obtain ⟨s1,s2⟩:=aSp_ok (nx fm 1)
    have nn:nonWs sNone0:=by simp only [nonWs]; decide
    have hno:noB 59 (aSp (nx fm 1)++sNone0):=noB_app (allWs_no s2) (by simp only [noB]; decide)
    have e:aTextOf i [] fm=i++59::(aSp (nx fm 1)++sNone0):=by simp [aTextOf,aParts,flatP]
    have hw:wordsOf (aSp (nx fm 1)++sNone0)=[sNone0]:=by
      have:=wordsOf_flat (a:=aSp (nx fm 1)) (b:=[]) (w:=sNone0) (l:=[]) s2 (by intro y hy; simp at hy) (by decide) nn (by intro p hp; simp at hp)
      simpa [flatW] using this
    have hw2:=wordsOf_trim (aSp (nx fm 1)++sNone0)
    rw [hw] at hw2
    have hne:trimS (aSp (nx fm 1)++sNone0) ≠ []:=by
      intro e; rw [e] at hw2; simp [wordsOf,wordsGo] at hw2
    have hr:resAOf (trimS (aSp (nx fm 1)++sNone0))=.inr none:=by simp only [resAOf,hw2,if_true]
    have hid:=adId_word g1 g2 (b:=[]) (by intro y hy; simp at hy)
    simp only [List.append_nil] at hid
    simp only [adText,e,splitB_app (b:=59) (gW_no g1),splitB_only (b:=59) hno,hid,adGo,if_neg hne,hr]
  · refine ⟨xs,?_,c⟩
    have e:aTextOf i l fm=i++flatP (aParts fm 0 l):=by simp [aTextOf,hl]
    rw [e]
    exact ad_text (gW_no g1) (fun b hb=>adId_word g1 g2 hb) a b
theorem flatP_plain:∀ (l:List (L8 × ResT)),(∀ p∈l,allWs p.1∧p.2.Ok)→plain (flatP l)=true
  | [],_=>rfl
  | p::r,h=>by
    obtain ⟨h1,h2⟩:=h p (by simp)
    have e:flatP (p::r)=p.1++([59]++(p.2.txt++flatP r)):=by simp [flatP]
    rw [e]
    exact plain_appB (allWs_plain h1) (plain_appB (by decide) (plain_appB h2.pl (flatP_plain r fun q hq=>h q (by simp [hq]))))
theorem text_plain {i:L8} (hi:aPlain i=true) {l:List AR} (h:aFits l=true) (fm:L8):plain (aTextOf i l fm)=true:=by
  obtain ⟨g1,g2,g3⟩:=aPlain_g hi
  simp only [aFits,Bool.and_eq_true,List.all_eq_true] at h
  refine plain_appB (gW_plain g1) (plain_appB (flatP_plain _ (aParts_ok l h.1 fm 0).1) ?_)
  split
  · have e:(59::(aSp (nx fm 1)++sNone0):L8)=[59]++(aSp (nx fm 1)++sNone0):=rfl
    rw [e]
    exact plain_appB (by decide) (plain_appB (allWs_plain (aSp_ok _).2) (by decide))
  · rfl
end Wax


namespace Wax
open Go (IntKind)

@[simp] theorem slP_none:slP none=.nilS:=rfl
def con_AValues:List AV→Option AV
  | []=>some (.sl 1 (strsA aVals))
  | _=>none
theorem ok_AValues (Γ:Gam):∀ args r,con_AValues args=some r→runs Γ c_spec_AValues args (fun v=>v=r):=by
  intro args r h
  cases args <;> simp [con_AValues] at h
  subst h
  simp -implicitDefEqProofs [c_spec_AValues,aVals,snap,resolveA]
def con_AMethods:List AV→Option AV
  | []=>some (.sl 1 (strsA aMeths))
  | _=>none
theorem ok_AMethods (Γ:Gam):∀ args r,con_AMethods args=some r→runs Γ c_spec_AMethods args (fun v=>v=r):=by
  intro args r h
  cases args <;> simp [con_AMethods] at h
  subst h
  simp -implicitDefEqProofs [c_spec_AMethods,aMeths,sAuth,sDkim,sDomk,sIprev,sSender,sSpf,sDmarc,sArc,snap,resolveA]
def con_APlain:List AV→Option AV
  | [.str s]=>if s.length < mid then some (.bool (aPlain s)) else none
  | _=>none
theorem ok_APlain (Γ:Gam) (h102:Γ.fn 102=con_MailHalves) (h104:Γ.fn 104=con_MailToken) (h105:Γ.fn 105=con_MailDomain):∀ args r,con_APlain args=some r→runs Γ c_spec_APlain args (fun v=>v=r):=by
  intro args r h
  simp only [con_APlain] at h
  split at h <;> (try simp at h; done)
  rename_i s
  obtain ⟨hs,rfl⟩:=ite_some h
  clear h
  have hs':s.length < big:=by simp only [mid] at hs; simp only [big]; omega
  have k102:con_MailHalves [.str s,.int .u8 64]=some (cutV 64 s):=if_pos hs'
  have hI:decide ((s.length:Int)≤200)=decide (s.length≤200):=by rw [decide_eq_decide]; omega
  cases hc:cutAt 64 s with
  | none =>
    have k104:con_MailToken [.str s]=some (.bool (mTok s)):=if_pos hs'
    simp only [aPlain,hc]
    cases ht:mTok s with
    | false =>
      rw [ht] at k104
      simp -implicitDefEqProofs [c_spec_APlain,acall,h102,k102,cutV,hc,h104,k104]
    | true =>
      rw [ht] at k104
      simp -implicitDefEqProofs [c_spec_APlain,acall,h102,k102,cutV,hc,h104,k104,hI]
  | some p =>
    obtain ⟨l1,l2⟩:=cutAt_lens hc
    have k104:con_MailToken [.str p.1]=some (.bool (mTok p.1)):=if_pos (by omega)
    have k105:con_MailDomain [.str p.2]=some (.bool (mDom p.2)):=if_pos (by omega)
    simp only [aPlain,hc]
    by_cases hp:p.1=[]
    · cases hd:mDom p.2 with
      | false =>
        rw [hd] at k105
        simp -implicitDefEqProofs [c_spec_APlain,acall,h102,k102,cutV,hc,h104,k104,h105,k105,hp]
      | true =>
        rw [hd] at k105
        simp -implicitDefEqProofs [c_spec_APlain,acall,h102,k102,cutV,hc,h104,k104,h105,k105,hp,hI]
    · cases ht:mTok p.1 with
      | false =>
        rw [ht] at k104
        simp -implicitDefEqProofs [c_spec_APlain,acall,h102,k102,cutV,hc,h104,k104,h105,k105,hp]
      | true =>
        rw [ht] at k104
        cases hd:mDom p.2 with
        | false =>
          rw [hd] at k105
          simp -implicitDefEqProofs [c_spec_APlain,acall,h102,k102,cutV,hc,h104,k104,h105,k105,hp]
        | true =>
          rw [hd] at k105
          simp -implicitDefEqProofs [c_spec_APlain,acall,h102,k102,cutV,hc,h104,k104,h105,k105,hp,hI]

def tr3 (l:List (L8 × L8 × L8)):List AV:=l.map fun p=>.agg [.str p.1,.str p.2.1,.str p.2.2]
def tc3 (l:List (L8 × L8 × L8)):List AV:=l.flatMap fun p=>[.str p.1,.str p.2.1,.str p.2.2]
@[simp] theorem tr3_nil:tr3 []=[]:=rfl
@[simp] theorem tr3_cons {x l}:tr3 (x::l)=.agg [.str x.1,.str x.2.1,.str x.2.2]::tr3 l:=rfl
@[simp] theorem tr3_length {l}:(tr3 l).length=l.length:=by simp [tr3]
@[simp] theorem tc3_nil:tc3 []=[]:=rfl
@[simp] theorem tc3_cons {x:L8 × L8 × L8} {l}:tc3 (x::l)=.str x.1::.str x.2.1::.str x.2.2::tc3 l:=rfl
@[simp] theorem tc3_app {l m}:tc3 (l++m)=tc3 l++tc3 m:=by simp [tc3]
@[simp] theorem tc3_length {l:List (L8 × L8 × L8)}:(tc3 l).length=l.length * 3:=by induction l <;> simp_all; omega
@[simp] theorem atoms_tc3 {l}:atoms (tc3 l)=true:=by induction l <;> simp_all
@[simp] theorem killL_tc3 {d l}:killL d (tc3 l)=tc3 l:=by induction l <;> simp_all
@[simp] theorem map_snap_tc3 {n:Nat} {hp:List (Nat × AObj)} {l}:(tc3 l).map (snap (n+1) hp)=tc3 l:=by induction l <;> simp_all
@[simp] theorem snapWL_tc3 {g:AV→AV} {l}:snapWL g (tc3 l)=tc3 l:=by induction l <;> simp_all
@[simp] theorem hasRefL_tr3 {l}:hasRefL (tr3 l)=false:=by induction l <;> simp_all
@[simp] theorem group_tc3:∀ {l:List (L8 × L8 × L8)},group 3 l.length (tc3 l)=tr3 l
  | []=>rfl
  | x::l=>by simp [group,group_tc3 (l:=l)]
def tripV (l:List (L8 × L8 × L8)):AV:=match l with | []=>.nilS | _=>.sl 3 (tr3 l)

def con_AProps:List AV→Option AV
  | [.agg cs]=>(asAR cs).map fun r=>tripV r.props
  | _=>none
set_option maxHeartbeats 1000000 in
theorem ok_AProps (Γ:Gam):∀ args r,con_AProps args=some r→runs Γ c_spec_AProps args (fun v=>v=r):=by
  intro args r h
  simp only [con_AProps] at h
  split at h <;> (try simp at h; done)
  rename_i cs
  simp only [Option.map_eq_some_iff] at h
  obtain ⟨r,hr,rfl⟩:=h
  rw [asAR_spec hr]
  have cu:=slP_cells r.ps
  simp only [cells] at cu
  by_cases h1:r.kind=1
  · simp -implicitDefEqProofs [c_spec_AProps,AR.cells,cu,h1,AR.props,tripV,group,tSmtp,nAuth]
  by_cases h2:r.kind=2
  · simp -implicitDefEqProofs [c_spec_AProps,AR.cells,cu,h2,AR.props,tripV,group,tHeader,nD,nI]
  by_cases h3:r.kind=3
  · simp -implicitDefEqProofs [c_spec_AProps,AR.cells,cu,h3,AR.props,tripV,group,tHeader,nD,nFrom,nSender]
  by_cases h4:r.kind=4
  · simp -implicitDefEqProofs [c_spec_AProps,AR.cells,cu,h4,AR.props,tripV,group,tPolicy,nIprev]
  by_cases h5:r.kind=5
  · simp -implicitDefEqProofs [c_spec_AProps,AR.cells,cu,h5,AR.props,tripV,group,tHeader]
  by_cases h6:r.kind=6
  · simp -implicitDefEqProofs [c_spec_AProps,AR.cells,cu,h6,AR.props,tripV,group,tSmtp,nMail,nHelo]
  by_cases h7:r.kind=7
  · simp -implicitDefEqProofs [c_spec_AProps,AR.cells,cu,h7,AR.props,tripV,group,tHeader,nFrom]
  simp -implicitDefEqProofs [c_spec_AProps,AR.cells,cu,h1,h2,h3,h4,h5,h6,h7,AR.props,tripV,group]

end Wax


namespace Wax
open Go (IntKind)

def halfP (s:L8):L8 × L8:=match cutAt 46 s with | some q=>q | none=>(s,[])
def AR.iprops (r:AR):List (L8 × L8 × L8):=if r.kind=0 then (r.ps.getD []).map fun p=>((halfP p.1).1,(halfP p.1).2,p.2) else r.props
def infoV (r:AR):AV:=.agg [.str r.meth,.str [],.str r.value,.str r.reason,tripV r.iprops]
def con_AInfoOf:List AV→Option AV
  | [.agg cs]=>match asAR cs with
    | some r=>if 0≤r.kind∧r.kind≤8∧(r.kind=0→(r.ps.getD []).length < half∧(∀ p∈r.ps.getD [],p.1.length < big)) then some (infoV r) else none
    | none=>none
  | _=>none

theorem tripV_ref (l:List (L8 × L8 × L8)):hasRef (tripV l)=false:=by cases l <;> simp [tripV,← tr3_cons,-tr3_cons]
theorem tripV_cells (l:List (L8 × L8 × L8)):cells (tripV l)=[tripV l]:=by cases l <;> rfl
theorem tripV_atom (l:List (L8 × L8 × L8)):atom (tripV l)=true:=by cases l <;> rfl
theorem tripV_kill (l:List (L8 × L8 × L8)) (d:Nat):kill d (tripV l)=tripV l:=by cases l <;> rfl

set_option maxHeartbeats 2000000 in
theorem ok_AInfoOf (Γ:Gam) (h200:Γ.fn 200=con_AMethods) (h201:Γ.fn 201=con_AProps) (h102:Γ.fn 102=con_MailHalves):∀ args r,con_AInfoOf args=some r→runs Γ c_spec_AInfoOf args (fun v=>v=r):=by
  intro args r h
  simp only [con_AInfoOf] at h
  split at h <;> (try simp at h; done)
  rename_i cs
  split at h <;> (try simp at h; done)
  rename_i r hr
  obtain ⟨⟨hk0,hk8,hpk⟩,rfl⟩:=ite_some h
  clear h
  rw [asAR_spec hr]
  clear hr cs
  have cu:=slP_cells r.ps
  simp only [cells] at cu
  by_cases h0:r.kind=0
  · obtain ⟨hps,hkl⟩:=hpk h0
    clear hpk
    have hm:r.meth=r.method:=by simp only [AR.meth,h0,if_true]
    have hi:r.iprops=(r.ps.getD []).map fun p=>((halfP p.1).1,(halfP p.1).2,p.2):=by simp only [AR.iprops,h0,if_true]
    have ha:=slP_alen r.ps
    simp only [infoV,hm,hi]
    have hcase:r.ps.getD []=[]∨r.ps=some (r.ps.getD []):=by cases r.ps <;> simp
    generalize hL:r.ps.getD []=L at *
    simp only [half] at hps
    simp -implicitDefEqProofs [-alen,c_spec_AInfoOf,AR.cells,cu,h0,ha,hL]
    refine awp_loop2 (σ:=List KVp × List KVp) (fun q=>⟨[(2,.ref 2 0),(3,.ref 3 0),(20,slP r.ps),(21,.int .i64 L.length),(22,.int .i64 q.1.length)],grH 41 q.1.length (tc3 (q.1.map fun p=>((halfP p.1).1,(halfP p.1).2,p.2)))++[(3,.cells [.str r.method,.str [],.str r.value,.str r.reason,grV 41 3 q.1.length]),(2,.cells [.str [],.str [],.str [],.str [],.nilS])]⟩)
      (fun q=>L=q.1++q.2) (fun q=>q.2.length) ([],L) (by simp) (by simp) ?_
    rintro ⟨pre,post⟩ e1 LQ hLQ
    simp only at e1
    cases post with
    | nil =>
      simp only [List.append_nil] at e1
      subst e1
      have hnl:¬ ((L.length:Int) < (L.length:Int)):=by omega
      cases L with
      | nil=>simp -implicitDefEqProofs [b_spec_AInfoOf_1,t_spec_AInfoOf_2,tripV]
      | cons x L =>
        have hg:=group_tc3 (l:=(x::L).map fun p=>((halfP p.1).1,(halfP p.1).2,p.2))
        simp only [List.length_map,List.length_cons,List.map_cons,tc3_cons,tr3_cons] at hg
        simp -implicitDefEqProofs [b_spec_AInfoOf_1,t_spec_AInfoOf_2,tripV,hg]
        try omega
    | cons x post =>
      have hs:=hcase.resolve_left (by rw [e1]; simp)
      rw [hs] at hLQ ⊢
      simp only [slP] at hLQ ⊢
      have hlen:L.length=pre.length+(post.length+1):=by rw [e1]; simp
      have hlt:(pre.length:Int) < (L.length:Int):=by omega
      have g:L[pre.length]? = some x:=by rw [e1]; exact get_mid rfl
      have g2:(pr2 L)[pre.length]? = some (.agg [.str x.1,.str x.2]):=by simp [pr2,g]
      have ew:IntKind.i64.wrap ((pre.length:Int)+1)=(pre.length:Int)+1:=wrap64 (by omega) (by omega)
      have k102:con_MailHalves [.str x.1,.int .u8 46]=some (cutV 46 x.1):=if_pos (hkl x (by rw [e1]; simp))
      obtain ⟨z,hz⟩:∃ z:L8 × L8 × AV,cutV 46 x.1=.tup [.str z.1,.str z.2.1,z.2.2]∧halfP x.1=(z.1,z.2.1):=by
        simp only [cutV,halfP]
        cases hc:cutAt 46 x.1 with
        | none=>exact ⟨(x.1,[],.bool false),rfl,rfl⟩
        | some q=>exact ⟨(q.1,q.2,.bool true),rfl,rfl⟩
      rw [hz.1] at k102
      have hz3:hasRef z.2.2=false:=by
        have h1:=hz.1
        simp only [cutV] at h1
        cases hc:cutAt 46 x.1 with
        | none=>rw [hc] at h1; simp at h1; rw [← h1.2.2]; rfl
        | some q=>rw [hc] at h1; simp at h1; rw [← h1.2.2]; rfl
      have f:∀ st,norm [2,3,20,21,22] st=⟨[(2,.ref 2 0),(3,.ref 3 0),(20,.sl 2 (pr2 L)),(21,.int .i64 L.length),(22,.int .i64 ((pre.length:Int)+1))],[(41,.cells (tc3 (pre.map fun p=>((halfP p.1).1,(halfP p.1).2,p.2))++[.str z.1,.str z.2.1,.str x.2])),(3,.cells [.str r.method,.str [],.str r.value,.str r.reason,.msl 41 3 0 (pre.length+1)]),(2,.cells [.str [],.str [],.str [],.str [],.nilS])]⟩→LQ st:=by
        intro st hst
        refine hLQ (pre++[x],post) (by rw [e1]; simp) (by simp) st ?_
        rw [hst]; simp [hz.2]
      cases pre with
      | nil =>
        simp only [List.nil_append] at e1
        subst e1
        have ew0:IntKind.i64.wrap 1=1:=rfl
        have hl0:(0:Int) < (post.length:Int)+1:=by omega
        simp -implicitDefEqProofs [b_spec_AInfoOf_1,hl0,ew0,acall,h102,k102,hz3]
        exact f _ (by simp)
      | cons y pre =>
        have hln2:L.length=pre.length+1+(post.length+1):=hlen
        have hlt1:(pre.length:Int)+1 < (L.length:Int):=by omega
        have g1:L[pre.length+1]? = some x:=g
        have g3:(pr2 L)[pre.length+1]? = some (.agg [.str x.1,.str x.2]):=g2
        have ew1:IntKind.i64.wrap ((pre.length:Int)+1+1)=(pre.length:Int)+1+1:=wrap64 (by omega) (by omega)
        have et:((pre.length:Int)+1).toNat=pre.length+1:=by omega
        have hle:(0:Int)≤(pre.length:Int)+1:=by omega
        have tk:List.take ((pre.length+1) * 3) (AV.str (halfP y.1).1::AV.str (halfP y.1).2::AV.str y.2::tc3 (pre.map fun p=>((halfP p.1).1,(halfP p.1).2,p.2)))=AV.str (halfP y.1).1::AV.str (halfP y.1).2::AV.str y.2::tc3 (pre.map fun p=>((halfP p.1).1,(halfP p.1).2,p.2)):=List.take_of_length_le (by simp; omega)
        simp -implicitDefEqProofs [b_spec_AInfoOf_1,hlt1,g1,g3,ew1,et,hle,acall,h102,k102,hz3,tk]
        exact ⟨⟨by omega,by omega⟩,f _ (by simp)⟩
  · have hi:r.iprops=r.props:=by simp only [AR.iprops,if_neg h0]
    obtain ⟨q,hq,hqm⟩:∃ q:Nat,r.kind - 1=(q:Int)∧aMeths[q]? = some r.meth:=by
      refine ⟨(r.kind - 1).toNat,by omega,?_⟩
      have hlt:(r.kind - 1).toNat < aMeths.length:=by simp [aMeths]; omega
      simp only [AR.meth,if_neg h0,List.getD_eq_getElem?_getD,List.getElem?_eq_getElem hlt,Option.getD_some]
    have ew:IntKind.i64.wrap (r.kind - 1)=(q:Int):=by rw [wrap64 (by omega) (by omega)]; exact hq
    have k200:con_AMethods []=some (.sl 1 (strsA aMeths)):=rfl
    have k201:con_AProps [.agg r.cells]=some (tripV r.props):=by simp [con_AProps,asAR_cells]
    have tr:=tripV_ref r.props
    have tc:=tripV_cells r.props
    have ta:=tripV_atom r.props
    have tk:=tripV_kill r.props
    simp only [cells] at tc
    simp only [infoV,hi]
    generalize tripV r.props=V at *
    generalize hM:aMeths=Ms at *
    generalize r.meth=m at *
    simp only [AR.cells] at k201
    simp -implicitDefEqProofs [c_spec_AInfoOf,t_spec_AInfoOf_3,AR.cells,cu,h0,acall,h200,k200,h201,k201,ew,hqm,tr,tc,ta,tk]

end Wax


namespace Wax
@[simp 2000] theorem guardK_tt {Γ:Gam} {dst:Option Nat} {op:SOp} {g:Nat} {r:List SO} {dd:List (List Nat)} {st:St} {K:St→Prop}:guardK (.bool true) Γ dst op g true r dd st K=opsK Γ (⟨dst,op,none⟩::r) dd ⟨(g,.bool true)::st.fr,st.hp⟩ K:=by simp [guardK]
@[simp 2000] theorem guardK_ff {Γ:Gam} {dst:Option Nat} {op:SOp} {g:Nat} {r:List SO} {dd:List (List Nat)} {st:St} {K:St→Prop}:guardK (.bool false) Γ dst op g false r dd st K=opsK Γ (⟨dst,op,none⟩::r) dd ⟨(g,.bool false)::st.fr,st.hp⟩ K:=by simp [guardK]
@[simp 2000] theorem guardK_tf {Γ:Gam} {dst:Option Nat} {op:SOp} {g:Nat} {r:List SO} {dd:List (List Nat)} {st:St} {K:St→Prop}:guardK (.bool true) Γ dst op g false r dd st K=opsK Γ r (dTl dd) ⟨rmF (dHd dd) (putS ((g,.bool true)::st.fr) dst (.tup [])),st.hp⟩ K:=by simp [guardK]
@[simp 2000] theorem guardK_ft {Γ:Gam} {dst:Option Nat} {op:SOp} {g:Nat} {r:List SO} {dd:List (List Nat)} {st:St} {K:St→Prop}:guardK (.bool false) Γ dst op g true r dd st K=opsK Γ r (dTl dd) ⟨rmF (dHd dd) (putS ((g,.bool false)::st.fr) dst (.tup [])),st.hp⟩ K:=by simp [guardK]
end Wax


namespace Wax
open Go (IntKind)

def arSame (a b:AR):Bool:=decide (a.norm=b.norm)
theorem arSame_iff {a b:AR}:arSame a b=true ↔ a.norm=b.norm:=by simp [arSame]
theorem norm_eq_iff {a b:AR}:a.norm=b.norm ↔ ((a.ps.getD []=b.ps.getD [])∧a.kind=b.kind∧a.method=b.method∧a.value=b.value∧a.reason=b.reason∧a.domain=b.domain∧a.ident=b.ident∧a.fr=b.fr∧a.sender=b.sender∧a.ip=b.ip∧a.helo=b.helo∧a.auth=b.auth∧a.hkey=b.hkey∧a.hval=b.hval∧a.remote=b.remote∧a.oldest=b.oldest):=by
  have hn:nilO (a.ps.getD [])=nilO (b.ps.getD []) ↔ a.ps.getD []=b.ps.getD []:=by
    constructor
    · intro h
      have:=congrArg (fun x=>x.getD []) h
      simpa [nilO_getD] using this
    · intro h; rw [h]
  simp only [AR.norm,AR.mk.injEq,hn]
  constructor
  · rintro ⟨h0,h1,h2,h3,h4,h5,h6,h7,h8,h9,h10,h11,h12,h13,h14,z⟩
    exact ⟨z,h0,h1,h2,h3,h4,h5,h6,h7,h8,h9,h10,h11,h12,h13,h14⟩
  · rintro ⟨z,h0,h1,h2,h3,h4,h5,h6,h7,h8,h9,h10,h11,h12,h13,h14⟩
    exact ⟨h0,h1,h2,h3,h4,h5,h6,h7,h8,h9,h10,h11,h12,h13,h14,z⟩
def con_ASame:List AV→Option AV
  | [.agg x,.agg y]=>match asAR x,asAR y with
    | some a,some b=>if (a.ps.getD []).length < half∧(b.ps.getD []).length < half then some (.bool (arSame a b)) else none
    | _,_=>none
  | _=>none

set_option maxRecDepth 100000 in
set_option maxHeartbeats 4000000 in
theorem as_tail (Γ:Gam) (u v:AV) (a1 b1 a2 b2 a3 b3 a4 b4 a5 b5 a6 b6 a7 b7 a8 b8 a9 b9 a10 b10 a11 b11 a12 b12 a13 b13:L8) (a0 b0 a14 b14:Int) (ex:List (Nat × AV)) (R:Bool) (hR:R=decide (a0=b0∧a1=b1∧a2=b2∧a3=b3∧a4=b4∧a5=b5∧a6=b6∧a7=b7∧a8=b8∧a9=b9∧a10=b10∧a11=b11∧a12=b12∧a13=b13∧a14=b14)) :
    awp Γ t_spec_ASame_2 (finQ [.t 4] fun w=>w=.bool R) ⟨(2,.ptr [.int .i64 a0,.str a1,.str a2,.str a3,.str a4,.str a5,.str a6,.str a7,.str a8,.str a9,.str a10,.str a11,.str a12,.str a13,.int .i64 a14,u])::(3,.ptr [.int .i64 b0,.str b1,.str b2,.str b3,.str b4,.str b5,.str b6,.str b7,.str b8,.str b9,.str b10,.str b11,.str b12,.str b13,.int .i64 b14,v])::ex,[]⟩:=by
  subst hR
  by_cases c0:a0=b0
  case neg=>simp -implicitDefEqProofs [t_spec_ASame_2,c0]
  by_cases c1:a1=b1
  case neg=>simp -implicitDefEqProofs [t_spec_ASame_2,c0,c1]
  by_cases c2:a2=b2
  case neg=>simp -implicitDefEqProofs [t_spec_ASame_2,c0,c1,c2]
  by_cases c3:a3=b3
  case neg=>simp -implicitDefEqProofs [t_spec_ASame_2,c0,c1,c2,c3]
  by_cases c4:a4=b4
  case neg=>simp -implicitDefEqProofs [t_spec_ASame_2,c0,c1,c2,c3,c4]
  by_cases c5:a5=b5
  case neg=>simp -implicitDefEqProofs [t_spec_ASame_2,c0,c1,c2,c3,c4,c5]
  by_cases c6:a6=b6
  case neg=>simp -implicitDefEqProofs [t_spec_ASame_2,c0,c1,c2,c3,c4,c5,c6]
  by_cases c7:a7=b7
  case neg=>simp -implicitDefEqProofs [t_spec_ASame_2,c0,c1,c2,c3,c4,c5,c6,c7]
  by_cases c8:a8=b8
  case neg=>simp -implicitDefEqProofs [t_spec_ASame_2,c0,c1,c2,c3,c4,c5,c6,c7,c8]
  by_cases c9:a9=b9
  case neg=>simp -implicitDefEqProofs [t_spec_ASame_2,c0,c1,c2,c3,c4,c5,c6,c7,c8,c9]
  by_cases c10:a10=b10
  case neg=>simp -implicitDefEqProofs [t_spec_ASame_2,c0,c1,c2,c3,c4,c5,c6,c7,c8,c9,c10]
  by_cases c11:a11=b11
  case neg=>simp -implicitDefEqProofs [t_spec_ASame_2,c0,c1,c2,c3,c4,c5,c6,c7,c8,c9,c10,c11]
  by_cases c12:a12=b12
  case neg=>simp -implicitDefEqProofs [t_spec_ASame_2,c0,c1,c2,c3,c4,c5,c6,c7,c8,c9,c10,c11,c12]
  by_cases c13:a13=b13
  case neg=>simp -implicitDefEqProofs [t_spec_ASame_2,c0,c1,c2,c3,c4,c5,c6,c7,c8,c9,c10,c11,c12,c13]
  by_cases c14:a14=b14
  · simp -implicitDefEqProofs [t_spec_ASame_2,c0,c1,c2,c3,c4,c5,c6,c7,c8,c9,c10,c11,c12,c13,c14]
  · simp -implicitDefEqProofs [t_spec_ASame_2,c0,c1,c2,c3,c4,c5,c6,c7,c8,c9,c10,c11,c12,c13,c14]

set_option maxHeartbeats 2000000 in
theorem ok_ASame (Γ:Gam):∀ args r,con_ASame args=some r→runs Γ c_spec_ASame args (fun v=>v=r):=by
  intro args r h
  simp only [con_ASame] at h
  split at h <;> (try simp at h; done)
  rename_i x y
  split at h <;> (try simp at h; done)
  rename_i a b ha hb
  obtain ⟨⟨la,lb⟩,rfl⟩:=ite_some h
  clear h
  rw [asAR_spec ha,asAR_spec hb]
  clear ha hb x y
  have cua:=slP_cells a.ps
  have cub:=slP_cells b.ps
  simp only [cells] at cua cub
  have lea:=slP_alen a.ps
  have leb:=slP_alen b.ps
  have T:=fun ex R hR=>as_tail Γ (slP a.ps) (slP b.ps) a.method b.method a.value b.value a.reason b.reason a.domain b.domain a.ident b.ident a.fr b.fr a.sender b.sender a.ip b.ip a.helo b.helo a.auth b.auth a.hkey b.hkey a.hval b.hval a.remote b.remote a.kind b.kind a.oldest b.oldest ex R hR
  have ni:=norm_eq_iff (a:=a) (b:=b)
  have hca:a.ps.getD []=[]∨a.ps=some (a.ps.getD []):=by cases a.ps <;> simp
  have hcb:b.ps.getD []=[]∨b.ps=some (b.ps.getD []):=by cases b.ps <;> simp
  have hS1:a.ps.getD [] ≠ b.ps.getD []→arSame a b=false:=by
    intro h; rw [Bool.eq_false_iff,ne_eq,arSame_iff,ni]; exact fun q=>h q.1
  have hS2:a.ps.getD []=b.ps.getD []→arSame a b=decide (a.kind=b.kind∧a.method=b.method∧a.value=b.value∧a.reason=b.reason∧a.domain=b.domain∧a.ident=b.ident∧a.fr=b.fr∧a.sender=b.sender∧a.ip=b.ip∧a.helo=b.helo∧a.auth=b.auth∧a.hkey=b.hkey∧a.hval=b.hval∧a.remote=b.remote∧a.oldest=b.oldest):=by
    intro h
    simp only [arSame]
    rw [decide_eq_decide,ni]
    exact ⟨fun q=>q.2,fun q=>⟨h,q⟩⟩
  generalize arSame a b=R at *
  clear ni
  generalize hLa:a.ps.getD []=La at *
  generalize hLb:b.ps.getD []=Lb at *
  simp only [half] at la lb
  by_cases hlen:(La.length:Int)=(Lb.length:Int)
  · simp -implicitDefEqProofs [-alen,c_spec_ASame,AR.cells,cua,cub,lea,leb,hlen,hLa,hLb]
    refine awp_loop2 (σ:=List KVp × List KVp × List KVp × List KVp) (fun q=>⟨[(2,.ptr [.int .i64 a.kind,.str a.method,.str a.value,.str a.reason,.str a.domain,.str a.ident,.str a.fr,.str a.sender,.str a.ip,.str a.helo,.str a.auth,.str a.hkey,.str a.hval,.str a.remote,.int .i64 a.oldest,slP a.ps]),(3,.ptr [.int .i64 b.kind,.str b.method,.str b.value,.str b.reason,.str b.domain,.str b.ident,.str b.fr,.str b.sender,.str b.ip,.str b.helo,.str b.auth,.str b.hkey,.str b.hval,.str b.remote,.int .i64 b.oldest,slP b.ps]),(15,.int .i64 Lb.length),(16,.int .i64 q.1.length)],[]⟩)
      (fun q=>La=q.1++q.2.1∧Lb=q.2.2.1++q.2.2.2∧q.1=q.2.2.1) (fun q=>q.2.1.length) ([],La,[],Lb) ?_ (by simp) ?_
    · simp
    rintro ⟨p1,q1,p2,q2⟩ ⟨e1,e2,e3⟩ LQ hLQ
    simp only at e1 e2 e3
    subst e3
    have hn:q1.length=q2.length:=by
      have h1:=congrArg List.length e1
      have h2:=congrArg List.length e2
      simp at h1 h2; omega
    cases q1 with
    | nil =>
      have hq2:q2=[]:=by cases q2 <;> simp at hn; rfl
      subst hq2
      simp only [List.append_nil] at e1 e2
      have hnl:¬ ((p1.length:Int) < (Lb.length:Int)):=by rw [e2]; omega
      simp -implicitDefEqProofs [b_spec_ASame_1,hnl]
      exact T _ R (hS2 (by rw [e1,e2]))
    | cons x q1 =>
      cases q2 with
      | nil=>simp at hn
      | cons y q2 =>
        have sa:=hca.resolve_left (by rw [e1]; simp)
        have sb:=hcb.resolve_left (by rw [e2]; simp)
        rw [sa,sb] at hLQ ⊢
        simp only [slP] at hLQ ⊢
        have hlb:Lb.length=p1.length+(q2.length+1):=by rw [e2]; simp
        have hlt:(p1.length:Int) < (Lb.length:Int):=by omega
        have g1:La[p1.length]? = some x:=by rw [e1]; exact get_mid rfl
        have g2:Lb[p1.length]? = some y:=by rw [e2]; exact get_mid rfl
        have ew:IntKind.i64.wrap ((p1.length:Int)+1)=(p1.length:Int)+1:=wrap64 (by omega) (by omega)
        by_cases hxy:x=y
        · subst hxy
          simp -implicitDefEqProofs [b_spec_ASame_1,hlt,g1,g2,ew,leafEqL,leafEq]
          refine hLQ (p1++[x],q1,p1++[x],q2) ⟨by rw [e1]; simp,by rw [e2]; simp,rfl⟩ (by simp) _ ?_
          simp
        · have hne:La ≠ Lb:=by
            rw [e1,e2]
            intro h
            have:=List.append_cancel_left h
            simp only [List.cons.injEq] at this
            exact hxy this.1
          have hd:(decide (x.1=y.1) && decide (x.2=y.2))=false:=by
            by_cases h1:x.1=y.1
            · have:¬ x.2=y.2:=fun h2=>hxy (Prod.ext h1 h2)
              simp [this]
            · simp [h1]
          rw [hS1 hne]
          simp -implicitDefEqProofs [b_spec_ASame_1,hlt,g1,g2,ew,leafEqL,leafEq,hd]
  · have hne:La ≠ Lb:=fun h=>hlen (by rw [h])
    have hlen':¬ La.length=Lb.length:=fun h=>hlen (by rw [h])
    rw [hS1 hne]
    simp -implicitDefEqProofs [-alen,c_spec_ASame,AR.cells,cua,cub,lea,leb,hlen,hlen',hLa,hLb]
end Wax


namespace Wax
open Go (IntKind)

def asARs:List AV→Option (List AR)
  | []=>some []
  | .agg cs::r=>match asAR cs,asARs r with
    | some x,some l=>some (x::l)
    | _,_=>none
  | _::_=>none
def slAR:AV→Option (List AR)
  | .nilS=>some []
  | .sl es xs=>if es=16 then asARs xs else none
  | _=>none
theorem asARs_arA:∀ l,asARs (arA l)=some l
  | []=>rfl
  | x::l=>by simp [asARs,asAR_cells,asARs_arA l]
theorem asARs_spec:∀ {xs:List AV} {l:List AR},asARs xs=some l→xs=arA l
  | [],l,h=>by simp [asARs] at h; subst h; rfl
  | v::r,l,h=>by
    unfold asARs at h
    split at h
    · rename_i e; simp at e
    · rename_i cs r' e
      simp at e; obtain ⟨rfl,rfl⟩:=e
      split at h
      · rename_i x l' h1 h2
        simp at h; subst h
        rw [asAR_spec h1,asARs_spec h2]; rfl
      · simp at h
    · simp at h
theorem slAR_cases {v:AV} {l} (h:slAR v=some l):(v=.nilS∧l=[])∨v=.sl 16 (arA l):=by
  cases v <;> simp [slAR] at h
  · left; exact ⟨rfl,h⟩
  · right; obtain ⟨e,h⟩:=h; rw [asARs_spec h,e]
section
variable {u:AV} {l:List AR} (h:slAR u=some l)
include h
theorem sar_kill (d:Nat):kill d u=u:=by rcases slAR_cases h with ⟨rfl,_⟩ | rfl <;> rfl
theorem sar_ref:hasRef u=false:=by rcases slAR_cases h with ⟨rfl,_⟩ | rfl <;> rfl
theorem sar_snapW (g:AV→AV):snapW g u=u:=by rcases slAR_cases h with ⟨rfl,_⟩ | rfl <;> rfl
theorem sar_alen (hp:List (Nat × AObj)):alen hp 1 u=some l.length:=by rcases slAR_cases h with ⟨rfl,rfl⟩ | rfl <;> simp [alen]
theorem sar_ne (hn:l ≠ []):u=.sl 16 (arA l):=by
  rcases slAR_cases h with ⟨_,rfl⟩ | rfl
  · exact absurd rfl hn
  · rfl
end
theorem slAR_arV (l:List AR):slAR (arV l)=some l:=by cases l <;> simp [arV,slAR,← arA_cons,asARs_arA,-arA_cons]

end Wax


namespace Wax
open Go

def lkF:List (Nat × SFn)→Nat→Option SFn
  | [],_=>none
  | (i,v)::r,j=>if i == j then some v else lkF r j

inductive TbOk (P:Program) (T:Tab):List (Nat × SFn)→Prop where
  | nil:TbOk P T []
  | cons {f g:Nat} {fn:Func} {sfn:SFn} {L:Lay} {r:List (Nat × SFn)} (hf:lkN T.fns f=some g) (hb:hasBody P f=true) (hfn:P.funcs[f]? = some fn) (hc:compFn P T L fn=some sfn) (hr:TbOk P T r):TbOk P T ((g,sfn)::r)

theorem TbOk.get {P:Program} {T:Tab}:∀ {tb:List (Nat × SFn)},TbOk P T tb→∀ {g:Nat} {sfn:SFn},lkF tb g=some sfn→∃ f fn L,lkN T.fns f=some g∧hasBody P f=true∧P.funcs[f]? = some fn∧compFn P T L fn=some sfn
  | _,.nil,g,sfn,h=>by simp [lkF] at h
  | _,.cons (f:=f) (fn:=fn) (L:=L) hf hb hfn hc hr,g,sfn,h=>by
    simp only [lkF] at h
    split at h
    · rename_i e
      simp only [beq_iff_eq] at e
      simp only [Option.some.injEq] at h
      subst e; subst h
      exact ⟨f,fn,L,hf,hb,hfn,hc⟩
    · exact hr.get h

end Wax


namespace Wax
open Go
def aIn:List UInt8:=[97,59,32,100,107,105,109,61,112,97,115,115,32,104,101,97,100,101,114,46,100,61,98]
def aOut:AV:=.tup [.str [97],.sl 16 [.agg [.int .i64 2,.str [],.str [112,97,115,115],.str [],.str [98],.str [],.str [],.str [],.str [],.str [],.str [],.str [],.str [],.str [],.int .i64 0,.nilS]],.bool true]
end Wax


namespace Wax
open Go (IntKind)
def tIn:L8:=[118,61,68,77,65,82,67,49,59,32,112,61,110,111,110,101]
def con_awake:List AV→Option AV
  | []=>some (.bool true)
  | _=>none
theorem tIn_ok:mpV (mdText tIn)=.tup [.agg (MR.cells { mr0 with adkim:=sR,aspf:=sR,p:=sNone }),.bool true]:=by rfl
end Wax


namespace Wax
open Go (IntKind)

theorem adIn:adText aIn=some ([97],[.dkim [112,97,115,115] [] [98] []]):=by kernel_rfl
theorem au_ok_awake (Γ:Gam) (h144:Γ.fn 144=con_AParse) (h133:Γ.fn 133=con_MParse):∀ args r,con_awake args=some r→runs Γ c_laws_awake args (fun v=>v=r):=by
  intro args r h
  simp only [con_awake] at h
  split at h <;> (try simp at h; done)
  injection h with h
  subst h
  have k:con_AParse [.str [97,59,32,100,107,105,109,61,112,97,115,115,32,104,101,97,100,101,114,46,100,61,98]]=some aOut:=by
    have e:aIn.length < qtr∧plain aIn=true:=⟨by simp [aIn,qtr],by kernel_rfl⟩
    show con_AParse [.str aIn]=_
    simp only [con_AParse]
    rw [if_pos e,adIn]
    rfl
  have k2:con_MParse [.str tIn]=some (.tup [.agg (MR.cells { mr0 with adkim:=sR,aspf:=sR,p:=sNone }),.bool true]):=by
    have e:tIn.length < mid∧plain tIn=true:=⟨by simp [tIn,mid],by kernel_rfl⟩
    simp only [con_MParse]
    rw [if_pos e,tIn_ok]
  simp only [aOut] at k
  simp only [MR.cells,mr0,slO_none,tIn,sR,sNone] at k2
  simp -implicitDefEqProofs [c_laws_awake,acall,h144,h133,k,k2,sNone]

end Wax


namespace Wax
open Go (IntKind)

def lenB (s:L8):Bool:=decide (s.length≤2147483647)
def fit2 (r:AR):Bool:=lenB r.method && (lenB r.value && (lenB r.reason && (lenB r.domain && (lenB r.ident && (lenB r.fr && (lenB r.sender && (lenB r.ip && (lenB r.helo && (lenB r.auth && (lenB r.hkey && (lenB r.hval && (lenB r.remote && fits13 (r.ps.getD [])))))))))))))
def arSames:List AR→List AR→Bool
  | [],[]=>true
  | a::x,b::y=>arSame a b && arSames x y
  | _,_=>false
theorem arSames_len:∀ {a b:List AR},a.length ≠ b.length→arSames a b=false
  | [],[],h=>absurd rfl h
  | [],_::_,_=>rfl
  | _::_,[],_=>rfl
  | a::x,b::y,h=>by simp only [arSames,arSames_len (a:=x) (b:=y) (fun e=>h (by simp [e])),Bool.and_false]
theorem arSames_bad {x y:AR} (hf:arSame x y=false) {p q:List AR}:∀ {a b:List AR},a.length=b.length→arSames (a++x::p) (b++y::q)=false
  | [],[],_=>by simp [arSames,hf]
  | [],_::_,h=>by simp at h
  | _::_,[],h=>by simp at h
  | a::r,b::s,h=>by simp only [List.cons_append,arSames,arSames_bad hf (a:=r) (b:=s) (by simpa using h),Bool.and_false]
theorem arSames_snoc {x y:AR}:∀ {a b:List AR},arSames a b=true→arSame x y=true→arSames (a++[x]) (b++[y])=true
  | [],[],_,h=>by simp [arSames,h]
  | [],_::_,h,_=>by simp [arSames] at h
  | _::_,[],h,_=>by simp [arSames] at h
  | a::r,b::s,h,h2=>by
    simp only [arSames,Bool.and_eq_true,List.cons_append] at h ⊢
    exact ⟨h.1,arSames_snoc h.2 h2⟩
def con_ASames:List AV→Option AV
  | [u,v]=>match slAR u,slAR v with
    | some a,some b=>if a.length < half∧b.length < half∧(∀ r∈a,(r.ps.getD []).length < half)∧∀ r∈b,(r.ps.getD []).length < half then some (.bool (arSames a b)) else none
    | _,_=>none
  | _=>none
theorem ok_ASames (Γ:Gam) (h202:Γ.fn 202=con_ASame):∀ args r,con_ASames args=some r→runs Γ c_spec_ASames args (fun v=>v=r):=by
  intro args r h
  simp only [con_ASames] at h
  split at h <;> (try simp at h; done)
  rename_i u v
  split at h <;> (try simp at h; done)
  rename_i a b ha hb
  obtain ⟨⟨h1,h2,h3,h4⟩,rfl⟩:=ite_some h
  clear h
  simp only [half] at h1 h2
  by_cases hl:a.length=b.length
  · have hl':(a.length:Int)=(b.length:Int):=by omega
    simp -implicitDefEqProofs [-alen,c_spec_ASames,sar_alen ha,sar_alen hb,hl']
    refine awp_loop2 (σ:=(List AR × List AR) × List AR × List AR) (fun p=>⟨[(0,u),(1,v),(12,.int .i64 b.length),(13,.int .i64 p.1.1.length)],[]⟩)
      (fun p=>a=p.1.1++p.1.2∧b=p.2.1++p.2.2∧p.1.1.length=p.2.1.length∧arSames p.1.1 p.2.1=true) (fun p=>p.1.2.length) (([],a),([],b)) (by simp) (by simp [arSames]) ?_
    rintro ⟨⟨p,q⟩,⟨s,t⟩⟩ ⟨e1,e2,e3,e4⟩ LQ hLQ
    simp only at e1 e2 e3 e4
    have hq:q.length=t.length:=by
      have:=congrArg List.length e1; have:=congrArg List.length e2; simp at *; omega
    match q,t,hq with
    | [],[],_ =>
      simp only [List.append_nil] at e1 e2
      subst e1 e2
      have hn:¬ ((a.length:Int) < (b.length:Int)):=by omega
      simp -implicitDefEqProofs [b_spec_ASames_1,t_spec_ASames_2,hn,e4]
    | x::q,y::t,_ =>
      have hu:=sar_ne ha (by rw [e1]; simp)
      have hv:=sar_ne hb (by rw [e2]; simp)
      subst hu hv
      have hlen:b.length=p.length+(t.length+1):=by rw [e2]; simp; omega
      have hlt:(p.length:Int) < (b.length:Int):=by omega
      have ew:IntKind.i64.wrap ((p.length:Int)+1)=(p.length:Int)+1:=wrap64 (by omega) (by omega)
      have g1:(arA a)[p.length]? = some (.agg x.cells):=by rw [e1,arA_app]; exact get_mid (by simp)
      have g2:(arA b)[p.length]? = some (.agg y.cells):=by rw [e2,arA_app]; exact get_mid (by simp [e3])
      have k2:con_ASame [.agg x.cells,.agg y.cells]=some (.bool (arSame x y)):=by
        simp only [con_ASame,asAR_cells]
        exact if_pos ⟨h3 x (by rw [e1]; simp),h4 y (by rw [e2]; simp)⟩
      have cu:=slP_cells x.ps
      have cv:=slP_cells y.ps
      simp only [cells] at cu cv
      simp only [AR.cells] at g1 g2 k2
      cases hf:arSame x y with
      | true =>
        rw [hf] at k2
        simp -implicitDefEqProofs [b_spec_ASames_1,hlt,g1,g2,acall,h202,k2,ew,cu,cv]
        exact hLQ ((p++[x],q),(s++[y],t)) ⟨by rw [e1]; simp,by rw [e2]; simp,by simp [e3],arSames_snoc e4 hf⟩ (by simp) _ (by simp)
      | false =>
        rw [hf] at k2
        have hbad:arSames a b=false:=by rw [e1,e2]; exact arSames_bad hf e3
        simp -implicitDefEqProofs [b_spec_ASames_1,hlt,g1,g2,acall,h202,k2,hbad,cu,cv]
  · have hl':¬ ((a.length:Int)=(b.length:Int)):=by omega
    have e:=arSames_len hl
    simp -implicitDefEqProofs [-alen,c_spec_ASames,sar_alen ha,sar_alen hb,hl',e]

end Wax


namespace Wax
open Go (IntKind)

theorem keyw_con {s:L8} (h:s.length < mid):con_MailKeyword [.str s]=some (.bool (mKw s)):=if_pos (by simp only [mid] at h; simp only [big]; omega)
theorem plain_con {s:L8} (h:s.length < mid):con_APlain [.str s]=some (.bool (aPlain s)):=if_pos h
theorem halves_con {s:L8} {c:Int} (h:s.length < mid):con_MailHalves [.str s,.int .u8 c]=some (cutV c s):=if_pos (by simp only [mid] at h; simp only [big]; omega)
theorem tokn_con {s:L8} (h:s.length < mid):con_MailToken [.str s]=some (.bool (mTok s)):=if_pos (by simp only [mid] at h; simp only [big]; omega)

section
variable {Γ:Gam} (h99:Γ.fn 99=con_MailKeyword) (h102:Γ.fn 102=con_MailHalves) (h104:Γ.fn 104=con_MailToken) (h112:Γ.fn 112=con_MailLower) (h200:Γ.fn 200=con_AMethods) (h201:Γ.fn 201=con_AProps) (h203:Γ.fn 203=con_AValues) (h204:Γ.fn 204=con_APlain)
variable {u:AV} (uk:∀ d,kill d u=u) (us:∀ g,snapW g u=u) (n i:Int)

def g1Fit (prev:Option L8) (p:KVp):Bool:=(match cutAt 46 p.1 with | some q=>mKw q.1 && mKw q.2 | none=>false) && decide (lowS p.1=p.1) && aPlain p.2 && (match prev with | none=>true | some k=>decide (k < p.1))
theorem gFit_cons (prev:Option L8) (p:KVp) (r:List KVp):gFit prev (p::r)=(g1Fit prev p && gFit (some p.1) r):=rfl

include h99 h102 h112 h204 uk us in
set_option maxRecDepth 100000 in
set_option maxHeartbeats 4000000 in
theorem af_4 {Q:APost} (r:AR) (L:List KVp) (hL:r.ps.getD []=L) (hl:L.length < mid) (hz:∀ p∈L,p.1.length < mid∧p.2.length < mid) (ex:List (Nat × AV))
    (hT:gFit none L=true→∀ ex',Q (.exit 1) ⟨(0,u)::(4,.ptr r.cells)::(17,u)::(18,.int .i64 n)::(19,.int .i64 i)::ex',[]⟩)
    (hF:gFit none L=false→Q .ret ⟨[(2,.bool false)],[]⟩) :
    awp Γ f_spec_AFits_4 Q ⟨(0,u)::(4,.ptr r.cells)::(17,u)::(18,.int .i64 n)::(19,.int .i64 i)::ex,[]⟩:=by
  have ha:∀ hp,alen hp 1 (slP r.ps)=some L.length:=by
    intro hp; rw [← hL]; cases r.ps <;> simp [slP,alen]
  have cu:=slP_cells r.ps
  have at_:=slP_atom r.ps
  have kl:=slP_kill r.ps
  have sn:=slP_snapW r.ps
  simp only [cells] at cu
  simp only [mid] at hl
  have hc:r.cells=[.int .i64 r.kind,.str r.method,.str r.value,.str r.reason,.str r.domain,.str r.ident,.str r.fr,.str r.sender,.str r.ip,.str r.helo,.str r.auth,.str r.hkey,.str r.hval,.str r.remote,.int .i64 r.oldest,slP r.ps]:=rfl
  have hne:L ≠ []→slP r.ps=.sl 2 (pr2 L):=by
    intro h; cases hp:r.ps with
    | none=>rw [hp] at hL; exact absurd hL.symm h
    | some x=>rw [hp] at hL; simp at hL; subst hL; rfl
  simp only [hc] at hT ⊢
  generalize slP r.ps=S at *
  simp -implicitDefEqProofs [-alen,f_spec_AFits_4,cu,ha,at_,kl,sn,uk,us]
  refine awp_loop2 (σ:=List KVp × List KVp) (fun z=>⟨[(0,u),(4,.ptr [.int .i64 r.kind,.str r.method,.str r.value,.str r.reason,.str r.domain,.str r.ident,.str r.fr,.str r.sender,.str r.ip,.str r.helo,.str r.auth,.str r.hkey,.str r.hval,.str r.remote,.int .i64 r.oldest,S]),(17,u),(18,.int .i64 n),(19,.int .i64 i),(103,S),(104,.int .i64 L.length),(105,.int .i64 z.1.length)],[]⟩)
    (fun z=>L=z.1++z.2∧gFit none L=gFit (z.1.getLast?.map (·.1)) z.2) (fun z=>z.2.length) ([],L) (by simp) (by simp) ?_
  rintro ⟨pre,post⟩ ⟨e1,e2⟩ LQ hLQ
  simp only at e1 e2
  cases post with
  | nil =>
    simp only [List.append_nil] at e1
    subst e1
    have hnl:¬ ((L.length:Int) < (L.length:Int)):=by omega
    simp -implicitDefEqProofs [b_spec_AFits_3]
    exact hT e2 _
  | cons p post =>
    have hS:=hne (by rw [e1]; simp)
    subst hS
    have hlen:L.length=pre.length+(post.length+1):=by rw [e1]; simp
    have hlt:(pre.length:Int) < (L.length:Int):=by omega
    have ew:IntKind.i64.wrap ((pre.length:Int)+1)=(pre.length:Int)+1:=wrap64 (by omega) (by omega)
    have ew1:IntKind.i64.wrap ((pre.length:Int) - 1)=(pre.length:Int) - 1:=wrap64 (by omega) (by omega)
    have g:L[pre.length]? = some p:=by rw [e1]; exact get_mid rfl
    obtain ⟨k,v⟩:=p
    obtain ⟨z1,z2⟩:=hz (k,v) (by rw [e1]; simp)
    simp only at z1 z2
    have k1:=halves_con (c:=46) z1
    have k2:=low_con z1
    have k3:=plain_con z2
    rw [gFit_cons] at e2
    have bad:g1Fit (pre.getLast?.map (·.1)) (k,v)=false→Q .ret ⟨[(2,.bool false)],[]⟩:=fun h=>hF (by rw [e2,h]; rfl)
    have good:g1Fit (pre.getLast?.map (·.1)) (k,v)=true→LQ ⟨[(0,u),(4,.ptr [.int .i64 r.kind,.str r.method,.str r.value,.str r.reason,.str r.domain,.str r.ident,.str r.fr,.str r.sender,.str r.ip,.str r.helo,.str r.auth,.str r.hkey,.str r.hval,.str r.remote,.int .i64 r.oldest,.sl 2 (pr2 L)]),(17,u),(18,.int .i64 n),(19,.int .i64 i),(103,.sl 2 (pr2 L)),(104,.int .i64 L.length),(105,.int .i64 ((pre.length:Int)+1))],[]⟩:=fun h =>
      hLQ (pre++[(k,v)],post) ⟨by rw [e1]; simp,by rw [e2,h]; simp⟩ (by simp) _ (by simp)
    simp only [g1Fit] at bad good
    cases hc2:cutAt 46 k with
    | none =>
      simp only [cutV,hc2] at k1
      have b:=bad (by simp [hc2])
      simp -implicitDefEqProofs [b_spec_AFits_3,hlt,g,acall,h102,k1]
      exact b
    | some q =>
      simp only [cutV,hc2] at k1
      have hq:=cutAt_lens hc2
      have w1:=keyw_con (s:=q.1) (by omega)
      have w2:=keyw_con (s:=q.2) (by omega)
      simp only [hc2] at bad good
      by_cases b1:mKw q.1=true
      case neg =>
        have b:=bad (by simp [b1])
        simp only [Bool.not_eq_true] at b1
        rw [b1] at w1
        simp -implicitDefEqProofs [b_spec_AFits_3,hlt,g,acall,h102,k1,h99,w1]
        exact b
      rw [b1] at w1
      by_cases b2:mKw q.2=true
      case neg =>
        have b:=bad (by simp [b2])
        simp only [Bool.not_eq_true] at b2
        rw [b2] at w2
        simp -implicitDefEqProofs [b_spec_AFits_3,hlt,g,acall,h102,k1,h99,w1,w2]
        exact b
      rw [b2] at w2
      by_cases b3:lowS k=k
      case neg =>
        have b:=bad (by simp [b3])
        simp -implicitDefEqProofs [b_spec_AFits_3,hlt,g,acall,h102,k1,h99,w1,w2,h112,k2,b3]
        exact b
      rw [b3] at k2
      by_cases b4:aPlain v=true
      case neg =>
        have b:=bad (by simp [b4])
        simp only [Bool.not_eq_true] at b4
        rw [b4] at k3
        simp -implicitDefEqProofs [b_spec_AFits_3,hlt,g,acall,h102,k1,h99,w1,w2,h112,k2,h204,k3]
        exact b
      rw [b4] at k3
      simp only [b1,b2,b3,b4,Bool.and_self,decide_true,Bool.true_and] at bad good
      rcases List.eq_nil_or_concat pre with rfl | ⟨p',y,rfl⟩
      · have gd:=good (by simp)
        simp only [List.nil_append] at e1
        subst e1
        have hl0:(0:Int) < (post.length:Int)+1:=by omega
        have ew0:IntKind.i64.wrap 1=1:=rfl
        simp at gd
        simp -implicitDefEqProofs [b_spec_AFits_3,hl0,ew0,acall,h102,k1,h99,w1,w2,h112,k2,h204,k3,uk,us]
        exact gd
      · have hlt':(p'.length:Int)+1 < (L.length:Int):=by simpa using hlt
        have g':L[p'.length+1]? = some (k,v):=by simpa using g
        have gy:L[p'.length]? = some y:=by rw [e1]; simp
        have ew':IntKind.i64.wrap ((p'.length:Int)+1+1)=(p'.length:Int)+1+1:=wrap64 (by omega) (by omega)
        have ew2:IntKind.i64.wrap ((p'.length:Int))=(p'.length:Int):=wrap64 (by omega) (by omega)
        have et:((p'.length:Int)+1).toNat=p'.length+1:=by omega
        have hle:(0:Int)≤(p'.length:Int)+1:=by omega
        have hpos:(0:Int) < (p'.length:Int)+1:=by omega
        simp at bad good
        obtain ⟨yk,yv⟩:=y
        by_cases b5:yk < k
        · have gd:=good b5
          simp -implicitDefEqProofs [b_spec_AFits_3,hlt',g',et,hle,hpos,ew',ew2,gy,acall,h102,k1,h99,w1,w2,h112,k2,h204,k3,uk,us,lexLt_eq,b5]
          exact gd
        · have b:=bad (by simpa using b5)
          simp -implicitDefEqProofs [b_spec_AFits_3,hlt',g',et,hle,hpos,ew',ew2,gy,acall,h102,k1,h99,w1,w2,h112,k2,h204,k3,uk,us,lexLt_eq,b5]
          exact b

theorem ms_any (m:L8) (pre post:List L8):(pre++post).contains m=(pre.contains m || post.contains m):=by
  rw [Bool.eq_iff_iff]; simp
include h99 h102 h112 h200 h204 uk us in
set_option maxRecDepth 100000 in
set_option maxHeartbeats 4000000 in
theorem af_5 {Q:APost} (r:AR) (L:List KVp) (hL:r.ps.getD []=L) (hl:L.length < mid) (hz:∀ p∈L,p.1.length < mid∧p.2.length < mid) (ex:List (Nat × AV))
    (hT:(!aMeths.contains r.method && gFit none L)=true→∀ ex',Q (.exit 1) ⟨(0,u)::(4,.ptr r.cells)::(17,u)::(18,.int .i64 n)::(19,.int .i64 i)::ex',[]⟩)
    (hF:(!aMeths.contains r.method && gFit none L)=false→Q .ret ⟨[(2,.bool false)],[]⟩) :
    awp Γ f_spec_AFits_5 Q ⟨(0,u)::(4,.ptr r.cells)::(17,u)::(18,.int .i64 n)::(19,.int .i64 i)::ex,[]⟩:=by
  have cu:=slP_cells r.ps
  have at_:=slP_atom r.ps
  have kl:=slP_kill r.ps
  have sn:=slP_snapW r.ps
  simp only [cells] at cu
  have hc:r.cells=[.int .i64 r.kind,.str r.method,.str r.value,.str r.reason,.str r.domain,.str r.ident,.str r.fr,.str r.sender,.str r.ip,.str r.helo,.str r.auth,.str r.hkey,.str r.hval,.str r.remote,.int .i64 r.oldest,slP r.ps]:=rfl
  have k0:con_AMethods []=some (.sl 1 (strsA aMeths)):=rfl
  have hal:aMeths.length=8:=rfl
  have T:=fun (b:aMeths.contains r.method=false) ex=>af_4 (Q:=Q) h99 h102 h112 h204 uk us n i r L hL hl hz ex (fun h=>hT (by rw [b,h]; rfl)) (fun h=>hF (by rw [b,h]; rfl))
  generalize aMeths=M at *
  simp only [hc] at T ⊢
  simp -implicitDefEqProofs [f_spec_AFits_5,cu,at_,kl,sn,uk,us,acall,h200,k0]
  refine awp_loop2 (σ:=List L8 × List L8) (fun z=>⟨[(0,u),(4,.ptr [.int .i64 r.kind,.str r.method,.str r.value,.str r.reason,.str r.domain,.str r.ident,.str r.fr,.str r.sender,.str r.ip,.str r.helo,.str r.auth,.str r.hkey,.str r.hval,.str r.remote,.int .i64 r.oldest,slP r.ps]),(17,u),(18,.int .i64 n),(19,.int .i64 i),(91,.sl 1 (strsA M)),(92,.int .i64 M.length),(93,.int .i64 z.1.length)],[]⟩)
    (fun z=>M=z.1++z.2∧z.1.contains r.method=false) (fun z=>z.2.length) ([],M) (by simp) (by simp) ?_
  rintro ⟨pre,post⟩ ⟨e1,e2⟩ LQ hLQ
  simp only at e1 e2
  cases post with
  | nil =>
    simp only [List.append_nil] at e1
    subst e1
    have hnl:¬ ((M.length:Int) < (M.length:Int)):=by omega
    simp -implicitDefEqProofs [b_spec_AFits_2]
    exact T e2 _
  | cons m post =>
    have hlen:M.length=pre.length+(post.length+1):=by rw [e1]; simp
    have hlt:(pre.length:Int) < (M.length:Int):=by omega
    have ew:IntKind.i64.wrap ((pre.length:Int)+1)=(pre.length:Int)+1:=wrap64 (by omega) (by omega)
    have g:M[pre.length]? = some m:=by rw [e1]; exact get_mid rfl
    by_cases hm:m=r.method
    · have b:M.contains r.method=true:=by rw [e1,hm]; simp
      have f:=hF (by rw [b]; rfl)
      simp -implicitDefEqProofs [b_spec_AFits_2,hlt,g,hm]
      exact f
    · have b:(pre++[m]).contains r.method=false:=by rw [ms_any,e2]; simp [Ne.symm hm]
      simp -implicitDefEqProofs [b_spec_AFits_2,hlt,g,hm,ew,uk,us]
      exact hLQ (pre++[m],post) ⟨by rw [e1]; simp,b⟩ (by simp) _ (by simp)

theorem props_len (r:AR):r.props.length≤10:=by
  unfold AR.props
  repeat' split
  all_goals simp
theorem tripV_ne {L:List (L8 × L8 × L8)} (h:L ≠ []):tripV L=.sl 3 (tr3 L):=by cases L with
  | nil=>exact absurd rfl h
  | cons _ _=>rfl
def t1Fit (p:L8 × L8 × L8):Bool:=aPlain p.2.2 && mKw p.2.1 && decide (lowS p.2.1=p.2.1)
include h99 h112 h201 h204 uk us in
set_option maxRecDepth 100000 in
set_option maxHeartbeats 4000000 in
theorem af_7 {Q:APost} (r:AR) (hz:∀ p∈r.props,p.2.1.length < mid∧p.2.2.length < mid) (ex:List (Nat × AV))
    (hT:r.props.all t1Fit=true→∀ ex',Q .normal ⟨(0,u)::(17,u)::(18,.int .i64 n)::(19,.int .i64 i)::ex',[]⟩)
    (hF:r.props.all t1Fit=false→Q .ret ⟨[(2,.bool false)],[]⟩) :
    awp Γ f_spec_AFits_7 Q ⟨(0,u)::(4,.ptr r.cells)::(17,u)::(18,.int .i64 n)::(19,.int .i64 i)::ex,[]⟩:=by
  have cu:=slP_cells r.ps
  have at_:=slP_atom r.ps
  have kl:=slP_kill r.ps
  have sn:=slP_snapW r.ps
  simp only [cells] at cu
  have hc:r.cells=[.int .i64 r.kind,.str r.method,.str r.value,.str r.reason,.str r.domain,.str r.ident,.str r.fr,.str r.sender,.str r.ip,.str r.helo,.str r.auth,.str r.hkey,.str r.hval,.str r.remote,.int .i64 r.oldest,slP r.ps]:=rfl
  have k0:con_AProps [.agg r.cells]=some (tripV r.props):=by simp only [con_AProps,asAR_cells,Option.map]
  have hq:r.props.length≤10:=props_len r
  generalize r.props=L at *
  have ha:∀ hp,alen hp 1 (tripV L)=some L.length:=by intro hp; cases L <;> simp [tripV,alen]
  have tc:=tripV_cells L
  have ta:=tripV_atom L
  have tk:=tripV_kill L
  have tr:=tripV_ref L
  simp only [cells] at tc
  have hne:L ≠ []→tripV L=.sl 3 (tr3 L):=fun h=>tripV_ne h
  simp only [hc] at k0 ⊢
  generalize tripV L=S at *
  simp -implicitDefEqProofs [-alen,f_spec_AFits_7,cu,at_,kl,sn,uk,us,acall,h201,k0,ha,tc,ta,tk,tr]
  refine awp_loop2 (σ:=List (L8 × L8 × L8) × List (L8 × L8 × L8)) (fun z=>⟨[(0,u),(17,u),(18,.int .i64 n),(19,.int .i64 i),(161,S),(162,.int .i64 L.length),(163,.int .i64 z.1.length)],[]⟩)
    (fun z=>L=z.1++z.2∧z.1.all t1Fit=true) (fun z=>z.2.length) ([],L) (by simp) (by simp) ?_
  rintro ⟨pre,post⟩ ⟨e1,e2⟩ LQ hLQ
  simp only at e1 e2
  cases post with
  | nil =>
    simp only [List.append_nil] at e1
    subst e1
    have hnl:¬ ((L.length:Int) < (L.length:Int)):=by omega
    simp -implicitDefEqProofs [b_spec_AFits_6]
    exact hT e2 _
  | cons p post =>
    have hS:=hne (by rw [e1]; simp)
    subst hS
    have hlen:L.length=pre.length+(post.length+1):=by rw [e1]; simp
    have hlt:(pre.length:Int) < (L.length:Int):=by omega
    have ew:IntKind.i64.wrap ((pre.length:Int)+1)=(pre.length:Int)+1:=wrap64 (by omega) (by omega)
    have g:L[pre.length]? = some p:=by rw [e1]; exact get_mid rfl
    have g2:(tr3 L)[pre.length]? = some (.agg [.str p.1,.str p.2.1,.str p.2.2]):=by simp [tr3,g]
    obtain ⟨z1,z2⟩:=hz p (by rw [e1]; simp)
    obtain ⟨a,b,c⟩:=p
    simp only at z1 z2 g2
    have k1:=plain_con z2
    have k2:=keyw_con z1
    have k3:=low_con z1
    have bad:t1Fit (a,b,c)=false→Q .ret ⟨[(2,.bool false)],[]⟩:=fun h=>hF (by rw [e1]; simp [h])
    have good:t1Fit (a,b,c)=true→LQ ⟨[(0,u),(17,u),(18,.int .i64 n),(19,.int .i64 i),(161,.sl 3 (tr3 L)),(162,.int .i64 L.length),(163,.int .i64 ((pre.length:Int)+1))],[]⟩:=fun h =>
      hLQ (pre++[(a,b,c)],post) ⟨by rw [e1]; simp,by rw [List.all_append,e2]; simp [h]⟩ (by simp) _ (by simp)
    simp only [t1Fit] at bad good
    by_cases b1:aPlain c=true
    case neg =>
      have f:=bad (by simp [b1])
      simp only [Bool.not_eq_true] at b1
      rw [b1] at k1
      simp -implicitDefEqProofs [b_spec_AFits_6,hlt,g2,uk,us,acall,h204,k1]
      exact f
    rw [b1] at k1
    by_cases b2:mKw b=true
    case neg =>
      have f:=bad (by simp [b2])
      simp only [Bool.not_eq_true] at b2
      rw [b2] at k2
      simp -implicitDefEqProofs [b_spec_AFits_6,hlt,g2,uk,us,acall,h204,k1,h99,k2]
      exact f
    rw [b2] at k2
    by_cases b3:lowS b=b
    case neg =>
      have f:=bad (by simp [b3])
      simp -implicitDefEqProofs [b_spec_AFits_6,hlt,g2,uk,us,acall,h204,k1,h99,k2,h112,k3,b3]
      exact f
    rw [b3] at k3
    have f:=good (by simp [b1,b2,b3])
    simp -implicitDefEqProofs [b_spec_AFits_6,hlt,g2,uk,us,acall,h204,k1,h99,k2,h112,k3,ew]
    exact f

def k1Fit (r:AR):Bool:=if r.kind=0 then mKw r.method && decide (lowS r.method=r.method) && decide (r.method ≠ sNone0) && decide (r.reason=[]) && decide (r.method.length≤30) && !aMeths.contains r.method && gFit none (r.ps.getD [])
   else r.props.all t1Fit
structure SzR (r:AR):Prop where
  m:r.method.length < mid
  rs:r.reason.length < mid
  l:(r.ps.getD []).length < mid
  z:∀ p∈r.ps.getD [],p.1.length < mid∧p.2.length < mid
  q:∀ p∈r.props,p.2.1.length < mid∧p.2.2.length < mid

include h99 h102 h112 h200 h201 h204 uk us in
set_option maxRecDepth 100000 in
set_option maxHeartbeats 4000000 in
theorem af_8 {Q:APost} (r:AR) (sz:SzR r) (ex:List (Nat × AV))
    (hT:k1Fit r=true→∀ ex',Q .normal ⟨(0,u)::(17,u)::(18,.int .i64 n)::(19,.int .i64 i)::ex',[]⟩)
    (hT2:k1Fit r=true→∀ ex',Q (.exit 1) ⟨(0,u)::(4,.ptr r.cells)::(17,u)::(18,.int .i64 n)::(19,.int .i64 i)::ex',[]⟩)
    (hF:k1Fit r=false→Q .ret ⟨[(2,.bool false)],[]⟩) :
    awp Γ f_spec_AFits_8 Q ⟨(0,u)::(4,.ptr r.cells)::(17,u)::(18,.int .i64 n)::(19,.int .i64 i)::ex,[]⟩:=by
  have cu:=slP_cells r.ps
  have at_:=slP_atom r.ps
  have kl:=slP_kill r.ps
  have sn:=slP_snapW r.ps
  simp only [cells] at cu
  have hc:r.cells=[.int .i64 r.kind,.str r.method,.str r.value,.str r.reason,.str r.domain,.str r.ident,.str r.fr,.str r.sender,.str r.ip,.str r.helo,.str r.auth,.str r.hkey,.str r.hval,.str r.remote,.int .i64 r.oldest,slP r.ps]:=rfl
  by_cases h0:r.kind=0
  · simp only [k1Fit,if_pos h0] at hT hT2 hF
    have k1:=keyw_con sz.m
    have k2:=low_con sz.m
    by_cases b1:mKw r.method=true
    case neg =>
      have f:=hF (by simp [b1])
      simp only [Bool.not_eq_true] at b1
      rw [b1] at k1
      simp only [hc]
      simp -implicitDefEqProofs [f_spec_AFits_8,h0,cu,at_,kl,sn,uk,us,acall,h99,k1]
      exact f
    rw [b1] at k1
    by_cases b2:lowS r.method=r.method
    case neg =>
      have f:=hF (by simp [b2])
      simp only [hc]
      simp -implicitDefEqProofs [f_spec_AFits_8,h0,cu,at_,kl,sn,uk,us,acall,h99,k1,h112,k2,b2]
      exact f
    rw [b2] at k2
    by_cases b3:r.method=sNone0
    · have f:=hF (by simp [b3])
      have b3':r.method=[110,111,110,101]:=b3
      rw [b3'] at k1 k2
      simp only [hc]
      simp -implicitDefEqProofs [f_spec_AFits_8,h0,cu,at_,kl,sn,uk,us,acall,h99,k1,h112,k2,b3']
      exact f
    have b3':¬ r.method=[110,111,110,101]:=b3
    by_cases b4:r.reason=[]
    case neg =>
      have f:=hF (by simp [b4])
      simp only [hc]
      simp -implicitDefEqProofs [f_spec_AFits_8,h0,cu,at_,kl,sn,uk,us,acall,h99,k1,h112,k2,b3',b4]
      exact f
    by_cases b5:r.method.length≤30
    case neg =>
      have f:=hF (by simp [b5])
      have b5':(30:Int) < (r.method.length:Int):=by omega
      simp only [hc]
      simp -implicitDefEqProofs [f_spec_AFits_8,h0,cu,at_,kl,sn,uk,us,acall,h99,k1,h112,k2,b3',b4,b5']
      exact f
    have b5':¬ (30:Int) < (r.method.length:Int):=by omega
    simp only [b1,b2,b3,b4,b5,decide_true,Bool.and_self,Bool.true_and,ne_eq,not_false_eq_true] at hT hT2 hF
    have T:=fun ex=>af_5 (Q:=thenQ (awp Γ f_spec_AFits_7 Q) Q) h99 h102 h112 h200 h204 uk us n i r _ rfl sz.l sz.z ex (fun h=>hT2 h) (fun h=>hF h)
    simp only [hc,h0,b4] at T
    simp only [hc]
    simp -implicitDefEqProofs [f_spec_AFits_8,h0,cu,at_,kl,sn,uk,us,acall,h99,k1,h112,k2,b3',b4,b5']
    exact T _
  · simp only [k1Fit,if_neg h0] at hT hF
    have T:=fun ex=>af_7 (Q:=Q) h99 h112 h201 h204 uk us n i r sz.q ex hT hF
    simp only [hc] at T ⊢
    simp -implicitDefEqProofs [f_spec_AFits_8,h0,cu,at_,kl,sn,uk,us]
    exact T _

theorem fit1_k (r:AR):aFit1 r=(aVals.contains r.value && (decide (0≤r.kind) && (decide (r.kind≤7) && ((decide (r.reason=[]) || mTok r.reason) && k1Fit r)))):=by
  have e:t1Fit=fun p=>aPlain p.2.2 && mKw p.2.1 && decide (lowS p.2.1=p.2.1):=rfl
  simp only [aFit1,k1Fit,e,Bool.and_assoc]

include h99 h102 h104 h112 h200 h201 h204 uk us in
set_option maxRecDepth 100000 in
set_option maxHeartbeats 4000000 in
theorem af_9 {Q:APost} (r:AR) (sz:SzR r) (ex:List (Nat × AV))
    (hT:aFit1 r=true→∀ ex',Q .normal ⟨(0,u)::(17,u)::(18,.int .i64 n)::(19,.int .i64 i)::ex',[]⟩)
    (hT2:aFit1 r=true→∀ ex',Q (.exit 1) ⟨(0,u)::(4,.ptr r.cells)::(17,u)::(18,.int .i64 n)::(19,.int .i64 i)::ex',[]⟩)
    (hF:aFit1 r=false→Q .ret ⟨[(2,.bool false)],[]⟩) :
    awp Γ f_spec_AFits_9 Q ⟨(0,u)::(4,.ptr r.cells)::(5,.bool (aVals.contains r.value))::(17,u)::(18,.int .i64 n)::(19,.int .i64 i)::ex,[]⟩:=by
  have cu:=slP_cells r.ps
  have at_:=slP_atom r.ps
  have kl:=slP_kill r.ps
  have sn:=slP_snapW r.ps
  simp only [cells] at cu
  have hc:r.cells=[.int .i64 r.kind,.str r.method,.str r.value,.str r.reason,.str r.domain,.str r.ident,.str r.fr,.str r.sender,.str r.ip,.str r.helo,.str r.auth,.str r.hkey,.str r.hval,.str r.remote,.int .i64 r.oldest,slP r.ps]:=rfl
  have T:=fun (h:aFit1 r=k1Fit r) ex=>af_8 (Q:=Q) h99 h102 h112 h200 h201 h204 uk us n i r sz ex (fun e=>hT (h.trans e)) (fun e=>hT2 (h.trans e)) (fun e=>hF (h.trans e))
  rw [fit1_k] at T hF
  clear hT hT2
  have kt:=tokn_con sz.rs
  cases b1:aVals.contains r.value with
  | false =>
    have f:=hF (by simp only [b1,Bool.false_and])
    simp only [hc]
    simp -implicitDefEqProofs [f_spec_AFits_9,cu,at_,kl,sn,uk,us]
    exact f
  | true =>
    by_cases b2:r.kind < 0
    · have f:=hF (by simp only [b1,show ¬ (0≤r.kind) by omega,decide_false,Bool.false_and,Bool.and_false])
      simp only [hc]
      simp -implicitDefEqProofs [f_spec_AFits_9,cu,at_,kl,sn,uk,us,b2]
      exact f
    by_cases b3:7 < r.kind
    · have f:=hF (by simp only [b1,show ¬ (r.kind≤7) by omega,decide_false,Bool.false_and,Bool.and_false])
      simp only [hc]
      simp -implicitDefEqProofs [f_spec_AFits_9,cu,at_,kl,sn,uk,us,b2,b3]
      exact f
    have c2:0≤r.kind:=by omega
    have c3:r.kind≤7:=by omega
    simp only [b1,c2,c3,decide_true,Bool.true_and] at T hF
    by_cases b4:r.reason=[]
    · have T':=T (by rw [b4]; simp)
      simp only [hc,b4] at T'
      simp only [hc]
      simp -implicitDefEqProofs [f_spec_AFits_9,cu,at_,kl,sn,uk,us,b2,b3,b4]
      exact T' _
    · cases b5:mTok r.reason with
      | false =>
        have f:=hF (by simp [b4,b5])
        rw [b5] at kt
        simp only [hc]
        simp -implicitDefEqProofs [f_spec_AFits_9,cu,at_,kl,sn,uk,us,b2,b3,b4,acall,h104,kt]
        exact f
      | true =>
        have T':=T (by simp [b5])
        rw [b5] at kt
        simp only [hc] at T' ⊢
        simp -implicitDefEqProofs [f_spec_AFits_9,cu,at_,kl,sn,uk,us,b2,b3,b4,acall,h104,kt]
        exact T' _
end

section
variable {Γ:Gam} {u:AV} (uk:∀ d,kill d u=u) (us:∀ g,snapW g u=u) (n i:Int)
include uk us in
set_option maxRecDepth 100000 in
set_option maxHeartbeats 4000000 in
theorem af_v {Q:APost} (r:AR) (V:List L8) (hV:V.length≤10)
    (hT:∀ ex',Q (.exit 2) ⟨(0,u)::(4,.ptr r.cells)::(5,.bool (V.contains r.value))::(17,u)::(18,.int .i64 n)::(19,.int .i64 i)::ex',[]⟩) :
    awp Γ (.loop [0,4,5,17,18,19,23,24,25] b_spec_AFits_1) Q ⟨[(0,u),(4,.ptr r.cells),(5,.bool false),(17,u),(18,.int .i64 n),(19,.int .i64 i),(23,.sl 1 (strsA V)),(24,.int .i64 V.length),(25,.int .i64 0)],[]⟩:=by
  have cu:=slP_cells r.ps
  have at_:=slP_atom r.ps
  have kl:=slP_kill r.ps
  have sn:=slP_snapW r.ps
  simp only [cells] at cu
  have hc:r.cells=[.int .i64 r.kind,.str r.method,.str r.value,.str r.reason,.str r.domain,.str r.ident,.str r.fr,.str r.sender,.str r.ip,.str r.helo,.str r.auth,.str r.hkey,.str r.hval,.str r.remote,.int .i64 r.oldest,slP r.ps]:=rfl
  simp only [hc] at hT ⊢
  refine awp_loop2 (σ:=List L8 × List L8) (fun z=>⟨[(0,u),(4,.ptr [.int .i64 r.kind,.str r.method,.str r.value,.str r.reason,.str r.domain,.str r.ident,.str r.fr,.str r.sender,.str r.ip,.str r.helo,.str r.auth,.str r.hkey,.str r.hval,.str r.remote,.int .i64 r.oldest,slP r.ps]),(5,.bool (z.1.contains r.value)),(17,u),(18,.int .i64 n),(19,.int .i64 i),(23,.sl 1 (strsA V)),(24,.int .i64 V.length),(25,.int .i64 z.1.length)],[]⟩)
    (fun z=>V=z.1++z.2) (fun z=>z.2.length) ([],V) (by simp) (by simp) ?_
  rintro ⟨pre,post⟩ e1 LQ hLQ
  simp only at e1
  cases post with
  | nil =>
    simp only [List.append_nil] at e1
    subst e1
    have hnl:¬ ((V.length:Int) < (V.length:Int)):=by omega
    simp -implicitDefEqProofs [b_spec_AFits_1]
    simpa using hT _
  | cons m post =>
    have hlen:V.length=pre.length+(post.length+1):=by rw [e1]; simp
    have hlt:(pre.length:Int) < (V.length:Int):=by omega
    have ew:IntKind.i64.wrap ((pre.length:Int)+1)=(pre.length:Int)+1:=wrap64 (by omega) (by omega)
    have g:V[pre.length]? = some m:=by rw [e1]; exact get_mid rfl
    have f:LQ ⟨[(0,u),(4,.ptr [.int .i64 r.kind,.str r.method,.str r.value,.str r.reason,.str r.domain,.str r.ident,.str r.fr,.str r.sender,.str r.ip,.str r.helo,.str r.auth,.str r.hkey,.str r.hval,.str r.remote,.int .i64 r.oldest,slP r.ps]),(5,.bool ((pre++[m]).contains r.value)),(17,u),(18,.int .i64 n),(19,.int .i64 i),(23,.sl 1 (strsA V)),(24,.int .i64 V.length),(25,.int .i64 ((pre.length:Int)+1))],[]⟩ :=
      hLQ (pre++[m],post) (by rw [e1]; simp) (by simp) _ (by simp)
    rw [ms_any] at f
    cases hb:pre.contains r.value with
    | true =>
      rw [hb] at f
      simp -implicitDefEqProofs [b_spec_AFits_1,hlt,g,ew,uk,us,cu,at_,kl,sn]
      simpa using f
    | false =>
      rw [hb] at f
      have e:[m].contains r.value=decide (m=r.value):=by rw [Bool.eq_iff_iff]; simp [eq_comm]
      rw [e] at f
      simp -implicitDefEqProofs [b_spec_AFits_1,hlt,g,ew,uk,us,cu,at_,kl,sn]
      simpa using f
theorem sz_fit2 {r:AR} (h:fit2 r=true):SzR r:=by
  simp only [fit2,lenB,fits13,fits14,Bool.and_eq_true,decide_eq_true_eq,List.all_eq_true] at h
  obtain ⟨h1,h2,h3,h4,h5,h6,h7,h8,h9,h10,h11,h12,h13,h14,h15⟩:=h
  refine ⟨by simp only [mid]; omega,by simp only [mid]; omega,by simp only [mid]; omega,fun p hp=>by have:=h15 p hp; simp only [mid]; omega,?_⟩
  have M:(2147483647:Nat) < mid:=by simp only [mid]; omega
  intro p hp
  unfold AR.props at hp
  have c5:∀ s:L8,s.length≤10→s.length < mid:=fun s h=>by simp only [mid]; omega
  repeat' split at hp
  all_goals simp at hp
  all_goals try rcases hp with rfl | rfl | rfl
  all_goals try rcases hp with rfl | rfl
  all_goals try subst hp
  all_goals (refine ⟨?_,?_⟩ <;> first | (simp only [mid]; omega) | (simp [nAuth,nD,nI,nFrom,nSender,nIprev,nMail,nHelo,mid]))
end

def con_AFits:List AV→Option AV
  | [u]=>match slAR u with
    | some l=>if l.length < half∧l.all fit2=true then some (.bool (aFits l)) else none
    | none=>none
  | _=>none
set_option maxRecDepth 100000 in
set_option maxHeartbeats 4000000 in
theorem ok_AFits (Γ:Gam) (h99:Γ.fn 99=con_MailKeyword) (h102:Γ.fn 102=con_MailHalves) (h104:Γ.fn 104=con_MailToken) (h112:Γ.fn 112=con_MailLower) (h200:Γ.fn 200=con_AMethods) (h201:Γ.fn 201=con_AProps) (h203:Γ.fn 203=con_AValues) (h204:Γ.fn 204=con_APlain) :
    ∀ args r,con_AFits args=some r→runs Γ c_spec_AFits args (fun v=>v=r):=by
  intro args r h
  simp only [con_AFits] at h
  split at h <;> (try simp at h; done)
  rename_i u
  split at h <;> (try simp at h; done)
  rename_i l hl
  obtain ⟨⟨h1,h2⟩,rfl⟩:=ite_some h
  clear h
  have uk:=sar_kill hl
  have us:=sar_snapW hl
  have ua:=sar_alen hl
  simp only [half] at h1
  rw [List.all_eq_true] at h2
  simp -implicitDefEqProofs [-alen,c_spec_AFits,ua]
  refine awp_loop2 (σ:=List AR × List AR) (fun z=>⟨[(0,u),(17,u),(18,.int .i64 l.length),(19,.int .i64 z.1.length)],[]⟩)
    (fun z=>l=z.1++z.2∧z.1.all aFit1=true) (fun z=>z.2.length) ([],l) (by simp) (by simp) ?_
  rintro ⟨pre,post⟩ ⟨e1,e2⟩ LQ hLQ
  simp only at e1 e2
  cases post with
  | nil =>
    simp only [List.append_nil] at e1
    subst e1
    have hnl:¬ ((l.length:Int) < (l.length:Int)):=by omega
    have e:aFits l=decide ((l.length:Int)≤10):=by
      simp only [aFits,e2,Bool.true_and]
      exact decide_eq_decide.2 (by omega)
    simp -implicitDefEqProofs [-alen,b_spec_AFits_11,t_spec_AFits_12,ua,e]
  | cons x post =>
    have hu:=sar_ne hl (by rw [e1]; simp)
    subst hu
    have hlen:l.length=pre.length+(post.length+1):=by rw [e1]; simp
    have hlt:(pre.length:Int) < (l.length:Int):=by omega
    have ew:IntKind.i64.wrap ((pre.length:Int)+1)=(pre.length:Int)+1:=wrap64 (by omega) (by omega)
    have g:(arA l)[pre.length]? = some (.agg x.cells):=by rw [e1,arA_app]; exact get_mid (by simp)
    have sz:=sz_fit2 (h2 x (by rw [e1]; simp))
    have cu:=slP_cells x.ps
    simp only [cells] at cu
    have k203:con_AValues []=some (.sl 1 (strsA aVals)):=rfl
    have bad:aFit1 x=false→aFits l=false:=fun h=>by
      have:l.all aFit1=false:=by rw [e1]; simp [h]
      simp only [aFits,this,Bool.false_and]
    have good:aFit1 x=true→LQ ⟨[(0,.sl 16 (arA l)),(17,.sl 16 (arA l)),(18,.int .i64 l.length),(19,.int .i64 ((pre.length:Int)+1))],[]⟩:=fun h =>
      hLQ (pre++[x],post) ⟨by rw [e1]; simp,by rw [List.all_append,e2]; simp [h]⟩ (by simp) _ (by simp)
    have hc:x.cells=[.int .i64 x.kind,.str x.method,.str x.value,.str x.reason,.str x.domain,.str x.ident,.str x.fr,.str x.sender,.str x.ip,.str x.helo,.str x.auth,.str x.hkey,.str x.hval,.str x.remote,.int .i64 x.oldest,slP x.ps]:=rfl
    have T:=fun Q a b c ex=>af_9 (Γ:=Γ) (Q:=Q) h99 h102 h104 h112 h200 h201 h204 uk us (l.length:Int) (pre.length:Int) x sz ex a b c
    have hal:aVals.length=9:=rfl
    have V:=fun Q hT=>af_v (Γ:=Γ) (Q:=Q) uk us (l.length:Int) (pre.length:Int) x aVals (by omega) hT
    rw [hal] at V
    simp only [hc] at g T V
    generalize hVV:aVals=V9 at *
    simp -implicitDefEqProofs [b_spec_AFits_11,hlt,g,cu,uk,us,acall,h203,k203,hal]
    refine V _ fun ex'=>?_
    refine T _ ?_ ?_ ?_ _
    · intro h ex''
      have gd:=good h
      simp -implicitDefEqProofs [t_spec_AFits_10,ew]
      exact gd
    · intro h ex''
      have gd:=good h
      simp -implicitDefEqProofs [t_spec_AFits_10,ew]
      exact gd
    · intro h
      have b:=bad h
      simp -implicitDefEqProofs [b]
end Wax


namespace Wax
open Go (IntKind)

theorem only_only (r:AR):r.only.only=r.only:=by
  by_cases h0:r.kind=0
  · simp [AR.only,h0]
  by_cases h1:r.kind=1
  · simp [AR.only,h1]
  by_cases h2:r.kind=2
  · simp [AR.only,h2]
  by_cases h3:r.kind=3
  · simp [AR.only,h3]
  by_cases h4:r.kind=4
  · simp [AR.only,h4]
  by_cases h5:r.kind=5
  · simp [AR.only,h5]
  by_cases h6:r.kind=6
  · simp [AR.only,h6]
  by_cases h7:r.kind=7
  · simp [AR.only,h7]
  simp [AR.only,h0,h1,h2,h3,h4,h5,h6,h7]
theorem norm_norm (r:AR):r.norm.norm=r.norm:=by
  obtain ⟨a,b,c,d,e,f,g,h,i,j,k,l,m,n,o,ps⟩:=r
  cases ps with
  | none=>rfl
  | some p=>cases p <;> rfl
theorem norm_ps (r:AR):r.norm.ps.getD []=r.ps.getD []:=by
  obtain ⟨a,b,c,d,e,f,g,h,i,j,k,l,m,n,o,ps⟩:=r
  cases ps with
  | none=>rfl
  | some p=>cases p <;> rfl
theorem sames_norm {f:AR→AR} (hf:∀ r:AR,(f r).norm=r.norm):∀ l:List AR,arSames (l.map f) l=true
  | []=>rfl
  | r::l=>by
    simp only [List.map_cons,arSames,Bool.and_eq_true]
    exact ⟨arSame_iff.2 (hf r),sames_norm hf l⟩
structure LawAR (l:List AR):Prop where
  len:l.length≤2147483647
  fit:(l.map AR.only).all fit2=true
theorem fit2_ps {r:AR} (h:fit2 r=true):(r.ps.getD []).length < half:=by
  simp only [fit2,lenB,fits13,Bool.and_eq_true,decide_eq_true_eq] at h
  simp only [half]; omega
theorem law_sz {l:List AR} (L:LawAR l) (hf:aFits (l.map AR.only)=true):((l.map AR.only).length < half∧∀ r∈l.map AR.only,(r.ps.getD []).length < half)∧(((l.map AR.only).map AR.norm).length < half∧∀ r∈(l.map AR.only).map AR.norm,(r.ps.getD []).length < half):=by
  have h1:=L.fit
  rw [List.all_eq_true] at h1
  have h2:(l.map AR.only).length≤10:=by simp only [aFits,Bool.and_eq_true,decide_eq_true_eq] at hf; exact hf.2
  have a:=fun r hr=>fit2_ps (h1 r hr)
  refine ⟨⟨by simp only [half]; omega,a⟩,⟨by rw [List.length_map]; simp only [half]; omega,?_⟩⟩
  intro r hr
  obtain ⟨s,hs,rfl⟩:=List.mem_map.1 hr
  rw [norm_ps]; exact a s hs

end Wax


namespace Wax
open Go (IntKind)

def tspL:List Int:=[40,41,60,62,64,44,59,58,92,34,47,91,93,63,61]
def adrL:List Int:=[35,36,37,38,39,42,43,44,46,47,45,64,91,93,92,94,95,96,123,124,125,126]
def con_tspecial:List AV→Option AV
  | [.int .i32 c]=>some (.bool (tspL.contains c))
  | _=>none
set_option maxHeartbeats 4000000 in
set_option maxRecDepth 10000 in
theorem ok_tspecial (Γ:Gam):∀ args r,con_tspecial args=some r→runs Γ c_authres_tspecial args (fun v=>v=r):=by
  intro args r h
  simp only [con_tspecial] at h
  split at h <;> (try simp at h; done)
  rename_i c
  injection h with h; subst h
  simp -implicitDefEqProofs [c_authres_tspecial]
  simp +contextual [tspL]
def con_addressOk:List AV→Option AV
  | [.int .i32 c]=>some (.bool (adrL.contains c))
  | _=>none
set_option maxHeartbeats 4000000 in
set_option maxRecDepth 10000 in
theorem ok_addressOk (Γ:Gam):∀ args r,con_addressOk args=some r→runs Γ c_authres_addressOk args (fun v=>v=r):=by
  intro args r h
  simp only [con_addressOk] at h
  split at h <;> (try simp at h; done)
  rename_i c
  injection h with h; subst h
  simp -implicitDefEqProofs [c_authres_addressOk]
  simp +contextual [adrL]
def letN (c:Int):Bool:=decide ((97≤c∧c≤122)∨(65≤c∧c≤90)∨c=170∨c=181∨c=186∨(192≤c∧c≤255∧c ≠ 215∧c ≠ 247))
def con_zzIsLetter2:List AV→Option AV
  | [.int .i32 c]=>some (.bool (letN c))
  | _=>none
set_option maxHeartbeats 4000000 in
theorem ok_zzIsLetter2 (Γ:Gam):∀ args r,con_zzIsLetter2 args=some r→runs Γ c_authres_zzIsLetter args (fun v=>v=r):=by
  intro args r h
  simp only [con_zzIsLetter2] at h
  split at h <;> (try simp at h; done)
  rename_i c
  injection h with h; subst h
  simp -implicitDefEqProofs [c_authres_zzIsLetter]
  have hl:∀ b:Bool,(letN c=b)=(decide ((97≤c∧c≤122)∨(65≤c∧c≤90)∨c=170∨c=181∨c=186∨(192≤c∧c≤255∧c ≠ 215∧c ≠ 247))=b):=fun _=>rfl
  simp only [hl,decide_eq_true_eq,decide_eq_false_iff_not]
  omega
def digN (c:Int):Bool:=decide (48≤c∧c≤57)
def con_zzIsDigit2:List AV→Option AV
  | [.int .i32 c]=>some (.bool (digN c))
  | _=>none
theorem ok_zzIsDigit2 (Γ:Gam):∀ args r,con_zzIsDigit2 args=some r→runs Γ c_authres_zzIsDigit args (fun v=>v=r):=by
  intro args r h
  simp only [con_zzIsDigit2] at h
  split at h <;> (try simp at h; done)
  rename_i c
  injection h with h; subst h
  simp -implicitDefEqProofs [c_authres_zzIsDigit]
  refine ⟨fun h=>by simp [digN,h],fun h=>by simp [digN]; omega⟩
def qtB:L8→L8
  | []=>[]
  | c::r=>if c=34 then 92::34::qtB r else c::qtB r
theorem qtB_len:∀ s:L8,(qtB s).length≤2 * s.length
  | []=>by simp [qtB]
  | c::r=>by
    have:=qtB_len r
    simp only [qtB]
    split <;> simp <;> omega
theorem qtB_app:∀ (a b:L8),qtB (a++b)=qtB a++qtB b
  | [],b=>rfl
  | c::a,b=>by
    simp only [List.cons_append,qtB,qtB_app a b]
    split <;> simp
def con_zzQuotes:List AV→Option AV
  | [.str s]=>if s.length < mid then some (.str (qtB s)) else none
  | _=>none
set_option maxHeartbeats 4000000 in
theorem ok_zzQuotes (Γ:Gam):∀ args r,con_zzQuotes args=some r→runs Γ c_authres_zzQuotes args (fun v=>v=r):=by
  intro args r h
  simp only [con_zzQuotes] at h
  split at h <;> (try simp at h; done)
  rename_i s
  obtain ⟨hl,rfl⟩:=ite_some h
  clear h
  simp only [mid] at hl
  simp -implicitDefEqProofs [c_authres_zzQuotes]
  refine awp_loop2 (σ:=L8 × L8 × L8) (fun p=>⟨[(0,.str s),(3,grV 23 1 p.2.2.length),(4,.int .i64 p.1.length)],grH 23 p.2.2.length (bcA p.2.2)⟩) (fun p=>s=p.1++p.2.1∧p.2.2=qtB p.1) (fun p=>p.2.1.length) ([],s,[]) (by simp) (by simp [qtB]) ?_
  rintro ⟨pre,post,out⟩ ⟨e1,e2⟩ LQ hLQ
  simp only at e1 e2
  have hol:out.length≤2 * pre.length:=by rw [e2]; exact qtB_len pre
  cases post with
  | nil =>
    simp only [List.append_nil] at e1
    subst e1
    have hnl:¬ ((s.length:Int) < (s.length:Int)):=by omega
    cases out with
    | nil=>simp -implicitDefEqProofs [← e2]
    | cons y out =>
      simp -implicitDefEqProofs [← e2]
  | cons c post =>
    have hlen:s.length=pre.length+(post.length+1):=by rw [e1]; simp
    have hlt:(pre.length:Int) < (s.length:Int):=by omega
    have hlt':pre.length < s.length:=by omega
    have g:s[pre.length]? = some c:=by rw [e1]; exact get_mid rfl
    have g':s[pre.length]'hlt'=c:=by rw [List.getElem?_eq_getElem hlt'] at g; exact Option.some.inj g
    have ew:IntKind.i64.wrap ((pre.length:Int)+1)=(pre.length:Int)+1:=wrap64 (by omega) (by omega)
    have nx:qtB (pre++[c])=out++(if c=34 then [92,34] else [c]):=by
      rw [qtB_app,← e2]; simp only [qtB]
    by_cases hc:c=34
    · have hx:(c.toNat:Int)=34:=by rw [hc]; rfl
      rw [if_pos hc] at nx
      have go:=fun st=>hLQ (pre++[c],post,out++[92,34]) ⟨by simp [e1],nx.symm⟩ (by simp) st
      simp only at go
      cases out with
      | nil =>
        simp -implicitDefEqProofs [hlt,hlt',g,g',ew,hx]
        exact go _ (by simp)
      | cons y out =>
        simp only [List.length_cons] at hol
        have hk:List.take (out.length+1) (bcA out++[AV.int .u8 92])=bcA out++[AV.int .u8 92]:=List.take_of_length_le (by simp)
        simp -implicitDefEqProofs [hlt,hlt',g,g',ew,hx,hk]
        refine ⟨by omega,by omega,go _ (by simp)⟩
    · rw [if_neg hc] at nx
      have hn:¬ (c.toNat:Int)=34:=fun e=>hc (UInt8.toNat_inj.1 (by simp; omega))
      have go:=fun st=>hLQ (pre++[c],post,out++[c]) ⟨by simp [e1],nx.symm⟩ (by simp) st
      simp only at go
      cases out with
      | nil =>
        simp -implicitDefEqProofs [hlt,hlt',g,g',ew,hn]
        exact go _ (by simp)
      | cons y out =>
        simp only [List.length_cons] at hol
        simp -implicitDefEqProofs [hlt,hlt',g,g',ew,hn]
        refine ⟨by omega,go _ (by simp)⟩
end Wax


namespace Wax
open Go (IntKind)

def spB (c:UInt8):Bool:=decide ((c.toNat:Int)≤32) || tspL.contains (c.toNat:Int)
def adB (c:UInt8):Bool:=letN c.toNat || digN c.toNat || adrL.contains (c.toNat:Int)
def fmtV (s:L8):L8:=if s.any spB=true then 34::(qtB s++[34]) else s
def fmtP (s:L8):L8:=if s.all adB=true then s else fmtV s
def con_formatValue:List AV→Option AV
  | [.str s]=>if s.length < mid∧ascii s=true then some (.str (fmtV s)) else none
  | _=>none
set_option maxHeartbeats 4000000 in
set_option maxRecDepth 100000 in
theorem ok_formatValue (Γ:Gam) (h243:Γ.fn 243=con_tspecial) (h244:Γ.fn 244=con_zzQuotes):∀ args r,con_formatValue args=some r→runs Γ c_authres_formatValue args (fun v=>v=r):=by
  intro args r h
  simp only [con_formatValue] at h
  split at h <;> (try simp at h; done)
  rename_i s
  obtain ⟨⟨hs,ha⟩,rfl⟩:=ite_some h
  clear h
  have kq:con_zzQuotes [.str s]=some (.str (qtB s)):=if_pos hs
  have hql:=qtB_len s
  simp only [mid] at hs
  simp -implicitDefEqProofs [c_authres_formatValue]
  refine awp_loop2 (σ:=L8 × L8) (fun p=>⟨[(0,.str s),(3,.bool (p.1.any spB)),(8,.ref 8 0)],[(8,.sit s p.1.length)]⟩)
    (fun p=>s=p.1++p.2) (fun p=>p.2.length) ([],s) (by simp) (by simp) ?_
  rintro ⟨pre,post⟩ hs1 LQ hLQ
  simp only at hs1
  cases post with
  | nil =>
    simp only [List.append_nil] at hs1
    subst hs1
    cases hc:s.any spB with
    | true =>
      simp -implicitDefEqProofs [b_authres_formatValue_1,t_authres_formatValue_2,hc,acall,h244,kq,fmtV]
      omega
    | false=>simp -implicitDefEqProofs [b_authres_formatValue_1,t_authres_formatValue_2,hc,fmtV]
  | cons x post =>
    subst hs1
    have hx:=(ascii_lt (by rw [ascii_app] at ha; simp only [Bool.and_eq_true] at ha; exact ha.2:ascii (x::post)=true)).1
    have go:=fun st=>hLQ (pre++[x],post) (by simp) (by simp) st
    have ea:(pre++[x]).any spB=(pre.any spB || spB x):=by simp
    simp only [ea] at go
    have kt:con_tspecial [.int .i32 (x.toNat:Int)]=some (.bool (tspL.contains (x.toNat:Int))):=rfl
    by_cases h32:(x.toNat:Int)≤32
    · have e:spB x=true:=by simp only [spB,h32,decide_true,Bool.true_or]
      simp only [e,Bool.or_true] at go
      simp -implicitDefEqProofs [b_authres_formatValue_1,decA hx,acall,h243,kt,h32]
      exact go _ (by simp)
    · have e:spB x=tspL.contains (x.toNat:Int):=by simp only [spB,h32,decide_false,Bool.false_or]
      rw [e] at go
      cases ht:tspL.contains (x.toNat:Int) with
      | true =>
        simp only [ht,Bool.or_true] at go kt
        simp -implicitDefEqProofs [b_authres_formatValue_1,decA hx,acall,h243,kt,h32]
        exact go _ (by simp)
      | false =>
        simp only [ht,Bool.or_false] at go kt
        simp -implicitDefEqProofs [b_authres_formatValue_1,decA hx,acall,h243,kt,h32]
        exact go _ (by simp)
def con_formatPvalue:List AV→Option AV
  | [.str s]=>if s.length < mid∧ascii s=true then some (.str (fmtP s)) else none
  | _=>none
set_option maxHeartbeats 4000000 in
set_option maxRecDepth 100000 in
theorem ok_formatPvalue (Γ:Gam) (h245:Γ.fn 245=con_addressOk) (h246:Γ.fn 246=con_zzIsLetter2) (h247:Γ.fn 247=con_zzIsDigit2) (h241:Γ.fn 241=con_formatValue):∀ args r,con_formatPvalue args=some r→runs Γ c_authres_formatPvalue args (fun v=>v=r):=by
  intro args r h
  simp only [con_formatPvalue] at h
  split at h <;> (try simp at h; done)
  rename_i s
  obtain ⟨⟨hs,ha⟩,rfl⟩:=ite_some h
  clear h
  have kq:con_formatValue [.str s]=some (.str (fmtV s)):=if_pos ⟨hs,ha⟩
  simp only [mid] at hs
  simp -implicitDefEqProofs [c_authres_formatPvalue]
  refine awp_loop2 (σ:=L8 × L8) (fun p=>⟨[(0,.str s),(3,.bool (p.1.all adB)),(8,.ref 8 0)],[(8,.sit s p.1.length)]⟩)
    (fun p=>s=p.1++p.2) (fun p=>p.2.length) ([],s) (by simp) (by simp) ?_
  rintro ⟨pre,post⟩ hs1 LQ hLQ
  simp only at hs1
  cases post with
  | nil =>
    simp only [List.append_nil] at hs1
    subst hs1
    cases hc:s.all adB with
    | true=>simp -implicitDefEqProofs [b_authres_formatPvalue_1,t_authres_formatPvalue_2,hc,fmtP]
    | false=>simp -implicitDefEqProofs [b_authres_formatPvalue_1,t_authres_formatPvalue_2,hc,acall,h241,kq,fmtP]
  | cons x post =>
    subst hs1
    have hx:=(ascii_lt (by rw [ascii_app] at ha; simp only [Bool.and_eq_true] at ha; exact ha.2:ascii (x::post)=true)).1
    have go:=fun st=>hLQ (pre++[x],post) (by simp) (by simp) st
    have ea:(pre++[x]).all adB=(pre.all adB && adB x):=by simp
    simp only [ea] at go
    have k1:con_addressOk [.int .i32 (x.toNat:Int)]=some (.bool (adrL.contains (x.toNat:Int))):=rfl
    have k2:con_zzIsLetter2 [.int .i32 (x.toNat:Int)]=some (.bool (letN (x.toNat:Int))):=rfl
    have k3:con_zzIsDigit2 [.int .i32 (x.toNat:Int)]=some (.bool (digN (x.toNat:Int))):=rfl
    cases h1:letN (x.toNat:Int) with
    | true =>
      have e:adB x=true:=by simp only [adB,h1,Bool.true_or]
      simp only [e,Bool.and_true] at go
      simp only [h1] at k2
      simp -implicitDefEqProofs [b_authres_formatPvalue_1,decA hx,acall,h245,k1,h246,k2]
      exact go _ (by simp)
    | false =>
      simp only [h1] at k2
      cases h2:digN (x.toNat:Int) with
      | true =>
        have e:adB x=true:=by simp only [adB,h1,h2,Bool.false_or,Bool.true_or]
        simp only [e,Bool.and_true] at go
        simp only [h2] at k3
        simp -implicitDefEqProofs [b_authres_formatPvalue_1,decA hx,acall,h245,k1,h246,k2,h247,k3]
        exact go _ (by simp)
      | false =>
        simp only [h2] at k3
        have e:adB x=adrL.contains (x.toNat:Int):=by simp only [adB,h1,h2,Bool.false_or]
        rw [e] at go
        cases h3:adrL.contains (x.toNat:Int) with
        | true =>
          simp only [h3,Bool.and_true] at go k1
          simp -implicitDefEqProofs [b_authres_formatPvalue_1,decA hx,acall,h245,k1,h246,k2,h247,k3]
          exact go _ (by simp)
        | false =>
          simp only [h3,Bool.and_false] at go k1
          simp -implicitDefEqProofs [b_authres_formatPvalue_1,decA hx,acall,h245,k1,h246,k2,h247,k3]
          exact go _ (by simp)
end Wax


namespace Wax
open Go Go.RowKit

theorem repSl_mk {T:Tab} {w:World} {F:Frz} {b:Nat} (hF:F b):∀ (l:List (List UInt8)) (o:Nat),(∀ (j:Nat) s,l[j]? = some s→w.cell? ⟨b,o+j,none⟩=some (.string ⟨s.toArray⟩))→RepSl T w F 1 b o (strsA l)
  | [],_,_=>trivial
  | x::r,o,h=>by
    simp only [strsA,List.map_cons,RepSl]
    refine ⟨trivial,⟨hF,_,by simpa using h 0 x rfl,by simp [Rep]⟩,?_⟩
    exact repSl_mk hF r (o+1) fun j s hj=>by
      rw [show o+1+j=o+(j+1) by omega]
      exact h (j+1) s (by simpa using hj)

theorem owned_strs {T:Tab} {w w':World} {F:Frz} {e9:TypeId} {v':Value} {l:List (List UInt8)} (ho:w'.ownsRow w.heap.size e9 1 v' l.length (l.map fun s=>Value.string ⟨s.toArray⟩)) (hn:v' ≠ .slice none 0 0) :
    Rep T w' (fun b=>F b∨(w.heap.size≤b∧b < w'.heap.size)) noRho (.sl 1 (strsA l)) v':=by
  have ho':=ho
  obtain ⟨_,hx⟩:=ho
  rcases hx with ⟨he,_⟩ | ⟨g,cap,cur,rfl,hg,hh,hcap,_,_,_⟩
  · exact absurd he hn
  · simp only [Rep]
    refine .inl ⟨g,0,cap,by simp,by simpa using hcap,?_⟩
    have hgl:g < w'.heap.size:=by
      rcases Nat.lt_or_ge g w'.heap.size with h | h
      · exact h
      · rw [Array.getElem?_eq_none h] at hh; simp at hh
    refine repSl_mk (.inr ⟨hg,hgl⟩) l 0 fun j s hj=>?_
    have:=ho'.cells (g:=g) rfl j (.string ⟨s.toArray⟩) (by rw [List.getElem?_map,hj]; rfl)
    have e:((⟨g,0,none⟩:Addr).add j)=⟨g,0+j,none⟩:=by
      cases j <;> simp [Addr.add]
    rw [e] at this
    exact this

end Wax


namespace Wax
open Go Go.RowKit Go.Proofs Go.Sort

def SortSays (P:Program) (f:FuncId):Prop :=
  (∀ (p:Option Addr) (cap:Nat) (w:World),Calls P f #[.slice p 0 cap] w fun e w'=>e=.returned (.tuple #[])∧w'=w) ∧
  ∀ (blk off cap:Nat) (ss:List (List UInt8)) (w:World),Holds encStr w blk off ss.toArray→blk < w.heap.size→ss.length < 4611686018427387904 →
    Calls P f #[.slice (some ⟨blk,off,none⟩) ss.length cap] w fun e w'=>e=.returned (.tuple #[])∧∃ n os,w'=grow (putRow encStr (Sort.ahead w n) blk off (ss.mergeSort fun x y=>decide (x≤y)).toArray) os

def con_Sort:List AV→List (Nat × AObj)→Option (AV × List (Nat × AObj))
  | [.msl 0 1 0 n],[(0,.cells cs)]=>match asStrs cs with
    | some l=>if l.length=n∧n < 4611686018427387904 then some (.tup [],[(0,.cells (strsA (sortB l)))]) else none
    | none=>none
  | _,_=>none

theorem repL_strs2 {T:Tab} {w:World} {F:Frz} {ρ:Rho}:∀ {l:List (List UInt8)} {vs:List Value},RepL T w F ρ (strsA l) vs→vs=l.map encStr
  | [],[],_=>rfl
  | s::l,v::vs,h=>by
    simp only [strsA,List.map_cons,RepL] at h
    obtain ⟨h1,h2⟩:=h
    simp only [Rep] at h1
    rw [List.map_cons,h1,← repL_strs2 (l:=l) h2]
  | [],_::_,h=>by simp [strsA,RepL] at h
  | _::_,[],h=>by simp [strsA,RepL] at h
theorem strs2_repL {T:Tab} {w:World} {F:Frz} {ρ:Rho}:∀ {l:List (List UInt8)},RepL T w F ρ (strsA l) (l.map encStr)
  | []=>by simp [strsA,RepL]
  | s::l=>by
    simp only [strsA,List.map_cons,RepL]
    exact ⟨by simp only [Rep],strs2_repL (l:=l)⟩

theorem ok_SortS {P:Program} {T:Tab} {f:FuncId} (H:SortSays P f):∀ args hp q,con_Sort args hp=some q→OkS P T f args hp q.1 q.2:=by
  intro args hp q h w F ρ vs hF hG hid hH hx
  obtain ⟨H0,H1⟩:=H
  simp only [con_Sort] at h
  split at h <;> (try simp at h; done)
  rename_i n cs
  split at h <;> (try simp at h; done)
  rename_i l hl
  rw [asStrs_spec hl] at hH
  split at h <;> (try simp at h; done)
  rename_i hc
  obtain ⟨rfl,hlen⟩:=hc
  simp only [Option.some.injEq] at h
  subst h
  match vs,hx with
  | [v],hx =>
  simp only [RepL,and_true] at hx
  simp only [Rep] at hx
  obtain ⟨b,o,x,cap,c,e,fz,hρ,rfl,hcap,hbk,hsh⟩:=hx
  obtain ⟨b',o',hρ',hb,hnF,pre,us,post,e',f',hb2,hpo,hr,hnf⟩:=hH.obj 0 _ rfl
  rw [hρ] at hρ'
  simp only [Option.some.injEq,Prod.mk.injEq] at hρ'
  obtain ⟨rfl,rfl⟩:=hρ'
  have hus:=repL_strs2 hr
  subst hus
  have hsame:BelX (fun b=>∃ id o,ρ id=some (b,o)) w.heap.size w w:=BelX.refl _ _ _
  cases hl0:l with
  | nil =>
    subst hl0
    refine (H0 _ _ w).mono ?_
    rintro r w' ⟨rfl,rfl⟩
    refine ⟨_,F,ρ,rfl,hsame,fun _ h=>h,fun _ h=>.inl h,hF,?_,fun _ p h=>.inr h,fun id b o h1 h2=>by rw [h2] at h1; simp at h1,?_⟩
    · have:sortB []=[]:=by simp [sortB]
      rw [this]
      exact hH
    · exact ⟨#[],rfl,by simp [RepL]⟩
  | cons y ys =>
    rw [← hl0]
    have hn:0 < l.length:=by rw [hl0]; simp
    have hx:x=o:=by
      rcases hsh with h | h
      · omega
      · omega
    subst hx
    have hsz:(sortB l).length=l.length:=by simp [sortB]
    have hpl:(pre++(l.map encStr++post)).length=x+l.length+post.length:=by simp [hpo]; omega
    have hold:Holds encStr w b x l.toArray:=by
      intro j hj
      simp only [List.size_toArray] at hj
      refine ⟨?_,hnf.1 (x+j) (by omega)⟩
      simp only [World.cell?,hb2,Option.isSome_none,Bool.false_eq_true,if_false,List.getElem?_toArray]
      rw [← hpo,List.getElem?_append_right (by omega),Nat.add_sub_cancel_left,List.getElem?_append_left (by simpa using hj),List.getElem?_map,List.getElem?_eq_getElem hj]
      simp [hj]
    refine (H1 b x cap l w hold hb hlen).mono ?_
    rintro r w' ⟨rfl,m,os,rfl⟩
    have hsa:(l.mergeSort fun x y=>decide (x≤y))=sortB l:=rfl
    rw [hsa]
    have hheap:∀ k,k < w.heap.size→(grow (putRow encStr (Sort.ahead w m) b x (sortB l).toArray) os).heap[k]? = if b=k then some (.cells (pre++((sortB l).map encStr++post)).toArray e' f') else w.heap[k]? := by
      intro k hk
      rw [heap_grow_old _ _ (by simpa [Sort.ahead] using hk)]
      simp only [putRow,mapBlock,Sort.ahead,Array.getElem?_modify]
      by_cases hbk:b=k
      · subst hbk
        simp only [if_true,hb2,Option.map_some,onCells,Option.some.injEq,Obj.cells.injEq,and_true]
        apply Array.ext_getElem?
        intro j
        simp only [putCells,Array.getElem?_mapIdx,List.size_toArray,hsz,List.getElem?_toArray]
        by_cases h1:j < x
        · rw [List.getElem?_append_left (by omega),List.getElem?_append_left (by omega)]
          cases pre[j]? with
          | none=>rfl
          | some y=>rw [Option.map_some,if_neg (by omega)]
        · have a1:∀ z:List Value,(pre++z)[j]? = z[j - x]? := fun z=>by rw [List.getElem?_append_right (by omega),hpo]
          by_cases h2:j < x+l.length
          · have a2:∀ z:List Value,z.length=l.length→(z++post)[j - x]? = z[j - x]? := fun z hz=>List.getElem?_append_left (by omega)
            rw [a1,a1,a2 _ (by simp),a2 _ (by simp [hsz]),List.getElem?_map,List.getElem?_map,List.getElem?_eq_getElem (by omega),List.getElem?_eq_getElem (by omega)]
            simp only [Option.map_some]
            rw [if_pos ⟨by omega,h2⟩]
            have hjj:j - x < (sortB l).length:=by omega
            simp [hjj]
          · have a3:∀ z:List Value,z.length=l.length→(z++post)[j - x]? = post[j - x - l.length]? := fun z hz=>by rw [List.getElem?_append_right (by omega),hz]
            rw [a1,a1,a3 _ (by simp),a3 _ (by simp [hsz])]
            cases post[j - x - l.length]? with
            | none=>rfl
            | some y=>rw [Option.map_some,if_neg (by omega)]
      · simp [hbk]
    have hgs:(grow (putRow encStr (Sort.ahead w m) b x (sortB l).toArray) os).heap.size=w.heap.size+os.size:=by simp [Sort.ahead]
    generalize hw':grow (putRow encStr (Sort.ahead w m) b x (sortB l).toArray) os=w' at *
    have hbel:BelX (fun b=>∃ id o,ρ id=some (b,o)) w.heap.size w w':=by
      refine ⟨by rw [← hw']; rfl,by rw [← hw']; rfl,by rw [← hw']; rfl,by omega,fun k hk hB=>?_,fun k c1 e1 f1 hk h1=>?_⟩
      · rw [hheap k hk,if_neg (fun h=>hB ⟨0,x,by rw [← h]; exact hρ⟩)]
      · rw [hheap k hk]
        by_cases h:b=k
        · subst h
          rw [hb2] at h1
          injection h1 with h1
          injection h1 with h1 h2 h3
          rw [if_pos rfl]
          refine ⟨_,_,_,rfl,?_⟩
          rw [← h1]
          simp [hsz]
        · rw [if_neg h]
          exact ⟨c1,e1,f1,h1,Nat.le_refl _⟩
    refine ⟨_,F,ρ,rfl,hbel,fun _ h=>h,fun _ h=>.inl h,fun k hk=>by have:=hF k hk; omega,?_,fun _ p h=>.inr h,fun id b o h1 h2=>by rw [h2] at h1; simp at h1,?_⟩
    · refine ⟨fun id p hp=>?_,fun id y hy=>?_,hH.inj⟩
      · obtain ⟨z,hz⟩:=hH.dom id p hp
        simp only [hlk] at hz ⊢
        split at hz
        · exact ⟨_,if_pos (by assumption)⟩
        · simp at hz
      · simp only [hlk] at hy
        split at hy
        · rename_i h0
          simp only [Option.some.injEq] at hy
          subst hy
          have h0':id=0:=by omega
          subst h0'
          refine ⟨b,x,hρ,by omega,hnF,pre,(sortB l).map encStr,post,e',f',by rw [hheap b hb,if_pos rfl],hpo,strs2_repL,?_⟩
          have hlen2:(pre++((sortB l).map encStr++post)).length=(pre++(l.map encStr++post)).length:=by simp [hsz]
          rw [hlen2]
          refine ⟨fun k hk=>?_,fun c1 e1 f1 h1=>?_⟩
          · have:=hnf.1 k hk
            simp only [World.frozen?,hb2] at this
            simp only [World.frozen?,hheap b hb,if_true]
            exact this
          · rw [hheap b hb,if_pos rfl] at h1
            injection h1 with h1
            injection h1 with _ _ h3
            subst h3
            exact hnf.2 _ _ _ hb2
        · simp at hy
    · exact ⟨#[],rfl,by simp [RepL]⟩
end Wax


namespace Wax
open Go (IntKind)

def tkC (m:L8) (c:UInt8):Bool:=tokB c || anyN c.toNat m
end Wax


namespace Wax
open Go (IntKind)

def kKeys:List L8:=[qReason,qAuth,qD,qI,qFrom,qSend,qIprev,qMail,qHelo]
theorem prOf_congr {m v:L8} {l l':List KVp} (hm:m∈aMeths) (ha:m ≠ sArc) (h:∀ k∈kKeys,lookP l k=lookP l' k) (hs:m=sSender→sidOf l=sidOf l'):prOf m v l=prOf m v l':=by
  have k1:=h qReason (by simp [kKeys])
  have k2:=h qAuth (by simp [kKeys])
  have k3:=h qD (by simp [kKeys])
  have k4:=h qI (by simp [kKeys])
  have k5:=h qFrom (by simp [kKeys])
  have k6:=h qSend (by simp [kKeys])
  have k7:=h qIprev (by simp [kKeys])
  have k8:=h qMail (by simp [kKeys])
  have k9:=h qHelo (by simp [kKeys])
  simp only [prOf,if_neg ha,k1,k2,k3,k4,k5,k6,k7,k8,k9]
  simp only [aMeths,List.mem_cons,List.not_mem_nil,or_false] at hm
  rcases hm with rfl | rfl | rfl | rfl | rfl | rfl | rfl | rfl <;> first | exact absurd rfl ha | rfl | (have hs:=hs rfl; simp only [hs]; rfl)

theorem sid_only {l:List KVp} {k:L8} (hk:headB k=true) (hin:k∈l.map (·.1)) (ho:∀ x∈l.map (·.1),x=k∨headB x=false):sidOf l=(k.drop 7,lookP l k):=by
  have hf:(sortB (l.map (·.1))).find? headB=some k:=by
    have hin':k∈sortB (l.map (·.1)):=by simpa [sortB] using hin
    have ho':∀ x∈sortB (l.map (·.1)),x=k∨headB x=false:=fun x hx=>ho x (by simpa [sortB] using hx)
    generalize sortB (l.map (·.1))=L at *
    cases hf:L.find? headB with
    | none =>
      have:=List.find?_eq_none.1 hf k hin'
      rw [hk] at this; simp at this
    | some y =>
      have h1:=List.find?_some hf
      rcases ho' y (List.mem_of_find?_eq_some hf) with rfl | h
      · rfl
      · rw [h] at h1; simp at h1
  simp only [sidOf,hf]
structure ResT.OkW (t:ResT):Prop where
  pre:allWs t.pre
  head:KvOk t.head
  ps:∀ p∈t.ps,(p.1 ≠ []∧allWs p.1)∧KvOk p.2
theorem ResT.OkW.res {t:ResT} (h:t.OkW) {b:L8} (hb:allWs b) {x:PR} (hx:prOf (lowS t.head.1) (lowS t.head.2) (prmsOf ((t.ps.map (·.2)).map kvW) [])=.inr x):trimS (t.txt++b) ≠ []∧resAOf (trimS (t.txt++b))=.inr (some x):=by
  have hw:wordsOf (t.txt++b)=kvW t.head::(t.ps.map (·.2)).map kvW:=by
    have e:t.txt++b=t.pre++(kvW t.head++(flatW (t.ps.map fun p=>(p.1,kvW p.2))++b)):=by simp [ResT.txt]
    rw [e,wordsOf_flat h.pre hb kvW_ne (gW_non (kvW_g h.head))]
    · simp
    · intro p hp
      obtain ⟨q,hq,rfl⟩:=List.mem_map.1 hp
      have:=h.ps q hq
      exact ⟨this.1,kvW_ne,gW_non (kvW_g this.2)⟩
  have hw2:=wordsOf_trim (t.txt++b)
  rw [hw] at hw2
  refine ⟨fun e=>?_,?_⟩
  · rw [e] at hw2; simp [wordsOf,wordsGo] at hw2
  · simp only [resAOf,hw2]
    rw [if_neg kvW_not_none,kvW_of h.head]
    simp only [hx]
theorem ResT.OkW.no {t:ResT} (h:t.OkW):noB 59 t.txt:=by
  refine noB_app (allWs_no h.pre) (noB_app (gW_no (kvW_g h.head)) ?_)
  intro x hx
  simp only [flatW,List.mem_flatMap,List.mem_map] at hx
  obtain ⟨_,⟨q,hq,rfl⟩,hx⟩:=hx
  have:=h.ps q hq
  rcases List.mem_append.1 hx with hx | hx
  · exact allWs_no this.1.2 x hx
  · exact gW_no (kvW_g this.2) x hx
theorem ResT.OkW.pl {t:ResT} (h:t.OkW):plain t.txt=true:=by
  refine plain_appB (allWs_plain h.pre) (plain_appB (gW_plain (kvW_g h.head)) ?_)
  simp only [plain,List.all_eq_true]
  intro x hx
  simp only [flatW,List.mem_flatMap,List.mem_map] at hx
  obtain ⟨_,⟨q,hq,rfl⟩,hx⟩:=hx
  have:=h.ps q hq
  have hp:plain (q.1++kvW q.2)=true:=plain_appB (allWs_plain this.1.2) (gW_plain (kvW_g this.2))
  exact List.all_eq_true.1 hp x hx
end Wax


namespace Wax
open Go Go.ChangeShapes Go.WideShapes Go.RowKit

theorem lkGl_mem:∀ {l:List (Nat × List AV)} {g:Nat} {cs:List AV},lkGl l g=some cs→(g,cs)∈l
  | [],_,_,h=>by simp [lkGl] at h
  | (i,v)::r,g,cs,h=>by
    simp only [lkGl] at h
    split at h
    · rename_i e
      simp only [beq_iff_eq] at e
      simp only [Option.some.injEq] at h
      subst e; subst h; simp
    · exact List.mem_cons_of_mem _ (lkGl_mem h)

theorem GlobOk.of {T:Tab} {w:World} {F:Frz} (h:∀ p∈T.gl,RepAt T w F p.1 0 p.2∧F p.1∧∃ vs q a,w.heap[p.1]? = some (.cells vs q a)∧vs.size=p.2.length):GlobOk T w F:=fun g cs hg=>h (g,cs) (lkGl_mem hg)

theorem var_heap {P:Program} {w:World} {n:String} {g:Nat} {cs:Array Value} (hg:P.globalNamed n=some g) (hv:w.var? P n=some cs):∃ q a,w.heap[g]? = some (.cells cs q a):=by
  simp only [World.var?,hg,Option.bind_some] at hv
  split at hv
  · rename_i cs' q a h
    injection hv with hv
    subst hv
    exact ⟨q,a,h⟩
  · simp at hv

theorem lt_of_heap {w:World} {g:Nat} {x:Obj} (h:w.heap[g]? = some x):g < w.heap.size:=by
  rcases Nat.lt_or_ge g w.heap.size with h' | h'
  · exact h'
  · rw [Array.getElem?_eq_none h'] at h; simp at h

theorem repAt_err {T:Tab} {P:Program} {w:World} {n:String} {g tp:Nat} {y:Value} (hg:P.globalNamed n=some g) (hv:w.var? P n=some #[.iface tp y]) (ht:lkN T.tys tp=some 3) :
    RepAt T w (fun b=>b < w.heap.size) g 0 [.ifc 3 .junk]∧g < w.heap.size∧∃ vs q a,w.heap[g]? = some (.cells vs q a)∧vs.size=1:=by
  obtain ⟨q,a,h⟩:=var_heap hg hv
  refine ⟨?_,lt_of_heap h,_,q,a,h,rfl⟩
  simp only [RepAt,and_true]
  exact ⟨lt_of_heap h,_,by simpa using World.var?_cell hg hv 0,tp,y,rfl,ht,trivial⟩

theorem repAt_ints {T:Tab} {w:World} {F:Frz} {g:Nat} {k:IntKind} (hF:F g):∀ (zs:List Int) (o:Nat),(∀ j z,zs[j]? = some z→w.cell? ⟨g,o+j,none⟩=some (.int k z))→RepAt T w F g o (zs.map (AV.int k))
  | [],_,_=>trivial
  | z::r,o,h=>by
    simp only [List.map_cons,RepAt]
    refine ⟨⟨hF,_,by simpa using h 0 z rfl,by simp [Rep]⟩,?_⟩
    exact repAt_ints hF r (o+1) fun j s hj=>by
      rw [show o+1+j=o+(j+1) by omega]
      exact h (j+1) s (by simpa using hj)

theorem repAt_tab {T:Tab} {P:Program} {w:World} {n:String} {g:Nat} {k:IntKind} {zs:List Int} (hg:P.globalNamed n=some g) (hv:Lib.TabIs P w n k zs) :
    RepAt T w (fun b=>b < w.heap.size) g 0 (zs.map (AV.int k))∧g < w.heap.size∧∃ vs q a,w.heap[g]? = some (.cells vs q a)∧vs.size=(zs.map (AV.int k)).length:=by
  have hv':w.var? P n=some (zs.map fun z=>Value.int k z).toArray:=hv
  obtain ⟨q,a,h⟩:=var_heap hg hv'
  refine ⟨repAt_ints (F:=fun b=>b < w.heap.size) (lt_of_heap h) zs 0 fun j z hj=>?_,lt_of_heap h,_,q,a,h,by simp⟩
  have hc:=World.var?_cell hg hv' j
  rw [Nat.zero_add,hc]
  simp [hj]

end Wax


namespace Wax
open Go Go.ChangeShapes Go.WideShapes Go.RowKit Go.Joins Go.Deep

section
variable {P:Program} {T:Tab} {w:World} {H:Type} {enc:TypeId × Value→H}

def strOf:Value→List UInt8
  | .string s=>s.data.toList
  | _=>[]

end
end Wax


namespace Wax
open Go Go.ChangeShapes Go.WideShapes Go.RowKit Go.Joins Go.Deep

structure Bulk (H:Type) where
  B:DataW H→Nat
  A:List (DataW H)→Nat
  str:∀ b,B (.lit (.string b))=b.length+1
  agg:∀ l,B (.agg l)=A l+1
  slice:∀ e s,B (.slice e s)=A e+A s+1
  nil:A []=0
  cons:∀ d l,A (d::l)=B d+A l
theorem Bulk.range {H:Type} (K:Bulk H) (D:Nat→DataW H) (f:Nat→Nat):∀ (l:List Nat),(∀ i∈l,f i≤K.B (D i))→(l.map f).sum≤K.A (l.map D)
  | [],_=>by simp
  | i::l,h=>by
    rw [List.map_cons,List.map_cons,List.sum_cons,K.cons]
    have h1:=h i (by simp)
    have h2:=K.range D f l (fun j hj=>h j (by simp [hj]))
    omega
def kvSz (p:List UInt8 × List UInt8):Nat:=p.1.length+p.2.length
def AR.bulk (r:AR):Nat:=r.method.length+r.value.length+r.reason.length+r.domain.length+r.ident.length+r.fr.length+r.sender.length+r.ip.length+r.helo.length+r.auth.length+r.hkey.length+r.hval.length+r.remote.length+((r.ps.getD []).map fun p=>kvSz p+1).sum

end Wax


namespace Wax
open Go (IntKind)

def prmSz (l:List KVp):Nat:=(l.map fun p=>kvSz p+4).sum
theorem prmSz_app (a b:List KVp):prmSz (a++b)=prmSz a+prmSz b:=by simp [prmSz]
theorem meth_len (r:AR):r.meth.length≤10+r.method.length:=by
  unfold AR.meth
  split
  · omega
  · generalize (r.kind - 1).toNat=q
    match q with
    | 0 | 1 | 2 | 3 | 4 | 5 | 6 | 7=>(simp [aMeths,sAuth,sDkim,sDomk,sIprev,sSender,sSpf,sDmarc,sArc]; try omega)
    | q+8=>simp [aMeths,List.getD]
theorem sum4:∀ l:List KVp,(l.map fun p=>kvSz p+4).sum≤4 * (l.map fun p=>kvSz p+1).sum
  | []=>by simp
  | p::l=>by
    have:=sum4 l
    simp only [List.map_cons,List.sum_cons]; omega
theorem prm_len (r:AR):8+r.meth.length+r.value.length+prmSz r.prm≤100+4 * r.bulk:=by
  have h1:=meth_len r
  have h2:prmSz (rPs r.reason)≤10+r.reason.length:=by
    unfold rPs
    split
    · simp [prmSz]
    · simp [prmSz,kvSz,qReason]; omega
  have h3:prmSz (if r.kind=0 then r.ps.getD [] else r.props.map fun p=>(p.1++46::p.2.1,p.2.2))≤60+(r.domain.length+r.ident.length+r.fr.length+r.sender.length+r.ip.length+r.helo.length+r.auth.length+r.hkey.length+r.hval.length)+4 * ((r.ps.getD []).map fun p=>kvSz p+1).sum:=by
    split
    · have:=sum4 (r.ps.getD [])
      simp only [prmSz]; omega
    · unfold AR.props
      repeat' split
      all_goals simp [prmSz,kvSz,tSmtp,tHeader,tPolicy,nAuth,nD,nI,nFrom,nSender,nIprev,nMail,nHelo]
      all_goals omega
  simp only [AR.prm,prmSz_app,AR.bulk]
  omega
theorem only_bulk (r:AR):r.only.bulk≤r.bulk:=by
  unfold AR.only
  repeat' split
  all_goals simp [AR.bulk,ar0]
  all_goals omega
theorem sum_only:∀ l:List AR,((l.map AR.only).map fun r=>100+4 * r.bulk).sum≤104 * (l.map fun r=>r.bulk+1).sum
  | []=>by simp
  | r::l=>by
    have h1:=sum_only l
    have h2:=only_bulk r
    simp only [List.map_cons,List.sum_cons]
    omega
end Wax


namespace Wax
open Go (IntKind)

@[simp] theorem tr3_app {l m}:tr3 (l++m)=tr3 l++tr3 m:=by simp [tr3]

end Wax


namespace Wax
open Go (IntKind)

theorem ne_int {x c:UInt8} (h:¬ x=c):¬ (x.toNat:Int)=(c.toNat:Int):=fun e=>h (UInt8.toNat_inj.1 (by omega))
structure Inf where
  m:L8
  v:L8
  r:L8
  ps:List (L8 × L8 × L8)
end Wax


namespace Wax
open Go (IntKind)

@[simp] theorem trV3_atom (x:List (L8 × L8 × L8)):atom (tripV x)=true:=by cases x <;> rfl
@[simp] theorem trV3_ref (x:List (L8 × L8 × L8)):hasRef (tripV x)=false:=by cases x <;> simp [tripV,hasRef]
@[simp] theorem trV3_kill (x:List (L8 × L8 × L8)) (d:Nat):kill d (tripV x)=tripV x:=by cases x <;> simp [tripV]
@[simp] theorem trV3_snapW (x:List (L8 × L8 × L8)) (g:AV→AV):snapW g (tripV x)=tripV x:=by cases x <;> simp [tripV,snapW]
@[simp] theorem trV3_snap (x:List (L8 × L8 × L8)) (n:Nat) (hp:List (Nat × AObj)):snap (n+1) hp (tripV x)=tripV x:=by cases x <;> simp [tripV]
@[simp] theorem trV3_cells (x:List (L8 × L8 × L8)):cells (tripV x)=[tripV x]:=by cases x <;> rfl
@[simp] theorem trV3_map (x:List (L8 × L8 × L8)) (g:Nat→Nat):mapId g (tripV x)=tripV x:=by cases x <;> rfl
@[simp] theorem trV3_refs (x:List (L8 × L8 × L8)):refs (tripV x)=[]:=by cases x <;> simp [tripV]
def Inf.cells (x:Inf):List AV:=[.str x.m,.str [],.str x.v,.str x.r,tripV x.ps]
@[simp] theorem ifcells_length {x:Inf}:x.cells.length=5:=rfl
@[simp] theorem atoms_ifcells {x:Inf}:atoms x.cells=true:=by simp [Inf.cells]
@[simp] theorem killL_ifcells {d:Nat} {x:Inf}:killL d x.cells=x.cells:=by simp [Inf.cells]
@[simp] theorem snap_ifcells {n:Nat} {hp:List (Nat × AObj)} {x:Inf}:x.cells.map (snap (n+1) hp)=x.cells:=by simp [Inf.cells]
@[simp] theorem hasRefL_ifcells {x:Inf}:hasRefL x.cells=false:=by simp [Inf.cells,hasRefL]
@[simp] theorem refsL_ifcells {x:Inf}:refsL x.cells=[]:=by simp [Inf.cells]
@[simp] theorem snapWL_ifcells {g:AV→AV} {x:Inf}:snapWL g x.cells=x.cells:=by simp [Inf.cells]
def qrt:Nat:=274877906944
end Wax


namespace Wax
open Go Go.RowKit Go.Proofs

def noVal:Value→Option (DataW Nat × List MemPlace):=fun _=>some (.nil,[])

def SortedSays (P:Program) (T:Tab) (f g:FuncId):Prop :=
  (∀ h,lkN T.fns h=some 55→h=g)∧∃ e9 k:TypeId,P.underlying k=some .string ∧
  ∀ (Bm b nn:Nat) (D0:DataW Nat) (w:World),Bm < w.heap.size→w.cell? ⟨Bm,0,none⟩=some (.map (some b))→w.ownsMap P k noVal b nn D0→Maps.size D0≤maxLen→Maps.size D0 * 16≤140737488355328 →
    Calls P f #[.func (.func g) #[] #[.pointer (some ⟨Bm,0,none⟩)]] w fun e w'=>∃ (v:Value) (ss:List (List UInt8)),e=.returned v∧ss.Perm (Go.strKeys D0) ∧
      w'.ownsRow w.heap.size e9 1 v ss.length ((ss.mergeSort (fun x y=>decide (x≤y))).map encStr)∧(v=.slice none 0 0 ↔ ss=[])∧Below w.heap.size w w'

theorem repM_keyList {T:Tab} {w:World} {F:Frz}:∀ {es:List (List UInt8 × AV)} {l:List MapEntry},RepM T w F es l→l.map (·.key)=es.map fun p=>Value.string ⟨p.1.toArray⟩
  | [],[],_=>rfl
  | (k,c)::r,e::s,h=>by
    simp only [RepM] at h
    simp only [List.map_cons,h.1,repM_keyList h.2.2]
  | [],_::_,h=>by simp [RepM] at h
  | _::_,[],h=>by simp [RepM] at h

theorem ok_Sorted {P:Program} {T:Tab} {f g:FuncId} (H:SortedSays P T f g):∀ args r,con_Sorted args=some r→OkCall P T f args r:=by
  intro args r h w F vs hF _ hx
  obtain ⟨hinj,e9,k,hk,H⟩:=H
  simp only [con_Sorted] at h
  split at h <;> (try simp at h; done)
  rename_i es
  obtain ⟨⟨hlen,hkl⟩,rfl⟩:=ite_some h
  clear h
  simp only [half] at hlen
  match vs,hx with
  | [v],hx =>
    simp only [RepL,and_true] at hx
    simp only [Rep] at hx
    obtain ⟨f',vs',rfl,hf',hcap⟩:=hx
    obtain rfl:=hinj f' hf'
    obtain ⟨l⟩:=vs'
    match l,hcap with
    | [p],hcap =>
      simp only [RepL,and_true,Rep] at hcap
      obtain ⟨Bm,rfl,hat⟩:=hcap
      simp only [RepAt,and_true] at hat
      obtain ⟨hFB,x,hcell,hmp⟩:=hat
      simp only [Rep] at hmp
      obtain ⟨b,ents,clk,rfl,hFb,hheap,⟨el,hpe,hM⟩,hst⟩:=hmp
      have hBm:Bm < w.heap.size:=hF Bm hFB
      have hkeys:(ents.toList.map (·.key)).Perm (es.map fun p=>Value.string ⟨p.1.toArray⟩):=by
        rw [← repM_keyList hM]; exact (hpe.map _).symm
      have hsz:ents.size=es.length:=by
        have:=hkeys.length_eq
        simpa using this
      have hread:∀ x∈ents.toList,∃ s:List UInt8,x.key=.string ⟨s.toArray⟩∧keyOf P k x.key=some (.string s):=by
        intro x hx
        have hm:x.key∈ents.toList.map (·.key):=List.mem_map_of_mem hx
        rw [hkeys.mem_iff,List.mem_map] at hm
        obtain ⟨q,hq,e⟩:=hm
        refine ⟨q.1,e.symm,?_⟩
        have hs:=hkl q hq
        simp only [half] at hs
        rw [← e]
        have hsz:(⟨q.1.toArray⟩:ByteArray).size=q.1.length:=by show q.1.toArray.size=_; simp
        have:=Go.WideMaps.keyOf_string_mk hk (s:=⟨q.1.toArray⟩) (by rw [hsz]; simp only [maxLen]; omega)
        simpa using this
      have hown:w.ownsMap P k noVal b ents.size (.map ((ents.toList.map (WideElems.rg P k noVal)).foldr DataW.insert [])):=by
        refine ⟨ents,clk,hheap,⟨by rw [hsz]; simp only [maxLen]; omega,hst,fun x hx=>?_⟩,Nat.le_refl _,rfl⟩
        obtain ⟨s,_,hs⟩:=hread x hx
        exact ⟨_,WideElems.rd_mk (val:=x.val) (born:=x.born) hs rfl⟩
      have hds:Maps.size (.map ((ents.toList.map (WideElems.rg P k noVal)).foldr DataW.insert []))=es.length:=by
        simp only [Maps.size]
        rw [(WideShapes.sorted_perm _).length_eq]
        simp [hsz]
      have hsk:(Go.strKeys (.map ((ents.toList.map (WideElems.rg P k noVal)).foldr DataW.insert []))).Perm (es.map (·.1)):=by
        simp only [Go.strKeys]
        refine ((WideShapes.sorted_perm _).map _).trans ?_
        have:((ents.toList.map (WideElems.rg P k noVal)).map (fun p=>Go.strOf p.1)).Perm (es.map (·.1)):=by
          rw [List.map_map]
          have e1:ents.toList.map ((fun p=>Go.strOf p.1) ∘ WideElems.rg P k noVal)=(ents.toList.map (·.key)).map (fun v=>match v with | .string s=>s.data.toList | _=>[]):=by
            rw [List.map_map]
            refine List.map_congr_left fun x hx=>?_
            obtain ⟨s,h1,h2⟩:=hread x hx
            have h3:=WideElems.rg_of (WideElems.rd_mk (R:=noVal) (val:=x.val) (born:=x.born) h2 rfl)
            simp only [Function.comp_apply]
            rw [show x=⟨x.key,x.val,x.born⟩ from rfl,h3,h1]
            rfl
          have e2:(es.map fun p=>Value.string ⟨p.1.toArray⟩).map (fun v=>match v with | .string s=>s.data.toList | _=>[])=es.map (·.1):=by
            rw [List.map_map]
            refine List.map_congr_left fun x _=>?_
            simp
          rw [e1,← e2]
          exact hkeys.map _
        exact this
      refine (H Bm b ents.size _ w hBm hcell hown (by rw [hds]; simp only [maxLen]; omega) (by rw [hds]; omega)).mono ?_
      rintro e w' ⟨v,ss,rfl,hp,ho,hn,hbl⟩
      have hperm:ss.Perm (es.map (·.1)):=hp.trans hsk
      have hms:ss.mergeSort (fun x y=>decide (x≤y))=sortB (es.map (·.1)):=Go.mergeSort_of_perm hperm
      rw [hms] at ho
      have hl:ss.length=(sortB (es.map (·.1))).length:=by rw [hperm.length_eq]; simp [sortB]
      rw [hl] at ho
      refine ⟨v,rfl,hbl,?_⟩
      by_cases he:es=[]
      · subst he
        have hss:ss=[]:=by simpa using hperm
        rw [hn.2 hss]
        simp [sortB,strV,Rep]
      · have hss:ss ≠ []:=fun e=>he (by rw [e] at hperm; simpa using hperm.symm)
        have hne:sortB (es.map (·.1)) ≠ []:=fun e=>by rw [e] at hl; exact hss (List.length_eq_zero_iff.1 hl)
        have:strV (sortB (es.map (·.1)))=.sl 1 (strsA (sortB (es.map (·.1)))):=by
          cases hq:sortB (es.map (·.1)) with
          | nil=>exact absurd hq hne
          | cons _ _=>rfl
        rw [this]
        exact owned_strs (e9:=e9) (l:=sortB (es.map (·.1))) ho (fun e=>hss (hn.1 e))

def lkOnly (l:List (Nat × Nat)) (n g:Nat):Bool:=l.all fun p=>p.2 != n || p.1 == g

theorem lkN_only {l:List (Nat × Nat)} {n g:Nat} (h:lkOnly l n g=true):∀ i,lkN l i=some n→i=g:=by
  intro i hi
  induction l with
  | nil=>simp [lkN] at hi
  | cons p r ih =>
    simp only [lkOnly,List.all_cons,Bool.and_eq_true,Bool.or_eq_true,bne_iff_ne,ne_eq,beq_iff_eq] at h
    obtain ⟨a,b⟩:=p
    simp only [lkN] at hi
    split at hi
    · rename_i e
      simp only [beq_iff_eq] at e
      simp only [Option.some.injEq] at hi
      rcases h.1 with h1 | h1
      · exact absurd hi h1
      · exact e ▸ h1
    · exact ih (by simpa [lkOnly] using h.2) hi
end Wax


namespace Wax
open Go (IntKind)

def fmKeys (l:List KVp):List L8:=(if lookP l qReason=[] then [] else [qReason])++sortB ((l.map (·.1)).filter (· ≠ qReason))
def fmWord (l:List KVp) (k:L8):L8:=k++61::(if k=qReason then fmtV (lookP l k) else fmtP (lookP l k))
def joinW:List L8→L8
  | []=>[]
  | w::r=>w++r.flatMap (32 :: ·)
def fmtPs (l:List KVp):L8:=joinW (((fmKeys l).filter fun k=>decide (lookP l k ≠ [])).map (fmWord l))
def con_formatParams:List AV→Option AV
  | [.mp es]=>match asPm es with
    | some l=>if l.length < half∧(∀ p∈l,ascii p.2=true∧p.2.length < qrt)∧(fmtPs l).length < mid then some (.str (fmtPs l)) else none
    | none=>none
  | _=>none
theorem joinW_snoc:∀ (W:List L8) (w:L8),joinW (W++[w])=if W=[] then w else joinW W++32::w
  | [],w=>by simp [joinW]
  | x::W,w=>by simp [joinW]
theorem joinW_le:∀ (a b:List L8),(joinW a).length≤(joinW (a++b)).length
  | [],b=>by simp [joinW]
  | x::a,b=>by simp [joinW]
theorem lookP_val:∀ (l:List KVp) (k:L8),lookP l k=[]∨∃ p∈l,p.2=lookP l k
  | [],k=>.inl rfl
  | p::r,k=>by
    simp only [lookP]
    split
    · exact .inr ⟨p,by simp,rfl⟩
    · rcases lookP_val r k with h | ⟨q,h1,h2⟩
      · exact .inl h
      · exact .inr ⟨q,by simp [h1],h2⟩
def fmWs (l:List KVp) (ks:List L8):List L8:=(ks.filter fun k=>decide (lookP l k ≠ [])).map (fmWord l)
theorem fmWs_app (l:List KVp) (a b:List L8):fmWs l (a++b)=fmWs l a++fmWs l b:=by simp [fmWs]
theorem fmWs_len (l:List KVp) (a:List L8):(fmWs l a).length≤a.length:=by simpa [fmWs] using List.length_filter_le _ a
set_option maxHeartbeats 8000000 in
set_option maxRecDepth 100000 in
theorem fm_loop {Γ:Gam} (h241:Γ.fn 241=con_formatValue) (h242:Γ.fn 242=con_formatPvalue) {l:List KVp} (h2:∀ p∈l,ascii p.2=true∧p.2.length < qrt) (h3:(fmtPs l).length < mid) {ks:List L8} (hks:fmtPs l=joinW (fmWs l ks)) (hkl:ks.length < mid)
    {d:Nat} {more:List (Nat × AObj)} (hd:(d=12∧more=[])∨(d=24∧more=[])∨(d=30∧more=[(12,.cells [])])∨(d=32∧∃ cs,more=[(24,.cells (strsA cs))])) :
    awp Γ (.loop [0,5,6,33,34,35] b_authres_formatParams_2) (blockQ 2 (thenQ (awp Γ t_authres_formatParams_3 (finQ [.t 2] fun v=>v=.str (fmtPs l))) (finQ [.t 2] fun v=>v=.str (fmtPs l)))) ⟨[(0,.mp (pmA l)),(5,.str []),(6,.int .i64 0),(33,.msl d 1 0 ks.length),(34,.int .i64 ks.length),(35,.int .i64 0)],(d,.cells (strsA ks))::more⟩:=by
  refine awp_loop2 (σ:=List L8 × List L8) (fun p=>⟨[(0,.mp (pmA l)),(5,.str (joinW (fmWs l p.1))),(6,.int .i64 (fmWs l p.1).length),(33,.msl d 1 0 ks.length),(34,.int .i64 ks.length),(35,.int .i64 p.1.length)],(d,.cells (strsA ks))::more⟩)
    (fun p=>ks=p.1++p.2) (fun p=>p.2.length) ([],ks) (by simp [fmWs,joinW]) (by simp) ?_
  rintro ⟨pre,post⟩ e LQ hLQ
  simp only at e
  simp only [mid] at h3 hkl
  cases post with
  | nil =>
    simp only [List.append_nil] at e
    subst e
    have hnl:¬ ((ks.length:Int) < (ks.length:Int)):=by omega
    rcases hd with ⟨rfl,rfl⟩ | ⟨rfl,rfl⟩ | ⟨rfl,rfl⟩ | ⟨rfl,cs,rfl⟩ <;> simp -implicitDefEqProofs [b_authres_formatParams_2,t_authres_formatParams_3,hks]
  | cons k post =>
    have hlen:ks.length=pre.length+(post.length+1):=by rw [e]; simp
    have hlt:(pre.length:Int) < (ks.length:Int):=by omega
    have hlt':pre.length < ks.length:=by omega
    have g:List.drop pre.length ks=k::post:=by rw [e,List.drop_left]
    have ew:IntKind.i64.wrap ((pre.length:Int)+1)=(pre.length:Int)+1:=wrap64 (by omega) (by omega)
    have go:=fun st=>hLQ (pre++[k],post) (by rw [e]; simp) (by simp) st
    have lw:=fmWs_len l pre
    simp only [fmWs_app] at go
    by_cases hv:lookP l k=[]
    · have e0:fmWs l [k]=[]:=by simp [fmWs,hv]
      rw [e0,List.append_nil] at go
      simp -implicitDefEqProofs [b_authres_formatParams_2,hlt,hlt',g,ew,lookA_pmA,hv]
      exact go _ (by simp)
    · have e1:fmWs l [k]=[fmWord l k]:=by simp [fmWs,hv]
      rw [e1,joinW_snoc] at go
      have hl2:(joinW (fmWs l pre++[fmWord l k])).length≤(fmtPs l).length:=by
        rw [hks,e,show k::post=[k]++post from rfl,← List.append_assoc,fmWs_app l (pre++[k]),fmWs_app l pre,e1]
        exact joinW_le _ _
      rw [joinW_snoc] at hl2
      have hva:ascii (lookP l k)=true∧(lookP l k).length < mid:=by
        rcases lookP_val l k with h | ⟨q,hq,e⟩
        · exact absurd h hv
        · rw [← e]; exact ⟨(h2 q hq).1,by have:=(h2 q hq).2; simp only [qrt] at this; simp only [mid]; omega⟩
      have kv:con_formatValue [.str (lookP l k)]=some (.str (fmtV (lookP l k))):=if_pos ⟨hva.2,hva.1⟩
      have kp:con_formatPvalue [.str (lookP l k)]=some (.str (fmtP (lookP l k))):=if_pos ⟨hva.2,hva.1⟩
      have ew2:IntKind.i64.wrap (((fmWs l pre).length:Int)+1)=((fmWs l pre).length:Int)+1:=wrap64 (by omega) (by omega)
      have e10:IntKind.i64.wrap 1=1:=by decide
      by_cases hr:k=qReason
      · have hw:fmWord l k=k++61::fmtV (lookP l k):=by simp only [fmWord,if_pos hr]
        rw [hw] at go hl2
        have hr':k=[114,101,97,115,111,110]:=hr
        clear hr hw kp
        subst hr'
        cases hW:fmWs l pre with
        | nil =>
          rw [hW] at go hl2
          simp only [if_true,List.length_append,List.length_cons] at hl2
          simp -implicitDefEqProofs [b_authres_formatParams_2,hlt,hlt',g,ew,lookA_pmA,hv,hva,acall,h241,kv,e10]
          simp only [List.length_nil] at hl2
          exact ⟨by omega,by simp [joinW]; omega,go _ (by simp [joinW])⟩
        | cons w ws =>
          rw [hW] at go hl2 ew2
          simp only [reduceCtorEq,if_false,List.length_append,List.length_cons] at hl2
          simp only [List.length_cons,Int.natCast_add,Int.natCast_one] at ew2
          simp -implicitDefEqProofs [b_authres_formatParams_2,hlt,hlt',g,ew,lookA_pmA,hv,hva,acall,h241,kv,ew2]
          simp only [List.length_nil] at hl2
          exact ⟨by omega,by omega,by omega,go _ (by simp)⟩
      · have hw:fmWord l k=k++61::fmtP (lookP l k):=by simp only [fmWord,if_neg hr]
        rw [hw] at go hl2
        have hr':¬ k=[114,101,97,115,111,110]:=hr
        cases hW:fmWs l pre with
        | nil =>
          rw [hW] at go hl2
          simp only [if_true,List.length_append,List.length_cons] at hl2
          simp -implicitDefEqProofs [b_authres_formatParams_2,hlt,hlt',g,ew,lookA_pmA,hv,hr',acall,h242,kp,e10]
          exact ⟨by omega,by omega,by simp [joinW]; omega,go _ (by simp [joinW])⟩
        | cons w ws =>
          rw [hW] at go hl2 ew2
          simp only [reduceCtorEq,if_false,List.length_append,List.length_cons] at hl2
          simp only [List.length_cons,Int.natCast_add,Int.natCast_one] at ew2
          simp -implicitDefEqProofs [b_authres_formatParams_2,hlt,hlt',g,ew,lookA_pmA,hv,hr',acall,h242,kp,ew2]
          exact ⟨by omega,by omega,by omega,by omega,go _ (by simp)⟩
set_option maxHeartbeats 4000000 in
set_option maxRecDepth 100000 in
theorem fm_tail {Γ:Gam} (h240:Γ.st 240=con_Sort) (h241:Γ.fn 241=con_formatValue) (h242:Γ.fn 242=con_formatPvalue) {l:List KVp} (h2:∀ p∈l,ascii p.2=true∧p.2.length < qrt) (h3:(fmtPs l).length < mid) {got:List L8} {cur:Option (L8 × AV)} (hg:got.length < half) (hs:sortB got=sortB ((l.map (·.1)).filter (· ≠ qReason))) :
    awp Γ t_authres_formatParams_4 (finQ [.t 2] fun v=>v=.str (fmtPs l)) ⟨[(0,.mp (pmA l)),(3,if got=[] then .msl 12 1 0 0 else .msl 24 1 0 got.length),(14,.ref 14 0),(16,.bool false)],(if got=[] then [] else [(24,.cells (strsA got))])++(14,.mit [] cur)::(if got=[] then [(12,.cells [])] else [])⟩:=by
  simp only [half] at hg
  have hsl:(sortB got).length=got.length:=by simp [sortB]
  have hK:fmtPs l=joinW (fmWs l ((if lookP l qReason=[] then [] else [qReason])++sortB got)):=by rw [hs]; rfl
  clear hs
  have hm:got.length+1 < mid:=by simp only [mid]; omega
  cases got with
  | nil =>
    have ks:con_Sort [.msl 0 1 0 0] [(0,.cells [])]=some (.tup [],[(0,.cells [])]):=by simp [con_Sort,asStrs,sortB,strsA]
    have es:sortB []=[]:=by simp [sortB]
    rw [es] at hK
    simp -implicitDefEqProofs [t_authres_formatParams_4,acallS,reach_succ,h240,ks,lookA_pmA,just]
    refine ⟨fun hr=>?_,fun hr=>?_⟩
    · rw [if_neg (by exact hr)] at hK
      exact fm_loop h241 h242 h2 h3 (ks:=[qReason]) hK (by simp [mid]) (d:=30) (more:=[(12,.cells [])]) (.inr (.inr (.inl ⟨rfl,rfl⟩)))
    · rw [if_pos (by exact hr)] at hK
      exact fm_loop h241 h242 h2 h3 (ks:=[]) hK (by simp [mid]) (d:=12) (more:=[]) (.inl ⟨rfl,rfl⟩)
  | cons y ys =>
    generalize hgot:y::ys=got at *
    have hn:¬ got=[]:=by rw [← hgot]; simp
    have ks:con_Sort [.msl 0 1 0 got.length] [(0,.cells (strsA got))]=some (.tup [],[(0,.cells (strsA (sortB got)))]):=by
      have ha:asStrs (strsA got)=some got:=asStrs_strsA
      simp only [con_Sort,ha]
      exact if_pos ⟨trivial,by omega⟩
    have tk:List.take got.length (sortB got)=sortB got:=List.take_of_length_le (by omega)
    simp -implicitDefEqProofs [t_authres_formatParams_4,acallS,reach_succ,h240,ks,lookA_pmA,hn,tk]
    refine ⟨fun hr=>⟨by omega,by omega,?_⟩,fun hr=>?_⟩
    · rw [if_neg (by exact hr)] at hK
      have t:=fm_loop h241 h242 h2 h3 (ks:=qReason::sortB got) hK (by simp only [List.length_cons]; omega) (d:=32) (more:=[(24,.cells (strsA (sortB got)))]) (.inr (.inr (.inr ⟨rfl,_,rfl⟩)))
      have e1:(1+got.length)=(qReason::sortB got).length:=by simp only [List.length_cons]; omega
      have e2:(1+(got.length:Int))=((qReason::sortB got).length:Int):=by simp only [List.length_cons]; omega
      rw [e1,e2]
      exact t
    · rw [if_pos (by exact hr)] at hK
      have t:=fm_loop h241 h242 h2 h3 (ks:=sortB got) hK (by omega) (d:=24) (more:=[]) (.inr (.inl ⟨rfl,rfl⟩))
      rw [hsl] at t
      exact t
set_option maxHeartbeats 4000000 in
set_option maxRecDepth 100000 in
theorem ok_formatParams (Γ:Gam) (h240:Γ.st 240=con_Sort) (h241:Γ.fn 241=con_formatValue) (h242:Γ.fn 242=con_formatPvalue):∀ args r,con_formatParams args=some r→runs Γ c_authres_formatParams args (fun v=>v=r):=by
  intro args r h
  simp only [con_formatParams] at h
  split at h <;> (try simp at h; done)
  rename_i es
  split at h <;> (try simp at h; done)
  rename_i l hl
  obtain ⟨⟨h1,h2,h3⟩,rfl⟩:=ite_some h
  clear h
  rw [asPm_spec hl]
  clear hl
  simp only [half] at h1
  have hpl:(pmA l).length=l.length:=by simp [pmA]
  simp -implicitDefEqProofs [c_authres_formatParams]
  refine ⟨by omega,?_⟩
  refine awp_loop2 (σ:=List L8 × List KVp × Option (L8 × AV)) (fun q=>⟨[(0,.mp (pmA l)),(3,if q.1=[] then .msl 12 1 0 0 else .msl 24 1 0 q.1.length),(14,.ref 14 0)],(if q.1=[] then [] else [(24,.cells (strsA q.1))])++(14,.mit (pmA q.2.1) q.2.2)::(if q.1=[] then [(12,.cells [])] else [])⟩)
    (fun q=>(q.1++(q.2.1.map (·.1)).filter (· ≠ qReason)).Perm ((l.map (·.1)).filter (· ≠ qReason))∧q.1.length+q.2.1.length≤l.length) (fun q=>q.2.1.length) ([],l,none) (by simp) (by simp) ?_
  rintro ⟨got,rem,cur⟩ ⟨hp,hgl⟩ LQ hLQ
  simp only at hp hgl
  have step:∀ {pre post:List (L8 × AV)} {k:L8} {v:AV},pmA rem=pre++(k,v)::post→∃ a b w,rem=a++(k,w)::b∧pre=pmA a∧post=pmA b:=by
    intro pre post k v e
    obtain ⟨a,c,e1,e2,e3⟩:=List.map_eq_append_iff.1 e
    obtain ⟨x,b,e4,e5,e6⟩:=List.map_eq_cons_iff.1 e3
    refine ⟨a,b,x.2,?_,e2.symm,e6.symm⟩
    simp only [Prod.mk.injEq] at e5
    rw [e1,e4,← e5.1]
  have fin:pmA rem=[]→sortB got=sortB ((l.map (·.1)).filter (· ≠ qReason)):=by
    intro e
    have er:rem=[]:=by simpa [pmA] using e
    subst er
    simp only [List.map_nil,List.filter_nil,List.append_nil] at hp
    exact Go.mergeSort_of_perm hp
  have skip:∀ {a b:List KVp} {w:L8},rem=a++(qReason,w)::b→(got++((a++b).map (·.1)).filter (· ≠ qReason)).Perm ((l.map (·.1)).filter (· ≠ qReason))∧got.length+(a++b).length≤l.length:=by
    rintro a b w rfl
    refine ⟨by simpa using hp,by simp only [List.length_append,List.length_cons] at hgl ⊢; omega⟩
  have take:∀ {a b:List KVp} {k w:L8},rem=a++(k,w)::b→¬ k=qReason→((got++[k])++((a++b).map (·.1)).filter (· ≠ qReason)).Perm ((l.map (·.1)).filter (· ≠ qReason))∧(got++[k]).length+(a++b).length≤l.length:=by
    rintro a b k w rfl hk
    refine ⟨?_,by simp only [List.length_append,List.length_cons,List.length_nil] at hgl ⊢; omega⟩
    refine List.Perm.trans ?_ hp
    simp only [List.map_append,List.filter_append,List.map_cons,List.filter_cons,hk,ne_eq,not_false_eq_true,decide_true,if_true,List.append_assoc,List.singleton_append]
    exact List.perm_middle.symm.append_left got
  cases got with
  | nil =>
    simp -implicitDefEqProofs [b_authres_formatParams_1]
    refine ⟨fun e=>?_,fun pre k v post e=>⟨fun hk=>?_,fun hk=>?_⟩⟩
    · rw [e]
      have t:=fm_tail h240 h241 h242 h2 h3 (got:=[]) (cur:=cur) (by simp [half]) (fin e)
      exact t
    · obtain ⟨a,b,w,e1,rfl,rfl⟩:=step e
      subst hk
      exact hLQ ([],a++b,_) (skip e1) (by rw [e1]; simp) _ (by simp [pmA]; rfl)
    · obtain ⟨a,b,w,e1,rfl,rfl⟩:=step e
      exact hLQ ([k],a++b,_) (take e1 hk) (by rw [e1]; simp) _ (by simp [pmA]; rfl)
  | cons y ys =>
    simp -implicitDefEqProofs [b_authres_formatParams_1]
    refine ⟨fun e=>?_,fun pre k v post e=>⟨fun hk=>?_,fun hk=>⟨?_,?_⟩⟩⟩
    · rw [e]
      have t:=fm_tail h240 h241 h242 h2 h3 (got:=y::ys) (cur:=cur) (by simp only [half]; omega) (fin e)
      exact t
    · obtain ⟨a,b,w,e1,rfl,rfl⟩:=step e
      subst hk
      exact hLQ (y::ys,a++b,_) (skip e1) (by rw [e1]; simp) _ (by simp [pmA]; rfl)
    · simp only [List.length_cons] at hgl
      omega
    · obtain ⟨a,b,w,e1,rfl,rfl⟩:=step e
      exact hLQ (y::ys++[k],a++b,_) (take e1 hk) (by rw [e1]; simp) _ (by simp [pmA]; rfl)
end Wax


namespace Wax
open Go (IntKind)

def PR.meth:PR→L8
  | .arc _ _ _=>[]
  | .auth _ _ _=>sAuth
  | .dkim _ _ _ _=>sDkim
  | .domk _ _ _ _ _=>sDomk
  | .iprev _ _ _=>sIprev
  | .sender _ _ _ _=>sSender
  | .spf _ _ _ _=>sSpf
  | .dmarc _ _ _=>sDmarc
  | .gen m _ _=>m
def PR.val:PR→L8
  | .arc v _ _=>v
  | .auth v _ _=>v
  | .dkim v _ _ _=>v
  | .domk v _ _ _ _=>v
  | .iprev v _ _=>v
  | .sender v _ _ _=>v
  | .spf v _ _ _=>v
  | .dmarc v _ _=>v
  | .gen _ v _=>v
def PR.fm:PR→List KVp
  | .arc _ _ _=>[]
  | .auth _ _ a=>[(qAuth,a)]
  | .dkim _ r d i=>[(qD,d),(qI,i),(qReason,r)]
  | .domk _ r d f s=>[(qD,d),(qFrom,f),(qSend,s),(qReason,r)]
  | .iprev _ r i=>[(qIprev,i),(qReason,r)]
  | .sender _ r k x=>[(qHead++lowS k,x),(qReason,r)]
  | .spf _ r f h=>[(qReason,r),(qHelo,h),(qMail,f)]
  | .dmarc _ r f=>[(qFrom,f),(qReason,r)]
  | .gen _ _ l=>l
def PR.fmt (x:PR):AV:=.tup [.str x.val,.mp (pmA x.fm)]
def con_fAuth:List AV→Option AV
  | [.ptr [.str v,.str r,.str a]]=>some (PR.auth v r a).fmt
  | _=>none
set_option maxHeartbeats 4000000 in
set_option maxRecDepth 100000 in
theorem ok_fAuth (Γ:Gam):∀ args r,con_fAuth args=some r→runs Γ c_authres_AuthResult_format args (fun v=>v=r):=by
  intro args r h
  simp only [con_fAuth] at h
  split at h <;> (try simp at h; done)
  injection h with h; subst h
  simp -implicitDefEqProofs [c_authres_AuthResult_format,PR.fmt,PR.val,PR.fm,pmA,qAuth]
  exact ⟨rfl,rfl⟩
def con_fDKIM:List AV→Option AV
  | [.ptr [.str v,.str r,.str d,.str i]]=>some (PR.dkim v r d i).fmt
  | _=>none
set_option maxHeartbeats 4000000 in
set_option maxRecDepth 100000 in
theorem ok_fDKIM (Γ:Gam):∀ args r,con_fDKIM args=some r→runs Γ c_authres_DKIMResult_format args (fun v=>v=r):=by
  intro args r h
  simp only [con_fDKIM] at h
  split at h <;> (try simp at h; done)
  injection h with h; subst h
  simp -implicitDefEqProofs [c_authres_DKIMResult_format,PR.fmt,PR.val,PR.fm,pmA,qD,qI,qReason]
  exact ⟨rfl,rfl,rfl,rfl⟩
def con_fDomk:List AV→Option AV
  | [.ptr [.str v,.str r,.str d,.str f,.str s]]=>some (PR.domk v r d f s).fmt
  | _=>none
set_option maxHeartbeats 4000000 in
set_option maxRecDepth 100000 in
theorem ok_fDomk (Γ:Gam):∀ args r,con_fDomk args=some r→runs Γ c_authres_DomainKeysResult_format args (fun v=>v=r):=by
  intro args r h
  simp only [con_fDomk] at h
  split at h <;> (try simp at h; done)
  injection h with h; subst h
  simp -implicitDefEqProofs [c_authres_DomainKeysResult_format,PR.fmt,PR.val,PR.fm,pmA,qD,qFrom,qSend,qReason]
  exact ⟨rfl,rfl,rfl,rfl,rfl⟩
def con_fIprev:List AV→Option AV
  | [.ptr [.str v,.str r,.str i]]=>some (PR.iprev v r i).fmt
  | _=>none
set_option maxHeartbeats 4000000 in
set_option maxRecDepth 100000 in
theorem ok_fIprev (Γ:Gam):∀ args r,con_fIprev args=some r→runs Γ c_authres_IPRevResult_format args (fun v=>v=r):=by
  intro args r h
  simp only [con_fIprev] at h
  split at h <;> (try simp at h; done)
  injection h with h; subst h
  simp -implicitDefEqProofs [c_authres_IPRevResult_format,PR.fmt,PR.val,PR.fm,pmA,qIprev,qReason]
  exact ⟨rfl,rfl,rfl⟩
def con_fSpf:List AV→Option AV
  | [.ptr [.str v,.str r,.str f,.str h]]=>some (PR.spf v r f h).fmt
  | _=>none
set_option maxHeartbeats 4000000 in
set_option maxRecDepth 100000 in
theorem ok_fSpf (Γ:Gam):∀ args r,con_fSpf args=some r→runs Γ c_authres_SPFResult_format args (fun v=>v=r):=by
  intro args r h
  simp only [con_fSpf] at h
  split at h <;> (try simp at h; done)
  injection h with h; subst h
  simp -implicitDefEqProofs [c_authres_SPFResult_format,PR.fmt,PR.val,PR.fm,pmA,qReason,qHelo,qMail]
  exact ⟨rfl,rfl,rfl,rfl⟩
def con_fDmarc:List AV→Option AV
  | [.ptr [.str v,.str r,.str f]]=>some (PR.dmarc v r f).fmt
  | _=>none
set_option maxHeartbeats 4000000 in
set_option maxRecDepth 100000 in
theorem ok_fDmarc (Γ:Gam):∀ args r,con_fDmarc args=some r→runs Γ c_authres_DMARCResult_format args (fun v=>v=r):=by
  intro args r h
  simp only [con_fDmarc] at h
  split at h <;> (try simp at h; done)
  injection h with h; subst h
  simp -implicitDefEqProofs [c_authres_DMARCResult_format,PR.fmt,PR.val,PR.fm,pmA,qFrom,qReason]
  exact ⟨rfl,rfl,rfl⟩
def con_fSender:List AV→Option AV
  | [.ptr [.str v,.str r,.str k,.str x]]=>if k.length < mid∧ascii k=true then some (PR.sender v r k x).fmt else none
  | _=>none
set_option maxHeartbeats 4000000 in
set_option maxRecDepth 100000 in
theorem ok_fSender (Γ:Gam) (h172:Γ.fn 172=con_zzToLower):∀ args r,con_fSender args=some r→runs Γ c_authres_SenderIDResult_format args (fun v=>v=r):=by
  intro args r h
  simp only [con_fSender] at h
  split at h <;> (try simp at h; done)
  rename_i v r k x
  obtain ⟨hk,rfl⟩:=ite_some h
  have kl:con_zzToLower [.str k]=some (.str (lowS k)):=if_pos hk
  have hl:(lowS k).length=k.length:=by simp [lowS]
  have hk1:=hk.1
  simp only [mid] at hk1
  simp -implicitDefEqProofs [c_authres_SenderIDResult_format,acall,h172,kl,PR.fmt,PR.val,PR.fm,pmA,qHead,qReason]
  exact ⟨rfl,by omega,rfl,rfl⟩
def con_fGen:List AV→Option AV
  | [.ptr [.str m,.str v,.mp es]]=>some (.tup [.str v,.mp es])
  | _=>none
set_option maxHeartbeats 4000000 in
set_option maxRecDepth 100000 in
theorem ok_fGen (Γ:Gam):∀ args r,con_fGen args=some r→runs Γ c_authres_GenericResult_format args (fun v=>v=r):=by
  intro args r h
  simp only [con_fGen] at h
  split at h <;> (try simp at h; done)
  injection h with h; subst h
  simp -implicitDefEqProofs [c_authres_GenericResult_format]
def con_resultMethod:List AV→Option AV
  | [v]=>(asPR v).map fun x=>.str x.meth
  | _=>none
set_option maxHeartbeats 4000000 in
set_option maxRecDepth 100000 in
theorem ok_resultMethod (Γ:Gam):∀ args r,con_resultMethod args=some r→runs Γ c_authres_resultMethod args (fun v=>v=r):=by
  intro args r h
  simp only [con_resultMethod] at h
  split at h <;> (try simp at h; done)
  rename_i u
  simp only [Option.map_eq_some_iff] at h
  obtain ⟨x,hx,rfl⟩:=h
  rw [asPR_spec hx]
  cases x <;> simp -implicitDefEqProofs [c_authres_resultMethod,PR.av,PR.meth,sAuth,sDkim,sDomk,sIprev,sSender,sSpf,sDmarc]
def mapOf (l:List KVp):List KVp:=l.foldl (fun m p=>psetL m p.1 p.2) []
def AR.pr (r:AR):PR :=
  if r.kind=1 then .auth r.value r.reason r.auth
  else if r.kind=2 then .dkim r.value r.reason r.domain r.ident
  else if r.kind=3 then .domk r.value r.reason r.domain r.fr r.sender
  else if r.kind=4 then .iprev r.value r.reason r.ip
  else if r.kind=5 then .sender r.value r.reason r.hkey r.hval
  else if r.kind=6 then .spf r.value r.reason r.fr r.helo
  else if r.kind=7 then .dmarc r.value r.reason r.fr
  else if r.kind=8 then .arc r.value r.remote r.oldest
  else .gen r.method r.value (mapOf (r.ps.getD []))
def con_resultFor:List AV→Option AV
  | [.agg cs]=>match asAR cs with
    | some r=>if (r.ps.getD []).length < half then some r.pr.av else none
    | none=>none
  | _=>none
set_option maxHeartbeats 8000000 in
set_option maxRecDepth 100000 in
theorem ok_resultFor (Γ:Gam):∀ args r,con_resultFor args=some r→runs Γ c_impl_resultFor args (fun v=>v=r):=by
  intro args r h
  simp only [con_resultFor] at h
  split at h <;> (try simp at h; done)
  rename_i cs
  split at h <;> (try simp at h; done)
  rename_i r hr
  obtain ⟨hl,rfl⟩:=ite_some h
  rw [asAR_spec hr]
  have cu:=slP_cells r.ps
  simp only [cells] at cu
  clear h hr
  by_cases k1:r.kind=1
  · simp -implicitDefEqProofs [c_impl_resultFor,AR.cells,cu,k1,AR.pr,PR.av]
  by_cases k2:r.kind=2
  · simp -implicitDefEqProofs [c_impl_resultFor,AR.cells,cu,k2,AR.pr,PR.av]
  by_cases k3:r.kind=3
  · simp -implicitDefEqProofs [c_impl_resultFor,AR.cells,cu,k3,AR.pr,PR.av]
  by_cases k4:r.kind=4
  · simp -implicitDefEqProofs [c_impl_resultFor,AR.cells,cu,k4,AR.pr,PR.av]
  by_cases k5:r.kind=5
  · simp -implicitDefEqProofs [c_impl_resultFor,AR.cells,cu,k5,AR.pr,PR.av]
  by_cases k6:r.kind=6
  · simp -implicitDefEqProofs [c_impl_resultFor,AR.cells,cu,k6,AR.pr,PR.av]
  by_cases k7:r.kind=7
  · simp -implicitDefEqProofs [c_impl_resultFor,AR.cells,cu,k7,AR.pr,PR.av]
  by_cases k8:r.kind=8
  · simp -implicitDefEqProofs [c_impl_resultFor,AR.cells,cu,k8,AR.pr,PR.av]
  have hal:=fun hp=>slP_alen r.ps hp
  simp only [half] at hl
  simp -implicitDefEqProofs [-alen,c_impl_resultFor,AR.cells,cu,k1,k2,k3,k4,k5,k6,k7,k8,AR.pr,PR.av,hal]
  refine awp_loop2 (σ:=List KVp × List KVp) (fun q=>⟨[(1,.ref 1 0),(3,.str r.value),(4,.mref 101),(103,slP r.ps),(104,.int .i64 (r.ps.getD []).length),(105,.int .i64 q.1.length)],[(101,.mp (pmA (mapOf q.1))),(1,.cells r.cells)]⟩)
    (fun q=>r.ps.getD []=q.1++q.2) (fun q=>q.2.length) ([],r.ps.getD []) (by simp [mapOf,pmA,AR.cells]) (by simp) ?_
  rintro ⟨pre,post⟩ e LQ hLQ
  simp only at e
  cases post with
  | nil =>
    simp only [List.append_nil] at e
    rw [e] at hl ⊢
    simp -implicitDefEqProofs [-alen,b_impl_resultFor_1,t_impl_resultFor_2,AR.cells,cu]
  | cons x post =>
    have hps:r.ps=some (pre++x::post):=by
      cases hq:r.ps with
      | none=>rw [hq] at e; simp at e
      | some l=>rw [hq] at e; simp only [Option.getD_some] at e; rw [e]
    have hm:mapOf (pre++[x])=psetL (mapOf pre) x.1 x.2:=by simp [mapOf]
    have go:=fun st=>hLQ (pre++[x],post) (by rw [e]; simp) (by simp) st
    rw [e] at hl
    simp only [hm,hps,slP,AR.cells,Option.getD_some] at go
    have hlt:(pre.length:Int) < ((pre++x::post).length:Int):=by simp; omega
    have hlt':pre.length < (pre++x::post).length:=by simp
    simp only [List.length_append,List.length_cons] at hl
    have ew:IntKind.i64.wrap ((pre.length:Int)+1)=(pre.length:Int)+1:=wrap64 (by omega) (by omega)
    simp -implicitDefEqProofs [-alen,b_impl_resultFor_1,hps,slP,AR.cells,ew,mset_pmA]
    exact ⟨fun _=>go _ (by simp),fun h=>absurd h (by omega)⟩
end Wax


namespace Wax
open Go (IntKind)

def asPRl:List AV→Option (List PR)
  | []=>some []
  | v::r=>match asPR v,asPRl r with | some x,some l=>some (x::l) | _,_=>none
theorem asPRl_prsA:∀ l:List PR,asPRl (prsA l)=some l
  | []=>rfl
  | x::l=>by simp only [prsA_cons,asPRl,asPR_av,asPRl_prsA l]
theorem asPRl_spec:∀ {vs:List AV} {l:List PR},asPRl vs=some l→vs=prsA l
  | [],l,h=>by simp [asPRl] at h; subst h; rfl
  | v::r,l,h=>by
    simp only [asPRl] at h
    split at h
    · rename_i x q h1 h2
      simp only [Option.some.injEq] at h
      subst h
      rw [asPR_spec h1,asPRl_spec h2]; rfl
    · simp at h
def slPR:AV→Option (List PR)
  | .nilS=>some []
  | .sl es xs=>if es=1∧xs ≠ [] then asPRl xs else none
  | _=>none
theorem slPR_prsV (l:List PR):slPR (prsV l)=some l:=by
  cases l with
  | nil=>rfl
  | cons x l=>simp only [prsV,slPR]; rw [if_pos (by simp),asPRl_prsA]
theorem slPR_spec {v:AV} {l:List PR} (h:slPR v=some l):v=prsV l:=by
  unfold slPR at h
  split at h
  · simp only [Option.some.injEq] at h; subst h; rfl
  · rename_i es xs
    split at h
    · rename_i hc
      obtain ⟨rfl,hne⟩:=hc
      have:=asPRl_spec h
      subst this
      cases l with
      | nil=>simp at hne
      | cons x l=>rfl
    · simp at h
  · simp at h
def PR.isArc:PR→Bool
  | .arc _ _ _=>true
  | _=>false
def PR.fmOk (x:PR):Prop:=x.isArc=false∧x.fm.length < half∧(∀ p∈x.fm,ascii p.2=true∧p.2.length < qrt)∧∀ v r k y,x=.sender v r k y→k.length < mid∧ascii k=true
def fPart (x:PR):L8:=59::32::(x.meth++61::(x.val++32::fmtPs x.fm))
def fText (i:L8) (l:List PR):L8:=i++(if l=[] then [59,32,110,111,110,101] else l.flatMap fPart)
open Classical in
noncomputable def con_Format:List AV→Option AV
  | [.str i,v]=>match slPR v with
    | some l=>if l.length < half∧(∀ x∈l,x.fmOk)∧(fText i l).length < mid then some (.str (fText i l)) else none
    | none=>none
  | _=>none
theorem meth_fmt {Γ:Gam} (h251:Γ.fn 251=con_fAuth) (h252:Γ.fn 252=con_fDKIM) (h253:Γ.fn 253=con_fDomk) (h254:Γ.fn 254=con_fIprev) (h255:Γ.fn 255=con_fSender) (h256:Γ.fn 256=con_fSpf) (h257:Γ.fn 257=con_fDmarc) (h258:Γ.fn 258=con_fGen)
    (m8:Γ.mth 8 "given.example/pub-waxseal/pub/msgauth/authres.format" = some 251) (m9:Γ.mth 9 "given.example/pub-waxseal/pub/msgauth/authres.format" = some 252) (m10:Γ.mth 10 "given.example/pub-waxseal/pub/msgauth/authres.format" = some 253) (m11:Γ.mth 11 "given.example/pub-waxseal/pub/msgauth/authres.format" = some 254) (m12:Γ.mth 12 "given.example/pub-waxseal/pub/msgauth/authres.format" = some 255) (m13:Γ.mth 13 "given.example/pub-waxseal/pub/msgauth/authres.format" = some 256) (m14:Γ.mth 14 "given.example/pub-waxseal/pub/msgauth/authres.format" = some 257) (m15:Γ.mth 15 "given.example/pub-waxseal/pub/msgauth/authres.format" = some 258)
    {x:PR} (hx:x.fmOk):∃ t y n,x.av=.ifc t y∧Γ.mth t "given.example/pub-waxseal/pub/msgauth/authres.format" = some n∧Γ.fn n [y]=some (.tup [.str x.val,.mp (pmA x.fm)]):=by
  obtain ⟨h1,_,_,h4⟩:=hx
  cases x with
  | arc=>simp [PR.isArc] at h1
  | auth=>exact ⟨_,_,_,rfl,m8,by rw [h251]; rfl⟩
  | dkim=>exact ⟨_,_,_,rfl,m9,by rw [h252]; rfl⟩
  | domk=>exact ⟨_,_,_,rfl,m10,by rw [h253]; rfl⟩
  | iprev=>exact ⟨_,_,_,rfl,m11,by rw [h254]; rfl⟩
  | sender v r k y=>exact ⟨_,_,_,rfl,m12,by rw [h255]; exact if_pos (h4 v r k y rfl)⟩
  | spf=>exact ⟨_,_,_,rfl,m13,by rw [h256]; rfl⟩
  | dmarc=>exact ⟨_,_,_,rfl,m14,by rw [h257]; rfl⟩
  | gen=>exact ⟨_,_,_,rfl,m15,by rw [h258]; rfl⟩
set_option maxHeartbeats 8000000 in
set_option maxRecDepth 100000 in
theorem ok_Format (Γ:Gam) (h237:Γ.fn 237=con_resultMethod) (h238:Γ.fn 238=con_formatParams) (h251:Γ.fn 251=con_fAuth) (h252:Γ.fn 252=con_fDKIM) (h253:Γ.fn 253=con_fDomk) (h254:Γ.fn 254=con_fIprev) (h255:Γ.fn 255=con_fSender) (h256:Γ.fn 256=con_fSpf) (h257:Γ.fn 257=con_fDmarc) (h258:Γ.fn 258=con_fGen)
    (m8:Γ.mth 8 "given.example/pub-waxseal/pub/msgauth/authres.format" = some 251) (m9:Γ.mth 9 "given.example/pub-waxseal/pub/msgauth/authres.format" = some 252) (m10:Γ.mth 10 "given.example/pub-waxseal/pub/msgauth/authres.format" = some 253) (m11:Γ.mth 11 "given.example/pub-waxseal/pub/msgauth/authres.format" = some 254) (m12:Γ.mth 12 "given.example/pub-waxseal/pub/msgauth/authres.format" = some 255) (m13:Γ.mth 13 "given.example/pub-waxseal/pub/msgauth/authres.format" = some 256) (m14:Γ.mth 14 "given.example/pub-waxseal/pub/msgauth/authres.format" = some 257) (m15:Γ.mth 15 "given.example/pub-waxseal/pub/msgauth/authres.format" = some 258) :
    ∀ args r,con_Format args=some r→runs Γ c_authres_Format args (fun v=>v=r):=by
  intro args r h
  simp only [con_Format] at h
  split at h <;> (try simp at h; done)
  rename_i i v
  split at h <;> (try simp at h; done)
  rename_i l hl
  split at h <;> (try simp at h; done)
  rename_i hc
  obtain ⟨h1,h2,h3⟩:=hc
  simp only [Option.some.injEq] at h
  subst h
  rw [slPR_spec hl]
  clear hl
  simp only [mid] at h3
  cases l with
  | nil =>
    have h3':i.length+6 < 1099511627776:=by simpa [fText] using h3
    simp -implicitDefEqProofs [c_authres_Format,prsV,fText]
    omega
  | cons z zs =>
  generalize hzs:z::zs=l at *
  have hne:l ≠ []:=by rw [← hzs]; simp
  have hlen0:¬ (l.length:Int)=0:=by rw [← hzs]; simp; omega
  have hlen1:¬ l.length=0:=by rw [← hzs]; simp
  have hv:prsV l=.sl 1 (prsA l):=by rw [← hzs]; rfl
  have hF:fText i l=i++l.flatMap fPart:=by simp only [fText,if_neg hne]
  rw [hF] at h3 ⊢
  simp only [half] at h1
  rw [hv]
  simp -implicitDefEqProofs [c_authres_Format,hlen0,hlen1,hne]
  refine awp_loop2 (σ:=List PR × List PR) (fun q=>⟨[(5,.str (i++q.1.flatMap fPart)),(18,.sl 1 (prsA l)),(19,.int .i64 l.length),(20,.int .i64 q.1.length)],[]⟩)
    (fun q=>l=q.1++q.2) (fun q=>q.2.length) ([],l) (by simp) (by simp) ?_
  rintro ⟨pre,post⟩ e LQ hLQ
  simp only at e
  cases post with
  | nil =>
    simp only [List.append_nil] at e
    subst e
    simp -implicitDefEqProofs []
  | cons x post =>
    obtain ⟨t,y,n,e1,e2,e3⟩:=meth_fmt h251 h252 h253 h254 h255 h256 h257 h258 m8 m9 m10 m11 m12 m13 m14 m15 (h2 x (by rw [e]; simp))
    have hx:=h2 x (by rw [e]; simp)
    have hlen:l.length=pre.length+(post.length+1):=by rw [e]; simp
    have hlt:(pre.length:Int) < (l.length:Int):=by omega
    have hlt':pre.length < l.length:=by omega
    have g:l[pre.length]? = some x:=by rw [e]; exact get_mid rfl
    have ew:IntKind.i64.wrap ((pre.length:Int)+1)=(pre.length:Int)+1:=wrap64 (by omega) (by omega)
    have go:=fun st=>hLQ (pre++[x],post) (by rw [e]; simp) (by simp) st
    have hfl:(pre++[x]).flatMap fPart=pre.flatMap fPart++fPart x:=by simp
    rw [hfl] at go
    have hszz:(i++l.flatMap fPart).length=(i++(pre.flatMap fPart++fPart x)).length+(post.flatMap fPart).length:=by
      rw [e]; simp; omega
    rw [hszz] at h3
    simp only [List.length_append,fPart,List.length_cons] at h3
    have kr:con_resultMethod [x.av]=some (.str x.meth):=by simp only [con_resultMethod,asPR_av,Option.map]
    have kf:con_formatParams [.mp (pmA x.fm)]=some (.str (fmtPs x.fm)):=by
      simp only [con_formatParams,asPm_pmA]
      exact if_pos ⟨hx.2.1,hx.2.2.1,by simp only [mid]; omega⟩
    have ar:hasRef y=false:=by
      have:=pav_ref (x:=x)
      rw [e1] at this
      simpa [hasRef] using this
    have rv:hasRef (.tup [.str x.val,.mp (pmA x.fm)])=false:=by simp [hasRef,hasRefL]
    have g':l[pre.length]'hlt'=x:=by rw [List.getElem?_eq_getElem hlt'] at g; exact Option.some.inj g
    rw [e1] at kr
    simp -implicitDefEqProofs [hlt,hlt',g,g',e1,acall,h237,kr,e2,e3,h238,kf,ar,rv,ew]
    have hpf:(pre.flatMap fPart).length=(pre.map fun a=>(fPart a).length).sum:=by simp
    rw [hpf] at h3
    exact ⟨by omega,by omega,by omega,by omega,by omega,by omega,go _ (by simp [fPart])⟩
open Classical in
noncomputable def con_AFormat:List AV→Option AV
  | [.str i,u]=>match slAR u with
    | some l=>if l.length < half∧(∀ r∈l,(r.ps.getD []).length < half)∧(∀ r∈l,r.pr.fmOk)∧(fText i (l.map AR.pr)).length < mid then some (.str (fText i (l.map AR.pr))) else none
    | none=>none
  | _=>none
set_option maxHeartbeats 8000000 in
set_option maxRecDepth 100000 in
theorem ok_AFormat (Γ:Gam) (h235:Γ.fn 235=con_resultFor) (h236:Γ.fn 236=con_Format):∀ args r,con_AFormat args=some r→runs Γ c_impl_AFormat args (fun v=>v=r):=by
  intro args r h
  simp only [con_AFormat] at h
  split at h <;> (try simp at h; done)
  rename_i i u
  split at h <;> (try simp at h; done)
  rename_i l hl
  split at h <;> (try simp at h; done)
  rename_i hc
  obtain ⟨h1,h2,h4,h3⟩:=hc
  simp only [Option.some.injEq] at h
  subst h
  have uk:=sar_kill hl
  have us:=sar_snapW hl
  have ua:=sar_alen hl
  have kF:con_Format [.str i,prsV (l.map AR.pr)]=some (.str (fText i (l.map AR.pr))):=by
    simp only [con_Format,slPR_prsV]
    refine if_pos ⟨by simpa using h1,fun x hx=>?_,h3⟩
    simp only [List.mem_map] at hx
    obtain ⟨r,hr,rfl⟩:=hx
    exact h4 r hr
  simp only [half] at h1
  generalize fText i (l.map AR.pr)=T at *
  simp -implicitDefEqProofs [-alen,c_impl_AFormat,ua]
  refine awp_loop2 (σ:=List AR × List AR) (fun q=>⟨[(0,.str i),(5,grV 18 1 q.1.length),(8,u),(9,.int .i64 l.length),(10,.int .i64 q.1.length)],grH 18 q.1.length (prsA (q.1.map AR.pr))⟩)
    (fun q=>l=q.1++q.2) (fun q=>q.2.length) ([],l) (by simp) (by simp) ?_
  rintro ⟨pre,post⟩ e1 LQ hLQ
  simp only at e1
  cases post with
  | nil =>
    simp only [List.append_nil] at e1
    subst e1
    have hnl:¬ ((l.length:Int) < (l.length:Int)):=by omega
    cases l with
    | nil =>
      simp only [List.map_nil,prsV] at kF
      simp -implicitDefEqProofs [acall,h236,kF]
    | cons x l =>
      simp only [List.map_cons,prsV] at kF
      have tk:List.take (l.length+1) (x.pr.av::prsA (l.map AR.pr))=x.pr.av::prsA (l.map AR.pr):=List.take_of_length_le (by simp)
      simp only [prsA_cons] at kF
      simp -implicitDefEqProofs [acall,h236,kF,tk]
  | cons x post =>
    have hu:=sar_ne hl (by rw [e1]; simp)
    have hlen:l.length=pre.length+(post.length+1):=by rw [e1]; simp
    have hlt:(pre.length:Int) < (l.length:Int):=by omega
    have g:(arA l)[pre.length]? = some (.agg x.cells):=by rw [e1,arA_app]; exact get_mid (by simp)
    have ew:IntKind.i64.wrap ((pre.length:Int)+1)=(pre.length:Int)+1:=wrap64 (by omega) (by omega)
    have hx:(x.ps.getD []).length < half:=h2 x (by rw [e1]; simp)
    have kx:con_resultFor [.agg x.cells]=some x.pr.av:=by simp only [con_resultFor,asAR_cells]; exact if_pos hx
    have cu:=slP_cells x.ps
    simp only [cells] at cu
    have cx:=pav_cells (x:=x.pr)
    simp only [cells] at cx
    have go:=fun st=>hLQ (pre++[x],post) (by rw [e1]; simp) (by simp) st
    rw [hu] at go ⊢
    simp only [AR.cells] at g kx
    cases pre with
    | nil =>
      have hlt0:0 < l.length:=by omega
      have ew0:IntKind.i64.wrap 1=1:=by decide
      simp only [List.length_nil] at g
      rw [List.getElem?_eq_getElem (by simp; omega)] at g
      have g0:=Option.some.inj g
      simp -implicitDefEqProofs [-alen,hlt0,g0,ew0,cu,acall,h235,kx,cx]
      exact go _ (by simp)
    | cons y pre =>
      simp only [List.length_cons,Int.natCast_add,Int.natCast_one] at hlt g ew hlen
      have tk:List.take (pre.length+1) (y.pr.av::prsA (pre.map AR.pr))=y.pr.av::prsA (pre.map AR.pr):=List.take_of_length_le (by simp)
      simp -implicitDefEqProofs [-alen,hlt,g,ew,cu,acall,h235,kx,cx,tk]
      exact ⟨by omega,by omega,go _ (by simp)⟩
end Wax


namespace Wax
open Go (IntKind)

set_option maxRecDepth 100000 in
theorem kw_tok (c:UInt8) (h:kwB c=true):tokB c=true:=by
  have all:∀ n:Fin 256,kwB (UInt8.ofNat n.1)=true→tokB (UInt8.ofNat n.1)=true:=by decide
  have:=all ⟨c.toNat,c.toNat_lt⟩
  simp only [UInt8.ofNat_toNat] at this
  exact this h
theorem split_all {P:UInt8→Prop} {b:UInt8} (hb:P b):∀ {v:L8},(∀ p∈splitB b v,∀ x∈p,P x)→∀ x∈v,P x
  | [],_,x,hx=>by simp at hx
  | c::r,h,x,hx=>by
    simp only [splitB] at h
    split at h
    · rename_i e
      rcases List.mem_cons.1 hx with rfl | hx
      · rw [e]; exact hb
      · exact split_all hb (v:=r) (fun p hp=>h p (by simp [hp])) x hx
    · cases hs:splitB b r with
      | nil=>exact absurd hs (splitB_ne b r)
      | cons p t =>
        rw [hs] at h
        simp only at h
        rcases List.mem_cons.1 hx with rfl | hx
        · exact h (x::p) (by simp) x (by simp)
        · refine split_all hb (v:=r) ?_ x hx
          intro q hq y hy
          rw [hs] at hq
          rcases List.mem_cons.1 hq with rfl | hq
          · exact h (c::q) (by simp) y (by simp [hy])
          · exact h q (by simp [hq]) y hy
theorem plain_tk {s:L8} (h:aPlain s=true):(∀ x∈s,tkC [64] x=true)∧s ≠ []:=by
  refine ⟨?_,(aPlain_g h).2.1⟩
  have tk:∀ x,tokB x=true→tkC [64] x=true:=fun x hx=>by simp [tkC,hx]
  have tok:∀ {s:L8},mTok s=true→∀ x∈s,tkC [64] x=true:=fun hs x hx=>by
    simp only [mTok,Bool.and_eq_true] at hs
    exact tk x (List.all_eq_true.1 hs.1 x hx)
  unfold aPlain at h
  split at h
  · simp only [Bool.and_eq_true,decide_eq_true_eq] at h
    exact tok h.1
  · rename_i q hq
    simp only [Bool.and_eq_true,Bool.or_eq_true,decide_eq_true_eq] at h
    have e:=cut_mem (c:=64) hq
    rw [e]
    intro x hx
    simp only [List.mem_append,List.mem_cons] at hx
    rcases hx with hx | rfl | hx
    · rcases h.1.1 with h1 | h1
      · rw [h1] at hx; simp at hx
      · exact tok h1 x hx
    · decide
    · have hd:=h.1.2
      simp only [mDom,Bool.and_eq_true] at hd
      refine split_all (P:=fun x=>tkC [64] x=true) (b:=46) (by decide) (fun p hp x hx=>?_) x hx
      have:=List.all_eq_true.1 hd.1 p hp
      simp only [Bool.and_eq_true,mKw] at this
      exact tk x (kw_tok x (List.all_eq_true.1 this.1.1.1.1 x hx))
end Wax


namespace Wax
open Go (IntKind)

theorem lookP_kv:∀ {l:List KVp} {k:L8},lookP l k ≠ []→(k,lookP l k)∈l
  | [],k,h=>by simp [lookP] at h
  | (i,v)::r,k,h=>by
    simp only [lookP] at h ⊢
    split
    · rename_i e; subst e; simp
    · rename_i e
      rw [if_neg e] at h
      exact List.mem_cons_of_mem _ (lookP_kv h)
def fmPairs (l:List KVp):List KVp:=((fmKeys l).filter fun k=>decide (lookP l k ≠ [])).map fun k=>(k,lookP l k)
theorem fmPairs_mem {l:List KVp} {p:KVp} (h:p∈fmPairs l):p∈l∧p.2 ≠ []∧p.2=lookP l p.1:=by
  simp only [fmPairs,List.mem_map,List.mem_filter,decide_eq_true_eq] at h
  obtain ⟨k,⟨_,h2⟩,rfl⟩:=h
  exact ⟨lookP_kv h2,h2,rfl⟩
theorem fmKeys_mem {l:List KVp} {k:L8} (h:lookP l k ≠ []):k∈fmKeys l:=by
  simp only [fmKeys,List.mem_append]
  by_cases hk:k=qReason
  · subst hk
    exact .inl (by rw [if_neg h]; simp)
  · refine .inr ?_
    simp only [sortB,List.mem_mergeSort,List.mem_filter,List.mem_map,decide_eq_true_eq]
    exact ⟨⟨_,lookP_kv h,rfl⟩,hk⟩
theorem lookP_keyed {f:L8→L8}:∀ (ks:List L8) (k:L8),lookP (ks.map fun k=>(k,f k)) k=if k∈ks then f k else []
  | [],k=>by simp [lookP]
  | j::ks,k=>by
    simp only [List.map_cons,lookP,lookP_keyed ks k,List.mem_cons]
    by_cases h:k=j
    · simp [h]
    · simp [h]
theorem lookP_fmPairs (l:List KVp) (k:L8):lookP (fmPairs l) k=lookP l k:=by
  unfold fmPairs
  rw [lookP_keyed]
  split
  · rfl
  · rename_i h
    by_cases hk:lookP l k=[]
    · exact hk.symm
    · exact absurd (List.mem_filter.2 ⟨fmKeys_mem hk,by simpa using hk⟩) h
theorem fmPairs_nd {l:List KVp} (h:(l.map (·.1)).Nodup):((fmPairs l).map (·.1)).Nodup:=by
  have e:(fmPairs l).map (·.1)=(fmKeys l).filter fun k=>decide (lookP l k ≠ []):=by simp [fmPairs,Function.comp_def]
  rw [e]
  refine List.Pairwise.filter _ ?_
  unfold fmKeys
  refine List.nodup_append.2 ?_
  refine ⟨by split <;> simp,?_,?_⟩
  · have:(sortB ((l.map (·.1)).filter (· ≠ qReason))).Perm ((l.map (·.1)).filter (· ≠ qReason)):=List.mergeSort_perm _ _
    exact this.nodup_iff.2 (List.Pairwise.filter _ h)
  · intro a ha b hb e
    split at ha
    · simp at ha
    · simp only [List.mem_singleton] at ha
      simp only [sortB,List.mem_mergeSort,List.mem_filter,decide_eq_true_eq] at hb
      exact hb.2 (by rw [← e,ha])
def NoQ (l:List KVp):Prop:=∀ p∈l,p.2 ≠ []→(p.1=qReason→fmtV p.2=p.2)∧(p.1 ≠ qReason→fmtP p.2=p.2)
theorem fmtPs_noq {l:List KVp} (h:NoQ l):fmtPs l=joinW ((fmPairs l).map kvW):=by
  unfold fmtPs fmPairs
  congr 1
  rw [List.map_map]
  refine List.map_congr_left fun k hk=>?_
  simp only [List.mem_filter,decide_eq_true_eq] at hk
  have:=h _ (lookP_kv hk.2) hk.2
  simp only [fmWord,Function.comp,kvW]
  by_cases hr:k=qReason
  · rw [if_pos hr,this.1 hr]
  · rw [if_neg hr,this.2 hr]
theorem joinW_flat (ws:List L8):32::joinW ws=if ws=[] then [32] else ws.flatMap (32 :: ·):=by
  cases ws with
  | nil=>rfl
  | cons w r=>simp [joinW]

def pcsB (b:L8):L8→List (L8 × ResT)→List L8
  | cur,[]=>[cur++b]
  | cur,p::r=>(cur++p.1)::pcsB b p.2.txt r
theorem split_flatB {b:L8} (hb:allWs b):∀ (l:List (L8 × ResT)) (cur:L8),noB 59 cur→(∀ p∈l,allWs p.1∧p.2.Ok)→splitB 59 (cur++(flatP l++b))=pcsB b cur l
  | [],cur,hc,_=>by
    simp only [flatP,List.flatMap_nil,List.nil_append,pcsB]
    exact splitB_only (b:=59) (noB_app hc (allWs_no hb))
  | p::r,cur,hc,h=>by
    obtain ⟨h1,h2⟩:=h p (by simp)
    have ih:=split_flatB hb r p.2.txt h2.no (fun q hq=>h q (by simp [hq]))
    have e:cur++(flatP (p::r)++b)=(cur++p.1)++59::(p.2.txt++(flatP r++b)):=by simp [flatP]
    rw [e,splitB_app (b:=59) (noB_app hc (allWs_no h1)),ih]; rfl
theorem adGo_pcsB {b:L8} (hb:allWs b):∀ (l:List (L8 × ResT)) (t:ResT) (xs:List PR) (x:PR) (acc:List PR),t.Ok→prOf (lowS t.head.1) (lowS t.head.2) t.prm=.inr x→(∀ p∈l,allWs p.1∧p.2.Ok) →
    l.map (fun p=>prOf (lowS p.2.head.1) (lowS p.2.head.2) p.2.prm)=xs.map .inr→adGo (pcsB b t.txt l) acc=(acc++x::xs,none)
  | [],t,xs,x,acc,ht,hx,_,e=>by
    have hxs:xs=[]:=by
      cases xs with
      | nil=>rfl
      | cons _ _=>simp at e
    subst hxs
    obtain ⟨h1,h2⟩:=ht.res hb hx
    simp only [pcsB,adGo,if_neg h1,h2]
  | p::r,t,xs,x,acc,ht,hx,h,e=>by
    obtain ⟨h1,h2⟩:=h p (by simp)
    cases xs with
    | nil=>simp at e
    | cons y ys =>
      simp only [List.map_cons,List.cons.injEq] at e
      obtain ⟨n1,n2⟩:=ht.res h1 hx
      simp only [pcsB,adGo,if_neg n1,n2]
      rw [adGo_pcsB hb r p.2 ys y (acc++[x]) h2 e.1 (fun q hq=>h q (by simp [hq])) e.2]
      simp
theorem ad_textB {b:L8} (hb:allWs b) {i c:L8} (hc:noB 59 c) (hid:∀ b,allWs b→adId (c++b)=some i) {p:L8 × ResT} {l:List (L8 × ResT)} {xs:List PR} (h:∀ q∈p::l,allWs q.1∧q.2.Ok) (e:(p::l).map (fun p=>prOf (lowS p.2.head.1) (lowS p.2.head.2) p.2.prm)=xs.map .inr):adText (c++(flatP (p::l)++b))=some (i,xs):=by
  simp only [adText]
  rw [split_flatB hb (p::l) c hc h]
  obtain ⟨h1,h2⟩:=h p (by simp)
  cases xs with
  | nil=>simp at e
  | cons y ys =>
    simp only [List.map_cons,List.cons.injEq] at e
    have hg:=adGo_pcsB hb l p.2 ys y [] h2 e.1 (fun q hq=>h q (by simp [hq])) e.2
    simp only [pcsB,hid _ h1,hg,List.nil_append]

def aMute1 (r:AR):Bool := !(decide (r.kind=1) && decide (r.reason ≠ [])) && (if r.kind=0 then (r.ps.getD []).map (·.2) else r.props.map (·.2.2)).all fun v=>v.all fun c=>decide (c ≠ 33)
set_option maxRecDepth 100000 in
theorem tkC_ad {x:UInt8} (h:tkC [64] x=true) (h2:x ≠ 33):adB x=true:=by
  have all:∀ n:Fin 256,tkC [64] (UInt8.ofNat n.1)=true→UInt8.ofNat n.1 ≠ 33→adB (UInt8.ofNat n.1)=true:=by decide
  have:=all ⟨x.toNat,x.toNat_lt⟩
  simp only [UInt8.ofNat_toNat] at this
  exact this h h2
set_option maxRecDepth 100000 in
theorem tok_sp {x:UInt8} (h:tokB x=true):spB x=false:=by
  have all:∀ n:Fin 256,tokB (UInt8.ofNat n.1)=true→spB (UInt8.ofNat n.1)=false:=by decide
  have:=all ⟨x.toNat,x.toNat_lt⟩
  simp only [UInt8.ofNat_toNat] at this
  exact this h
theorem tok_fmtV {s:L8} (h:mTok s=true):fmtV s=s:=by
  simp only [mTok,Bool.and_eq_true] at h
  have:s.any spB=false:=by
    rw [List.any_eq_false]
    intro x hx
    simp [tok_sp (List.all_eq_true.1 h.1 x hx)]
  simp [fmtV,this]
theorem plain_fmtP {s:L8} (h:aPlain s=true) (h2:∀ x∈s,x ≠ 33):fmtP s=s:=by
  have:s.all adB=true:=List.all_eq_true.2 fun x hx=>tkC_ad ((plain_tk h).1 x hx) (h2 x hx)
  simp [fmtP,this]
structure PrGood (r:AR):Prop where
  meth:r.pr.meth=r.meth
  val:r.pr.val=r.value
  look:∀ k,lookP r.pr.fm k=lookP r.prm k
  nd:(r.pr.fm.map (·.1)).Nodup
  keys:∀ p∈r.pr.fm,p.2 ≠ []→p∈r.prm
  gen:r.kind=0→r.pr.fm=r.prm
theorem look_rPs (s:L8) (l:List KVp) (k:L8):lookP (rPs s++l) k=if k=qReason∧s ≠ [] then s else lookP l k:=by
  unfold rPs
  split
  · rename_i h; simp [h]
  · rename_i h
    simp only [List.cons_append,List.nil_append,lookP]
    by_cases hk:k=qReason
    · simp [hk,h]
    · simp [hk]
theorem mapOf_asc {l:List KVp} (h:(l.map (·.1)).Nodup):mapOf l=l:=by
  have gen:∀ (r acc:List KVp),((acc++r).map (·.1)).Nodup→r.foldl (fun m p=>psetL m p.1 p.2) acc=acc++r:=by
    intro r
    induction r with
    | nil=>intro acc _; simp
    | cons p r ih =>
      intro acc h
      have hn:hasK p.1 acc=false:=by
        refine hasK_none fun hm=>?_
        simp only [List.map_append,List.map_cons,List.nodup_append] at h
        exact h.2.2 _ hm _ (by simp) rfl
      simp only [List.foldl_cons,psetL_new hn]
      rw [ih (acc++[(p.1,p.2)]) (by simpa using h)]
      simp
  have:=gen l [] (by simpa using h)
  simpa [mapOf] using this
theorem good_Auth {r:AR} (h:r.kind=1) (hre:r.reason=[]):PrGood r:=by
  have hm:r.meth=sAuth:=by simp only [AR.meth,h]; rfl
  have hp:r.prm=rPs r.reason++[(qAuth,r.auth)]:=by simp only [AR.prm,AR.props,h]; rfl
  rw [hre] at hp
  have hpr:r.pr=.auth r.value r.reason r.auth:=by simp [AR.pr,h]
  have hfm:r.pr.fm=[(qAuth,r.auth)]:=by rw [hpr]; rfl
  refine ⟨by rw [hpr,hm]; rfl,by rw [hpr]; rfl,?_,by rw [hfm]; exact (show ([qAuth]:List L8).Nodup by decide),?_,fun h0=>by omega⟩
  · intro k
    rw [hp,hfm]; rfl
  · intro p hq hne
    rw [hfm] at hq
    rw [hp]
    simp only [List.mem_cons,List.not_mem_nil,or_false] at hq
    rcases hq with rfl <;> simp_all [rPs]
theorem good_Dkim {r:AR} (h:r.kind=2):PrGood r:=by
  have hm:r.meth=sDkim:=by simp only [AR.meth,h]; rfl
  have hp:r.prm=rPs r.reason++[(qD,r.domain),(qI,r.ident)]:=by simp only [AR.prm,AR.props,h]; rfl
  skip
  have hpr:r.pr=.dkim r.value r.reason r.domain r.ident:=by simp [AR.pr,h]
  have hfm:r.pr.fm=[(qD,r.domain),(qI,r.ident),(qReason,r.reason)]:=by rw [hpr]; rfl
  refine ⟨by rw [hpr,hm]; rfl,by rw [hpr]; rfl,?_,by rw [hfm]; exact (show ([qD,qI,qReason]:List L8).Nodup by decide),?_,fun h0=>by omega⟩
  · intro k
    rw [hp,hfm,look_rPs]
    by_cases hk:k=qReason
    · subst hk
      by_cases hr:r.reason=[]
      · simp [lookP,hr,qReason,qD,qI]
      · simp [lookP,hr,qReason,qD,qI]
    · simp [lookP,hk]
  · intro p hq hne
    rw [hfm] at hq
    rw [hp]
    simp only [List.mem_cons,List.not_mem_nil,or_false] at hq
    rcases hq with rfl | rfl | rfl <;> simp_all [rPs]
theorem good_Domk {r:AR} (h:r.kind=3):PrGood r:=by
  have hm:r.meth=sDomk:=by simp only [AR.meth,h]; rfl
  have hp:r.prm=rPs r.reason++[(qD,r.domain),(qFrom,r.fr),(qSend,r.sender)]:=by simp only [AR.prm,AR.props,h]; rfl
  skip
  have hpr:r.pr=.domk r.value r.reason r.domain r.fr r.sender:=by simp [AR.pr,h]
  have hfm:r.pr.fm=[(qD,r.domain),(qFrom,r.fr),(qSend,r.sender),(qReason,r.reason)]:=by rw [hpr]; rfl
  refine ⟨by rw [hpr,hm]; rfl,by rw [hpr]; rfl,?_,by rw [hfm]; exact (show ([qD,qFrom,qSend,qReason]:List L8).Nodup by decide),?_,fun h0=>by omega⟩
  · intro k
    rw [hp,hfm,look_rPs]
    by_cases hk:k=qReason
    · subst hk
      by_cases hr:r.reason=[]
      · simp [lookP,hr,qReason,qD,qFrom,qSend]
      · simp [lookP,hr,qReason,qD,qFrom,qSend]
    · simp [lookP,hk]
  · intro p hq hne
    rw [hfm] at hq
    rw [hp]
    simp only [List.mem_cons,List.not_mem_nil,or_false] at hq
    rcases hq with rfl | rfl | rfl | rfl <;> simp_all [rPs]
theorem good_Iprev {r:AR} (h:r.kind=4):PrGood r:=by
  have hm:r.meth=sIprev:=by simp only [AR.meth,h]; rfl
  have hp:r.prm=rPs r.reason++[(qIprev,r.ip)]:=by simp only [AR.prm,AR.props,h]; rfl
  skip
  have hpr:r.pr=.iprev r.value r.reason r.ip:=by simp [AR.pr,h]
  have hfm:r.pr.fm=[(qIprev,r.ip),(qReason,r.reason)]:=by rw [hpr]; rfl
  refine ⟨by rw [hpr,hm]; rfl,by rw [hpr]; rfl,?_,by rw [hfm]; exact (show ([qIprev,qReason]:List L8).Nodup by decide),?_,fun h0=>by omega⟩
  · intro k
    rw [hp,hfm,look_rPs]
    by_cases hk:k=qReason
    · subst hk
      by_cases hr:r.reason=[]
      · simp [lookP,hr,qReason,qIprev]
      · simp [lookP,hr,qReason,qIprev]
    · simp [lookP,hk]
  · intro p hq hne
    rw [hfm] at hq
    rw [hp]
    simp only [List.mem_cons,List.not_mem_nil,or_false] at hq
    rcases hq with rfl | rfl <;> simp_all [rPs]
theorem good_Spf {r:AR} (h:r.kind=6):PrGood r:=by
  have hm:r.meth=sSpf:=by simp only [AR.meth,h]; rfl
  have hp:r.prm=rPs r.reason++[(qMail,r.fr),(qHelo,r.helo)]:=by simp only [AR.prm,AR.props,h]; rfl
  skip
  have hpr:r.pr=.spf r.value r.reason r.fr r.helo:=by simp [AR.pr,h]
  have hfm:r.pr.fm=[(qReason,r.reason),(qHelo,r.helo),(qMail,r.fr)]:=by rw [hpr]; rfl
  refine ⟨by rw [hpr,hm]; rfl,by rw [hpr]; rfl,?_,by rw [hfm]; exact (show ([qReason,qHelo,qMail]:List L8).Nodup by decide),?_,fun h0=>by omega⟩
  · intro k
    rw [hp,hfm,look_rPs]
    by_cases hk:k=qReason
    · subst hk
      by_cases hr:r.reason=[]
      · simp [lookP,hr,qReason,qMail,qHelo]
      · simp [lookP,hr,qReason,qMail,qHelo]
    · by_cases h1:k=qHelo
      · subst h1
        simp [lookP,qReason,qHelo,qMail]
      · simp [lookP,hk,h1]
  · intro p hq hne
    rw [hfm] at hq
    rw [hp]
    simp only [List.mem_cons,List.not_mem_nil,or_false] at hq
    rcases hq with rfl | rfl | rfl <;> simp_all [rPs]
theorem good_Dmarc {r:AR} (h:r.kind=7):PrGood r:=by
  have hm:r.meth=sDmarc:=by simp only [AR.meth,h]; rfl
  have hp:r.prm=rPs r.reason++[(qFrom,r.fr)]:=by simp only [AR.prm,AR.props,h]; rfl
  skip
  have hpr:r.pr=.dmarc r.value r.reason r.fr:=by simp [AR.pr,h]
  have hfm:r.pr.fm=[(qFrom,r.fr),(qReason,r.reason)]:=by rw [hpr]; rfl
  refine ⟨by rw [hpr,hm]; rfl,by rw [hpr]; rfl,?_,by rw [hfm]; exact (show ([qFrom,qReason]:List L8).Nodup by decide),?_,fun h0=>by omega⟩
  · intro k
    rw [hp,hfm,look_rPs]
    by_cases hk:k=qReason
    · subst hk
      by_cases hr:r.reason=[]
      · simp [lookP,hr,qReason,qFrom]
      · simp [lookP,hr,qReason,qFrom]
    · simp [lookP,hk]
  · intro p hq hne
    rw [hfm] at hq
    rw [hp]
    simp only [List.mem_cons,List.not_mem_nil,or_false] at hq
    rcases hq with rfl | rfl <;> simp_all [rPs]
theorem good_Sender {r:AR} (h:r.kind=5) (hl:lowS r.hkey=r.hkey):PrGood r:=by
  have hm:r.meth=sSender:=by simp only [AR.meth,h]; rfl
  have hp:r.prm=rPs r.reason++[(tHeader++46::r.hkey,r.hval)]:=by simp only [AR.prm,AR.props,h]; rfl
  have hpr:r.pr=.sender r.value r.reason r.hkey r.hval:=by simp [AR.pr,h]
  have hne:tHeader++46::r.hkey ≠ qReason:=key_ne_reason
  have hfm:r.pr.fm=[(tHeader++46::r.hkey,r.hval),(qReason,r.reason)]:=by
    rw [hpr]
    simp only [PR.fm,hl]
    rfl
  refine ⟨by rw [hpr,hm]; rfl,by rw [hpr]; rfl,?_,by rw [hfm]; simp [hne],?_,fun h0=>by omega⟩
  · intro k
    rw [hp,hfm,look_rPs]
    by_cases hk:k=qReason
    · subst hk
      by_cases hr:r.reason=[]
      · simp [lookP,hr,hne.symm]
      · simp [lookP,hr,hne.symm]
    · simp [lookP,hk]
  · intro p hq hne
    rw [hfm] at hq
    rw [hp]
    simp only [List.mem_cons,List.not_mem_nil,or_false] at hq
    rcases hq with rfl | rfl <;> simp_all [rPs]
set_option maxHeartbeats 1000000 in
theorem pr_good {r:AR} (hf:aFit1 r=true) (hm:aMute1 r=true):PrGood r:=by
  have hP:=fit_parts hf
  rcases kind_cases hf with h | h | h | h | h | h | h | h
  · have hm:r.meth=r.method:=by simp only [AR.meth,h,if_true]
    have hre:r.reason=[]:=by
      simp only [aFit1,Bool.and_eq_true,decide_eq_true_eq,h,if_true] at hf
      exact hf.2.1.1.1.2
    have hp:r.prm=r.ps.getD []:=by simp only [AR.prm,h,hre,rPs,if_true,List.nil_append]
    have hpr:r.pr=.gen r.method r.value (mapOf (r.ps.getD [])):=by simp [AR.pr,h]
    have hnd:=hP.1.nd
    rw [hp] at hnd
    have hfm:r.pr.fm=r.prm:=by rw [hpr,hp]; exact mapOf_asc hnd
    exact ⟨by rw [hpr,hm]; rfl,by rw [hpr]; rfl,fun k=>by rw [hfm],by rw [hfm,hp]; exact hnd,fun p hp _=>by rw [← hfm]; exact hp,fun _=>hfm⟩
  · refine good_Auth h ?_
    simp only [aMute1,h,decide_true,Bool.true_and,Bool.and_eq_true,Bool.not_eq_true',decide_eq_false_iff_not,ne_eq,Decidable.not_not] at hm
    exact hm.1
  · exact good_Dkim h
  · exact good_Domk h
  · exact good_Iprev h
  · refine good_Sender h ?_
    simp only [aFit1,Bool.and_eq_true,decide_eq_true_eq] at hf
    have h5:=hf.2
    rw [if_neg (by omega)] at h5
    have:=List.all_eq_true.1 h5 (tHeader,r.hkey,r.hval) (by simp [AR.props,h])
    simp only [Bool.and_eq_true,decide_eq_true_eq] at this
    exact this.2
  · exact good_Spf h
  · exact good_Dmarc h

theorem gFit_plain:∀ (l:List KVp) (prev:Option L8),gFit prev l=true→∀ p∈l,aPlain p.2=true∧p.1 ≠ qReason
  | [],_,_=>by simp
  | p::r,prev,h=>by
    simp only [gFit,Bool.and_eq_true,decide_eq_true_eq] at h
    obtain ⟨⟨⟨⟨h1,h2⟩,h3⟩,h4⟩,h5⟩:=h
    intro q hq
    rcases List.mem_cons.1 hq with rfl | hq
    · refine ⟨h3,fun e=>?_⟩
      split at h1
      · rename_i z hz
        have:=cut_mem (c:=46) hz
        rw [e] at this
        exact key_ne_reason this.symm
      · simp at h1
    · exact gFit_plain r _ h5 q hq
theorem prm_vals {r:AR} (hf:aFit1 r=true) (hm:aMute1 r=true):∀ p∈r.prm,(p.1=qReason→mTok p.2=true)∧(p.1 ≠ qReason→aPlain p.2=true∧∀ x∈p.2,x ≠ 33):=by
  intro p hp
  simp only [aFit1,Bool.and_eq_true,decide_eq_true_eq,Bool.or_eq_true] at hf
  obtain ⟨⟨⟨⟨f1,f2⟩,f3⟩,f4⟩,f5⟩:=hf
  simp only [aMute1,Bool.and_eq_true] at hm
  have hm2:=hm.2
  simp only [AR.prm,List.mem_append] at hp
  rcases hp with hp | hp
  · unfold rPs at hp
    split at hp
    · simp at hp
    · rename_i hne
      simp only [List.mem_singleton] at hp
      subst hp
      refine ⟨fun _=>?_,fun h=>absurd rfl h⟩
      rcases f4 with h | h
      · exact absurd h hne
      · exact h
  · by_cases h0:r.kind=0
    · rw [if_pos h0] at hp f5 hm2
      simp only [Bool.and_eq_true,decide_eq_true_eq] at f5
      obtain ⟨a,b⟩:=gFit_plain _ _ f5.2 p hp
      refine ⟨fun e=>absurd e b,fun _=>⟨a,fun x hx=>?_⟩⟩
      have:=List.all_eq_true.1 (List.all_eq_true.1 hm2 p.2 (List.mem_map.2 ⟨p,hp,rfl⟩)) x hx
      simpa using this
    · rw [if_neg h0] at hp f5 hm2
      obtain ⟨q,hq,rfl⟩:=List.mem_map.1 hp
      have h5:=List.all_eq_true.1 f5 q hq
      simp only [Bool.and_eq_true,decide_eq_true_eq] at h5
      refine ⟨fun e=>absurd e key_ne_reason,fun _=>⟨h5.1.1,fun x hx=>?_⟩⟩
      have:=List.all_eq_true.1 (List.all_eq_true.1 hm2 q.2.2 (List.mem_map.2 ⟨q,hq,rfl⟩)) x hx
      simpa using this
def ft (r:AR):ResT:=⟨[32],(r.meth,r.value),(fmPairs r.pr.fm).map fun p=>([32],p)⟩
def tl (r:AR):L8:=if fmPairs r.pr.fm=[] then [32] else []
theorem tl_ws (r:AR):allWs (tl r):=by
  unfold tl
  split
  · intro x hx
    simp only [List.mem_singleton] at hx
    subst hx; decide
  · intro x hx; simp at hx
theorem noq {r:AR} (hf:aFit1 r=true) (hm:aMute1 r=true):NoQ r.pr.fm:=by
  intro p hp hne
  obtain ⟨h1,h2⟩:=prm_vals hf hm p ((pr_good hf hm).keys p hp hne)
  exact ⟨fun e=>tok_fmtV (h1 e),fun e=>plain_fmtP (h2 e).1 (h2 e).2⟩
theorem fPart_ft {r:AR} (hf:aFit1 r=true) (hm:aMute1 r=true):fPart r.pr=59::((ft r).txt++tl r):=by
  have G:=pr_good hf hm
  have e:32::fmtPs r.pr.fm=flatW ((ft r).ps.map fun p=>(p.1,kvW p.2))++tl r:=by
    rw [fmtPs_noq (noq hf hm),joinW_flat]
    simp only [ft,tl,flatW,List.map_map,List.map_eq_nil_iff]
    split
    · rename_i h; simp [h]
    · simp [List.flatMap_map,Function.comp_def]
  simp only [fPart,G.meth,G.val,e,ResT.txt]
  simp [ft,kvW]
theorem ft_ok {r:AR} (hf:aFit1 r=true) (hm:aMute1 r=true):(ft r).Ok∧(ft r).prm=fmPairs r.pr.fm:=by
  have G:=pr_good hf hm
  obtain ⟨P,K,h3,h4⟩:=fit_parts hf
  have hk:∀ p∈fmPairs r.pr.fm,KvOk p∧lowS p.1=p.1:=by
    intro p hp
    obtain ⟨a,b,_⟩:=fmPairs_mem hp
    exact P.kv p (G.keys p a b)
  have hws:allWs [32]:=by intro x hx; simp only [List.mem_singleton] at hx; subst hx; decide
  have e:(ft r).ps.map (fun p=>(lowS p.2.1,p.2.2))=fmPairs r.pr.fm:=by
    simp only [ft,List.map_map]
    conv=>rhs; rw [← List.map_id (fmPairs r.pr.fm)]
    refine List.map_congr_left fun p hp=>?_
    simp only [Function.comp,(hk p hp).2]; rfl
  refine ⟨⟨hws,K,fun p hp=>?_,?_⟩,e⟩
  · simp only [ft,List.mem_map] at hp
    obtain ⟨q,hq,rfl⟩:=hp
    exact ⟨⟨by simp,hws⟩,(hk q hq).1⟩
  · have e2:(ft r).ps.map (fun p=>lowS p.2.1)=(fmPairs r.pr.fm).map (·.1):=by rw [← e]; simp [Function.comp_def]
    rw [e2]
    exact fmPairs_nd G.nd
theorem sort_asc {l:List KVp} (h:Asc l):sortB (l.map (·.1))=l.map (·.1):=by
  refine List.mergeSort_of_pairwise ?_
  have:(l.map (·.1)).Pairwise (· < ·):=List.pairwise_map.2 h
  exact this.imp fun {a b} hab=>by
    simp only [decide_eq_true_eq]
    exact List.le_of_lt hab
theorem fmPairs_asc {l:List KVp} (h:Asc l) (hk:∀ p∈l,p.1 ≠ qReason∧p.2 ≠ []):fmPairs l=l:=by
  have hnd:(l.map (·.1)).Nodup:=by
    have:(l.map (·.1)).Pairwise (· < ·):=List.pairwise_map.2 h
    exact this.imp fun h=>fun e=>absurd (e ▸ h) (List.lt_irrefl _)
  have hl:∀ p∈l,lookP l p.1=p.2:=fun p hp=>lookP_mem hnd hp
  have hr:lookP l qReason=[]:=by
    by_cases hr:lookP l qReason=[]
    · exact hr
    · exact absurd rfl (hk _ (lookP_kv hr)).1
  have hf:(l.map (·.1)).filter (· ≠ qReason)=l.map (·.1):=by
    rw [List.filter_eq_self]
    intro k hk2
    obtain ⟨p,hp,rfl⟩:=List.mem_map.1 hk2
    simpa using (hk p hp).1
  have hK:fmKeys l=l.map (·.1):=by
    unfold fmKeys
    rw [if_pos hr,hf,sort_asc h]; rfl
  unfold fmPairs
  rw [hK]
  have hf2:(l.map (·.1)).filter (fun k=>decide (lookP l k ≠ []))=l.map (·.1):=by
    rw [List.filter_eq_self]
    intro k hk2
    obtain ⟨p,hp,rfl⟩:=List.mem_map.1 hk2
    simp only [hl p hp,decide_eq_true_eq]
    exact (hk p hp).2
  rw [hf2,List.map_map]
  conv=>rhs; rw [← List.map_id l]
  refine List.map_congr_left fun p hp=>?_
  simp only [Function.comp,hl p hp]; rfl
theorem ft_reads {r:AR} (hf:aFit1 r=true) (hm:aMute1 r=true):∃ x:PR,prOf (lowS (ft r).head.1) (lowS (ft r).head.2) (ft r).prm=.inr x∧x.ar=r.only.norm:=by
  have G:=pr_good hf hm
  obtain ⟨P,_,h3,h4⟩:=fit_parts hf
  obtain ⟨x,hx,hxa⟩:=reads_all hf
  refine ⟨x,?_,hxa⟩
  rw [(ft_ok hf hm).2]
  show prOf (lowS r.meth) (lowS r.value) _=_
  rw [h3,h4,← hx]
  have hkeys:∀ k,lookP (fmPairs r.pr.fm) k=lookP r.prm k:=fun k=>by rw [lookP_fmPairs,G.look]
  by_cases h0:r.kind=0
  · have hp:r.prm=r.ps.getD []:=by
      simp only [aFit1,Bool.and_eq_true,decide_eq_true_eq,h0,if_true] at hf
      simp only [AR.prm,h0,hf.2.1.1.1.2,rPs,if_true,List.nil_append]
    have hg:gFit none (r.ps.getD [])=true:=by
      simp only [aFit1,Bool.and_eq_true,decide_eq_true_eq,h0,if_true] at hf
      exact hf.2.2
    have e:fmPairs r.pr.fm=r.prm:=by
      rw [G.gen h0,hp]
      refine fmPairs_asc (gFit_spec _ _ hg).2.1 fun p hp2=>?_
      have:=gFit_plain _ _ hg p hp2
      exact ⟨this.2,(plain_tk this.1).2⟩
    rw [e]
  · have hms:r.meth∈aMeths∧r.meth ≠ sArc∧(r.meth=sSender→r.kind=5):=by
      rcases kind_cases hf with h | h | h | h | h | h | h | h
      · exact absurd h h0
      · rw [show r.meth=sAuth by simp only [AR.meth,h]; rfl]; exact ⟨by decide,by decide,fun h=>absurd h (by decide)⟩
      · rw [show r.meth=sDkim by simp only [AR.meth,h]; rfl]; exact ⟨by decide,by decide,fun h=>absurd h (by decide)⟩
      · rw [show r.meth=sDomk by simp only [AR.meth,h]; rfl]; exact ⟨by decide,by decide,fun h=>absurd h (by decide)⟩
      · rw [show r.meth=sIprev by simp only [AR.meth,h]; rfl]; exact ⟨by decide,by decide,fun h=>absurd h (by decide)⟩
      · rw [show r.meth=sSender by simp only [AR.meth,h]; rfl]; exact ⟨by decide,by decide,fun _=>h⟩
      · rw [show r.meth=sSpf by simp only [AR.meth,h]; rfl]; exact ⟨by decide,by decide,fun h=>absurd h (by decide)⟩
      · rw [show r.meth=sDmarc by simp only [AR.meth,h]; rfl]; exact ⟨by decide,by decide,fun h=>absurd h (by decide)⟩
    refine prOf_congr hms.1 hms.2.1 (fun k _=>hkeys k) fun hs=>?_
    have h5:=hms.2.2 hs
    have hp:r.prm=rPs r.reason++[(tHeader++46::r.hkey,r.hval)]:=by simp only [AR.prm,AR.props,h5]; rfl
    have hb:headB (tHeader++46::r.hkey)=true:=by
      simp only [headB,tHeader,qHead]
      simp [List.isPrefixOf]
    have hq:headB qReason=false:=by decide
    have hin:(tHeader++46::r.hkey,r.hval)∈r.prm:=by rw [hp]; simp
    have hv:aPlain r.hval=true:=((prm_vals hf hm _ hin).2 key_ne_reason).1
    have ho:∀ x∈r.prm.map (·.1),x=tHeader++46::r.hkey∨headB x=false:=by
      intro x hx
      rw [hp] at hx
      unfold rPs at hx
      split at hx
      · simp at hx; exact .inl (by simpa using hx)
      · simp at hx
        rcases hx with rfl | rfl
        · exact .inr hq
        · exact .inl (by simp)
    have hlk:lookP (fmPairs r.pr.fm) (tHeader++46::r.hkey) ≠ []:=by
      rw [hkeys,lookP_mem P.nd hin]
      exact (plain_tk hv).2
    rw [sid_only hb (List.mem_map.2 ⟨_,hin,rfl⟩) ho,sid_only hb (List.mem_map.2 ⟨_,lookP_kv hlk,rfl⟩) (fun x hx=>?_),hkeys]
    obtain ⟨p,hp2,rfl⟩:=List.mem_map.1 hx
    obtain ⟨a,b,_⟩:=fmPairs_mem hp2
    exact ho _ (List.mem_map.2 ⟨p,G.keys p a b,rfl⟩)

def fPts:L8→List AR→List (L8 × ResT)
  | _,[]=>[]
  | t,r::l=>(t,ft r)::fPts (tl r) l
def lastTl:L8→List AR→L8
  | t,[]=>t
  | _,r::l=>lastTl (tl r) l
theorem flat_fPts:∀ (l:List AR) (t:L8),(∀ r∈l,aFit1 r=true∧aMute1 r=true)→t++(l.map AR.pr).flatMap fPart=flatP (fPts t l)++lastTl t l
  | [],t,_=>by simp [fPts,lastTl,flatP]
  | r::l,t,h=>by
    have h1:=h r (by simp)
    have ih:=flat_fPts l (tl r) (fun q hq=>h q (by simp [hq]))
    have e:flatP (fPts t (r::l))=t++59::((ft r).txt++flatP (fPts (tl r) l)):=by simp [fPts,flatP]
    rw [e]
    simp only [List.map_cons,List.flatMap_cons,fPart_ft h1.1 h1.2,lastTl]
    have:=congrArg (fun z=>t++59::((ft r).txt++z)) ih
    simpa using this
theorem lastTl_ws:∀ (l:List AR) (t:L8),allWs t→allWs (lastTl t l)
  | [],_,h=>h
  | r::l,_,_=>lastTl_ws l (tl r) (tl_ws r)
theorem fPts_ok:∀ (l:List AR) (t:L8),allWs t→(∀ r∈l,aFit1 r=true∧aMute1 r=true)→(∀ p∈fPts t l,allWs p.1∧p.2.Ok) ∧
    ∃ xs:List PR,(fPts t l).map (fun p=>prOf (lowS p.2.head.1) (lowS p.2.head.2) p.2.prm)=xs.map .inr∧xs.map PR.ar=l.map fun r=>r.only.norm
  | [],t,_,_=>⟨by simp [fPts],[],by simp [fPts],rfl⟩
  | r::l,t,ht,h=>by
    have h1:=h r (by simp)
    obtain ⟨x,hx,hxa⟩:=ft_reads h1.1 h1.2
    obtain ⟨b1,xs,b2,b3⟩:=fPts_ok l (tl r) (tl_ws r) (fun q hq=>h q (by simp [hq]))
    refine ⟨fun p hp=>?_,x::xs,by simp only [fPts,List.map_cons,b2,hx],by simp [hxa,b3]⟩
    rcases List.mem_cons.1 hp with rfl | hp
    · exact ⟨ht,(ft_ok h1.1 h1.2).1⟩
    · exact b1 p hp
theorem none_text (i:L8):fText i []=aTextOf i [] []:=by
  simp only [fText,aTextOf,if_true,aParts,flatP,List.flatMap_nil,List.nil_append]
  rfl
theorem fmt_read {i:L8} (hi:aPlain i=true) {l:List AR} (h:aFits l=true) (hm:l.all aMute1=true):(∃ xs:List PR,adText (fText i (l.map AR.pr))=some (i,xs)∧xs.map PR.ar=l.map fun r=>r.only.norm)∧plain (fText i (l.map AR.pr))=true:=by
  obtain ⟨g1,g2,g3⟩:=aPlain_g hi
  cases l with
  | nil =>
    simp only [List.map_nil,none_text]
    have:=read_text hi h []
    exact ⟨this,text_plain hi h []⟩
  | cons r l =>
    simp only [aFits,Bool.and_eq_true,List.all_eq_true] at h hm
    have hh:∀ q∈r::l,aFit1 q=true∧aMute1 q=true:=fun q hq=>⟨h.1 q hq,hm q hq⟩
    have hw0:allWs []:=by intro x hx; simp at hx
    have e:=flat_fPts (r::l) [] hh
    have hb:=lastTl_ws (r::l) [] hw0
    obtain ⟨a,xs,b,c⟩:=fPts_ok (r::l) [] hw0 hh
    have hT:fText i ((r::l).map AR.pr)=i++(flatP (fPts [] (r::l))++lastTl [] (r::l)):=by
      rw [← e]
      simp [fText]
    rw [hT]
    refine ⟨⟨xs,ad_textB hb (gW_no g1) (fun b hb=>adId_word g1 g2 hb) a b,c⟩,?_⟩
    exact plain_appB (gW_plain g1) (plain_appB (flatP_plain _ a) (allWs_plain hb))
end Wax


namespace Wax
open Go (IntKind)

def no33 (v:L8):Bool:=v.all fun c=>decide (c ≠ 33)
def aMuteI (r:AR):Bool := !(decide (r.kind=1) && decide (r.reason ≠ [])) && r.iprops.all fun p=>no33 p.2.2
theorem aMuteI_eq (r:AR):aMuteI r=aMute1 r:=by
  simp only [aMuteI,aMute1,AR.iprops]
  congr 1
  split
  · simp [List.all_map,Function.comp_def,no33]
  · simp [List.all_map,Function.comp_def,no33]
set_option maxHeartbeats 4000000 in
theorem mute_v {Γ:Gam} {Q:APost} {a b v:L8} {u x y z w t:AV} (hv:v.length < half) (hret:no33 v=false→Q .ret ⟨[(2,.bool false)],[]⟩)
    (hex:no33 v=true→Q (.exit 4) ⟨[(6,.ref 6 0),(7,.int .i64 v.length),(8,u),(9,x),(10,y),(24,z),(25,w),(26,t),(34,.bool false)],[(6,.cells [.str a,.str b,.str v])]⟩) :
    awp Γ (.loop [6,7,8,9,10,24,25,26] b_spec_AMute_1) Q ⟨[(6,.ref 6 0),(7,.int .i64 0),(8,u),(9,x),(10,y),(24,z),(25,w),(26,t)],[(6,.cells [.str a,.str b,.str v])]⟩:=by
  simp only [half] at hv
  refine awp_loop2 (σ:=L8 × L8) (fun q=>⟨[(6,.ref 6 0),(7,.int .i64 q.1.length),(8,u),(9,x),(10,y),(24,z),(25,w),(26,t)],[(6,.cells [.str a,.str b,.str v])]⟩)
    (fun q=>v=q.1++q.2∧no33 q.1=true) (fun q=>q.2.length) ([],v) (by simp) (by simp [no33]) ?_
  rintro ⟨pre,post⟩ ⟨e,hp⟩ LQ hLQ
  simp only at e hp
  cases post with
  | nil =>
    simp only [List.append_nil] at e
    subst e
    have hnl:¬ ((v.length:Int) < (v.length:Int)):=by omega
    simp -implicitDefEqProofs [b_spec_AMute_1]
    exact hex hp
  | cons c post =>
    have hlen:v.length=pre.length+(post.length+1):=by rw [e]; simp
    have hlt:(pre.length:Int) < (v.length:Int):=by omega
    have hlt':pre.length < v.length:=by omega
    have g:v[pre.length]? = some c:=by rw [e]; exact get_mid rfl
    have g':v[pre.length]'hlt'=c:=by rw [List.getElem?_eq_getElem hlt'] at g; exact Option.some.inj g
    have ew:IntKind.i64.wrap ((pre.length:Int)+1)=(pre.length:Int)+1:=wrap64 (by omega) (by omega)
    by_cases hc:c=33
    · have hx:(c.toNat:Int)=33:=by rw [hc]; rfl
      have hn:no33 v=false:=by rw [e,hc]; simp [no33]
      simp -implicitDefEqProofs [b_spec_AMute_1,hlt,hlt',g,g',hx]
      exact hret hn
    · have hx:¬ (c.toNat:Int)=33:=ne_int (c:=33) hc
      have go:=fun st=>hLQ (pre++[c],post) ⟨by rw [e]; simp,by rw [show no33 (pre++[c])=(no33 pre && no33 [c]) by simp [no33],hp]; simp [no33,hc]⟩ (by simp) st
      simp -implicitDefEqProofs [b_spec_AMute_1,hlt,hlt',g,g',hx,ew]
      exact go _ (by simp)
set_option maxHeartbeats 4000000 in
theorem mute_ps {Γ:Gam} {Q:APost} {ps:List (L8 × L8 × L8)} {u:AV} {nx ny:Int} (hu:∀ d,kill d u=u) (hl:ps.length < half) (hv:∀ p∈ps,p.2.2.length < half) (hret:(ps.all fun p=>no33 p.2.2)=false→Q .ret ⟨[(2,.bool false)],[]⟩)
    (hex:(ps.all fun p=>no33 p.2.2)=true→Q (.exit 2) ⟨[(8,u),(9,.int .i64 nx),(10,.int .i64 ny),(24,tripV ps),(25,.int .i64 ps.length),(26,.int .i64 ps.length),(27,.bool false)],[]⟩) :
    awp Γ (.loop [8,9,10,24,25,26] b_spec_AMute_3) Q ⟨[(8,u),(9,.int .i64 nx),(10,.int .i64 ny),(24,tripV ps),(25,.int .i64 ps.length),(26,.int .i64 0)],[]⟩:=by
  simp only [half] at hl
  refine awp_loop2 (σ:=List (L8 × L8 × L8) × List (L8 × L8 × L8)) (fun q=>⟨[(8,u),(9,.int .i64 nx),(10,.int .i64 ny),(24,tripV ps),(25,.int .i64 ps.length),(26,.int .i64 q.1.length)],[]⟩)
    (fun q=>ps=q.1++q.2∧(q.1.all fun p=>no33 p.2.2)=true) (fun q=>q.2.length) ([],ps) (by simp) (by simp) ?_
  rintro ⟨pre,post⟩ ⟨e,hp⟩ LQ hLQ
  simp only at e hp
  cases post with
  | nil =>
    simp only [List.append_nil] at e
    subst e
    have hnl:¬ ((ps.length:Int) < (ps.length:Int)):=by omega
    simp -implicitDefEqProofs [b_spec_AMute_3]
    exact hex hp
  | cons p post =>
    have hlen:ps.length=pre.length+(post.length+1):=by rw [e]; simp
    have hlt:(pre.length:Int) < (ps.length:Int):=by omega
    have hlt':pre.length < ps.length:=by omega
    have hT:tripV ps=.sl 3 (tr3 ps):=by rw [e]; cases pre <;> rfl
    have g:(tr3 ps)[pre.length]? = some (.agg [.str p.1,.str p.2.1,.str p.2.2]):=by rw [e]; simp [tr3]
    have g':(tr3 ps)[pre.length]'(by simp; omega)=.agg [.str p.1,.str p.2.1,.str p.2.2]:=by rw [List.getElem?_eq_getElem (by simp; omega)] at g; exact Option.some.inj g
    have ew:IntKind.i64.wrap ((pre.length:Int)+1)=(pre.length:Int)+1:=wrap64 (by omega) (by omega)
    have go:=fun h st=>hLQ (pre++[p],post) ⟨by rw [e]; simp,h⟩ (by simp) st
    rw [hT] at go ⊢
    simp -implicitDefEqProofs [b_spec_AMute_3,hlt,hlt',g,g',hu]
    refine mute_v (hv p (by rw [e]; simp)) (fun hn=>?_) (fun hn=>?_)
    · exact hret (by rw [e]; simp [hn])
    · simp -implicitDefEqProofs [t_spec_AMute_2,ew,hu]
      exact go (by simp only [List.all_append,hp]; simp [hn]) _ (by simp)
def AR.small (r:AR):Prop:=(0≤r.kind∧r.kind≤8∧(r.kind=0→(r.ps.getD []).length < half∧(∀ p∈r.ps.getD [],p.1.length < big)))∧r.iprops.length < half∧∀ p∈r.iprops,p.2.2.length < half
open Classical in
noncomputable def con_AMute:List AV→Option AV
  | [u]=>match slAR u with
    | some l=>if l.length < half∧∀ r∈l,r.small then some (.bool (l.all aMuteI)) else none
    | none=>none
  | _=>none
set_option maxHeartbeats 8000000 in
set_option maxRecDepth 100000 in
theorem ok_AMute (Γ:Gam) (h206:Γ.fn 206=con_AInfoOf):∀ args r,con_AMute args=some r→runs Γ c_spec_AMute args (fun v=>v=r):=by
  intro args r h
  simp only [con_AMute] at h
  split at h <;> (try simp at h; done)
  rename_i u
  split at h <;> (try simp at h; done)
  rename_i l hl
  split at h <;> (try simp at h; done)
  rename_i hc
  obtain ⟨h1,h2⟩:=hc
  simp only [Option.some.injEq] at h
  subst h
  have uk:=sar_kill hl
  have us:=sar_snapW hl
  have ua:=sar_alen hl
  simp only [half] at h1
  simp -implicitDefEqProofs [-alen,c_spec_AMute,ua]
  refine awp_loop2 (σ:=List AR × List AR) (fun q=>⟨[(8,u),(9,.int .i64 l.length),(10,.int .i64 q.1.length)],[]⟩)
    (fun q=>l=q.1++q.2∧q.1.all aMuteI=true) (fun q=>q.2.length) ([],l) (by simp) (by simp) ?_
  rintro ⟨pre,post⟩ ⟨e1,hp⟩ LQ hLQ
  simp only at e1 hp
  cases post with
  | nil =>
    simp only [List.append_nil] at e1
    subst e1
    have hnl:¬ ((l.length:Int) < (l.length:Int)):=by omega
    simp -implicitDefEqProofs [b_spec_AMute_5,t_spec_AMute_6,hp]
  | cons x post =>
    have hu:=sar_ne hl (by rw [e1]; simp)
    have hlen:l.length=pre.length+(post.length+1):=by rw [e1]; simp
    have hlt:(pre.length:Int) < (l.length:Int):=by omega
    have hlt':pre.length < l.length:=by omega
    have g:(arA l)[pre.length]? = some (.agg x.cells):=by rw [e1,arA_app]; exact get_mid (by simp)
    rw [List.getElem?_eq_getElem (by simp; omega)] at g
    have g0:=Option.some.inj g
    have ew:IntKind.i64.wrap ((pre.length:Int)+1)=(pre.length:Int)+1:=wrap64 (by omega) (by omega)
    have hx:=h2 x (by rw [e1]; simp)
    have kx:con_AInfoOf [.agg x.cells]=some (infoV x):=by simp only [con_AInfoOf,asAR_cells]; exact if_pos hx.1
    have cu:=slP_cells x.ps
    simp only [cells] at cu
    have go:=fun h st=>hLQ (pre++[x],post) ⟨by rw [e1]; simp,h⟩ (by simp) st
    have hsl:∀ d,kill d (AV.sl 16 (arA l))=AV.sl 16 (arA l):=fun d=>by rw [← hu]; exact uk d
    have ri:hasRef (infoV x)=false:=by simp [infoV,hasRef,hasRefL]
    have al:∀ hp,alen hp 1 (tripV x.iprops)=some x.iprops.length:=fun hp=>by cases x.iprops <;> simp [tripV,alen]
    rw [hu] at go ⊢
    simp only [AR.cells] at g0 kx
    by_cases hb:x.kind=1∧x.reason ≠ []
    · have hn:aMuteI x=false:=by simp [aMuteI,hb.1,hb.2]
      have hn2:l.all aMuteI=false:=by rw [e1]; simp [hn]
      simp -implicitDefEqProofs [-alen,b_spec_AMute_5,hlt,hlt',g0,cu,hb.1,hb.2,hn2]
    · have hm:aMuteI x=x.iprops.all fun p=>no33 p.2.2:=by
        have:(decide (x.kind=1) && decide (x.reason ≠ []))=false:=by simpa using hb
        simp only [aMuteI,this,Bool.not_false,Bool.true_and]
      have fin:awp Γ (.loop [8,9,10,24,25,26] b_spec_AMute_3) (blockQ 2 (blockQ 1 (thenQ (awp Γ t_spec_AMute_4 (thenQ LQ (blockQ 0 (thenQ (awp Γ t_spec_AMute_6 (finQ [.t 2] fun v=>v=.bool (l.all aMuteI))) (finQ [.t 2] fun v=>v=.bool (l.all aMuteI)))))) (thenQ LQ (blockQ 0 (thenQ (awp Γ t_spec_AMute_6 (finQ [.t 2] fun v=>v=.bool (l.all aMuteI))) (finQ [.t 2] fun v=>v=.bool (l.all aMuteI)))))))) ⟨[(8,.sl 16 (arA l)),(9,.int .i64 l.length),(10,.int .i64 pre.length),(24,tripV x.iprops),(25,.int .i64 x.iprops.length),(26,.int .i64 0)],[]⟩:=by
        refine mute_ps hsl hx.2.1 hx.2.2 (fun hn=>?_) (fun hn=>?_)
        · have hn2:l.all aMuteI=false:=by rw [e1]; simp [hm,hn]
          simp -implicitDefEqProofs [hn2]
        · simp -implicitDefEqProofs [t_spec_AMute_4,ew,hsl]
          exact go (by simp only [List.all_append,hp,List.all_cons,List.all_nil,hm,hn]; rfl) _ (by simp)
      by_cases hk:x.kind=1
      · have hr:x.reason=[]:=by simpa [hk] using hb
        rw [hk,hr] at kx
        simp -implicitDefEqProofs [-alen,b_spec_AMute_5,hlt,hlt',g0,cu,hk,hr,hsl,acall,h206,kx,ri,infoV,al]
        exact fin
      · simp -implicitDefEqProofs [-alen,b_spec_AMute_5,hlt,hlt',g0,cu,hk,acall,h206,kx,ri,hsl,infoV,al]
        exact fin
end Wax


