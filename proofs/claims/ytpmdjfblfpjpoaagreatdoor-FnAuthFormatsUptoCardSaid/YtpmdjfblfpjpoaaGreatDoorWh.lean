/- The machine by which the functions are read, and what is proved of them (part 8): no premise. -/
import Derived.Laws.OwnMore
import Derived.Sort.Grow
import Derived.Sort.EncStr
import Derived.WideShapes
import Derived.SliceStrings
import Derived.OpenShut
import Derived.Lib.LaidTab
import Derived.Deep.SlicePairs
import Derived.ChangeArms
import Derived.Lib.SmallJoins
import Derived.Maps.Own
import Derived.Sort.KeysCollected
import Derived.Test.YtpmdjfblfpjpoaaGreatDoorWg
set_option linter.all false
namespace Wax
open Go (IntKind)

def con_zzFits4:List AV→Option AV
  | [.agg [.str a,.str b]]=>some (.bool (fits14 a b))
  | _=>none
theorem ok_zzFits4 (Γ:Gam):∀ args r,con_zzFits4 args=some r→runs Γ c_laws_zzFits4 args (fun v=>v=r):=by
  intro args r h
  simp only [con_zzFits4] at h
  split at h <;> simp at h
  rename_i a b
  subst h
  by_cases h1:(2147483647:Int) < (a.length:Int)
  · have e:¬ a.length≤2147483647:=by omega
    simp -implicitDefEqProofs [c_laws_zzFits4,h1,fits14,e]
  · have e:a.length≤2147483647:=by omega
    by_cases h2:(2147483647:Int) < (b.length:Int)
    · have e2:¬ b.length≤2147483647:=by omega
      simp -implicitDefEqProofs [c_laws_zzFits4,h1,h2,fits14,e,e2]
    · have e2:b.length≤2147483647:=by omega
      simp -implicitDefEqProofs [c_laws_zzFits4,h1,h2,fits14,e,e2]


def con_zzFits3:List AV→Option AV
  | [u]=>match slPairs u with
    | some l=>if l.length < 9223372036854775808 then some (.bool (fits13 l)) else none
    | none=>none
  | _=>none
theorem ok_zzFits3 (Γ:Gam) (h211:Γ.fn 211=con_zzFits4):∀ args r,con_zzFits3 args=some r→runs Γ c_laws_zzFits3 args (fun v=>v=r):=by
  intro args r h
  simp only [con_zzFits3] at h
  split at h <;> (try simp at h; done)
  rename_i u
  split at h <;> (try simp at h; done)
  rename_i l hl
  obtain ⟨h1,rfl⟩:=ite_some h
  clear h
  by_cases hb:(2147483647:Int) < (l.length:Int)
  · have e:¬ l.length≤2147483647:=by omega
    simp -implicitDefEqProofs [-alen,c_laws_zzFits3,slp_alen hl,hb,fits13,e]
  · have e:l.length≤2147483647:=by omega
    simp -implicitDefEqProofs [-alen,c_laws_zzFits3,slp_alen hl,hb]
    refine awp_loop2 (σ:=List KVp × List KVp) (fun p=>⟨[(8,u),(9,.int .i64 l.length),(10,.int .i64 p.1.length)],[]⟩)
      (fun p=>l=p.1++p.2∧(p.1.all fun t=>fits14 t.1 t.2)=true) (fun p=>p.2.length) ([],l) (by simp) (by simp) ?_
    rintro ⟨pre,post⟩ ⟨e1,e2⟩ LQ hLQ
    simp only at e1 e2
    cases post with
    | nil =>
      simp only [List.append_nil] at e1
      subst e1
      have:fits13 l=true:=by simp only [fits13,e2,e]; rfl
      simp -implicitDefEqProofs [b_laws_zzFits3_1,t_laws_zzFits3_2,this]
    | cons x post =>
      obtain ⟨a,b⟩:=x
      have hu:=slp_ne hl (by rw [e1]; simp)
      subst hu
      have hlen:l.length=pre.length+(post.length+1):=by rw [e1]; simp
      have hlt:(pre.length:Int) < (l.length:Int):=by omega
      have ew:IntKind.i64.wrap ((pre.length:Int)+1)=(pre.length:Int)+1:=wrap64 (by omega) (by omega)
      have g:l[pre.length]? = some (a,b):=by rw [e1]; exact get_mid rfl
      cases hf:fits14 a b with
      | true =>
        simp -implicitDefEqProofs [b_laws_zzFits3_1,hlt,g,acall,h211,con_zzFits4,hf,ew]
        exact hLQ (pre++[(a,b)],post) ⟨by rw [e1]; simp,by simp only [List.all_append,e2,List.all_cons,hf]; rfl⟩ (by simp) _ (by simp)
      | false =>
        have:fits13 l=false:=by
          have:(l.all fun t=>fits14 t.1 t.2)=false:=by rw [e1]; simp [hf]
          simp only [fits13,this,Bool.and_false]
        simp -implicitDefEqProofs [b_laws_zzFits3_1,hlt,g,acall,h211,con_zzFits4,hf,this]


def lenB (s:L8):Bool:=decide (s.length≤2147483647)
def fit2 (r:AR):Bool:=lenB r.method && (lenB r.value && (lenB r.reason && (lenB r.domain && (lenB r.ident && (lenB r.fr && (lenB r.sender && (lenB r.ip && (lenB r.helo && (lenB r.auth && (lenB r.hkey && (lenB r.hval && (lenB r.remote && fits13 (r.ps.getD [])))))))))))))
def con_zzFits2:List AV→Option AV
  | [.agg cs]=>match asAR cs with
    | some r=>if (r.ps.getD []).length < 9223372036854775808 then some (.bool (fit2 r)) else none
    | none=>none
  | _=>none
theorem lenB_f {s:L8} (h:(2147483647:Int) < (s.length:Int)):lenB s=false:=decide_eq_false (by omega)
theorem lenB_t {s:L8} (h:¬ (2147483647:Int) < (s.length:Int)):lenB s=true:=decide_eq_true (by omega)
set_option maxRecDepth 100000 in
set_option maxHeartbeats 4000000 in
theorem ok_zzFits2 (Γ:Gam) (h210:Γ.fn 210=con_zzFits3):∀ args r,con_zzFits2 args=some r→runs Γ c_laws_zzFits2 args (fun v=>v=r):=by
  intro args r h
  simp only [con_zzFits2] at h
  split at h <;> (try simp at h; done)
  rename_i cs
  split at h <;> (try simp at h; done)
  rename_i r hr
  obtain ⟨h1,rfl⟩:=ite_some h
  clear h
  rw [asAR_spec hr]
  obtain ⟨kind,method,value,reason,domain,ident,fr,sender,ip,helo,auth,hkey,hval,remote,oldest,ps⟩:=r
  simp only at h1
  have k3:con_zzFits3 [slP ps]=some (.bool (fits13 (ps.getD []))):=by
    simp only [con_zzFits3,slP_pairs]
    exact if_pos h1
  have cu:=slP_cells ps
  simp only [cells] at cu
  have ca:=slP_atom ps
  have cr:=slP_ref ps
  have ck:=slP_kill ps
  simp only [fit2,AR.cells]
  by_cases q0:(2147483647:Int) < (method.length:Int)
  · have e:=lenB_f q0
    simp -implicitDefEqProofs [c_laws_zzFits2,cu,ca,cr,ck,q0,e]
  have e0:=lenB_t q0
  simp only [e0,Bool.true_and]
  by_cases q1:(2147483647:Int) < (value.length:Int)
  · have e:=lenB_f q1
    simp -implicitDefEqProofs [c_laws_zzFits2,cu,ca,cr,ck,q0,q1,e]
  have e1:=lenB_t q1
  simp only [e1,Bool.true_and]
  by_cases q2:(2147483647:Int) < (reason.length:Int)
  · have e:=lenB_f q2
    simp -implicitDefEqProofs [c_laws_zzFits2,cu,ca,cr,ck,q0,q1,q2,e]
  have e2:=lenB_t q2
  simp only [e2,Bool.true_and]
  by_cases q3:(2147483647:Int) < (domain.length:Int)
  · have e:=lenB_f q3
    simp -implicitDefEqProofs [c_laws_zzFits2,cu,ca,cr,ck,q0,q1,q2,q3,e]
  have e3:=lenB_t q3
  simp only [e3,Bool.true_and]
  by_cases q4:(2147483647:Int) < (ident.length:Int)
  · have e:=lenB_f q4
    simp -implicitDefEqProofs [c_laws_zzFits2,cu,ca,cr,ck,q0,q1,q2,q3,q4,e]
  have e4:=lenB_t q4
  simp only [e4,Bool.true_and]
  by_cases q5:(2147483647:Int) < (fr.length:Int)
  · have e:=lenB_f q5
    simp -implicitDefEqProofs [c_laws_zzFits2,cu,ca,cr,ck,q0,q1,q2,q3,q4,q5,e]
  have e5:=lenB_t q5
  simp only [e5,Bool.true_and]
  by_cases q6:(2147483647:Int) < (sender.length:Int)
  · have e:=lenB_f q6
    simp -implicitDefEqProofs [c_laws_zzFits2,cu,ca,cr,ck,q0,q1,q2,q3,q4,q5,q6,e]
  have e6:=lenB_t q6
  simp only [e6,Bool.true_and]
  by_cases q7:(2147483647:Int) < (ip.length:Int)
  · have e:=lenB_f q7
    simp -implicitDefEqProofs [c_laws_zzFits2,cu,ca,cr,ck,q0,q1,q2,q3,q4,q5,q6,q7,e]
  have e7:=lenB_t q7
  simp only [e7,Bool.true_and]
  by_cases q8:(2147483647:Int) < (helo.length:Int)
  · have e:=lenB_f q8
    simp -implicitDefEqProofs [c_laws_zzFits2,cu,ca,cr,ck,q0,q1,q2,q3,q4,q5,q6,q7,q8,e]
  have e8:=lenB_t q8
  simp only [e8,Bool.true_and]
  by_cases q9:(2147483647:Int) < (auth.length:Int)
  · have e:=lenB_f q9
    simp -implicitDefEqProofs [c_laws_zzFits2,cu,ca,cr,ck,q0,q1,q2,q3,q4,q5,q6,q7,q8,q9,e]
  have e9:=lenB_t q9
  simp only [e9,Bool.true_and]
  by_cases q10:(2147483647:Int) < (hkey.length:Int)
  · have e:=lenB_f q10
    simp -implicitDefEqProofs [c_laws_zzFits2,cu,ca,cr,ck,q0,q1,q2,q3,q4,q5,q6,q7,q8,q9,q10,e]
  have e10:=lenB_t q10
  simp only [e10,Bool.true_and]
  by_cases q11:(2147483647:Int) < (hval.length:Int)
  · have e:=lenB_f q11
    simp -implicitDefEqProofs [c_laws_zzFits2,cu,ca,cr,ck,q0,q1,q2,q3,q4,q5,q6,q7,q8,q9,q10,q11,e]
  have e11:=lenB_t q11
  simp only [e11,Bool.true_and]
  by_cases q12:(2147483647:Int) < (remote.length:Int)
  · have e:=lenB_f q12
    simp -implicitDefEqProofs [c_laws_zzFits2,cu,ca,cr,ck,q0,q1,q2,q3,q4,q5,q6,q7,q8,q9,q10,q11,q12,e]
  have e12:=lenB_t q12
  simp only [e12,Bool.true_and]
  generalize fits13 (ps.getD [])=b at k3 ⊢
  cases b <;> simp -implicitDefEqProofs [c_laws_zzFits2,cu,ca,cr,ck,q0,q1,q2,q3,q4,q5,q6,q7,q8,q9,q10,q11,q12,acall,h210,k3]

def fit1 (l:List AR):Bool:=decide (l.length≤2147483647) && l.all fit2
def con_zzFits1:List AV→Option AV
  | [u]=>match slAR u with
    | some l=>if l.length < 9223372036854775808∧∀ r∈l,(r.ps.getD []).length < 9223372036854775808 then some (.bool (fit1 l)) else none
    | none=>none
  | _=>none
theorem ok_zzFits1 (Γ:Gam) (h209:Γ.fn 209=con_zzFits2):∀ args r,con_zzFits1 args=some r→runs Γ c_laws_zzFits1 args (fun v=>v=r):=by
  intro args r h
  simp only [con_zzFits1] at h
  split at h <;> (try simp at h; done)
  rename_i u
  split at h <;> (try simp at h; done)
  rename_i l hl
  obtain ⟨⟨h1,h2⟩,rfl⟩:=ite_some h
  clear h
  by_cases hb:(2147483647:Int) < (l.length:Int)
  · have e:¬ l.length≤2147483647:=by omega
    simp -implicitDefEqProofs [-alen,c_laws_zzFits1,sar_alen hl,hb,fit1,e]
  · have e:l.length≤2147483647:=by omega
    simp -implicitDefEqProofs [-alen,c_laws_zzFits1,sar_alen hl,hb]
    refine awp_loop2 (σ:=List AR × List AR) (fun p=>⟨[(8,u),(9,.int .i64 l.length),(10,.int .i64 p.1.length)],[]⟩)
      (fun p=>l=p.1++p.2∧p.1.all fit2=true) (fun p=>p.2.length) ([],l) (by simp) (by simp) ?_
    rintro ⟨pre,post⟩ ⟨e1,e2⟩ LQ hLQ
    simp only at e1 e2
    cases post with
    | nil =>
      simp only [List.append_nil] at e1
      subst e1
      have:fit1 l=true:=by simp only [fit1,e2,e]; rfl
      simp -implicitDefEqProofs [b_laws_zzFits1_1,t_laws_zzFits1_2,this]
    | cons x post =>
      have hu:=sar_ne hl (by rw [e1]; simp)
      subst hu
      have hlen:l.length=pre.length+(post.length+1):=by rw [e1]; simp
      have hlt:(pre.length:Int) < (l.length:Int):=by omega
      have ew:IntKind.i64.wrap ((pre.length:Int)+1)=(pre.length:Int)+1:=wrap64 (by omega) (by omega)
      have g:(arA l)[pre.length]? = some (.agg x.cells):=by rw [e1,arA_app]; exact get_mid (by simp)
      have k2:con_zzFits2 [.agg x.cells]=some (.bool (fit2 x)):=by
        simp only [con_zzFits2,asAR_cells]
        exact if_pos (h2 x (by rw [e1]; simp))
      have cu:=slP_cells x.ps
      simp only [cells] at cu
      simp only [AR.cells] at g k2
      cases hf:fit2 x with
      | true =>
        rw [hf] at k2
        simp -implicitDefEqProofs [b_laws_zzFits1_1,hlt,g,acall,h209,k2,ew,cu]
        exact hLQ (pre++[x],post) ⟨by rw [e1]; simp,by simp only [List.all_append,e2,List.all_cons,hf]; rfl⟩ (by simp) _ (by simp)
      | false =>
        rw [hf] at k2
        have:fit1 l=false:=by
          have:l.all fit2=false:=by rw [e1]; simp [hf]
          simp only [fit1,this,Bool.and_false]
        simp -implicitDefEqProofs [b_laws_zzFits1_1,hlt,g,acall,h209,k2,this,cu]

def con_only:List AV→Option AV
  | [u]=>match slAR u with
    | some l=>if l.length≤2147483647 then some (arV (l.map AR.only)) else none
    | none=>none
  | _=>none

theorem ok_only (Γ:Gam) (h208:Γ.fn 208=con_AOnly):∀ args r,con_only args=some r→runs Γ c_laws_only args (fun v=>v=r):=by
  intro args r h
  simp only [con_only] at h
  split at h <;> (try simp at h; done)
  rename_i u
  split at h <;> (try simp at h; done)
  rename_i l hl
  obtain ⟨h1,rfl⟩:=ite_some h
  clear h
  have uk:=sar_kill hl
  have us:=sar_snapW hl
  have ua:=sar_alen hl
  simp -implicitDefEqProofs [-alen,c_laws_only,ua]
  refine awp_loop2 (σ:=List AR × List AR) (fun q=>⟨[(3,grV 16 16 q.1.length),(6,u),(7,.int .i64 l.length),(8,.int .i64 q.1.length)],grH 16 q.1.length (arC (q.1.map AR.only))⟩)
    (fun q=>l=q.1++q.2) (fun q=>q.2.length) ([],l) (by simp) (by simp) ?_
  rintro ⟨pre,post⟩ e1 LQ hLQ
  simp only at e1
  cases post with
  | nil =>
    simp only [List.append_nil] at e1
    subst e1
    have hnl:¬ ((l.length:Int) < (l.length:Int)):=by omega
    cases l with
    | nil=>simp -implicitDefEqProofs [b_laws_only_1,t_laws_only_2,arV]
    | cons x l =>
      have hg:=group_arC (l:=(x::l).map AR.only)
      simp only [List.length_map,List.length_cons,List.map_cons,arC_cons] at hg
      simp -implicitDefEqProofs [b_laws_only_1,t_laws_only_2,arV,hg]
      omega
  | cons x post =>
    have hu:=sar_ne hl (by rw [e1]; simp)
    subst hu
    have hlen:l.length=pre.length+(post.length+1):=by rw [e1]; simp
    have hlt:(pre.length:Int) < (l.length:Int):=by omega
    have g:(arA l)[pre.length]? = some (.agg x.cells):=by rw [e1,arA_app]; exact get_mid (by simp)
    have ew:IntKind.i64.wrap ((pre.length:Int)+1)=(pre.length:Int)+1:=wrap64 (by omega) (by omega)
    have kx:con_AOnly [.agg x.cells]=some (.agg x.only.cells):=by simp only [con_AOnly,asAR_cells,Option.map]
    have cu:=slP_cells x.ps
    have cv:=slP_cells x.only.ps
    simp only [cells] at cu cv
    have hco:x.only.cells=[.int .i64 x.only.kind,.str x.only.method,.str x.only.value,.str x.only.reason,.str x.only.domain,.str x.only.ident,.str x.only.fr,.str x.only.sender,.str x.only.ip,.str x.only.helo,.str x.only.auth,.str x.only.hkey,.str x.only.hval,.str x.only.remote,.int .i64 x.only.oldest,slP x.only.ps]:=rfl
    have f:∀ st,norm [3,6,7,8] st=⟨[(3,.msl 16 16 0 (pre.length+1)),(6,.sl 16 (arA l)),(7,.int .i64 l.length),(8,.int .i64 ((pre.length:Int)+1))],[(16,.cells (arC (pre.map AR.only)++x.only.cells))]⟩→LQ st:=by
      intro st hst
      exact hLQ (pre++[x],post) (by rw [e1]; simp) (by simp) st (by rw [hst]; simp)
    rw [hco] at kx f
    simp only [AR.cells] at g kx
    cases pre with
    | nil =>
      simp only [List.nil_append] at e1
      have ew0:IntKind.i64.wrap 1=1:=rfl
      subst e1
      have hl0:(0:Int) < (post.length:Int)+1:=by omega
      have hx:x.cells=[.int .i64 x.kind,.str x.method,.str x.value,.str x.reason,.str x.domain,.str x.ident,.str x.fr,.str x.sender,.str x.ip,.str x.helo,.str x.auth,.str x.hkey,.str x.hval,.str x.remote,.int .i64 x.oldest,slP x.ps]:=rfl
      simp -implicitDefEqProofs [b_laws_only_1,hl0,hx,ew0,acall,h208,kx,cu,cv]
      exact f _ (by simp [hx])
    | cons y pre =>
      have tk:List.take ((pre.length+1) * 16) (y.only.cells++arC (pre.map AR.only))=y.only.cells++arC (pre.map AR.only):=List.take_of_length_le (by simp; omega)
      have hlt1:(pre.length:Int)+1 < (l.length:Int):=by simpa using hlt
      have ew1:IntKind.i64.wrap ((pre.length:Int)+1+1)=(pre.length:Int)+1+1:=wrap64 (by omega) (by omega)
      have et:((pre.length:Int)+1).toNat=pre.length+1:=by omega
      have hle:(0:Int)≤(pre.length:Int)+1:=by omega
      simp only [List.length_cons] at g
      simp -implicitDefEqProofs [b_laws_only_1,hlt1,g,ew1,et,hle,acall,h208,kx,cu,cv,tk]

      exact ⟨⟨by omega,by omega⟩,f _ (by simp)⟩
end Wax


namespace Wax
open Go (IntKind)

theorem keyw_con {s:L8} (h:s.length < mid):con_MailKeyword [.str s]=some (.bool (mKw s)):=if_pos (by simp only [mid] at h; simp only [big]; omega)
theorem plain_con {s:L8} (h:s.length < mid):con_APlain [.str s]=some (.bool (aPlain s)):=if_pos h
theorem halves_con {s:L8} {c:Int} (h:s.length < mid):con_MailHalves [.str s,.int .u8 c]=some (cutV c s):=if_pos (by simp only [mid] at h; simp only [big]; omega)
theorem tokn_con {s:L8} (h:s.length < mid):con_MailToken [.str s]=some (.bool (mTok s)):=if_pos (by simp only [mid] at h; simp only [big]; omega)

section
variable {Γ:Gam} (h99:Γ.fn 99=con_MailKeyword) (h102:Γ.fn 102=con_MailHalves) (h104:Γ.fn 104=con_MailToken) (h112:Γ.fn 112=con_MailLower) (h200:Γ.fn 200=con_AMethods) (h201:Γ.fn 201=con_AProps) (h203:Γ.fn 203=con_AValues) (h204:Γ.fn 204=con_APlain)
variable {u:AV} (uk:∀ d,kill d u=u) (us:∀ g,snapW g u=u) (n i:Int)

def g1Fit (prev:Option L8) (p:KVp):Bool:=(match cutAt 46 p.1 with | some q=>mKw q.1 && mKw q.2 | none=>false) && decide (lowS p.1=p.1) && aPlain p.2 && (match prev with | none=>true | some k=>decide (k < p.1))
theorem gFit_cons (prev:Option L8) (p:KVp) (r:List KVp):gFit prev (p::r)=(g1Fit prev p && gFit (some p.1) r):=rfl

include h99 h102 h112 h204 uk us in
set_option maxRecDepth 100000 in
set_option maxHeartbeats 4000000 in
theorem af_4 {Q:APost} (r:AR) (L:List KVp) (hL:r.ps.getD []=L) (hl:L.length < mid) (hz:∀ p∈L,p.1.length < mid∧p.2.length < mid) (ex:List (Nat × AV))
    (hT:gFit none L=true→∀ ex',Q (.exit 1) ⟨(0,u)::(4,.ptr r.cells)::(17,u)::(18,.int .i64 n)::(19,.int .i64 i)::ex',[]⟩)
    (hF:gFit none L=false→Q .ret ⟨[(2,.bool false)],[]⟩) :
    awp Γ f_spec_AFits_4 Q ⟨(0,u)::(4,.ptr r.cells)::(17,u)::(18,.int .i64 n)::(19,.int .i64 i)::ex,[]⟩:=by
  have ha:∀ hp,alen hp 1 (slP r.ps)=some L.length:=by
    intro hp; rw [← hL]; cases r.ps <;> simp [slP,alen]
  have cu:=slP_cells r.ps
  have at_:=slP_atom r.ps
  have kl:=slP_kill r.ps
  have sn:=slP_snapW r.ps
  simp only [cells] at cu
  simp only [mid] at hl
  have hc:r.cells=[.int .i64 r.kind,.str r.method,.str r.value,.str r.reason,.str r.domain,.str r.ident,.str r.fr,.str r.sender,.str r.ip,.str r.helo,.str r.auth,.str r.hkey,.str r.hval,.str r.remote,.int .i64 r.oldest,slP r.ps]:=rfl
  have hne:L ≠ []→slP r.ps=.sl 2 (pr2 L):=by
    intro h; cases hp:r.ps with
    | none=>rw [hp] at hL; exact absurd hL.symm h
    | some x=>rw [hp] at hL; simp at hL; subst hL; rfl
  simp only [hc] at hT ⊢
  generalize slP r.ps=S at *
  simp -implicitDefEqProofs [-alen,f_spec_AFits_4,cu,ha,at_,kl,sn,uk,us]
  refine awp_loop2 (σ:=List KVp × List KVp) (fun z=>⟨[(0,u),(4,.ptr [.int .i64 r.kind,.str r.method,.str r.value,.str r.reason,.str r.domain,.str r.ident,.str r.fr,.str r.sender,.str r.ip,.str r.helo,.str r.auth,.str r.hkey,.str r.hval,.str r.remote,.int .i64 r.oldest,S]),(17,u),(18,.int .i64 n),(19,.int .i64 i),(103,S),(104,.int .i64 L.length),(105,.int .i64 z.1.length)],[]⟩)
    (fun z=>L=z.1++z.2∧gFit none L=gFit (z.1.getLast?.map (·.1)) z.2) (fun z=>z.2.length) ([],L) (by simp) (by simp) ?_
  rintro ⟨pre,post⟩ ⟨e1,e2⟩ LQ hLQ
  simp only at e1 e2
  cases post with
  | nil =>
    simp only [List.append_nil] at e1
    subst e1
    have hnl:¬ ((L.length:Int) < (L.length:Int)):=by omega
    simp -implicitDefEqProofs [b_spec_AFits_3]
    exact hT e2 _
  | cons p post =>
    have hS:=hne (by rw [e1]; simp)
    subst hS
    have hlen:L.length=pre.length+(post.length+1):=by rw [e1]; simp
    have hlt:(pre.length:Int) < (L.length:Int):=by omega
    have ew:IntKind.i64.wrap ((pre.length:Int)+1)=(pre.length:Int)+1:=wrap64 (by omega) (by omega)
    have ew1:IntKind.i64.wrap ((pre.length:Int) - 1)=(pre.length:Int) - 1:=wrap64 (by omega) (by omega)
    have g:L[pre.length]? = some p:=by rw [e1]; exact get_mid rfl
    obtain ⟨k,v⟩:=p
    obtain ⟨z1,z2⟩:=hz (k,v) (by rw [e1]; simp)
    simp only at z1 z2
    have k1:=halves_con (c:=46) z1
    have k2:=low_con z1
    have k3:=plain_con z2
    rw [gFit_cons] at e2
    have bad:g1Fit (pre.getLast?.map (·.1)) (k,v)=false→Q .ret ⟨[(2,.bool false)],[]⟩:=fun h=>hF (by rw [e2,h]; rfl)
    have good:g1Fit (pre.getLast?.map (·.1)) (k,v)=true→LQ ⟨[(0,u),(4,.ptr [.int .i64 r.kind,.str r.method,.str r.value,.str r.reason,.str r.domain,.str r.ident,.str r.fr,.str r.sender,.str r.ip,.str r.helo,.str r.auth,.str r.hkey,.str r.hval,.str r.remote,.int .i64 r.oldest,.sl 2 (pr2 L)]),(17,u),(18,.int .i64 n),(19,.int .i64 i),(103,.sl 2 (pr2 L)),(104,.int .i64 L.length),(105,.int .i64 ((pre.length:Int)+1))],[]⟩:=fun h =>
      hLQ (pre++[(k,v)],post) ⟨by rw [e1]; simp,by rw [e2,h]; simp⟩ (by simp) _ (by simp)
    simp only [g1Fit] at bad good
    cases hc2:cutAt 46 k with
    | none =>
      simp only [cutV,hc2] at k1
      have b:=bad (by simp [hc2])
      simp -implicitDefEqProofs [b_spec_AFits_3,hlt,g,acall,h102,k1]
      exact b
    | some q =>
      simp only [cutV,hc2] at k1
      have hq:=cutAt_lens hc2
      have w1:=keyw_con (s:=q.1) (by omega)
      have w2:=keyw_con (s:=q.2) (by omega)
      simp only [hc2] at bad good
      by_cases b1:mKw q.1=true
      case neg =>
        have b:=bad (by simp [b1])
        simp only [Bool.not_eq_true] at b1
        rw [b1] at w1
        simp -implicitDefEqProofs [b_spec_AFits_3,hlt,g,acall,h102,k1,h99,w1]
        exact b
      rw [b1] at w1
      by_cases b2:mKw q.2=true
      case neg =>
        have b:=bad (by simp [b2])
        simp only [Bool.not_eq_true] at b2
        rw [b2] at w2
        simp -implicitDefEqProofs [b_spec_AFits_3,hlt,g,acall,h102,k1,h99,w1,w2]
        exact b
      rw [b2] at w2
      by_cases b3:lowS k=k
      case neg =>
        have b:=bad (by simp [b3])
        simp -implicitDefEqProofs [b_spec_AFits_3,hlt,g,acall,h102,k1,h99,w1,w2,h112,k2,b3]
        exact b
      rw [b3] at k2
      by_cases b4:aPlain v=true
      case neg =>
        have b:=bad (by simp [b4])
        simp only [Bool.not_eq_true] at b4
        rw [b4] at k3
        simp -implicitDefEqProofs [b_spec_AFits_3,hlt,g,acall,h102,k1,h99,w1,w2,h112,k2,h204,k3]
        exact b
      rw [b4] at k3
      simp only [b1,b2,b3,b4,Bool.and_self,decide_true,Bool.true_and] at bad good
      rcases List.eq_nil_or_concat pre with rfl | ⟨p',y,rfl⟩
      · have gd:=good (by simp)
        simp only [List.nil_append] at e1
        subst e1
        have hl0:(0:Int) < (post.length:Int)+1:=by omega
        have ew0:IntKind.i64.wrap 1=1:=rfl
        simp at gd
        simp -implicitDefEqProofs [b_spec_AFits_3,hl0,ew0,acall,h102,k1,h99,w1,w2,h112,k2,h204,k3,uk,us]
        exact gd
      · have hlt':(p'.length:Int)+1 < (L.length:Int):=by simpa using hlt
        have g':L[p'.length+1]? = some (k,v):=by simpa using g
        have gy:L[p'.length]? = some y:=by rw [e1]; simp
        have ew':IntKind.i64.wrap ((p'.length:Int)+1+1)=(p'.length:Int)+1+1:=wrap64 (by omega) (by omega)
        have ew2:IntKind.i64.wrap ((p'.length:Int))=(p'.length:Int):=wrap64 (by omega) (by omega)
        have et:((p'.length:Int)+1).toNat=p'.length+1:=by omega
        have hle:(0:Int)≤(p'.length:Int)+1:=by omega
        have hpos:(0:Int) < (p'.length:Int)+1:=by omega
        simp at bad good
        obtain ⟨yk,yv⟩:=y
        by_cases b5:yk < k
        · have gd:=good b5
          simp -implicitDefEqProofs [b_spec_AFits_3,hlt',g',et,hle,hpos,ew',ew2,gy,acall,h102,k1,h99,w1,w2,h112,k2,h204,k3,uk,us,lexLt_eq,b5]
          exact gd
        · have b:=bad (by simpa using b5)
          simp -implicitDefEqProofs [b_spec_AFits_3,hlt',g',et,hle,hpos,ew',ew2,gy,acall,h102,k1,h99,w1,w2,h112,k2,h204,k3,uk,us,lexLt_eq,b5]
          exact b

theorem ms_any (m:L8) (pre post:List L8):(pre++post).contains m=(pre.contains m || post.contains m):=by
  rw [Bool.eq_iff_iff]; simp
include h99 h102 h112 h200 h204 uk us in
set_option maxRecDepth 100000 in
set_option maxHeartbeats 4000000 in
theorem af_5 {Q:APost} (r:AR) (L:List KVp) (hL:r.ps.getD []=L) (hl:L.length < mid) (hz:∀ p∈L,p.1.length < mid∧p.2.length < mid) (ex:List (Nat × AV))
    (hT:(!aMeths.contains r.method && gFit none L)=true→∀ ex',Q (.exit 1) ⟨(0,u)::(4,.ptr r.cells)::(17,u)::(18,.int .i64 n)::(19,.int .i64 i)::ex',[]⟩)
    (hF:(!aMeths.contains r.method && gFit none L)=false→Q .ret ⟨[(2,.bool false)],[]⟩) :
    awp Γ f_spec_AFits_5 Q ⟨(0,u)::(4,.ptr r.cells)::(17,u)::(18,.int .i64 n)::(19,.int .i64 i)::ex,[]⟩:=by
  have cu:=slP_cells r.ps
  have at_:=slP_atom r.ps
  have kl:=slP_kill r.ps
  have sn:=slP_snapW r.ps
  simp only [cells] at cu
  have hc:r.cells=[.int .i64 r.kind,.str r.method,.str r.value,.str r.reason,.str r.domain,.str r.ident,.str r.fr,.str r.sender,.str r.ip,.str r.helo,.str r.auth,.str r.hkey,.str r.hval,.str r.remote,.int .i64 r.oldest,slP r.ps]:=rfl
  have k0:con_AMethods []=some (.sl 1 (strsA aMeths)):=rfl
  have hal:aMeths.length=8:=rfl
  have T:=fun (b:aMeths.contains r.method=false) ex=>af_4 (Q:=Q) h99 h102 h112 h204 uk us n i r L hL hl hz ex (fun h=>hT (by rw [b,h]; rfl)) (fun h=>hF (by rw [b,h]; rfl))
  generalize aMeths=M at *
  simp only [hc] at T ⊢
  simp -implicitDefEqProofs [f_spec_AFits_5,cu,at_,kl,sn,uk,us,acall,h200,k0]
  refine awp_loop2 (σ:=List L8 × List L8) (fun z=>⟨[(0,u),(4,.ptr [.int .i64 r.kind,.str r.method,.str r.value,.str r.reason,.str r.domain,.str r.ident,.str r.fr,.str r.sender,.str r.ip,.str r.helo,.str r.auth,.str r.hkey,.str r.hval,.str r.remote,.int .i64 r.oldest,slP r.ps]),(17,u),(18,.int .i64 n),(19,.int .i64 i),(91,.sl 1 (strsA M)),(92,.int .i64 M.length),(93,.int .i64 z.1.length)],[]⟩)
    (fun z=>M=z.1++z.2∧z.1.contains r.method=false) (fun z=>z.2.length) ([],M) (by simp) (by simp) ?_
  rintro ⟨pre,post⟩ ⟨e1,e2⟩ LQ hLQ
  simp only at e1 e2
  cases post with
  | nil =>
    simp only [List.append_nil] at e1
    subst e1
    have hnl:¬ ((M.length:Int) < (M.length:Int)):=by omega
    simp -implicitDefEqProofs [b_spec_AFits_2]
    exact T e2 _
  | cons m post =>
    have hlen:M.length=pre.length+(post.length+1):=by rw [e1]; simp
    have hlt:(pre.length:Int) < (M.length:Int):=by omega
    have ew:IntKind.i64.wrap ((pre.length:Int)+1)=(pre.length:Int)+1:=wrap64 (by omega) (by omega)
    have g:M[pre.length]? = some m:=by rw [e1]; exact get_mid rfl
    by_cases hm:m=r.method
    · have b:M.contains r.method=true:=by rw [e1,hm]; simp
      have f:=hF (by rw [b]; rfl)
      simp -implicitDefEqProofs [b_spec_AFits_2,hlt,g,hm]
      exact f
    · have b:(pre++[m]).contains r.method=false:=by rw [ms_any,e2]; simp [Ne.symm hm]
      simp -implicitDefEqProofs [b_spec_AFits_2,hlt,g,hm,ew,uk,us]
      exact hLQ (pre++[m],post) ⟨by rw [e1]; simp,b⟩ (by simp) _ (by simp)

theorem props_len (r:AR):r.props.length≤10:=by
  unfold AR.props
  repeat' split
  all_goals simp
theorem tripV_ne {L:List (L8 × L8 × L8)} (h:L ≠ []):tripV L=.sl 3 (tr3 L):=by cases L with
  | nil=>exact absurd rfl h
  | cons _ _=>rfl
def t1Fit (p:L8 × L8 × L8):Bool:=aPlain p.2.2 && mKw p.2.1 && decide (lowS p.2.1=p.2.1)
include h99 h112 h201 h204 uk us in
set_option maxRecDepth 100000 in
set_option maxHeartbeats 4000000 in
theorem af_7 {Q:APost} (r:AR) (hz:∀ p∈r.props,p.2.1.length < mid∧p.2.2.length < mid) (ex:List (Nat × AV))
    (hT:r.props.all t1Fit=true→∀ ex',Q .normal ⟨(0,u)::(17,u)::(18,.int .i64 n)::(19,.int .i64 i)::ex',[]⟩)
    (hF:r.props.all t1Fit=false→Q .ret ⟨[(2,.bool false)],[]⟩) :
    awp Γ f_spec_AFits_7 Q ⟨(0,u)::(4,.ptr r.cells)::(17,u)::(18,.int .i64 n)::(19,.int .i64 i)::ex,[]⟩:=by
  have cu:=slP_cells r.ps
  have at_:=slP_atom r.ps
  have kl:=slP_kill r.ps
  have sn:=slP_snapW r.ps
  simp only [cells] at cu
  have hc:r.cells=[.int .i64 r.kind,.str r.method,.str r.value,.str r.reason,.str r.domain,.str r.ident,.str r.fr,.str r.sender,.str r.ip,.str r.helo,.str r.auth,.str r.hkey,.str r.hval,.str r.remote,.int .i64 r.oldest,slP r.ps]:=rfl
  have k0:con_AProps [.agg r.cells]=some (tripV r.props):=by simp only [con_AProps,asAR_cells,Option.map]
  have hq:r.props.length≤10:=props_len r
  generalize r.props=L at *
  have ha:∀ hp,alen hp 1 (tripV L)=some L.length:=by intro hp; cases L <;> simp [tripV,alen]
  have tc:=tripV_cells L
  have ta:=tripV_atom L
  have tk:=tripV_kill L
  have tr:=tripV_ref L
  simp only [cells] at tc
  have hne:L ≠ []→tripV L=.sl 3 (tr3 L):=fun h=>tripV_ne h
  simp only [hc] at k0 ⊢
  generalize tripV L=S at *
  simp -implicitDefEqProofs [-alen,f_spec_AFits_7,cu,at_,kl,sn,uk,us,acall,h201,k0,ha,tc,ta,tk,tr]
  refine awp_loop2 (σ:=List (L8 × L8 × L8) × List (L8 × L8 × L8)) (fun z=>⟨[(0,u),(17,u),(18,.int .i64 n),(19,.int .i64 i),(161,S),(162,.int .i64 L.length),(163,.int .i64 z.1.length)],[]⟩)
    (fun z=>L=z.1++z.2∧z.1.all t1Fit=true) (fun z=>z.2.length) ([],L) (by simp) (by simp) ?_
  rintro ⟨pre,post⟩ ⟨e1,e2⟩ LQ hLQ
  simp only at e1 e2
  cases post with
  | nil =>
    simp only [List.append_nil] at e1
    subst e1
    have hnl:¬ ((L.length:Int) < (L.length:Int)):=by omega
    simp -implicitDefEqProofs [b_spec_AFits_6]
    exact hT e2 _
  | cons p post =>
    have hS:=hne (by rw [e1]; simp)
    subst hS
    have hlen:L.length=pre.length+(post.length+1):=by rw [e1]; simp
    have hlt:(pre.length:Int) < (L.length:Int):=by omega
    have ew:IntKind.i64.wrap ((pre.length:Int)+1)=(pre.length:Int)+1:=wrap64 (by omega) (by omega)
    have g:L[pre.length]? = some p:=by rw [e1]; exact get_mid rfl
    have g2:(tr3 L)[pre.length]? = some (.agg [.str p.1,.str p.2.1,.str p.2.2]):=by simp [tr3,g]
    obtain ⟨z1,z2⟩:=hz p (by rw [e1]; simp)
    obtain ⟨a,b,c⟩:=p
    simp only at z1 z2 g2
    have k1:=plain_con z2
    have k2:=keyw_con z1
    have k3:=low_con z1
    have bad:t1Fit (a,b,c)=false→Q .ret ⟨[(2,.bool false)],[]⟩:=fun h=>hF (by rw [e1]; simp [h])
    have good:t1Fit (a,b,c)=true→LQ ⟨[(0,u),(17,u),(18,.int .i64 n),(19,.int .i64 i),(161,.sl 3 (tr3 L)),(162,.int .i64 L.length),(163,.int .i64 ((pre.length:Int)+1))],[]⟩:=fun h =>
      hLQ (pre++[(a,b,c)],post) ⟨by rw [e1]; simp,by rw [List.all_append,e2]; simp [h]⟩ (by simp) _ (by simp)
    simp only [t1Fit] at bad good
    by_cases b1:aPlain c=true
    case neg =>
      have f:=bad (by simp [b1])
      simp only [Bool.not_eq_true] at b1
      rw [b1] at k1
      simp -implicitDefEqProofs [b_spec_AFits_6,hlt,g2,uk,us,acall,h204,k1]
      exact f
    rw [b1] at k1
    by_cases b2:mKw b=true
    case neg =>
      have f:=bad (by simp [b2])
      simp only [Bool.not_eq_true] at b2
      rw [b2] at k2
      simp -implicitDefEqProofs [b_spec_AFits_6,hlt,g2,uk,us,acall,h204,k1,h99,k2]
      exact f
    rw [b2] at k2
    by_cases b3:lowS b=b
    case neg =>
      have f:=bad (by simp [b3])
      simp -implicitDefEqProofs [b_spec_AFits_6,hlt,g2,uk,us,acall,h204,k1,h99,k2,h112,k3,b3]
      exact f
    rw [b3] at k3
    have f:=good (by simp [b1,b2,b3])
    simp -implicitDefEqProofs [b_spec_AFits_6,hlt,g2,uk,us,acall,h204,k1,h99,k2,h112,k3,ew]
    exact f

def k1Fit (r:AR):Bool:=if r.kind=0 then mKw r.method && decide (lowS r.method=r.method) && decide (r.method ≠ sNone0) && decide (r.reason=[]) && decide (r.method.length≤30) && !aMeths.contains r.method && gFit none (r.ps.getD [])
   else r.props.all t1Fit
structure SzR (r:AR):Prop where
  m:r.method.length < mid
  rs:r.reason.length < mid
  l:(r.ps.getD []).length < mid
  z:∀ p∈r.ps.getD [],p.1.length < mid∧p.2.length < mid
  q:∀ p∈r.props,p.2.1.length < mid∧p.2.2.length < mid

include h99 h102 h112 h200 h201 h204 uk us in
set_option maxRecDepth 100000 in
set_option maxHeartbeats 4000000 in
theorem af_8 {Q:APost} (r:AR) (sz:SzR r) (ex:List (Nat × AV))
    (hT:k1Fit r=true→∀ ex',Q .normal ⟨(0,u)::(17,u)::(18,.int .i64 n)::(19,.int .i64 i)::ex',[]⟩)
    (hT2:k1Fit r=true→∀ ex',Q (.exit 1) ⟨(0,u)::(4,.ptr r.cells)::(17,u)::(18,.int .i64 n)::(19,.int .i64 i)::ex',[]⟩)
    (hF:k1Fit r=false→Q .ret ⟨[(2,.bool false)],[]⟩) :
    awp Γ f_spec_AFits_8 Q ⟨(0,u)::(4,.ptr r.cells)::(17,u)::(18,.int .i64 n)::(19,.int .i64 i)::ex,[]⟩:=by
  have cu:=slP_cells r.ps
  have at_:=slP_atom r.ps
  have kl:=slP_kill r.ps
  have sn:=slP_snapW r.ps
  simp only [cells] at cu
  have hc:r.cells=[.int .i64 r.kind,.str r.method,.str r.value,.str r.reason,.str r.domain,.str r.ident,.str r.fr,.str r.sender,.str r.ip,.str r.helo,.str r.auth,.str r.hkey,.str r.hval,.str r.remote,.int .i64 r.oldest,slP r.ps]:=rfl
  by_cases h0:r.kind=0
  · simp only [k1Fit,if_pos h0] at hT hT2 hF
    have k1:=keyw_con sz.m
    have k2:=low_con sz.m
    by_cases b1:mKw r.method=true
    case neg =>
      have f:=hF (by simp [b1])
      simp only [Bool.not_eq_true] at b1
      rw [b1] at k1
      simp only [hc]
      simp -implicitDefEqProofs [f_spec_AFits_8,h0,cu,at_,kl,sn,uk,us,acall,h99,k1]
      exact f
    rw [b1] at k1
    by_cases b2:lowS r.method=r.method
    case neg =>
      have f:=hF (by simp [b2])
      simp only [hc]
      simp -implicitDefEqProofs [f_spec_AFits_8,h0,cu,at_,kl,sn,uk,us,acall,h99,k1,h112,k2,b2]
      exact f
    rw [b2] at k2
    by_cases b3:r.method=sNone0
    · have f:=hF (by simp [b3])
      have b3':r.method=[110,111,110,101]:=b3
      rw [b3'] at k1 k2
      simp only [hc]
      simp -implicitDefEqProofs [f_spec_AFits_8,h0,cu,at_,kl,sn,uk,us,acall,h99,k1,h112,k2,b3']
      exact f
    have b3':¬ r.method=[110,111,110,101]:=b3
    by_cases b4:r.reason=[]
    case neg =>
      have f:=hF (by simp [b4])
      simp only [hc]
      simp -implicitDefEqProofs [f_spec_AFits_8,h0,cu,at_,kl,sn,uk,us,acall,h99,k1,h112,k2,b3',b4]
      exact f
    by_cases b5:r.method.length≤30
    case neg =>
      have f:=hF (by simp [b5])
      have b5':(30:Int) < (r.method.length:Int):=by omega
      simp only [hc]
      simp -implicitDefEqProofs [f_spec_AFits_8,h0,cu,at_,kl,sn,uk,us,acall,h99,k1,h112,k2,b3',b4,b5']
      exact f
    have b5':¬ (30:Int) < (r.method.length:Int):=by omega
    simp only [b1,b2,b3,b4,b5,decide_true,Bool.and_self,Bool.true_and,ne_eq,not_false_eq_true] at hT hT2 hF
    have T:=fun ex=>af_5 (Q:=thenQ (awp Γ f_spec_AFits_7 Q) Q) h99 h102 h112 h200 h204 uk us n i r _ rfl sz.l sz.z ex (fun h=>hT2 h) (fun h=>hF h)
    simp only [hc,h0,b4] at T
    simp only [hc]
    simp -implicitDefEqProofs [f_spec_AFits_8,h0,cu,at_,kl,sn,uk,us,acall,h99,k1,h112,k2,b3',b4,b5']
    exact T _
  · simp only [k1Fit,if_neg h0] at hT hF
    have T:=fun ex=>af_7 (Q:=Q) h99 h112 h201 h204 uk us n i r sz.q ex hT hF
    simp only [hc] at T ⊢
    simp -implicitDefEqProofs [f_spec_AFits_8,h0,cu,at_,kl,sn,uk,us]
    exact T _

theorem fit1_k (r:AR):aFit1 r=(aVals.contains r.value && (decide (0≤r.kind) && (decide (r.kind≤7) && ((decide (r.reason=[]) || mTok r.reason) && k1Fit r)))):=by
  have e:t1Fit=fun p=>aPlain p.2.2 && mKw p.2.1 && decide (lowS p.2.1=p.2.1):=rfl
  simp only [aFit1,k1Fit,e,Bool.and_assoc]

include h99 h102 h104 h112 h200 h201 h204 uk us in
set_option maxRecDepth 100000 in
set_option maxHeartbeats 4000000 in
theorem af_9 {Q:APost} (r:AR) (sz:SzR r) (ex:List (Nat × AV))
    (hT:aFit1 r=true→∀ ex',Q .normal ⟨(0,u)::(17,u)::(18,.int .i64 n)::(19,.int .i64 i)::ex',[]⟩)
    (hT2:aFit1 r=true→∀ ex',Q (.exit 1) ⟨(0,u)::(4,.ptr r.cells)::(17,u)::(18,.int .i64 n)::(19,.int .i64 i)::ex',[]⟩)
    (hF:aFit1 r=false→Q .ret ⟨[(2,.bool false)],[]⟩) :
    awp Γ f_spec_AFits_9 Q ⟨(0,u)::(4,.ptr r.cells)::(5,.bool (aVals.contains r.value))::(17,u)::(18,.int .i64 n)::(19,.int .i64 i)::ex,[]⟩:=by
  have cu:=slP_cells r.ps
  have at_:=slP_atom r.ps
  have kl:=slP_kill r.ps
  have sn:=slP_snapW r.ps
  simp only [cells] at cu
  have hc:r.cells=[.int .i64 r.kind,.str r.method,.str r.value,.str r.reason,.str r.domain,.str r.ident,.str r.fr,.str r.sender,.str r.ip,.str r.helo,.str r.auth,.str r.hkey,.str r.hval,.str r.remote,.int .i64 r.oldest,slP r.ps]:=rfl
  have T:=fun (h:aFit1 r=k1Fit r) ex=>af_8 (Q:=Q) h99 h102 h112 h200 h201 h204 uk us n i r sz ex (fun e=>hT (h.trans e)) (fun e=>hT2 (h.trans e)) (fun e=>hF (h.trans e))
  rw [fit1_k] at T hF
  clear hT hT2
  have kt:=tokn_con sz.rs
  cases b1:aVals.contains r.value with
  | false =>
    have f:=hF (by simp only [b1,Bool.false_and])
    simp only [hc]
    simp -implicitDefEqProofs [f_spec_AFits_9,cu,at_,kl,sn,uk,us]
    exact f
  | true =>
    by_cases b2:r.kind < 0
    · have f:=hF (by simp only [b1,show ¬ (0≤r.kind) by omega,decide_false,Bool.false_and,Bool.and_false])
      simp only [hc]
      simp -implicitDefEqProofs [f_spec_AFits_9,cu,at_,kl,sn,uk,us,b2]
      exact f
    by_cases b3:7 < r.kind
    · have f:=hF (by simp only [b1,show ¬ (r.kind≤7) by omega,decide_false,Bool.false_and,Bool.and_false])
      simp only [hc]
      simp -implicitDefEqProofs [f_spec_AFits_9,cu,at_,kl,sn,uk,us,b2,b3]
      exact f
    have c2:0≤r.kind:=by omega
    have c3:r.kind≤7:=by omega
    simp only [b1,c2,c3,decide_true,Bool.true_and] at T hF
    by_cases b4:r.reason=[]
    · have T':=T (by rw [b4]; simp)
      simp only [hc,b4] at T'
      simp only [hc]
      simp -implicitDefEqProofs [f_spec_AFits_9,cu,at_,kl,sn,uk,us,b2,b3,b4]
      exact T' _
    · cases b5:mTok r.reason with
      | false =>
        have f:=hF (by simp [b4,b5])
        rw [b5] at kt
        simp only [hc]
        simp -implicitDefEqProofs [f_spec_AFits_9,cu,at_,kl,sn,uk,us,b2,b3,b4,acall,h104,kt]
        exact f
      | true =>
        have T':=T (by simp [b5])
        rw [b5] at kt
        simp only [hc] at T' ⊢
        simp -implicitDefEqProofs [f_spec_AFits_9,cu,at_,kl,sn,uk,us,b2,b3,b4,acall,h104,kt]
        exact T' _
end

section
variable {Γ:Gam} {u:AV} (uk:∀ d,kill d u=u) (us:∀ g,snapW g u=u) (n i:Int)
include uk us in
set_option maxRecDepth 100000 in
set_option maxHeartbeats 4000000 in
theorem af_v {Q:APost} (r:AR) (V:List L8) (hV:V.length≤10)
    (hT:∀ ex',Q (.exit 2) ⟨(0,u)::(4,.ptr r.cells)::(5,.bool (V.contains r.value))::(17,u)::(18,.int .i64 n)::(19,.int .i64 i)::ex',[]⟩) :
    awp Γ (.loop [0,4,5,17,18,19,23,24,25] b_spec_AFits_1) Q ⟨[(0,u),(4,.ptr r.cells),(5,.bool false),(17,u),(18,.int .i64 n),(19,.int .i64 i),(23,.sl 1 (strsA V)),(24,.int .i64 V.length),(25,.int .i64 0)],[]⟩:=by
  have cu:=slP_cells r.ps
  have at_:=slP_atom r.ps
  have kl:=slP_kill r.ps
  have sn:=slP_snapW r.ps
  simp only [cells] at cu
  have hc:r.cells=[.int .i64 r.kind,.str r.method,.str r.value,.str r.reason,.str r.domain,.str r.ident,.str r.fr,.str r.sender,.str r.ip,.str r.helo,.str r.auth,.str r.hkey,.str r.hval,.str r.remote,.int .i64 r.oldest,slP r.ps]:=rfl
  simp only [hc] at hT ⊢
  refine awp_loop2 (σ:=List L8 × List L8) (fun z=>⟨[(0,u),(4,.ptr [.int .i64 r.kind,.str r.method,.str r.value,.str r.reason,.str r.domain,.str r.ident,.str r.fr,.str r.sender,.str r.ip,.str r.helo,.str r.auth,.str r.hkey,.str r.hval,.str r.remote,.int .i64 r.oldest,slP r.ps]),(5,.bool (z.1.contains r.value)),(17,u),(18,.int .i64 n),(19,.int .i64 i),(23,.sl 1 (strsA V)),(24,.int .i64 V.length),(25,.int .i64 z.1.length)],[]⟩)
    (fun z=>V=z.1++z.2) (fun z=>z.2.length) ([],V) (by simp) (by simp) ?_
  rintro ⟨pre,post⟩ e1 LQ hLQ
  simp only at e1
  cases post with
  | nil =>
    simp only [List.append_nil] at e1
    subst e1
    have hnl:¬ ((V.length:Int) < (V.length:Int)):=by omega
    simp -implicitDefEqProofs [b_spec_AFits_1]
    simpa using hT _
  | cons m post =>
    have hlen:V.length=pre.length+(post.length+1):=by rw [e1]; simp
    have hlt:(pre.length:Int) < (V.length:Int):=by omega
    have ew:IntKind.i64.wrap ((pre.length:Int)+1)=(pre.length:Int)+1:=wrap64 (by omega) (by omega)
    have g:V[pre.length]? = some m:=by rw [e1]; exact get_mid rfl
    have f:LQ ⟨[(0,u),(4,.ptr [.int .i64 r.kind,.str r.method,.str r.value,.str r.reason,.str r.domain,.str r.ident,.str r.fr,.str r.sender,.str r.ip,.str r.helo,.str r.auth,.str r.hkey,.str r.hval,.str r.remote,.int .i64 r.oldest,slP r.ps]),(5,.bool ((pre++[m]).contains r.value)),(17,u),(18,.int .i64 n),(19,.int .i64 i),(23,.sl 1 (strsA V)),(24,.int .i64 V.length),(25,.int .i64 ((pre.length:Int)+1))],[]⟩ :=
      hLQ (pre++[m],post) (by rw [e1]; simp) (by simp) _ (by simp)
    rw [ms_any] at f
    cases hb:pre.contains r.value with
    | true =>
      rw [hb] at f
      simp -implicitDefEqProofs [b_spec_AFits_1,hlt,g,ew,uk,us,cu,at_,kl,sn]
      simpa using f
    | false =>
      rw [hb] at f
      have e:[m].contains r.value=decide (m=r.value):=by rw [Bool.eq_iff_iff]; simp [eq_comm]
      rw [e] at f
      simp -implicitDefEqProofs [b_spec_AFits_1,hlt,g,ew,uk,us,cu,at_,kl,sn]
      simpa using f
theorem sz_fit2 {r:AR} (h:fit2 r=true):SzR r:=by
  simp only [fit2,lenB,fits13,fits14,Bool.and_eq_true,decide_eq_true_eq,List.all_eq_true] at h
  obtain ⟨h1,h2,h3,h4,h5,h6,h7,h8,h9,h10,h11,h12,h13,h14,h15⟩:=h
  refine ⟨by simp only [mid]; omega,by simp only [mid]; omega,by simp only [mid]; omega,fun p hp=>by have:=h15 p hp; simp only [mid]; omega,?_⟩
  have M:(2147483647:Nat) < mid:=by simp only [mid]; omega
  intro p hp
  unfold AR.props at hp
  have c5:∀ s:L8,s.length≤10→s.length < mid:=fun s h=>by simp only [mid]; omega
  repeat' split at hp
  all_goals simp at hp
  all_goals try rcases hp with rfl | rfl | rfl
  all_goals try rcases hp with rfl | rfl
  all_goals try subst hp
  all_goals (refine ⟨?_,?_⟩ <;> first | (simp only [mid]; omega) | (simp [nAuth,nD,nI,nFrom,nSender,nIprev,nMail,nHelo,mid]))
end

def con_AFits:List AV→Option AV
  | [u]=>match slAR u with
    | some l=>if l.length < half∧l.all fit2=true then some (.bool (aFits l)) else none
    | none=>none
  | _=>none
set_option maxRecDepth 100000 in
set_option maxHeartbeats 4000000 in
theorem ok_AFits (Γ:Gam) (h99:Γ.fn 99=con_MailKeyword) (h102:Γ.fn 102=con_MailHalves) (h104:Γ.fn 104=con_MailToken) (h112:Γ.fn 112=con_MailLower) (h200:Γ.fn 200=con_AMethods) (h201:Γ.fn 201=con_AProps) (h203:Γ.fn 203=con_AValues) (h204:Γ.fn 204=con_APlain) :
    ∀ args r,con_AFits args=some r→runs Γ c_spec_AFits args (fun v=>v=r):=by
  intro args r h
  simp only [con_AFits] at h
  split at h <;> (try simp at h; done)
  rename_i u
  split at h <;> (try simp at h; done)
  rename_i l hl
  obtain ⟨⟨h1,h2⟩,rfl⟩:=ite_some h
  clear h
  have uk:=sar_kill hl
  have us:=sar_snapW hl
  have ua:=sar_alen hl
  simp only [half] at h1
  rw [List.all_eq_true] at h2
  simp -implicitDefEqProofs [-alen,c_spec_AFits,ua]
  refine awp_loop2 (σ:=List AR × List AR) (fun z=>⟨[(0,u),(17,u),(18,.int .i64 l.length),(19,.int .i64 z.1.length)],[]⟩)
    (fun z=>l=z.1++z.2∧z.1.all aFit1=true) (fun z=>z.2.length) ([],l) (by simp) (by simp) ?_
  rintro ⟨pre,post⟩ ⟨e1,e2⟩ LQ hLQ
  simp only at e1 e2
  cases post with
  | nil =>
    simp only [List.append_nil] at e1
    subst e1
    have hnl:¬ ((l.length:Int) < (l.length:Int)):=by omega
    have e:aFits l=decide ((l.length:Int)≤10):=by
      simp only [aFits,e2,Bool.true_and]
      exact decide_eq_decide.2 (by omega)
    simp -implicitDefEqProofs [-alen,b_spec_AFits_11,t_spec_AFits_12,ua,e]
  | cons x post =>
    have hu:=sar_ne hl (by rw [e1]; simp)
    subst hu
    have hlen:l.length=pre.length+(post.length+1):=by rw [e1]; simp
    have hlt:(pre.length:Int) < (l.length:Int):=by omega
    have ew:IntKind.i64.wrap ((pre.length:Int)+1)=(pre.length:Int)+1:=wrap64 (by omega) (by omega)
    have g:(arA l)[pre.length]? = some (.agg x.cells):=by rw [e1,arA_app]; exact get_mid (by simp)
    have sz:=sz_fit2 (h2 x (by rw [e1]; simp))
    have cu:=slP_cells x.ps
    simp only [cells] at cu
    have k203:con_AValues []=some (.sl 1 (strsA aVals)):=rfl
    have bad:aFit1 x=false→aFits l=false:=fun h=>by
      have:l.all aFit1=false:=by rw [e1]; simp [h]
      simp only [aFits,this,Bool.false_and]
    have good:aFit1 x=true→LQ ⟨[(0,.sl 16 (arA l)),(17,.sl 16 (arA l)),(18,.int .i64 l.length),(19,.int .i64 ((pre.length:Int)+1))],[]⟩:=fun h =>
      hLQ (pre++[x],post) ⟨by rw [e1]; simp,by rw [List.all_append,e2]; simp [h]⟩ (by simp) _ (by simp)
    have hc:x.cells=[.int .i64 x.kind,.str x.method,.str x.value,.str x.reason,.str x.domain,.str x.ident,.str x.fr,.str x.sender,.str x.ip,.str x.helo,.str x.auth,.str x.hkey,.str x.hval,.str x.remote,.int .i64 x.oldest,slP x.ps]:=rfl
    have T:=fun Q a b c ex=>af_9 (Γ:=Γ) (Q:=Q) h99 h102 h104 h112 h200 h201 h204 uk us (l.length:Int) (pre.length:Int) x sz ex a b c
    have hal:aVals.length=9:=rfl
    have V:=fun Q hT=>af_v (Γ:=Γ) (Q:=Q) uk us (l.length:Int) (pre.length:Int) x aVals (by omega) hT
    rw [hal] at V
    simp only [hc] at g T V
    generalize hVV:aVals=V9 at *
    simp -implicitDefEqProofs [b_spec_AFits_11,hlt,g,cu,uk,us,acall,h203,k203,hal]
    refine V _ fun ex'=>?_
    refine T _ ?_ ?_ ?_ _
    · intro h ex''
      have gd:=good h
      simp -implicitDefEqProofs [t_spec_AFits_10,ew]
      exact gd
    · intro h ex''
      have gd:=good h
      simp -implicitDefEqProofs [t_spec_AFits_10,ew]
      exact gd
    · intro h
      have b:=bad h
      simp -implicitDefEqProofs [b]
end Wax


namespace Wax
open Go (IntKind)

theorem fit2_only {r:AR} (h:fit2 r=true):fit2 r.only=true:=by
  simp only [fit2,lenB,Bool.and_eq_true,decide_eq_true_eq] at h
  obtain ⟨h1,h2,h3,h4,h5,h6,h7,h8,h9,h10,h11,h12,h13,h14⟩:=h
  have hn:fits13 []=true:=rfl
  unfold AR.only
  repeat' split
  all_goals simp [fit2,lenB,ar0,h1,h2,h3,h4,h5,h6,h7,h8,h9,h10,h11,h12,h13,h14,hn]
theorem norm_ps (r:AR):r.norm.ps.getD []=r.ps.getD []:=by
  obtain ⟨a,b,c,d,e,f,g,h,i,j,k,l,m,n,o,ps⟩:=r
  cases ps with
  | none=>rfl
  | some p=>cases p <;> rfl
structure LawAR (l:List AR):Prop where
  len:l.length≤2147483647
  fit:(l.map AR.only).all fit2=true
theorem lawAR {l:List AR} (h:fit1 l=true):LawAR l:=by
  simp only [fit1,Bool.and_eq_true,decide_eq_true_eq,List.all_eq_true] at h
  refine ⟨h.1,?_⟩
  simp only [List.all_eq_true,List.mem_map]
  rintro _ ⟨r,hr,rfl⟩
  exact fit2_only (h.2 r hr)
theorem fit2_ps {r:AR} (h:fit2 r=true):(r.ps.getD []).length < half:=by
  simp only [fit2,lenB,fits13,Bool.and_eq_true,decide_eq_true_eq] at h
  simp only [half]; omega
theorem law_sz {l:List AR} (L:LawAR l) (hf:aFits (l.map AR.only)=true):((l.map AR.only).length < half∧∀ r∈l.map AR.only,(r.ps.getD []).length < half)∧(((l.map AR.only).map AR.norm).length < half∧∀ r∈(l.map AR.only).map AR.norm,(r.ps.getD []).length < half):=by
  have h1:=L.fit
  rw [List.all_eq_true] at h1
  have h2:(l.map AR.only).length≤10:=by simp only [aFits,Bool.and_eq_true,decide_eq_true_eq] at hf; exact hf.2
  have a:=fun r hr=>fit2_ps (h1 r hr)
  refine ⟨⟨by simp only [half]; omega,a⟩,⟨by rw [List.length_map]; simp only [half]; omega,?_⟩⟩
  intro r hr
  obtain ⟨s,hs,rfl⟩:=List.mem_map.1 hr
  rw [norm_ps]; exact a s hs

section
variable {Γ:Gam} {u f:AV} {l:List AR} {fm:L8}
theorem k_fit1 (hl:slAR u=some l) (h1:l.length < 9223372036854775808) (h2:∀ r∈l,(r.ps.getD []).length < 9223372036854775808):con_zzFits1 [u]=some (.bool (fit1 l)):=by
  simp only [con_zzFits1,hl]; exact if_pos ⟨h1,h2⟩
theorem k_only (hl:slAR u=some l) (L:LawAR l):con_only [u]=some (arV (l.map AR.only)):=by
  simp only [con_only,hl]; exact if_pos L.len
theorem k_fits (L:LawAR l):con_AFits [arV (l.map AR.only)]=some (.bool (aFits (l.map AR.only))):=by
  simp only [con_AFits,slAR_arV]
  exact if_pos ⟨by have:=L.len; simp only [List.length_map,half]; omega,L.fit⟩
end

end Wax


namespace Wax
open Go (IntKind)

def tspL:List Int:=[40,41,60,62,64,44,59,58,92,34,47,91,93,63,61]
def adrL:List Int:=[35,36,37,38,39,42,43,44,46,47,45,64,91,93,92,94,95,96,123,124,125,126]
def con_tspecial:List AV→Option AV
  | [.int .i32 c]=>some (.bool (tspL.contains c))
  | _=>none
set_option maxHeartbeats 4000000 in
set_option maxRecDepth 10000 in
theorem ok_tspecial (Γ:Gam):∀ args r,con_tspecial args=some r→runs Γ c_authres_tspecial args (fun v=>v=r):=by
  intro args r h
  simp only [con_tspecial] at h
  split at h <;> (try simp at h; done)
  rename_i c
  injection h with h; subst h
  simp -implicitDefEqProofs [c_authres_tspecial]
  simp +contextual [tspL]
def con_addressOk:List AV→Option AV
  | [.int .i32 c]=>some (.bool (adrL.contains c))
  | _=>none
set_option maxHeartbeats 4000000 in
set_option maxRecDepth 10000 in
theorem ok_addressOk (Γ:Gam):∀ args r,con_addressOk args=some r→runs Γ c_authres_addressOk args (fun v=>v=r):=by
  intro args r h
  simp only [con_addressOk] at h
  split at h <;> (try simp at h; done)
  rename_i c
  injection h with h; subst h
  simp -implicitDefEqProofs [c_authres_addressOk]
  simp +contextual [adrL]
def letN (c:Int):Bool:=decide ((97≤c∧c≤122)∨(65≤c∧c≤90)∨c=170∨c=181∨c=186∨(192≤c∧c≤255∧c ≠ 215∧c ≠ 247))
def con_zzIsLetter2:List AV→Option AV
  | [.int .i32 c]=>some (.bool (letN c))
  | _=>none
set_option maxHeartbeats 4000000 in
theorem ok_zzIsLetter2 (Γ:Gam):∀ args r,con_zzIsLetter2 args=some r→runs Γ c_authres_zzIsLetter args (fun v=>v=r):=by
  intro args r h
  simp only [con_zzIsLetter2] at h
  split at h <;> (try simp at h; done)
  rename_i c
  injection h with h; subst h
  simp -implicitDefEqProofs [c_authres_zzIsLetter]
  have hl:∀ b:Bool,(letN c=b)=(decide ((97≤c∧c≤122)∨(65≤c∧c≤90)∨c=170∨c=181∨c=186∨(192≤c∧c≤255∧c ≠ 215∧c ≠ 247))=b):=fun _=>rfl
  simp only [hl,decide_eq_true_eq,decide_eq_false_iff_not]
  omega
def digN (c:Int):Bool:=decide (48≤c∧c≤57)
def con_zzIsDigit2:List AV→Option AV
  | [.int .i32 c]=>some (.bool (digN c))
  | _=>none
theorem ok_zzIsDigit2 (Γ:Gam):∀ args r,con_zzIsDigit2 args=some r→runs Γ c_authres_zzIsDigit args (fun v=>v=r):=by
  intro args r h
  simp only [con_zzIsDigit2] at h
  split at h <;> (try simp at h; done)
  rename_i c
  injection h with h; subst h
  simp -implicitDefEqProofs [c_authres_zzIsDigit]
  refine ⟨fun h=>by simp [digN,h],fun h=>by simp [digN]; omega⟩
def qtB:L8→L8
  | []=>[]
  | c::r=>if c=34 then 92::34::qtB r else c::qtB r
theorem qtB_len:∀ s:L8,(qtB s).length≤2 * s.length
  | []=>by simp [qtB]
  | c::r=>by
    have:=qtB_len r
    simp only [qtB]
    split <;> simp <;> omega
theorem qtB_app:∀ (a b:L8),qtB (a++b)=qtB a++qtB b
  | [],b=>rfl
  | c::a,b=>by
    simp only [List.cons_append,qtB,qtB_app a b]
    split <;> simp
def con_zzQuotes:List AV→Option AV
  | [.str s]=>if s.length < mid then some (.str (qtB s)) else none
  | _=>none
set_option maxHeartbeats 4000000 in
theorem ok_zzQuotes (Γ:Gam):∀ args r,con_zzQuotes args=some r→runs Γ c_authres_zzQuotes args (fun v=>v=r):=by
  intro args r h
  simp only [con_zzQuotes] at h
  split at h <;> (try simp at h; done)
  rename_i s
  obtain ⟨hl,rfl⟩:=ite_some h
  clear h
  simp only [mid] at hl
  simp -implicitDefEqProofs [c_authres_zzQuotes]
  refine awp_loop2 (σ:=L8 × L8 × L8) (fun p=>⟨[(0,.str s),(3,grV 23 1 p.2.2.length),(4,.int .i64 p.1.length)],grH 23 p.2.2.length (bcA p.2.2)⟩) (fun p=>s=p.1++p.2.1∧p.2.2=qtB p.1) (fun p=>p.2.1.length) ([],s,[]) (by simp) (by simp [qtB]) ?_
  rintro ⟨pre,post,out⟩ ⟨e1,e2⟩ LQ hLQ
  simp only at e1 e2
  have hol:out.length≤2 * pre.length:=by rw [e2]; exact qtB_len pre
  cases post with
  | nil =>
    simp only [List.append_nil] at e1
    subst e1
    have hnl:¬ ((s.length:Int) < (s.length:Int)):=by omega
    cases out with
    | nil=>simp -implicitDefEqProofs [← e2]
    | cons y out =>
      simp -implicitDefEqProofs [← e2]
  | cons c post =>
    have hlen:s.length=pre.length+(post.length+1):=by rw [e1]; simp
    have hlt:(pre.length:Int) < (s.length:Int):=by omega
    have hlt':pre.length < s.length:=by omega
    have g:s[pre.length]? = some c:=by rw [e1]; exact get_mid rfl
    have g':s[pre.length]'hlt'=c:=by rw [List.getElem?_eq_getElem hlt'] at g; exact Option.some.inj g
    have ew:IntKind.i64.wrap ((pre.length:Int)+1)=(pre.length:Int)+1:=wrap64 (by omega) (by omega)
    have nx:qtB (pre++[c])=out++(if c=34 then [92,34] else [c]):=by
      rw [qtB_app,← e2]; simp only [qtB]
    by_cases hc:c=34
    · have hx:(c.toNat:Int)=34:=by rw [hc]; rfl
      rw [if_pos hc] at nx
      have go:=fun st=>hLQ (pre++[c],post,out++[92,34]) ⟨by simp [e1],nx.symm⟩ (by simp) st
      simp only at go
      cases out with
      | nil =>
        simp -implicitDefEqProofs [hlt,hlt',g,g',ew,hx]
        exact go _ (by simp)
      | cons y out =>
        simp only [List.length_cons] at hol
        have hk:List.take (out.length+1) (bcA out++[AV.int .u8 92])=bcA out++[AV.int .u8 92]:=List.take_of_length_le (by simp)
        simp -implicitDefEqProofs [hlt,hlt',g,g',ew,hx,hk]
        refine ⟨by omega,by omega,go _ (by simp)⟩
    · rw [if_neg hc] at nx
      have hn:¬ (c.toNat:Int)=34:=fun e=>hc (UInt8.toNat_inj.1 (by simp; omega))
      have go:=fun st=>hLQ (pre++[c],post,out++[c]) ⟨by simp [e1],nx.symm⟩ (by simp) st
      simp only at go
      cases out with
      | nil =>
        simp -implicitDefEqProofs [hlt,hlt',g,g',ew,hn]
        exact go _ (by simp)
      | cons y out =>
        simp only [List.length_cons] at hol
        simp -implicitDefEqProofs [hlt,hlt',g,g',ew,hn]
        refine ⟨by omega,go _ (by simp)⟩
end Wax


namespace Wax
open Go (IntKind)

def spB (c:UInt8):Bool:=decide ((c.toNat:Int)≤32) || tspL.contains (c.toNat:Int)
def adB (c:UInt8):Bool:=letN c.toNat || digN c.toNat || adrL.contains (c.toNat:Int)
def fmtV (s:L8):L8:=if s.any spB=true then 34::(qtB s++[34]) else s
def fmtP (s:L8):L8:=if s.all adB=true then s else fmtV s
theorem fmtV_len (s:L8):(fmtV s).length≤2 * s.length+2:=by
  unfold fmtV
  split
  · have:=qtB_len s
    simp; omega
  · omega
theorem fmtP_len (s:L8):(fmtP s).length≤2 * s.length+2:=by
  unfold fmtP
  split
  · omega
  · exact fmtV_len s
def con_formatValue:List AV→Option AV
  | [.str s]=>if s.length < mid∧ascii s=true then some (.str (fmtV s)) else none
  | _=>none
set_option maxHeartbeats 4000000 in
set_option maxRecDepth 100000 in
theorem ok_formatValue (Γ:Gam) (h243:Γ.fn 243=con_tspecial) (h244:Γ.fn 244=con_zzQuotes):∀ args r,con_formatValue args=some r→runs Γ c_authres_formatValue args (fun v=>v=r):=by
  intro args r h
  simp only [con_formatValue] at h
  split at h <;> (try simp at h; done)
  rename_i s
  obtain ⟨⟨hs,ha⟩,rfl⟩:=ite_some h
  clear h
  have kq:con_zzQuotes [.str s]=some (.str (qtB s)):=if_pos hs
  have hql:=qtB_len s
  simp only [mid] at hs
  simp -implicitDefEqProofs [c_authres_formatValue]
  refine awp_loop2 (σ:=L8 × L8) (fun p=>⟨[(0,.str s),(3,.bool (p.1.any spB)),(8,.ref 8 0)],[(8,.sit s p.1.length)]⟩)
    (fun p=>s=p.1++p.2) (fun p=>p.2.length) ([],s) (by simp) (by simp) ?_
  rintro ⟨pre,post⟩ hs1 LQ hLQ
  simp only at hs1
  cases post with
  | nil =>
    simp only [List.append_nil] at hs1
    subst hs1
    cases hc:s.any spB with
    | true =>
      simp -implicitDefEqProofs [b_authres_formatValue_1,t_authres_formatValue_2,hc,acall,h244,kq,fmtV]
      omega
    | false=>simp -implicitDefEqProofs [b_authres_formatValue_1,t_authres_formatValue_2,hc,fmtV]
  | cons x post =>
    subst hs1
    have hx:=(ascii_lt (by rw [ascii_app] at ha; simp only [Bool.and_eq_true] at ha; exact ha.2:ascii (x::post)=true)).1
    have go:=fun st=>hLQ (pre++[x],post) (by simp) (by simp) st
    have ea:(pre++[x]).any spB=(pre.any spB || spB x):=by simp
    simp only [ea] at go
    have kt:con_tspecial [.int .i32 (x.toNat:Int)]=some (.bool (tspL.contains (x.toNat:Int))):=rfl
    by_cases h32:(x.toNat:Int)≤32
    · have e:spB x=true:=by simp only [spB,h32,decide_true,Bool.true_or]
      simp only [e,Bool.or_true] at go
      simp -implicitDefEqProofs [b_authres_formatValue_1,decA hx,acall,h243,kt,h32]
      exact go _ (by simp)
    · have e:spB x=tspL.contains (x.toNat:Int):=by simp only [spB,h32,decide_false,Bool.false_or]
      rw [e] at go
      cases ht:tspL.contains (x.toNat:Int) with
      | true =>
        simp only [ht,Bool.or_true] at go kt
        simp -implicitDefEqProofs [b_authres_formatValue_1,decA hx,acall,h243,kt,h32]
        exact go _ (by simp)
      | false =>
        simp only [ht,Bool.or_false] at go kt
        simp -implicitDefEqProofs [b_authres_formatValue_1,decA hx,acall,h243,kt,h32]
        exact go _ (by simp)
def con_formatPvalue:List AV→Option AV
  | [.str s]=>if s.length < mid∧ascii s=true then some (.str (fmtP s)) else none
  | _=>none
set_option maxHeartbeats 4000000 in
set_option maxRecDepth 100000 in
theorem ok_formatPvalue (Γ:Gam) (h245:Γ.fn 245=con_addressOk) (h246:Γ.fn 246=con_zzIsLetter2) (h247:Γ.fn 247=con_zzIsDigit2) (h241:Γ.fn 241=con_formatValue):∀ args r,con_formatPvalue args=some r→runs Γ c_authres_formatPvalue args (fun v=>v=r):=by
  intro args r h
  simp only [con_formatPvalue] at h
  split at h <;> (try simp at h; done)
  rename_i s
  obtain ⟨⟨hs,ha⟩,rfl⟩:=ite_some h
  clear h
  have kq:con_formatValue [.str s]=some (.str (fmtV s)):=if_pos ⟨hs,ha⟩
  simp only [mid] at hs
  simp -implicitDefEqProofs [c_authres_formatPvalue]
  refine awp_loop2 (σ:=L8 × L8) (fun p=>⟨[(0,.str s),(3,.bool (p.1.all adB)),(8,.ref 8 0)],[(8,.sit s p.1.length)]⟩)
    (fun p=>s=p.1++p.2) (fun p=>p.2.length) ([],s) (by simp) (by simp) ?_
  rintro ⟨pre,post⟩ hs1 LQ hLQ
  simp only at hs1
  cases post with
  | nil =>
    simp only [List.append_nil] at hs1
    subst hs1
    cases hc:s.all adB with
    | true=>simp -implicitDefEqProofs [b_authres_formatPvalue_1,t_authres_formatPvalue_2,hc,fmtP]
    | false=>simp -implicitDefEqProofs [b_authres_formatPvalue_1,t_authres_formatPvalue_2,hc,acall,h241,kq,fmtP]
  | cons x post =>
    subst hs1
    have hx:=(ascii_lt (by rw [ascii_app] at ha; simp only [Bool.and_eq_true] at ha; exact ha.2:ascii (x::post)=true)).1
    have go:=fun st=>hLQ (pre++[x],post) (by simp) (by simp) st
    have ea:(pre++[x]).all adB=(pre.all adB && adB x):=by simp
    simp only [ea] at go
    have k1:con_addressOk [.int .i32 (x.toNat:Int)]=some (.bool (adrL.contains (x.toNat:Int))):=rfl
    have k2:con_zzIsLetter2 [.int .i32 (x.toNat:Int)]=some (.bool (letN (x.toNat:Int))):=rfl
    have k3:con_zzIsDigit2 [.int .i32 (x.toNat:Int)]=some (.bool (digN (x.toNat:Int))):=rfl
    cases h1:letN (x.toNat:Int) with
    | true =>
      have e:adB x=true:=by simp only [adB,h1,Bool.true_or]
      simp only [e,Bool.and_true] at go
      simp only [h1] at k2
      simp -implicitDefEqProofs [b_authres_formatPvalue_1,decA hx,acall,h245,k1,h246,k2]
      exact go _ (by simp)
    | false =>
      simp only [h1] at k2
      cases h2:digN (x.toNat:Int) with
      | true =>
        have e:adB x=true:=by simp only [adB,h1,h2,Bool.false_or,Bool.true_or]
        simp only [e,Bool.and_true] at go
        simp only [h2] at k3
        simp -implicitDefEqProofs [b_authres_formatPvalue_1,decA hx,acall,h245,k1,h246,k2,h247,k3]
        exact go _ (by simp)
      | false =>
        simp only [h2] at k3
        have e:adB x=adrL.contains (x.toNat:Int):=by simp only [adB,h1,h2,Bool.false_or]
        rw [e] at go
        cases h3:adrL.contains (x.toNat:Int) with
        | true =>
          simp only [h3,Bool.and_true] at go k1
          simp -implicitDefEqProofs [b_authres_formatPvalue_1,decA hx,acall,h245,k1,h246,k2,h247,k3]
          exact go _ (by simp)
        | false =>
          simp only [h3,Bool.and_false] at go k1
          simp -implicitDefEqProofs [b_authres_formatPvalue_1,decA hx,acall,h245,k1,h246,k2,h247,k3]
          exact go _ (by simp)
end Wax


namespace Wax
open Go Go.RowKit

theorem repSl_mk {T:Tab} {w:World} {F:Frz} {b:Nat} (hF:F b):∀ (l:List (List UInt8)) (o:Nat),(∀ (j:Nat) s,l[j]? = some s→w.cell? ⟨b,o+j,none⟩=some (.string ⟨s.toArray⟩))→RepSl T w F 1 b o (strsA l)
  | [],_,_=>trivial
  | x::r,o,h=>by
    simp only [strsA,List.map_cons,RepSl]
    refine ⟨trivial,⟨hF,_,by simpa using h 0 x rfl,by simp [Rep]⟩,?_⟩
    exact repSl_mk hF r (o+1) fun j s hj=>by
      rw [show o+1+j=o+(j+1) by omega]
      exact h (j+1) s (by simpa using hj)

theorem owned_strs {T:Tab} {w w':World} {F:Frz} {e9:TypeId} {v':Value} {l:List (List UInt8)} (ho:w'.ownsRow w.heap.size e9 1 v' l.length (l.map fun s=>Value.string ⟨s.toArray⟩)) (hn:v' ≠ .slice none 0 0) :
    Rep T w' (fun b=>F b∨(w.heap.size≤b∧b < w'.heap.size)) noRho (.sl 1 (strsA l)) v':=by
  have ho':=ho
  obtain ⟨_,hx⟩:=ho
  rcases hx with ⟨he,_⟩ | ⟨g,cap,cur,rfl,hg,hh,hcap,_,_,_⟩
  · exact absurd he hn
  · simp only [Rep]
    refine .inl ⟨g,0,cap,by simp,by simpa using hcap,?_⟩
    have hgl:g < w'.heap.size:=by
      rcases Nat.lt_or_ge g w'.heap.size with h | h
      · exact h
      · rw [Array.getElem?_eq_none h] at hh; simp at hh
    refine repSl_mk (.inr ⟨hg,hgl⟩) l 0 fun j s hj=>?_
    have:=ho'.cells (g:=g) rfl j (.string ⟨s.toArray⟩) (by rw [List.getElem?_map,hj]; rfl)
    have e:((⟨g,0,none⟩:Addr).add j)=⟨g,0+j,none⟩:=by
      cases j <;> simp [Addr.add]
    rw [e] at this
    exact this

end Wax


namespace Wax
open Go Go.RowKit Go.Proofs Go.Sort

def SortSays (P:Program) (f:FuncId):Prop :=
  (∀ (p:Option Addr) (cap:Nat) (w:World),Calls P f #[.slice p 0 cap] w fun e w'=>e=.returned (.tuple #[])∧w'=w) ∧
  ∀ (blk off cap:Nat) (ss:List (List UInt8)) (w:World),Holds encStr w blk off ss.toArray→blk < w.heap.size→ss.length < 4611686018427387904 →
    Calls P f #[.slice (some ⟨blk,off,none⟩) ss.length cap] w fun e w'=>e=.returned (.tuple #[])∧∃ n os,w'=grow (putRow encStr (Sort.ahead w n) blk off (ss.mergeSort fun x y=>decide (x≤y)).toArray) os

def con_Sort:List AV→List (Nat × AObj)→Option (AV × List (Nat × AObj))
  | [.msl 0 1 0 n],[(0,.cells cs)]=>match asStrs cs with
    | some l=>if l.length=n∧n < 4611686018427387904 then some (.tup [],[(0,.cells (strsA (sortB l)))]) else none
    | none=>none
  | _,_=>none

theorem repL_strs2 {T:Tab} {w:World} {F:Frz} {ρ:Rho}:∀ {l:List (List UInt8)} {vs:List Value},RepL T w F ρ (strsA l) vs→vs=l.map encStr
  | [],[],_=>rfl
  | s::l,v::vs,h=>by
    simp only [strsA,List.map_cons,RepL] at h
    obtain ⟨h1,h2⟩:=h
    simp only [Rep] at h1
    rw [List.map_cons,h1,← repL_strs2 (l:=l) h2]
  | [],_::_,h=>by simp [strsA,RepL] at h
  | _::_,[],h=>by simp [strsA,RepL] at h
theorem strs2_repL {T:Tab} {w:World} {F:Frz} {ρ:Rho}:∀ {l:List (List UInt8)},RepL T w F ρ (strsA l) (l.map encStr)
  | []=>by simp [strsA,RepL]
  | s::l=>by
    simp only [strsA,List.map_cons,RepL]
    exact ⟨by simp only [Rep],strs2_repL (l:=l)⟩

theorem ok_SortS {P:Program} {T:Tab} {f:FuncId} (H:SortSays P f):∀ args hp q,con_Sort args hp=some q→OkS P T f args hp q.1 q.2:=by
  intro args hp q h w F ρ vs hF hG hid hH hx
  obtain ⟨H0,H1⟩:=H
  simp only [con_Sort] at h
  split at h <;> (try simp at h; done)
  rename_i n cs
  split at h <;> (try simp at h; done)
  rename_i l hl
  rw [asStrs_spec hl] at hH
  split at h <;> (try simp at h; done)
  rename_i hc
  obtain ⟨rfl,hlen⟩:=hc
  simp only [Option.some.injEq] at h
  subst h
  match vs,hx with
  | [v],hx =>
  simp only [RepL,and_true] at hx
  simp only [Rep] at hx
  obtain ⟨b,o,x,cap,c,e,fz,hρ,rfl,hcap,hbk,hsh⟩:=hx
  obtain ⟨b',o',hρ',hb,hnF,pre,us,post,e',f',hb2,hpo,hr,hnf⟩:=hH.obj 0 _ rfl
  rw [hρ] at hρ'
  simp only [Option.some.injEq,Prod.mk.injEq] at hρ'
  obtain ⟨rfl,rfl⟩:=hρ'
  have hus:=repL_strs2 hr
  subst hus
  have hsame:BelX (fun b=>∃ id o,ρ id=some (b,o)) w.heap.size w w:=BelX.refl _ _ _
  cases hl0:l with
  | nil =>
    subst hl0
    refine (H0 _ _ w).mono ?_
    rintro r w' ⟨rfl,rfl⟩
    refine ⟨_,F,ρ,rfl,hsame,fun _ h=>h,fun _ h=>.inl h,hF,?_,fun _ p h=>.inr h,fun id b o h1 h2=>by rw [h2] at h1; simp at h1,?_⟩
    · have:sortB []=[]:=by simp [sortB]
      rw [this]
      exact hH
    · exact ⟨#[],rfl,by simp [RepL]⟩
  | cons y ys =>
    rw [← hl0]
    have hn:0 < l.length:=by rw [hl0]; simp
    have hx:x=o:=by
      rcases hsh with h | h
      · omega
      · omega
    subst hx
    have hsz:(sortB l).length=l.length:=by simp [sortB]
    have hpl:(pre++(l.map encStr++post)).length=x+l.length+post.length:=by simp [hpo]; omega
    have hold:Holds encStr w b x l.toArray:=by
      intro j hj
      simp only [List.size_toArray] at hj
      refine ⟨?_,hnf.1 (x+j) (by omega)⟩
      simp only [World.cell?,hb2,Option.isSome_none,Bool.false_eq_true,if_false,List.getElem?_toArray]
      rw [← hpo,List.getElem?_append_right (by omega),Nat.add_sub_cancel_left,List.getElem?_append_left (by simpa using hj),List.getElem?_map,List.getElem?_eq_getElem hj]
      simp [hj]
    refine (H1 b x cap l w hold hb hlen).mono ?_
    rintro r w' ⟨rfl,m,os,rfl⟩
    have hsa:(l.mergeSort fun x y=>decide (x≤y))=sortB l:=rfl
    rw [hsa]
    have hheap:∀ k,k < w.heap.size→(grow (putRow encStr (Sort.ahead w m) b x (sortB l).toArray) os).heap[k]? = if b=k then some (.cells (pre++((sortB l).map encStr++post)).toArray e' f') else w.heap[k]? := by
      intro k hk
      rw [heap_grow_old _ _ (by simpa [Sort.ahead] using hk)]
      simp only [putRow,mapBlock,Sort.ahead,Array.getElem?_modify]
      by_cases hbk:b=k
      · subst hbk
        simp only [if_true,hb2,Option.map_some,onCells,Option.some.injEq,Obj.cells.injEq,and_true]
        apply Array.ext_getElem?
        intro j
        simp only [putCells,Array.getElem?_mapIdx,List.size_toArray,hsz,List.getElem?_toArray]
        by_cases h1:j < x
        · rw [List.getElem?_append_left (by omega),List.getElem?_append_left (by omega)]
          cases pre[j]? with
          | none=>rfl
          | some y=>rw [Option.map_some,if_neg (by omega)]
        · have a1:∀ z:List Value,(pre++z)[j]? = z[j - x]? := fun z=>by rw [List.getElem?_append_right (by omega),hpo]
          by_cases h2:j < x+l.length
          · have a2:∀ z:List Value,z.length=l.length→(z++post)[j - x]? = z[j - x]? := fun z hz=>List.getElem?_append_left (by omega)
            rw [a1,a1,a2 _ (by simp),a2 _ (by simp [hsz]),List.getElem?_map,List.getElem?_map,List.getElem?_eq_getElem (by omega),List.getElem?_eq_getElem (by omega)]
            simp only [Option.map_some]
            rw [if_pos ⟨by omega,h2⟩]
            have hjj:j - x < (sortB l).length:=by omega
            simp [hjj]
          · have a3:∀ z:List Value,z.length=l.length→(z++post)[j - x]? = post[j - x - l.length]? := fun z hz=>by rw [List.getElem?_append_right (by omega),hz]
            rw [a1,a1,a3 _ (by simp),a3 _ (by simp [hsz])]
            cases post[j - x - l.length]? with
            | none=>rfl
            | some y=>rw [Option.map_some,if_neg (by omega)]
      · simp [hbk]
    have hgs:(grow (putRow encStr (Sort.ahead w m) b x (sortB l).toArray) os).heap.size=w.heap.size+os.size:=by simp [Sort.ahead]
    generalize hw':grow (putRow encStr (Sort.ahead w m) b x (sortB l).toArray) os=w' at *
    have hbel:BelX (fun b=>∃ id o,ρ id=some (b,o)) w.heap.size w w':=by
      refine ⟨by rw [← hw']; rfl,by rw [← hw']; rfl,by rw [← hw']; rfl,by omega,fun k hk hB=>?_,fun k c1 e1 f1 hk h1=>?_⟩
      · rw [hheap k hk,if_neg (fun h=>hB ⟨0,x,by rw [← h]; exact hρ⟩)]
      · rw [hheap k hk]
        by_cases h:b=k
        · subst h
          rw [hb2] at h1
          injection h1 with h1
          injection h1 with h1 h2 h3
          rw [if_pos rfl]
          refine ⟨_,_,_,rfl,?_⟩
          rw [← h1]
          simp [hsz]
        · rw [if_neg h]
          exact ⟨c1,e1,f1,h1,Nat.le_refl _⟩
    refine ⟨_,F,ρ,rfl,hbel,fun _ h=>h,fun _ h=>.inl h,fun k hk=>by have:=hF k hk; omega,?_,fun _ p h=>.inr h,fun id b o h1 h2=>by rw [h2] at h1; simp at h1,?_⟩
    · refine ⟨fun id p hp=>?_,fun id y hy=>?_,hH.inj⟩
      · obtain ⟨z,hz⟩:=hH.dom id p hp
        simp only [hlk] at hz ⊢
        split at hz
        · exact ⟨_,if_pos (by assumption)⟩
        · simp at hz
      · simp only [hlk] at hy
        split at hy
        · rename_i h0
          simp only [Option.some.injEq] at hy
          subst hy
          have h0':id=0:=by omega
          subst h0'
          refine ⟨b,x,hρ,by omega,hnF,pre,(sortB l).map encStr,post,e',f',by rw [hheap b hb,if_pos rfl],hpo,strs2_repL,?_⟩
          have hlen2:(pre++((sortB l).map encStr++post)).length=(pre++(l.map encStr++post)).length:=by simp [hsz]
          rw [hlen2]
          refine ⟨fun k hk=>?_,fun c1 e1 f1 h1=>?_⟩
          · have:=hnf.1 k hk
            simp only [World.frozen?,hb2] at this
            simp only [World.frozen?,hheap b hb,if_true]
            exact this
          · rw [hheap b hb,if_pos rfl] at h1
            injection h1 with h1
            injection h1 with _ _ h3
            subst h3
            exact hnf.2 _ _ _ hb2
        · simp at hy
    · exact ⟨#[],rfl,by simp [RepL]⟩
end Wax


namespace Wax
open Go (IntKind)

def ws4 (c:UInt8):Bool:=anyN c.toNat [32,9,13,10]
def rB (t:L8):L8:=t.dropWhile ws4
def tkC (m:L8) (c:UInt8):Bool:=tokB c || anyN c.toNat m
theorem mTok_one (c:UInt8):mTok [c]=tokB c:=by simp [mTok]
abbrev rdO (s:L8) (n:Nat):AObj:=.cells [.str s,.int .i64 (n:Int)]
def rdMk (lim:Nat) (f:L8→Option (AV × Nat)) (s:L8) (n:Int):Option (AV × List (Nat × AObj)) :=
  if 0≤n∧n.toNat≤s.length∧s.length < lim then (match f (s.drop n.toNat) with
    | some q=>some (q.1,[(0,rdO s (n.toNat+q.2))])
    | none=>none) else none
theorem rdMk_at {lim:Nat} {f:L8→Option (AV × Nat)} {p t:L8} {v:AV} {k:Nat} (hf:f t=some (v,k)) (hl:(p++t).length < lim):rdMk lim f (p++t) (p.length:Int)=some (v,[(0,rdO (p++t) (p.length+k))]):=by
  unfold rdMk
  rw [if_pos ⟨by omega,by simp,hl⟩]
  simp only [Int.toNat_natCast,List.drop_left,hf]
theorem rdMk_spec {lim:Nat} {f:L8→Option (AV × Nat)} {s:L8} {n:Int} {q:AV × List (Nat × AObj)} (h:rdMk lim f s n=some q):∃ (p t:L8) (v:AV) (k:Nat),s=p++t∧n=(p.length:Int)∧f t=some (v,k)∧s.length < lim∧q=(v,[(0,rdO s (p.length+k))]):=by
  unfold rdMk at h
  split at h
  · rename_i hc
    cases hf:f (s.drop n.toNat) with
    | none=>simp [hf] at h
    | some r =>
      simp only [hf,Option.some.injEq] at h
      refine ⟨s.take n.toNat,s.drop n.toNat,r.1,r.2,(List.take_append_drop _ _).symm,?_,hf,hc.2.2,?_⟩
      · simp; omega
      · rw [← h]; simp; omega
  · simp at h

def con_blank:List AV→List (Nat × AObj)→Option (AV × List (Nat × AObj))
  | [.ref 0 0],[(0,.cells [.str s,.int .i64 n])]=>rdMk mid (fun t=>if (rB t).head? = some 40 then none else some (.bool true,(t.takeWhile ws4).length)) s n
  | _,_=>none
theorem ok_blank (Γ:Gam) (h100:Γ.fn 100=con_MailAny):∀ args hp q,con_blank args hp=some q→runsS Γ c_spec_areader_blank args hp (fun v=>v=some q):=by
  intro args hp q h
  simp only [con_blank] at h
  split at h <;> (try simp at h; done)
  rename_i s n
  obtain ⟨p0,t0,v,k,rfl,rfl,hf,hl,rfl⟩:=rdMk_spec h
  clear h
  try simp only at hf
  split at hf
  · simp at hf
  rename_i hb
  simp only [Option.some.injEq,Prod.mk.injEq] at hf
  obtain ⟨rfl,rfl⟩:=hf
  simp only [mid] at hl
  simp -implicitDefEqProofs [c_spec_areader_blank]
  refine awp_loop2 (σ:=L8 × L8) (fun q=>⟨[(0,.ref 1000000 0)],[(1000000,.cells [.str (p0++t0),.int .i64 ((p0++q.1).length:Int)])]⟩)
    (fun q=>t0=q.1++q.2∧∀ c∈q.1,ws4 c=true) (fun q=>q.2.length) ([],t0) (by simp) (by simp) ?_
  rintro ⟨d,t⟩ ⟨e1,e2⟩ LQ hLQ
  simp only at e1 e2
  have hskip:∀ c∈d,ws4 c=true:=e2
  have etk:t0.takeWhile ws4=d++t.takeWhile ws4:=by rw [e1,List.takeWhile_append_of_pos e2]
  have edk:rB t0=rB t:=by rw [e1,rB,List.dropWhile_append_of_pos e2]; rfl
  rw [edk] at hb
  rw [etk]
  subst e1
  cases t with
  | nil =>
    simp -implicitDefEqProofs [reach_succ]
  | cons c t =>
    have hlt:((p0++d).length:Int) < ((p0++(d++c::t)).length:Int):=by simp only [List.length_append,List.length_cons]; omega
    have g:(p0++(d++c::t))[(p0++d).length]? = some c:=by rw [← List.append_assoc]; exact get_mid rfl
    have k100:con_MailAny [.int .u8 (c.toNat:Int),.str [32,9,13,10]]=some (.bool (ws4 c)):=rfl
    have ew:IntKind.i64.wrap (((p0++d).length:Int)+1)=((p0++d).length:Int)+1:=by
      have:(p0++d).length < (p0++(d++c::t)).length:=by simp only [List.length_append,List.length_cons]; omega
      exact wrap64 (by omega) (by omega)
    cases hc:ws4 c with
    | true =>
      rw [hc] at k100
      have fin:∀ st,norm [0] st=⟨[(0,.ref 1000000 0)],[(1000000,.cells [.str (p0++(d++c::t)),.int .i64 (((p0++d).length:Int)+1)])]⟩→LQ st:=by
        intro st hst
        refine hLQ (d++[c],t) ⟨by simp,fun x hx=>?_⟩ (by simp) st ?_
        · rcases List.mem_append.1 hx with hx | hx
          · exact e2 x hx
          · simp at hx; subst hx; exact hc
        · rw [hst]; simp; omega
      generalize (p0++d).length=n at *
      generalize p0++(d++c::t)=S at *
      simp -implicitDefEqProofs [hlt,g,acall,h100,k100,ew]
      exact fin _ (by simp)
    | false =>
      rw [hc] at k100
      have h40:¬ (c.toNat:Int)=40:=by
        intro e
        apply hb
        have:c=40:=UInt8.toNat_inj.1 (by have:(40:UInt8).toNat=40:=rfl; omega)
        simp only [rB,List.dropWhile_cons,hc]
        simp [this]
      have e0:(c::t).takeWhile ws4=[]:=by simp [hc]
      rw [e0]
      have en:p0.length+(d++([]:L8)).length=(p0++d).length:=by simp
      rw [en]
      clear en
      generalize (p0++d).length=n at *
      generalize p0++(d++c::t)=S at *
      simp -implicitDefEqProofs [hlt,g,acall,h100,k100,h40,reach_succ]

def con_has:List AV→List (Nat × AObj)→Option (AV × List (Nat × AObj))
  | [.ref 0 0,.int .u8 c],[(0,.cells [.str s,.int .i64 n])]=>rdMk mid (fun t=>match t with | []=>some (.bool false,0) | x::_=>if (x.toNat:Int)=c then some (.bool true,1) else some (.bool false,0)) s n
  | _,_=>none
theorem ok_has (Γ:Gam):∀ args hp q,con_has args hp=some q→runsS Γ c_spec_areader_has args hp (fun v=>v=some q):=by
  intro args hp q h
  simp only [con_has] at h
  split at h <;> (try simp at h; done)
  rename_i c s n
  obtain ⟨p,t,v,k,rfl,rfl,hf,hl,rfl⟩:=rdMk_spec h
  clear h
  simp only [mid] at hl
  cases t with
  | nil =>
    simp only [Option.some.injEq,Prod.mk.injEq] at hf
    obtain ⟨rfl,rfl⟩:=hf
    simp only [List.append_nil] at hl ⊢
    simp -implicitDefEqProofs [c_spec_areader_has,reach_succ]
  | cons x t =>
    simp only at hf
    have hlt:(p.length:Int) < ((p++x::t).length:Int):=by simp only [List.length_append,List.length_cons]; omega
    have g:(p++x::t)[p.length]? = some x:=get_mid rfl
    have ew:IntKind.i64.wrap ((p.length:Int)+1)=(p.length:Int)+1:=wrap64 (by omega) (by omega)
    generalize p.length=n at *
    generalize p++x::t=S at *
    by_cases hc:(x.toNat:Int)=c
    · rw [if_pos hc] at hf
      simp only [Option.some.injEq,Prod.mk.injEq] at hf
      obtain ⟨rfl,rfl⟩:=hf
      simp -implicitDefEqProofs [c_spec_areader_has,reach_succ,hlt,g,hc,ew]
    · rw [if_neg hc] at hf
      simp only [Option.some.injEq,Prod.mk.injEq] at hf
      obtain ⟨rfl,rfl⟩:=hf
      simp -implicitDefEqProofs [c_spec_areader_has,reach_succ,hlt,g,hc]

def rWd (m t:L8):L8:=t.takeWhile (tkC m)
def con_word:List AV→List (Nat × AObj)→Option (AV × List (Nat × AObj))
  | [.ref 0 0,.str m],[(0,.cells [.str s,.int .i64 n])]=>if m.length < big then rdMk mid (fun t=>some (.str (rWd m t),(rWd m t).length)) s n else none
  | _,_=>none
theorem ok_word (Γ:Gam) (h100:Γ.fn 100=con_MailAny) (h104:Γ.fn 104=con_MailToken):∀ args hp q,con_word args hp=some q→runsS Γ c_spec_areader_word args hp (fun v=>v=some q):=by
  intro args hp q h
  simp only [con_word] at h
  split at h <;> (try simp at h; done)
  rename_i m s n
  split at h <;> (try simp at h; done)
  rename_i hm
  obtain ⟨p0,t0,v,k,rfl,rfl,hf,hl,rfl⟩:=rdMk_spec h
  clear h
  simp only [Option.some.injEq,Prod.mk.injEq] at hf
  obtain ⟨rfl,rfl⟩:=hf
  simp only [mid] at hl
  simp -implicitDefEqProofs [c_spec_areader_word]
  refine awp_loop2 (σ:=L8 × L8) (fun q=>⟨[(0,.ref 1000000 0),(1,.str m),(5,.int .i64 (p0.length:Int))],[(1000000,.cells [.str (p0++t0),.int .i64 ((p0++q.1).length:Int)])]⟩)
    (fun q=>t0=q.1++q.2∧∀ c∈q.1,tkC m c=true) (fun q=>q.2.length) ([],t0) (by simp) (by simp) ?_
  rintro ⟨d,t⟩ ⟨e1,e2⟩ LQ hLQ
  simp only at e1 e2
  have etk:rWd m t0=d++rWd m t:=by rw [e1,rWd,List.takeWhile_append_of_pos e2]; rfl
  rw [etk]
  subst e1
  cases t with
  | nil =>
    have e0:rWd m []=[]:=rfl
    rw [e0]
    simp only [List.append_nil] at hl ⊢
    have hd:(p0++d).drop p0.length=d:=List.drop_left
    have hlen:((p0++d).length:Int)=(p0.length:Int)+(d.length:Int):=by simp
    have hle:p0.length≤(p0++d).length:=by simp
    have en:p0.length+d.length=(p0++d).length:=by simp
    rw [en]
    have htk:(p0++d).take (p0++d).length=p0++d:=List.take_length
    generalize p0++d=S at *
    simp -implicitDefEqProofs [b_spec_areader_word_1,t_spec_areader_word_2,reach_succ]
    exact ⟨hle,hd⟩
  | cons c t =>
    have hlt:((p0++d).length:Int) < ((p0++(d++c::t)).length:Int):=by simp only [List.length_append,List.length_cons]; omega
    have g:(p0++(d++c::t))[(p0++d).length]? = some c:=by rw [← List.append_assoc]; exact get_mid rfl
    have k100:con_MailAny [.int .u8 (c.toNat:Int),.str m]=some (.bool (anyN c.toNat m)):=if_pos hm
    have k104:con_MailToken [.str [c]]=some (.bool (tokB c)):=by
      have:con_MailToken [.str [c]]=some (.bool (mTok [c])):=by
        simp only [con_MailToken]; exact if_pos (by simp [big])
      rw [this,mTok_one]
    have hN:(p0++d).length+1≤(p0++(d++c::t)).length:=by simp only [List.length_append,List.length_cons]; omega
    have hle0:p0.length≤(p0++d).length:=by simp
    have ew:IntKind.i64.wrap (((p0++d).length:Int)+1)=((p0++d).length:Int)+1:=wrap64 (by omega) (by omega)
    have hcut:((p0++(d++c::t)).take ((p0++d).length+1)).drop (p0++d).length=[c]:=by
      rw [← List.append_assoc,List.take_append,List.take_of_length_le (by omega),show (p0++d).length+1 - (p0++d).length=1 by omega,List.drop_left]
      rfl
    have hcut0:((p0++(d++c::t)).take (p0++d).length).drop p0.length=d:=by
      rw [← List.append_assoc,List.take_left,List.drop_left]
    have fin:tkC m c=true→∀ st,norm [0,1,5] st=⟨[(0,.ref 1000000 0),(1,.str m),(5,.int .i64 (p0.length:Int))],[(1000000,.cells [.str (p0++(d++c::t)),.int .i64 (((p0++d).length:Int)+1)])]⟩→LQ st:=by
      intro hc st hst
      refine hLQ (d++[c],t) ⟨by simp,fun x hx=>?_⟩ (by simp) st ?_
      · rcases List.mem_append.1 hx with hx | hx
        · exact e2 x hx
        · simp at hx; subst hx; exact hc
      · rw [hst]; simp; omega
    have en:tkC m c=false→d++rWd m (c::t)=d∧p0.length+(d++rWd m (c::t)).length=(p0++d).length:=by
      intro hc
      have:rWd m (c::t)=[]:=by simp [rWd,hc]
      rw [this]; simp
    generalize (p0++d).length=n at *
    generalize p0++(d++c::t)=S at *
    cases h1:tokB c with
    | true =>
      rw [h1] at k104
      simp -implicitDefEqProofs [b_spec_areader_word_1,hlt,hN,g,acall,h100,k100,h104,k104,ew,hcut]
      exact ⟨⟨by omega,by omega⟩,fin (by simp [tkC,h1]) _ (by simp)⟩
    | false =>
      rw [h1] at k104
      cases h2:anyN c.toNat m with
      | true =>
        rw [h2] at k100
        simp -implicitDefEqProofs [b_spec_areader_word_1,hlt,hN,g,acall,h100,k100,h104,k104,ew,hcut]
        exact ⟨⟨by omega,by omega⟩,fin (by simp [tkC,h2]) _ (by simp)⟩
      | false =>
        rw [h2] at k100
        obtain ⟨q1,q2⟩:=en (by simp [tkC,h1,h2])
        rw [q2,q1]
        simp -implicitDefEqProofs [b_spec_areader_word_1,t_spec_areader_word_2,reach_succ,hlt,hN,g,acall,h100,k100,h104,k104,ew,hcut,hcut0]
        exact ⟨⟨by omega,by omega⟩,hle0,by omega⟩

def rQ:L8→L8→L8 × Bool × Nat
  | out,[]=>([],false,0)
  | out,c::t =>
    if c=34 then (out,true,1)
    else if c=92 then (match t with
      | []=>([],false,1)
      | d::t'=>((rQ (out++[d]) t').1,(rQ (out++[d]) t').2.1,(rQ (out++[d]) t').2.2+2))
    else if c=13∨c=10 then ((rQ out t).1,(rQ out t).2.1,(rQ out t).2.2+1)
    else ((rQ (out++[c]) t).1,(rQ (out++[c]) t).2.1,(rQ (out++[c]) t).2.2+1)
def con_quoted:List AV→List (Nat × AObj)→Option (AV × List (Nat × AObj))
  | [.ref 0 0],[(0,.cells [.str s,.int .i64 n])]=>rdMk mid (fun t=>some (.tup [.str (rQ [] t).1,.bool (rQ [] t).2.1],(rQ [] t).2.2)) s n
  | _,_=>none
set_option maxHeartbeats 2000000 in
theorem ok_quoted (Γ:Gam):∀ args hp q,con_quoted args hp=some q→runsS Γ c_spec_areader_quoted args hp (fun v=>v=some q):=by
  intro args hp q h
  simp only [con_quoted] at h
  split at h <;> (try simp at h; done)
  rename_i s n
  obtain ⟨p0,t0,v,k,rfl,rfl,hf,hl,rfl⟩:=rdMk_spec h
  clear h
  simp only [Option.some.injEq,Prod.mk.injEq] at hf
  obtain ⟨rfl,rfl⟩:=hf
  simp only [mid] at hl
  simp -implicitDefEqProofs [c_spec_areader_quoted]
  refine awp_loop2 (σ:=L8 × L8 × L8) (fun q=>⟨[(0,.ref 1000000 0),(4,outV 71 q.2.2)],outH 71 q.2.2++[(1000000,.cells [.str (p0++t0),.int .i64 (q.1.length:Int)])]⟩)
    (fun q=>p0++t0=q.1++q.2.1∧(rQ [] t0).1=(rQ q.2.2 q.2.1).1∧(rQ [] t0).2.1=(rQ q.2.2 q.2.1).2.1∧p0.length+(rQ [] t0).2.2=q.1.length+(rQ q.2.2 q.2.1).2.2∧q.2.2.length≤q.1.length) (fun q=>q.2.1.length) (p0,t0,[]) (by simp) ?_ ?_
  · simp
  rintro ⟨p,t,out⟩ ⟨e1,e2,e3,e4,e5⟩ LQ hLQ
  simp only at e1 e2 e3 e4 e5
  rw [e2,e3,e4]
  have hlN:(p++t).length < 1099511627776:=by rw [← e1]; exact hl
  simp only [List.length_append] at hlN
  cases t with
  | nil =>
    simp only [rQ,Nat.add_zero]
    simp only [List.append_nil] at e1
    rw [e1]
    cases out with
    | nil=>simp -implicitDefEqProofs [b_spec_areader_quoted_1,t_spec_areader_quoted_2,reach_succ]
    | cons o out=>simp -implicitDefEqProofs [b_spec_areader_quoted_1,t_spec_areader_quoted_2,reach_succ,outV,outH]
  | cons c t =>
    have hlt:(p.length:Int) < ((p0++t0).length:Int):=by rw [e1]; simp only [List.length_append,List.length_cons]; omega
    have g:(p0++t0)[p.length]? = some c:=by rw [e1]; exact get_mid rfl
    simp only [List.length_cons] at hlN
    have ew:IntKind.i64.wrap ((p.length:Int)+1)=(p.length:Int)+1:=wrap64 (by omega) (by omega)
    have e34:((c.toNat:Int)=34)=(c=34):=by
      apply propext; constructor
      · intro e; exact UInt8.toNat_inj.1 (by have:(34:UInt8).toNat=34:=rfl; omega)
      · rintro rfl; rfl
    have e92:((c.toNat:Int)=92)=(c=92):=by
      apply propext; constructor
      · intro e; exact UInt8.toNat_inj.1 (by have:(92:UInt8).toNat=92:=rfl; omega)
      · rintro rfl; rfl
    have e13:((c.toNat:Int)=13)=(c=13):=by
      apply propext; constructor
      · intro e; exact UInt8.toNat_inj.1 (by have:(13:UInt8).toNat=13:=rfl; omega)
      · rintro rfl; rfl
    have e10:((c.toNat:Int)=10)=(c=10):=by
      apply propext; constructor
      · intro e; exact UInt8.toNat_inj.1 (by have:(10:UInt8).toNat=10:=rfl; omega)
      · rintro rfl; rfl
    have fin:∀ (t':L8) (out':L8) (p':L8),p0++t0=p'++t'→t'.length < (c::t).length→rQ out (c::t)=((rQ out' t').1,(rQ out' t').2.1,(rQ out (c::t)).2.2)→p.length+(rQ out (c::t)).2.2=p'.length+(rQ out' t').2.2→out'.length≤p'.length →
        ∀ st,norm [0,4] st=⟨[(0,.ref 1000000 0),(4,outV 71 out')],outH 71 out'++[(1000000,.cells [.str (p0++t0),.int .i64 (p'.length:Int)])]⟩→LQ st:=by
      intro t' out' p' q1 q2 q3 q4 q5 st hst
      have q6:=congrArg (·.1) q3
      have q7:=congrArg (·.2.1) q3
      simp only at q6 q7
      exact hLQ (p',t',out') ⟨q1,e2.trans q6,e3.trans q7,e4.trans q4,q5⟩ q2 st hst
    have hS:p0++t0=p++c::t:=e1
    have hSl:(p0++t0).length=p.length+(t.length+1):=by rw [e1]; simp
    clear e2 e3 e4 hLQ
    generalize p0++t0=S at *
    by_cases c34:c=34
    · have er:rQ out (c::t)=(out,true,1):=by rw [rQ.eq_def]; simp only [if_pos c34]
      rw [er]
      clear fin er
      cases out with
      | nil=>simp -implicitDefEqProofs [b_spec_areader_quoted_1,reach_succ,hlt,g,ew,e34,c34]
      | cons o out=>simp -implicitDefEqProofs [b_spec_areader_quoted_1,reach_succ,outV,outH,hlt,g,ew,e34,c34]
    by_cases c92:c=92
    · cases t with
      | nil =>
        have er:rQ out [c]=([],false,1):=by rw [rQ.eq_def]; simp only [if_neg c34,if_pos c92]
        rw [er]
        clear fin er
        have hS1:(S.length:Int)≤(p.length:Int)+1:=by rw [hSl]; simp
        cases out with
        | nil=>simp -implicitDefEqProofs [b_spec_areader_quoted_1,reach_succ,hlt,g,ew,e34,c34,e92,c92,hS1]
        | cons o out=>simp -implicitDefEqProofs [b_spec_areader_quoted_1,reach_succ,outV,outH,hlt,g,ew,e34,c34,e92,c92,hS1]
      | cons d t =>
        have er:rQ out (c::d::t)=((rQ (out++[d]) t).1,(rQ (out++[d]) t).2.1,(rQ (out++[d]) t).2.2+2):=by rw [rQ.eq_def]; simp only [if_neg c34,if_pos c92]
        have g2:S[p.length+1]? = some d:=by
          rw [hS,show p++c::d::t=(p++[c])++d::t by simp]; exact get_mid (by simp)
        have hn:¬ ((S.length:Int)≤(p.length:Int)+1):=by rw [hSl]; simp only [List.length_cons]; omega
        have ew2:IntKind.i64.wrap ((p.length:Int)+1+1)=(p.length:Int)+1+1:=wrap64 (by omega) (by omega)
        have fin:=fin t (out++[d]) (p++[c,d]) (by rw [hS]; simp) (by simp only [List.length_cons]; omega) (by rw [er]) (by rw [er]; simp; omega) (by simp; omega)
        clear er
        cases out with
        | nil =>
          simp -implicitDefEqProofs [b_spec_areader_quoted_1,hlt,g,ew,e34,c34,e92,c92,hn,g2,ew2]
          exact ⟨by omega,fin _ (by simp [outV,outH]; omega)⟩
        | cons o out =>
          simp only [List.length_cons] at e5
          simp -implicitDefEqProofs [b_spec_areader_quoted_1,outV,outH,hlt,g,ew,e34,c34,e92,c92,hn,g2,ew2]
          exact ⟨by omega,by omega,fin _ (by simp [outV,outH]; omega)⟩
    by_cases c1310:c=13∨c=10
    · have er:rQ out (c::t)=((rQ out t).1,(rQ out t).2.1,(rQ out t).2.2+1):=by rw [rQ.eq_def]; simp only [if_neg c34,if_neg c92,if_pos c1310]
      have fin:=fin t out (p++[c]) (by rw [hS]; simp) (by simp only [List.length_cons]; omega) (by rw [er]) (by rw [er]; simp; omega) (by simp; omega)
      clear er
      rcases c1310 with c13 | c10
      · cases out with
        | nil =>
          simp -implicitDefEqProofs [b_spec_areader_quoted_1,hlt,g,ew,e34,c34,e92,c92,e13,c13]
          exact fin _ (by simp [outV,outH])
        | cons o out =>
          simp -implicitDefEqProofs [b_spec_areader_quoted_1,outV,outH,hlt,g,ew,e34,c34,e92,c92,e13,c13]
          exact fin _ (by simp [outV,outH])
      · have c13:¬ c=13:=by rw [c10]; decide
        cases out with
        | nil =>
          simp -implicitDefEqProofs [b_spec_areader_quoted_1,hlt,g,ew,e34,c34,e92,c92,e13,c13,e10,c10]
          exact fin _ (by simp [outV,outH])
        | cons o out =>
          simp -implicitDefEqProofs [b_spec_areader_quoted_1,outV,outH,hlt,g,ew,e34,c34,e92,c92,e13,c13,e10,c10]
          exact fin _ (by simp [outV,outH])
    · have er:rQ out (c::t)=((rQ (out++[c]) t).1,(rQ (out++[c]) t).2.1,(rQ (out++[c]) t).2.2+1):=by rw [rQ.eq_def]; simp only [if_neg c34,if_neg c92,if_neg c1310]
      have fin:=fin t (out++[c]) (p++[c]) (by rw [hS]; simp) (by simp only [List.length_cons]; omega) (by rw [er]) (by rw [er]; simp; omega) (by simp; omega)
      clear er
      have c13:¬ c=13:=fun h=>c1310 (.inl h)
      have c10:¬ c=10:=fun h=>c1310 (.inr h)
      cases out with
      | nil =>
        simp -implicitDefEqProofs [b_spec_areader_quoted_1,hlt,g,ew,e34,c34,e92,c92,e13,c13,e10,c10]
        exact fin _ (by simp [outV,outH])
      | cons o out =>
        simp only [List.length_cons] at e5
        simp -implicitDefEqProofs [b_spec_areader_quoted_1,outV,outH,hlt,g,ew,e34,c34,e92,c92,e13,c13,e10,c10]
        exact ⟨by omega,fin _ (by simp [outV,outH])⟩

def rVal (m t:L8):L8 × Bool × Nat:=match t with
  | []=>([],false,0)
  | c::t'=>if c=34 then ((rQ [] t').1,(rQ [] t').2.1,1+(rQ [] t').2.2) else (rWd m t,decide (rWd m t ≠ []),(rWd m t).length)
def con_value:List AV→List (Nat × AObj)→Option (AV × List (Nat × AObj))
  | [.ref 0 0,.str m],[(0,.cells [.str s,.int .i64 n])]=>if m.length < big then rdMk mid (fun t=>some (.tup [.str (rVal m t).1,.bool (rVal m t).2.1],(rVal m t).2.2)) s n else none
  | _,_=>none
theorem has_nil {c:Int} {p:L8} (hl:(p++[]).length < mid):con_has [.ref 0 0,.int .u8 c] [(0,rdO (p++[]) p.length)]=some (.bool false,[(0,rdO (p++[]) p.length)]):=by
  simp only [con_has]
  exact rdMk_at (k:=0) rfl hl
theorem has_yes {c:Int} {p t:L8} {x:UInt8} (h:(x.toNat:Int)=c) (hl:(p++x::t).length < mid):con_has [.ref 0 0,.int .u8 c] [(0,rdO (p++x::t) p.length)]=some (.bool true,[(0,rdO (p++x::t) (p.length+1))]):=by
  simp only [con_has]
  exact rdMk_at (k:=1) (by simp only [if_pos h]) hl
theorem has_no {c:Int} {p t:L8} {x:UInt8} (h:¬ (x.toNat:Int)=c) (hl:(p++x::t).length < mid):con_has [.ref 0 0,.int .u8 c] [(0,rdO (p++x::t) p.length)]=some (.bool false,[(0,rdO (p++x::t) p.length)]):=by
  simp only [con_has]
  exact rdMk_at (k:=0) (by simp only [if_neg h]) hl
theorem word_at {m p t:L8} (hm:m.length < big) (hl:(p++t).length < mid):con_word [.ref 0 0,.str m] [(0,rdO (p++t) p.length)]=some (.str (rWd m t),[(0,rdO (p++t) (p.length+(rWd m t).length))]):=by
  simp only [con_word,if_pos hm]
  exact rdMk_at rfl hl
theorem quoted_at {p t:L8} (hl:(p++t).length < mid):con_quoted [.ref 0 0] [(0,rdO (p++t) p.length)]=some (.tup [.str (rQ [] t).1,.bool (rQ [] t).2.1],[(0,rdO (p++t) (p.length+(rQ [] t).2.2))]):=by
  simp only [con_quoted]
  exact rdMk_at rfl hl
theorem value_at {m p t:L8} (hm:m.length < big) (hl:(p++t).length < mid):con_value [.ref 0 0,.str m] [(0,rdO (p++t) p.length)]=some (.tup [.str (rVal m t).1,.bool (rVal m t).2.1],[(0,rdO (p++t) (p.length+(rVal m t).2.2))]):=by
  simp only [con_value,if_pos hm]
  exact rdMk_at rfl hl
theorem blank_at {p t:L8} (hb:(rB t).head? ≠ some 40) (hl:(p++t).length < mid):con_blank [.ref 0 0] [(0,rdO (p++t) p.length)]=some (.bool true,[(0,rdO (p++t) (p.length+(t.takeWhile ws4).length))]):=by
  simp only [con_blank]
  exact rdMk_at (by simp only [if_neg hb]) hl
theorem ok_value (Γ:Gam) (s224:Γ.st 224=con_has) (s225:Γ.st 225=con_quoted) (s226:Γ.st 226=con_word):∀ args hp q,con_value args hp=some q→runsS Γ c_spec_areader_value args hp (fun v=>v=some q):=by
  intro args hp q h
  simp only [con_value] at h
  split at h <;> (try simp at h; done)
  rename_i m s n
  split at h <;> (try simp at h; done)
  rename_i hm
  obtain ⟨p,t,v,k,rfl,rfl,hf,hl,rfl⟩:=rdMk_spec h
  clear h
  simp only [Option.some.injEq,Prod.mk.injEq] at hf
  obtain ⟨rfl,rfl⟩:=hf
  have k226:=word_at hm hl
  cases t with
  | nil =>
    have k224:=has_nil (c:=34) hl
    have e0:rWd m []=[]:=rfl
    simp only [e0] at k226
    simp only [List.length_nil,Nat.add_zero] at k226
    simp only [rVal,Nat.add_zero]
    generalize p++[]=S at *
    generalize p.length=n at *
    simp -implicitDefEqProofs [c_spec_areader_value,acallS,reach_succ,s224,k224,s226,k226]
  | cons c t =>
    by_cases hc:c=34
    · have hc':(c.toNat:Int)=34:=by rw [hc]; rfl
      have k224:=has_yes hc' hl
      have k225:=quoted_at (p:=p++[c]) (t:=t) (by simpa using hl)
      have e1:(p++[c])++t=p++c::t:=by simp
      have e2:(p++[c]).length=p.length+1:=by simp
      rw [e1,e2] at k225
      simp only [rVal,if_pos hc]
      rw [show p.length+(1+(rQ [] t).2.2)=p.length+1+(rQ [] t).2.2 by omega]
      generalize rQ [] t=Q at *
      generalize p++c::t=S at *
      generalize p.length=n at *
      simp only [rdO,Int.natCast_add,Int.natCast_one] at k224 k225
      simp -implicitDefEqProofs [c_spec_areader_value,acallS,reach_succ,s224,k224,s225,k225]
    · have hc':¬ (c.toNat:Int)=34:=by
        intro e; exact hc (UInt8.toNat_inj.1 (by have:(34:UInt8).toNat=34:=rfl; omega))
      have k224:=has_no hc' hl
      simp only [rVal,if_neg hc]
      generalize rWd m (c::t)=W at *
      generalize p++c::t=S at *
      generalize p.length=n at *
      simp -implicitDefEqProofs [c_spec_areader_value,acallS,reach_succ,s224,k224,s226,k226]
end Wax


namespace Wax
open Go (IntKind)

structure ResT.OkW (t:ResT):Prop where
  pre:allWs t.pre
  head:KvOk t.head
  ps:∀ p∈t.ps,(p.1 ≠ []∧allWs p.1)∧KvOk p.2
theorem ResT.OkW.res {t:ResT} (h:t.OkW) {b:L8} (hb:allWs b) {x:PR} (hx:prOf (lowS t.head.1) (lowS t.head.2) (prmsOf ((t.ps.map (·.2)).map kvW) [])=.inr x):trimS (t.txt++b) ≠ []∧resAOf (trimS (t.txt++b))=.inr (some x):=by
  have hw:wordsOf (t.txt++b)=kvW t.head::(t.ps.map (·.2)).map kvW:=by
    have e:t.txt++b=t.pre++(kvW t.head++(flatW (t.ps.map fun p=>(p.1,kvW p.2))++b)):=by simp [ResT.txt]
    rw [e,wordsOf_flat h.pre hb kvW_ne (gW_non (kvW_g h.head))]
    · simp
    · intro p hp
      obtain ⟨q,hq,rfl⟩:=List.mem_map.1 hp
      have:=h.ps q hq
      exact ⟨this.1,kvW_ne,gW_non (kvW_g this.2)⟩
  have hw2:=wordsOf_trim (t.txt++b)
  rw [hw] at hw2
  refine ⟨fun e=>?_,?_⟩
  · rw [e] at hw2; simp [wordsOf,wordsGo] at hw2
  · simp only [resAOf,hw2]
    rw [if_neg kvW_not_none,kvW_of h.head]
    simp only [hx]
theorem ResT.OkW.no {t:ResT} (h:t.OkW):noB 59 t.txt:=by
  refine noB_app (allWs_no h.pre) (noB_app (gW_no (kvW_g h.head)) ?_)
  intro x hx
  simp only [flatW,List.mem_flatMap,List.mem_map] at hx
  obtain ⟨_,⟨q,hq,rfl⟩,hx⟩:=hx
  have:=h.ps q hq
  rcases List.mem_append.1 hx with hx | hx
  · exact allWs_no this.1.2 x hx
  · exact gW_no (kvW_g this.2) x hx
end Wax


namespace Wax
open Go Go.ChangeShapes Go.WideShapes Go.RowKit

section
variable {P:Program} {T:Tab} {w:World} {H:Type} {enc:TypeId × Value→H}

theorem has_block {a:Addr} {e:TypeId} {n:Nat} {r:Reach} {base:Nat} (h:w.has P r base a e n):∃ o,a=⟨a.block,o,none⟩∧a.block < w.heap.size:=by
  obtain ⟨_,h2,row,cells,h3,_⟩:=h
  refine ⟨a.off,?_,?_⟩
  · cases a; simp at h2; simp [h2]
  · rcases Nat.lt_or_ge a.block w.heap.size with h | h
    · exact h
    · simp [World.shape?,Array.getElem?_eq_none h] at h3

theorem okWide_place {t e:TypeId} {r:Reach} {base:Nat} {a:Addr} {len cap:Nat} (ht:P.underlying t=some (.slice e)) (h:Value.okWide P w r base t (.slice (some a) len cap)):∃ b o,a=⟨b,o,none⟩∧b < w.heap.size:=by
  simp only [Value.okWide,ht,Cell.okWide,Cell.ok] at h
  obtain ⟨o,h1,h2⟩:=has_block h.2.2
  exact ⟨a.block,o,h1,h2⟩

end
theorem lkGl_mem:∀ {l:List (Nat × List AV)} {g:Nat} {cs:List AV},lkGl l g=some cs→(g,cs)∈l
  | [],_,_,h=>by simp [lkGl] at h
  | (i,v)::r,g,cs,h=>by
    simp only [lkGl] at h
    split at h
    · rename_i e
      simp only [beq_iff_eq] at e
      simp only [Option.some.injEq] at h
      subst e; subst h; simp
    · exact List.mem_cons_of_mem _ (lkGl_mem h)

theorem GlobOk.of {T:Tab} {w:World} {F:Frz} (h:∀ p∈T.gl,RepAt T w F p.1 0 p.2∧F p.1∧∃ vs q a,w.heap[p.1]? = some (.cells vs q a)∧vs.size=p.2.length):GlobOk T w F:=fun g cs hg=>h (g,cs) (lkGl_mem hg)

theorem var_heap {P:Program} {w:World} {n:String} {g:Nat} {cs:Array Value} (hg:P.globalNamed n=some g) (hv:w.var? P n=some cs):∃ q a,w.heap[g]? = some (.cells cs q a):=by
  simp only [World.var?,hg,Option.bind_some] at hv
  split at hv
  · rename_i cs' q a h
    injection hv with hv
    subst hv
    exact ⟨q,a,h⟩
  · simp at hv

theorem lt_of_heap {w:World} {g:Nat} {x:Obj} (h:w.heap[g]? = some x):g < w.heap.size:=by
  rcases Nat.lt_or_ge g w.heap.size with h' | h'
  · exact h'
  · rw [Array.getElem?_eq_none h'] at h; simp at h

theorem repAt_err {T:Tab} {P:Program} {w:World} {n:String} {g tp:Nat} {y:Value} (hg:P.globalNamed n=some g) (hv:w.var? P n=some #[.iface tp y]) (ht:lkN T.tys tp=some 3) :
    RepAt T w (fun b=>b < w.heap.size) g 0 [.ifc 3 .junk]∧g < w.heap.size∧∃ vs q a,w.heap[g]? = some (.cells vs q a)∧vs.size=1:=by
  obtain ⟨q,a,h⟩:=var_heap hg hv
  refine ⟨?_,lt_of_heap h,_,q,a,h,rfl⟩
  simp only [RepAt,and_true]
  exact ⟨lt_of_heap h,_,by simpa using World.var?_cell hg hv 0,tp,y,rfl,ht,trivial⟩

theorem repAt_ints {T:Tab} {w:World} {F:Frz} {g:Nat} {k:IntKind} (hF:F g):∀ (zs:List Int) (o:Nat),(∀ j z,zs[j]? = some z→w.cell? ⟨g,o+j,none⟩=some (.int k z))→RepAt T w F g o (zs.map (AV.int k))
  | [],_,_=>trivial
  | z::r,o,h=>by
    simp only [List.map_cons,RepAt]
    refine ⟨⟨hF,_,by simpa using h 0 z rfl,by simp [Rep]⟩,?_⟩
    exact repAt_ints hF r (o+1) fun j s hj=>by
      rw [show o+1+j=o+(j+1) by omega]
      exact h (j+1) s (by simpa using hj)

theorem repAt_tab {T:Tab} {P:Program} {w:World} {n:String} {g:Nat} {k:IntKind} {zs:List Int} (hg:P.globalNamed n=some g) (hv:Lib.TabIs P w n k zs) :
    RepAt T w (fun b=>b < w.heap.size) g 0 (zs.map (AV.int k))∧g < w.heap.size∧∃ vs q a,w.heap[g]? = some (.cells vs q a)∧vs.size=(zs.map (AV.int k)).length:=by
  have hv':w.var? P n=some (zs.map fun z=>Value.int k z).toArray:=hv
  obtain ⟨q,a,h⟩:=var_heap hg hv'
  refine ⟨repAt_ints (F:=fun b=>b < w.heap.size) (lt_of_heap h) zs 0 fun j z hj=>?_,lt_of_heap h,_,q,a,h,by simp⟩
  have hc:=World.var?_cell hg hv' j
  rw [Nat.zero_add,hc]
  simp [hj]

end Wax


namespace Wax
open Go Go.ChangeShapes Go.WideShapes Go.RowKit Go.Joins Go.Deep

section
variable {P:Program} {T:Tab} {w:World} {H:Type} {enc:TypeId × Value→H}

theorem repSl_pairs {F:Frz} {b:Nat} (hF:F b):∀ (l:List (List UInt8 × List UInt8)) (o:Nat),(∀ (j:Nat) p,l[j]? = some p→w.cell? ⟨b,o+j * 2,none⟩=some (.string ⟨p.1.toArray⟩)∧w.cell? ⟨b,o+j * 2+1,none⟩=some (.string ⟨p.2.toArray⟩))→RepSl T w F 2 b o (pr2 l)
  | [],_,_=>trivial
  | p::r,o,h=>by
    have h0:=h 0 p rfl
    simp only [Nat.zero_mul,Nat.add_zero] at h0
    simp only [pr2_cons,RepSl,RepAt,and_true]
    refine ⟨rfl,⟨⟨hF,_,h0.1,by simp [Rep]⟩,hF,_,h0.2,by simp [Rep]⟩,?_⟩
    exact repSl_pairs hF r (o+2) fun j q hj=>by
      have:=h (j+1) q (by simpa using hj)
      rwa [show o+(j+1) * 2=o+2+j * 2 by omega] at this

def strOf:Value→List UInt8
  | .string s=>s.data.toList
  | _=>[]

end
end Wax


namespace Wax
open Go Go.ChangeShapes Go.WideShapes Go.RowKit Go.Joins Go.Deep

structure Bulk (H:Type) where
  B:DataW H→Nat
  A:List (DataW H)→Nat
  str:∀ b,B (.lit (.string b))=b.length+1
  agg:∀ l,B (.agg l)=A l+1
  slice:∀ e s,B (.slice e s)=A e+A s+1
  nil:A []=0
  cons:∀ d l,A (d::l)=B d+A l
theorem Bulk.range {H:Type} (K:Bulk H) (D:Nat→DataW H) (f:Nat→Nat):∀ (l:List Nat),(∀ i∈l,f i≤K.B (D i))→(l.map f).sum≤K.A (l.map D)
  | [],_=>by simp
  | i::l,h=>by
    rw [List.map_cons,List.map_cons,List.sum_cons,K.cons]
    have h1:=h i (by simp)
    have h2:=K.range D f l (fun j hj=>h j (by simp [hj]))
    omega
def kvSz (p:List UInt8 × List UInt8):Nat:=p.1.length+p.2.length
def AR.bulk (r:AR):Nat:=r.method.length+r.value.length+r.reason.length+r.domain.length+r.ident.length+r.fr.length+r.sender.length+r.ip.length+r.helo.length+r.auth.length+r.hkey.length+r.hval.length+r.remote.length+((r.ps.getD []).map fun p=>kvSz p+1).sum

section
variable {P:Program} {T:Tab} {w:World} {H:Type} {enc:TypeId × Value→H}

theorem addr_eta {a:Addr} (h:a.spot=none):a=⟨a.block,a.off,none⟩:=by cases a; simp_all
theorem cell_spot {a:Addr} {v:Value} (h:w.cell? a=some v):a.spot=none∧a.block < w.heap.size:=by
  unfold World.cell? at h
  split at h
  · rename_i c t f hh
    split at h
    · simp at h
    · rename_i hs
      refine ⟨by simpa using hs,?_⟩
      rcases Nat.lt_or_ge a.block w.heap.size with h1 | h1
      · exact h1
      · rw [Array.getElem?_eq_none h1] at hh; simp at hh
  · simp at h
theorem trod_pairs {t e:TypeId} {f0 f1:Field} {n:Nat} {v:Value} {y:DataW H × List MemPlace} (K:Bulk H) (ht:P.underlying t=some (.slice e)) (he:P.underlying e=some (.struct #[f0,f1]))
    (ce:P.cellsOf e=2) (o0:f0.offset=0) (o1:f1.offset=1) (c0:P.cellsOf f0.type=1) (c1:P.cellsOf f1.type=1) (s0:P.underlying f0.type=some .string) (s1:P.underlying f1.type=some .string)
    (h:DataW.trod enc P w 0 (fun _=>true) true n t [v]=some y) :
    ∃ x:Option (List (List UInt8 × List UInt8)),Rep T w (fun k=>k < w.heap.size) noRho (slP x) v∧(x.getD []).length < 9223372036854775808∧((x.getD []).map fun p=>kvSz p+1).sum≤K.B y.1:=by
  rcases open_slice_pairs ht he ce o0 o1 c0 c1 h with ⟨hcs,rfl⟩ | ⟨a,len,cap,m,k,V0,V1,D0,D1,P0,P1,hcs,_,hl,hm,hmm,rfl,hcell⟩
  · simp at hcs
    subst hcs
    exact ⟨none,by simp [slP,Rep],by simp,by simp⟩
  · simp at hcs
    subst hcs
    simp only [if_true] at hmm
    have h1:cap≤9223372036854775807:=hm
    by_cases h0:len=0
    · subst h0
      refine ⟨some [],?_,by simp,by simp⟩
      simp only [slP,pr2,List.map_nil,Rep]
      exact .inr ⟨trivial,a,cap,rfl⟩
    · obtain ⟨g0,_,_,_⟩:=hcell 0 (by omega)
      have ea:a.add (0 * 2)=a:=by simp [Addr.add]
      rw [ea] at g0
      obtain ⟨hs,hb⟩:=cell_spot g0
      rw [addr_eta hs] at hcell ⊢
      generalize a.block=b at *
      generalize a.off=o at *
      obtain ⟨l,hl'⟩:∃ l:List (List UInt8 × List UInt8),l=(List.range len).map fun i=>(strOf (V0 i),strOf (V1 i)):=⟨_,rfl⟩
      have hll:l.length=len:=by rw [hl']; simp
      refine ⟨some l,?_,by simp only [Option.getD_some]; omega,?_⟩
      · simp only [slP,Rep]
        refine .inl ⟨b,o,cap,?_,?_,?_⟩
        · simp [pr2,hll]
        · simp [pr2,hll]; exact hl
        · refine repSl_pairs (F:=fun k=>k < w.heap.size) hb l o ?_
          intro j p hj
          have hjl:j < len:=by
            rcases Nat.lt_or_ge j l.length with h | h
            · omega
            · simp [List.getElem?_eq_none h] at hj
          obtain ⟨g0,g1,r0,r1⟩:=hcell j (by omega)
          rw [addr_add] at g0
          have e1:((⟨b,o,none⟩:Addr).add (j * 2+1))=⟨b,o+(j * 2+1),none⟩:=addr_add _ _ _
          rw [e1,← Nat.add_assoc] at g1
          rw [hl',List.getElem?_map,List.getElem?_range hjl] at hj
          simp only [Option.map_some,Option.some.injEq] at hj
          subst hj
          rw [g0,g1]
          obtain ⟨t0,q0,_,_⟩:=DataW.trod_string s0 r0
          obtain ⟨t1,q1,_,_⟩:=DataW.trod_string s1 r1
          injection q0 with q0
          injection q1 with q1
          rw [q0,q1]
          exact ⟨rfl,rfl⟩
      · simp only [Option.getD_some]
        have hr:=K.range (fun i=>.agg [D0 i,D1 i]) (fun i=>kvSz (strOf (V0 i),strOf (V1 i))+1) (List.range len) (fun i hi=>by
          have hi':i < m:=by have:=List.mem_range.1 hi; omega
          obtain ⟨_,_,r0,r1⟩:=hcell i hi'
          obtain ⟨t0,q0,z0,_⟩:=DataW.trod_string s0 r0
          obtain ⟨t1,q1,z1,_⟩:=DataW.trod_string s1 r1
          injection q0 with q0
          injection q1 with q1
          injection z0 with z0
          injection z1 with z1
          rw [z0,z1,q0,q1,K.agg,K.cons,K.cons,K.nil,K.str,K.str]
          simp only [kvSz,strOf]
          omega)
        rw [K.slice]
        have:(l.map fun p=>kvSz p+1)=(List.range len).map (fun i=>kvSz (strOf (V0 i),strOf (V1 i))+1):=by rw [hl',List.map_map]; rfl
        rw [this]
        omega

theorem list16 {α:Type} {l:List α} (h:l.length=16):∃ c0 c1 c2 c3 c4 c5 c6 c7 c8 c9 c10 c11 c12 c13 c14 c15,l=[c0,c1,c2,c3,c4,c5,c6,c7,c8,c9,c10,c11,c12,c13,c14,c15]:=by
  match l,h with
  | [c0,c1,c2,c3,c4,c5,c6,c7,c8,c9,c10,c11,c12,c13,c14,c15],_=>exact ⟨c0,c1,c2,c3,c4,c5,c6,c7,c8,c9,c10,c11,c12,c13,c14,c15,rfl⟩
def arFlds (ps:TypeId):List (Nat × Nat × Option TypeDesc):=[(0,1,some (.int .i64)),(1,1,some .string),(2,1,some .string),(3,1,some .string),(4,1,some .string),(5,1,some .string),(6,1,some .string),(7,1,some .string),(8,1,some .string),(9,1,some .string),(10,1,some .string),(11,1,some .string),(12,1,some .string),(13,1,some .string),(14,1,some (.int .i64)),(15,1,some (.slice ps))]

theorem trod_ar {e pt:TypeId} {f0 f1:Field} {fs:Array Field} {n:Nat} {cs:List Value} {y:DataW H × List MemPlace} (K:Bulk H) (he:P.underlying e=some (.struct fs)) (ce:P.cellsOf e=16)
    (hfs:(fs.toList.map fun f=>(f.offset,P.cellsOf f.type,P.underlying f.type))=arFlds pt) (hp:P.underlying pt=some (.struct #[f0,f1]))
    (cp:P.cellsOf pt=2) (o0:f0.offset=0) (o1:f1.offset=1) (c0:P.cellsOf f0.type=1) (c1:P.cellsOf f1.type=1) (s0:P.underlying f0.type=some .string) (s1:P.underlying f1.type=some .string)
    (h:DataW.trod enc P w 0 (fun _=>true) true n e cs=some y) :
    ∃ r:AR,RepL T w (fun k=>k < w.heap.size) noRho r.cells cs∧(r.ps.getD []).length < 9223372036854775808∧r.bulk+1≤K.B y.1:=by
  obtain ⟨xs,k,_,rfl,hcl,hxl,hf⟩:=DataW.trod_struct he h
  rw [ce] at hcl
  obtain ⟨g⟩:=fs
  have hgl:g.length=16:=by have:=congrArg List.length hfs; simpa [arFlds] using this
  obtain ⟨a0,a1,a2,a3,a4,a5,a6,a7,a8,a9,a10,a11,a12,a13,a14,a15,rfl⟩:=list16 hgl
  obtain ⟨y0,y1,y2,y3,y4,y5,y6,y7,y8,y9,y10,y11,y12,y13,y14,y15,rfl⟩:=list16 (hxl.trans (by simp))
  obtain ⟨v0,v1,v2,v3,v4,v5,v6,v7,v8,v9,v10,v11,v12,v13,v14,v15,rfl⟩:=list16 hcl
  simp only [arFlds,List.map_cons,List.map_nil,List.cons.injEq,Prod.mk.injEq,and_true] at hfs
  obtain ⟨⟨p0,q0,u0⟩,⟨p1,q1,u1⟩,⟨p2,q2,u2⟩,⟨p3,q3,u3⟩,⟨p4,q4,u4⟩,⟨p5,q5,u5⟩,⟨p6,q6,u6⟩,⟨p7,q7,u7⟩,⟨p8,q8,u8⟩,⟨p9,q9,u9⟩,⟨p10,q10,u10⟩,⟨p11,q11,u11⟩,⟨p12,q12,u12⟩,⟨p13,q13,u13⟩,⟨p14,q14,u14⟩,p15,q15,u15⟩:=hfs
  have F:∀ (i:Nat) (f:Field) (v:Value) (z:DataW H × List MemPlace),[a0,a1,a2,a3,a4,a5,a6,a7,a8,a9,a10,a11,a12,a13,a14,a15][i]? = some f→f.offset=i→P.cellsOf f.type=1→([v0,v1,v2,v3,v4,v5,v6,v7,v8,v9,v10,v11,v12,v13,v14,v15].drop i).take 1=[v]→[y0,y1,y2,y3,y4,y5,y6,y7,y8,y9,y10,y11,y12,y13,y14,y15][i]? = some z→DataW.trod enc P w 0 (fun _=>true) true k f.type [v]=some z:=by
    intro i f v z h1 h2 h3 h4 h5
    have:=hf i f (by simpa using h1)
    rw [h2,h3,h4,h5] at this
    exact this
  obtain ⟨n0,e0,d0,_⟩:=DataW.trod_int u0 (F 0 a0 v0 y0 rfl p0 q0 rfl rfl)
  obtain ⟨t1,e1,d1,_⟩:=DataW.trod_string u1 (F 1 a1 v1 y1 rfl p1 q1 rfl rfl)
  obtain ⟨t2,e2,d2,_⟩:=DataW.trod_string u2 (F 2 a2 v2 y2 rfl p2 q2 rfl rfl)
  obtain ⟨t3,e3,d3,_⟩:=DataW.trod_string u3 (F 3 a3 v3 y3 rfl p3 q3 rfl rfl)
  obtain ⟨t4,e4,d4,_⟩:=DataW.trod_string u4 (F 4 a4 v4 y4 rfl p4 q4 rfl rfl)
  obtain ⟨t5,e5,d5,_⟩:=DataW.trod_string u5 (F 5 a5 v5 y5 rfl p5 q5 rfl rfl)
  obtain ⟨t6,e6,d6,_⟩:=DataW.trod_string u6 (F 6 a6 v6 y6 rfl p6 q6 rfl rfl)
  obtain ⟨t7,e7,d7,_⟩:=DataW.trod_string u7 (F 7 a7 v7 y7 rfl p7 q7 rfl rfl)
  obtain ⟨t8,e8,d8,_⟩:=DataW.trod_string u8 (F 8 a8 v8 y8 rfl p8 q8 rfl rfl)
  obtain ⟨t9,e9,d9,_⟩:=DataW.trod_string u9 (F 9 a9 v9 y9 rfl p9 q9 rfl rfl)
  obtain ⟨t10,e10,d10,_⟩:=DataW.trod_string u10 (F 10 a10 v10 y10 rfl p10 q10 rfl rfl)
  obtain ⟨t11,e11,d11,_⟩:=DataW.trod_string u11 (F 11 a11 v11 y11 rfl p11 q11 rfl rfl)
  obtain ⟨t12,e12,d12,_⟩:=DataW.trod_string u12 (F 12 a12 v12 y12 rfl p12 q12 rfl rfl)
  obtain ⟨t13,e13,d13,_⟩:=DataW.trod_string u13 (F 13 a13 v13 y13 rfl p13 q13 rfl rfl)
  obtain ⟨n14,e14,d14,_⟩:=DataW.trod_int u14 (F 14 a14 v14 y14 rfl p14 q14 rfl rfl)
  obtain ⟨x,rx,lx,bx⟩:=trod_pairs (T:=T) K u15 hp cp o0 o1 c0 c1 s0 s1 (F 15 a15 v15 y15 rfl p15 q15 rfl rfl)
  simp only [List.cons.injEq,and_true] at e0 e1 e2 e3 e4 e5 e6 e7 e8 e9 e10 e11 e12 e13 e14
  subst e0 e1 e2 e3 e4 e5 e6 e7 e8 e9 e10 e11 e12 e13 e14
  refine ⟨⟨n0,t1.data.toList,t2.data.toList,t3.data.toList,t4.data.toList,t5.data.toList,t6.data.toList,t7.data.toList,t8.data.toList,t9.data.toList,t10.data.toList,t11.data.toList,t12.data.toList,t13.data.toList,n14,x⟩,?_,lx,?_⟩
  · simp [AR.cells,RepL,Rep,rx]
  · rw [K.agg]
    simp only [List.map_cons,List.map_nil,K.cons,K.nil,d1,d2,d3,d4,d5,d6,d7,d8,d9,d10,d11,d12,d13,K.str]
    simp only [AR.bulk]
    omega

theorem repSl_ars {b:Nat} (hb:b < w.heap.size):∀ (l:List AR) (o:Nat),(∀ (j:Nat) r,l[j]? = some r→∃ cs:List Value,(∀ k c,cs[k]? = some c→w.cell? ⟨b,o+j * 16+k,none⟩=some c)∧RepL T w (fun k=>k < w.heap.size) noRho r.cells cs)→RepSl T w (fun k=>k < w.heap.size) 16 b o (arA l)
  | [],_,_=>trivial
  | r::l,o,h=>by
    obtain ⟨cs,h1,h2⟩:=h 0 r rfl
    simp only [arA_cons,RepSl]
    refine ⟨rfl,?_,repSl_ars hb l (o+16) fun j q hj=>?_⟩
    · have:=repAt_of (s:=fun x=>x) (T:=T) (w:=w) (F:=fun k=>k < w.heap.size) (ρ:=noRho) (G:=fun k=>k < w.heap.size) (b:=b) (cs:=r.cells) (us:=cs) (off:=o) (fun x v h=>h) hb (fun k c hk=>by
        have:=h1 k c hk
        simpa using this) h2
      simpa using this
    · obtain ⟨cs,h1,h2⟩:=h (j+1) q (by simpa using hj)
      refine ⟨cs,fun k c hk=>?_,h2⟩
      have:=h1 k c hk
      rwa [show o+(j+1) * 16+k=o+16+j * 16+k by omega] at this

theorem open_ars {t e pt:TypeId} {f0 f1:Field} {fs:Array Field} {base:Nat} {v:Value} {d:DataW H} {ps:List MemPlace} (K:Bulk H) (ht:P.underlying t=some (.slice e)) (he:P.underlying e=some (.struct fs)) (ce:P.cellsOf e=16)
    (hfs:(fs.toList.map fun f=>(f.offset,P.cellsOf f.type,P.underlying f.type))=arFlds pt) (hp:P.underlying pt=some (.struct #[f0,f1]))
    (cp:P.cellsOf pt=2) (o0:f0.offset=0) (o1:f1.offset=1) (c0:P.cellsOf f0.type=1) (c1:P.cellsOf f1.type=1) (s0:P.underlying f0.type=some .string) (s1:P.underlying f1.type=some .string)
    (hval:Value.okWide P w .any base t v) (h:DataW.Trod enc P w 0 (fun _=>true) true t v d ps) :
    ∃ (x:AV) (l:List AR),(x=.nilS∧l=[]∨x=.sl 16 (arA l))∧Rep T w (fun k=>k < w.heap.size) noRho x v∧(l.length < 9223372036854775808∧∀ r∈l,(r.ps.getD []).length < 9223372036854775808)∧(l.map fun r=>r.bulk+1).sum≤K.B d:=by
  obtain ⟨a0,len0,cap0,rfl⟩:=okWide_slice ht hval
  obtain ⟨fuel,hf⟩:=h
  rcases Go.Deep.open_slice ht hf with ⟨hcs,_⟩ | ⟨a,len,cap,m,n,D,Pl,hcs,_,hl,hm,hmm,hx,hcell⟩
  · simp [Value.cells] at hcs
    obtain ⟨rfl,rfl,rfl⟩:=hcs
    exact ⟨.nilS,[],.inl ⟨rfl,rfl⟩,by simp [Rep],by simp,by simp⟩
  · simp [Value.cells] at hcs
    obtain ⟨rfl,rfl,rfl⟩:=hcs
    obtain ⟨b,o,rfl,hb⟩:=okWide_place ht hval
    simp only [if_true] at hmm
    simp only [Prod.mk.injEq] at hx
    obtain ⟨rfl,_⟩:=hx
    have h1:cap0≤9223372036854775807:=hm
    have each:∀ i,i < m→∃ r:AR,(∃ cs:List Value,(∀ k c,cs[k]? = some c→w.cell? ⟨b,o+i * 16+k,none⟩=some c)∧RepL T w (fun k=>k < w.heap.size) noRho r.cells cs)∧(r.ps.getD []).length < 9223372036854775808∧r.bulk+1≤K.B (D i):=by
      intro i hi
      obtain ⟨cs',g1,g2⟩:=hcell i hi
      rw [ce] at g1
      obtain ⟨_,hlen,hce⟩:=World.cells?_some g1
      obtain ⟨r,r1,r2,r3⟩:=trod_ar (T:=T) K he ce hfs hp cp o0 o1 c0 c1 s0 s1 g2
      refine ⟨r,⟨cs',fun k c hk=>?_,r1⟩,r2,r3⟩
      have hk':k < 16:=by
        rcases Nat.lt_or_ge k cs'.length with h | h
        · omega
        · simp [List.getElem?_eq_none h] at hk
      have:=hce k hk'
      rw [hk,addr_add,addr_add] at this
      exact this
    let f:Nat→AR:=fun i=>if h:i < m then Classical.choose (each i h) else ⟨0,[],[],[],[],[],[],[],[],[],[],[],[],[],0,none⟩
    have hfi:∀ i,i < m→(∃ cs:List Value,(∀ k c,cs[k]? = some c→w.cell? ⟨b,o+i * 16+k,none⟩=some c)∧RepL T w (fun k=>k < w.heap.size) noRho (f i).cells cs)∧((f i).ps.getD []).length < 9223372036854775808∧(f i).bulk+1≤K.B (D i):=by
      intro i hi
      have e:f i=Classical.choose (each i hi):=dif_pos hi
      rw [e]; exact Classical.choose_spec (each i hi)
    obtain ⟨l,hl'⟩:∃ l:List AR,l=(List.range len0).map f:=⟨_,rfl⟩
    have hll:l.length=len0:=by rw [hl']; simp
    refine ⟨.sl 16 (arA l),l,.inr rfl,?_,⟨by omega,?_⟩,?_⟩
    · simp only [Rep]
      refine .inl ⟨b,o,cap0,?_,?_,?_⟩
      · simp [hll]
      · simp [hll]; exact hl
      · refine repSl_ars hb l o fun j r hj=>?_
        have hjl:j < len0:=by
          rcases Nat.lt_or_ge j l.length with h | h
          · omega
          · simp [List.getElem?_eq_none h] at hj
        rw [hl',List.getElem?_map,List.getElem?_range hjl] at hj
        simp only [Option.map_some,Option.some.injEq] at hj
        subst hj
        exact (hfi j (by omega)).1
    · intro r hr
      rw [hl'] at hr
      obtain ⟨i,hi,rfl⟩:=List.mem_map.1 hr
      exact (hfi i (by have:=List.mem_range.1 hi; omega)).2.1
    · have hr:=K.range D (fun i=>(f i).bulk+1) (List.range len0) (fun i hi=>(hfi i (by have:=List.mem_range.1 hi; omega)).2.2)
      rw [K.slice]
      have e2:(l.map fun r=>r.bulk+1).sum=((List.range len0).map fun i=>(f i).bulk+1).sum:=by rw [hl',List.map_map]; rfl
      rw [e2]
      omega
end
end Wax


namespace Wax
open Go (IntKind)

def prmSz (l:List KVp):Nat:=(l.map fun p=>kvSz p+4).sum
theorem prmSz_app (a b:List KVp):prmSz (a++b)=prmSz a+prmSz b:=by simp [prmSz]
theorem meth_len (r:AR):r.meth.length≤10+r.method.length:=by
  unfold AR.meth
  split
  · omega
  · generalize (r.kind - 1).toNat=q
    match q with
    | 0 | 1 | 2 | 3 | 4 | 5 | 6 | 7=>(simp [aMeths,sAuth,sDkim,sDomk,sIprev,sSender,sSpf,sDmarc,sArc]; try omega)
    | q+8=>simp [aMeths,List.getD]
theorem sum4:∀ l:List KVp,(l.map fun p=>kvSz p+4).sum≤4 * (l.map fun p=>kvSz p+1).sum
  | []=>by simp
  | p::l=>by
    have:=sum4 l
    simp only [List.map_cons,List.sum_cons]; omega
theorem prm_len (r:AR):8+r.meth.length+r.value.length+prmSz r.prm≤100+4 * r.bulk:=by
  have h1:=meth_len r
  have h2:prmSz (rPs r.reason)≤10+r.reason.length:=by
    unfold rPs
    split
    · simp [prmSz]
    · simp [prmSz,kvSz,qReason]; omega
  have h3:prmSz (if r.kind=0 then r.ps.getD [] else r.props.map fun p=>(p.1++46::p.2.1,p.2.2))≤60+(r.domain.length+r.ident.length+r.fr.length+r.sender.length+r.ip.length+r.helo.length+r.auth.length+r.hkey.length+r.hval.length)+4 * ((r.ps.getD []).map fun p=>kvSz p+1).sum:=by
    split
    · have:=sum4 (r.ps.getD [])
      simp only [prmSz]; omega
    · unfold AR.props
      repeat' split
      all_goals simp [prmSz,kvSz,tSmtp,tHeader,tPolicy,nAuth,nD,nI,nFrom,nSender,nIprev,nMail,nHelo]
      all_goals omega
  simp only [AR.prm,prmSz_app,AR.bulk]
  omega
theorem only_bulk (r:AR):r.only.bulk≤r.bulk:=by
  unfold AR.only
  repeat' split
  all_goals simp [AR.bulk,ar0]
  all_goals omega
theorem sum_only:∀ l:List AR,((l.map AR.only).map fun r=>100+4 * r.bulk).sum≤104 * (l.map fun r=>r.bulk+1).sum
  | []=>by simp
  | r::l=>by
    have h1:=sum_only l
    have h2:=only_bulk r
    simp only [List.map_cons,List.sum_cons]
    omega
theorem slAR_or {x:AV} {l:List AR} (h:x=.nilS∧l=[]∨x=.sl 16 (arA l)):slAR x=some l:=by
  rcases h with ⟨rfl,rfl⟩ | rfl
  · rfl
  · simp [slAR,asARs_arA]
end Wax


namespace Wax
open Go (IntKind)

def asTr:List AV→Option (List (L8 × L8 × L8))
  | []=>some []
  | .agg [.str a,.str b,.str c]::r=>(asTr r).map ((a,b,c) :: ·)
  | _::_=>none
def slTr:AV→Option (List (L8 × L8 × L8))
  | .nilS=>some []
  | .sl es xs=>if es=3 then asTr xs else none
  | _=>none
theorem asTr_tr3:∀ l,asTr (tr3 l)=some l
  | []=>rfl
  | (a,b,c)::l=>by simp [asTr,asTr_tr3 l]
theorem slTr_tripV (l):slTr (tripV l)=some l:=by cases l <;> simp [tripV,slTr,← tr3_cons,asTr_tr3,-tr3_cons]
@[simp] theorem tr3_app {l m}:tr3 (l++m)=tr3 l++tr3 m:=by simp [tr3]

end Wax


namespace Wax
open Go (IntKind)

theorem blankA {S p t:L8} (e:S=p++t) (hb:(rB t).head? ≠ some 40) (hl:S.length < mid):∃ p',S=p'++rB t∧con_blank [.ref 0 0] [(0,.cells [.str S,.int .i64 (p.length:Int)])]=some (.bool true,[(0,.cells [.str S,.int .i64 (p'.length:Int)])]):=by
  subst e
  refine ⟨p++t.takeWhile ws4,?_,?_⟩
  · rw [List.append_assoc,rB,List.takeWhile_append_dropWhile]
  · have:=blank_at hb hl
    rw [this,List.length_append]
theorem wordA {S p t m:L8} (e:S=p++t) (hm:m.length < big) (hl:S.length < mid):∃ p',S=p'++t.drop (rWd m t).length∧con_word [.ref 0 0,.str m] [(0,.cells [.str S,.int .i64 (p.length:Int)])]=some (.str (rWd m t),[(0,.cells [.str S,.int .i64 (p'.length:Int)])]):=by
  subst e
  refine ⟨p++rWd m t,?_,?_⟩
  · have h:rWd m t++t.dropWhile (tkC m)=t:=List.takeWhile_append_dropWhile
    have h2:t.drop (rWd m t).length=t.dropWhile (tkC m):=by
      have:t.drop (rWd m t).length=(rWd m t++t.dropWhile (tkC m)).drop (rWd m t).length:=by rw [h]
      rw [this,List.drop_left]
    rw [h2,List.append_assoc,h]
  · have:=word_at hm hl
    rw [this,List.length_append]
theorem hasA {S p t:L8} {x:UInt8} {c:Int} (e:S=p++x::t) (hx:(x.toNat:Int)=c) (hl:S.length < mid):∃ p',S=p'++t∧con_has [.ref 0 0,.int .u8 c] [(0,.cells [.str S,.int .i64 (p.length:Int)])]=some (.bool true,[(0,.cells [.str S,.int .i64 (p'.length:Int)])]):=by
  subst e
  refine ⟨p++[x],by simp,?_⟩
  have:=has_yes hx hl
  rw [this,List.length_append]; rfl
theorem hasN {S p t:L8} {c:Int} (e:S=p++t) (hx:∀ x:UInt8,t.head? = some x→¬ (x.toNat:Int)=c) (hl:S.length < mid):con_has [.ref 0 0,.int .u8 c] [(0,.cells [.str S,.int .i64 (p.length:Int)])]=some (.bool false,[(0,.cells [.str S,.int .i64 (p.length:Int)])]):=by
  subst e
  cases t with
  | nil=>exact has_nil hl
  | cons x t=>exact has_no (hx x rfl) hl
theorem ne_int {x c:UInt8} (h:¬ x=c):¬ (x.toNat:Int)=(c.toNat:Int):=fun e=>h (UInt8.toNat_inj.1 (by omega))
theorem rQ_le:∀ (n:Nat) (t out:L8),t.length≤n→(rQ out t).2.2≤t.length
  | 0,t,out,h=>by
    cases t with
    | nil=>simp [rQ]
    | cons _ _=>simp at h
  | n+1,t,out,h=>by
    cases t with
    | nil=>simp [rQ]
    | cons c t =>
      simp only [List.length_cons] at h ⊢
      rw [rQ.eq_def]
      simp only
      split
      · show 1≤t.length+1
        omega
      split
      · cases t with
        | nil=>simp
        | cons d t =>
          simp only [List.length_cons] at h ⊢
          have:=rQ_le n t (out++[d]) (by omega)
          omega
      split
      · have:=rQ_le n t out (by omega)
        simp only; omega
      · have:=rQ_le n t (out++[c]) (by omega)
        simp only; omega
theorem rVal_le (m t:L8):(rVal m t).2.2≤t.length:=by
  unfold rVal
  cases t with
  | nil=>simp
  | cons c t =>
    simp only
    split
    · have:=rQ_le t.length t [] (Nat.le_refl _)
      simp only [List.length_cons]; omega
    · exact (List.takeWhile_prefix _).length_le
theorem valueA {S p t m:L8} (e:S=p++t) (hm:m.length < big) (hl:S.length < mid):∃ p',S=p'++t.drop (rVal m t).2.2∧con_value [.ref 0 0,.str m] [(0,.cells [.str S,.int .i64 (p.length:Int)])]=some (.tup [.str (rVal m t).1,.bool (rVal m t).2.1],[(0,.cells [.str S,.int .i64 (p'.length:Int)])]):=by
  subst e
  refine ⟨p++t.take (rVal m t).2.2,?_,?_⟩
  · rw [List.append_assoc,List.take_append_drop]
  · have:=value_at hm hl
    rw [this,List.length_append,List.length_take,Nat.min_eq_left (rVal_le m t)]

structure Inf where
  m:L8
  v:L8
  r:L8
  ps:List (L8 × L8 × L8)
def Inf.V (x:Inf):AV:=.agg [.str x.m,.str [],.str x.v,.str x.r,tripV x.ps]
def bB (t:L8):Option L8:=if (rB t).head? = some 40 then none else some (rB t)
def halvesP (s:L8):L8 × L8 × Bool:=match cutAt 46 s with | some q=>(q.1,q.2,true) | none=>(s,[],false)
def rLoop:Nat→Inf→L8→Option (Inf × Bool × L8)
  | 0,_,_=>none
  | n+1,x,t=>match bB t with
    | none=>none
    | some t1 =>
      if t1=[]∨t1.head? = some 59 then some (x,true,t1)
      else match bB (t1.drop (rWd [] t1).length) with
        | none=>none
        | some t3=>match t3 with
          | []=>some (x,false,[])
          | c::t4=>if c=61 then (match bB t4 with
              | none=>none
              | some t5 =>
                if lowS (rWd [] t1)=qReason then
                  (if (rVal [] t5).2.1=false∨x.r ≠ []∨x.ps ≠ [] then some (x,false,t5.drop (rVal [] t5).2.2)
                   else rLoop n { x with r:=(rVal [] t5).1 } (t5.drop (rVal [] t5).2.2))
                else
                  (if (rVal [64,58] t5).2.1=false∨(halvesP (rWd [] t1)).2.2=false∨mKw (halvesP (rWd [] t1)).1=false∨(halvesP (rWd [] t1)).2.1=[] then some (x,false,t5.drop (rVal [64,58] t5).2.2)
                   else rLoop n { x with ps:=x.ps++[((halvesP (rWd [] t1)).1,(halvesP (rWd [] t1)).2.1,(rVal [64,58] t5).1)] } (t5.drop (rVal [64,58] t5).2.2)))
            else some (x,false,c::t4)
def aInfo (t:L8):Option (Inf × Bool × Bool × L8):=match bB t with
  | none=>none
  | some t1 =>
    if mKw (rWd [] t1)=false then some (⟨rWd [] t1,[],[],[]⟩,false,false,t1.drop (rWd [] t1).length)
    else match bB (t1.drop (rWd [] t1).length) with
      | none=>none
      | some t3 =>
        if lowS (rWd [] t1)=sNone0∧t3=[] then some (⟨rWd [] t1,[],[],[]⟩,true,true,[])
        else match t3 with
          | []=>some (⟨rWd [] t1,[],[],[]⟩,false,false,[])
          | c::t4=>if c=47 then none else if c=61 then (match bB t4 with
              | none=>none
              | some t5 =>
                if mKw (rWd [] t5)=false then some (⟨rWd [] t1,rWd [] t5,[],[]⟩,false,false,t5.drop (rWd [] t5).length)
                else (rLoop (t5.length+1) ⟨rWd [] t1,rWd [] t5,[],[]⟩ (t5.drop (rWd [] t5).length)).map fun r=>(r.1,false,r.2.1,r.2.2))
            else some (⟨rWd [] t1,[],[],[]⟩,false,false,c::t4)
def con_info:List AV→List (Nat × AObj)→Option (AV × List (Nat × AObj))
  | [.ref 0 0],[(0,.cells [.str s,.int .i64 n])]=>rdMk half (fun t=>(aInfo t).map fun r=>(.tup [r.1.V,.bool r.2.1,.bool r.2.2.1],t.length - r.2.2.2.length)) s n
  | _,_=>none
theorem bB_sf {t u:L8} (h:bB t=some u):u <:+ t∧u=rB t∧(rB t).head? ≠ some 40:=by
  unfold bB at h
  split at h
  · simp at h
  · rename_i hb
    simp only [Option.some.injEq] at h
    exact ⟨h ▸ List.dropWhile_suffix _,h.symm,hb⟩
theorem bB_le {t u:L8} (h:bB t=some u):u.length≤t.length∧u=rB t∧(rB t).head? ≠ some 40:=⟨(bB_sf h).1.length_le,(bB_sf h).2⟩
theorem drop_le (t:L8) (n:Nat):(t.drop n).length≤t.length:=by simp
theorem rLoop_sf:∀ (n:Nat) (x:Inf) (t:L8) {R:Inf × Bool × L8},rLoop n x t=some R→R.2.2 <:+ t
  | 0,_,_,_,h=>by simp [rLoop] at h
  | n+1,x,t,R,h=>by
    rw [rLoop] at h
    split at h
    · simp at h
    rename_i t1 h1
    have l1:=(bB_sf h1).1
    split at h
    · simp only [Option.some.injEq] at h; subst h; exact l1
    split at h
    · simp at h
    rename_i t3 h3
    have l3:=((bB_sf h3).1.trans (List.drop_suffix _ _)).trans l1
    split at h
    · simp only [Option.some.injEq] at h; subst h; exact List.nil_suffix
    rename_i c t4
    split at h
    · split at h
      · simp at h
      rename_i t5 h5
      have l5:=((bB_sf h5).1.trans (List.suffix_cons c t4)).trans l3
      split at h
      · split at h
        · simp only [Option.some.injEq] at h; subst h
          exact (List.drop_suffix _ _).trans l5
        · exact (rLoop_sf n _ _ h).trans ((List.drop_suffix _ _).trans l5)
      · split at h
        · simp only [Option.some.injEq] at h; subst h
          exact (List.drop_suffix _ _).trans l5
        · exact (rLoop_sf n _ _ h).trans ((List.drop_suffix _ _).trans l5)
    · simp only [Option.some.injEq] at h; subst h
      exact l3
theorem aInfo_sf {t:L8} {r:Inf × Bool × Bool × L8} (h:aInfo t=some r):r.2.2.2 <:+ t:=by
  unfold aInfo at h
  split at h
  · simp at h
  rename_i t1 h1
  have l1:=(bB_sf h1).1
  split at h
  · simp only [Option.some.injEq] at h; subst h
    exact (List.drop_suffix _ _).trans l1
  split at h
  · simp at h
  rename_i t3 h3
  have l3:=((bB_sf h3).1.trans (List.drop_suffix _ _)).trans l1
  split at h
  · simp only [Option.some.injEq] at h; subst h; exact List.nil_suffix
  split at h
  · simp only [Option.some.injEq] at h; subst h; exact List.nil_suffix
  rename_i c t4 _
  split at h
  · simp at h
  split at h
  · split at h
    · simp at h
    rename_i t5 h5
    have l5:=((bB_sf h5).1.trans (List.suffix_cons c t4)).trans l3
    split at h
    · simp only [Option.some.injEq] at h; subst h
      exact (List.drop_suffix _ _).trans l5
    · cases hr:rLoop (t5.length+1) ⟨rWd [] t1,rWd [] t5,[],[]⟩ (t5.drop (rWd [] t5).length) with
      | none=>simp [hr] at h
      | some q =>
        simp only [hr,Option.map_some,Option.some.injEq] at h
        subst h
        exact (rLoop_sf _ _ _ hr).trans ((List.drop_suffix _ _).trans l5)
  · simp only [Option.some.injEq] at h; subst h
    exact l3
theorem hasRefL_tc3:∀ l:List (L8 × L8 × L8),hasRefL (tc3 l)=false
  | []=>rfl
  | x::l=>by simp [hasRefL,hasRefL_tc3 l]
theorem end_at {S p q u:L8} (e:S=p++u) (e0:S=q++u):p.length=q.length:=by
  have h1:=congrArg List.length e
  have h2:=congrArg List.length e0
  simp only [List.length_append] at h1 h2
  omega
section
variable {Γ:Gam} (h99:Γ.fn 99=con_MailKeyword) (h102:Γ.fn 102=con_MailHalves) (h112:Γ.fn 112=con_MailLower) (s224:Γ.st 224=con_has) (s226:Γ.st 226=con_word) (s227:Γ.st 227=con_blank) (s228:Γ.st 228=con_value)
include h99 h102 h112 s224 s226 s227 s228
set_option maxRecDepth 100000 in
set_option maxHeartbeats 8000000 in
theorem info_loop {S:L8} (hlh:S.length < half) {pf:L8} {R:Inf × Bool × L8} (ef:S=pf++R.2.2) {n:Nat} {x:Inf} {p t:L8} (e:S=p++t) (hR:rLoop n x t=some R) (hps:x.ps=[]) {ex:List (Nat × AV)} :
    awp Γ (.loop [0,2] b_spec_areader_info_5) (blockQ 0 (finS 1 [.c (some 5) 2,.t 3,.t 4] fun v=>v=some (.tup [R.1.V,.bool false,.bool R.2.1],[(0,rdO S pf.length)]))) ⟨(0,.ref 1000000 0)::(2,.ref 2 0)::ex,[(1000000,.cells [.str S,.int .i64 (p.length:Int)]),(2,.cells [.str x.m,.str [],.str x.v,.str x.r,.nilS])]⟩:=by
  refine awp_loop2 (σ:=Inf × L8 × L8 × Nat) (fun q=>⟨[(0,.ref 1000000 0),(2,.ref 2 0)],grH 183 q.1.ps.length (tc3 q.1.ps)++[(1000000,.cells [.str S,.int .i64 (q.2.1.length:Int)]),(2,.cells [.str q.1.m,.str [],.str q.1.v,.str q.1.r,grV 183 3 q.1.ps.length])]⟩)
    (fun q=>S=q.2.1++q.2.2.1∧rLoop q.2.2.2 q.1 q.2.2.1=some R∧q.1.ps.length+q.2.2.1.length≤S.length) (fun q=>q.2.2.2) (x,p,t,n) (by simp [hps]) ⟨e,hR,by rw [hps,e]; simp⟩ ?_
  clear hps hR e
  have hl:S.length < mid:=by simp only [half] at hlh; simp only [mid]; omega
  rintro ⟨⟨xm,xv,xr,ps⟩,p,t,n⟩ ⟨e,hR,hpl⟩ LQ hLQ
  simp only at e hR hpl
  cases ps with
  | nil =>
    obtain ⟨n,rfl⟩:∃ k,n=k+1:=by
      cases n with
      | zero=>simp [rLoop] at hR
      | succ k=>exact ⟨k,rfl⟩
    rw [rLoop] at hR
    split at hR
    · simp at hR
    rename_i t1 h1
    obtain ⟨_,rfl,hb1⟩:=bB_le h1
    obtain ⟨p1,e1,k1⟩:=blankA e hb1 hl
    have l1:=(bB_le h1).1
    clear h1 hb1
    generalize rB t=t1 at *
    have hS1:=congrArg List.length e1
    simp only [List.length_append] at hS1
    split at hR
    · rename_i hend
      simp only [Option.some.injEq] at hR
      subst hR
      have hpf:=end_at e1 ef
      rw [← hpf]
      clear hpf ef
      cases t1 with
      | nil =>
        have hat:(p1.length:Int)=(S.length:Int):=by simp at hS1; omega
        simp -implicitDefEqProofs [b_spec_areader_info_5,f_spec_areader_info_4,acallS,reach_succ,s224,s226,s227,s228,k1,hat,Inf.V,tripV]
      | cons c t1 =>
        simp only [reduceCtorEq,false_or,List.head?_cons,Option.some.injEq] at hend
        subst hend
        have hat:¬ (p1.length:Int)=(S.length:Int):=by simp only [List.length_cons] at hS1; omega
        have g:S[p1.length]? = some 59:=by rw [e1]; exact get_mid rfl
        simp -implicitDefEqProofs [b_spec_areader_info_5,f_spec_areader_info_4,acallS,reach_succ,s224,s226,s227,s228,k1,hat,g,Inf.V,tripV]
    rename_i hend
    have hne:t1 ≠ []:=fun h=>hend (.inl h)
    obtain ⟨c,t1',ht1⟩:∃ c t',t1=c::t':=by cases t1 with | nil=>exact absurd rfl hne | cons c t'=>exact ⟨c,t',rfl⟩
    have hat:¬ (p1.length:Int)=(S.length:Int):=by rw [ht1] at hS1; simp only [List.length_cons] at hS1; omega
    have g:S[p1.length]? = some c:=by rw [e1,ht1]; exact get_mid rfl
    have hc59:¬ (c.toNat:Int)=59:=by
      refine ne_int (c:=59) fun h=>hend (.inr ?_)
      rw [ht1,h]; rfl
    simp -implicitDefEqProofs [b_spec_areader_info_5,f_spec_areader_info_4,acallS,reach_succ,s224,s226,s227,s228,k1,hat,g,hc59,tripV]
    clear hat g hc59 ht1 hne hend k1 hS1
    obtain ⟨p2,e2,k2⟩:=wordA (m:=[]) e1 (by simp [big]) hl
    have hwl:(rWd [] t1).length < big:=by
      have:=congrArg List.length e1
      have h3:(rWd [] t1).length≤t1.length:=(List.takeWhile_prefix _).length_le
      simp only [List.length_append] at this
      simp only [mid] at hl
      simp only [big]
      omega
    have k112:con_MailLower [.str (rWd [] t1)]=some (.str (lowS (rWd [] t1))):=if_pos hwl
    have k102:con_MailHalves [.str (rWd [] t1),.int .u8 46]=some (cutV 46 (rWd [] t1)):=if_pos hwl
    generalize rWd [] t1=W at *
    split at hR
    · simp at hR
    rename_i t3 h3
    obtain ⟨_,rfl,hb3⟩:=bB_le h3
    obtain ⟨p3,e3,k3⟩:=blankA e2 hb3 hl
    have l3:=(bB_le h3).1
    simp only [List.length_drop] at l3
    clear h3 hb3
    generalize rB (t1.drop W.length)=t3 at *
    cases t3 with
    | nil =>
      simp only [Option.some.injEq] at hR
      subst hR
      have hpf:=end_at e3 ef
      rw [← hpf]
      have q61:=hasN (c:=61) e3 (by intro x hx; simp at hx) hl
      simp -implicitDefEqProofs [f_spec_areader_info_3,acallS,reach_succ,s224,s226,s227,s228,k2,k3,q61,Inf.V,tripV]
    | cons c t4 =>
    simp only at hR
    by_cases c61:c=61
    rotate_left
    · rw [if_neg c61] at hR
      simp only [Option.some.injEq] at hR
      subst hR
      have hpf:=end_at e3 ef
      rw [← hpf]
      have q61:=hasN (c:=61) e3 (by
            intro x hx; simp at hx; subst hx
            exact ne_int (c:=61) c61) hl
      simp -implicitDefEqProofs [f_spec_areader_info_3,acallS,reach_succ,s224,s226,s227,s228,k2,k3,q61,Inf.V,tripV]
    rw [if_pos c61] at hR
    obtain ⟨p4,e4,q61⟩:=hasA (c:=61) e3 (by rw [c61]; rfl) hl
    split at hR
    · simp at hR
    rename_i t5 h5
    obtain ⟨_,rfl,hb5⟩:=bB_le h5
    obtain ⟨p5,e5,k5⟩:=blankA e4 hb5 hl
    have l5:=(bB_le h5).1
    clear h5 hb5
    generalize rB t4=t5 at *
    simp only [List.length_cons] at l3
    simp -implicitDefEqProofs [f_spec_areader_info_3,acallS,reach_succ,s224,s226,s227,s228,k2,k3,q61,k5,tripV]
    clear k2 k3 q61 k5
    split at hR
    · rename_i hre
      simp only [qReason] at hre
      obtain ⟨p6,e6,k6⟩:=valueA (m:=[]) e5 (by simp [big]) hl
      have l6:=drop_le t5 (rVal [] t5).2.2
      generalize t5.drop (rVal [] t5).2.2=t6 at *
      generalize rVal [] t5=V at *
      obtain ⟨w,ok,nn⟩:=V
      simp only at hR
      split at hR
      · rename_i hbad
        simp only [Option.some.injEq] at hR
        subst hR
        have hpf:=end_at e6 ef
        rw [← hpf]
        clear hpf ef
        cases ok with
        | false =>
          simp -implicitDefEqProofs [acallS,reach_succ,s224,s226,s227,s228,f_spec_areader_info_2,f_spec_areader_info_1,k6,hre,acall,h112,k112,h102,k102,h99,Inf.V,tripV]
        | true =>
          by_cases hxr:xr=[]
          · simp [hxr] at hbad
          · simp -implicitDefEqProofs [acallS,reach_succ,s224,s226,s227,s228,f_spec_areader_info_2,f_spec_areader_info_1,k6,hre,acall,h112,k112,h102,k102,h99,Inf.V,tripV,hxr]
      · rename_i hbad
        simp only [not_or,Bool.not_eq_false,ne_eq,Decidable.not_not] at hbad
        obtain ⟨rfl,hxr,hpz⟩:=hbad
        subst hxr
        simp -implicitDefEqProofs [acallS,reach_succ,s224,s226,s227,s228,f_spec_areader_info_2,f_spec_areader_info_1,k6,hre,acall,h112,k112,h102,k102,h99,tripV]
        exact hLQ (⟨xm,xv,w,[]⟩,p6,t6,n) ⟨e6,hR,by simp; omega⟩ (by simp) _ (by simp)
    · rename_i hre
      simp only [qReason] at hre
      obtain ⟨p6,e6,k6⟩:=valueA (m:=[64,58]) e5 (by simp [big]) hl
      have l6:=drop_le t5 (rVal [64,58] t5).2.2
      generalize t5.drop (rVal [64,58] t5).2.2=t6 at *
      generalize rVal [64,58] t5=V at *
      obtain ⟨w,ok,nn⟩:=V
      simp only at hR
      cases hc:cutAt 46 W with
      | none =>
        simp only [cutV,hc] at k102
        simp only [halvesP,hc] at hR
        rw [if_pos (by simp)] at hR
        simp only [Option.some.injEq] at hR
        subst hR
        have hpf:=end_at e6 ef
        rw [← hpf]
        clear hpf ef
        cases ok with
        | false =>
          simp -implicitDefEqProofs [acallS,reach_succ,s224,s226,s227,s228,f_spec_areader_info_2,f_spec_areader_info_1,k6,hre,acall,h112,k112,h102,k102,h99,Inf.V,tripV]
        | true =>
          simp -implicitDefEqProofs [acallS,reach_succ,s224,s226,s227,s228,f_spec_areader_info_2,f_spec_areader_info_1,k6,hre,acall,h112,k112,h102,k102,h99,Inf.V,tripV]
      | some ab =>
        obtain ⟨a,b⟩:=ab
        have hlens:=cutAt_lens hc
        simp only at hlens
        have k99:con_MailKeyword [.str a]=some (.bool (mKw a)):=if_pos (by omega)
        simp only [cutV,hc] at k102
        simp only [halvesP,hc] at hR
        split at hR
        · rename_i hbad
          simp only [Option.some.injEq] at hR
          subst hR
          have hpf:=end_at e6 ef
          rw [← hpf]
          clear hpf ef
          cases ok with
          | false =>
            simp -implicitDefEqProofs [acallS,reach_succ,s224,s226,s227,s228,f_spec_areader_info_2,f_spec_areader_info_1,k6,hre,acall,h112,k112,h102,k102,h99,Inf.V,tripV]
          | true =>
            cases hka:mKw a with
            | false =>
              rw [hka] at k99
              simp -implicitDefEqProofs [acallS,reach_succ,s224,s226,s227,s228,f_spec_areader_info_2,f_spec_areader_info_1,k6,hre,acall,h112,k112,h102,k102,h99,Inf.V,tripV,k99]
            | true =>
              rw [hka] at k99
              have hb:b=[]:=by simpa [hka] using hbad
              subst hb
              simp -implicitDefEqProofs [acallS,reach_succ,s224,s226,s227,s228,f_spec_areader_info_2,f_spec_areader_info_1,k6,hre,acall,h112,k112,h102,k102,h99,Inf.V,tripV,k99]
        · rename_i hbad
          simp only [not_or,Bool.not_eq_false,ne_eq] at hbad
          obtain ⟨rfl,_,hka,hb⟩:=hbad
          rw [hka] at k99
          simp only [half] at hlh
          simp -implicitDefEqProofs [acallS,reach_succ,s224,s226,s227,s228,f_spec_areader_info_2,f_spec_areader_info_1,k6,hre,acall,h112,k112,h102,k102,h99,tripV,k99,hb]
          exact hLQ (⟨xm,xv,xr,[]++[(a,b,w)]⟩,p6,t6,n) ⟨e6,hR,by simp at hpl ⊢; omega⟩ (by simp) _ (by simp [])
  | cons y ys =>
    obtain ⟨ps,hps⟩:∃ l,l=y::ys:=⟨_,rfl⟩
    have hk:ps.length=ys.length+1:=by rw [hps]; rfl
    rw [← hps] at hR hLQ hpl ⊢
    have hG:group 3 (ys.length+1) (tc3 ps)=tr3 ps:=by rw [← hk]; exact group_tc3
    have hT:tripV ps=.sl 3 (tr3 ps):=by rw [hps]; rfl
    have hRf:=hasRefL_tc3 ps
    have hTk:List.take ((ys.length+1) * 3) (tc3 ps)=tc3 ps:=by rw [← hk]; exact List.take_of_length_le (by simp)
    clear hps
    obtain ⟨n,rfl⟩:∃ k,n=k+1:=by
      cases n with
      | zero=>simp [rLoop] at hR
      | succ k=>exact ⟨k,rfl⟩
    rw [rLoop] at hR
    split at hR
    · simp at hR
    rename_i t1 h1
    obtain ⟨_,rfl,hb1⟩:=bB_le h1
    obtain ⟨p1,e1,k1⟩:=blankA e hb1 hl
    have l1:=(bB_le h1).1
    clear h1 hb1
    generalize rB t=t1 at *
    have hS1:=congrArg List.length e1
    simp only [List.length_append] at hS1
    split at hR
    · rename_i hend
      simp only [Option.some.injEq] at hR
      subst hR
      have hpf:=end_at e1 ef
      rw [← hpf]
      clear hpf ef
      cases t1 with
      | nil =>
        have hat:(p1.length:Int)=(S.length:Int):=by simp at hS1; omega
        simp -implicitDefEqProofs [b_spec_areader_info_5,f_spec_areader_info_4,acallS,reach_succ,s224,s226,s227,s228,k1,hat,Inf.V,hk,hG,hT,hRf]
      | cons c t1 =>
        simp only [reduceCtorEq,false_or,List.head?_cons,Option.some.injEq] at hend
        subst hend
        have hat:¬ (p1.length:Int)=(S.length:Int):=by simp only [List.length_cons] at hS1; omega
        have g:S[p1.length]? = some 59:=by rw [e1]; exact get_mid rfl
        simp -implicitDefEqProofs [b_spec_areader_info_5,f_spec_areader_info_4,acallS,reach_succ,s224,s226,s227,s228,k1,hat,g,Inf.V,hk,hG,hT,hRf]
    rename_i hend
    have hne:t1 ≠ []:=fun h=>hend (.inl h)
    obtain ⟨c,t1',ht1⟩:∃ c t',t1=c::t':=by cases t1 with | nil=>exact absurd rfl hne | cons c t'=>exact ⟨c,t',rfl⟩
    have hat:¬ (p1.length:Int)=(S.length:Int):=by rw [ht1] at hS1; simp only [List.length_cons] at hS1; omega
    have g:S[p1.length]? = some c:=by rw [e1,ht1]; exact get_mid rfl
    have hc59:¬ (c.toNat:Int)=59:=by
      refine ne_int (c:=59) fun h=>hend (.inr ?_)
      rw [ht1,h]; rfl
    simp -implicitDefEqProofs [b_spec_areader_info_5,f_spec_areader_info_4,acallS,reach_succ,s224,s226,s227,s228,k1,hat,g,hc59,hk,hG,hT,hRf]
    clear hat g hc59 ht1 hne hend k1 hS1
    obtain ⟨p2,e2,k2⟩:=wordA (m:=[]) e1 (by simp [big]) hl
    have hwl:(rWd [] t1).length < big:=by
      have:=congrArg List.length e1
      have h3:(rWd [] t1).length≤t1.length:=(List.takeWhile_prefix _).length_le
      simp only [List.length_append] at this
      simp only [mid] at hl
      simp only [big]
      omega
    have k112:con_MailLower [.str (rWd [] t1)]=some (.str (lowS (rWd [] t1))):=if_pos hwl
    have k102:con_MailHalves [.str (rWd [] t1),.int .u8 46]=some (cutV 46 (rWd [] t1)):=if_pos hwl
    generalize rWd [] t1=W at *
    split at hR
    · simp at hR
    rename_i t3 h3
    obtain ⟨_,rfl,hb3⟩:=bB_le h3
    obtain ⟨p3,e3,k3⟩:=blankA e2 hb3 hl
    have l3:=(bB_le h3).1
    simp only [List.length_drop] at l3
    clear h3 hb3
    generalize rB (t1.drop W.length)=t3 at *
    cases t3 with
    | nil =>
      simp only [Option.some.injEq] at hR
      subst hR
      have hpf:=end_at e3 ef
      rw [← hpf]
      have q61:=hasN (c:=61) e3 (by intro x hx; simp at hx) hl
      simp -implicitDefEqProofs [f_spec_areader_info_3,acallS,reach_succ,s224,s226,s227,s228,k2,k3,q61,Inf.V,hk,hG,hT,hRf]
    | cons c t4 =>
    simp only at hR
    by_cases c61:c=61
    rotate_left
    · rw [if_neg c61] at hR
      simp only [Option.some.injEq] at hR
      subst hR
      have hpf:=end_at e3 ef
      rw [← hpf]
      have q61:=hasN (c:=61) e3 (by
            intro x hx; simp at hx; subst hx
            exact ne_int (c:=61) c61) hl
      simp -implicitDefEqProofs [f_spec_areader_info_3,acallS,reach_succ,s224,s226,s227,s228,k2,k3,q61,Inf.V,hk,hG,hT,hRf]
    rw [if_pos c61] at hR
    obtain ⟨p4,e4,q61⟩:=hasA (c:=61) e3 (by rw [c61]; rfl) hl
    split at hR
    · simp at hR
    rename_i t5 h5
    obtain ⟨_,rfl,hb5⟩:=bB_le h5
    obtain ⟨p5,e5,k5⟩:=blankA e4 hb5 hl
    have l5:=(bB_le h5).1
    clear h5 hb5
    generalize rB t4=t5 at *
    simp only [List.length_cons] at l3
    simp -implicitDefEqProofs [f_spec_areader_info_3,acallS,reach_succ,s224,s226,s227,s228,k2,k3,q61,k5,hk,hG,hT,hRf]
    clear k2 k3 q61 k5
    split at hR
    · rename_i hre
      simp only [qReason] at hre
      obtain ⟨p6,e6,k6⟩:=valueA (m:=[]) e5 (by simp [big]) hl
      have l6:=drop_le t5 (rVal [] t5).2.2
      generalize t5.drop (rVal [] t5).2.2=t6 at *
      generalize rVal [] t5=V at *
      obtain ⟨w,ok,nn⟩:=V
      simp only at hR
      split at hR
      · rename_i hbad
        simp only [Option.some.injEq] at hR
        subst hR
        have hpf:=end_at e6 ef
        rw [← hpf]
        clear hpf ef
        cases ok with
        | false =>
          simp -implicitDefEqProofs [acallS,reach_succ,s224,s226,s227,s228,f_spec_areader_info_2,f_spec_areader_info_1,k6,hre,acall,h112,k112,h102,k102,h99,Inf.V,hk,hG,hT,hRf]
        | true =>
          by_cases hxr:xr=[]
          · subst hxr
            simp -implicitDefEqProofs [acallS,reach_succ,s224,s226,s227,s228,f_spec_areader_info_2,f_spec_areader_info_1,k6,hre,acall,h112,k112,h102,k102,h99,Inf.V,hk,hG,hT,hRf]
          · simp -implicitDefEqProofs [acallS,reach_succ,s224,s226,s227,s228,f_spec_areader_info_2,f_spec_areader_info_1,k6,hre,acall,h112,k112,h102,k102,h99,Inf.V,hk,hG,hT,hRf,hxr]
      · rename_i hbad
        simp only [not_or,Bool.not_eq_false,ne_eq,Decidable.not_not] at hbad
        obtain ⟨rfl,hxr,hpz⟩:=hbad
        rw [hpz] at hk
        simp at hk
    · rename_i hre
      simp only [qReason] at hre
      obtain ⟨p6,e6,k6⟩:=valueA (m:=[64,58]) e5 (by simp [big]) hl
      have l6:=drop_le t5 (rVal [64,58] t5).2.2
      generalize t5.drop (rVal [64,58] t5).2.2=t6 at *
      generalize rVal [64,58] t5=V at *
      obtain ⟨w,ok,nn⟩:=V
      simp only at hR
      cases hc:cutAt 46 W with
      | none =>
        simp only [cutV,hc] at k102
        simp only [halvesP,hc] at hR
        rw [if_pos (by simp)] at hR
        simp only [Option.some.injEq] at hR
        subst hR
        have hpf:=end_at e6 ef
        rw [← hpf]
        clear hpf ef
        cases ok with
        | false =>
          simp -implicitDefEqProofs [acallS,reach_succ,s224,s226,s227,s228,f_spec_areader_info_2,f_spec_areader_info_1,k6,hre,acall,h112,k112,h102,k102,h99,Inf.V,hk,hG,hT,hRf]
        | true =>
          simp -implicitDefEqProofs [acallS,reach_succ,s224,s226,s227,s228,f_spec_areader_info_2,f_spec_areader_info_1,k6,hre,acall,h112,k112,h102,k102,h99,Inf.V,hk,hG,hT,hRf]
      | some ab =>
        obtain ⟨a,b⟩:=ab
        have hlens:=cutAt_lens hc
        simp only at hlens
        have k99:con_MailKeyword [.str a]=some (.bool (mKw a)):=if_pos (by omega)
        simp only [cutV,hc] at k102
        simp only [halvesP,hc] at hR
        split at hR
        · rename_i hbad
          simp only [Option.some.injEq] at hR
          subst hR
          have hpf:=end_at e6 ef
          rw [← hpf]
          clear hpf ef
          cases ok with
          | false =>
            simp -implicitDefEqProofs [acallS,reach_succ,s224,s226,s227,s228,f_spec_areader_info_2,f_spec_areader_info_1,k6,hre,acall,h112,k112,h102,k102,h99,Inf.V,hk,hG,hT,hRf]
          | true =>
            cases hka:mKw a with
            | false =>
              rw [hka] at k99
              simp -implicitDefEqProofs [acallS,reach_succ,s224,s226,s227,s228,f_spec_areader_info_2,f_spec_areader_info_1,k6,hre,acall,h112,k112,h102,k102,h99,Inf.V,hk,hG,hT,hRf,k99]
            | true =>
              rw [hka] at k99
              have hb:b=[]:=by simpa [hka] using hbad
              subst hb
              simp -implicitDefEqProofs [acallS,reach_succ,s224,s226,s227,s228,f_spec_areader_info_2,f_spec_areader_info_1,k6,hre,acall,h112,k112,h102,k102,h99,Inf.V,hk,hG,hT,hRf,k99]
        · rename_i hbad
          simp only [not_or,Bool.not_eq_false,ne_eq] at hbad
          obtain ⟨rfl,_,hka,hb⟩:=hbad
          rw [hka] at k99
          simp only [half] at hlh
          simp -implicitDefEqProofs [acallS,reach_succ,s224,s226,s227,s228,f_spec_areader_info_2,f_spec_areader_info_1,k6,hre,acall,h112,k112,h102,k102,h99,hk,hG,hT,hRf,k99,hb]
          refine ⟨by omega,?_⟩
          exact hLQ (⟨xm,xv,xr,ps++[(a,b,w)]⟩,p6,t6,n) ⟨e6,hR,by simp at hpl ⊢; omega⟩ (by simp) _ (by simp [hk,hTk])
set_option maxRecDepth 100000 in
set_option maxHeartbeats 4000000 in
theorem ok_info:∀ args hp q,con_info args hp=some q→runsS Γ c_spec_areader_info args hp (fun v=>v=some q):=by
  intro args hp q h
  simp only [con_info] at h
  split at h <;> (try simp at h; done)
  rename_i S n
  obtain ⟨p,t,v,k,e0,rfl,hf,hlh,rfl⟩:=rdMk_spec h
  have hl:S.length < mid:=by simp only [half] at hlh; simp only [mid]; omega
  clear h
  cases hr:aInfo t with
  | none=>simp [hr] at hf
  | some r =>
    simp only [hr,Option.map_some,Option.some.injEq,Prod.mk.injEq] at hf
    obtain ⟨rfl,rfl⟩:=hf
    obtain ⟨pf,ef,lf⟩:∃ pf,S=pf++r.2.2.2∧p.length+(t.length - r.2.2.2.length)=pf.length:=by
      obtain ⟨d,hd⟩:=aInfo_sf hr
      refine ⟨p++d,by rw [e0,← hd,List.append_assoc],?_⟩
      have:=congrArg List.length hd
      simp only [List.length_append] at this ⊢
      omega
    rw [lf]
    have hlb:S.length < big:=by simp only [mid] at hl; simp only [big]; omega
    unfold aInfo at hr
    split at hr
    · simp at hr
    rename_i t1 h1
    obtain ⟨_,rfl,hb1⟩:=bB_le h1
    obtain ⟨p1,e1,k1⟩:=blankA e0 hb1 hl
    obtain ⟨p2,e2,k2⟩:=wordA (m:=[]) e1 (by simp [big]) hl
    have hml:(rWd [] (rB t)).length < big:=by
      have:=congrArg List.length e1
      have h3:(rWd [] (rB t)).length≤(rB t).length:=(List.takeWhile_prefix _).length_le
      simp only [List.length_append] at this
      omega
    have k99:con_MailKeyword [.str (rWd [] (rB t))]=some (.bool (mKw (rWd [] (rB t)))):=if_pos hml
    have k112:con_MailLower [.str (rWd [] (rB t))]=some (.str (lowS (rWd [] (rB t)))):=if_pos hml
    generalize rWd [] (rB t)=M at *
    split at hr
    · rename_i hk
      rw [hk] at k99
      simp only [Option.some.injEq] at hr
      subst hr
      have:=end_at e2 ef
      rw [← this]
      simp -implicitDefEqProofs [c_spec_areader_info,f_spec_areader_info_10,acallS,reach_succ,s224,s226,s227,s228,k1,k2,acall,h99,k99,Inf.V,tripV]
    rename_i hk
    replace hk:mKw M=true:=by simpa using hk
    rw [hk] at k99
    split at hr
    · simp at hr
    rename_i t3 h3
    obtain ⟨_,rfl,hb3⟩:=bB_le h3
    obtain ⟨p3,e3,k3⟩:=blankA e2 hb3 hl
    generalize rB ((rB t).drop M.length)=t3 at *
    simp -implicitDefEqProofs [c_spec_areader_info,f_spec_areader_info_10,acallS,reach_succ,s224,s226,s227,s228,k1,k2,k3,acall,h99,k99]
    have hS3:=congrArg List.length e3
    simp only [List.length_append] at hS3
    have hat:((p3.length:Int)=(S.length:Int))=(t3=[]):=by
      apply propext
      cases t3 with
      | nil=>simp at hS3 ⊢; omega
      | cons c t4=>simp only [List.length_cons] at hS3; simp; omega
    by_cases hcond:lowS M=sNone0∧t3=[]
    · rw [if_pos hcond] at hr
      obtain ⟨hno,ht3⟩:=hcond
      simp only [sNone0] at hno
      simp only [Option.some.injEq] at hr
      subst hr
      subst ht3
      have:=end_at e3 ef
      rw [← this]
      simp -implicitDefEqProofs [f_spec_areader_info_9,acallS,reach_succ,s224,s226,s227,s228,acall,h112,k112,hno,hat,Inf.V,tripV]
    rw [if_neg hcond] at hr
    have rest:∀ ex:List (Nat × AV),awp Γ f_spec_areader_info_8 (finS 1 [.c (some 5) 2,.t 3,.t 4] fun v=>v=some (.tup [r.1.V,.bool r.2.1,.bool r.2.2.1],[(0,rdO S pf.length)])) ⟨(0,.ref 1000000 0)::(2,.ref 2 0)::ex,[(1000000,.cells [.str S,.int .i64 (p3.length:Int)]),(2,.cells [.str M,.str [],.str [],.str [],.nilS])]⟩:=by
      intro ex
      clear k1 k2 k3 hat hS3
      cases t3 with
      | nil =>
        simp only [Option.some.injEq] at hr
        subst hr
        have q47:=hasN (c:=47) e3 (by intro x hx; simp at hx) hl
        have q61:=hasN (c:=61) e3 (by intro x hx; simp at hx) hl
        have:=end_at e3 ef
        rw [← this]
        simp -implicitDefEqProofs [f_spec_areader_info_8,f_spec_areader_info_7,acallS,reach_succ,s224,s226,s227,s228,q47,q61,Inf.V,tripV]
      | cons c t4 =>
        simp only at hr
        by_cases c47:c=47
        · rw [if_pos c47] at hr; simp at hr
        rw [if_neg c47] at hr
        have q47:=hasN (c:=47) e3 (by
          intro x hx; simp at hx; subst hx
          exact ne_int (c:=47) c47) hl
        by_cases c61:c=61
        · rw [if_pos c61] at hr
          have q61:=hasA (c:=61) e3 (by rw [c61]; rfl) hl
          obtain ⟨p4,e4,q61⟩:=q61
          split at hr
          · simp at hr
          rename_i t5 h5
          obtain ⟨_,rfl,hb5⟩:=bB_le h5
          obtain ⟨p5,e5,k5⟩:=blankA e4 hb5 hl
          obtain ⟨p6,e6,k6⟩:=wordA (m:=[]) e5 (by simp [big]) hl
          have hvl:(rWd [] (rB t4)).length < big:=by
            have:=congrArg List.length e5
            have h3:(rWd [] (rB t4)).length≤(rB t4).length:=(List.takeWhile_prefix _).length_le
            simp only [List.length_append] at this
            omega
          have kv99:con_MailKeyword [.str (rWd [] (rB t4))]=some (.bool (mKw (rWd [] (rB t4)))):=if_pos hvl
          generalize rB t4=t5 at *
          generalize rWd [] t5=W at *
          split at hr
          · rename_i hw
            rw [hw] at kv99
            simp only [Option.some.injEq] at hr
            subst hr
            have:=end_at e6 ef
            rw [← this]
            simp -implicitDefEqProofs [f_spec_areader_info_8,f_spec_areader_info_7,f_spec_areader_info_6,acallS,reach_succ,s224,s226,s227,s228,q47,q61,k5,k6,acall,h99,kv99,Inf.V,tripV]
          · rename_i hw
            replace hw:mKw W=true:=by simpa using hw
            rw [hw] at kv99
            simp -implicitDefEqProofs [f_spec_areader_info_8,f_spec_areader_info_7,f_spec_areader_info_6,acallS,reach_succ,s224,s226,s227,s228,q47,q61,k5,k6,acall,h99,kv99]
            cases hq:rLoop (t5.length+1) ⟨M,W,[],[]⟩ (t5.drop W.length) with
            | none=>simp [hq] at hr
            | some R =>
              simp only [hq,Option.map_some,Option.some.injEq] at hr
              subst hr
              exact info_loop (n:=t5.length+1) (x:=⟨M,W,[],[]⟩) (p:=p6) (ex:=[]) h99 h102 h112 s224 s226 s227 s228 hlh ef e6 hq rfl
        · rw [if_neg c61] at hr
          simp only [Option.some.injEq] at hr
          subst hr
          have q61:=hasN (c:=61) e3 (by
            intro x hx; simp at hx; subst hx
            exact ne_int (c:=61) c61) hl
          have:=end_at e3 ef
          rw [← this]
          simp -implicitDefEqProofs [f_spec_areader_info_8,f_spec_areader_info_7,acallS,reach_succ,s224,s226,s227,s228,q47,q61,Inf.V,tripV]
    by_cases hno:lowS M=sNone0
    · have ht3:¬ t3=[]:=fun h=>hcond ⟨hno,h⟩
      simp only [sNone0] at hno
      simp -implicitDefEqProofs [f_spec_areader_info_9,acallS,reach_succ,s224,s226,s227,s228,acall,h112,k112,hno,hat,ht3]
      exact rest _
    · simp only [sNone0] at hno
      simp -implicitDefEqProofs [f_spec_areader_info_9,acallS,reach_succ,s224,s226,s227,s228,acall,h112,k112,hno]
      exact rest _
end
theorem rok_info (Γ:Gam) (h99:Γ.fn 99=con_MailKeyword) (h102:Γ.fn 102=con_MailHalves) (h112:Γ.fn 112=con_MailLower) (s224:Γ.st 224=con_has) (s226:Γ.st 226=con_word) (s227:Γ.st 227=con_blank) (s228:Γ.st 228=con_value) :
    ∀ args hp q,con_info args hp=some q→runsS Γ c_spec_areader_info args hp (fun v=>v=some q) :=
  ok_info h99 h102 h112 s224 s226 s227 s228
end Wax


namespace Wax
open Go (IntKind)

@[simp] theorem trV3_atom (x:List (L8 × L8 × L8)):atom (tripV x)=true:=by cases x <;> rfl
@[simp] theorem trV3_ref (x:List (L8 × L8 × L8)):hasRef (tripV x)=false:=by cases x <;> simp [tripV,hasRef]
@[simp] theorem trV3_kill (x:List (L8 × L8 × L8)) (d:Nat):kill d (tripV x)=tripV x:=by cases x <;> simp [tripV]
@[simp] theorem trV3_snapW (x:List (L8 × L8 × L8)) (g:AV→AV):snapW g (tripV x)=tripV x:=by cases x <;> simp [tripV,snapW]
@[simp] theorem trV3_snap (x:List (L8 × L8 × L8)) (n:Nat) (hp:List (Nat × AObj)):snap (n+1) hp (tripV x)=tripV x:=by cases x <;> simp [tripV]
@[simp] theorem trV3_cells (x:List (L8 × L8 × L8)):cells (tripV x)=[tripV x]:=by cases x <;> rfl
@[simp] theorem trV3_map (x:List (L8 × L8 × L8)) (g:Nat→Nat):mapId g (tripV x)=tripV x:=by cases x <;> rfl
@[simp] theorem trV3_refs (x:List (L8 × L8 × L8)):refs (tripV x)=[]:=by cases x <;> simp [tripV]
def Inf.cells (x:Inf):List AV:=[.str x.m,.str [],.str x.v,.str x.r,tripV x.ps]
def ifA (l:List Inf):List AV:=l.map Inf.V
def ifC (l:List Inf):List AV:=l.flatMap Inf.cells
@[simp] theorem ifA_nil:ifA []=[]:=rfl
@[simp] theorem ifA_cons {x:Inf} {l}:ifA (x::l)=.agg x.cells::ifA l:=rfl
@[simp] theorem ifA_app {l m}:ifA (l++m)=ifA l++ifA m:=by simp [ifA]
@[simp] theorem ifC_nil:ifC []=[]:=rfl
@[simp] theorem ifC_cons {x:Inf} {l}:ifC (x::l)=x.cells++ifC l:=rfl
@[simp] theorem ifC_app {l m}:ifC (l++m)=ifC l++ifC m:=by simp [ifC]
@[simp] theorem ifcells_length {x:Inf}:x.cells.length=5:=rfl
@[simp] theorem ifC_length {l:List Inf}:(ifC l).length=l.length * 5:=by induction l <;> simp_all; omega
@[simp] theorem atoms_ifcells {x:Inf}:atoms x.cells=true:=by simp [Inf.cells]
@[simp] theorem atoms_ifC {l:List Inf}:atoms (ifC l)=true:=by induction l <;> simp_all
@[simp] theorem killL_ifcells {d:Nat} {x:Inf}:killL d x.cells=x.cells:=by simp [Inf.cells]
@[simp] theorem killL_ifC {d:Nat} {l:List Inf}:killL d (ifC l)=ifC l:=by induction l <;> simp_all
@[simp] theorem snap_ifcells {n:Nat} {hp:List (Nat × AObj)} {x:Inf}:x.cells.map (snap (n+1) hp)=x.cells:=by simp [Inf.cells]
@[simp] theorem map_snap_ifC {n:Nat} {hp:List (Nat × AObj)} {l:List Inf}:(ifC l).map (snap (n+1) hp)=ifC l:=by induction l <;> simp_all
@[simp] theorem hasRefL_ifcells {x:Inf}:hasRefL x.cells=false:=by simp [Inf.cells,hasRefL]
@[simp] theorem hasRefL_ifC {l:List Inf}:hasRefL (ifC l)=false:=by induction l <;> simp_all [hasRefL]
@[simp] theorem refsL_ifcells {x:Inf}:refsL x.cells=[]:=by simp [Inf.cells]
@[simp] theorem refsL_ifC {l:List Inf}:refsL (ifC l)=[]:=by induction l <;> simp_all
@[simp] theorem snapWL_ifcells {g:AV→AV} {x:Inf}:snapWL g x.cells=x.cells:=by simp [Inf.cells]
@[simp] theorem snapWL_ifC {g:AV→AV} {l:List Inf}:snapWL g (ifC l)=ifC l:=by induction l <;> simp_all
@[simp] theorem group_ifC:∀ {l:List Inf},group 5 l.length (ifC l)=ifA l
  | []=>rfl
  | x::l=>by
    have h1:(x.cells++ifC l).take 5=x.cells:=List.take_left' rfl
    have h2:(x.cells++ifC l).drop 5=ifC l:=List.drop_left' rfl
    simp only [List.length_cons,group,ifC_cons,h1,h2,ifA_cons,group_ifC (l:=l)]
def ifV (l:List Inf):AV:=match l with | []=>.nilS | _=>.sl 5 (ifA l)
structure AFd where
  id:L8
  ver:L8
  l:List Inf
def AFd.V (f:AFd):AV:=.agg [.str f.id,.str f.ver,ifV f.l]
def aLoop:Nat→Nat→List Inf→L8→Option (List Inf × Bool)
  | 0,_,_,_=>none
  | k+1,n,acc,t=>match t with
    | []=>some (acc,true)
    | c::t1=>if c=59 then (match aInfo t1 with
        | none=>none
        | some r=>if r.2.2.1=false∨(r.2.1=true∧n ≠ 0) then some (acc,false) else aLoop k (n+1) (if r.2.1=true then acc else acc++[r.1]) r.2.2.2)
      else some (acc,false)
def aRest (id ver t:L8):Option (AFd × Bool):=(aLoop (t.length+1) 0 [] t).map fun r=>(⟨id,ver,r.1⟩,r.2)
def aField (s:L8):Option (AFd × Bool):=match bB s with
  | none=>none
  | some t1 =>
    if (rVal [64] t1).2.1=false then some (⟨[],[],[]⟩,false)
    else match bB (t1.drop (rVal [64] t1).2.2) with
      | none=>none
      | some t2 =>
        if t2=[]∨t2.head? = some 59 then aRest (rVal [64] t1).1 [] t2
        else if rWd [] t2=[] then some (⟨(rVal [64] t1).1,[],[]⟩,false)
        else match bB (t2.drop (rWd [] t2).length) with
          | none=>none
          | some t3=>aRest (rVal [64] t1).1 (rWd [] t2) t3
def qrt:Nat:=274877906944
def con_ARead:List AV→Option AV
  | [.str s]=>if s.length < qrt then (aField s).map fun r=>.tup [r.1.V,.bool r.2] else none
  | _=>none
theorem infoA {S p t:L8} {r:Inf × Bool × Bool × L8} (e:S=p++t) (hr:aInfo t=some r) (hl:S.length < half):∃ p',S=p'++r.2.2.2∧con_info [.ref 0 0] [(0,.cells [.str S,.int .i64 (p.length:Int)])]=some (.tup [r.1.V,.bool r.2.1,.bool r.2.2.1],[(0,.cells [.str S,.int .i64 (p'.length:Int)])]):=by
  subst e
  obtain ⟨d,hd⟩:=aInfo_sf hr
  refine ⟨p++d,by rw [List.append_assoc,hd],?_⟩
  have hk:t.length - r.2.2.2.length=d.length:=by rw [← hd]; simp
  have:=rdMk_at (lim:=half) (f:=fun t=>(aInfo t).map fun r=>(.tup [r.1.V,.bool r.2.1,.bool r.2.2.1],t.length - r.2.2.2.length)) (p:=p) (t:=t) (v:=.tup [r.1.V,.bool r.2.1,.bool r.2.2.1]) (k:=d.length) (by simp [hr,hk]) hl
  simp only [con_info,this,List.length_append]
section
variable {Γ:Gam} (s224:Γ.st 224=con_has) (s226:Γ.st 226=con_word) (s227:Γ.st 227=con_blank) (s228:Γ.st 228=con_value) (s229:Γ.st 229=con_info)
include s224 s226 s227 s228 s229
set_option maxRecDepth 100000 in
set_option maxHeartbeats 8000000 in
theorem aread_loop {S:L8} (hlq:S.length < qrt) {id ver:L8} {R:List Inf × Bool} {p t:L8} (e:S=p++t) (hR:aLoop (t.length+1) 0 [] t=some R) {ex:List (Nat × AV)} :
    awp Γ f_spec_ARead_3 (finQ [.c (some 3) 2,.t 3] fun v=>v=.tup [(⟨id,ver,R.1⟩:AFd).V,.bool R.2]) ⟨(2,.ref 2 0)::(4,.ref 14 0)::(5,.ref 5 0)::ex,[(14,.cells [.str S,.int .i64 (p.length:Int)]),(5,.cells [.str id,.str ver,.nilS]),(2,.cells [.str [],.str [],.nilS])]⟩:=by
  simp -implicitDefEqProofs [f_spec_ARead_3]
  refine awp_loop2 (σ:=List Inf × L8 × L8 × Nat × Nat) (fun q=>⟨[(2,.ref 2 0),(4,.ref 14 0),(5,.ref 5 0),(8,.int .i64 (q.2.2.2.1:Int))],grH 106 q.1.length (ifC q.1)++[(14,.cells [.str S,.int .i64 (q.2.1.length:Int)]),(5,.cells [.str id,.str ver,grV 106 5 q.1.length]),(2,.cells [.str [],.str [],.nilS])]⟩)
    (fun q=>S=q.2.1++q.2.2.1∧aLoop q.2.2.2.2 q.2.2.2.1 q.1 q.2.2.1=some R∧q.1.length+q.2.2.1.length≤S.length∧q.2.2.2.1+q.2.2.1.length≤S.length∧q.1.length≤q.2.2.2.1) (fun q=>q.2.2.2.2) ([],p,t,0,t.length+1) (by simp) ⟨e,hR,by rw [e]; simp,by rw [e]; simp,by simp⟩ ?_
  clear hR e
  have hlh:S.length < half:=by simp only [qrt] at hlq; simp only [half]; omega
  simp only [qrt] at hlq
  have hl:S.length < mid:=by simp only [half] at hlh; simp only [mid]; omega
  rintro ⟨acc,p,t,n,k⟩ ⟨e,hR,hal,hnl,han⟩ LQ hLQ
  simp only at e hR hal hnl han
  obtain ⟨k,rfl⟩:∃ j,k=j+1:=by
    cases k with
    | zero=>simp [aLoop] at hR
    | succ k=>exact ⟨k,rfl⟩
  have hSl:=congrArg List.length e
  simp only [List.length_append] at hSl
  have hn0:(0 < (n:Int))=(n ≠ 0):=by apply propext; omega
  simp only [half] at hlh
  have ew:IntKind.i64.wrap ((n:Int)+1)=(n:Int)+1:=wrap64 (by omega) (by omega)
  cases acc with
  | nil =>
    cases t with
    | nil =>
      simp only [aLoop,Option.some.injEq] at hR
      subst hR
      have hat:(p.length:Int)=(S.length:Int):=by simp at hSl; omega
      have hnlt:¬ (S.length:Int) < (S.length:Int):=by omega
      simp -implicitDefEqProofs [b_spec_ARead_1,t_spec_ARead_2,acallS,reach_succ,s224,s226,s227,s228,s229,hat,hnlt,AFd.V,ifV]
    | cons c t1 =>
    have hlt:(p.length:Int) < (S.length:Int):=by simp only [List.length_cons] at hSl; omega
    simp only [aLoop] at hR
    by_cases c59:c=59
    rotate_left
    · rw [if_neg c59] at hR
      simp only [Option.some.injEq] at hR
      subst hR
      have q59:=hasN (c:=59) e (by
            intro x hx; simp at hx; subst hx
            exact ne_int (c:=59) c59) hl
      simp -implicitDefEqProofs [b_spec_ARead_1,t_spec_ARead_2,acallS,reach_succ,s224,s226,s227,s228,s229,hlt,q59,AFd.V,ifV]
    rw [if_pos c59] at hR
    obtain ⟨p1,e1,q59⟩:=hasA (c:=59) e (by rw [c59]; rfl) hl
    split at hR
    · simp at hR
    rename_i r hr
    obtain ⟨p2,e2,k2⟩:=infoA e1 hr hlh
    have l2:=(aInfo_sf hr).length_le
    simp only [List.length_cons] at hal hnl
    clear hr
    obtain ⟨⟨m,v,r,ps⟩,no,ok,t2⟩:=r
    simp only [Inf.V] at hR k2 e2 l2
    split at hR
    · rename_i hbad
      simp only [Option.some.injEq] at hR
      subst hR
      cases ok with
      | false =>
        simp -implicitDefEqProofs [b_spec_ARead_1,acallS,reach_succ,s224,s226,s227,s228,s229,hlt,q59,k2,AFd.V,ifV]
      | true =>
        simp at hbad
        obtain ⟨rfl,hbad⟩:=hbad
        have hn1:¬ n=0:=hbad
        simp -implicitDefEqProofs [b_spec_ARead_1,acallS,reach_succ,s224,s226,s227,s228,s229,hlt,q59,k2,AFd.V,ifV,hn0,hn1]
    · rename_i hbad
      simp at hbad
      obtain ⟨rfl,hbad⟩:=hbad
      cases no with
      | false =>
        simp -implicitDefEqProofs [b_spec_ARead_1,acallS,reach_succ,s224,s226,s227,s228,s229,hlt,q59,k2,ew]
        exact hLQ ([]++[⟨m,v,r,ps⟩],p2,t2,n+1,k) ⟨e2,by simpa using hR,by simp at hal ⊢; omega,by simp; omega,by simp at han ⊢; try omega⟩ (by simp) _ (by simp [Inf.cells])
      | true =>
        have hn1:n=0:=hbad rfl
        simp -implicitDefEqProofs [b_spec_ARead_1,acallS,reach_succ,s224,s226,s227,s228,s229,hlt,q59,k2,ew,hn0,hn1]
        exact hLQ ([],p2,t2,n+1,k) ⟨e2,by simpa using hR,by simp at hal ⊢; omega,by simp; omega,by simp at han ⊢; try omega⟩ (by simp) _ (by simp [hn1,show IntKind.i64.wrap 1=1 by decide])
  | cons y ys =>
    obtain ⟨acc,hps⟩:∃ l,l=y::ys:=⟨_,rfl⟩
    have hk:acc.length=ys.length+1:=by rw [hps]; rfl
    rw [← hps] at hR hLQ hal han ⊢
    have hG:group 5 (ys.length+1) (ifC acc)=ifA acc:=by rw [← hk]; exact group_ifC
    have hT:ifV acc=.sl 5 (ifA acc):=by rw [hps]; rfl
    have hRf:hasRefL (ifC acc)=false:=hasRefL_ifC
    have hTk:List.take ((ys.length+1) * 5) (ifC acc)=ifC acc:=by rw [← hk]; exact List.take_of_length_le (by simp)
    clear hps
    cases t with
    | nil =>
      simp only [aLoop,Option.some.injEq] at hR
      subst hR
      have hat:(p.length:Int)=(S.length:Int):=by simp at hSl; omega
      have hnlt:¬ (S.length:Int) < (S.length:Int):=by omega
      simp -implicitDefEqProofs [b_spec_ARead_1,t_spec_ARead_2,acallS,reach_succ,s224,s226,s227,s228,s229,hk,hG,hT,hRf,hTk,hat,hnlt,AFd.V]
    | cons c t1 =>
    have hlt:(p.length:Int) < (S.length:Int):=by simp only [List.length_cons] at hSl; omega
    simp only [aLoop] at hR
    by_cases c59:c=59
    rotate_left
    · rw [if_neg c59] at hR
      simp only [Option.some.injEq] at hR
      subst hR
      have q59:=hasN (c:=59) e (by
            intro x hx; simp at hx; subst hx
            exact ne_int (c:=59) c59) hl
      simp -implicitDefEqProofs [b_spec_ARead_1,t_spec_ARead_2,acallS,reach_succ,s224,s226,s227,s228,s229,hk,hG,hT,hRf,hTk,hlt,q59,AFd.V]
    rw [if_pos c59] at hR
    obtain ⟨p1,e1,q59⟩:=hasA (c:=59) e (by rw [c59]; rfl) hl
    split at hR
    · simp at hR
    rename_i r hr
    obtain ⟨p2,e2,k2⟩:=infoA e1 hr hlh
    have l2:=(aInfo_sf hr).length_le
    simp only [List.length_cons] at hal hnl
    clear hr
    obtain ⟨⟨m,v,r,ps⟩,no,ok,t2⟩:=r
    simp only [Inf.V] at hR k2 e2 l2
    split at hR
    · rename_i hbad
      simp only [Option.some.injEq] at hR
      subst hR
      cases ok with
      | false =>
        simp -implicitDefEqProofs [b_spec_ARead_1,acallS,reach_succ,s224,s226,s227,s228,s229,hk,hG,hT,hRf,hTk,hlt,q59,k2,AFd.V]
      | true =>
        simp at hbad
        obtain ⟨rfl,hbad⟩:=hbad
        have hn1:¬ n=0:=hbad
        simp -implicitDefEqProofs [b_spec_ARead_1,acallS,reach_succ,s224,s226,s227,s228,s229,hk,hG,hT,hRf,hTk,hlt,q59,k2,AFd.V,hn0,hn1]
    · rename_i hbad
      simp at hbad
      obtain ⟨rfl,hbad⟩:=hbad
      cases no with
      | false =>
        simp -implicitDefEqProofs [b_spec_ARead_1,acallS,reach_succ,s224,s226,s227,s228,s229,hk,hG,hT,hRf,hTk,hlt,q59,k2,ew]
        refine ⟨by omega,?_⟩
        exact hLQ (acc++[⟨m,v,r,ps⟩],p2,t2,n+1,k) ⟨e2,by simpa using hR,by simp at hal ⊢; omega,by simp; omega,by simp at han ⊢; try omega⟩ (by simp) _ (by simp [hk,Inf.cells])
      | true =>
        have hn1:n=0:=hbad rfl
        omega
set_option maxRecDepth 100000 in
set_option maxHeartbeats 4000000 in
theorem ok_ARead:∀ args r,con_ARead args=some r→runs Γ c_spec_ARead args (fun v=>v=r):=by
  intro args r h
  simp only [con_ARead] at h
  split at h <;> (try simp at h; done)
  rename_i S
  split at h <;> (try simp at h; done)
  rename_i hlq
  have hlh:S.length < half:=by simp only [qrt] at hlq; simp only [half]; omega
  have hl:S.length < mid:=by simp only [half] at hlh; simp only [mid]; omega
  simp only [Option.map_eq_some_iff] at h
  obtain ⟨q,hq,rfl⟩:=h
  have e0:S=[]++S:=rfl
  unfold aField at hq
  split at hq
  · simp at hq
  rename_i t1 h1
  obtain ⟨_,rfl,hb1⟩:=bB_le h1
  obtain ⟨p1,e1,k1⟩:=blankA e0 hb1 hl
  obtain ⟨p2,e2,k2⟩:=valueA (m:=[64]) e1 (by simp [big]) hl
  simp only [List.length_nil,Int.natCast_zero] at k1
  generalize rB S=t1 at *
  generalize rVal [64] t1=V at *
  obtain ⟨id,ok,n⟩:=V
  simp only at hq e2 k2
  cases ok with
  | false =>
    simp only [if_pos,Option.some.injEq] at hq
    subst hq
    simp -implicitDefEqProofs [c_spec_ARead,f_spec_ARead_5,acallS,reach_succ,s224,s226,s227,s228,s229,k1,k2,AFd.V,ifV]
  | true =>
  simp only [Bool.true_eq_false,if_false] at hq
  split at hq
  · simp at hq
  rename_i t2 h2
  obtain ⟨_,rfl,hb2⟩:=bB_le h2
  obtain ⟨p3,e3,k3⟩:=blankA e2 hb2 hl
  generalize rB (t1.drop n)=t2 at *
  have hS3:=congrArg List.length e3
  simp only [List.length_append] at hS3
  unfold aRest at hq
  cases t2 with
  | nil =>
    simp only [true_or,if_true,Option.map_eq_some_iff] at hq
    obtain ⟨R,hR,rfl⟩:=hq
    have hat:¬ ((p3.length:Int) < (S.length:Int)):=by simp at hS3; omega
    have hat':¬ (p3.length < S.length):=by omega
    simp -implicitDefEqProofs [c_spec_ARead,f_spec_ARead_5,f_spec_ARead_4,acallS,reach_succ,s224,s226,s227,s228,s229,k1,k2,k3,hat,hat']
    exact aread_loop (ex:=[]) s224 s226 s227 s228 s229 hlq e3 hR
  | cons c t3 =>
    have hlt:(p3.length:Int) < (S.length:Int):=by simp only [List.length_cons] at hS3; omega
    have hlt':p3.length < S.length:=by omega
    have g:S[p3.length]? = some c:=by rw [e3]; exact get_mid rfl
    have g':S[p3.length]'hlt'=c:=by rw [List.getElem?_eq_getElem hlt'] at g; exact Option.some.inj g
    by_cases c59:c=59
    · rw [if_pos (.inr (by rw [c59]; rfl))] at hq
      simp only [Option.map_eq_some_iff] at hq
      obtain ⟨R,hR,rfl⟩:=hq
      have hc:(c.toNat:Int)=59:=by rw [c59]; rfl
      simp -implicitDefEqProofs [c_spec_ARead,f_spec_ARead_5,f_spec_ARead_4,acallS,reach_succ,s224,s226,s227,s228,s229,k1,k2,k3,hlt,hlt',g,g',hc]
      exact aread_loop (ex:=[]) s224 s226 s227 s228 s229 hlq e3 hR
    have hc:¬ (c.toNat:Int)=59:=ne_int (c:=59) c59
    rw [if_neg (by simp [c59])] at hq
    obtain ⟨p4,e4,k4⟩:=wordA (m:=[]) e3 (by simp [big]) hl
    simp -implicitDefEqProofs [c_spec_ARead,f_spec_ARead_5,f_spec_ARead_4,acallS,reach_succ,s224,s226,s227,s228,s229,k1,k2,k3,hlt,hlt',g,g',hc,k4]
    generalize rWd [] (c::t3)=W at *
    by_cases hW:W=[]
    · rw [if_pos hW] at hq
      simp only [Option.some.injEq] at hq
      subst hq
      subst hW
      simp -implicitDefEqProofs [AFd.V,ifV]
    rw [if_neg hW] at hq
    split at hq
    · simp at hq
    rename_i t5 h5
    obtain ⟨_,rfl,hb5⟩:=bB_le h5
    obtain ⟨p5,e5,k5⟩:=blankA e4 hb5 hl
    simp only [Option.map_eq_some_iff] at hq
    obtain ⟨R,hR,rfl⟩:=hq
    simp -implicitDefEqProofs [acallS,reach_succ,s224,s226,s227,s228,s229,k5,hW]
    exact aread_loop (ex:=[]) s224 s226 s227 s228 s229 hlq e5 hR
end
theorem rok_ARead (Γ:Gam) (s224:Γ.st 224=con_has) (s226:Γ.st 226=con_word) (s227:Γ.st 227=con_blank) (s228:Γ.st 228=con_value) (s229:Γ.st 229=con_info) :
    ∀ args r,con_ARead args=some r→runs Γ c_spec_ARead args (fun v=>v=r) :=
  ok_ARead s224 s226 s227 s228 s229
end Wax


namespace Wax
open Go Go.RowKit Go.Proofs

def noVal:Value→Option (DataW Nat × List MemPlace):=fun _=>some (.nil,[])

def SortedSays (P:Program) (T:Tab) (f g:FuncId):Prop :=
  (∀ h,lkN T.fns h=some 55→h=g)∧∃ e9 k:TypeId,P.underlying k=some .string ∧
  ∀ (Bm b nn:Nat) (D0:DataW Nat) (w:World),Bm < w.heap.size→w.cell? ⟨Bm,0,none⟩=some (.map (some b))→w.ownsMap P k noVal b nn D0→Maps.size D0≤maxLen→Maps.size D0 * 16≤140737488355328 →
    Calls P f #[.func (.func g) #[] #[.pointer (some ⟨Bm,0,none⟩)]] w fun e w'=>∃ (v:Value) (ss:List (List UInt8)),e=.returned v∧ss.Perm (Go.strKeys D0) ∧
      w'.ownsRow w.heap.size e9 1 v ss.length ((ss.mergeSort (fun x y=>decide (x≤y))).map encStr)∧(v=.slice none 0 0 ↔ ss=[])∧Below w.heap.size w w'

theorem repM_keyList {T:Tab} {w:World} {F:Frz}:∀ {es:List (List UInt8 × AV)} {l:List MapEntry},RepM T w F es l→l.map (·.key)=es.map fun p=>Value.string ⟨p.1.toArray⟩
  | [],[],_=>rfl
  | (k,c)::r,e::s,h=>by
    simp only [RepM] at h
    simp only [List.map_cons,h.1,repM_keyList h.2.2]
  | [],_::_,h=>by simp [RepM] at h
  | _::_,[],h=>by simp [RepM] at h

theorem ok_Sorted {P:Program} {T:Tab} {f g:FuncId} (H:SortedSays P T f g):∀ args r,con_Sorted args=some r→OkCall P T f args r:=by
  intro args r h w F vs hF _ hx
  obtain ⟨hinj,e9,k,hk,H⟩:=H
  simp only [con_Sorted] at h
  split at h <;> (try simp at h; done)
  rename_i es
  obtain ⟨⟨hlen,hkl⟩,rfl⟩:=ite_some h
  clear h
  simp only [half] at hlen
  match vs,hx with
  | [v],hx =>
    simp only [RepL,and_true] at hx
    simp only [Rep] at hx
    obtain ⟨f',vs',rfl,hf',hcap⟩:=hx
    obtain rfl:=hinj f' hf'
    obtain ⟨l⟩:=vs'
    match l,hcap with
    | [p],hcap =>
      simp only [RepL,and_true,Rep] at hcap
      obtain ⟨Bm,rfl,hat⟩:=hcap
      simp only [RepAt,and_true] at hat
      obtain ⟨hFB,x,hcell,hmp⟩:=hat
      simp only [Rep] at hmp
      obtain ⟨b,ents,clk,rfl,hFb,hheap,⟨el,hpe,hM⟩,hst⟩:=hmp
      have hBm:Bm < w.heap.size:=hF Bm hFB
      have hkeys:(ents.toList.map (·.key)).Perm (es.map fun p=>Value.string ⟨p.1.toArray⟩):=by
        rw [← repM_keyList hM]; exact (hpe.map _).symm
      have hsz:ents.size=es.length:=by
        have:=hkeys.length_eq
        simpa using this
      have hread:∀ x∈ents.toList,∃ s:List UInt8,x.key=.string ⟨s.toArray⟩∧keyOf P k x.key=some (.string s):=by
        intro x hx
        have hm:x.key∈ents.toList.map (·.key):=List.mem_map_of_mem hx
        rw [hkeys.mem_iff,List.mem_map] at hm
        obtain ⟨q,hq,e⟩:=hm
        refine ⟨q.1,e.symm,?_⟩
        have hs:=hkl q hq
        simp only [half] at hs
        rw [← e]
        have hsz:(⟨q.1.toArray⟩:ByteArray).size=q.1.length:=by show q.1.toArray.size=_; simp
        have:=Go.WideMaps.keyOf_string_mk hk (s:=⟨q.1.toArray⟩) (by rw [hsz]; simp only [maxLen]; omega)
        simpa using this
      have hown:w.ownsMap P k noVal b ents.size (.map ((ents.toList.map (WideElems.rg P k noVal)).foldr DataW.insert [])):=by
        refine ⟨ents,clk,hheap,⟨by rw [hsz]; simp only [maxLen]; omega,hst,fun x hx=>?_⟩,Nat.le_refl _,rfl⟩
        obtain ⟨s,_,hs⟩:=hread x hx
        exact ⟨_,WideElems.rd_mk (val:=x.val) (born:=x.born) hs rfl⟩
      have hds:Maps.size (.map ((ents.toList.map (WideElems.rg P k noVal)).foldr DataW.insert []))=es.length:=by
        simp only [Maps.size]
        rw [(WideShapes.sorted_perm _).length_eq]
        simp [hsz]
      have hsk:(Go.strKeys (.map ((ents.toList.map (WideElems.rg P k noVal)).foldr DataW.insert []))).Perm (es.map (·.1)):=by
        simp only [Go.strKeys]
        refine ((WideShapes.sorted_perm _).map _).trans ?_
        have:((ents.toList.map (WideElems.rg P k noVal)).map (fun p=>Go.strOf p.1)).Perm (es.map (·.1)):=by
          rw [List.map_map]
          have e1:ents.toList.map ((fun p=>Go.strOf p.1) ∘ WideElems.rg P k noVal)=(ents.toList.map (·.key)).map (fun v=>match v with | .string s=>s.data.toList | _=>[]):=by
            rw [List.map_map]
            refine List.map_congr_left fun x hx=>?_
            obtain ⟨s,h1,h2⟩:=hread x hx
            have h3:=WideElems.rg_of (WideElems.rd_mk (R:=noVal) (val:=x.val) (born:=x.born) h2 rfl)
            simp only [Function.comp_apply]
            rw [show x=⟨x.key,x.val,x.born⟩ from rfl,h3,h1]
            rfl
          have e2:(es.map fun p=>Value.string ⟨p.1.toArray⟩).map (fun v=>match v with | .string s=>s.data.toList | _=>[])=es.map (·.1):=by
            rw [List.map_map]
            refine List.map_congr_left fun x _=>?_
            simp
          rw [e1,← e2]
          exact hkeys.map _
        exact this
      refine (H Bm b ents.size _ w hBm hcell hown (by rw [hds]; simp only [maxLen]; omega) (by rw [hds]; omega)).mono ?_
      rintro e w' ⟨v,ss,rfl,hp,ho,hn,hbl⟩
      have hperm:ss.Perm (es.map (·.1)):=hp.trans hsk
      have hms:ss.mergeSort (fun x y=>decide (x≤y))=sortB (es.map (·.1)):=Go.mergeSort_of_perm hperm
      rw [hms] at ho
      have hl:ss.length=(sortB (es.map (·.1))).length:=by rw [hperm.length_eq]; simp [sortB]
      rw [hl] at ho
      refine ⟨v,rfl,hbl,?_⟩
      by_cases he:es=[]
      · subst he
        have hss:ss=[]:=by simpa using hperm
        rw [hn.2 hss]
        simp [sortB,strV,Rep]
      · have hss:ss ≠ []:=fun e=>he (by rw [e] at hperm; simpa using hperm.symm)
        have hne:sortB (es.map (·.1)) ≠ []:=fun e=>by rw [e] at hl; exact hss (List.length_eq_zero_iff.1 hl)
        have:strV (sortB (es.map (·.1)))=.sl 1 (strsA (sortB (es.map (·.1)))):=by
          cases hq:sortB (es.map (·.1)) with
          | nil=>exact absurd hq hne
          | cons _ _=>rfl
        rw [this]
        exact owned_strs (e9:=e9) (l:=sortB (es.map (·.1))) ho (fun e=>hss (hn.1 e))

def lkOnly (l:List (Nat × Nat)) (n g:Nat):Bool:=l.all fun p=>p.2 != n || p.1 == g

theorem lkN_only {l:List (Nat × Nat)} {n g:Nat} (h:lkOnly l n g=true):∀ i,lkN l i=some n→i=g:=by
  intro i hi
  induction l with
  | nil=>simp [lkN] at hi
  | cons p r ih =>
    simp only [lkOnly,List.all_cons,Bool.and_eq_true,Bool.or_eq_true,bne_iff_ne,ne_eq,beq_iff_eq] at h
    obtain ⟨a,b⟩:=p
    simp only [lkN] at hi
    split at hi
    · rename_i e
      simp only [beq_iff_eq] at e
      simp only [Option.some.injEq] at hi
      rcases h.1 with h1 | h1
      · exact absurd hi h1
      · exact e ▸ h1
    · exact ih (by simpa [lkOnly] using h.2) hi
end Wax


namespace Wax
open Go (IntKind)

def fmKeys (l:List KVp):List L8:=(if lookP l qReason=[] then [] else [qReason])++sortB ((l.map (·.1)).filter (· ≠ qReason))
def fmWord (l:List KVp) (k:L8):L8:=k++61::(if k=qReason then fmtV (lookP l k) else fmtP (lookP l k))
def joinW:List L8→L8
  | []=>[]
  | w::r=>w++r.flatMap (32 :: ·)
def fmtPs (l:List KVp):L8:=joinW (((fmKeys l).filter fun k=>decide (lookP l k ≠ [])).map (fmWord l))
def con_formatParams:List AV→Option AV
  | [.mp es]=>match asPm es with
    | some l=>if l.length < half∧(∀ p∈l,ascii p.2=true∧p.2.length < qrt)∧(fmtPs l).length < mid then some (.str (fmtPs l)) else none
    | none=>none
  | _=>none
theorem joinW_snoc:∀ (W:List L8) (w:L8),joinW (W++[w])=if W=[] then w else joinW W++32::w
  | [],w=>by simp [joinW]
  | x::W,w=>by simp [joinW]
theorem joinW_le:∀ (a b:List L8),(joinW a).length≤(joinW (a++b)).length
  | [],b=>by simp [joinW]
  | x::a,b=>by simp [joinW]
theorem lookP_val:∀ (l:List KVp) (k:L8),lookP l k=[]∨∃ p∈l,p.2=lookP l k
  | [],k=>.inl rfl
  | p::r,k=>by
    simp only [lookP]
    split
    · exact .inr ⟨p,by simp,rfl⟩
    · rcases lookP_val r k with h | ⟨q,h1,h2⟩
      · exact .inl h
      · exact .inr ⟨q,by simp [h1],h2⟩
def fmWs (l:List KVp) (ks:List L8):List L8:=(ks.filter fun k=>decide (lookP l k ≠ [])).map (fmWord l)
theorem fmWs_app (l:List KVp) (a b:List L8):fmWs l (a++b)=fmWs l a++fmWs l b:=by simp [fmWs]
theorem fmWs_len (l:List KVp) (a:List L8):(fmWs l a).length≤a.length:=by simpa [fmWs] using List.length_filter_le _ a
set_option maxHeartbeats 8000000 in
set_option maxRecDepth 100000 in
theorem fm_loop {Γ:Gam} (h241:Γ.fn 241=con_formatValue) (h242:Γ.fn 242=con_formatPvalue) {l:List KVp} (h2:∀ p∈l,ascii p.2=true∧p.2.length < qrt) (h3:(fmtPs l).length < mid) {ks:List L8} (hks:fmtPs l=joinW (fmWs l ks)) (hkl:ks.length < mid)
    {d:Nat} {more:List (Nat × AObj)} (hd:(d=12∧more=[])∨(d=24∧more=[])∨(d=30∧more=[(12,.cells [])])∨(d=32∧∃ cs,more=[(24,.cells (strsA cs))])) :
    awp Γ (.loop [0,5,6,33,34,35] b_authres_formatParams_2) (blockQ 2 (thenQ (awp Γ t_authres_formatParams_3 (finQ [.t 2] fun v=>v=.str (fmtPs l))) (finQ [.t 2] fun v=>v=.str (fmtPs l)))) ⟨[(0,.mp (pmA l)),(5,.str []),(6,.int .i64 0),(33,.msl d 1 0 ks.length),(34,.int .i64 ks.length),(35,.int .i64 0)],(d,.cells (strsA ks))::more⟩:=by
  refine awp_loop2 (σ:=List L8 × List L8) (fun p=>⟨[(0,.mp (pmA l)),(5,.str (joinW (fmWs l p.1))),(6,.int .i64 (fmWs l p.1).length),(33,.msl d 1 0 ks.length),(34,.int .i64 ks.length),(35,.int .i64 p.1.length)],(d,.cells (strsA ks))::more⟩)
    (fun p=>ks=p.1++p.2) (fun p=>p.2.length) ([],ks) (by simp [fmWs,joinW]) (by simp) ?_
  rintro ⟨pre,post⟩ e LQ hLQ
  simp only at e
  simp only [mid] at h3 hkl
  cases post with
  | nil =>
    simp only [List.append_nil] at e
    subst e
    have hnl:¬ ((ks.length:Int) < (ks.length:Int)):=by omega
    rcases hd with ⟨rfl,rfl⟩ | ⟨rfl,rfl⟩ | ⟨rfl,rfl⟩ | ⟨rfl,cs,rfl⟩ <;> simp -implicitDefEqProofs [b_authres_formatParams_2,t_authres_formatParams_3,hks]
  | cons k post =>
    have hlen:ks.length=pre.length+(post.length+1):=by rw [e]; simp
    have hlt:(pre.length:Int) < (ks.length:Int):=by omega
    have hlt':pre.length < ks.length:=by omega
    have g:List.drop pre.length ks=k::post:=by rw [e,List.drop_left]
    have ew:IntKind.i64.wrap ((pre.length:Int)+1)=(pre.length:Int)+1:=wrap64 (by omega) (by omega)
    have go:=fun st=>hLQ (pre++[k],post) (by rw [e]; simp) (by simp) st
    have lw:=fmWs_len l pre
    simp only [fmWs_app] at go
    by_cases hv:lookP l k=[]
    · have e0:fmWs l [k]=[]:=by simp [fmWs,hv]
      rw [e0,List.append_nil] at go
      simp -implicitDefEqProofs [b_authres_formatParams_2,hlt,hlt',g,ew,lookA_pmA,hv]
      exact go _ (by simp)
    · have e1:fmWs l [k]=[fmWord l k]:=by simp [fmWs,hv]
      rw [e1,joinW_snoc] at go
      have hl2:(joinW (fmWs l pre++[fmWord l k])).length≤(fmtPs l).length:=by
        rw [hks,e,show k::post=[k]++post from rfl,← List.append_assoc,fmWs_app l (pre++[k]),fmWs_app l pre,e1]
        exact joinW_le _ _
      rw [joinW_snoc] at hl2
      have hva:ascii (lookP l k)=true∧(lookP l k).length < mid:=by
        rcases lookP_val l k with h | ⟨q,hq,e⟩
        · exact absurd h hv
        · rw [← e]; exact ⟨(h2 q hq).1,by have:=(h2 q hq).2; simp only [qrt] at this; simp only [mid]; omega⟩
      have kv:con_formatValue [.str (lookP l k)]=some (.str (fmtV (lookP l k))):=if_pos ⟨hva.2,hva.1⟩
      have kp:con_formatPvalue [.str (lookP l k)]=some (.str (fmtP (lookP l k))):=if_pos ⟨hva.2,hva.1⟩
      have ew2:IntKind.i64.wrap (((fmWs l pre).length:Int)+1)=((fmWs l pre).length:Int)+1:=wrap64 (by omega) (by omega)
      have e10:IntKind.i64.wrap 1=1:=by decide
      by_cases hr:k=qReason
      · have hw:fmWord l k=k++61::fmtV (lookP l k):=by simp only [fmWord,if_pos hr]
        rw [hw] at go hl2
        have hr':k=[114,101,97,115,111,110]:=hr
        clear hr hw kp
        subst hr'
        cases hW:fmWs l pre with
        | nil =>
          rw [hW] at go hl2
          simp only [if_true,List.length_append,List.length_cons] at hl2
          simp -implicitDefEqProofs [b_authres_formatParams_2,hlt,hlt',g,ew,lookA_pmA,hv,hva,acall,h241,kv,e10]
          simp only [List.length_nil] at hl2
          exact ⟨by omega,by simp [joinW]; omega,go _ (by simp [joinW])⟩
        | cons w ws =>
          rw [hW] at go hl2 ew2
          simp only [reduceCtorEq,if_false,List.length_append,List.length_cons] at hl2
          simp only [List.length_cons,Int.natCast_add,Int.natCast_one] at ew2
          simp -implicitDefEqProofs [b_authres_formatParams_2,hlt,hlt',g,ew,lookA_pmA,hv,hva,acall,h241,kv,ew2]
          simp only [List.length_nil] at hl2
          exact ⟨by omega,by omega,by omega,go _ (by simp)⟩
      · have hw:fmWord l k=k++61::fmtP (lookP l k):=by simp only [fmWord,if_neg hr]
        rw [hw] at go hl2
        have hr':¬ k=[114,101,97,115,111,110]:=hr
        cases hW:fmWs l pre with
        | nil =>
          rw [hW] at go hl2
          simp only [if_true,List.length_append,List.length_cons] at hl2
          simp -implicitDefEqProofs [b_authres_formatParams_2,hlt,hlt',g,ew,lookA_pmA,hv,hr',acall,h242,kp,e10]
          exact ⟨by omega,by omega,by simp [joinW]; omega,go _ (by simp [joinW])⟩
        | cons w ws =>
          rw [hW] at go hl2 ew2
          simp only [reduceCtorEq,if_false,List.length_append,List.length_cons] at hl2
          simp only [List.length_cons,Int.natCast_add,Int.natCast_one] at ew2
          simp -implicitDefEqProofs [b_authres_formatParams_2,hlt,hlt',g,ew,lookA_pmA,hv,hr',acall,h242,kp,ew2]
          exact ⟨by omega,by omega,by omega,by omega,go _ (by simp)⟩
set_option maxHeartbeats 4000000 in
set_option maxRecDepth 100000 in
theorem fm_tail {Γ:Gam} (h240:Γ.st 240=con_Sort) (h241:Γ.fn 241=con_formatValue) (h242:Γ.fn 242=con_formatPvalue) {l:List KVp} (h2:∀ p∈l,ascii p.2=true∧p.2.length < qrt) (h3:(fmtPs l).length < mid) {got:List L8} {cur:Option (L8 × AV)} (hg:got.length < half) (hs:sortB got=sortB ((l.map (·.1)).filter (· ≠ qReason))) :
    awp Γ t_authres_formatParams_4 (finQ [.t 2] fun v=>v=.str (fmtPs l)) ⟨[(0,.mp (pmA l)),(3,if got=[] then .msl 12 1 0 0 else .msl 24 1 0 got.length),(14,.ref 14 0),(16,.bool false)],(if got=[] then [] else [(24,.cells (strsA got))])++(14,.mit [] cur)::(if got=[] then [(12,.cells [])] else [])⟩:=by
  simp only [half] at hg
  have hsl:(sortB got).length=got.length:=by simp [sortB]
  have hK:fmtPs l=joinW (fmWs l ((if lookP l qReason=[] then [] else [qReason])++sortB got)):=by rw [hs]; rfl
  clear hs
  have hm:got.length+1 < mid:=by simp only [mid]; omega
  cases got with
  | nil =>
    have ks:con_Sort [.msl 0 1 0 0] [(0,.cells [])]=some (.tup [],[(0,.cells [])]):=by simp [con_Sort,asStrs,sortB,strsA]
    have es:sortB []=[]:=by simp [sortB]
    rw [es] at hK
    simp -implicitDefEqProofs [t_authres_formatParams_4,acallS,reach_succ,h240,ks,lookA_pmA,just]
    refine ⟨fun hr=>?_,fun hr=>?_⟩
    · rw [if_neg (by exact hr)] at hK
      exact fm_loop h241 h242 h2 h3 (ks:=[qReason]) hK (by simp [mid]) (d:=30) (more:=[(12,.cells [])]) (.inr (.inr (.inl ⟨rfl,rfl⟩)))
    · rw [if_pos (by exact hr)] at hK
      exact fm_loop h241 h242 h2 h3 (ks:=[]) hK (by simp [mid]) (d:=12) (more:=[]) (.inl ⟨rfl,rfl⟩)
  | cons y ys =>
    generalize hgot:y::ys=got at *
    have hn:¬ got=[]:=by rw [← hgot]; simp
    have ks:con_Sort [.msl 0 1 0 got.length] [(0,.cells (strsA got))]=some (.tup [],[(0,.cells (strsA (sortB got)))]):=by
      have ha:asStrs (strsA got)=some got:=asStrs_strsA
      simp only [con_Sort,ha]
      exact if_pos ⟨trivial,by omega⟩
    have tk:List.take got.length (sortB got)=sortB got:=List.take_of_length_le (by omega)
    simp -implicitDefEqProofs [t_authres_formatParams_4,acallS,reach_succ,h240,ks,lookA_pmA,hn,tk]
    refine ⟨fun hr=>⟨by omega,by omega,?_⟩,fun hr=>?_⟩
    · rw [if_neg (by exact hr)] at hK
      have t:=fm_loop h241 h242 h2 h3 (ks:=qReason::sortB got) hK (by simp only [List.length_cons]; omega) (d:=32) (more:=[(24,.cells (strsA (sortB got)))]) (.inr (.inr (.inr ⟨rfl,_,rfl⟩)))
      have e1:(1+got.length)=(qReason::sortB got).length:=by simp only [List.length_cons]; omega
      have e2:(1+(got.length:Int))=((qReason::sortB got).length:Int):=by simp only [List.length_cons]; omega
      rw [e1,e2]
      exact t
    · rw [if_pos (by exact hr)] at hK
      have t:=fm_loop h241 h242 h2 h3 (ks:=sortB got) hK (by omega) (d:=24) (more:=[]) (.inr (.inl ⟨rfl,rfl⟩))
      rw [hsl] at t
      exact t
set_option maxHeartbeats 4000000 in
set_option maxRecDepth 100000 in
theorem ok_formatParams (Γ:Gam) (h240:Γ.st 240=con_Sort) (h241:Γ.fn 241=con_formatValue) (h242:Γ.fn 242=con_formatPvalue):∀ args r,con_formatParams args=some r→runs Γ c_authres_formatParams args (fun v=>v=r):=by
  intro args r h
  simp only [con_formatParams] at h
  split at h <;> (try simp at h; done)
  rename_i es
  split at h <;> (try simp at h; done)
  rename_i l hl
  obtain ⟨⟨h1,h2,h3⟩,rfl⟩:=ite_some h
  clear h
  rw [asPm_spec hl]
  clear hl
  simp only [half] at h1
  have hpl:(pmA l).length=l.length:=by simp [pmA]
  simp -implicitDefEqProofs [c_authres_formatParams]
  refine ⟨by omega,?_⟩
  refine awp_loop2 (σ:=List L8 × List KVp × Option (L8 × AV)) (fun q=>⟨[(0,.mp (pmA l)),(3,if q.1=[] then .msl 12 1 0 0 else .msl 24 1 0 q.1.length),(14,.ref 14 0)],(if q.1=[] then [] else [(24,.cells (strsA q.1))])++(14,.mit (pmA q.2.1) q.2.2)::(if q.1=[] then [(12,.cells [])] else [])⟩)
    (fun q=>(q.1++(q.2.1.map (·.1)).filter (· ≠ qReason)).Perm ((l.map (·.1)).filter (· ≠ qReason))∧q.1.length+q.2.1.length≤l.length) (fun q=>q.2.1.length) ([],l,none) (by simp) (by simp) ?_
  rintro ⟨got,rem,cur⟩ ⟨hp,hgl⟩ LQ hLQ
  simp only at hp hgl
  have step:∀ {pre post:List (L8 × AV)} {k:L8} {v:AV},pmA rem=pre++(k,v)::post→∃ a b w,rem=a++(k,w)::b∧pre=pmA a∧post=pmA b:=by
    intro pre post k v e
    obtain ⟨a,c,e1,e2,e3⟩:=List.map_eq_append_iff.1 e
    obtain ⟨x,b,e4,e5,e6⟩:=List.map_eq_cons_iff.1 e3
    refine ⟨a,b,x.2,?_,e2.symm,e6.symm⟩
    simp only [Prod.mk.injEq] at e5
    rw [e1,e4,← e5.1]
  have fin:pmA rem=[]→sortB got=sortB ((l.map (·.1)).filter (· ≠ qReason)):=by
    intro e
    have er:rem=[]:=by simpa [pmA] using e
    subst er
    simp only [List.map_nil,List.filter_nil,List.append_nil] at hp
    exact Go.mergeSort_of_perm hp
  have skip:∀ {a b:List KVp} {w:L8},rem=a++(qReason,w)::b→(got++((a++b).map (·.1)).filter (· ≠ qReason)).Perm ((l.map (·.1)).filter (· ≠ qReason))∧got.length+(a++b).length≤l.length:=by
    rintro a b w rfl
    refine ⟨by simpa using hp,by simp only [List.length_append,List.length_cons] at hgl ⊢; omega⟩
  have take:∀ {a b:List KVp} {k w:L8},rem=a++(k,w)::b→¬ k=qReason→((got++[k])++((a++b).map (·.1)).filter (· ≠ qReason)).Perm ((l.map (·.1)).filter (· ≠ qReason))∧(got++[k]).length+(a++b).length≤l.length:=by
    rintro a b k w rfl hk
    refine ⟨?_,by simp only [List.length_append,List.length_cons,List.length_nil] at hgl ⊢; omega⟩
    refine List.Perm.trans ?_ hp
    simp only [List.map_append,List.filter_append,List.map_cons,List.filter_cons,hk,ne_eq,not_false_eq_true,decide_true,if_true,List.append_assoc,List.singleton_append]
    exact List.perm_middle.symm.append_left got
  cases got with
  | nil =>
    simp -implicitDefEqProofs [b_authres_formatParams_1]
    refine ⟨fun e=>?_,fun pre k v post e=>⟨fun hk=>?_,fun hk=>?_⟩⟩
    · rw [e]
      have t:=fm_tail h240 h241 h242 h2 h3 (got:=[]) (cur:=cur) (by simp [half]) (fin e)
      exact t
    · obtain ⟨a,b,w,e1,rfl,rfl⟩:=step e
      subst hk
      exact hLQ ([],a++b,_) (skip e1) (by rw [e1]; simp) _ (by simp [pmA]; rfl)
    · obtain ⟨a,b,w,e1,rfl,rfl⟩:=step e
      exact hLQ ([k],a++b,_) (take e1 hk) (by rw [e1]; simp) _ (by simp [pmA]; rfl)
  | cons y ys =>
    simp -implicitDefEqProofs [b_authres_formatParams_1]
    refine ⟨fun e=>?_,fun pre k v post e=>⟨fun hk=>?_,fun hk=>⟨?_,?_⟩⟩⟩
    · rw [e]
      have t:=fm_tail h240 h241 h242 h2 h3 (got:=y::ys) (cur:=cur) (by simp only [half]; omega) (fin e)
      exact t
    · obtain ⟨a,b,w,e1,rfl,rfl⟩:=step e
      subst hk
      exact hLQ (y::ys,a++b,_) (skip e1) (by rw [e1]; simp) _ (by simp [pmA]; rfl)
    · simp only [List.length_cons] at hgl
      omega
    · obtain ⟨a,b,w,e1,rfl,rfl⟩:=step e
      exact hLQ (y::ys++[k],a++b,_) (take e1 hk) (by rw [e1]; simp) _ (by simp [pmA]; rfl)
end Wax


namespace Wax
open Go (IntKind)

def PR.meth:PR→L8
  | .arc _ _ _=>[]
  | .auth _ _ _=>sAuth
  | .dkim _ _ _ _=>sDkim
  | .domk _ _ _ _ _=>sDomk
  | .iprev _ _ _=>sIprev
  | .sender _ _ _ _=>sSender
  | .spf _ _ _ _=>sSpf
  | .dmarc _ _ _=>sDmarc
  | .gen m _ _=>m
def PR.val:PR→L8
  | .arc v _ _=>v
  | .auth v _ _=>v
  | .dkim v _ _ _=>v
  | .domk v _ _ _ _=>v
  | .iprev v _ _=>v
  | .sender v _ _ _=>v
  | .spf v _ _ _=>v
  | .dmarc v _ _=>v
  | .gen _ v _=>v
def PR.fm:PR→List KVp
  | .arc _ _ _=>[]
  | .auth _ _ a=>[(qAuth,a)]
  | .dkim _ r d i=>[(qD,d),(qI,i),(qReason,r)]
  | .domk _ r d f s=>[(qD,d),(qFrom,f),(qSend,s),(qReason,r)]
  | .iprev _ r i=>[(qIprev,i),(qReason,r)]
  | .sender _ r k x=>[(qHead++lowS k,x),(qReason,r)]
  | .spf _ r f h=>[(qReason,r),(qHelo,h),(qMail,f)]
  | .dmarc _ r f=>[(qFrom,f),(qReason,r)]
  | .gen _ _ l=>l
def PR.fmt (x:PR):AV:=.tup [.str x.val,.mp (pmA x.fm)]
def con_fAuth:List AV→Option AV
  | [.ptr [.str v,.str r,.str a]]=>some (PR.auth v r a).fmt
  | _=>none
set_option maxHeartbeats 4000000 in
set_option maxRecDepth 100000 in
theorem ok_fAuth (Γ:Gam):∀ args r,con_fAuth args=some r→runs Γ c_authres_AuthResult_format args (fun v=>v=r):=by
  intro args r h
  simp only [con_fAuth] at h
  split at h <;> (try simp at h; done)
  injection h with h; subst h
  simp -implicitDefEqProofs [c_authres_AuthResult_format,PR.fmt,PR.val,PR.fm,pmA,qAuth]
  exact ⟨rfl,rfl⟩
def con_fDKIM:List AV→Option AV
  | [.ptr [.str v,.str r,.str d,.str i]]=>some (PR.dkim v r d i).fmt
  | _=>none
set_option maxHeartbeats 4000000 in
set_option maxRecDepth 100000 in
theorem ok_fDKIM (Γ:Gam):∀ args r,con_fDKIM args=some r→runs Γ c_authres_DKIMResult_format args (fun v=>v=r):=by
  intro args r h
  simp only [con_fDKIM] at h
  split at h <;> (try simp at h; done)
  injection h with h; subst h
  simp -implicitDefEqProofs [c_authres_DKIMResult_format,PR.fmt,PR.val,PR.fm,pmA,qD,qI,qReason]
  exact ⟨rfl,rfl,rfl,rfl⟩
def con_fDomk:List AV→Option AV
  | [.ptr [.str v,.str r,.str d,.str f,.str s]]=>some (PR.domk v r d f s).fmt
  | _=>none
set_option maxHeartbeats 4000000 in
set_option maxRecDepth 100000 in
theorem ok_fDomk (Γ:Gam):∀ args r,con_fDomk args=some r→runs Γ c_authres_DomainKeysResult_format args (fun v=>v=r):=by
  intro args r h
  simp only [con_fDomk] at h
  split at h <;> (try simp at h; done)
  injection h with h; subst h
  simp -implicitDefEqProofs [c_authres_DomainKeysResult_format,PR.fmt,PR.val,PR.fm,pmA,qD,qFrom,qSend,qReason]
  exact ⟨rfl,rfl,rfl,rfl,rfl⟩
def con_fIprev:List AV→Option AV
  | [.ptr [.str v,.str r,.str i]]=>some (PR.iprev v r i).fmt
  | _=>none
set_option maxHeartbeats 4000000 in
set_option maxRecDepth 100000 in
theorem ok_fIprev (Γ:Gam):∀ args r,con_fIprev args=some r→runs Γ c_authres_IPRevResult_format args (fun v=>v=r):=by
  intro args r h
  simp only [con_fIprev] at h
  split at h <;> (try simp at h; done)
  injection h with h; subst h
  simp -implicitDefEqProofs [c_authres_IPRevResult_format,PR.fmt,PR.val,PR.fm,pmA,qIprev,qReason]
  exact ⟨rfl,rfl,rfl⟩
def con_fSpf:List AV→Option AV
  | [.ptr [.str v,.str r,.str f,.str h]]=>some (PR.spf v r f h).fmt
  | _=>none
set_option maxHeartbeats 4000000 in
set_option maxRecDepth 100000 in
theorem ok_fSpf (Γ:Gam):∀ args r,con_fSpf args=some r→runs Γ c_authres_SPFResult_format args (fun v=>v=r):=by
  intro args r h
  simp only [con_fSpf] at h
  split at h <;> (try simp at h; done)
  injection h with h; subst h
  simp -implicitDefEqProofs [c_authres_SPFResult_format,PR.fmt,PR.val,PR.fm,pmA,qReason,qHelo,qMail]
  exact ⟨rfl,rfl,rfl,rfl⟩
def con_fDmarc:List AV→Option AV
  | [.ptr [.str v,.str r,.str f]]=>some (PR.dmarc v r f).fmt
  | _=>none
set_option maxHeartbeats 4000000 in
set_option maxRecDepth 100000 in
theorem ok_fDmarc (Γ:Gam):∀ args r,con_fDmarc args=some r→runs Γ c_authres_DMARCResult_format args (fun v=>v=r):=by
  intro args r h
  simp only [con_fDmarc] at h
  split at h <;> (try simp at h; done)
  injection h with h; subst h
  simp -implicitDefEqProofs [c_authres_DMARCResult_format,PR.fmt,PR.val,PR.fm,pmA,qFrom,qReason]
  exact ⟨rfl,rfl,rfl⟩
def con_fSender:List AV→Option AV
  | [.ptr [.str v,.str r,.str k,.str x]]=>if k.length < mid∧ascii k=true then some (PR.sender v r k x).fmt else none
  | _=>none
set_option maxHeartbeats 4000000 in
set_option maxRecDepth 100000 in
theorem ok_fSender (Γ:Gam) (h172:Γ.fn 172=con_zzToLower):∀ args r,con_fSender args=some r→runs Γ c_authres_SenderIDResult_format args (fun v=>v=r):=by
  intro args r h
  simp only [con_fSender] at h
  split at h <;> (try simp at h; done)
  rename_i v r k x
  obtain ⟨hk,rfl⟩:=ite_some h
  have kl:con_zzToLower [.str k]=some (.str (lowS k)):=if_pos hk
  have hl:(lowS k).length=k.length:=by simp [lowS]
  have hk1:=hk.1
  simp only [mid] at hk1
  simp -implicitDefEqProofs [c_authres_SenderIDResult_format,acall,h172,kl,PR.fmt,PR.val,PR.fm,pmA,qHead,qReason]
  exact ⟨rfl,by omega,rfl,rfl⟩
def con_fGen:List AV→Option AV
  | [.ptr [.str m,.str v,.mp es]]=>some (.tup [.str v,.mp es])
  | _=>none
set_option maxHeartbeats 4000000 in
set_option maxRecDepth 100000 in
theorem ok_fGen (Γ:Gam):∀ args r,con_fGen args=some r→runs Γ c_authres_GenericResult_format args (fun v=>v=r):=by
  intro args r h
  simp only [con_fGen] at h
  split at h <;> (try simp at h; done)
  injection h with h; subst h
  simp -implicitDefEqProofs [c_authres_GenericResult_format]
def con_resultMethod:List AV→Option AV
  | [v]=>(asPR v).map fun x=>.str x.meth
  | _=>none
set_option maxHeartbeats 4000000 in
set_option maxRecDepth 100000 in
theorem ok_resultMethod (Γ:Gam):∀ args r,con_resultMethod args=some r→runs Γ c_authres_resultMethod args (fun v=>v=r):=by
  intro args r h
  simp only [con_resultMethod] at h
  split at h <;> (try simp at h; done)
  rename_i u
  simp only [Option.map_eq_some_iff] at h
  obtain ⟨x,hx,rfl⟩:=h
  rw [asPR_spec hx]
  cases x <;> simp -implicitDefEqProofs [c_authres_resultMethod,PR.av,PR.meth,sAuth,sDkim,sDomk,sIprev,sSender,sSpf,sDmarc]
def mapOf (l:List KVp):List KVp:=l.foldl (fun m p=>psetL m p.1 p.2) []
def AR.pr (r:AR):PR :=
  if r.kind=1 then .auth r.value r.reason r.auth
  else if r.kind=2 then .dkim r.value r.reason r.domain r.ident
  else if r.kind=3 then .domk r.value r.reason r.domain r.fr r.sender
  else if r.kind=4 then .iprev r.value r.reason r.ip
  else if r.kind=5 then .sender r.value r.reason r.hkey r.hval
  else if r.kind=6 then .spf r.value r.reason r.fr r.helo
  else if r.kind=7 then .dmarc r.value r.reason r.fr
  else if r.kind=8 then .arc r.value r.remote r.oldest
  else .gen r.method r.value (mapOf (r.ps.getD []))
def con_resultFor:List AV→Option AV
  | [.agg cs]=>match asAR cs with
    | some r=>if (r.ps.getD []).length < half then some r.pr.av else none
    | none=>none
  | _=>none
set_option maxHeartbeats 8000000 in
set_option maxRecDepth 100000 in
theorem ok_resultFor (Γ:Gam):∀ args r,con_resultFor args=some r→runs Γ c_impl_resultFor args (fun v=>v=r):=by
  intro args r h
  simp only [con_resultFor] at h
  split at h <;> (try simp at h; done)
  rename_i cs
  split at h <;> (try simp at h; done)
  rename_i r hr
  obtain ⟨hl,rfl⟩:=ite_some h
  rw [asAR_spec hr]
  have cu:=slP_cells r.ps
  simp only [cells] at cu
  clear h hr
  by_cases k1:r.kind=1
  · simp -implicitDefEqProofs [c_impl_resultFor,AR.cells,cu,k1,AR.pr,PR.av]
  by_cases k2:r.kind=2
  · simp -implicitDefEqProofs [c_impl_resultFor,AR.cells,cu,k2,AR.pr,PR.av]
  by_cases k3:r.kind=3
  · simp -implicitDefEqProofs [c_impl_resultFor,AR.cells,cu,k3,AR.pr,PR.av]
  by_cases k4:r.kind=4
  · simp -implicitDefEqProofs [c_impl_resultFor,AR.cells,cu,k4,AR.pr,PR.av]
  by_cases k5:r.kind=5
  · simp -implicitDefEqProofs [c_impl_resultFor,AR.cells,cu,k5,AR.pr,PR.av]
  by_cases k6:r.kind=6
  · simp -implicitDefEqProofs [c_impl_resultFor,AR.cells,cu,k6,AR.pr,PR.av]
  by_cases k7:r.kind=7
  · simp -implicitDefEqProofs [c_impl_resultFor,AR.cells,cu,k7,AR.pr,PR.av]
  by_cases k8:r.kind=8
  · simp -implicitDefEqProofs [c_impl_resultFor,AR.cells,cu,k8,AR.pr,PR.av]
  have hal:=fun hp=>slP_alen r.ps hp
  simp only [half] at hl
  simp -implicitDefEqProofs [-alen,c_impl_resultFor,AR.cells,cu,k1,k2,k3,k4,k5,k6,k7,k8,AR.pr,PR.av,hal]
  refine awp_loop2 (σ:=List KVp × List KVp) (fun q=>⟨[(1,.ref 1 0),(3,.str r.value),(4,.mref 101),(103,slP r.ps),(104,.int .i64 (r.ps.getD []).length),(105,.int .i64 q.1.length)],[(101,.mp (pmA (mapOf q.1))),(1,.cells r.cells)]⟩)
    (fun q=>r.ps.getD []=q.1++q.2) (fun q=>q.2.length) ([],r.ps.getD []) (by simp [mapOf,pmA,AR.cells]) (by simp) ?_
  rintro ⟨pre,post⟩ e LQ hLQ
  simp only at e
  cases post with
  | nil =>
    simp only [List.append_nil] at e
    rw [e] at hl ⊢
    simp -implicitDefEqProofs [-alen,b_impl_resultFor_1,t_impl_resultFor_2,AR.cells,cu]
  | cons x post =>
    have hps:r.ps=some (pre++x::post):=by
      cases hq:r.ps with
      | none=>rw [hq] at e; simp at e
      | some l=>rw [hq] at e; simp only [Option.getD_some] at e; rw [e]
    have hm:mapOf (pre++[x])=psetL (mapOf pre) x.1 x.2:=by simp [mapOf]
    have go:=fun st=>hLQ (pre++[x],post) (by rw [e]; simp) (by simp) st
    rw [e] at hl
    simp only [hm,hps,slP,AR.cells,Option.getD_some] at go
    have hlt:(pre.length:Int) < ((pre++x::post).length:Int):=by simp; omega
    have hlt':pre.length < (pre++x::post).length:=by simp
    simp only [List.length_append,List.length_cons] at hl
    have ew:IntKind.i64.wrap ((pre.length:Int)+1)=(pre.length:Int)+1:=wrap64 (by omega) (by omega)
    simp -implicitDefEqProofs [-alen,b_impl_resultFor_1,hps,slP,AR.cells,ew,mset_pmA]
    exact ⟨fun _=>go _ (by simp),fun h=>absurd h (by omega)⟩
end Wax


namespace Wax
open Go (IntKind)

def asPRl:List AV→Option (List PR)
  | []=>some []
  | v::r=>match asPR v,asPRl r with | some x,some l=>some (x::l) | _,_=>none
theorem asPRl_prsA:∀ l:List PR,asPRl (prsA l)=some l
  | []=>rfl
  | x::l=>by simp only [prsA_cons,asPRl,asPR_av,asPRl_prsA l]
theorem asPRl_spec:∀ {vs:List AV} {l:List PR},asPRl vs=some l→vs=prsA l
  | [],l,h=>by simp [asPRl] at h; subst h; rfl
  | v::r,l,h=>by
    simp only [asPRl] at h
    split at h
    · rename_i x q h1 h2
      simp only [Option.some.injEq] at h
      subst h
      rw [asPR_spec h1,asPRl_spec h2]; rfl
    · simp at h
def slPR:AV→Option (List PR)
  | .nilS=>some []
  | .sl es xs=>if es=1∧xs ≠ [] then asPRl xs else none
  | _=>none
theorem slPR_prsV (l:List PR):slPR (prsV l)=some l:=by
  cases l with
  | nil=>rfl
  | cons x l=>simp only [prsV,slPR]; rw [if_pos (by simp),asPRl_prsA]
theorem slPR_spec {v:AV} {l:List PR} (h:slPR v=some l):v=prsV l:=by
  unfold slPR at h
  split at h
  · simp only [Option.some.injEq] at h; subst h; rfl
  · rename_i es xs
    split at h
    · rename_i hc
      obtain ⟨rfl,hne⟩:=hc
      have:=asPRl_spec h
      subst this
      cases l with
      | nil=>simp at hne
      | cons x l=>rfl
    · simp at h
  · simp at h
def PR.isArc:PR→Bool
  | .arc _ _ _=>true
  | _=>false
def PR.fmOk (x:PR):Prop:=x.isArc=false∧x.fm.length < half∧(∀ p∈x.fm,ascii p.2=true∧p.2.length < qrt)∧∀ v r k y,x=.sender v r k y→k.length < mid∧ascii k=true
def fPart (x:PR):L8:=59::32::(x.meth++61::(x.val++32::fmtPs x.fm))
def fText (i:L8) (l:List PR):L8:=i++(if l=[] then [59,32,110,111,110,101] else l.flatMap fPart)
open Classical in
noncomputable def con_Format:List AV→Option AV
  | [.str i,v]=>match slPR v with
    | some l=>if l.length < half∧(∀ x∈l,x.fmOk)∧(fText i l).length < mid then some (.str (fText i l)) else none
    | none=>none
  | _=>none
theorem meth_fmt {Γ:Gam} (h251:Γ.fn 251=con_fAuth) (h252:Γ.fn 252=con_fDKIM) (h253:Γ.fn 253=con_fDomk) (h254:Γ.fn 254=con_fIprev) (h255:Γ.fn 255=con_fSender) (h256:Γ.fn 256=con_fSpf) (h257:Γ.fn 257=con_fDmarc) (h258:Γ.fn 258=con_fGen)
    (m8:Γ.mth 8 "given.example/pub-waxseal/pub/msgauth/authres.format" = some 251) (m9:Γ.mth 9 "given.example/pub-waxseal/pub/msgauth/authres.format" = some 252) (m10:Γ.mth 10 "given.example/pub-waxseal/pub/msgauth/authres.format" = some 253) (m11:Γ.mth 11 "given.example/pub-waxseal/pub/msgauth/authres.format" = some 254) (m12:Γ.mth 12 "given.example/pub-waxseal/pub/msgauth/authres.format" = some 255) (m13:Γ.mth 13 "given.example/pub-waxseal/pub/msgauth/authres.format" = some 256) (m14:Γ.mth 14 "given.example/pub-waxseal/pub/msgauth/authres.format" = some 257) (m15:Γ.mth 15 "given.example/pub-waxseal/pub/msgauth/authres.format" = some 258)
    {x:PR} (hx:x.fmOk):∃ t y n,x.av=.ifc t y∧Γ.mth t "given.example/pub-waxseal/pub/msgauth/authres.format" = some n∧Γ.fn n [y]=some (.tup [.str x.val,.mp (pmA x.fm)]):=by
  obtain ⟨h1,_,_,h4⟩:=hx
  cases x with
  | arc=>simp [PR.isArc] at h1
  | auth=>exact ⟨_,_,_,rfl,m8,by rw [h251]; rfl⟩
  | dkim=>exact ⟨_,_,_,rfl,m9,by rw [h252]; rfl⟩
  | domk=>exact ⟨_,_,_,rfl,m10,by rw [h253]; rfl⟩
  | iprev=>exact ⟨_,_,_,rfl,m11,by rw [h254]; rfl⟩
  | sender v r k y=>exact ⟨_,_,_,rfl,m12,by rw [h255]; exact if_pos (h4 v r k y rfl)⟩
  | spf=>exact ⟨_,_,_,rfl,m13,by rw [h256]; rfl⟩
  | dmarc=>exact ⟨_,_,_,rfl,m14,by rw [h257]; rfl⟩
  | gen=>exact ⟨_,_,_,rfl,m15,by rw [h258]; rfl⟩
set_option maxHeartbeats 8000000 in
set_option maxRecDepth 100000 in
theorem ok_Format (Γ:Gam) (h237:Γ.fn 237=con_resultMethod) (h238:Γ.fn 238=con_formatParams) (h251:Γ.fn 251=con_fAuth) (h252:Γ.fn 252=con_fDKIM) (h253:Γ.fn 253=con_fDomk) (h254:Γ.fn 254=con_fIprev) (h255:Γ.fn 255=con_fSender) (h256:Γ.fn 256=con_fSpf) (h257:Γ.fn 257=con_fDmarc) (h258:Γ.fn 258=con_fGen)
    (m8:Γ.mth 8 "given.example/pub-waxseal/pub/msgauth/authres.format" = some 251) (m9:Γ.mth 9 "given.example/pub-waxseal/pub/msgauth/authres.format" = some 252) (m10:Γ.mth 10 "given.example/pub-waxseal/pub/msgauth/authres.format" = some 253) (m11:Γ.mth 11 "given.example/pub-waxseal/pub/msgauth/authres.format" = some 254) (m12:Γ.mth 12 "given.example/pub-waxseal/pub/msgauth/authres.format" = some 255) (m13:Γ.mth 13 "given.example/pub-waxseal/pub/msgauth/authres.format" = some 256) (m14:Γ.mth 14 "given.example/pub-waxseal/pub/msgauth/authres.format" = some 257) (m15:Γ.mth 15 "given.example/pub-waxseal/pub/msgauth/authres.format" = some 258) :
    ∀ args r,con_Format args=some r→runs Γ c_authres_Format args (fun v=>v=r):=by
  intro args r h
  simp only [con_Format] at h
  split at h <;> (try simp at h; done)
  rename_i i v
  split at h <;> (try simp at h; done)
  rename_i l hl
  split at h <;> (try simp at h; done)
  rename_i hc
  obtain ⟨h1,h2,h3⟩:=hc
  simp only [Option.some.injEq] at h
  subst h
  rw [slPR_spec hl]
  clear hl
  simp only [mid] at h3
  cases l with
  | nil =>
    have h3':i.length+6 < 1099511627776:=by simpa [fText] using h3
    simp -implicitDefEqProofs [c_authres_Format,prsV,fText]
    omega
  | cons z zs =>
  generalize hzs:z::zs=l at *
  have hne:l ≠ []:=by rw [← hzs]; simp
  have hlen0:¬ (l.length:Int)=0:=by rw [← hzs]; simp; omega
  have hlen1:¬ l.length=0:=by rw [← hzs]; simp
  have hv:prsV l=.sl 1 (prsA l):=by rw [← hzs]; rfl
  have hF:fText i l=i++l.flatMap fPart:=by simp only [fText,if_neg hne]
  rw [hF] at h3 ⊢
  simp only [half] at h1
  rw [hv]
  simp -implicitDefEqProofs [c_authres_Format,hlen0,hlen1,hne]
  refine awp_loop2 (σ:=List PR × List PR) (fun q=>⟨[(5,.str (i++q.1.flatMap fPart)),(18,.sl 1 (prsA l)),(19,.int .i64 l.length),(20,.int .i64 q.1.length)],[]⟩)
    (fun q=>l=q.1++q.2) (fun q=>q.2.length) ([],l) (by simp) (by simp) ?_
  rintro ⟨pre,post⟩ e LQ hLQ
  simp only at e
  cases post with
  | nil =>
    simp only [List.append_nil] at e
    subst e
    simp -implicitDefEqProofs []
  | cons x post =>
    obtain ⟨t,y,n,e1,e2,e3⟩:=meth_fmt h251 h252 h253 h254 h255 h256 h257 h258 m8 m9 m10 m11 m12 m13 m14 m15 (h2 x (by rw [e]; simp))
    have hx:=h2 x (by rw [e]; simp)
    have hlen:l.length=pre.length+(post.length+1):=by rw [e]; simp
    have hlt:(pre.length:Int) < (l.length:Int):=by omega
    have hlt':pre.length < l.length:=by omega
    have g:l[pre.length]? = some x:=by rw [e]; exact get_mid rfl
    have ew:IntKind.i64.wrap ((pre.length:Int)+1)=(pre.length:Int)+1:=wrap64 (by omega) (by omega)
    have go:=fun st=>hLQ (pre++[x],post) (by rw [e]; simp) (by simp) st
    have hfl:(pre++[x]).flatMap fPart=pre.flatMap fPart++fPart x:=by simp
    rw [hfl] at go
    have hszz:(i++l.flatMap fPart).length=(i++(pre.flatMap fPart++fPart x)).length+(post.flatMap fPart).length:=by
      rw [e]; simp; omega
    rw [hszz] at h3
    simp only [List.length_append,fPart,List.length_cons] at h3
    have kr:con_resultMethod [x.av]=some (.str x.meth):=by simp only [con_resultMethod,asPR_av,Option.map]
    have kf:con_formatParams [.mp (pmA x.fm)]=some (.str (fmtPs x.fm)):=by
      simp only [con_formatParams,asPm_pmA]
      exact if_pos ⟨hx.2.1,hx.2.2.1,by simp only [mid]; omega⟩
    have ar:hasRef y=false:=by
      have:=pav_ref (x:=x)
      rw [e1] at this
      simpa [hasRef] using this
    have rv:hasRef (.tup [.str x.val,.mp (pmA x.fm)])=false:=by simp [hasRef,hasRefL]
    have g':l[pre.length]'hlt'=x:=by rw [List.getElem?_eq_getElem hlt'] at g; exact Option.some.inj g
    rw [e1] at kr
    simp -implicitDefEqProofs [hlt,hlt',g,g',e1,acall,h237,kr,e2,e3,h238,kf,ar,rv,ew]
    have hpf:(pre.flatMap fPart).length=(pre.map fun a=>(fPart a).length).sum:=by simp
    rw [hpf] at h3
    exact ⟨by omega,by omega,by omega,by omega,by omega,by omega,go _ (by simp [fPart])⟩
open Classical in
noncomputable def con_AFormat:List AV→Option AV
  | [.str i,u]=>match slAR u with
    | some l=>if l.length < half∧(∀ r∈l,(r.ps.getD []).length < half)∧(∀ r∈l,r.pr.fmOk)∧(fText i (l.map AR.pr)).length < mid then some (.str (fText i (l.map AR.pr))) else none
    | none=>none
  | _=>none
set_option maxHeartbeats 8000000 in
set_option maxRecDepth 100000 in
theorem ok_AFormat (Γ:Gam) (h235:Γ.fn 235=con_resultFor) (h236:Γ.fn 236=con_Format):∀ args r,con_AFormat args=some r→runs Γ c_impl_AFormat args (fun v=>v=r):=by
  intro args r h
  simp only [con_AFormat] at h
  split at h <;> (try simp at h; done)
  rename_i i u
  split at h <;> (try simp at h; done)
  rename_i l hl
  split at h <;> (try simp at h; done)
  rename_i hc
  obtain ⟨h1,h2,h4,h3⟩:=hc
  simp only [Option.some.injEq] at h
  subst h
  have uk:=sar_kill hl
  have us:=sar_snapW hl
  have ua:=sar_alen hl
  have kF:con_Format [.str i,prsV (l.map AR.pr)]=some (.str (fText i (l.map AR.pr))):=by
    simp only [con_Format,slPR_prsV]
    refine if_pos ⟨by simpa using h1,fun x hx=>?_,h3⟩
    simp only [List.mem_map] at hx
    obtain ⟨r,hr,rfl⟩:=hx
    exact h4 r hr
  simp only [half] at h1
  generalize fText i (l.map AR.pr)=T at *
  simp -implicitDefEqProofs [-alen,c_impl_AFormat,ua]
  refine awp_loop2 (σ:=List AR × List AR) (fun q=>⟨[(0,.str i),(5,grV 18 1 q.1.length),(8,u),(9,.int .i64 l.length),(10,.int .i64 q.1.length)],grH 18 q.1.length (prsA (q.1.map AR.pr))⟩)
    (fun q=>l=q.1++q.2) (fun q=>q.2.length) ([],l) (by simp) (by simp) ?_
  rintro ⟨pre,post⟩ e1 LQ hLQ
  simp only at e1
  cases post with
  | nil =>
    simp only [List.append_nil] at e1
    subst e1
    have hnl:¬ ((l.length:Int) < (l.length:Int)):=by omega
    cases l with
    | nil =>
      simp only [List.map_nil,prsV] at kF
      simp -implicitDefEqProofs [acall,h236,kF]
    | cons x l =>
      simp only [List.map_cons,prsV] at kF
      have tk:List.take (l.length+1) (x.pr.av::prsA (l.map AR.pr))=x.pr.av::prsA (l.map AR.pr):=List.take_of_length_le (by simp)
      simp only [prsA_cons] at kF
      simp -implicitDefEqProofs [acall,h236,kF,tk]
  | cons x post =>
    have hu:=sar_ne hl (by rw [e1]; simp)
    have hlen:l.length=pre.length+(post.length+1):=by rw [e1]; simp
    have hlt:(pre.length:Int) < (l.length:Int):=by omega
    have g:(arA l)[pre.length]? = some (.agg x.cells):=by rw [e1,arA_app]; exact get_mid (by simp)
    have ew:IntKind.i64.wrap ((pre.length:Int)+1)=(pre.length:Int)+1:=wrap64 (by omega) (by omega)
    have hx:(x.ps.getD []).length < half:=h2 x (by rw [e1]; simp)
    have kx:con_resultFor [.agg x.cells]=some x.pr.av:=by simp only [con_resultFor,asAR_cells]; exact if_pos hx
    have cu:=slP_cells x.ps
    simp only [cells] at cu
    have cx:=pav_cells (x:=x.pr)
    simp only [cells] at cx
    have go:=fun st=>hLQ (pre++[x],post) (by rw [e1]; simp) (by simp) st
    rw [hu] at go ⊢
    simp only [AR.cells] at g kx
    cases pre with
    | nil =>
      have hlt0:0 < l.length:=by omega
      have ew0:IntKind.i64.wrap 1=1:=by decide
      simp only [List.length_nil] at g
      rw [List.getElem?_eq_getElem (by simp; omega)] at g
      have g0:=Option.some.inj g
      simp -implicitDefEqProofs [-alen,hlt0,g0,ew0,cu,acall,h235,kx,cx]
      exact go _ (by simp)
    | cons y pre =>
      simp only [List.length_cons,Int.natCast_add,Int.natCast_one] at hlt g ew hlen
      have tk:List.take (pre.length+1) (y.pr.av::prsA (pre.map AR.pr))=y.pr.av::prsA (pre.map AR.pr):=List.take_of_length_le (by simp)
      simp -implicitDefEqProofs [-alen,hlt,g,ew,cu,acall,h235,kx,cx,tk]
      exact ⟨by omega,by omega,go _ (by simp)⟩
end Wax


namespace Wax
open Go (IntKind)

set_option maxRecDepth 100000 in
theorem kw_tok (c:UInt8) (h:kwB c=true):tokB c=true:=by
  have all:∀ n:Fin 256,kwB (UInt8.ofNat n.1)=true→tokB (UInt8.ofNat n.1)=true:=by decide
  have:=all ⟨c.toNat,c.toNat_lt⟩
  simp only [UInt8.ofNat_toNat] at this
  exact this h
theorem split_all {P:UInt8→Prop} {b:UInt8} (hb:P b):∀ {v:L8},(∀ p∈splitB b v,∀ x∈p,P x)→∀ x∈v,P x
  | [],_,x,hx=>by simp at hx
  | c::r,h,x,hx=>by
    simp only [splitB] at h
    split at h
    · rename_i e
      rcases List.mem_cons.1 hx with rfl | hx
      · rw [e]; exact hb
      · exact split_all hb (v:=r) (fun p hp=>h p (by simp [hp])) x hx
    · cases hs:splitB b r with
      | nil=>exact absurd hs (splitB_ne b r)
      | cons p t =>
        rw [hs] at h
        simp only at h
        rcases List.mem_cons.1 hx with rfl | hx
        · exact h (x::p) (by simp) x (by simp)
        · refine split_all hb (v:=r) ?_ x hx
          intro q hq y hy
          rw [hs] at hq
          rcases List.mem_cons.1 hq with rfl | hq
          · exact h (c::q) (by simp) y (by simp [hy])
          · exact h q (by simp [hq]) y hy
theorem plain_tk {s:L8} (h:aPlain s=true):(∀ x∈s,tkC [64] x=true)∧s ≠ []:=by
  refine ⟨?_,(aPlain_g h).2.1⟩
  have tk:∀ x,tokB x=true→tkC [64] x=true:=fun x hx=>by simp [tkC,hx]
  have tok:∀ {s:L8},mTok s=true→∀ x∈s,tkC [64] x=true:=fun hs x hx=>by
    simp only [mTok,Bool.and_eq_true] at hs
    exact tk x (List.all_eq_true.1 hs.1 x hx)
  unfold aPlain at h
  split at h
  · simp only [Bool.and_eq_true,decide_eq_true_eq] at h
    exact tok h.1
  · rename_i q hq
    simp only [Bool.and_eq_true,Bool.or_eq_true,decide_eq_true_eq] at h
    have e:=cut_mem (c:=64) hq
    rw [e]
    intro x hx
    simp only [List.mem_append,List.mem_cons] at hx
    rcases hx with hx | rfl | hx
    · rcases h.1.1 with h1 | h1
      · rw [h1] at hx; simp at hx
      · exact tok h1 x hx
    · decide
    · have hd:=h.1.2
      simp only [mDom,Bool.and_eq_true] at hd
      refine split_all (P:=fun x=>tkC [64] x=true) (b:=46) (by decide) (fun p hp x hx=>?_) x hx
      have:=List.all_eq_true.1 hd.1 p hp
      simp only [Bool.and_eq_true,mKw] at this
      exact tk x (kw_tok x (List.all_eq_true.1 this.1.1.1.1 x hx))
set_option maxRecDepth 100000 in
theorem tkC_head {x:UInt8} (h:tkC [64] x=true):ws4 x=false∧x ≠ 40∧x ≠ 34:=by
  have all:∀ n:Fin 256,tkC [64] (UInt8.ofNat n.1)=true→ws4 (UInt8.ofNat n.1)=false∧UInt8.ofNat n.1 ≠ 40∧UInt8.ofNat n.1 ≠ 34:=by decide
  have:=all ⟨x.toNat,x.toNat_lt⟩
  simp only [UInt8.ofNat_toNat] at this
  exact this h
theorem id_read {i r:L8} (hi:aPlain i=true) (hr:r.head? = some 59):bB (i++r)=some (i++r)∧rVal [64] (i++r)=(i,true,i.length)∧bB r=some r:=by
  obtain ⟨h1,h2⟩:=plain_tk hi
  cases r with
  | nil=>simp at hr
  | cons d r =>
  simp only [List.head?_cons,Option.some.injEq] at hr
  subst hr
  cases i with
  | nil=>exact absurd rfl h2
  | cons c i =>
    obtain ⟨k1,k2,k3⟩:=tkC_head (h1 c (by simp))
    have hw:rWd [64] (c::i++59::r)=c::i:=by
      have e:tkC [64] 59=false:=by decide
      rw [rWd,List.takeWhile_append_of_pos (fun x hx=>h1 x hx),List.takeWhile_cons,e]
      simp
    refine ⟨?_,?_,?_⟩
    · simp [bB,rB,List.dropWhile_cons,k1,k2]
    · simp only [rVal,List.cons_append,if_neg k3]
      rw [List.cons_append] at hw
      simp [hw]
    · have:ws4 59=false:=by decide
      simp [bB,rB,List.dropWhile_cons,this]
def sNoneT:L8:=[59,32,110,111,110,101]
theorem none_loop:aLoop 7 0 [] sNoneT=some ([],true):=by rfl
theorem none_field {i:L8} (hi:aPlain i=true):aField (i++sNoneT)=some (⟨i,[],[]⟩,true):=by
  obtain ⟨h1,h2,h3⟩:=id_read hi (r:=sNoneT) rfl
  unfold aField
  rw [h1]
  simp only [h2,Bool.true_eq_false,if_false,List.drop_left,h3]
  rw [if_pos (.inr rfl)]
  show (aLoop 7 0 [] sNoneT).map _=_
  rw [none_loop]; rfl

end Wax


