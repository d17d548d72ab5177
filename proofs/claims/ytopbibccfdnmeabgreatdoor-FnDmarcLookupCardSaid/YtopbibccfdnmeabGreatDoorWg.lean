/- The machine by which the functions are read, and what is proved of them (part 7): no premise. -/
import Derived.WideShapes
import Derived.SliceStrings
import Derived.OpenShut
import Derived.Lib.LaidTab
import Derived.Deep.SlicePairs
import Derived.ChangeArms
import Derived.Lib.SmallJoins
import Derived.ChangeSlices
import Derived.Test.YtopbibccfdnmeabGreatDoorWf
set_option linter.all false
namespace Wax
open Go (IntKind)

abbrev MT:=L8 × AV × Int
def mtLim (m:MT):Bool:=decide (m.1.length < 9223372036854775808) && (match slStrs m.2.1 with
  | some ts=>decide (ts.length < 9223372036854775808) && ts.all fun s=>decide (s.length < 9223372036854775808)
  | none=>false)
def mtFit (m:MT):Bool:=decide (m.1.length≤2147483647) && fitsB ((slStrs m.2.1).getD [])
def fits15 (l:List MT):Bool:=decide (l.length≤2147483647) && l.all mtFit
def con_zzFits16:List AV→Option AV
  | [.agg [.str d,t,.int .i64 f]]=>if mtLim (d,t,f)=true then some (.bool (mtFit (d,t,f))) else none
  | _=>none
def con_zzFits15:List AV→Option AV
  | [A]=>match mts A with
    | some l=>if l.length < 9223372036854775808∧l.all mtLim=true then some (.bool (fits15 l)) else none
    | none=>none
  | _=>none
theorem mtLim_spec {m:MT} (h:mtLim m=true):m.1.length < 9223372036854775808∧∃ ts,slStrs m.2.1=some ts∧ts.length < 9223372036854775808∧∀ s∈ts,s.length < 9223372036854775808:=by
  simp only [mtLim,Bool.and_eq_true,decide_eq_true_eq] at h
  obtain ⟨h1,h2⟩:=h
  refine ⟨h1,?_⟩
  cases hs:slStrs m.2.1 with
  | none=>rw [hs] at h2; simp at h2
  | some ts =>
    rw [hs] at h2
    simp only [Bool.and_eq_true,decide_eq_true_eq,List.all_eq_true] at h2
    exact ⟨ts,rfl,h2.1,h2.2⟩
theorem strs_flat {t:AV} {ts:List L8} (h:slStrs t=some ts):cells t=[t]∧atom t=true∧hasRef t=false∧(∀ d,kill d t=t)∧refs t=[]∧∀ hp,alen hp 1 t=some ts.length:=by
  rcases slStrs_cases h with ⟨rfl,rfl⟩ | rfl <;> simp [cells,alen]
theorem ok_zzFits16 (Γ:Gam) (h32:Γ.fn 32=con_zzFits7):∀ args r,con_zzFits16 args=some r→runs Γ c_laws_zzFits16 args (fun v=>v=r):=by
  intro args r h
  simp only [con_zzFits16] at h
  split at h <;> (try simp at h; done)
  rename_i d t f
  obtain ⟨hm,rfl⟩:=ite_some h
  clear h
  obtain ⟨h1,ts,hs,h2,h3⟩:=mtLim_spec hm
  simp only at h1 hs
  obtain ⟨c1,c2,c3,c4,c5,c6⟩:=strs_flat hs
  simp only [cells] at c1
  have k:con_zzFits7 [t]=some (.bool (fitsB ts)):=by simp only [con_zzFits7,hs]; exact if_pos ⟨h2,h3⟩
  by_cases hb:(2147483647:Int) < (d.length:Int)
  · have e:¬ d.length≤2147483647:=by omega
    simp -implicitDefEqProofs [c_laws_zzFits16,c1,c2,c3,c4,hb,mtFit,e]
  · have e:d.length≤2147483647:=by omega
    cases hf:fitsB ts with
    | true=>rw [hf] at k; simp -implicitDefEqProofs [c_laws_zzFits16,c1,c2,c3,c4,hb,mtFit,e,acall,h32,k,hs,hf]
    | false=>rw [hf] at k; simp -implicitDefEqProofs [c_laws_zzFits16,c1,c2,c3,c4,hb,mtFit,e,acall,h32,k,hs,hf]

theorem mts_flat {A:AV} {l:List MT} (h:mts A=some l):atom A=true∧cells A=[A]∧hasRef A=false∧(∀ d,kill d A=A)∧refs A=[]∧∀ hp,alen hp 1 A=some l.length:=by
  rcases mts_cases h with ⟨rfl,rfl⟩ | rfl <;> simp [cells,alen]
theorem mts_ne {A:AV} {l:List MT} (h:mts A=some l) (hn:l ≠ []):A=.sl 3 (l.map mtA):=by
  rcases mts_cases h with ⟨_,e⟩ | e
  · exact absurd e hn
  · exact e
theorem ok_zzFits15 (Γ:Gam) (h148:Γ.fn 148=con_zzFits16):∀ args r,con_zzFits15 args=some r→runs Γ c_laws_zzFits15 args (fun v=>v=r):=by
  intro args r h
  simp only [con_zzFits15] at h
  split at h <;> (try simp at h; done)
  rename_i A
  split at h <;> (try simp at h; done)
  rename_i l hl
  obtain ⟨⟨h1,h2⟩,rfl⟩:=ite_some h
  clear h
  obtain ⟨a1,a2,a3,a4,a5,a6⟩:=mts_flat hl
  by_cases hb:(2147483647:Int) < (l.length:Int)
  · have e:¬ l.length≤2147483647:=by omega
    simp -implicitDefEqProofs [-alen,c_laws_zzFits15,a6,a3,a4,hb,fits15,e]
  · have e:l.length≤2147483647:=by omega
    simp -implicitDefEqProofs [-alen,c_laws_zzFits15,a6,a3,a4,hb]
    refine awp_loop2 (σ:=List MT × List MT) (fun p=>⟨[(8,A),(9,.int .i64 l.length),(10,.int .i64 p.1.length)],[]⟩)
      (fun p=>l=p.1++p.2∧p.1.all mtFit=true) (fun p=>p.2.length) ([],l) (by simp) (by simp) ?_
    rintro ⟨pre,post⟩ ⟨e1,e2⟩ LQ hLQ
    simp only at e1 e2
    cases post with
    | nil =>
      simp only [List.append_nil] at e1
      subst e1
      have:fits15 l=true:=by simp only [fits15,e2,e]; rfl
      simp -implicitDefEqProofs [b_laws_zzFits15_1,t_laws_zzFits15_2,this]
    | cons x post =>
      have hu:=mts_ne hl (by rw [e1]; simp)
      subst hu
      have hlen:l.length=pre.length+(post.length+1):=by rw [e1]; simp
      have hlt:(pre.length:Int) < (l.length:Int):=by omega
      have ew:IntKind.i64.wrap ((pre.length:Int)+1)=(pre.length:Int)+1:=wrap64 (by omega) (by omega)
      have g:l[pre.length]? = some x:=by rw [e1]; exact get_mid rfl
      have hm:mtLim x=true:=List.all_eq_true.1 h2 x (by rw [e1]; simp)
      obtain ⟨d,t,f⟩:=x
      obtain ⟨_,ts,hs,_,_⟩:=mtLim_spec hm
      simp only at hs
      obtain ⟨c1,c2,c3,c4,c5,c6⟩:=strs_flat hs
      simp only [cells] at c1
      cases hf:mtFit (d,t,f) with
      | true =>
        simp -implicitDefEqProofs [b_laws_zzFits15_1,hlt,g,mtA,c1,c2,c3,c4,acall,h148,con_zzFits16,hm,hf,ew]
        exact hLQ (pre++[(d,t,f)],post) ⟨by rw [e1]; simp,by simp only [List.all_append,e2,List.all_cons,hf]; rfl⟩ (by simp) _ (by simp)
      | false =>
        have:fits15 l=false:=by
          have:l.all mtFit=false:=by rw [e1]; simp [hf]
          simp only [fits15,this,Bool.and_false]
        simp -implicitDefEqProofs [b_laws_zzFits15_1,hlt,g,mtA,c1,c2,c3,c4,acall,h148,con_zzFits16,hm,hf,this]
end Wax


namespace Wax
open Go (IntKind)

theorem mtFind_none {n:L8}:∀ {l:List MT},(∀ m∈l,m.1 ≠ n)→mtFind n l=.inl 2
  | [],_=>rfl
  | m::l,h=>by
    simp only [mtFind,if_neg (h m (by simp))]
    exact mtFind_none fun x hx=>h x (by simp [hx])
theorem mtFind_app {n:L8} {x:MT}:∀ {l:List MT},(∀ m∈l,m.1 ≠ n)→mtFind n (l++[x])=mtFind n [x]
  | [],_=>rfl
  | m::l,h=>by
    simp only [List.cons_append,mtFind,if_neg (h m (by simp))]
    exact mtFind_app fun x hx=>h x (by simp [hx])

set_option maxHeartbeats 2000000 in
theorem lk_loop {Γ:Gam} {Q:APost} (h112:Γ.fn 112=con_MailLower) (dom:L8) (hd:dom.length≤200) (u:AV) (hu:(∀ d,kill d u=u)∧refs u=[]∧hasRef u=false) (n:Int) (A:AV) (ms:List MT) (hA:mts A=some ms) (hlim:ms.all mtLim=true) (hms:ms.length≤5)
    (hR:Q .ret ⟨[(8,.bool true)],[]⟩)
    (hQ:(∀ m∈ms,m.1 ≠ dmP++dom)→∀ i,Q (.exit 0) ⟨[(0,.str dom),(1,u),(2,.int .u8 n),(3,A),(49,A),(50,.int .i64 ms.length),(51,.int .i64 i),(52,.bool false)],[]⟩) :
    awp Γ (.loop [0,1,2,3,49,50,51] b_laws_FnDmarcLookup_1) Q ⟨[(0,.str dom),(1,u),(2,.int .u8 n),(3,A),(49,A),(50,.int .i64 ms.length),(51,.int .i64 0)],[]⟩:=by
  obtain ⟨u1,u2,u3⟩:=hu
  obtain ⟨a1,a2,a3,a4,a5,a6⟩:=mts_flat hA
  refine awp_loop2 (σ:=List MT × List MT) (fun p=>⟨[(0,.str dom),(1,u),(2,.int .u8 n),(3,A),(49,A),(50,.int .i64 ms.length),(51,.int .i64 p.1.length)],[]⟩)
    (fun p=>ms=p.1++p.2∧∀ m∈p.1,m.1 ≠ dmP++dom) (fun p=>p.2.length) ([],ms) (by simp) (by simp) ?_
  rintro ⟨pre,post⟩ ⟨e1,e2⟩ LQ hLQ
  simp only at e1 e2
  cases post with
  | nil =>
    simp only [List.append_nil] at e1
    subst e1
    have q:=hQ e2 ms.length
    simp -implicitDefEqProofs [b_laws_FnDmarcLookup_1]
    exact q
  | cons x post =>
    have he:=mts_ne hA (by rw [e1]; simp)
    have hlen:ms.length=pre.length+(post.length+1):=by rw [e1]; simp
    have hlt:(pre.length:Int) < (ms.length:Int):=by omega
    have ew:IntKind.i64.wrap ((pre.length:Int)+1)=(pre.length:Int)+1:=wrap64 (by omega) (by omega)
    have g:ms[pre.length]? = some x:=by rw [e1]; exact get_mid rfl
    have hm:mtLim x=true:=List.all_eq_true.1 hlim x (by rw [e1]; simp)
    obtain ⟨d,t,f⟩:=x
    obtain ⟨_,ts,hs,hts,_⟩:=mtLim_spec hm
    simp only at hs
    obtain ⟨c1,c2,c3,c4,c5,c6⟩:=strs_flat hs
    simp only [cells] at c1
    have alS:∀ (hp:List (Nat × AObj)) (s:L8),alen hp 0 (.str s)=some s.length:=fun _ _=>rfl
    have hb:dom.length+7 < 4611686018427387904:=by omega
    have hb2:7+dom.length < 4611686018427387904:=by omega
    have k2:con_MailLower [.str (95::100::109::97::114::99::46::dom)]=some (.str (lowS (dmP++dom))):=if_pos (by simp [big]; omega)
    by_cases h1:(200:Int) < (d.length:Int)
    · subst he
      simp -implicitDefEqProofs [-alen,alS,b_laws_FnDmarcLookup_1,hlt,g,mtA,c1,c2,c3,c4,u1,h1]
      exact hR
    have k1:con_MailLower [.str d]=some (.str (lowS d)):=if_pos (by simp only [big]; omega)
    generalize hX:lowS (dmP++dom)=X at *
    by_cases h2:lowS d=X
    · subst he
      simp -implicitDefEqProofs [-alen,alS,b_laws_FnDmarcLookup_1,hlt,g,mtA,c1,c2,c3,c4,u1,h1,acall,h112,k1,k2,hb,hb2,h2]
      exact hR
    by_cases h3:(3:Int) < (ts.length:Int)
    · subst he
      simp -implicitDefEqProofs [-alen,alS,b_laws_FnDmarcLookup_1,hlt,g,mtA,c1,c2,c3,c4,u1,h1,acall,h112,k1,k2,hb,hb2,h2,c6,h3]
      exact hR
    have f:=fun st h=>hLQ (pre++[(d,t,f)],post) ⟨by rw [e1]; simp,by
      intro m hm
      rcases List.mem_append.1 hm with hm | hm
      · exact e2 m hm
      · simp only [List.mem_singleton] at hm; subst hm; intro e; exact h2 (by rw [← hX,← e])⟩ (by simp) st h
    subst he
    simp -implicitDefEqProofs [-alen,alS,b_laws_FnDmarcLookup_1,hlt,g,mtA,c1,c2,c3,c4,u1,h1,acall,h112,k1,k2,hb,hb2,h2,c6,h3,ew]
    exact f _ (by simp)
end Wax


namespace Wax
open Go (IntKind)

def lkEnd:SCode:=match t_laws_FnDmarcLookup_2 with
  | .seq _ (.seq _ r)=>r
  | _=>.skip
def lkMid:SCode:=match t_laws_FnDmarcLookup_2 with
  | .seq _ (.seq m _)=>m
  | _=>.skip
def lkSt (dom:L8) (n:Int) (A:AV) (nm:L8) (own:L8) (f:Int) (R:MR) (c:Int):St :=
  ⟨[(0,.str dom),(2,.int .u8 n),(3,A),(11,.ptr [.str nm,.sl 1 [.str own],.int .i64 f]),(12,.ref 12 0),(13,.int .i64 c)],[(12,.cells R.cells)]⟩

set_option maxHeartbeats 8000000 in
theorem lk_12 {Γ:Gam} {Q:APost} (h140:Γ.fn 140=con_MLookup) (dom nm own:L8) (n f:Int) (A:AV) (ms:List MT) (hA:mts A=some ms) (hms:ms.length≤5) (hall:∀ m∈ms,cells m.2.1=[m.2.1]∧atom m.2.1=true∧hasRef m.2.1=false∧(∀ d,kill d m.2.1=m.2.1)∧refs m.2.1=[])
    (R:MR) (c:Int) (hk:con_MLookup [.str dom,.sl 3 ((ms++[(nm,AV.sl 1 [.str own],f)]).map mtA)]=some (.tup [.agg R.cells,.int .i64 c]))
    (hQ:Q .normal (lkSt dom n A nm own f R c)) :
    awp Γ lkMid Q ⟨[(0,.str dom),(2,.int .u8 n),(3,A),(11,.ptr [.str nm,.sl 1 [.str own],.int .i64 f])],[]⟩:=by
  have cu:=slO_cells R.rua
  have cf:=slO_cells R.ruf
  have cn:=slO_cells R.rf
  simp only [cells] at cu cf cn
  simp only [lkMid,t_laws_FnDmarcLookup_2]
  refine awp_region_to (lkSt dom n A nm own f R c) ?_ hQ
  rcases mts_cases hA with ⟨rfl,rfl⟩ | rfl
  · simp only [MR.cells] at hk
    simp [mtA] at hk
    simp -implicitDefEqProofs [lkSt,mtA,acall,h140,hk,cu,cf,cn,MR.cells,o1,o2,just,made,refs,refsL,refsO,group]
  · clear hA
    match ms,hms with
    | [],_ =>
      simp only [MR.cells] at hk
      simp [mtA] at hk
      simp -implicitDefEqProofs [lkSt,mtA,acall,h140,hk,cu,cf,cn,MR.cells,o1,o2,just,made,refs,refsL,refsO,group]
    | [m1],_ =>
      obtain ⟨m1a,m1b,m1c,m1d,m1e⟩:=hall m1 (by simp)
      simp only [cells] at m1a
      simp only [MR.cells] at hk
      simp [mtA] at hk
      simp -implicitDefEqProofs [lkSt,mtA,acall,h140,hk,cu,cf,cn,MR.cells,o1,o2,just,made,refs,refsL,refsO,group,m1a,m1b,m1c,m1d,m1e]
    | [m1,m2],_ =>
      obtain ⟨m1a,m1b,m1c,m1d,m1e⟩:=hall m1 (by simp)
      simp only [cells] at m1a
      obtain ⟨m2a,m2b,m2c,m2d,m2e⟩:=hall m2 (by simp)
      simp only [cells] at m2a
      simp only [MR.cells] at hk
      simp [mtA] at hk
      simp -implicitDefEqProofs [lkSt,mtA,acall,h140,hk,cu,cf,cn,MR.cells,o1,o2,just,made,refs,refsL,refsO,group,m1a,m1b,m1c,m1d,m1e,m2a,m2b,m2c,m2d,m2e]
    | [m1,m2,m3],_ =>
      obtain ⟨m1a,m1b,m1c,m1d,m1e⟩:=hall m1 (by simp)
      simp only [cells] at m1a
      obtain ⟨m2a,m2b,m2c,m2d,m2e⟩:=hall m2 (by simp)
      simp only [cells] at m2a
      obtain ⟨m3a,m3b,m3c,m3d,m3e⟩:=hall m3 (by simp)
      simp only [cells] at m3a
      simp only [MR.cells] at hk
      simp [mtA] at hk
      simp -implicitDefEqProofs [lkSt,mtA,acall,h140,hk,cu,cf,cn,MR.cells,o1,o2,just,made,refs,refsL,refsO,group,m1a,m1b,m1c,m1d,m1e,m2a,m2b,m2c,m2d,m2e,m3a,m3b,m3c,m3d,m3e]
    | [m1,m2,m3,m4],_ =>
      obtain ⟨m1a,m1b,m1c,m1d,m1e⟩:=hall m1 (by simp)
      simp only [cells] at m1a
      obtain ⟨m2a,m2b,m2c,m2d,m2e⟩:=hall m2 (by simp)
      simp only [cells] at m2a
      obtain ⟨m3a,m3b,m3c,m3d,m3e⟩:=hall m3 (by simp)
      simp only [cells] at m3a
      obtain ⟨m4a,m4b,m4c,m4d,m4e⟩:=hall m4 (by simp)
      simp only [cells] at m4a
      simp only [MR.cells] at hk
      simp [mtA] at hk
      simp -implicitDefEqProofs [lkSt,mtA,acall,h140,hk,cu,cf,cn,MR.cells,o1,o2,just,made,refs,refsL,refsO,group,m1a,m1b,m1c,m1d,m1e,m2a,m2b,m2c,m2d,m2e,m3a,m3b,m3c,m3d,m3e,m4a,m4b,m4c,m4d,m4e]
    | [m1,m2,m3,m4,m5],_ =>
      obtain ⟨m1a,m1b,m1c,m1d,m1e⟩:=hall m1 (by simp)
      simp only [cells] at m1a
      obtain ⟨m2a,m2b,m2c,m2d,m2e⟩:=hall m2 (by simp)
      simp only [cells] at m2a
      obtain ⟨m3a,m3b,m3c,m3d,m3e⟩:=hall m3 (by simp)
      simp only [cells] at m3a
      obtain ⟨m4a,m4b,m4c,m4d,m4e⟩:=hall m4 (by simp)
      simp only [cells] at m4a
      obtain ⟨m5a,m5b,m5c,m5d,m5e⟩:=hall m5 (by simp)
      simp only [cells] at m5a
      simp only [MR.cells] at hk
      simp [mtA] at hk
      simp -implicitDefEqProofs [lkSt,mtA,acall,h140,hk,cu,cf,cn,MR.cells,o1,o2,just,made,refs,refsL,refsO,group,m1a,m1b,m1c,m1d,m1e,m2a,m2b,m2c,m2d,m2e,m3a,m3b,m3c,m3d,m3e,m4a,m4b,m4c,m4d,m4e,m5a,m5b,m5c,m5d,m5e]
end Wax


namespace Wax
open Go (IntKind)

set_option maxHeartbeats 4000000 in
theorem lk_end {Γ:Gam} (h140:Γ.fn 140=con_MLookup) (h133:Γ.fn 133=con_MParse) (h136:Γ.fn 136=con_MSame) (h137:Γ.fn 137=con_awake) (dom nm own:L8) (n:Nat) (hn:n < 256) (f:Nat) (hf:n % 4=f) (A:AV) (ms:List MT) (hA:mts A=some ms)
    (R:MR) (c:Int) (k13:con_MLookup [.str dom,A]=some (.tup [.agg mr0.cells,.int .i64 1]))
    (k5:con_MParse [.str own]=some (.tup [.agg R.cells,.bool true])) (k8:con_MSame [.agg R.cells,.agg R.cells]=some (.bool true))
    (R2:MR) (hR:f=0→R2=R∧c=0) (h1:f=1→c=2) (h2:f=2→c=1) (h3:f=3→c=3) :
    awp Γ lkEnd (finQ [.t 8] fun v=>v=.bool true) (lkSt dom n A nm own f R2 c):=by
  obtain ⟨a1,a2,a3,a4,a5,a6⟩:=mts_flat hA
  have cu:=slO_cells R.rua
  have cf:=slO_cells R.ruf
  have cn:=slO_cells R.rf
  have cu2:=slO_cells R2.rua
  have cf2:=slO_cells R2.ruf
  have cn2:=slO_cells R2.rf
  simp only [cells] at cu cf cn cu2 cf2 cn2
  simp only [MR.cells,mr0] at k13
  simp only [MR.cells] at k5 k8
  simp at k13
  have k6:con_awake []=some (.bool true):=rfl
  have hf4:f < 4:=by omega
  have tm:((n:Int)).tmod 4=(f:Int):=by rw [← hf]; exact (Int.ofNat_tmod n 4).symm
  have wf:IntKind.u8.wrap (f:Int)=(f:Int):=Go.IntWalk.u8_in _ ⟨by omega,by omega⟩
  have hf':f=0∨f=1∨f=2∨f=3:=by omega
  simp only [lkEnd,t_laws_FnDmarcLookup_2]
  rcases hf' with rfl | rfl | rfl | rfl
  · obtain ⟨rfl,rfl⟩:=hR rfl
    simp at tm
    simp -implicitDefEqProofs [lkSt,acall,h140,k13,a1,a3,a4,a5,tm,h133,k5,h136,k8,h137,k6,cu,cf,cn,MR.cells]
  · have:=h1 rfl; subst this
    simp at tm wf
    simp -implicitDefEqProofs [lkSt,acall,h140,k13,a1,a3,a4,a5,tm,wf,h137,k6,cu2,cf2,cn2,MR.cells]
  · have:=h2 rfl; subst this
    simp at tm wf
    simp -implicitDefEqProofs [lkSt,acall,h140,k13,a1,a3,a4,a5,tm,wf,h137,k6,cu2,cf2,cn2,MR.cells]
  · have:=h3 rfl; subst this
    simp at tm wf
    simp -implicitDefEqProofs [lkSt,acall,h140,k13,a1,a3,a4,a5,tm,wf,h137,k6,cu2,cf2,cn2,MR.cells]
theorem snapWL_mts {g:AV→AV}:∀ {ms:List MT},(∀ m∈ms,(slStrs m.2.1).isSome=true)→snapWL g (ms.map mtA)=ms.map mtA
  | [],_=>rfl
  | m::r,h=>by
    obtain ⟨ts,hs⟩:=Option.isSome_iff_exists.1 (h m (by simp))
    have e:=slf_snapW hs g
    have ih:=snapWL_mts (g:=g) (ms:=r) fun x hx=>h x (by simp [hx])
    simp only [List.map_cons,mtA] at ih ⊢
    simp [e,ih]
theorem mts_snapW {A:AV} {ms:List MT} (h:mts A=some ms) (hs:∀ m∈ms,(slStrs m.2.1).isSome=true) (g:AV→AV):snapW g A=A:=by
  rcases mts_cases h with ⟨rfl,_⟩ | rfl
  · rfl
  · simp [snapWL_mts hs]
theorem lk_own_v (l:List KVp):isV (mText [] l false)=true:=by simp [mText,headT,spAt,isV,vEq]
def con_FnDmarcLookup:List AV→Option AV
  | [.str d,u,.int .u8 n,A]=>match slPairs u,mts A with
    | some l,some ms=>if (d.length < 9223372036854775808∧l.length < 9223372036854775808)∧(0≤n∧n < 256)∧ms.length < 9223372036854775808∧ms.all mtLim=true then some (.bool true) else none
    | _,_=>none
  | _=>none

set_option maxRecDepth 100000 in
set_option maxHeartbeats 8000000 in
theorem ok_FnDmarcLookup (Γ:Gam) (h131:Γ.fn 131=con_zzFits13) (h141:Γ.fn 141=con_zzFits15) (h105:Γ.fn 105=con_MailDomain) (h112:Γ.fn 112=con_MailLower) (h132:Γ.fn 132=con_MRight) (h134:Γ.fn 134=con_MText) (h140:Γ.fn 140=con_MLookup) (h133:Γ.fn 133=con_MParse) (h136:Γ.fn 136=con_MSame) (h137:Γ.fn 137=con_awake) :
    ∀ args r,con_FnDmarcLookup args=some r→runs Γ c_laws_FnDmarcLookup args (fun v=>v=r):=by
  intro args r h
  simp only [con_FnDmarcLookup] at h
  split at h <;> (try simp at h; done)
  rename_i dom u n A
  split at h <;> (try simp at h; done)
  rename_i l ms hl hA
  obtain ⟨⟨⟨h0,h1⟩,⟨n0,n1⟩,h2,hlim⟩,rfl⟩:=ite_some h
  clear h
  obtain ⟨m,rfl⟩:∃ m:Nat,n=(m:Int):=⟨n.toNat,by omega⟩
  have hm:m < 256:=by omega
  have alS:∀ (hp:List (Nat × AObj)) (s:L8),alen hp 0 (.str s)=some s.length:=fun _ _=>rfl
  obtain ⟨a1,a2,a3,a4,a5,a6⟩:=mts_flat hA
  have tk:=tgs_kill hl
  have tr:=tgs_ref hl
  have tr2:refs u=[]:=by
    rcases slPairs_cases hl with ⟨rfl,_⟩ | rfl <;> rfl
  have k1:=k_fits hl h1
  have k15:con_zzFits15 [A]=some (.bool (fits15 ms)):=by simp only [con_zzFits15,hA]; exact if_pos ⟨h2,hlim⟩
  by_cases c1:(2147483647:Int) < (dom.length:Int)
  · simp -implicitDefEqProofs [-alen,c_laws_FnDmarcLookup,alS,c1,a3,a4,tk,tr]
  cases hb:fits13 l with
  | false =>
    rw [hb] at k1
    simp -implicitDefEqProofs [-alen,c_laws_FnDmarcLookup,alS,c1,a3,a4,tk,tr,acall,h131,k1]
  | true =>
  rw [hb] at k1
  have k2:=k_right hl hb
  cases hb5:fits15 ms with
  | false =>
    rw [hb5] at k15
    simp -implicitDefEqProofs [-alen,c_laws_FnDmarcLookup,alS,c1,a3,a4,tk,tr,acall,h131,k1,h141,k15]
  | true =>
  rw [hb5] at k15
  have k3:con_MailDomain [.str dom]=some (.bool (mDom dom)):=if_pos (by simp only [mid]; omega)
  cases hd:mDom dom with
  | false =>
    rw [hd] at k3
    simp -implicitDefEqProofs [-alen,c_laws_FnDmarcLookup,alS,c1,a3,a4,tk,tr,acall,h131,k1,h141,k15,h105,k3]
  | true =>
  rw [hd] at k3
  by_cases c4:(200:Int) < (dom.length:Int)
  · simp -implicitDefEqProofs [-alen,c_laws_FnDmarcLookup,alS,c1,a3,a4,tk,tr,acall,h131,k1,h141,k15,h105,k3,c4]
  cases hr:mRight l with
  | false =>
    rw [hr] at k2
    simp -implicitDefEqProofs [-alen,c_laws_FnDmarcLookup,alS,c1,a3,a4,tk,tr,acall,h131,k1,h141,k15,h105,k3,c4,h132,k2]
  | true =>
  rw [hr] at k2
  by_cases c5:(5:Int) < (ms.length:Int)
  · simp -implicitDefEqProofs [-alen,c_laws_FnDmarcLookup,alS,c1,a3,a4,tk,tr,acall,h131,k1,h141,k15,h105,k3,c4,h132,k2,a6,c5]
  obtain ⟨rd,z⟩:=right_rd hr
  have k4:=k_text hl nil_bytes z false
  have k5:=rd.parse z [] false
  have hov:=lk_own_v l
  have hoT:=rd.text [] false
  have hol:(mText [] l false).length < mid∧plain (mText [] l false)=true:=⟨mText_len z.n z.t,mText_plain fun t ht=>(rd.ok t ht).2⟩
  generalize mText [] l false=own at *
  have k8:=k_same (A:=recM (recOf (findP l))) (B:=recM (recOf (findP l))) (rd_short hr) (rd_short hr)
  rw [mSame_refl] at k8
  have hml:ms.length≤5:=by omega
  have hall:∀ m∈ms,cells m.2.1=[m.2.1]∧atom m.2.1=true∧hasRef m.2.1=false∧(∀ d,kill d m.2.1=m.2.1)∧refs m.2.1=[]:=by
    intro x hx
    obtain ⟨_,ts,hs,_,_⟩:=mtLim_spec (List.all_eq_true.1 hlim x hx)
    obtain ⟨q1,q2,q3,q4,q5,_⟩:=strs_flat hs
    exact ⟨q1,q2,q3,q4,q5⟩
  have hsome:∀ m∈ms,(slStrs m.2.1).isSome=true:=by
    intro x hx
    obtain ⟨_,ts,hs,_,_⟩:=mtLim_spec (List.all_eq_true.1 hlim x hx)
    rw [hs]; rfl
  have hdm:dom.length < mid:=by simp only [mid]; omega
  have mtsA_ok:mtsOk ms=true:=by
    simp only [mtsOk,Bool.and_eq_true,decide_eq_true_eq,List.all_eq_true]
    exact ⟨by simp only [mid]; omega,hsome⟩
  simp -implicitDefEqProofs [-alen,c_laws_FnDmarcLookup,alS,c1,a3,a4,tk,tr,acall,h131,k1,h141,k15,h105,k3,c4,h132,k2,a6,c5]
  refine lk_loop h112 dom (by omega) u ⟨tk,tr2,tr⟩ m A ms hA hlim hml (by simp [blockQ,thenQ]) fun hne i=>?_
  simp only [blockQ,thenQ,if_true]
  have k13:con_MLookup [.str dom,A]=some (.tup [.agg mr0.cells,.int .i64 1]):=by
    simp only [con_MLookup,hA,mtFind_none hne]
    exact if_pos ⟨hdm,mtsA_ok⟩
  obtain ⟨f,hf⟩:∃ f,m % 4=f:=⟨_,rfl⟩
  have hf4:f < 4:=by omega
  have tm:((m:Int)).tmod 4=(f:Int):=by rw [← hf]; exact (Int.ofNat_tmod m 4).symm
  have wf:IntKind.u8.wrap (f:Int)=(f:Int):=Go.IntWalk.u8_in _ ⟨by omega,by omega⟩
  have wf2:IntKind.i64.wrap (f:Int)=(f:Int):=wrap64 (by omega) (by omega)
  have hb:dom.length+7 < 4611686018427387904:=by omega
  have hb2:7+dom.length < 4611686018427387904:=by omega
  have hfind:=mtFind_app (n:=dmP++dom) (x:=(dmP++dom,AV.sl 1 [.str own],(f:Int))) hne
  have e1:mts (.sl 3 ((ms++[(dmP++dom,AV.sl 1 [.str own],(f:Int))]).map mtA))=some (ms++[(dmP++dom,AV.sl 1 [.str own],(f:Int))]):=asMts_A _
  have e2:slStrs (.sl 1 [.str own])=some [own]:=rfl
  have m2:mtsOk (ms++[(dmP++dom,AV.sl 1 [.str own],(f:Int))])=true:=by
    simp only [mtsOk,Bool.and_eq_true,decide_eq_true_eq,List.all_eq_true]
    refine ⟨by simp [mid]; omega,fun x hx=>?_⟩
    rcases List.mem_append.1 hx with hx | hx
    · exact hsome x hx
    · simp only [List.mem_singleton] at hx; subst hx; rfl
  have hlk:lkRec [own]=some (recOf (findP l)):=by simp only [lkRec,hov,if_true,hoT]
  obtain ⟨R2,c,hk,g0,g1,g2,g3⟩:∃ R2 c,con_MLookup [.str dom,.sl 3 ((ms++[(dmP++dom,AV.sl 1 [.str own],(f:Int))]).map mtA)]=some (.tup [.agg (MR.cells R2),.int .i64 c])
      ∧ (f=0→R2=recM (recOf (findP l))∧c=0)∧(f=1→c=2)∧(f=2→c=1)∧(f=3→c=3):=by
    by_cases f0:f=0
    · subst f0
      refine ⟨recM (recOf (findP l)),0,?_,fun _=>⟨rfl,rfl⟩,by omega,by omega,by omega⟩
      have e3:mtFind (dmP++dom) [(dmP++dom,AV.sl 1 [.str own],((0:Nat):Int))]=.inr (.sl 1 [.str own]):=by simp [mtFind]
      simp only [con_MLookup,e1,hfind,e3,e2,hlk]
      exact if_pos ⟨hdm,m2,by simp [mid],fun x hx=>by simp only [List.mem_singleton] at hx; subst hx; exact ⟨hol.1,fun _=>⟨hol.2,.inr ⟨_,hoT⟩⟩⟩⟩
    · have e3:mtFind (dmP++dom) [(dmP++dom,AV.sl 1 [.str own],(f:Int))]=.inl (f:Int):=by simp [mtFind,f0]
      refine ⟨mr0,if (f:Int)=1 then 2 else if (f:Int)=2 then 1 else 3,?_,fun h=>absurd h f0,fun h=>by subst h; rfl,fun h=>by subst h; rfl,fun h=>by subst h; rfl⟩
      simp only [con_MLookup,e1,hfind,e3]
      exact if_pos ⟨hdm,m2⟩
  have fin:=lk_end (Γ:=Γ) h140 h133 h136 h137 dom (dmP++dom) own m hm f hf A ms hA (recM (recOf (findP l))) c k13 k5 k8 R2 g0 g1 g2 g3
  have p12:=lk_12 (Γ:=Γ) (Q:=thenQ (awp Γ lkEnd (finQ [.t 8] fun v=>v=.bool true)) (finQ [.t 8] fun v=>v=.bool true)) h140 dom (dmP++dom) own m f A ms hA hml hall R2 c hk fin
  simp only [lkMid,lkEnd,t_laws_FnDmarcLookup_2] at p12
  simp only [t_laws_FnDmarcLookup_2,awp_seq]
  refine awp_region_to ⟨[(0,.str dom),(2,.int .u8 m),(3,A),(11,.ref 11 0)],[(11,.cells [.str (dmP++dom),.sl 1 [.str own],.int .i64 f])]⟩ ?_ ?_
  · simp -implicitDefEqProofs [-alen,hb,hb2,acall,h134,k4,tk,tr,a3,a4,tm,wf,wf2,dmP,group]
  · simp only [thenQ,awp_ghost]
    have e:gsteps [.frz 11] ⟨[(0,.str dom),(2,.int .u8 m),(3,A),(11,.ref 11 0)],[(11,.cells [.str (dmP++dom),.sl 1 [.str own],.int .i64 f])]⟩=⟨[(0,.str dom),(2,.int .u8 m),(3,A),(11,.ptr [.str (dmP++dom),.sl 1 [.str own],.int .i64 f])],[]⟩:=by
      simp -implicitDefEqProofs [a3,a4,a5,mts_snapW hA hsome]
    rw [e]
    exact p12
end Wax


namespace Wax
open Go Go.ChangeShapes Go.WideShapes Go.RowKit

section
variable {P:Program} {T:Tab} {w:World} {H:Type} {enc:TypeId × Value→H}

theorem has_block {a:Addr} {e:TypeId} {n:Nat} {r:Reach} {base:Nat} (h:w.has P r base a e n):∃ o,a=⟨a.block,o,none⟩∧a.block < w.heap.size:=by
  obtain ⟨_,h2,row,cells,h3,_⟩:=h
  refine ⟨a.off,?_,?_⟩
  · cases a; simp at h2; simp [h2]
  · rcases Nat.lt_or_ge a.block w.heap.size with h | h
    · exact h
    · simp [World.shape?,Array.getElem?_eq_none h] at h3

theorem okWide_place {t e:TypeId} {r:Reach} {base:Nat} {a:Addr} {len cap:Nat} (ht:P.underlying t=some (.slice e)) (h:Value.okWide P w r base t (.slice (some a) len cap)):∃ b o,a=⟨b,o,none⟩∧b < w.heap.size:=by
  simp only [Value.okWide,ht,Cell.okWide,Cell.ok] at h
  obtain ⟨o,h1,h2⟩:=has_block h.2.2
  exact ⟨a.block,o,h1,h2⟩

theorem repSl_of:∀ (l:List (List UInt8)) (b o:Nat),b < w.heap.size→(∀ (j:Nat) s,l[j]? = some s→w.cell? ⟨b,o+j,none⟩=some (.string ⟨s.toArray⟩))→RepSl T w (fun k=>k < w.heap.size) 1 b o (strsA l)
  | [],b,o,_,_=>by simp [strsA,RepSl]
  | s::r,b,o,hb,h=>by
    have ih:=repSl_of r b (o+1) hb (fun j s' hj=>by
      have:=h (j+1) s' (by simpa using hj)
      rwa [show o+1+j=o+(j+1) by omega])
    simp only [strsA,List.map_cons,RepSl]
    exact ⟨trivial,⟨hb,.string ⟨s.toArray⟩,by simpa using h 0 s rfl,by simp [Rep]⟩,ih⟩

end
theorem lkGl_mem:∀ {l:List (Nat × List AV)} {g:Nat} {cs:List AV},lkGl l g=some cs→(g,cs)∈l
  | [],_,_,h=>by simp [lkGl] at h
  | (i,v)::r,g,cs,h=>by
    simp only [lkGl] at h
    split at h
    · rename_i e
      simp only [beq_iff_eq] at e
      simp only [Option.some.injEq] at h
      subst e; subst h; simp
    · exact List.mem_cons_of_mem _ (lkGl_mem h)

theorem GlobOk.of {T:Tab} {w:World} {F:Frz} (h:∀ p∈T.gl,RepAt T w F p.1 0 p.2∧F p.1∧∃ vs q a,w.heap[p.1]? = some (.cells vs q a)∧vs.size=p.2.length) (hc:GcOk T w F):GlobOk T w F:=⟨fun g cs hg=>h (g,cs) (lkGl_mem hg),hc⟩
theorem var_heap {P:Program} {w:World} {n:String} {g:Nat} {cs:Array Value} (hg:P.globalNamed n=some g) (hv:w.var? P n=some cs):∃ q a,w.heap[g]? = some (.cells cs q a):=by
  simp only [World.var?,hg,Option.bind_some] at hv
  split at hv
  · rename_i cs' q a h
    injection hv with hv
    subst hv
    exact ⟨q,a,h⟩
  · simp at hv

theorem lt_of_heap {w:World} {g:Nat} {x:Obj} (h:w.heap[g]? = some x):g < w.heap.size:=by
  rcases Nat.lt_or_ge g w.heap.size with h' | h'
  · exact h'
  · rw [Array.getElem?_eq_none h'] at h; simp at h

theorem repAt_err {T:Tab} {P:Program} {w:World} {n:String} {g tp:Nat} {y:Value} (hg:P.globalNamed n=some g) (hv:w.var? P n=some #[.iface tp y]) (ht:lkN T.tys tp=some 3) :
    RepAt T w (fun b=>b < w.heap.size) g 0 [.ifc 3 .junk]∧g < w.heap.size∧∃ vs q a,w.heap[g]? = some (.cells vs q a)∧vs.size=1:=by
  obtain ⟨q,a,h⟩:=var_heap hg hv
  refine ⟨?_,lt_of_heap h,_,q,a,h,rfl⟩
  simp only [RepAt,and_true]
  exact ⟨lt_of_heap h,_,by simpa using World.var?_cell hg hv 0,tp,y,rfl,ht,trivial⟩

theorem repAt_gp {T:Tab} {P:Program} {w:World} {n:String} {g tp q:Nat} {ad:Addr} (hg:P.globalNamed n=some g) (hv:w.var? P n=some #[.iface tp (.pointer (some ad))]) (ht:lkN T.tys tp=some 3) (hb:lkA T.gb q=some ad) :
    RepAt T w (fun b=>b < w.heap.size) g 0 [.ifc 3 (.gp q)]∧g < w.heap.size∧∃ vs q a,w.heap[g]? = some (.cells vs q a)∧vs.size=1:=by
  obtain ⟨u,a,h⟩:=var_heap hg hv
  refine ⟨?_,lt_of_heap h,_,u,a,h,rfl⟩
  simp only [RepAt,and_true]
  exact ⟨lt_of_heap h,_,by simpa using World.var?_cell hg hv 0,tp,_,rfl,ht,ad,hb,rfl⟩

theorem repAt_ints {T:Tab} {w:World} {F:Frz} {g:Nat} {k:IntKind} (hF:F g):∀ (zs:List Int) (o:Nat),(∀ j z,zs[j]? = some z→w.cell? ⟨g,o+j,none⟩=some (.int k z))→RepAt T w F g o (zs.map (AV.int k))
  | [],_,_=>trivial
  | z::r,o,h=>by
    simp only [List.map_cons,RepAt]
    refine ⟨⟨hF,_,by simpa using h 0 z rfl,by simp [Rep]⟩,?_⟩
    exact repAt_ints hF r (o+1) fun j s hj=>by
      rw [show o+1+j=o+(j+1) by omega]
      exact h (j+1) s (by simpa using hj)

theorem repAt_tab {T:Tab} {P:Program} {w:World} {n:String} {g:Nat} {k:IntKind} {zs:List Int} (hg:P.globalNamed n=some g) (hv:Lib.TabIs P w n k zs) :
    RepAt T w (fun b=>b < w.heap.size) g 0 (zs.map (AV.int k))∧g < w.heap.size∧∃ vs q a,w.heap[g]? = some (.cells vs q a)∧vs.size=(zs.map (AV.int k)).length:=by
  have hv':w.var? P n=some (zs.map fun z=>Value.int k z).toArray:=hv
  obtain ⟨q,a,h⟩:=var_heap hg hv'
  refine ⟨repAt_ints (F:=fun b=>b < w.heap.size) (lt_of_heap h) zs 0 fun j z hj=>?_,lt_of_heap h,_,q,a,h,by simp⟩
  have hc:=World.var?_cell hg hv' j
  rw [Nat.zero_add,hc]
  simp [hj]

end Wax


namespace Wax
open Go Go.ChangeShapes Go.WideShapes Go.RowKit Go.Joins Go.Deep

section
variable {P:Program} {T:Tab} {w:World} {H:Type} {enc:TypeId × Value→H}

theorem repSl_pairs {F:Frz} {b:Nat} (hF:F b):∀ (l:List (List UInt8 × List UInt8)) (o:Nat),(∀ (j:Nat) p,l[j]? = some p→w.cell? ⟨b,o+j * 2,none⟩=some (.string ⟨p.1.toArray⟩)∧w.cell? ⟨b,o+j * 2+1,none⟩=some (.string ⟨p.2.toArray⟩))→RepSl T w F 2 b o (pr2 l)
  | [],_,_=>trivial
  | p::r,o,h=>by
    have h0:=h 0 p rfl
    simp only [Nat.zero_mul,Nat.add_zero] at h0
    simp only [pr2_cons,RepSl,RepAt,and_true]
    refine ⟨rfl,⟨⟨hF,_,h0.1,by simp [Rep]⟩,hF,_,h0.2,by simp [Rep]⟩,?_⟩
    exact repSl_pairs hF r (o+2) fun j q hj=>by
      have:=h (j+1) q (by simpa using hj)
      rwa [show o+(j+1) * 2=o+2+j * 2 by omega] at this

def strOf:Value→List UInt8
  | .string s=>s.data.toList
  | _=>[]

theorem open_pairs {t e:TypeId} {f0 f1:Field} {base:Nat} {v:Value} {d:DataW H} {ps:List MemPlace} (ht:P.underlying t=some (.slice e)) (he:P.underlying e=some (.struct #[f0,f1]))
    (ce:P.cellsOf e=2) (o0:f0.offset=0) (o1:f1.offset=1) (c0:P.cellsOf f0.type=1) (c1:P.cellsOf f1.type=1) (s0:P.underlying f0.type=some .string) (s1:P.underlying f1.type=some .string)
    (hval:Value.okWide P w .any base t v) (h:DataW.Trod enc P w 0 (fun _=>true) true t v d ps) :
    ∃ (x:AV) (l:List (List UInt8 × List UInt8)),slPairs x=some l∧Rep T w (fun k=>k < w.heap.size) noRho x v∧l.length < 9223372036854775808:=by
  obtain ⟨a0,len0,cap0,rfl⟩:=okWide_slice ht hval
  obtain ⟨fuel,hf⟩:=h
  rcases Go.Deep.open_slice_pairs ht he ce o0 o1 c0 c1 hf with ⟨hcs,_⟩ | ⟨a,len,cap,m,n,V0,V1,D0,D1,P0,P1,hcs,_,hl,hm,hmm,_,hcell⟩
  · simp [Value.cells] at hcs
    obtain ⟨rfl,rfl,rfl⟩:=hcs
    exact ⟨.nilS,[],rfl,by simp [Rep],by simp⟩
  · simp [Value.cells] at hcs
    obtain ⟨rfl,rfl,rfl⟩:=hcs
    obtain ⟨b,o,rfl,hb⟩:=okWide_place ht hval
    simp only [if_true] at hmm
    obtain ⟨l,hl'⟩:∃ l:List (List UInt8 × List UInt8),l=(List.range len0).map fun i=>(strOf (V0 i),strOf (V1 i)):=⟨_,rfl⟩
    have hll:l.length=len0:=by rw [hl']; simp
    have h1:cap0≤9223372036854775807:=hm
    refine ⟨.sl 2 (pr2 l),l,by simp [slPairs,asPairs_pr2],?_,by omega⟩
    simp only [Rep]
    refine .inl ⟨b,o,cap0,?_,?_,?_⟩
    · simp [pr2,hll]
    · simp [pr2,hll]; exact hl
    · refine repSl_pairs (F:=fun k=>k < w.heap.size) hb l o ?_
      intro j p hj
      have hjl:j < len0:=by
        rcases Nat.lt_or_ge j l.length with h | h
        · omega
        · simp [List.getElem?_eq_none h] at hj
      obtain ⟨g0,g1,r0,r1⟩:=hcell j (by omega)
      rw [addr_add] at g0
      have e1:((⟨b,o,none⟩:Addr).add (j * 2+1))=⟨b,o+(j * 2+1),none⟩:=addr_add _ _ _
      rw [e1,← Nat.add_assoc] at g1
      rw [hl',List.getElem?_map,List.getElem?_range hjl] at hj
      simp only [Option.map_some,Option.some.injEq] at hj
      subst hj
      rw [g0,g1]
      obtain ⟨t0,q0,_,_⟩:=DataW.trod_string s0 r0
      obtain ⟨t1,q1,_,_⟩:=DataW.trod_string s1 r1
      injection q0 with q0
      injection q1 with q1
      rw [q0,q1]
      exact ⟨rfl,rfl⟩

end
end Wax


namespace Wax
open Go Go.ChangeShapes Go.WideShapes Go.RowKit

section
variable {P:Program} {T:Tab} {w:World} {H:Type} {enc:TypeId × Value→H}

theorem u8_has {n:Int} (h:(Lit.int .u8 n).wf=true):0≤n∧n < 256:=by
  simp only [Lit.wf] at h
  have:0≤n∧n≤255:=by simpa [IntKind.min,IntKind.max,IntKind.bits,IntKind.signed] using h
  omega

end
end Wax


namespace Wax
open Go Go.ChangeShapes Go.WideShapes Go.RowKit Go.Joins Go.Deep

section
variable {P:Program} {T:Tab} {w:World} {H:Type} {enc:TypeId × Value→H}

theorem addr_eta1 {a:Addr} (h:a.spot=none):a=⟨a.block,a.off,none⟩:=by cases a; simp_all
theorem cell_spot1 {a:Addr} {v:Value} (h:w.cell? a=some v):a.spot=none∧a.block < w.heap.size:=by
  unfold World.cell? at h
  split at h
  · rename_i c t f hh
    split at h
    · simp at h
    · rename_i hs
      refine ⟨by simpa using hs,?_⟩
      rcases Nat.lt_or_ge a.block w.heap.size with h1 | h1
      · exact h1
      · rw [Array.getElem?_eq_none h1] at hh; simp at hh
  · simp at h
theorem trod_strs {t e:TypeId} {n:Nat} {v:Value} {y:DataW H × List MemPlace} (ht:P.underlying t=some (.slice e)) (he:P.underlying e=some .string) (hc:P.cellsOf e=1)
    (h:DataW.trod enc P w 0 (fun _=>true) true n t [v]=some y) :
    ∃ (x:AV) (l:List (List UInt8)),slStrs x=some l∧Rep T w (fun k=>k < w.heap.size) noRho x v∧l.length < 9223372036854775808∧∀ s∈l,s.length < 9223372036854775808:=by
  rcases open_strings ht he hc h with ⟨hcs,_⟩ | ⟨a,len,cap,ss,hcs,_,hl,hm,hsl,_,hcell,hsz⟩
  · simp at hcs
    subst hcs
    exact ⟨.nilS,[],rfl,by simp [Rep],by simp,by simp⟩
  · simp at hcs
    subst hcs
    simp only [if_true] at hsl
    have h1:cap≤9223372036854775807:=hm
    by_cases h0:len=0
    · subst h0
      refine ⟨.sl 1 (strsA []),[],by simp [slStrs,asStrs],?_,by simp,by simp⟩
      simp only [Rep]
      exact .inr ⟨by simp,a,cap,rfl⟩
    · have g0:=hcell 0 (by omega)
      have ea:a.add 0=a:=by simp [Addr.add]
      rw [ea] at g0
      obtain ⟨hs,hb⟩:=cell_spot1 g0
      rw [addr_eta1 hs] at hcell ⊢
      generalize a.block=b at *
      generalize a.off=o at *
      obtain ⟨l,hl'⟩:∃ l:List (List UInt8),l=(ss.take len).map (·.data.toList):=⟨_,rfl⟩
      have hll:l.length=len:=by rw [hl',List.length_map,List.length_take]; omega
      refine ⟨.sl 1 (strsA l),l,by simp [slStrs],?_,by omega,?_⟩
      · simp only [Rep]
        refine .inl ⟨b,o,cap,?_,?_,?_⟩
        · simp [hll]
        · simp [hll]; exact hl
        · refine repSl_of l b o hb ?_
          intro j s hj
          have hjl:j < l.length:=by
            rcases Nat.lt_or_ge j l.length with h | h
            · exact h
            · simp [List.getElem?_eq_none h] at hj
          have hjs:j < ss.length:=by omega
          have:=hcell j hjs
          rw [addr_add] at this
          rw [this]
          rw [hl',List.getElem?_map,List.getElem?_take_of_lt (by omega),List.getElem?_eq_getElem hjs] at hj
          simp at hj
          rw [List.getD_eq_getElem?_getD,List.getElem?_eq_getElem hjs]
          simp [← hj]
      · intro s hs
        rw [hl'] at hs
        obtain ⟨q,hq,rfl⟩:=List.mem_map.1 hs
        have h1:q.size≤9223372036854775807:=hsz q (List.mem_of_mem_take hq)
        have h2:q.data.toList.length=q.size:=by simp
        omega

theorem list3 {α:Type} {l:List α} (h:l.length=3):∃ a b c,l=[a,b,c]:=by
  match l,h with
  | [a,b,c],_=>exact ⟨a,b,c,rfl⟩
theorem trod_mt {e tS ts:TypeId} {fs:Array Field} {n:Nat} {cs:List Value} {y:DataW H × List MemPlace} (he:P.underlying e=some (.struct fs)) (ce:P.cellsOf e=3)
    (hfs:(fs.toList.map fun f=>(f.offset,P.cellsOf f.type,P.underlying f.type))=[(0,1,some .string),(1,1,some (.slice ts)),(2,1,some (.int .i64))])
    (hs:P.underlying ts=some .string) (hc:P.cellsOf ts=1)
    (h:DataW.trod enc P w 0 (fun _=>true) true n e cs=some y) :
    ∃ m:MT,RepL T w (fun k=>k < w.heap.size) noRho [.str m.1,m.2.1,.int .i64 m.2.2] cs∧mtLim m=true:=by
  obtain ⟨xs,k,_,rfl,hcl,hxl,hf⟩:=DataW.trod_struct he h
  rw [ce] at hcl
  obtain ⟨g⟩:=fs
  have hgl:g.length=3:=by have:=congrArg List.length hfs; simpa using this
  obtain ⟨a0,a1,a2,rfl⟩:=list3 hgl
  obtain ⟨y0,y1,y2,rfl⟩:=list3 (hxl.trans (by simp))
  obtain ⟨v0,v1,v2,rfl⟩:=list3 hcl
  simp only [List.map_cons,List.map_nil,List.cons.injEq,Prod.mk.injEq,and_true] at hfs
  obtain ⟨⟨p0,q0,u0⟩,⟨p1,q1,u1⟩,p2,q2,u2⟩:=hfs
  have F:∀ (i:Nat) (f:Field) (v:Value) (z:DataW H × List MemPlace),[a0,a1,a2][i]? = some f→f.offset=i→P.cellsOf f.type=1→([v0,v1,v2].drop i).take 1=[v]→[y0,y1,y2][i]? = some z→DataW.trod enc P w 0 (fun _=>true) true k f.type [v]=some z:=by
    intro i f v z h1 h2 h3 h4 h5
    have:=hf i f (by simpa using h1)
    rw [h2,h3,h4,h5] at this
    exact this
  obtain ⟨t0,e0,d0,l0⟩:=DataW.trod_string u0 (F 0 a0 v0 y0 rfl p0 q0 rfl rfl)
  obtain ⟨x,l,hx,rx,lx,sx⟩:=trod_strs (T:=T) u1 hs hc (F 1 a1 v1 y1 rfl p1 q1 rfl rfl)
  obtain ⟨n2,e2,d2,_⟩:=DataW.trod_int u2 (F 2 a2 v2 y2 rfl p2 q2 rfl rfl)
  simp only [List.cons.injEq,and_true] at e0 e2
  subst e0 e2
  refine ⟨(t0.data.toList,x,n2),?_,?_⟩
  · simp [RepL,Rep,rx]
  · have z:t0.size≤9223372036854775807:=l0
    have z2:t0.data.toList.length=t0.size:=by simp
    simp only [mtLim,hx,Bool.and_eq_true,decide_eq_true_eq,List.all_eq_true]
    exact ⟨by omega,lx,fun s h=>by simpa using sx s h⟩

theorem repSl_mts {b:Nat} (hb:b < w.heap.size):∀ (l:List MT) (o:Nat),(∀ (j:Nat) m,l[j]? = some m→∃ cs:List Value,(∀ k c,cs[k]? = some c→w.cell? ⟨b,o+j * 3+k,none⟩=some c)∧RepL T w (fun k=>k < w.heap.size) noRho [.str m.1,m.2.1,.int .i64 m.2.2] cs)→RepSl T w (fun k=>k < w.heap.size) 3 b o (l.map mtA)
  | [],_,_=>trivial
  | r::l,o,h=>by
    obtain ⟨cs,h1,h2⟩:=h 0 r rfl
    simp only [List.map_cons,mtA,RepSl]
    refine ⟨rfl,?_,?_⟩
    · have:=repAt_of (s:=fun x=>x) (T:=T) (w:=w) (F:=fun k=>k < w.heap.size) (ρ:=noRho) (G:=fun k=>k < w.heap.size) (b:=b) (cs:=[.str r.1,r.2.1,.int .i64 r.2.2]) (us:=cs) (off:=o) (fun x v h=>h) hb (fun k c hk=>by
        have:=h1 k c hk
        simpa using this) h2
      simpa using this
    · have:=repSl_mts hb l (o+3) fun j q hj=>by
        obtain ⟨cs,h1,h2⟩:=h (j+1) q (by simpa using hj)
        refine ⟨cs,fun k c hk=>?_,h2⟩
        have:=h1 k c hk
        rwa [show o+(j+1) * 3+k=o+3+j * 3+k by omega] at this
      exact this

theorem open_mts {t e ts:TypeId} {fs:Array Field} {base:Nat} {v:Value} {d:DataW H} {ps:List MemPlace} (ht:P.underlying t=some (.slice e)) (he:P.underlying e=some (.struct fs)) (ce:P.cellsOf e=3)
    (hfs:(fs.toList.map fun f=>(f.offset,P.cellsOf f.type,P.underlying f.type))=[(0,1,some .string),(1,1,some (.slice ts)),(2,1,some (.int .i64))])
    (hs:P.underlying ts=some .string) (hc:P.cellsOf ts=1)
    (hval:Value.okWide P w .any base t v) (h:DataW.Trod enc P w 0 (fun _=>true) true t v d ps) :
    ∃ (x:AV) (l:List MT),mts x=some l∧Rep T w (fun k=>k < w.heap.size) noRho x v∧l.length < 9223372036854775808∧l.all mtLim=true:=by
  obtain ⟨a0,len0,cap0,rfl⟩:=okWide_slice ht hval
  obtain ⟨fuel,hf⟩:=h
  rcases Go.Deep.open_slice ht hf with ⟨hcs,_⟩ | ⟨a,len,cap,m,n,D,Pl,hcs,_,hl,hm,hmm,hx,hcell⟩
  · simp [Value.cells] at hcs
    obtain ⟨rfl,rfl,rfl⟩:=hcs
    exact ⟨.nilS,[],rfl,by simp [Rep],by simp,by simp⟩
  · simp [Value.cells] at hcs
    obtain ⟨rfl,rfl,rfl⟩:=hcs
    obtain ⟨b,o,rfl,hb⟩:=okWide_place ht hval
    simp only [if_true] at hmm
    have h1:cap0≤9223372036854775807:=hm
    have each:∀ i,i < m→∃ r:MT,(∃ cs:List Value,(∀ k c,cs[k]? = some c→w.cell? ⟨b,o+i * 3+k,none⟩=some c)∧RepL T w (fun k=>k < w.heap.size) noRho [.str r.1,r.2.1,.int .i64 r.2.2] cs)∧mtLim r=true:=by
      intro i hi
      obtain ⟨cs',g1,g2⟩:=hcell i hi
      rw [ce] at g1
      obtain ⟨_,hlen,hce⟩:=World.cells?_some g1
      obtain ⟨r,r1,r2⟩:=trod_mt (T:=T) (tS:=t) he ce hfs hs hc g2
      refine ⟨r,⟨cs',fun k c hk=>?_,r1⟩,r2⟩
      have hk':k < 3:=by
        rcases Nat.lt_or_ge k cs'.length with h | h
        · omega
        · simp [List.getElem?_eq_none h] at hk
      have:=hce k hk'
      rw [hk,addr_add,addr_add] at this
      exact this
    let f:Nat→MT:=fun i=>if h:i < m then Classical.choose (each i h) else ([],.nilS,0)
    have hfi:∀ i,i < m→(∃ cs:List Value,(∀ k c,cs[k]? = some c→w.cell? ⟨b,o+i * 3+k,none⟩=some c)∧RepL T w (fun k=>k < w.heap.size) noRho [.str (f i).1,(f i).2.1,.int .i64 (f i).2.2] cs)∧mtLim (f i)=true:=by
      intro i hi
      have e:f i=Classical.choose (each i hi):=dif_pos hi
      rw [e]; exact Classical.choose_spec (each i hi)
    obtain ⟨l,hl'⟩:∃ l:List MT,l=(List.range len0).map f:=⟨_,rfl⟩
    have hll:l.length=len0:=by rw [hl']; simp
    refine ⟨.sl 3 (l.map mtA),l,asMts_A l,?_,by omega,?_⟩
    · simp only [Rep]
      refine .inl ⟨b,o,cap0,?_,?_,?_⟩
      · simp [hll]
      · simp [hll]; exact hl
      · refine repSl_mts hb l o fun j r hj=>?_
        have hjl:j < len0:=by
          rcases Nat.lt_or_ge j l.length with h | h
          · omega
          · simp [List.getElem?_eq_none h] at hj
        rw [hl',List.getElem?_map,List.getElem?_range hjl] at hj
        simp only [Option.map_some,Option.some.injEq] at hj
        subst hj
        exact (hfi j (by omega)).1
    · rw [List.all_eq_true]
      intro r hr
      rw [hl'] at hr
      obtain ⟨i,hi,rfl⟩:=List.mem_map.1 hr
      exact (hfi i (by have:=List.mem_range.1 hi; omega)).2
end
theorem gcOk_one {T:Tab} {w:World} {a:Addr} {s:ByteArray} {c:Array Value} {t:TypeId} (hT:T.gc=gcA) (hb:lkA T.gb 2=some a) (hc:w.cell? a=some (.string s))
    (hs:s.data.toList=[100,109,97,114,99,58,32,110,111,32,112,111,108,105,99,121,32,102,111,117,110,100,32,102,111,114,32,100,111,109,97,105,110])
    (hh:w.heap[a.block]? = some (.cells c t (0,0))):GcOk T w (fun b=>b < w.heap.size):=by
  intro q x hq
  rw [hT] at hq
  simp only [gcA,lkC] at hq
  split at hq
  · rename_i e
    simp only [Option.some.injEq] at hq
    subst e; subst hq
    refine ⟨a,hb,lt_of_heap hh,?_,c,t,hh,?_⟩
    · rw [hc,← hs]
    · intro e
      unfold World.cell? at hc
      rw [hh] at hc
      simp only at hc
      split at hc
      · simp at hc
      · rw [Array.getElem?_eq_none (by omega)] at hc; simp at hc
  · simp at hq
end Wax


